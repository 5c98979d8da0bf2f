import JvmDerived
import JvmDerived.Pilot.@@N@@Statement
import JvmDerived.Pilot.@@N@@Code
set_option linter.unusedVariables false
set_option linter.unusedSimpArgs false
namespace Jvm.RoadKit
open Sem ClassFile Op Lib Jvm.Stand Jvm.Free Jvm.LawKit
section New
variable {p : Program} {l : Launch} {e : Env} {R : Room} {s : State} {m : MethodId} {args : Array Value} {below : List Frame} {meth : Method} {c : Code} {T : State} {locs : List Loc} {cells slots : Nat}
theorem retI (X : Stand p l e R s m args below meth c T locs cells slots) (hx : p.tables.exec = Jvm.exec) {pc : Nat} {Ls : Array Slot} {z : Int32} {rest : List Value} (hret : meth.sig.returnType = some .int) (hd : decode c.code pc = .ok (.ireturn, 1)) {fs : List Frame}
    (hl : ∀ (f : JFrame) (acts : List Action), f.method = m → f.locked = none → f.entered = [] → (doReturn e (T.setTop f) acts (some (.int z))).1 = T.setFrames fs) : Steps p.tables e below (T.setTop (mkF m pc Ls (.int z :: rest))) (T.setFrames fs) := by
  have hm' : T.vm.method? m = some meth := X.method'
  have hn : narrow .int (.int z) = .int z := rfl
  show Steps p.tables e below (T.setTop { method := m, pc := pc, locals := Ls, stack := _ :: rest, locked := none }) _
  jvm_step X.here [X.here.top, hx, hd, hm', hret, hn]
  first | (intro acts; rw [hl _ acts rfl rfl rfl]) | rw [hl _ _ rfl rfl rfl]
  exact Steps.refl _
end New
end Jvm.RoadKit
namespace Jvm.Pilot.@@N@@
open Jvm Jvm.ClassFile Sem Op Lib Jvm.Free Jvm.Stand Jvm.LawKit Jvm.RoadKit Bundle Jvm.Pilot.@@N@@.Jvm.D
theorem d1_0 : decode prog_92_method_2_code 0 = .ok (.iload_n 0, 1) := by decide +kernel
theorem d1_1 : decode prog_92_method_2_code 1 = .ok (.bipush 9, 2) := by decide +kernel
theorem d1_3 : decode prog_92_method_2_code 3 = .ok (.if_icmp .eq 51, 3) := by decide +kernel
theorem d1_6 : decode prog_92_method_2_code 6 = .ok (.iload_n 0, 1) := by decide +kernel
theorem d1_7 : decode prog_92_method_2_code 7 = .ok (.bipush 10, 2) := by decide +kernel
theorem d1_9 : decode prog_92_method_2_code 9 = .ok (.if_icmp .eq 45, 3) := by decide +kernel
theorem d1_12 : decode prog_92_method_2_code 12 = .ok (.iload_n 0, 1) := by decide +kernel
theorem d1_13 : decode prog_92_method_2_code 13 = .ok (.bipush 13, 2) := by decide +kernel
theorem d1_15 : decode prog_92_method_2_code 15 = .ok (.if_icmp .eq 39, 3) := by decide +kernel
theorem d1_18 : decode prog_92_method_2_code 18 = .ok (.iload_n 0, 1) := by decide +kernel
theorem d1_19 : decode prog_92_method_2_code 19 = .ok (.bipush 32, 2) := by decide +kernel
theorem d1_21 : decode prog_92_method_2_code 21 = .ok (.if_icmp .lt 9, 3) := by decide +kernel
theorem d1_24 : decode prog_92_method_2_code 24 = .ok (.iload_n 0, 1) := by decide +kernel
theorem d1_25 : decode prog_92_method_2_code 25 = .ok (.ldc 7, 2) := by decide +kernel
theorem d1_27 : decode prog_92_method_2_code 27 = .ok (.if_icmp .le 27, 3) := by decide +kernel
theorem d1_30 : decode prog_92_method_2_code 30 = .ok (.iload_n 0, 1) := by decide +kernel
theorem d1_31 : decode prog_92_method_2_code 31 = .ok (.ldc 8, 2) := by decide +kernel
theorem d1_33 : decode prog_92_method_2_code 33 = .ok (.if_icmp .lt 9, 3) := by decide +kernel
theorem d1_36 : decode prog_92_method_2_code 36 = .ok (.iload_n 0, 1) := by decide +kernel
theorem d1_37 : decode prog_92_method_2_code 37 = .ok (.ldc 9, 2) := by decide +kernel
theorem d1_39 : decode prog_92_method_2_code 39 = .ok (.if_icmp .le 15, 3) := by decide +kernel
theorem d1_42 : decode prog_92_method_2_code 42 = .ok (.iload_n 0, 1) := by decide +kernel
theorem d1_43 : decode prog_92_method_2_code 43 = .ok (.ldc 10, 2) := by decide +kernel
theorem d1_45 : decode prog_92_method_2_code 45 = .ok (.if_icmp .lt 13, 3) := by decide +kernel
theorem d1_48 : decode prog_92_method_2_code 48 = .ok (.iload_n 0, 1) := by decide +kernel
theorem d1_49 : decode prog_92_method_2_code 49 = .ok (.ldc 11, 2) := by decide +kernel
theorem d1_51 : decode prog_92_method_2_code 51 = .ok (.if_icmp .gt 7, 3) := by decide +kernel
theorem d1_54 : decode prog_92_method_2_code 54 = .ok (.iconst 1, 1) := by decide +kernel
theorem d1_55 : decode prog_92_method_2_code 55 = .ok (.goto 4, 3) := by decide +kernel
theorem d1_58 : decode prog_92_method_2_code 58 = .ok (.iconst 0, 1) := by decide +kernel
theorem d1_59 : decode prog_92_method_2_code 59 = .ok (.ireturn, 1) := by decide +kernel
theorem pn_1 : plainName "com/example/exqel/exqel/value/XmlChars" = true := by first | (simp [plainName, overriddenIn]; done) | decide +kernel
theorem ef_1 (m : MethodId) (x0 : Int32) : entryFrame m #[(.int x0)] 1 = mkF m 0 #[.val (.int x0)] [] := by first | (simp [entryFrame, mkF, argsToLocals, Value.category]; done) | rfl
def own_f1_58 (p1 : Int32) : Int32 := (0 : Int32)
def own_f1_54 (p1 : Int32) : Int32 := (1 : Int32)
def own_f1_48 (p1 : Int32) : Int32 := if (1114111 : Int32) < p1 then own_f1_58 p1 else own_f1_54 p1
def own_f1_42 (p1 : Int32) : Int32 := if p1 < (65536 : Int32) then own_f1_58 p1 else own_f1_48 p1
def own_f1_36 (p1 : Int32) : Int32 := if (65533 : Int32) < p1 then own_f1_42 p1 else own_f1_54 p1
def own_f1_30 (p1 : Int32) : Int32 := if p1 < (57344 : Int32) then own_f1_42 p1 else own_f1_36 p1
def own_f1_24 (p1 : Int32) : Int32 := if (55295 : Int32) < p1 then own_f1_30 p1 else own_f1_54 p1
def own_f1_18 (p1 : Int32) : Int32 := if p1 < (32 : Int32) then own_f1_30 p1 else own_f1_24 p1
def own_f1_12 (p1 : Int32) : Int32 := if p1 = (13 : Int32) then own_f1_54 p1 else own_f1_18 p1
def own_f1_6 (p1 : Int32) : Int32 := if p1 = (10 : Int32) then own_f1_54 p1 else own_f1_12 p1
def own_f1_0 (p1 : Int32) : Int32 := if p1 = (9 : Int32) then own_f1_54 p1 else own_f1_6 p1
def Q1 (Z : State) (p1 : Int32) (h0 : Heap) (n0 : Nat) (v : Option Value) (h : Heap) (L : List Loc) : Prop := v = some (.int (own_f1_0 p1)) ∧ Fr n0 L ∧ h = h0
set_option maxRecDepth 65536 in
set_option maxHeartbeats 40000000 in
theorem rm1 (l : Launch) (Z : State) (a0 : Array Value) (hw : ∀ d ∈ tables_1, d.before a0 Z = true) (ws : List Jvm.Cond) (p1 : Int32) (h0 : Heap) (n0 : Nat) (Z0 : n0 ≤ h0.size) :
    MetFree l (⟨"com/example/exqel/exqel/value/XmlChars", "isChar", "(I)Z"⟩ : MethodName) (head1 (Jvm.Cond.code (⟨"com/example/exqel/exqel/value/XmlChars", "isChar", "(I)Z"⟩ : MethodName) prog_92_method_2_code 1 (some .boolean) :: ws) ({ frames := 0, cells := 0, slots := 0, locals := 0 } : Room)) (fun a U => a = #[(.int p1)] ∧ Z.Warmed39 U.vm ∧ U.heap = h0) (fun _ _ _ _ _ => True) (fun _ U o U' => ∃ v L, o = .returned v ∧ Q1 Z p1 h0 n0 v U'.heap L ∧ FrameEnd U o U' L ({ frames := 0, cells := 0, slots := 0, locals := 0 } : Room).cells ({ frames := 0, cells := 0, slots := 0, locals := 0 } : Room).slots) := by
  refine MetFree.of_bodySF (plainFor_of_name pn_1) hisR ?_
  intro p e s m args below meth c s₁ Bd hml0 hP hK
  obtain ⟨rfl, hZ, hh⟩ := hP
  have hx := Bd.exec
  have hby := Bd.bytes
  have hown : s.vm.findClass "com/example/exqel/exqel/value/XmlChars" = some m.cls := findClass_of_methodNamed Bd.named
  have X0 : Stand p l e ({ frames := 0, cells := 0, slots := 0, locals := 0 } : Room) s m #[(.int p1)] below meth c s₁ [] 0 0 := Stand.of_body Bd
  have e0 : s₁.heap = h0 := by rw [← hh, Bd.state]; rfl
  have N0 := Fr.nil n0
  have pre0 : ∀ t, Steps p.tables e below (s₁.setTop (mkF m 0 #[.val (.int p1)] [])) t → Steps p.tables e below (s₁.setTop (entryFrame m #[(.int p1)] 1)) t := fun t k => castTop (ef_1 m p1) k
  obtain ⟨R, hR0⟩ : ∃ R : Int32, R = own_f1_0 p1 := ⟨_, rfl⟩
  obtain ⟨fs, hr, hrun, hended, hW, hsame⟩ := X0.leave (v := some (.int R)) (fun h => by rw [Bd.returns] at h; cases h)
  refine ⟨_, _, pre0 _ ?_, hrun, hended, _, _, rfl, ?_, ⟨_, rfl⟩, hW, hsame.mono (by decide) (by decide)⟩
  · have J58 : own_f1_58 p1 = R → Steps p.tables e below (s₁.setTop (mkF m 58 #[.val (.int p1)] [])) (s₁.setFrames fs) := by
      intro hR0'
      have hR : (0 : Int32) = R := hR0'
      show Steps p.tables e below (s₁.setTop (mkF m 58 #[.val (.int p1)] [])) _
      refine XS.iconst X0.here hx rfl (hb hby d1_58) ?_
      show Steps p.tables e below (s₁.setTop (mkF m 59 #[.val (.int p1)] [(.int (0 : Int32))])) _
      subst hR
      exact retN X0 hx (t := .boolean) Bd.returns (by simp) (hb hby d1_59) hr
    have J54 : own_f1_54 p1 = R → Steps p.tables e below (s₁.setTop (mkF m 54 #[.val (.int p1)] [])) (s₁.setFrames fs) := by
      intro hR0'
      have hR : (1 : Int32) = R := hR0'
      show Steps p.tables e below (s₁.setTop (mkF m 54 #[.val (.int p1)] [])) _
      refine XS.iconst X0.here hx rfl (hb hby d1_54) ?_
      show Steps p.tables e below (s₁.setTop (mkF m 55 #[.val (.int p1)] [(.int (1 : Int32))])) _
      refine XS.goto X0.here hx rfl (pc0 := 55) (pc' := 59) rfl (hb hby d1_55) (by decide) (by decide) ?_
      show Steps p.tables e below (s₁.setTop (mkF m 59 #[.val (.int p1)] [(.int (1 : Int32))])) _
      subst hR
      exact retN X0 hx (t := .boolean) Bd.returns (by simp) (hb hby d1_59) hr
    have J48 : own_f1_48 p1 = R → Steps p.tables e below (s₁.setTop (mkF m 48 #[.val (.int p1)] [])) (s₁.setFrames fs) := by
      intro hR
      show Steps p.tables e below (s₁.setTop (mkF m 48 #[.val (.int p1)] [])) _
      refine XS.iloadN X0.here hx rfl (hb hby d1_48) rfl ?_
      show Steps p.tables e below (s₁.setTop (mkF m 49 #[.val (.int p1)] [(.int p1)])) _
      refine X0.ldcInt hx hown (mvT hZ (hw _ (List.mem_of_getElem? (i := 23) rfl))) (g := (mkF m 49 #[.val (.int p1)] [(.int p1)])) rfl (hb hby d1_49) _ ?_
      show Steps p.tables e below (s₁.setTop (mkF m 51 #[.val (.int p1)] [(.int (1114111 : Int32)), (.int p1)])) _
      by_cases hc : (1114111 : Int32) < p1
      · refine XS.icmpYes X0.here hx rfl (pc0 := 51) (pc' := 58) rfl (hb hby d1_51) rfl (tlt hc).2.2.1 (by decide) (by decide) ?_
        exact J58 ((show own_f1_48 p1 = own_f1_58 p1 from if_pos hc).symm.trans hR)
      · refine XS.icmpNo X0.here hx rfl (hb hby d1_51) rfl (flt hc).2.2.1 ?_
        exact J54 ((show own_f1_48 p1 = own_f1_54 p1 from if_neg hc).symm.trans hR)
    have J42 : own_f1_42 p1 = R → Steps p.tables e below (s₁.setTop (mkF m 42 #[.val (.int p1)] [])) (s₁.setFrames fs) := by
      intro hR
      show Steps p.tables e below (s₁.setTop (mkF m 42 #[.val (.int p1)] [])) _
      refine XS.iloadN X0.here hx rfl (hb hby d1_42) rfl ?_
      show Steps p.tables e below (s₁.setTop (mkF m 43 #[.val (.int p1)] [(.int p1)])) _
      refine X0.ldcInt hx hown (mvT hZ (hw _ (List.mem_of_getElem? (i := 5) rfl))) (g := (mkF m 43 #[.val (.int p1)] [(.int p1)])) rfl (hb hby d1_43) _ ?_
      show Steps p.tables e below (s₁.setTop (mkF m 45 #[.val (.int p1)] [(.int (65536 : Int32)), (.int p1)])) _
      by_cases hc : p1 < (65536 : Int32)
      · refine XS.icmpYes X0.here hx rfl (pc0 := 45) (pc' := 58) rfl (hb hby d1_45) rfl (tlt hc).1 (by decide) (by decide) ?_
        exact J58 ((show own_f1_42 p1 = own_f1_58 p1 from if_pos hc).symm.trans hR)
      · refine XS.icmpNo X0.here hx rfl (hb hby d1_45) rfl (flt hc).1 ?_
        exact J48 ((show own_f1_42 p1 = own_f1_48 p1 from if_neg hc).symm.trans hR)
    have J36 : own_f1_36 p1 = R → Steps p.tables e below (s₁.setTop (mkF m 36 #[.val (.int p1)] [])) (s₁.setFrames fs) := by
      intro hR
      show Steps p.tables e below (s₁.setTop (mkF m 36 #[.val (.int p1)] [])) _
      refine XS.iloadN X0.here hx rfl (hb hby d1_36) rfl ?_
      show Steps p.tables e below (s₁.setTop (mkF m 37 #[.val (.int p1)] [(.int p1)])) _
      refine X0.ldcInt hx hown (mvT hZ (hw _ (List.mem_of_getElem? (i := 22) rfl))) (g := (mkF m 37 #[.val (.int p1)] [(.int p1)])) rfl (hb hby d1_37) _ ?_
      show Steps p.tables e below (s₁.setTop (mkF m 39 #[.val (.int p1)] [(.int (65533 : Int32)), (.int p1)])) _
      by_cases hc : (65533 : Int32) < p1
      · refine XS.icmpNo X0.here hx rfl (hb hby d1_39) rfl (tlt hc).2.2.2 ?_
        exact J42 ((show own_f1_36 p1 = own_f1_42 p1 from if_pos hc).symm.trans hR)
      · refine XS.icmpYes X0.here hx rfl (pc0 := 39) (pc' := 54) rfl (hb hby d1_39) rfl (flt hc).2.2.2 (by decide) (by decide) ?_
        exact J54 ((show own_f1_36 p1 = own_f1_54 p1 from if_neg hc).symm.trans hR)
    have J30 : own_f1_30 p1 = R → Steps p.tables e below (s₁.setTop (mkF m 30 #[.val (.int p1)] [])) (s₁.setFrames fs) := by
      intro hR
      show Steps p.tables e below (s₁.setTop (mkF m 30 #[.val (.int p1)] [])) _
      refine XS.iloadN X0.here hx rfl (hb hby d1_30) rfl ?_
      show Steps p.tables e below (s₁.setTop (mkF m 31 #[.val (.int p1)] [(.int p1)])) _
      refine X0.ldcInt hx hown (mvT hZ (hw _ (List.mem_of_getElem? (i := 4) rfl))) (g := (mkF m 31 #[.val (.int p1)] [(.int p1)])) rfl (hb hby d1_31) _ ?_
      show Steps p.tables e below (s₁.setTop (mkF m 33 #[.val (.int p1)] [(.int (57344 : Int32)), (.int p1)])) _
      by_cases hc : p1 < (57344 : Int32)
      · refine XS.icmpYes X0.here hx rfl (pc0 := 33) (pc' := 42) rfl (hb hby d1_33) rfl (tlt hc).1 (by decide) (by decide) ?_
        exact J42 ((show own_f1_30 p1 = own_f1_42 p1 from if_pos hc).symm.trans hR)
      · refine XS.icmpNo X0.here hx rfl (hb hby d1_33) rfl (flt hc).1 ?_
        exact J36 ((show own_f1_30 p1 = own_f1_36 p1 from if_neg hc).symm.trans hR)
    have J24 : own_f1_24 p1 = R → Steps p.tables e below (s₁.setTop (mkF m 24 #[.val (.int p1)] [])) (s₁.setFrames fs) := by
      intro hR
      show Steps p.tables e below (s₁.setTop (mkF m 24 #[.val (.int p1)] [])) _
      refine XS.iloadN X0.here hx rfl (hb hby d1_24) rfl ?_
      show Steps p.tables e below (s₁.setTop (mkF m 25 #[.val (.int p1)] [(.int p1)])) _
      refine X0.ldcInt hx hown (mvT hZ (hw _ (List.mem_of_getElem? (i := 21) rfl))) (g := (mkF m 25 #[.val (.int p1)] [(.int p1)])) rfl (hb hby d1_25) _ ?_
      show Steps p.tables e below (s₁.setTop (mkF m 27 #[.val (.int p1)] [(.int (55295 : Int32)), (.int p1)])) _
      by_cases hc : (55295 : Int32) < p1
      · refine XS.icmpNo X0.here hx rfl (hb hby d1_27) rfl (tlt hc).2.2.2 ?_
        exact J30 ((show own_f1_24 p1 = own_f1_30 p1 from if_pos hc).symm.trans hR)
      · refine XS.icmpYes X0.here hx rfl (pc0 := 27) (pc' := 54) rfl (hb hby d1_27) rfl (flt hc).2.2.2 (by decide) (by decide) ?_
        exact J54 ((show own_f1_24 p1 = own_f1_54 p1 from if_neg hc).symm.trans hR)
    have J18 : own_f1_18 p1 = R → Steps p.tables e below (s₁.setTop (mkF m 18 #[.val (.int p1)] [])) (s₁.setFrames fs) := by
      intro hR
      show Steps p.tables e below (s₁.setTop (mkF m 18 #[.val (.int p1)] [])) _
      refine XS.iloadN X0.here hx rfl (hb hby d1_18) rfl ?_
      show Steps p.tables e below (s₁.setTop (mkF m 19 #[.val (.int p1)] [(.int p1)])) _
      refine XS.bipush X0.here hx rfl (hb hby d1_19) ?_
      show Steps p.tables e below (s₁.setTop (mkF m 21 #[.val (.int p1)] [(.int (32 : Int32)), (.int p1)])) _
      by_cases hc : p1 < (32 : Int32)
      · refine XS.icmpYes X0.here hx rfl (pc0 := 21) (pc' := 30) rfl (hb hby d1_21) rfl (tlt hc).1 (by decide) (by decide) ?_
        exact J30 ((show own_f1_18 p1 = own_f1_30 p1 from if_pos hc).symm.trans hR)
      · refine XS.icmpNo X0.here hx rfl (hb hby d1_21) rfl (flt hc).1 ?_
        exact J24 ((show own_f1_18 p1 = own_f1_24 p1 from if_neg hc).symm.trans hR)
    have J12 : own_f1_12 p1 = R → Steps p.tables e below (s₁.setTop (mkF m 12 #[.val (.int p1)] [])) (s₁.setFrames fs) := by
      intro hR
      show Steps p.tables e below (s₁.setTop (mkF m 12 #[.val (.int p1)] [])) _
      refine XS.iloadN X0.here hx rfl (hb hby d1_12) rfl ?_
      show Steps p.tables e below (s₁.setTop (mkF m 13 #[.val (.int p1)] [(.int p1)])) _
      refine XS.bipush X0.here hx rfl (hb hby d1_13) ?_
      show Steps p.tables e below (s₁.setTop (mkF m 15 #[.val (.int p1)] [(.int (13 : Int32)), (.int p1)])) _
      by_cases hc : p1 = (13 : Int32)
      · refine XS.icmpYes X0.here hx rfl (pc0 := 15) (pc' := 54) rfl (hb hby d1_15) rfl (teq hc).1 (by decide) (by decide) ?_
        exact J54 ((show own_f1_12 p1 = own_f1_54 p1 from if_pos hc).symm.trans hR)
      · refine XS.icmpNo X0.here hx rfl (hb hby d1_15) rfl (feq hc).1 ?_
        exact J18 ((show own_f1_12 p1 = own_f1_18 p1 from if_neg hc).symm.trans hR)
    have J6 : own_f1_6 p1 = R → Steps p.tables e below (s₁.setTop (mkF m 6 #[.val (.int p1)] [])) (s₁.setFrames fs) := by
      intro hR
      show Steps p.tables e below (s₁.setTop (mkF m 6 #[.val (.int p1)] [])) _
      refine XS.iloadN X0.here hx rfl (hb hby d1_6) rfl ?_
      show Steps p.tables e below (s₁.setTop (mkF m 7 #[.val (.int p1)] [(.int p1)])) _
      refine XS.bipush X0.here hx rfl (hb hby d1_7) ?_
      show Steps p.tables e below (s₁.setTop (mkF m 9 #[.val (.int p1)] [(.int (10 : Int32)), (.int p1)])) _
      by_cases hc : p1 = (10 : Int32)
      · refine XS.icmpYes X0.here hx rfl (pc0 := 9) (pc' := 54) rfl (hb hby d1_9) rfl (teq hc).1 (by decide) (by decide) ?_
        exact J54 ((show own_f1_6 p1 = own_f1_54 p1 from if_pos hc).symm.trans hR)
      · refine XS.icmpNo X0.here hx rfl (hb hby d1_9) rfl (feq hc).1 ?_
        exact J12 ((show own_f1_6 p1 = own_f1_12 p1 from if_neg hc).symm.trans hR)
    have J0 : own_f1_0 p1 = R → Steps p.tables e below (s₁.setTop (mkF m 0 #[.val (.int p1)] [])) (s₁.setFrames fs) := by
      intro hR
      show Steps p.tables e below (s₁.setTop (mkF m 0 #[.val (.int p1)] [])) _
      refine XS.iloadN X0.here hx rfl (hb hby d1_0) rfl ?_
      show Steps p.tables e below (s₁.setTop (mkF m 1 #[.val (.int p1)] [(.int p1)])) _
      refine XS.bipush X0.here hx rfl (hb hby d1_1) ?_
      show Steps p.tables e below (s₁.setTop (mkF m 3 #[.val (.int p1)] [(.int (9 : Int32)), (.int p1)])) _
      by_cases hc : p1 = (9 : Int32)
      · refine XS.icmpYes X0.here hx rfl (pc0 := 3) (pc' := 54) rfl (hb hby d1_3) rfl (teq hc).1 (by decide) (by decide) ?_
        exact J54 ((show own_f1_0 p1 = own_f1_54 p1 from if_pos hc).symm.trans hR)
      · refine XS.icmpNo X0.here hx rfl (hb hby d1_3) rfl (feq hc).1 ?_
        exact J6 ((show own_f1_0 p1 = own_f1_6 p1 from if_neg hc).symm.trans hR)
    exact J0 hR0.symm
  · show Q1 Z p1 h0 n0 _ s₁.heap _
    rw [e0]
    exact ⟨by rw [hR0], N0, rfl⟩
theorem d2_0 : decode method_2_code 0 = .ok (.iload_n 0, 1) := by decide +kernel
theorem d2_1 : decode method_2_code 1 = .ok (.ifCond .lt 9, 3) := by decide +kernel
theorem d2_4 : decode method_2_code 4 = .ok (.iload_n 0, 1) := by decide +kernel
theorem d2_5 : decode method_2_code 5 = .ok (.ldc 7, 2) := by decide +kernel
theorem d2_7 : decode method_2_code 7 = .ok (.if_icmp .le 5, 3) := by decide +kernel
theorem d2_10 : decode method_2_code 10 = .ok (.iconst 0, 1) := by decide +kernel
theorem d2_11 : decode method_2_code 11 = .ok (.ireturn, 1) := by decide +kernel
theorem d2_12 : decode method_2_code 12 = .ok (.iload_n 0, 1) := by decide +kernel
theorem d2_13 : decode method_2_code 13 = .ok (.bipush 32, 2) := by decide +kernel
theorem d2_15 : decode method_2_code 15 = .ok (.if_icmp .ge 27, 3) := by decide +kernel
theorem d2_18 : decode method_2_code 18 = .ok (.iload_n 0, 1) := by decide +kernel
theorem d2_19 : decode method_2_code 19 = .ok (.bipush 9, 2) := by decide +kernel
theorem d2_21 : decode method_2_code 21 = .ok (.if_icmp .eq 15, 3) := by decide +kernel
theorem d2_24 : decode method_2_code 24 = .ok (.iload_n 0, 1) := by decide +kernel
theorem d2_25 : decode method_2_code 25 = .ok (.bipush 10, 2) := by decide +kernel
theorem d2_27 : decode method_2_code 27 = .ok (.if_icmp .eq 9, 3) := by decide +kernel
theorem d2_30 : decode method_2_code 30 = .ok (.iload_n 0, 1) := by decide +kernel
theorem d2_31 : decode method_2_code 31 = .ok (.bipush 13, 2) := by decide +kernel
theorem d2_33 : decode method_2_code 33 = .ok (.if_icmp .ne 7, 3) := by decide +kernel
theorem d2_36 : decode method_2_code 36 = .ok (.iconst 1, 1) := by decide +kernel
theorem d2_37 : decode method_2_code 37 = .ok (.goto 4, 3) := by decide +kernel
theorem d2_40 : decode method_2_code 40 = .ok (.iconst 0, 1) := by decide +kernel
theorem d2_41 : decode method_2_code 41 = .ok (.ireturn, 1) := by decide +kernel
theorem d2_42 : decode method_2_code 42 = .ok (.iload_n 0, 1) := by decide +kernel
theorem d2_43 : decode method_2_code 43 = .ok (.ldc 8, 2) := by decide +kernel
theorem d2_45 : decode method_2_code 45 = .ok (.if_icmp .lt 11, 3) := by decide +kernel
theorem d2_48 : decode method_2_code 48 = .ok (.iload_n 0, 1) := by decide +kernel
theorem d2_49 : decode method_2_code 49 = .ok (.ldc 9, 2) := by decide +kernel
theorem d2_51 : decode method_2_code 51 = .ok (.if_icmp .gt 5, 3) := by decide +kernel
theorem d2_54 : decode method_2_code 54 = .ok (.iconst 0, 1) := by decide +kernel
theorem d2_55 : decode method_2_code 55 = .ok (.ireturn, 1) := by decide +kernel
theorem d2_56 : decode method_2_code 56 = .ok (.iload_n 0, 1) := by decide +kernel
theorem d2_57 : decode method_2_code 57 = .ok (.ldc 10, 2) := by decide +kernel
theorem d2_59 : decode method_2_code 59 = .ok (.if_icmp .eq 9, 3) := by decide +kernel
theorem d2_62 : decode method_2_code 62 = .ok (.iload_n 0, 1) := by decide +kernel
theorem d2_63 : decode method_2_code 63 = .ok (.ldc 11, 2) := by decide +kernel
theorem d2_65 : decode method_2_code 65 = .ok (.if_icmp .ne 5, 3) := by decide +kernel
theorem d2_68 : decode method_2_code 68 = .ok (.iconst 0, 1) := by decide +kernel
theorem d2_69 : decode method_2_code 69 = .ok (.ireturn, 1) := by decide +kernel
theorem d2_70 : decode method_2_code 70 = .ok (.iconst 1, 1) := by decide +kernel
theorem d2_71 : decode method_2_code 71 = .ok (.ireturn, 1) := by decide +kernel
theorem pn_2 : plainName "com/example/exqel/exqel/value/XmlCharsIsCharPinLaw" = true := by first | (simp [plainName, overriddenIn]; done) | decide +kernel
theorem ef_2 (m : MethodId) (x0 : Int32) : entryFrame m #[(.int x0)] 1 = mkF m 0 #[.val (.int x0)] [] := by first | (simp [entryFrame, mkF, argsToLocals, Value.category]; done) | rfl
def own_f2_70 (p1 : Int32) : Int32 := (1 : Int32)
def own_f2_68 (p1 : Int32) : Int32 := (0 : Int32)
def own_f2_62 (p1 : Int32) : Int32 := if p1 = (65535 : Int32) then own_f2_68 p1 else own_f2_70 p1
def own_f2_56 (p1 : Int32) : Int32 := if p1 = (65534 : Int32) then own_f2_68 p1 else own_f2_62 p1
def own_f2_54 (p1 : Int32) : Int32 := (0 : Int32)
def own_f2_48 (p1 : Int32) : Int32 := if (57343 : Int32) < p1 then own_f2_56 p1 else own_f2_54 p1
def own_f2_42 (p1 : Int32) : Int32 := if p1 < (55296 : Int32) then own_f2_56 p1 else own_f2_48 p1
def own_f2_40 (p1 : Int32) : Int32 := (0 : Int32)
def own_f2_36 (p1 : Int32) : Int32 := (1 : Int32)
def own_f2_30 (p1 : Int32) : Int32 := if p1 = (13 : Int32) then own_f2_36 p1 else own_f2_40 p1
def own_f2_24 (p1 : Int32) : Int32 := if p1 = (10 : Int32) then own_f2_36 p1 else own_f2_30 p1
def own_f2_18 (p1 : Int32) : Int32 := if p1 = (9 : Int32) then own_f2_36 p1 else own_f2_24 p1
def own_f2_12 (p1 : Int32) : Int32 := if p1 < (32 : Int32) then own_f2_18 p1 else own_f2_42 p1
def own_f2_10 (p1 : Int32) : Int32 := (0 : Int32)
def own_f2_4 (p1 : Int32) : Int32 := if (1114111 : Int32) < p1 then own_f2_10 p1 else own_f2_12 p1
def own_f2_0 (p1 : Int32) : Int32 := if p1 < (0 : Int32) then own_f2_10 p1 else own_f2_4 p1
def Q2 (Z : State) (p1 : Int32) (h0 : Heap) (n0 : Nat) (v : Option Value) (h : Heap) (L : List Loc) : Prop := v = some (.int (own_f2_0 p1)) ∧ Fr n0 L ∧ h = h0
set_option maxRecDepth 65536 in
set_option maxHeartbeats 40000000 in
theorem rm2 (l : Launch) (Z : State) (a0 : Array Value) (hw : ∀ d ∈ tables_1, d.before a0 Z = true) (ws : List Jvm.Cond) (p1 : Int32) (h0 : Heap) (n0 : Nat) (Z0 : n0 ≤ h0.size) :
    MetFree l (⟨"com/example/exqel/exqel/value/XmlCharsIsCharPinLaw", "ref", "(I)Z"⟩ : MethodName) (head1 (Jvm.Cond.code (⟨"com/example/exqel/exqel/value/XmlCharsIsCharPinLaw", "ref", "(I)Z"⟩ : MethodName) method_2_code 1 (some .boolean) :: ws) ({ frames := 0, cells := 0, slots := 0, locals := 0 } : Room)) (fun a U => a = #[(.int p1)] ∧ Z.Warmed39 U.vm ∧ U.heap = h0) (fun _ _ _ _ _ => True) (fun _ U o U' => ∃ v L, o = .returned v ∧ Q2 Z p1 h0 n0 v U'.heap L ∧ FrameEnd U o U' L ({ frames := 0, cells := 0, slots := 0, locals := 0 } : Room).cells ({ frames := 0, cells := 0, slots := 0, locals := 0 } : Room).slots) := by
  refine MetFree.of_bodySF (plainFor_of_name pn_2) hisR ?_
  intro p e s m args below meth c s₁ Bd hml0 hP hK
  obtain ⟨rfl, hZ, hh⟩ := hP
  have hx := Bd.exec
  have hby := Bd.bytes
  have hown : s.vm.findClass "com/example/exqel/exqel/value/XmlCharsIsCharPinLaw" = some m.cls := findClass_of_methodNamed Bd.named
  have X0 : Stand p l e ({ frames := 0, cells := 0, slots := 0, locals := 0 } : Room) s m #[(.int p1)] below meth c s₁ [] 0 0 := Stand.of_body Bd
  have e0 : s₁.heap = h0 := by rw [← hh, Bd.state]; rfl
  have N0 := Fr.nil n0
  have pre0 : ∀ t, Steps p.tables e below (s₁.setTop (mkF m 0 #[.val (.int p1)] [])) t → Steps p.tables e below (s₁.setTop (entryFrame m #[(.int p1)] 1)) t := fun t k => castTop (ef_2 m p1) k
  obtain ⟨R, hR0⟩ : ∃ R : Int32, R = own_f2_0 p1 := ⟨_, rfl⟩
  obtain ⟨fs, hr, hrun, hended, hW, hsame⟩ := X0.leave (v := some (.int R)) (fun h => by rw [Bd.returns] at h; cases h)
  refine ⟨_, _, pre0 _ ?_, hrun, hended, _, _, rfl, ?_, ⟨_, rfl⟩, hW, hsame.mono (by decide) (by decide)⟩
  · have J70 : own_f2_70 p1 = R → Steps p.tables e below (s₁.setTop (mkF m 70 #[.val (.int p1)] [])) (s₁.setFrames fs) := by
      intro hR0'
      have hR : (1 : Int32) = R := hR0'
      show Steps p.tables e below (s₁.setTop (mkF m 70 #[.val (.int p1)] [])) _
      refine XS.iconst X0.here hx rfl (hb hby d2_70) ?_
      show Steps p.tables e below (s₁.setTop (mkF m 71 #[.val (.int p1)] [(.int (1 : Int32))])) _
      subst hR
      exact retN X0 hx (t := .boolean) Bd.returns (by simp) (hb hby d2_71) hr
    have J68 : own_f2_68 p1 = R → Steps p.tables e below (s₁.setTop (mkF m 68 #[.val (.int p1)] [])) (s₁.setFrames fs) := by
      intro hR0'
      have hR : (0 : Int32) = R := hR0'
      show Steps p.tables e below (s₁.setTop (mkF m 68 #[.val (.int p1)] [])) _
      refine XS.iconst X0.here hx rfl (hb hby d2_68) ?_
      show Steps p.tables e below (s₁.setTop (mkF m 69 #[.val (.int p1)] [(.int (0 : Int32))])) _
      subst hR
      exact retN X0 hx (t := .boolean) Bd.returns (by simp) (hb hby d2_69) hr
    have J62 : own_f2_62 p1 = R → Steps p.tables e below (s₁.setTop (mkF m 62 #[.val (.int p1)] [])) (s₁.setFrames fs) := by
      intro hR
      show Steps p.tables e below (s₁.setTop (mkF m 62 #[.val (.int p1)] [])) _
      refine XS.iloadN X0.here hx rfl (hb hby d2_62) rfl ?_
      show Steps p.tables e below (s₁.setTop (mkF m 63 #[.val (.int p1)] [(.int p1)])) _
      refine X0.ldcInt hx hown (mvT hZ (hw _ (List.mem_of_getElem? (i := 17) rfl))) (g := (mkF m 63 #[.val (.int p1)] [(.int p1)])) rfl (hb hby d2_63) _ ?_
      show Steps p.tables e below (s₁.setTop (mkF m 65 #[.val (.int p1)] [(.int (65535 : Int32)), (.int p1)])) _
      by_cases hc : p1 = (65535 : Int32)
      · refine XS.icmpNo X0.here hx rfl (hb hby d2_65) rfl (teq hc).2 ?_
        exact J68 ((show own_f2_62 p1 = own_f2_68 p1 from if_pos hc).symm.trans hR)
      · refine XS.icmpYes X0.here hx rfl (pc0 := 65) (pc' := 70) rfl (hb hby d2_65) rfl (feq hc).2 (by decide) (by decide) ?_
        exact J70 ((show own_f2_62 p1 = own_f2_70 p1 from if_neg hc).symm.trans hR)
    have J56 : own_f2_56 p1 = R → Steps p.tables e below (s₁.setTop (mkF m 56 #[.val (.int p1)] [])) (s₁.setFrames fs) := by
      intro hR
      show Steps p.tables e below (s₁.setTop (mkF m 56 #[.val (.int p1)] [])) _
      refine XS.iloadN X0.here hx rfl (hb hby d2_56) rfl ?_
      show Steps p.tables e below (s₁.setTop (mkF m 57 #[.val (.int p1)] [(.int p1)])) _
      refine X0.ldcInt hx hown (mvT hZ (hw _ (List.mem_of_getElem? (i := 24) rfl))) (g := (mkF m 57 #[.val (.int p1)] [(.int p1)])) rfl (hb hby d2_57) _ ?_
      show Steps p.tables e below (s₁.setTop (mkF m 59 #[.val (.int p1)] [(.int (65534 : Int32)), (.int p1)])) _
      by_cases hc : p1 = (65534 : Int32)
      · refine XS.icmpYes X0.here hx rfl (pc0 := 59) (pc' := 68) rfl (hb hby d2_59) rfl (teq hc).1 (by decide) (by decide) ?_
        exact J68 ((show own_f2_56 p1 = own_f2_68 p1 from if_pos hc).symm.trans hR)
      · refine XS.icmpNo X0.here hx rfl (hb hby d2_59) rfl (feq hc).1 ?_
        exact J62 ((show own_f2_56 p1 = own_f2_62 p1 from if_neg hc).symm.trans hR)
    have J54 : own_f2_54 p1 = R → Steps p.tables e below (s₁.setTop (mkF m 54 #[.val (.int p1)] [])) (s₁.setFrames fs) := by
      intro hR0'
      have hR : (0 : Int32) = R := hR0'
      show Steps p.tables e below (s₁.setTop (mkF m 54 #[.val (.int p1)] [])) _
      refine XS.iconst X0.here hx rfl (hb hby d2_54) ?_
      show Steps p.tables e below (s₁.setTop (mkF m 55 #[.val (.int p1)] [(.int (0 : Int32))])) _
      subst hR
      exact retN X0 hx (t := .boolean) Bd.returns (by simp) (hb hby d2_55) hr
    have J48 : own_f2_48 p1 = R → Steps p.tables e below (s₁.setTop (mkF m 48 #[.val (.int p1)] [])) (s₁.setFrames fs) := by
      intro hR
      show Steps p.tables e below (s₁.setTop (mkF m 48 #[.val (.int p1)] [])) _
      refine XS.iloadN X0.here hx rfl (hb hby d2_48) rfl ?_
      show Steps p.tables e below (s₁.setTop (mkF m 49 #[.val (.int p1)] [(.int p1)])) _
      refine X0.ldcInt hx hown (mvT hZ (hw _ (List.mem_of_getElem? (i := 14) rfl))) (g := (mkF m 49 #[.val (.int p1)] [(.int p1)])) rfl (hb hby d2_49) _ ?_
      show Steps p.tables e below (s₁.setTop (mkF m 51 #[.val (.int p1)] [(.int (57343 : Int32)), (.int p1)])) _
      by_cases hc : (57343 : Int32) < p1
      · refine XS.icmpYes X0.here hx rfl (pc0 := 51) (pc' := 56) rfl (hb hby d2_51) rfl (tlt hc).2.2.1 (by decide) (by decide) ?_
        exact J56 ((show own_f2_48 p1 = own_f2_56 p1 from if_pos hc).symm.trans hR)
      · refine XS.icmpNo X0.here hx rfl (hb hby d2_51) rfl (flt hc).2.2.1 ?_
        exact J54 ((show own_f2_48 p1 = own_f2_54 p1 from if_neg hc).symm.trans hR)
    have J42 : own_f2_42 p1 = R → Steps p.tables e below (s₁.setTop (mkF m 42 #[.val (.int p1)] [])) (s₁.setFrames fs) := by
      intro hR
      show Steps p.tables e below (s₁.setTop (mkF m 42 #[.val (.int p1)] [])) _
      refine XS.iloadN X0.here hx rfl (hb hby d2_42) rfl ?_
      show Steps p.tables e below (s₁.setTop (mkF m 43 #[.val (.int p1)] [(.int p1)])) _
      refine X0.ldcInt hx hown (mvT hZ (hw _ (List.mem_of_getElem? (i := 13) rfl))) (g := (mkF m 43 #[.val (.int p1)] [(.int p1)])) rfl (hb hby d2_43) _ ?_
      show Steps p.tables e below (s₁.setTop (mkF m 45 #[.val (.int p1)] [(.int (55296 : Int32)), (.int p1)])) _
      by_cases hc : p1 < (55296 : Int32)
      · refine XS.icmpYes X0.here hx rfl (pc0 := 45) (pc' := 56) rfl (hb hby d2_45) rfl (tlt hc).1 (by decide) (by decide) ?_
        exact J56 ((show own_f2_42 p1 = own_f2_56 p1 from if_pos hc).symm.trans hR)
      · refine XS.icmpNo X0.here hx rfl (hb hby d2_45) rfl (flt hc).1 ?_
        exact J48 ((show own_f2_42 p1 = own_f2_48 p1 from if_neg hc).symm.trans hR)
    have J40 : own_f2_40 p1 = R → Steps p.tables e below (s₁.setTop (mkF m 40 #[.val (.int p1)] [])) (s₁.setFrames fs) := by
      intro hR0'
      have hR : (0 : Int32) = R := hR0'
      show Steps p.tables e below (s₁.setTop (mkF m 40 #[.val (.int p1)] [])) _
      refine XS.iconst X0.here hx rfl (hb hby d2_40) ?_
      show Steps p.tables e below (s₁.setTop (mkF m 41 #[.val (.int p1)] [(.int (0 : Int32))])) _
      subst hR
      exact retN X0 hx (t := .boolean) Bd.returns (by simp) (hb hby d2_41) hr
    have J36 : own_f2_36 p1 = R → Steps p.tables e below (s₁.setTop (mkF m 36 #[.val (.int p1)] [])) (s₁.setFrames fs) := by
      intro hR0'
      have hR : (1 : Int32) = R := hR0'
      show Steps p.tables e below (s₁.setTop (mkF m 36 #[.val (.int p1)] [])) _
      refine XS.iconst X0.here hx rfl (hb hby d2_36) ?_
      show Steps p.tables e below (s₁.setTop (mkF m 37 #[.val (.int p1)] [(.int (1 : Int32))])) _
      refine XS.goto X0.here hx rfl (pc0 := 37) (pc' := 41) rfl (hb hby d2_37) (by decide) (by decide) ?_
      show Steps p.tables e below (s₁.setTop (mkF m 41 #[.val (.int p1)] [(.int (1 : Int32))])) _
      subst hR
      exact retN X0 hx (t := .boolean) Bd.returns (by simp) (hb hby d2_41) hr
    have J30 : own_f2_30 p1 = R → Steps p.tables e below (s₁.setTop (mkF m 30 #[.val (.int p1)] [])) (s₁.setFrames fs) := by
      intro hR
      show Steps p.tables e below (s₁.setTop (mkF m 30 #[.val (.int p1)] [])) _
      refine XS.iloadN X0.here hx rfl (hb hby d2_30) rfl ?_
      show Steps p.tables e below (s₁.setTop (mkF m 31 #[.val (.int p1)] [(.int p1)])) _
      refine XS.bipush X0.here hx rfl (hb hby d2_31) ?_
      show Steps p.tables e below (s₁.setTop (mkF m 33 #[.val (.int p1)] [(.int (13 : Int32)), (.int p1)])) _
      by_cases hc : p1 = (13 : Int32)
      · refine XS.icmpNo X0.here hx rfl (hb hby d2_33) rfl (teq hc).2 ?_
        exact J36 ((show own_f2_30 p1 = own_f2_36 p1 from if_pos hc).symm.trans hR)
      · refine XS.icmpYes X0.here hx rfl (pc0 := 33) (pc' := 40) rfl (hb hby d2_33) rfl (feq hc).2 (by decide) (by decide) ?_
        exact J40 ((show own_f2_30 p1 = own_f2_40 p1 from if_neg hc).symm.trans hR)
    have J24 : own_f2_24 p1 = R → Steps p.tables e below (s₁.setTop (mkF m 24 #[.val (.int p1)] [])) (s₁.setFrames fs) := by
      intro hR
      show Steps p.tables e below (s₁.setTop (mkF m 24 #[.val (.int p1)] [])) _
      refine XS.iloadN X0.here hx rfl (hb hby d2_24) rfl ?_
      show Steps p.tables e below (s₁.setTop (mkF m 25 #[.val (.int p1)] [(.int p1)])) _
      refine XS.bipush X0.here hx rfl (hb hby d2_25) ?_
      show Steps p.tables e below (s₁.setTop (mkF m 27 #[.val (.int p1)] [(.int (10 : Int32)), (.int p1)])) _
      by_cases hc : p1 = (10 : Int32)
      · refine XS.icmpYes X0.here hx rfl (pc0 := 27) (pc' := 36) rfl (hb hby d2_27) rfl (teq hc).1 (by decide) (by decide) ?_
        exact J36 ((show own_f2_24 p1 = own_f2_36 p1 from if_pos hc).symm.trans hR)
      · refine XS.icmpNo X0.here hx rfl (hb hby d2_27) rfl (feq hc).1 ?_
        exact J30 ((show own_f2_24 p1 = own_f2_30 p1 from if_neg hc).symm.trans hR)
    have J18 : own_f2_18 p1 = R → Steps p.tables e below (s₁.setTop (mkF m 18 #[.val (.int p1)] [])) (s₁.setFrames fs) := by
      intro hR
      show Steps p.tables e below (s₁.setTop (mkF m 18 #[.val (.int p1)] [])) _
      refine XS.iloadN X0.here hx rfl (hb hby d2_18) rfl ?_
      show Steps p.tables e below (s₁.setTop (mkF m 19 #[.val (.int p1)] [(.int p1)])) _
      refine XS.bipush X0.here hx rfl (hb hby d2_19) ?_
      show Steps p.tables e below (s₁.setTop (mkF m 21 #[.val (.int p1)] [(.int (9 : Int32)), (.int p1)])) _
      by_cases hc : p1 = (9 : Int32)
      · refine XS.icmpYes X0.here hx rfl (pc0 := 21) (pc' := 36) rfl (hb hby d2_21) rfl (teq hc).1 (by decide) (by decide) ?_
        exact J36 ((show own_f2_18 p1 = own_f2_36 p1 from if_pos hc).symm.trans hR)
      · refine XS.icmpNo X0.here hx rfl (hb hby d2_21) rfl (feq hc).1 ?_
        exact J24 ((show own_f2_18 p1 = own_f2_24 p1 from if_neg hc).symm.trans hR)
    have J12 : own_f2_12 p1 = R → Steps p.tables e below (s₁.setTop (mkF m 12 #[.val (.int p1)] [])) (s₁.setFrames fs) := by
      intro hR
      show Steps p.tables e below (s₁.setTop (mkF m 12 #[.val (.int p1)] [])) _
      refine XS.iloadN X0.here hx rfl (hb hby d2_12) rfl ?_
      show Steps p.tables e below (s₁.setTop (mkF m 13 #[.val (.int p1)] [(.int p1)])) _
      refine XS.bipush X0.here hx rfl (hb hby d2_13) ?_
      show Steps p.tables e below (s₁.setTop (mkF m 15 #[.val (.int p1)] [(.int (32 : Int32)), (.int p1)])) _
      by_cases hc : p1 < (32 : Int32)
      · refine XS.icmpNo X0.here hx rfl (hb hby d2_15) rfl (tlt hc).2.1 ?_
        exact J18 ((show own_f2_12 p1 = own_f2_18 p1 from if_pos hc).symm.trans hR)
      · refine XS.icmpYes X0.here hx rfl (pc0 := 15) (pc' := 42) rfl (hb hby d2_15) rfl (flt hc).2.1 (by decide) (by decide) ?_
        exact J42 ((show own_f2_12 p1 = own_f2_42 p1 from if_neg hc).symm.trans hR)
    have J10 : own_f2_10 p1 = R → Steps p.tables e below (s₁.setTop (mkF m 10 #[.val (.int p1)] [])) (s₁.setFrames fs) := by
      intro hR0'
      have hR : (0 : Int32) = R := hR0'
      show Steps p.tables e below (s₁.setTop (mkF m 10 #[.val (.int p1)] [])) _
      refine XS.iconst X0.here hx rfl (hb hby d2_10) ?_
      show Steps p.tables e below (s₁.setTop (mkF m 11 #[.val (.int p1)] [(.int (0 : Int32))])) _
      subst hR
      exact retN X0 hx (t := .boolean) Bd.returns (by simp) (hb hby d2_11) hr
    have J4 : own_f2_4 p1 = R → Steps p.tables e below (s₁.setTop (mkF m 4 #[.val (.int p1)] [])) (s₁.setFrames fs) := by
      intro hR
      show Steps p.tables e below (s₁.setTop (mkF m 4 #[.val (.int p1)] [])) _
      refine XS.iloadN X0.here hx rfl (hb hby d2_4) rfl ?_
      show Steps p.tables e below (s₁.setTop (mkF m 5 #[.val (.int p1)] [(.int p1)])) _
      refine X0.ldcInt hx hown (mvT hZ (hw _ (List.mem_of_getElem? (i := 10) rfl))) (g := (mkF m 5 #[.val (.int p1)] [(.int p1)])) rfl (hb hby d2_5) _ ?_
      show Steps p.tables e below (s₁.setTop (mkF m 7 #[.val (.int p1)] [(.int (1114111 : Int32)), (.int p1)])) _
      by_cases hc : (1114111 : Int32) < p1
      · refine XS.icmpNo X0.here hx rfl (hb hby d2_7) rfl (tlt hc).2.2.2 ?_
        exact J10 ((show own_f2_4 p1 = own_f2_10 p1 from if_pos hc).symm.trans hR)
      · refine XS.icmpYes X0.here hx rfl (pc0 := 7) (pc' := 12) rfl (hb hby d2_7) rfl (flt hc).2.2.2 (by decide) (by decide) ?_
        exact J12 ((show own_f2_4 p1 = own_f2_12 p1 from if_neg hc).symm.trans hR)
    have J0 : own_f2_0 p1 = R → Steps p.tables e below (s₁.setTop (mkF m 0 #[.val (.int p1)] [])) (s₁.setFrames fs) := by
      intro hR
      show Steps p.tables e below (s₁.setTop (mkF m 0 #[.val (.int p1)] [])) _
      refine XS.iloadN X0.here hx rfl (hb hby d2_0) rfl ?_
      show Steps p.tables e below (s₁.setTop (mkF m 1 #[.val (.int p1)] [(.int p1)])) _
      by_cases hc : p1 < (0 : Int32)
      · refine XS.ifYes X0.here hx rfl (pc0 := 1) (pc' := 10) rfl (hb hby d2_1) rfl ((if0 _ _).trans (tlt hc).1) (by decide) (by decide) ?_
        exact J10 ((show own_f2_0 p1 = own_f2_10 p1 from if_pos hc).symm.trans hR)
      · refine XS.ifNo X0.here hx rfl (hb hby d2_1) rfl ((if0 _ _).trans (flt hc).1) ?_
        exact J4 ((show own_f2_0 p1 = own_f2_4 p1 from if_neg hc).symm.trans hR)
    exact J0 hR0.symm
  · show Q2 Z p1 h0 n0 _ s₁.heap _
    rw [e0]
    exact ⟨by rw [hR0], N0, rfl⟩
theorem own_lt {q c : Int32} (z : Int) (hc : c.toInt = z) (h : q.toInt < z) : q < c := by rw [Int32.lt_iff_toInt_lt, hc]; exact h
theorem own_nlt {q c : Int32} (z : Int) (hc : c.toInt = z) (h : z ≤ q.toInt) : ¬ q < c := by rw [Int32.lt_iff_toInt_lt, hc]; omega
theorem own_gt {q c : Int32} (z : Int) (hc : c.toInt = z) (h : z < q.toInt) : c < q := by rw [Int32.lt_iff_toInt_lt, hc]; exact h
theorem own_ngt {q c : Int32} (z : Int) (hc : c.toInt = z) (h : q.toInt ≤ z) : ¬ c < q := by rw [Int32.lt_iff_toInt_lt, hc]; omega
theorem own_eq {q c : Int32} (z : Int) (hc : c.toInt = z) (h : q.toInt = z) : q = c := by apply Int32.toInt_inj.mp; rw [hc]; exact h
theorem own_neq {q c : Int32} (z : Int) (hc : c.toInt = z) (h : ¬ q.toInt = z) : ¬ q = c := fun k => h (by rw [k]; exact hc)
theorem own_iv0 (q : Int32) (h1 : (-2147483648) ≤ q.toInt) (h2 : q.toInt ≤ (-1)) : own_f1_0 q = own_f2_0 q := by
  rw [(show own_f1_0 q = own_f1_6 q from if_neg (own_neq 9 (by decide) (by omega)))]
  rw [(show own_f1_6 q = own_f1_12 q from if_neg (own_neq 10 (by decide) (by omega)))]
  rw [(show own_f1_12 q = own_f1_18 q from if_neg (own_neq 13 (by decide) (by omega)))]
  rw [(show own_f1_18 q = own_f1_30 q from if_pos (own_lt 32 (by decide) (by omega)))]
  rw [(show own_f1_30 q = own_f1_42 q from if_pos (own_lt 57344 (by decide) (by omega)))]
  rw [(show own_f1_42 q = own_f1_58 q from if_pos (own_lt 65536 (by decide) (by omega)))]
  rw [(show own_f2_0 q = own_f2_10 q from if_pos (own_lt 0 (by decide) (by omega)))]
  rfl
theorem own_iv1 (q : Int32) (h1 : 0 ≤ q.toInt) (h2 : q.toInt ≤ 8) : own_f1_0 q = own_f2_0 q := by
  rw [(show own_f1_0 q = own_f1_6 q from if_neg (own_neq 9 (by decide) (by omega)))]
  rw [(show own_f1_6 q = own_f1_12 q from if_neg (own_neq 10 (by decide) (by omega)))]
  rw [(show own_f1_12 q = own_f1_18 q from if_neg (own_neq 13 (by decide) (by omega)))]
  rw [(show own_f1_18 q = own_f1_30 q from if_pos (own_lt 32 (by decide) (by omega)))]
  rw [(show own_f1_30 q = own_f1_42 q from if_pos (own_lt 57344 (by decide) (by omega)))]
  rw [(show own_f1_42 q = own_f1_58 q from if_pos (own_lt 65536 (by decide) (by omega)))]
  rw [(show own_f2_0 q = own_f2_4 q from if_neg (own_nlt 0 (by decide) (by omega)))]
  rw [(show own_f2_4 q = own_f2_12 q from if_neg (own_ngt 1114111 (by decide) (by omega)))]
  rw [(show own_f2_12 q = own_f2_18 q from if_pos (own_lt 32 (by decide) (by omega)))]
  rw [(show own_f2_18 q = own_f2_24 q from if_neg (own_neq 9 (by decide) (by omega)))]
  rw [(show own_f2_24 q = own_f2_30 q from if_neg (own_neq 10 (by decide) (by omega)))]
  rw [(show own_f2_30 q = own_f2_40 q from if_neg (own_neq 13 (by decide) (by omega)))]
  rfl
theorem own_iv2 (q : Int32) (h1 : 9 ≤ q.toInt) (h2 : q.toInt ≤ 9) : own_f1_0 q = own_f2_0 q := by
  rw [(show own_f1_0 q = own_f1_54 q from if_pos (own_eq 9 (by decide) (by omega)))]
  rw [(show own_f2_0 q = own_f2_4 q from if_neg (own_nlt 0 (by decide) (by omega)))]
  rw [(show own_f2_4 q = own_f2_12 q from if_neg (own_ngt 1114111 (by decide) (by omega)))]
  rw [(show own_f2_12 q = own_f2_18 q from if_pos (own_lt 32 (by decide) (by omega)))]
  rw [(show own_f2_18 q = own_f2_36 q from if_pos (own_eq 9 (by decide) (by omega)))]
  rfl
theorem own_iv3 (q : Int32) (h1 : 10 ≤ q.toInt) (h2 : q.toInt ≤ 10) : own_f1_0 q = own_f2_0 q := by
  rw [(show own_f1_0 q = own_f1_6 q from if_neg (own_neq 9 (by decide) (by omega)))]
  rw [(show own_f1_6 q = own_f1_54 q from if_pos (own_eq 10 (by decide) (by omega)))]
  rw [(show own_f2_0 q = own_f2_4 q from if_neg (own_nlt 0 (by decide) (by omega)))]
  rw [(show own_f2_4 q = own_f2_12 q from if_neg (own_ngt 1114111 (by decide) (by omega)))]
  rw [(show own_f2_12 q = own_f2_18 q from if_pos (own_lt 32 (by decide) (by omega)))]
  rw [(show own_f2_18 q = own_f2_24 q from if_neg (own_neq 9 (by decide) (by omega)))]
  rw [(show own_f2_24 q = own_f2_36 q from if_pos (own_eq 10 (by decide) (by omega)))]
  rfl
theorem own_iv4 (q : Int32) (h1 : 11 ≤ q.toInt) (h2 : q.toInt ≤ 12) : own_f1_0 q = own_f2_0 q := by
  rw [(show own_f1_0 q = own_f1_6 q from if_neg (own_neq 9 (by decide) (by omega)))]
  rw [(show own_f1_6 q = own_f1_12 q from if_neg (own_neq 10 (by decide) (by omega)))]
  rw [(show own_f1_12 q = own_f1_18 q from if_neg (own_neq 13 (by decide) (by omega)))]
  rw [(show own_f1_18 q = own_f1_30 q from if_pos (own_lt 32 (by decide) (by omega)))]
  rw [(show own_f1_30 q = own_f1_42 q from if_pos (own_lt 57344 (by decide) (by omega)))]
  rw [(show own_f1_42 q = own_f1_58 q from if_pos (own_lt 65536 (by decide) (by omega)))]
  rw [(show own_f2_0 q = own_f2_4 q from if_neg (own_nlt 0 (by decide) (by omega)))]
  rw [(show own_f2_4 q = own_f2_12 q from if_neg (own_ngt 1114111 (by decide) (by omega)))]
  rw [(show own_f2_12 q = own_f2_18 q from if_pos (own_lt 32 (by decide) (by omega)))]
  rw [(show own_f2_18 q = own_f2_24 q from if_neg (own_neq 9 (by decide) (by omega)))]
  rw [(show own_f2_24 q = own_f2_30 q from if_neg (own_neq 10 (by decide) (by omega)))]
  rw [(show own_f2_30 q = own_f2_40 q from if_neg (own_neq 13 (by decide) (by omega)))]
  rfl
theorem own_iv5 (q : Int32) (h1 : 13 ≤ q.toInt) (h2 : q.toInt ≤ 13) : own_f1_0 q = own_f2_0 q := by
  rw [(show own_f1_0 q = own_f1_6 q from if_neg (own_neq 9 (by decide) (by omega)))]
  rw [(show own_f1_6 q = own_f1_12 q from if_neg (own_neq 10 (by decide) (by omega)))]
  rw [(show own_f1_12 q = own_f1_54 q from if_pos (own_eq 13 (by decide) (by omega)))]
  rw [(show own_f2_0 q = own_f2_4 q from if_neg (own_nlt 0 (by decide) (by omega)))]
  rw [(show own_f2_4 q = own_f2_12 q from if_neg (own_ngt 1114111 (by decide) (by omega)))]
  rw [(show own_f2_12 q = own_f2_18 q from if_pos (own_lt 32 (by decide) (by omega)))]
  rw [(show own_f2_18 q = own_f2_24 q from if_neg (own_neq 9 (by decide) (by omega)))]
  rw [(show own_f2_24 q = own_f2_30 q from if_neg (own_neq 10 (by decide) (by omega)))]
  rw [(show own_f2_30 q = own_f2_36 q from if_pos (own_eq 13 (by decide) (by omega)))]
  rfl
theorem own_iv6 (q : Int32) (h1 : 14 ≤ q.toInt) (h2 : q.toInt ≤ 31) : own_f1_0 q = own_f2_0 q := by
  rw [(show own_f1_0 q = own_f1_6 q from if_neg (own_neq 9 (by decide) (by omega)))]
  rw [(show own_f1_6 q = own_f1_12 q from if_neg (own_neq 10 (by decide) (by omega)))]
  rw [(show own_f1_12 q = own_f1_18 q from if_neg (own_neq 13 (by decide) (by omega)))]
  rw [(show own_f1_18 q = own_f1_30 q from if_pos (own_lt 32 (by decide) (by omega)))]
  rw [(show own_f1_30 q = own_f1_42 q from if_pos (own_lt 57344 (by decide) (by omega)))]
  rw [(show own_f1_42 q = own_f1_58 q from if_pos (own_lt 65536 (by decide) (by omega)))]
  rw [(show own_f2_0 q = own_f2_4 q from if_neg (own_nlt 0 (by decide) (by omega)))]
  rw [(show own_f2_4 q = own_f2_12 q from if_neg (own_ngt 1114111 (by decide) (by omega)))]
  rw [(show own_f2_12 q = own_f2_18 q from if_pos (own_lt 32 (by decide) (by omega)))]
  rw [(show own_f2_18 q = own_f2_24 q from if_neg (own_neq 9 (by decide) (by omega)))]
  rw [(show own_f2_24 q = own_f2_30 q from if_neg (own_neq 10 (by decide) (by omega)))]
  rw [(show own_f2_30 q = own_f2_40 q from if_neg (own_neq 13 (by decide) (by omega)))]
  rfl
theorem own_iv7 (q : Int32) (h1 : 32 ≤ q.toInt) (h2 : q.toInt ≤ 55295) : own_f1_0 q = own_f2_0 q := by
  rw [(show own_f1_0 q = own_f1_6 q from if_neg (own_neq 9 (by decide) (by omega)))]
  rw [(show own_f1_6 q = own_f1_12 q from if_neg (own_neq 10 (by decide) (by omega)))]
  rw [(show own_f1_12 q = own_f1_18 q from if_neg (own_neq 13 (by decide) (by omega)))]
  rw [(show own_f1_18 q = own_f1_24 q from if_neg (own_nlt 32 (by decide) (by omega)))]
  rw [(show own_f1_24 q = own_f1_54 q from if_neg (own_ngt 55295 (by decide) (by omega)))]
  rw [(show own_f2_0 q = own_f2_4 q from if_neg (own_nlt 0 (by decide) (by omega)))]
  rw [(show own_f2_4 q = own_f2_12 q from if_neg (own_ngt 1114111 (by decide) (by omega)))]
  rw [(show own_f2_12 q = own_f2_42 q from if_neg (own_nlt 32 (by decide) (by omega)))]
  rw [(show own_f2_42 q = own_f2_56 q from if_pos (own_lt 55296 (by decide) (by omega)))]
  rw [(show own_f2_56 q = own_f2_62 q from if_neg (own_neq 65534 (by decide) (by omega)))]
  rw [(show own_f2_62 q = own_f2_70 q from if_neg (own_neq 65535 (by decide) (by omega)))]
  rfl
theorem own_iv8 (q : Int32) (h1 : 55296 ≤ q.toInt) (h2 : q.toInt ≤ 57343) : own_f1_0 q = own_f2_0 q := by
  rw [(show own_f1_0 q = own_f1_6 q from if_neg (own_neq 9 (by decide) (by omega)))]
  rw [(show own_f1_6 q = own_f1_12 q from if_neg (own_neq 10 (by decide) (by omega)))]
  rw [(show own_f1_12 q = own_f1_18 q from if_neg (own_neq 13 (by decide) (by omega)))]
  rw [(show own_f1_18 q = own_f1_24 q from if_neg (own_nlt 32 (by decide) (by omega)))]
  rw [(show own_f1_24 q = own_f1_30 q from if_pos (own_gt 55295 (by decide) (by omega)))]
  rw [(show own_f1_30 q = own_f1_42 q from if_pos (own_lt 57344 (by decide) (by omega)))]
  rw [(show own_f1_42 q = own_f1_58 q from if_pos (own_lt 65536 (by decide) (by omega)))]
  rw [(show own_f2_0 q = own_f2_4 q from if_neg (own_nlt 0 (by decide) (by omega)))]
  rw [(show own_f2_4 q = own_f2_12 q from if_neg (own_ngt 1114111 (by decide) (by omega)))]
  rw [(show own_f2_12 q = own_f2_42 q from if_neg (own_nlt 32 (by decide) (by omega)))]
  rw [(show own_f2_42 q = own_f2_48 q from if_neg (own_nlt 55296 (by decide) (by omega)))]
  rw [(show own_f2_48 q = own_f2_54 q from if_neg (own_ngt 57343 (by decide) (by omega)))]
  rfl
theorem own_iv9 (q : Int32) (h1 : 57344 ≤ q.toInt) (h2 : q.toInt ≤ 65533) : own_f1_0 q = own_f2_0 q := by
  rw [(show own_f1_0 q = own_f1_6 q from if_neg (own_neq 9 (by decide) (by omega)))]
  rw [(show own_f1_6 q = own_f1_12 q from if_neg (own_neq 10 (by decide) (by omega)))]
  rw [(show own_f1_12 q = own_f1_18 q from if_neg (own_neq 13 (by decide) (by omega)))]
  rw [(show own_f1_18 q = own_f1_24 q from if_neg (own_nlt 32 (by decide) (by omega)))]
  rw [(show own_f1_24 q = own_f1_30 q from if_pos (own_gt 55295 (by decide) (by omega)))]
  rw [(show own_f1_30 q = own_f1_36 q from if_neg (own_nlt 57344 (by decide) (by omega)))]
  rw [(show own_f1_36 q = own_f1_54 q from if_neg (own_ngt 65533 (by decide) (by omega)))]
  rw [(show own_f2_0 q = own_f2_4 q from if_neg (own_nlt 0 (by decide) (by omega)))]
  rw [(show own_f2_4 q = own_f2_12 q from if_neg (own_ngt 1114111 (by decide) (by omega)))]
  rw [(show own_f2_12 q = own_f2_42 q from if_neg (own_nlt 32 (by decide) (by omega)))]
  rw [(show own_f2_42 q = own_f2_48 q from if_neg (own_nlt 55296 (by decide) (by omega)))]
  rw [(show own_f2_48 q = own_f2_56 q from if_pos (own_gt 57343 (by decide) (by omega)))]
  rw [(show own_f2_56 q = own_f2_62 q from if_neg (own_neq 65534 (by decide) (by omega)))]
  rw [(show own_f2_62 q = own_f2_70 q from if_neg (own_neq 65535 (by decide) (by omega)))]
  rfl
theorem own_iv10 (q : Int32) (h1 : 65534 ≤ q.toInt) (h2 : q.toInt ≤ 65534) : own_f1_0 q = own_f2_0 q := by
  rw [(show own_f1_0 q = own_f1_6 q from if_neg (own_neq 9 (by decide) (by omega)))]
  rw [(show own_f1_6 q = own_f1_12 q from if_neg (own_neq 10 (by decide) (by omega)))]
  rw [(show own_f1_12 q = own_f1_18 q from if_neg (own_neq 13 (by decide) (by omega)))]
  rw [(show own_f1_18 q = own_f1_24 q from if_neg (own_nlt 32 (by decide) (by omega)))]
  rw [(show own_f1_24 q = own_f1_30 q from if_pos (own_gt 55295 (by decide) (by omega)))]
  rw [(show own_f1_30 q = own_f1_36 q from if_neg (own_nlt 57344 (by decide) (by omega)))]
  rw [(show own_f1_36 q = own_f1_42 q from if_pos (own_gt 65533 (by decide) (by omega)))]
  rw [(show own_f1_42 q = own_f1_58 q from if_pos (own_lt 65536 (by decide) (by omega)))]
  rw [(show own_f2_0 q = own_f2_4 q from if_neg (own_nlt 0 (by decide) (by omega)))]
  rw [(show own_f2_4 q = own_f2_12 q from if_neg (own_ngt 1114111 (by decide) (by omega)))]
  rw [(show own_f2_12 q = own_f2_42 q from if_neg (own_nlt 32 (by decide) (by omega)))]
  rw [(show own_f2_42 q = own_f2_48 q from if_neg (own_nlt 55296 (by decide) (by omega)))]
  rw [(show own_f2_48 q = own_f2_56 q from if_pos (own_gt 57343 (by decide) (by omega)))]
  rw [(show own_f2_56 q = own_f2_68 q from if_pos (own_eq 65534 (by decide) (by omega)))]
  rfl
theorem own_iv11 (q : Int32) (h1 : 65535 ≤ q.toInt) (h2 : q.toInt ≤ 65535) : own_f1_0 q = own_f2_0 q := by
  rw [(show own_f1_0 q = own_f1_6 q from if_neg (own_neq 9 (by decide) (by omega)))]
  rw [(show own_f1_6 q = own_f1_12 q from if_neg (own_neq 10 (by decide) (by omega)))]
  rw [(show own_f1_12 q = own_f1_18 q from if_neg (own_neq 13 (by decide) (by omega)))]
  rw [(show own_f1_18 q = own_f1_24 q from if_neg (own_nlt 32 (by decide) (by omega)))]
  rw [(show own_f1_24 q = own_f1_30 q from if_pos (own_gt 55295 (by decide) (by omega)))]
  rw [(show own_f1_30 q = own_f1_36 q from if_neg (own_nlt 57344 (by decide) (by omega)))]
  rw [(show own_f1_36 q = own_f1_42 q from if_pos (own_gt 65533 (by decide) (by omega)))]
  rw [(show own_f1_42 q = own_f1_58 q from if_pos (own_lt 65536 (by decide) (by omega)))]
  rw [(show own_f2_0 q = own_f2_4 q from if_neg (own_nlt 0 (by decide) (by omega)))]
  rw [(show own_f2_4 q = own_f2_12 q from if_neg (own_ngt 1114111 (by decide) (by omega)))]
  rw [(show own_f2_12 q = own_f2_42 q from if_neg (own_nlt 32 (by decide) (by omega)))]
  rw [(show own_f2_42 q = own_f2_48 q from if_neg (own_nlt 55296 (by decide) (by omega)))]
  rw [(show own_f2_48 q = own_f2_56 q from if_pos (own_gt 57343 (by decide) (by omega)))]
  rw [(show own_f2_56 q = own_f2_62 q from if_neg (own_neq 65534 (by decide) (by omega)))]
  rw [(show own_f2_62 q = own_f2_68 q from if_pos (own_eq 65535 (by decide) (by omega)))]
  rfl
theorem own_iv12 (q : Int32) (h1 : 65536 ≤ q.toInt) (h2 : q.toInt ≤ 1114111) : own_f1_0 q = own_f2_0 q := by
  rw [(show own_f1_0 q = own_f1_6 q from if_neg (own_neq 9 (by decide) (by omega)))]
  rw [(show own_f1_6 q = own_f1_12 q from if_neg (own_neq 10 (by decide) (by omega)))]
  rw [(show own_f1_12 q = own_f1_18 q from if_neg (own_neq 13 (by decide) (by omega)))]
  rw [(show own_f1_18 q = own_f1_24 q from if_neg (own_nlt 32 (by decide) (by omega)))]
  rw [(show own_f1_24 q = own_f1_30 q from if_pos (own_gt 55295 (by decide) (by omega)))]
  rw [(show own_f1_30 q = own_f1_36 q from if_neg (own_nlt 57344 (by decide) (by omega)))]
  rw [(show own_f1_36 q = own_f1_42 q from if_pos (own_gt 65533 (by decide) (by omega)))]
  rw [(show own_f1_42 q = own_f1_48 q from if_neg (own_nlt 65536 (by decide) (by omega)))]
  rw [(show own_f1_48 q = own_f1_54 q from if_neg (own_ngt 1114111 (by decide) (by omega)))]
  rw [(show own_f2_0 q = own_f2_4 q from if_neg (own_nlt 0 (by decide) (by omega)))]
  rw [(show own_f2_4 q = own_f2_12 q from if_neg (own_ngt 1114111 (by decide) (by omega)))]
  rw [(show own_f2_12 q = own_f2_42 q from if_neg (own_nlt 32 (by decide) (by omega)))]
  rw [(show own_f2_42 q = own_f2_48 q from if_neg (own_nlt 55296 (by decide) (by omega)))]
  rw [(show own_f2_48 q = own_f2_56 q from if_pos (own_gt 57343 (by decide) (by omega)))]
  rw [(show own_f2_56 q = own_f2_62 q from if_neg (own_neq 65534 (by decide) (by omega)))]
  rw [(show own_f2_62 q = own_f2_70 q from if_neg (own_neq 65535 (by decide) (by omega)))]
  rfl
theorem own_iv13 (q : Int32) (h1 : 1114112 ≤ q.toInt) (h2 : q.toInt ≤ 2147483647) : own_f1_0 q = own_f2_0 q := by
  rw [(show own_f1_0 q = own_f1_6 q from if_neg (own_neq 9 (by decide) (by omega)))]
  rw [(show own_f1_6 q = own_f1_12 q from if_neg (own_neq 10 (by decide) (by omega)))]
  rw [(show own_f1_12 q = own_f1_18 q from if_neg (own_neq 13 (by decide) (by omega)))]
  rw [(show own_f1_18 q = own_f1_24 q from if_neg (own_nlt 32 (by decide) (by omega)))]
  rw [(show own_f1_24 q = own_f1_30 q from if_pos (own_gt 55295 (by decide) (by omega)))]
  rw [(show own_f1_30 q = own_f1_36 q from if_neg (own_nlt 57344 (by decide) (by omega)))]
  rw [(show own_f1_36 q = own_f1_42 q from if_pos (own_gt 65533 (by decide) (by omega)))]
  rw [(show own_f1_42 q = own_f1_48 q from if_neg (own_nlt 65536 (by decide) (by omega)))]
  rw [(show own_f1_48 q = own_f1_58 q from if_pos (own_gt 1114111 (by decide) (by omega)))]
  rw [(show own_f2_0 q = own_f2_4 q from if_neg (own_nlt 0 (by decide) (by omega)))]
  rw [(show own_f2_4 q = own_f2_10 q from if_pos (own_gt 1114111 (by decide) (by omega)))]
  rfl
theorem own_law (q : Int32) : own_f1_0 q = own_f2_0 q := by
  have r1 := q.le_toInt
  have r2 := q.toInt_lt
  by_cases c0 : q.toInt ≤ (-1)
  · exact own_iv0 q (by omega) c0
  by_cases c1 : q.toInt ≤ 8
  · exact own_iv1 q (by omega) c1
  by_cases c2 : q.toInt ≤ 9
  · exact own_iv2 q (by omega) c2
  by_cases c3 : q.toInt ≤ 10
  · exact own_iv3 q (by omega) c3
  by_cases c4 : q.toInt ≤ 12
  · exact own_iv4 q (by omega) c4
  by_cases c5 : q.toInt ≤ 13
  · exact own_iv5 q (by omega) c5
  by_cases c6 : q.toInt ≤ 31
  · exact own_iv6 q (by omega) c6
  by_cases c7 : q.toInt ≤ 55295
  · exact own_iv7 q (by omega) c7
  by_cases c8 : q.toInt ≤ 57343
  · exact own_iv8 q (by omega) c8
  by_cases c9 : q.toInt ≤ 65533
  · exact own_iv9 q (by omega) c9
  by_cases c10 : q.toInt ≤ 65534
  · exact own_iv10 q (by omega) c10
  by_cases c11 : q.toInt ≤ 65535
  · exact own_iv11 q (by omega) c11
  by_cases c12 : q.toInt ≤ 1114111
  · exact own_iv12 q (by omega) c12
  exact own_iv13 q (by omega) (by omega)
theorem own_fit {v : Value} (h : fits .int v = true) : ∃ w, v = .int w := by cases v <;> first | exact ⟨_, rfl⟩ | (simp [fits] at h)
theorem own_ix (y : Int32) (n : Int32) (k : Int) (hn : n.toInt = k) (hk : 0 < k) : ¬ ((y &&& (2147483647 : Int32)) % n) < 0 ∧ ((y &&& (2147483647 : Int32)) % n) < n := by
  have h1 := c_mask y (2147483647 : Int32) 31 (by decide) (by decide)
  have h2 := (c_irem (y &&& (2147483647 : Int32)) n k hn).1 (by rw [h1]; omega)
  have h3 := Int.emod_nonneg (y &&& (2147483647 : Int32)).toInt (show k ≠ 0 by omega)
  have h4 := Int.emod_lt_of_pos (y &&& (2147483647 : Int32)).toInt hk
  have e0 : (0 : Int32).toInt = 0 := by decide
  rw [Int32.lt_iff_toInt_lt, Int32.lt_iff_toInt_lt, h2, e0, hn]
  omega
theorem pn_0 : plainName "com/example/exqel/exqel/value/XmlCharsIsCharPinLaw" = true := by first | (simp [plainName, overriddenIn]; done) | decide +kernel
theorem pd_0_0 : parseMethodDescriptor "(I)Z" = some ⟨[.int], some .boolean⟩ := by decide +kernel
theorem ef_0 (m : MethodId) (x0 : Int32) (x1 : Int32) (x2 : Int32) : entryFrame m #[(.int x0), (.int x1), (.int x2)] maxLocals = mkF m 0 #[.val (.int x0), .val (.int x1), .val (.int x2), .unset, .unset, .unset, .unset, .unset, .unset] [] := by first | (simp [entryFrame, mkF, argsToLocals, Value.category, maxLocals]; done) | rfl
def Q0 (Z : State) (p1 : Int32) (p2 : Int32) (p3 : Int32) (h0 : Heap) (n0 : Nat) (v : Option Value) (h : Heap) (L : List Loc) : Prop := v = some (.int (1 : Int32)) ∧ Fr n0 L
set_option maxRecDepth 65536 in
set_option maxHeartbeats 40000000 in
theorem rm0 (l : Launch) (Z : State) (a0 : Array Value) (hw : ∀ d ∈ tables_1, d.before a0 Z = true) (ws : List Jvm.Cond) (p1 : Int32) (p2 : Int32) (p3 : Int32) (h0 : Heap) (n0 : Nat) (Z0 : n0 ≤ h0.size) (hc158 : ¬ ((1 : Int32) = (0 : Int32))) (hc163 : ¬ ((1 : Int32) = (0 : Int32))) :
    MetFree l x (head1 (Jvm.Cond.code x code maxLocals ret :: ws) room_1) (fun a U => a = #[(.int p1), (.int p2), (.int p3)] ∧ Z.Warmed39 U.vm ∧ U.heap = h0) (fun _ _ _ _ _ => True) (fun _ U o U' => ∃ v L, o = .returned v ∧ Q0 Z p1 p2 p3 h0 n0 v U'.heap L ∧ FrameEnd U o U' L room_1.cells room_1.slots) := by
  refine MetFree.of_bodySF (plainFor_of_name pn_0) hisR ?_
  intro p e s m args below meth c s₁ Bd hml0 hP hK
  obtain ⟨rfl, hZ, hh⟩ := hP
  have hx := Bd.exec
  have hby := Bd.bytes
  have hml : c.maxLocals = 9 := hml0
  have hown : s.vm.findClass "com/example/exqel/exqel/value/XmlCharsIsCharPinLaw" = some m.cls := findClass_of_methodNamed Bd.named
  have hnm := (name_of_methodNamed Bd.named Bd.method).1
  have X0 : Stand p l e room_1 s m #[(.int p1), (.int p2), (.int p3)] below meth c s₁ [] 0 0 := Stand.of_body Bd
  have e0 : s₁.heap = h0 := by rw [← hh, Bd.state]; rfl
  have N0 := Fr.nil n0
  have pre0 : ∀ t, Steps p.tables e below (s₁.setTop (mkF m 0 #[.val (.int p1), .val (.int p2), .val (.int p3), .unset, .unset, .unset, .unset, .unset, .unset] [])) t → Steps p.tables e below (s₁.setTop (entryFrame m #[(.int p1), (.int p2), (.int p3)] maxLocals)) t := fun t k => castTop (ef_0 m p1 p2 p3) k
  obtain ⟨_, _, ⟨T4, L4, k4, n4⟩, -, X4, ⟨Lc4, hQ4, l4, y4, z4⟩, st4⟩ := Jvm.LawKit.callS X0 hx (y := (⟨"com/example/exqel/exqel/value/XmlChars", "isChar", "(I)Z"⟩ : MethodName)) hown (mvT hZ (hw _ (List.mem_of_getElem? (i := 0) rfl))) (mvT hZ (hw _ (List.mem_of_getElem? (i := 1) rfl))) (mvT hZ (hw _ (List.mem_of_getElem? (i := 2) rfl))) (mvT hZ (hw _ (List.mem_of_getElem? (i := 3) rfl))) (by decide) (backOf (W := 0) (rm1 l Z a0 hw [] p1 h0 n0 Z0) hZ (hw _ (List.mem_of_getElem? (i := 3) rfl)) (hw _ (List.mem_of_getElem? (i := 2) rfl)) (by decide) (by decide)) (g := (mkF m 1 #[.val (.int p1), .val (.int p2), .val (.int p3), .unset, .unset, .unset, .unset, .unset, .unset] [(.int p1)])) rfl (by rw [hml]; rfl) (argsL := [(.int p1)]) (rest := []) (lenOf pd_0_0 rfl) rfl (by show 2 * 0 + _ ≤ _; exact Nat.le_of_eq rfl) (hb hby at_1) (fun _ _ => ⟨rfl, e0, (by decide : 0 + 0 ≤ _), (by decide : 0 + 0 ≤ _)⟩)
  dsimp only [Pt.U, Pt.locs, Pt.cells, Pt.slots] at X4 l4 y4 z4 st4 hQ4
  subst l4 y4 z4
  obtain ⟨rfl, N4q, q4e⟩ := hQ4
  have Z4 : n0 ≤ T4.heap.size := by rw [q4e]; exact Z0
  have N4 := Fr.app N0 N4q
  obtain ⟨_, _, ⟨T5, L5, k5, n5⟩, -, X5, ⟨Lc5, hQ5, l5, y5, z5⟩, st5⟩ := Jvm.LawKit.callS X4 hx (y := (⟨"com/example/exqel/exqel/value/XmlCharsIsCharPinLaw", "ref", "(I)Z"⟩ : MethodName)) hown (mvT hZ (hw _ (List.mem_of_getElem? (i := 6) rfl))) (mvT hZ (hw _ (List.mem_of_getElem? (i := 7) rfl))) (mvT hZ (hw _ (List.mem_of_getElem? (i := 8) rfl))) (mvT hZ (hw _ (List.mem_of_getElem? (i := 9) rfl))) (by decide) (backOf (W := 1) (rm2 l Z a0 hw [] p1 T4.heap n0 Z4) hZ (hw _ (List.mem_of_getElem? (i := 9) rfl)) (hw _ (List.mem_of_getElem? (i := 8) rfl)) (by decide) (by decide)) (g := (mkF m 5 #[.val (.int p1), .val (.int p2), .val (.int p3), .unset, .unset, .unset, .unset, .unset, .unset] [(.int p1), (.int (own_f1_0 p1))])) rfl (by rw [hml]; rfl) (argsL := [(.int p1)]) (rest := [(.int (own_f1_0 p1))]) (lenOf pd_0_0 rfl) rfl (by show 2 * 0 + _ ≤ _; exact Nat.le_of_eq rfl) (hb hby at_5) (fun _ _ => ⟨rfl, rfl, (by decide : 0 + 0 ≤ _), (by decide : 0 + 0 ≤ _)⟩)
  dsimp only [Pt.U, Pt.locs, Pt.cells, Pt.slots] at X5 l5 y5 z5 st5 hQ5
  subst l5 y5 z5
  obtain ⟨rfl, N5q, q5e⟩ := hQ5
  have Z5 : n0 ≤ T5.heap.size := by rw [q5e]; exact Z4
  have N5 := Fr.app N4 N5q
  obtain ⟨T6, h6, k6, X6, e6, E6, A6, st6⟩ := newP X5 hx hZ (hw _ (List.mem_of_getElem? (i := 11) rfl)) rfl (g := (mkF m 19 #[.val (.int p1), .val (.int p2), .val (.int p3), .val (.int (1 : Int32)), .unset, .unset, .unset, .unset, .unset] [(.int (15 : Int32))])) rfl (hb hby at_19) rfl (by decide) (cap := 15) (by decide) (by decide) (by decide) (by decide)
  obtain ⟨b6, g6⟩ : ∃ z, z = T5.heap.size := ⟨_, rfl⟩
  rw [← g6] at A6 st6
  have V_b6 : Arv Z h6 b6 k6 .int (15 : Int32) [(.int (0 : Int32)), (.int (0 : Int32)), (.int (0 : Int32)), (.int (0 : Int32)), (.int (0 : Int32)), (.int (0 : Int32)), (.int (0 : Int32)), (.int (0 : Int32)), (.int (0 : Int32)), (.int (0 : Int32)), (.int (0 : Int32)), (.int (0 : Int32)), (.int (0 : Int32)), (.int (0 : Int32)), (.int (0 : Int32))] (.int (0 : Int32)) := (Arv.new A6 (by decide)).pad (pad_rep [] (.int (0 : Int32)) 15)
  have g_b6 : n0 ≤ b6 := Nat.le_trans Z5 (Nat.le_of_eq g6.symm)
  obtain ⟨cl_b6_24, Ar_b6, q_b6, S_b6, N_b6, H_b6, G_b6⟩ := V_b6
  have hin24 : ¬ ((0 : Int32) < 0 ∨ cl_b6_24.slots.size ≤ ((0 : Int32)).toNatClampNeg) := inb_of S_b6 ⟨by decide, by decide⟩
  obtain ⟨T7, h7, X7, e7, W7, st7⟩ := stI X6 hx hZ e6 Ar_b6 (j := (0 : Int32)) hin24 (g := (mkF m 24 #[.val (.int p1), .val (.int p2), .val (.int p3), .val (.int (1 : Int32)), .unset, .unset, .unset, .unset, .unset] [(.int (0 : Int32)), (.int (0 : Int32)), (.ref b6), (.ref b6)])) rfl rfl (hb hby at_24)
  have V_b6_7 := Arv.set Ar_b6 q_b6 S_b6 N_b6 H_b6 G_b6 rfl W7 0 rfl (Nat.le_of_ble_eq_true rfl)
  have N7 := Fr.snoc X7 N5 g_b6
  obtain ⟨cl_b6_29, Ar_b6, q_b6, S_b6, N_b6, H_b6, G_b6⟩ := V_b6_7
  have hin29 : ¬ ((1 : Int32) < 0 ∨ cl_b6_29.slots.size ≤ ((1 : Int32)).toNatClampNeg) := inb_of S_b6 ⟨by decide, by decide⟩
  obtain ⟨T8, h8, X8, e8, W8, st8⟩ := stI X7 hx hZ e7 Ar_b6 (j := (1 : Int32)) hin29 (g := (mkF m 29 #[.val (.int p1), .val (.int p2), .val (.int p3), .val (.int (1 : Int32)), .unset, .unset, .unset, .unset, .unset] [(.int (9 : Int32)), (.int (1 : Int32)), (.ref b6), (.ref b6)])) rfl rfl (hb hby at_29)
  have V_b6_8 := Arv.set Ar_b6 q_b6 S_b6 N_b6 H_b6 G_b6 rfl W8 1 rfl (Nat.le_of_ble_eq_true rfl)
  have N8 := Fr.snoc X8 N7 g_b6
  obtain ⟨cl_b6_34, Ar_b6, q_b6, S_b6, N_b6, H_b6, G_b6⟩ := V_b6_8
  have hin34 : ¬ ((2 : Int32) < 0 ∨ cl_b6_34.slots.size ≤ ((2 : Int32)).toNatClampNeg) := inb_of S_b6 ⟨by decide, by decide⟩
  obtain ⟨T9, h9, X9, e9, W9, st9⟩ := stI X8 hx hZ e8 Ar_b6 (j := (2 : Int32)) hin34 (g := (mkF m 34 #[.val (.int p1), .val (.int p2), .val (.int p3), .val (.int (1 : Int32)), .unset, .unset, .unset, .unset, .unset] [(.int (10 : Int32)), (.int (2 : Int32)), (.ref b6), (.ref b6)])) rfl rfl (hb hby at_34)
  have V_b6_9 := Arv.set Ar_b6 q_b6 S_b6 N_b6 H_b6 G_b6 rfl W9 2 rfl (Nat.le_of_ble_eq_true rfl)
  have N9 := Fr.snoc X9 N8 g_b6
  obtain ⟨cl_b6_39, Ar_b6, q_b6, S_b6, N_b6, H_b6, G_b6⟩ := V_b6_9
  have hin39 : ¬ ((3 : Int32) < 0 ∨ cl_b6_39.slots.size ≤ ((3 : Int32)).toNatClampNeg) := inb_of S_b6 ⟨by decide, by decide⟩
  obtain ⟨T10, h10, X10, e10, W10, st10⟩ := stI X9 hx hZ e9 Ar_b6 (j := (3 : Int32)) hin39 (g := (mkF m 39 #[.val (.int p1), .val (.int p2), .val (.int p3), .val (.int (1 : Int32)), .unset, .unset, .unset, .unset, .unset] [(.int (13 : Int32)), (.int (3 : Int32)), (.ref b6), (.ref b6)])) rfl rfl (hb hby at_39)
  have V_b6_10 := Arv.set Ar_b6 q_b6 S_b6 N_b6 H_b6 G_b6 rfl W10 3 rfl (Nat.le_of_ble_eq_true rfl)
  have N10 := Fr.snoc X10 N9 g_b6
  obtain ⟨cl_b6_44, Ar_b6, q_b6, S_b6, N_b6, H_b6, G_b6⟩ := V_b6_10
  have hin44 : ¬ ((4 : Int32) < 0 ∨ cl_b6_44.slots.size ≤ ((4 : Int32)).toNatClampNeg) := inb_of S_b6 ⟨by decide, by decide⟩
  obtain ⟨T11, h11, X11, e11, W11, st11⟩ := stI X10 hx hZ e10 Ar_b6 (j := (4 : Int32)) hin44 (g := (mkF m 44 #[.val (.int p1), .val (.int p2), .val (.int p3), .val (.int (1 : Int32)), .unset, .unset, .unset, .unset, .unset] [(.int (32 : Int32)), (.int (4 : Int32)), (.ref b6), (.ref b6)])) rfl rfl (hb hby at_44)
  have V_b6_11 := Arv.set Ar_b6 q_b6 S_b6 N_b6 H_b6 G_b6 rfl W11 4 rfl (Nat.le_of_ble_eq_true rfl)
  have N11 := Fr.snoc X11 N10 g_b6
  obtain ⟨cl_b6_49, Ar_b6, q_b6, S_b6, N_b6, H_b6, G_b6⟩ := V_b6_11
  have hin49 : ¬ ((5 : Int32) < 0 ∨ cl_b6_49.slots.size ≤ ((5 : Int32)).toNatClampNeg) := inb_of S_b6 ⟨by decide, by decide⟩
  obtain ⟨T12, h12, X12, e12, W12, st12⟩ := stI X11 hx hZ e11 Ar_b6 (j := (5 : Int32)) hin49 (g := (mkF m 49 #[.val (.int p1), .val (.int p2), .val (.int p3), .val (.int (1 : Int32)), .unset, .unset, .unset, .unset, .unset] [(.int (55295 : Int32)), (.int (5 : Int32)), (.ref b6), (.ref b6)])) rfl rfl (hb hby at_49)
  have V_b6_12 := Arv.set Ar_b6 q_b6 S_b6 N_b6 H_b6 G_b6 rfl W12 5 rfl (Nat.le_of_ble_eq_true rfl)
  have N12 := Fr.snoc X12 N11 g_b6
  obtain ⟨cl_b6_55, Ar_b6, q_b6, S_b6, N_b6, H_b6, G_b6⟩ := V_b6_12
  have hin55 : ¬ ((6 : Int32) < 0 ∨ cl_b6_55.slots.size ≤ ((6 : Int32)).toNatClampNeg) := inb_of S_b6 ⟨by decide, by decide⟩
  obtain ⟨T13, h13, X13, e13, W13, st13⟩ := stI X12 hx hZ e12 Ar_b6 (j := (6 : Int32)) hin55 (g := (mkF m 55 #[.val (.int p1), .val (.int p2), .val (.int p3), .val (.int (1 : Int32)), .unset, .unset, .unset, .unset, .unset] [(.int (55296 : Int32)), (.int (6 : Int32)), (.ref b6), (.ref b6)])) rfl rfl (hb hby at_55)
  have V_b6_13 := Arv.set Ar_b6 q_b6 S_b6 N_b6 H_b6 G_b6 rfl W13 6 rfl (Nat.le_of_ble_eq_true rfl)
  have N13 := Fr.snoc X13 N12 g_b6
  obtain ⟨cl_b6_61, Ar_b6, q_b6, S_b6, N_b6, H_b6, G_b6⟩ := V_b6_13
  have hin61 : ¬ ((7 : Int32) < 0 ∨ cl_b6_61.slots.size ≤ ((7 : Int32)).toNatClampNeg) := inb_of S_b6 ⟨by decide, by decide⟩
  obtain ⟨T14, h14, X14, e14, W14, st14⟩ := stI X13 hx hZ e13 Ar_b6 (j := (7 : Int32)) hin61 (g := (mkF m 61 #[.val (.int p1), .val (.int p2), .val (.int p3), .val (.int (1 : Int32)), .unset, .unset, .unset, .unset, .unset] [(.int (57343 : Int32)), (.int (7 : Int32)), (.ref b6), (.ref b6)])) rfl rfl (hb hby at_61)
  have V_b6_14 := Arv.set Ar_b6 q_b6 S_b6 N_b6 H_b6 G_b6 rfl W14 7 rfl (Nat.le_of_ble_eq_true rfl)
  have N14 := Fr.snoc X14 N13 g_b6
  obtain ⟨cl_b6_67, Ar_b6, q_b6, S_b6, N_b6, H_b6, G_b6⟩ := V_b6_14
  have hin67 : ¬ ((8 : Int32) < 0 ∨ cl_b6_67.slots.size ≤ ((8 : Int32)).toNatClampNeg) := inb_of S_b6 ⟨by decide, by decide⟩
  obtain ⟨T15, h15, X15, e15, W15, st15⟩ := stI X14 hx hZ e14 Ar_b6 (j := (8 : Int32)) hin67 (g := (mkF m 67 #[.val (.int p1), .val (.int p2), .val (.int p3), .val (.int (1 : Int32)), .unset, .unset, .unset, .unset, .unset] [(.int (57344 : Int32)), (.int (8 : Int32)), (.ref b6), (.ref b6)])) rfl rfl (hb hby at_67)
  have V_b6_15 := Arv.set Ar_b6 q_b6 S_b6 N_b6 H_b6 G_b6 rfl W15 8 rfl (Nat.le_of_ble_eq_true rfl)
  have N15 := Fr.snoc X15 N14 g_b6
  obtain ⟨cl_b6_73, Ar_b6, q_b6, S_b6, N_b6, H_b6, G_b6⟩ := V_b6_15
  have hin73 : ¬ ((9 : Int32) < 0 ∨ cl_b6_73.slots.size ≤ ((9 : Int32)).toNatClampNeg) := inb_of S_b6 ⟨by decide, by decide⟩
  obtain ⟨T16, h16, X16, e16, W16, st16⟩ := stI X15 hx hZ e15 Ar_b6 (j := (9 : Int32)) hin73 (g := (mkF m 73 #[.val (.int p1), .val (.int p2), .val (.int p3), .val (.int (1 : Int32)), .unset, .unset, .unset, .unset, .unset] [(.int (65533 : Int32)), (.int (9 : Int32)), (.ref b6), (.ref b6)])) rfl rfl (hb hby at_73)
  have V_b6_16 := Arv.set Ar_b6 q_b6 S_b6 N_b6 H_b6 G_b6 rfl W16 9 rfl (Nat.le_of_ble_eq_true rfl)
  have N16 := Fr.snoc X16 N15 g_b6
  obtain ⟨cl_b6_79, Ar_b6, q_b6, S_b6, N_b6, H_b6, G_b6⟩ := V_b6_16
  have hin79 : ¬ ((10 : Int32) < 0 ∨ cl_b6_79.slots.size ≤ ((10 : Int32)).toNatClampNeg) := inb_of S_b6 ⟨by decide, by decide⟩
  obtain ⟨T17, h17, X17, e17, W17, st17⟩ := stI X16 hx hZ e16 Ar_b6 (j := (10 : Int32)) hin79 (g := (mkF m 79 #[.val (.int p1), .val (.int p2), .val (.int p3), .val (.int (1 : Int32)), .unset, .unset, .unset, .unset, .unset] [(.int (65535 : Int32)), (.int (10 : Int32)), (.ref b6), (.ref b6)])) rfl rfl (hb hby at_79)
  have V_b6_17 := Arv.set Ar_b6 q_b6 S_b6 N_b6 H_b6 G_b6 rfl W17 10 rfl (Nat.le_of_ble_eq_true rfl)
  have N17 := Fr.snoc X17 N16 g_b6
  obtain ⟨cl_b6_85, Ar_b6, q_b6, S_b6, N_b6, H_b6, G_b6⟩ := V_b6_17
  have hin85 : ¬ ((11 : Int32) < 0 ∨ cl_b6_85.slots.size ≤ ((11 : Int32)).toNatClampNeg) := inb_of S_b6 ⟨by decide, by decide⟩
  obtain ⟨T18, h18, X18, e18, W18, st18⟩ := stI X17 hx hZ e17 Ar_b6 (j := (11 : Int32)) hin85 (g := (mkF m 85 #[.val (.int p1), .val (.int p2), .val (.int p3), .val (.int (1 : Int32)), .unset, .unset, .unset, .unset, .unset] [(.int (65536 : Int32)), (.int (11 : Int32)), (.ref b6), (.ref b6)])) rfl rfl (hb hby at_85)
  have V_b6_18 := Arv.set Ar_b6 q_b6 S_b6 N_b6 H_b6 G_b6 rfl W18 11 rfl (Nat.le_of_ble_eq_true rfl)
  have N18 := Fr.snoc X18 N17 g_b6
  obtain ⟨cl_b6_91, Ar_b6, q_b6, S_b6, N_b6, H_b6, G_b6⟩ := V_b6_18
  have hin91 : ¬ ((12 : Int32) < 0 ∨ cl_b6_91.slots.size ≤ ((12 : Int32)).toNatClampNeg) := inb_of S_b6 ⟨by decide, by decide⟩
  obtain ⟨T19, h19, X19, e19, W19, st19⟩ := stI X18 hx hZ e18 Ar_b6 (j := (12 : Int32)) hin91 (g := (mkF m 91 #[.val (.int p1), .val (.int p2), .val (.int p3), .val (.int (1 : Int32)), .unset, .unset, .unset, .unset, .unset] [(.int (1114111 : Int32)), (.int (12 : Int32)), (.ref b6), (.ref b6)])) rfl rfl (hb hby at_91)
  have V_b6_19 := Arv.set Ar_b6 q_b6 S_b6 N_b6 H_b6 G_b6 rfl W19 12 rfl (Nat.le_of_ble_eq_true rfl)
  have N19 := Fr.snoc X19 N18 g_b6
  obtain ⟨cl_b6_97, Ar_b6, q_b6, S_b6, N_b6, H_b6, G_b6⟩ := V_b6_19
  have hin97 : ¬ ((13 : Int32) < 0 ∨ cl_b6_97.slots.size ≤ ((13 : Int32)).toNatClampNeg) := inb_of S_b6 ⟨by decide, by decide⟩
  obtain ⟨T20, h20, X20, e20, W20, st20⟩ := stI X19 hx hZ e19 Ar_b6 (j := (13 : Int32)) hin97 (g := (mkF m 97 #[.val (.int p1), .val (.int p2), .val (.int p3), .val (.int (1 : Int32)), .unset, .unset, .unset, .unset, .unset] [(.int (-2147483648 : Int32)), (.int (13 : Int32)), (.ref b6), (.ref b6)])) rfl rfl (hb hby at_97)
  have V_b6_20 := Arv.set Ar_b6 q_b6 S_b6 N_b6 H_b6 G_b6 rfl W20 13 rfl (Nat.le_of_ble_eq_true rfl)
  have N20 := Fr.snoc X20 N19 g_b6
  obtain ⟨cl_b6_103, Ar_b6, q_b6, S_b6, N_b6, H_b6, G_b6⟩ := V_b6_20
  have hin103 : ¬ ((14 : Int32) < 0 ∨ cl_b6_103.slots.size ≤ ((14 : Int32)).toNatClampNeg) := inb_of S_b6 ⟨by decide, by decide⟩
  obtain ⟨T21, h21, X21, e21, W21, st21⟩ := stI X20 hx hZ e20 Ar_b6 (j := (14 : Int32)) hin103 (g := (mkF m 103 #[.val (.int p1), .val (.int p2), .val (.int p3), .val (.int (1 : Int32)), .unset, .unset, .unset, .unset, .unset] [(.int (2147483647 : Int32)), (.int (14 : Int32)), (.ref b6), (.ref b6)])) rfl rfl (hb hby at_103)
  have V_b6_21 := Arv.set Ar_b6 q_b6 S_b6 N_b6 H_b6 G_b6 rfl W21 14 rfl (Nat.le_of_ble_eq_true rfl)
  have N21 := Fr.snoc X21 N20 g_b6
  obtain ⟨cl_b6_112, Ar_b6, -, S_b6, N_b6, H_b6, G_b6⟩ := V_b6_21
  have hin131 := inb_of (j := ((p2 &&& (2147483647 : Int32)) % (15 : Int32))) S_b6 (own_ix p2 (15 : Int32) 15 (by decide) (by decide))
  have hlt131 : (((p2 &&& (2147483647 : Int32)) % (15 : Int32))).toNatClampNeg < cl_b6_112.slots.size := Nat.lt_of_not_le fun q => hin131 (Or.inr q)
  obtain ⟨w22, hw22⟩ := own_fit (G_b6 _ hlt131)
  have hat131 : cl_b6_112.slots[(((p2 &&& (2147483647 : Int32)) % (15 : Int32))).toNatClampNeg]? = some (.int w22) := by rw [H_b6 _ hlt131, hw22]
  have Z21 : n0 ≤ h21.size := Nat.le_of_lt (Nat.lt_of_le_of_lt g_b6 Ar_b6.lt)
  obtain ⟨_, _, ⟨T23, L23, k23, n23⟩, -, X23, ⟨Lc23, hQ23, l23, y23, z23⟩, st23⟩ := Jvm.LawKit.callS X21 hx (y := (⟨"com/example/exqel/exqel/value/XmlChars", "isChar", "(I)Z"⟩ : MethodName)) hown (mvT hZ (hw _ (List.mem_of_getElem? (i := 0) rfl))) (mvT hZ (hw _ (List.mem_of_getElem? (i := 1) rfl))) (mvT hZ (hw _ (List.mem_of_getElem? (i := 2) rfl))) (mvT hZ (hw _ (List.mem_of_getElem? (i := 3) rfl))) (by decide) (backOf (W := 0) (rm1 l Z a0 hw [] (w22 + (((p3 &&& (2147483647 : Int32)) % (7 : Int32)) - (3 : Int32))) h21 n0 Z21) hZ (hw _ (List.mem_of_getElem? (i := 3) rfl)) (hw _ (List.mem_of_getElem? (i := 2) rfl)) (by decide) (by decide)) (g := (mkF m 139 #[.val (.int p1), .val (.int p2), .val (.int p3), .val (.int (1 : Int32)), .val (.ref b6), .val (.int ((p2 &&& (2147483647 : Int32)) % (15 : Int32))), .val (.int (((p3 &&& (2147483647 : Int32)) % (7 : Int32)) - (3 : Int32))), .val (.int (w22 + (((p3 &&& (2147483647 : Int32)) % (7 : Int32)) - (3 : Int32)))), .unset] [(.int (w22 + (((p3 &&& (2147483647 : Int32)) % (7 : Int32)) - (3 : Int32))))])) rfl (by rw [hml]; rfl) (argsL := [(.int (w22 + (((p3 &&& (2147483647 : Int32)) % (7 : Int32)) - (3 : Int32))))]) (rest := []) (lenOf pd_0_0 rfl) rfl (by show 2 * 0 + _ ≤ _; exact Nat.le_of_eq rfl) (hb hby at_139) (fun _ _ => ⟨rfl, e21, (by decide : 1 + 0 ≤ _), (by decide : 15 + 0 ≤ _)⟩)
  dsimp only [Pt.U, Pt.locs, Pt.cells, Pt.slots] at X23 l23 y23 z23 st23 hQ23
  subst l23 y23 z23
  obtain ⟨rfl, N23q, q23e⟩ := hQ23
  have Z23 : n0 ≤ T23.heap.size := by rw [q23e]; exact Z21
  have N23 := Fr.app N21 N23q
  obtain ⟨_, _, ⟨T24, L24, k24, n24⟩, -, X24, ⟨Lc24, hQ24, l24, y24, z24⟩, st24⟩ := Jvm.LawKit.callS X23 hx (y := (⟨"com/example/exqel/exqel/value/XmlCharsIsCharPinLaw", "ref", "(I)Z"⟩ : MethodName)) hown (mvT hZ (hw _ (List.mem_of_getElem? (i := 6) rfl))) (mvT hZ (hw _ (List.mem_of_getElem? (i := 7) rfl))) (mvT hZ (hw _ (List.mem_of_getElem? (i := 8) rfl))) (mvT hZ (hw _ (List.mem_of_getElem? (i := 9) rfl))) (by decide) (backOf (W := 1) (rm2 l Z a0 hw [] (w22 + (((p3 &&& (2147483647 : Int32)) % (7 : Int32)) - (3 : Int32))) T23.heap n0 Z23) hZ (hw _ (List.mem_of_getElem? (i := 9) rfl)) (hw _ (List.mem_of_getElem? (i := 8) rfl)) (by decide) (by decide)) (g := (mkF m 144 #[.val (.int p1), .val (.int p2), .val (.int p3), .val (.int (1 : Int32)), .val (.ref b6), .val (.int ((p2 &&& (2147483647 : Int32)) % (15 : Int32))), .val (.int (((p3 &&& (2147483647 : Int32)) % (7 : Int32)) - (3 : Int32))), .val (.int (w22 + (((p3 &&& (2147483647 : Int32)) % (7 : Int32)) - (3 : Int32)))), .unset] [(.int (w22 + (((p3 &&& (2147483647 : Int32)) % (7 : Int32)) - (3 : Int32)))), (.int (own_f1_0 (w22 + (((p3 &&& (2147483647 : Int32)) % (7 : Int32)) - (3 : Int32)))))])) rfl (by rw [hml]; rfl) (argsL := [(.int (w22 + (((p3 &&& (2147483647 : Int32)) % (7 : Int32)) - (3 : Int32))))]) (rest := [(.int (own_f1_0 (w22 + (((p3 &&& (2147483647 : Int32)) % (7 : Int32)) - (3 : Int32)))))]) (lenOf pd_0_0 rfl) rfl (by show 2 * 0 + _ ≤ _; exact Nat.le_of_eq rfl) (hb hby at_144) (fun _ _ => ⟨rfl, rfl, (by decide : 1 + 0 ≤ _), (by decide : 15 + 0 ≤ _)⟩)
  dsimp only [Pt.U, Pt.locs, Pt.cells, Pt.slots] at X24 l24 y24 z24 st24 hQ24
  subst l24 y24 z24
  obtain ⟨rfl, N24q, q24e⟩ := hQ24
  have Z24 : n0 ≤ T24.heap.size := by rw [q24e]; exact Z23
  have N24 := Fr.app N23 N24q
  obtain ⟨fs, hr, hrun, hended, hW, hsame⟩ := X24.leave (v := some (.int (1 : Int32))) (fun h => by rw [Bd.returns] at h; cases h)
  refine ⟨_, _, pre0 _ ?_, hrun, hended, _, _, rfl, ?_, ⟨_, rfl⟩, hW, hsame.mono (by decide) (by decide)⟩
  · show Steps p.tables e below (s₁.setTop (mkF m 0 #[.val (.int p1), .val (.int p2), .val (.int p3), .unset, .unset, .unset, .unset, .unset, .unset] [])) _
    refine XS.iloadN X0.here hx rfl (hb hby at_0) rfl ?_
    show Steps p.tables e below (s₁.setTop (mkF m 1 #[.val (.int p1), .val (.int p2), .val (.int p3), .unset, .unset, .unset, .unset, .unset, .unset] [(.int p1)])) _
    refine st4 _ ?_
    show Steps p.tables e below (T4.setTop (mkF m 4 #[.val (.int p1), .val (.int p2), .val (.int p3), .unset, .unset, .unset, .unset, .unset, .unset] [(.int (own_f1_0 p1))])) _
    refine XS.iloadN X4.here hx rfl (hb hby at_4) rfl ?_
    show Steps p.tables e below (T4.setTop (mkF m 5 #[.val (.int p1), .val (.int p2), .val (.int p3), .unset, .unset, .unset, .unset, .unset, .unset] [(.int p1), (.int (own_f1_0 p1))])) _
    refine st5 _ ?_
    show Steps p.tables e below (T5.setTop (mkF m 8 #[.val (.int p1), .val (.int p2), .val (.int p3), .unset, .unset, .unset, .unset, .unset, .unset] [(.int (own_f2_0 p1)), (.int (own_f1_0 p1))])) _
    refine XS.icmpNo X5.here hx rfl (hb hby at_8) rfl (teq ((own_law p1) : (own_f1_0 p1) = (own_f2_0 p1))).2 ?_
    show Steps p.tables e below (T5.setTop (mkF m 11 #[.val (.int p1), .val (.int p2), .val (.int p3), .unset, .unset, .unset, .unset, .unset, .unset] [])) _
    refine XS.iconst X5.here hx rfl (hb hby at_11) ?_
    show Steps p.tables e below (T5.setTop (mkF m 12 #[.val (.int p1), .val (.int p2), .val (.int p3), .unset, .unset, .unset, .unset, .unset, .unset] [(.int (1 : Int32))])) _
    refine XS.goto X5.here hx rfl (pc0 := 12) (pc' := 16) rfl (hb hby at_12) (by decide) (by decide) ?_
    show Steps p.tables e below (T5.setTop (mkF m 16 #[.val (.int p1), .val (.int p2), .val (.int p3), .unset, .unset, .unset, .unset, .unset, .unset] [(.int (1 : Int32))])) _
    refine XS.istoreN X5.here hx rfl (hb hby at_16) rfl (l' := #[.val (.int p1), .val (.int p2), .val (.int p3), .val (.int (1 : Int32)), .unset, .unset, .unset, .unset, .unset]) rfl ?_
    show Steps p.tables e below (T5.setTop (mkF m 17 #[.val (.int p1), .val (.int p2), .val (.int p3), .val (.int (1 : Int32)), .unset, .unset, .unset, .unset, .unset] [])) _
    refine XS.bipush X5.here hx rfl (hb hby at_17) ?_
    show Steps p.tables e below (T5.setTop (mkF m 19 #[.val (.int p1), .val (.int p2), .val (.int p3), .val (.int (1 : Int32)), .unset, .unset, .unset, .unset, .unset] [(.int (15 : Int32))])) _
    refine st6 _ ?_
    show Steps p.tables e below (T6.setTop (mkF m 21 #[.val (.int p1), .val (.int p2), .val (.int p3), .val (.int (1 : Int32)), .unset, .unset, .unset, .unset, .unset] [(.ref b6)])) _
    refine XS.dup X6.here hx rfl (hb hby at_21) rfl rfl ?_
    show Steps p.tables e below (T6.setTop (mkF m 22 #[.val (.int p1), .val (.int p2), .val (.int p3), .val (.int (1 : Int32)), .unset, .unset, .unset, .unset, .unset] [(.ref b6), (.ref b6)])) _
    refine XS.iconst X6.here hx rfl (hb hby at_22) ?_
    show Steps p.tables e below (T6.setTop (mkF m 23 #[.val (.int p1), .val (.int p2), .val (.int p3), .val (.int (1 : Int32)), .unset, .unset, .unset, .unset, .unset] [(.int (0 : Int32)), (.ref b6), (.ref b6)])) _
    refine XS.iconst X6.here hx rfl (hb hby at_23) ?_
    show Steps p.tables e below (T6.setTop (mkF m 24 #[.val (.int p1), .val (.int p2), .val (.int p3), .val (.int (1 : Int32)), .unset, .unset, .unset, .unset, .unset] [(.int (0 : Int32)), (.int (0 : Int32)), (.ref b6), (.ref b6)])) _
    refine st7 _ ?_
    show Steps p.tables e below (T7.setTop (mkF m 25 #[.val (.int p1), .val (.int p2), .val (.int p3), .val (.int (1 : Int32)), .unset, .unset, .unset, .unset, .unset] [(.ref b6)])) _
    refine XS.dup X7.here hx rfl (hb hby at_25) rfl rfl ?_
    show Steps p.tables e below (T7.setTop (mkF m 26 #[.val (.int p1), .val (.int p2), .val (.int p3), .val (.int (1 : Int32)), .unset, .unset, .unset, .unset, .unset] [(.ref b6), (.ref b6)])) _
    refine XS.iconst X7.here hx rfl (hb hby at_26) ?_
    show Steps p.tables e below (T7.setTop (mkF m 27 #[.val (.int p1), .val (.int p2), .val (.int p3), .val (.int (1 : Int32)), .unset, .unset, .unset, .unset, .unset] [(.int (1 : Int32)), (.ref b6), (.ref b6)])) _
    refine XS.bipush X7.here hx rfl (hb hby at_27) ?_
    show Steps p.tables e below (T7.setTop (mkF m 29 #[.val (.int p1), .val (.int p2), .val (.int p3), .val (.int (1 : Int32)), .unset, .unset, .unset, .unset, .unset] [(.int (9 : Int32)), (.int (1 : Int32)), (.ref b6), (.ref b6)])) _
    refine st8 _ ?_
    show Steps p.tables e below (T8.setTop (mkF m 30 #[.val (.int p1), .val (.int p2), .val (.int p3), .val (.int (1 : Int32)), .unset, .unset, .unset, .unset, .unset] [(.ref b6)])) _
    refine XS.dup X8.here hx rfl (hb hby at_30) rfl rfl ?_
    show Steps p.tables e below (T8.setTop (mkF m 31 #[.val (.int p1), .val (.int p2), .val (.int p3), .val (.int (1 : Int32)), .unset, .unset, .unset, .unset, .unset] [(.ref b6), (.ref b6)])) _
    refine XS.iconst X8.here hx rfl (hb hby at_31) ?_
    show Steps p.tables e below (T8.setTop (mkF m 32 #[.val (.int p1), .val (.int p2), .val (.int p3), .val (.int (1 : Int32)), .unset, .unset, .unset, .unset, .unset] [(.int (2 : Int32)), (.ref b6), (.ref b6)])) _
    refine XS.bipush X8.here hx rfl (hb hby at_32) ?_
    show Steps p.tables e below (T8.setTop (mkF m 34 #[.val (.int p1), .val (.int p2), .val (.int p3), .val (.int (1 : Int32)), .unset, .unset, .unset, .unset, .unset] [(.int (10 : Int32)), (.int (2 : Int32)), (.ref b6), (.ref b6)])) _
    refine st9 _ ?_
    show Steps p.tables e below (T9.setTop (mkF m 35 #[.val (.int p1), .val (.int p2), .val (.int p3), .val (.int (1 : Int32)), .unset, .unset, .unset, .unset, .unset] [(.ref b6)])) _
    refine XS.dup X9.here hx rfl (hb hby at_35) rfl rfl ?_
    show Steps p.tables e below (T9.setTop (mkF m 36 #[.val (.int p1), .val (.int p2), .val (.int p3), .val (.int (1 : Int32)), .unset, .unset, .unset, .unset, .unset] [(.ref b6), (.ref b6)])) _
    refine XS.iconst X9.here hx rfl (hb hby at_36) ?_
    show Steps p.tables e below (T9.setTop (mkF m 37 #[.val (.int p1), .val (.int p2), .val (.int p3), .val (.int (1 : Int32)), .unset, .unset, .unset, .unset, .unset] [(.int (3 : Int32)), (.ref b6), (.ref b6)])) _
    refine XS.bipush X9.here hx rfl (hb hby at_37) ?_
    show Steps p.tables e below (T9.setTop (mkF m 39 #[.val (.int p1), .val (.int p2), .val (.int p3), .val (.int (1 : Int32)), .unset, .unset, .unset, .unset, .unset] [(.int (13 : Int32)), (.int (3 : Int32)), (.ref b6), (.ref b6)])) _
    refine st10 _ ?_
    show Steps p.tables e below (T10.setTop (mkF m 40 #[.val (.int p1), .val (.int p2), .val (.int p3), .val (.int (1 : Int32)), .unset, .unset, .unset, .unset, .unset] [(.ref b6)])) _
    refine XS.dup X10.here hx rfl (hb hby at_40) rfl rfl ?_
    show Steps p.tables e below (T10.setTop (mkF m 41 #[.val (.int p1), .val (.int p2), .val (.int p3), .val (.int (1 : Int32)), .unset, .unset, .unset, .unset, .unset] [(.ref b6), (.ref b6)])) _
    refine XS.iconst X10.here hx rfl (hb hby at_41) ?_
    show Steps p.tables e below (T10.setTop (mkF m 42 #[.val (.int p1), .val (.int p2), .val (.int p3), .val (.int (1 : Int32)), .unset, .unset, .unset, .unset, .unset] [(.int (4 : Int32)), (.ref b6), (.ref b6)])) _
    refine XS.bipush X10.here hx rfl (hb hby at_42) ?_
    show Steps p.tables e below (T10.setTop (mkF m 44 #[.val (.int p1), .val (.int p2), .val (.int p3), .val (.int (1 : Int32)), .unset, .unset, .unset, .unset, .unset] [(.int (32 : Int32)), (.int (4 : Int32)), (.ref b6), (.ref b6)])) _
    refine st11 _ ?_
    show Steps p.tables e below (T11.setTop (mkF m 45 #[.val (.int p1), .val (.int p2), .val (.int p3), .val (.int (1 : Int32)), .unset, .unset, .unset, .unset, .unset] [(.ref b6)])) _
    refine XS.dup X11.here hx rfl (hb hby at_45) rfl rfl ?_
    show Steps p.tables e below (T11.setTop (mkF m 46 #[.val (.int p1), .val (.int p2), .val (.int p3), .val (.int (1 : Int32)), .unset, .unset, .unset, .unset, .unset] [(.ref b6), (.ref b6)])) _
    refine XS.iconst X11.here hx rfl (hb hby at_46) ?_
    show Steps p.tables e below (T11.setTop (mkF m 47 #[.val (.int p1), .val (.int p2), .val (.int p3), .val (.int (1 : Int32)), .unset, .unset, .unset, .unset, .unset] [(.int (5 : Int32)), (.ref b6), (.ref b6)])) _
    refine X11.ldcInt hx hown (mvT hZ (hw _ (List.mem_of_getElem? (i := 12) rfl))) (g := (mkF m 47 #[.val (.int p1), .val (.int p2), .val (.int p3), .val (.int (1 : Int32)), .unset, .unset, .unset, .unset, .unset] [(.int (5 : Int32)), (.ref b6), (.ref b6)])) rfl (hb hby at_47) _ ?_
    show Steps p.tables e below (T11.setTop (mkF m 49 #[.val (.int p1), .val (.int p2), .val (.int p3), .val (.int (1 : Int32)), .unset, .unset, .unset, .unset, .unset] [(.int (55295 : Int32)), (.int (5 : Int32)), (.ref b6), (.ref b6)])) _
    refine st12 _ ?_
    show Steps p.tables e below (T12.setTop (mkF m 50 #[.val (.int p1), .val (.int p2), .val (.int p3), .val (.int (1 : Int32)), .unset, .unset, .unset, .unset, .unset] [(.ref b6)])) _
    refine XS.dup X12.here hx rfl (hb hby at_50) rfl rfl ?_
    show Steps p.tables e below (T12.setTop (mkF m 51 #[.val (.int p1), .val (.int p2), .val (.int p3), .val (.int (1 : Int32)), .unset, .unset, .unset, .unset, .unset] [(.ref b6), (.ref b6)])) _
    refine XS.bipush X12.here hx rfl (hb hby at_51) ?_
    show Steps p.tables e below (T12.setTop (mkF m 53 #[.val (.int p1), .val (.int p2), .val (.int p3), .val (.int (1 : Int32)), .unset, .unset, .unset, .unset, .unset] [(.int (6 : Int32)), (.ref b6), (.ref b6)])) _
    refine X12.ldcInt hx hown (mvT hZ (hw _ (List.mem_of_getElem? (i := 13) rfl))) (g := (mkF m 53 #[.val (.int p1), .val (.int p2), .val (.int p3), .val (.int (1 : Int32)), .unset, .unset, .unset, .unset, .unset] [(.int (6 : Int32)), (.ref b6), (.ref b6)])) rfl (hb hby at_53) _ ?_
    show Steps p.tables e below (T12.setTop (mkF m 55 #[.val (.int p1), .val (.int p2), .val (.int p3), .val (.int (1 : Int32)), .unset, .unset, .unset, .unset, .unset] [(.int (55296 : Int32)), (.int (6 : Int32)), (.ref b6), (.ref b6)])) _
    refine st13 _ ?_
    show Steps p.tables e below (T13.setTop (mkF m 56 #[.val (.int p1), .val (.int p2), .val (.int p3), .val (.int (1 : Int32)), .unset, .unset, .unset, .unset, .unset] [(.ref b6)])) _
    refine XS.dup X13.here hx rfl (hb hby at_56) rfl rfl ?_
    show Steps p.tables e below (T13.setTop (mkF m 57 #[.val (.int p1), .val (.int p2), .val (.int p3), .val (.int (1 : Int32)), .unset, .unset, .unset, .unset, .unset] [(.ref b6), (.ref b6)])) _
    refine XS.bipush X13.here hx rfl (hb hby at_57) ?_
    show Steps p.tables e below (T13.setTop (mkF m 59 #[.val (.int p1), .val (.int p2), .val (.int p3), .val (.int (1 : Int32)), .unset, .unset, .unset, .unset, .unset] [(.int (7 : Int32)), (.ref b6), (.ref b6)])) _
    refine X13.ldcInt hx hown (mvT hZ (hw _ (List.mem_of_getElem? (i := 14) rfl))) (g := (mkF m 59 #[.val (.int p1), .val (.int p2), .val (.int p3), .val (.int (1 : Int32)), .unset, .unset, .unset, .unset, .unset] [(.int (7 : Int32)), (.ref b6), (.ref b6)])) rfl (hb hby at_59) _ ?_
    show Steps p.tables e below (T13.setTop (mkF m 61 #[.val (.int p1), .val (.int p2), .val (.int p3), .val (.int (1 : Int32)), .unset, .unset, .unset, .unset, .unset] [(.int (57343 : Int32)), (.int (7 : Int32)), (.ref b6), (.ref b6)])) _
    refine st14 _ ?_
    show Steps p.tables e below (T14.setTop (mkF m 62 #[.val (.int p1), .val (.int p2), .val (.int p3), .val (.int (1 : Int32)), .unset, .unset, .unset, .unset, .unset] [(.ref b6)])) _
    refine XS.dup X14.here hx rfl (hb hby at_62) rfl rfl ?_
    show Steps p.tables e below (T14.setTop (mkF m 63 #[.val (.int p1), .val (.int p2), .val (.int p3), .val (.int (1 : Int32)), .unset, .unset, .unset, .unset, .unset] [(.ref b6), (.ref b6)])) _
    refine XS.bipush X14.here hx rfl (hb hby at_63) ?_
    show Steps p.tables e below (T14.setTop (mkF m 65 #[.val (.int p1), .val (.int p2), .val (.int p3), .val (.int (1 : Int32)), .unset, .unset, .unset, .unset, .unset] [(.int (8 : Int32)), (.ref b6), (.ref b6)])) _
    refine X14.ldcInt hx hown (mvT hZ (hw _ (List.mem_of_getElem? (i := 15) rfl))) (g := (mkF m 65 #[.val (.int p1), .val (.int p2), .val (.int p3), .val (.int (1 : Int32)), .unset, .unset, .unset, .unset, .unset] [(.int (8 : Int32)), (.ref b6), (.ref b6)])) rfl (hb hby at_65) _ ?_
    show Steps p.tables e below (T14.setTop (mkF m 67 #[.val (.int p1), .val (.int p2), .val (.int p3), .val (.int (1 : Int32)), .unset, .unset, .unset, .unset, .unset] [(.int (57344 : Int32)), (.int (8 : Int32)), (.ref b6), (.ref b6)])) _
    refine st15 _ ?_
    show Steps p.tables e below (T15.setTop (mkF m 68 #[.val (.int p1), .val (.int p2), .val (.int p3), .val (.int (1 : Int32)), .unset, .unset, .unset, .unset, .unset] [(.ref b6)])) _
    refine XS.dup X15.here hx rfl (hb hby at_68) rfl rfl ?_
    show Steps p.tables e below (T15.setTop (mkF m 69 #[.val (.int p1), .val (.int p2), .val (.int p3), .val (.int (1 : Int32)), .unset, .unset, .unset, .unset, .unset] [(.ref b6), (.ref b6)])) _
    refine XS.bipush X15.here hx rfl (hb hby at_69) ?_
    show Steps p.tables e below (T15.setTop (mkF m 71 #[.val (.int p1), .val (.int p2), .val (.int p3), .val (.int (1 : Int32)), .unset, .unset, .unset, .unset, .unset] [(.int (9 : Int32)), (.ref b6), (.ref b6)])) _
    refine X15.ldcInt hx hown (mvT hZ (hw _ (List.mem_of_getElem? (i := 16) rfl))) (g := (mkF m 71 #[.val (.int p1), .val (.int p2), .val (.int p3), .val (.int (1 : Int32)), .unset, .unset, .unset, .unset, .unset] [(.int (9 : Int32)), (.ref b6), (.ref b6)])) rfl (hb hby at_71) _ ?_
    show Steps p.tables e below (T15.setTop (mkF m 73 #[.val (.int p1), .val (.int p2), .val (.int p3), .val (.int (1 : Int32)), .unset, .unset, .unset, .unset, .unset] [(.int (65533 : Int32)), (.int (9 : Int32)), (.ref b6), (.ref b6)])) _
    refine st16 _ ?_
    show Steps p.tables e below (T16.setTop (mkF m 74 #[.val (.int p1), .val (.int p2), .val (.int p3), .val (.int (1 : Int32)), .unset, .unset, .unset, .unset, .unset] [(.ref b6)])) _
    refine XS.dup X16.here hx rfl (hb hby at_74) rfl rfl ?_
    show Steps p.tables e below (T16.setTop (mkF m 75 #[.val (.int p1), .val (.int p2), .val (.int p3), .val (.int (1 : Int32)), .unset, .unset, .unset, .unset, .unset] [(.ref b6), (.ref b6)])) _
    refine XS.bipush X16.here hx rfl (hb hby at_75) ?_
    show Steps p.tables e below (T16.setTop (mkF m 77 #[.val (.int p1), .val (.int p2), .val (.int p3), .val (.int (1 : Int32)), .unset, .unset, .unset, .unset, .unset] [(.int (10 : Int32)), (.ref b6), (.ref b6)])) _
    refine X16.ldcInt hx hown (mvT hZ (hw _ (List.mem_of_getElem? (i := 17) rfl))) (g := (mkF m 77 #[.val (.int p1), .val (.int p2), .val (.int p3), .val (.int (1 : Int32)), .unset, .unset, .unset, .unset, .unset] [(.int (10 : Int32)), (.ref b6), (.ref b6)])) rfl (hb hby at_77) _ ?_
    show Steps p.tables e below (T16.setTop (mkF m 79 #[.val (.int p1), .val (.int p2), .val (.int p3), .val (.int (1 : Int32)), .unset, .unset, .unset, .unset, .unset] [(.int (65535 : Int32)), (.int (10 : Int32)), (.ref b6), (.ref b6)])) _
    refine st17 _ ?_
    show Steps p.tables e below (T17.setTop (mkF m 80 #[.val (.int p1), .val (.int p2), .val (.int p3), .val (.int (1 : Int32)), .unset, .unset, .unset, .unset, .unset] [(.ref b6)])) _
    refine XS.dup X17.here hx rfl (hb hby at_80) rfl rfl ?_
    show Steps p.tables e below (T17.setTop (mkF m 81 #[.val (.int p1), .val (.int p2), .val (.int p3), .val (.int (1 : Int32)), .unset, .unset, .unset, .unset, .unset] [(.ref b6), (.ref b6)])) _
    refine XS.bipush X17.here hx rfl (hb hby at_81) ?_
    show Steps p.tables e below (T17.setTop (mkF m 83 #[.val (.int p1), .val (.int p2), .val (.int p3), .val (.int (1 : Int32)), .unset, .unset, .unset, .unset, .unset] [(.int (11 : Int32)), (.ref b6), (.ref b6)])) _
    refine X17.ldcInt hx hown (mvT hZ (hw _ (List.mem_of_getElem? (i := 18) rfl))) (g := (mkF m 83 #[.val (.int p1), .val (.int p2), .val (.int p3), .val (.int (1 : Int32)), .unset, .unset, .unset, .unset, .unset] [(.int (11 : Int32)), (.ref b6), (.ref b6)])) rfl (hb hby at_83) _ ?_
    show Steps p.tables e below (T17.setTop (mkF m 85 #[.val (.int p1), .val (.int p2), .val (.int p3), .val (.int (1 : Int32)), .unset, .unset, .unset, .unset, .unset] [(.int (65536 : Int32)), (.int (11 : Int32)), (.ref b6), (.ref b6)])) _
    refine st18 _ ?_
    show Steps p.tables e below (T18.setTop (mkF m 86 #[.val (.int p1), .val (.int p2), .val (.int p3), .val (.int (1 : Int32)), .unset, .unset, .unset, .unset, .unset] [(.ref b6)])) _
    refine XS.dup X18.here hx rfl (hb hby at_86) rfl rfl ?_
    show Steps p.tables e below (T18.setTop (mkF m 87 #[.val (.int p1), .val (.int p2), .val (.int p3), .val (.int (1 : Int32)), .unset, .unset, .unset, .unset, .unset] [(.ref b6), (.ref b6)])) _
    refine XS.bipush X18.here hx rfl (hb hby at_87) ?_
    show Steps p.tables e below (T18.setTop (mkF m 89 #[.val (.int p1), .val (.int p2), .val (.int p3), .val (.int (1 : Int32)), .unset, .unset, .unset, .unset, .unset] [(.int (12 : Int32)), (.ref b6), (.ref b6)])) _
    refine X18.ldcInt hx hown (mvT hZ (hw _ (List.mem_of_getElem? (i := 10) rfl))) (g := (mkF m 89 #[.val (.int p1), .val (.int p2), .val (.int p3), .val (.int (1 : Int32)), .unset, .unset, .unset, .unset, .unset] [(.int (12 : Int32)), (.ref b6), (.ref b6)])) rfl (hb hby at_89) _ ?_
    show Steps p.tables e below (T18.setTop (mkF m 91 #[.val (.int p1), .val (.int p2), .val (.int p3), .val (.int (1 : Int32)), .unset, .unset, .unset, .unset, .unset] [(.int (1114111 : Int32)), (.int (12 : Int32)), (.ref b6), (.ref b6)])) _
    refine st19 _ ?_
    show Steps p.tables e below (T19.setTop (mkF m 92 #[.val (.int p1), .val (.int p2), .val (.int p3), .val (.int (1 : Int32)), .unset, .unset, .unset, .unset, .unset] [(.ref b6)])) _
    refine XS.dup X19.here hx rfl (hb hby at_92) rfl rfl ?_
    show Steps p.tables e below (T19.setTop (mkF m 93 #[.val (.int p1), .val (.int p2), .val (.int p3), .val (.int (1 : Int32)), .unset, .unset, .unset, .unset, .unset] [(.ref b6), (.ref b6)])) _
    refine XS.bipush X19.here hx rfl (hb hby at_93) ?_
    show Steps p.tables e below (T19.setTop (mkF m 95 #[.val (.int p1), .val (.int p2), .val (.int p3), .val (.int (1 : Int32)), .unset, .unset, .unset, .unset, .unset] [(.int (13 : Int32)), (.ref b6), (.ref b6)])) _
    refine X19.ldcInt hx hown (mvT hZ (hw _ (List.mem_of_getElem? (i := 19) rfl))) (g := (mkF m 95 #[.val (.int p1), .val (.int p2), .val (.int p3), .val (.int (1 : Int32)), .unset, .unset, .unset, .unset, .unset] [(.int (13 : Int32)), (.ref b6), (.ref b6)])) rfl (hb hby at_95) _ ?_
    show Steps p.tables e below (T19.setTop (mkF m 97 #[.val (.int p1), .val (.int p2), .val (.int p3), .val (.int (1 : Int32)), .unset, .unset, .unset, .unset, .unset] [(.int (-2147483648 : Int32)), (.int (13 : Int32)), (.ref b6), (.ref b6)])) _
    refine st20 _ ?_
    show Steps p.tables e below (T20.setTop (mkF m 98 #[.val (.int p1), .val (.int p2), .val (.int p3), .val (.int (1 : Int32)), .unset, .unset, .unset, .unset, .unset] [(.ref b6)])) _
    refine XS.dup X20.here hx rfl (hb hby at_98) rfl rfl ?_
    show Steps p.tables e below (T20.setTop (mkF m 99 #[.val (.int p1), .val (.int p2), .val (.int p3), .val (.int (1 : Int32)), .unset, .unset, .unset, .unset, .unset] [(.ref b6), (.ref b6)])) _
    refine XS.bipush X20.here hx rfl (hb hby at_99) ?_
    show Steps p.tables e below (T20.setTop (mkF m 101 #[.val (.int p1), .val (.int p2), .val (.int p3), .val (.int (1 : Int32)), .unset, .unset, .unset, .unset, .unset] [(.int (14 : Int32)), (.ref b6), (.ref b6)])) _
    refine X20.ldcInt hx hown (mvT hZ (hw _ (List.mem_of_getElem? (i := 20) rfl))) (g := (mkF m 101 #[.val (.int p1), .val (.int p2), .val (.int p3), .val (.int (1 : Int32)), .unset, .unset, .unset, .unset, .unset] [(.int (14 : Int32)), (.ref b6), (.ref b6)])) rfl (hb hby at_101) _ ?_
    show Steps p.tables e below (T20.setTop (mkF m 103 #[.val (.int p1), .val (.int p2), .val (.int p3), .val (.int (1 : Int32)), .unset, .unset, .unset, .unset, .unset] [(.int (2147483647 : Int32)), (.int (14 : Int32)), (.ref b6), (.ref b6)])) _
    refine st21 _ ?_
    show Steps p.tables e below (T21.setTop (mkF m 104 #[.val (.int p1), .val (.int p2), .val (.int p3), .val (.int (1 : Int32)), .unset, .unset, .unset, .unset, .unset] [(.ref b6)])) _
    refine XS.astore X21.here hx rfl (hb hby at_104) rfl rfl (l' := #[.val (.int p1), .val (.int p2), .val (.int p3), .val (.int (1 : Int32)), .val (.ref b6), .unset, .unset, .unset, .unset]) rfl ?_
    show Steps p.tables e below (T21.setTop (mkF m 106 #[.val (.int p1), .val (.int p2), .val (.int p3), .val (.int (1 : Int32)), .val (.ref b6), .unset, .unset, .unset, .unset] [])) _
    refine XS.iloadN X21.here hx rfl (hb hby at_106) rfl ?_
    show Steps p.tables e below (T21.setTop (mkF m 107 #[.val (.int p1), .val (.int p2), .val (.int p3), .val (.int (1 : Int32)), .val (.ref b6), .unset, .unset, .unset, .unset] [(.int p2)])) _
    refine X21.ldcInt hx hown (mvT hZ (hw _ (List.mem_of_getElem? (i := 20) rfl))) (g := (mkF m 107 #[.val (.int p1), .val (.int p2), .val (.int p3), .val (.int (1 : Int32)), .val (.ref b6), .unset, .unset, .unset, .unset] [(.int p2)])) rfl (hb hby at_107) _ ?_
    show Steps p.tables e below (T21.setTop (mkF m 109 #[.val (.int p1), .val (.int p2), .val (.int p3), .val (.int (1 : Int32)), .val (.ref b6), .unset, .unset, .unset, .unset] [(.int (2147483647 : Int32)), (.int p2)])) _
    refine XS.iand X21.here hx rfl (hb hby at_109) rfl ?_
    show Steps p.tables e below (T21.setTop (mkF m 110 #[.val (.int p1), .val (.int p2), .val (.int p3), .val (.int (1 : Int32)), .val (.ref b6), .unset, .unset, .unset, .unset] [(.int (p2 &&& (2147483647 : Int32)))])) _
    refine XS.aload X21.here hx rfl (hb hby at_110) rfl rfl ?_
    show Steps p.tables e below (T21.setTop (mkF m 112 #[.val (.int p1), .val (.int p2), .val (.int p3), .val (.int (1 : Int32)), .val (.ref b6), .unset, .unset, .unset, .unset] [(.ref b6), (.int (p2 &&& (2147483647 : Int32)))])) _
    refine X21.arraylength hx (by rw [e21]; exact Ar_b6.1) (State.isArrayOf_alike hZ.alike Ar_b6.2.1) (g := (mkF m 112 #[.val (.int p1), .val (.int p2), .val (.int p3), .val (.int (1 : Int32)), .val (.ref b6), .unset, .unset, .unset, .unset] [(.ref b6), (.int (p2 &&& (2147483647 : Int32)))])) rfl rfl (hb hby at_112) _ ?_
    rw [len_of S_b6 N_b6]
    show Steps p.tables e below (T21.setTop (mkF m 113 #[.val (.int p1), .val (.int p2), .val (.int p3), .val (.int (1 : Int32)), .val (.ref b6), .unset, .unset, .unset, .unset] [(.int (15 : Int32)), (.int (p2 &&& (2147483647 : Int32)))])) _
    refine iremM X21 hx rfl (hb hby at_113) rfl (by decide) ?_
    show Steps p.tables e below (T21.setTop (mkF m 114 #[.val (.int p1), .val (.int p2), .val (.int p3), .val (.int (1 : Int32)), .val (.ref b6), .unset, .unset, .unset, .unset] [(.int ((p2 &&& (2147483647 : Int32)) % (15 : Int32)))])) _
    refine XS.istore X21.here hx rfl (hb hby at_114) rfl (l' := #[.val (.int p1), .val (.int p2), .val (.int p3), .val (.int (1 : Int32)), .val (.ref b6), .val (.int ((p2 &&& (2147483647 : Int32)) % (15 : Int32))), .unset, .unset, .unset]) rfl ?_
    show Steps p.tables e below (T21.setTop (mkF m 116 #[.val (.int p1), .val (.int p2), .val (.int p3), .val (.int (1 : Int32)), .val (.ref b6), .val (.int ((p2 &&& (2147483647 : Int32)) % (15 : Int32))), .unset, .unset, .unset] [])) _
    refine XS.iloadN X21.here hx rfl (hb hby at_116) rfl ?_
    show Steps p.tables e below (T21.setTop (mkF m 117 #[.val (.int p1), .val (.int p2), .val (.int p3), .val (.int (1 : Int32)), .val (.ref b6), .val (.int ((p2 &&& (2147483647 : Int32)) % (15 : Int32))), .unset, .unset, .unset] [(.int p3)])) _
    refine X21.ldcInt hx hown (mvT hZ (hw _ (List.mem_of_getElem? (i := 20) rfl))) (g := (mkF m 117 #[.val (.int p1), .val (.int p2), .val (.int p3), .val (.int (1 : Int32)), .val (.ref b6), .val (.int ((p2 &&& (2147483647 : Int32)) % (15 : Int32))), .unset, .unset, .unset] [(.int p3)])) rfl (hb hby at_117) _ ?_
    show Steps p.tables e below (T21.setTop (mkF m 119 #[.val (.int p1), .val (.int p2), .val (.int p3), .val (.int (1 : Int32)), .val (.ref b6), .val (.int ((p2 &&& (2147483647 : Int32)) % (15 : Int32))), .unset, .unset, .unset] [(.int (2147483647 : Int32)), (.int p3)])) _
    refine XS.iand X21.here hx rfl (hb hby at_119) rfl ?_
    show Steps p.tables e below (T21.setTop (mkF m 120 #[.val (.int p1), .val (.int p2), .val (.int p3), .val (.int (1 : Int32)), .val (.ref b6), .val (.int ((p2 &&& (2147483647 : Int32)) % (15 : Int32))), .unset, .unset, .unset] [(.int (p3 &&& (2147483647 : Int32)))])) _
    refine XS.bipush X21.here hx rfl (hb hby at_120) ?_
    show Steps p.tables e below (T21.setTop (mkF m 122 #[.val (.int p1), .val (.int p2), .val (.int p3), .val (.int (1 : Int32)), .val (.ref b6), .val (.int ((p2 &&& (2147483647 : Int32)) % (15 : Int32))), .unset, .unset, .unset] [(.int (7 : Int32)), (.int (p3 &&& (2147483647 : Int32)))])) _
    refine iremM X21 hx rfl (hb hby at_122) rfl (by decide) ?_
    show Steps p.tables e below (T21.setTop (mkF m 123 #[.val (.int p1), .val (.int p2), .val (.int p3), .val (.int (1 : Int32)), .val (.ref b6), .val (.int ((p2 &&& (2147483647 : Int32)) % (15 : Int32))), .unset, .unset, .unset] [(.int ((p3 &&& (2147483647 : Int32)) % (7 : Int32)))])) _
    refine XS.iconst X21.here hx rfl (hb hby at_123) ?_
    show Steps p.tables e below (T21.setTop (mkF m 124 #[.val (.int p1), .val (.int p2), .val (.int p3), .val (.int (1 : Int32)), .val (.ref b6), .val (.int ((p2 &&& (2147483647 : Int32)) % (15 : Int32))), .unset, .unset, .unset] [(.int (3 : Int32)), (.int ((p3 &&& (2147483647 : Int32)) % (7 : Int32)))])) _
    refine XS.isub X21.here hx rfl (hb hby at_124) rfl ?_
    show Steps p.tables e below (T21.setTop (mkF m 125 #[.val (.int p1), .val (.int p2), .val (.int p3), .val (.int (1 : Int32)), .val (.ref b6), .val (.int ((p2 &&& (2147483647 : Int32)) % (15 : Int32))), .unset, .unset, .unset] [(.int (((p3 &&& (2147483647 : Int32)) % (7 : Int32)) - (3 : Int32)))])) _
    refine XS.istore X21.here hx rfl (hb hby at_125) rfl (l' := #[.val (.int p1), .val (.int p2), .val (.int p3), .val (.int (1 : Int32)), .val (.ref b6), .val (.int ((p2 &&& (2147483647 : Int32)) % (15 : Int32))), .val (.int (((p3 &&& (2147483647 : Int32)) % (7 : Int32)) - (3 : Int32))), .unset, .unset]) rfl ?_
    show Steps p.tables e below (T21.setTop (mkF m 127 #[.val (.int p1), .val (.int p2), .val (.int p3), .val (.int (1 : Int32)), .val (.ref b6), .val (.int ((p2 &&& (2147483647 : Int32)) % (15 : Int32))), .val (.int (((p3 &&& (2147483647 : Int32)) % (7 : Int32)) - (3 : Int32))), .unset, .unset] [])) _
    refine XS.aload X21.here hx rfl (hb hby at_127) rfl rfl ?_
    show Steps p.tables e below (T21.setTop (mkF m 129 #[.val (.int p1), .val (.int p2), .val (.int p3), .val (.int (1 : Int32)), .val (.ref b6), .val (.int ((p2 &&& (2147483647 : Int32)) % (15 : Int32))), .val (.int (((p3 &&& (2147483647 : Int32)) % (7 : Int32)) - (3 : Int32))), .unset, .unset] [(.ref b6)])) _
    refine XS.iload X21.here hx rfl (hb hby at_129) rfl ?_
    show Steps p.tables e below (T21.setTop (mkF m 131 #[.val (.int p1), .val (.int p2), .val (.int p3), .val (.int (1 : Int32)), .val (.ref b6), .val (.int ((p2 &&& (2147483647 : Int32)) % (15 : Int32))), .val (.int (((p3 &&& (2147483647 : Int32)) % (7 : Int32)) - (3 : Int32))), .unset, .unset] [(.int ((p2 &&& (2147483647 : Int32)) % (15 : Int32))), (.ref b6)])) _
    refine X21.iaload hx (j := ((p2 &&& (2147483647 : Int32)) % (15 : Int32))) (v := (.int w22)) (by rw [e21]; exact Ar_b6.1) (State.isArrayOf_alike hZ.alike Ar_b6.2.1) Ar_b6.2.2 hin131 hat131 (g := (mkF m 131 #[.val (.int p1), .val (.int p2), .val (.int p3), .val (.int (1 : Int32)), .val (.ref b6), .val (.int ((p2 &&& (2147483647 : Int32)) % (15 : Int32))), .val (.int (((p3 &&& (2147483647 : Int32)) % (7 : Int32)) - (3 : Int32))), .unset, .unset] [(.int ((p2 &&& (2147483647 : Int32)) % (15 : Int32))), (.ref b6)])) rfl rfl (hb hby at_131) _ ?_
    show Steps p.tables e below (T21.setTop (mkF m 132 #[.val (.int p1), .val (.int p2), .val (.int p3), .val (.int (1 : Int32)), .val (.ref b6), .val (.int ((p2 &&& (2147483647 : Int32)) % (15 : Int32))), .val (.int (((p3 &&& (2147483647 : Int32)) % (7 : Int32)) - (3 : Int32))), .unset, .unset] [(.int w22)])) _
    refine XS.iload X21.here hx rfl (hb hby at_132) rfl ?_
    show Steps p.tables e below (T21.setTop (mkF m 134 #[.val (.int p1), .val (.int p2), .val (.int p3), .val (.int (1 : Int32)), .val (.ref b6), .val (.int ((p2 &&& (2147483647 : Int32)) % (15 : Int32))), .val (.int (((p3 &&& (2147483647 : Int32)) % (7 : Int32)) - (3 : Int32))), .unset, .unset] [(.int (((p3 &&& (2147483647 : Int32)) % (7 : Int32)) - (3 : Int32))), (.int w22)])) _
    refine XS.iadd X21.here hx rfl (hb hby at_134) rfl ?_
    show Steps p.tables e below (T21.setTop (mkF m 135 #[.val (.int p1), .val (.int p2), .val (.int p3), .val (.int (1 : Int32)), .val (.ref b6), .val (.int ((p2 &&& (2147483647 : Int32)) % (15 : Int32))), .val (.int (((p3 &&& (2147483647 : Int32)) % (7 : Int32)) - (3 : Int32))), .unset, .unset] [(.int (w22 + (((p3 &&& (2147483647 : Int32)) % (7 : Int32)) - (3 : Int32))))])) _
    refine XS.istore X21.here hx rfl (hb hby at_135) rfl (l' := #[.val (.int p1), .val (.int p2), .val (.int p3), .val (.int (1 : Int32)), .val (.ref b6), .val (.int ((p2 &&& (2147483647 : Int32)) % (15 : Int32))), .val (.int (((p3 &&& (2147483647 : Int32)) % (7 : Int32)) - (3 : Int32))), .val (.int (w22 + (((p3 &&& (2147483647 : Int32)) % (7 : Int32)) - (3 : Int32)))), .unset]) rfl ?_
    show Steps p.tables e below (T21.setTop (mkF m 137 #[.val (.int p1), .val (.int p2), .val (.int p3), .val (.int (1 : Int32)), .val (.ref b6), .val (.int ((p2 &&& (2147483647 : Int32)) % (15 : Int32))), .val (.int (((p3 &&& (2147483647 : Int32)) % (7 : Int32)) - (3 : Int32))), .val (.int (w22 + (((p3 &&& (2147483647 : Int32)) % (7 : Int32)) - (3 : Int32)))), .unset] [])) _
    refine XS.iload X21.here hx rfl (hb hby at_137) rfl ?_
    show Steps p.tables e below (T21.setTop (mkF m 139 #[.val (.int p1), .val (.int p2), .val (.int p3), .val (.int (1 : Int32)), .val (.ref b6), .val (.int ((p2 &&& (2147483647 : Int32)) % (15 : Int32))), .val (.int (((p3 &&& (2147483647 : Int32)) % (7 : Int32)) - (3 : Int32))), .val (.int (w22 + (((p3 &&& (2147483647 : Int32)) % (7 : Int32)) - (3 : Int32)))), .unset] [(.int (w22 + (((p3 &&& (2147483647 : Int32)) % (7 : Int32)) - (3 : Int32))))])) _
    refine st23 _ ?_
    show Steps p.tables e below (T23.setTop (mkF m 142 #[.val (.int p1), .val (.int p2), .val (.int p3), .val (.int (1 : Int32)), .val (.ref b6), .val (.int ((p2 &&& (2147483647 : Int32)) % (15 : Int32))), .val (.int (((p3 &&& (2147483647 : Int32)) % (7 : Int32)) - (3 : Int32))), .val (.int (w22 + (((p3 &&& (2147483647 : Int32)) % (7 : Int32)) - (3 : Int32)))), .unset] [(.int (own_f1_0 (w22 + (((p3 &&& (2147483647 : Int32)) % (7 : Int32)) - (3 : Int32)))))])) _
    refine XS.iload X23.here hx rfl (hb hby at_142) rfl ?_
    show Steps p.tables e below (T23.setTop (mkF m 144 #[.val (.int p1), .val (.int p2), .val (.int p3), .val (.int (1 : Int32)), .val (.ref b6), .val (.int ((p2 &&& (2147483647 : Int32)) % (15 : Int32))), .val (.int (((p3 &&& (2147483647 : Int32)) % (7 : Int32)) - (3 : Int32))), .val (.int (w22 + (((p3 &&& (2147483647 : Int32)) % (7 : Int32)) - (3 : Int32)))), .unset] [(.int (w22 + (((p3 &&& (2147483647 : Int32)) % (7 : Int32)) - (3 : Int32)))), (.int (own_f1_0 (w22 + (((p3 &&& (2147483647 : Int32)) % (7 : Int32)) - (3 : Int32)))))])) _
    refine st24 _ ?_
    show Steps p.tables e below (T24.setTop (mkF m 147 #[.val (.int p1), .val (.int p2), .val (.int p3), .val (.int (1 : Int32)), .val (.ref b6), .val (.int ((p2 &&& (2147483647 : Int32)) % (15 : Int32))), .val (.int (((p3 &&& (2147483647 : Int32)) % (7 : Int32)) - (3 : Int32))), .val (.int (w22 + (((p3 &&& (2147483647 : Int32)) % (7 : Int32)) - (3 : Int32)))), .unset] [(.int (own_f2_0 (w22 + (((p3 &&& (2147483647 : Int32)) % (7 : Int32)) - (3 : Int32))))), (.int (own_f1_0 (w22 + (((p3 &&& (2147483647 : Int32)) % (7 : Int32)) - (3 : Int32)))))])) _
    refine XS.icmpNo X24.here hx rfl (hb hby at_147) rfl (teq ((own_law _) : (own_f1_0 (w22 + (((p3 &&& (2147483647 : Int32)) % (7 : Int32)) - (3 : Int32)))) = (own_f2_0 (w22 + (((p3 &&& (2147483647 : Int32)) % (7 : Int32)) - (3 : Int32)))))).2 ?_
    show Steps p.tables e below (T24.setTop (mkF m 150 #[.val (.int p1), .val (.int p2), .val (.int p3), .val (.int (1 : Int32)), .val (.ref b6), .val (.int ((p2 &&& (2147483647 : Int32)) % (15 : Int32))), .val (.int (((p3 &&& (2147483647 : Int32)) % (7 : Int32)) - (3 : Int32))), .val (.int (w22 + (((p3 &&& (2147483647 : Int32)) % (7 : Int32)) - (3 : Int32)))), .unset] [])) _
    refine XS.iconst X24.here hx rfl (hb hby at_150) ?_
    show Steps p.tables e below (T24.setTop (mkF m 151 #[.val (.int p1), .val (.int p2), .val (.int p3), .val (.int (1 : Int32)), .val (.ref b6), .val (.int ((p2 &&& (2147483647 : Int32)) % (15 : Int32))), .val (.int (((p3 &&& (2147483647 : Int32)) % (7 : Int32)) - (3 : Int32))), .val (.int (w22 + (((p3 &&& (2147483647 : Int32)) % (7 : Int32)) - (3 : Int32)))), .unset] [(.int (1 : Int32))])) _
    refine XS.goto X24.here hx rfl (pc0 := 151) (pc' := 155) rfl (hb hby at_151) (by decide) (by decide) ?_
    show Steps p.tables e below (T24.setTop (mkF m 155 #[.val (.int p1), .val (.int p2), .val (.int p3), .val (.int (1 : Int32)), .val (.ref b6), .val (.int ((p2 &&& (2147483647 : Int32)) % (15 : Int32))), .val (.int (((p3 &&& (2147483647 : Int32)) % (7 : Int32)) - (3 : Int32))), .val (.int (w22 + (((p3 &&& (2147483647 : Int32)) % (7 : Int32)) - (3 : Int32)))), .unset] [(.int (1 : Int32))])) _
    refine XS.istore X24.here hx rfl (hb hby at_155) rfl (l' := #[.val (.int p1), .val (.int p2), .val (.int p3), .val (.int (1 : Int32)), .val (.ref b6), .val (.int ((p2 &&& (2147483647 : Int32)) % (15 : Int32))), .val (.int (((p3 &&& (2147483647 : Int32)) % (7 : Int32)) - (3 : Int32))), .val (.int (w22 + (((p3 &&& (2147483647 : Int32)) % (7 : Int32)) - (3 : Int32)))), .val (.int (1 : Int32))]) rfl ?_
    show Steps p.tables e below (T24.setTop (mkF m 157 #[.val (.int p1), .val (.int p2), .val (.int p3), .val (.int (1 : Int32)), .val (.ref b6), .val (.int ((p2 &&& (2147483647 : Int32)) % (15 : Int32))), .val (.int (((p3 &&& (2147483647 : Int32)) % (7 : Int32)) - (3 : Int32))), .val (.int (w22 + (((p3 &&& (2147483647 : Int32)) % (7 : Int32)) - (3 : Int32)))), .val (.int (1 : Int32))] [])) _
    refine XS.iloadN X24.here hx rfl (hb hby at_157) rfl ?_
    show Steps p.tables e below (T24.setTop (mkF m 158 #[.val (.int p1), .val (.int p2), .val (.int p3), .val (.int (1 : Int32)), .val (.ref b6), .val (.int ((p2 &&& (2147483647 : Int32)) % (15 : Int32))), .val (.int (((p3 &&& (2147483647 : Int32)) % (7 : Int32)) - (3 : Int32))), .val (.int (w22 + (((p3 &&& (2147483647 : Int32)) % (7 : Int32)) - (3 : Int32)))), .val (.int (1 : Int32))] [(.int (1 : Int32))])) _
    refine XS.ifNo X24.here hx rfl (hb hby at_158) rfl ((if0 _ _).trans (feq hc158).1) ?_
    show Steps p.tables e below (T24.setTop (mkF m 161 #[.val (.int p1), .val (.int p2), .val (.int p3), .val (.int (1 : Int32)), .val (.ref b6), .val (.int ((p2 &&& (2147483647 : Int32)) % (15 : Int32))), .val (.int (((p3 &&& (2147483647 : Int32)) % (7 : Int32)) - (3 : Int32))), .val (.int (w22 + (((p3 &&& (2147483647 : Int32)) % (7 : Int32)) - (3 : Int32)))), .val (.int (1 : Int32))] [])) _
    refine XS.iload X24.here hx rfl (hb hby at_161) rfl ?_
    show Steps p.tables e below (T24.setTop (mkF m 163 #[.val (.int p1), .val (.int p2), .val (.int p3), .val (.int (1 : Int32)), .val (.ref b6), .val (.int ((p2 &&& (2147483647 : Int32)) % (15 : Int32))), .val (.int (((p3 &&& (2147483647 : Int32)) % (7 : Int32)) - (3 : Int32))), .val (.int (w22 + (((p3 &&& (2147483647 : Int32)) % (7 : Int32)) - (3 : Int32)))), .val (.int (1 : Int32))] [(.int (1 : Int32))])) _
    refine XS.ifNo X24.here hx rfl (hb hby at_163) rfl ((if0 _ _).trans (feq hc163).1) ?_
    show Steps p.tables e below (T24.setTop (mkF m 166 #[.val (.int p1), .val (.int p2), .val (.int p3), .val (.int (1 : Int32)), .val (.ref b6), .val (.int ((p2 &&& (2147483647 : Int32)) % (15 : Int32))), .val (.int (((p3 &&& (2147483647 : Int32)) % (7 : Int32)) - (3 : Int32))), .val (.int (w22 + (((p3 &&& (2147483647 : Int32)) % (7 : Int32)) - (3 : Int32)))), .val (.int (1 : Int32))] [])) _
    refine XS.iconst X24.here hx rfl (hb hby at_166) ?_
    show Steps p.tables e below (T24.setTop (mkF m 167 #[.val (.int p1), .val (.int p2), .val (.int p3), .val (.int (1 : Int32)), .val (.ref b6), .val (.int ((p2 &&& (2147483647 : Int32)) % (15 : Int32))), .val (.int (((p3 &&& (2147483647 : Int32)) % (7 : Int32)) - (3 : Int32))), .val (.int (w22 + (((p3 &&& (2147483647 : Int32)) % (7 : Int32)) - (3 : Int32)))), .val (.int (1 : Int32))] [(.int (1 : Int32))])) _
    refine XS.goto X24.here hx rfl (pc0 := 167) (pc' := 171) rfl (hb hby at_167) (by decide) (by decide) ?_
    show Steps p.tables e below (T24.setTop (mkF m 171 #[.val (.int p1), .val (.int p2), .val (.int p3), .val (.int (1 : Int32)), .val (.ref b6), .val (.int ((p2 &&& (2147483647 : Int32)) % (15 : Int32))), .val (.int (((p3 &&& (2147483647 : Int32)) % (7 : Int32)) - (3 : Int32))), .val (.int (w22 + (((p3 &&& (2147483647 : Int32)) % (7 : Int32)) - (3 : Int32)))), .val (.int (1 : Int32))] [(.int (1 : Int32))])) _
    exact retN X24 hx (t := .boolean) Bd.returns (by simp) (hb hby at_171) hr
  · show Q0 Z p1 p2 p3 h0 n0 _ T24.heap _
    exact ⟨rfl, N24⟩
set_option maxRecDepth 65536 in
set_option maxHeartbeats 40000000 in
theorem comes_1 {Post : Tables → Env → Array Value → State → Outcome → State → Prop} (hpost : ∀ tb e args s v u, (limb_1_1.after args s (.returned v) u = true ∧ limb_1_2.after args s (.returned v) u = true ∧ True) → FrameEnd s (.returned v) u (Jvm.fieldLocs frame_1_writes args s ++ Jvm.arrayLocs frame_1_arrays args s ++ Jvm.staticLocs frame_1_statics s) 16 128 → Post tb e args s (.returned v) u) :
    ArmFor flags0 classFile x code maxLocals ret World_1 tables_1 room_1 Calls_1 rest_1 Pre_1 Post := by
  intro l hfl _ _ p e ha hc hk s m args below hf hA hF happ hP
  obtain ⟨hcalls, hrest, hpre⟩ := hP
  obtain ⟨-, -, -, hnamed, -, -, -, hat⟩ := (Spec.applies_iff hf).mp happ
  obtain ⟨hg, hn⟩ := and_e (Cond.before_iff.mp (show (Jvm.Cond.and given_1 narrow_1).before args s = true from hpre))
  obtain ⟨g25, g26⟩ := and_e hg
  obtain ⟨g27, g28⟩ := and_e g26
  obtain ⟨g29, g30⟩ := and_e g28
  obtain ⟨w0, w1, w2, rfl⟩ : ∃ w0 w1 w2 : Value, args = #[w0, w1, w2] := by
    have hs : args.size = 3 := by simpa [Cond.value, given_1] using g25
    obtain ⟨L⟩ := args
    match L, hs with
    | [w0, w1, w2], _ => exact ⟨w0, w1, w2, rfl⟩
  have hw := fun d (hd : d ∈ tables_1) => atoms_spec (ws := Jvm.Cond.code x code maxLocals ret :: tables_1) hat d (List.mem_cons_of_mem _ hd)
  have hfit : Fit s := fun {y c} hc i hi => by
    obtain ⟨ha, rfl⟩ := Array.getElem?_eq_some_iff.mp hc
    have q := List.all_eq_true.mp ((Array.all_eq_true_iff_forall_mem.mp hF) _ (Array.getElem_mem ha)) i (List.mem_range.mpr hi)
    simpa [Array.getElem?_eq_getElem hi] using q
  obtain ⟨i0, ei0⟩ := is_v g27
  obtain rfl : w0 = (.int i0) := Option.some.inj ei0
  obtain ⟨i1, ei1⟩ := is_v g29
  obtain rfl : w1 = (.int i1) := Option.some.inj ei1
  obtain ⟨i2, ei2⟩ := is_v g30
  obtain rfl : w2 = (.int i2) := Option.some.inj ei2
  obtain ⟨n, o, h1, h2, h3, _, L, rfl, ⟨rfl, N⟩, hq⟩ := rm0 l s _ hw tables_1 i0 i1 i2 s.heap s.heap.size (Nat.le_refl _) (by decide) (by decide) p e ha hc hk s m _ below hf ((Spec.applies_iff_loose hf).mp happ).1 ⟨rfl, State.Warmed39.refl s, rfl⟩ trivial
  refine ⟨n, _, h1, h2, h3, hpost _ _ _ _ _ _ ⟨Cond.after_iff.mpr rfl, Cond.after_iff.mpr (eq_i res_at (Term.int_eval (1)) rfl), trivial⟩ ⟨hq.1, hq.2.1, (hq.2.2.sift fun y hy => Or.inr (N y hy)).mono (by decide) (by decide)⟩⟩
theorem main_1_1 : Claimed_1_1 := comes_1 fun _ _ _ _ _ _ h hF => ⟨h.1, hF⟩
theorem main_1_2 : Claimed_1_2 := comes_1 fun _ _ _ _ _ _ h hF => ⟨h.2.1, hF⟩
end Jvm.Pilot.@@N@@
namespace Jvm.Pilot.@@N@@
open Jvm Jvm.ClassFile Sem Op Lib Jvm.Free Jvm.Stand Jvm.Pilot.@@N@@.Jvm.D
/-! MADE BY PROGRAM (witnessworld.py) out of the Statement's table words and the real class files: 9 classes; the members and pool entries that the words name. The judged class is class 1, her method 2. -/
namespace start1
open Jvm.ClassFile
def u (s : String) : CpInfo := .utf8 (stringToUtf16 s)
/-- a pool by its gaps: so many unusable entries, then the entry; so many at the end -/
def gap : Nat → List CpInfo → List CpInfo
  | 0, r => r
  | n + 1, r => .unusable :: gap n r
def poolList (es : List (Nat × CpInfo)) (last : Nat) : List CpInfo := es.foldr (fun e r => gap e.1 (e.2 :: r)) (gap last [])
def pool (es : List (Nat × CpInfo)) (last : Nat) : Array CpInfo := ⟨poolList es last⟩
def fileOf (pool : Array CpInfo) (this : Nat) (attrs : Array Attribute := #[]) (ms : Array MethodInfo := #[]) (fl : Nat := 33) (sup : Nat := 0) (ifs : Array Nat := #[]) (fds : Array FieldInfo := #[]) : ClassFile where
  minorVersion := 0
  majorVersion := 65
  constantPool := pool
  accessFlags := fl
  thisClass := this
  superClass := sup
  interfaces := ifs
  fields := fds
  methods := ms
  attributes := attrs
def plain (name : String) (sup : Option ClassId) : Class where
  name := name
  kind := .ordinary
  loader := none
  accessFlags := 33
  super := sup
  interfaces := #[]
  cf := none
  fields := #[]
  methods := #[]
  instanceTypes := #[]
  staticTypes := #[]
  resolved := #[]
  callSites := []
  init := .initialized
  statics := none
  mirror := none

def pool0 : Array CpInfo := pool [(5, u "<init>"), (0, u "()V"), (1, .class_ 10), (1, u "java/lang/Object")] 113

def k0m0 : Method := { name := "<init>", desc := "()V", sig := { parameters := [], returnType := none }, accessFlags := 1, code := none }
/-- java/lang/Object -/
def k0 : Class := { plain "java/lang/Object" none with
  accessFlags := 33
  interfaces := #[]
  cf := some (fileOf pool0 8 #[] #[{ accessFlags := 1, nameIndex := 5, descriptorIndex := 6, attributes := #[] }] 33 0 #[] #[])
  fields := #[]
  methods := #[k0m0]
  instanceTypes := #[]
  staticTypes := #[]
  resolved := Array.replicate 124 none
  statics := none }

def pool1 : Array CpInfo := pool [(2, .class_ 4), (1, u "java/lang/Object"), (0, u "<init>"), (0, u "()V"), (0, .integer 1114111), (0, .integer 55296), (0, .integer 57343), (0, .integer 65534), (0, .integer 65535), (0, .methodref 13 14), (0, .class_ 15), (0, .nameAndType 16 17), (0, u "com/example/exqel/exqel/value/XmlChars"), (0, u "isChar"), (0, u "(I)Z"), (0, .methodref 19 20), (0, .class_ 21), (0, .nameAndType 22 17), (0, u "com/example/exqel/exqel/value/XmlCharsIsCharPinLaw"), (0, u "ref"), (0, .integer 55295), (0, .integer 57344), (0, .integer 65533), (0, .integer 65536), (2, .integer 2147483648), (0, .integer 2147483647), (3, u "law"), (0, u "(III)Z")] 4

def k1m0 : Method := { name := "<init>", desc := "()V", sig := { parameters := [], returnType := none }, accessFlags := 2, code := none }
def k1c1 : Code := { maxStack := 2, maxLocals := 1, code := method_2_code, exceptionTable := #[], attributes := #[] }
def k1m1 : Method := { name := "ref", desc := "(I)Z", sig := { parameters := [.int], returnType := some .boolean }, accessFlags := 10, code := some k1c1 }
def k1c2 : Code := { maxStack := 4, maxLocals := 9, code := code, exceptionTable := #[], attributes := #[] }
def k1m2 : Method := { name := "law", desc := "(III)Z", sig := { parameters := [.int, .int, .int], returnType := some .boolean }, accessFlags := 9, code := some k1c2 }
/-- com/example/exqel/exqel/value/XmlCharsIsCharPinLaw -/
def k1 : Class := { plain "com/example/exqel/exqel/value/XmlCharsIsCharPinLaw" (some 0) with
  accessFlags := 49
  interfaces := #[]
  cf := some (fileOf pool1 19 #[] #[{ accessFlags := 2, nameIndex := 5, descriptorIndex := 6, attributes := #[] }, { accessFlags := 10, nameIndex := 22, descriptorIndex := 17, attributes := #[] }, { accessFlags := 9, nameIndex := 34, descriptorIndex := 35, attributes := #[] }] 49 2 #[] #[])
  fields := #[]
  methods := #[k1m0, k1m1, k1m2]
  instanceTypes := #[]
  staticTypes := #[]
  resolved := Array.replicate 40 none
  statics := none }

def pool2 : Array CpInfo := pool [(2, .class_ 4), (1, u "java/lang/Object"), (0, u "<init>"), (0, u "()V"), (0, .integer 55295), (0, .integer 57344), (0, .integer 65533), (0, .integer 65536), (0, .integer 1114111), (15, .class_ 29), (1, u "com/example/exqel/exqel/value/XmlChars"), (1, u "(I)Z"), (14, u "isChar")] 6

def k2m0 : Method := { name := "<init>", desc := "()V", sig := { parameters := [], returnType := none }, accessFlags := 2, code := none }
def k2c1 : Code := { maxStack := 2, maxLocals := 1, code := prog_92_method_2_code, exceptionTable := #[], attributes := #[] }
def k2m1 : Method := { name := "isChar", desc := "(I)Z", sig := { parameters := [.int], returnType := some .boolean }, accessFlags := 9, code := some k2c1 }
/-- com/example/exqel/exqel/value/XmlChars -/
def k2 : Class := { plain "com/example/exqel/exqel/value/XmlChars" (some 0) with
  accessFlags := 49
  interfaces := #[]
  cf := some (fileOf pool2 27 #[] #[{ accessFlags := 2, nameIndex := 5, descriptorIndex := 6, attributes := #[] }, { accessFlags := 9, nameIndex := 46, descriptorIndex := 31, attributes := #[] }] 49 2 #[] #[])
  fields := #[]
  methods := #[k2m0, k2m1]
  instanceTypes := #[]
  staticTypes := #[]
  resolved := Array.replicate 53 none
  statics := none }

def pool3 : Array CpInfo := pool [(1, u "java/lang/Cloneable"), (0, .class_ 1), (0, u "java/lang/Object"), (0, .class_ 3)] 3

/-- java/lang/Cloneable -/
def k3 : Class := { plain "java/lang/Cloneable" (some 0) with
  accessFlags := 1537
  interfaces := #[]
  cf := some (fileOf pool3 2 #[] #[] 1537 4 #[] #[])
  fields := #[]
  methods := #[]
  instanceTypes := #[]
  staticTypes := #[]
  resolved := Array.replicate 8 none
  statics := none }

def pool4 : Array CpInfo := pool [(1, u "java/io/Serializable"), (0, .class_ 1), (0, u "java/lang/Object"), (0, .class_ 3)] 3

/-- java/io/Serializable -/
def k4 : Class := { plain "java/io/Serializable" (some 0) with
  accessFlags := 1537
  interfaces := #[]
  cf := some (fileOf pool4 2 #[] #[] 1537 4 #[] #[])
  fields := #[]
  methods := #[]
  instanceTypes := #[]
  staticTypes := #[]
  resolved := Array.replicate 8 none
  statics := none }

/-- the primitive byte -/
def k5 : Class := { plain "byte" none with kind := .primitive 'B', accessFlags := 0x411 }
/-- [B -/
def k6 : Class := { plain "[B" (some 0) with kind := .array 5 .byte, interfaces := #[3, 4], accessFlags := 1041 }

/-- the primitive int -/
def k7 : Class := { plain "int" none with kind := .primitive 'I', accessFlags := 0x411 }
/-- [I -/
def k8 : Class := { plain "[I" (some 0) with kind := .array 7 .int, interfaces := #[3, 4], accessFlags := 1041 }

def heap : Heap := #[]
def classes : Array Class := #[k0, k1, k2, k3, k4, k5, k6, k7, k8]
def interned : List (Array UInt16 × Addr) := []
def slotsUsed : Nat := 0
def theMethod : MethodId := ⟨1, 2⟩
def args0 : Array Value := #[.int 5, .int 7, .int 9]
def aboutOver (below : List Frame) : State where
  vm := { classes := classes, interned := interned.toArray }
  heap := heap
  slotsUsed := slotsUsed
  threads := #[{ frames := .invoking theMethod args0 :: below }]
def below0 : List Frame := [.native { method := ⟨0, 0⟩, args := #[] }]
def about1 : State := aboutOver below0
def p0 : Program := .bare "" "" ""
def e0 : Env := launch0.env 0 0 0
theorem w_frames : about1.frames = Frame.invoking theMethod args0 :: below0 := rfl
set_option maxRecDepth 65536 in
theorem w_args : argsFit about1.vm theMethod args0 = true := by decide +kernel
set_option maxRecDepth 65536 in
theorem w_heap : heapFits about1 = true := by decide +kernel
set_option maxRecDepth 65536 in
theorem w_runnable : about1.curStatus? = some .runnable := by decide +kernel
set_option maxRecDepth 65536 in
theorem w_alone : about1.alone = true := by decide +kernel
set_option maxRecDepth 65536 in
theorem w_named : about1.methodNamed? x = some theMethod := by decide +kernel
set_option maxRecDepth 65536 in
theorem w_hears : about1.hears theMethod below0 = true := by decide +kernel
set_option maxRecDepth 65536 in
theorem w_ripe : about1.ripe theMethod args0 below0 = true := by decide +kernel
theorem w_running : about1.status = .running := rfl
set_option maxRecDepth 65536 in
theorem w_room : about1.hasRoom e0.platform room_1 = true :=
  launch0.hasRoom_least _ room_1 (by decide +kernel) (by decide +kernel) (by decide +kernel) (by decide +kernel) (by decide +kernel) (by decide +kernel)
theorem allAtoms_all (ts : List Jvm.Cond) (a : Array Jvm.Value) (st : Jvm.State) : (allAtoms ts).before a st = ts.all (fun c => c.before a st) := by
  induction ts with
  | nil => rfl
  | cons c t ih =>
    show (Jvm.Cond.and c (allAtoms t)).before a st = _
    rw [Jvm.Cond.before_and, ih, List.all_cons]
def words1 : List Jvm.Cond := Jvm.Cond.code x code maxLocals ret :: tables_1
/-- a 'code' word, met by the world's own term for the bytes: nothing is compared byte by byte -/
theorem code_word {y : MethodName} {bytes : ByteArray} {mx : Nat} {rt : Option FieldType} {a : Array Value} {s : State} {m : MethodId} {meth : Method} {c : Code} (h1 : s.methodNamed? y = some m) (h2 : s.vm.method? m = some meth) (h3 : meth.code = some c) (h4 : c.code = bytes)
    (h5 : (c.maxLocals == mx && c.exceptionTable.isEmpty && decide (c.maxStack ≤ mostOperands) && decide (meth.sig.returnType = rt) && !meth.locks && decide (parseMethodDescriptor y.desc = some meth.sig)) = true) : (Jvm.Cond.code y bytes mx rt).before a s = true := by
  simp only [Bool.and_eq_true, beq_iff_eq, Bool.not_eq_true', decide_eq_true_eq] at h5
  obtain ⟨⟨⟨⟨⟨g1, g2⟩, g3⟩, g4⟩, g5⟩, g6⟩ := h5
  simp [Cond.before, Cond.holds, Cond.value, h1, h2, h3, h4, g1, g2, g3, g4, g5, g6]
def isCode : Jvm.Cond → Bool
  | .code _ _ _ _ => true
  | _ => false
theorem all_split {L : List Jvm.Cond} {P : Jvm.Cond → Bool} (h1 : L.all (fun c => isCode c || P c) = true) (h2 : ∀ c ∈ L.filter isCode, P c = true) : L.all P = true := by
  refine List.all_eq_true.mpr fun c hc => ?_
  have h := List.all_eq_true.mp h1 c hc
  rcases Bool.eq_false_or_eq_true (isCode c) with hi | hi
  · exact h2 c (List.mem_filter.mpr ⟨hc, hi⟩)
  · simpa [hi] using h
set_option maxRecDepth 65536 in
theorem w_c0 : (Jvm.Cond.code x code maxLocals ret).before args0 about1 = true := code_word (m := ⟨1, 2⟩) (meth := k1m2) (c := k1c2) (by decide +kernel) rfl rfl rfl (by decide +kernel)
set_option maxRecDepth 65536 in
theorem w_c1 : (Jvm.Cond.code ({ cls := "com/example/exqel/exqel/value/XmlChars", name := "isChar", desc := "(I)Z" } : Jvm.MethodName) prog_92_method_2_code (1 : Nat) (Option.some Jvm.ClassFile.FieldType.boolean)).before args0 about1 = true := code_word (m := ⟨2, 1⟩) (meth := k2m1) (c := k2c1) (by decide +kernel) rfl rfl rfl (by decide +kernel)
set_option maxRecDepth 65536 in
theorem w_c2 : (Jvm.Cond.code ({ cls := "com/example/exqel/exqel/value/XmlCharsIsCharPinLaw", name := "ref", desc := "(I)Z" } : Jvm.MethodName) method_2_code (1 : Nat) (Option.some Jvm.ClassFile.FieldType.boolean)).before args0 about1 = true := code_word (m := ⟨1, 1⟩) (meth := k1m1) (c := k1c1) (by decide +kernel) rfl rfl rfl (by decide +kernel)
def codes1 : List Jvm.Cond := [Jvm.Cond.code x code maxLocals ret, Jvm.Cond.code ({ cls := "com/example/exqel/exqel/value/XmlChars", name := "isChar", desc := "(I)Z" } : Jvm.MethodName) prog_92_method_2_code (1 : Nat) (Option.some Jvm.ClassFile.FieldType.boolean), Jvm.Cond.code ({ cls := "com/example/exqel/exqel/value/XmlCharsIsCharPinLaw", name := "ref", desc := "(I)Z" } : Jvm.MethodName) method_2_code (1 : Nat) (Option.some Jvm.ClassFile.FieldType.boolean)]
set_option maxRecDepth 65536 in
theorem codes_eq : words1.filter isCode = codes1 := rfl
theorem w_codes : ∀ c ∈ words1.filter isCode, c.before args0 about1 = true := by
  rw [codes_eq]
  intro c hc
  simp only [codes1, List.mem_cons, List.not_mem_nil, or_false] at hc
  rcases hc with rfl | rfl | rfl
  · exact w_c0
  · exact w_c1
  · exact w_c2
set_option maxRecDepth 65536 in
theorem w_t1 : (words1.take 24).all (fun c => isCode c || c.before args0 about1) = true := by decide +kernel
set_option maxRecDepth 65536 in
theorem w_t2 : (words1.drop 24).all (fun c => isCode c || c.before args0 about1) = true := by decide +kernel
theorem w_tables : (allAtoms (Jvm.Cond.code x code maxLocals ret :: tables_1)).before args0 about1 = true := by
  rw [allAtoms_all]
  show words1.all (fun c => c.before args0 about1) = true
  refine all_split ?_ w_codes
  rw [← List.take_append_drop 24 words1, List.all_append, w_t1, w_t2]
  rfl
set_option maxRecDepth 65536 in
theorem w_case : (Jvm.Cond.and given_1 narrow_1).before args0 about1 = true := by decide +kernel
theorem w_applies : (headSpec (Jvm.Cond.code x code maxLocals ret :: tables_1) room_1).applies x e0.platform about1 = true :=
  (Spec.applies_iff w_frames).mpr ⟨w_running, w_runnable, w_alone, w_named, w_hears, w_ripe, w_room, w_tables⟩
theorem atStart : AtStart classFile x code maxLocals ret World_1 tables_1 room_1 Calls_1 rest_1 Pre_1 launch0 p0 e0 about1 theMethod args0 below0 :=
  ⟨lists_1, trivial, launch0.admits_env _ _ _, launch0.least_env, fairChoices_fair.cas, fairChoices_fair.clock, w_frames, w_args, w_heap, w_applies, trivial, trivial, w_case⟩
end start1
theorem witness_1 : WitnessClaimed_1 := ⟨start1.p0, start1.e0, start1.about1, start1.theMethod, start1.args0, start1.below0, start1.atStart⟩
end Jvm.Pilot.@@N@@

import JvmDerived
import JvmDerived.Pilot.@@N@@Statement
import JvmDerived.Pilot.@@N@@Code
set_option linter.unusedVariables false
set_option linter.unusedSimpArgs false
namespace Jvm.RoadKit
open Sem ClassFile Op Lib Jvm.Stand Jvm.Free Jvm.LawKit
section New
variable {p : Program} {l : Launch} {e : Env} {R : Room} {s : State} {m : MethodId} {args : Array Value} {below : List Frame} {meth : Method} {c : Code} {T : State} {locs : List Loc} {cells slots : Nat}
theorem retI (X : Stand p l e R s m args below meth c T locs cells slots) (hx : p.tables.exec = Jvm.exec) {pc : Nat} {Ls : Array Slot} {z : Int32} {rest : List Value} (hret : meth.sig.returnType = some .int) (hd : decode c.code pc = .ok (.ireturn, 1)) {fs : List Frame}
    (hl : ∀ (f : JFrame) (acts : List Action), f.method = m → f.locked = none → f.entered = [] → (doReturn e (T.setTop f) acts (some (.int z))).1 = T.setFrames fs) : Steps p.tables e below (T.setTop (mkF m pc Ls (.int z :: rest))) (T.setFrames fs) := by
  have hm' : T.vm.method? m = some meth := X.method'
  have hn : narrow .int (.int z) = .int z := rfl
  show Steps p.tables e below (T.setTop { method := m, pc := pc, locals := Ls, stack := _ :: rest, locked := none }) _
  jvm_step X.here [X.here.top, hx, hd, hm', hret, hn]
  first | (intro acts; rw [hl _ acts rfl rfl rfl]) | rw [hl _ _ rfl rfl rfl]
  exact Steps.refl _
end New
end Jvm.RoadKit
namespace Jvm.Pilot.@@N@@
open Jvm Jvm.ClassFile Sem Op Lib Jvm.Free Jvm.Stand Jvm.LawKit Jvm.RoadKit Bundle Jvm.Pilot.@@N@@.Jvm.D
theorem d1_0 : decode prog_92_method_3_code 0 = .ok (.iload_n 0, 1) := by decide +kernel
theorem d1_1 : decode prog_92_method_3_code 1 = .ok (.bipush 97, 2) := by decide +kernel
theorem d1_3 : decode prog_92_method_3_code 3 = .ok (.if_icmp .lt 9, 3) := by decide +kernel
theorem d1_6 : decode prog_92_method_3_code 6 = .ok (.iload_n 0, 1) := by decide +kernel
theorem d1_7 : decode prog_92_method_3_code 7 = .ok (.bipush 122, 2) := by decide +kernel
theorem d1_9 : decode prog_92_method_3_code 9 = .ok (.if_icmp .le 182, 3) := by decide +kernel
theorem d1_12 : decode prog_92_method_3_code 12 = .ok (.iload_n 0, 1) := by decide +kernel
theorem d1_13 : decode prog_92_method_3_code 13 = .ok (.bipush 65, 2) := by decide +kernel
theorem d1_15 : decode prog_92_method_3_code 15 = .ok (.if_icmp .lt 9, 3) := by decide +kernel
theorem d1_18 : decode prog_92_method_3_code 18 = .ok (.iload_n 0, 1) := by decide +kernel
theorem d1_19 : decode prog_92_method_3_code 19 = .ok (.bipush 90, 2) := by decide +kernel
theorem d1_21 : decode prog_92_method_3_code 21 = .ok (.if_icmp .le 170, 3) := by decide +kernel
theorem d1_24 : decode prog_92_method_3_code 24 = .ok (.iload_n 0, 1) := by decide +kernel
theorem d1_25 : decode prog_92_method_3_code 25 = .ok (.bipush 95, 2) := by decide +kernel
theorem d1_27 : decode prog_92_method_3_code 27 = .ok (.if_icmp .eq 164, 3) := by decide +kernel
theorem d1_30 : decode prog_92_method_3_code 30 = .ok (.iload_n 0, 1) := by decide +kernel
theorem d1_31 : decode prog_92_method_3_code 31 = .ok (.sipush 192, 3) := by decide +kernel
theorem d1_34 : decode prog_92_method_3_code 34 = .ok (.if_icmp .lt 10, 3) := by decide +kernel
theorem d1_37 : decode prog_92_method_3_code 37 = .ok (.iload_n 0, 1) := by decide +kernel
theorem d1_38 : decode prog_92_method_3_code 38 = .ok (.sipush 214, 3) := by decide +kernel
theorem d1_41 : decode prog_92_method_3_code 41 = .ok (.if_icmp .le 150, 3) := by decide +kernel
theorem d1_44 : decode prog_92_method_3_code 44 = .ok (.iload_n 0, 1) := by decide +kernel
theorem d1_45 : decode prog_92_method_3_code 45 = .ok (.sipush 216, 3) := by decide +kernel
theorem d1_48 : decode prog_92_method_3_code 48 = .ok (.if_icmp .lt 10, 3) := by decide +kernel
theorem d1_51 : decode prog_92_method_3_code 51 = .ok (.iload_n 0, 1) := by decide +kernel
theorem d1_52 : decode prog_92_method_3_code 52 = .ok (.sipush 246, 3) := by decide +kernel
theorem d1_55 : decode prog_92_method_3_code 55 = .ok (.if_icmp .le 136, 3) := by decide +kernel
theorem d1_58 : decode prog_92_method_3_code 58 = .ok (.iload_n 0, 1) := by decide +kernel
theorem d1_59 : decode prog_92_method_3_code 59 = .ok (.sipush 248, 3) := by decide +kernel
theorem d1_62 : decode prog_92_method_3_code 62 = .ok (.if_icmp .lt 10, 3) := by decide +kernel
theorem d1_65 : decode prog_92_method_3_code 65 = .ok (.iload_n 0, 1) := by decide +kernel
theorem d1_66 : decode prog_92_method_3_code 66 = .ok (.sipush 767, 3) := by decide +kernel
theorem d1_69 : decode prog_92_method_3_code 69 = .ok (.if_icmp .le 122, 3) := by decide +kernel
theorem d1_72 : decode prog_92_method_3_code 72 = .ok (.iload_n 0, 1) := by decide +kernel
theorem d1_73 : decode prog_92_method_3_code 73 = .ok (.sipush 880, 3) := by decide +kernel
theorem d1_76 : decode prog_92_method_3_code 76 = .ok (.if_icmp .lt 10, 3) := by decide +kernel
theorem d1_79 : decode prog_92_method_3_code 79 = .ok (.iload_n 0, 1) := by decide +kernel
theorem d1_80 : decode prog_92_method_3_code 80 = .ok (.sipush 893, 3) := by decide +kernel
theorem d1_83 : decode prog_92_method_3_code 83 = .ok (.if_icmp .le 108, 3) := by decide +kernel
theorem d1_86 : decode prog_92_method_3_code 86 = .ok (.iload_n 0, 1) := by decide +kernel
theorem d1_87 : decode prog_92_method_3_code 87 = .ok (.sipush 895, 3) := by decide +kernel
theorem d1_90 : decode prog_92_method_3_code 90 = .ok (.if_icmp .lt 10, 3) := by decide +kernel
theorem d1_93 : decode prog_92_method_3_code 93 = .ok (.iload_n 0, 1) := by decide +kernel
theorem d1_94 : decode prog_92_method_3_code 94 = .ok (.sipush 8191, 3) := by decide +kernel
theorem d1_97 : decode prog_92_method_3_code 97 = .ok (.if_icmp .le 94, 3) := by decide +kernel
theorem d1_100 : decode prog_92_method_3_code 100 = .ok (.iload_n 0, 1) := by decide +kernel
theorem d1_101 : decode prog_92_method_3_code 101 = .ok (.sipush 8204, 3) := by decide +kernel
theorem d1_104 : decode prog_92_method_3_code 104 = .ok (.if_icmp .lt 10, 3) := by decide +kernel
theorem d1_107 : decode prog_92_method_3_code 107 = .ok (.iload_n 0, 1) := by decide +kernel
theorem d1_108 : decode prog_92_method_3_code 108 = .ok (.sipush 8205, 3) := by decide +kernel
theorem d1_111 : decode prog_92_method_3_code 111 = .ok (.if_icmp .le 80, 3) := by decide +kernel
theorem d1_114 : decode prog_92_method_3_code 114 = .ok (.iload_n 0, 1) := by decide +kernel
theorem d1_115 : decode prog_92_method_3_code 115 = .ok (.sipush 8304, 3) := by decide +kernel
theorem d1_118 : decode prog_92_method_3_code 118 = .ok (.if_icmp .lt 10, 3) := by decide +kernel
theorem d1_121 : decode prog_92_method_3_code 121 = .ok (.iload_n 0, 1) := by decide +kernel
theorem d1_122 : decode prog_92_method_3_code 122 = .ok (.sipush 8591, 3) := by decide +kernel
theorem d1_125 : decode prog_92_method_3_code 125 = .ok (.if_icmp .le 66, 3) := by decide +kernel
theorem d1_128 : decode prog_92_method_3_code 128 = .ok (.iload_n 0, 1) := by decide +kernel
theorem d1_129 : decode prog_92_method_3_code 129 = .ok (.sipush 11264, 3) := by decide +kernel
theorem d1_132 : decode prog_92_method_3_code 132 = .ok (.if_icmp .lt 10, 3) := by decide +kernel
theorem d1_135 : decode prog_92_method_3_code 135 = .ok (.iload_n 0, 1) := by decide +kernel
theorem d1_136 : decode prog_92_method_3_code 136 = .ok (.sipush 12271, 3) := by decide +kernel
theorem d1_139 : decode prog_92_method_3_code 139 = .ok (.if_icmp .le 52, 3) := by decide +kernel
theorem d1_142 : decode prog_92_method_3_code 142 = .ok (.iload_n 0, 1) := by decide +kernel
theorem d1_143 : decode prog_92_method_3_code 143 = .ok (.sipush 12289, 3) := by decide +kernel
theorem d1_146 : decode prog_92_method_3_code 146 = .ok (.if_icmp .lt 9, 3) := by decide +kernel
theorem d1_149 : decode prog_92_method_3_code 149 = .ok (.iload_n 0, 1) := by decide +kernel
theorem d1_150 : decode prog_92_method_3_code 150 = .ok (.ldc 7, 2) := by decide +kernel
theorem d1_152 : decode prog_92_method_3_code 152 = .ok (.if_icmp .le 39, 3) := by decide +kernel
theorem d1_155 : decode prog_92_method_3_code 155 = .ok (.iload_n 0, 1) := by decide +kernel
theorem d1_156 : decode prog_92_method_3_code 156 = .ok (.ldc 12, 2) := by decide +kernel
theorem d1_158 : decode prog_92_method_3_code 158 = .ok (.if_icmp .lt 9, 3) := by decide +kernel
theorem d1_161 : decode prog_92_method_3_code 161 = .ok (.iload_n 0, 1) := by decide +kernel
theorem d1_162 : decode prog_92_method_3_code 162 = .ok (.ldc 13, 2) := by decide +kernel
theorem d1_164 : decode prog_92_method_3_code 164 = .ok (.if_icmp .le 27, 3) := by decide +kernel
theorem d1_167 : decode prog_92_method_3_code 167 = .ok (.iload_n 0, 1) := by decide +kernel
theorem d1_168 : decode prog_92_method_3_code 168 = .ok (.ldc 14, 2) := by decide +kernel
theorem d1_170 : decode prog_92_method_3_code 170 = .ok (.if_icmp .lt 9, 3) := by decide +kernel
theorem d1_173 : decode prog_92_method_3_code 173 = .ok (.iload_n 0, 1) := by decide +kernel
theorem d1_174 : decode prog_92_method_3_code 174 = .ok (.ldc 9, 2) := by decide +kernel
theorem d1_176 : decode prog_92_method_3_code 176 = .ok (.if_icmp .le 15, 3) := by decide +kernel
theorem d1_179 : decode prog_92_method_3_code 179 = .ok (.iload_n 0, 1) := by decide +kernel
theorem d1_180 : decode prog_92_method_3_code 180 = .ok (.ldc 10, 2) := by decide +kernel
theorem d1_182 : decode prog_92_method_3_code 182 = .ok (.if_icmp .lt 13, 3) := by decide +kernel
theorem d1_185 : decode prog_92_method_3_code 185 = .ok (.iload_n 0, 1) := by decide +kernel
theorem d1_186 : decode prog_92_method_3_code 186 = .ok (.ldc 15, 2) := by decide +kernel
theorem d1_188 : decode prog_92_method_3_code 188 = .ok (.if_icmp .gt 7, 3) := by decide +kernel
theorem d1_191 : decode prog_92_method_3_code 191 = .ok (.iconst 1, 1) := by decide +kernel
theorem d1_192 : decode prog_92_method_3_code 192 = .ok (.goto 4, 3) := by decide +kernel
theorem d1_195 : decode prog_92_method_3_code 195 = .ok (.iconst 0, 1) := by decide +kernel
theorem d1_196 : decode prog_92_method_3_code 196 = .ok (.ireturn, 1) := by decide +kernel
theorem pn_1 : plainName "com/example/exqel/exqel/value/XmlChars" = true := by first | (simp [plainName, overriddenIn]; done) | decide +kernel
theorem ef_1 (m : MethodId) (x0 : Int32) : entryFrame m #[(.int x0)] 1 = mkF m 0 #[.val (.int x0)] [] := by first | (simp [entryFrame, mkF, argsToLocals, Value.category]; done) | rfl
def own_f1_195 (p1 : Int32) : Int32 := (0 : Int32)
def own_f1_191 (p1 : Int32) : Int32 := (1 : Int32)
def own_f1_185 (p1 : Int32) : Int32 := if (983039 : Int32) < p1 then own_f1_195 p1 else own_f1_191 p1
def own_f1_179 (p1 : Int32) : Int32 := if p1 < (65536 : Int32) then own_f1_195 p1 else own_f1_185 p1
def own_f1_173 (p1 : Int32) : Int32 := if (65533 : Int32) < p1 then own_f1_179 p1 else own_f1_191 p1
def own_f1_167 (p1 : Int32) : Int32 := if p1 < (65008 : Int32) then own_f1_179 p1 else own_f1_173 p1
def own_f1_161 (p1 : Int32) : Int32 := if (64975 : Int32) < p1 then own_f1_167 p1 else own_f1_191 p1
def own_f1_155 (p1 : Int32) : Int32 := if p1 < (63744 : Int32) then own_f1_167 p1 else own_f1_161 p1
def own_f1_149 (p1 : Int32) : Int32 := if (55295 : Int32) < p1 then own_f1_155 p1 else own_f1_191 p1
def own_f1_142 (p1 : Int32) : Int32 := if p1 < (12289 : Int32) then own_f1_155 p1 else own_f1_149 p1
def own_f1_135 (p1 : Int32) : Int32 := if (12271 : Int32) < p1 then own_f1_142 p1 else own_f1_191 p1
def own_f1_128 (p1 : Int32) : Int32 := if p1 < (11264 : Int32) then own_f1_142 p1 else own_f1_135 p1
def own_f1_121 (p1 : Int32) : Int32 := if (8591 : Int32) < p1 then own_f1_128 p1 else own_f1_191 p1
def own_f1_114 (p1 : Int32) : Int32 := if p1 < (8304 : Int32) then own_f1_128 p1 else own_f1_121 p1
def own_f1_107 (p1 : Int32) : Int32 := if (8205 : Int32) < p1 then own_f1_114 p1 else own_f1_191 p1
def own_f1_100 (p1 : Int32) : Int32 := if p1 < (8204 : Int32) then own_f1_114 p1 else own_f1_107 p1
def own_f1_93 (p1 : Int32) : Int32 := if (8191 : Int32) < p1 then own_f1_100 p1 else own_f1_191 p1
def own_f1_86 (p1 : Int32) : Int32 := if p1 < (895 : Int32) then own_f1_100 p1 else own_f1_93 p1
def own_f1_79 (p1 : Int32) : Int32 := if (893 : Int32) < p1 then own_f1_86 p1 else own_f1_191 p1
def own_f1_72 (p1 : Int32) : Int32 := if p1 < (880 : Int32) then own_f1_86 p1 else own_f1_79 p1
def own_f1_65 (p1 : Int32) : Int32 := if (767 : Int32) < p1 then own_f1_72 p1 else own_f1_191 p1
def own_f1_58 (p1 : Int32) : Int32 := if p1 < (248 : Int32) then own_f1_72 p1 else own_f1_65 p1
def own_f1_51 (p1 : Int32) : Int32 := if (246 : Int32) < p1 then own_f1_58 p1 else own_f1_191 p1
def own_f1_44 (p1 : Int32) : Int32 := if p1 < (216 : Int32) then own_f1_58 p1 else own_f1_51 p1
def own_f1_37 (p1 : Int32) : Int32 := if (214 : Int32) < p1 then own_f1_44 p1 else own_f1_191 p1
def own_f1_30 (p1 : Int32) : Int32 := if p1 < (192 : Int32) then own_f1_44 p1 else own_f1_37 p1
def own_f1_24 (p1 : Int32) : Int32 := if p1 = (95 : Int32) then own_f1_191 p1 else own_f1_30 p1
def own_f1_18 (p1 : Int32) : Int32 := if (90 : Int32) < p1 then own_f1_24 p1 else own_f1_191 p1
def own_f1_12 (p1 : Int32) : Int32 := if p1 < (65 : Int32) then own_f1_24 p1 else own_f1_18 p1
def own_f1_6 (p1 : Int32) : Int32 := if (122 : Int32) < p1 then own_f1_12 p1 else own_f1_191 p1
def own_f1_0 (p1 : Int32) : Int32 := if p1 < (97 : Int32) then own_f1_12 p1 else own_f1_6 p1
def Q1 (Z : State) (p1 : Int32) (h0 : Heap) (n0 : Nat) (v : Option Value) (h : Heap) (L : List Loc) : Prop := v = some (.int (own_f1_0 p1)) ∧ Fr n0 L ∧ h = h0
set_option maxRecDepth 65536 in
set_option maxHeartbeats 40000000 in
theorem rm1 (l : Launch) (Z : State) (a0 : Array Value) (hw : ∀ d ∈ tables_1, d.before a0 Z = true) (ws : List Jvm.Cond) (p1 : Int32) (h0 : Heap) (n0 : Nat) (Z0 : n0 ≤ h0.size) :
    MetFree l (⟨"com/example/exqel/exqel/value/XmlChars", "isNameStartChar", "(I)Z"⟩ : MethodName) (head1 (Jvm.Cond.code (⟨"com/example/exqel/exqel/value/XmlChars", "isNameStartChar", "(I)Z"⟩ : MethodName) prog_92_method_3_code 1 (some .boolean) :: ws) ({ frames := 0, cells := 0, slots := 0, locals := 0 } : Room)) (fun a U => a = #[(.int p1)] ∧ Z.Warmed39 U.vm ∧ U.heap = h0) (fun _ _ _ _ _ => True) (fun _ U o U' => ∃ v L, o = .returned v ∧ Q1 Z p1 h0 n0 v U'.heap L ∧ FrameEnd U o U' L ({ frames := 0, cells := 0, slots := 0, locals := 0 } : Room).cells ({ frames := 0, cells := 0, slots := 0, locals := 0 } : Room).slots) := by
  refine MetFree.of_bodySF (plainFor_of_name pn_1) hisR ?_
  intro p e s m args below meth c s₁ Bd hml0 hP hK
  obtain ⟨rfl, hZ, hh⟩ := hP
  have hx := Bd.exec
  have hby := Bd.bytes
  have hown : s.vm.findClass "com/example/exqel/exqel/value/XmlChars" = some m.cls := findClass_of_methodNamed Bd.named
  have X0 : Stand p l e ({ frames := 0, cells := 0, slots := 0, locals := 0 } : Room) s m #[(.int p1)] below meth c s₁ [] 0 0 := Stand.of_body Bd
  have e0 : s₁.heap = h0 := by rw [← hh, Bd.state]; rfl
  have N0 := Fr.nil n0
  have pre0 : ∀ t, Steps p.tables e below (s₁.setTop (mkF m 0 #[.val (.int p1)] [])) t → Steps p.tables e below (s₁.setTop (entryFrame m #[(.int p1)] 1)) t := fun t k => castTop (ef_1 m p1) k
  obtain ⟨R, hR0⟩ : ∃ R : Int32, R = own_f1_0 p1 := ⟨_, rfl⟩
  obtain ⟨fs, hr, hrun, hended, hW, hsame⟩ := X0.leave (v := some (.int R)) (fun h => by rw [Bd.returns] at h; cases h)
  refine ⟨_, _, pre0 _ ?_, hrun, hended, _, _, rfl, ?_, ⟨_, rfl⟩, hW, hsame.mono (by decide) (by decide)⟩
  · have J195 : own_f1_195 p1 = R → Steps p.tables e below (s₁.setTop (mkF m 195 #[.val (.int p1)] [])) (s₁.setFrames fs) := by
      intro hR0'
      have hR : (0 : Int32) = R := hR0'
      show Steps p.tables e below (s₁.setTop (mkF m 195 #[.val (.int p1)] [])) _
      refine XS.iconst X0.here hx rfl (hb hby d1_195) ?_
      show Steps p.tables e below (s₁.setTop (mkF m 196 #[.val (.int p1)] [(.int (0 : Int32))])) _
      subst hR
      exact retN X0 hx (t := .boolean) Bd.returns (by simp) (hb hby d1_196) hr
    have J191 : own_f1_191 p1 = R → Steps p.tables e below (s₁.setTop (mkF m 191 #[.val (.int p1)] [])) (s₁.setFrames fs) := by
      intro hR0'
      have hR : (1 : Int32) = R := hR0'
      show Steps p.tables e below (s₁.setTop (mkF m 191 #[.val (.int p1)] [])) _
      refine XS.iconst X0.here hx rfl (hb hby d1_191) ?_
      show Steps p.tables e below (s₁.setTop (mkF m 192 #[.val (.int p1)] [(.int (1 : Int32))])) _
      refine XS.goto X0.here hx rfl (pc0 := 192) (pc' := 196) rfl (hb hby d1_192) (by decide) (by decide) ?_
      show Steps p.tables e below (s₁.setTop (mkF m 196 #[.val (.int p1)] [(.int (1 : Int32))])) _
      subst hR
      exact retN X0 hx (t := .boolean) Bd.returns (by simp) (hb hby d1_196) hr
    have J185 : own_f1_185 p1 = R → Steps p.tables e below (s₁.setTop (mkF m 185 #[.val (.int p1)] [])) (s₁.setFrames fs) := by
      intro hR
      show Steps p.tables e below (s₁.setTop (mkF m 185 #[.val (.int p1)] [])) _
      refine XS.iloadN X0.here hx rfl (hb hby d1_185) rfl ?_
      show Steps p.tables e below (s₁.setTop (mkF m 186 #[.val (.int p1)] [(.int p1)])) _
      refine X0.ldcInt hx hown (mvT hZ (hw _ (List.mem_of_getElem? (i := 28) rfl))) (g := (mkF m 186 #[.val (.int p1)] [(.int p1)])) rfl (hb hby d1_186) _ ?_
      show Steps p.tables e below (s₁.setTop (mkF m 188 #[.val (.int p1)] [(.int (983039 : Int32)), (.int p1)])) _
      by_cases hc : (983039 : Int32) < p1
      · refine XS.icmpYes X0.here hx rfl (pc0 := 188) (pc' := 195) rfl (hb hby d1_188) rfl (tlt hc).2.2.1 (by decide) (by decide) ?_
        exact J195 ((show own_f1_185 p1 = own_f1_195 p1 from if_pos hc).symm.trans hR)
      · refine XS.icmpNo X0.here hx rfl (hb hby d1_188) rfl (flt hc).2.2.1 ?_
        exact J191 ((show own_f1_185 p1 = own_f1_191 p1 from if_neg hc).symm.trans hR)
    have J179 : own_f1_179 p1 = R → Steps p.tables e below (s₁.setTop (mkF m 179 #[.val (.int p1)] [])) (s₁.setFrames fs) := by
      intro hR
      show Steps p.tables e below (s₁.setTop (mkF m 179 #[.val (.int p1)] [])) _
      refine XS.iloadN X0.here hx rfl (hb hby d1_179) rfl ?_
      show Steps p.tables e below (s₁.setTop (mkF m 180 #[.val (.int p1)] [(.int p1)])) _
      refine X0.ldcInt hx hown (mvT hZ (hw _ (List.mem_of_getElem? (i := 6) rfl))) (g := (mkF m 180 #[.val (.int p1)] [(.int p1)])) rfl (hb hby d1_180) _ ?_
      show Steps p.tables e below (s₁.setTop (mkF m 182 #[.val (.int p1)] [(.int (65536 : Int32)), (.int p1)])) _
      by_cases hc : p1 < (65536 : Int32)
      · refine XS.icmpYes X0.here hx rfl (pc0 := 182) (pc' := 195) rfl (hb hby d1_182) rfl (tlt hc).1 (by decide) (by decide) ?_
        exact J195 ((show own_f1_179 p1 = own_f1_195 p1 from if_pos hc).symm.trans hR)
      · refine XS.icmpNo X0.here hx rfl (hb hby d1_182) rfl (flt hc).1 ?_
        exact J185 ((show own_f1_179 p1 = own_f1_185 p1 from if_neg hc).symm.trans hR)
    have J173 : own_f1_173 p1 = R → Steps p.tables e below (s₁.setTop (mkF m 173 #[.val (.int p1)] [])) (s₁.setFrames fs) := by
      intro hR
      show Steps p.tables e below (s₁.setTop (mkF m 173 #[.val (.int p1)] [])) _
      refine XS.iloadN X0.here hx rfl (hb hby d1_173) rfl ?_
      show Steps p.tables e below (s₁.setTop (mkF m 174 #[.val (.int p1)] [(.int p1)])) _
      refine X0.ldcInt hx hown (mvT hZ (hw _ (List.mem_of_getElem? (i := 27) rfl))) (g := (mkF m 174 #[.val (.int p1)] [(.int p1)])) rfl (hb hby d1_174) _ ?_
      show Steps p.tables e below (s₁.setTop (mkF m 176 #[.val (.int p1)] [(.int (65533 : Int32)), (.int p1)])) _
      by_cases hc : (65533 : Int32) < p1
      · refine XS.icmpNo X0.here hx rfl (hb hby d1_176) rfl (tlt hc).2.2.2 ?_
        exact J179 ((show own_f1_173 p1 = own_f1_179 p1 from if_pos hc).symm.trans hR)
      · refine XS.icmpYes X0.here hx rfl (pc0 := 176) (pc' := 191) rfl (hb hby d1_176) rfl (flt hc).2.2.2 (by decide) (by decide) ?_
        exact J191 ((show own_f1_173 p1 = own_f1_191 p1 from if_neg hc).symm.trans hR)
    have J167 : own_f1_167 p1 = R → Steps p.tables e below (s₁.setTop (mkF m 167 #[.val (.int p1)] [])) (s₁.setFrames fs) := by
      intro hR
      show Steps p.tables e below (s₁.setTop (mkF m 167 #[.val (.int p1)] [])) _
      refine XS.iloadN X0.here hx rfl (hb hby d1_167) rfl ?_
      show Steps p.tables e below (s₁.setTop (mkF m 168 #[.val (.int p1)] [(.int p1)])) _
      refine X0.ldcInt hx hown (mvT hZ (hw _ (List.mem_of_getElem? (i := 5) rfl))) (g := (mkF m 168 #[.val (.int p1)] [(.int p1)])) rfl (hb hby d1_168) _ ?_
      show Steps p.tables e below (s₁.setTop (mkF m 170 #[.val (.int p1)] [(.int (65008 : Int32)), (.int p1)])) _
      by_cases hc : p1 < (65008 : Int32)
      · refine XS.icmpYes X0.here hx rfl (pc0 := 170) (pc' := 179) rfl (hb hby d1_170) rfl (tlt hc).1 (by decide) (by decide) ?_
        exact J179 ((show own_f1_167 p1 = own_f1_179 p1 from if_pos hc).symm.trans hR)
      · refine XS.icmpNo X0.here hx rfl (hb hby d1_170) rfl (flt hc).1 ?_
        exact J173 ((show own_f1_167 p1 = own_f1_173 p1 from if_neg hc).symm.trans hR)
    have J161 : own_f1_161 p1 = R → Steps p.tables e below (s₁.setTop (mkF m 161 #[.val (.int p1)] [])) (s₁.setFrames fs) := by
      intro hR
      show Steps p.tables e below (s₁.setTop (mkF m 161 #[.val (.int p1)] [])) _
      refine XS.iloadN X0.here hx rfl (hb hby d1_161) rfl ?_
      show Steps p.tables e below (s₁.setTop (mkF m 162 #[.val (.int p1)] [(.int p1)])) _
      refine X0.ldcInt hx hown (mvT hZ (hw _ (List.mem_of_getElem? (i := 26) rfl))) (g := (mkF m 162 #[.val (.int p1)] [(.int p1)])) rfl (hb hby d1_162) _ ?_
      show Steps p.tables e below (s₁.setTop (mkF m 164 #[.val (.int p1)] [(.int (64975 : Int32)), (.int p1)])) _
      by_cases hc : (64975 : Int32) < p1
      · refine XS.icmpNo X0.here hx rfl (hb hby d1_164) rfl (tlt hc).2.2.2 ?_
        exact J167 ((show own_f1_161 p1 = own_f1_167 p1 from if_pos hc).symm.trans hR)
      · refine XS.icmpYes X0.here hx rfl (pc0 := 164) (pc' := 191) rfl (hb hby d1_164) rfl (flt hc).2.2.2 (by decide) (by decide) ?_
        exact J191 ((show own_f1_161 p1 = own_f1_191 p1 from if_neg hc).symm.trans hR)
    have J155 : own_f1_155 p1 = R → Steps p.tables e below (s₁.setTop (mkF m 155 #[.val (.int p1)] [])) (s₁.setFrames fs) := by
      intro hR
      show Steps p.tables e below (s₁.setTop (mkF m 155 #[.val (.int p1)] [])) _
      refine XS.iloadN X0.here hx rfl (hb hby d1_155) rfl ?_
      show Steps p.tables e below (s₁.setTop (mkF m 156 #[.val (.int p1)] [(.int p1)])) _
      refine X0.ldcInt hx hown (mvT hZ (hw _ (List.mem_of_getElem? (i := 4) rfl))) (g := (mkF m 156 #[.val (.int p1)] [(.int p1)])) rfl (hb hby d1_156) _ ?_
      show Steps p.tables e below (s₁.setTop (mkF m 158 #[.val (.int p1)] [(.int (63744 : Int32)), (.int p1)])) _
      by_cases hc : p1 < (63744 : Int32)
      · refine XS.icmpYes X0.here hx rfl (pc0 := 158) (pc' := 167) rfl (hb hby d1_158) rfl (tlt hc).1 (by decide) (by decide) ?_
        exact J167 ((show own_f1_155 p1 = own_f1_167 p1 from if_pos hc).symm.trans hR)
      · refine XS.icmpNo X0.here hx rfl (hb hby d1_158) rfl (flt hc).1 ?_
        exact J161 ((show own_f1_155 p1 = own_f1_161 p1 from if_neg hc).symm.trans hR)
    have J149 : own_f1_149 p1 = R → Steps p.tables e below (s₁.setTop (mkF m 149 #[.val (.int p1)] [])) (s₁.setFrames fs) := by
      intro hR
      show Steps p.tables e below (s₁.setTop (mkF m 149 #[.val (.int p1)] [])) _
      refine XS.iloadN X0.here hx rfl (hb hby d1_149) rfl ?_
      show Steps p.tables e below (s₁.setTop (mkF m 150 #[.val (.int p1)] [(.int p1)])) _
      refine X0.ldcInt hx hown (mvT hZ (hw _ (List.mem_of_getElem? (i := 25) rfl))) (g := (mkF m 150 #[.val (.int p1)] [(.int p1)])) rfl (hb hby d1_150) _ ?_
      show Steps p.tables e below (s₁.setTop (mkF m 152 #[.val (.int p1)] [(.int (55295 : Int32)), (.int p1)])) _
      by_cases hc : (55295 : Int32) < p1
      · refine XS.icmpNo X0.here hx rfl (hb hby d1_152) rfl (tlt hc).2.2.2 ?_
        exact J155 ((show own_f1_149 p1 = own_f1_155 p1 from if_pos hc).symm.trans hR)
      · refine XS.icmpYes X0.here hx rfl (pc0 := 152) (pc' := 191) rfl (hb hby d1_152) rfl (flt hc).2.2.2 (by decide) (by decide) ?_
        exact J191 ((show own_f1_149 p1 = own_f1_191 p1 from if_neg hc).symm.trans hR)
    have J142 : own_f1_142 p1 = R → Steps p.tables e below (s₁.setTop (mkF m 142 #[.val (.int p1)] [])) (s₁.setFrames fs) := by
      intro hR
      show Steps p.tables e below (s₁.setTop (mkF m 142 #[.val (.int p1)] [])) _
      refine XS.iloadN X0.here hx rfl (hb hby d1_142) rfl ?_
      show Steps p.tables e below (s₁.setTop (mkF m 143 #[.val (.int p1)] [(.int p1)])) _
      refine XS.sipush X0.here hx rfl (hb hby d1_143) ?_
      show Steps p.tables e below (s₁.setTop (mkF m 146 #[.val (.int p1)] [(.int (12289 : Int32)), (.int p1)])) _
      by_cases hc : p1 < (12289 : Int32)
      · refine XS.icmpYes X0.here hx rfl (pc0 := 146) (pc' := 155) rfl (hb hby d1_146) rfl (tlt hc).1 (by decide) (by decide) ?_
        exact J155 ((show own_f1_142 p1 = own_f1_155 p1 from if_pos hc).symm.trans hR)
      · refine XS.icmpNo X0.here hx rfl (hb hby d1_146) rfl (flt hc).1 ?_
        exact J149 ((show own_f1_142 p1 = own_f1_149 p1 from if_neg hc).symm.trans hR)
    have J135 : own_f1_135 p1 = R → Steps p.tables e below (s₁.setTop (mkF m 135 #[.val (.int p1)] [])) (s₁.setFrames fs) := by
      intro hR
      show Steps p.tables e below (s₁.setTop (mkF m 135 #[.val (.int p1)] [])) _
      refine XS.iloadN X0.here hx rfl (hb hby d1_135) rfl ?_
      show Steps p.tables e below (s₁.setTop (mkF m 136 #[.val (.int p1)] [(.int p1)])) _
      refine XS.sipush X0.here hx rfl (hb hby d1_136) ?_
      show Steps p.tables e below (s₁.setTop (mkF m 139 #[.val (.int p1)] [(.int (12271 : Int32)), (.int p1)])) _
      by_cases hc : (12271 : Int32) < p1
      · refine XS.icmpNo X0.here hx rfl (hb hby d1_139) rfl (tlt hc).2.2.2 ?_
        exact J142 ((show own_f1_135 p1 = own_f1_142 p1 from if_pos hc).symm.trans hR)
      · refine XS.icmpYes X0.here hx rfl (pc0 := 139) (pc' := 191) rfl (hb hby d1_139) rfl (flt hc).2.2.2 (by decide) (by decide) ?_
        exact J191 ((show own_f1_135 p1 = own_f1_191 p1 from if_neg hc).symm.trans hR)
    have J128 : own_f1_128 p1 = R → Steps p.tables e below (s₁.setTop (mkF m 128 #[.val (.int p1)] [])) (s₁.setFrames fs) := by
      intro hR
      show Steps p.tables e below (s₁.setTop (mkF m 128 #[.val (.int p1)] [])) _
      refine XS.iloadN X0.here hx rfl (hb hby d1_128) rfl ?_
      show Steps p.tables e below (s₁.setTop (mkF m 129 #[.val (.int p1)] [(.int p1)])) _
      refine XS.sipush X0.here hx rfl (hb hby d1_129) ?_
      show Steps p.tables e below (s₁.setTop (mkF m 132 #[.val (.int p1)] [(.int (11264 : Int32)), (.int p1)])) _
      by_cases hc : p1 < (11264 : Int32)
      · refine XS.icmpYes X0.here hx rfl (pc0 := 132) (pc' := 142) rfl (hb hby d1_132) rfl (tlt hc).1 (by decide) (by decide) ?_
        exact J142 ((show own_f1_128 p1 = own_f1_142 p1 from if_pos hc).symm.trans hR)
      · refine XS.icmpNo X0.here hx rfl (hb hby d1_132) rfl (flt hc).1 ?_
        exact J135 ((show own_f1_128 p1 = own_f1_135 p1 from if_neg hc).symm.trans hR)
    have J121 : own_f1_121 p1 = R → Steps p.tables e below (s₁.setTop (mkF m 121 #[.val (.int p1)] [])) (s₁.setFrames fs) := by
      intro hR
      show Steps p.tables e below (s₁.setTop (mkF m 121 #[.val (.int p1)] [])) _
      refine XS.iloadN X0.here hx rfl (hb hby d1_121) rfl ?_
      show Steps p.tables e below (s₁.setTop (mkF m 122 #[.val (.int p1)] [(.int p1)])) _
      refine XS.sipush X0.here hx rfl (hb hby d1_122) ?_
      show Steps p.tables e below (s₁.setTop (mkF m 125 #[.val (.int p1)] [(.int (8591 : Int32)), (.int p1)])) _
      by_cases hc : (8591 : Int32) < p1
      · refine XS.icmpNo X0.here hx rfl (hb hby d1_125) rfl (tlt hc).2.2.2 ?_
        exact J128 ((show own_f1_121 p1 = own_f1_128 p1 from if_pos hc).symm.trans hR)
      · refine XS.icmpYes X0.here hx rfl (pc0 := 125) (pc' := 191) rfl (hb hby d1_125) rfl (flt hc).2.2.2 (by decide) (by decide) ?_
        exact J191 ((show own_f1_121 p1 = own_f1_191 p1 from if_neg hc).symm.trans hR)
    have J114 : own_f1_114 p1 = R → Steps p.tables e below (s₁.setTop (mkF m 114 #[.val (.int p1)] [])) (s₁.setFrames fs) := by
      intro hR
      show Steps p.tables e below (s₁.setTop (mkF m 114 #[.val (.int p1)] [])) _
      refine XS.iloadN X0.here hx rfl (hb hby d1_114) rfl ?_
      show Steps p.tables e below (s₁.setTop (mkF m 115 #[.val (.int p1)] [(.int p1)])) _
      refine XS.sipush X0.here hx rfl (hb hby d1_115) ?_
      show Steps p.tables e below (s₁.setTop (mkF m 118 #[.val (.int p1)] [(.int (8304 : Int32)), (.int p1)])) _
      by_cases hc : p1 < (8304 : Int32)
      · refine XS.icmpYes X0.here hx rfl (pc0 := 118) (pc' := 128) rfl (hb hby d1_118) rfl (tlt hc).1 (by decide) (by decide) ?_
        exact J128 ((show own_f1_114 p1 = own_f1_128 p1 from if_pos hc).symm.trans hR)
      · refine XS.icmpNo X0.here hx rfl (hb hby d1_118) rfl (flt hc).1 ?_
        exact J121 ((show own_f1_114 p1 = own_f1_121 p1 from if_neg hc).symm.trans hR)
    have J107 : own_f1_107 p1 = R → Steps p.tables e below (s₁.setTop (mkF m 107 #[.val (.int p1)] [])) (s₁.setFrames fs) := by
      intro hR
      show Steps p.tables e below (s₁.setTop (mkF m 107 #[.val (.int p1)] [])) _
      refine XS.iloadN X0.here hx rfl (hb hby d1_107) rfl ?_
      show Steps p.tables e below (s₁.setTop (mkF m 108 #[.val (.int p1)] [(.int p1)])) _
      refine XS.sipush X0.here hx rfl (hb hby d1_108) ?_
      show Steps p.tables e below (s₁.setTop (mkF m 111 #[.val (.int p1)] [(.int (8205 : Int32)), (.int p1)])) _
      by_cases hc : (8205 : Int32) < p1
      · refine XS.icmpNo X0.here hx rfl (hb hby d1_111) rfl (tlt hc).2.2.2 ?_
        exact J114 ((show own_f1_107 p1 = own_f1_114 p1 from if_pos hc).symm.trans hR)
      · refine XS.icmpYes X0.here hx rfl (pc0 := 111) (pc' := 191) rfl (hb hby d1_111) rfl (flt hc).2.2.2 (by decide) (by decide) ?_
        exact J191 ((show own_f1_107 p1 = own_f1_191 p1 from if_neg hc).symm.trans hR)
    have J100 : own_f1_100 p1 = R → Steps p.tables e below (s₁.setTop (mkF m 100 #[.val (.int p1)] [])) (s₁.setFrames fs) := by
      intro hR
      show Steps p.tables e below (s₁.setTop (mkF m 100 #[.val (.int p1)] [])) _
      refine XS.iloadN X0.here hx rfl (hb hby d1_100) rfl ?_
      show Steps p.tables e below (s₁.setTop (mkF m 101 #[.val (.int p1)] [(.int p1)])) _
      refine XS.sipush X0.here hx rfl (hb hby d1_101) ?_
      show Steps p.tables e below (s₁.setTop (mkF m 104 #[.val (.int p1)] [(.int (8204 : Int32)), (.int p1)])) _
      by_cases hc : p1 < (8204 : Int32)
      · refine XS.icmpYes X0.here hx rfl (pc0 := 104) (pc' := 114) rfl (hb hby d1_104) rfl (tlt hc).1 (by decide) (by decide) ?_
        exact J114 ((show own_f1_100 p1 = own_f1_114 p1 from if_pos hc).symm.trans hR)
      · refine XS.icmpNo X0.here hx rfl (hb hby d1_104) rfl (flt hc).1 ?_
        exact J107 ((show own_f1_100 p1 = own_f1_107 p1 from if_neg hc).symm.trans hR)
    have J93 : own_f1_93 p1 = R → Steps p.tables e below (s₁.setTop (mkF m 93 #[.val (.int p1)] [])) (s₁.setFrames fs) := by
      intro hR
      show Steps p.tables e below (s₁.setTop (mkF m 93 #[.val (.int p1)] [])) _
      refine XS.iloadN X0.here hx rfl (hb hby d1_93) rfl ?_
      show Steps p.tables e below (s₁.setTop (mkF m 94 #[.val (.int p1)] [(.int p1)])) _
      refine XS.sipush X0.here hx rfl (hb hby d1_94) ?_
      show Steps p.tables e below (s₁.setTop (mkF m 97 #[.val (.int p1)] [(.int (8191 : Int32)), (.int p1)])) _
      by_cases hc : (8191 : Int32) < p1
      · refine XS.icmpNo X0.here hx rfl (hb hby d1_97) rfl (tlt hc).2.2.2 ?_
        exact J100 ((show own_f1_93 p1 = own_f1_100 p1 from if_pos hc).symm.trans hR)
      · refine XS.icmpYes X0.here hx rfl (pc0 := 97) (pc' := 191) rfl (hb hby d1_97) rfl (flt hc).2.2.2 (by decide) (by decide) ?_
        exact J191 ((show own_f1_93 p1 = own_f1_191 p1 from if_neg hc).symm.trans hR)
    have J86 : own_f1_86 p1 = R → Steps p.tables e below (s₁.setTop (mkF m 86 #[.val (.int p1)] [])) (s₁.setFrames fs) := by
      intro hR
      show Steps p.tables e below (s₁.setTop (mkF m 86 #[.val (.int p1)] [])) _
      refine XS.iloadN X0.here hx rfl (hb hby d1_86) rfl ?_
      show Steps p.tables e below (s₁.setTop (mkF m 87 #[.val (.int p1)] [(.int p1)])) _
      refine XS.sipush X0.here hx rfl (hb hby d1_87) ?_
      show Steps p.tables e below (s₁.setTop (mkF m 90 #[.val (.int p1)] [(.int (895 : Int32)), (.int p1)])) _
      by_cases hc : p1 < (895 : Int32)
      · refine XS.icmpYes X0.here hx rfl (pc0 := 90) (pc' := 100) rfl (hb hby d1_90) rfl (tlt hc).1 (by decide) (by decide) ?_
        exact J100 ((show own_f1_86 p1 = own_f1_100 p1 from if_pos hc).symm.trans hR)
      · refine XS.icmpNo X0.here hx rfl (hb hby d1_90) rfl (flt hc).1 ?_
        exact J93 ((show own_f1_86 p1 = own_f1_93 p1 from if_neg hc).symm.trans hR)
    have J79 : own_f1_79 p1 = R → Steps p.tables e below (s₁.setTop (mkF m 79 #[.val (.int p1)] [])) (s₁.setFrames fs) := by
      intro hR
      show Steps p.tables e below (s₁.setTop (mkF m 79 #[.val (.int p1)] [])) _
      refine XS.iloadN X0.here hx rfl (hb hby d1_79) rfl ?_
      show Steps p.tables e below (s₁.setTop (mkF m 80 #[.val (.int p1)] [(.int p1)])) _
      refine XS.sipush X0.here hx rfl (hb hby d1_80) ?_
      show Steps p.tables e below (s₁.setTop (mkF m 83 #[.val (.int p1)] [(.int (893 : Int32)), (.int p1)])) _
      by_cases hc : (893 : Int32) < p1
      · refine XS.icmpNo X0.here hx rfl (hb hby d1_83) rfl (tlt hc).2.2.2 ?_
        exact J86 ((show own_f1_79 p1 = own_f1_86 p1 from if_pos hc).symm.trans hR)
      · refine XS.icmpYes X0.here hx rfl (pc0 := 83) (pc' := 191) rfl (hb hby d1_83) rfl (flt hc).2.2.2 (by decide) (by decide) ?_
        exact J191 ((show own_f1_79 p1 = own_f1_191 p1 from if_neg hc).symm.trans hR)
    have J72 : own_f1_72 p1 = R → Steps p.tables e below (s₁.setTop (mkF m 72 #[.val (.int p1)] [])) (s₁.setFrames fs) := by
      intro hR
      show Steps p.tables e below (s₁.setTop (mkF m 72 #[.val (.int p1)] [])) _
      refine XS.iloadN X0.here hx rfl (hb hby d1_72) rfl ?_
      show Steps p.tables e below (s₁.setTop (mkF m 73 #[.val (.int p1)] [(.int p1)])) _
      refine XS.sipush X0.here hx rfl (hb hby d1_73) ?_
      show Steps p.tables e below (s₁.setTop (mkF m 76 #[.val (.int p1)] [(.int (880 : Int32)), (.int p1)])) _
      by_cases hc : p1 < (880 : Int32)
      · refine XS.icmpYes X0.here hx rfl (pc0 := 76) (pc' := 86) rfl (hb hby d1_76) rfl (tlt hc).1 (by decide) (by decide) ?_
        exact J86 ((show own_f1_72 p1 = own_f1_86 p1 from if_pos hc).symm.trans hR)
      · refine XS.icmpNo X0.here hx rfl (hb hby d1_76) rfl (flt hc).1 ?_
        exact J79 ((show own_f1_72 p1 = own_f1_79 p1 from if_neg hc).symm.trans hR)
    have J65 : own_f1_65 p1 = R → Steps p.tables e below (s₁.setTop (mkF m 65 #[.val (.int p1)] [])) (s₁.setFrames fs) := by
      intro hR
      show Steps p.tables e below (s₁.setTop (mkF m 65 #[.val (.int p1)] [])) _
      refine XS.iloadN X0.here hx rfl (hb hby d1_65) rfl ?_
      show Steps p.tables e below (s₁.setTop (mkF m 66 #[.val (.int p1)] [(.int p1)])) _
      refine XS.sipush X0.here hx rfl (hb hby d1_66) ?_
      show Steps p.tables e below (s₁.setTop (mkF m 69 #[.val (.int p1)] [(.int (767 : Int32)), (.int p1)])) _
      by_cases hc : (767 : Int32) < p1
      · refine XS.icmpNo X0.here hx rfl (hb hby d1_69) rfl (tlt hc).2.2.2 ?_
        exact J72 ((show own_f1_65 p1 = own_f1_72 p1 from if_pos hc).symm.trans hR)
      · refine XS.icmpYes X0.here hx rfl (pc0 := 69) (pc' := 191) rfl (hb hby d1_69) rfl (flt hc).2.2.2 (by decide) (by decide) ?_
        exact J191 ((show own_f1_65 p1 = own_f1_191 p1 from if_neg hc).symm.trans hR)
    have J58 : own_f1_58 p1 = R → Steps p.tables e below (s₁.setTop (mkF m 58 #[.val (.int p1)] [])) (s₁.setFrames fs) := by
      intro hR
      show Steps p.tables e below (s₁.setTop (mkF m 58 #[.val (.int p1)] [])) _
      refine XS.iloadN X0.here hx rfl (hb hby d1_58) rfl ?_
      show Steps p.tables e below (s₁.setTop (mkF m 59 #[.val (.int p1)] [(.int p1)])) _
      refine XS.sipush X0.here hx rfl (hb hby d1_59) ?_
      show Steps p.tables e below (s₁.setTop (mkF m 62 #[.val (.int p1)] [(.int (248 : Int32)), (.int p1)])) _
      by_cases hc : p1 < (248 : Int32)
      · refine XS.icmpYes X0.here hx rfl (pc0 := 62) (pc' := 72) rfl (hb hby d1_62) rfl (tlt hc).1 (by decide) (by decide) ?_
        exact J72 ((show own_f1_58 p1 = own_f1_72 p1 from if_pos hc).symm.trans hR)
      · refine XS.icmpNo X0.here hx rfl (hb hby d1_62) rfl (flt hc).1 ?_
        exact J65 ((show own_f1_58 p1 = own_f1_65 p1 from if_neg hc).symm.trans hR)
    have J51 : own_f1_51 p1 = R → Steps p.tables e below (s₁.setTop (mkF m 51 #[.val (.int p1)] [])) (s₁.setFrames fs) := by
      intro hR
      show Steps p.tables e below (s₁.setTop (mkF m 51 #[.val (.int p1)] [])) _
      refine XS.iloadN X0.here hx rfl (hb hby d1_51) rfl ?_
      show Steps p.tables e below (s₁.setTop (mkF m 52 #[.val (.int p1)] [(.int p1)])) _
      refine XS.sipush X0.here hx rfl (hb hby d1_52) ?_
      show Steps p.tables e below (s₁.setTop (mkF m 55 #[.val (.int p1)] [(.int (246 : Int32)), (.int p1)])) _
      by_cases hc : (246 : Int32) < p1
      · refine XS.icmpNo X0.here hx rfl (hb hby d1_55) rfl (tlt hc).2.2.2 ?_
        exact J58 ((show own_f1_51 p1 = own_f1_58 p1 from if_pos hc).symm.trans hR)
      · refine XS.icmpYes X0.here hx rfl (pc0 := 55) (pc' := 191) rfl (hb hby d1_55) rfl (flt hc).2.2.2 (by decide) (by decide) ?_
        exact J191 ((show own_f1_51 p1 = own_f1_191 p1 from if_neg hc).symm.trans hR)
    have J44 : own_f1_44 p1 = R → Steps p.tables e below (s₁.setTop (mkF m 44 #[.val (.int p1)] [])) (s₁.setFrames fs) := by
      intro hR
      show Steps p.tables e below (s₁.setTop (mkF m 44 #[.val (.int p1)] [])) _
      refine XS.iloadN X0.here hx rfl (hb hby d1_44) rfl ?_
      show Steps p.tables e below (s₁.setTop (mkF m 45 #[.val (.int p1)] [(.int p1)])) _
      refine XS.sipush X0.here hx rfl (hb hby d1_45) ?_
      show Steps p.tables e below (s₁.setTop (mkF m 48 #[.val (.int p1)] [(.int (216 : Int32)), (.int p1)])) _
      by_cases hc : p1 < (216 : Int32)
      · refine XS.icmpYes X0.here hx rfl (pc0 := 48) (pc' := 58) rfl (hb hby d1_48) rfl (tlt hc).1 (by decide) (by decide) ?_
        exact J58 ((show own_f1_44 p1 = own_f1_58 p1 from if_pos hc).symm.trans hR)
      · refine XS.icmpNo X0.here hx rfl (hb hby d1_48) rfl (flt hc).1 ?_
        exact J51 ((show own_f1_44 p1 = own_f1_51 p1 from if_neg hc).symm.trans hR)
    have J37 : own_f1_37 p1 = R → Steps p.tables e below (s₁.setTop (mkF m 37 #[.val (.int p1)] [])) (s₁.setFrames fs) := by
      intro hR
      show Steps p.tables e below (s₁.setTop (mkF m 37 #[.val (.int p1)] [])) _
      refine XS.iloadN X0.here hx rfl (hb hby d1_37) rfl ?_
      show Steps p.tables e below (s₁.setTop (mkF m 38 #[.val (.int p1)] [(.int p1)])) _
      refine XS.sipush X0.here hx rfl (hb hby d1_38) ?_
      show Steps p.tables e below (s₁.setTop (mkF m 41 #[.val (.int p1)] [(.int (214 : Int32)), (.int p1)])) _
      by_cases hc : (214 : Int32) < p1
      · refine XS.icmpNo X0.here hx rfl (hb hby d1_41) rfl (tlt hc).2.2.2 ?_
        exact J44 ((show own_f1_37 p1 = own_f1_44 p1 from if_pos hc).symm.trans hR)
      · refine XS.icmpYes X0.here hx rfl (pc0 := 41) (pc' := 191) rfl (hb hby d1_41) rfl (flt hc).2.2.2 (by decide) (by decide) ?_
        exact J191 ((show own_f1_37 p1 = own_f1_191 p1 from if_neg hc).symm.trans hR)
    have J30 : own_f1_30 p1 = R → Steps p.tables e below (s₁.setTop (mkF m 30 #[.val (.int p1)] [])) (s₁.setFrames fs) := by
      intro hR
      show Steps p.tables e below (s₁.setTop (mkF m 30 #[.val (.int p1)] [])) _
      refine XS.iloadN X0.here hx rfl (hb hby d1_30) rfl ?_
      show Steps p.tables e below (s₁.setTop (mkF m 31 #[.val (.int p1)] [(.int p1)])) _
      refine XS.sipush X0.here hx rfl (hb hby d1_31) ?_
      show Steps p.tables e below (s₁.setTop (mkF m 34 #[.val (.int p1)] [(.int (192 : Int32)), (.int p1)])) _
      by_cases hc : p1 < (192 : Int32)
      · refine XS.icmpYes X0.here hx rfl (pc0 := 34) (pc' := 44) rfl (hb hby d1_34) rfl (tlt hc).1 (by decide) (by decide) ?_
        exact J44 ((show own_f1_30 p1 = own_f1_44 p1 from if_pos hc).symm.trans hR)
      · refine XS.icmpNo X0.here hx rfl (hb hby d1_34) rfl (flt hc).1 ?_
        exact J37 ((show own_f1_30 p1 = own_f1_37 p1 from if_neg hc).symm.trans hR)
    have J24 : own_f1_24 p1 = R → Steps p.tables e below (s₁.setTop (mkF m 24 #[.val (.int p1)] [])) (s₁.setFrames fs) := by
      intro hR
      show Steps p.tables e below (s₁.setTop (mkF m 24 #[.val (.int p1)] [])) _
      refine XS.iloadN X0.here hx rfl (hb hby d1_24) rfl ?_
      show Steps p.tables e below (s₁.setTop (mkF m 25 #[.val (.int p1)] [(.int p1)])) _
      refine XS.bipush X0.here hx rfl (hb hby d1_25) ?_
      show Steps p.tables e below (s₁.setTop (mkF m 27 #[.val (.int p1)] [(.int (95 : Int32)), (.int p1)])) _
      by_cases hc : p1 = (95 : Int32)
      · refine XS.icmpYes X0.here hx rfl (pc0 := 27) (pc' := 191) rfl (hb hby d1_27) rfl (teq hc).1 (by decide) (by decide) ?_
        exact J191 ((show own_f1_24 p1 = own_f1_191 p1 from if_pos hc).symm.trans hR)
      · refine XS.icmpNo X0.here hx rfl (hb hby d1_27) rfl (feq hc).1 ?_
        exact J30 ((show own_f1_24 p1 = own_f1_30 p1 from if_neg hc).symm.trans hR)
    have J18 : own_f1_18 p1 = R → Steps p.tables e below (s₁.setTop (mkF m 18 #[.val (.int p1)] [])) (s₁.setFrames fs) := by
      intro hR
      show Steps p.tables e below (s₁.setTop (mkF m 18 #[.val (.int p1)] [])) _
      refine XS.iloadN X0.here hx rfl (hb hby d1_18) rfl ?_
      show Steps p.tables e below (s₁.setTop (mkF m 19 #[.val (.int p1)] [(.int p1)])) _
      refine XS.bipush X0.here hx rfl (hb hby d1_19) ?_
      show Steps p.tables e below (s₁.setTop (mkF m 21 #[.val (.int p1)] [(.int (90 : Int32)), (.int p1)])) _
      by_cases hc : (90 : Int32) < p1
      · refine XS.icmpNo X0.here hx rfl (hb hby d1_21) rfl (tlt hc).2.2.2 ?_
        exact J24 ((show own_f1_18 p1 = own_f1_24 p1 from if_pos hc).symm.trans hR)
      · refine XS.icmpYes X0.here hx rfl (pc0 := 21) (pc' := 191) rfl (hb hby d1_21) rfl (flt hc).2.2.2 (by decide) (by decide) ?_
        exact J191 ((show own_f1_18 p1 = own_f1_191 p1 from if_neg hc).symm.trans hR)
    have J12 : own_f1_12 p1 = R → Steps p.tables e below (s₁.setTop (mkF m 12 #[.val (.int p1)] [])) (s₁.setFrames fs) := by
      intro hR
      show Steps p.tables e below (s₁.setTop (mkF m 12 #[.val (.int p1)] [])) _
      refine XS.iloadN X0.here hx rfl (hb hby d1_12) rfl ?_
      show Steps p.tables e below (s₁.setTop (mkF m 13 #[.val (.int p1)] [(.int p1)])) _
      refine XS.bipush X0.here hx rfl (hb hby d1_13) ?_
      show Steps p.tables e below (s₁.setTop (mkF m 15 #[.val (.int p1)] [(.int (65 : Int32)), (.int p1)])) _
      by_cases hc : p1 < (65 : Int32)
      · refine XS.icmpYes X0.here hx rfl (pc0 := 15) (pc' := 24) rfl (hb hby d1_15) rfl (tlt hc).1 (by decide) (by decide) ?_
        exact J24 ((show own_f1_12 p1 = own_f1_24 p1 from if_pos hc).symm.trans hR)
      · refine XS.icmpNo X0.here hx rfl (hb hby d1_15) rfl (flt hc).1 ?_
        exact J18 ((show own_f1_12 p1 = own_f1_18 p1 from if_neg hc).symm.trans hR)
    have J6 : own_f1_6 p1 = R → Steps p.tables e below (s₁.setTop (mkF m 6 #[.val (.int p1)] [])) (s₁.setFrames fs) := by
      intro hR
      show Steps p.tables e below (s₁.setTop (mkF m 6 #[.val (.int p1)] [])) _
      refine XS.iloadN X0.here hx rfl (hb hby d1_6) rfl ?_
      show Steps p.tables e below (s₁.setTop (mkF m 7 #[.val (.int p1)] [(.int p1)])) _
      refine XS.bipush X0.here hx rfl (hb hby d1_7) ?_
      show Steps p.tables e below (s₁.setTop (mkF m 9 #[.val (.int p1)] [(.int (122 : Int32)), (.int p1)])) _
      by_cases hc : (122 : Int32) < p1
      · refine XS.icmpNo X0.here hx rfl (hb hby d1_9) rfl (tlt hc).2.2.2 ?_
        exact J12 ((show own_f1_6 p1 = own_f1_12 p1 from if_pos hc).symm.trans hR)
      · refine XS.icmpYes X0.here hx rfl (pc0 := 9) (pc' := 191) rfl (hb hby d1_9) rfl (flt hc).2.2.2 (by decide) (by decide) ?_
        exact J191 ((show own_f1_6 p1 = own_f1_191 p1 from if_neg hc).symm.trans hR)
    have J0 : own_f1_0 p1 = R → Steps p.tables e below (s₁.setTop (mkF m 0 #[.val (.int p1)] [])) (s₁.setFrames fs) := by
      intro hR
      show Steps p.tables e below (s₁.setTop (mkF m 0 #[.val (.int p1)] [])) _
      refine XS.iloadN X0.here hx rfl (hb hby d1_0) rfl ?_
      show Steps p.tables e below (s₁.setTop (mkF m 1 #[.val (.int p1)] [(.int p1)])) _
      refine XS.bipush X0.here hx rfl (hb hby d1_1) ?_
      show Steps p.tables e below (s₁.setTop (mkF m 3 #[.val (.int p1)] [(.int (97 : Int32)), (.int p1)])) _
      by_cases hc : p1 < (97 : Int32)
      · refine XS.icmpYes X0.here hx rfl (pc0 := 3) (pc' := 12) rfl (hb hby d1_3) rfl (tlt hc).1 (by decide) (by decide) ?_
        exact J12 ((show own_f1_0 p1 = own_f1_12 p1 from if_pos hc).symm.trans hR)
      · refine XS.icmpNo X0.here hx rfl (hb hby d1_3) rfl (flt hc).1 ?_
        exact J6 ((show own_f1_0 p1 = own_f1_6 p1 from if_neg hc).symm.trans hR)
    exact J0 hR0.symm
  · show Q1 Z p1 h0 n0 _ s₁.heap _
    rw [e0]
    exact ⟨by rw [hR0], N0, rfl⟩
theorem d2_0 : decode method_3_code 0 = .ok (.iload_n 0, 1) := by decide +kernel
theorem d2_1 : decode method_3_code 1 = .ok (.bipush 65, 2) := by decide +kernel
theorem d2_3 : decode method_3_code 3 = .ok (.if_icmp .lt 9, 3) := by decide +kernel
theorem d2_6 : decode method_3_code 6 = .ok (.iload_n 0, 1) := by decide +kernel
theorem d2_7 : decode method_3_code 7 = .ok (.ldc 13, 2) := by decide +kernel
theorem d2_9 : decode method_3_code 9 = .ok (.if_icmp .le 5, 3) := by decide +kernel
theorem d2_12 : decode method_3_code 12 = .ok (.iconst 0, 1) := by decide +kernel
theorem d2_13 : decode method_3_code 13 = .ok (.ireturn, 1) := by decide +kernel
theorem d2_14 : decode method_3_code 14 = .ok (.iload_n 0, 1) := by decide +kernel
theorem d2_15 : decode method_3_code 15 = .ok (.bipush 91, 2) := by decide +kernel
theorem d2_17 : decode method_3_code 17 = .ok (.if_icmp .lt 11, 3) := by decide +kernel
theorem d2_20 : decode method_3_code 20 = .ok (.iload_n 0, 1) := by decide +kernel
theorem d2_21 : decode method_3_code 21 = .ok (.bipush 94, 2) := by decide +kernel
theorem d2_23 : decode method_3_code 23 = .ok (.if_icmp .gt 5, 3) := by decide +kernel
theorem d2_26 : decode method_3_code 26 = .ok (.iconst 0, 1) := by decide +kernel
theorem d2_27 : decode method_3_code 27 = .ok (.ireturn, 1) := by decide +kernel
theorem d2_28 : decode method_3_code 28 = .ok (.iload_n 0, 1) := by decide +kernel
theorem d2_29 : decode method_3_code 29 = .ok (.bipush 96, 2) := by decide +kernel
theorem d2_31 : decode method_3_code 31 = .ok (.if_icmp .ne 5, 3) := by decide +kernel
theorem d2_34 : decode method_3_code 34 = .ok (.iconst 0, 1) := by decide +kernel
theorem d2_35 : decode method_3_code 35 = .ok (.ireturn, 1) := by decide +kernel
theorem d2_36 : decode method_3_code 36 = .ok (.iload_n 0, 1) := by decide +kernel
theorem d2_37 : decode method_3_code 37 = .ok (.bipush 123, 2) := by decide +kernel
theorem d2_39 : decode method_3_code 39 = .ok (.if_icmp .lt 12, 3) := by decide +kernel
theorem d2_42 : decode method_3_code 42 = .ok (.iload_n 0, 1) := by decide +kernel
theorem d2_43 : decode method_3_code 43 = .ok (.sipush 191, 3) := by decide +kernel
theorem d2_46 : decode method_3_code 46 = .ok (.if_icmp .gt 5, 3) := by decide +kernel
theorem d2_49 : decode method_3_code 49 = .ok (.iconst 0, 1) := by decide +kernel
theorem d2_50 : decode method_3_code 50 = .ok (.ireturn, 1) := by decide +kernel
theorem d2_51 : decode method_3_code 51 = .ok (.iload_n 0, 1) := by decide +kernel
theorem d2_52 : decode method_3_code 52 = .ok (.sipush 215, 3) := by decide +kernel
theorem d2_55 : decode method_3_code 55 = .ok (.if_icmp .eq 10, 3) := by decide +kernel
theorem d2_58 : decode method_3_code 58 = .ok (.iload_n 0, 1) := by decide +kernel
theorem d2_59 : decode method_3_code 59 = .ok (.sipush 247, 3) := by decide +kernel
theorem d2_62 : decode method_3_code 62 = .ok (.if_icmp .ne 5, 3) := by decide +kernel
theorem d2_65 : decode method_3_code 65 = .ok (.iconst 0, 1) := by decide +kernel
theorem d2_66 : decode method_3_code 66 = .ok (.ireturn, 1) := by decide +kernel
theorem d2_67 : decode method_3_code 67 = .ok (.iload_n 0, 1) := by decide +kernel
theorem d2_68 : decode method_3_code 68 = .ok (.sipush 768, 3) := by decide +kernel
theorem d2_71 : decode method_3_code 71 = .ok (.if_icmp .lt 12, 3) := by decide +kernel
theorem d2_74 : decode method_3_code 74 = .ok (.iload_n 0, 1) := by decide +kernel
theorem d2_75 : decode method_3_code 75 = .ok (.sipush 879, 3) := by decide +kernel
theorem d2_78 : decode method_3_code 78 = .ok (.if_icmp .gt 5, 3) := by decide +kernel
theorem d2_81 : decode method_3_code 81 = .ok (.iconst 0, 1) := by decide +kernel
theorem d2_82 : decode method_3_code 82 = .ok (.ireturn, 1) := by decide +kernel
theorem d2_83 : decode method_3_code 83 = .ok (.iload_n 0, 1) := by decide +kernel
theorem d2_84 : decode method_3_code 84 = .ok (.sipush 894, 3) := by decide +kernel
theorem d2_87 : decode method_3_code 87 = .ok (.if_icmp .ne 5, 3) := by decide +kernel
theorem d2_90 : decode method_3_code 90 = .ok (.iconst 0, 1) := by decide +kernel
theorem d2_91 : decode method_3_code 91 = .ok (.ireturn, 1) := by decide +kernel
theorem d2_92 : decode method_3_code 92 = .ok (.iload_n 0, 1) := by decide +kernel
theorem d2_93 : decode method_3_code 93 = .ok (.sipush 8192, 3) := by decide +kernel
theorem d2_96 : decode method_3_code 96 = .ok (.if_icmp .lt 12, 3) := by decide +kernel
theorem d2_99 : decode method_3_code 99 = .ok (.iload_n 0, 1) := by decide +kernel
theorem d2_100 : decode method_3_code 100 = .ok (.sipush 8203, 3) := by decide +kernel
theorem d2_103 : decode method_3_code 103 = .ok (.if_icmp .gt 5, 3) := by decide +kernel
theorem d2_106 : decode method_3_code 106 = .ok (.iconst 0, 1) := by decide +kernel
theorem d2_107 : decode method_3_code 107 = .ok (.ireturn, 1) := by decide +kernel
theorem d2_108 : decode method_3_code 108 = .ok (.iload_n 0, 1) := by decide +kernel
theorem d2_109 : decode method_3_code 109 = .ok (.sipush 8206, 3) := by decide +kernel
theorem d2_112 : decode method_3_code 112 = .ok (.if_icmp .lt 12, 3) := by decide +kernel
theorem d2_115 : decode method_3_code 115 = .ok (.iload_n 0, 1) := by decide +kernel
theorem d2_116 : decode method_3_code 116 = .ok (.sipush 8303, 3) := by decide +kernel
theorem d2_119 : decode method_3_code 119 = .ok (.if_icmp .gt 5, 3) := by decide +kernel
theorem d2_122 : decode method_3_code 122 = .ok (.iconst 0, 1) := by decide +kernel
theorem d2_123 : decode method_3_code 123 = .ok (.ireturn, 1) := by decide +kernel
theorem d2_124 : decode method_3_code 124 = .ok (.iload_n 0, 1) := by decide +kernel
theorem d2_125 : decode method_3_code 125 = .ok (.sipush 8592, 3) := by decide +kernel
theorem d2_128 : decode method_3_code 128 = .ok (.if_icmp .lt 12, 3) := by decide +kernel
theorem d2_131 : decode method_3_code 131 = .ok (.iload_n 0, 1) := by decide +kernel
theorem d2_132 : decode method_3_code 132 = .ok (.sipush 11263, 3) := by decide +kernel
theorem d2_135 : decode method_3_code 135 = .ok (.if_icmp .gt 5, 3) := by decide +kernel
theorem d2_138 : decode method_3_code 138 = .ok (.iconst 0, 1) := by decide +kernel
theorem d2_139 : decode method_3_code 139 = .ok (.ireturn, 1) := by decide +kernel
theorem d2_140 : decode method_3_code 140 = .ok (.iload_n 0, 1) := by decide +kernel
theorem d2_141 : decode method_3_code 141 = .ok (.sipush 12272, 3) := by decide +kernel
theorem d2_144 : decode method_3_code 144 = .ok (.if_icmp .lt 12, 3) := by decide +kernel
theorem d2_147 : decode method_3_code 147 = .ok (.iload_n 0, 1) := by decide +kernel
theorem d2_148 : decode method_3_code 148 = .ok (.sipush 12288, 3) := by decide +kernel
theorem d2_151 : decode method_3_code 151 = .ok (.if_icmp .gt 5, 3) := by decide +kernel
theorem d2_154 : decode method_3_code 154 = .ok (.iconst 0, 1) := by decide +kernel
theorem d2_155 : decode method_3_code 155 = .ok (.ireturn, 1) := by decide +kernel
theorem d2_156 : decode method_3_code 156 = .ok (.iload_n 0, 1) := by decide +kernel
theorem d2_157 : decode method_3_code 157 = .ok (.ldc 30, 2) := by decide +kernel
theorem d2_159 : decode method_3_code 159 = .ok (.if_icmp .lt 11, 3) := by decide +kernel
theorem d2_162 : decode method_3_code 162 = .ok (.iload_n 0, 1) := by decide +kernel
theorem d2_163 : decode method_3_code 163 = .ok (.ldc 31, 2) := by decide +kernel
theorem d2_165 : decode method_3_code 165 = .ok (.if_icmp .gt 5, 3) := by decide +kernel
theorem d2_168 : decode method_3_code 168 = .ok (.iconst 0, 1) := by decide +kernel
theorem d2_169 : decode method_3_code 169 = .ok (.ireturn, 1) := by decide +kernel
theorem d2_170 : decode method_3_code 170 = .ok (.iload_n 0, 1) := by decide +kernel
theorem d2_171 : decode method_3_code 171 = .ok (.ldc 32, 2) := by decide +kernel
theorem d2_173 : decode method_3_code 173 = .ok (.if_icmp .lt 11, 3) := by decide +kernel
theorem d2_176 : decode method_3_code 176 = .ok (.iload_n 0, 1) := by decide +kernel
theorem d2_177 : decode method_3_code 177 = .ok (.ldc 33, 2) := by decide +kernel
theorem d2_179 : decode method_3_code 179 = .ok (.if_icmp .gt 5, 3) := by decide +kernel
theorem d2_182 : decode method_3_code 182 = .ok (.iconst 0, 1) := by decide +kernel
theorem d2_183 : decode method_3_code 183 = .ok (.ireturn, 1) := by decide +kernel
theorem d2_184 : decode method_3_code 184 = .ok (.iload_n 0, 1) := by decide +kernel
theorem d2_185 : decode method_3_code 185 = .ok (.ldc 34, 2) := by decide +kernel
theorem d2_187 : decode method_3_code 187 = .ok (.if_icmp .lt 11, 3) := by decide +kernel
theorem d2_190 : decode method_3_code 190 = .ok (.iload_n 0, 1) := by decide +kernel
theorem d2_191 : decode method_3_code 191 = .ok (.ldc 35, 2) := by decide +kernel
theorem d2_193 : decode method_3_code 193 = .ok (.if_icmp .gt 5, 3) := by decide +kernel
theorem d2_196 : decode method_3_code 196 = .ok (.iconst 0, 1) := by decide +kernel
theorem d2_197 : decode method_3_code 197 = .ok (.ireturn, 1) := by decide +kernel
theorem d2_198 : decode method_3_code 198 = .ok (.iconst 1, 1) := by decide +kernel
theorem d2_199 : decode method_3_code 199 = .ok (.ireturn, 1) := by decide +kernel
theorem pn_2 : plainName "com/example/exqel/exqel/value/XmlCharsIsNameStartCharPinLaw" = true := by first | (simp [plainName, overriddenIn]; done) | decide +kernel
theorem ef_2 (m : MethodId) (x0 : Int32) : entryFrame m #[(.int x0)] 1 = mkF m 0 #[.val (.int x0)] [] := by first | (simp [entryFrame, mkF, argsToLocals, Value.category]; done) | rfl
def own_f2_198 (p1 : Int32) : Int32 := (1 : Int32)
def own_f2_196 (p1 : Int32) : Int32 := (0 : Int32)
def own_f2_190 (p1 : Int32) : Int32 := if (65535 : Int32) < p1 then own_f2_198 p1 else own_f2_196 p1
def own_f2_184 (p1 : Int32) : Int32 := if p1 < (65534 : Int32) then own_f2_198 p1 else own_f2_190 p1
def own_f2_182 (p1 : Int32) : Int32 := (0 : Int32)
def own_f2_176 (p1 : Int32) : Int32 := if (65007 : Int32) < p1 then own_f2_184 p1 else own_f2_182 p1
def own_f2_170 (p1 : Int32) : Int32 := if p1 < (64976 : Int32) then own_f2_184 p1 else own_f2_176 p1
def own_f2_168 (p1 : Int32) : Int32 := (0 : Int32)
def own_f2_162 (p1 : Int32) : Int32 := if (63743 : Int32) < p1 then own_f2_170 p1 else own_f2_168 p1
def own_f2_156 (p1 : Int32) : Int32 := if p1 < (55296 : Int32) then own_f2_170 p1 else own_f2_162 p1
def own_f2_154 (p1 : Int32) : Int32 := (0 : Int32)
def own_f2_147 (p1 : Int32) : Int32 := if (12288 : Int32) < p1 then own_f2_156 p1 else own_f2_154 p1
def own_f2_140 (p1 : Int32) : Int32 := if p1 < (12272 : Int32) then own_f2_156 p1 else own_f2_147 p1
def own_f2_138 (p1 : Int32) : Int32 := (0 : Int32)
def own_f2_131 (p1 : Int32) : Int32 := if (11263 : Int32) < p1 then own_f2_140 p1 else own_f2_138 p1
def own_f2_124 (p1 : Int32) : Int32 := if p1 < (8592 : Int32) then own_f2_140 p1 else own_f2_131 p1
def own_f2_122 (p1 : Int32) : Int32 := (0 : Int32)
def own_f2_115 (p1 : Int32) : Int32 := if (8303 : Int32) < p1 then own_f2_124 p1 else own_f2_122 p1
def own_f2_108 (p1 : Int32) : Int32 := if p1 < (8206 : Int32) then own_f2_124 p1 else own_f2_115 p1
def own_f2_106 (p1 : Int32) : Int32 := (0 : Int32)
def own_f2_99 (p1 : Int32) : Int32 := if (8203 : Int32) < p1 then own_f2_108 p1 else own_f2_106 p1
def own_f2_92 (p1 : Int32) : Int32 := if p1 < (8192 : Int32) then own_f2_108 p1 else own_f2_99 p1
def own_f2_90 (p1 : Int32) : Int32 := (0 : Int32)
def own_f2_83 (p1 : Int32) : Int32 := if p1 = (894 : Int32) then own_f2_90 p1 else own_f2_92 p1
def own_f2_81 (p1 : Int32) : Int32 := (0 : Int32)
def own_f2_74 (p1 : Int32) : Int32 := if (879 : Int32) < p1 then own_f2_83 p1 else own_f2_81 p1
def own_f2_67 (p1 : Int32) : Int32 := if p1 < (768 : Int32) then own_f2_83 p1 else own_f2_74 p1
def own_f2_65 (p1 : Int32) : Int32 := (0 : Int32)
def own_f2_58 (p1 : Int32) : Int32 := if p1 = (247 : Int32) then own_f2_65 p1 else own_f2_67 p1
def own_f2_51 (p1 : Int32) : Int32 := if p1 = (215 : Int32) then own_f2_65 p1 else own_f2_58 p1
def own_f2_49 (p1 : Int32) : Int32 := (0 : Int32)
def own_f2_42 (p1 : Int32) : Int32 := if (191 : Int32) < p1 then own_f2_51 p1 else own_f2_49 p1
def own_f2_36 (p1 : Int32) : Int32 := if p1 < (123 : Int32) then own_f2_51 p1 else own_f2_42 p1
def own_f2_34 (p1 : Int32) : Int32 := (0 : Int32)
def own_f2_28 (p1 : Int32) : Int32 := if p1 = (96 : Int32) then own_f2_34 p1 else own_f2_36 p1
def own_f2_26 (p1 : Int32) : Int32 := (0 : Int32)
def own_f2_20 (p1 : Int32) : Int32 := if (94 : Int32) < p1 then own_f2_28 p1 else own_f2_26 p1
def own_f2_14 (p1 : Int32) : Int32 := if p1 < (91 : Int32) then own_f2_28 p1 else own_f2_20 p1
def own_f2_12 (p1 : Int32) : Int32 := (0 : Int32)
def own_f2_6 (p1 : Int32) : Int32 := if (983039 : Int32) < p1 then own_f2_12 p1 else own_f2_14 p1
def own_f2_0 (p1 : Int32) : Int32 := if p1 < (65 : Int32) then own_f2_12 p1 else own_f2_6 p1
def Q2 (Z : State) (p1 : Int32) (h0 : Heap) (n0 : Nat) (v : Option Value) (h : Heap) (L : List Loc) : Prop := v = some (.int (own_f2_0 p1)) ∧ Fr n0 L ∧ h = h0
set_option maxRecDepth 65536 in
set_option maxHeartbeats 40000000 in
theorem rm2 (l : Launch) (Z : State) (a0 : Array Value) (hw : ∀ d ∈ tables_1, d.before a0 Z = true) (ws : List Jvm.Cond) (p1 : Int32) (h0 : Heap) (n0 : Nat) (Z0 : n0 ≤ h0.size) :
    MetFree l (⟨"com/example/exqel/exqel/value/XmlCharsIsNameStartCharPinLaw", "ref", "(I)Z"⟩ : MethodName) (head1 (Jvm.Cond.code (⟨"com/example/exqel/exqel/value/XmlCharsIsNameStartCharPinLaw", "ref", "(I)Z"⟩ : MethodName) method_3_code 1 (some .boolean) :: ws) ({ frames := 0, cells := 0, slots := 0, locals := 0 } : Room)) (fun a U => a = #[(.int p1)] ∧ Z.Warmed39 U.vm ∧ U.heap = h0) (fun _ _ _ _ _ => True) (fun _ U o U' => ∃ v L, o = .returned v ∧ Q2 Z p1 h0 n0 v U'.heap L ∧ FrameEnd U o U' L ({ frames := 0, cells := 0, slots := 0, locals := 0 } : Room).cells ({ frames := 0, cells := 0, slots := 0, locals := 0 } : Room).slots) := by
  refine MetFree.of_bodySF (plainFor_of_name pn_2) hisR ?_
  intro p e s m args below meth c s₁ Bd hml0 hP hK
  obtain ⟨rfl, hZ, hh⟩ := hP
  have hx := Bd.exec
  have hby := Bd.bytes
  have hown : s.vm.findClass "com/example/exqel/exqel/value/XmlCharsIsNameStartCharPinLaw" = some m.cls := findClass_of_methodNamed Bd.named
  have X0 : Stand p l e ({ frames := 0, cells := 0, slots := 0, locals := 0 } : Room) s m #[(.int p1)] below meth c s₁ [] 0 0 := Stand.of_body Bd
  have e0 : s₁.heap = h0 := by rw [← hh, Bd.state]; rfl
  have N0 := Fr.nil n0
  have pre0 : ∀ t, Steps p.tables e below (s₁.setTop (mkF m 0 #[.val (.int p1)] [])) t → Steps p.tables e below (s₁.setTop (entryFrame m #[(.int p1)] 1)) t := fun t k => castTop (ef_2 m p1) k
  obtain ⟨R, hR0⟩ : ∃ R : Int32, R = own_f2_0 p1 := ⟨_, rfl⟩
  obtain ⟨fs, hr, hrun, hended, hW, hsame⟩ := X0.leave (v := some (.int R)) (fun h => by rw [Bd.returns] at h; cases h)
  refine ⟨_, _, pre0 _ ?_, hrun, hended, _, _, rfl, ?_, ⟨_, rfl⟩, hW, hsame.mono (by decide) (by decide)⟩
  · have J198 : own_f2_198 p1 = R → Steps p.tables e below (s₁.setTop (mkF m 198 #[.val (.int p1)] [])) (s₁.setFrames fs) := by
      intro hR0'
      have hR : (1 : Int32) = R := hR0'
      show Steps p.tables e below (s₁.setTop (mkF m 198 #[.val (.int p1)] [])) _
      refine XS.iconst X0.here hx rfl (hb hby d2_198) ?_
      show Steps p.tables e below (s₁.setTop (mkF m 199 #[.val (.int p1)] [(.int (1 : Int32))])) _
      subst hR
      exact retN X0 hx (t := .boolean) Bd.returns (by simp) (hb hby d2_199) hr
    have J196 : own_f2_196 p1 = R → Steps p.tables e below (s₁.setTop (mkF m 196 #[.val (.int p1)] [])) (s₁.setFrames fs) := by
      intro hR0'
      have hR : (0 : Int32) = R := hR0'
      show Steps p.tables e below (s₁.setTop (mkF m 196 #[.val (.int p1)] [])) _
      refine XS.iconst X0.here hx rfl (hb hby d2_196) ?_
      show Steps p.tables e below (s₁.setTop (mkF m 197 #[.val (.int p1)] [(.int (0 : Int32))])) _
      subst hR
      exact retN X0 hx (t := .boolean) Bd.returns (by simp) (hb hby d2_197) hr
    have J190 : own_f2_190 p1 = R → Steps p.tables e below (s₁.setTop (mkF m 190 #[.val (.int p1)] [])) (s₁.setFrames fs) := by
      intro hR
      show Steps p.tables e below (s₁.setTop (mkF m 190 #[.val (.int p1)] [])) _
      refine XS.iloadN X0.here hx rfl (hb hby d2_190) rfl ?_
      show Steps p.tables e below (s₁.setTop (mkF m 191 #[.val (.int p1)] [(.int p1)])) _
      refine X0.ldcInt hx hown (mvT hZ (hw _ (List.mem_of_getElem? (i := 31) rfl))) (g := (mkF m 191 #[.val (.int p1)] [(.int p1)])) rfl (hb hby d2_191) _ ?_
      show Steps p.tables e below (s₁.setTop (mkF m 193 #[.val (.int p1)] [(.int (65535 : Int32)), (.int p1)])) _
      by_cases hc : (65535 : Int32) < p1
      · refine XS.icmpYes X0.here hx rfl (pc0 := 193) (pc' := 198) rfl (hb hby d2_193) rfl (tlt hc).2.2.1 (by decide) (by decide) ?_
        exact J198 ((show own_f2_190 p1 = own_f2_198 p1 from if_pos hc).symm.trans hR)
      · refine XS.icmpNo X0.here hx rfl (hb hby d2_193) rfl (flt hc).2.2.1 ?_
        exact J196 ((show own_f2_190 p1 = own_f2_196 p1 from if_neg hc).symm.trans hR)
    have J184 : own_f2_184 p1 = R → Steps p.tables e below (s₁.setTop (mkF m 184 #[.val (.int p1)] [])) (s₁.setFrames fs) := by
      intro hR
      show Steps p.tables e below (s₁.setTop (mkF m 184 #[.val (.int p1)] [])) _
      refine XS.iloadN X0.here hx rfl (hb hby d2_184) rfl ?_
      show Steps p.tables e below (s₁.setTop (mkF m 185 #[.val (.int p1)] [(.int p1)])) _
      refine X0.ldcInt hx hown (mvT hZ (hw _ (List.mem_of_getElem? (i := 24) rfl))) (g := (mkF m 185 #[.val (.int p1)] [(.int p1)])) rfl (hb hby d2_185) _ ?_
      show Steps p.tables e below (s₁.setTop (mkF m 187 #[.val (.int p1)] [(.int (65534 : Int32)), (.int p1)])) _
      by_cases hc : p1 < (65534 : Int32)
      · refine XS.icmpYes X0.here hx rfl (pc0 := 187) (pc' := 198) rfl (hb hby d2_187) rfl (tlt hc).1 (by decide) (by decide) ?_
        exact J198 ((show own_f2_184 p1 = own_f2_198 p1 from if_pos hc).symm.trans hR)
      · refine XS.icmpNo X0.here hx rfl (hb hby d2_187) rfl (flt hc).1 ?_
        exact J190 ((show own_f2_184 p1 = own_f2_190 p1 from if_neg hc).symm.trans hR)
    have J182 : own_f2_182 p1 = R → Steps p.tables e below (s₁.setTop (mkF m 182 #[.val (.int p1)] [])) (s₁.setFrames fs) := by
      intro hR0'
      have hR : (0 : Int32) = R := hR0'
      show Steps p.tables e below (s₁.setTop (mkF m 182 #[.val (.int p1)] [])) _
      refine XS.iconst X0.here hx rfl (hb hby d2_182) ?_
      show Steps p.tables e below (s₁.setTop (mkF m 183 #[.val (.int p1)] [(.int (0 : Int32))])) _
      subst hR
      exact retN X0 hx (t := .boolean) Bd.returns (by simp) (hb hby d2_183) hr
    have J176 : own_f2_176 p1 = R → Steps p.tables e below (s₁.setTop (mkF m 176 #[.val (.int p1)] [])) (s₁.setFrames fs) := by
      intro hR
      show Steps p.tables e below (s₁.setTop (mkF m 176 #[.val (.int p1)] [])) _
      refine XS.iloadN X0.here hx rfl (hb hby d2_176) rfl ?_
      show Steps p.tables e below (s₁.setTop (mkF m 177 #[.val (.int p1)] [(.int p1)])) _
      refine X0.ldcInt hx hown (mvT hZ (hw _ (List.mem_of_getElem? (i := 30) rfl))) (g := (mkF m 177 #[.val (.int p1)] [(.int p1)])) rfl (hb hby d2_177) _ ?_
      show Steps p.tables e below (s₁.setTop (mkF m 179 #[.val (.int p1)] [(.int (65007 : Int32)), (.int p1)])) _
      by_cases hc : (65007 : Int32) < p1
      · refine XS.icmpYes X0.here hx rfl (pc0 := 179) (pc' := 184) rfl (hb hby d2_179) rfl (tlt hc).2.2.1 (by decide) (by decide) ?_
        exact J184 ((show own_f2_176 p1 = own_f2_184 p1 from if_pos hc).symm.trans hR)
      · refine XS.icmpNo X0.here hx rfl (hb hby d2_179) rfl (flt hc).2.2.1 ?_
        exact J182 ((show own_f2_176 p1 = own_f2_182 p1 from if_neg hc).symm.trans hR)
    have J170 : own_f2_170 p1 = R → Steps p.tables e below (s₁.setTop (mkF m 170 #[.val (.int p1)] [])) (s₁.setFrames fs) := by
      intro hR
      show Steps p.tables e below (s₁.setTop (mkF m 170 #[.val (.int p1)] [])) _
      refine XS.iloadN X0.here hx rfl (hb hby d2_170) rfl ?_
      show Steps p.tables e below (s₁.setTop (mkF m 171 #[.val (.int p1)] [(.int p1)])) _
      refine X0.ldcInt hx hown (mvT hZ (hw _ (List.mem_of_getElem? (i := 23) rfl))) (g := (mkF m 171 #[.val (.int p1)] [(.int p1)])) rfl (hb hby d2_171) _ ?_
      show Steps p.tables e below (s₁.setTop (mkF m 173 #[.val (.int p1)] [(.int (64976 : Int32)), (.int p1)])) _
      by_cases hc : p1 < (64976 : Int32)
      · refine XS.icmpYes X0.here hx rfl (pc0 := 173) (pc' := 184) rfl (hb hby d2_173) rfl (tlt hc).1 (by decide) (by decide) ?_
        exact J184 ((show own_f2_170 p1 = own_f2_184 p1 from if_pos hc).symm.trans hR)
      · refine XS.icmpNo X0.here hx rfl (hb hby d2_173) rfl (flt hc).1 ?_
        exact J176 ((show own_f2_170 p1 = own_f2_176 p1 from if_neg hc).symm.trans hR)
    have J168 : own_f2_168 p1 = R → Steps p.tables e below (s₁.setTop (mkF m 168 #[.val (.int p1)] [])) (s₁.setFrames fs) := by
      intro hR0'
      have hR : (0 : Int32) = R := hR0'
      show Steps p.tables e below (s₁.setTop (mkF m 168 #[.val (.int p1)] [])) _
      refine XS.iconst X0.here hx rfl (hb hby d2_168) ?_
      show Steps p.tables e below (s₁.setTop (mkF m 169 #[.val (.int p1)] [(.int (0 : Int32))])) _
      subst hR
      exact retN X0 hx (t := .boolean) Bd.returns (by simp) (hb hby d2_169) hr
    have J162 : own_f2_162 p1 = R → Steps p.tables e below (s₁.setTop (mkF m 162 #[.val (.int p1)] [])) (s₁.setFrames fs) := by
      intro hR
      show Steps p.tables e below (s₁.setTop (mkF m 162 #[.val (.int p1)] [])) _
      refine XS.iloadN X0.here hx rfl (hb hby d2_162) rfl ?_
      show Steps p.tables e below (s₁.setTop (mkF m 163 #[.val (.int p1)] [(.int p1)])) _
      refine X0.ldcInt hx hown (mvT hZ (hw _ (List.mem_of_getElem? (i := 29) rfl))) (g := (mkF m 163 #[.val (.int p1)] [(.int p1)])) rfl (hb hby d2_163) _ ?_
      show Steps p.tables e below (s₁.setTop (mkF m 165 #[.val (.int p1)] [(.int (63743 : Int32)), (.int p1)])) _
      by_cases hc : (63743 : Int32) < p1
      · refine XS.icmpYes X0.here hx rfl (pc0 := 165) (pc' := 170) rfl (hb hby d2_165) rfl (tlt hc).2.2.1 (by decide) (by decide) ?_
        exact J170 ((show own_f2_162 p1 = own_f2_170 p1 from if_pos hc).symm.trans hR)
      · refine XS.icmpNo X0.here hx rfl (hb hby d2_165) rfl (flt hc).2.2.1 ?_
        exact J168 ((show own_f2_162 p1 = own_f2_168 p1 from if_neg hc).symm.trans hR)
    have J156 : own_f2_156 p1 = R → Steps p.tables e below (s₁.setTop (mkF m 156 #[.val (.int p1)] [])) (s₁.setFrames fs) := by
      intro hR
      show Steps p.tables e below (s₁.setTop (mkF m 156 #[.val (.int p1)] [])) _
      refine XS.iloadN X0.here hx rfl (hb hby d2_156) rfl ?_
      show Steps p.tables e below (s₁.setTop (mkF m 157 #[.val (.int p1)] [(.int p1)])) _
      refine X0.ldcInt hx hown (mvT hZ (hw _ (List.mem_of_getElem? (i := 22) rfl))) (g := (mkF m 157 #[.val (.int p1)] [(.int p1)])) rfl (hb hby d2_157) _ ?_
      show Steps p.tables e below (s₁.setTop (mkF m 159 #[.val (.int p1)] [(.int (55296 : Int32)), (.int p1)])) _
      by_cases hc : p1 < (55296 : Int32)
      · refine XS.icmpYes X0.here hx rfl (pc0 := 159) (pc' := 170) rfl (hb hby d2_159) rfl (tlt hc).1 (by decide) (by decide) ?_
        exact J170 ((show own_f2_156 p1 = own_f2_170 p1 from if_pos hc).symm.trans hR)
      · refine XS.icmpNo X0.here hx rfl (hb hby d2_159) rfl (flt hc).1 ?_
        exact J162 ((show own_f2_156 p1 = own_f2_162 p1 from if_neg hc).symm.trans hR)
    have J154 : own_f2_154 p1 = R → Steps p.tables e below (s₁.setTop (mkF m 154 #[.val (.int p1)] [])) (s₁.setFrames fs) := by
      intro hR0'
      have hR : (0 : Int32) = R := hR0'
      show Steps p.tables e below (s₁.setTop (mkF m 154 #[.val (.int p1)] [])) _
      refine XS.iconst X0.here hx rfl (hb hby d2_154) ?_
      show Steps p.tables e below (s₁.setTop (mkF m 155 #[.val (.int p1)] [(.int (0 : Int32))])) _
      subst hR
      exact retN X0 hx (t := .boolean) Bd.returns (by simp) (hb hby d2_155) hr
    have J147 : own_f2_147 p1 = R → Steps p.tables e below (s₁.setTop (mkF m 147 #[.val (.int p1)] [])) (s₁.setFrames fs) := by
      intro hR
      show Steps p.tables e below (s₁.setTop (mkF m 147 #[.val (.int p1)] [])) _
      refine XS.iloadN X0.here hx rfl (hb hby d2_147) rfl ?_
      show Steps p.tables e below (s₁.setTop (mkF m 148 #[.val (.int p1)] [(.int p1)])) _
      refine XS.sipush X0.here hx rfl (hb hby d2_148) ?_
      show Steps p.tables e below (s₁.setTop (mkF m 151 #[.val (.int p1)] [(.int (12288 : Int32)), (.int p1)])) _
      by_cases hc : (12288 : Int32) < p1
      · refine XS.icmpYes X0.here hx rfl (pc0 := 151) (pc' := 156) rfl (hb hby d2_151) rfl (tlt hc).2.2.1 (by decide) (by decide) ?_
        exact J156 ((show own_f2_147 p1 = own_f2_156 p1 from if_pos hc).symm.trans hR)
      · refine XS.icmpNo X0.here hx rfl (hb hby d2_151) rfl (flt hc).2.2.1 ?_
        exact J154 ((show own_f2_147 p1 = own_f2_154 p1 from if_neg hc).symm.trans hR)
    have J140 : own_f2_140 p1 = R → Steps p.tables e below (s₁.setTop (mkF m 140 #[.val (.int p1)] [])) (s₁.setFrames fs) := by
      intro hR
      show Steps p.tables e below (s₁.setTop (mkF m 140 #[.val (.int p1)] [])) _
      refine XS.iloadN X0.here hx rfl (hb hby d2_140) rfl ?_
      show Steps p.tables e below (s₁.setTop (mkF m 141 #[.val (.int p1)] [(.int p1)])) _
      refine XS.sipush X0.here hx rfl (hb hby d2_141) ?_
      show Steps p.tables e below (s₁.setTop (mkF m 144 #[.val (.int p1)] [(.int (12272 : Int32)), (.int p1)])) _
      by_cases hc : p1 < (12272 : Int32)
      · refine XS.icmpYes X0.here hx rfl (pc0 := 144) (pc' := 156) rfl (hb hby d2_144) rfl (tlt hc).1 (by decide) (by decide) ?_
        exact J156 ((show own_f2_140 p1 = own_f2_156 p1 from if_pos hc).symm.trans hR)
      · refine XS.icmpNo X0.here hx rfl (hb hby d2_144) rfl (flt hc).1 ?_
        exact J147 ((show own_f2_140 p1 = own_f2_147 p1 from if_neg hc).symm.trans hR)
    have J138 : own_f2_138 p1 = R → Steps p.tables e below (s₁.setTop (mkF m 138 #[.val (.int p1)] [])) (s₁.setFrames fs) := by
      intro hR0'
      have hR : (0 : Int32) = R := hR0'
      show Steps p.tables e below (s₁.setTop (mkF m 138 #[.val (.int p1)] [])) _
      refine XS.iconst X0.here hx rfl (hb hby d2_138) ?_
      show Steps p.tables e below (s₁.setTop (mkF m 139 #[.val (.int p1)] [(.int (0 : Int32))])) _
      subst hR
      exact retN X0 hx (t := .boolean) Bd.returns (by simp) (hb hby d2_139) hr
    have J131 : own_f2_131 p1 = R → Steps p.tables e below (s₁.setTop (mkF m 131 #[.val (.int p1)] [])) (s₁.setFrames fs) := by
      intro hR
      show Steps p.tables e below (s₁.setTop (mkF m 131 #[.val (.int p1)] [])) _
      refine XS.iloadN X0.here hx rfl (hb hby d2_131) rfl ?_
      show Steps p.tables e below (s₁.setTop (mkF m 132 #[.val (.int p1)] [(.int p1)])) _
      refine XS.sipush X0.here hx rfl (hb hby d2_132) ?_
      show Steps p.tables e below (s₁.setTop (mkF m 135 #[.val (.int p1)] [(.int (11263 : Int32)), (.int p1)])) _
      by_cases hc : (11263 : Int32) < p1
      · refine XS.icmpYes X0.here hx rfl (pc0 := 135) (pc' := 140) rfl (hb hby d2_135) rfl (tlt hc).2.2.1 (by decide) (by decide) ?_
        exact J140 ((show own_f2_131 p1 = own_f2_140 p1 from if_pos hc).symm.trans hR)
      · refine XS.icmpNo X0.here hx rfl (hb hby d2_135) rfl (flt hc).2.2.1 ?_
        exact J138 ((show own_f2_131 p1 = own_f2_138 p1 from if_neg hc).symm.trans hR)
    have J124 : own_f2_124 p1 = R → Steps p.tables e below (s₁.setTop (mkF m 124 #[.val (.int p1)] [])) (s₁.setFrames fs) := by
      intro hR
      show Steps p.tables e below (s₁.setTop (mkF m 124 #[.val (.int p1)] [])) _
      refine XS.iloadN X0.here hx rfl (hb hby d2_124) rfl ?_
      show Steps p.tables e below (s₁.setTop (mkF m 125 #[.val (.int p1)] [(.int p1)])) _
      refine XS.sipush X0.here hx rfl (hb hby d2_125) ?_
      show Steps p.tables e below (s₁.setTop (mkF m 128 #[.val (.int p1)] [(.int (8592 : Int32)), (.int p1)])) _
      by_cases hc : p1 < (8592 : Int32)
      · refine XS.icmpYes X0.here hx rfl (pc0 := 128) (pc' := 140) rfl (hb hby d2_128) rfl (tlt hc).1 (by decide) (by decide) ?_
        exact J140 ((show own_f2_124 p1 = own_f2_140 p1 from if_pos hc).symm.trans hR)
      · refine XS.icmpNo X0.here hx rfl (hb hby d2_128) rfl (flt hc).1 ?_
        exact J131 ((show own_f2_124 p1 = own_f2_131 p1 from if_neg hc).symm.trans hR)
    have J122 : own_f2_122 p1 = R → Steps p.tables e below (s₁.setTop (mkF m 122 #[.val (.int p1)] [])) (s₁.setFrames fs) := by
      intro hR0'
      have hR : (0 : Int32) = R := hR0'
      show Steps p.tables e below (s₁.setTop (mkF m 122 #[.val (.int p1)] [])) _
      refine XS.iconst X0.here hx rfl (hb hby d2_122) ?_
      show Steps p.tables e below (s₁.setTop (mkF m 123 #[.val (.int p1)] [(.int (0 : Int32))])) _
      subst hR
      exact retN X0 hx (t := .boolean) Bd.returns (by simp) (hb hby d2_123) hr
    have J115 : own_f2_115 p1 = R → Steps p.tables e below (s₁.setTop (mkF m 115 #[.val (.int p1)] [])) (s₁.setFrames fs) := by
      intro hR
      show Steps p.tables e below (s₁.setTop (mkF m 115 #[.val (.int p1)] [])) _
      refine XS.iloadN X0.here hx rfl (hb hby d2_115) rfl ?_
      show Steps p.tables e below (s₁.setTop (mkF m 116 #[.val (.int p1)] [(.int p1)])) _
      refine XS.sipush X0.here hx rfl (hb hby d2_116) ?_
      show Steps p.tables e below (s₁.setTop (mkF m 119 #[.val (.int p1)] [(.int (8303 : Int32)), (.int p1)])) _
      by_cases hc : (8303 : Int32) < p1
      · refine XS.icmpYes X0.here hx rfl (pc0 := 119) (pc' := 124) rfl (hb hby d2_119) rfl (tlt hc).2.2.1 (by decide) (by decide) ?_
        exact J124 ((show own_f2_115 p1 = own_f2_124 p1 from if_pos hc).symm.trans hR)
      · refine XS.icmpNo X0.here hx rfl (hb hby d2_119) rfl (flt hc).2.2.1 ?_
        exact J122 ((show own_f2_115 p1 = own_f2_122 p1 from if_neg hc).symm.trans hR)
    have J108 : own_f2_108 p1 = R → Steps p.tables e below (s₁.setTop (mkF m 108 #[.val (.int p1)] [])) (s₁.setFrames fs) := by
      intro hR
      show Steps p.tables e below (s₁.setTop (mkF m 108 #[.val (.int p1)] [])) _
      refine XS.iloadN X0.here hx rfl (hb hby d2_108) rfl ?_
      show Steps p.tables e below (s₁.setTop (mkF m 109 #[.val (.int p1)] [(.int p1)])) _
      refine XS.sipush X0.here hx rfl (hb hby d2_109) ?_
      show Steps p.tables e below (s₁.setTop (mkF m 112 #[.val (.int p1)] [(.int (8206 : Int32)), (.int p1)])) _
      by_cases hc : p1 < (8206 : Int32)
      · refine XS.icmpYes X0.here hx rfl (pc0 := 112) (pc' := 124) rfl (hb hby d2_112) rfl (tlt hc).1 (by decide) (by decide) ?_
        exact J124 ((show own_f2_108 p1 = own_f2_124 p1 from if_pos hc).symm.trans hR)
      · refine XS.icmpNo X0.here hx rfl (hb hby d2_112) rfl (flt hc).1 ?_
        exact J115 ((show own_f2_108 p1 = own_f2_115 p1 from if_neg hc).symm.trans hR)
    have J106 : own_f2_106 p1 = R → Steps p.tables e below (s₁.setTop (mkF m 106 #[.val (.int p1)] [])) (s₁.setFrames fs) := by
      intro hR0'
      have hR : (0 : Int32) = R := hR0'
      show Steps p.tables e below (s₁.setTop (mkF m 106 #[.val (.int p1)] [])) _
      refine XS.iconst X0.here hx rfl (hb hby d2_106) ?_
      show Steps p.tables e below (s₁.setTop (mkF m 107 #[.val (.int p1)] [(.int (0 : Int32))])) _
      subst hR
      exact retN X0 hx (t := .boolean) Bd.returns (by simp) (hb hby d2_107) hr
    have J99 : own_f2_99 p1 = R → Steps p.tables e below (s₁.setTop (mkF m 99 #[.val (.int p1)] [])) (s₁.setFrames fs) := by
      intro hR
      show Steps p.tables e below (s₁.setTop (mkF m 99 #[.val (.int p1)] [])) _
      refine XS.iloadN X0.here hx rfl (hb hby d2_99) rfl ?_
      show Steps p.tables e below (s₁.setTop (mkF m 100 #[.val (.int p1)] [(.int p1)])) _
      refine XS.sipush X0.here hx rfl (hb hby d2_100) ?_
      show Steps p.tables e below (s₁.setTop (mkF m 103 #[.val (.int p1)] [(.int (8203 : Int32)), (.int p1)])) _
      by_cases hc : (8203 : Int32) < p1
      · refine XS.icmpYes X0.here hx rfl (pc0 := 103) (pc' := 108) rfl (hb hby d2_103) rfl (tlt hc).2.2.1 (by decide) (by decide) ?_
        exact J108 ((show own_f2_99 p1 = own_f2_108 p1 from if_pos hc).symm.trans hR)
      · refine XS.icmpNo X0.here hx rfl (hb hby d2_103) rfl (flt hc).2.2.1 ?_
        exact J106 ((show own_f2_99 p1 = own_f2_106 p1 from if_neg hc).symm.trans hR)
    have J92 : own_f2_92 p1 = R → Steps p.tables e below (s₁.setTop (mkF m 92 #[.val (.int p1)] [])) (s₁.setFrames fs) := by
      intro hR
      show Steps p.tables e below (s₁.setTop (mkF m 92 #[.val (.int p1)] [])) _
      refine XS.iloadN X0.here hx rfl (hb hby d2_92) rfl ?_
      show Steps p.tables e below (s₁.setTop (mkF m 93 #[.val (.int p1)] [(.int p1)])) _
      refine XS.sipush X0.here hx rfl (hb hby d2_93) ?_
      show Steps p.tables e below (s₁.setTop (mkF m 96 #[.val (.int p1)] [(.int (8192 : Int32)), (.int p1)])) _
      by_cases hc : p1 < (8192 : Int32)
      · refine XS.icmpYes X0.here hx rfl (pc0 := 96) (pc' := 108) rfl (hb hby d2_96) rfl (tlt hc).1 (by decide) (by decide) ?_
        exact J108 ((show own_f2_92 p1 = own_f2_108 p1 from if_pos hc).symm.trans hR)
      · refine XS.icmpNo X0.here hx rfl (hb hby d2_96) rfl (flt hc).1 ?_
        exact J99 ((show own_f2_92 p1 = own_f2_99 p1 from if_neg hc).symm.trans hR)
    have J90 : own_f2_90 p1 = R → Steps p.tables e below (s₁.setTop (mkF m 90 #[.val (.int p1)] [])) (s₁.setFrames fs) := by
      intro hR0'
      have hR : (0 : Int32) = R := hR0'
      show Steps p.tables e below (s₁.setTop (mkF m 90 #[.val (.int p1)] [])) _
      refine XS.iconst X0.here hx rfl (hb hby d2_90) ?_
      show Steps p.tables e below (s₁.setTop (mkF m 91 #[.val (.int p1)] [(.int (0 : Int32))])) _
      subst hR
      exact retN X0 hx (t := .boolean) Bd.returns (by simp) (hb hby d2_91) hr
    have J83 : own_f2_83 p1 = R → Steps p.tables e below (s₁.setTop (mkF m 83 #[.val (.int p1)] [])) (s₁.setFrames fs) := by
      intro hR
      show Steps p.tables e below (s₁.setTop (mkF m 83 #[.val (.int p1)] [])) _
      refine XS.iloadN X0.here hx rfl (hb hby d2_83) rfl ?_
      show Steps p.tables e below (s₁.setTop (mkF m 84 #[.val (.int p1)] [(.int p1)])) _
      refine XS.sipush X0.here hx rfl (hb hby d2_84) ?_
      show Steps p.tables e below (s₁.setTop (mkF m 87 #[.val (.int p1)] [(.int (894 : Int32)), (.int p1)])) _
      by_cases hc : p1 = (894 : Int32)
      · refine XS.icmpNo X0.here hx rfl (hb hby d2_87) rfl (teq hc).2 ?_
        exact J90 ((show own_f2_83 p1 = own_f2_90 p1 from if_pos hc).symm.trans hR)
      · refine XS.icmpYes X0.here hx rfl (pc0 := 87) (pc' := 92) rfl (hb hby d2_87) rfl (feq hc).2 (by decide) (by decide) ?_
        exact J92 ((show own_f2_83 p1 = own_f2_92 p1 from if_neg hc).symm.trans hR)
    have J81 : own_f2_81 p1 = R → Steps p.tables e below (s₁.setTop (mkF m 81 #[.val (.int p1)] [])) (s₁.setFrames fs) := by
      intro hR0'
      have hR : (0 : Int32) = R := hR0'
      show Steps p.tables e below (s₁.setTop (mkF m 81 #[.val (.int p1)] [])) _
      refine XS.iconst X0.here hx rfl (hb hby d2_81) ?_
      show Steps p.tables e below (s₁.setTop (mkF m 82 #[.val (.int p1)] [(.int (0 : Int32))])) _
      subst hR
      exact retN X0 hx (t := .boolean) Bd.returns (by simp) (hb hby d2_82) hr
    have J74 : own_f2_74 p1 = R → Steps p.tables e below (s₁.setTop (mkF m 74 #[.val (.int p1)] [])) (s₁.setFrames fs) := by
      intro hR
      show Steps p.tables e below (s₁.setTop (mkF m 74 #[.val (.int p1)] [])) _
      refine XS.iloadN X0.here hx rfl (hb hby d2_74) rfl ?_
      show Steps p.tables e below (s₁.setTop (mkF m 75 #[.val (.int p1)] [(.int p1)])) _
      refine XS.sipush X0.here hx rfl (hb hby d2_75) ?_
      show Steps p.tables e below (s₁.setTop (mkF m 78 #[.val (.int p1)] [(.int (879 : Int32)), (.int p1)])) _
      by_cases hc : (879 : Int32) < p1
      · refine XS.icmpYes X0.here hx rfl (pc0 := 78) (pc' := 83) rfl (hb hby d2_78) rfl (tlt hc).2.2.1 (by decide) (by decide) ?_
        exact J83 ((show own_f2_74 p1 = own_f2_83 p1 from if_pos hc).symm.trans hR)
      · refine XS.icmpNo X0.here hx rfl (hb hby d2_78) rfl (flt hc).2.2.1 ?_
        exact J81 ((show own_f2_74 p1 = own_f2_81 p1 from if_neg hc).symm.trans hR)
    have J67 : own_f2_67 p1 = R → Steps p.tables e below (s₁.setTop (mkF m 67 #[.val (.int p1)] [])) (s₁.setFrames fs) := by
      intro hR
      show Steps p.tables e below (s₁.setTop (mkF m 67 #[.val (.int p1)] [])) _
      refine XS.iloadN X0.here hx rfl (hb hby d2_67) rfl ?_
      show Steps p.tables e below (s₁.setTop (mkF m 68 #[.val (.int p1)] [(.int p1)])) _
      refine XS.sipush X0.here hx rfl (hb hby d2_68) ?_
      show Steps p.tables e below (s₁.setTop (mkF m 71 #[.val (.int p1)] [(.int (768 : Int32)), (.int p1)])) _
      by_cases hc : p1 < (768 : Int32)
      · refine XS.icmpYes X0.here hx rfl (pc0 := 71) (pc' := 83) rfl (hb hby d2_71) rfl (tlt hc).1 (by decide) (by decide) ?_
        exact J83 ((show own_f2_67 p1 = own_f2_83 p1 from if_pos hc).symm.trans hR)
      · refine XS.icmpNo X0.here hx rfl (hb hby d2_71) rfl (flt hc).1 ?_
        exact J74 ((show own_f2_67 p1 = own_f2_74 p1 from if_neg hc).symm.trans hR)
    have J65 : own_f2_65 p1 = R → Steps p.tables e below (s₁.setTop (mkF m 65 #[.val (.int p1)] [])) (s₁.setFrames fs) := by
      intro hR0'
      have hR : (0 : Int32) = R := hR0'
      show Steps p.tables e below (s₁.setTop (mkF m 65 #[.val (.int p1)] [])) _
      refine XS.iconst X0.here hx rfl (hb hby d2_65) ?_
      show Steps p.tables e below (s₁.setTop (mkF m 66 #[.val (.int p1)] [(.int (0 : Int32))])) _
      subst hR
      exact retN X0 hx (t := .boolean) Bd.returns (by simp) (hb hby d2_66) hr
    have J58 : own_f2_58 p1 = R → Steps p.tables e below (s₁.setTop (mkF m 58 #[.val (.int p1)] [])) (s₁.setFrames fs) := by
      intro hR
      show Steps p.tables e below (s₁.setTop (mkF m 58 #[.val (.int p1)] [])) _
      refine XS.iloadN X0.here hx rfl (hb hby d2_58) rfl ?_
      show Steps p.tables e below (s₁.setTop (mkF m 59 #[.val (.int p1)] [(.int p1)])) _
      refine XS.sipush X0.here hx rfl (hb hby d2_59) ?_
      show Steps p.tables e below (s₁.setTop (mkF m 62 #[.val (.int p1)] [(.int (247 : Int32)), (.int p1)])) _
      by_cases hc : p1 = (247 : Int32)
      · refine XS.icmpNo X0.here hx rfl (hb hby d2_62) rfl (teq hc).2 ?_
        exact J65 ((show own_f2_58 p1 = own_f2_65 p1 from if_pos hc).symm.trans hR)
      · refine XS.icmpYes X0.here hx rfl (pc0 := 62) (pc' := 67) rfl (hb hby d2_62) rfl (feq hc).2 (by decide) (by decide) ?_
        exact J67 ((show own_f2_58 p1 = own_f2_67 p1 from if_neg hc).symm.trans hR)
    have J51 : own_f2_51 p1 = R → Steps p.tables e below (s₁.setTop (mkF m 51 #[.val (.int p1)] [])) (s₁.setFrames fs) := by
      intro hR
      show Steps p.tables e below (s₁.setTop (mkF m 51 #[.val (.int p1)] [])) _
      refine XS.iloadN X0.here hx rfl (hb hby d2_51) rfl ?_
      show Steps p.tables e below (s₁.setTop (mkF m 52 #[.val (.int p1)] [(.int p1)])) _
      refine XS.sipush X0.here hx rfl (hb hby d2_52) ?_
      show Steps p.tables e below (s₁.setTop (mkF m 55 #[.val (.int p1)] [(.int (215 : Int32)), (.int p1)])) _
      by_cases hc : p1 = (215 : Int32)
      · refine XS.icmpYes X0.here hx rfl (pc0 := 55) (pc' := 65) rfl (hb hby d2_55) rfl (teq hc).1 (by decide) (by decide) ?_
        exact J65 ((show own_f2_51 p1 = own_f2_65 p1 from if_pos hc).symm.trans hR)
      · refine XS.icmpNo X0.here hx rfl (hb hby d2_55) rfl (feq hc).1 ?_
        exact J58 ((show own_f2_51 p1 = own_f2_58 p1 from if_neg hc).symm.trans hR)
    have J49 : own_f2_49 p1 = R → Steps p.tables e below (s₁.setTop (mkF m 49 #[.val (.int p1)] [])) (s₁.setFrames fs) := by
      intro hR0'
      have hR : (0 : Int32) = R := hR0'
      show Steps p.tables e below (s₁.setTop (mkF m 49 #[.val (.int p1)] [])) _
      refine XS.iconst X0.here hx rfl (hb hby d2_49) ?_
      show Steps p.tables e below (s₁.setTop (mkF m 50 #[.val (.int p1)] [(.int (0 : Int32))])) _
      subst hR
      exact retN X0 hx (t := .boolean) Bd.returns (by simp) (hb hby d2_50) hr
    have J42 : own_f2_42 p1 = R → Steps p.tables e below (s₁.setTop (mkF m 42 #[.val (.int p1)] [])) (s₁.setFrames fs) := by
      intro hR
      show Steps p.tables e below (s₁.setTop (mkF m 42 #[.val (.int p1)] [])) _
      refine XS.iloadN X0.here hx rfl (hb hby d2_42) rfl ?_
      show Steps p.tables e below (s₁.setTop (mkF m 43 #[.val (.int p1)] [(.int p1)])) _
      refine XS.sipush X0.here hx rfl (hb hby d2_43) ?_
      show Steps p.tables e below (s₁.setTop (mkF m 46 #[.val (.int p1)] [(.int (191 : Int32)), (.int p1)])) _
      by_cases hc : (191 : Int32) < p1
      · refine XS.icmpYes X0.here hx rfl (pc0 := 46) (pc' := 51) rfl (hb hby d2_46) rfl (tlt hc).2.2.1 (by decide) (by decide) ?_
        exact J51 ((show own_f2_42 p1 = own_f2_51 p1 from if_pos hc).symm.trans hR)
      · refine XS.icmpNo X0.here hx rfl (hb hby d2_46) rfl (flt hc).2.2.1 ?_
        exact J49 ((show own_f2_42 p1 = own_f2_49 p1 from if_neg hc).symm.trans hR)
    have J36 : own_f2_36 p1 = R → Steps p.tables e below (s₁.setTop (mkF m 36 #[.val (.int p1)] [])) (s₁.setFrames fs) := by
      intro hR
      show Steps p.tables e below (s₁.setTop (mkF m 36 #[.val (.int p1)] [])) _
      refine XS.iloadN X0.here hx rfl (hb hby d2_36) rfl ?_
      show Steps p.tables e below (s₁.setTop (mkF m 37 #[.val (.int p1)] [(.int p1)])) _
      refine XS.bipush X0.here hx rfl (hb hby d2_37) ?_
      show Steps p.tables e below (s₁.setTop (mkF m 39 #[.val (.int p1)] [(.int (123 : Int32)), (.int p1)])) _
      by_cases hc : p1 < (123 : Int32)
      · refine XS.icmpYes X0.here hx rfl (pc0 := 39) (pc' := 51) rfl (hb hby d2_39) rfl (tlt hc).1 (by decide) (by decide) ?_
        exact J51 ((show own_f2_36 p1 = own_f2_51 p1 from if_pos hc).symm.trans hR)
      · refine XS.icmpNo X0.here hx rfl (hb hby d2_39) rfl (flt hc).1 ?_
        exact J42 ((show own_f2_36 p1 = own_f2_42 p1 from if_neg hc).symm.trans hR)
    have J34 : own_f2_34 p1 = R → Steps p.tables e below (s₁.setTop (mkF m 34 #[.val (.int p1)] [])) (s₁.setFrames fs) := by
      intro hR0'
      have hR : (0 : Int32) = R := hR0'
      show Steps p.tables e below (s₁.setTop (mkF m 34 #[.val (.int p1)] [])) _
      refine XS.iconst X0.here hx rfl (hb hby d2_34) ?_
      show Steps p.tables e below (s₁.setTop (mkF m 35 #[.val (.int p1)] [(.int (0 : Int32))])) _
      subst hR
      exact retN X0 hx (t := .boolean) Bd.returns (by simp) (hb hby d2_35) hr
    have J28 : own_f2_28 p1 = R → Steps p.tables e below (s₁.setTop (mkF m 28 #[.val (.int p1)] [])) (s₁.setFrames fs) := by
      intro hR
      show Steps p.tables e below (s₁.setTop (mkF m 28 #[.val (.int p1)] [])) _
      refine XS.iloadN X0.here hx rfl (hb hby d2_28) rfl ?_
      show Steps p.tables e below (s₁.setTop (mkF m 29 #[.val (.int p1)] [(.int p1)])) _
      refine XS.bipush X0.here hx rfl (hb hby d2_29) ?_
      show Steps p.tables e below (s₁.setTop (mkF m 31 #[.val (.int p1)] [(.int (96 : Int32)), (.int p1)])) _
      by_cases hc : p1 = (96 : Int32)
      · refine XS.icmpNo X0.here hx rfl (hb hby d2_31) rfl (teq hc).2 ?_
        exact J34 ((show own_f2_28 p1 = own_f2_34 p1 from if_pos hc).symm.trans hR)
      · refine XS.icmpYes X0.here hx rfl (pc0 := 31) (pc' := 36) rfl (hb hby d2_31) rfl (feq hc).2 (by decide) (by decide) ?_
        exact J36 ((show own_f2_28 p1 = own_f2_36 p1 from if_neg hc).symm.trans hR)
    have J26 : own_f2_26 p1 = R → Steps p.tables e below (s₁.setTop (mkF m 26 #[.val (.int p1)] [])) (s₁.setFrames fs) := by
      intro hR0'
      have hR : (0 : Int32) = R := hR0'
      show Steps p.tables e below (s₁.setTop (mkF m 26 #[.val (.int p1)] [])) _
      refine XS.iconst X0.here hx rfl (hb hby d2_26) ?_
      show Steps p.tables e below (s₁.setTop (mkF m 27 #[.val (.int p1)] [(.int (0 : Int32))])) _
      subst hR
      exact retN X0 hx (t := .boolean) Bd.returns (by simp) (hb hby d2_27) hr
    have J20 : own_f2_20 p1 = R → Steps p.tables e below (s₁.setTop (mkF m 20 #[.val (.int p1)] [])) (s₁.setFrames fs) := by
      intro hR
      show Steps p.tables e below (s₁.setTop (mkF m 20 #[.val (.int p1)] [])) _
      refine XS.iloadN X0.here hx rfl (hb hby d2_20) rfl ?_
      show Steps p.tables e below (s₁.setTop (mkF m 21 #[.val (.int p1)] [(.int p1)])) _
      refine XS.bipush X0.here hx rfl (hb hby d2_21) ?_
      show Steps p.tables e below (s₁.setTop (mkF m 23 #[.val (.int p1)] [(.int (94 : Int32)), (.int p1)])) _
      by_cases hc : (94 : Int32) < p1
      · refine XS.icmpYes X0.here hx rfl (pc0 := 23) (pc' := 28) rfl (hb hby d2_23) rfl (tlt hc).2.2.1 (by decide) (by decide) ?_
        exact J28 ((show own_f2_20 p1 = own_f2_28 p1 from if_pos hc).symm.trans hR)
      · refine XS.icmpNo X0.here hx rfl (hb hby d2_23) rfl (flt hc).2.2.1 ?_
        exact J26 ((show own_f2_20 p1 = own_f2_26 p1 from if_neg hc).symm.trans hR)
    have J14 : own_f2_14 p1 = R → Steps p.tables e below (s₁.setTop (mkF m 14 #[.val (.int p1)] [])) (s₁.setFrames fs) := by
      intro hR
      show Steps p.tables e below (s₁.setTop (mkF m 14 #[.val (.int p1)] [])) _
      refine XS.iloadN X0.here hx rfl (hb hby d2_14) rfl ?_
      show Steps p.tables e below (s₁.setTop (mkF m 15 #[.val (.int p1)] [(.int p1)])) _
      refine XS.bipush X0.here hx rfl (hb hby d2_15) ?_
      show Steps p.tables e below (s₁.setTop (mkF m 17 #[.val (.int p1)] [(.int (91 : Int32)), (.int p1)])) _
      by_cases hc : p1 < (91 : Int32)
      · refine XS.icmpYes X0.here hx rfl (pc0 := 17) (pc' := 28) rfl (hb hby d2_17) rfl (tlt hc).1 (by decide) (by decide) ?_
        exact J28 ((show own_f2_14 p1 = own_f2_28 p1 from if_pos hc).symm.trans hR)
      · refine XS.icmpNo X0.here hx rfl (hb hby d2_17) rfl (flt hc).1 ?_
        exact J20 ((show own_f2_14 p1 = own_f2_20 p1 from if_neg hc).symm.trans hR)
    have J12 : own_f2_12 p1 = R → Steps p.tables e below (s₁.setTop (mkF m 12 #[.val (.int p1)] [])) (s₁.setFrames fs) := by
      intro hR0'
      have hR : (0 : Int32) = R := hR0'
      show Steps p.tables e below (s₁.setTop (mkF m 12 #[.val (.int p1)] [])) _
      refine XS.iconst X0.here hx rfl (hb hby d2_12) ?_
      show Steps p.tables e below (s₁.setTop (mkF m 13 #[.val (.int p1)] [(.int (0 : Int32))])) _
      subst hR
      exact retN X0 hx (t := .boolean) Bd.returns (by simp) (hb hby d2_13) hr
    have J6 : own_f2_6 p1 = R → Steps p.tables e below (s₁.setTop (mkF m 6 #[.val (.int p1)] [])) (s₁.setFrames fs) := by
      intro hR
      show Steps p.tables e below (s₁.setTop (mkF m 6 #[.val (.int p1)] [])) _
      refine XS.iloadN X0.here hx rfl (hb hby d2_6) rfl ?_
      show Steps p.tables e below (s₁.setTop (mkF m 7 #[.val (.int p1)] [(.int p1)])) _
      refine X0.ldcInt hx hown (mvT hZ (hw _ (List.mem_of_getElem? (i := 18) rfl))) (g := (mkF m 7 #[.val (.int p1)] [(.int p1)])) rfl (hb hby d2_7) _ ?_
      show Steps p.tables e below (s₁.setTop (mkF m 9 #[.val (.int p1)] [(.int (983039 : Int32)), (.int p1)])) _
      by_cases hc : (983039 : Int32) < p1
      · refine XS.icmpNo X0.here hx rfl (hb hby d2_9) rfl (tlt hc).2.2.2 ?_
        exact J12 ((show own_f2_6 p1 = own_f2_12 p1 from if_pos hc).symm.trans hR)
      · refine XS.icmpYes X0.here hx rfl (pc0 := 9) (pc' := 14) rfl (hb hby d2_9) rfl (flt hc).2.2.2 (by decide) (by decide) ?_
        exact J14 ((show own_f2_6 p1 = own_f2_14 p1 from if_neg hc).symm.trans hR)
    have J0 : own_f2_0 p1 = R → Steps p.tables e below (s₁.setTop (mkF m 0 #[.val (.int p1)] [])) (s₁.setFrames fs) := by
      intro hR
      show Steps p.tables e below (s₁.setTop (mkF m 0 #[.val (.int p1)] [])) _
      refine XS.iloadN X0.here hx rfl (hb hby d2_0) rfl ?_
      show Steps p.tables e below (s₁.setTop (mkF m 1 #[.val (.int p1)] [(.int p1)])) _
      refine XS.bipush X0.here hx rfl (hb hby d2_1) ?_
      show Steps p.tables e below (s₁.setTop (mkF m 3 #[.val (.int p1)] [(.int (65 : Int32)), (.int p1)])) _
      by_cases hc : p1 < (65 : Int32)
      · refine XS.icmpYes X0.here hx rfl (pc0 := 3) (pc' := 12) rfl (hb hby d2_3) rfl (tlt hc).1 (by decide) (by decide) ?_
        exact J12 ((show own_f2_0 p1 = own_f2_12 p1 from if_pos hc).symm.trans hR)
      · refine XS.icmpNo X0.here hx rfl (hb hby d2_3) rfl (flt hc).1 ?_
        exact J6 ((show own_f2_0 p1 = own_f2_6 p1 from if_neg hc).symm.trans hR)
    exact J0 hR0.symm
  · show Q2 Z p1 h0 n0 _ s₁.heap _
    rw [e0]
    exact ⟨by rw [hR0], N0, rfl⟩
theorem own_lt {q c : Int32} (z : Int) (hc : c.toInt = z) (h : q.toInt < z) : q < c := by rw [Int32.lt_iff_toInt_lt, hc]; exact h
theorem own_nlt {q c : Int32} (z : Int) (hc : c.toInt = z) (h : z ≤ q.toInt) : ¬ q < c := by rw [Int32.lt_iff_toInt_lt, hc]; omega
theorem own_gt {q c : Int32} (z : Int) (hc : c.toInt = z) (h : z < q.toInt) : c < q := by rw [Int32.lt_iff_toInt_lt, hc]; exact h
theorem own_ngt {q c : Int32} (z : Int) (hc : c.toInt = z) (h : q.toInt ≤ z) : ¬ c < q := by rw [Int32.lt_iff_toInt_lt, hc]; omega
theorem own_eq {q c : Int32} (z : Int) (hc : c.toInt = z) (h : q.toInt = z) : q = c := by apply Int32.toInt_inj.mp; rw [hc]; exact h
theorem own_neq {q c : Int32} (z : Int) (hc : c.toInt = z) (h : ¬ q.toInt = z) : ¬ q = c := fun k => h (by rw [k]; exact hc)
theorem own_iv0 (q : Int32) (h1 : (-2147483648) ≤ q.toInt) (h2 : q.toInt ≤ 64) : own_f1_0 q = own_f2_0 q := by
  rw [(show own_f1_0 q = own_f1_12 q from if_pos (own_lt 97 (by decide) (by omega)))]
  rw [(show own_f1_12 q = own_f1_24 q from if_pos (own_lt 65 (by decide) (by omega)))]
  rw [(show own_f1_24 q = own_f1_30 q from if_neg (own_neq 95 (by decide) (by omega)))]
  rw [(show own_f1_30 q = own_f1_44 q from if_pos (own_lt 192 (by decide) (by omega)))]
  rw [(show own_f1_44 q = own_f1_58 q from if_pos (own_lt 216 (by decide) (by omega)))]
  rw [(show own_f1_58 q = own_f1_72 q from if_pos (own_lt 248 (by decide) (by omega)))]
  rw [(show own_f1_72 q = own_f1_86 q from if_pos (own_lt 880 (by decide) (by omega)))]
  rw [(show own_f1_86 q = own_f1_100 q from if_pos (own_lt 895 (by decide) (by omega)))]
  rw [(show own_f1_100 q = own_f1_114 q from if_pos (own_lt 8204 (by decide) (by omega)))]
  rw [(show own_f1_114 q = own_f1_128 q from if_pos (own_lt 8304 (by decide) (by omega)))]
  rw [(show own_f1_128 q = own_f1_142 q from if_pos (own_lt 11264 (by decide) (by omega)))]
  rw [(show own_f1_142 q = own_f1_155 q from if_pos (own_lt 12289 (by decide) (by omega)))]
  rw [(show own_f1_155 q = own_f1_167 q from if_pos (own_lt 63744 (by decide) (by omega)))]
  rw [(show own_f1_167 q = own_f1_179 q from if_pos (own_lt 65008 (by decide) (by omega)))]
  rw [(show own_f1_179 q = own_f1_195 q from if_pos (own_lt 65536 (by decide) (by omega)))]
  rw [(show own_f2_0 q = own_f2_12 q from if_pos (own_lt 65 (by decide) (by omega)))]
  rfl
theorem own_iv1 (q : Int32) (h1 : 65 ≤ q.toInt) (h2 : q.toInt ≤ 90) : own_f1_0 q = own_f2_0 q := by
  rw [(show own_f1_0 q = own_f1_12 q from if_pos (own_lt 97 (by decide) (by omega)))]
  rw [(show own_f1_12 q = own_f1_18 q from if_neg (own_nlt 65 (by decide) (by omega)))]
  rw [(show own_f1_18 q = own_f1_191 q from if_neg (own_ngt 90 (by decide) (by omega)))]
  rw [(show own_f2_0 q = own_f2_6 q from if_neg (own_nlt 65 (by decide) (by omega)))]
  rw [(show own_f2_6 q = own_f2_14 q from if_neg (own_ngt 983039 (by decide) (by omega)))]
  rw [(show own_f2_14 q = own_f2_28 q from if_pos (own_lt 91 (by decide) (by omega)))]
  rw [(show own_f2_28 q = own_f2_36 q from if_neg (own_neq 96 (by decide) (by omega)))]
  rw [(show own_f2_36 q = own_f2_51 q from if_pos (own_lt 123 (by decide) (by omega)))]
  rw [(show own_f2_51 q = own_f2_58 q from if_neg (own_neq 215 (by decide) (by omega)))]
  rw [(show own_f2_58 q = own_f2_67 q from if_neg (own_neq 247 (by decide) (by omega)))]
  rw [(show own_f2_67 q = own_f2_83 q from if_pos (own_lt 768 (by decide) (by omega)))]
  rw [(show own_f2_83 q = own_f2_92 q from if_neg (own_neq 894 (by decide) (by omega)))]
  rw [(show own_f2_92 q = own_f2_108 q from if_pos (own_lt 8192 (by decide) (by omega)))]
  rw [(show own_f2_108 q = own_f2_124 q from if_pos (own_lt 8206 (by decide) (by omega)))]
  rw [(show own_f2_124 q = own_f2_140 q from if_pos (own_lt 8592 (by decide) (by omega)))]
  rw [(show own_f2_140 q = own_f2_156 q from if_pos (own_lt 12272 (by decide) (by omega)))]
  rw [(show own_f2_156 q = own_f2_170 q from if_pos (own_lt 55296 (by decide) (by omega)))]
  rw [(show own_f2_170 q = own_f2_184 q from if_pos (own_lt 64976 (by decide) (by omega)))]
  rw [(show own_f2_184 q = own_f2_198 q from if_pos (own_lt 65534 (by decide) (by omega)))]
  rfl
theorem own_iv2 (q : Int32) (h1 : 91 ≤ q.toInt) (h2 : q.toInt ≤ 94) : own_f1_0 q = own_f2_0 q := by
  rw [(show own_f1_0 q = own_f1_12 q from if_pos (own_lt 97 (by decide) (by omega)))]
  rw [(show own_f1_12 q = own_f1_18 q from if_neg (own_nlt 65 (by decide) (by omega)))]
  rw [(show own_f1_18 q = own_f1_24 q from if_pos (own_gt 90 (by decide) (by omega)))]
  rw [(show own_f1_24 q = own_f1_30 q from if_neg (own_neq 95 (by decide) (by omega)))]
  rw [(show own_f1_30 q = own_f1_44 q from if_pos (own_lt 192 (by decide) (by omega)))]
  rw [(show own_f1_44 q = own_f1_58 q from if_pos (own_lt 216 (by decide) (by omega)))]
  rw [(show own_f1_58 q = own_f1_72 q from if_pos (own_lt 248 (by decide) (by omega)))]
  rw [(show own_f1_72 q = own_f1_86 q from if_pos (own_lt 880 (by decide) (by omega)))]
  rw [(show own_f1_86 q = own_f1_100 q from if_pos (own_lt 895 (by decide) (by omega)))]
  rw [(show own_f1_100 q = own_f1_114 q from if_pos (own_lt 8204 (by decide) (by omega)))]
  rw [(show own_f1_114 q = own_f1_128 q from if_pos (own_lt 8304 (by decide) (by omega)))]
  rw [(show own_f1_128 q = own_f1_142 q from if_pos (own_lt 11264 (by decide) (by omega)))]
  rw [(show own_f1_142 q = own_f1_155 q from if_pos (own_lt 12289 (by decide) (by omega)))]
  rw [(show own_f1_155 q = own_f1_167 q from if_pos (own_lt 63744 (by decide) (by omega)))]
  rw [(show own_f1_167 q = own_f1_179 q from if_pos (own_lt 65008 (by decide) (by omega)))]
  rw [(show own_f1_179 q = own_f1_195 q from if_pos (own_lt 65536 (by decide) (by omega)))]
  rw [(show own_f2_0 q = own_f2_6 q from if_neg (own_nlt 65 (by decide) (by omega)))]
  rw [(show own_f2_6 q = own_f2_14 q from if_neg (own_ngt 983039 (by decide) (by omega)))]
  rw [(show own_f2_14 q = own_f2_20 q from if_neg (own_nlt 91 (by decide) (by omega)))]
  rw [(show own_f2_20 q = own_f2_26 q from if_neg (own_ngt 94 (by decide) (by omega)))]
  rfl
theorem own_iv3 (q : Int32) (h1 : 95 ≤ q.toInt) (h2 : q.toInt ≤ 95) : own_f1_0 q = own_f2_0 q := by
  rw [(show own_f1_0 q = own_f1_12 q from if_pos (own_lt 97 (by decide) (by omega)))]
  rw [(show own_f1_12 q = own_f1_18 q from if_neg (own_nlt 65 (by decide) (by omega)))]
  rw [(show own_f1_18 q = own_f1_24 q from if_pos (own_gt 90 (by decide) (by omega)))]
  rw [(show own_f1_24 q = own_f1_191 q from if_pos (own_eq 95 (by decide) (by omega)))]
  rw [(show own_f2_0 q = own_f2_6 q from if_neg (own_nlt 65 (by decide) (by omega)))]
  rw [(show own_f2_6 q = own_f2_14 q from if_neg (own_ngt 983039 (by decide) (by omega)))]
  rw [(show own_f2_14 q = own_f2_20 q from if_neg (own_nlt 91 (by decide) (by omega)))]
  rw [(show own_f2_20 q = own_f2_28 q from if_pos (own_gt 94 (by decide) (by omega)))]
  rw [(show own_f2_28 q = own_f2_36 q from if_neg (own_neq 96 (by decide) (by omega)))]
  rw [(show own_f2_36 q = own_f2_51 q from if_pos (own_lt 123 (by decide) (by omega)))]
  rw [(show own_f2_51 q = own_f2_58 q from if_neg (own_neq 215 (by decide) (by omega)))]
  rw [(show own_f2_58 q = own_f2_67 q from if_neg (own_neq 247 (by decide) (by omega)))]
  rw [(show own_f2_67 q = own_f2_83 q from if_pos (own_lt 768 (by decide) (by omega)))]
  rw [(show own_f2_83 q = own_f2_92 q from if_neg (own_neq 894 (by decide) (by omega)))]
  rw [(show own_f2_92 q = own_f2_108 q from if_pos (own_lt 8192 (by decide) (by omega)))]
  rw [(show own_f2_108 q = own_f2_124 q from if_pos (own_lt 8206 (by decide) (by omega)))]
  rw [(show own_f2_124 q = own_f2_140 q from if_pos (own_lt 8592 (by decide) (by omega)))]
  rw [(show own_f2_140 q = own_f2_156 q from if_pos (own_lt 12272 (by decide) (by omega)))]
  rw [(show own_f2_156 q = own_f2_170 q from if_pos (own_lt 55296 (by decide) (by omega)))]
  rw [(show own_f2_170 q = own_f2_184 q from if_pos (own_lt 64976 (by decide) (by omega)))]
  rw [(show own_f2_184 q = own_f2_198 q from if_pos (own_lt 65534 (by decide) (by omega)))]
  rfl
theorem own_iv4 (q : Int32) (h1 : 96 ≤ q.toInt) (h2 : q.toInt ≤ 96) : own_f1_0 q = own_f2_0 q := by
  rw [(show own_f1_0 q = own_f1_12 q from if_pos (own_lt 97 (by decide) (by omega)))]
  rw [(show own_f1_12 q = own_f1_18 q from if_neg (own_nlt 65 (by decide) (by omega)))]
  rw [(show own_f1_18 q = own_f1_24 q from if_pos (own_gt 90 (by decide) (by omega)))]
  rw [(show own_f1_24 q = own_f1_30 q from if_neg (own_neq 95 (by decide) (by omega)))]
  rw [(show own_f1_30 q = own_f1_44 q from if_pos (own_lt 192 (by decide) (by omega)))]
  rw [(show own_f1_44 q = own_f1_58 q from if_pos (own_lt 216 (by decide) (by omega)))]
  rw [(show own_f1_58 q = own_f1_72 q from if_pos (own_lt 248 (by decide) (by omega)))]
  rw [(show own_f1_72 q = own_f1_86 q from if_pos (own_lt 880 (by decide) (by omega)))]
  rw [(show own_f1_86 q = own_f1_100 q from if_pos (own_lt 895 (by decide) (by omega)))]
  rw [(show own_f1_100 q = own_f1_114 q from if_pos (own_lt 8204 (by decide) (by omega)))]
  rw [(show own_f1_114 q = own_f1_128 q from if_pos (own_lt 8304 (by decide) (by omega)))]
  rw [(show own_f1_128 q = own_f1_142 q from if_pos (own_lt 11264 (by decide) (by omega)))]
  rw [(show own_f1_142 q = own_f1_155 q from if_pos (own_lt 12289 (by decide) (by omega)))]
  rw [(show own_f1_155 q = own_f1_167 q from if_pos (own_lt 63744 (by decide) (by omega)))]
  rw [(show own_f1_167 q = own_f1_179 q from if_pos (own_lt 65008 (by decide) (by omega)))]
  rw [(show own_f1_179 q = own_f1_195 q from if_pos (own_lt 65536 (by decide) (by omega)))]
  rw [(show own_f2_0 q = own_f2_6 q from if_neg (own_nlt 65 (by decide) (by omega)))]
  rw [(show own_f2_6 q = own_f2_14 q from if_neg (own_ngt 983039 (by decide) (by omega)))]
  rw [(show own_f2_14 q = own_f2_20 q from if_neg (own_nlt 91 (by decide) (by omega)))]
  rw [(show own_f2_20 q = own_f2_28 q from if_pos (own_gt 94 (by decide) (by omega)))]
  rw [(show own_f2_28 q = own_f2_34 q from if_pos (own_eq 96 (by decide) (by omega)))]
  rfl
theorem own_iv5 (q : Int32) (h1 : 97 ≤ q.toInt) (h2 : q.toInt ≤ 122) : own_f1_0 q = own_f2_0 q := by
  rw [(show own_f1_0 q = own_f1_6 q from if_neg (own_nlt 97 (by decide) (by omega)))]
  rw [(show own_f1_6 q = own_f1_191 q from if_neg (own_ngt 122 (by decide) (by omega)))]
  rw [(show own_f2_0 q = own_f2_6 q from if_neg (own_nlt 65 (by decide) (by omega)))]
  rw [(show own_f2_6 q = own_f2_14 q from if_neg (own_ngt 983039 (by decide) (by omega)))]
  rw [(show own_f2_14 q = own_f2_20 q from if_neg (own_nlt 91 (by decide) (by omega)))]
  rw [(show own_f2_20 q = own_f2_28 q from if_pos (own_gt 94 (by decide) (by omega)))]
  rw [(show own_f2_28 q = own_f2_36 q from if_neg (own_neq 96 (by decide) (by omega)))]
  rw [(show own_f2_36 q = own_f2_51 q from if_pos (own_lt 123 (by decide) (by omega)))]
  rw [(show own_f2_51 q = own_f2_58 q from if_neg (own_neq 215 (by decide) (by omega)))]
  rw [(show own_f2_58 q = own_f2_67 q from if_neg (own_neq 247 (by decide) (by omega)))]
  rw [(show own_f2_67 q = own_f2_83 q from if_pos (own_lt 768 (by decide) (by omega)))]
  rw [(show own_f2_83 q = own_f2_92 q from if_neg (own_neq 894 (by decide) (by omega)))]
  rw [(show own_f2_92 q = own_f2_108 q from if_pos (own_lt 8192 (by decide) (by omega)))]
  rw [(show own_f2_108 q = own_f2_124 q from if_pos (own_lt 8206 (by decide) (by omega)))]
  rw [(show own_f2_124 q = own_f2_140 q from if_pos (own_lt 8592 (by decide) (by omega)))]
  rw [(show own_f2_140 q = own_f2_156 q from if_pos (own_lt 12272 (by decide) (by omega)))]
  rw [(show own_f2_156 q = own_f2_170 q from if_pos (own_lt 55296 (by decide) (by omega)))]
  rw [(show own_f2_170 q = own_f2_184 q from if_pos (own_lt 64976 (by decide) (by omega)))]
  rw [(show own_f2_184 q = own_f2_198 q from if_pos (own_lt 65534 (by decide) (by omega)))]
  rfl
theorem own_iv6 (q : Int32) (h1 : 123 ≤ q.toInt) (h2 : q.toInt ≤ 191) : own_f1_0 q = own_f2_0 q := by
  rw [(show own_f1_0 q = own_f1_6 q from if_neg (own_nlt 97 (by decide) (by omega)))]
  rw [(show own_f1_6 q = own_f1_12 q from if_pos (own_gt 122 (by decide) (by omega)))]
  rw [(show own_f1_12 q = own_f1_18 q from if_neg (own_nlt 65 (by decide) (by omega)))]
  rw [(show own_f1_18 q = own_f1_24 q from if_pos (own_gt 90 (by decide) (by omega)))]
  rw [(show own_f1_24 q = own_f1_30 q from if_neg (own_neq 95 (by decide) (by omega)))]
  rw [(show own_f1_30 q = own_f1_44 q from if_pos (own_lt 192 (by decide) (by omega)))]
  rw [(show own_f1_44 q = own_f1_58 q from if_pos (own_lt 216 (by decide) (by omega)))]
  rw [(show own_f1_58 q = own_f1_72 q from if_pos (own_lt 248 (by decide) (by omega)))]
  rw [(show own_f1_72 q = own_f1_86 q from if_pos (own_lt 880 (by decide) (by omega)))]
  rw [(show own_f1_86 q = own_f1_100 q from if_pos (own_lt 895 (by decide) (by omega)))]
  rw [(show own_f1_100 q = own_f1_114 q from if_pos (own_lt 8204 (by decide) (by omega)))]
  rw [(show own_f1_114 q = own_f1_128 q from if_pos (own_lt 8304 (by decide) (by omega)))]
  rw [(show own_f1_128 q = own_f1_142 q from if_pos (own_lt 11264 (by decide) (by omega)))]
  rw [(show own_f1_142 q = own_f1_155 q from if_pos (own_lt 12289 (by decide) (by omega)))]
  rw [(show own_f1_155 q = own_f1_167 q from if_pos (own_lt 63744 (by decide) (by omega)))]
  rw [(show own_f1_167 q = own_f1_179 q from if_pos (own_lt 65008 (by decide) (by omega)))]
  rw [(show own_f1_179 q = own_f1_195 q from if_pos (own_lt 65536 (by decide) (by omega)))]
  rw [(show own_f2_0 q = own_f2_6 q from if_neg (own_nlt 65 (by decide) (by omega)))]
  rw [(show own_f2_6 q = own_f2_14 q from if_neg (own_ngt 983039 (by decide) (by omega)))]
  rw [(show own_f2_14 q = own_f2_20 q from if_neg (own_nlt 91 (by decide) (by omega)))]
  rw [(show own_f2_20 q = own_f2_28 q from if_pos (own_gt 94 (by decide) (by omega)))]
  rw [(show own_f2_28 q = own_f2_36 q from if_neg (own_neq 96 (by decide) (by omega)))]
  rw [(show own_f2_36 q = own_f2_42 q from if_neg (own_nlt 123 (by decide) (by omega)))]
  rw [(show own_f2_42 q = own_f2_49 q from if_neg (own_ngt 191 (by decide) (by omega)))]
  rfl
theorem own_iv7 (q : Int32) (h1 : 192 ≤ q.toInt) (h2 : q.toInt ≤ 214) : own_f1_0 q = own_f2_0 q := by
  rw [(show own_f1_0 q = own_f1_6 q from if_neg (own_nlt 97 (by decide) (by omega)))]
  rw [(show own_f1_6 q = own_f1_12 q from if_pos (own_gt 122 (by decide) (by omega)))]
  rw [(show own_f1_12 q = own_f1_18 q from if_neg (own_nlt 65 (by decide) (by omega)))]
  rw [(show own_f1_18 q = own_f1_24 q from if_pos (own_gt 90 (by decide) (by omega)))]
  rw [(show own_f1_24 q = own_f1_30 q from if_neg (own_neq 95 (by decide) (by omega)))]
  rw [(show own_f1_30 q = own_f1_37 q from if_neg (own_nlt 192 (by decide) (by omega)))]
  rw [(show own_f1_37 q = own_f1_191 q from if_neg (own_ngt 214 (by decide) (by omega)))]
  rw [(show own_f2_0 q = own_f2_6 q from if_neg (own_nlt 65 (by decide) (by omega)))]
  rw [(show own_f2_6 q = own_f2_14 q from if_neg (own_ngt 983039 (by decide) (by omega)))]
  rw [(show own_f2_14 q = own_f2_20 q from if_neg (own_nlt 91 (by decide) (by omega)))]
  rw [(show own_f2_20 q = own_f2_28 q from if_pos (own_gt 94 (by decide) (by omega)))]
  rw [(show own_f2_28 q = own_f2_36 q from if_neg (own_neq 96 (by decide) (by omega)))]
  rw [(show own_f2_36 q = own_f2_42 q from if_neg (own_nlt 123 (by decide) (by omega)))]
  rw [(show own_f2_42 q = own_f2_51 q from if_pos (own_gt 191 (by decide) (by omega)))]
  rw [(show own_f2_51 q = own_f2_58 q from if_neg (own_neq 215 (by decide) (by omega)))]
  rw [(show own_f2_58 q = own_f2_67 q from if_neg (own_neq 247 (by decide) (by omega)))]
  rw [(show own_f2_67 q = own_f2_83 q from if_pos (own_lt 768 (by decide) (by omega)))]
  rw [(show own_f2_83 q = own_f2_92 q from if_neg (own_neq 894 (by decide) (by omega)))]
  rw [(show own_f2_92 q = own_f2_108 q from if_pos (own_lt 8192 (by decide) (by omega)))]
  rw [(show own_f2_108 q = own_f2_124 q from if_pos (own_lt 8206 (by decide) (by omega)))]
  rw [(show own_f2_124 q = own_f2_140 q from if_pos (own_lt 8592 (by decide) (by omega)))]
  rw [(show own_f2_140 q = own_f2_156 q from if_pos (own_lt 12272 (by decide) (by omega)))]
  rw [(show own_f2_156 q = own_f2_170 q from if_pos (own_lt 55296 (by decide) (by omega)))]
  rw [(show own_f2_170 q = own_f2_184 q from if_pos (own_lt 64976 (by decide) (by omega)))]
  rw [(show own_f2_184 q = own_f2_198 q from if_pos (own_lt 65534 (by decide) (by omega)))]
  rfl
theorem own_iv8 (q : Int32) (h1 : 215 ≤ q.toInt) (h2 : q.toInt ≤ 215) : own_f1_0 q = own_f2_0 q := by
  rw [(show own_f1_0 q = own_f1_6 q from if_neg (own_nlt 97 (by decide) (by omega)))]
  rw [(show own_f1_6 q = own_f1_12 q from if_pos (own_gt 122 (by decide) (by omega)))]
  rw [(show own_f1_12 q = own_f1_18 q from if_neg (own_nlt 65 (by decide) (by omega)))]
  rw [(show own_f1_18 q = own_f1_24 q from if_pos (own_gt 90 (by decide) (by omega)))]
  rw [(show own_f1_24 q = own_f1_30 q from if_neg (own_neq 95 (by decide) (by omega)))]
  rw [(show own_f1_30 q = own_f1_37 q from if_neg (own_nlt 192 (by decide) (by omega)))]
  rw [(show own_f1_37 q = own_f1_44 q from if_pos (own_gt 214 (by decide) (by omega)))]
  rw [(show own_f1_44 q = own_f1_58 q from if_pos (own_lt 216 (by decide) (by omega)))]
  rw [(show own_f1_58 q = own_f1_72 q from if_pos (own_lt 248 (by decide) (by omega)))]
  rw [(show own_f1_72 q = own_f1_86 q from if_pos (own_lt 880 (by decide) (by omega)))]
  rw [(show own_f1_86 q = own_f1_100 q from if_pos (own_lt 895 (by decide) (by omega)))]
  rw [(show own_f1_100 q = own_f1_114 q from if_pos (own_lt 8204 (by decide) (by omega)))]
  rw [(show own_f1_114 q = own_f1_128 q from if_pos (own_lt 8304 (by decide) (by omega)))]
  rw [(show own_f1_128 q = own_f1_142 q from if_pos (own_lt 11264 (by decide) (by omega)))]
  rw [(show own_f1_142 q = own_f1_155 q from if_pos (own_lt 12289 (by decide) (by omega)))]
  rw [(show own_f1_155 q = own_f1_167 q from if_pos (own_lt 63744 (by decide) (by omega)))]
  rw [(show own_f1_167 q = own_f1_179 q from if_pos (own_lt 65008 (by decide) (by omega)))]
  rw [(show own_f1_179 q = own_f1_195 q from if_pos (own_lt 65536 (by decide) (by omega)))]
  rw [(show own_f2_0 q = own_f2_6 q from if_neg (own_nlt 65 (by decide) (by omega)))]
  rw [(show own_f2_6 q = own_f2_14 q from if_neg (own_ngt 983039 (by decide) (by omega)))]
  rw [(show own_f2_14 q = own_f2_20 q from if_neg (own_nlt 91 (by decide) (by omega)))]
  rw [(show own_f2_20 q = own_f2_28 q from if_pos (own_gt 94 (by decide) (by omega)))]
  rw [(show own_f2_28 q = own_f2_36 q from if_neg (own_neq 96 (by decide) (by omega)))]
  rw [(show own_f2_36 q = own_f2_42 q from if_neg (own_nlt 123 (by decide) (by omega)))]
  rw [(show own_f2_42 q = own_f2_51 q from if_pos (own_gt 191 (by decide) (by omega)))]
  rw [(show own_f2_51 q = own_f2_65 q from if_pos (own_eq 215 (by decide) (by omega)))]
  rfl
theorem own_iv9 (q : Int32) (h1 : 216 ≤ q.toInt) (h2 : q.toInt ≤ 246) : own_f1_0 q = own_f2_0 q := by
  rw [(show own_f1_0 q = own_f1_6 q from if_neg (own_nlt 97 (by decide) (by omega)))]
  rw [(show own_f1_6 q = own_f1_12 q from if_pos (own_gt 122 (by decide) (by omega)))]
  rw [(show own_f1_12 q = own_f1_18 q from if_neg (own_nlt 65 (by decide) (by omega)))]
  rw [(show own_f1_18 q = own_f1_24 q from if_pos (own_gt 90 (by decide) (by omega)))]
  rw [(show own_f1_24 q = own_f1_30 q from if_neg (own_neq 95 (by decide) (by omega)))]
  rw [(show own_f1_30 q = own_f1_37 q from if_neg (own_nlt 192 (by decide) (by omega)))]
  rw [(show own_f1_37 q = own_f1_44 q from if_pos (own_gt 214 (by decide) (by omega)))]
  rw [(show own_f1_44 q = own_f1_51 q from if_neg (own_nlt 216 (by decide) (by omega)))]
  rw [(show own_f1_51 q = own_f1_191 q from if_neg (own_ngt 246 (by decide) (by omega)))]
  rw [(show own_f2_0 q = own_f2_6 q from if_neg (own_nlt 65 (by decide) (by omega)))]
  rw [(show own_f2_6 q = own_f2_14 q from if_neg (own_ngt 983039 (by decide) (by omega)))]
  rw [(show own_f2_14 q = own_f2_20 q from if_neg (own_nlt 91 (by decide) (by omega)))]
  rw [(show own_f2_20 q = own_f2_28 q from if_pos (own_gt 94 (by decide) (by omega)))]
  rw [(show own_f2_28 q = own_f2_36 q from if_neg (own_neq 96 (by decide) (by omega)))]
  rw [(show own_f2_36 q = own_f2_42 q from if_neg (own_nlt 123 (by decide) (by omega)))]
  rw [(show own_f2_42 q = own_f2_51 q from if_pos (own_gt 191 (by decide) (by omega)))]
  rw [(show own_f2_51 q = own_f2_58 q from if_neg (own_neq 215 (by decide) (by omega)))]
  rw [(show own_f2_58 q = own_f2_67 q from if_neg (own_neq 247 (by decide) (by omega)))]
  rw [(show own_f2_67 q = own_f2_83 q from if_pos (own_lt 768 (by decide) (by omega)))]
  rw [(show own_f2_83 q = own_f2_92 q from if_neg (own_neq 894 (by decide) (by omega)))]
  rw [(show own_f2_92 q = own_f2_108 q from if_pos (own_lt 8192 (by decide) (by omega)))]
  rw [(show own_f2_108 q = own_f2_124 q from if_pos (own_lt 8206 (by decide) (by omega)))]
  rw [(show own_f2_124 q = own_f2_140 q from if_pos (own_lt 8592 (by decide) (by omega)))]
  rw [(show own_f2_140 q = own_f2_156 q from if_pos (own_lt 12272 (by decide) (by omega)))]
  rw [(show own_f2_156 q = own_f2_170 q from if_pos (own_lt 55296 (by decide) (by omega)))]
  rw [(show own_f2_170 q = own_f2_184 q from if_pos (own_lt 64976 (by decide) (by omega)))]
  rw [(show own_f2_184 q = own_f2_198 q from if_pos (own_lt 65534 (by decide) (by omega)))]
  rfl
theorem own_iv10 (q : Int32) (h1 : 247 ≤ q.toInt) (h2 : q.toInt ≤ 247) : own_f1_0 q = own_f2_0 q := by
  rw [(show own_f1_0 q = own_f1_6 q from if_neg (own_nlt 97 (by decide) (by omega)))]
  rw [(show own_f1_6 q = own_f1_12 q from if_pos (own_gt 122 (by decide) (by omega)))]
  rw [(show own_f1_12 q = own_f1_18 q from if_neg (own_nlt 65 (by decide) (by omega)))]
  rw [(show own_f1_18 q = own_f1_24 q from if_pos (own_gt 90 (by decide) (by omega)))]
  rw [(show own_f1_24 q = own_f1_30 q from if_neg (own_neq 95 (by decide) (by omega)))]
  rw [(show own_f1_30 q = own_f1_37 q from if_neg (own_nlt 192 (by decide) (by omega)))]
  rw [(show own_f1_37 q = own_f1_44 q from if_pos (own_gt 214 (by decide) (by omega)))]
  rw [(show own_f1_44 q = own_f1_51 q from if_neg (own_nlt 216 (by decide) (by omega)))]
  rw [(show own_f1_51 q = own_f1_58 q from if_pos (own_gt 246 (by decide) (by omega)))]
  rw [(show own_f1_58 q = own_f1_72 q from if_pos (own_lt 248 (by decide) (by omega)))]
  rw [(show own_f1_72 q = own_f1_86 q from if_pos (own_lt 880 (by decide) (by omega)))]
  rw [(show own_f1_86 q = own_f1_100 q from if_pos (own_lt 895 (by decide) (by omega)))]
  rw [(show own_f1_100 q = own_f1_114 q from if_pos (own_lt 8204 (by decide) (by omega)))]
  rw [(show own_f1_114 q = own_f1_128 q from if_pos (own_lt 8304 (by decide) (by omega)))]
  rw [(show own_f1_128 q = own_f1_142 q from if_pos (own_lt 11264 (by decide) (by omega)))]
  rw [(show own_f1_142 q = own_f1_155 q from if_pos (own_lt 12289 (by decide) (by omega)))]
  rw [(show own_f1_155 q = own_f1_167 q from if_pos (own_lt 63744 (by decide) (by omega)))]
  rw [(show own_f1_167 q = own_f1_179 q from if_pos (own_lt 65008 (by decide) (by omega)))]
  rw [(show own_f1_179 q = own_f1_195 q from if_pos (own_lt 65536 (by decide) (by omega)))]
  rw [(show own_f2_0 q = own_f2_6 q from if_neg (own_nlt 65 (by decide) (by omega)))]
  rw [(show own_f2_6 q = own_f2_14 q from if_neg (own_ngt 983039 (by decide) (by omega)))]
  rw [(show own_f2_14 q = own_f2_20 q from if_neg (own_nlt 91 (by decide) (by omega)))]
  rw [(show own_f2_20 q = own_f2_28 q from if_pos (own_gt 94 (by decide) (by omega)))]
  rw [(show own_f2_28 q = own_f2_36 q from if_neg (own_neq 96 (by decide) (by omega)))]
  rw [(show own_f2_36 q = own_f2_42 q from if_neg (own_nlt 123 (by decide) (by omega)))]
  rw [(show own_f2_42 q = own_f2_51 q from if_pos (own_gt 191 (by decide) (by omega)))]
  rw [(show own_f2_51 q = own_f2_58 q from if_neg (own_neq 215 (by decide) (by omega)))]
  rw [(show own_f2_58 q = own_f2_65 q from if_pos (own_eq 247 (by decide) (by omega)))]
  rfl
theorem own_iv11 (q : Int32) (h1 : 248 ≤ q.toInt) (h2 : q.toInt ≤ 767) : own_f1_0 q = own_f2_0 q := by
  rw [(show own_f1_0 q = own_f1_6 q from if_neg (own_nlt 97 (by decide) (by omega)))]
  rw [(show own_f1_6 q = own_f1_12 q from if_pos (own_gt 122 (by decide) (by omega)))]
  rw [(show own_f1_12 q = own_f1_18 q from if_neg (own_nlt 65 (by decide) (by omega)))]
  rw [(show own_f1_18 q = own_f1_24 q from if_pos (own_gt 90 (by decide) (by omega)))]
  rw [(show own_f1_24 q = own_f1_30 q from if_neg (own_neq 95 (by decide) (by omega)))]
  rw [(show own_f1_30 q = own_f1_37 q from if_neg (own_nlt 192 (by decide) (by omega)))]
  rw [(show own_f1_37 q = own_f1_44 q from if_pos (own_gt 214 (by decide) (by omega)))]
  rw [(show own_f1_44 q = own_f1_51 q from if_neg (own_nlt 216 (by decide) (by omega)))]
  rw [(show own_f1_51 q = own_f1_58 q from if_pos (own_gt 246 (by decide) (by omega)))]
  rw [(show own_f1_58 q = own_f1_65 q from if_neg (own_nlt 248 (by decide) (by omega)))]
  rw [(show own_f1_65 q = own_f1_191 q from if_neg (own_ngt 767 (by decide) (by omega)))]
  rw [(show own_f2_0 q = own_f2_6 q from if_neg (own_nlt 65 (by decide) (by omega)))]
  rw [(show own_f2_6 q = own_f2_14 q from if_neg (own_ngt 983039 (by decide) (by omega)))]
  rw [(show own_f2_14 q = own_f2_20 q from if_neg (own_nlt 91 (by decide) (by omega)))]
  rw [(show own_f2_20 q = own_f2_28 q from if_pos (own_gt 94 (by decide) (by omega)))]
  rw [(show own_f2_28 q = own_f2_36 q from if_neg (own_neq 96 (by decide) (by omega)))]
  rw [(show own_f2_36 q = own_f2_42 q from if_neg (own_nlt 123 (by decide) (by omega)))]
  rw [(show own_f2_42 q = own_f2_51 q from if_pos (own_gt 191 (by decide) (by omega)))]
  rw [(show own_f2_51 q = own_f2_58 q from if_neg (own_neq 215 (by decide) (by omega)))]
  rw [(show own_f2_58 q = own_f2_67 q from if_neg (own_neq 247 (by decide) (by omega)))]
  rw [(show own_f2_67 q = own_f2_83 q from if_pos (own_lt 768 (by decide) (by omega)))]
  rw [(show own_f2_83 q = own_f2_92 q from if_neg (own_neq 894 (by decide) (by omega)))]
  rw [(show own_f2_92 q = own_f2_108 q from if_pos (own_lt 8192 (by decide) (by omega)))]
  rw [(show own_f2_108 q = own_f2_124 q from if_pos (own_lt 8206 (by decide) (by omega)))]
  rw [(show own_f2_124 q = own_f2_140 q from if_pos (own_lt 8592 (by decide) (by omega)))]
  rw [(show own_f2_140 q = own_f2_156 q from if_pos (own_lt 12272 (by decide) (by omega)))]
  rw [(show own_f2_156 q = own_f2_170 q from if_pos (own_lt 55296 (by decide) (by omega)))]
  rw [(show own_f2_170 q = own_f2_184 q from if_pos (own_lt 64976 (by decide) (by omega)))]
  rw [(show own_f2_184 q = own_f2_198 q from if_pos (own_lt 65534 (by decide) (by omega)))]
  rfl
theorem own_iv12 (q : Int32) (h1 : 768 ≤ q.toInt) (h2 : q.toInt ≤ 879) : own_f1_0 q = own_f2_0 q := by
  rw [(show own_f1_0 q = own_f1_6 q from if_neg (own_nlt 97 (by decide) (by omega)))]
  rw [(show own_f1_6 q = own_f1_12 q from if_pos (own_gt 122 (by decide) (by omega)))]
  rw [(show own_f1_12 q = own_f1_18 q from if_neg (own_nlt 65 (by decide) (by omega)))]
  rw [(show own_f1_18 q = own_f1_24 q from if_pos (own_gt 90 (by decide) (by omega)))]
  rw [(show own_f1_24 q = own_f1_30 q from if_neg (own_neq 95 (by decide) (by omega)))]
  rw [(show own_f1_30 q = own_f1_37 q from if_neg (own_nlt 192 (by decide) (by omega)))]
  rw [(show own_f1_37 q = own_f1_44 q from if_pos (own_gt 214 (by decide) (by omega)))]
  rw [(show own_f1_44 q = own_f1_51 q from if_neg (own_nlt 216 (by decide) (by omega)))]
  rw [(show own_f1_51 q = own_f1_58 q from if_pos (own_gt 246 (by decide) (by omega)))]
  rw [(show own_f1_58 q = own_f1_65 q from if_neg (own_nlt 248 (by decide) (by omega)))]
  rw [(show own_f1_65 q = own_f1_72 q from if_pos (own_gt 767 (by decide) (by omega)))]
  rw [(show own_f1_72 q = own_f1_86 q from if_pos (own_lt 880 (by decide) (by omega)))]
  rw [(show own_f1_86 q = own_f1_100 q from if_pos (own_lt 895 (by decide) (by omega)))]
  rw [(show own_f1_100 q = own_f1_114 q from if_pos (own_lt 8204 (by decide) (by omega)))]
  rw [(show own_f1_114 q = own_f1_128 q from if_pos (own_lt 8304 (by decide) (by omega)))]
  rw [(show own_f1_128 q = own_f1_142 q from if_pos (own_lt 11264 (by decide) (by omega)))]
  rw [(show own_f1_142 q = own_f1_155 q from if_pos (own_lt 12289 (by decide) (by omega)))]
  rw [(show own_f1_155 q = own_f1_167 q from if_pos (own_lt 63744 (by decide) (by omega)))]
  rw [(show own_f1_167 q = own_f1_179 q from if_pos (own_lt 65008 (by decide) (by omega)))]
  rw [(show own_f1_179 q = own_f1_195 q from if_pos (own_lt 65536 (by decide) (by omega)))]
  rw [(show own_f2_0 q = own_f2_6 q from if_neg (own_nlt 65 (by decide) (by omega)))]
  rw [(show own_f2_6 q = own_f2_14 q from if_neg (own_ngt 983039 (by decide) (by omega)))]
  rw [(show own_f2_14 q = own_f2_20 q from if_neg (own_nlt 91 (by decide) (by omega)))]
  rw [(show own_f2_20 q = own_f2_28 q from if_pos (own_gt 94 (by decide) (by omega)))]
  rw [(show own_f2_28 q = own_f2_36 q from if_neg (own_neq 96 (by decide) (by omega)))]
  rw [(show own_f2_36 q = own_f2_42 q from if_neg (own_nlt 123 (by decide) (by omega)))]
  rw [(show own_f2_42 q = own_f2_51 q from if_pos (own_gt 191 (by decide) (by omega)))]
  rw [(show own_f2_51 q = own_f2_58 q from if_neg (own_neq 215 (by decide) (by omega)))]
  rw [(show own_f2_58 q = own_f2_67 q from if_neg (own_neq 247 (by decide) (by omega)))]
  rw [(show own_f2_67 q = own_f2_74 q from if_neg (own_nlt 768 (by decide) (by omega)))]
  rw [(show own_f2_74 q = own_f2_81 q from if_neg (own_ngt 879 (by decide) (by omega)))]
  rfl
theorem own_iv13 (q : Int32) (h1 : 880 ≤ q.toInt) (h2 : q.toInt ≤ 893) : own_f1_0 q = own_f2_0 q := by
  rw [(show own_f1_0 q = own_f1_6 q from if_neg (own_nlt 97 (by decide) (by omega)))]
  rw [(show own_f1_6 q = own_f1_12 q from if_pos (own_gt 122 (by decide) (by omega)))]
  rw [(show own_f1_12 q = own_f1_18 q from if_neg (own_nlt 65 (by decide) (by omega)))]
  rw [(show own_f1_18 q = own_f1_24 q from if_pos (own_gt 90 (by decide) (by omega)))]
  rw [(show own_f1_24 q = own_f1_30 q from if_neg (own_neq 95 (by decide) (by omega)))]
  rw [(show own_f1_30 q = own_f1_37 q from if_neg (own_nlt 192 (by decide) (by omega)))]
  rw [(show own_f1_37 q = own_f1_44 q from if_pos (own_gt 214 (by decide) (by omega)))]
  rw [(show own_f1_44 q = own_f1_51 q from if_neg (own_nlt 216 (by decide) (by omega)))]
  rw [(show own_f1_51 q = own_f1_58 q from if_pos (own_gt 246 (by decide) (by omega)))]
  rw [(show own_f1_58 q = own_f1_65 q from if_neg (own_nlt 248 (by decide) (by omega)))]
  rw [(show own_f1_65 q = own_f1_72 q from if_pos (own_gt 767 (by decide) (by omega)))]
  rw [(show own_f1_72 q = own_f1_79 q from if_neg (own_nlt 880 (by decide) (by omega)))]
  rw [(show own_f1_79 q = own_f1_191 q from if_neg (own_ngt 893 (by decide) (by omega)))]
  rw [(show own_f2_0 q = own_f2_6 q from if_neg (own_nlt 65 (by decide) (by omega)))]
  rw [(show own_f2_6 q = own_f2_14 q from if_neg (own_ngt 983039 (by decide) (by omega)))]
  rw [(show own_f2_14 q = own_f2_20 q from if_neg (own_nlt 91 (by decide) (by omega)))]
  rw [(show own_f2_20 q = own_f2_28 q from if_pos (own_gt 94 (by decide) (by omega)))]
  rw [(show own_f2_28 q = own_f2_36 q from if_neg (own_neq 96 (by decide) (by omega)))]
  rw [(show own_f2_36 q = own_f2_42 q from if_neg (own_nlt 123 (by decide) (by omega)))]
  rw [(show own_f2_42 q = own_f2_51 q from if_pos (own_gt 191 (by decide) (by omega)))]
  rw [(show own_f2_51 q = own_f2_58 q from if_neg (own_neq 215 (by decide) (by omega)))]
  rw [(show own_f2_58 q = own_f2_67 q from if_neg (own_neq 247 (by decide) (by omega)))]
  rw [(show own_f2_67 q = own_f2_74 q from if_neg (own_nlt 768 (by decide) (by omega)))]
  rw [(show own_f2_74 q = own_f2_83 q from if_pos (own_gt 879 (by decide) (by omega)))]
  rw [(show own_f2_83 q = own_f2_92 q from if_neg (own_neq 894 (by decide) (by omega)))]
  rw [(show own_f2_92 q = own_f2_108 q from if_pos (own_lt 8192 (by decide) (by omega)))]
  rw [(show own_f2_108 q = own_f2_124 q from if_pos (own_lt 8206 (by decide) (by omega)))]
  rw [(show own_f2_124 q = own_f2_140 q from if_pos (own_lt 8592 (by decide) (by omega)))]
  rw [(show own_f2_140 q = own_f2_156 q from if_pos (own_lt 12272 (by decide) (by omega)))]
  rw [(show own_f2_156 q = own_f2_170 q from if_pos (own_lt 55296 (by decide) (by omega)))]
  rw [(show own_f2_170 q = own_f2_184 q from if_pos (own_lt 64976 (by decide) (by omega)))]
  rw [(show own_f2_184 q = own_f2_198 q from if_pos (own_lt 65534 (by decide) (by omega)))]
  rfl
theorem own_iv14 (q : Int32) (h1 : 894 ≤ q.toInt) (h2 : q.toInt ≤ 894) : own_f1_0 q = own_f2_0 q := by
  rw [(show own_f1_0 q = own_f1_6 q from if_neg (own_nlt 97 (by decide) (by omega)))]
  rw [(show own_f1_6 q = own_f1_12 q from if_pos (own_gt 122 (by decide) (by omega)))]
  rw [(show own_f1_12 q = own_f1_18 q from if_neg (own_nlt 65 (by decide) (by omega)))]
  rw [(show own_f1_18 q = own_f1_24 q from if_pos (own_gt 90 (by decide) (by omega)))]
  rw [(show own_f1_24 q = own_f1_30 q from if_neg (own_neq 95 (by decide) (by omega)))]
  rw [(show own_f1_30 q = own_f1_37 q from if_neg (own_nlt 192 (by decide) (by omega)))]
  rw [(show own_f1_37 q = own_f1_44 q from if_pos (own_gt 214 (by decide) (by omega)))]
  rw [(show own_f1_44 q = own_f1_51 q from if_neg (own_nlt 216 (by decide) (by omega)))]
  rw [(show own_f1_51 q = own_f1_58 q from if_pos (own_gt 246 (by decide) (by omega)))]
  rw [(show own_f1_58 q = own_f1_65 q from if_neg (own_nlt 248 (by decide) (by omega)))]
  rw [(show own_f1_65 q = own_f1_72 q from if_pos (own_gt 767 (by decide) (by omega)))]
  rw [(show own_f1_72 q = own_f1_79 q from if_neg (own_nlt 880 (by decide) (by omega)))]
  rw [(show own_f1_79 q = own_f1_86 q from if_pos (own_gt 893 (by decide) (by omega)))]
  rw [(show own_f1_86 q = own_f1_100 q from if_pos (own_lt 895 (by decide) (by omega)))]
  rw [(show own_f1_100 q = own_f1_114 q from if_pos (own_lt 8204 (by decide) (by omega)))]
  rw [(show own_f1_114 q = own_f1_128 q from if_pos (own_lt 8304 (by decide) (by omega)))]
  rw [(show own_f1_128 q = own_f1_142 q from if_pos (own_lt 11264 (by decide) (by omega)))]
  rw [(show own_f1_142 q = own_f1_155 q from if_pos (own_lt 12289 (by decide) (by omega)))]
  rw [(show own_f1_155 q = own_f1_167 q from if_pos (own_lt 63744 (by decide) (by omega)))]
  rw [(show own_f1_167 q = own_f1_179 q from if_pos (own_lt 65008 (by decide) (by omega)))]
  rw [(show own_f1_179 q = own_f1_195 q from if_pos (own_lt 65536 (by decide) (by omega)))]
  rw [(show own_f2_0 q = own_f2_6 q from if_neg (own_nlt 65 (by decide) (by omega)))]
  rw [(show own_f2_6 q = own_f2_14 q from if_neg (own_ngt 983039 (by decide) (by omega)))]
  rw [(show own_f2_14 q = own_f2_20 q from if_neg (own_nlt 91 (by decide) (by omega)))]
  rw [(show own_f2_20 q = own_f2_28 q from if_pos (own_gt 94 (by decide) (by omega)))]
  rw [(show own_f2_28 q = own_f2_36 q from if_neg (own_neq 96 (by decide) (by omega)))]
  rw [(show own_f2_36 q = own_f2_42 q from if_neg (own_nlt 123 (by decide) (by omega)))]
  rw [(show own_f2_42 q = own_f2_51 q from if_pos (own_gt 191 (by decide) (by omega)))]
  rw [(show own_f2_51 q = own_f2_58 q from if_neg (own_neq 215 (by decide) (by omega)))]
  rw [(show own_f2_58 q = own_f2_67 q from if_neg (own_neq 247 (by decide) (by omega)))]
  rw [(show own_f2_67 q = own_f2_74 q from if_neg (own_nlt 768 (by decide) (by omega)))]
  rw [(show own_f2_74 q = own_f2_83 q from if_pos (own_gt 879 (by decide) (by omega)))]
  rw [(show own_f2_83 q = own_f2_90 q from if_pos (own_eq 894 (by decide) (by omega)))]
  rfl
theorem own_iv15 (q : Int32) (h1 : 895 ≤ q.toInt) (h2 : q.toInt ≤ 8191) : own_f1_0 q = own_f2_0 q := by
  rw [(show own_f1_0 q = own_f1_6 q from if_neg (own_nlt 97 (by decide) (by omega)))]
  rw [(show own_f1_6 q = own_f1_12 q from if_pos (own_gt 122 (by decide) (by omega)))]
  rw [(show own_f1_12 q = own_f1_18 q from if_neg (own_nlt 65 (by decide) (by omega)))]
  rw [(show own_f1_18 q = own_f1_24 q from if_pos (own_gt 90 (by decide) (by omega)))]
  rw [(show own_f1_24 q = own_f1_30 q from if_neg (own_neq 95 (by decide) (by omega)))]
  rw [(show own_f1_30 q = own_f1_37 q from if_neg (own_nlt 192 (by decide) (by omega)))]
  rw [(show own_f1_37 q = own_f1_44 q from if_pos (own_gt 214 (by decide) (by omega)))]
  rw [(show own_f1_44 q = own_f1_51 q from if_neg (own_nlt 216 (by decide) (by omega)))]
  rw [(show own_f1_51 q = own_f1_58 q from if_pos (own_gt 246 (by decide) (by omega)))]
  rw [(show own_f1_58 q = own_f1_65 q from if_neg (own_nlt 248 (by decide) (by omega)))]
  rw [(show own_f1_65 q = own_f1_72 q from if_pos (own_gt 767 (by decide) (by omega)))]
  rw [(show own_f1_72 q = own_f1_79 q from if_neg (own_nlt 880 (by decide) (by omega)))]
  rw [(show own_f1_79 q = own_f1_86 q from if_pos (own_gt 893 (by decide) (by omega)))]
  rw [(show own_f1_86 q = own_f1_93 q from if_neg (own_nlt 895 (by decide) (by omega)))]
  rw [(show own_f1_93 q = own_f1_191 q from if_neg (own_ngt 8191 (by decide) (by omega)))]
  rw [(show own_f2_0 q = own_f2_6 q from if_neg (own_nlt 65 (by decide) (by omega)))]
  rw [(show own_f2_6 q = own_f2_14 q from if_neg (own_ngt 983039 (by decide) (by omega)))]
  rw [(show own_f2_14 q = own_f2_20 q from if_neg (own_nlt 91 (by decide) (by omega)))]
  rw [(show own_f2_20 q = own_f2_28 q from if_pos (own_gt 94 (by decide) (by omega)))]
  rw [(show own_f2_28 q = own_f2_36 q from if_neg (own_neq 96 (by decide) (by omega)))]
  rw [(show own_f2_36 q = own_f2_42 q from if_neg (own_nlt 123 (by decide) (by omega)))]
  rw [(show own_f2_42 q = own_f2_51 q from if_pos (own_gt 191 (by decide) (by omega)))]
  rw [(show own_f2_51 q = own_f2_58 q from if_neg (own_neq 215 (by decide) (by omega)))]
  rw [(show own_f2_58 q = own_f2_67 q from if_neg (own_neq 247 (by decide) (by omega)))]
  rw [(show own_f2_67 q = own_f2_74 q from if_neg (own_nlt 768 (by decide) (by omega)))]
  rw [(show own_f2_74 q = own_f2_83 q from if_pos (own_gt 879 (by decide) (by omega)))]
  rw [(show own_f2_83 q = own_f2_92 q from if_neg (own_neq 894 (by decide) (by omega)))]
  rw [(show own_f2_92 q = own_f2_108 q from if_pos (own_lt 8192 (by decide) (by omega)))]
  rw [(show own_f2_108 q = own_f2_124 q from if_pos (own_lt 8206 (by decide) (by omega)))]
  rw [(show own_f2_124 q = own_f2_140 q from if_pos (own_lt 8592 (by decide) (by omega)))]
  rw [(show own_f2_140 q = own_f2_156 q from if_pos (own_lt 12272 (by decide) (by omega)))]
  rw [(show own_f2_156 q = own_f2_170 q from if_pos (own_lt 55296 (by decide) (by omega)))]
  rw [(show own_f2_170 q = own_f2_184 q from if_pos (own_lt 64976 (by decide) (by omega)))]
  rw [(show own_f2_184 q = own_f2_198 q from if_pos (own_lt 65534 (by decide) (by omega)))]
  rfl
theorem own_iv16 (q : Int32) (h1 : 8192 ≤ q.toInt) (h2 : q.toInt ≤ 8203) : own_f1_0 q = own_f2_0 q := by
  rw [(show own_f1_0 q = own_f1_6 q from if_neg (own_nlt 97 (by decide) (by omega)))]
  rw [(show own_f1_6 q = own_f1_12 q from if_pos (own_gt 122 (by decide) (by omega)))]
  rw [(show own_f1_12 q = own_f1_18 q from if_neg (own_nlt 65 (by decide) (by omega)))]
  rw [(show own_f1_18 q = own_f1_24 q from if_pos (own_gt 90 (by decide) (by omega)))]
  rw [(show own_f1_24 q = own_f1_30 q from if_neg (own_neq 95 (by decide) (by omega)))]
  rw [(show own_f1_30 q = own_f1_37 q from if_neg (own_nlt 192 (by decide) (by omega)))]
  rw [(show own_f1_37 q = own_f1_44 q from if_pos (own_gt 214 (by decide) (by omega)))]
  rw [(show own_f1_44 q = own_f1_51 q from if_neg (own_nlt 216 (by decide) (by omega)))]
  rw [(show own_f1_51 q = own_f1_58 q from if_pos (own_gt 246 (by decide) (by omega)))]
  rw [(show own_f1_58 q = own_f1_65 q from if_neg (own_nlt 248 (by decide) (by omega)))]
  rw [(show own_f1_65 q = own_f1_72 q from if_pos (own_gt 767 (by decide) (by omega)))]
  rw [(show own_f1_72 q = own_f1_79 q from if_neg (own_nlt 880 (by decide) (by omega)))]
  rw [(show own_f1_79 q = own_f1_86 q from if_pos (own_gt 893 (by decide) (by omega)))]
  rw [(show own_f1_86 q = own_f1_93 q from if_neg (own_nlt 895 (by decide) (by omega)))]
  rw [(show own_f1_93 q = own_f1_100 q from if_pos (own_gt 8191 (by decide) (by omega)))]
  rw [(show own_f1_100 q = own_f1_114 q from if_pos (own_lt 8204 (by decide) (by omega)))]
  rw [(show own_f1_114 q = own_f1_128 q from if_pos (own_lt 8304 (by decide) (by omega)))]
  rw [(show own_f1_128 q = own_f1_142 q from if_pos (own_lt 11264 (by decide) (by omega)))]
  rw [(show own_f1_142 q = own_f1_155 q from if_pos (own_lt 12289 (by decide) (by omega)))]
  rw [(show own_f1_155 q = own_f1_167 q from if_pos (own_lt 63744 (by decide) (by omega)))]
  rw [(show own_f1_167 q = own_f1_179 q from if_pos (own_lt 65008 (by decide) (by omega)))]
  rw [(show own_f1_179 q = own_f1_195 q from if_pos (own_lt 65536 (by decide) (by omega)))]
  rw [(show own_f2_0 q = own_f2_6 q from if_neg (own_nlt 65 (by decide) (by omega)))]
  rw [(show own_f2_6 q = own_f2_14 q from if_neg (own_ngt 983039 (by decide) (by omega)))]
  rw [(show own_f2_14 q = own_f2_20 q from if_neg (own_nlt 91 (by decide) (by omega)))]
  rw [(show own_f2_20 q = own_f2_28 q from if_pos (own_gt 94 (by decide) (by omega)))]
  rw [(show own_f2_28 q = own_f2_36 q from if_neg (own_neq 96 (by decide) (by omega)))]
  rw [(show own_f2_36 q = own_f2_42 q from if_neg (own_nlt 123 (by decide) (by omega)))]
  rw [(show own_f2_42 q = own_f2_51 q from if_pos (own_gt 191 (by decide) (by omega)))]
  rw [(show own_f2_51 q = own_f2_58 q from if_neg (own_neq 215 (by decide) (by omega)))]
  rw [(show own_f2_58 q = own_f2_67 q from if_neg (own_neq 247 (by decide) (by omega)))]
  rw [(show own_f2_67 q = own_f2_74 q from if_neg (own_nlt 768 (by decide) (by omega)))]
  rw [(show own_f2_74 q = own_f2_83 q from if_pos (own_gt 879 (by decide) (by omega)))]
  rw [(show own_f2_83 q = own_f2_92 q from if_neg (own_neq 894 (by decide) (by omega)))]
  rw [(show own_f2_92 q = own_f2_99 q from if_neg (own_nlt 8192 (by decide) (by omega)))]
  rw [(show own_f2_99 q = own_f2_106 q from if_neg (own_ngt 8203 (by decide) (by omega)))]
  rfl
theorem own_iv17 (q : Int32) (h1 : 8204 ≤ q.toInt) (h2 : q.toInt ≤ 8205) : own_f1_0 q = own_f2_0 q := by
  rw [(show own_f1_0 q = own_f1_6 q from if_neg (own_nlt 97 (by decide) (by omega)))]
  rw [(show own_f1_6 q = own_f1_12 q from if_pos (own_gt 122 (by decide) (by omega)))]
  rw [(show own_f1_12 q = own_f1_18 q from if_neg (own_nlt 65 (by decide) (by omega)))]
  rw [(show own_f1_18 q = own_f1_24 q from if_pos (own_gt 90 (by decide) (by omega)))]
  rw [(show own_f1_24 q = own_f1_30 q from if_neg (own_neq 95 (by decide) (by omega)))]
  rw [(show own_f1_30 q = own_f1_37 q from if_neg (own_nlt 192 (by decide) (by omega)))]
  rw [(show own_f1_37 q = own_f1_44 q from if_pos (own_gt 214 (by decide) (by omega)))]
  rw [(show own_f1_44 q = own_f1_51 q from if_neg (own_nlt 216 (by decide) (by omega)))]
  rw [(show own_f1_51 q = own_f1_58 q from if_pos (own_gt 246 (by decide) (by omega)))]
  rw [(show own_f1_58 q = own_f1_65 q from if_neg (own_nlt 248 (by decide) (by omega)))]
  rw [(show own_f1_65 q = own_f1_72 q from if_pos (own_gt 767 (by decide) (by omega)))]
  rw [(show own_f1_72 q = own_f1_79 q from if_neg (own_nlt 880 (by decide) (by omega)))]
  rw [(show own_f1_79 q = own_f1_86 q from if_pos (own_gt 893 (by decide) (by omega)))]
  rw [(show own_f1_86 q = own_f1_93 q from if_neg (own_nlt 895 (by decide) (by omega)))]
  rw [(show own_f1_93 q = own_f1_100 q from if_pos (own_gt 8191 (by decide) (by omega)))]
  rw [(show own_f1_100 q = own_f1_107 q from if_neg (own_nlt 8204 (by decide) (by omega)))]
  rw [(show own_f1_107 q = own_f1_191 q from if_neg (own_ngt 8205 (by decide) (by omega)))]
  rw [(show own_f2_0 q = own_f2_6 q from if_neg (own_nlt 65 (by decide) (by omega)))]
  rw [(show own_f2_6 q = own_f2_14 q from if_neg (own_ngt 983039 (by decide) (by omega)))]
  rw [(show own_f2_14 q = own_f2_20 q from if_neg (own_nlt 91 (by decide) (by omega)))]
  rw [(show own_f2_20 q = own_f2_28 q from if_pos (own_gt 94 (by decide) (by omega)))]
  rw [(show own_f2_28 q = own_f2_36 q from if_neg (own_neq 96 (by decide) (by omega)))]
  rw [(show own_f2_36 q = own_f2_42 q from if_neg (own_nlt 123 (by decide) (by omega)))]
  rw [(show own_f2_42 q = own_f2_51 q from if_pos (own_gt 191 (by decide) (by omega)))]
  rw [(show own_f2_51 q = own_f2_58 q from if_neg (own_neq 215 (by decide) (by omega)))]
  rw [(show own_f2_58 q = own_f2_67 q from if_neg (own_neq 247 (by decide) (by omega)))]
  rw [(show own_f2_67 q = own_f2_74 q from if_neg (own_nlt 768 (by decide) (by omega)))]
  rw [(show own_f2_74 q = own_f2_83 q from if_pos (own_gt 879 (by decide) (by omega)))]
  rw [(show own_f2_83 q = own_f2_92 q from if_neg (own_neq 894 (by decide) (by omega)))]
  rw [(show own_f2_92 q = own_f2_99 q from if_neg (own_nlt 8192 (by decide) (by omega)))]
  rw [(show own_f2_99 q = own_f2_108 q from if_pos (own_gt 8203 (by decide) (by omega)))]
  rw [(show own_f2_108 q = own_f2_124 q from if_pos (own_lt 8206 (by decide) (by omega)))]
  rw [(show own_f2_124 q = own_f2_140 q from if_pos (own_lt 8592 (by decide) (by omega)))]
  rw [(show own_f2_140 q = own_f2_156 q from if_pos (own_lt 12272 (by decide) (by omega)))]
  rw [(show own_f2_156 q = own_f2_170 q from if_pos (own_lt 55296 (by decide) (by omega)))]
  rw [(show own_f2_170 q = own_f2_184 q from if_pos (own_lt 64976 (by decide) (by omega)))]
  rw [(show own_f2_184 q = own_f2_198 q from if_pos (own_lt 65534 (by decide) (by omega)))]
  rfl
theorem own_iv18 (q : Int32) (h1 : 8206 ≤ q.toInt) (h2 : q.toInt ≤ 8303) : own_f1_0 q = own_f2_0 q := by
  rw [(show own_f1_0 q = own_f1_6 q from if_neg (own_nlt 97 (by decide) (by omega)))]
  rw [(show own_f1_6 q = own_f1_12 q from if_pos (own_gt 122 (by decide) (by omega)))]
  rw [(show own_f1_12 q = own_f1_18 q from if_neg (own_nlt 65 (by decide) (by omega)))]
  rw [(show own_f1_18 q = own_f1_24 q from if_pos (own_gt 90 (by decide) (by omega)))]
  rw [(show own_f1_24 q = own_f1_30 q from if_neg (own_neq 95 (by decide) (by omega)))]
  rw [(show own_f1_30 q = own_f1_37 q from if_neg (own_nlt 192 (by decide) (by omega)))]
  rw [(show own_f1_37 q = own_f1_44 q from if_pos (own_gt 214 (by decide) (by omega)))]
  rw [(show own_f1_44 q = own_f1_51 q from if_neg (own_nlt 216 (by decide) (by omega)))]
  rw [(show own_f1_51 q = own_f1_58 q from if_pos (own_gt 246 (by decide) (by omega)))]
  rw [(show own_f1_58 q = own_f1_65 q from if_neg (own_nlt 248 (by decide) (by omega)))]
  rw [(show own_f1_65 q = own_f1_72 q from if_pos (own_gt 767 (by decide) (by omega)))]
  rw [(show own_f1_72 q = own_f1_79 q from if_neg (own_nlt 880 (by decide) (by omega)))]
  rw [(show own_f1_79 q = own_f1_86 q from if_pos (own_gt 893 (by decide) (by omega)))]
  rw [(show own_f1_86 q = own_f1_93 q from if_neg (own_nlt 895 (by decide) (by omega)))]
  rw [(show own_f1_93 q = own_f1_100 q from if_pos (own_gt 8191 (by decide) (by omega)))]
  rw [(show own_f1_100 q = own_f1_107 q from if_neg (own_nlt 8204 (by decide) (by omega)))]
  rw [(show own_f1_107 q = own_f1_114 q from if_pos (own_gt 8205 (by decide) (by omega)))]
  rw [(show own_f1_114 q = own_f1_128 q from if_pos (own_lt 8304 (by decide) (by omega)))]
  rw [(show own_f1_128 q = own_f1_142 q from if_pos (own_lt 11264 (by decide) (by omega)))]
  rw [(show own_f1_142 q = own_f1_155 q from if_pos (own_lt 12289 (by decide) (by omega)))]
  rw [(show own_f1_155 q = own_f1_167 q from if_pos (own_lt 63744 (by decide) (by omega)))]
  rw [(show own_f1_167 q = own_f1_179 q from if_pos (own_lt 65008 (by decide) (by omega)))]
  rw [(show own_f1_179 q = own_f1_195 q from if_pos (own_lt 65536 (by decide) (by omega)))]
  rw [(show own_f2_0 q = own_f2_6 q from if_neg (own_nlt 65 (by decide) (by omega)))]
  rw [(show own_f2_6 q = own_f2_14 q from if_neg (own_ngt 983039 (by decide) (by omega)))]
  rw [(show own_f2_14 q = own_f2_20 q from if_neg (own_nlt 91 (by decide) (by omega)))]
  rw [(show own_f2_20 q = own_f2_28 q from if_pos (own_gt 94 (by decide) (by omega)))]
  rw [(show own_f2_28 q = own_f2_36 q from if_neg (own_neq 96 (by decide) (by omega)))]
  rw [(show own_f2_36 q = own_f2_42 q from if_neg (own_nlt 123 (by decide) (by omega)))]
  rw [(show own_f2_42 q = own_f2_51 q from if_pos (own_gt 191 (by decide) (by omega)))]
  rw [(show own_f2_51 q = own_f2_58 q from if_neg (own_neq 215 (by decide) (by omega)))]
  rw [(show own_f2_58 q = own_f2_67 q from if_neg (own_neq 247 (by decide) (by omega)))]
  rw [(show own_f2_67 q = own_f2_74 q from if_neg (own_nlt 768 (by decide) (by omega)))]
  rw [(show own_f2_74 q = own_f2_83 q from if_pos (own_gt 879 (by decide) (by omega)))]
  rw [(show own_f2_83 q = own_f2_92 q from if_neg (own_neq 894 (by decide) (by omega)))]
  rw [(show own_f2_92 q = own_f2_99 q from if_neg (own_nlt 8192 (by decide) (by omega)))]
  rw [(show own_f2_99 q = own_f2_108 q from if_pos (own_gt 8203 (by decide) (by omega)))]
  rw [(show own_f2_108 q = own_f2_115 q from if_neg (own_nlt 8206 (by decide) (by omega)))]
  rw [(show own_f2_115 q = own_f2_122 q from if_neg (own_ngt 8303 (by decide) (by omega)))]
  rfl
theorem own_iv19 (q : Int32) (h1 : 8304 ≤ q.toInt) (h2 : q.toInt ≤ 8591) : own_f1_0 q = own_f2_0 q := by
  rw [(show own_f1_0 q = own_f1_6 q from if_neg (own_nlt 97 (by decide) (by omega)))]
  rw [(show own_f1_6 q = own_f1_12 q from if_pos (own_gt 122 (by decide) (by omega)))]
  rw [(show own_f1_12 q = own_f1_18 q from if_neg (own_nlt 65 (by decide) (by omega)))]
  rw [(show own_f1_18 q = own_f1_24 q from if_pos (own_gt 90 (by decide) (by omega)))]
  rw [(show own_f1_24 q = own_f1_30 q from if_neg (own_neq 95 (by decide) (by omega)))]
  rw [(show own_f1_30 q = own_f1_37 q from if_neg (own_nlt 192 (by decide) (by omega)))]
  rw [(show own_f1_37 q = own_f1_44 q from if_pos (own_gt 214 (by decide) (by omega)))]
  rw [(show own_f1_44 q = own_f1_51 q from if_neg (own_nlt 216 (by decide) (by omega)))]
  rw [(show own_f1_51 q = own_f1_58 q from if_pos (own_gt 246 (by decide) (by omega)))]
  rw [(show own_f1_58 q = own_f1_65 q from if_neg (own_nlt 248 (by decide) (by omega)))]
  rw [(show own_f1_65 q = own_f1_72 q from if_pos (own_gt 767 (by decide) (by omega)))]
  rw [(show own_f1_72 q = own_f1_79 q from if_neg (own_nlt 880 (by decide) (by omega)))]
  rw [(show own_f1_79 q = own_f1_86 q from if_pos (own_gt 893 (by decide) (by omega)))]
  rw [(show own_f1_86 q = own_f1_93 q from if_neg (own_nlt 895 (by decide) (by omega)))]
  rw [(show own_f1_93 q = own_f1_100 q from if_pos (own_gt 8191 (by decide) (by omega)))]
  rw [(show own_f1_100 q = own_f1_107 q from if_neg (own_nlt 8204 (by decide) (by omega)))]
  rw [(show own_f1_107 q = own_f1_114 q from if_pos (own_gt 8205 (by decide) (by omega)))]
  rw [(show own_f1_114 q = own_f1_121 q from if_neg (own_nlt 8304 (by decide) (by omega)))]
  rw [(show own_f1_121 q = own_f1_191 q from if_neg (own_ngt 8591 (by decide) (by omega)))]
  rw [(show own_f2_0 q = own_f2_6 q from if_neg (own_nlt 65 (by decide) (by omega)))]
  rw [(show own_f2_6 q = own_f2_14 q from if_neg (own_ngt 983039 (by decide) (by omega)))]
  rw [(show own_f2_14 q = own_f2_20 q from if_neg (own_nlt 91 (by decide) (by omega)))]
  rw [(show own_f2_20 q = own_f2_28 q from if_pos (own_gt 94 (by decide) (by omega)))]
  rw [(show own_f2_28 q = own_f2_36 q from if_neg (own_neq 96 (by decide) (by omega)))]
  rw [(show own_f2_36 q = own_f2_42 q from if_neg (own_nlt 123 (by decide) (by omega)))]
  rw [(show own_f2_42 q = own_f2_51 q from if_pos (own_gt 191 (by decide) (by omega)))]
  rw [(show own_f2_51 q = own_f2_58 q from if_neg (own_neq 215 (by decide) (by omega)))]
  rw [(show own_f2_58 q = own_f2_67 q from if_neg (own_neq 247 (by decide) (by omega)))]
  rw [(show own_f2_67 q = own_f2_74 q from if_neg (own_nlt 768 (by decide) (by omega)))]
  rw [(show own_f2_74 q = own_f2_83 q from if_pos (own_gt 879 (by decide) (by omega)))]
  rw [(show own_f2_83 q = own_f2_92 q from if_neg (own_neq 894 (by decide) (by omega)))]
  rw [(show own_f2_92 q = own_f2_99 q from if_neg (own_nlt 8192 (by decide) (by omega)))]
  rw [(show own_f2_99 q = own_f2_108 q from if_pos (own_gt 8203 (by decide) (by omega)))]
  rw [(show own_f2_108 q = own_f2_115 q from if_neg (own_nlt 8206 (by decide) (by omega)))]
  rw [(show own_f2_115 q = own_f2_124 q from if_pos (own_gt 8303 (by decide) (by omega)))]
  rw [(show own_f2_124 q = own_f2_140 q from if_pos (own_lt 8592 (by decide) (by omega)))]
  rw [(show own_f2_140 q = own_f2_156 q from if_pos (own_lt 12272 (by decide) (by omega)))]
  rw [(show own_f2_156 q = own_f2_170 q from if_pos (own_lt 55296 (by decide) (by omega)))]
  rw [(show own_f2_170 q = own_f2_184 q from if_pos (own_lt 64976 (by decide) (by omega)))]
  rw [(show own_f2_184 q = own_f2_198 q from if_pos (own_lt 65534 (by decide) (by omega)))]
  rfl
theorem own_iv20 (q : Int32) (h1 : 8592 ≤ q.toInt) (h2 : q.toInt ≤ 11263) : own_f1_0 q = own_f2_0 q := by
  rw [(show own_f1_0 q = own_f1_6 q from if_neg (own_nlt 97 (by decide) (by omega)))]
  rw [(show own_f1_6 q = own_f1_12 q from if_pos (own_gt 122 (by decide) (by omega)))]
  rw [(show own_f1_12 q = own_f1_18 q from if_neg (own_nlt 65 (by decide) (by omega)))]
  rw [(show own_f1_18 q = own_f1_24 q from if_pos (own_gt 90 (by decide) (by omega)))]
  rw [(show own_f1_24 q = own_f1_30 q from if_neg (own_neq 95 (by decide) (by omega)))]
  rw [(show own_f1_30 q = own_f1_37 q from if_neg (own_nlt 192 (by decide) (by omega)))]
  rw [(show own_f1_37 q = own_f1_44 q from if_pos (own_gt 214 (by decide) (by omega)))]
  rw [(show own_f1_44 q = own_f1_51 q from if_neg (own_nlt 216 (by decide) (by omega)))]
  rw [(show own_f1_51 q = own_f1_58 q from if_pos (own_gt 246 (by decide) (by omega)))]
  rw [(show own_f1_58 q = own_f1_65 q from if_neg (own_nlt 248 (by decide) (by omega)))]
  rw [(show own_f1_65 q = own_f1_72 q from if_pos (own_gt 767 (by decide) (by omega)))]
  rw [(show own_f1_72 q = own_f1_79 q from if_neg (own_nlt 880 (by decide) (by omega)))]
  rw [(show own_f1_79 q = own_f1_86 q from if_pos (own_gt 893 (by decide) (by omega)))]
  rw [(show own_f1_86 q = own_f1_93 q from if_neg (own_nlt 895 (by decide) (by omega)))]
  rw [(show own_f1_93 q = own_f1_100 q from if_pos (own_gt 8191 (by decide) (by omega)))]
  rw [(show own_f1_100 q = own_f1_107 q from if_neg (own_nlt 8204 (by decide) (by omega)))]
  rw [(show own_f1_107 q = own_f1_114 q from if_pos (own_gt 8205 (by decide) (by omega)))]
  rw [(show own_f1_114 q = own_f1_121 q from if_neg (own_nlt 8304 (by decide) (by omega)))]
  rw [(show own_f1_121 q = own_f1_128 q from if_pos (own_gt 8591 (by decide) (by omega)))]
  rw [(show own_f1_128 q = own_f1_142 q from if_pos (own_lt 11264 (by decide) (by omega)))]
  rw [(show own_f1_142 q = own_f1_155 q from if_pos (own_lt 12289 (by decide) (by omega)))]
  rw [(show own_f1_155 q = own_f1_167 q from if_pos (own_lt 63744 (by decide) (by omega)))]
  rw [(show own_f1_167 q = own_f1_179 q from if_pos (own_lt 65008 (by decide) (by omega)))]
  rw [(show own_f1_179 q = own_f1_195 q from if_pos (own_lt 65536 (by decide) (by omega)))]
  rw [(show own_f2_0 q = own_f2_6 q from if_neg (own_nlt 65 (by decide) (by omega)))]
  rw [(show own_f2_6 q = own_f2_14 q from if_neg (own_ngt 983039 (by decide) (by omega)))]
  rw [(show own_f2_14 q = own_f2_20 q from if_neg (own_nlt 91 (by decide) (by omega)))]
  rw [(show own_f2_20 q = own_f2_28 q from if_pos (own_gt 94 (by decide) (by omega)))]
  rw [(show own_f2_28 q = own_f2_36 q from if_neg (own_neq 96 (by decide) (by omega)))]
  rw [(show own_f2_36 q = own_f2_42 q from if_neg (own_nlt 123 (by decide) (by omega)))]
  rw [(show own_f2_42 q = own_f2_51 q from if_pos (own_gt 191 (by decide) (by omega)))]
  rw [(show own_f2_51 q = own_f2_58 q from if_neg (own_neq 215 (by decide) (by omega)))]
  rw [(show own_f2_58 q = own_f2_67 q from if_neg (own_neq 247 (by decide) (by omega)))]
  rw [(show own_f2_67 q = own_f2_74 q from if_neg (own_nlt 768 (by decide) (by omega)))]
  rw [(show own_f2_74 q = own_f2_83 q from if_pos (own_gt 879 (by decide) (by omega)))]
  rw [(show own_f2_83 q = own_f2_92 q from if_neg (own_neq 894 (by decide) (by omega)))]
  rw [(show own_f2_92 q = own_f2_99 q from if_neg (own_nlt 8192 (by decide) (by omega)))]
  rw [(show own_f2_99 q = own_f2_108 q from if_pos (own_gt 8203 (by decide) (by omega)))]
  rw [(show own_f2_108 q = own_f2_115 q from if_neg (own_nlt 8206 (by decide) (by omega)))]
  rw [(show own_f2_115 q = own_f2_124 q from if_pos (own_gt 8303 (by decide) (by omega)))]
  rw [(show own_f2_124 q = own_f2_131 q from if_neg (own_nlt 8592 (by decide) (by omega)))]
  rw [(show own_f2_131 q = own_f2_138 q from if_neg (own_ngt 11263 (by decide) (by omega)))]
  rfl
theorem own_iv21 (q : Int32) (h1 : 11264 ≤ q.toInt) (h2 : q.toInt ≤ 12271) : own_f1_0 q = own_f2_0 q := by
  rw [(show own_f1_0 q = own_f1_6 q from if_neg (own_nlt 97 (by decide) (by omega)))]
  rw [(show own_f1_6 q = own_f1_12 q from if_pos (own_gt 122 (by decide) (by omega)))]
  rw [(show own_f1_12 q = own_f1_18 q from if_neg (own_nlt 65 (by decide) (by omega)))]
  rw [(show own_f1_18 q = own_f1_24 q from if_pos (own_gt 90 (by decide) (by omega)))]
  rw [(show own_f1_24 q = own_f1_30 q from if_neg (own_neq 95 (by decide) (by omega)))]
  rw [(show own_f1_30 q = own_f1_37 q from if_neg (own_nlt 192 (by decide) (by omega)))]
  rw [(show own_f1_37 q = own_f1_44 q from if_pos (own_gt 214 (by decide) (by omega)))]
  rw [(show own_f1_44 q = own_f1_51 q from if_neg (own_nlt 216 (by decide) (by omega)))]
  rw [(show own_f1_51 q = own_f1_58 q from if_pos (own_gt 246 (by decide) (by omega)))]
  rw [(show own_f1_58 q = own_f1_65 q from if_neg (own_nlt 248 (by decide) (by omega)))]
  rw [(show own_f1_65 q = own_f1_72 q from if_pos (own_gt 767 (by decide) (by omega)))]
  rw [(show own_f1_72 q = own_f1_79 q from if_neg (own_nlt 880 (by decide) (by omega)))]
  rw [(show own_f1_79 q = own_f1_86 q from if_pos (own_gt 893 (by decide) (by omega)))]
  rw [(show own_f1_86 q = own_f1_93 q from if_neg (own_nlt 895 (by decide) (by omega)))]
  rw [(show own_f1_93 q = own_f1_100 q from if_pos (own_gt 8191 (by decide) (by omega)))]
  rw [(show own_f1_100 q = own_f1_107 q from if_neg (own_nlt 8204 (by decide) (by omega)))]
  rw [(show own_f1_107 q = own_f1_114 q from if_pos (own_gt 8205 (by decide) (by omega)))]
  rw [(show own_f1_114 q = own_f1_121 q from if_neg (own_nlt 8304 (by decide) (by omega)))]
  rw [(show own_f1_121 q = own_f1_128 q from if_pos (own_gt 8591 (by decide) (by omega)))]
  rw [(show own_f1_128 q = own_f1_135 q from if_neg (own_nlt 11264 (by decide) (by omega)))]
  rw [(show own_f1_135 q = own_f1_191 q from if_neg (own_ngt 12271 (by decide) (by omega)))]
  rw [(show own_f2_0 q = own_f2_6 q from if_neg (own_nlt 65 (by decide) (by omega)))]
  rw [(show own_f2_6 q = own_f2_14 q from if_neg (own_ngt 983039 (by decide) (by omega)))]
  rw [(show own_f2_14 q = own_f2_20 q from if_neg (own_nlt 91 (by decide) (by omega)))]
  rw [(show own_f2_20 q = own_f2_28 q from if_pos (own_gt 94 (by decide) (by omega)))]
  rw [(show own_f2_28 q = own_f2_36 q from if_neg (own_neq 96 (by decide) (by omega)))]
  rw [(show own_f2_36 q = own_f2_42 q from if_neg (own_nlt 123 (by decide) (by omega)))]
  rw [(show own_f2_42 q = own_f2_51 q from if_pos (own_gt 191 (by decide) (by omega)))]
  rw [(show own_f2_51 q = own_f2_58 q from if_neg (own_neq 215 (by decide) (by omega)))]
  rw [(show own_f2_58 q = own_f2_67 q from if_neg (own_neq 247 (by decide) (by omega)))]
  rw [(show own_f2_67 q = own_f2_74 q from if_neg (own_nlt 768 (by decide) (by omega)))]
  rw [(show own_f2_74 q = own_f2_83 q from if_pos (own_gt 879 (by decide) (by omega)))]
  rw [(show own_f2_83 q = own_f2_92 q from if_neg (own_neq 894 (by decide) (by omega)))]
  rw [(show own_f2_92 q = own_f2_99 q from if_neg (own_nlt 8192 (by decide) (by omega)))]
  rw [(show own_f2_99 q = own_f2_108 q from if_pos (own_gt 8203 (by decide) (by omega)))]
  rw [(show own_f2_108 q = own_f2_115 q from if_neg (own_nlt 8206 (by decide) (by omega)))]
  rw [(show own_f2_115 q = own_f2_124 q from if_pos (own_gt 8303 (by decide) (by omega)))]
  rw [(show own_f2_124 q = own_f2_131 q from if_neg (own_nlt 8592 (by decide) (by omega)))]
  rw [(show own_f2_131 q = own_f2_140 q from if_pos (own_gt 11263 (by decide) (by omega)))]
  rw [(show own_f2_140 q = own_f2_156 q from if_pos (own_lt 12272 (by decide) (by omega)))]
  rw [(show own_f2_156 q = own_f2_170 q from if_pos (own_lt 55296 (by decide) (by omega)))]
  rw [(show own_f2_170 q = own_f2_184 q from if_pos (own_lt 64976 (by decide) (by omega)))]
  rw [(show own_f2_184 q = own_f2_198 q from if_pos (own_lt 65534 (by decide) (by omega)))]
  rfl
theorem own_iv22 (q : Int32) (h1 : 12272 ≤ q.toInt) (h2 : q.toInt ≤ 12288) : own_f1_0 q = own_f2_0 q := by
  rw [(show own_f1_0 q = own_f1_6 q from if_neg (own_nlt 97 (by decide) (by omega)))]
  rw [(show own_f1_6 q = own_f1_12 q from if_pos (own_gt 122 (by decide) (by omega)))]
  rw [(show own_f1_12 q = own_f1_18 q from if_neg (own_nlt 65 (by decide) (by omega)))]
  rw [(show own_f1_18 q = own_f1_24 q from if_pos (own_gt 90 (by decide) (by omega)))]
  rw [(show own_f1_24 q = own_f1_30 q from if_neg (own_neq 95 (by decide) (by omega)))]
  rw [(show own_f1_30 q = own_f1_37 q from if_neg (own_nlt 192 (by decide) (by omega)))]
  rw [(show own_f1_37 q = own_f1_44 q from if_pos (own_gt 214 (by decide) (by omega)))]
  rw [(show own_f1_44 q = own_f1_51 q from if_neg (own_nlt 216 (by decide) (by omega)))]
  rw [(show own_f1_51 q = own_f1_58 q from if_pos (own_gt 246 (by decide) (by omega)))]
  rw [(show own_f1_58 q = own_f1_65 q from if_neg (own_nlt 248 (by decide) (by omega)))]
  rw [(show own_f1_65 q = own_f1_72 q from if_pos (own_gt 767 (by decide) (by omega)))]
  rw [(show own_f1_72 q = own_f1_79 q from if_neg (own_nlt 880 (by decide) (by omega)))]
  rw [(show own_f1_79 q = own_f1_86 q from if_pos (own_gt 893 (by decide) (by omega)))]
  rw [(show own_f1_86 q = own_f1_93 q from if_neg (own_nlt 895 (by decide) (by omega)))]
  rw [(show own_f1_93 q = own_f1_100 q from if_pos (own_gt 8191 (by decide) (by omega)))]
  rw [(show own_f1_100 q = own_f1_107 q from if_neg (own_nlt 8204 (by decide) (by omega)))]
  rw [(show own_f1_107 q = own_f1_114 q from if_pos (own_gt 8205 (by decide) (by omega)))]
  rw [(show own_f1_114 q = own_f1_121 q from if_neg (own_nlt 8304 (by decide) (by omega)))]
  rw [(show own_f1_121 q = own_f1_128 q from if_pos (own_gt 8591 (by decide) (by omega)))]
  rw [(show own_f1_128 q = own_f1_135 q from if_neg (own_nlt 11264 (by decide) (by omega)))]
  rw [(show own_f1_135 q = own_f1_142 q from if_pos (own_gt 12271 (by decide) (by omega)))]
  rw [(show own_f1_142 q = own_f1_155 q from if_pos (own_lt 12289 (by decide) (by omega)))]
  rw [(show own_f1_155 q = own_f1_167 q from if_pos (own_lt 63744 (by decide) (by omega)))]
  rw [(show own_f1_167 q = own_f1_179 q from if_pos (own_lt 65008 (by decide) (by omega)))]
  rw [(show own_f1_179 q = own_f1_195 q from if_pos (own_lt 65536 (by decide) (by omega)))]
  rw [(show own_f2_0 q = own_f2_6 q from if_neg (own_nlt 65 (by decide) (by omega)))]
  rw [(show own_f2_6 q = own_f2_14 q from if_neg (own_ngt 983039 (by decide) (by omega)))]
  rw [(show own_f2_14 q = own_f2_20 q from if_neg (own_nlt 91 (by decide) (by omega)))]
  rw [(show own_f2_20 q = own_f2_28 q from if_pos (own_gt 94 (by decide) (by omega)))]
  rw [(show own_f2_28 q = own_f2_36 q from if_neg (own_neq 96 (by decide) (by omega)))]
  rw [(show own_f2_36 q = own_f2_42 q from if_neg (own_nlt 123 (by decide) (by omega)))]
  rw [(show own_f2_42 q = own_f2_51 q from if_pos (own_gt 191 (by decide) (by omega)))]
  rw [(show own_f2_51 q = own_f2_58 q from if_neg (own_neq 215 (by decide) (by omega)))]
  rw [(show own_f2_58 q = own_f2_67 q from if_neg (own_neq 247 (by decide) (by omega)))]
  rw [(show own_f2_67 q = own_f2_74 q from if_neg (own_nlt 768 (by decide) (by omega)))]
  rw [(show own_f2_74 q = own_f2_83 q from if_pos (own_gt 879 (by decide) (by omega)))]
  rw [(show own_f2_83 q = own_f2_92 q from if_neg (own_neq 894 (by decide) (by omega)))]
  rw [(show own_f2_92 q = own_f2_99 q from if_neg (own_nlt 8192 (by decide) (by omega)))]
  rw [(show own_f2_99 q = own_f2_108 q from if_pos (own_gt 8203 (by decide) (by omega)))]
  rw [(show own_f2_108 q = own_f2_115 q from if_neg (own_nlt 8206 (by decide) (by omega)))]
  rw [(show own_f2_115 q = own_f2_124 q from if_pos (own_gt 8303 (by decide) (by omega)))]
  rw [(show own_f2_124 q = own_f2_131 q from if_neg (own_nlt 8592 (by decide) (by omega)))]
  rw [(show own_f2_131 q = own_f2_140 q from if_pos (own_gt 11263 (by decide) (by omega)))]
  rw [(show own_f2_140 q = own_f2_147 q from if_neg (own_nlt 12272 (by decide) (by omega)))]
  rw [(show own_f2_147 q = own_f2_154 q from if_neg (own_ngt 12288 (by decide) (by omega)))]
  rfl
theorem own_iv23 (q : Int32) (h1 : 12289 ≤ q.toInt) (h2 : q.toInt ≤ 55295) : own_f1_0 q = own_f2_0 q := by
  rw [(show own_f1_0 q = own_f1_6 q from if_neg (own_nlt 97 (by decide) (by omega)))]
  rw [(show own_f1_6 q = own_f1_12 q from if_pos (own_gt 122 (by decide) (by omega)))]
  rw [(show own_f1_12 q = own_f1_18 q from if_neg (own_nlt 65 (by decide) (by omega)))]
  rw [(show own_f1_18 q = own_f1_24 q from if_pos (own_gt 90 (by decide) (by omega)))]
  rw [(show own_f1_24 q = own_f1_30 q from if_neg (own_neq 95 (by decide) (by omega)))]
  rw [(show own_f1_30 q = own_f1_37 q from if_neg (own_nlt 192 (by decide) (by omega)))]
  rw [(show own_f1_37 q = own_f1_44 q from if_pos (own_gt 214 (by decide) (by omega)))]
  rw [(show own_f1_44 q = own_f1_51 q from if_neg (own_nlt 216 (by decide) (by omega)))]
  rw [(show own_f1_51 q = own_f1_58 q from if_pos (own_gt 246 (by decide) (by omega)))]
  rw [(show own_f1_58 q = own_f1_65 q from if_neg (own_nlt 248 (by decide) (by omega)))]
  rw [(show own_f1_65 q = own_f1_72 q from if_pos (own_gt 767 (by decide) (by omega)))]
  rw [(show own_f1_72 q = own_f1_79 q from if_neg (own_nlt 880 (by decide) (by omega)))]
  rw [(show own_f1_79 q = own_f1_86 q from if_pos (own_gt 893 (by decide) (by omega)))]
  rw [(show own_f1_86 q = own_f1_93 q from if_neg (own_nlt 895 (by decide) (by omega)))]
  rw [(show own_f1_93 q = own_f1_100 q from if_pos (own_gt 8191 (by decide) (by omega)))]
  rw [(show own_f1_100 q = own_f1_107 q from if_neg (own_nlt 8204 (by decide) (by omega)))]
  rw [(show own_f1_107 q = own_f1_114 q from if_pos (own_gt 8205 (by decide) (by omega)))]
  rw [(show own_f1_114 q = own_f1_121 q from if_neg (own_nlt 8304 (by decide) (by omega)))]
  rw [(show own_f1_121 q = own_f1_128 q from if_pos (own_gt 8591 (by decide) (by omega)))]
  rw [(show own_f1_128 q = own_f1_135 q from if_neg (own_nlt 11264 (by decide) (by omega)))]
  rw [(show own_f1_135 q = own_f1_142 q from if_pos (own_gt 12271 (by decide) (by omega)))]
  rw [(show own_f1_142 q = own_f1_149 q from if_neg (own_nlt 12289 (by decide) (by omega)))]
  rw [(show own_f1_149 q = own_f1_191 q from if_neg (own_ngt 55295 (by decide) (by omega)))]
  rw [(show own_f2_0 q = own_f2_6 q from if_neg (own_nlt 65 (by decide) (by omega)))]
  rw [(show own_f2_6 q = own_f2_14 q from if_neg (own_ngt 983039 (by decide) (by omega)))]
  rw [(show own_f2_14 q = own_f2_20 q from if_neg (own_nlt 91 (by decide) (by omega)))]
  rw [(show own_f2_20 q = own_f2_28 q from if_pos (own_gt 94 (by decide) (by omega)))]
  rw [(show own_f2_28 q = own_f2_36 q from if_neg (own_neq 96 (by decide) (by omega)))]
  rw [(show own_f2_36 q = own_f2_42 q from if_neg (own_nlt 123 (by decide) (by omega)))]
  rw [(show own_f2_42 q = own_f2_51 q from if_pos (own_gt 191 (by decide) (by omega)))]
  rw [(show own_f2_51 q = own_f2_58 q from if_neg (own_neq 215 (by decide) (by omega)))]
  rw [(show own_f2_58 q = own_f2_67 q from if_neg (own_neq 247 (by decide) (by omega)))]
  rw [(show own_f2_67 q = own_f2_74 q from if_neg (own_nlt 768 (by decide) (by omega)))]
  rw [(show own_f2_74 q = own_f2_83 q from if_pos (own_gt 879 (by decide) (by omega)))]
  rw [(show own_f2_83 q = own_f2_92 q from if_neg (own_neq 894 (by decide) (by omega)))]
  rw [(show own_f2_92 q = own_f2_99 q from if_neg (own_nlt 8192 (by decide) (by omega)))]
  rw [(show own_f2_99 q = own_f2_108 q from if_pos (own_gt 8203 (by decide) (by omega)))]
  rw [(show own_f2_108 q = own_f2_115 q from if_neg (own_nlt 8206 (by decide) (by omega)))]
  rw [(show own_f2_115 q = own_f2_124 q from if_pos (own_gt 8303 (by decide) (by omega)))]
  rw [(show own_f2_124 q = own_f2_131 q from if_neg (own_nlt 8592 (by decide) (by omega)))]
  rw [(show own_f2_131 q = own_f2_140 q from if_pos (own_gt 11263 (by decide) (by omega)))]
  rw [(show own_f2_140 q = own_f2_147 q from if_neg (own_nlt 12272 (by decide) (by omega)))]
  rw [(show own_f2_147 q = own_f2_156 q from if_pos (own_gt 12288 (by decide) (by omega)))]
  rw [(show own_f2_156 q = own_f2_170 q from if_pos (own_lt 55296 (by decide) (by omega)))]
  rw [(show own_f2_170 q = own_f2_184 q from if_pos (own_lt 64976 (by decide) (by omega)))]
  rw [(show own_f2_184 q = own_f2_198 q from if_pos (own_lt 65534 (by decide) (by omega)))]
  rfl
theorem own_iv24 (q : Int32) (h1 : 55296 ≤ q.toInt) (h2 : q.toInt ≤ 63743) : own_f1_0 q = own_f2_0 q := by
  rw [(show own_f1_0 q = own_f1_6 q from if_neg (own_nlt 97 (by decide) (by omega)))]
  rw [(show own_f1_6 q = own_f1_12 q from if_pos (own_gt 122 (by decide) (by omega)))]
  rw [(show own_f1_12 q = own_f1_18 q from if_neg (own_nlt 65 (by decide) (by omega)))]
  rw [(show own_f1_18 q = own_f1_24 q from if_pos (own_gt 90 (by decide) (by omega)))]
  rw [(show own_f1_24 q = own_f1_30 q from if_neg (own_neq 95 (by decide) (by omega)))]
  rw [(show own_f1_30 q = own_f1_37 q from if_neg (own_nlt 192 (by decide) (by omega)))]
  rw [(show own_f1_37 q = own_f1_44 q from if_pos (own_gt 214 (by decide) (by omega)))]
  rw [(show own_f1_44 q = own_f1_51 q from if_neg (own_nlt 216 (by decide) (by omega)))]
  rw [(show own_f1_51 q = own_f1_58 q from if_pos (own_gt 246 (by decide) (by omega)))]
  rw [(show own_f1_58 q = own_f1_65 q from if_neg (own_nlt 248 (by decide) (by omega)))]
  rw [(show own_f1_65 q = own_f1_72 q from if_pos (own_gt 767 (by decide) (by omega)))]
  rw [(show own_f1_72 q = own_f1_79 q from if_neg (own_nlt 880 (by decide) (by omega)))]
  rw [(show own_f1_79 q = own_f1_86 q from if_pos (own_gt 893 (by decide) (by omega)))]
  rw [(show own_f1_86 q = own_f1_93 q from if_neg (own_nlt 895 (by decide) (by omega)))]
  rw [(show own_f1_93 q = own_f1_100 q from if_pos (own_gt 8191 (by decide) (by omega)))]
  rw [(show own_f1_100 q = own_f1_107 q from if_neg (own_nlt 8204 (by decide) (by omega)))]
  rw [(show own_f1_107 q = own_f1_114 q from if_pos (own_gt 8205 (by decide) (by omega)))]
  rw [(show own_f1_114 q = own_f1_121 q from if_neg (own_nlt 8304 (by decide) (by omega)))]
  rw [(show own_f1_121 q = own_f1_128 q from if_pos (own_gt 8591 (by decide) (by omega)))]
  rw [(show own_f1_128 q = own_f1_135 q from if_neg (own_nlt 11264 (by decide) (by omega)))]
  rw [(show own_f1_135 q = own_f1_142 q from if_pos (own_gt 12271 (by decide) (by omega)))]
  rw [(show own_f1_142 q = own_f1_149 q from if_neg (own_nlt 12289 (by decide) (by omega)))]
  rw [(show own_f1_149 q = own_f1_155 q from if_pos (own_gt 55295 (by decide) (by omega)))]
  rw [(show own_f1_155 q = own_f1_167 q from if_pos (own_lt 63744 (by decide) (by omega)))]
  rw [(show own_f1_167 q = own_f1_179 q from if_pos (own_lt 65008 (by decide) (by omega)))]
  rw [(show own_f1_179 q = own_f1_195 q from if_pos (own_lt 65536 (by decide) (by omega)))]
  rw [(show own_f2_0 q = own_f2_6 q from if_neg (own_nlt 65 (by decide) (by omega)))]
  rw [(show own_f2_6 q = own_f2_14 q from if_neg (own_ngt 983039 (by decide) (by omega)))]
  rw [(show own_f2_14 q = own_f2_20 q from if_neg (own_nlt 91 (by decide) (by omega)))]
  rw [(show own_f2_20 q = own_f2_28 q from if_pos (own_gt 94 (by decide) (by omega)))]
  rw [(show own_f2_28 q = own_f2_36 q from if_neg (own_neq 96 (by decide) (by omega)))]
  rw [(show own_f2_36 q = own_f2_42 q from if_neg (own_nlt 123 (by decide) (by omega)))]
  rw [(show own_f2_42 q = own_f2_51 q from if_pos (own_gt 191 (by decide) (by omega)))]
  rw [(show own_f2_51 q = own_f2_58 q from if_neg (own_neq 215 (by decide) (by omega)))]
  rw [(show own_f2_58 q = own_f2_67 q from if_neg (own_neq 247 (by decide) (by omega)))]
  rw [(show own_f2_67 q = own_f2_74 q from if_neg (own_nlt 768 (by decide) (by omega)))]
  rw [(show own_f2_74 q = own_f2_83 q from if_pos (own_gt 879 (by decide) (by omega)))]
  rw [(show own_f2_83 q = own_f2_92 q from if_neg (own_neq 894 (by decide) (by omega)))]
  rw [(show own_f2_92 q = own_f2_99 q from if_neg (own_nlt 8192 (by decide) (by omega)))]
  rw [(show own_f2_99 q = own_f2_108 q from if_pos (own_gt 8203 (by decide) (by omega)))]
  rw [(show own_f2_108 q = own_f2_115 q from if_neg (own_nlt 8206 (by decide) (by omega)))]
  rw [(show own_f2_115 q = own_f2_124 q from if_pos (own_gt 8303 (by decide) (by omega)))]
  rw [(show own_f2_124 q = own_f2_131 q from if_neg (own_nlt 8592 (by decide) (by omega)))]
  rw [(show own_f2_131 q = own_f2_140 q from if_pos (own_gt 11263 (by decide) (by omega)))]
  rw [(show own_f2_140 q = own_f2_147 q from if_neg (own_nlt 12272 (by decide) (by omega)))]
  rw [(show own_f2_147 q = own_f2_156 q from if_pos (own_gt 12288 (by decide) (by omega)))]
  rw [(show own_f2_156 q = own_f2_162 q from if_neg (own_nlt 55296 (by decide) (by omega)))]
  rw [(show own_f2_162 q = own_f2_168 q from if_neg (own_ngt 63743 (by decide) (by omega)))]
  rfl
theorem own_iv25 (q : Int32) (h1 : 63744 ≤ q.toInt) (h2 : q.toInt ≤ 64975) : own_f1_0 q = own_f2_0 q := by
  rw [(show own_f1_0 q = own_f1_6 q from if_neg (own_nlt 97 (by decide) (by omega)))]
  rw [(show own_f1_6 q = own_f1_12 q from if_pos (own_gt 122 (by decide) (by omega)))]
  rw [(show own_f1_12 q = own_f1_18 q from if_neg (own_nlt 65 (by decide) (by omega)))]
  rw [(show own_f1_18 q = own_f1_24 q from if_pos (own_gt 90 (by decide) (by omega)))]
  rw [(show own_f1_24 q = own_f1_30 q from if_neg (own_neq 95 (by decide) (by omega)))]
  rw [(show own_f1_30 q = own_f1_37 q from if_neg (own_nlt 192 (by decide) (by omega)))]
  rw [(show own_f1_37 q = own_f1_44 q from if_pos (own_gt 214 (by decide) (by omega)))]
  rw [(show own_f1_44 q = own_f1_51 q from if_neg (own_nlt 216 (by decide) (by omega)))]
  rw [(show own_f1_51 q = own_f1_58 q from if_pos (own_gt 246 (by decide) (by omega)))]
  rw [(show own_f1_58 q = own_f1_65 q from if_neg (own_nlt 248 (by decide) (by omega)))]
  rw [(show own_f1_65 q = own_f1_72 q from if_pos (own_gt 767 (by decide) (by omega)))]
  rw [(show own_f1_72 q = own_f1_79 q from if_neg (own_nlt 880 (by decide) (by omega)))]
  rw [(show own_f1_79 q = own_f1_86 q from if_pos (own_gt 893 (by decide) (by omega)))]
  rw [(show own_f1_86 q = own_f1_93 q from if_neg (own_nlt 895 (by decide) (by omega)))]
  rw [(show own_f1_93 q = own_f1_100 q from if_pos (own_gt 8191 (by decide) (by omega)))]
  rw [(show own_f1_100 q = own_f1_107 q from if_neg (own_nlt 8204 (by decide) (by omega)))]
  rw [(show own_f1_107 q = own_f1_114 q from if_pos (own_gt 8205 (by decide) (by omega)))]
  rw [(show own_f1_114 q = own_f1_121 q from if_neg (own_nlt 8304 (by decide) (by omega)))]
  rw [(show own_f1_121 q = own_f1_128 q from if_pos (own_gt 8591 (by decide) (by omega)))]
  rw [(show own_f1_128 q = own_f1_135 q from if_neg (own_nlt 11264 (by decide) (by omega)))]
  rw [(show own_f1_135 q = own_f1_142 q from if_pos (own_gt 12271 (by decide) (by omega)))]
  rw [(show own_f1_142 q = own_f1_149 q from if_neg (own_nlt 12289 (by decide) (by omega)))]
  rw [(show own_f1_149 q = own_f1_155 q from if_pos (own_gt 55295 (by decide) (by omega)))]
  rw [(show own_f1_155 q = own_f1_161 q from if_neg (own_nlt 63744 (by decide) (by omega)))]
  rw [(show own_f1_161 q = own_f1_191 q from if_neg (own_ngt 64975 (by decide) (by omega)))]
  rw [(show own_f2_0 q = own_f2_6 q from if_neg (own_nlt 65 (by decide) (by omega)))]
  rw [(show own_f2_6 q = own_f2_14 q from if_neg (own_ngt 983039 (by decide) (by omega)))]
  rw [(show own_f2_14 q = own_f2_20 q from if_neg (own_nlt 91 (by decide) (by omega)))]
  rw [(show own_f2_20 q = own_f2_28 q from if_pos (own_gt 94 (by decide) (by omega)))]
  rw [(show own_f2_28 q = own_f2_36 q from if_neg (own_neq 96 (by decide) (by omega)))]
  rw [(show own_f2_36 q = own_f2_42 q from if_neg (own_nlt 123 (by decide) (by omega)))]
  rw [(show own_f2_42 q = own_f2_51 q from if_pos (own_gt 191 (by decide) (by omega)))]
  rw [(show own_f2_51 q = own_f2_58 q from if_neg (own_neq 215 (by decide) (by omega)))]
  rw [(show own_f2_58 q = own_f2_67 q from if_neg (own_neq 247 (by decide) (by omega)))]
  rw [(show own_f2_67 q = own_f2_74 q from if_neg (own_nlt 768 (by decide) (by omega)))]
  rw [(show own_f2_74 q = own_f2_83 q from if_pos (own_gt 879 (by decide) (by omega)))]
  rw [(show own_f2_83 q = own_f2_92 q from if_neg (own_neq 894 (by decide) (by omega)))]
  rw [(show own_f2_92 q = own_f2_99 q from if_neg (own_nlt 8192 (by decide) (by omega)))]
  rw [(show own_f2_99 q = own_f2_108 q from if_pos (own_gt 8203 (by decide) (by omega)))]
  rw [(show own_f2_108 q = own_f2_115 q from if_neg (own_nlt 8206 (by decide) (by omega)))]
  rw [(show own_f2_115 q = own_f2_124 q from if_pos (own_gt 8303 (by decide) (by omega)))]
  rw [(show own_f2_124 q = own_f2_131 q from if_neg (own_nlt 8592 (by decide) (by omega)))]
  rw [(show own_f2_131 q = own_f2_140 q from if_pos (own_gt 11263 (by decide) (by omega)))]
  rw [(show own_f2_140 q = own_f2_147 q from if_neg (own_nlt 12272 (by decide) (by omega)))]
  rw [(show own_f2_147 q = own_f2_156 q from if_pos (own_gt 12288 (by decide) (by omega)))]
  rw [(show own_f2_156 q = own_f2_162 q from if_neg (own_nlt 55296 (by decide) (by omega)))]
  rw [(show own_f2_162 q = own_f2_170 q from if_pos (own_gt 63743 (by decide) (by omega)))]
  rw [(show own_f2_170 q = own_f2_184 q from if_pos (own_lt 64976 (by decide) (by omega)))]
  rw [(show own_f2_184 q = own_f2_198 q from if_pos (own_lt 65534 (by decide) (by omega)))]
  rfl
theorem own_iv26 (q : Int32) (h1 : 64976 ≤ q.toInt) (h2 : q.toInt ≤ 65007) : own_f1_0 q = own_f2_0 q := by
  rw [(show own_f1_0 q = own_f1_6 q from if_neg (own_nlt 97 (by decide) (by omega)))]
  rw [(show own_f1_6 q = own_f1_12 q from if_pos (own_gt 122 (by decide) (by omega)))]
  rw [(show own_f1_12 q = own_f1_18 q from if_neg (own_nlt 65 (by decide) (by omega)))]
  rw [(show own_f1_18 q = own_f1_24 q from if_pos (own_gt 90 (by decide) (by omega)))]
  rw [(show own_f1_24 q = own_f1_30 q from if_neg (own_neq 95 (by decide) (by omega)))]
  rw [(show own_f1_30 q = own_f1_37 q from if_neg (own_nlt 192 (by decide) (by omega)))]
  rw [(show own_f1_37 q = own_f1_44 q from if_pos (own_gt 214 (by decide) (by omega)))]
  rw [(show own_f1_44 q = own_f1_51 q from if_neg (own_nlt 216 (by decide) (by omega)))]
  rw [(show own_f1_51 q = own_f1_58 q from if_pos (own_gt 246 (by decide) (by omega)))]
  rw [(show own_f1_58 q = own_f1_65 q from if_neg (own_nlt 248 (by decide) (by omega)))]
  rw [(show own_f1_65 q = own_f1_72 q from if_pos (own_gt 767 (by decide) (by omega)))]
  rw [(show own_f1_72 q = own_f1_79 q from if_neg (own_nlt 880 (by decide) (by omega)))]
  rw [(show own_f1_79 q = own_f1_86 q from if_pos (own_gt 893 (by decide) (by omega)))]
  rw [(show own_f1_86 q = own_f1_93 q from if_neg (own_nlt 895 (by decide) (by omega)))]
  rw [(show own_f1_93 q = own_f1_100 q from if_pos (own_gt 8191 (by decide) (by omega)))]
  rw [(show own_f1_100 q = own_f1_107 q from if_neg (own_nlt 8204 (by decide) (by omega)))]
  rw [(show own_f1_107 q = own_f1_114 q from if_pos (own_gt 8205 (by decide) (by omega)))]
  rw [(show own_f1_114 q = own_f1_121 q from if_neg (own_nlt 8304 (by decide) (by omega)))]
  rw [(show own_f1_121 q = own_f1_128 q from if_pos (own_gt 8591 (by decide) (by omega)))]
  rw [(show own_f1_128 q = own_f1_135 q from if_neg (own_nlt 11264 (by decide) (by omega)))]
  rw [(show own_f1_135 q = own_f1_142 q from if_pos (own_gt 12271 (by decide) (by omega)))]
  rw [(show own_f1_142 q = own_f1_149 q from if_neg (own_nlt 12289 (by decide) (by omega)))]
  rw [(show own_f1_149 q = own_f1_155 q from if_pos (own_gt 55295 (by decide) (by omega)))]
  rw [(show own_f1_155 q = own_f1_161 q from if_neg (own_nlt 63744 (by decide) (by omega)))]
  rw [(show own_f1_161 q = own_f1_167 q from if_pos (own_gt 64975 (by decide) (by omega)))]
  rw [(show own_f1_167 q = own_f1_179 q from if_pos (own_lt 65008 (by decide) (by omega)))]
  rw [(show own_f1_179 q = own_f1_195 q from if_pos (own_lt 65536 (by decide) (by omega)))]
  rw [(show own_f2_0 q = own_f2_6 q from if_neg (own_nlt 65 (by decide) (by omega)))]
  rw [(show own_f2_6 q = own_f2_14 q from if_neg (own_ngt 983039 (by decide) (by omega)))]
  rw [(show own_f2_14 q = own_f2_20 q from if_neg (own_nlt 91 (by decide) (by omega)))]
  rw [(show own_f2_20 q = own_f2_28 q from if_pos (own_gt 94 (by decide) (by omega)))]
  rw [(show own_f2_28 q = own_f2_36 q from if_neg (own_neq 96 (by decide) (by omega)))]
  rw [(show own_f2_36 q = own_f2_42 q from if_neg (own_nlt 123 (by decide) (by omega)))]
  rw [(show own_f2_42 q = own_f2_51 q from if_pos (own_gt 191 (by decide) (by omega)))]
  rw [(show own_f2_51 q = own_f2_58 q from if_neg (own_neq 215 (by decide) (by omega)))]
  rw [(show own_f2_58 q = own_f2_67 q from if_neg (own_neq 247 (by decide) (by omega)))]
  rw [(show own_f2_67 q = own_f2_74 q from if_neg (own_nlt 768 (by decide) (by omega)))]
  rw [(show own_f2_74 q = own_f2_83 q from if_pos (own_gt 879 (by decide) (by omega)))]
  rw [(show own_f2_83 q = own_f2_92 q from if_neg (own_neq 894 (by decide) (by omega)))]
  rw [(show own_f2_92 q = own_f2_99 q from if_neg (own_nlt 8192 (by decide) (by omega)))]
  rw [(show own_f2_99 q = own_f2_108 q from if_pos (own_gt 8203 (by decide) (by omega)))]
  rw [(show own_f2_108 q = own_f2_115 q from if_neg (own_nlt 8206 (by decide) (by omega)))]
  rw [(show own_f2_115 q = own_f2_124 q from if_pos (own_gt 8303 (by decide) (by omega)))]
  rw [(show own_f2_124 q = own_f2_131 q from if_neg (own_nlt 8592 (by decide) (by omega)))]
  rw [(show own_f2_131 q = own_f2_140 q from if_pos (own_gt 11263 (by decide) (by omega)))]
  rw [(show own_f2_140 q = own_f2_147 q from if_neg (own_nlt 12272 (by decide) (by omega)))]
  rw [(show own_f2_147 q = own_f2_156 q from if_pos (own_gt 12288 (by decide) (by omega)))]
  rw [(show own_f2_156 q = own_f2_162 q from if_neg (own_nlt 55296 (by decide) (by omega)))]
  rw [(show own_f2_162 q = own_f2_170 q from if_pos (own_gt 63743 (by decide) (by omega)))]
  rw [(show own_f2_170 q = own_f2_176 q from if_neg (own_nlt 64976 (by decide) (by omega)))]
  rw [(show own_f2_176 q = own_f2_182 q from if_neg (own_ngt 65007 (by decide) (by omega)))]
  rfl
theorem own_iv27 (q : Int32) (h1 : 65008 ≤ q.toInt) (h2 : q.toInt ≤ 65533) : own_f1_0 q = own_f2_0 q := by
  rw [(show own_f1_0 q = own_f1_6 q from if_neg (own_nlt 97 (by decide) (by omega)))]
  rw [(show own_f1_6 q = own_f1_12 q from if_pos (own_gt 122 (by decide) (by omega)))]
  rw [(show own_f1_12 q = own_f1_18 q from if_neg (own_nlt 65 (by decide) (by omega)))]
  rw [(show own_f1_18 q = own_f1_24 q from if_pos (own_gt 90 (by decide) (by omega)))]
  rw [(show own_f1_24 q = own_f1_30 q from if_neg (own_neq 95 (by decide) (by omega)))]
  rw [(show own_f1_30 q = own_f1_37 q from if_neg (own_nlt 192 (by decide) (by omega)))]
  rw [(show own_f1_37 q = own_f1_44 q from if_pos (own_gt 214 (by decide) (by omega)))]
  rw [(show own_f1_44 q = own_f1_51 q from if_neg (own_nlt 216 (by decide) (by omega)))]
  rw [(show own_f1_51 q = own_f1_58 q from if_pos (own_gt 246 (by decide) (by omega)))]
  rw [(show own_f1_58 q = own_f1_65 q from if_neg (own_nlt 248 (by decide) (by omega)))]
  rw [(show own_f1_65 q = own_f1_72 q from if_pos (own_gt 767 (by decide) (by omega)))]
  rw [(show own_f1_72 q = own_f1_79 q from if_neg (own_nlt 880 (by decide) (by omega)))]
  rw [(show own_f1_79 q = own_f1_86 q from if_pos (own_gt 893 (by decide) (by omega)))]
  rw [(show own_f1_86 q = own_f1_93 q from if_neg (own_nlt 895 (by decide) (by omega)))]
  rw [(show own_f1_93 q = own_f1_100 q from if_pos (own_gt 8191 (by decide) (by omega)))]
  rw [(show own_f1_100 q = own_f1_107 q from if_neg (own_nlt 8204 (by decide) (by omega)))]
  rw [(show own_f1_107 q = own_f1_114 q from if_pos (own_gt 8205 (by decide) (by omega)))]
  rw [(show own_f1_114 q = own_f1_121 q from if_neg (own_nlt 8304 (by decide) (by omega)))]
  rw [(show own_f1_121 q = own_f1_128 q from if_pos (own_gt 8591 (by decide) (by omega)))]
  rw [(show own_f1_128 q = own_f1_135 q from if_neg (own_nlt 11264 (by decide) (by omega)))]
  rw [(show own_f1_135 q = own_f1_142 q from if_pos (own_gt 12271 (by decide) (by omega)))]
  rw [(show own_f1_142 q = own_f1_149 q from if_neg (own_nlt 12289 (by decide) (by omega)))]
  rw [(show own_f1_149 q = own_f1_155 q from if_pos (own_gt 55295 (by decide) (by omega)))]
  rw [(show own_f1_155 q = own_f1_161 q from if_neg (own_nlt 63744 (by decide) (by omega)))]
  rw [(show own_f1_161 q = own_f1_167 q from if_pos (own_gt 64975 (by decide) (by omega)))]
  rw [(show own_f1_167 q = own_f1_173 q from if_neg (own_nlt 65008 (by decide) (by omega)))]
  rw [(show own_f1_173 q = own_f1_191 q from if_neg (own_ngt 65533 (by decide) (by omega)))]
  rw [(show own_f2_0 q = own_f2_6 q from if_neg (own_nlt 65 (by decide) (by omega)))]
  rw [(show own_f2_6 q = own_f2_14 q from if_neg (own_ngt 983039 (by decide) (by omega)))]
  rw [(show own_f2_14 q = own_f2_20 q from if_neg (own_nlt 91 (by decide) (by omega)))]
  rw [(show own_f2_20 q = own_f2_28 q from if_pos (own_gt 94 (by decide) (by omega)))]
  rw [(show own_f2_28 q = own_f2_36 q from if_neg (own_neq 96 (by decide) (by omega)))]
  rw [(show own_f2_36 q = own_f2_42 q from if_neg (own_nlt 123 (by decide) (by omega)))]
  rw [(show own_f2_42 q = own_f2_51 q from if_pos (own_gt 191 (by decide) (by omega)))]
  rw [(show own_f2_51 q = own_f2_58 q from if_neg (own_neq 215 (by decide) (by omega)))]
  rw [(show own_f2_58 q = own_f2_67 q from if_neg (own_neq 247 (by decide) (by omega)))]
  rw [(show own_f2_67 q = own_f2_74 q from if_neg (own_nlt 768 (by decide) (by omega)))]
  rw [(show own_f2_74 q = own_f2_83 q from if_pos (own_gt 879 (by decide) (by omega)))]
  rw [(show own_f2_83 q = own_f2_92 q from if_neg (own_neq 894 (by decide) (by omega)))]
  rw [(show own_f2_92 q = own_f2_99 q from if_neg (own_nlt 8192 (by decide) (by omega)))]
  rw [(show own_f2_99 q = own_f2_108 q from if_pos (own_gt 8203 (by decide) (by omega)))]
  rw [(show own_f2_108 q = own_f2_115 q from if_neg (own_nlt 8206 (by decide) (by omega)))]
  rw [(show own_f2_115 q = own_f2_124 q from if_pos (own_gt 8303 (by decide) (by omega)))]
  rw [(show own_f2_124 q = own_f2_131 q from if_neg (own_nlt 8592 (by decide) (by omega)))]
  rw [(show own_f2_131 q = own_f2_140 q from if_pos (own_gt 11263 (by decide) (by omega)))]
  rw [(show own_f2_140 q = own_f2_147 q from if_neg (own_nlt 12272 (by decide) (by omega)))]
  rw [(show own_f2_147 q = own_f2_156 q from if_pos (own_gt 12288 (by decide) (by omega)))]
  rw [(show own_f2_156 q = own_f2_162 q from if_neg (own_nlt 55296 (by decide) (by omega)))]
  rw [(show own_f2_162 q = own_f2_170 q from if_pos (own_gt 63743 (by decide) (by omega)))]
  rw [(show own_f2_170 q = own_f2_176 q from if_neg (own_nlt 64976 (by decide) (by omega)))]
  rw [(show own_f2_176 q = own_f2_184 q from if_pos (own_gt 65007 (by decide) (by omega)))]
  rw [(show own_f2_184 q = own_f2_198 q from if_pos (own_lt 65534 (by decide) (by omega)))]
  rfl
theorem own_iv28 (q : Int32) (h1 : 65534 ≤ q.toInt) (h2 : q.toInt ≤ 65535) : own_f1_0 q = own_f2_0 q := by
  rw [(show own_f1_0 q = own_f1_6 q from if_neg (own_nlt 97 (by decide) (by omega)))]
  rw [(show own_f1_6 q = own_f1_12 q from if_pos (own_gt 122 (by decide) (by omega)))]
  rw [(show own_f1_12 q = own_f1_18 q from if_neg (own_nlt 65 (by decide) (by omega)))]
  rw [(show own_f1_18 q = own_f1_24 q from if_pos (own_gt 90 (by decide) (by omega)))]
  rw [(show own_f1_24 q = own_f1_30 q from if_neg (own_neq 95 (by decide) (by omega)))]
  rw [(show own_f1_30 q = own_f1_37 q from if_neg (own_nlt 192 (by decide) (by omega)))]
  rw [(show own_f1_37 q = own_f1_44 q from if_pos (own_gt 214 (by decide) (by omega)))]
  rw [(show own_f1_44 q = own_f1_51 q from if_neg (own_nlt 216 (by decide) (by omega)))]
  rw [(show own_f1_51 q = own_f1_58 q from if_pos (own_gt 246 (by decide) (by omega)))]
  rw [(show own_f1_58 q = own_f1_65 q from if_neg (own_nlt 248 (by decide) (by omega)))]
  rw [(show own_f1_65 q = own_f1_72 q from if_pos (own_gt 767 (by decide) (by omega)))]
  rw [(show own_f1_72 q = own_f1_79 q from if_neg (own_nlt 880 (by decide) (by omega)))]
  rw [(show own_f1_79 q = own_f1_86 q from if_pos (own_gt 893 (by decide) (by omega)))]
  rw [(show own_f1_86 q = own_f1_93 q from if_neg (own_nlt 895 (by decide) (by omega)))]
  rw [(show own_f1_93 q = own_f1_100 q from if_pos (own_gt 8191 (by decide) (by omega)))]
  rw [(show own_f1_100 q = own_f1_107 q from if_neg (own_nlt 8204 (by decide) (by omega)))]
  rw [(show own_f1_107 q = own_f1_114 q from if_pos (own_gt 8205 (by decide) (by omega)))]
  rw [(show own_f1_114 q = own_f1_121 q from if_neg (own_nlt 8304 (by decide) (by omega)))]
  rw [(show own_f1_121 q = own_f1_128 q from if_pos (own_gt 8591 (by decide) (by omega)))]
  rw [(show own_f1_128 q = own_f1_135 q from if_neg (own_nlt 11264 (by decide) (by omega)))]
  rw [(show own_f1_135 q = own_f1_142 q from if_pos (own_gt 12271 (by decide) (by omega)))]
  rw [(show own_f1_142 q = own_f1_149 q from if_neg (own_nlt 12289 (by decide) (by omega)))]
  rw [(show own_f1_149 q = own_f1_155 q from if_pos (own_gt 55295 (by decide) (by omega)))]
  rw [(show own_f1_155 q = own_f1_161 q from if_neg (own_nlt 63744 (by decide) (by omega)))]
  rw [(show own_f1_161 q = own_f1_167 q from if_pos (own_gt 64975 (by decide) (by omega)))]
  rw [(show own_f1_167 q = own_f1_173 q from if_neg (own_nlt 65008 (by decide) (by omega)))]
  rw [(show own_f1_173 q = own_f1_179 q from if_pos (own_gt 65533 (by decide) (by omega)))]
  rw [(show own_f1_179 q = own_f1_195 q from if_pos (own_lt 65536 (by decide) (by omega)))]
  rw [(show own_f2_0 q = own_f2_6 q from if_neg (own_nlt 65 (by decide) (by omega)))]
  rw [(show own_f2_6 q = own_f2_14 q from if_neg (own_ngt 983039 (by decide) (by omega)))]
  rw [(show own_f2_14 q = own_f2_20 q from if_neg (own_nlt 91 (by decide) (by omega)))]
  rw [(show own_f2_20 q = own_f2_28 q from if_pos (own_gt 94 (by decide) (by omega)))]
  rw [(show own_f2_28 q = own_f2_36 q from if_neg (own_neq 96 (by decide) (by omega)))]
  rw [(show own_f2_36 q = own_f2_42 q from if_neg (own_nlt 123 (by decide) (by omega)))]
  rw [(show own_f2_42 q = own_f2_51 q from if_pos (own_gt 191 (by decide) (by omega)))]
  rw [(show own_f2_51 q = own_f2_58 q from if_neg (own_neq 215 (by decide) (by omega)))]
  rw [(show own_f2_58 q = own_f2_67 q from if_neg (own_neq 247 (by decide) (by omega)))]
  rw [(show own_f2_67 q = own_f2_74 q from if_neg (own_nlt 768 (by decide) (by omega)))]
  rw [(show own_f2_74 q = own_f2_83 q from if_pos (own_gt 879 (by decide) (by omega)))]
  rw [(show own_f2_83 q = own_f2_92 q from if_neg (own_neq 894 (by decide) (by omega)))]
  rw [(show own_f2_92 q = own_f2_99 q from if_neg (own_nlt 8192 (by decide) (by omega)))]
  rw [(show own_f2_99 q = own_f2_108 q from if_pos (own_gt 8203 (by decide) (by omega)))]
  rw [(show own_f2_108 q = own_f2_115 q from if_neg (own_nlt 8206 (by decide) (by omega)))]
  rw [(show own_f2_115 q = own_f2_124 q from if_pos (own_gt 8303 (by decide) (by omega)))]
  rw [(show own_f2_124 q = own_f2_131 q from if_neg (own_nlt 8592 (by decide) (by omega)))]
  rw [(show own_f2_131 q = own_f2_140 q from if_pos (own_gt 11263 (by decide) (by omega)))]
  rw [(show own_f2_140 q = own_f2_147 q from if_neg (own_nlt 12272 (by decide) (by omega)))]
  rw [(show own_f2_147 q = own_f2_156 q from if_pos (own_gt 12288 (by decide) (by omega)))]
  rw [(show own_f2_156 q = own_f2_162 q from if_neg (own_nlt 55296 (by decide) (by omega)))]
  rw [(show own_f2_162 q = own_f2_170 q from if_pos (own_gt 63743 (by decide) (by omega)))]
  rw [(show own_f2_170 q = own_f2_176 q from if_neg (own_nlt 64976 (by decide) (by omega)))]
  rw [(show own_f2_176 q = own_f2_184 q from if_pos (own_gt 65007 (by decide) (by omega)))]
  rw [(show own_f2_184 q = own_f2_190 q from if_neg (own_nlt 65534 (by decide) (by omega)))]
  rw [(show own_f2_190 q = own_f2_196 q from if_neg (own_ngt 65535 (by decide) (by omega)))]
  rfl
theorem own_iv29 (q : Int32) (h1 : 65536 ≤ q.toInt) (h2 : q.toInt ≤ 983039) : own_f1_0 q = own_f2_0 q := by
  rw [(show own_f1_0 q = own_f1_6 q from if_neg (own_nlt 97 (by decide) (by omega)))]
  rw [(show own_f1_6 q = own_f1_12 q from if_pos (own_gt 122 (by decide) (by omega)))]
  rw [(show own_f1_12 q = own_f1_18 q from if_neg (own_nlt 65 (by decide) (by omega)))]
  rw [(show own_f1_18 q = own_f1_24 q from if_pos (own_gt 90 (by decide) (by omega)))]
  rw [(show own_f1_24 q = own_f1_30 q from if_neg (own_neq 95 (by decide) (by omega)))]
  rw [(show own_f1_30 q = own_f1_37 q from if_neg (own_nlt 192 (by decide) (by omega)))]
  rw [(show own_f1_37 q = own_f1_44 q from if_pos (own_gt 214 (by decide) (by omega)))]
  rw [(show own_f1_44 q = own_f1_51 q from if_neg (own_nlt 216 (by decide) (by omega)))]
  rw [(show own_f1_51 q = own_f1_58 q from if_pos (own_gt 246 (by decide) (by omega)))]
  rw [(show own_f1_58 q = own_f1_65 q from if_neg (own_nlt 248 (by decide) (by omega)))]
  rw [(show own_f1_65 q = own_f1_72 q from if_pos (own_gt 767 (by decide) (by omega)))]
  rw [(show own_f1_72 q = own_f1_79 q from if_neg (own_nlt 880 (by decide) (by omega)))]
  rw [(show own_f1_79 q = own_f1_86 q from if_pos (own_gt 893 (by decide) (by omega)))]
  rw [(show own_f1_86 q = own_f1_93 q from if_neg (own_nlt 895 (by decide) (by omega)))]
  rw [(show own_f1_93 q = own_f1_100 q from if_pos (own_gt 8191 (by decide) (by omega)))]
  rw [(show own_f1_100 q = own_f1_107 q from if_neg (own_nlt 8204 (by decide) (by omega)))]
  rw [(show own_f1_107 q = own_f1_114 q from if_pos (own_gt 8205 (by decide) (by omega)))]
  rw [(show own_f1_114 q = own_f1_121 q from if_neg (own_nlt 8304 (by decide) (by omega)))]
  rw [(show own_f1_121 q = own_f1_128 q from if_pos (own_gt 8591 (by decide) (by omega)))]
  rw [(show own_f1_128 q = own_f1_135 q from if_neg (own_nlt 11264 (by decide) (by omega)))]
  rw [(show own_f1_135 q = own_f1_142 q from if_pos (own_gt 12271 (by decide) (by omega)))]
  rw [(show own_f1_142 q = own_f1_149 q from if_neg (own_nlt 12289 (by decide) (by omega)))]
  rw [(show own_f1_149 q = own_f1_155 q from if_pos (own_gt 55295 (by decide) (by omega)))]
  rw [(show own_f1_155 q = own_f1_161 q from if_neg (own_nlt 63744 (by decide) (by omega)))]
  rw [(show own_f1_161 q = own_f1_167 q from if_pos (own_gt 64975 (by decide) (by omega)))]
  rw [(show own_f1_167 q = own_f1_173 q from if_neg (own_nlt 65008 (by decide) (by omega)))]
  rw [(show own_f1_173 q = own_f1_179 q from if_pos (own_gt 65533 (by decide) (by omega)))]
  rw [(show own_f1_179 q = own_f1_185 q from if_neg (own_nlt 65536 (by decide) (by omega)))]
  rw [(show own_f1_185 q = own_f1_191 q from if_neg (own_ngt 983039 (by decide) (by omega)))]
  rw [(show own_f2_0 q = own_f2_6 q from if_neg (own_nlt 65 (by decide) (by omega)))]
  rw [(show own_f2_6 q = own_f2_14 q from if_neg (own_ngt 983039 (by decide) (by omega)))]
  rw [(show own_f2_14 q = own_f2_20 q from if_neg (own_nlt 91 (by decide) (by omega)))]
  rw [(show own_f2_20 q = own_f2_28 q from if_pos (own_gt 94 (by decide) (by omega)))]
  rw [(show own_f2_28 q = own_f2_36 q from if_neg (own_neq 96 (by decide) (by omega)))]
  rw [(show own_f2_36 q = own_f2_42 q from if_neg (own_nlt 123 (by decide) (by omega)))]
  rw [(show own_f2_42 q = own_f2_51 q from if_pos (own_gt 191 (by decide) (by omega)))]
  rw [(show own_f2_51 q = own_f2_58 q from if_neg (own_neq 215 (by decide) (by omega)))]
  rw [(show own_f2_58 q = own_f2_67 q from if_neg (own_neq 247 (by decide) (by omega)))]
  rw [(show own_f2_67 q = own_f2_74 q from if_neg (own_nlt 768 (by decide) (by omega)))]
  rw [(show own_f2_74 q = own_f2_83 q from if_pos (own_gt 879 (by decide) (by omega)))]
  rw [(show own_f2_83 q = own_f2_92 q from if_neg (own_neq 894 (by decide) (by omega)))]
  rw [(show own_f2_92 q = own_f2_99 q from if_neg (own_nlt 8192 (by decide) (by omega)))]
  rw [(show own_f2_99 q = own_f2_108 q from if_pos (own_gt 8203 (by decide) (by omega)))]
  rw [(show own_f2_108 q = own_f2_115 q from if_neg (own_nlt 8206 (by decide) (by omega)))]
  rw [(show own_f2_115 q = own_f2_124 q from if_pos (own_gt 8303 (by decide) (by omega)))]
  rw [(show own_f2_124 q = own_f2_131 q from if_neg (own_nlt 8592 (by decide) (by omega)))]
  rw [(show own_f2_131 q = own_f2_140 q from if_pos (own_gt 11263 (by decide) (by omega)))]
  rw [(show own_f2_140 q = own_f2_147 q from if_neg (own_nlt 12272 (by decide) (by omega)))]
  rw [(show own_f2_147 q = own_f2_156 q from if_pos (own_gt 12288 (by decide) (by omega)))]
  rw [(show own_f2_156 q = own_f2_162 q from if_neg (own_nlt 55296 (by decide) (by omega)))]
  rw [(show own_f2_162 q = own_f2_170 q from if_pos (own_gt 63743 (by decide) (by omega)))]
  rw [(show own_f2_170 q = own_f2_176 q from if_neg (own_nlt 64976 (by decide) (by omega)))]
  rw [(show own_f2_176 q = own_f2_184 q from if_pos (own_gt 65007 (by decide) (by omega)))]
  rw [(show own_f2_184 q = own_f2_190 q from if_neg (own_nlt 65534 (by decide) (by omega)))]
  rw [(show own_f2_190 q = own_f2_198 q from if_pos (own_gt 65535 (by decide) (by omega)))]
  rfl
theorem own_iv30 (q : Int32) (h1 : 983040 ≤ q.toInt) (h2 : q.toInt ≤ 2147483647) : own_f1_0 q = own_f2_0 q := by
  rw [(show own_f1_0 q = own_f1_6 q from if_neg (own_nlt 97 (by decide) (by omega)))]
  rw [(show own_f1_6 q = own_f1_12 q from if_pos (own_gt 122 (by decide) (by omega)))]
  rw [(show own_f1_12 q = own_f1_18 q from if_neg (own_nlt 65 (by decide) (by omega)))]
  rw [(show own_f1_18 q = own_f1_24 q from if_pos (own_gt 90 (by decide) (by omega)))]
  rw [(show own_f1_24 q = own_f1_30 q from if_neg (own_neq 95 (by decide) (by omega)))]
  rw [(show own_f1_30 q = own_f1_37 q from if_neg (own_nlt 192 (by decide) (by omega)))]
  rw [(show own_f1_37 q = own_f1_44 q from if_pos (own_gt 214 (by decide) (by omega)))]
  rw [(show own_f1_44 q = own_f1_51 q from if_neg (own_nlt 216 (by decide) (by omega)))]
  rw [(show own_f1_51 q = own_f1_58 q from if_pos (own_gt 246 (by decide) (by omega)))]
  rw [(show own_f1_58 q = own_f1_65 q from if_neg (own_nlt 248 (by decide) (by omega)))]
  rw [(show own_f1_65 q = own_f1_72 q from if_pos (own_gt 767 (by decide) (by omega)))]
  rw [(show own_f1_72 q = own_f1_79 q from if_neg (own_nlt 880 (by decide) (by omega)))]
  rw [(show own_f1_79 q = own_f1_86 q from if_pos (own_gt 893 (by decide) (by omega)))]
  rw [(show own_f1_86 q = own_f1_93 q from if_neg (own_nlt 895 (by decide) (by omega)))]
  rw [(show own_f1_93 q = own_f1_100 q from if_pos (own_gt 8191 (by decide) (by omega)))]
  rw [(show own_f1_100 q = own_f1_107 q from if_neg (own_nlt 8204 (by decide) (by omega)))]
  rw [(show own_f1_107 q = own_f1_114 q from if_pos (own_gt 8205 (by decide) (by omega)))]
  rw [(show own_f1_114 q = own_f1_121 q from if_neg (own_nlt 8304 (by decide) (by omega)))]
  rw [(show own_f1_121 q = own_f1_128 q from if_pos (own_gt 8591 (by decide) (by omega)))]
  rw [(show own_f1_128 q = own_f1_135 q from if_neg (own_nlt 11264 (by decide) (by omega)))]
  rw [(show own_f1_135 q = own_f1_142 q from if_pos (own_gt 12271 (by decide) (by omega)))]
  rw [(show own_f1_142 q = own_f1_149 q from if_neg (own_nlt 12289 (by decide) (by omega)))]
  rw [(show own_f1_149 q = own_f1_155 q from if_pos (own_gt 55295 (by decide) (by omega)))]
  rw [(show own_f1_155 q = own_f1_161 q from if_neg (own_nlt 63744 (by decide) (by omega)))]
  rw [(show own_f1_161 q = own_f1_167 q from if_pos (own_gt 64975 (by decide) (by omega)))]
  rw [(show own_f1_167 q = own_f1_173 q from if_neg (own_nlt 65008 (by decide) (by omega)))]
  rw [(show own_f1_173 q = own_f1_179 q from if_pos (own_gt 65533 (by decide) (by omega)))]
  rw [(show own_f1_179 q = own_f1_185 q from if_neg (own_nlt 65536 (by decide) (by omega)))]
  rw [(show own_f1_185 q = own_f1_195 q from if_pos (own_gt 983039 (by decide) (by omega)))]
  rw [(show own_f2_0 q = own_f2_6 q from if_neg (own_nlt 65 (by decide) (by omega)))]
  rw [(show own_f2_6 q = own_f2_12 q from if_pos (own_gt 983039 (by decide) (by omega)))]
  rfl
theorem own_law (q : Int32) : own_f1_0 q = own_f2_0 q := by
  have r1 := q.le_toInt
  have r2 := q.toInt_lt
  by_cases c0 : q.toInt ≤ 64
  · exact own_iv0 q (by omega) c0
  by_cases c1 : q.toInt ≤ 90
  · exact own_iv1 q (by omega) c1
  by_cases c2 : q.toInt ≤ 94
  · exact own_iv2 q (by omega) c2
  by_cases c3 : q.toInt ≤ 95
  · exact own_iv3 q (by omega) c3
  by_cases c4 : q.toInt ≤ 96
  · exact own_iv4 q (by omega) c4
  by_cases c5 : q.toInt ≤ 122
  · exact own_iv5 q (by omega) c5
  by_cases c6 : q.toInt ≤ 191
  · exact own_iv6 q (by omega) c6
  by_cases c7 : q.toInt ≤ 214
  · exact own_iv7 q (by omega) c7
  by_cases c8 : q.toInt ≤ 215
  · exact own_iv8 q (by omega) c8
  by_cases c9 : q.toInt ≤ 246
  · exact own_iv9 q (by omega) c9
  by_cases c10 : q.toInt ≤ 247
  · exact own_iv10 q (by omega) c10
  by_cases c11 : q.toInt ≤ 767
  · exact own_iv11 q (by omega) c11
  by_cases c12 : q.toInt ≤ 879
  · exact own_iv12 q (by omega) c12
  by_cases c13 : q.toInt ≤ 893
  · exact own_iv13 q (by omega) c13
  by_cases c14 : q.toInt ≤ 894
  · exact own_iv14 q (by omega) c14
  by_cases c15 : q.toInt ≤ 8191
  · exact own_iv15 q (by omega) c15
  by_cases c16 : q.toInt ≤ 8203
  · exact own_iv16 q (by omega) c16
  by_cases c17 : q.toInt ≤ 8205
  · exact own_iv17 q (by omega) c17
  by_cases c18 : q.toInt ≤ 8303
  · exact own_iv18 q (by omega) c18
  by_cases c19 : q.toInt ≤ 8591
  · exact own_iv19 q (by omega) c19
  by_cases c20 : q.toInt ≤ 11263
  · exact own_iv20 q (by omega) c20
  by_cases c21 : q.toInt ≤ 12271
  · exact own_iv21 q (by omega) c21
  by_cases c22 : q.toInt ≤ 12288
  · exact own_iv22 q (by omega) c22
  by_cases c23 : q.toInt ≤ 55295
  · exact own_iv23 q (by omega) c23
  by_cases c24 : q.toInt ≤ 63743
  · exact own_iv24 q (by omega) c24
  by_cases c25 : q.toInt ≤ 64975
  · exact own_iv25 q (by omega) c25
  by_cases c26 : q.toInt ≤ 65007
  · exact own_iv26 q (by omega) c26
  by_cases c27 : q.toInt ≤ 65533
  · exact own_iv27 q (by omega) c27
  by_cases c28 : q.toInt ≤ 65535
  · exact own_iv28 q (by omega) c28
  by_cases c29 : q.toInt ≤ 983039
  · exact own_iv29 q (by omega) c29
  exact own_iv30 q (by omega) (by omega)
theorem own_fit {v : Value} (h : fits .int v = true) : ∃ w, v = .int w := by cases v <;> first | exact ⟨_, rfl⟩ | (simp [fits] at h)
theorem own_ix (y : Int32) (n : Int32) (k : Int) (hn : n.toInt = k) (hk : 0 < k) : ¬ ((y &&& (2147483647 : Int32)) % n) < 0 ∧ ((y &&& (2147483647 : Int32)) % n) < n := by
  have h1 := c_mask y (2147483647 : Int32) 31 (by decide) (by decide)
  have h2 := (c_irem (y &&& (2147483647 : Int32)) n k hn).1 (by rw [h1]; omega)
  have h3 := Int.emod_nonneg (y &&& (2147483647 : Int32)).toInt (show k ≠ 0 by omega)
  have h4 := Int.emod_lt_of_pos (y &&& (2147483647 : Int32)).toInt hk
  have e0 : (0 : Int32).toInt = 0 := by decide
  rw [Int32.lt_iff_toInt_lt, Int32.lt_iff_toInt_lt, h2, e0, hn]
  omega
theorem pn_0 : plainName "com/example/exqel/exqel/value/XmlCharsIsNameStartCharPinLaw" = true := by first | (simp [plainName, overriddenIn]; done) | decide +kernel
theorem pd_0_0 : parseMethodDescriptor "(I)Z" = some ⟨[.int], some .boolean⟩ := by decide +kernel
theorem ef_0 (m : MethodId) (x0 : Int32) (x1 : Int32) (x2 : Int32) (x3 : Int32) : entryFrame m #[(.int x0), (.int x1), (.int x2), (.int x3)] maxLocals = mkF m 0 #[.val (.int x0), .val (.int x1), .val (.int x2), .val (.int x3), .unset, .unset, .unset, .unset] [] := by first | (simp [entryFrame, mkF, argsToLocals, Value.category, maxLocals]; done) | rfl
def Q0 (Z : State) (p1 : Int32) (p2 : Int32) (p3 : Int32) (p4 : Int32) (h0 : Heap) (n0 : Nat) (v : Option Value) (h : Heap) (L : List Loc) : Prop := v = some (.int (1 : Int32)) ∧ Fr n0 L
set_option maxRecDepth 65536 in
set_option maxHeartbeats 40000000 in
theorem rm0a (l : Launch) (Z : State) (a0 : Array Value) (hw : ∀ d ∈ tables_1, d.before a0 Z = true) (ws : List Jvm.Cond) (p1 : Int32) (p2 : Int32) (p3 : Int32) (p4 : Int32) (h0 : Heap) (n0 : Nat) (Z0 : n0 ≤ h0.size) (hc6 : ¬ ((p4 &&& (1 : Int32)) = (0 : Int32))) :
    MetFree l x (head1 (Jvm.Cond.code x code maxLocals ret :: ws) room_1) (fun a U => a = #[(.int p1), (.int p2), (.int p3), (.int p4)] ∧ Z.Warmed39 U.vm ∧ U.heap = h0) (fun _ _ _ _ _ => True) (fun _ U o U' => ∃ v L, o = .returned v ∧ Q0 Z p1 p2 p3 p4 h0 n0 v U'.heap L ∧ FrameEnd U o U' L room_1.cells room_1.slots) := by
  refine MetFree.of_bodySF (plainFor_of_name pn_0) hisR ?_
  intro p e s m args below meth c s₁ Bd hml0 hP hK
  obtain ⟨rfl, hZ, hh⟩ := hP
  have hx := Bd.exec
  have hby := Bd.bytes
  have hml : c.maxLocals = 8 := hml0
  have hown : s.vm.findClass "com/example/exqel/exqel/value/XmlCharsIsNameStartCharPinLaw" = some m.cls := findClass_of_methodNamed Bd.named
  have hnm := (name_of_methodNamed Bd.named Bd.method).1
  have X0 : Stand p l e room_1 s m #[(.int p1), (.int p2), (.int p3), (.int p4)] below meth c s₁ [] 0 0 := Stand.of_body Bd
  have e0 : s₁.heap = h0 := by rw [← hh, Bd.state]; rfl
  have N0 := Fr.nil n0
  have pre0 : ∀ t, Steps p.tables e below (s₁.setTop (mkF m 0 #[.val (.int p1), .val (.int p2), .val (.int p3), .val (.int p4), .unset, .unset, .unset, .unset] [])) t → Steps p.tables e below (s₁.setTop (entryFrame m #[(.int p1), (.int p2), (.int p3), (.int p4)] maxLocals)) t := fun t k => castTop (ef_0 m p1 p2 p3 p4) k
  obtain ⟨_, _, ⟨T5, L5, k5, n5⟩, -, X5, ⟨Lc5, hQ5, l5, y5, z5⟩, st5⟩ := Jvm.LawKit.callS X0 hx (y := (⟨"com/example/exqel/exqel/value/XmlChars", "isNameStartChar", "(I)Z"⟩ : MethodName)) hown (mvT hZ (hw _ (List.mem_of_getElem? (i := 0) rfl))) (mvT hZ (hw _ (List.mem_of_getElem? (i := 1) rfl))) (mvT hZ (hw _ (List.mem_of_getElem? (i := 2) rfl))) (mvT hZ (hw _ (List.mem_of_getElem? (i := 3) rfl))) (by decide) (backOf (W := 0) (rm1 l Z a0 hw [] p1 h0 n0 Z0) hZ (hw _ (List.mem_of_getElem? (i := 3) rfl)) (hw _ (List.mem_of_getElem? (i := 2) rfl)) (by decide) (by decide)) (g := (mkF m 261 #[.val (.int p1), .val (.int p2), .val (.int p3), .val (.int p4), .val (.int p1), .unset, .unset, .unset] [(.int p1)])) rfl (by rw [hml]; rfl) (argsL := [(.int p1)]) (rest := []) (lenOf pd_0_0 rfl) rfl (by show 2 * 0 + _ ≤ _; exact Nat.le_of_eq rfl) (hb hby at_261) (fun _ _ => ⟨rfl, e0, (by decide : 0 + 0 ≤ _), (by decide : 0 + 0 ≤ _)⟩)
  dsimp only [Pt.U, Pt.locs, Pt.cells, Pt.slots] at X5 l5 y5 z5 st5 hQ5
  subst l5 y5 z5
  obtain ⟨rfl, N5q, q5e⟩ := hQ5
  have Z5 : n0 ≤ T5.heap.size := by rw [q5e]; exact Z0
  have N5 := Fr.app N0 N5q
  obtain ⟨_, _, ⟨T6, L6, k6, n6⟩, -, X6, ⟨Lc6, hQ6, l6, y6, z6⟩, st6⟩ := Jvm.LawKit.callS X5 hx (y := (⟨"com/example/exqel/exqel/value/XmlCharsIsNameStartCharPinLaw", "ref", "(I)Z"⟩ : MethodName)) hown (mvT hZ (hw _ (List.mem_of_getElem? (i := 7) rfl))) (mvT hZ (hw _ (List.mem_of_getElem? (i := 8) rfl))) (mvT hZ (hw _ (List.mem_of_getElem? (i := 9) rfl))) (mvT hZ (hw _ (List.mem_of_getElem? (i := 10) rfl))) (by decide) (backOf (W := 1) (rm2 l Z a0 hw [] p1 T5.heap n0 Z5) hZ (hw _ (List.mem_of_getElem? (i := 10) rfl)) (hw _ (List.mem_of_getElem? (i := 9) rfl)) (by decide) (by decide)) (g := (mkF m 266 #[.val (.int p1), .val (.int p2), .val (.int p3), .val (.int p4), .val (.int p1), .unset, .unset, .unset] [(.int p1), (.int (own_f1_0 p1))])) rfl (by rw [hml]; rfl) (argsL := [(.int p1)]) (rest := [(.int (own_f1_0 p1))]) (lenOf pd_0_0 rfl) rfl (by show 2 * 0 + _ ≤ _; exact Nat.le_of_eq rfl) (hb hby at_266) (fun _ _ => ⟨rfl, rfl, (by decide : 0 + 0 ≤ _), (by decide : 0 + 0 ≤ _)⟩)
  dsimp only [Pt.U, Pt.locs, Pt.cells, Pt.slots] at X6 l6 y6 z6 st6 hQ6
  subst l6 y6 z6
  obtain ⟨rfl, N6q, q6e⟩ := hQ6
  have Z6 : n0 ≤ T6.heap.size := by rw [q6e]; exact Z5
  have N6 := Fr.app N5 N6q
  obtain ⟨fs, hr, hrun, hended, hW, hsame⟩ := X6.leave (v := some (.int (1 : Int32))) (fun h => by rw [Bd.returns] at h; cases h)
  refine ⟨_, _, pre0 _ ?_, hrun, hended, _, _, rfl, ?_, ⟨_, rfl⟩, hW, hsame.mono (by decide) (by decide)⟩
  · show Steps p.tables e below (s₁.setTop (mkF m 0 #[.val (.int p1), .val (.int p2), .val (.int p3), .val (.int p4), .unset, .unset, .unset, .unset] [])) _
    refine XS.iloadN X0.here hx rfl (hb hby at_0) rfl ?_
    show Steps p.tables e below (s₁.setTop (mkF m 1 #[.val (.int p1), .val (.int p2), .val (.int p3), .val (.int p4), .unset, .unset, .unset, .unset] [(.int p1)])) _
    refine XS.istore X0.here hx rfl (hb hby at_1) rfl (l' := #[.val (.int p1), .val (.int p2), .val (.int p3), .val (.int p4), .val (.int p1), .unset, .unset, .unset]) rfl ?_
    show Steps p.tables e below (s₁.setTop (mkF m 3 #[.val (.int p1), .val (.int p2), .val (.int p3), .val (.int p4), .val (.int p1), .unset, .unset, .unset] [])) _
    refine XS.iloadN X0.here hx rfl (hb hby at_3) rfl ?_
    show Steps p.tables e below (s₁.setTop (mkF m 4 #[.val (.int p1), .val (.int p2), .val (.int p3), .val (.int p4), .val (.int p1), .unset, .unset, .unset] [(.int p4)])) _
    refine XS.iconst X0.here hx rfl (hb hby at_4) ?_
    show Steps p.tables e below (s₁.setTop (mkF m 5 #[.val (.int p1), .val (.int p2), .val (.int p3), .val (.int p4), .val (.int p1), .unset, .unset, .unset] [(.int (1 : Int32)), (.int p4)])) _
    refine XS.iand X0.here hx rfl (hb hby at_5) rfl ?_
    show Steps p.tables e below (s₁.setTop (mkF m 6 #[.val (.int p1), .val (.int p2), .val (.int p3), .val (.int p4), .val (.int p1), .unset, .unset, .unset] [(.int (p4 &&& (1 : Int32)))])) _
    refine XS.ifYes X0.here hx rfl (pc0 := 6) (pc' := 259) rfl (hb hby at_6) rfl ((if0 _ _).trans (feq hc6).2) (by decide) (by decide) ?_
    show Steps p.tables e below (s₁.setTop (mkF m 259 #[.val (.int p1), .val (.int p2), .val (.int p3), .val (.int p4), .val (.int p1), .unset, .unset, .unset] [])) _
    refine XS.iload X0.here hx rfl (hb hby at_259) rfl ?_
    show Steps p.tables e below (s₁.setTop (mkF m 261 #[.val (.int p1), .val (.int p2), .val (.int p3), .val (.int p4), .val (.int p1), .unset, .unset, .unset] [(.int p1)])) _
    refine st5 _ ?_
    show Steps p.tables e below (T5.setTop (mkF m 264 #[.val (.int p1), .val (.int p2), .val (.int p3), .val (.int p4), .val (.int p1), .unset, .unset, .unset] [(.int (own_f1_0 p1))])) _
    refine XS.iload X5.here hx rfl (hb hby at_264) rfl ?_
    show Steps p.tables e below (T5.setTop (mkF m 266 #[.val (.int p1), .val (.int p2), .val (.int p3), .val (.int p4), .val (.int p1), .unset, .unset, .unset] [(.int p1), (.int (own_f1_0 p1))])) _
    refine st6 _ ?_
    show Steps p.tables e below (T6.setTop (mkF m 269 #[.val (.int p1), .val (.int p2), .val (.int p3), .val (.int p4), .val (.int p1), .unset, .unset, .unset] [(.int (own_f2_0 p1)), (.int (own_f1_0 p1))])) _
    refine XS.icmpNo X6.here hx rfl (hb hby at_269) rfl (teq ((own_law _) : (own_f1_0 p1) = (own_f2_0 p1))).2 ?_
    show Steps p.tables e below (T6.setTop (mkF m 272 #[.val (.int p1), .val (.int p2), .val (.int p3), .val (.int p4), .val (.int p1), .unset, .unset, .unset] [])) _
    refine XS.iconst X6.here hx rfl (hb hby at_272) ?_
    show Steps p.tables e below (T6.setTop (mkF m 273 #[.val (.int p1), .val (.int p2), .val (.int p3), .val (.int p4), .val (.int p1), .unset, .unset, .unset] [(.int (1 : Int32))])) _
    refine XS.goto X6.here hx rfl (pc0 := 273) (pc' := 277) rfl (hb hby at_273) (by decide) (by decide) ?_
    show Steps p.tables e below (T6.setTop (mkF m 277 #[.val (.int p1), .val (.int p2), .val (.int p3), .val (.int p4), .val (.int p1), .unset, .unset, .unset] [(.int (1 : Int32))])) _
    exact retN X6 hx (t := .boolean) Bd.returns (by simp) (hb hby at_277) hr
  · show Q0 Z p1 p2 p3 p4 h0 n0 _ T6.heap _
    exact ⟨rfl, N6⟩
set_option maxRecDepth 65536 in
set_option maxHeartbeats 40000000 in
theorem rm0b (l : Launch) (Z : State) (a0 : Array Value) (hw : ∀ d ∈ tables_1, d.before a0 Z = true) (ws : List Jvm.Cond) (p1 : Int32) (p2 : Int32) (p3 : Int32) (p4 : Int32) (h0 : Heap) (n0 : Nat) (Z0 : n0 ≤ h0.size) (hc6 : (p4 &&& (1 : Int32)) = (0 : Int32)) :
    MetFree l x (head1 (Jvm.Cond.code x code maxLocals ret :: ws) room_1) (fun a U => a = #[(.int p1), (.int p2), (.int p3), (.int p4)] ∧ Z.Warmed39 U.vm ∧ U.heap = h0) (fun _ _ _ _ _ => True) (fun _ U o U' => ∃ v L, o = .returned v ∧ Q0 Z p1 p2 p3 p4 h0 n0 v U'.heap L ∧ FrameEnd U o U' L room_1.cells room_1.slots) := by
  refine MetFree.of_bodySF (plainFor_of_name pn_0) hisR ?_
  intro p e s m args below meth c s₁ Bd hml0 hP hK
  obtain ⟨rfl, hZ, hh⟩ := hP
  have hx := Bd.exec
  have hby := Bd.bytes
  have hml : c.maxLocals = 8 := hml0
  have hown : s.vm.findClass "com/example/exqel/exqel/value/XmlCharsIsNameStartCharPinLaw" = some m.cls := findClass_of_methodNamed Bd.named
  have hnm := (name_of_methodNamed Bd.named Bd.method).1
  have X0 : Stand p l e room_1 s m #[(.int p1), (.int p2), (.int p3), (.int p4)] below meth c s₁ [] 0 0 := Stand.of_body Bd
  have e0 : s₁.heap = h0 := by rw [← hh, Bd.state]; rfl
  have N0 := Fr.nil n0
  have pre0 : ∀ t, Steps p.tables e below (s₁.setTop (mkF m 0 #[.val (.int p1), .val (.int p2), .val (.int p3), .val (.int p4), .unset, .unset, .unset, .unset] [])) t → Steps p.tables e below (s₁.setTop (entryFrame m #[(.int p1), (.int p2), (.int p3), (.int p4)] maxLocals)) t := fun t k => castTop (ef_0 m p1 p2 p3 p4) k
  obtain ⟨T5, h5, k5, X5, e5, E5, A5, st5⟩ := newP X0 hx hZ (hw _ (List.mem_of_getElem? (i := 11) rfl)) e0 (g := (mkF m 11 #[.val (.int p1), .val (.int p2), .val (.int p3), .val (.int p4), .val (.int p1), .unset, .unset, .unset] [(.int (34 : Int32))])) rfl (hb hby at_11) rfl (by decide) (cap := 34) (by decide) (by decide) (by decide) (by decide)
  obtain ⟨b5, g5⟩ : ∃ z, z = h0.size := ⟨_, rfl⟩
  rw [← g5] at A5 st5
  have V_b5 : Arv Z h5 b5 k5 .int (34 : Int32) [(.int (0 : Int32)), (.int (0 : Int32)), (.int (0 : Int32)), (.int (0 : Int32)), (.int (0 : Int32)), (.int (0 : Int32)), (.int (0 : Int32)), (.int (0 : Int32)), (.int (0 : Int32)), (.int (0 : Int32)), (.int (0 : Int32)), (.int (0 : Int32)), (.int (0 : Int32)), (.int (0 : Int32)), (.int (0 : Int32)), (.int (0 : Int32)), (.int (0 : Int32)), (.int (0 : Int32)), (.int (0 : Int32)), (.int (0 : Int32)), (.int (0 : Int32)), (.int (0 : Int32)), (.int (0 : Int32)), (.int (0 : Int32)), (.int (0 : Int32)), (.int (0 : Int32)), (.int (0 : Int32)), (.int (0 : Int32)), (.int (0 : Int32)), (.int (0 : Int32)), (.int (0 : Int32)), (.int (0 : Int32)), (.int (0 : Int32)), (.int (0 : Int32))] (.int (0 : Int32)) := (Arv.new A5 (by decide)).pad (pad_rep [] (.int (0 : Int32)) 34)
  have g_b5 : n0 ≤ b5 := Nat.le_trans Z0 (Nat.le_of_eq g5.symm)
  obtain ⟨cl_b5_17, Ar_b5, q_b5, S_b5, N_b5, H_b5, G_b5⟩ := V_b5
  have hin17 : ¬ ((0 : Int32) < 0 ∨ cl_b5_17.slots.size ≤ ((0 : Int32)).toNatClampNeg) := inb_of S_b5 ⟨by decide, by decide⟩
  obtain ⟨T6, h6, X6, e6, W6, st6⟩ := stI X5 hx hZ e5 Ar_b5 (j := (0 : Int32)) hin17 (g := (mkF m 17 #[.val (.int p1), .val (.int p2), .val (.int p3), .val (.int p4), .val (.int p1), .unset, .unset, .unset] [(.int (97 : Int32)), (.int (0 : Int32)), (.ref b5), (.ref b5)])) rfl rfl (hb hby at_17)
  have V_b5_6 : Arv Z h6 b5 k5 .int (34 : Int32) [(.int (97 : Int32)), (.int (0 : Int32)), (.int (0 : Int32)), (.int (0 : Int32)), (.int (0 : Int32)), (.int (0 : Int32)), (.int (0 : Int32)), (.int (0 : Int32)), (.int (0 : Int32)), (.int (0 : Int32)), (.int (0 : Int32)), (.int (0 : Int32)), (.int (0 : Int32)), (.int (0 : Int32)), (.int (0 : Int32)), (.int (0 : Int32)), (.int (0 : Int32)), (.int (0 : Int32)), (.int (0 : Int32)), (.int (0 : Int32)), (.int (0 : Int32)), (.int (0 : Int32)), (.int (0 : Int32)), (.int (0 : Int32)), (.int (0 : Int32)), (.int (0 : Int32)), (.int (0 : Int32)), (.int (0 : Int32)), (.int (0 : Int32)), (.int (0 : Int32)), (.int (0 : Int32)), (.int (0 : Int32)), (.int (0 : Int32)), (.int (0 : Int32))] (.int (0 : Int32)) := Arv.set Ar_b5 q_b5 S_b5 N_b5 H_b5 G_b5 rfl W6 0 rfl (Nat.le_of_ble_eq_true rfl)
  have N6 := Fr.snoc X6 N0 g_b5
  obtain ⟨cl_b5_22, Ar_b5, q_b5, S_b5, N_b5, H_b5, G_b5⟩ := V_b5_6
  have hin22 : ¬ ((1 : Int32) < 0 ∨ cl_b5_22.slots.size ≤ ((1 : Int32)).toNatClampNeg) := inb_of S_b5 ⟨by decide, by decide⟩
  obtain ⟨T7, h7, X7, e7, W7, st7⟩ := stI X6 hx hZ e6 Ar_b5 (j := (1 : Int32)) hin22 (g := (mkF m 22 #[.val (.int p1), .val (.int p2), .val (.int p3), .val (.int p4), .val (.int p1), .unset, .unset, .unset] [(.int (122 : Int32)), (.int (1 : Int32)), (.ref b5), (.ref b5)])) rfl rfl (hb hby at_22)
  have V_b5_7 : Arv Z h7 b5 k5 .int (34 : Int32) [(.int (97 : Int32)), (.int (122 : Int32)), (.int (0 : Int32)), (.int (0 : Int32)), (.int (0 : Int32)), (.int (0 : Int32)), (.int (0 : Int32)), (.int (0 : Int32)), (.int (0 : Int32)), (.int (0 : Int32)), (.int (0 : Int32)), (.int (0 : Int32)), (.int (0 : Int32)), (.int (0 : Int32)), (.int (0 : Int32)), (.int (0 : Int32)), (.int (0 : Int32)), (.int (0 : Int32)), (.int (0 : Int32)), (.int (0 : Int32)), (.int (0 : Int32)), (.int (0 : Int32)), (.int (0 : Int32)), (.int (0 : Int32)), (.int (0 : Int32)), (.int (0 : Int32)), (.int (0 : Int32)), (.int (0 : Int32)), (.int (0 : Int32)), (.int (0 : Int32)), (.int (0 : Int32)), (.int (0 : Int32)), (.int (0 : Int32)), (.int (0 : Int32))] (.int (0 : Int32)) := Arv.set Ar_b5 q_b5 S_b5 N_b5 H_b5 G_b5 rfl W7 1 rfl (Nat.le_of_ble_eq_true rfl)
  have N7 := Fr.snoc X7 N6 g_b5
  obtain ⟨cl_b5_27, Ar_b5, q_b5, S_b5, N_b5, H_b5, G_b5⟩ := V_b5_7
  have hin27 : ¬ ((2 : Int32) < 0 ∨ cl_b5_27.slots.size ≤ ((2 : Int32)).toNatClampNeg) := inb_of S_b5 ⟨by decide, by decide⟩
  obtain ⟨T8, h8, X8, e8, W8, st8⟩ := stI X7 hx hZ e7 Ar_b5 (j := (2 : Int32)) hin27 (g := (mkF m 27 #[.val (.int p1), .val (.int p2), .val (.int p3), .val (.int p4), .val (.int p1), .unset, .unset, .unset] [(.int (65 : Int32)), (.int (2 : Int32)), (.ref b5), (.ref b5)])) rfl rfl (hb hby at_27)
  have V_b5_8 : Arv Z h8 b5 k5 .int (34 : Int32) [(.int (97 : Int32)), (.int (122 : Int32)), (.int (65 : Int32)), (.int (0 : Int32)), (.int (0 : Int32)), (.int (0 : Int32)), (.int (0 : Int32)), (.int (0 : Int32)), (.int (0 : Int32)), (.int (0 : Int32)), (.int (0 : Int32)), (.int (0 : Int32)), (.int (0 : Int32)), (.int (0 : Int32)), (.int (0 : Int32)), (.int (0 : Int32)), (.int (0 : Int32)), (.int (0 : Int32)), (.int (0 : Int32)), (.int (0 : Int32)), (.int (0 : Int32)), (.int (0 : Int32)), (.int (0 : Int32)), (.int (0 : Int32)), (.int (0 : Int32)), (.int (0 : Int32)), (.int (0 : Int32)), (.int (0 : Int32)), (.int (0 : Int32)), (.int (0 : Int32)), (.int (0 : Int32)), (.int (0 : Int32)), (.int (0 : Int32)), (.int (0 : Int32))] (.int (0 : Int32)) := Arv.set Ar_b5 q_b5 S_b5 N_b5 H_b5 G_b5 rfl W8 2 rfl (Nat.le_of_ble_eq_true rfl)
  have N8 := Fr.snoc X8 N7 g_b5
  obtain ⟨cl_b5_32, Ar_b5, q_b5, S_b5, N_b5, H_b5, G_b5⟩ := V_b5_8
  have hin32 : ¬ ((3 : Int32) < 0 ∨ cl_b5_32.slots.size ≤ ((3 : Int32)).toNatClampNeg) := inb_of S_b5 ⟨by decide, by decide⟩
  obtain ⟨T9, h9, X9, e9, W9, st9⟩ := stI X8 hx hZ e8 Ar_b5 (j := (3 : Int32)) hin32 (g := (mkF m 32 #[.val (.int p1), .val (.int p2), .val (.int p3), .val (.int p4), .val (.int p1), .unset, .unset, .unset] [(.int (90 : Int32)), (.int (3 : Int32)), (.ref b5), (.ref b5)])) rfl rfl (hb hby at_32)
  have V_b5_9 : Arv Z h9 b5 k5 .int (34 : Int32) [(.int (97 : Int32)), (.int (122 : Int32)), (.int (65 : Int32)), (.int (90 : Int32)), (.int (0 : Int32)), (.int (0 : Int32)), (.int (0 : Int32)), (.int (0 : Int32)), (.int (0 : Int32)), (.int (0 : Int32)), (.int (0 : Int32)), (.int (0 : Int32)), (.int (0 : Int32)), (.int (0 : Int32)), (.int (0 : Int32)), (.int (0 : Int32)), (.int (0 : Int32)), (.int (0 : Int32)), (.int (0 : Int32)), (.int (0 : Int32)), (.int (0 : Int32)), (.int (0 : Int32)), (.int (0 : Int32)), (.int (0 : Int32)), (.int (0 : Int32)), (.int (0 : Int32)), (.int (0 : Int32)), (.int (0 : Int32)), (.int (0 : Int32)), (.int (0 : Int32)), (.int (0 : Int32)), (.int (0 : Int32)), (.int (0 : Int32)), (.int (0 : Int32))] (.int (0 : Int32)) := Arv.set Ar_b5 q_b5 S_b5 N_b5 H_b5 G_b5 rfl W9 3 rfl (Nat.le_of_ble_eq_true rfl)
  have N9 := Fr.snoc X9 N8 g_b5
  obtain ⟨cl_b5_37, Ar_b5, q_b5, S_b5, N_b5, H_b5, G_b5⟩ := V_b5_9
  have hin37 : ¬ ((4 : Int32) < 0 ∨ cl_b5_37.slots.size ≤ ((4 : Int32)).toNatClampNeg) := inb_of S_b5 ⟨by decide, by decide⟩
  obtain ⟨T10, h10, X10, e10, W10, st10⟩ := stI X9 hx hZ e9 Ar_b5 (j := (4 : Int32)) hin37 (g := (mkF m 37 #[.val (.int p1), .val (.int p2), .val (.int p3), .val (.int p4), .val (.int p1), .unset, .unset, .unset] [(.int (95 : Int32)), (.int (4 : Int32)), (.ref b5), (.ref b5)])) rfl rfl (hb hby at_37)
  have V_b5_10 : Arv Z h10 b5 k5 .int (34 : Int32) [(.int (97 : Int32)), (.int (122 : Int32)), (.int (65 : Int32)), (.int (90 : Int32)), (.int (95 : Int32)), (.int (0 : Int32)), (.int (0 : Int32)), (.int (0 : Int32)), (.int (0 : Int32)), (.int (0 : Int32)), (.int (0 : Int32)), (.int (0 : Int32)), (.int (0 : Int32)), (.int (0 : Int32)), (.int (0 : Int32)), (.int (0 : Int32)), (.int (0 : Int32)), (.int (0 : Int32)), (.int (0 : Int32)), (.int (0 : Int32)), (.int (0 : Int32)), (.int (0 : Int32)), (.int (0 : Int32)), (.int (0 : Int32)), (.int (0 : Int32)), (.int (0 : Int32)), (.int (0 : Int32)), (.int (0 : Int32)), (.int (0 : Int32)), (.int (0 : Int32)), (.int (0 : Int32)), (.int (0 : Int32)), (.int (0 : Int32)), (.int (0 : Int32))] (.int (0 : Int32)) := Arv.set Ar_b5 q_b5 S_b5 N_b5 H_b5 G_b5 rfl W10 4 rfl (Nat.le_of_ble_eq_true rfl)
  have N10 := Fr.snoc X10 N9 g_b5
  obtain ⟨cl_b5_42, Ar_b5, q_b5, S_b5, N_b5, H_b5, G_b5⟩ := V_b5_10
  have hin42 : ¬ ((5 : Int32) < 0 ∨ cl_b5_42.slots.size ≤ ((5 : Int32)).toNatClampNeg) := inb_of S_b5 ⟨by decide, by decide⟩
  obtain ⟨T11, h11, X11, e11, W11, st11⟩ := stI X10 hx hZ e10 Ar_b5 (j := (5 : Int32)) hin42 (g := (mkF m 42 #[.val (.int p1), .val (.int p2), .val (.int p3), .val (.int p4), .val (.int p1), .unset, .unset, .unset] [(.int (58 : Int32)), (.int (5 : Int32)), (.ref b5), (.ref b5)])) rfl rfl (hb hby at_42)
  have V_b5_11 : Arv Z h11 b5 k5 .int (34 : Int32) [(.int (97 : Int32)), (.int (122 : Int32)), (.int (65 : Int32)), (.int (90 : Int32)), (.int (95 : Int32)), (.int (58 : Int32)), (.int (0 : Int32)), (.int (0 : Int32)), (.int (0 : Int32)), (.int (0 : Int32)), (.int (0 : Int32)), (.int (0 : Int32)), (.int (0 : Int32)), (.int (0 : Int32)), (.int (0 : Int32)), (.int (0 : Int32)), (.int (0 : Int32)), (.int (0 : Int32)), (.int (0 : Int32)), (.int (0 : Int32)), (.int (0 : Int32)), (.int (0 : Int32)), (.int (0 : Int32)), (.int (0 : Int32)), (.int (0 : Int32)), (.int (0 : Int32)), (.int (0 : Int32)), (.int (0 : Int32)), (.int (0 : Int32)), (.int (0 : Int32)), (.int (0 : Int32)), (.int (0 : Int32)), (.int (0 : Int32)), (.int (0 : Int32))] (.int (0 : Int32)) := Arv.set Ar_b5 q_b5 S_b5 N_b5 H_b5 G_b5 rfl W11 5 rfl (Nat.le_of_ble_eq_true rfl)
  have N11 := Fr.snoc X11 N10 g_b5
  obtain ⟨cl_b5_49, Ar_b5, q_b5, S_b5, N_b5, H_b5, G_b5⟩ := V_b5_11
  have hin49 : ¬ ((6 : Int32) < 0 ∨ cl_b5_49.slots.size ≤ ((6 : Int32)).toNatClampNeg) := inb_of S_b5 ⟨by decide, by decide⟩
  obtain ⟨T12, h12, X12, e12, W12, st12⟩ := stI X11 hx hZ e11 Ar_b5 (j := (6 : Int32)) hin49 (g := (mkF m 49 #[.val (.int p1), .val (.int p2), .val (.int p3), .val (.int p4), .val (.int p1), .unset, .unset, .unset] [(.int (192 : Int32)), (.int (6 : Int32)), (.ref b5), (.ref b5)])) rfl rfl (hb hby at_49)
  have V_b5_12 : Arv Z h12 b5 k5 .int (34 : Int32) [(.int (97 : Int32)), (.int (122 : Int32)), (.int (65 : Int32)), (.int (90 : Int32)), (.int (95 : Int32)), (.int (58 : Int32)), (.int (192 : Int32)), (.int (0 : Int32)), (.int (0 : Int32)), (.int (0 : Int32)), (.int (0 : Int32)), (.int (0 : Int32)), (.int (0 : Int32)), (.int (0 : Int32)), (.int (0 : Int32)), (.int (0 : Int32)), (.int (0 : Int32)), (.int (0 : Int32)), (.int (0 : Int32)), (.int (0 : Int32)), (.int (0 : Int32)), (.int (0 : Int32)), (.int (0 : Int32)), (.int (0 : Int32)), (.int (0 : Int32)), (.int (0 : Int32)), (.int (0 : Int32)), (.int (0 : Int32)), (.int (0 : Int32)), (.int (0 : Int32)), (.int (0 : Int32)), (.int (0 : Int32)), (.int (0 : Int32)), (.int (0 : Int32))] (.int (0 : Int32)) := Arv.set Ar_b5 q_b5 S_b5 N_b5 H_b5 G_b5 rfl W12 6 rfl (Nat.le_of_ble_eq_true rfl)
  have N12 := Fr.snoc X12 N11 g_b5
  obtain ⟨cl_b5_56, Ar_b5, q_b5, S_b5, N_b5, H_b5, G_b5⟩ := V_b5_12
  have hin56 : ¬ ((7 : Int32) < 0 ∨ cl_b5_56.slots.size ≤ ((7 : Int32)).toNatClampNeg) := inb_of S_b5 ⟨by decide, by decide⟩
  obtain ⟨T13, h13, X13, e13, W13, st13⟩ := stI X12 hx hZ e12 Ar_b5 (j := (7 : Int32)) hin56 (g := (mkF m 56 #[.val (.int p1), .val (.int p2), .val (.int p3), .val (.int p4), .val (.int p1), .unset, .unset, .unset] [(.int (214 : Int32)), (.int (7 : Int32)), (.ref b5), (.ref b5)])) rfl rfl (hb hby at_56)
  have V_b5_13 : Arv Z h13 b5 k5 .int (34 : Int32) [(.int (97 : Int32)), (.int (122 : Int32)), (.int (65 : Int32)), (.int (90 : Int32)), (.int (95 : Int32)), (.int (58 : Int32)), (.int (192 : Int32)), (.int (214 : Int32)), (.int (0 : Int32)), (.int (0 : Int32)), (.int (0 : Int32)), (.int (0 : Int32)), (.int (0 : Int32)), (.int (0 : Int32)), (.int (0 : Int32)), (.int (0 : Int32)), (.int (0 : Int32)), (.int (0 : Int32)), (.int (0 : Int32)), (.int (0 : Int32)), (.int (0 : Int32)), (.int (0 : Int32)), (.int (0 : Int32)), (.int (0 : Int32)), (.int (0 : Int32)), (.int (0 : Int32)), (.int (0 : Int32)), (.int (0 : Int32)), (.int (0 : Int32)), (.int (0 : Int32)), (.int (0 : Int32)), (.int (0 : Int32)), (.int (0 : Int32)), (.int (0 : Int32))] (.int (0 : Int32)) := Arv.set Ar_b5 q_b5 S_b5 N_b5 H_b5 G_b5 rfl W13 7 rfl (Nat.le_of_ble_eq_true rfl)
  have N13 := Fr.snoc X13 N12 g_b5
  obtain ⟨cl_b5_63, Ar_b5, q_b5, S_b5, N_b5, H_b5, G_b5⟩ := V_b5_13
  have hin63 : ¬ ((8 : Int32) < 0 ∨ cl_b5_63.slots.size ≤ ((8 : Int32)).toNatClampNeg) := inb_of S_b5 ⟨by decide, by decide⟩
  obtain ⟨T14, h14, X14, e14, W14, st14⟩ := stI X13 hx hZ e13 Ar_b5 (j := (8 : Int32)) hin63 (g := (mkF m 63 #[.val (.int p1), .val (.int p2), .val (.int p3), .val (.int p4), .val (.int p1), .unset, .unset, .unset] [(.int (216 : Int32)), (.int (8 : Int32)), (.ref b5), (.ref b5)])) rfl rfl (hb hby at_63)
  have V_b5_14 : Arv Z h14 b5 k5 .int (34 : Int32) [(.int (97 : Int32)), (.int (122 : Int32)), (.int (65 : Int32)), (.int (90 : Int32)), (.int (95 : Int32)), (.int (58 : Int32)), (.int (192 : Int32)), (.int (214 : Int32)), (.int (216 : Int32)), (.int (0 : Int32)), (.int (0 : Int32)), (.int (0 : Int32)), (.int (0 : Int32)), (.int (0 : Int32)), (.int (0 : Int32)), (.int (0 : Int32)), (.int (0 : Int32)), (.int (0 : Int32)), (.int (0 : Int32)), (.int (0 : Int32)), (.int (0 : Int32)), (.int (0 : Int32)), (.int (0 : Int32)), (.int (0 : Int32)), (.int (0 : Int32)), (.int (0 : Int32)), (.int (0 : Int32)), (.int (0 : Int32)), (.int (0 : Int32)), (.int (0 : Int32)), (.int (0 : Int32)), (.int (0 : Int32)), (.int (0 : Int32)), (.int (0 : Int32))] (.int (0 : Int32)) := Arv.set Ar_b5 q_b5 S_b5 N_b5 H_b5 G_b5 rfl W14 8 rfl (Nat.le_of_ble_eq_true rfl)
  have N14 := Fr.snoc X14 N13 g_b5
  obtain ⟨cl_b5_70, Ar_b5, q_b5, S_b5, N_b5, H_b5, G_b5⟩ := V_b5_14
  have hin70 : ¬ ((9 : Int32) < 0 ∨ cl_b5_70.slots.size ≤ ((9 : Int32)).toNatClampNeg) := inb_of S_b5 ⟨by decide, by decide⟩
  obtain ⟨T15, h15, X15, e15, W15, st15⟩ := stI X14 hx hZ e14 Ar_b5 (j := (9 : Int32)) hin70 (g := (mkF m 70 #[.val (.int p1), .val (.int p2), .val (.int p3), .val (.int p4), .val (.int p1), .unset, .unset, .unset] [(.int (246 : Int32)), (.int (9 : Int32)), (.ref b5), (.ref b5)])) rfl rfl (hb hby at_70)
  have V_b5_15 : Arv Z h15 b5 k5 .int (34 : Int32) [(.int (97 : Int32)), (.int (122 : Int32)), (.int (65 : Int32)), (.int (90 : Int32)), (.int (95 : Int32)), (.int (58 : Int32)), (.int (192 : Int32)), (.int (214 : Int32)), (.int (216 : Int32)), (.int (246 : Int32)), (.int (0 : Int32)), (.int (0 : Int32)), (.int (0 : Int32)), (.int (0 : Int32)), (.int (0 : Int32)), (.int (0 : Int32)), (.int (0 : Int32)), (.int (0 : Int32)), (.int (0 : Int32)), (.int (0 : Int32)), (.int (0 : Int32)), (.int (0 : Int32)), (.int (0 : Int32)), (.int (0 : Int32)), (.int (0 : Int32)), (.int (0 : Int32)), (.int (0 : Int32)), (.int (0 : Int32)), (.int (0 : Int32)), (.int (0 : Int32)), (.int (0 : Int32)), (.int (0 : Int32)), (.int (0 : Int32)), (.int (0 : Int32))] (.int (0 : Int32)) := Arv.set Ar_b5 q_b5 S_b5 N_b5 H_b5 G_b5 rfl W15 9 rfl (Nat.le_of_ble_eq_true rfl)
  have N15 := Fr.snoc X15 N14 g_b5
  obtain ⟨cl_b5_77, Ar_b5, q_b5, S_b5, N_b5, H_b5, G_b5⟩ := V_b5_15
  have hin77 : ¬ ((10 : Int32) < 0 ∨ cl_b5_77.slots.size ≤ ((10 : Int32)).toNatClampNeg) := inb_of S_b5 ⟨by decide, by decide⟩
  obtain ⟨T16, h16, X16, e16, W16, st16⟩ := stI X15 hx hZ e15 Ar_b5 (j := (10 : Int32)) hin77 (g := (mkF m 77 #[.val (.int p1), .val (.int p2), .val (.int p3), .val (.int p4), .val (.int p1), .unset, .unset, .unset] [(.int (248 : Int32)), (.int (10 : Int32)), (.ref b5), (.ref b5)])) rfl rfl (hb hby at_77)
  have V_b5_16 : Arv Z h16 b5 k5 .int (34 : Int32) [(.int (97 : Int32)), (.int (122 : Int32)), (.int (65 : Int32)), (.int (90 : Int32)), (.int (95 : Int32)), (.int (58 : Int32)), (.int (192 : Int32)), (.int (214 : Int32)), (.int (216 : Int32)), (.int (246 : Int32)), (.int (248 : Int32)), (.int (0 : Int32)), (.int (0 : Int32)), (.int (0 : Int32)), (.int (0 : Int32)), (.int (0 : Int32)), (.int (0 : Int32)), (.int (0 : Int32)), (.int (0 : Int32)), (.int (0 : Int32)), (.int (0 : Int32)), (.int (0 : Int32)), (.int (0 : Int32)), (.int (0 : Int32)), (.int (0 : Int32)), (.int (0 : Int32)), (.int (0 : Int32)), (.int (0 : Int32)), (.int (0 : Int32)), (.int (0 : Int32)), (.int (0 : Int32)), (.int (0 : Int32)), (.int (0 : Int32)), (.int (0 : Int32))] (.int (0 : Int32)) := Arv.set Ar_b5 q_b5 S_b5 N_b5 H_b5 G_b5 rfl W16 10 rfl (Nat.le_of_ble_eq_true rfl)
  have N16 := Fr.snoc X16 N15 g_b5
  obtain ⟨cl_b5_84, Ar_b5, q_b5, S_b5, N_b5, H_b5, G_b5⟩ := V_b5_16
  have hin84 : ¬ ((11 : Int32) < 0 ∨ cl_b5_84.slots.size ≤ ((11 : Int32)).toNatClampNeg) := inb_of S_b5 ⟨by decide, by decide⟩
  obtain ⟨T17, h17, X17, e17, W17, st17⟩ := stI X16 hx hZ e16 Ar_b5 (j := (11 : Int32)) hin84 (g := (mkF m 84 #[.val (.int p1), .val (.int p2), .val (.int p3), .val (.int p4), .val (.int p1), .unset, .unset, .unset] [(.int (767 : Int32)), (.int (11 : Int32)), (.ref b5), (.ref b5)])) rfl rfl (hb hby at_84)
  have V_b5_17 : Arv Z h17 b5 k5 .int (34 : Int32) [(.int (97 : Int32)), (.int (122 : Int32)), (.int (65 : Int32)), (.int (90 : Int32)), (.int (95 : Int32)), (.int (58 : Int32)), (.int (192 : Int32)), (.int (214 : Int32)), (.int (216 : Int32)), (.int (246 : Int32)), (.int (248 : Int32)), (.int (767 : Int32)), (.int (0 : Int32)), (.int (0 : Int32)), (.int (0 : Int32)), (.int (0 : Int32)), (.int (0 : Int32)), (.int (0 : Int32)), (.int (0 : Int32)), (.int (0 : Int32)), (.int (0 : Int32)), (.int (0 : Int32)), (.int (0 : Int32)), (.int (0 : Int32)), (.int (0 : Int32)), (.int (0 : Int32)), (.int (0 : Int32)), (.int (0 : Int32)), (.int (0 : Int32)), (.int (0 : Int32)), (.int (0 : Int32)), (.int (0 : Int32)), (.int (0 : Int32)), (.int (0 : Int32))] (.int (0 : Int32)) := Arv.set Ar_b5 q_b5 S_b5 N_b5 H_b5 G_b5 rfl W17 11 rfl (Nat.le_of_ble_eq_true rfl)
  have N17 := Fr.snoc X17 N16 g_b5
  obtain ⟨cl_b5_91, Ar_b5, q_b5, S_b5, N_b5, H_b5, G_b5⟩ := V_b5_17
  have hin91 : ¬ ((12 : Int32) < 0 ∨ cl_b5_91.slots.size ≤ ((12 : Int32)).toNatClampNeg) := inb_of S_b5 ⟨by decide, by decide⟩
  obtain ⟨T18, h18, X18, e18, W18, st18⟩ := stI X17 hx hZ e17 Ar_b5 (j := (12 : Int32)) hin91 (g := (mkF m 91 #[.val (.int p1), .val (.int p2), .val (.int p3), .val (.int p4), .val (.int p1), .unset, .unset, .unset] [(.int (880 : Int32)), (.int (12 : Int32)), (.ref b5), (.ref b5)])) rfl rfl (hb hby at_91)
  have V_b5_18 : Arv Z h18 b5 k5 .int (34 : Int32) [(.int (97 : Int32)), (.int (122 : Int32)), (.int (65 : Int32)), (.int (90 : Int32)), (.int (95 : Int32)), (.int (58 : Int32)), (.int (192 : Int32)), (.int (214 : Int32)), (.int (216 : Int32)), (.int (246 : Int32)), (.int (248 : Int32)), (.int (767 : Int32)), (.int (880 : Int32)), (.int (0 : Int32)), (.int (0 : Int32)), (.int (0 : Int32)), (.int (0 : Int32)), (.int (0 : Int32)), (.int (0 : Int32)), (.int (0 : Int32)), (.int (0 : Int32)), (.int (0 : Int32)), (.int (0 : Int32)), (.int (0 : Int32)), (.int (0 : Int32)), (.int (0 : Int32)), (.int (0 : Int32)), (.int (0 : Int32)), (.int (0 : Int32)), (.int (0 : Int32)), (.int (0 : Int32)), (.int (0 : Int32)), (.int (0 : Int32)), (.int (0 : Int32))] (.int (0 : Int32)) := Arv.set Ar_b5 q_b5 S_b5 N_b5 H_b5 G_b5 rfl W18 12 rfl (Nat.le_of_ble_eq_true rfl)
  have N18 := Fr.snoc X18 N17 g_b5
  obtain ⟨cl_b5_98, Ar_b5, q_b5, S_b5, N_b5, H_b5, G_b5⟩ := V_b5_18
  have hin98 : ¬ ((13 : Int32) < 0 ∨ cl_b5_98.slots.size ≤ ((13 : Int32)).toNatClampNeg) := inb_of S_b5 ⟨by decide, by decide⟩
  obtain ⟨T19, h19, X19, e19, W19, st19⟩ := stI X18 hx hZ e18 Ar_b5 (j := (13 : Int32)) hin98 (g := (mkF m 98 #[.val (.int p1), .val (.int p2), .val (.int p3), .val (.int p4), .val (.int p1), .unset, .unset, .unset] [(.int (893 : Int32)), (.int (13 : Int32)), (.ref b5), (.ref b5)])) rfl rfl (hb hby at_98)
  have V_b5_19 : Arv Z h19 b5 k5 .int (34 : Int32) [(.int (97 : Int32)), (.int (122 : Int32)), (.int (65 : Int32)), (.int (90 : Int32)), (.int (95 : Int32)), (.int (58 : Int32)), (.int (192 : Int32)), (.int (214 : Int32)), (.int (216 : Int32)), (.int (246 : Int32)), (.int (248 : Int32)), (.int (767 : Int32)), (.int (880 : Int32)), (.int (893 : Int32)), (.int (0 : Int32)), (.int (0 : Int32)), (.int (0 : Int32)), (.int (0 : Int32)), (.int (0 : Int32)), (.int (0 : Int32)), (.int (0 : Int32)), (.int (0 : Int32)), (.int (0 : Int32)), (.int (0 : Int32)), (.int (0 : Int32)), (.int (0 : Int32)), (.int (0 : Int32)), (.int (0 : Int32)), (.int (0 : Int32)), (.int (0 : Int32)), (.int (0 : Int32)), (.int (0 : Int32)), (.int (0 : Int32)), (.int (0 : Int32))] (.int (0 : Int32)) := Arv.set Ar_b5 q_b5 S_b5 N_b5 H_b5 G_b5 rfl W19 13 rfl (Nat.le_of_ble_eq_true rfl)
  have N19 := Fr.snoc X19 N18 g_b5
  obtain ⟨cl_b5_105, Ar_b5, q_b5, S_b5, N_b5, H_b5, G_b5⟩ := V_b5_19
  have hin105 : ¬ ((14 : Int32) < 0 ∨ cl_b5_105.slots.size ≤ ((14 : Int32)).toNatClampNeg) := inb_of S_b5 ⟨by decide, by decide⟩
  obtain ⟨T20, h20, X20, e20, W20, st20⟩ := stI X19 hx hZ e19 Ar_b5 (j := (14 : Int32)) hin105 (g := (mkF m 105 #[.val (.int p1), .val (.int p2), .val (.int p3), .val (.int p4), .val (.int p1), .unset, .unset, .unset] [(.int (895 : Int32)), (.int (14 : Int32)), (.ref b5), (.ref b5)])) rfl rfl (hb hby at_105)
  have V_b5_20 : Arv Z h20 b5 k5 .int (34 : Int32) [(.int (97 : Int32)), (.int (122 : Int32)), (.int (65 : Int32)), (.int (90 : Int32)), (.int (95 : Int32)), (.int (58 : Int32)), (.int (192 : Int32)), (.int (214 : Int32)), (.int (216 : Int32)), (.int (246 : Int32)), (.int (248 : Int32)), (.int (767 : Int32)), (.int (880 : Int32)), (.int (893 : Int32)), (.int (895 : Int32)), (.int (0 : Int32)), (.int (0 : Int32)), (.int (0 : Int32)), (.int (0 : Int32)), (.int (0 : Int32)), (.int (0 : Int32)), (.int (0 : Int32)), (.int (0 : Int32)), (.int (0 : Int32)), (.int (0 : Int32)), (.int (0 : Int32)), (.int (0 : Int32)), (.int (0 : Int32)), (.int (0 : Int32)), (.int (0 : Int32)), (.int (0 : Int32)), (.int (0 : Int32)), (.int (0 : Int32)), (.int (0 : Int32))] (.int (0 : Int32)) := Arv.set Ar_b5 q_b5 S_b5 N_b5 H_b5 G_b5 rfl W20 14 rfl (Nat.le_of_ble_eq_true rfl)
  have N20 := Fr.snoc X20 N19 g_b5
  obtain ⟨cl_b5_112, Ar_b5, q_b5, S_b5, N_b5, H_b5, G_b5⟩ := V_b5_20
  have hin112 : ¬ ((15 : Int32) < 0 ∨ cl_b5_112.slots.size ≤ ((15 : Int32)).toNatClampNeg) := inb_of S_b5 ⟨by decide, by decide⟩
  obtain ⟨T21, h21, X21, e21, W21, st21⟩ := stI X20 hx hZ e20 Ar_b5 (j := (15 : Int32)) hin112 (g := (mkF m 112 #[.val (.int p1), .val (.int p2), .val (.int p3), .val (.int p4), .val (.int p1), .unset, .unset, .unset] [(.int (8191 : Int32)), (.int (15 : Int32)), (.ref b5), (.ref b5)])) rfl rfl (hb hby at_112)
  have V_b5_21 : Arv Z h21 b5 k5 .int (34 : Int32) [(.int (97 : Int32)), (.int (122 : Int32)), (.int (65 : Int32)), (.int (90 : Int32)), (.int (95 : Int32)), (.int (58 : Int32)), (.int (192 : Int32)), (.int (214 : Int32)), (.int (216 : Int32)), (.int (246 : Int32)), (.int (248 : Int32)), (.int (767 : Int32)), (.int (880 : Int32)), (.int (893 : Int32)), (.int (895 : Int32)), (.int (8191 : Int32)), (.int (0 : Int32)), (.int (0 : Int32)), (.int (0 : Int32)), (.int (0 : Int32)), (.int (0 : Int32)), (.int (0 : Int32)), (.int (0 : Int32)), (.int (0 : Int32)), (.int (0 : Int32)), (.int (0 : Int32)), (.int (0 : Int32)), (.int (0 : Int32)), (.int (0 : Int32)), (.int (0 : Int32)), (.int (0 : Int32)), (.int (0 : Int32)), (.int (0 : Int32)), (.int (0 : Int32))] (.int (0 : Int32)) := Arv.set Ar_b5 q_b5 S_b5 N_b5 H_b5 G_b5 rfl W21 15 rfl (Nat.le_of_ble_eq_true rfl)
  have N21 := Fr.snoc X21 N20 g_b5
  obtain ⟨cl_b5_119, Ar_b5, q_b5, S_b5, N_b5, H_b5, G_b5⟩ := V_b5_21
  have hin119 : ¬ ((16 : Int32) < 0 ∨ cl_b5_119.slots.size ≤ ((16 : Int32)).toNatClampNeg) := inb_of S_b5 ⟨by decide, by decide⟩
  obtain ⟨T22, h22, X22, e22, W22, st22⟩ := stI X21 hx hZ e21 Ar_b5 (j := (16 : Int32)) hin119 (g := (mkF m 119 #[.val (.int p1), .val (.int p2), .val (.int p3), .val (.int p4), .val (.int p1), .unset, .unset, .unset] [(.int (8204 : Int32)), (.int (16 : Int32)), (.ref b5), (.ref b5)])) rfl rfl (hb hby at_119)
  have V_b5_22 : Arv Z h22 b5 k5 .int (34 : Int32) [(.int (97 : Int32)), (.int (122 : Int32)), (.int (65 : Int32)), (.int (90 : Int32)), (.int (95 : Int32)), (.int (58 : Int32)), (.int (192 : Int32)), (.int (214 : Int32)), (.int (216 : Int32)), (.int (246 : Int32)), (.int (248 : Int32)), (.int (767 : Int32)), (.int (880 : Int32)), (.int (893 : Int32)), (.int (895 : Int32)), (.int (8191 : Int32)), (.int (8204 : Int32)), (.int (0 : Int32)), (.int (0 : Int32)), (.int (0 : Int32)), (.int (0 : Int32)), (.int (0 : Int32)), (.int (0 : Int32)), (.int (0 : Int32)), (.int (0 : Int32)), (.int (0 : Int32)), (.int (0 : Int32)), (.int (0 : Int32)), (.int (0 : Int32)), (.int (0 : Int32)), (.int (0 : Int32)), (.int (0 : Int32)), (.int (0 : Int32)), (.int (0 : Int32))] (.int (0 : Int32)) := Arv.set Ar_b5 q_b5 S_b5 N_b5 H_b5 G_b5 rfl W22 16 rfl (Nat.le_of_ble_eq_true rfl)
  have N22 := Fr.snoc X22 N21 g_b5
  obtain ⟨cl_b5_126, Ar_b5, q_b5, S_b5, N_b5, H_b5, G_b5⟩ := V_b5_22
  have hin126 : ¬ ((17 : Int32) < 0 ∨ cl_b5_126.slots.size ≤ ((17 : Int32)).toNatClampNeg) := inb_of S_b5 ⟨by decide, by decide⟩
  obtain ⟨T23, h23, X23, e23, W23, st23⟩ := stI X22 hx hZ e22 Ar_b5 (j := (17 : Int32)) hin126 (g := (mkF m 126 #[.val (.int p1), .val (.int p2), .val (.int p3), .val (.int p4), .val (.int p1), .unset, .unset, .unset] [(.int (8205 : Int32)), (.int (17 : Int32)), (.ref b5), (.ref b5)])) rfl rfl (hb hby at_126)
  have V_b5_23 : Arv Z h23 b5 k5 .int (34 : Int32) [(.int (97 : Int32)), (.int (122 : Int32)), (.int (65 : Int32)), (.int (90 : Int32)), (.int (95 : Int32)), (.int (58 : Int32)), (.int (192 : Int32)), (.int (214 : Int32)), (.int (216 : Int32)), (.int (246 : Int32)), (.int (248 : Int32)), (.int (767 : Int32)), (.int (880 : Int32)), (.int (893 : Int32)), (.int (895 : Int32)), (.int (8191 : Int32)), (.int (8204 : Int32)), (.int (8205 : Int32)), (.int (0 : Int32)), (.int (0 : Int32)), (.int (0 : Int32)), (.int (0 : Int32)), (.int (0 : Int32)), (.int (0 : Int32)), (.int (0 : Int32)), (.int (0 : Int32)), (.int (0 : Int32)), (.int (0 : Int32)), (.int (0 : Int32)), (.int (0 : Int32)), (.int (0 : Int32)), (.int (0 : Int32)), (.int (0 : Int32)), (.int (0 : Int32))] (.int (0 : Int32)) := Arv.set Ar_b5 q_b5 S_b5 N_b5 H_b5 G_b5 rfl W23 17 rfl (Nat.le_of_ble_eq_true rfl)
  have N23 := Fr.snoc X23 N22 g_b5
  obtain ⟨cl_b5_133, Ar_b5, q_b5, S_b5, N_b5, H_b5, G_b5⟩ := V_b5_23
  have hin133 : ¬ ((18 : Int32) < 0 ∨ cl_b5_133.slots.size ≤ ((18 : Int32)).toNatClampNeg) := inb_of S_b5 ⟨by decide, by decide⟩
  obtain ⟨T24, h24, X24, e24, W24, st24⟩ := stI X23 hx hZ e23 Ar_b5 (j := (18 : Int32)) hin133 (g := (mkF m 133 #[.val (.int p1), .val (.int p2), .val (.int p3), .val (.int p4), .val (.int p1), .unset, .unset, .unset] [(.int (8304 : Int32)), (.int (18 : Int32)), (.ref b5), (.ref b5)])) rfl rfl (hb hby at_133)
  have V_b5_24 : Arv Z h24 b5 k5 .int (34 : Int32) [(.int (97 : Int32)), (.int (122 : Int32)), (.int (65 : Int32)), (.int (90 : Int32)), (.int (95 : Int32)), (.int (58 : Int32)), (.int (192 : Int32)), (.int (214 : Int32)), (.int (216 : Int32)), (.int (246 : Int32)), (.int (248 : Int32)), (.int (767 : Int32)), (.int (880 : Int32)), (.int (893 : Int32)), (.int (895 : Int32)), (.int (8191 : Int32)), (.int (8204 : Int32)), (.int (8205 : Int32)), (.int (8304 : Int32)), (.int (0 : Int32)), (.int (0 : Int32)), (.int (0 : Int32)), (.int (0 : Int32)), (.int (0 : Int32)), (.int (0 : Int32)), (.int (0 : Int32)), (.int (0 : Int32)), (.int (0 : Int32)), (.int (0 : Int32)), (.int (0 : Int32)), (.int (0 : Int32)), (.int (0 : Int32)), (.int (0 : Int32)), (.int (0 : Int32))] (.int (0 : Int32)) := Arv.set Ar_b5 q_b5 S_b5 N_b5 H_b5 G_b5 rfl W24 18 rfl (Nat.le_of_ble_eq_true rfl)
  have N24 := Fr.snoc X24 N23 g_b5
  obtain ⟨cl_b5_140, Ar_b5, q_b5, S_b5, N_b5, H_b5, G_b5⟩ := V_b5_24
  have hin140 : ¬ ((19 : Int32) < 0 ∨ cl_b5_140.slots.size ≤ ((19 : Int32)).toNatClampNeg) := inb_of S_b5 ⟨by decide, by decide⟩
  obtain ⟨T25, h25, X25, e25, W25, st25⟩ := stI X24 hx hZ e24 Ar_b5 (j := (19 : Int32)) hin140 (g := (mkF m 140 #[.val (.int p1), .val (.int p2), .val (.int p3), .val (.int p4), .val (.int p1), .unset, .unset, .unset] [(.int (8591 : Int32)), (.int (19 : Int32)), (.ref b5), (.ref b5)])) rfl rfl (hb hby at_140)
  have V_b5_25 : Arv Z h25 b5 k5 .int (34 : Int32) [(.int (97 : Int32)), (.int (122 : Int32)), (.int (65 : Int32)), (.int (90 : Int32)), (.int (95 : Int32)), (.int (58 : Int32)), (.int (192 : Int32)), (.int (214 : Int32)), (.int (216 : Int32)), (.int (246 : Int32)), (.int (248 : Int32)), (.int (767 : Int32)), (.int (880 : Int32)), (.int (893 : Int32)), (.int (895 : Int32)), (.int (8191 : Int32)), (.int (8204 : Int32)), (.int (8205 : Int32)), (.int (8304 : Int32)), (.int (8591 : Int32)), (.int (0 : Int32)), (.int (0 : Int32)), (.int (0 : Int32)), (.int (0 : Int32)), (.int (0 : Int32)), (.int (0 : Int32)), (.int (0 : Int32)), (.int (0 : Int32)), (.int (0 : Int32)), (.int (0 : Int32)), (.int (0 : Int32)), (.int (0 : Int32)), (.int (0 : Int32)), (.int (0 : Int32))] (.int (0 : Int32)) := Arv.set Ar_b5 q_b5 S_b5 N_b5 H_b5 G_b5 rfl W25 19 rfl (Nat.le_of_ble_eq_true rfl)
  have N25 := Fr.snoc X25 N24 g_b5
  obtain ⟨cl_b5_147, Ar_b5, q_b5, S_b5, N_b5, H_b5, G_b5⟩ := V_b5_25
  have hin147 : ¬ ((20 : Int32) < 0 ∨ cl_b5_147.slots.size ≤ ((20 : Int32)).toNatClampNeg) := inb_of S_b5 ⟨by decide, by decide⟩
  obtain ⟨T26, h26, X26, e26, W26, st26⟩ := stI X25 hx hZ e25 Ar_b5 (j := (20 : Int32)) hin147 (g := (mkF m 147 #[.val (.int p1), .val (.int p2), .val (.int p3), .val (.int p4), .val (.int p1), .unset, .unset, .unset] [(.int (11264 : Int32)), (.int (20 : Int32)), (.ref b5), (.ref b5)])) rfl rfl (hb hby at_147)
  have V_b5_26 : Arv Z h26 b5 k5 .int (34 : Int32) [(.int (97 : Int32)), (.int (122 : Int32)), (.int (65 : Int32)), (.int (90 : Int32)), (.int (95 : Int32)), (.int (58 : Int32)), (.int (192 : Int32)), (.int (214 : Int32)), (.int (216 : Int32)), (.int (246 : Int32)), (.int (248 : Int32)), (.int (767 : Int32)), (.int (880 : Int32)), (.int (893 : Int32)), (.int (895 : Int32)), (.int (8191 : Int32)), (.int (8204 : Int32)), (.int (8205 : Int32)), (.int (8304 : Int32)), (.int (8591 : Int32)), (.int (11264 : Int32)), (.int (0 : Int32)), (.int (0 : Int32)), (.int (0 : Int32)), (.int (0 : Int32)), (.int (0 : Int32)), (.int (0 : Int32)), (.int (0 : Int32)), (.int (0 : Int32)), (.int (0 : Int32)), (.int (0 : Int32)), (.int (0 : Int32)), (.int (0 : Int32)), (.int (0 : Int32))] (.int (0 : Int32)) := Arv.set Ar_b5 q_b5 S_b5 N_b5 H_b5 G_b5 rfl W26 20 rfl (Nat.le_of_ble_eq_true rfl)
  have N26 := Fr.snoc X26 N25 g_b5
  obtain ⟨cl_b5_154, Ar_b5, q_b5, S_b5, N_b5, H_b5, G_b5⟩ := V_b5_26
  have hin154 : ¬ ((21 : Int32) < 0 ∨ cl_b5_154.slots.size ≤ ((21 : Int32)).toNatClampNeg) := inb_of S_b5 ⟨by decide, by decide⟩
  obtain ⟨T27, h27, X27, e27, W27, st27⟩ := stI X26 hx hZ e26 Ar_b5 (j := (21 : Int32)) hin154 (g := (mkF m 154 #[.val (.int p1), .val (.int p2), .val (.int p3), .val (.int p4), .val (.int p1), .unset, .unset, .unset] [(.int (12271 : Int32)), (.int (21 : Int32)), (.ref b5), (.ref b5)])) rfl rfl (hb hby at_154)
  have V_b5_27 : Arv Z h27 b5 k5 .int (34 : Int32) [(.int (97 : Int32)), (.int (122 : Int32)), (.int (65 : Int32)), (.int (90 : Int32)), (.int (95 : Int32)), (.int (58 : Int32)), (.int (192 : Int32)), (.int (214 : Int32)), (.int (216 : Int32)), (.int (246 : Int32)), (.int (248 : Int32)), (.int (767 : Int32)), (.int (880 : Int32)), (.int (893 : Int32)), (.int (895 : Int32)), (.int (8191 : Int32)), (.int (8204 : Int32)), (.int (8205 : Int32)), (.int (8304 : Int32)), (.int (8591 : Int32)), (.int (11264 : Int32)), (.int (12271 : Int32)), (.int (0 : Int32)), (.int (0 : Int32)), (.int (0 : Int32)), (.int (0 : Int32)), (.int (0 : Int32)), (.int (0 : Int32)), (.int (0 : Int32)), (.int (0 : Int32)), (.int (0 : Int32)), (.int (0 : Int32)), (.int (0 : Int32)), (.int (0 : Int32))] (.int (0 : Int32)) := Arv.set Ar_b5 q_b5 S_b5 N_b5 H_b5 G_b5 rfl W27 21 rfl (Nat.le_of_ble_eq_true rfl)
  have N27 := Fr.snoc X27 N26 g_b5
  obtain ⟨cl_b5_161, Ar_b5, q_b5, S_b5, N_b5, H_b5, G_b5⟩ := V_b5_27
  have hin161 : ¬ ((22 : Int32) < 0 ∨ cl_b5_161.slots.size ≤ ((22 : Int32)).toNatClampNeg) := inb_of S_b5 ⟨by decide, by decide⟩
  obtain ⟨T28, h28, X28, e28, W28, st28⟩ := stI X27 hx hZ e27 Ar_b5 (j := (22 : Int32)) hin161 (g := (mkF m 161 #[.val (.int p1), .val (.int p2), .val (.int p3), .val (.int p4), .val (.int p1), .unset, .unset, .unset] [(.int (12289 : Int32)), (.int (22 : Int32)), (.ref b5), (.ref b5)])) rfl rfl (hb hby at_161)
  have V_b5_28 : Arv Z h28 b5 k5 .int (34 : Int32) [(.int (97 : Int32)), (.int (122 : Int32)), (.int (65 : Int32)), (.int (90 : Int32)), (.int (95 : Int32)), (.int (58 : Int32)), (.int (192 : Int32)), (.int (214 : Int32)), (.int (216 : Int32)), (.int (246 : Int32)), (.int (248 : Int32)), (.int (767 : Int32)), (.int (880 : Int32)), (.int (893 : Int32)), (.int (895 : Int32)), (.int (8191 : Int32)), (.int (8204 : Int32)), (.int (8205 : Int32)), (.int (8304 : Int32)), (.int (8591 : Int32)), (.int (11264 : Int32)), (.int (12271 : Int32)), (.int (12289 : Int32)), (.int (0 : Int32)), (.int (0 : Int32)), (.int (0 : Int32)), (.int (0 : Int32)), (.int (0 : Int32)), (.int (0 : Int32)), (.int (0 : Int32)), (.int (0 : Int32)), (.int (0 : Int32)), (.int (0 : Int32)), (.int (0 : Int32))] (.int (0 : Int32)) := Arv.set Ar_b5 q_b5 S_b5 N_b5 H_b5 G_b5 rfl W28 22 rfl (Nat.le_of_ble_eq_true rfl)
  have N28 := Fr.snoc X28 N27 g_b5
  obtain ⟨cl_b5_167, Ar_b5, q_b5, S_b5, N_b5, H_b5, G_b5⟩ := V_b5_28
  have hin167 : ¬ ((23 : Int32) < 0 ∨ cl_b5_167.slots.size ≤ ((23 : Int32)).toNatClampNeg) := inb_of S_b5 ⟨by decide, by decide⟩
  obtain ⟨T29, h29, X29, e29, W29, st29⟩ := stI X28 hx hZ e28 Ar_b5 (j := (23 : Int32)) hin167 (g := (mkF m 167 #[.val (.int p1), .val (.int p2), .val (.int p3), .val (.int p4), .val (.int p1), .unset, .unset, .unset] [(.int (55295 : Int32)), (.int (23 : Int32)), (.ref b5), (.ref b5)])) rfl rfl (hb hby at_167)
  have V_b5_29 : Arv Z h29 b5 k5 .int (34 : Int32) [(.int (97 : Int32)), (.int (122 : Int32)), (.int (65 : Int32)), (.int (90 : Int32)), (.int (95 : Int32)), (.int (58 : Int32)), (.int (192 : Int32)), (.int (214 : Int32)), (.int (216 : Int32)), (.int (246 : Int32)), (.int (248 : Int32)), (.int (767 : Int32)), (.int (880 : Int32)), (.int (893 : Int32)), (.int (895 : Int32)), (.int (8191 : Int32)), (.int (8204 : Int32)), (.int (8205 : Int32)), (.int (8304 : Int32)), (.int (8591 : Int32)), (.int (11264 : Int32)), (.int (12271 : Int32)), (.int (12289 : Int32)), (.int (55295 : Int32)), (.int (0 : Int32)), (.int (0 : Int32)), (.int (0 : Int32)), (.int (0 : Int32)), (.int (0 : Int32)), (.int (0 : Int32)), (.int (0 : Int32)), (.int (0 : Int32)), (.int (0 : Int32)), (.int (0 : Int32))] (.int (0 : Int32)) := Arv.set Ar_b5 q_b5 S_b5 N_b5 H_b5 G_b5 rfl W29 23 rfl (Nat.le_of_ble_eq_true rfl)
  have N29 := Fr.snoc X29 N28 g_b5
  obtain ⟨cl_b5_173, Ar_b5, q_b5, S_b5, N_b5, H_b5, G_b5⟩ := V_b5_29
  have hin173 : ¬ ((24 : Int32) < 0 ∨ cl_b5_173.slots.size ≤ ((24 : Int32)).toNatClampNeg) := inb_of S_b5 ⟨by decide, by decide⟩
  obtain ⟨T30, h30, X30, e30, W30, st30⟩ := stI X29 hx hZ e29 Ar_b5 (j := (24 : Int32)) hin173 (g := (mkF m 173 #[.val (.int p1), .val (.int p2), .val (.int p3), .val (.int p4), .val (.int p1), .unset, .unset, .unset] [(.int (63744 : Int32)), (.int (24 : Int32)), (.ref b5), (.ref b5)])) rfl rfl (hb hby at_173)
  have V_b5_30 : Arv Z h30 b5 k5 .int (34 : Int32) [(.int (97 : Int32)), (.int (122 : Int32)), (.int (65 : Int32)), (.int (90 : Int32)), (.int (95 : Int32)), (.int (58 : Int32)), (.int (192 : Int32)), (.int (214 : Int32)), (.int (216 : Int32)), (.int (246 : Int32)), (.int (248 : Int32)), (.int (767 : Int32)), (.int (880 : Int32)), (.int (893 : Int32)), (.int (895 : Int32)), (.int (8191 : Int32)), (.int (8204 : Int32)), (.int (8205 : Int32)), (.int (8304 : Int32)), (.int (8591 : Int32)), (.int (11264 : Int32)), (.int (12271 : Int32)), (.int (12289 : Int32)), (.int (55295 : Int32)), (.int (63744 : Int32)), (.int (0 : Int32)), (.int (0 : Int32)), (.int (0 : Int32)), (.int (0 : Int32)), (.int (0 : Int32)), (.int (0 : Int32)), (.int (0 : Int32)), (.int (0 : Int32)), (.int (0 : Int32))] (.int (0 : Int32)) := Arv.set Ar_b5 q_b5 S_b5 N_b5 H_b5 G_b5 rfl W30 24 rfl (Nat.le_of_ble_eq_true rfl)
  have N30 := Fr.snoc X30 N29 g_b5
  obtain ⟨cl_b5_179, Ar_b5, q_b5, S_b5, N_b5, H_b5, G_b5⟩ := V_b5_30
  have hin179 : ¬ ((25 : Int32) < 0 ∨ cl_b5_179.slots.size ≤ ((25 : Int32)).toNatClampNeg) := inb_of S_b5 ⟨by decide, by decide⟩
  obtain ⟨T31, h31, X31, e31, W31, st31⟩ := stI X30 hx hZ e30 Ar_b5 (j := (25 : Int32)) hin179 (g := (mkF m 179 #[.val (.int p1), .val (.int p2), .val (.int p3), .val (.int p4), .val (.int p1), .unset, .unset, .unset] [(.int (64975 : Int32)), (.int (25 : Int32)), (.ref b5), (.ref b5)])) rfl rfl (hb hby at_179)
  have V_b5_31 : Arv Z h31 b5 k5 .int (34 : Int32) [(.int (97 : Int32)), (.int (122 : Int32)), (.int (65 : Int32)), (.int (90 : Int32)), (.int (95 : Int32)), (.int (58 : Int32)), (.int (192 : Int32)), (.int (214 : Int32)), (.int (216 : Int32)), (.int (246 : Int32)), (.int (248 : Int32)), (.int (767 : Int32)), (.int (880 : Int32)), (.int (893 : Int32)), (.int (895 : Int32)), (.int (8191 : Int32)), (.int (8204 : Int32)), (.int (8205 : Int32)), (.int (8304 : Int32)), (.int (8591 : Int32)), (.int (11264 : Int32)), (.int (12271 : Int32)), (.int (12289 : Int32)), (.int (55295 : Int32)), (.int (63744 : Int32)), (.int (64975 : Int32)), (.int (0 : Int32)), (.int (0 : Int32)), (.int (0 : Int32)), (.int (0 : Int32)), (.int (0 : Int32)), (.int (0 : Int32)), (.int (0 : Int32)), (.int (0 : Int32))] (.int (0 : Int32)) := Arv.set Ar_b5 q_b5 S_b5 N_b5 H_b5 G_b5 rfl W31 25 rfl (Nat.le_of_ble_eq_true rfl)
  have N31 := Fr.snoc X31 N30 g_b5
  obtain ⟨cl_b5_185, Ar_b5, q_b5, S_b5, N_b5, H_b5, G_b5⟩ := V_b5_31
  have hin185 : ¬ ((26 : Int32) < 0 ∨ cl_b5_185.slots.size ≤ ((26 : Int32)).toNatClampNeg) := inb_of S_b5 ⟨by decide, by decide⟩
  obtain ⟨T32, h32, X32, e32, W32, st32⟩ := stI X31 hx hZ e31 Ar_b5 (j := (26 : Int32)) hin185 (g := (mkF m 185 #[.val (.int p1), .val (.int p2), .val (.int p3), .val (.int p4), .val (.int p1), .unset, .unset, .unset] [(.int (65008 : Int32)), (.int (26 : Int32)), (.ref b5), (.ref b5)])) rfl rfl (hb hby at_185)
  have V_b5_32 : Arv Z h32 b5 k5 .int (34 : Int32) [(.int (97 : Int32)), (.int (122 : Int32)), (.int (65 : Int32)), (.int (90 : Int32)), (.int (95 : Int32)), (.int (58 : Int32)), (.int (192 : Int32)), (.int (214 : Int32)), (.int (216 : Int32)), (.int (246 : Int32)), (.int (248 : Int32)), (.int (767 : Int32)), (.int (880 : Int32)), (.int (893 : Int32)), (.int (895 : Int32)), (.int (8191 : Int32)), (.int (8204 : Int32)), (.int (8205 : Int32)), (.int (8304 : Int32)), (.int (8591 : Int32)), (.int (11264 : Int32)), (.int (12271 : Int32)), (.int (12289 : Int32)), (.int (55295 : Int32)), (.int (63744 : Int32)), (.int (64975 : Int32)), (.int (65008 : Int32)), (.int (0 : Int32)), (.int (0 : Int32)), (.int (0 : Int32)), (.int (0 : Int32)), (.int (0 : Int32)), (.int (0 : Int32)), (.int (0 : Int32))] (.int (0 : Int32)) := Arv.set Ar_b5 q_b5 S_b5 N_b5 H_b5 G_b5 rfl W32 26 rfl (Nat.le_of_ble_eq_true rfl)
  have N32 := Fr.snoc X32 N31 g_b5
  obtain ⟨cl_b5_191, Ar_b5, q_b5, S_b5, N_b5, H_b5, G_b5⟩ := V_b5_32
  have hin191 : ¬ ((27 : Int32) < 0 ∨ cl_b5_191.slots.size ≤ ((27 : Int32)).toNatClampNeg) := inb_of S_b5 ⟨by decide, by decide⟩
  obtain ⟨T33, h33, X33, e33, W33, st33⟩ := stI X32 hx hZ e32 Ar_b5 (j := (27 : Int32)) hin191 (g := (mkF m 191 #[.val (.int p1), .val (.int p2), .val (.int p3), .val (.int p4), .val (.int p1), .unset, .unset, .unset] [(.int (65533 : Int32)), (.int (27 : Int32)), (.ref b5), (.ref b5)])) rfl rfl (hb hby at_191)
  have V_b5_33 : Arv Z h33 b5 k5 .int (34 : Int32) [(.int (97 : Int32)), (.int (122 : Int32)), (.int (65 : Int32)), (.int (90 : Int32)), (.int (95 : Int32)), (.int (58 : Int32)), (.int (192 : Int32)), (.int (214 : Int32)), (.int (216 : Int32)), (.int (246 : Int32)), (.int (248 : Int32)), (.int (767 : Int32)), (.int (880 : Int32)), (.int (893 : Int32)), (.int (895 : Int32)), (.int (8191 : Int32)), (.int (8204 : Int32)), (.int (8205 : Int32)), (.int (8304 : Int32)), (.int (8591 : Int32)), (.int (11264 : Int32)), (.int (12271 : Int32)), (.int (12289 : Int32)), (.int (55295 : Int32)), (.int (63744 : Int32)), (.int (64975 : Int32)), (.int (65008 : Int32)), (.int (65533 : Int32)), (.int (0 : Int32)), (.int (0 : Int32)), (.int (0 : Int32)), (.int (0 : Int32)), (.int (0 : Int32)), (.int (0 : Int32))] (.int (0 : Int32)) := Arv.set Ar_b5 q_b5 S_b5 N_b5 H_b5 G_b5 rfl W33 27 rfl (Nat.le_of_ble_eq_true rfl)
  have N33 := Fr.snoc X33 N32 g_b5
  obtain ⟨cl_b5_197, Ar_b5, q_b5, S_b5, N_b5, H_b5, G_b5⟩ := V_b5_33
  have hin197 : ¬ ((28 : Int32) < 0 ∨ cl_b5_197.slots.size ≤ ((28 : Int32)).toNatClampNeg) := inb_of S_b5 ⟨by decide, by decide⟩
  obtain ⟨T34, h34, X34, e34, W34, st34⟩ := stI X33 hx hZ e33 Ar_b5 (j := (28 : Int32)) hin197 (g := (mkF m 197 #[.val (.int p1), .val (.int p2), .val (.int p3), .val (.int p4), .val (.int p1), .unset, .unset, .unset] [(.int (65536 : Int32)), (.int (28 : Int32)), (.ref b5), (.ref b5)])) rfl rfl (hb hby at_197)
  have V_b5_34 : Arv Z h34 b5 k5 .int (34 : Int32) [(.int (97 : Int32)), (.int (122 : Int32)), (.int (65 : Int32)), (.int (90 : Int32)), (.int (95 : Int32)), (.int (58 : Int32)), (.int (192 : Int32)), (.int (214 : Int32)), (.int (216 : Int32)), (.int (246 : Int32)), (.int (248 : Int32)), (.int (767 : Int32)), (.int (880 : Int32)), (.int (893 : Int32)), (.int (895 : Int32)), (.int (8191 : Int32)), (.int (8204 : Int32)), (.int (8205 : Int32)), (.int (8304 : Int32)), (.int (8591 : Int32)), (.int (11264 : Int32)), (.int (12271 : Int32)), (.int (12289 : Int32)), (.int (55295 : Int32)), (.int (63744 : Int32)), (.int (64975 : Int32)), (.int (65008 : Int32)), (.int (65533 : Int32)), (.int (65536 : Int32)), (.int (0 : Int32)), (.int (0 : Int32)), (.int (0 : Int32)), (.int (0 : Int32)), (.int (0 : Int32))] (.int (0 : Int32)) := Arv.set Ar_b5 q_b5 S_b5 N_b5 H_b5 G_b5 rfl W34 28 rfl (Nat.le_of_ble_eq_true rfl)
  have N34 := Fr.snoc X34 N33 g_b5
  obtain ⟨cl_b5_203, Ar_b5, q_b5, S_b5, N_b5, H_b5, G_b5⟩ := V_b5_34
  have hin203 : ¬ ((29 : Int32) < 0 ∨ cl_b5_203.slots.size ≤ ((29 : Int32)).toNatClampNeg) := inb_of S_b5 ⟨by decide, by decide⟩
  obtain ⟨T35, h35, X35, e35, W35, st35⟩ := stI X34 hx hZ e34 Ar_b5 (j := (29 : Int32)) hin203 (g := (mkF m 203 #[.val (.int p1), .val (.int p2), .val (.int p3), .val (.int p4), .val (.int p1), .unset, .unset, .unset] [(.int (983039 : Int32)), (.int (29 : Int32)), (.ref b5), (.ref b5)])) rfl rfl (hb hby at_203)
  have V_b5_35 : Arv Z h35 b5 k5 .int (34 : Int32) [(.int (97 : Int32)), (.int (122 : Int32)), (.int (65 : Int32)), (.int (90 : Int32)), (.int (95 : Int32)), (.int (58 : Int32)), (.int (192 : Int32)), (.int (214 : Int32)), (.int (216 : Int32)), (.int (246 : Int32)), (.int (248 : Int32)), (.int (767 : Int32)), (.int (880 : Int32)), (.int (893 : Int32)), (.int (895 : Int32)), (.int (8191 : Int32)), (.int (8204 : Int32)), (.int (8205 : Int32)), (.int (8304 : Int32)), (.int (8591 : Int32)), (.int (11264 : Int32)), (.int (12271 : Int32)), (.int (12289 : Int32)), (.int (55295 : Int32)), (.int (63744 : Int32)), (.int (64975 : Int32)), (.int (65008 : Int32)), (.int (65533 : Int32)), (.int (65536 : Int32)), (.int (983039 : Int32)), (.int (0 : Int32)), (.int (0 : Int32)), (.int (0 : Int32)), (.int (0 : Int32))] (.int (0 : Int32)) := Arv.set Ar_b5 q_b5 S_b5 N_b5 H_b5 G_b5 rfl W35 29 rfl (Nat.le_of_ble_eq_true rfl)
  have N35 := Fr.snoc X35 N34 g_b5
  obtain ⟨cl_b5_208, Ar_b5, q_b5, S_b5, N_b5, H_b5, G_b5⟩ := V_b5_35
  have hin208 : ¬ ((30 : Int32) < 0 ∨ cl_b5_208.slots.size ≤ ((30 : Int32)).toNatClampNeg) := inb_of S_b5 ⟨by decide, by decide⟩
  obtain ⟨T36, h36, X36, e36, W36, st36⟩ := stI X35 hx hZ e35 Ar_b5 (j := (30 : Int32)) hin208 (g := (mkF m 208 #[.val (.int p1), .val (.int p2), .val (.int p3), .val (.int p4), .val (.int p1), .unset, .unset, .unset] [(.int (0 : Int32)), (.int (30 : Int32)), (.ref b5), (.ref b5)])) rfl rfl (hb hby at_208)
  have V_b5_36 : Arv Z h36 b5 k5 .int (34 : Int32) [(.int (97 : Int32)), (.int (122 : Int32)), (.int (65 : Int32)), (.int (90 : Int32)), (.int (95 : Int32)), (.int (58 : Int32)), (.int (192 : Int32)), (.int (214 : Int32)), (.int (216 : Int32)), (.int (246 : Int32)), (.int (248 : Int32)), (.int (767 : Int32)), (.int (880 : Int32)), (.int (893 : Int32)), (.int (895 : Int32)), (.int (8191 : Int32)), (.int (8204 : Int32)), (.int (8205 : Int32)), (.int (8304 : Int32)), (.int (8591 : Int32)), (.int (11264 : Int32)), (.int (12271 : Int32)), (.int (12289 : Int32)), (.int (55295 : Int32)), (.int (63744 : Int32)), (.int (64975 : Int32)), (.int (65008 : Int32)), (.int (65533 : Int32)), (.int (65536 : Int32)), (.int (983039 : Int32)), (.int (0 : Int32)), (.int (0 : Int32)), (.int (0 : Int32)), (.int (0 : Int32))] (.int (0 : Int32)) := Arv.set Ar_b5 q_b5 S_b5 N_b5 H_b5 G_b5 rfl W36 30 rfl (Nat.le_of_ble_eq_true rfl)
  have N36 := Fr.snoc X36 N35 g_b5
  obtain ⟨cl_b5_214, Ar_b5, q_b5, S_b5, N_b5, H_b5, G_b5⟩ := V_b5_36
  have hin214 : ¬ ((31 : Int32) < 0 ∨ cl_b5_214.slots.size ≤ ((31 : Int32)).toNatClampNeg) := inb_of S_b5 ⟨by decide, by decide⟩
  obtain ⟨T37, h37, X37, e37, W37, st37⟩ := stI X36 hx hZ e36 Ar_b5 (j := (31 : Int32)) hin214 (g := (mkF m 214 #[.val (.int p1), .val (.int p2), .val (.int p3), .val (.int p4), .val (.int p1), .unset, .unset, .unset] [(.int (-2147483648 : Int32)), (.int (31 : Int32)), (.ref b5), (.ref b5)])) rfl rfl (hb hby at_214)
  have V_b5_37 : Arv Z h37 b5 k5 .int (34 : Int32) [(.int (97 : Int32)), (.int (122 : Int32)), (.int (65 : Int32)), (.int (90 : Int32)), (.int (95 : Int32)), (.int (58 : Int32)), (.int (192 : Int32)), (.int (214 : Int32)), (.int (216 : Int32)), (.int (246 : Int32)), (.int (248 : Int32)), (.int (767 : Int32)), (.int (880 : Int32)), (.int (893 : Int32)), (.int (895 : Int32)), (.int (8191 : Int32)), (.int (8204 : Int32)), (.int (8205 : Int32)), (.int (8304 : Int32)), (.int (8591 : Int32)), (.int (11264 : Int32)), (.int (12271 : Int32)), (.int (12289 : Int32)), (.int (55295 : Int32)), (.int (63744 : Int32)), (.int (64975 : Int32)), (.int (65008 : Int32)), (.int (65533 : Int32)), (.int (65536 : Int32)), (.int (983039 : Int32)), (.int (0 : Int32)), (.int (-2147483648 : Int32)), (.int (0 : Int32)), (.int (0 : Int32))] (.int (0 : Int32)) := Arv.set Ar_b5 q_b5 S_b5 N_b5 H_b5 G_b5 rfl W37 31 rfl (Nat.le_of_ble_eq_true rfl)
  have N37 := Fr.snoc X37 N36 g_b5
  obtain ⟨cl_b5_220, Ar_b5, q_b5, S_b5, N_b5, H_b5, G_b5⟩ := V_b5_37
  have hin220 : ¬ ((32 : Int32) < 0 ∨ cl_b5_220.slots.size ≤ ((32 : Int32)).toNatClampNeg) := inb_of S_b5 ⟨by decide, by decide⟩
  obtain ⟨T38, h38, X38, e38, W38, st38⟩ := stI X37 hx hZ e37 Ar_b5 (j := (32 : Int32)) hin220 (g := (mkF m 220 #[.val (.int p1), .val (.int p2), .val (.int p3), .val (.int p4), .val (.int p1), .unset, .unset, .unset] [(.int (2147483647 : Int32)), (.int (32 : Int32)), (.ref b5), (.ref b5)])) rfl rfl (hb hby at_220)
  have V_b5_38 : Arv Z h38 b5 k5 .int (34 : Int32) [(.int (97 : Int32)), (.int (122 : Int32)), (.int (65 : Int32)), (.int (90 : Int32)), (.int (95 : Int32)), (.int (58 : Int32)), (.int (192 : Int32)), (.int (214 : Int32)), (.int (216 : Int32)), (.int (246 : Int32)), (.int (248 : Int32)), (.int (767 : Int32)), (.int (880 : Int32)), (.int (893 : Int32)), (.int (895 : Int32)), (.int (8191 : Int32)), (.int (8204 : Int32)), (.int (8205 : Int32)), (.int (8304 : Int32)), (.int (8591 : Int32)), (.int (11264 : Int32)), (.int (12271 : Int32)), (.int (12289 : Int32)), (.int (55295 : Int32)), (.int (63744 : Int32)), (.int (64975 : Int32)), (.int (65008 : Int32)), (.int (65533 : Int32)), (.int (65536 : Int32)), (.int (983039 : Int32)), (.int (0 : Int32)), (.int (-2147483648 : Int32)), (.int (2147483647 : Int32)), (.int (0 : Int32))] (.int (0 : Int32)) := Arv.set Ar_b5 q_b5 S_b5 N_b5 H_b5 G_b5 rfl W38 32 rfl (Nat.le_of_ble_eq_true rfl)
  have N38 := Fr.snoc X38 N37 g_b5
  obtain ⟨cl_b5_226, Ar_b5, q_b5, S_b5, N_b5, H_b5, G_b5⟩ := V_b5_38
  have hin226 : ¬ ((33 : Int32) < 0 ∨ cl_b5_226.slots.size ≤ ((33 : Int32)).toNatClampNeg) := inb_of S_b5 ⟨by decide, by decide⟩
  obtain ⟨T39, h39, X39, e39, W39, st39⟩ := stI X38 hx hZ e38 Ar_b5 (j := (33 : Int32)) hin226 (g := (mkF m 226 #[.val (.int p1), .val (.int p2), .val (.int p3), .val (.int p4), .val (.int p1), .unset, .unset, .unset] [(.int (1114111 : Int32)), (.int (33 : Int32)), (.ref b5), (.ref b5)])) rfl rfl (hb hby at_226)
  have V_b5_39 : Arv Z h39 b5 k5 .int (34 : Int32) [(.int (97 : Int32)), (.int (122 : Int32)), (.int (65 : Int32)), (.int (90 : Int32)), (.int (95 : Int32)), (.int (58 : Int32)), (.int (192 : Int32)), (.int (214 : Int32)), (.int (216 : Int32)), (.int (246 : Int32)), (.int (248 : Int32)), (.int (767 : Int32)), (.int (880 : Int32)), (.int (893 : Int32)), (.int (895 : Int32)), (.int (8191 : Int32)), (.int (8204 : Int32)), (.int (8205 : Int32)), (.int (8304 : Int32)), (.int (8591 : Int32)), (.int (11264 : Int32)), (.int (12271 : Int32)), (.int (12289 : Int32)), (.int (55295 : Int32)), (.int (63744 : Int32)), (.int (64975 : Int32)), (.int (65008 : Int32)), (.int (65533 : Int32)), (.int (65536 : Int32)), (.int (983039 : Int32)), (.int (0 : Int32)), (.int (-2147483648 : Int32)), (.int (2147483647 : Int32)), (.int (1114111 : Int32))] (.int (0 : Int32)) := Arv.set Ar_b5 q_b5 S_b5 N_b5 H_b5 G_b5 rfl W39 33 rfl (Nat.le_of_ble_eq_true rfl)
  have N39 := Fr.snoc X39 N38 g_b5
  obtain ⟨cl_b5_235, Ar_b5, -, S_b5, N_b5, H_b5, G_b5⟩ := V_b5_39
  have hin253 := inb_of (j := ((p2 &&& (2147483647 : Int32)) % (34 : Int32))) S_b5 (own_ix p2 (34 : Int32) 34 (by decide) (by decide))
  have hlt253 : (((p2 &&& (2147483647 : Int32)) % (34 : Int32))).toNatClampNeg < cl_b5_235.slots.size := Nat.lt_of_not_le fun q => hin253 (Or.inr q)
  obtain ⟨w40, hw40⟩ := own_fit (G_b5 _ hlt253)
  have hat253 : cl_b5_235.slots[(((p2 &&& (2147483647 : Int32)) % (34 : Int32))).toNatClampNeg]? = some (.int w40) := by rw [H_b5 _ hlt253, hw40]
  have Z39 : n0 ≤ h39.size := Nat.le_of_lt (Nat.lt_of_le_of_lt g_b5 Ar_b5.lt)
  obtain ⟨_, _, ⟨T41, L41, k41, n41⟩, -, X41, ⟨Lc41, hQ41, l41, y41, z41⟩, st41⟩ := Jvm.LawKit.callS X39 hx (y := (⟨"com/example/exqel/exqel/value/XmlChars", "isNameStartChar", "(I)Z"⟩ : MethodName)) hown (mvT hZ (hw _ (List.mem_of_getElem? (i := 0) rfl))) (mvT hZ (hw _ (List.mem_of_getElem? (i := 1) rfl))) (mvT hZ (hw _ (List.mem_of_getElem? (i := 2) rfl))) (mvT hZ (hw _ (List.mem_of_getElem? (i := 3) rfl))) (by decide) (backOf (W := 0) (rm1 l Z a0 hw [] (w40 + (((p3 &&& (2147483647 : Int32)) % (3 : Int32)) - (1 : Int32))) h39 n0 Z39) hZ (hw _ (List.mem_of_getElem? (i := 3) rfl)) (hw _ (List.mem_of_getElem? (i := 2) rfl)) (by decide) (by decide)) (g := (mkF m 261 #[.val (.int p1), .val (.int p2), .val (.int p3), .val (.int p4), .val (.int (w40 + (((p3 &&& (2147483647 : Int32)) % (3 : Int32)) - (1 : Int32)))), .val (.ref b5), .val (.int ((p2 &&& (2147483647 : Int32)) % (34 : Int32))), .val (.int (((p3 &&& (2147483647 : Int32)) % (3 : Int32)) - (1 : Int32)))] [(.int (w40 + (((p3 &&& (2147483647 : Int32)) % (3 : Int32)) - (1 : Int32))))])) rfl (by rw [hml]; rfl) (argsL := [(.int (w40 + (((p3 &&& (2147483647 : Int32)) % (3 : Int32)) - (1 : Int32))))]) (rest := []) (lenOf pd_0_0 rfl) rfl (by show 2 * 0 + _ ≤ _; exact Nat.le_of_eq rfl) (hb hby at_261) (fun _ _ => ⟨rfl, e39, (by decide : 1 + 0 ≤ _), (by decide : 34 + 0 ≤ _)⟩)
  dsimp only [Pt.U, Pt.locs, Pt.cells, Pt.slots] at X41 l41 y41 z41 st41 hQ41
  rw [l41, y41, z41] at X41
  obtain ⟨rfl, N41q, q41e⟩ := hQ41
  have Z41 : n0 ≤ T41.heap.size := by rw [q41e]; exact Z39
  have N41 := Fr.app N39 N41q
  obtain ⟨_, _, ⟨T42, L42, k42, n42⟩, -, X42, ⟨Lc42, hQ42, l42, y42, z42⟩, st42⟩ := Jvm.LawKit.callS X41 hx (y := (⟨"com/example/exqel/exqel/value/XmlCharsIsNameStartCharPinLaw", "ref", "(I)Z"⟩ : MethodName)) hown (mvT hZ (hw _ (List.mem_of_getElem? (i := 7) rfl))) (mvT hZ (hw _ (List.mem_of_getElem? (i := 8) rfl))) (mvT hZ (hw _ (List.mem_of_getElem? (i := 9) rfl))) (mvT hZ (hw _ (List.mem_of_getElem? (i := 10) rfl))) (by decide) (backOf (W := 1) (rm2 l Z a0 hw [] (w40 + (((p3 &&& (2147483647 : Int32)) % (3 : Int32)) - (1 : Int32))) T41.heap n0 Z41) hZ (hw _ (List.mem_of_getElem? (i := 10) rfl)) (hw _ (List.mem_of_getElem? (i := 9) rfl)) (by decide) (by decide)) (g := (mkF m 266 #[.val (.int p1), .val (.int p2), .val (.int p3), .val (.int p4), .val (.int (w40 + (((p3 &&& (2147483647 : Int32)) % (3 : Int32)) - (1 : Int32)))), .val (.ref b5), .val (.int ((p2 &&& (2147483647 : Int32)) % (34 : Int32))), .val (.int (((p3 &&& (2147483647 : Int32)) % (3 : Int32)) - (1 : Int32)))] [(.int (w40 + (((p3 &&& (2147483647 : Int32)) % (3 : Int32)) - (1 : Int32)))), (.int (own_f1_0 (w40 + (((p3 &&& (2147483647 : Int32)) % (3 : Int32)) - (1 : Int32)))))])) rfl (by rw [hml]; rfl) (argsL := [(.int (w40 + (((p3 &&& (2147483647 : Int32)) % (3 : Int32)) - (1 : Int32))))]) (rest := [(.int (own_f1_0 (w40 + (((p3 &&& (2147483647 : Int32)) % (3 : Int32)) - (1 : Int32)))))]) (lenOf pd_0_0 rfl) rfl (by show 2 * 0 + _ ≤ _; exact Nat.le_of_eq rfl) (hb hby at_266) (fun _ _ => ⟨rfl, rfl, (by decide : 1 + 0 ≤ _), (by decide : 34 + 0 ≤ _)⟩)
  dsimp only [Pt.U, Pt.locs, Pt.cells, Pt.slots] at X42 l42 y42 z42 st42 hQ42
  rw [l42, y42, z42] at X42
  obtain ⟨rfl, N42q, q42e⟩ := hQ42
  have Z42 : n0 ≤ T42.heap.size := by rw [q42e]; exact Z41
  have N42 := Fr.app N41 N42q
  obtain ⟨fs, hr, hrun, hended, hW, hsame⟩ := X42.leave (v := some (.int (1 : Int32))) (fun h => by rw [Bd.returns] at h; cases h)
  refine ⟨_, _, pre0 _ ?_, hrun, hended, _, _, rfl, ?_, ⟨_, rfl⟩, hW, hsame.mono (by decide) (by decide)⟩
  · show Steps p.tables e below (s₁.setTop (mkF m 0 #[.val (.int p1), .val (.int p2), .val (.int p3), .val (.int p4), .unset, .unset, .unset, .unset] [])) _
    refine XS.iloadN X0.here hx rfl (hb hby at_0) rfl ?_
    show Steps p.tables e below (s₁.setTop (mkF m 1 #[.val (.int p1), .val (.int p2), .val (.int p3), .val (.int p4), .unset, .unset, .unset, .unset] [(.int p1)])) _
    refine XS.istore X0.here hx rfl (hb hby at_1) rfl (l' := #[.val (.int p1), .val (.int p2), .val (.int p3), .val (.int p4), .val (.int p1), .unset, .unset, .unset]) rfl ?_
    show Steps p.tables e below (s₁.setTop (mkF m 3 #[.val (.int p1), .val (.int p2), .val (.int p3), .val (.int p4), .val (.int p1), .unset, .unset, .unset] [])) _
    refine XS.iloadN X0.here hx rfl (hb hby at_3) rfl ?_
    show Steps p.tables e below (s₁.setTop (mkF m 4 #[.val (.int p1), .val (.int p2), .val (.int p3), .val (.int p4), .val (.int p1), .unset, .unset, .unset] [(.int p4)])) _
    refine XS.iconst X0.here hx rfl (hb hby at_4) ?_
    show Steps p.tables e below (s₁.setTop (mkF m 5 #[.val (.int p1), .val (.int p2), .val (.int p3), .val (.int p4), .val (.int p1), .unset, .unset, .unset] [(.int (1 : Int32)), (.int p4)])) _
    refine XS.iand X0.here hx rfl (hb hby at_5) rfl ?_
    show Steps p.tables e below (s₁.setTop (mkF m 6 #[.val (.int p1), .val (.int p2), .val (.int p3), .val (.int p4), .val (.int p1), .unset, .unset, .unset] [(.int (p4 &&& (1 : Int32)))])) _
    refine XS.ifNo X0.here hx rfl (hb hby at_6) rfl ((if0 _ _).trans (teq hc6).2) ?_
    show Steps p.tables e below (s₁.setTop (mkF m 9 #[.val (.int p1), .val (.int p2), .val (.int p3), .val (.int p4), .val (.int p1), .unset, .unset, .unset] [])) _
    refine XS.bipush X0.here hx rfl (hb hby at_9) ?_
    show Steps p.tables e below (s₁.setTop (mkF m 11 #[.val (.int p1), .val (.int p2), .val (.int p3), .val (.int p4), .val (.int p1), .unset, .unset, .unset] [(.int (34 : Int32))])) _
    refine st5 _ ?_
    show Steps p.tables e below (T5.setTop (mkF m 13 #[.val (.int p1), .val (.int p2), .val (.int p3), .val (.int p4), .val (.int p1), .unset, .unset, .unset] [(.ref b5)])) _
    refine XS.dup X5.here hx rfl (hb hby at_13) rfl rfl ?_
    show Steps p.tables e below (T5.setTop (mkF m 14 #[.val (.int p1), .val (.int p2), .val (.int p3), .val (.int p4), .val (.int p1), .unset, .unset, .unset] [(.ref b5), (.ref b5)])) _
    refine XS.iconst X5.here hx rfl (hb hby at_14) ?_
    show Steps p.tables e below (T5.setTop (mkF m 15 #[.val (.int p1), .val (.int p2), .val (.int p3), .val (.int p4), .val (.int p1), .unset, .unset, .unset] [(.int (0 : Int32)), (.ref b5), (.ref b5)])) _
    refine XS.bipush X5.here hx rfl (hb hby at_15) ?_
    show Steps p.tables e below (T5.setTop (mkF m 17 #[.val (.int p1), .val (.int p2), .val (.int p3), .val (.int p4), .val (.int p1), .unset, .unset, .unset] [(.int (97 : Int32)), (.int (0 : Int32)), (.ref b5), (.ref b5)])) _
    refine st6 _ ?_
    show Steps p.tables e below (T6.setTop (mkF m 18 #[.val (.int p1), .val (.int p2), .val (.int p3), .val (.int p4), .val (.int p1), .unset, .unset, .unset] [(.ref b5)])) _
    refine XS.dup X6.here hx rfl (hb hby at_18) rfl rfl ?_
    show Steps p.tables e below (T6.setTop (mkF m 19 #[.val (.int p1), .val (.int p2), .val (.int p3), .val (.int p4), .val (.int p1), .unset, .unset, .unset] [(.ref b5), (.ref b5)])) _
    refine XS.iconst X6.here hx rfl (hb hby at_19) ?_
    show Steps p.tables e below (T6.setTop (mkF m 20 #[.val (.int p1), .val (.int p2), .val (.int p3), .val (.int p4), .val (.int p1), .unset, .unset, .unset] [(.int (1 : Int32)), (.ref b5), (.ref b5)])) _
    refine XS.bipush X6.here hx rfl (hb hby at_20) ?_
    show Steps p.tables e below (T6.setTop (mkF m 22 #[.val (.int p1), .val (.int p2), .val (.int p3), .val (.int p4), .val (.int p1), .unset, .unset, .unset] [(.int (122 : Int32)), (.int (1 : Int32)), (.ref b5), (.ref b5)])) _
    refine st7 _ ?_
    show Steps p.tables e below (T7.setTop (mkF m 23 #[.val (.int p1), .val (.int p2), .val (.int p3), .val (.int p4), .val (.int p1), .unset, .unset, .unset] [(.ref b5)])) _
    refine XS.dup X7.here hx rfl (hb hby at_23) rfl rfl ?_
    show Steps p.tables e below (T7.setTop (mkF m 24 #[.val (.int p1), .val (.int p2), .val (.int p3), .val (.int p4), .val (.int p1), .unset, .unset, .unset] [(.ref b5), (.ref b5)])) _
    refine XS.iconst X7.here hx rfl (hb hby at_24) ?_
    show Steps p.tables e below (T7.setTop (mkF m 25 #[.val (.int p1), .val (.int p2), .val (.int p3), .val (.int p4), .val (.int p1), .unset, .unset, .unset] [(.int (2 : Int32)), (.ref b5), (.ref b5)])) _
    refine XS.bipush X7.here hx rfl (hb hby at_25) ?_
    show Steps p.tables e below (T7.setTop (mkF m 27 #[.val (.int p1), .val (.int p2), .val (.int p3), .val (.int p4), .val (.int p1), .unset, .unset, .unset] [(.int (65 : Int32)), (.int (2 : Int32)), (.ref b5), (.ref b5)])) _
    refine st8 _ ?_
    show Steps p.tables e below (T8.setTop (mkF m 28 #[.val (.int p1), .val (.int p2), .val (.int p3), .val (.int p4), .val (.int p1), .unset, .unset, .unset] [(.ref b5)])) _
    refine XS.dup X8.here hx rfl (hb hby at_28) rfl rfl ?_
    show Steps p.tables e below (T8.setTop (mkF m 29 #[.val (.int p1), .val (.int p2), .val (.int p3), .val (.int p4), .val (.int p1), .unset, .unset, .unset] [(.ref b5), (.ref b5)])) _
    refine XS.iconst X8.here hx rfl (hb hby at_29) ?_
    show Steps p.tables e below (T8.setTop (mkF m 30 #[.val (.int p1), .val (.int p2), .val (.int p3), .val (.int p4), .val (.int p1), .unset, .unset, .unset] [(.int (3 : Int32)), (.ref b5), (.ref b5)])) _
    refine XS.bipush X8.here hx rfl (hb hby at_30) ?_
    show Steps p.tables e below (T8.setTop (mkF m 32 #[.val (.int p1), .val (.int p2), .val (.int p3), .val (.int p4), .val (.int p1), .unset, .unset, .unset] [(.int (90 : Int32)), (.int (3 : Int32)), (.ref b5), (.ref b5)])) _
    refine st9 _ ?_
    show Steps p.tables e below (T9.setTop (mkF m 33 #[.val (.int p1), .val (.int p2), .val (.int p3), .val (.int p4), .val (.int p1), .unset, .unset, .unset] [(.ref b5)])) _
    refine XS.dup X9.here hx rfl (hb hby at_33) rfl rfl ?_
    show Steps p.tables e below (T9.setTop (mkF m 34 #[.val (.int p1), .val (.int p2), .val (.int p3), .val (.int p4), .val (.int p1), .unset, .unset, .unset] [(.ref b5), (.ref b5)])) _
    refine XS.iconst X9.here hx rfl (hb hby at_34) ?_
    show Steps p.tables e below (T9.setTop (mkF m 35 #[.val (.int p1), .val (.int p2), .val (.int p3), .val (.int p4), .val (.int p1), .unset, .unset, .unset] [(.int (4 : Int32)), (.ref b5), (.ref b5)])) _
    refine XS.bipush X9.here hx rfl (hb hby at_35) ?_
    show Steps p.tables e below (T9.setTop (mkF m 37 #[.val (.int p1), .val (.int p2), .val (.int p3), .val (.int p4), .val (.int p1), .unset, .unset, .unset] [(.int (95 : Int32)), (.int (4 : Int32)), (.ref b5), (.ref b5)])) _
    refine st10 _ ?_
    show Steps p.tables e below (T10.setTop (mkF m 38 #[.val (.int p1), .val (.int p2), .val (.int p3), .val (.int p4), .val (.int p1), .unset, .unset, .unset] [(.ref b5)])) _
    refine XS.dup X10.here hx rfl (hb hby at_38) rfl rfl ?_
    show Steps p.tables e below (T10.setTop (mkF m 39 #[.val (.int p1), .val (.int p2), .val (.int p3), .val (.int p4), .val (.int p1), .unset, .unset, .unset] [(.ref b5), (.ref b5)])) _
    refine XS.iconst X10.here hx rfl (hb hby at_39) ?_
    show Steps p.tables e below (T10.setTop (mkF m 40 #[.val (.int p1), .val (.int p2), .val (.int p3), .val (.int p4), .val (.int p1), .unset, .unset, .unset] [(.int (5 : Int32)), (.ref b5), (.ref b5)])) _
    refine XS.bipush X10.here hx rfl (hb hby at_40) ?_
    show Steps p.tables e below (T10.setTop (mkF m 42 #[.val (.int p1), .val (.int p2), .val (.int p3), .val (.int p4), .val (.int p1), .unset, .unset, .unset] [(.int (58 : Int32)), (.int (5 : Int32)), (.ref b5), (.ref b5)])) _
    refine st11 _ ?_
    show Steps p.tables e below (T11.setTop (mkF m 43 #[.val (.int p1), .val (.int p2), .val (.int p3), .val (.int p4), .val (.int p1), .unset, .unset, .unset] [(.ref b5)])) _
    refine XS.dup X11.here hx rfl (hb hby at_43) rfl rfl ?_
    show Steps p.tables e below (T11.setTop (mkF m 44 #[.val (.int p1), .val (.int p2), .val (.int p3), .val (.int p4), .val (.int p1), .unset, .unset, .unset] [(.ref b5), (.ref b5)])) _
    refine XS.bipush X11.here hx rfl (hb hby at_44) ?_
    show Steps p.tables e below (T11.setTop (mkF m 46 #[.val (.int p1), .val (.int p2), .val (.int p3), .val (.int p4), .val (.int p1), .unset, .unset, .unset] [(.int (6 : Int32)), (.ref b5), (.ref b5)])) _
    refine XS.sipush X11.here hx rfl (hb hby at_46) ?_
    show Steps p.tables e below (T11.setTop (mkF m 49 #[.val (.int p1), .val (.int p2), .val (.int p3), .val (.int p4), .val (.int p1), .unset, .unset, .unset] [(.int (192 : Int32)), (.int (6 : Int32)), (.ref b5), (.ref b5)])) _
    refine st12 _ ?_
    show Steps p.tables e below (T12.setTop (mkF m 50 #[.val (.int p1), .val (.int p2), .val (.int p3), .val (.int p4), .val (.int p1), .unset, .unset, .unset] [(.ref b5)])) _
    refine XS.dup X12.here hx rfl (hb hby at_50) rfl rfl ?_
    show Steps p.tables e below (T12.setTop (mkF m 51 #[.val (.int p1), .val (.int p2), .val (.int p3), .val (.int p4), .val (.int p1), .unset, .unset, .unset] [(.ref b5), (.ref b5)])) _
    refine XS.bipush X12.here hx rfl (hb hby at_51) ?_
    show Steps p.tables e below (T12.setTop (mkF m 53 #[.val (.int p1), .val (.int p2), .val (.int p3), .val (.int p4), .val (.int p1), .unset, .unset, .unset] [(.int (7 : Int32)), (.ref b5), (.ref b5)])) _
    refine XS.sipush X12.here hx rfl (hb hby at_53) ?_
    show Steps p.tables e below (T12.setTop (mkF m 56 #[.val (.int p1), .val (.int p2), .val (.int p3), .val (.int p4), .val (.int p1), .unset, .unset, .unset] [(.int (214 : Int32)), (.int (7 : Int32)), (.ref b5), (.ref b5)])) _
    refine st13 _ ?_
    show Steps p.tables e below (T13.setTop (mkF m 57 #[.val (.int p1), .val (.int p2), .val (.int p3), .val (.int p4), .val (.int p1), .unset, .unset, .unset] [(.ref b5)])) _
    refine XS.dup X13.here hx rfl (hb hby at_57) rfl rfl ?_
    show Steps p.tables e below (T13.setTop (mkF m 58 #[.val (.int p1), .val (.int p2), .val (.int p3), .val (.int p4), .val (.int p1), .unset, .unset, .unset] [(.ref b5), (.ref b5)])) _
    refine XS.bipush X13.here hx rfl (hb hby at_58) ?_
    show Steps p.tables e below (T13.setTop (mkF m 60 #[.val (.int p1), .val (.int p2), .val (.int p3), .val (.int p4), .val (.int p1), .unset, .unset, .unset] [(.int (8 : Int32)), (.ref b5), (.ref b5)])) _
    refine XS.sipush X13.here hx rfl (hb hby at_60) ?_
    show Steps p.tables e below (T13.setTop (mkF m 63 #[.val (.int p1), .val (.int p2), .val (.int p3), .val (.int p4), .val (.int p1), .unset, .unset, .unset] [(.int (216 : Int32)), (.int (8 : Int32)), (.ref b5), (.ref b5)])) _
    refine st14 _ ?_
    show Steps p.tables e below (T14.setTop (mkF m 64 #[.val (.int p1), .val (.int p2), .val (.int p3), .val (.int p4), .val (.int p1), .unset, .unset, .unset] [(.ref b5)])) _
    refine XS.dup X14.here hx rfl (hb hby at_64) rfl rfl ?_
    show Steps p.tables e below (T14.setTop (mkF m 65 #[.val (.int p1), .val (.int p2), .val (.int p3), .val (.int p4), .val (.int p1), .unset, .unset, .unset] [(.ref b5), (.ref b5)])) _
    refine XS.bipush X14.here hx rfl (hb hby at_65) ?_
    show Steps p.tables e below (T14.setTop (mkF m 67 #[.val (.int p1), .val (.int p2), .val (.int p3), .val (.int p4), .val (.int p1), .unset, .unset, .unset] [(.int (9 : Int32)), (.ref b5), (.ref b5)])) _
    refine XS.sipush X14.here hx rfl (hb hby at_67) ?_
    show Steps p.tables e below (T14.setTop (mkF m 70 #[.val (.int p1), .val (.int p2), .val (.int p3), .val (.int p4), .val (.int p1), .unset, .unset, .unset] [(.int (246 : Int32)), (.int (9 : Int32)), (.ref b5), (.ref b5)])) _
    refine st15 _ ?_
    show Steps p.tables e below (T15.setTop (mkF m 71 #[.val (.int p1), .val (.int p2), .val (.int p3), .val (.int p4), .val (.int p1), .unset, .unset, .unset] [(.ref b5)])) _
    refine XS.dup X15.here hx rfl (hb hby at_71) rfl rfl ?_
    show Steps p.tables e below (T15.setTop (mkF m 72 #[.val (.int p1), .val (.int p2), .val (.int p3), .val (.int p4), .val (.int p1), .unset, .unset, .unset] [(.ref b5), (.ref b5)])) _
    refine XS.bipush X15.here hx rfl (hb hby at_72) ?_
    show Steps p.tables e below (T15.setTop (mkF m 74 #[.val (.int p1), .val (.int p2), .val (.int p3), .val (.int p4), .val (.int p1), .unset, .unset, .unset] [(.int (10 : Int32)), (.ref b5), (.ref b5)])) _
    refine XS.sipush X15.here hx rfl (hb hby at_74) ?_
    show Steps p.tables e below (T15.setTop (mkF m 77 #[.val (.int p1), .val (.int p2), .val (.int p3), .val (.int p4), .val (.int p1), .unset, .unset, .unset] [(.int (248 : Int32)), (.int (10 : Int32)), (.ref b5), (.ref b5)])) _
    refine st16 _ ?_
    show Steps p.tables e below (T16.setTop (mkF m 78 #[.val (.int p1), .val (.int p2), .val (.int p3), .val (.int p4), .val (.int p1), .unset, .unset, .unset] [(.ref b5)])) _
    refine XS.dup X16.here hx rfl (hb hby at_78) rfl rfl ?_
    show Steps p.tables e below (T16.setTop (mkF m 79 #[.val (.int p1), .val (.int p2), .val (.int p3), .val (.int p4), .val (.int p1), .unset, .unset, .unset] [(.ref b5), (.ref b5)])) _
    refine XS.bipush X16.here hx rfl (hb hby at_79) ?_
    show Steps p.tables e below (T16.setTop (mkF m 81 #[.val (.int p1), .val (.int p2), .val (.int p3), .val (.int p4), .val (.int p1), .unset, .unset, .unset] [(.int (11 : Int32)), (.ref b5), (.ref b5)])) _
    refine XS.sipush X16.here hx rfl (hb hby at_81) ?_
    show Steps p.tables e below (T16.setTop (mkF m 84 #[.val (.int p1), .val (.int p2), .val (.int p3), .val (.int p4), .val (.int p1), .unset, .unset, .unset] [(.int (767 : Int32)), (.int (11 : Int32)), (.ref b5), (.ref b5)])) _
    refine st17 _ ?_
    show Steps p.tables e below (T17.setTop (mkF m 85 #[.val (.int p1), .val (.int p2), .val (.int p3), .val (.int p4), .val (.int p1), .unset, .unset, .unset] [(.ref b5)])) _
    refine XS.dup X17.here hx rfl (hb hby at_85) rfl rfl ?_
    show Steps p.tables e below (T17.setTop (mkF m 86 #[.val (.int p1), .val (.int p2), .val (.int p3), .val (.int p4), .val (.int p1), .unset, .unset, .unset] [(.ref b5), (.ref b5)])) _
    refine XS.bipush X17.here hx rfl (hb hby at_86) ?_
    show Steps p.tables e below (T17.setTop (mkF m 88 #[.val (.int p1), .val (.int p2), .val (.int p3), .val (.int p4), .val (.int p1), .unset, .unset, .unset] [(.int (12 : Int32)), (.ref b5), (.ref b5)])) _
    refine XS.sipush X17.here hx rfl (hb hby at_88) ?_
    show Steps p.tables e below (T17.setTop (mkF m 91 #[.val (.int p1), .val (.int p2), .val (.int p3), .val (.int p4), .val (.int p1), .unset, .unset, .unset] [(.int (880 : Int32)), (.int (12 : Int32)), (.ref b5), (.ref b5)])) _
    refine st18 _ ?_
    show Steps p.tables e below (T18.setTop (mkF m 92 #[.val (.int p1), .val (.int p2), .val (.int p3), .val (.int p4), .val (.int p1), .unset, .unset, .unset] [(.ref b5)])) _
    refine XS.dup X18.here hx rfl (hb hby at_92) rfl rfl ?_
    show Steps p.tables e below (T18.setTop (mkF m 93 #[.val (.int p1), .val (.int p2), .val (.int p3), .val (.int p4), .val (.int p1), .unset, .unset, .unset] [(.ref b5), (.ref b5)])) _
    refine XS.bipush X18.here hx rfl (hb hby at_93) ?_
    show Steps p.tables e below (T18.setTop (mkF m 95 #[.val (.int p1), .val (.int p2), .val (.int p3), .val (.int p4), .val (.int p1), .unset, .unset, .unset] [(.int (13 : Int32)), (.ref b5), (.ref b5)])) _
    refine XS.sipush X18.here hx rfl (hb hby at_95) ?_
    show Steps p.tables e below (T18.setTop (mkF m 98 #[.val (.int p1), .val (.int p2), .val (.int p3), .val (.int p4), .val (.int p1), .unset, .unset, .unset] [(.int (893 : Int32)), (.int (13 : Int32)), (.ref b5), (.ref b5)])) _
    refine st19 _ ?_
    show Steps p.tables e below (T19.setTop (mkF m 99 #[.val (.int p1), .val (.int p2), .val (.int p3), .val (.int p4), .val (.int p1), .unset, .unset, .unset] [(.ref b5)])) _
    refine XS.dup X19.here hx rfl (hb hby at_99) rfl rfl ?_
    show Steps p.tables e below (T19.setTop (mkF m 100 #[.val (.int p1), .val (.int p2), .val (.int p3), .val (.int p4), .val (.int p1), .unset, .unset, .unset] [(.ref b5), (.ref b5)])) _
    refine XS.bipush X19.here hx rfl (hb hby at_100) ?_
    show Steps p.tables e below (T19.setTop (mkF m 102 #[.val (.int p1), .val (.int p2), .val (.int p3), .val (.int p4), .val (.int p1), .unset, .unset, .unset] [(.int (14 : Int32)), (.ref b5), (.ref b5)])) _
    refine XS.sipush X19.here hx rfl (hb hby at_102) ?_
    show Steps p.tables e below (T19.setTop (mkF m 105 #[.val (.int p1), .val (.int p2), .val (.int p3), .val (.int p4), .val (.int p1), .unset, .unset, .unset] [(.int (895 : Int32)), (.int (14 : Int32)), (.ref b5), (.ref b5)])) _
    refine st20 _ ?_
    show Steps p.tables e below (T20.setTop (mkF m 106 #[.val (.int p1), .val (.int p2), .val (.int p3), .val (.int p4), .val (.int p1), .unset, .unset, .unset] [(.ref b5)])) _
    refine XS.dup X20.here hx rfl (hb hby at_106) rfl rfl ?_
    show Steps p.tables e below (T20.setTop (mkF m 107 #[.val (.int p1), .val (.int p2), .val (.int p3), .val (.int p4), .val (.int p1), .unset, .unset, .unset] [(.ref b5), (.ref b5)])) _
    refine XS.bipush X20.here hx rfl (hb hby at_107) ?_
    show Steps p.tables e below (T20.setTop (mkF m 109 #[.val (.int p1), .val (.int p2), .val (.int p3), .val (.int p4), .val (.int p1), .unset, .unset, .unset] [(.int (15 : Int32)), (.ref b5), (.ref b5)])) _
    refine XS.sipush X20.here hx rfl (hb hby at_109) ?_
    show Steps p.tables e below (T20.setTop (mkF m 112 #[.val (.int p1), .val (.int p2), .val (.int p3), .val (.int p4), .val (.int p1), .unset, .unset, .unset] [(.int (8191 : Int32)), (.int (15 : Int32)), (.ref b5), (.ref b5)])) _
    refine st21 _ ?_
    show Steps p.tables e below (T21.setTop (mkF m 113 #[.val (.int p1), .val (.int p2), .val (.int p3), .val (.int p4), .val (.int p1), .unset, .unset, .unset] [(.ref b5)])) _
    refine XS.dup X21.here hx rfl (hb hby at_113) rfl rfl ?_
    show Steps p.tables e below (T21.setTop (mkF m 114 #[.val (.int p1), .val (.int p2), .val (.int p3), .val (.int p4), .val (.int p1), .unset, .unset, .unset] [(.ref b5), (.ref b5)])) _
    refine XS.bipush X21.here hx rfl (hb hby at_114) ?_
    show Steps p.tables e below (T21.setTop (mkF m 116 #[.val (.int p1), .val (.int p2), .val (.int p3), .val (.int p4), .val (.int p1), .unset, .unset, .unset] [(.int (16 : Int32)), (.ref b5), (.ref b5)])) _
    refine XS.sipush X21.here hx rfl (hb hby at_116) ?_
    show Steps p.tables e below (T21.setTop (mkF m 119 #[.val (.int p1), .val (.int p2), .val (.int p3), .val (.int p4), .val (.int p1), .unset, .unset, .unset] [(.int (8204 : Int32)), (.int (16 : Int32)), (.ref b5), (.ref b5)])) _
    refine st22 _ ?_
    show Steps p.tables e below (T22.setTop (mkF m 120 #[.val (.int p1), .val (.int p2), .val (.int p3), .val (.int p4), .val (.int p1), .unset, .unset, .unset] [(.ref b5)])) _
    refine XS.dup X22.here hx rfl (hb hby at_120) rfl rfl ?_
    show Steps p.tables e below (T22.setTop (mkF m 121 #[.val (.int p1), .val (.int p2), .val (.int p3), .val (.int p4), .val (.int p1), .unset, .unset, .unset] [(.ref b5), (.ref b5)])) _
    refine XS.bipush X22.here hx rfl (hb hby at_121) ?_
    show Steps p.tables e below (T22.setTop (mkF m 123 #[.val (.int p1), .val (.int p2), .val (.int p3), .val (.int p4), .val (.int p1), .unset, .unset, .unset] [(.int (17 : Int32)), (.ref b5), (.ref b5)])) _
    refine XS.sipush X22.here hx rfl (hb hby at_123) ?_
    show Steps p.tables e below (T22.setTop (mkF m 126 #[.val (.int p1), .val (.int p2), .val (.int p3), .val (.int p4), .val (.int p1), .unset, .unset, .unset] [(.int (8205 : Int32)), (.int (17 : Int32)), (.ref b5), (.ref b5)])) _
    refine st23 _ ?_
    show Steps p.tables e below (T23.setTop (mkF m 127 #[.val (.int p1), .val (.int p2), .val (.int p3), .val (.int p4), .val (.int p1), .unset, .unset, .unset] [(.ref b5)])) _
    refine XS.dup X23.here hx rfl (hb hby at_127) rfl rfl ?_
    show Steps p.tables e below (T23.setTop (mkF m 128 #[.val (.int p1), .val (.int p2), .val (.int p3), .val (.int p4), .val (.int p1), .unset, .unset, .unset] [(.ref b5), (.ref b5)])) _
    refine XS.bipush X23.here hx rfl (hb hby at_128) ?_
    show Steps p.tables e below (T23.setTop (mkF m 130 #[.val (.int p1), .val (.int p2), .val (.int p3), .val (.int p4), .val (.int p1), .unset, .unset, .unset] [(.int (18 : Int32)), (.ref b5), (.ref b5)])) _
    refine XS.sipush X23.here hx rfl (hb hby at_130) ?_
    show Steps p.tables e below (T23.setTop (mkF m 133 #[.val (.int p1), .val (.int p2), .val (.int p3), .val (.int p4), .val (.int p1), .unset, .unset, .unset] [(.int (8304 : Int32)), (.int (18 : Int32)), (.ref b5), (.ref b5)])) _
    refine st24 _ ?_
    show Steps p.tables e below (T24.setTop (mkF m 134 #[.val (.int p1), .val (.int p2), .val (.int p3), .val (.int p4), .val (.int p1), .unset, .unset, .unset] [(.ref b5)])) _
    refine XS.dup X24.here hx rfl (hb hby at_134) rfl rfl ?_
    show Steps p.tables e below (T24.setTop (mkF m 135 #[.val (.int p1), .val (.int p2), .val (.int p3), .val (.int p4), .val (.int p1), .unset, .unset, .unset] [(.ref b5), (.ref b5)])) _
    refine XS.bipush X24.here hx rfl (hb hby at_135) ?_
    show Steps p.tables e below (T24.setTop (mkF m 137 #[.val (.int p1), .val (.int p2), .val (.int p3), .val (.int p4), .val (.int p1), .unset, .unset, .unset] [(.int (19 : Int32)), (.ref b5), (.ref b5)])) _
    refine XS.sipush X24.here hx rfl (hb hby at_137) ?_
    show Steps p.tables e below (T24.setTop (mkF m 140 #[.val (.int p1), .val (.int p2), .val (.int p3), .val (.int p4), .val (.int p1), .unset, .unset, .unset] [(.int (8591 : Int32)), (.int (19 : Int32)), (.ref b5), (.ref b5)])) _
    refine st25 _ ?_
    show Steps p.tables e below (T25.setTop (mkF m 141 #[.val (.int p1), .val (.int p2), .val (.int p3), .val (.int p4), .val (.int p1), .unset, .unset, .unset] [(.ref b5)])) _
    refine XS.dup X25.here hx rfl (hb hby at_141) rfl rfl ?_
    show Steps p.tables e below (T25.setTop (mkF m 142 #[.val (.int p1), .val (.int p2), .val (.int p3), .val (.int p4), .val (.int p1), .unset, .unset, .unset] [(.ref b5), (.ref b5)])) _
    refine XS.bipush X25.here hx rfl (hb hby at_142) ?_
    show Steps p.tables e below (T25.setTop (mkF m 144 #[.val (.int p1), .val (.int p2), .val (.int p3), .val (.int p4), .val (.int p1), .unset, .unset, .unset] [(.int (20 : Int32)), (.ref b5), (.ref b5)])) _
    refine XS.sipush X25.here hx rfl (hb hby at_144) ?_
    show Steps p.tables e below (T25.setTop (mkF m 147 #[.val (.int p1), .val (.int p2), .val (.int p3), .val (.int p4), .val (.int p1), .unset, .unset, .unset] [(.int (11264 : Int32)), (.int (20 : Int32)), (.ref b5), (.ref b5)])) _
    refine st26 _ ?_
    show Steps p.tables e below (T26.setTop (mkF m 148 #[.val (.int p1), .val (.int p2), .val (.int p3), .val (.int p4), .val (.int p1), .unset, .unset, .unset] [(.ref b5)])) _
    refine XS.dup X26.here hx rfl (hb hby at_148) rfl rfl ?_
    show Steps p.tables e below (T26.setTop (mkF m 149 #[.val (.int p1), .val (.int p2), .val (.int p3), .val (.int p4), .val (.int p1), .unset, .unset, .unset] [(.ref b5), (.ref b5)])) _
    refine XS.bipush X26.here hx rfl (hb hby at_149) ?_
    show Steps p.tables e below (T26.setTop (mkF m 151 #[.val (.int p1), .val (.int p2), .val (.int p3), .val (.int p4), .val (.int p1), .unset, .unset, .unset] [(.int (21 : Int32)), (.ref b5), (.ref b5)])) _
    refine XS.sipush X26.here hx rfl (hb hby at_151) ?_
    show Steps p.tables e below (T26.setTop (mkF m 154 #[.val (.int p1), .val (.int p2), .val (.int p3), .val (.int p4), .val (.int p1), .unset, .unset, .unset] [(.int (12271 : Int32)), (.int (21 : Int32)), (.ref b5), (.ref b5)])) _
    refine st27 _ ?_
    show Steps p.tables e below (T27.setTop (mkF m 155 #[.val (.int p1), .val (.int p2), .val (.int p3), .val (.int p4), .val (.int p1), .unset, .unset, .unset] [(.ref b5)])) _
    refine XS.dup X27.here hx rfl (hb hby at_155) rfl rfl ?_
    show Steps p.tables e below (T27.setTop (mkF m 156 #[.val (.int p1), .val (.int p2), .val (.int p3), .val (.int p4), .val (.int p1), .unset, .unset, .unset] [(.ref b5), (.ref b5)])) _
    refine XS.bipush X27.here hx rfl (hb hby at_156) ?_
    show Steps p.tables e below (T27.setTop (mkF m 158 #[.val (.int p1), .val (.int p2), .val (.int p3), .val (.int p4), .val (.int p1), .unset, .unset, .unset] [(.int (22 : Int32)), (.ref b5), (.ref b5)])) _
    refine XS.sipush X27.here hx rfl (hb hby at_158) ?_
    show Steps p.tables e below (T27.setTop (mkF m 161 #[.val (.int p1), .val (.int p2), .val (.int p3), .val (.int p4), .val (.int p1), .unset, .unset, .unset] [(.int (12289 : Int32)), (.int (22 : Int32)), (.ref b5), (.ref b5)])) _
    refine st28 _ ?_
    show Steps p.tables e below (T28.setTop (mkF m 162 #[.val (.int p1), .val (.int p2), .val (.int p3), .val (.int p4), .val (.int p1), .unset, .unset, .unset] [(.ref b5)])) _
    refine XS.dup X28.here hx rfl (hb hby at_162) rfl rfl ?_
    show Steps p.tables e below (T28.setTop (mkF m 163 #[.val (.int p1), .val (.int p2), .val (.int p3), .val (.int p4), .val (.int p1), .unset, .unset, .unset] [(.ref b5), (.ref b5)])) _
    refine XS.bipush X28.here hx rfl (hb hby at_163) ?_
    show Steps p.tables e below (T28.setTop (mkF m 165 #[.val (.int p1), .val (.int p2), .val (.int p3), .val (.int p4), .val (.int p1), .unset, .unset, .unset] [(.int (23 : Int32)), (.ref b5), (.ref b5)])) _
    refine X28.ldcInt hx hown (mvT hZ (hw _ (List.mem_of_getElem? (i := 12) rfl))) (g := (mkF m 165 #[.val (.int p1), .val (.int p2), .val (.int p3), .val (.int p4), .val (.int p1), .unset, .unset, .unset] [(.int (23 : Int32)), (.ref b5), (.ref b5)])) rfl (hb hby at_165) _ ?_
    show Steps p.tables e below (T28.setTop (mkF m 167 #[.val (.int p1), .val (.int p2), .val (.int p3), .val (.int p4), .val (.int p1), .unset, .unset, .unset] [(.int (55295 : Int32)), (.int (23 : Int32)), (.ref b5), (.ref b5)])) _
    refine st29 _ ?_
    show Steps p.tables e below (T29.setTop (mkF m 168 #[.val (.int p1), .val (.int p2), .val (.int p3), .val (.int p4), .val (.int p1), .unset, .unset, .unset] [(.ref b5)])) _
    refine XS.dup X29.here hx rfl (hb hby at_168) rfl rfl ?_
    show Steps p.tables e below (T29.setTop (mkF m 169 #[.val (.int p1), .val (.int p2), .val (.int p3), .val (.int p4), .val (.int p1), .unset, .unset, .unset] [(.ref b5), (.ref b5)])) _
    refine XS.bipush X29.here hx rfl (hb hby at_169) ?_
    show Steps p.tables e below (T29.setTop (mkF m 171 #[.val (.int p1), .val (.int p2), .val (.int p3), .val (.int p4), .val (.int p1), .unset, .unset, .unset] [(.int (24 : Int32)), (.ref b5), (.ref b5)])) _
    refine X29.ldcInt hx hown (mvT hZ (hw _ (List.mem_of_getElem? (i := 13) rfl))) (g := (mkF m 171 #[.val (.int p1), .val (.int p2), .val (.int p3), .val (.int p4), .val (.int p1), .unset, .unset, .unset] [(.int (24 : Int32)), (.ref b5), (.ref b5)])) rfl (hb hby at_171) _ ?_
    show Steps p.tables e below (T29.setTop (mkF m 173 #[.val (.int p1), .val (.int p2), .val (.int p3), .val (.int p4), .val (.int p1), .unset, .unset, .unset] [(.int (63744 : Int32)), (.int (24 : Int32)), (.ref b5), (.ref b5)])) _
    refine st30 _ ?_
    show Steps p.tables e below (T30.setTop (mkF m 174 #[.val (.int p1), .val (.int p2), .val (.int p3), .val (.int p4), .val (.int p1), .unset, .unset, .unset] [(.ref b5)])) _
    refine XS.dup X30.here hx rfl (hb hby at_174) rfl rfl ?_
    show Steps p.tables e below (T30.setTop (mkF m 175 #[.val (.int p1), .val (.int p2), .val (.int p3), .val (.int p4), .val (.int p1), .unset, .unset, .unset] [(.ref b5), (.ref b5)])) _
    refine XS.bipush X30.here hx rfl (hb hby at_175) ?_
    show Steps p.tables e below (T30.setTop (mkF m 177 #[.val (.int p1), .val (.int p2), .val (.int p3), .val (.int p4), .val (.int p1), .unset, .unset, .unset] [(.int (25 : Int32)), (.ref b5), (.ref b5)])) _
    refine X30.ldcInt hx hown (mvT hZ (hw _ (List.mem_of_getElem? (i := 14) rfl))) (g := (mkF m 177 #[.val (.int p1), .val (.int p2), .val (.int p3), .val (.int p4), .val (.int p1), .unset, .unset, .unset] [(.int (25 : Int32)), (.ref b5), (.ref b5)])) rfl (hb hby at_177) _ ?_
    show Steps p.tables e below (T30.setTop (mkF m 179 #[.val (.int p1), .val (.int p2), .val (.int p3), .val (.int p4), .val (.int p1), .unset, .unset, .unset] [(.int (64975 : Int32)), (.int (25 : Int32)), (.ref b5), (.ref b5)])) _
    refine st31 _ ?_
    show Steps p.tables e below (T31.setTop (mkF m 180 #[.val (.int p1), .val (.int p2), .val (.int p3), .val (.int p4), .val (.int p1), .unset, .unset, .unset] [(.ref b5)])) _
    refine XS.dup X31.here hx rfl (hb hby at_180) rfl rfl ?_
    show Steps p.tables e below (T31.setTop (mkF m 181 #[.val (.int p1), .val (.int p2), .val (.int p3), .val (.int p4), .val (.int p1), .unset, .unset, .unset] [(.ref b5), (.ref b5)])) _
    refine XS.bipush X31.here hx rfl (hb hby at_181) ?_
    show Steps p.tables e below (T31.setTop (mkF m 183 #[.val (.int p1), .val (.int p2), .val (.int p3), .val (.int p4), .val (.int p1), .unset, .unset, .unset] [(.int (26 : Int32)), (.ref b5), (.ref b5)])) _
    refine X31.ldcInt hx hown (mvT hZ (hw _ (List.mem_of_getElem? (i := 15) rfl))) (g := (mkF m 183 #[.val (.int p1), .val (.int p2), .val (.int p3), .val (.int p4), .val (.int p1), .unset, .unset, .unset] [(.int (26 : Int32)), (.ref b5), (.ref b5)])) rfl (hb hby at_183) _ ?_
    show Steps p.tables e below (T31.setTop (mkF m 185 #[.val (.int p1), .val (.int p2), .val (.int p3), .val (.int p4), .val (.int p1), .unset, .unset, .unset] [(.int (65008 : Int32)), (.int (26 : Int32)), (.ref b5), (.ref b5)])) _
    refine st32 _ ?_
    show Steps p.tables e below (T32.setTop (mkF m 186 #[.val (.int p1), .val (.int p2), .val (.int p3), .val (.int p4), .val (.int p1), .unset, .unset, .unset] [(.ref b5)])) _
    refine XS.dup X32.here hx rfl (hb hby at_186) rfl rfl ?_
    show Steps p.tables e below (T32.setTop (mkF m 187 #[.val (.int p1), .val (.int p2), .val (.int p3), .val (.int p4), .val (.int p1), .unset, .unset, .unset] [(.ref b5), (.ref b5)])) _
    refine XS.bipush X32.here hx rfl (hb hby at_187) ?_
    show Steps p.tables e below (T32.setTop (mkF m 189 #[.val (.int p1), .val (.int p2), .val (.int p3), .val (.int p4), .val (.int p1), .unset, .unset, .unset] [(.int (27 : Int32)), (.ref b5), (.ref b5)])) _
    refine X32.ldcInt hx hown (mvT hZ (hw _ (List.mem_of_getElem? (i := 16) rfl))) (g := (mkF m 189 #[.val (.int p1), .val (.int p2), .val (.int p3), .val (.int p4), .val (.int p1), .unset, .unset, .unset] [(.int (27 : Int32)), (.ref b5), (.ref b5)])) rfl (hb hby at_189) _ ?_
    show Steps p.tables e below (T32.setTop (mkF m 191 #[.val (.int p1), .val (.int p2), .val (.int p3), .val (.int p4), .val (.int p1), .unset, .unset, .unset] [(.int (65533 : Int32)), (.int (27 : Int32)), (.ref b5), (.ref b5)])) _
    refine st33 _ ?_
    show Steps p.tables e below (T33.setTop (mkF m 192 #[.val (.int p1), .val (.int p2), .val (.int p3), .val (.int p4), .val (.int p1), .unset, .unset, .unset] [(.ref b5)])) _
    refine XS.dup X33.here hx rfl (hb hby at_192) rfl rfl ?_
    show Steps p.tables e below (T33.setTop (mkF m 193 #[.val (.int p1), .val (.int p2), .val (.int p3), .val (.int p4), .val (.int p1), .unset, .unset, .unset] [(.ref b5), (.ref b5)])) _
    refine XS.bipush X33.here hx rfl (hb hby at_193) ?_
    show Steps p.tables e below (T33.setTop (mkF m 195 #[.val (.int p1), .val (.int p2), .val (.int p3), .val (.int p4), .val (.int p1), .unset, .unset, .unset] [(.int (28 : Int32)), (.ref b5), (.ref b5)])) _
    refine X33.ldcInt hx hown (mvT hZ (hw _ (List.mem_of_getElem? (i := 17) rfl))) (g := (mkF m 195 #[.val (.int p1), .val (.int p2), .val (.int p3), .val (.int p4), .val (.int p1), .unset, .unset, .unset] [(.int (28 : Int32)), (.ref b5), (.ref b5)])) rfl (hb hby at_195) _ ?_
    show Steps p.tables e below (T33.setTop (mkF m 197 #[.val (.int p1), .val (.int p2), .val (.int p3), .val (.int p4), .val (.int p1), .unset, .unset, .unset] [(.int (65536 : Int32)), (.int (28 : Int32)), (.ref b5), (.ref b5)])) _
    refine st34 _ ?_
    show Steps p.tables e below (T34.setTop (mkF m 198 #[.val (.int p1), .val (.int p2), .val (.int p3), .val (.int p4), .val (.int p1), .unset, .unset, .unset] [(.ref b5)])) _
    refine XS.dup X34.here hx rfl (hb hby at_198) rfl rfl ?_
    show Steps p.tables e below (T34.setTop (mkF m 199 #[.val (.int p1), .val (.int p2), .val (.int p3), .val (.int p4), .val (.int p1), .unset, .unset, .unset] [(.ref b5), (.ref b5)])) _
    refine XS.bipush X34.here hx rfl (hb hby at_199) ?_
    show Steps p.tables e below (T34.setTop (mkF m 201 #[.val (.int p1), .val (.int p2), .val (.int p3), .val (.int p4), .val (.int p1), .unset, .unset, .unset] [(.int (29 : Int32)), (.ref b5), (.ref b5)])) _
    refine X34.ldcInt hx hown (mvT hZ (hw _ (List.mem_of_getElem? (i := 18) rfl))) (g := (mkF m 201 #[.val (.int p1), .val (.int p2), .val (.int p3), .val (.int p4), .val (.int p1), .unset, .unset, .unset] [(.int (29 : Int32)), (.ref b5), (.ref b5)])) rfl (hb hby at_201) _ ?_
    show Steps p.tables e below (T34.setTop (mkF m 203 #[.val (.int p1), .val (.int p2), .val (.int p3), .val (.int p4), .val (.int p1), .unset, .unset, .unset] [(.int (983039 : Int32)), (.int (29 : Int32)), (.ref b5), (.ref b5)])) _
    refine st35 _ ?_
    show Steps p.tables e below (T35.setTop (mkF m 204 #[.val (.int p1), .val (.int p2), .val (.int p3), .val (.int p4), .val (.int p1), .unset, .unset, .unset] [(.ref b5)])) _
    refine XS.dup X35.here hx rfl (hb hby at_204) rfl rfl ?_
    show Steps p.tables e below (T35.setTop (mkF m 205 #[.val (.int p1), .val (.int p2), .val (.int p3), .val (.int p4), .val (.int p1), .unset, .unset, .unset] [(.ref b5), (.ref b5)])) _
    refine XS.bipush X35.here hx rfl (hb hby at_205) ?_
    show Steps p.tables e below (T35.setTop (mkF m 207 #[.val (.int p1), .val (.int p2), .val (.int p3), .val (.int p4), .val (.int p1), .unset, .unset, .unset] [(.int (30 : Int32)), (.ref b5), (.ref b5)])) _
    refine XS.iconst X35.here hx rfl (hb hby at_207) ?_
    show Steps p.tables e below (T35.setTop (mkF m 208 #[.val (.int p1), .val (.int p2), .val (.int p3), .val (.int p4), .val (.int p1), .unset, .unset, .unset] [(.int (0 : Int32)), (.int (30 : Int32)), (.ref b5), (.ref b5)])) _
    refine st36 _ ?_
    show Steps p.tables e below (T36.setTop (mkF m 209 #[.val (.int p1), .val (.int p2), .val (.int p3), .val (.int p4), .val (.int p1), .unset, .unset, .unset] [(.ref b5)])) _
    refine XS.dup X36.here hx rfl (hb hby at_209) rfl rfl ?_
    show Steps p.tables e below (T36.setTop (mkF m 210 #[.val (.int p1), .val (.int p2), .val (.int p3), .val (.int p4), .val (.int p1), .unset, .unset, .unset] [(.ref b5), (.ref b5)])) _
    refine XS.bipush X36.here hx rfl (hb hby at_210) ?_
    show Steps p.tables e below (T36.setTop (mkF m 212 #[.val (.int p1), .val (.int p2), .val (.int p3), .val (.int p4), .val (.int p1), .unset, .unset, .unset] [(.int (31 : Int32)), (.ref b5), (.ref b5)])) _
    refine X36.ldcInt hx hown (mvT hZ (hw _ (List.mem_of_getElem? (i := 19) rfl))) (g := (mkF m 212 #[.val (.int p1), .val (.int p2), .val (.int p3), .val (.int p4), .val (.int p1), .unset, .unset, .unset] [(.int (31 : Int32)), (.ref b5), (.ref b5)])) rfl (hb hby at_212) _ ?_
    show Steps p.tables e below (T36.setTop (mkF m 214 #[.val (.int p1), .val (.int p2), .val (.int p3), .val (.int p4), .val (.int p1), .unset, .unset, .unset] [(.int (-2147483648 : Int32)), (.int (31 : Int32)), (.ref b5), (.ref b5)])) _
    refine st37 _ ?_
    show Steps p.tables e below (T37.setTop (mkF m 215 #[.val (.int p1), .val (.int p2), .val (.int p3), .val (.int p4), .val (.int p1), .unset, .unset, .unset] [(.ref b5)])) _
    refine XS.dup X37.here hx rfl (hb hby at_215) rfl rfl ?_
    show Steps p.tables e below (T37.setTop (mkF m 216 #[.val (.int p1), .val (.int p2), .val (.int p3), .val (.int p4), .val (.int p1), .unset, .unset, .unset] [(.ref b5), (.ref b5)])) _
    refine XS.bipush X37.here hx rfl (hb hby at_216) ?_
    show Steps p.tables e below (T37.setTop (mkF m 218 #[.val (.int p1), .val (.int p2), .val (.int p3), .val (.int p4), .val (.int p1), .unset, .unset, .unset] [(.int (32 : Int32)), (.ref b5), (.ref b5)])) _
    refine X37.ldcInt hx hown (mvT hZ (hw _ (List.mem_of_getElem? (i := 20) rfl))) (g := (mkF m 218 #[.val (.int p1), .val (.int p2), .val (.int p3), .val (.int p4), .val (.int p1), .unset, .unset, .unset] [(.int (32 : Int32)), (.ref b5), (.ref b5)])) rfl (hb hby at_218) _ ?_
    show Steps p.tables e below (T37.setTop (mkF m 220 #[.val (.int p1), .val (.int p2), .val (.int p3), .val (.int p4), .val (.int p1), .unset, .unset, .unset] [(.int (2147483647 : Int32)), (.int (32 : Int32)), (.ref b5), (.ref b5)])) _
    refine st38 _ ?_
    show Steps p.tables e below (T38.setTop (mkF m 221 #[.val (.int p1), .val (.int p2), .val (.int p3), .val (.int p4), .val (.int p1), .unset, .unset, .unset] [(.ref b5)])) _
    refine XS.dup X38.here hx rfl (hb hby at_221) rfl rfl ?_
    show Steps p.tables e below (T38.setTop (mkF m 222 #[.val (.int p1), .val (.int p2), .val (.int p3), .val (.int p4), .val (.int p1), .unset, .unset, .unset] [(.ref b5), (.ref b5)])) _
    refine XS.bipush X38.here hx rfl (hb hby at_222) ?_
    show Steps p.tables e below (T38.setTop (mkF m 224 #[.val (.int p1), .val (.int p2), .val (.int p3), .val (.int p4), .val (.int p1), .unset, .unset, .unset] [(.int (33 : Int32)), (.ref b5), (.ref b5)])) _
    refine X38.ldcInt hx hown (mvT hZ (hw _ (List.mem_of_getElem? (i := 21) rfl))) (g := (mkF m 224 #[.val (.int p1), .val (.int p2), .val (.int p3), .val (.int p4), .val (.int p1), .unset, .unset, .unset] [(.int (33 : Int32)), (.ref b5), (.ref b5)])) rfl (hb hby at_224) _ ?_
    show Steps p.tables e below (T38.setTop (mkF m 226 #[.val (.int p1), .val (.int p2), .val (.int p3), .val (.int p4), .val (.int p1), .unset, .unset, .unset] [(.int (1114111 : Int32)), (.int (33 : Int32)), (.ref b5), (.ref b5)])) _
    refine st39 _ ?_
    show Steps p.tables e below (T39.setTop (mkF m 227 #[.val (.int p1), .val (.int p2), .val (.int p3), .val (.int p4), .val (.int p1), .unset, .unset, .unset] [(.ref b5)])) _
    refine XS.astore X39.here hx rfl (hb hby at_227) rfl rfl (l' := #[.val (.int p1), .val (.int p2), .val (.int p3), .val (.int p4), .val (.int p1), .val (.ref b5), .unset, .unset]) rfl ?_
    show Steps p.tables e below (T39.setTop (mkF m 229 #[.val (.int p1), .val (.int p2), .val (.int p3), .val (.int p4), .val (.int p1), .val (.ref b5), .unset, .unset] [])) _
    refine XS.iloadN X39.here hx rfl (hb hby at_229) rfl ?_
    show Steps p.tables e below (T39.setTop (mkF m 230 #[.val (.int p1), .val (.int p2), .val (.int p3), .val (.int p4), .val (.int p1), .val (.ref b5), .unset, .unset] [(.int p2)])) _
    refine X39.ldcInt hx hown (mvT hZ (hw _ (List.mem_of_getElem? (i := 20) rfl))) (g := (mkF m 230 #[.val (.int p1), .val (.int p2), .val (.int p3), .val (.int p4), .val (.int p1), .val (.ref b5), .unset, .unset] [(.int p2)])) rfl (hb hby at_230) _ ?_
    show Steps p.tables e below (T39.setTop (mkF m 232 #[.val (.int p1), .val (.int p2), .val (.int p3), .val (.int p4), .val (.int p1), .val (.ref b5), .unset, .unset] [(.int (2147483647 : Int32)), (.int p2)])) _
    refine XS.iand X39.here hx rfl (hb hby at_232) rfl ?_
    show Steps p.tables e below (T39.setTop (mkF m 233 #[.val (.int p1), .val (.int p2), .val (.int p3), .val (.int p4), .val (.int p1), .val (.ref b5), .unset, .unset] [(.int (p2 &&& (2147483647 : Int32)))])) _
    refine XS.aload X39.here hx rfl (hb hby at_233) rfl rfl ?_
    show Steps p.tables e below (T39.setTop (mkF m 235 #[.val (.int p1), .val (.int p2), .val (.int p3), .val (.int p4), .val (.int p1), .val (.ref b5), .unset, .unset] [(.ref b5), (.int (p2 &&& (2147483647 : Int32)))])) _
    refine X39.arraylength hx (by rw [e39]; exact Ar_b5.1) (State.isArrayOf_alike hZ.alike Ar_b5.2.1) (g := (mkF m 235 #[.val (.int p1), .val (.int p2), .val (.int p3), .val (.int p4), .val (.int p1), .val (.ref b5), .unset, .unset] [(.ref b5), (.int (p2 &&& (2147483647 : Int32)))])) rfl rfl (hb hby at_235) _ ?_
    rw [len_of S_b5 N_b5]
    show Steps p.tables e below (T39.setTop (mkF m 236 #[.val (.int p1), .val (.int p2), .val (.int p3), .val (.int p4), .val (.int p1), .val (.ref b5), .unset, .unset] [(.int (34 : Int32)), (.int (p2 &&& (2147483647 : Int32)))])) _
    refine iremM X39 hx rfl (hb hby at_236) rfl (by decide) ?_
    show Steps p.tables e below (T39.setTop (mkF m 237 #[.val (.int p1), .val (.int p2), .val (.int p3), .val (.int p4), .val (.int p1), .val (.ref b5), .unset, .unset] [(.int ((p2 &&& (2147483647 : Int32)) % (34 : Int32)))])) _
    refine XS.istore X39.here hx rfl (hb hby at_237) rfl (l' := #[.val (.int p1), .val (.int p2), .val (.int p3), .val (.int p4), .val (.int p1), .val (.ref b5), .val (.int ((p2 &&& (2147483647 : Int32)) % (34 : Int32))), .unset]) rfl ?_
    show Steps p.tables e below (T39.setTop (mkF m 239 #[.val (.int p1), .val (.int p2), .val (.int p3), .val (.int p4), .val (.int p1), .val (.ref b5), .val (.int ((p2 &&& (2147483647 : Int32)) % (34 : Int32))), .unset] [])) _
    refine XS.iloadN X39.here hx rfl (hb hby at_239) rfl ?_
    show Steps p.tables e below (T39.setTop (mkF m 240 #[.val (.int p1), .val (.int p2), .val (.int p3), .val (.int p4), .val (.int p1), .val (.ref b5), .val (.int ((p2 &&& (2147483647 : Int32)) % (34 : Int32))), .unset] [(.int p3)])) _
    refine X39.ldcInt hx hown (mvT hZ (hw _ (List.mem_of_getElem? (i := 20) rfl))) (g := (mkF m 240 #[.val (.int p1), .val (.int p2), .val (.int p3), .val (.int p4), .val (.int p1), .val (.ref b5), .val (.int ((p2 &&& (2147483647 : Int32)) % (34 : Int32))), .unset] [(.int p3)])) rfl (hb hby at_240) _ ?_
    show Steps p.tables e below (T39.setTop (mkF m 242 #[.val (.int p1), .val (.int p2), .val (.int p3), .val (.int p4), .val (.int p1), .val (.ref b5), .val (.int ((p2 &&& (2147483647 : Int32)) % (34 : Int32))), .unset] [(.int (2147483647 : Int32)), (.int p3)])) _
    refine XS.iand X39.here hx rfl (hb hby at_242) rfl ?_
    show Steps p.tables e below (T39.setTop (mkF m 243 #[.val (.int p1), .val (.int p2), .val (.int p3), .val (.int p4), .val (.int p1), .val (.ref b5), .val (.int ((p2 &&& (2147483647 : Int32)) % (34 : Int32))), .unset] [(.int (p3 &&& (2147483647 : Int32)))])) _
    refine XS.iconst X39.here hx rfl (hb hby at_243) ?_
    show Steps p.tables e below (T39.setTop (mkF m 244 #[.val (.int p1), .val (.int p2), .val (.int p3), .val (.int p4), .val (.int p1), .val (.ref b5), .val (.int ((p2 &&& (2147483647 : Int32)) % (34 : Int32))), .unset] [(.int (3 : Int32)), (.int (p3 &&& (2147483647 : Int32)))])) _
    refine iremM X39 hx rfl (hb hby at_244) rfl (by decide) ?_
    show Steps p.tables e below (T39.setTop (mkF m 245 #[.val (.int p1), .val (.int p2), .val (.int p3), .val (.int p4), .val (.int p1), .val (.ref b5), .val (.int ((p2 &&& (2147483647 : Int32)) % (34 : Int32))), .unset] [(.int ((p3 &&& (2147483647 : Int32)) % (3 : Int32)))])) _
    refine XS.iconst X39.here hx rfl (hb hby at_245) ?_
    show Steps p.tables e below (T39.setTop (mkF m 246 #[.val (.int p1), .val (.int p2), .val (.int p3), .val (.int p4), .val (.int p1), .val (.ref b5), .val (.int ((p2 &&& (2147483647 : Int32)) % (34 : Int32))), .unset] [(.int (1 : Int32)), (.int ((p3 &&& (2147483647 : Int32)) % (3 : Int32)))])) _
    refine XS.isub X39.here hx rfl (hb hby at_246) rfl ?_
    show Steps p.tables e below (T39.setTop (mkF m 247 #[.val (.int p1), .val (.int p2), .val (.int p3), .val (.int p4), .val (.int p1), .val (.ref b5), .val (.int ((p2 &&& (2147483647 : Int32)) % (34 : Int32))), .unset] [(.int (((p3 &&& (2147483647 : Int32)) % (3 : Int32)) - (1 : Int32)))])) _
    refine XS.istore X39.here hx rfl (hb hby at_247) rfl (l' := #[.val (.int p1), .val (.int p2), .val (.int p3), .val (.int p4), .val (.int p1), .val (.ref b5), .val (.int ((p2 &&& (2147483647 : Int32)) % (34 : Int32))), .val (.int (((p3 &&& (2147483647 : Int32)) % (3 : Int32)) - (1 : Int32)))]) rfl ?_
    show Steps p.tables e below (T39.setTop (mkF m 249 #[.val (.int p1), .val (.int p2), .val (.int p3), .val (.int p4), .val (.int p1), .val (.ref b5), .val (.int ((p2 &&& (2147483647 : Int32)) % (34 : Int32))), .val (.int (((p3 &&& (2147483647 : Int32)) % (3 : Int32)) - (1 : Int32)))] [])) _
    refine XS.aload X39.here hx rfl (hb hby at_249) rfl rfl ?_
    show Steps p.tables e below (T39.setTop (mkF m 251 #[.val (.int p1), .val (.int p2), .val (.int p3), .val (.int p4), .val (.int p1), .val (.ref b5), .val (.int ((p2 &&& (2147483647 : Int32)) % (34 : Int32))), .val (.int (((p3 &&& (2147483647 : Int32)) % (3 : Int32)) - (1 : Int32)))] [(.ref b5)])) _
    refine XS.iload X39.here hx rfl (hb hby at_251) rfl ?_
    show Steps p.tables e below (T39.setTop (mkF m 253 #[.val (.int p1), .val (.int p2), .val (.int p3), .val (.int p4), .val (.int p1), .val (.ref b5), .val (.int ((p2 &&& (2147483647 : Int32)) % (34 : Int32))), .val (.int (((p3 &&& (2147483647 : Int32)) % (3 : Int32)) - (1 : Int32)))] [(.int ((p2 &&& (2147483647 : Int32)) % (34 : Int32))), (.ref b5)])) _
    refine X39.iaload hx (j := ((p2 &&& (2147483647 : Int32)) % (34 : Int32))) (v := (.int w40)) (by rw [e39]; exact Ar_b5.1) (State.isArrayOf_alike hZ.alike Ar_b5.2.1) Ar_b5.2.2 hin253 hat253 (g := (mkF m 253 #[.val (.int p1), .val (.int p2), .val (.int p3), .val (.int p4), .val (.int p1), .val (.ref b5), .val (.int ((p2 &&& (2147483647 : Int32)) % (34 : Int32))), .val (.int (((p3 &&& (2147483647 : Int32)) % (3 : Int32)) - (1 : Int32)))] [(.int ((p2 &&& (2147483647 : Int32)) % (34 : Int32))), (.ref b5)])) rfl rfl (hb hby at_253) _ ?_
    show Steps p.tables e below (T39.setTop (mkF m 254 #[.val (.int p1), .val (.int p2), .val (.int p3), .val (.int p4), .val (.int p1), .val (.ref b5), .val (.int ((p2 &&& (2147483647 : Int32)) % (34 : Int32))), .val (.int (((p3 &&& (2147483647 : Int32)) % (3 : Int32)) - (1 : Int32)))] [(.int w40)])) _
    refine XS.iload X39.here hx rfl (hb hby at_254) rfl ?_
    show Steps p.tables e below (T39.setTop (mkF m 256 #[.val (.int p1), .val (.int p2), .val (.int p3), .val (.int p4), .val (.int p1), .val (.ref b5), .val (.int ((p2 &&& (2147483647 : Int32)) % (34 : Int32))), .val (.int (((p3 &&& (2147483647 : Int32)) % (3 : Int32)) - (1 : Int32)))] [(.int (((p3 &&& (2147483647 : Int32)) % (3 : Int32)) - (1 : Int32))), (.int w40)])) _
    refine XS.iadd X39.here hx rfl (hb hby at_256) rfl ?_
    show Steps p.tables e below (T39.setTop (mkF m 257 #[.val (.int p1), .val (.int p2), .val (.int p3), .val (.int p4), .val (.int p1), .val (.ref b5), .val (.int ((p2 &&& (2147483647 : Int32)) % (34 : Int32))), .val (.int (((p3 &&& (2147483647 : Int32)) % (3 : Int32)) - (1 : Int32)))] [(.int (w40 + (((p3 &&& (2147483647 : Int32)) % (3 : Int32)) - (1 : Int32))))])) _
    refine XS.istore X39.here hx rfl (hb hby at_257) rfl (l' := #[.val (.int p1), .val (.int p2), .val (.int p3), .val (.int p4), .val (.int (w40 + (((p3 &&& (2147483647 : Int32)) % (3 : Int32)) - (1 : Int32)))), .val (.ref b5), .val (.int ((p2 &&& (2147483647 : Int32)) % (34 : Int32))), .val (.int (((p3 &&& (2147483647 : Int32)) % (3 : Int32)) - (1 : Int32)))]) rfl ?_
    show Steps p.tables e below (T39.setTop (mkF m 259 #[.val (.int p1), .val (.int p2), .val (.int p3), .val (.int p4), .val (.int (w40 + (((p3 &&& (2147483647 : Int32)) % (3 : Int32)) - (1 : Int32)))), .val (.ref b5), .val (.int ((p2 &&& (2147483647 : Int32)) % (34 : Int32))), .val (.int (((p3 &&& (2147483647 : Int32)) % (3 : Int32)) - (1 : Int32)))] [])) _
    refine XS.iload X39.here hx rfl (hb hby at_259) rfl ?_
    show Steps p.tables e below (T39.setTop (mkF m 261 #[.val (.int p1), .val (.int p2), .val (.int p3), .val (.int p4), .val (.int (w40 + (((p3 &&& (2147483647 : Int32)) % (3 : Int32)) - (1 : Int32)))), .val (.ref b5), .val (.int ((p2 &&& (2147483647 : Int32)) % (34 : Int32))), .val (.int (((p3 &&& (2147483647 : Int32)) % (3 : Int32)) - (1 : Int32)))] [(.int (w40 + (((p3 &&& (2147483647 : Int32)) % (3 : Int32)) - (1 : Int32))))])) _
    refine st41 _ ?_
    show Steps p.tables e below (T41.setTop (mkF m 264 #[.val (.int p1), .val (.int p2), .val (.int p3), .val (.int p4), .val (.int (w40 + (((p3 &&& (2147483647 : Int32)) % (3 : Int32)) - (1 : Int32)))), .val (.ref b5), .val (.int ((p2 &&& (2147483647 : Int32)) % (34 : Int32))), .val (.int (((p3 &&& (2147483647 : Int32)) % (3 : Int32)) - (1 : Int32)))] [(.int (own_f1_0 (w40 + (((p3 &&& (2147483647 : Int32)) % (3 : Int32)) - (1 : Int32)))))])) _
    refine XS.iload X41.here hx rfl (hb hby at_264) rfl ?_
    show Steps p.tables e below (T41.setTop (mkF m 266 #[.val (.int p1), .val (.int p2), .val (.int p3), .val (.int p4), .val (.int (w40 + (((p3 &&& (2147483647 : Int32)) % (3 : Int32)) - (1 : Int32)))), .val (.ref b5), .val (.int ((p2 &&& (2147483647 : Int32)) % (34 : Int32))), .val (.int (((p3 &&& (2147483647 : Int32)) % (3 : Int32)) - (1 : Int32)))] [(.int (w40 + (((p3 &&& (2147483647 : Int32)) % (3 : Int32)) - (1 : Int32)))), (.int (own_f1_0 (w40 + (((p3 &&& (2147483647 : Int32)) % (3 : Int32)) - (1 : Int32)))))])) _
    refine st42 _ ?_
    show Steps p.tables e below (T42.setTop (mkF m 269 #[.val (.int p1), .val (.int p2), .val (.int p3), .val (.int p4), .val (.int (w40 + (((p3 &&& (2147483647 : Int32)) % (3 : Int32)) - (1 : Int32)))), .val (.ref b5), .val (.int ((p2 &&& (2147483647 : Int32)) % (34 : Int32))), .val (.int (((p3 &&& (2147483647 : Int32)) % (3 : Int32)) - (1 : Int32)))] [(.int (own_f2_0 (w40 + (((p3 &&& (2147483647 : Int32)) % (3 : Int32)) - (1 : Int32))))), (.int (own_f1_0 (w40 + (((p3 &&& (2147483647 : Int32)) % (3 : Int32)) - (1 : Int32)))))])) _
    refine XS.icmpNo X42.here hx rfl (hb hby at_269) rfl (teq ((own_law _) : (own_f1_0 (w40 + (((p3 &&& (2147483647 : Int32)) % (3 : Int32)) - (1 : Int32)))) = (own_f2_0 (w40 + (((p3 &&& (2147483647 : Int32)) % (3 : Int32)) - (1 : Int32)))))).2 ?_
    show Steps p.tables e below (T42.setTop (mkF m 272 #[.val (.int p1), .val (.int p2), .val (.int p3), .val (.int p4), .val (.int (w40 + (((p3 &&& (2147483647 : Int32)) % (3 : Int32)) - (1 : Int32)))), .val (.ref b5), .val (.int ((p2 &&& (2147483647 : Int32)) % (34 : Int32))), .val (.int (((p3 &&& (2147483647 : Int32)) % (3 : Int32)) - (1 : Int32)))] [])) _
    refine XS.iconst X42.here hx rfl (hb hby at_272) ?_
    show Steps p.tables e below (T42.setTop (mkF m 273 #[.val (.int p1), .val (.int p2), .val (.int p3), .val (.int p4), .val (.int (w40 + (((p3 &&& (2147483647 : Int32)) % (3 : Int32)) - (1 : Int32)))), .val (.ref b5), .val (.int ((p2 &&& (2147483647 : Int32)) % (34 : Int32))), .val (.int (((p3 &&& (2147483647 : Int32)) % (3 : Int32)) - (1 : Int32)))] [(.int (1 : Int32))])) _
    refine XS.goto X42.here hx rfl (pc0 := 273) (pc' := 277) rfl (hb hby at_273) (by decide) (by decide) ?_
    show Steps p.tables e below (T42.setTop (mkF m 277 #[.val (.int p1), .val (.int p2), .val (.int p3), .val (.int p4), .val (.int (w40 + (((p3 &&& (2147483647 : Int32)) % (3 : Int32)) - (1 : Int32)))), .val (.ref b5), .val (.int ((p2 &&& (2147483647 : Int32)) % (34 : Int32))), .val (.int (((p3 &&& (2147483647 : Int32)) % (3 : Int32)) - (1 : Int32)))] [(.int (1 : Int32))])) _
    exact retN X42 hx (t := .boolean) Bd.returns (by simp) (hb hby at_277) hr
  · show Q0 Z p1 p2 p3 p4 h0 n0 _ T42.heap _
    exact ⟨rfl, N42⟩
theorem rm0 (l : Launch) (Z : State) (a0 : Array Value) (hw : ∀ d ∈ tables_1, d.before a0 Z = true) (ws : List Jvm.Cond) (p1 : Int32) (p2 : Int32) (p3 : Int32) (p4 : Int32) (h0 : Heap) (n0 : Nat) (Z0 : n0 ≤ h0.size) :
    MetFree l x (head1 (Jvm.Cond.code x code maxLocals ret :: ws) room_1) (fun a U => a = #[(.int p1), (.int p2), (.int p3), (.int p4)] ∧ Z.Warmed39 U.vm ∧ U.heap = h0) (fun _ _ _ _ _ => True) (fun _ U o U' => ∃ v L, o = .returned v ∧ Q0 Z p1 p2 p3 p4 h0 n0 v U'.heap L ∧ FrameEnd U o U' L room_1.cells room_1.slots) := by
  by_cases hc6 : (p4 &&& (1 : Int32)) = (0 : Int32)
  · exact rm0b l Z a0 hw ws p1 p2 p3 p4 h0 n0 Z0 hc6
  · exact rm0a l Z a0 hw ws p1 p2 p3 p4 h0 n0 Z0 hc6
set_option maxRecDepth 65536 in
set_option maxHeartbeats 40000000 in
theorem comes_1 {Post : Tables → Env → Array Value → State → Outcome → State → Prop} (hpost : ∀ tb e args s v u, (limb_1_1.after args s (.returned v) u = true ∧ limb_1_2.after args s (.returned v) u = true ∧ True) → FrameEnd s (.returned v) u (Jvm.fieldLocs frame_1_writes args s ++ Jvm.arrayLocs frame_1_arrays args s ++ Jvm.staticLocs frame_1_statics s) 16 192 → Post tb e args s (.returned v) u) :
    ArmFor flags0 classFile x code maxLocals ret World_1 tables_1 room_1 Calls_1 rest_1 Pre_1 Post := by
  intro l hfl _ _ p e ha hc hk s m args below hf hA hF happ hP
  obtain ⟨hcalls, hrest, hpre⟩ := hP
  obtain ⟨-, -, -, hnamed, -, -, -, hat⟩ := (Spec.applies_iff hf).mp happ
  obtain ⟨hg, hn⟩ := and_e (Cond.before_iff.mp (show (Jvm.Cond.and given_1 narrow_1).before args s = true from hpre))
  obtain ⟨g7, g8⟩ := and_e hg
  obtain ⟨g9, g10⟩ := and_e g8
  obtain ⟨g11, g12⟩ := and_e g10
  obtain ⟨g13, g14⟩ := and_e g12
  obtain ⟨w0, w1, w2, w3, rfl⟩ : ∃ w0 w1 w2 w3 : Value, args = #[w0, w1, w2, w3] := by
    have hs : args.size = 4 := by simpa [Cond.value, given_1] using g7
    obtain ⟨L⟩ := args
    match L, hs with
    | [w0, w1, w2, w3], _ => exact ⟨w0, w1, w2, w3, rfl⟩
  have hw := fun d (hd : d ∈ tables_1) => atoms_spec (ws := Jvm.Cond.code x code maxLocals ret :: tables_1) hat d (List.mem_cons_of_mem _ hd)
  have hfit : Fit s := fun {y c} hc i hi => by
    obtain ⟨ha, rfl⟩ := Array.getElem?_eq_some_iff.mp hc
    have q := List.all_eq_true.mp ((Array.all_eq_true_iff_forall_mem.mp hF) _ (Array.getElem_mem ha)) i (List.mem_range.mpr hi)
    simpa [Array.getElem?_eq_getElem hi] using q
  obtain ⟨i0, ei0⟩ := is_v g9
  obtain rfl : w0 = (.int i0) := Option.some.inj ei0
  obtain ⟨i1, ei1⟩ := is_v g11
  obtain rfl : w1 = (.int i1) := Option.some.inj ei1
  obtain ⟨i2, ei2⟩ := is_v g13
  obtain rfl : w2 = (.int i2) := Option.some.inj ei2
  obtain ⟨i3, ei3⟩ := is_v g14
  obtain rfl : w3 = (.int i3) := Option.some.inj ei3
  obtain ⟨n, o, h1, h2, h3, _, L, rfl, ⟨rfl, N⟩, hq⟩ := rm0 l s _ hw tables_1 i0 i1 i2 i3 s.heap s.heap.size (Nat.le_refl _) p e ha hc hk s m _ below hf ((Spec.applies_iff_loose hf).mp happ).1 ⟨rfl, State.Warmed39.refl s, rfl⟩ trivial
  refine ⟨n, _, h1, h2, h3, hpost _ _ _ _ _ _ ⟨Cond.after_iff.mpr rfl, Cond.after_iff.mpr (eq_i res_at (Term.int_eval (1)) rfl), trivial⟩ ⟨hq.1, hq.2.1, (hq.2.2.sift fun y hy => Or.inr (N y hy)).mono (by decide) (by decide)⟩⟩
theorem main_1_1 : Claimed_1_1 := comes_1 fun _ _ _ _ _ _ h hF => ⟨h.1, hF⟩
theorem main_1_2 : Claimed_1_2 := comes_1 fun _ _ _ _ _ _ h hF => ⟨h.2.1, hF⟩
end Jvm.Pilot.@@N@@
namespace Jvm.Pilot.@@N@@
open Jvm Jvm.ClassFile Sem Op Lib Jvm.Free Jvm.Stand Jvm.Pilot.@@N@@.Jvm.D
/-! MADE BY PROGRAM (witnessworld.py) out of the Statement's table words and the real class files: 9 classes; the members and pool entries that the words name. The judged class is class 1, her method 1. -/
namespace start1
open Jvm.ClassFile
def u (s : String) : CpInfo := .utf8 (stringToUtf16 s)
/-- a pool by its gaps: so many unusable entries, then the entry; so many at the end -/
def gap : Nat → List CpInfo → List CpInfo
  | 0, r => r
  | n + 1, r => .unusable :: gap n r
def poolList (es : List (Nat × CpInfo)) (last : Nat) : List CpInfo := es.foldr (fun e r => gap e.1 (e.2 :: r)) (gap last [])
def pool (es : List (Nat × CpInfo)) (last : Nat) : Array CpInfo := ⟨poolList es last⟩
def fileOf (pool : Array CpInfo) (this : Nat) (attrs : Array Attribute := #[]) (ms : Array MethodInfo := #[]) (fl : Nat := 33) (sup : Nat := 0) (ifs : Array Nat := #[]) (fds : Array FieldInfo := #[]) : ClassFile where
  minorVersion := 0
  majorVersion := 65
  constantPool := pool
  accessFlags := fl
  thisClass := this
  superClass := sup
  interfaces := ifs
  fields := fds
  methods := ms
  attributes := attrs
def plain (name : String) (sup : Option ClassId) : Class where
  name := name
  kind := .ordinary
  loader := none
  accessFlags := 33
  super := sup
  interfaces := #[]
  cf := none
  fields := #[]
  methods := #[]
  instanceTypes := #[]
  staticTypes := #[]
  resolved := #[]
  callSites := []
  init := .initialized
  statics := none
  mirror := none

def pool0 : Array CpInfo := pool [(5, u "<init>"), (0, u "()V"), (1, .class_ 10), (1, u "java/lang/Object")] 113

def k0m0 : Method := { name := "<init>", desc := "()V", sig := { parameters := [], returnType := none }, accessFlags := 1, code := none }
/-- java/lang/Object -/
def k0 : Class := { plain "java/lang/Object" none with
  accessFlags := 33
  interfaces := #[]
  cf := some (fileOf pool0 8 #[] #[{ accessFlags := 1, nameIndex := 5, descriptorIndex := 6, attributes := #[] }] 33 0 #[] #[])
  fields := #[]
  methods := #[k0m0]
  instanceTypes := #[]
  staticTypes := #[]
  resolved := Array.replicate 124 none
  statics := none }

def pool1 : Array CpInfo := pool [(2, .class_ 4), (1, u "java/lang/Object"), (0, u "<init>"), (0, u "()V"), (0, .integer 55295), (0, .integer 63744), (0, .integer 64975), (0, .integer 65008), (0, .integer 65533), (0, .integer 65536), (0, .integer 983039), (2, .integer 2147483648), (0, .integer 2147483647), (0, .integer 1114111), (0, .methodref 20 21), (0, .class_ 22), (0, .nameAndType 23 24), (0, u "com/example/exqel/exqel/value/XmlChars"), (0, u "isNameStartChar"), (0, u "(I)Z"), (0, .methodref 26 27), (0, .class_ 28), (0, .nameAndType 29 24), (0, u "com/example/exqel/exqel/value/XmlCharsIsNameStartCharPinLaw"), (0, u "ref"), (0, .integer 55296), (0, .integer 63743), (0, .integer 64976), (0, .integer 65007), (0, .integer 65534), (0, .integer 65535), (2, u "law"), (0, u "(IIII)Z")] 3

def k1m0 : Method := { name := "<init>", desc := "()V", sig := { parameters := [], returnType := none }, accessFlags := 2, code := none }
def k1c1 : Code := { maxStack := 4, maxLocals := 8, code := code, exceptionTable := #[], attributes := #[] }
def k1m1 : Method := { name := "law", desc := "(IIII)Z", sig := { parameters := [.int, .int, .int, .int], returnType := some .boolean }, accessFlags := 9, code := some k1c1 }
def k1c2 : Code := { maxStack := 2, maxLocals := 1, code := method_3_code, exceptionTable := #[], attributes := #[] }
def k1m2 : Method := { name := "ref", desc := "(I)Z", sig := { parameters := [.int], returnType := some .boolean }, accessFlags := 10, code := some k1c2 }
/-- com/example/exqel/exqel/value/XmlCharsIsNameStartCharPinLaw -/
def k1 : Class := { plain "com/example/exqel/exqel/value/XmlCharsIsNameStartCharPinLaw" (some 0) with
  accessFlags := 49
  interfaces := #[]
  cf := some (fileOf pool1 26 #[] #[{ accessFlags := 2, nameIndex := 5, descriptorIndex := 6, attributes := #[] }, { accessFlags := 9, nameIndex := 38, descriptorIndex := 39, attributes := #[] }, { accessFlags := 10, nameIndex := 29, descriptorIndex := 24, attributes := #[] }] 49 2 #[] #[])
  fields := #[]
  methods := #[k1m0, k1m1, k1m2]
  instanceTypes := #[]
  staticTypes := #[]
  resolved := Array.replicate 43 none
  statics := none }

def pool2 : Array CpInfo := pool [(2, .class_ 4), (1, u "java/lang/Object"), (0, u "<init>"), (0, u "()V"), (0, .integer 55295), (1, .integer 65533), (0, .integer 65536), (1, .integer 63744), (0, .integer 64975), (0, .integer 65008), (0, .integer 983039), (11, .class_ 29), (1, u "com/example/exqel/exqel/value/XmlChars"), (0, u "isNameStartChar"), (0, u "(I)Z")] 21

def k2m0 : Method := { name := "<init>", desc := "()V", sig := { parameters := [], returnType := none }, accessFlags := 2, code := none }
def k2c1 : Code := { maxStack := 2, maxLocals := 1, code := prog_92_method_3_code, exceptionTable := #[], attributes := #[] }
def k2m1 : Method := { name := "isNameStartChar", desc := "(I)Z", sig := { parameters := [.int], returnType := some .boolean }, accessFlags := 9, code := some k2c1 }
/-- com/example/exqel/exqel/value/XmlChars -/
def k2 : Class := { plain "com/example/exqel/exqel/value/XmlChars" (some 0) with
  accessFlags := 49
  interfaces := #[]
  cf := some (fileOf pool2 27 #[] #[{ accessFlags := 2, nameIndex := 5, descriptorIndex := 6, attributes := #[] }, { accessFlags := 9, nameIndex := 30, descriptorIndex := 31, attributes := #[] }] 49 2 #[] #[])
  fields := #[]
  methods := #[k2m0, k2m1]
  instanceTypes := #[]
  staticTypes := #[]
  resolved := Array.replicate 53 none
  statics := none }

def pool3 : Array CpInfo := pool [(1, u "java/lang/Cloneable"), (0, .class_ 1), (0, u "java/lang/Object"), (0, .class_ 3)] 3

/-- java/lang/Cloneable -/
def k3 : Class := { plain "java/lang/Cloneable" (some 0) with
  accessFlags := 1537
  interfaces := #[]
  cf := some (fileOf pool3 2 #[] #[] 1537 4 #[] #[])
  fields := #[]
  methods := #[]
  instanceTypes := #[]
  staticTypes := #[]
  resolved := Array.replicate 8 none
  statics := none }

def pool4 : Array CpInfo := pool [(1, u "java/io/Serializable"), (0, .class_ 1), (0, u "java/lang/Object"), (0, .class_ 3)] 3

/-- java/io/Serializable -/
def k4 : Class := { plain "java/io/Serializable" (some 0) with
  accessFlags := 1537
  interfaces := #[]
  cf := some (fileOf pool4 2 #[] #[] 1537 4 #[] #[])
  fields := #[]
  methods := #[]
  instanceTypes := #[]
  staticTypes := #[]
  resolved := Array.replicate 8 none
  statics := none }

/-- the primitive byte -/
def k5 : Class := { plain "byte" none with kind := .primitive 'B', accessFlags := 0x411 }
/-- [B -/
def k6 : Class := { plain "[B" (some 0) with kind := .array 5 .byte, interfaces := #[3, 4], accessFlags := 1041 }

/-- the primitive int -/
def k7 : Class := { plain "int" none with kind := .primitive 'I', accessFlags := 0x411 }
/-- [I -/
def k8 : Class := { plain "[I" (some 0) with kind := .array 7 .int, interfaces := #[3, 4], accessFlags := 1041 }

def heap : Heap := #[]
def classes : Array Class := #[k0, k1, k2, k3, k4, k5, k6, k7, k8]
def interned : List (Array UInt16 × Addr) := []
def slotsUsed : Nat := 0
def theMethod : MethodId := ⟨1, 1⟩
def args0 : Array Value := #[.int 5, .int 7, .int 9, .int 2]
def aboutOver (below : List Frame) : State where
  vm := { classes := classes, interned := interned.toArray }
  heap := heap
  slotsUsed := slotsUsed
  threads := #[{ frames := .invoking theMethod args0 :: below }]
def below0 : List Frame := [.native { method := ⟨0, 0⟩, args := #[] }]
def about1 : State := aboutOver below0
def p0 : Program := .bare "" "" ""
def e0 : Env := launch0.env 0 0 0
theorem w_frames : about1.frames = Frame.invoking theMethod args0 :: below0 := rfl
set_option maxRecDepth 65536 in
theorem w_args : argsFit about1.vm theMethod args0 = true := by decide +kernel
set_option maxRecDepth 65536 in
theorem w_heap : heapFits about1 = true := by decide +kernel
set_option maxRecDepth 65536 in
theorem w_runnable : about1.curStatus? = some .runnable := by decide +kernel
set_option maxRecDepth 65536 in
theorem w_alone : about1.alone = true := by decide +kernel
set_option maxRecDepth 65536 in
theorem w_named : about1.methodNamed? x = some theMethod := by decide +kernel
set_option maxRecDepth 65536 in
theorem w_hears : about1.hears theMethod below0 = true := by decide +kernel
set_option maxRecDepth 65536 in
theorem w_ripe : about1.ripe theMethod args0 below0 = true := by decide +kernel
theorem w_running : about1.status = .running := rfl
set_option maxRecDepth 65536 in
theorem w_room : about1.hasRoom e0.platform room_1 = true :=
  launch0.hasRoom_least _ room_1 (by decide +kernel) (by decide +kernel) (by decide +kernel) (by decide +kernel) (by decide +kernel) (by decide +kernel)
theorem allAtoms_all (ts : List Jvm.Cond) (a : Array Jvm.Value) (st : Jvm.State) : (allAtoms ts).before a st = ts.all (fun c => c.before a st) := by
  induction ts with
  | nil => rfl
  | cons c t ih =>
    show (Jvm.Cond.and c (allAtoms t)).before a st = _
    rw [Jvm.Cond.before_and, ih, List.all_cons]
def words1 : List Jvm.Cond := Jvm.Cond.code x code maxLocals ret :: tables_1
/-- a 'code' word, met by the world's own term for the bytes: nothing is compared byte by byte -/
theorem code_word {y : MethodName} {bytes : ByteArray} {mx : Nat} {rt : Option FieldType} {a : Array Value} {s : State} {m : MethodId} {meth : Method} {c : Code} (h1 : s.methodNamed? y = some m) (h2 : s.vm.method? m = some meth) (h3 : meth.code = some c) (h4 : c.code = bytes)
    (h5 : (c.maxLocals == mx && c.exceptionTable.isEmpty && decide (c.maxStack ≤ mostOperands) && decide (meth.sig.returnType = rt) && !meth.locks && decide (parseMethodDescriptor y.desc = some meth.sig)) = true) : (Jvm.Cond.code y bytes mx rt).before a s = true := by
  simp only [Bool.and_eq_true, beq_iff_eq, Bool.not_eq_true', decide_eq_true_eq] at h5
  obtain ⟨⟨⟨⟨⟨g1, g2⟩, g3⟩, g4⟩, g5⟩, g6⟩ := h5
  simp [Cond.before, Cond.holds, Cond.value, h1, h2, h3, h4, g1, g2, g3, g4, g5, g6]
def isCode : Jvm.Cond → Bool
  | .code _ _ _ _ => true
  | _ => false
theorem all_split {L : List Jvm.Cond} {P : Jvm.Cond → Bool} (h1 : L.all (fun c => isCode c || P c) = true) (h2 : ∀ c ∈ L.filter isCode, P c = true) : L.all P = true := by
  refine List.all_eq_true.mpr fun c hc => ?_
  have h := List.all_eq_true.mp h1 c hc
  rcases Bool.eq_false_or_eq_true (isCode c) with hi | hi
  · exact h2 c (List.mem_filter.mpr ⟨hc, hi⟩)
  · simpa [hi] using h
set_option maxRecDepth 65536 in
theorem w_c0 : (Jvm.Cond.code x code maxLocals ret).before args0 about1 = true := code_word (m := ⟨1, 1⟩) (meth := k1m1) (c := k1c1) (by decide +kernel) rfl rfl rfl (by decide +kernel)
set_option maxRecDepth 65536 in
theorem w_c1 : (Jvm.Cond.code ({ cls := "com/example/exqel/exqel/value/XmlChars", name := "isNameStartChar", desc := "(I)Z" } : Jvm.MethodName) prog_92_method_3_code (1 : Nat) (Option.some Jvm.ClassFile.FieldType.boolean)).before args0 about1 = true := code_word (m := ⟨2, 1⟩) (meth := k2m1) (c := k2c1) (by decide +kernel) rfl rfl rfl (by decide +kernel)
set_option maxRecDepth 65536 in
theorem w_c2 : (Jvm.Cond.code ({ cls := "com/example/exqel/exqel/value/XmlCharsIsNameStartCharPinLaw", name := "ref", desc := "(I)Z" } : Jvm.MethodName) method_3_code (1 : Nat) (Option.some Jvm.ClassFile.FieldType.boolean)).before args0 about1 = true := code_word (m := ⟨1, 2⟩) (meth := k1m2) (c := k1c2) (by decide +kernel) rfl rfl rfl (by decide +kernel)
def codes1 : List Jvm.Cond := [Jvm.Cond.code x code maxLocals ret, Jvm.Cond.code ({ cls := "com/example/exqel/exqel/value/XmlChars", name := "isNameStartChar", desc := "(I)Z" } : Jvm.MethodName) prog_92_method_3_code (1 : Nat) (Option.some Jvm.ClassFile.FieldType.boolean), Jvm.Cond.code ({ cls := "com/example/exqel/exqel/value/XmlCharsIsNameStartCharPinLaw", name := "ref", desc := "(I)Z" } : Jvm.MethodName) method_3_code (1 : Nat) (Option.some Jvm.ClassFile.FieldType.boolean)]
set_option maxRecDepth 65536 in
theorem codes_eq : words1.filter isCode = codes1 := rfl
theorem w_codes : ∀ c ∈ words1.filter isCode, c.before args0 about1 = true := by
  rw [codes_eq]
  intro c hc
  simp only [codes1, List.mem_cons, List.not_mem_nil, or_false] at hc
  rcases hc with rfl | rfl | rfl
  · exact w_c0
  · exact w_c1
  · exact w_c2
set_option maxRecDepth 65536 in
theorem w_t1 : (words1.take 24).all (fun c => isCode c || c.before args0 about1) = true := by decide +kernel
set_option maxRecDepth 65536 in
theorem w_t2 : (words1.drop 24).all (fun c => isCode c || c.before args0 about1) = true := by decide +kernel
theorem w_tables : (allAtoms (Jvm.Cond.code x code maxLocals ret :: tables_1)).before args0 about1 = true := by
  rw [allAtoms_all]
  show words1.all (fun c => c.before args0 about1) = true
  refine all_split ?_ w_codes
  rw [← List.take_append_drop 24 words1, List.all_append, w_t1, w_t2]
  rfl
set_option maxRecDepth 65536 in
theorem w_case : (Jvm.Cond.and given_1 narrow_1).before args0 about1 = true := by decide +kernel
theorem w_applies : (headSpec (Jvm.Cond.code x code maxLocals ret :: tables_1) room_1).applies x e0.platform about1 = true :=
  (Spec.applies_iff w_frames).mpr ⟨w_running, w_runnable, w_alone, w_named, w_hears, w_ripe, w_room, w_tables⟩
theorem atStart : AtStart classFile x code maxLocals ret World_1 tables_1 room_1 Calls_1 rest_1 Pre_1 launch0 p0 e0 about1 theMethod args0 below0 :=
  ⟨lists_1, trivial, launch0.admits_env _ _ _, launch0.least_env, fairChoices_fair.cas, fairChoices_fair.clock, w_frames, w_args, w_heap, w_applies, trivial, trivial, w_case⟩
end start1
theorem witness_1 : WitnessClaimed_1 := ⟨start1.p0, start1.e0, start1.about1, start1.theMethod, start1.args0, start1.below0, start1.atStart⟩
end Jvm.Pilot.@@N@@

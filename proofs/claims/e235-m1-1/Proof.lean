import JvmDerived
import JvmDerived.Pilot.@@N@@Statement
import JvmDerived.Pilot.@@N@@Code
set_option linter.unusedVariables false
set_option linter.unusedSimpArgs false
@@BLOCK:NumsL.lean.txt@@
namespace Jvm.RoadKit
open Sem ClassFile Op Lib Jvm.Stand Jvm.Free Jvm.LawKit
section New
variable {p : Program} {l : Launch} {e : Env} {R : Room} {s : State} {m : MethodId} {args : Array Value} {below : List Frame} {meth : Method} {c : Code} {T : State} {locs : List Loc} {cells slots : Nat}
theorem retI (X : Stand p l e R s m args below meth c T locs cells slots) (hx : p.tables.exec = Jvm.exec) {pc : Nat} {Ls : Array Slot} {z : Int32} {rest : List Value} (hret : meth.sig.returnType = some .int) (hd : decode c.code pc = .ok (.ireturn, 1)) {fs : List Frame}
    (hl : ∀ (f : JFrame) (acts : List Action), f.method = m → f.locked = none → f.entered = [] → (doReturn e (T.setTop f) acts (some (.int z))).1 = T.setFrames fs) : Steps p.tables e below (T.setTop (mkF m pc Ls (.int z :: rest))) (T.setFrames fs) := by
  have hm' : T.vm.method? m = some meth := X.method'
  have hn : narrow .int (.int z) = .int z := rfl
  show Steps p.tables e below (T.setTop { method := m, pc := pc, locals := Ls, stack := _ :: rest, locked := none }) _
  jvm_step X.here [X.here.top, hx, hd, hm', hret, hn]
  first | (intro acts; rw [hl _ acts rfl rfl rfl]) | rw [hl _ _ rfl rfl rfl]
  exact Steps.refl _
end New
end Jvm.RoadKit
namespace Jvm.Pilot.@@N@@
open Jvm Jvm.ClassFile Sem Op Lib Jvm.Free Jvm.Stand Jvm.LawKit Jvm.RoadKit Bundle Jvm.Pilot.@@N@@.Jvm.D
theorem d1_0 : decode prog_88_method_5_code 0 = .ok (.iload_n 0, 1) := by decide +kernel
theorem d1_1 : decode prog_88_method_5_code 1 = .ok (.bipush 97, 2) := by decide +kernel
theorem d1_3 : decode prog_88_method_5_code 3 = .ok (.if_icmp .lt 9, 3) := by decide +kernel
theorem d1_6 : decode prog_88_method_5_code 6 = .ok (.iload_n 0, 1) := by decide +kernel
theorem d1_7 : decode prog_88_method_5_code 7 = .ok (.bipush 122, 2) := by decide +kernel
theorem d1_9 : decode prog_88_method_5_code 9 = .ok (.if_icmp .le 182, 3) := by decide +kernel
theorem d1_12 : decode prog_88_method_5_code 12 = .ok (.iload_n 0, 1) := by decide +kernel
theorem d1_13 : decode prog_88_method_5_code 13 = .ok (.bipush 65, 2) := by decide +kernel
theorem d1_15 : decode prog_88_method_5_code 15 = .ok (.if_icmp .lt 9, 3) := by decide +kernel
theorem d1_18 : decode prog_88_method_5_code 18 = .ok (.iload_n 0, 1) := by decide +kernel
theorem d1_19 : decode prog_88_method_5_code 19 = .ok (.bipush 90, 2) := by decide +kernel
theorem d1_21 : decode prog_88_method_5_code 21 = .ok (.if_icmp .le 170, 3) := by decide +kernel
theorem d1_24 : decode prog_88_method_5_code 24 = .ok (.iload_n 0, 1) := by decide +kernel
theorem d1_25 : decode prog_88_method_5_code 25 = .ok (.bipush 95, 2) := by decide +kernel
theorem d1_27 : decode prog_88_method_5_code 27 = .ok (.if_icmp .eq 164, 3) := by decide +kernel
theorem d1_30 : decode prog_88_method_5_code 30 = .ok (.iload_n 0, 1) := by decide +kernel
theorem d1_31 : decode prog_88_method_5_code 31 = .ok (.sipush 192, 3) := by decide +kernel
theorem d1_34 : decode prog_88_method_5_code 34 = .ok (.if_icmp .lt 10, 3) := by decide +kernel
theorem d1_37 : decode prog_88_method_5_code 37 = .ok (.iload_n 0, 1) := by decide +kernel
theorem d1_38 : decode prog_88_method_5_code 38 = .ok (.sipush 214, 3) := by decide +kernel
theorem d1_41 : decode prog_88_method_5_code 41 = .ok (.if_icmp .le 150, 3) := by decide +kernel
theorem d1_44 : decode prog_88_method_5_code 44 = .ok (.iload_n 0, 1) := by decide +kernel
theorem d1_45 : decode prog_88_method_5_code 45 = .ok (.sipush 216, 3) := by decide +kernel
theorem d1_48 : decode prog_88_method_5_code 48 = .ok (.if_icmp .lt 10, 3) := by decide +kernel
theorem d1_51 : decode prog_88_method_5_code 51 = .ok (.iload_n 0, 1) := by decide +kernel
theorem d1_52 : decode prog_88_method_5_code 52 = .ok (.sipush 246, 3) := by decide +kernel
theorem d1_55 : decode prog_88_method_5_code 55 = .ok (.if_icmp .le 136, 3) := by decide +kernel
theorem d1_58 : decode prog_88_method_5_code 58 = .ok (.iload_n 0, 1) := by decide +kernel
theorem d1_59 : decode prog_88_method_5_code 59 = .ok (.sipush 248, 3) := by decide +kernel
theorem d1_62 : decode prog_88_method_5_code 62 = .ok (.if_icmp .lt 10, 3) := by decide +kernel
theorem d1_65 : decode prog_88_method_5_code 65 = .ok (.iload_n 0, 1) := by decide +kernel
theorem d1_66 : decode prog_88_method_5_code 66 = .ok (.sipush 767, 3) := by decide +kernel
theorem d1_69 : decode prog_88_method_5_code 69 = .ok (.if_icmp .le 122, 3) := by decide +kernel
theorem d1_72 : decode prog_88_method_5_code 72 = .ok (.iload_n 0, 1) := by decide +kernel
theorem d1_73 : decode prog_88_method_5_code 73 = .ok (.sipush 880, 3) := by decide +kernel
theorem d1_76 : decode prog_88_method_5_code 76 = .ok (.if_icmp .lt 10, 3) := by decide +kernel
theorem d1_79 : decode prog_88_method_5_code 79 = .ok (.iload_n 0, 1) := by decide +kernel
theorem d1_80 : decode prog_88_method_5_code 80 = .ok (.sipush 893, 3) := by decide +kernel
theorem d1_83 : decode prog_88_method_5_code 83 = .ok (.if_icmp .le 108, 3) := by decide +kernel
theorem d1_86 : decode prog_88_method_5_code 86 = .ok (.iload_n 0, 1) := by decide +kernel
theorem d1_87 : decode prog_88_method_5_code 87 = .ok (.sipush 895, 3) := by decide +kernel
theorem d1_90 : decode prog_88_method_5_code 90 = .ok (.if_icmp .lt 10, 3) := by decide +kernel
theorem d1_93 : decode prog_88_method_5_code 93 = .ok (.iload_n 0, 1) := by decide +kernel
theorem d1_94 : decode prog_88_method_5_code 94 = .ok (.sipush 8191, 3) := by decide +kernel
theorem d1_97 : decode prog_88_method_5_code 97 = .ok (.if_icmp .le 94, 3) := by decide +kernel
theorem d1_100 : decode prog_88_method_5_code 100 = .ok (.iload_n 0, 1) := by decide +kernel
theorem d1_101 : decode prog_88_method_5_code 101 = .ok (.sipush 8204, 3) := by decide +kernel
theorem d1_104 : decode prog_88_method_5_code 104 = .ok (.if_icmp .lt 10, 3) := by decide +kernel
theorem d1_107 : decode prog_88_method_5_code 107 = .ok (.iload_n 0, 1) := by decide +kernel
theorem d1_108 : decode prog_88_method_5_code 108 = .ok (.sipush 8205, 3) := by decide +kernel
theorem d1_111 : decode prog_88_method_5_code 111 = .ok (.if_icmp .le 80, 3) := by decide +kernel
theorem d1_114 : decode prog_88_method_5_code 114 = .ok (.iload_n 0, 1) := by decide +kernel
theorem d1_115 : decode prog_88_method_5_code 115 = .ok (.sipush 8304, 3) := by decide +kernel
theorem d1_118 : decode prog_88_method_5_code 118 = .ok (.if_icmp .lt 10, 3) := by decide +kernel
theorem d1_121 : decode prog_88_method_5_code 121 = .ok (.iload_n 0, 1) := by decide +kernel
theorem d1_122 : decode prog_88_method_5_code 122 = .ok (.sipush 8591, 3) := by decide +kernel
theorem d1_125 : decode prog_88_method_5_code 125 = .ok (.if_icmp .le 66, 3) := by decide +kernel
theorem d1_128 : decode prog_88_method_5_code 128 = .ok (.iload_n 0, 1) := by decide +kernel
theorem d1_129 : decode prog_88_method_5_code 129 = .ok (.sipush 11264, 3) := by decide +kernel
theorem d1_132 : decode prog_88_method_5_code 132 = .ok (.if_icmp .lt 10, 3) := by decide +kernel
theorem d1_135 : decode prog_88_method_5_code 135 = .ok (.iload_n 0, 1) := by decide +kernel
theorem d1_136 : decode prog_88_method_5_code 136 = .ok (.sipush 12271, 3) := by decide +kernel
theorem d1_139 : decode prog_88_method_5_code 139 = .ok (.if_icmp .le 52, 3) := by decide +kernel
theorem d1_142 : decode prog_88_method_5_code 142 = .ok (.iload_n 0, 1) := by decide +kernel
theorem d1_143 : decode prog_88_method_5_code 143 = .ok (.sipush 12289, 3) := by decide +kernel
theorem d1_146 : decode prog_88_method_5_code 146 = .ok (.if_icmp .lt 9, 3) := by decide +kernel
theorem d1_149 : decode prog_88_method_5_code 149 = .ok (.iload_n 0, 1) := by decide +kernel
theorem d1_150 : decode prog_88_method_5_code 150 = .ok (.ldc 133, 2) := by decide +kernel
theorem d1_152 : decode prog_88_method_5_code 152 = .ok (.if_icmp .le 39, 3) := by decide +kernel
theorem d1_155 : decode prog_88_method_5_code 155 = .ok (.iload_n 0, 1) := by decide +kernel
theorem d1_156 : decode prog_88_method_5_code 156 = .ok (.ldc 134, 2) := by decide +kernel
theorem d1_158 : decode prog_88_method_5_code 158 = .ok (.if_icmp .lt 9, 3) := by decide +kernel
theorem d1_161 : decode prog_88_method_5_code 161 = .ok (.iload_n 0, 1) := by decide +kernel
theorem d1_162 : decode prog_88_method_5_code 162 = .ok (.ldc 135, 2) := by decide +kernel
theorem d1_164 : decode prog_88_method_5_code 164 = .ok (.if_icmp .le 27, 3) := by decide +kernel
theorem d1_167 : decode prog_88_method_5_code 167 = .ok (.iload_n 0, 1) := by decide +kernel
theorem d1_168 : decode prog_88_method_5_code 168 = .ok (.ldc 136, 2) := by decide +kernel
theorem d1_170 : decode prog_88_method_5_code 170 = .ok (.if_icmp .lt 9, 3) := by decide +kernel
theorem d1_173 : decode prog_88_method_5_code 173 = .ok (.iload_n 0, 1) := by decide +kernel
theorem d1_174 : decode prog_88_method_5_code 174 = .ok (.ldc 137, 2) := by decide +kernel
theorem d1_176 : decode prog_88_method_5_code 176 = .ok (.if_icmp .le 15, 3) := by decide +kernel
theorem d1_179 : decode prog_88_method_5_code 179 = .ok (.iload_n 0, 1) := by decide +kernel
theorem d1_180 : decode prog_88_method_5_code 180 = .ok (.ldc 138, 2) := by decide +kernel
theorem d1_182 : decode prog_88_method_5_code 182 = .ok (.if_icmp .lt 13, 3) := by decide +kernel
theorem d1_185 : decode prog_88_method_5_code 185 = .ok (.iload_n 0, 1) := by decide +kernel
theorem d1_186 : decode prog_88_method_5_code 186 = .ok (.ldc 139, 2) := by decide +kernel
theorem d1_188 : decode prog_88_method_5_code 188 = .ok (.if_icmp .gt 7, 3) := by decide +kernel
theorem d1_191 : decode prog_88_method_5_code 191 = .ok (.iconst 1, 1) := by decide +kernel
theorem d1_192 : decode prog_88_method_5_code 192 = .ok (.goto 4, 3) := by decide +kernel
theorem d1_195 : decode prog_88_method_5_code 195 = .ok (.iconst 0, 1) := by decide +kernel
theorem d1_196 : decode prog_88_method_5_code 196 = .ok (.ireturn, 1) := by decide +kernel
theorem pn_1 : plainName "com/example/fallbak/fallbak/xpath/QName" = true := by first | (simp [plainName, overriddenIn]; done) | decide +kernel
theorem ef_1 (m : MethodId) (x0 : Int32) : entryFrame m #[(.int x0)] 1 = mkF m 0 #[.val (.int x0)] [] := by first | (simp [entryFrame, mkF, argsToLocals, Value.category]; done) | rfl
def own_v1_195 (p1 : Int32) : Int32 := (0 : Int32)
def own_v1_191 (p1 : Int32) : Int32 := (1 : Int32)
def own_v1_185 (p1 : Int32) : Int32 := if (983039 : Int32) < p1 then own_v1_195 p1 else own_v1_191 p1
def own_v1_179 (p1 : Int32) : Int32 := if p1 < (65536 : Int32) then own_v1_195 p1 else own_v1_185 p1
def own_v1_173 (p1 : Int32) : Int32 := if (65533 : Int32) < p1 then own_v1_179 p1 else own_v1_191 p1
def own_v1_167 (p1 : Int32) : Int32 := if p1 < (65008 : Int32) then own_v1_179 p1 else own_v1_173 p1
def own_v1_161 (p1 : Int32) : Int32 := if (64975 : Int32) < p1 then own_v1_167 p1 else own_v1_191 p1
def own_v1_155 (p1 : Int32) : Int32 := if p1 < (63744 : Int32) then own_v1_167 p1 else own_v1_161 p1
def own_v1_149 (p1 : Int32) : Int32 := if (55295 : Int32) < p1 then own_v1_155 p1 else own_v1_191 p1
def own_v1_142 (p1 : Int32) : Int32 := if p1 < (12289 : Int32) then own_v1_155 p1 else own_v1_149 p1
def own_v1_135 (p1 : Int32) : Int32 := if (12271 : Int32) < p1 then own_v1_142 p1 else own_v1_191 p1
def own_v1_128 (p1 : Int32) : Int32 := if p1 < (11264 : Int32) then own_v1_142 p1 else own_v1_135 p1
def own_v1_121 (p1 : Int32) : Int32 := if (8591 : Int32) < p1 then own_v1_128 p1 else own_v1_191 p1
def own_v1_114 (p1 : Int32) : Int32 := if p1 < (8304 : Int32) then own_v1_128 p1 else own_v1_121 p1
def own_v1_107 (p1 : Int32) : Int32 := if (8205 : Int32) < p1 then own_v1_114 p1 else own_v1_191 p1
def own_v1_100 (p1 : Int32) : Int32 := if p1 < (8204 : Int32) then own_v1_114 p1 else own_v1_107 p1
def own_v1_93 (p1 : Int32) : Int32 := if (8191 : Int32) < p1 then own_v1_100 p1 else own_v1_191 p1
def own_v1_86 (p1 : Int32) : Int32 := if p1 < (895 : Int32) then own_v1_100 p1 else own_v1_93 p1
def own_v1_79 (p1 : Int32) : Int32 := if (893 : Int32) < p1 then own_v1_86 p1 else own_v1_191 p1
def own_v1_72 (p1 : Int32) : Int32 := if p1 < (880 : Int32) then own_v1_86 p1 else own_v1_79 p1
def own_v1_65 (p1 : Int32) : Int32 := if (767 : Int32) < p1 then own_v1_72 p1 else own_v1_191 p1
def own_v1_58 (p1 : Int32) : Int32 := if p1 < (248 : Int32) then own_v1_72 p1 else own_v1_65 p1
def own_v1_51 (p1 : Int32) : Int32 := if (246 : Int32) < p1 then own_v1_58 p1 else own_v1_191 p1
def own_v1_44 (p1 : Int32) : Int32 := if p1 < (216 : Int32) then own_v1_58 p1 else own_v1_51 p1
def own_v1_37 (p1 : Int32) : Int32 := if (214 : Int32) < p1 then own_v1_44 p1 else own_v1_191 p1
def own_v1_30 (p1 : Int32) : Int32 := if p1 < (192 : Int32) then own_v1_44 p1 else own_v1_37 p1
def own_v1_24 (p1 : Int32) : Int32 := if p1 = (95 : Int32) then own_v1_191 p1 else own_v1_30 p1
def own_v1_18 (p1 : Int32) : Int32 := if (90 : Int32) < p1 then own_v1_24 p1 else own_v1_191 p1
def own_v1_12 (p1 : Int32) : Int32 := if p1 < (65 : Int32) then own_v1_24 p1 else own_v1_18 p1
def own_v1_6 (p1 : Int32) : Int32 := if (122 : Int32) < p1 then own_v1_12 p1 else own_v1_191 p1
def own_v1_0 (p1 : Int32) : Int32 := if p1 < (97 : Int32) then own_v1_12 p1 else own_v1_6 p1
def Q1 (Z : State) (p1 : Int32) (h0 : Heap) (n0 : Nat) (v : Option Value) (h : Heap) (L : List Loc) : Prop := v = some (.int (own_v1_0 p1)) ∧ Fr n0 L ∧ h = h0
set_option maxRecDepth 65536 in
set_option maxHeartbeats 40000000 in
theorem rm1 (l : Launch) (Z : State) (a0 : Array Value) (hw : ∀ d ∈ tables_1, d.before a0 Z = true) (ws : List Jvm.Cond) (p1 : Int32) (h0 : Heap) (n0 : Nat) (Z0 : n0 ≤ h0.size) :
    MetFree l (⟨"com/example/fallbak/fallbak/xpath/QName", "isNameStartChar", "(I)Z"⟩ : MethodName) (head1 (Jvm.Cond.code (⟨"com/example/fallbak/fallbak/xpath/QName", "isNameStartChar", "(I)Z"⟩ : MethodName) prog_88_method_5_code 1 (some .boolean) :: ws) ({ frames := 0, cells := 0, slots := 0, locals := 0 } : Room)) (fun a U => a = #[(.int p1)] ∧ Z.Warmed39 U.vm ∧ U.heap = h0) (fun _ _ _ _ _ => True) (fun _ U o U' => ∃ v L, o = .returned v ∧ Q1 Z p1 h0 n0 v U'.heap L ∧ FrameEnd U o U' L ({ frames := 0, cells := 0, slots := 0, locals := 0 } : Room).cells ({ frames := 0, cells := 0, slots := 0, locals := 0 } : Room).slots) := by
  refine MetFree.of_bodySF (plainFor_of_name pn_1) hisR ?_
  intro p e s m args below meth c s₁ Bd hml0 hP hK
  obtain ⟨rfl, hZ, hh⟩ := hP
  have hx := Bd.exec
  have hby := Bd.bytes
  have hown : s.vm.findClass "com/example/fallbak/fallbak/xpath/QName" = some m.cls := findClass_of_methodNamed Bd.named
  have X0 : Stand p l e ({ frames := 0, cells := 0, slots := 0, locals := 0 } : Room) s m #[(.int p1)] below meth c s₁ [] 0 0 := Stand.of_body Bd
  have e0 : s₁.heap = h0 := by rw [← hh, Bd.state]; rfl
  have N0 := Fr.nil n0
  have pre0 : ∀ t, Steps p.tables e below (s₁.setTop (mkF m 0 #[.val (.int p1)] [])) t → Steps p.tables e below (s₁.setTop (entryFrame m #[(.int p1)] 1)) t := fun t k => castTop (ef_1 m p1) k
  obtain ⟨z, hz0⟩ : ∃ z, own_v1_0 p1 = z := ⟨_, rfl⟩
  obtain ⟨fs, hr, hrun, hended, hW, hsame⟩ := X0.leave (v := some (.int z)) (fun h => by rw [Bd.returns] at h; cases h)
  have b195 : own_v1_195 p1 = z → Steps p.tables e below (s₁.setTop (mkF m 195 #[.val (.int p1)] [])) (s₁.setFrames fs) := by
    intro hz
    refine XS.iconst X0.here hx rfl (hb hby d1_195) ?_
    show Steps p.tables e below (s₁.setTop (mkF m 196 #[.val (.int p1)] [(.int (0 : Int32))])) _
    subst hz
    exact retN X0 hx (t := .boolean) Bd.returns (by simp) (hb hby d1_196) hr
  have b191 : own_v1_191 p1 = z → Steps p.tables e below (s₁.setTop (mkF m 191 #[.val (.int p1)] [])) (s₁.setFrames fs) := by
    intro hz
    refine XS.iconst X0.here hx rfl (hb hby d1_191) ?_
    show Steps p.tables e below (s₁.setTop (mkF m 192 #[.val (.int p1)] [(.int (1 : Int32))])) _
    refine XS.goto X0.here hx rfl (pc0 := 192) (pc' := 196) rfl (hb hby d1_192) (by decide) (by decide) ?_
    show Steps p.tables e below (s₁.setTop (mkF m 196 #[.val (.int p1)] [(.int (1 : Int32))])) _
    subst hz
    exact retN X0 hx (t := .boolean) Bd.returns (by simp) (hb hby d1_196) hr
  have b185 : own_v1_185 p1 = z → Steps p.tables e below (s₁.setTop (mkF m 185 #[.val (.int p1)] [])) (s₁.setFrames fs) := by
    intro hz
    refine XS.iloadN X0.here hx rfl (hb hby d1_185) rfl ?_
    show Steps p.tables e below (s₁.setTop (mkF m 186 #[.val (.int p1)] [(.int p1)])) _
    refine X0.ldcInt hx hown (mvT hZ (hw _ (List.mem_of_getElem? (i := 27) rfl))) (g := (mkF m 186 #[.val (.int p1)] [(.int p1)])) rfl (hb hby d1_186) _ ?_
    show Steps p.tables e below (s₁.setTop (mkF m 188 #[.val (.int p1)] [(.int (983039 : Int32)), (.int p1)])) _
    unfold own_v1_185 at hz
    by_cases h : (983039 : Int32) < p1
    · rw [if_pos h] at hz
      refine XS.icmpYes X0.here hx rfl (pc0 := 188) (pc' := 195) rfl (hb hby d1_188) rfl (tlt h).2.2.1 (by decide) (by decide) ?_
      exact b195 hz
    · rw [if_neg h] at hz
      refine XS.icmpNo X0.here hx rfl (hb hby d1_188) rfl (flt h).2.2.1 ?_
      exact b191 hz
  have b179 : own_v1_179 p1 = z → Steps p.tables e below (s₁.setTop (mkF m 179 #[.val (.int p1)] [])) (s₁.setFrames fs) := by
    intro hz
    refine XS.iloadN X0.here hx rfl (hb hby d1_179) rfl ?_
    show Steps p.tables e below (s₁.setTop (mkF m 180 #[.val (.int p1)] [(.int p1)])) _
    refine X0.ldcInt hx hown (mvT hZ (hw _ (List.mem_of_getElem? (i := 15) rfl))) (g := (mkF m 180 #[.val (.int p1)] [(.int p1)])) rfl (hb hby d1_180) _ ?_
    show Steps p.tables e below (s₁.setTop (mkF m 182 #[.val (.int p1)] [(.int (65536 : Int32)), (.int p1)])) _
    unfold own_v1_179 at hz
    by_cases h : p1 < (65536 : Int32)
    · rw [if_pos h] at hz
      refine XS.icmpYes X0.here hx rfl (pc0 := 182) (pc' := 195) rfl (hb hby d1_182) rfl (tlt h).1 (by decide) (by decide) ?_
      exact b195 hz
    · rw [if_neg h] at hz
      refine XS.icmpNo X0.here hx rfl (hb hby d1_182) rfl (flt h).1 ?_
      exact b185 hz
  have b173 : own_v1_173 p1 = z → Steps p.tables e below (s₁.setTop (mkF m 173 #[.val (.int p1)] [])) (s₁.setFrames fs) := by
    intro hz
    refine XS.iloadN X0.here hx rfl (hb hby d1_173) rfl ?_
    show Steps p.tables e below (s₁.setTop (mkF m 174 #[.val (.int p1)] [(.int p1)])) _
    refine X0.ldcInt hx hown (mvT hZ (hw _ (List.mem_of_getElem? (i := 26) rfl))) (g := (mkF m 174 #[.val (.int p1)] [(.int p1)])) rfl (hb hby d1_174) _ ?_
    show Steps p.tables e below (s₁.setTop (mkF m 176 #[.val (.int p1)] [(.int (65533 : Int32)), (.int p1)])) _
    unfold own_v1_173 at hz
    by_cases h : (65533 : Int32) < p1
    · rw [if_pos h] at hz
      refine XS.icmpNo X0.here hx rfl (hb hby d1_176) rfl (tlt h).2.2.2 ?_
      exact b179 hz
    · rw [if_neg h] at hz
      refine XS.icmpYes X0.here hx rfl (pc0 := 176) (pc' := 191) rfl (hb hby d1_176) rfl (flt h).2.2.2 (by decide) (by decide) ?_
      exact b191 hz
  have b167 : own_v1_167 p1 = z → Steps p.tables e below (s₁.setTop (mkF m 167 #[.val (.int p1)] [])) (s₁.setFrames fs) := by
    intro hz
    refine XS.iloadN X0.here hx rfl (hb hby d1_167) rfl ?_
    show Steps p.tables e below (s₁.setTop (mkF m 168 #[.val (.int p1)] [(.int p1)])) _
    refine X0.ldcInt hx hown (mvT hZ (hw _ (List.mem_of_getElem? (i := 14) rfl))) (g := (mkF m 168 #[.val (.int p1)] [(.int p1)])) rfl (hb hby d1_168) _ ?_
    show Steps p.tables e below (s₁.setTop (mkF m 170 #[.val (.int p1)] [(.int (65008 : Int32)), (.int p1)])) _
    unfold own_v1_167 at hz
    by_cases h : p1 < (65008 : Int32)
    · rw [if_pos h] at hz
      refine XS.icmpYes X0.here hx rfl (pc0 := 170) (pc' := 179) rfl (hb hby d1_170) rfl (tlt h).1 (by decide) (by decide) ?_
      exact b179 hz
    · rw [if_neg h] at hz
      refine XS.icmpNo X0.here hx rfl (hb hby d1_170) rfl (flt h).1 ?_
      exact b173 hz
  have b161 : own_v1_161 p1 = z → Steps p.tables e below (s₁.setTop (mkF m 161 #[.val (.int p1)] [])) (s₁.setFrames fs) := by
    intro hz
    refine XS.iloadN X0.here hx rfl (hb hby d1_161) rfl ?_
    show Steps p.tables e below (s₁.setTop (mkF m 162 #[.val (.int p1)] [(.int p1)])) _
    refine X0.ldcInt hx hown (mvT hZ (hw _ (List.mem_of_getElem? (i := 25) rfl))) (g := (mkF m 162 #[.val (.int p1)] [(.int p1)])) rfl (hb hby d1_162) _ ?_
    show Steps p.tables e below (s₁.setTop (mkF m 164 #[.val (.int p1)] [(.int (64975 : Int32)), (.int p1)])) _
    unfold own_v1_161 at hz
    by_cases h : (64975 : Int32) < p1
    · rw [if_pos h] at hz
      refine XS.icmpNo X0.here hx rfl (hb hby d1_164) rfl (tlt h).2.2.2 ?_
      exact b167 hz
    · rw [if_neg h] at hz
      refine XS.icmpYes X0.here hx rfl (pc0 := 164) (pc' := 191) rfl (hb hby d1_164) rfl (flt h).2.2.2 (by decide) (by decide) ?_
      exact b191 hz
  have b155 : own_v1_155 p1 = z → Steps p.tables e below (s₁.setTop (mkF m 155 #[.val (.int p1)] [])) (s₁.setFrames fs) := by
    intro hz
    refine XS.iloadN X0.here hx rfl (hb hby d1_155) rfl ?_
    show Steps p.tables e below (s₁.setTop (mkF m 156 #[.val (.int p1)] [(.int p1)])) _
    refine X0.ldcInt hx hown (mvT hZ (hw _ (List.mem_of_getElem? (i := 13) rfl))) (g := (mkF m 156 #[.val (.int p1)] [(.int p1)])) rfl (hb hby d1_156) _ ?_
    show Steps p.tables e below (s₁.setTop (mkF m 158 #[.val (.int p1)] [(.int (63744 : Int32)), (.int p1)])) _
    unfold own_v1_155 at hz
    by_cases h : p1 < (63744 : Int32)
    · rw [if_pos h] at hz
      refine XS.icmpYes X0.here hx rfl (pc0 := 158) (pc' := 167) rfl (hb hby d1_158) rfl (tlt h).1 (by decide) (by decide) ?_
      exact b167 hz
    · rw [if_neg h] at hz
      refine XS.icmpNo X0.here hx rfl (hb hby d1_158) rfl (flt h).1 ?_
      exact b161 hz
  have b149 : own_v1_149 p1 = z → Steps p.tables e below (s₁.setTop (mkF m 149 #[.val (.int p1)] [])) (s₁.setFrames fs) := by
    intro hz
    refine XS.iloadN X0.here hx rfl (hb hby d1_149) rfl ?_
    show Steps p.tables e below (s₁.setTop (mkF m 150 #[.val (.int p1)] [(.int p1)])) _
    refine X0.ldcInt hx hown (mvT hZ (hw _ (List.mem_of_getElem? (i := 24) rfl))) (g := (mkF m 150 #[.val (.int p1)] [(.int p1)])) rfl (hb hby d1_150) _ ?_
    show Steps p.tables e below (s₁.setTop (mkF m 152 #[.val (.int p1)] [(.int (55295 : Int32)), (.int p1)])) _
    unfold own_v1_149 at hz
    by_cases h : (55295 : Int32) < p1
    · rw [if_pos h] at hz
      refine XS.icmpNo X0.here hx rfl (hb hby d1_152) rfl (tlt h).2.2.2 ?_
      exact b155 hz
    · rw [if_neg h] at hz
      refine XS.icmpYes X0.here hx rfl (pc0 := 152) (pc' := 191) rfl (hb hby d1_152) rfl (flt h).2.2.2 (by decide) (by decide) ?_
      exact b191 hz
  have b142 : own_v1_142 p1 = z → Steps p.tables e below (s₁.setTop (mkF m 142 #[.val (.int p1)] [])) (s₁.setFrames fs) := by
    intro hz
    refine XS.iloadN X0.here hx rfl (hb hby d1_142) rfl ?_
    show Steps p.tables e below (s₁.setTop (mkF m 143 #[.val (.int p1)] [(.int p1)])) _
    refine XS.sipush X0.here hx rfl (hb hby d1_143) ?_
    show Steps p.tables e below (s₁.setTop (mkF m 146 #[.val (.int p1)] [(.int (12289 : Int32)), (.int p1)])) _
    unfold own_v1_142 at hz
    by_cases h : p1 < (12289 : Int32)
    · rw [if_pos h] at hz
      refine XS.icmpYes X0.here hx rfl (pc0 := 146) (pc' := 155) rfl (hb hby d1_146) rfl (tlt h).1 (by decide) (by decide) ?_
      exact b155 hz
    · rw [if_neg h] at hz
      refine XS.icmpNo X0.here hx rfl (hb hby d1_146) rfl (flt h).1 ?_
      exact b149 hz
  have b135 : own_v1_135 p1 = z → Steps p.tables e below (s₁.setTop (mkF m 135 #[.val (.int p1)] [])) (s₁.setFrames fs) := by
    intro hz
    refine XS.iloadN X0.here hx rfl (hb hby d1_135) rfl ?_
    show Steps p.tables e below (s₁.setTop (mkF m 136 #[.val (.int p1)] [(.int p1)])) _
    refine XS.sipush X0.here hx rfl (hb hby d1_136) ?_
    show Steps p.tables e below (s₁.setTop (mkF m 139 #[.val (.int p1)] [(.int (12271 : Int32)), (.int p1)])) _
    unfold own_v1_135 at hz
    by_cases h : (12271 : Int32) < p1
    · rw [if_pos h] at hz
      refine XS.icmpNo X0.here hx rfl (hb hby d1_139) rfl (tlt h).2.2.2 ?_
      exact b142 hz
    · rw [if_neg h] at hz
      refine XS.icmpYes X0.here hx rfl (pc0 := 139) (pc' := 191) rfl (hb hby d1_139) rfl (flt h).2.2.2 (by decide) (by decide) ?_
      exact b191 hz
  have b128 : own_v1_128 p1 = z → Steps p.tables e below (s₁.setTop (mkF m 128 #[.val (.int p1)] [])) (s₁.setFrames fs) := by
    intro hz
    refine XS.iloadN X0.here hx rfl (hb hby d1_128) rfl ?_
    show Steps p.tables e below (s₁.setTop (mkF m 129 #[.val (.int p1)] [(.int p1)])) _
    refine XS.sipush X0.here hx rfl (hb hby d1_129) ?_
    show Steps p.tables e below (s₁.setTop (mkF m 132 #[.val (.int p1)] [(.int (11264 : Int32)), (.int p1)])) _
    unfold own_v1_128 at hz
    by_cases h : p1 < (11264 : Int32)
    · rw [if_pos h] at hz
      refine XS.icmpYes X0.here hx rfl (pc0 := 132) (pc' := 142) rfl (hb hby d1_132) rfl (tlt h).1 (by decide) (by decide) ?_
      exact b142 hz
    · rw [if_neg h] at hz
      refine XS.icmpNo X0.here hx rfl (hb hby d1_132) rfl (flt h).1 ?_
      exact b135 hz
  have b121 : own_v1_121 p1 = z → Steps p.tables e below (s₁.setTop (mkF m 121 #[.val (.int p1)] [])) (s₁.setFrames fs) := by
    intro hz
    refine XS.iloadN X0.here hx rfl (hb hby d1_121) rfl ?_
    show Steps p.tables e below (s₁.setTop (mkF m 122 #[.val (.int p1)] [(.int p1)])) _
    refine XS.sipush X0.here hx rfl (hb hby d1_122) ?_
    show Steps p.tables e below (s₁.setTop (mkF m 125 #[.val (.int p1)] [(.int (8591 : Int32)), (.int p1)])) _
    unfold own_v1_121 at hz
    by_cases h : (8591 : Int32) < p1
    · rw [if_pos h] at hz
      refine XS.icmpNo X0.here hx rfl (hb hby d1_125) rfl (tlt h).2.2.2 ?_
      exact b128 hz
    · rw [if_neg h] at hz
      refine XS.icmpYes X0.here hx rfl (pc0 := 125) (pc' := 191) rfl (hb hby d1_125) rfl (flt h).2.2.2 (by decide) (by decide) ?_
      exact b191 hz
  have b114 : own_v1_114 p1 = z → Steps p.tables e below (s₁.setTop (mkF m 114 #[.val (.int p1)] [])) (s₁.setFrames fs) := by
    intro hz
    refine XS.iloadN X0.here hx rfl (hb hby d1_114) rfl ?_
    show Steps p.tables e below (s₁.setTop (mkF m 115 #[.val (.int p1)] [(.int p1)])) _
    refine XS.sipush X0.here hx rfl (hb hby d1_115) ?_
    show Steps p.tables e below (s₁.setTop (mkF m 118 #[.val (.int p1)] [(.int (8304 : Int32)), (.int p1)])) _
    unfold own_v1_114 at hz
    by_cases h : p1 < (8304 : Int32)
    · rw [if_pos h] at hz
      refine XS.icmpYes X0.here hx rfl (pc0 := 118) (pc' := 128) rfl (hb hby d1_118) rfl (tlt h).1 (by decide) (by decide) ?_
      exact b128 hz
    · rw [if_neg h] at hz
      refine XS.icmpNo X0.here hx rfl (hb hby d1_118) rfl (flt h).1 ?_
      exact b121 hz
  have b107 : own_v1_107 p1 = z → Steps p.tables e below (s₁.setTop (mkF m 107 #[.val (.int p1)] [])) (s₁.setFrames fs) := by
    intro hz
    refine XS.iloadN X0.here hx rfl (hb hby d1_107) rfl ?_
    show Steps p.tables e below (s₁.setTop (mkF m 108 #[.val (.int p1)] [(.int p1)])) _
    refine XS.sipush X0.here hx rfl (hb hby d1_108) ?_
    show Steps p.tables e below (s₁.setTop (mkF m 111 #[.val (.int p1)] [(.int (8205 : Int32)), (.int p1)])) _
    unfold own_v1_107 at hz
    by_cases h : (8205 : Int32) < p1
    · rw [if_pos h] at hz
      refine XS.icmpNo X0.here hx rfl (hb hby d1_111) rfl (tlt h).2.2.2 ?_
      exact b114 hz
    · rw [if_neg h] at hz
      refine XS.icmpYes X0.here hx rfl (pc0 := 111) (pc' := 191) rfl (hb hby d1_111) rfl (flt h).2.2.2 (by decide) (by decide) ?_
      exact b191 hz
  have b100 : own_v1_100 p1 = z → Steps p.tables e below (s₁.setTop (mkF m 100 #[.val (.int p1)] [])) (s₁.setFrames fs) := by
    intro hz
    refine XS.iloadN X0.here hx rfl (hb hby d1_100) rfl ?_
    show Steps p.tables e below (s₁.setTop (mkF m 101 #[.val (.int p1)] [(.int p1)])) _
    refine XS.sipush X0.here hx rfl (hb hby d1_101) ?_
    show Steps p.tables e below (s₁.setTop (mkF m 104 #[.val (.int p1)] [(.int (8204 : Int32)), (.int p1)])) _
    unfold own_v1_100 at hz
    by_cases h : p1 < (8204 : Int32)
    · rw [if_pos h] at hz
      refine XS.icmpYes X0.here hx rfl (pc0 := 104) (pc' := 114) rfl (hb hby d1_104) rfl (tlt h).1 (by decide) (by decide) ?_
      exact b114 hz
    · rw [if_neg h] at hz
      refine XS.icmpNo X0.here hx rfl (hb hby d1_104) rfl (flt h).1 ?_
      exact b107 hz
  have b93 : own_v1_93 p1 = z → Steps p.tables e below (s₁.setTop (mkF m 93 #[.val (.int p1)] [])) (s₁.setFrames fs) := by
    intro hz
    refine XS.iloadN X0.here hx rfl (hb hby d1_93) rfl ?_
    show Steps p.tables e below (s₁.setTop (mkF m 94 #[.val (.int p1)] [(.int p1)])) _
    refine XS.sipush X0.here hx rfl (hb hby d1_94) ?_
    show Steps p.tables e below (s₁.setTop (mkF m 97 #[.val (.int p1)] [(.int (8191 : Int32)), (.int p1)])) _
    unfold own_v1_93 at hz
    by_cases h : (8191 : Int32) < p1
    · rw [if_pos h] at hz
      refine XS.icmpNo X0.here hx rfl (hb hby d1_97) rfl (tlt h).2.2.2 ?_
      exact b100 hz
    · rw [if_neg h] at hz
      refine XS.icmpYes X0.here hx rfl (pc0 := 97) (pc' := 191) rfl (hb hby d1_97) rfl (flt h).2.2.2 (by decide) (by decide) ?_
      exact b191 hz
  have b86 : own_v1_86 p1 = z → Steps p.tables e below (s₁.setTop (mkF m 86 #[.val (.int p1)] [])) (s₁.setFrames fs) := by
    intro hz
    refine XS.iloadN X0.here hx rfl (hb hby d1_86) rfl ?_
    show Steps p.tables e below (s₁.setTop (mkF m 87 #[.val (.int p1)] [(.int p1)])) _
    refine XS.sipush X0.here hx rfl (hb hby d1_87) ?_
    show Steps p.tables e below (s₁.setTop (mkF m 90 #[.val (.int p1)] [(.int (895 : Int32)), (.int p1)])) _
    unfold own_v1_86 at hz
    by_cases h : p1 < (895 : Int32)
    · rw [if_pos h] at hz
      refine XS.icmpYes X0.here hx rfl (pc0 := 90) (pc' := 100) rfl (hb hby d1_90) rfl (tlt h).1 (by decide) (by decide) ?_
      exact b100 hz
    · rw [if_neg h] at hz
      refine XS.icmpNo X0.here hx rfl (hb hby d1_90) rfl (flt h).1 ?_
      exact b93 hz
  have b79 : own_v1_79 p1 = z → Steps p.tables e below (s₁.setTop (mkF m 79 #[.val (.int p1)] [])) (s₁.setFrames fs) := by
    intro hz
    refine XS.iloadN X0.here hx rfl (hb hby d1_79) rfl ?_
    show Steps p.tables e below (s₁.setTop (mkF m 80 #[.val (.int p1)] [(.int p1)])) _
    refine XS.sipush X0.here hx rfl (hb hby d1_80) ?_
    show Steps p.tables e below (s₁.setTop (mkF m 83 #[.val (.int p1)] [(.int (893 : Int32)), (.int p1)])) _
    unfold own_v1_79 at hz
    by_cases h : (893 : Int32) < p1
    · rw [if_pos h] at hz
      refine XS.icmpNo X0.here hx rfl (hb hby d1_83) rfl (tlt h).2.2.2 ?_
      exact b86 hz
    · rw [if_neg h] at hz
      refine XS.icmpYes X0.here hx rfl (pc0 := 83) (pc' := 191) rfl (hb hby d1_83) rfl (flt h).2.2.2 (by decide) (by decide) ?_
      exact b191 hz
  have b72 : own_v1_72 p1 = z → Steps p.tables e below (s₁.setTop (mkF m 72 #[.val (.int p1)] [])) (s₁.setFrames fs) := by
    intro hz
    refine XS.iloadN X0.here hx rfl (hb hby d1_72) rfl ?_
    show Steps p.tables e below (s₁.setTop (mkF m 73 #[.val (.int p1)] [(.int p1)])) _
    refine XS.sipush X0.here hx rfl (hb hby d1_73) ?_
    show Steps p.tables e below (s₁.setTop (mkF m 76 #[.val (.int p1)] [(.int (880 : Int32)), (.int p1)])) _
    unfold own_v1_72 at hz
    by_cases h : p1 < (880 : Int32)
    · rw [if_pos h] at hz
      refine XS.icmpYes X0.here hx rfl (pc0 := 76) (pc' := 86) rfl (hb hby d1_76) rfl (tlt h).1 (by decide) (by decide) ?_
      exact b86 hz
    · rw [if_neg h] at hz
      refine XS.icmpNo X0.here hx rfl (hb hby d1_76) rfl (flt h).1 ?_
      exact b79 hz
  have b65 : own_v1_65 p1 = z → Steps p.tables e below (s₁.setTop (mkF m 65 #[.val (.int p1)] [])) (s₁.setFrames fs) := by
    intro hz
    refine XS.iloadN X0.here hx rfl (hb hby d1_65) rfl ?_
    show Steps p.tables e below (s₁.setTop (mkF m 66 #[.val (.int p1)] [(.int p1)])) _
    refine XS.sipush X0.here hx rfl (hb hby d1_66) ?_
    show Steps p.tables e below (s₁.setTop (mkF m 69 #[.val (.int p1)] [(.int (767 : Int32)), (.int p1)])) _
    unfold own_v1_65 at hz
    by_cases h : (767 : Int32) < p1
    · rw [if_pos h] at hz
      refine XS.icmpNo X0.here hx rfl (hb hby d1_69) rfl (tlt h).2.2.2 ?_
      exact b72 hz
    · rw [if_neg h] at hz
      refine XS.icmpYes X0.here hx rfl (pc0 := 69) (pc' := 191) rfl (hb hby d1_69) rfl (flt h).2.2.2 (by decide) (by decide) ?_
      exact b191 hz
  have b58 : own_v1_58 p1 = z → Steps p.tables e below (s₁.setTop (mkF m 58 #[.val (.int p1)] [])) (s₁.setFrames fs) := by
    intro hz
    refine XS.iloadN X0.here hx rfl (hb hby d1_58) rfl ?_
    show Steps p.tables e below (s₁.setTop (mkF m 59 #[.val (.int p1)] [(.int p1)])) _
    refine XS.sipush X0.here hx rfl (hb hby d1_59) ?_
    show Steps p.tables e below (s₁.setTop (mkF m 62 #[.val (.int p1)] [(.int (248 : Int32)), (.int p1)])) _
    unfold own_v1_58 at hz
    by_cases h : p1 < (248 : Int32)
    · rw [if_pos h] at hz
      refine XS.icmpYes X0.here hx rfl (pc0 := 62) (pc' := 72) rfl (hb hby d1_62) rfl (tlt h).1 (by decide) (by decide) ?_
      exact b72 hz
    · rw [if_neg h] at hz
      refine XS.icmpNo X0.here hx rfl (hb hby d1_62) rfl (flt h).1 ?_
      exact b65 hz
  have b51 : own_v1_51 p1 = z → Steps p.tables e below (s₁.setTop (mkF m 51 #[.val (.int p1)] [])) (s₁.setFrames fs) := by
    intro hz
    refine XS.iloadN X0.here hx rfl (hb hby d1_51) rfl ?_
    show Steps p.tables e below (s₁.setTop (mkF m 52 #[.val (.int p1)] [(.int p1)])) _
    refine XS.sipush X0.here hx rfl (hb hby d1_52) ?_
    show Steps p.tables e below (s₁.setTop (mkF m 55 #[.val (.int p1)] [(.int (246 : Int32)), (.int p1)])) _
    unfold own_v1_51 at hz
    by_cases h : (246 : Int32) < p1
    · rw [if_pos h] at hz
      refine XS.icmpNo X0.here hx rfl (hb hby d1_55) rfl (tlt h).2.2.2 ?_
      exact b58 hz
    · rw [if_neg h] at hz
      refine XS.icmpYes X0.here hx rfl (pc0 := 55) (pc' := 191) rfl (hb hby d1_55) rfl (flt h).2.2.2 (by decide) (by decide) ?_
      exact b191 hz
  have b44 : own_v1_44 p1 = z → Steps p.tables e below (s₁.setTop (mkF m 44 #[.val (.int p1)] [])) (s₁.setFrames fs) := by
    intro hz
    refine XS.iloadN X0.here hx rfl (hb hby d1_44) rfl ?_
    show Steps p.tables e below (s₁.setTop (mkF m 45 #[.val (.int p1)] [(.int p1)])) _
    refine XS.sipush X0.here hx rfl (hb hby d1_45) ?_
    show Steps p.tables e below (s₁.setTop (mkF m 48 #[.val (.int p1)] [(.int (216 : Int32)), (.int p1)])) _
    unfold own_v1_44 at hz
    by_cases h : p1 < (216 : Int32)
    · rw [if_pos h] at hz
      refine XS.icmpYes X0.here hx rfl (pc0 := 48) (pc' := 58) rfl (hb hby d1_48) rfl (tlt h).1 (by decide) (by decide) ?_
      exact b58 hz
    · rw [if_neg h] at hz
      refine XS.icmpNo X0.here hx rfl (hb hby d1_48) rfl (flt h).1 ?_
      exact b51 hz
  have b37 : own_v1_37 p1 = z → Steps p.tables e below (s₁.setTop (mkF m 37 #[.val (.int p1)] [])) (s₁.setFrames fs) := by
    intro hz
    refine XS.iloadN X0.here hx rfl (hb hby d1_37) rfl ?_
    show Steps p.tables e below (s₁.setTop (mkF m 38 #[.val (.int p1)] [(.int p1)])) _
    refine XS.sipush X0.here hx rfl (hb hby d1_38) ?_
    show Steps p.tables e below (s₁.setTop (mkF m 41 #[.val (.int p1)] [(.int (214 : Int32)), (.int p1)])) _
    unfold own_v1_37 at hz
    by_cases h : (214 : Int32) < p1
    · rw [if_pos h] at hz
      refine XS.icmpNo X0.here hx rfl (hb hby d1_41) rfl (tlt h).2.2.2 ?_
      exact b44 hz
    · rw [if_neg h] at hz
      refine XS.icmpYes X0.here hx rfl (pc0 := 41) (pc' := 191) rfl (hb hby d1_41) rfl (flt h).2.2.2 (by decide) (by decide) ?_
      exact b191 hz
  have b30 : own_v1_30 p1 = z → Steps p.tables e below (s₁.setTop (mkF m 30 #[.val (.int p1)] [])) (s₁.setFrames fs) := by
    intro hz
    refine XS.iloadN X0.here hx rfl (hb hby d1_30) rfl ?_
    show Steps p.tables e below (s₁.setTop (mkF m 31 #[.val (.int p1)] [(.int p1)])) _
    refine XS.sipush X0.here hx rfl (hb hby d1_31) ?_
    show Steps p.tables e below (s₁.setTop (mkF m 34 #[.val (.int p1)] [(.int (192 : Int32)), (.int p1)])) _
    unfold own_v1_30 at hz
    by_cases h : p1 < (192 : Int32)
    · rw [if_pos h] at hz
      refine XS.icmpYes X0.here hx rfl (pc0 := 34) (pc' := 44) rfl (hb hby d1_34) rfl (tlt h).1 (by decide) (by decide) ?_
      exact b44 hz
    · rw [if_neg h] at hz
      refine XS.icmpNo X0.here hx rfl (hb hby d1_34) rfl (flt h).1 ?_
      exact b37 hz
  have b24 : own_v1_24 p1 = z → Steps p.tables e below (s₁.setTop (mkF m 24 #[.val (.int p1)] [])) (s₁.setFrames fs) := by
    intro hz
    refine XS.iloadN X0.here hx rfl (hb hby d1_24) rfl ?_
    show Steps p.tables e below (s₁.setTop (mkF m 25 #[.val (.int p1)] [(.int p1)])) _
    refine XS.bipush X0.here hx rfl (hb hby d1_25) ?_
    show Steps p.tables e below (s₁.setTop (mkF m 27 #[.val (.int p1)] [(.int (95 : Int32)), (.int p1)])) _
    unfold own_v1_24 at hz
    by_cases h : p1 = (95 : Int32)
    · rw [if_pos h] at hz
      refine XS.icmpYes X0.here hx rfl (pc0 := 27) (pc' := 191) rfl (hb hby d1_27) rfl (teq h).1 (by decide) (by decide) ?_
      exact b191 hz
    · rw [if_neg h] at hz
      refine XS.icmpNo X0.here hx rfl (hb hby d1_27) rfl (feq h).1 ?_
      exact b30 hz
  have b18 : own_v1_18 p1 = z → Steps p.tables e below (s₁.setTop (mkF m 18 #[.val (.int p1)] [])) (s₁.setFrames fs) := by
    intro hz
    refine XS.iloadN X0.here hx rfl (hb hby d1_18) rfl ?_
    show Steps p.tables e below (s₁.setTop (mkF m 19 #[.val (.int p1)] [(.int p1)])) _
    refine XS.bipush X0.here hx rfl (hb hby d1_19) ?_
    show Steps p.tables e below (s₁.setTop (mkF m 21 #[.val (.int p1)] [(.int (90 : Int32)), (.int p1)])) _
    unfold own_v1_18 at hz
    by_cases h : (90 : Int32) < p1
    · rw [if_pos h] at hz
      refine XS.icmpNo X0.here hx rfl (hb hby d1_21) rfl (tlt h).2.2.2 ?_
      exact b24 hz
    · rw [if_neg h] at hz
      refine XS.icmpYes X0.here hx rfl (pc0 := 21) (pc' := 191) rfl (hb hby d1_21) rfl (flt h).2.2.2 (by decide) (by decide) ?_
      exact b191 hz
  have b12 : own_v1_12 p1 = z → Steps p.tables e below (s₁.setTop (mkF m 12 #[.val (.int p1)] [])) (s₁.setFrames fs) := by
    intro hz
    refine XS.iloadN X0.here hx rfl (hb hby d1_12) rfl ?_
    show Steps p.tables e below (s₁.setTop (mkF m 13 #[.val (.int p1)] [(.int p1)])) _
    refine XS.bipush X0.here hx rfl (hb hby d1_13) ?_
    show Steps p.tables e below (s₁.setTop (mkF m 15 #[.val (.int p1)] [(.int (65 : Int32)), (.int p1)])) _
    unfold own_v1_12 at hz
    by_cases h : p1 < (65 : Int32)
    · rw [if_pos h] at hz
      refine XS.icmpYes X0.here hx rfl (pc0 := 15) (pc' := 24) rfl (hb hby d1_15) rfl (tlt h).1 (by decide) (by decide) ?_
      exact b24 hz
    · rw [if_neg h] at hz
      refine XS.icmpNo X0.here hx rfl (hb hby d1_15) rfl (flt h).1 ?_
      exact b18 hz
  have b6 : own_v1_6 p1 = z → Steps p.tables e below (s₁.setTop (mkF m 6 #[.val (.int p1)] [])) (s₁.setFrames fs) := by
    intro hz
    refine XS.iloadN X0.here hx rfl (hb hby d1_6) rfl ?_
    show Steps p.tables e below (s₁.setTop (mkF m 7 #[.val (.int p1)] [(.int p1)])) _
    refine XS.bipush X0.here hx rfl (hb hby d1_7) ?_
    show Steps p.tables e below (s₁.setTop (mkF m 9 #[.val (.int p1)] [(.int (122 : Int32)), (.int p1)])) _
    unfold own_v1_6 at hz
    by_cases h : (122 : Int32) < p1
    · rw [if_pos h] at hz
      refine XS.icmpNo X0.here hx rfl (hb hby d1_9) rfl (tlt h).2.2.2 ?_
      exact b12 hz
    · rw [if_neg h] at hz
      refine XS.icmpYes X0.here hx rfl (pc0 := 9) (pc' := 191) rfl (hb hby d1_9) rfl (flt h).2.2.2 (by decide) (by decide) ?_
      exact b191 hz
  have b0 : own_v1_0 p1 = z → Steps p.tables e below (s₁.setTop (mkF m 0 #[.val (.int p1)] [])) (s₁.setFrames fs) := by
    intro hz
    refine XS.iloadN X0.here hx rfl (hb hby d1_0) rfl ?_
    show Steps p.tables e below (s₁.setTop (mkF m 1 #[.val (.int p1)] [(.int p1)])) _
    refine XS.bipush X0.here hx rfl (hb hby d1_1) ?_
    show Steps p.tables e below (s₁.setTop (mkF m 3 #[.val (.int p1)] [(.int (97 : Int32)), (.int p1)])) _
    unfold own_v1_0 at hz
    by_cases h : p1 < (97 : Int32)
    · rw [if_pos h] at hz
      refine XS.icmpYes X0.here hx rfl (pc0 := 3) (pc' := 12) rfl (hb hby d1_3) rfl (tlt h).1 (by decide) (by decide) ?_
      exact b12 hz
    · rw [if_neg h] at hz
      refine XS.icmpNo X0.here hx rfl (hb hby d1_3) rfl (flt h).1 ?_
      exact b6 hz
  refine ⟨_, _, pre0 _ ?_, hrun, hended, _, _, rfl, ?_, ⟨_, rfl⟩, hW, hsame.mono (by decide) (by decide)⟩
  · exact b0 hz0
  · show Q1 Z p1 h0 n0 _ s₁.heap _
    rw [e0, ← hz0]
    exact ⟨rfl, N0, rfl⟩
theorem d2_0 : decode method_2_code 0 = .ok (.iload_n 0, 1) := by decide +kernel
theorem d2_1 : decode method_2_code 1 = .ok (.bipush 65, 2) := by decide +kernel
theorem d2_3 : decode method_2_code 3 = .ok (.if_icmp .lt 9, 3) := by decide +kernel
theorem d2_6 : decode method_2_code 6 = .ok (.iload_n 0, 1) := by decide +kernel
theorem d2_7 : decode method_2_code 7 = .ok (.ldc 7, 2) := by decide +kernel
theorem d2_9 : decode method_2_code 9 = .ok (.if_icmp .le 5, 3) := by decide +kernel
theorem d2_12 : decode method_2_code 12 = .ok (.iconst 0, 1) := by decide +kernel
theorem d2_13 : decode method_2_code 13 = .ok (.ireturn, 1) := by decide +kernel
theorem d2_14 : decode method_2_code 14 = .ok (.iload_n 0, 1) := by decide +kernel
theorem d2_15 : decode method_2_code 15 = .ok (.bipush 90, 2) := by decide +kernel
theorem d2_17 : decode method_2_code 17 = .ok (.if_icmp .le 21, 3) := by decide +kernel
theorem d2_20 : decode method_2_code 20 = .ok (.iload_n 0, 1) := by decide +kernel
theorem d2_21 : decode method_2_code 21 = .ok (.bipush 97, 2) := by decide +kernel
theorem d2_23 : decode method_2_code 23 = .ok (.if_icmp .ge 15, 3) := by decide +kernel
theorem d2_26 : decode method_2_code 26 = .ok (.iload_n 0, 1) := by decide +kernel
theorem d2_27 : decode method_2_code 27 = .ok (.bipush 95, 2) := by decide +kernel
theorem d2_29 : decode method_2_code 29 = .ok (.if_icmp .ne 7, 3) := by decide +kernel
theorem d2_32 : decode method_2_code 32 = .ok (.iconst 1, 1) := by decide +kernel
theorem d2_33 : decode method_2_code 33 = .ok (.goto 4, 3) := by decide +kernel
theorem d2_36 : decode method_2_code 36 = .ok (.iconst 0, 1) := by decide +kernel
theorem d2_37 : decode method_2_code 37 = .ok (.ireturn, 1) := by decide +kernel
theorem d2_38 : decode method_2_code 38 = .ok (.iload_n 0, 1) := by decide +kernel
theorem d2_39 : decode method_2_code 39 = .ok (.bipush 122, 2) := by decide +kernel
theorem d2_41 : decode method_2_code 41 = .ok (.if_icmp .le 12, 3) := by decide +kernel
theorem d2_44 : decode method_2_code 44 = .ok (.iload_n 0, 1) := by decide +kernel
theorem d2_45 : decode method_2_code 45 = .ok (.sipush 192, 3) := by decide +kernel
theorem d2_48 : decode method_2_code 48 = .ok (.if_icmp .ge 5, 3) := by decide +kernel
theorem d2_51 : decode method_2_code 51 = .ok (.iconst 0, 1) := by decide +kernel
theorem d2_52 : decode method_2_code 52 = .ok (.ireturn, 1) := by decide +kernel
theorem d2_53 : decode method_2_code 53 = .ok (.iload_n 0, 1) := by decide +kernel
theorem d2_54 : decode method_2_code 54 = .ok (.sipush 215, 3) := by decide +kernel
theorem d2_57 : decode method_2_code 57 = .ok (.if_icmp .eq 10, 3) := by decide +kernel
theorem d2_60 : decode method_2_code 60 = .ok (.iload_n 0, 1) := by decide +kernel
theorem d2_61 : decode method_2_code 61 = .ok (.sipush 247, 3) := by decide +kernel
theorem d2_64 : decode method_2_code 64 = .ok (.if_icmp .ne 5, 3) := by decide +kernel
theorem d2_67 : decode method_2_code 67 = .ok (.iconst 0, 1) := by decide +kernel
theorem d2_68 : decode method_2_code 68 = .ok (.ireturn, 1) := by decide +kernel
theorem d2_69 : decode method_2_code 69 = .ok (.iload_n 0, 1) := by decide +kernel
theorem d2_70 : decode method_2_code 70 = .ok (.sipush 768, 3) := by decide +kernel
theorem d2_73 : decode method_2_code 73 = .ok (.if_icmp .lt 12, 3) := by decide +kernel
theorem d2_76 : decode method_2_code 76 = .ok (.iload_n 0, 1) := by decide +kernel
theorem d2_77 : decode method_2_code 77 = .ok (.sipush 879, 3) := by decide +kernel
theorem d2_80 : decode method_2_code 80 = .ok (.if_icmp .gt 5, 3) := by decide +kernel
theorem d2_83 : decode method_2_code 83 = .ok (.iconst 0, 1) := by decide +kernel
theorem d2_84 : decode method_2_code 84 = .ok (.ireturn, 1) := by decide +kernel
theorem d2_85 : decode method_2_code 85 = .ok (.iload_n 0, 1) := by decide +kernel
theorem d2_86 : decode method_2_code 86 = .ok (.sipush 894, 3) := by decide +kernel
theorem d2_89 : decode method_2_code 89 = .ok (.if_icmp .ne 5, 3) := by decide +kernel
theorem d2_92 : decode method_2_code 92 = .ok (.iconst 0, 1) := by decide +kernel
theorem d2_93 : decode method_2_code 93 = .ok (.ireturn, 1) := by decide +kernel
theorem d2_94 : decode method_2_code 94 = .ok (.iload_n 0, 1) := by decide +kernel
theorem d2_95 : decode method_2_code 95 = .ok (.sipush 8192, 3) := by decide +kernel
theorem d2_98 : decode method_2_code 98 = .ok (.if_icmp .lt 30, 3) := by decide +kernel
theorem d2_101 : decode method_2_code 101 = .ok (.iload_n 0, 1) := by decide +kernel
theorem d2_102 : decode method_2_code 102 = .ok (.sipush 8303, 3) := by decide +kernel
theorem d2_105 : decode method_2_code 105 = .ok (.if_icmp .gt 23, 3) := by decide +kernel
theorem d2_108 : decode method_2_code 108 = .ok (.iload_n 0, 1) := by decide +kernel
theorem d2_109 : decode method_2_code 109 = .ok (.sipush 8204, 3) := by decide +kernel
theorem d2_112 : decode method_2_code 112 = .ok (.if_icmp .eq 10, 3) := by decide +kernel
theorem d2_115 : decode method_2_code 115 = .ok (.iload_n 0, 1) := by decide +kernel
theorem d2_116 : decode method_2_code 116 = .ok (.sipush 8205, 3) := by decide +kernel
theorem d2_119 : decode method_2_code 119 = .ok (.if_icmp .ne 7, 3) := by decide +kernel
theorem d2_122 : decode method_2_code 122 = .ok (.iconst 1, 1) := by decide +kernel
theorem d2_123 : decode method_2_code 123 = .ok (.goto 4, 3) := by decide +kernel
theorem d2_126 : decode method_2_code 126 = .ok (.iconst 0, 1) := by decide +kernel
theorem d2_127 : decode method_2_code 127 = .ok (.ireturn, 1) := by decide +kernel
theorem d2_128 : decode method_2_code 128 = .ok (.iload_n 0, 1) := by decide +kernel
theorem d2_129 : decode method_2_code 129 = .ok (.sipush 8592, 3) := by decide +kernel
theorem d2_132 : decode method_2_code 132 = .ok (.if_icmp .lt 12, 3) := by decide +kernel
theorem d2_135 : decode method_2_code 135 = .ok (.iload_n 0, 1) := by decide +kernel
theorem d2_136 : decode method_2_code 136 = .ok (.sipush 11263, 3) := by decide +kernel
theorem d2_139 : decode method_2_code 139 = .ok (.if_icmp .gt 5, 3) := by decide +kernel
theorem d2_142 : decode method_2_code 142 = .ok (.iconst 0, 1) := by decide +kernel
theorem d2_143 : decode method_2_code 143 = .ok (.ireturn, 1) := by decide +kernel
theorem d2_144 : decode method_2_code 144 = .ok (.iload_n 0, 1) := by decide +kernel
theorem d2_145 : decode method_2_code 145 = .ok (.sipush 12272, 3) := by decide +kernel
theorem d2_148 : decode method_2_code 148 = .ok (.if_icmp .lt 12, 3) := by decide +kernel
theorem d2_151 : decode method_2_code 151 = .ok (.iload_n 0, 1) := by decide +kernel
theorem d2_152 : decode method_2_code 152 = .ok (.sipush 12288, 3) := by decide +kernel
theorem d2_155 : decode method_2_code 155 = .ok (.if_icmp .gt 5, 3) := by decide +kernel
theorem d2_158 : decode method_2_code 158 = .ok (.iconst 0, 1) := by decide +kernel
theorem d2_159 : decode method_2_code 159 = .ok (.ireturn, 1) := by decide +kernel
theorem d2_160 : decode method_2_code 160 = .ok (.iload_n 0, 1) := by decide +kernel
theorem d2_161 : decode method_2_code 161 = .ok (.ldc 8, 2) := by decide +kernel
theorem d2_163 : decode method_2_code 163 = .ok (.if_icmp .lt 11, 3) := by decide +kernel
theorem d2_166 : decode method_2_code 166 = .ok (.iload_n 0, 1) := by decide +kernel
theorem d2_167 : decode method_2_code 167 = .ok (.ldc 9, 2) := by decide +kernel
theorem d2_169 : decode method_2_code 169 = .ok (.if_icmp .gt 5, 3) := by decide +kernel
theorem d2_172 : decode method_2_code 172 = .ok (.iconst 0, 1) := by decide +kernel
theorem d2_173 : decode method_2_code 173 = .ok (.ireturn, 1) := by decide +kernel
theorem d2_174 : decode method_2_code 174 = .ok (.iload_n 0, 1) := by decide +kernel
theorem d2_175 : decode method_2_code 175 = .ok (.ldc 10, 2) := by decide +kernel
theorem d2_177 : decode method_2_code 177 = .ok (.if_icmp .lt 11, 3) := by decide +kernel
theorem d2_180 : decode method_2_code 180 = .ok (.iload_n 0, 1) := by decide +kernel
theorem d2_181 : decode method_2_code 181 = .ok (.ldc 11, 2) := by decide +kernel
theorem d2_183 : decode method_2_code 183 = .ok (.if_icmp .gt 5, 3) := by decide +kernel
theorem d2_186 : decode method_2_code 186 = .ok (.iconst 0, 1) := by decide +kernel
theorem d2_187 : decode method_2_code 187 = .ok (.ireturn, 1) := by decide +kernel
theorem d2_188 : decode method_2_code 188 = .ok (.iload_n 0, 1) := by decide +kernel
theorem d2_189 : decode method_2_code 189 = .ok (.ldc 12, 2) := by decide +kernel
theorem d2_191 : decode method_2_code 191 = .ok (.if_icmp .eq 9, 3) := by decide +kernel
theorem d2_194 : decode method_2_code 194 = .ok (.iload_n 0, 1) := by decide +kernel
theorem d2_195 : decode method_2_code 195 = .ok (.ldc 13, 2) := by decide +kernel
theorem d2_197 : decode method_2_code 197 = .ok (.if_icmp .ne 5, 3) := by decide +kernel
theorem d2_200 : decode method_2_code 200 = .ok (.iconst 0, 1) := by decide +kernel
theorem d2_201 : decode method_2_code 201 = .ok (.ireturn, 1) := by decide +kernel
theorem d2_202 : decode method_2_code 202 = .ok (.iconst 1, 1) := by decide +kernel
theorem d2_203 : decode method_2_code 203 = .ok (.ireturn, 1) := by decide +kernel
theorem pn_2 : plainName "com/example/fallbak/fallbak/xpath/QNameIsNameStartCharPinLaw" = true := by first | (simp [plainName, overriddenIn]; done) | decide +kernel
theorem ef_2 (m : MethodId) (x0 : Int32) : entryFrame m #[(.int x0)] 1 = mkF m 0 #[.val (.int x0)] [] := by first | (simp [entryFrame, mkF, argsToLocals, Value.category]; done) | rfl
def own_v2_202 (p1 : Int32) : Int32 := (1 : Int32)
def own_v2_200 (p1 : Int32) : Int32 := (0 : Int32)
def own_v2_194 (p1 : Int32) : Int32 := if p1 = (65535 : Int32) then own_v2_200 p1 else own_v2_202 p1
def own_v2_188 (p1 : Int32) : Int32 := if p1 = (65534 : Int32) then own_v2_200 p1 else own_v2_194 p1
def own_v2_186 (p1 : Int32) : Int32 := (0 : Int32)
def own_v2_180 (p1 : Int32) : Int32 := if (65007 : Int32) < p1 then own_v2_188 p1 else own_v2_186 p1
def own_v2_174 (p1 : Int32) : Int32 := if p1 < (64976 : Int32) then own_v2_188 p1 else own_v2_180 p1
def own_v2_172 (p1 : Int32) : Int32 := (0 : Int32)
def own_v2_166 (p1 : Int32) : Int32 := if (63743 : Int32) < p1 then own_v2_174 p1 else own_v2_172 p1
def own_v2_160 (p1 : Int32) : Int32 := if p1 < (55296 : Int32) then own_v2_174 p1 else own_v2_166 p1
def own_v2_158 (p1 : Int32) : Int32 := (0 : Int32)
def own_v2_151 (p1 : Int32) : Int32 := if (12288 : Int32) < p1 then own_v2_160 p1 else own_v2_158 p1
def own_v2_144 (p1 : Int32) : Int32 := if p1 < (12272 : Int32) then own_v2_160 p1 else own_v2_151 p1
def own_v2_142 (p1 : Int32) : Int32 := (0 : Int32)
def own_v2_135 (p1 : Int32) : Int32 := if (11263 : Int32) < p1 then own_v2_144 p1 else own_v2_142 p1
def own_v2_128 (p1 : Int32) : Int32 := if p1 < (8592 : Int32) then own_v2_144 p1 else own_v2_135 p1
def own_v2_126 (p1 : Int32) : Int32 := (0 : Int32)
def own_v2_122 (p1 : Int32) : Int32 := (1 : Int32)
def own_v2_115 (p1 : Int32) : Int32 := if p1 = (8205 : Int32) then own_v2_122 p1 else own_v2_126 p1
def own_v2_108 (p1 : Int32) : Int32 := if p1 = (8204 : Int32) then own_v2_122 p1 else own_v2_115 p1
def own_v2_101 (p1 : Int32) : Int32 := if (8303 : Int32) < p1 then own_v2_128 p1 else own_v2_108 p1
def own_v2_94 (p1 : Int32) : Int32 := if p1 < (8192 : Int32) then own_v2_128 p1 else own_v2_101 p1
def own_v2_92 (p1 : Int32) : Int32 := (0 : Int32)
def own_v2_85 (p1 : Int32) : Int32 := if p1 = (894 : Int32) then own_v2_92 p1 else own_v2_94 p1
def own_v2_83 (p1 : Int32) : Int32 := (0 : Int32)
def own_v2_76 (p1 : Int32) : Int32 := if (879 : Int32) < p1 then own_v2_85 p1 else own_v2_83 p1
def own_v2_69 (p1 : Int32) : Int32 := if p1 < (768 : Int32) then own_v2_85 p1 else own_v2_76 p1
def own_v2_67 (p1 : Int32) : Int32 := (0 : Int32)
def own_v2_60 (p1 : Int32) : Int32 := if p1 = (247 : Int32) then own_v2_67 p1 else own_v2_69 p1
def own_v2_53 (p1 : Int32) : Int32 := if p1 = (215 : Int32) then own_v2_67 p1 else own_v2_60 p1
def own_v2_51 (p1 : Int32) : Int32 := (0 : Int32)
def own_v2_44 (p1 : Int32) : Int32 := if p1 < (192 : Int32) then own_v2_51 p1 else own_v2_53 p1
def own_v2_38 (p1 : Int32) : Int32 := if (122 : Int32) < p1 then own_v2_44 p1 else own_v2_53 p1
def own_v2_36 (p1 : Int32) : Int32 := (0 : Int32)
def own_v2_32 (p1 : Int32) : Int32 := (1 : Int32)
def own_v2_26 (p1 : Int32) : Int32 := if p1 = (95 : Int32) then own_v2_32 p1 else own_v2_36 p1
def own_v2_20 (p1 : Int32) : Int32 := if p1 < (97 : Int32) then own_v2_26 p1 else own_v2_38 p1
def own_v2_14 (p1 : Int32) : Int32 := if (90 : Int32) < p1 then own_v2_20 p1 else own_v2_38 p1
def own_v2_12 (p1 : Int32) : Int32 := (0 : Int32)
def own_v2_6 (p1 : Int32) : Int32 := if (983039 : Int32) < p1 then own_v2_12 p1 else own_v2_14 p1
def own_v2_0 (p1 : Int32) : Int32 := if p1 < (65 : Int32) then own_v2_12 p1 else own_v2_6 p1
def Q2 (Z : State) (p1 : Int32) (h0 : Heap) (n0 : Nat) (v : Option Value) (h : Heap) (L : List Loc) : Prop := v = some (.int (own_v2_0 p1)) ∧ Fr n0 L ∧ h = h0
set_option maxRecDepth 65536 in
set_option maxHeartbeats 40000000 in
theorem rm2 (l : Launch) (Z : State) (a0 : Array Value) (hw : ∀ d ∈ tables_1, d.before a0 Z = true) (ws : List Jvm.Cond) (p1 : Int32) (h0 : Heap) (n0 : Nat) (Z0 : n0 ≤ h0.size) :
    MetFree l (⟨"com/example/fallbak/fallbak/xpath/QNameIsNameStartCharPinLaw", "ref", "(I)Z"⟩ : MethodName) (head1 (Jvm.Cond.code (⟨"com/example/fallbak/fallbak/xpath/QNameIsNameStartCharPinLaw", "ref", "(I)Z"⟩ : MethodName) method_2_code 1 (some .boolean) :: ws) ({ frames := 0, cells := 0, slots := 0, locals := 0 } : Room)) (fun a U => a = #[(.int p1)] ∧ Z.Warmed39 U.vm ∧ U.heap = h0) (fun _ _ _ _ _ => True) (fun _ U o U' => ∃ v L, o = .returned v ∧ Q2 Z p1 h0 n0 v U'.heap L ∧ FrameEnd U o U' L ({ frames := 0, cells := 0, slots := 0, locals := 0 } : Room).cells ({ frames := 0, cells := 0, slots := 0, locals := 0 } : Room).slots) := by
  refine MetFree.of_bodySF (plainFor_of_name pn_2) hisR ?_
  intro p e s m args below meth c s₁ Bd hml0 hP hK
  obtain ⟨rfl, hZ, hh⟩ := hP
  have hx := Bd.exec
  have hby := Bd.bytes
  have hown : s.vm.findClass "com/example/fallbak/fallbak/xpath/QNameIsNameStartCharPinLaw" = some m.cls := findClass_of_methodNamed Bd.named
  have X0 : Stand p l e ({ frames := 0, cells := 0, slots := 0, locals := 0 } : Room) s m #[(.int p1)] below meth c s₁ [] 0 0 := Stand.of_body Bd
  have e0 : s₁.heap = h0 := by rw [← hh, Bd.state]; rfl
  have N0 := Fr.nil n0
  have pre0 : ∀ t, Steps p.tables e below (s₁.setTop (mkF m 0 #[.val (.int p1)] [])) t → Steps p.tables e below (s₁.setTop (entryFrame m #[(.int p1)] 1)) t := fun t k => castTop (ef_2 m p1) k
  obtain ⟨z, hz0⟩ : ∃ z, own_v2_0 p1 = z := ⟨_, rfl⟩
  obtain ⟨fs, hr, hrun, hended, hW, hsame⟩ := X0.leave (v := some (.int z)) (fun h => by rw [Bd.returns] at h; cases h)
  have b202 : own_v2_202 p1 = z → Steps p.tables e below (s₁.setTop (mkF m 202 #[.val (.int p1)] [])) (s₁.setFrames fs) := by
    intro hz
    refine XS.iconst X0.here hx rfl (hb hby d2_202) ?_
    show Steps p.tables e below (s₁.setTop (mkF m 203 #[.val (.int p1)] [(.int (1 : Int32))])) _
    subst hz
    exact retN X0 hx (t := .boolean) Bd.returns (by simp) (hb hby d2_203) hr
  have b200 : own_v2_200 p1 = z → Steps p.tables e below (s₁.setTop (mkF m 200 #[.val (.int p1)] [])) (s₁.setFrames fs) := by
    intro hz
    refine XS.iconst X0.here hx rfl (hb hby d2_200) ?_
    show Steps p.tables e below (s₁.setTop (mkF m 201 #[.val (.int p1)] [(.int (0 : Int32))])) _
    subst hz
    exact retN X0 hx (t := .boolean) Bd.returns (by simp) (hb hby d2_201) hr
  have b194 : own_v2_194 p1 = z → Steps p.tables e below (s₁.setTop (mkF m 194 #[.val (.int p1)] [])) (s₁.setFrames fs) := by
    intro hz
    refine XS.iloadN X0.here hx rfl (hb hby d2_194) rfl ?_
    show Steps p.tables e below (s₁.setTop (mkF m 195 #[.val (.int p1)] [(.int p1)])) _
    refine X0.ldcInt hx hown (mvT hZ (hw _ (List.mem_of_getElem? (i := 23) rfl))) (g := (mkF m 195 #[.val (.int p1)] [(.int p1)])) rfl (hb hby d2_195) _ ?_
    show Steps p.tables e below (s₁.setTop (mkF m 197 #[.val (.int p1)] [(.int (65535 : Int32)), (.int p1)])) _
    unfold own_v2_194 at hz
    by_cases h : p1 = (65535 : Int32)
    · rw [if_pos h] at hz
      refine XS.icmpNo X0.here hx rfl (hb hby d2_197) rfl (teq h).2 ?_
      exact b200 hz
    · rw [if_neg h] at hz
      refine XS.icmpYes X0.here hx rfl (pc0 := 197) (pc' := 202) rfl (hb hby d2_197) rfl (feq h).2 (by decide) (by decide) ?_
      exact b202 hz
  have b188 : own_v2_188 p1 = z → Steps p.tables e below (s₁.setTop (mkF m 188 #[.val (.int p1)] [])) (s₁.setFrames fs) := by
    intro hz
    refine XS.iloadN X0.here hx rfl (hb hby d2_188) rfl ?_
    show Steps p.tables e below (s₁.setTop (mkF m 189 #[.val (.int p1)] [(.int p1)])) _
    refine X0.ldcInt hx hown (mvT hZ (hw _ (List.mem_of_getElem? (i := 22) rfl))) (g := (mkF m 189 #[.val (.int p1)] [(.int p1)])) rfl (hb hby d2_189) _ ?_
    show Steps p.tables e below (s₁.setTop (mkF m 191 #[.val (.int p1)] [(.int (65534 : Int32)), (.int p1)])) _
    unfold own_v2_188 at hz
    by_cases h : p1 = (65534 : Int32)
    · rw [if_pos h] at hz
      refine XS.icmpYes X0.here hx rfl (pc0 := 191) (pc' := 200) rfl (hb hby d2_191) rfl (teq h).1 (by decide) (by decide) ?_
      exact b200 hz
    · rw [if_neg h] at hz
      refine XS.icmpNo X0.here hx rfl (hb hby d2_191) rfl (feq h).1 ?_
      exact b194 hz
  have b186 : own_v2_186 p1 = z → Steps p.tables e below (s₁.setTop (mkF m 186 #[.val (.int p1)] [])) (s₁.setFrames fs) := by
    intro hz
    refine XS.iconst X0.here hx rfl (hb hby d2_186) ?_
    show Steps p.tables e below (s₁.setTop (mkF m 187 #[.val (.int p1)] [(.int (0 : Int32))])) _
    subst hz
    exact retN X0 hx (t := .boolean) Bd.returns (by simp) (hb hby d2_187) hr
  have b180 : own_v2_180 p1 = z → Steps p.tables e below (s₁.setTop (mkF m 180 #[.val (.int p1)] [])) (s₁.setFrames fs) := by
    intro hz
    refine XS.iloadN X0.here hx rfl (hb hby d2_180) rfl ?_
    show Steps p.tables e below (s₁.setTop (mkF m 181 #[.val (.int p1)] [(.int p1)])) _
    refine X0.ldcInt hx hown (mvT hZ (hw _ (List.mem_of_getElem? (i := 29) rfl))) (g := (mkF m 181 #[.val (.int p1)] [(.int p1)])) rfl (hb hby d2_181) _ ?_
    show Steps p.tables e below (s₁.setTop (mkF m 183 #[.val (.int p1)] [(.int (65007 : Int32)), (.int p1)])) _
    unfold own_v2_180 at hz
    by_cases h : (65007 : Int32) < p1
    · rw [if_pos h] at hz
      refine XS.icmpYes X0.here hx rfl (pc0 := 183) (pc' := 188) rfl (hb hby d2_183) rfl (tlt h).2.2.1 (by decide) (by decide) ?_
      exact b188 hz
    · rw [if_neg h] at hz
      refine XS.icmpNo X0.here hx rfl (hb hby d2_183) rfl (flt h).2.2.1 ?_
      exact b186 hz
  have b174 : own_v2_174 p1 = z → Steps p.tables e below (s₁.setTop (mkF m 174 #[.val (.int p1)] [])) (s₁.setFrames fs) := by
    intro hz
    refine XS.iloadN X0.here hx rfl (hb hby d2_174) rfl ?_
    show Steps p.tables e below (s₁.setTop (mkF m 175 #[.val (.int p1)] [(.int p1)])) _
    refine X0.ldcInt hx hown (mvT hZ (hw _ (List.mem_of_getElem? (i := 21) rfl))) (g := (mkF m 175 #[.val (.int p1)] [(.int p1)])) rfl (hb hby d2_175) _ ?_
    show Steps p.tables e below (s₁.setTop (mkF m 177 #[.val (.int p1)] [(.int (64976 : Int32)), (.int p1)])) _
    unfold own_v2_174 at hz
    by_cases h : p1 < (64976 : Int32)
    · rw [if_pos h] at hz
      refine XS.icmpYes X0.here hx rfl (pc0 := 177) (pc' := 188) rfl (hb hby d2_177) rfl (tlt h).1 (by decide) (by decide) ?_
      exact b188 hz
    · rw [if_neg h] at hz
      refine XS.icmpNo X0.here hx rfl (hb hby d2_177) rfl (flt h).1 ?_
      exact b180 hz
  have b172 : own_v2_172 p1 = z → Steps p.tables e below (s₁.setTop (mkF m 172 #[.val (.int p1)] [])) (s₁.setFrames fs) := by
    intro hz
    refine XS.iconst X0.here hx rfl (hb hby d2_172) ?_
    show Steps p.tables e below (s₁.setTop (mkF m 173 #[.val (.int p1)] [(.int (0 : Int32))])) _
    subst hz
    exact retN X0 hx (t := .boolean) Bd.returns (by simp) (hb hby d2_173) hr
  have b166 : own_v2_166 p1 = z → Steps p.tables e below (s₁.setTop (mkF m 166 #[.val (.int p1)] [])) (s₁.setFrames fs) := by
    intro hz
    refine XS.iloadN X0.here hx rfl (hb hby d2_166) rfl ?_
    show Steps p.tables e below (s₁.setTop (mkF m 167 #[.val (.int p1)] [(.int p1)])) _
    refine X0.ldcInt hx hown (mvT hZ (hw _ (List.mem_of_getElem? (i := 28) rfl))) (g := (mkF m 167 #[.val (.int p1)] [(.int p1)])) rfl (hb hby d2_167) _ ?_
    show Steps p.tables e below (s₁.setTop (mkF m 169 #[.val (.int p1)] [(.int (63743 : Int32)), (.int p1)])) _
    unfold own_v2_166 at hz
    by_cases h : (63743 : Int32) < p1
    · rw [if_pos h] at hz
      refine XS.icmpYes X0.here hx rfl (pc0 := 169) (pc' := 174) rfl (hb hby d2_169) rfl (tlt h).2.2.1 (by decide) (by decide) ?_
      exact b174 hz
    · rw [if_neg h] at hz
      refine XS.icmpNo X0.here hx rfl (hb hby d2_169) rfl (flt h).2.2.1 ?_
      exact b172 hz
  have b160 : own_v2_160 p1 = z → Steps p.tables e below (s₁.setTop (mkF m 160 #[.val (.int p1)] [])) (s₁.setFrames fs) := by
    intro hz
    refine XS.iloadN X0.here hx rfl (hb hby d2_160) rfl ?_
    show Steps p.tables e below (s₁.setTop (mkF m 161 #[.val (.int p1)] [(.int p1)])) _
    refine X0.ldcInt hx hown (mvT hZ (hw _ (List.mem_of_getElem? (i := 20) rfl))) (g := (mkF m 161 #[.val (.int p1)] [(.int p1)])) rfl (hb hby d2_161) _ ?_
    show Steps p.tables e below (s₁.setTop (mkF m 163 #[.val (.int p1)] [(.int (55296 : Int32)), (.int p1)])) _
    unfold own_v2_160 at hz
    by_cases h : p1 < (55296 : Int32)
    · rw [if_pos h] at hz
      refine XS.icmpYes X0.here hx rfl (pc0 := 163) (pc' := 174) rfl (hb hby d2_163) rfl (tlt h).1 (by decide) (by decide) ?_
      exact b174 hz
    · rw [if_neg h] at hz
      refine XS.icmpNo X0.here hx rfl (hb hby d2_163) rfl (flt h).1 ?_
      exact b166 hz
  have b158 : own_v2_158 p1 = z → Steps p.tables e below (s₁.setTop (mkF m 158 #[.val (.int p1)] [])) (s₁.setFrames fs) := by
    intro hz
    refine XS.iconst X0.here hx rfl (hb hby d2_158) ?_
    show Steps p.tables e below (s₁.setTop (mkF m 159 #[.val (.int p1)] [(.int (0 : Int32))])) _
    subst hz
    exact retN X0 hx (t := .boolean) Bd.returns (by simp) (hb hby d2_159) hr
  have b151 : own_v2_151 p1 = z → Steps p.tables e below (s₁.setTop (mkF m 151 #[.val (.int p1)] [])) (s₁.setFrames fs) := by
    intro hz
    refine XS.iloadN X0.here hx rfl (hb hby d2_151) rfl ?_
    show Steps p.tables e below (s₁.setTop (mkF m 152 #[.val (.int p1)] [(.int p1)])) _
    refine XS.sipush X0.here hx rfl (hb hby d2_152) ?_
    show Steps p.tables e below (s₁.setTop (mkF m 155 #[.val (.int p1)] [(.int (12288 : Int32)), (.int p1)])) _
    unfold own_v2_151 at hz
    by_cases h : (12288 : Int32) < p1
    · rw [if_pos h] at hz
      refine XS.icmpYes X0.here hx rfl (pc0 := 155) (pc' := 160) rfl (hb hby d2_155) rfl (tlt h).2.2.1 (by decide) (by decide) ?_
      exact b160 hz
    · rw [if_neg h] at hz
      refine XS.icmpNo X0.here hx rfl (hb hby d2_155) rfl (flt h).2.2.1 ?_
      exact b158 hz
  have b144 : own_v2_144 p1 = z → Steps p.tables e below (s₁.setTop (mkF m 144 #[.val (.int p1)] [])) (s₁.setFrames fs) := by
    intro hz
    refine XS.iloadN X0.here hx rfl (hb hby d2_144) rfl ?_
    show Steps p.tables e below (s₁.setTop (mkF m 145 #[.val (.int p1)] [(.int p1)])) _
    refine XS.sipush X0.here hx rfl (hb hby d2_145) ?_
    show Steps p.tables e below (s₁.setTop (mkF m 148 #[.val (.int p1)] [(.int (12272 : Int32)), (.int p1)])) _
    unfold own_v2_144 at hz
    by_cases h : p1 < (12272 : Int32)
    · rw [if_pos h] at hz
      refine XS.icmpYes X0.here hx rfl (pc0 := 148) (pc' := 160) rfl (hb hby d2_148) rfl (tlt h).1 (by decide) (by decide) ?_
      exact b160 hz
    · rw [if_neg h] at hz
      refine XS.icmpNo X0.here hx rfl (hb hby d2_148) rfl (flt h).1 ?_
      exact b151 hz
  have b142 : own_v2_142 p1 = z → Steps p.tables e below (s₁.setTop (mkF m 142 #[.val (.int p1)] [])) (s₁.setFrames fs) := by
    intro hz
    refine XS.iconst X0.here hx rfl (hb hby d2_142) ?_
    show Steps p.tables e below (s₁.setTop (mkF m 143 #[.val (.int p1)] [(.int (0 : Int32))])) _
    subst hz
    exact retN X0 hx (t := .boolean) Bd.returns (by simp) (hb hby d2_143) hr
  have b135 : own_v2_135 p1 = z → Steps p.tables e below (s₁.setTop (mkF m 135 #[.val (.int p1)] [])) (s₁.setFrames fs) := by
    intro hz
    refine XS.iloadN X0.here hx rfl (hb hby d2_135) rfl ?_
    show Steps p.tables e below (s₁.setTop (mkF m 136 #[.val (.int p1)] [(.int p1)])) _
    refine XS.sipush X0.here hx rfl (hb hby d2_136) ?_
    show Steps p.tables e below (s₁.setTop (mkF m 139 #[.val (.int p1)] [(.int (11263 : Int32)), (.int p1)])) _
    unfold own_v2_135 at hz
    by_cases h : (11263 : Int32) < p1
    · rw [if_pos h] at hz
      refine XS.icmpYes X0.here hx rfl (pc0 := 139) (pc' := 144) rfl (hb hby d2_139) rfl (tlt h).2.2.1 (by decide) (by decide) ?_
      exact b144 hz
    · rw [if_neg h] at hz
      refine XS.icmpNo X0.here hx rfl (hb hby d2_139) rfl (flt h).2.2.1 ?_
      exact b142 hz
  have b128 : own_v2_128 p1 = z → Steps p.tables e below (s₁.setTop (mkF m 128 #[.val (.int p1)] [])) (s₁.setFrames fs) := by
    intro hz
    refine XS.iloadN X0.here hx rfl (hb hby d2_128) rfl ?_
    show Steps p.tables e below (s₁.setTop (mkF m 129 #[.val (.int p1)] [(.int p1)])) _
    refine XS.sipush X0.here hx rfl (hb hby d2_129) ?_
    show Steps p.tables e below (s₁.setTop (mkF m 132 #[.val (.int p1)] [(.int (8592 : Int32)), (.int p1)])) _
    unfold own_v2_128 at hz
    by_cases h : p1 < (8592 : Int32)
    · rw [if_pos h] at hz
      refine XS.icmpYes X0.here hx rfl (pc0 := 132) (pc' := 144) rfl (hb hby d2_132) rfl (tlt h).1 (by decide) (by decide) ?_
      exact b144 hz
    · rw [if_neg h] at hz
      refine XS.icmpNo X0.here hx rfl (hb hby d2_132) rfl (flt h).1 ?_
      exact b135 hz
  have b126 : own_v2_126 p1 = z → Steps p.tables e below (s₁.setTop (mkF m 126 #[.val (.int p1)] [])) (s₁.setFrames fs) := by
    intro hz
    refine XS.iconst X0.here hx rfl (hb hby d2_126) ?_
    show Steps p.tables e below (s₁.setTop (mkF m 127 #[.val (.int p1)] [(.int (0 : Int32))])) _
    subst hz
    exact retN X0 hx (t := .boolean) Bd.returns (by simp) (hb hby d2_127) hr
  have b122 : own_v2_122 p1 = z → Steps p.tables e below (s₁.setTop (mkF m 122 #[.val (.int p1)] [])) (s₁.setFrames fs) := by
    intro hz
    refine XS.iconst X0.here hx rfl (hb hby d2_122) ?_
    show Steps p.tables e below (s₁.setTop (mkF m 123 #[.val (.int p1)] [(.int (1 : Int32))])) _
    refine XS.goto X0.here hx rfl (pc0 := 123) (pc' := 127) rfl (hb hby d2_123) (by decide) (by decide) ?_
    show Steps p.tables e below (s₁.setTop (mkF m 127 #[.val (.int p1)] [(.int (1 : Int32))])) _
    subst hz
    exact retN X0 hx (t := .boolean) Bd.returns (by simp) (hb hby d2_127) hr
  have b115 : own_v2_115 p1 = z → Steps p.tables e below (s₁.setTop (mkF m 115 #[.val (.int p1)] [])) (s₁.setFrames fs) := by
    intro hz
    refine XS.iloadN X0.here hx rfl (hb hby d2_115) rfl ?_
    show Steps p.tables e below (s₁.setTop (mkF m 116 #[.val (.int p1)] [(.int p1)])) _
    refine XS.sipush X0.here hx rfl (hb hby d2_116) ?_
    show Steps p.tables e below (s₁.setTop (mkF m 119 #[.val (.int p1)] [(.int (8205 : Int32)), (.int p1)])) _
    unfold own_v2_115 at hz
    by_cases h : p1 = (8205 : Int32)
    · rw [if_pos h] at hz
      refine XS.icmpNo X0.here hx rfl (hb hby d2_119) rfl (teq h).2 ?_
      exact b122 hz
    · rw [if_neg h] at hz
      refine XS.icmpYes X0.here hx rfl (pc0 := 119) (pc' := 126) rfl (hb hby d2_119) rfl (feq h).2 (by decide) (by decide) ?_
      exact b126 hz
  have b108 : own_v2_108 p1 = z → Steps p.tables e below (s₁.setTop (mkF m 108 #[.val (.int p1)] [])) (s₁.setFrames fs) := by
    intro hz
    refine XS.iloadN X0.here hx rfl (hb hby d2_108) rfl ?_
    show Steps p.tables e below (s₁.setTop (mkF m 109 #[.val (.int p1)] [(.int p1)])) _
    refine XS.sipush X0.here hx rfl (hb hby d2_109) ?_
    show Steps p.tables e below (s₁.setTop (mkF m 112 #[.val (.int p1)] [(.int (8204 : Int32)), (.int p1)])) _
    unfold own_v2_108 at hz
    by_cases h : p1 = (8204 : Int32)
    · rw [if_pos h] at hz
      refine XS.icmpYes X0.here hx rfl (pc0 := 112) (pc' := 122) rfl (hb hby d2_112) rfl (teq h).1 (by decide) (by decide) ?_
      exact b122 hz
    · rw [if_neg h] at hz
      refine XS.icmpNo X0.here hx rfl (hb hby d2_112) rfl (feq h).1 ?_
      exact b115 hz
  have b101 : own_v2_101 p1 = z → Steps p.tables e below (s₁.setTop (mkF m 101 #[.val (.int p1)] [])) (s₁.setFrames fs) := by
    intro hz
    refine XS.iloadN X0.here hx rfl (hb hby d2_101) rfl ?_
    show Steps p.tables e below (s₁.setTop (mkF m 102 #[.val (.int p1)] [(.int p1)])) _
    refine XS.sipush X0.here hx rfl (hb hby d2_102) ?_
    show Steps p.tables e below (s₁.setTop (mkF m 105 #[.val (.int p1)] [(.int (8303 : Int32)), (.int p1)])) _
    unfold own_v2_101 at hz
    by_cases h : (8303 : Int32) < p1
    · rw [if_pos h] at hz
      refine XS.icmpYes X0.here hx rfl (pc0 := 105) (pc' := 128) rfl (hb hby d2_105) rfl (tlt h).2.2.1 (by decide) (by decide) ?_
      exact b128 hz
    · rw [if_neg h] at hz
      refine XS.icmpNo X0.here hx rfl (hb hby d2_105) rfl (flt h).2.2.1 ?_
      exact b108 hz
  have b94 : own_v2_94 p1 = z → Steps p.tables e below (s₁.setTop (mkF m 94 #[.val (.int p1)] [])) (s₁.setFrames fs) := by
    intro hz
    refine XS.iloadN X0.here hx rfl (hb hby d2_94) rfl ?_
    show Steps p.tables e below (s₁.setTop (mkF m 95 #[.val (.int p1)] [(.int p1)])) _
    refine XS.sipush X0.here hx rfl (hb hby d2_95) ?_
    show Steps p.tables e below (s₁.setTop (mkF m 98 #[.val (.int p1)] [(.int (8192 : Int32)), (.int p1)])) _
    unfold own_v2_94 at hz
    by_cases h : p1 < (8192 : Int32)
    · rw [if_pos h] at hz
      refine XS.icmpYes X0.here hx rfl (pc0 := 98) (pc' := 128) rfl (hb hby d2_98) rfl (tlt h).1 (by decide) (by decide) ?_
      exact b128 hz
    · rw [if_neg h] at hz
      refine XS.icmpNo X0.here hx rfl (hb hby d2_98) rfl (flt h).1 ?_
      exact b101 hz
  have b92 : own_v2_92 p1 = z → Steps p.tables e below (s₁.setTop (mkF m 92 #[.val (.int p1)] [])) (s₁.setFrames fs) := by
    intro hz
    refine XS.iconst X0.here hx rfl (hb hby d2_92) ?_
    show Steps p.tables e below (s₁.setTop (mkF m 93 #[.val (.int p1)] [(.int (0 : Int32))])) _
    subst hz
    exact retN X0 hx (t := .boolean) Bd.returns (by simp) (hb hby d2_93) hr
  have b85 : own_v2_85 p1 = z → Steps p.tables e below (s₁.setTop (mkF m 85 #[.val (.int p1)] [])) (s₁.setFrames fs) := by
    intro hz
    refine XS.iloadN X0.here hx rfl (hb hby d2_85) rfl ?_
    show Steps p.tables e below (s₁.setTop (mkF m 86 #[.val (.int p1)] [(.int p1)])) _
    refine XS.sipush X0.here hx rfl (hb hby d2_86) ?_
    show Steps p.tables e below (s₁.setTop (mkF m 89 #[.val (.int p1)] [(.int (894 : Int32)), (.int p1)])) _
    unfold own_v2_85 at hz
    by_cases h : p1 = (894 : Int32)
    · rw [if_pos h] at hz
      refine XS.icmpNo X0.here hx rfl (hb hby d2_89) rfl (teq h).2 ?_
      exact b92 hz
    · rw [if_neg h] at hz
      refine XS.icmpYes X0.here hx rfl (pc0 := 89) (pc' := 94) rfl (hb hby d2_89) rfl (feq h).2 (by decide) (by decide) ?_
      exact b94 hz
  have b83 : own_v2_83 p1 = z → Steps p.tables e below (s₁.setTop (mkF m 83 #[.val (.int p1)] [])) (s₁.setFrames fs) := by
    intro hz
    refine XS.iconst X0.here hx rfl (hb hby d2_83) ?_
    show Steps p.tables e below (s₁.setTop (mkF m 84 #[.val (.int p1)] [(.int (0 : Int32))])) _
    subst hz
    exact retN X0 hx (t := .boolean) Bd.returns (by simp) (hb hby d2_84) hr
  have b76 : own_v2_76 p1 = z → Steps p.tables e below (s₁.setTop (mkF m 76 #[.val (.int p1)] [])) (s₁.setFrames fs) := by
    intro hz
    refine XS.iloadN X0.here hx rfl (hb hby d2_76) rfl ?_
    show Steps p.tables e below (s₁.setTop (mkF m 77 #[.val (.int p1)] [(.int p1)])) _
    refine XS.sipush X0.here hx rfl (hb hby d2_77) ?_
    show Steps p.tables e below (s₁.setTop (mkF m 80 #[.val (.int p1)] [(.int (879 : Int32)), (.int p1)])) _
    unfold own_v2_76 at hz
    by_cases h : (879 : Int32) < p1
    · rw [if_pos h] at hz
      refine XS.icmpYes X0.here hx rfl (pc0 := 80) (pc' := 85) rfl (hb hby d2_80) rfl (tlt h).2.2.1 (by decide) (by decide) ?_
      exact b85 hz
    · rw [if_neg h] at hz
      refine XS.icmpNo X0.here hx rfl (hb hby d2_80) rfl (flt h).2.2.1 ?_
      exact b83 hz
  have b69 : own_v2_69 p1 = z → Steps p.tables e below (s₁.setTop (mkF m 69 #[.val (.int p1)] [])) (s₁.setFrames fs) := by
    intro hz
    refine XS.iloadN X0.here hx rfl (hb hby d2_69) rfl ?_
    show Steps p.tables e below (s₁.setTop (mkF m 70 #[.val (.int p1)] [(.int p1)])) _
    refine XS.sipush X0.here hx rfl (hb hby d2_70) ?_
    show Steps p.tables e below (s₁.setTop (mkF m 73 #[.val (.int p1)] [(.int (768 : Int32)), (.int p1)])) _
    unfold own_v2_69 at hz
    by_cases h : p1 < (768 : Int32)
    · rw [if_pos h] at hz
      refine XS.icmpYes X0.here hx rfl (pc0 := 73) (pc' := 85) rfl (hb hby d2_73) rfl (tlt h).1 (by decide) (by decide) ?_
      exact b85 hz
    · rw [if_neg h] at hz
      refine XS.icmpNo X0.here hx rfl (hb hby d2_73) rfl (flt h).1 ?_
      exact b76 hz
  have b67 : own_v2_67 p1 = z → Steps p.tables e below (s₁.setTop (mkF m 67 #[.val (.int p1)] [])) (s₁.setFrames fs) := by
    intro hz
    refine XS.iconst X0.here hx rfl (hb hby d2_67) ?_
    show Steps p.tables e below (s₁.setTop (mkF m 68 #[.val (.int p1)] [(.int (0 : Int32))])) _
    subst hz
    exact retN X0 hx (t := .boolean) Bd.returns (by simp) (hb hby d2_68) hr
  have b60 : own_v2_60 p1 = z → Steps p.tables e below (s₁.setTop (mkF m 60 #[.val (.int p1)] [])) (s₁.setFrames fs) := by
    intro hz
    refine XS.iloadN X0.here hx rfl (hb hby d2_60) rfl ?_
    show Steps p.tables e below (s₁.setTop (mkF m 61 #[.val (.int p1)] [(.int p1)])) _
    refine XS.sipush X0.here hx rfl (hb hby d2_61) ?_
    show Steps p.tables e below (s₁.setTop (mkF m 64 #[.val (.int p1)] [(.int (247 : Int32)), (.int p1)])) _
    unfold own_v2_60 at hz
    by_cases h : p1 = (247 : Int32)
    · rw [if_pos h] at hz
      refine XS.icmpNo X0.here hx rfl (hb hby d2_64) rfl (teq h).2 ?_
      exact b67 hz
    · rw [if_neg h] at hz
      refine XS.icmpYes X0.here hx rfl (pc0 := 64) (pc' := 69) rfl (hb hby d2_64) rfl (feq h).2 (by decide) (by decide) ?_
      exact b69 hz
  have b53 : own_v2_53 p1 = z → Steps p.tables e below (s₁.setTop (mkF m 53 #[.val (.int p1)] [])) (s₁.setFrames fs) := by
    intro hz
    refine XS.iloadN X0.here hx rfl (hb hby d2_53) rfl ?_
    show Steps p.tables e below (s₁.setTop (mkF m 54 #[.val (.int p1)] [(.int p1)])) _
    refine XS.sipush X0.here hx rfl (hb hby d2_54) ?_
    show Steps p.tables e below (s₁.setTop (mkF m 57 #[.val (.int p1)] [(.int (215 : Int32)), (.int p1)])) _
    unfold own_v2_53 at hz
    by_cases h : p1 = (215 : Int32)
    · rw [if_pos h] at hz
      refine XS.icmpYes X0.here hx rfl (pc0 := 57) (pc' := 67) rfl (hb hby d2_57) rfl (teq h).1 (by decide) (by decide) ?_
      exact b67 hz
    · rw [if_neg h] at hz
      refine XS.icmpNo X0.here hx rfl (hb hby d2_57) rfl (feq h).1 ?_
      exact b60 hz
  have b51 : own_v2_51 p1 = z → Steps p.tables e below (s₁.setTop (mkF m 51 #[.val (.int p1)] [])) (s₁.setFrames fs) := by
    intro hz
    refine XS.iconst X0.here hx rfl (hb hby d2_51) ?_
    show Steps p.tables e below (s₁.setTop (mkF m 52 #[.val (.int p1)] [(.int (0 : Int32))])) _
    subst hz
    exact retN X0 hx (t := .boolean) Bd.returns (by simp) (hb hby d2_52) hr
  have b44 : own_v2_44 p1 = z → Steps p.tables e below (s₁.setTop (mkF m 44 #[.val (.int p1)] [])) (s₁.setFrames fs) := by
    intro hz
    refine XS.iloadN X0.here hx rfl (hb hby d2_44) rfl ?_
    show Steps p.tables e below (s₁.setTop (mkF m 45 #[.val (.int p1)] [(.int p1)])) _
    refine XS.sipush X0.here hx rfl (hb hby d2_45) ?_
    show Steps p.tables e below (s₁.setTop (mkF m 48 #[.val (.int p1)] [(.int (192 : Int32)), (.int p1)])) _
    unfold own_v2_44 at hz
    by_cases h : p1 < (192 : Int32)
    · rw [if_pos h] at hz
      refine XS.icmpNo X0.here hx rfl (hb hby d2_48) rfl (tlt h).2.1 ?_
      exact b51 hz
    · rw [if_neg h] at hz
      refine XS.icmpYes X0.here hx rfl (pc0 := 48) (pc' := 53) rfl (hb hby d2_48) rfl (flt h).2.1 (by decide) (by decide) ?_
      exact b53 hz
  have b38 : own_v2_38 p1 = z → Steps p.tables e below (s₁.setTop (mkF m 38 #[.val (.int p1)] [])) (s₁.setFrames fs) := by
    intro hz
    refine XS.iloadN X0.here hx rfl (hb hby d2_38) rfl ?_
    show Steps p.tables e below (s₁.setTop (mkF m 39 #[.val (.int p1)] [(.int p1)])) _
    refine XS.bipush X0.here hx rfl (hb hby d2_39) ?_
    show Steps p.tables e below (s₁.setTop (mkF m 41 #[.val (.int p1)] [(.int (122 : Int32)), (.int p1)])) _
    unfold own_v2_38 at hz
    by_cases h : (122 : Int32) < p1
    · rw [if_pos h] at hz
      refine XS.icmpNo X0.here hx rfl (hb hby d2_41) rfl (tlt h).2.2.2 ?_
      exact b44 hz
    · rw [if_neg h] at hz
      refine XS.icmpYes X0.here hx rfl (pc0 := 41) (pc' := 53) rfl (hb hby d2_41) rfl (flt h).2.2.2 (by decide) (by decide) ?_
      exact b53 hz
  have b36 : own_v2_36 p1 = z → Steps p.tables e below (s₁.setTop (mkF m 36 #[.val (.int p1)] [])) (s₁.setFrames fs) := by
    intro hz
    refine XS.iconst X0.here hx rfl (hb hby d2_36) ?_
    show Steps p.tables e below (s₁.setTop (mkF m 37 #[.val (.int p1)] [(.int (0 : Int32))])) _
    subst hz
    exact retN X0 hx (t := .boolean) Bd.returns (by simp) (hb hby d2_37) hr
  have b32 : own_v2_32 p1 = z → Steps p.tables e below (s₁.setTop (mkF m 32 #[.val (.int p1)] [])) (s₁.setFrames fs) := by
    intro hz
    refine XS.iconst X0.here hx rfl (hb hby d2_32) ?_
    show Steps p.tables e below (s₁.setTop (mkF m 33 #[.val (.int p1)] [(.int (1 : Int32))])) _
    refine XS.goto X0.here hx rfl (pc0 := 33) (pc' := 37) rfl (hb hby d2_33) (by decide) (by decide) ?_
    show Steps p.tables e below (s₁.setTop (mkF m 37 #[.val (.int p1)] [(.int (1 : Int32))])) _
    subst hz
    exact retN X0 hx (t := .boolean) Bd.returns (by simp) (hb hby d2_37) hr
  have b26 : own_v2_26 p1 = z → Steps p.tables e below (s₁.setTop (mkF m 26 #[.val (.int p1)] [])) (s₁.setFrames fs) := by
    intro hz
    refine XS.iloadN X0.here hx rfl (hb hby d2_26) rfl ?_
    show Steps p.tables e below (s₁.setTop (mkF m 27 #[.val (.int p1)] [(.int p1)])) _
    refine XS.bipush X0.here hx rfl (hb hby d2_27) ?_
    show Steps p.tables e below (s₁.setTop (mkF m 29 #[.val (.int p1)] [(.int (95 : Int32)), (.int p1)])) _
    unfold own_v2_26 at hz
    by_cases h : p1 = (95 : Int32)
    · rw [if_pos h] at hz
      refine XS.icmpNo X0.here hx rfl (hb hby d2_29) rfl (teq h).2 ?_
      exact b32 hz
    · rw [if_neg h] at hz
      refine XS.icmpYes X0.here hx rfl (pc0 := 29) (pc' := 36) rfl (hb hby d2_29) rfl (feq h).2 (by decide) (by decide) ?_
      exact b36 hz
  have b20 : own_v2_20 p1 = z → Steps p.tables e below (s₁.setTop (mkF m 20 #[.val (.int p1)] [])) (s₁.setFrames fs) := by
    intro hz
    refine XS.iloadN X0.here hx rfl (hb hby d2_20) rfl ?_
    show Steps p.tables e below (s₁.setTop (mkF m 21 #[.val (.int p1)] [(.int p1)])) _
    refine XS.bipush X0.here hx rfl (hb hby d2_21) ?_
    show Steps p.tables e below (s₁.setTop (mkF m 23 #[.val (.int p1)] [(.int (97 : Int32)), (.int p1)])) _
    unfold own_v2_20 at hz
    by_cases h : p1 < (97 : Int32)
    · rw [if_pos h] at hz
      refine XS.icmpNo X0.here hx rfl (hb hby d2_23) rfl (tlt h).2.1 ?_
      exact b26 hz
    · rw [if_neg h] at hz
      refine XS.icmpYes X0.here hx rfl (pc0 := 23) (pc' := 38) rfl (hb hby d2_23) rfl (flt h).2.1 (by decide) (by decide) ?_
      exact b38 hz
  have b14 : own_v2_14 p1 = z → Steps p.tables e below (s₁.setTop (mkF m 14 #[.val (.int p1)] [])) (s₁.setFrames fs) := by
    intro hz
    refine XS.iloadN X0.here hx rfl (hb hby d2_14) rfl ?_
    show Steps p.tables e below (s₁.setTop (mkF m 15 #[.val (.int p1)] [(.int p1)])) _
    refine XS.bipush X0.here hx rfl (hb hby d2_15) ?_
    show Steps p.tables e below (s₁.setTop (mkF m 17 #[.val (.int p1)] [(.int (90 : Int32)), (.int p1)])) _
    unfold own_v2_14 at hz
    by_cases h : (90 : Int32) < p1
    · rw [if_pos h] at hz
      refine XS.icmpNo X0.here hx rfl (hb hby d2_17) rfl (tlt h).2.2.2 ?_
      exact b20 hz
    · rw [if_neg h] at hz
      refine XS.icmpYes X0.here hx rfl (pc0 := 17) (pc' := 38) rfl (hb hby d2_17) rfl (flt h).2.2.2 (by decide) (by decide) ?_
      exact b38 hz
  have b12 : own_v2_12 p1 = z → Steps p.tables e below (s₁.setTop (mkF m 12 #[.val (.int p1)] [])) (s₁.setFrames fs) := by
    intro hz
    refine XS.iconst X0.here hx rfl (hb hby d2_12) ?_
    show Steps p.tables e below (s₁.setTop (mkF m 13 #[.val (.int p1)] [(.int (0 : Int32))])) _
    subst hz
    exact retN X0 hx (t := .boolean) Bd.returns (by simp) (hb hby d2_13) hr
  have b6 : own_v2_6 p1 = z → Steps p.tables e below (s₁.setTop (mkF m 6 #[.val (.int p1)] [])) (s₁.setFrames fs) := by
    intro hz
    refine XS.iloadN X0.here hx rfl (hb hby d2_6) rfl ?_
    show Steps p.tables e below (s₁.setTop (mkF m 7 #[.val (.int p1)] [(.int p1)])) _
    refine X0.ldcInt hx hown (mvT hZ (hw _ (List.mem_of_getElem? (i := 7) rfl))) (g := (mkF m 7 #[.val (.int p1)] [(.int p1)])) rfl (hb hby d2_7) _ ?_
    show Steps p.tables e below (s₁.setTop (mkF m 9 #[.val (.int p1)] [(.int (983039 : Int32)), (.int p1)])) _
    unfold own_v2_6 at hz
    by_cases h : (983039 : Int32) < p1
    · rw [if_pos h] at hz
      refine XS.icmpNo X0.here hx rfl (hb hby d2_9) rfl (tlt h).2.2.2 ?_
      exact b12 hz
    · rw [if_neg h] at hz
      refine XS.icmpYes X0.here hx rfl (pc0 := 9) (pc' := 14) rfl (hb hby d2_9) rfl (flt h).2.2.2 (by decide) (by decide) ?_
      exact b14 hz
  have b0 : own_v2_0 p1 = z → Steps p.tables e below (s₁.setTop (mkF m 0 #[.val (.int p1)] [])) (s₁.setFrames fs) := by
    intro hz
    refine XS.iloadN X0.here hx rfl (hb hby d2_0) rfl ?_
    show Steps p.tables e below (s₁.setTop (mkF m 1 #[.val (.int p1)] [(.int p1)])) _
    refine XS.bipush X0.here hx rfl (hb hby d2_1) ?_
    show Steps p.tables e below (s₁.setTop (mkF m 3 #[.val (.int p1)] [(.int (65 : Int32)), (.int p1)])) _
    unfold own_v2_0 at hz
    by_cases h : p1 < (65 : Int32)
    · rw [if_pos h] at hz
      refine XS.icmpYes X0.here hx rfl (pc0 := 3) (pc' := 12) rfl (hb hby d2_3) rfl (tlt h).1 (by decide) (by decide) ?_
      exact b12 hz
    · rw [if_neg h] at hz
      refine XS.icmpNo X0.here hx rfl (hb hby d2_3) rfl (flt h).1 ?_
      exact b6 hz
  refine ⟨_, _, pre0 _ ?_, hrun, hended, _, _, rfl, ?_, ⟨_, rfl⟩, hW, hsame.mono (by decide) (by decide)⟩
  · exact b0 hz0
  · show Q2 Z p1 h0 n0 _ s₁.heap _
    rw [e0, ← hz0]
    exact ⟨rfl, N0, rfl⟩
theorem own_lt {c k : Int32} (K : Int) (hk : k.toInt = K) (h : c.toInt < K) : c < k := by rw [Int32.lt_iff_toInt_lt, hk]; exact h
theorem own_nlt {c k : Int32} (K : Int) (hk : k.toInt = K) (h : K ≤ c.toInt) : ¬ c < k := by rw [Int32.lt_iff_toInt_lt, hk]; omega
theorem own_gt {c k : Int32} (K : Int) (hk : k.toInt = K) (h : K < c.toInt) : k < c := by rw [Int32.lt_iff_toInt_lt, hk]; exact h
theorem own_ngt {c k : Int32} (K : Int) (hk : k.toInt = K) (h : c.toInt ≤ K) : ¬ k < c := by rw [Int32.lt_iff_toInt_lt, hk]; omega
theorem own_eq {c k : Int32} (K : Int) (hk : k.toInt = K) (h : c.toInt = K) : c = k := Int32.toInt_inj.mp (by rw [hk]; exact h)
theorem own_neq {c k : Int32} (K : Int) (hk : k.toInt = K) (h : c.toInt ≠ K) : ¬ c = k := fun e => h (by rw [e]; exact hk)
theorem own_reg_0 (c : Int32) (h2 : c.toInt ≤ 64) : own_v1_0 c = own_v2_0 c := by
  have e1 : own_v1_0 c = 0 := ((show own_v1_0 c = own_v1_12 c from if_pos (own_lt 97 rfl (by omega))).trans ((show own_v1_12 c = own_v1_24 c from if_pos (own_lt 65 rfl (by omega))).trans ((show own_v1_24 c = own_v1_30 c from if_neg (own_neq 95 rfl (by omega))).trans ((show own_v1_30 c = own_v1_44 c from if_pos (own_lt 192 rfl (by omega))).trans ((show own_v1_44 c = own_v1_58 c from if_pos (own_lt 216 rfl (by omega))).trans ((show own_v1_58 c = own_v1_72 c from if_pos (own_lt 248 rfl (by omega))).trans ((show own_v1_72 c = own_v1_86 c from if_pos (own_lt 880 rfl (by omega))).trans ((show own_v1_86 c = own_v1_100 c from if_pos (own_lt 895 rfl (by omega))).trans ((show own_v1_100 c = own_v1_114 c from if_pos (own_lt 8204 rfl (by omega))).trans ((show own_v1_114 c = own_v1_128 c from if_pos (own_lt 8304 rfl (by omega))).trans ((show own_v1_128 c = own_v1_142 c from if_pos (own_lt 11264 rfl (by omega))).trans ((show own_v1_142 c = own_v1_155 c from if_pos (own_lt 12289 rfl (by omega))).trans ((show own_v1_155 c = own_v1_167 c from if_pos (own_lt 63744 rfl (by omega))).trans ((show own_v1_167 c = own_v1_179 c from if_pos (own_lt 65008 rfl (by omega))).trans ((show own_v1_179 c = own_v1_195 c from if_pos (own_lt 65536 rfl (by omega))).trans rfl)))))))))))))))
  have e2 : own_v2_0 c = 0 := ((show own_v2_0 c = own_v2_12 c from if_pos (own_lt 65 rfl (by omega))).trans rfl)
  rw [e1, e2]
theorem own_reg_1 (c : Int32) (h1 : 65 ≤ c.toInt) (h2 : c.toInt ≤ 90) : own_v1_0 c = own_v2_0 c := by
  have e1 : own_v1_0 c = 1 := ((show own_v1_0 c = own_v1_12 c from if_pos (own_lt 97 rfl (by omega))).trans ((show own_v1_12 c = own_v1_18 c from if_neg (own_nlt 65 rfl (by omega))).trans ((show own_v1_18 c = own_v1_191 c from if_neg (own_ngt 90 rfl (by omega))).trans rfl)))
  have e2 : own_v2_0 c = 1 := ((show own_v2_0 c = own_v2_6 c from if_neg (own_nlt 65 rfl (by omega))).trans ((show own_v2_6 c = own_v2_14 c from if_neg (own_ngt 983039 rfl (by omega))).trans ((show own_v2_14 c = own_v2_38 c from if_neg (own_ngt 90 rfl (by omega))).trans ((show own_v2_38 c = own_v2_53 c from if_neg (own_ngt 122 rfl (by omega))).trans ((show own_v2_53 c = own_v2_60 c from if_neg (own_neq 215 rfl (by omega))).trans ((show own_v2_60 c = own_v2_69 c from if_neg (own_neq 247 rfl (by omega))).trans ((show own_v2_69 c = own_v2_85 c from if_pos (own_lt 768 rfl (by omega))).trans ((show own_v2_85 c = own_v2_94 c from if_neg (own_neq 894 rfl (by omega))).trans ((show own_v2_94 c = own_v2_128 c from if_pos (own_lt 8192 rfl (by omega))).trans ((show own_v2_128 c = own_v2_144 c from if_pos (own_lt 8592 rfl (by omega))).trans ((show own_v2_144 c = own_v2_160 c from if_pos (own_lt 12272 rfl (by omega))).trans ((show own_v2_160 c = own_v2_174 c from if_pos (own_lt 55296 rfl (by omega))).trans ((show own_v2_174 c = own_v2_188 c from if_pos (own_lt 64976 rfl (by omega))).trans ((show own_v2_188 c = own_v2_194 c from if_neg (own_neq 65534 rfl (by omega))).trans ((show own_v2_194 c = own_v2_202 c from if_neg (own_neq 65535 rfl (by omega))).trans rfl)))))))))))))))
  rw [e1, e2]
theorem own_reg_2 (c : Int32) (h1 : 91 ≤ c.toInt) (h2 : c.toInt ≤ 94) : own_v1_0 c = own_v2_0 c := by
  have e1 : own_v1_0 c = 0 := ((show own_v1_0 c = own_v1_12 c from if_pos (own_lt 97 rfl (by omega))).trans ((show own_v1_12 c = own_v1_18 c from if_neg (own_nlt 65 rfl (by omega))).trans ((show own_v1_18 c = own_v1_24 c from if_pos (own_gt 90 rfl (by omega))).trans ((show own_v1_24 c = own_v1_30 c from if_neg (own_neq 95 rfl (by omega))).trans ((show own_v1_30 c = own_v1_44 c from if_pos (own_lt 192 rfl (by omega))).trans ((show own_v1_44 c = own_v1_58 c from if_pos (own_lt 216 rfl (by omega))).trans ((show own_v1_58 c = own_v1_72 c from if_pos (own_lt 248 rfl (by omega))).trans ((show own_v1_72 c = own_v1_86 c from if_pos (own_lt 880 rfl (by omega))).trans ((show own_v1_86 c = own_v1_100 c from if_pos (own_lt 895 rfl (by omega))).trans ((show own_v1_100 c = own_v1_114 c from if_pos (own_lt 8204 rfl (by omega))).trans ((show own_v1_114 c = own_v1_128 c from if_pos (own_lt 8304 rfl (by omega))).trans ((show own_v1_128 c = own_v1_142 c from if_pos (own_lt 11264 rfl (by omega))).trans ((show own_v1_142 c = own_v1_155 c from if_pos (own_lt 12289 rfl (by omega))).trans ((show own_v1_155 c = own_v1_167 c from if_pos (own_lt 63744 rfl (by omega))).trans ((show own_v1_167 c = own_v1_179 c from if_pos (own_lt 65008 rfl (by omega))).trans ((show own_v1_179 c = own_v1_195 c from if_pos (own_lt 65536 rfl (by omega))).trans rfl))))))))))))))))
  have e2 : own_v2_0 c = 0 := ((show own_v2_0 c = own_v2_6 c from if_neg (own_nlt 65 rfl (by omega))).trans ((show own_v2_6 c = own_v2_14 c from if_neg (own_ngt 983039 rfl (by omega))).trans ((show own_v2_14 c = own_v2_20 c from if_pos (own_gt 90 rfl (by omega))).trans ((show own_v2_20 c = own_v2_26 c from if_pos (own_lt 97 rfl (by omega))).trans ((show own_v2_26 c = own_v2_36 c from if_neg (own_neq 95 rfl (by omega))).trans rfl)))))
  rw [e1, e2]
theorem own_reg_3 (c : Int32) (h1 : 95 ≤ c.toInt) (h2 : c.toInt ≤ 95) : own_v1_0 c = own_v2_0 c := by
  have e1 : own_v1_0 c = 1 := ((show own_v1_0 c = own_v1_12 c from if_pos (own_lt 97 rfl (by omega))).trans ((show own_v1_12 c = own_v1_18 c from if_neg (own_nlt 65 rfl (by omega))).trans ((show own_v1_18 c = own_v1_24 c from if_pos (own_gt 90 rfl (by omega))).trans ((show own_v1_24 c = own_v1_191 c from if_pos (own_eq 95 rfl (by omega))).trans rfl))))
  have e2 : own_v2_0 c = 1 := ((show own_v2_0 c = own_v2_6 c from if_neg (own_nlt 65 rfl (by omega))).trans ((show own_v2_6 c = own_v2_14 c from if_neg (own_ngt 983039 rfl (by omega))).trans ((show own_v2_14 c = own_v2_20 c from if_pos (own_gt 90 rfl (by omega))).trans ((show own_v2_20 c = own_v2_26 c from if_pos (own_lt 97 rfl (by omega))).trans ((show own_v2_26 c = own_v2_32 c from if_pos (own_eq 95 rfl (by omega))).trans rfl)))))
  rw [e1, e2]
theorem own_reg_4 (c : Int32) (h1 : 96 ≤ c.toInt) (h2 : c.toInt ≤ 96) : own_v1_0 c = own_v2_0 c := by
  have e1 : own_v1_0 c = 0 := ((show own_v1_0 c = own_v1_12 c from if_pos (own_lt 97 rfl (by omega))).trans ((show own_v1_12 c = own_v1_18 c from if_neg (own_nlt 65 rfl (by omega))).trans ((show own_v1_18 c = own_v1_24 c from if_pos (own_gt 90 rfl (by omega))).trans ((show own_v1_24 c = own_v1_30 c from if_neg (own_neq 95 rfl (by omega))).trans ((show own_v1_30 c = own_v1_44 c from if_pos (own_lt 192 rfl (by omega))).trans ((show own_v1_44 c = own_v1_58 c from if_pos (own_lt 216 rfl (by omega))).trans ((show own_v1_58 c = own_v1_72 c from if_pos (own_lt 248 rfl (by omega))).trans ((show own_v1_72 c = own_v1_86 c from if_pos (own_lt 880 rfl (by omega))).trans ((show own_v1_86 c = own_v1_100 c from if_pos (own_lt 895 rfl (by omega))).trans ((show own_v1_100 c = own_v1_114 c from if_pos (own_lt 8204 rfl (by omega))).trans ((show own_v1_114 c = own_v1_128 c from if_pos (own_lt 8304 rfl (by omega))).trans ((show own_v1_128 c = own_v1_142 c from if_pos (own_lt 11264 rfl (by omega))).trans ((show own_v1_142 c = own_v1_155 c from if_pos (own_lt 12289 rfl (by omega))).trans ((show own_v1_155 c = own_v1_167 c from if_pos (own_lt 63744 rfl (by omega))).trans ((show own_v1_167 c = own_v1_179 c from if_pos (own_lt 65008 rfl (by omega))).trans ((show own_v1_179 c = own_v1_195 c from if_pos (own_lt 65536 rfl (by omega))).trans rfl))))))))))))))))
  have e2 : own_v2_0 c = 0 := ((show own_v2_0 c = own_v2_6 c from if_neg (own_nlt 65 rfl (by omega))).trans ((show own_v2_6 c = own_v2_14 c from if_neg (own_ngt 983039 rfl (by omega))).trans ((show own_v2_14 c = own_v2_20 c from if_pos (own_gt 90 rfl (by omega))).trans ((show own_v2_20 c = own_v2_26 c from if_pos (own_lt 97 rfl (by omega))).trans ((show own_v2_26 c = own_v2_36 c from if_neg (own_neq 95 rfl (by omega))).trans rfl)))))
  rw [e1, e2]
theorem own_reg_5 (c : Int32) (h1 : 97 ≤ c.toInt) (h2 : c.toInt ≤ 122) : own_v1_0 c = own_v2_0 c := by
  have e1 : own_v1_0 c = 1 := ((show own_v1_0 c = own_v1_6 c from if_neg (own_nlt 97 rfl (by omega))).trans ((show own_v1_6 c = own_v1_191 c from if_neg (own_ngt 122 rfl (by omega))).trans rfl))
  have e2 : own_v2_0 c = 1 := ((show own_v2_0 c = own_v2_6 c from if_neg (own_nlt 65 rfl (by omega))).trans ((show own_v2_6 c = own_v2_14 c from if_neg (own_ngt 983039 rfl (by omega))).trans ((show own_v2_14 c = own_v2_20 c from if_pos (own_gt 90 rfl (by omega))).trans ((show own_v2_20 c = own_v2_38 c from if_neg (own_nlt 97 rfl (by omega))).trans ((show own_v2_38 c = own_v2_53 c from if_neg (own_ngt 122 rfl (by omega))).trans ((show own_v2_53 c = own_v2_60 c from if_neg (own_neq 215 rfl (by omega))).trans ((show own_v2_60 c = own_v2_69 c from if_neg (own_neq 247 rfl (by omega))).trans ((show own_v2_69 c = own_v2_85 c from if_pos (own_lt 768 rfl (by omega))).trans ((show own_v2_85 c = own_v2_94 c from if_neg (own_neq 894 rfl (by omega))).trans ((show own_v2_94 c = own_v2_128 c from if_pos (own_lt 8192 rfl (by omega))).trans ((show own_v2_128 c = own_v2_144 c from if_pos (own_lt 8592 rfl (by omega))).trans ((show own_v2_144 c = own_v2_160 c from if_pos (own_lt 12272 rfl (by omega))).trans ((show own_v2_160 c = own_v2_174 c from if_pos (own_lt 55296 rfl (by omega))).trans ((show own_v2_174 c = own_v2_188 c from if_pos (own_lt 64976 rfl (by omega))).trans ((show own_v2_188 c = own_v2_194 c from if_neg (own_neq 65534 rfl (by omega))).trans ((show own_v2_194 c = own_v2_202 c from if_neg (own_neq 65535 rfl (by omega))).trans rfl))))))))))))))))
  rw [e1, e2]
theorem own_reg_6 (c : Int32) (h1 : 123 ≤ c.toInt) (h2 : c.toInt ≤ 191) : own_v1_0 c = own_v2_0 c := by
  have e1 : own_v1_0 c = 0 := ((show own_v1_0 c = own_v1_6 c from if_neg (own_nlt 97 rfl (by omega))).trans ((show own_v1_6 c = own_v1_12 c from if_pos (own_gt 122 rfl (by omega))).trans ((show own_v1_12 c = own_v1_18 c from if_neg (own_nlt 65 rfl (by omega))).trans ((show own_v1_18 c = own_v1_24 c from if_pos (own_gt 90 rfl (by omega))).trans ((show own_v1_24 c = own_v1_30 c from if_neg (own_neq 95 rfl (by omega))).trans ((show own_v1_30 c = own_v1_44 c from if_pos (own_lt 192 rfl (by omega))).trans ((show own_v1_44 c = own_v1_58 c from if_pos (own_lt 216 rfl (by omega))).trans ((show own_v1_58 c = own_v1_72 c from if_pos (own_lt 248 rfl (by omega))).trans ((show own_v1_72 c = own_v1_86 c from if_pos (own_lt 880 rfl (by omega))).trans ((show own_v1_86 c = own_v1_100 c from if_pos (own_lt 895 rfl (by omega))).trans ((show own_v1_100 c = own_v1_114 c from if_pos (own_lt 8204 rfl (by omega))).trans ((show own_v1_114 c = own_v1_128 c from if_pos (own_lt 8304 rfl (by omega))).trans ((show own_v1_128 c = own_v1_142 c from if_pos (own_lt 11264 rfl (by omega))).trans ((show own_v1_142 c = own_v1_155 c from if_pos (own_lt 12289 rfl (by omega))).trans ((show own_v1_155 c = own_v1_167 c from if_pos (own_lt 63744 rfl (by omega))).trans ((show own_v1_167 c = own_v1_179 c from if_pos (own_lt 65008 rfl (by omega))).trans ((show own_v1_179 c = own_v1_195 c from if_pos (own_lt 65536 rfl (by omega))).trans rfl)))))))))))))))))
  have e2 : own_v2_0 c = 0 := ((show own_v2_0 c = own_v2_6 c from if_neg (own_nlt 65 rfl (by omega))).trans ((show own_v2_6 c = own_v2_14 c from if_neg (own_ngt 983039 rfl (by omega))).trans ((show own_v2_14 c = own_v2_20 c from if_pos (own_gt 90 rfl (by omega))).trans ((show own_v2_20 c = own_v2_38 c from if_neg (own_nlt 97 rfl (by omega))).trans ((show own_v2_38 c = own_v2_44 c from if_pos (own_gt 122 rfl (by omega))).trans ((show own_v2_44 c = own_v2_51 c from if_pos (own_lt 192 rfl (by omega))).trans rfl))))))
  rw [e1, e2]
theorem own_reg_7 (c : Int32) (h1 : 192 ≤ c.toInt) (h2 : c.toInt ≤ 214) : own_v1_0 c = own_v2_0 c := by
  have e1 : own_v1_0 c = 1 := ((show own_v1_0 c = own_v1_6 c from if_neg (own_nlt 97 rfl (by omega))).trans ((show own_v1_6 c = own_v1_12 c from if_pos (own_gt 122 rfl (by omega))).trans ((show own_v1_12 c = own_v1_18 c from if_neg (own_nlt 65 rfl (by omega))).trans ((show own_v1_18 c = own_v1_24 c from if_pos (own_gt 90 rfl (by omega))).trans ((show own_v1_24 c = own_v1_30 c from if_neg (own_neq 95 rfl (by omega))).trans ((show own_v1_30 c = own_v1_37 c from if_neg (own_nlt 192 rfl (by omega))).trans ((show own_v1_37 c = own_v1_191 c from if_neg (own_ngt 214 rfl (by omega))).trans rfl)))))))
  have e2 : own_v2_0 c = 1 := ((show own_v2_0 c = own_v2_6 c from if_neg (own_nlt 65 rfl (by omega))).trans ((show own_v2_6 c = own_v2_14 c from if_neg (own_ngt 983039 rfl (by omega))).trans ((show own_v2_14 c = own_v2_20 c from if_pos (own_gt 90 rfl (by omega))).trans ((show own_v2_20 c = own_v2_38 c from if_neg (own_nlt 97 rfl (by omega))).trans ((show own_v2_38 c = own_v2_44 c from if_pos (own_gt 122 rfl (by omega))).trans ((show own_v2_44 c = own_v2_53 c from if_neg (own_nlt 192 rfl (by omega))).trans ((show own_v2_53 c = own_v2_60 c from if_neg (own_neq 215 rfl (by omega))).trans ((show own_v2_60 c = own_v2_69 c from if_neg (own_neq 247 rfl (by omega))).trans ((show own_v2_69 c = own_v2_85 c from if_pos (own_lt 768 rfl (by omega))).trans ((show own_v2_85 c = own_v2_94 c from if_neg (own_neq 894 rfl (by omega))).trans ((show own_v2_94 c = own_v2_128 c from if_pos (own_lt 8192 rfl (by omega))).trans ((show own_v2_128 c = own_v2_144 c from if_pos (own_lt 8592 rfl (by omega))).trans ((show own_v2_144 c = own_v2_160 c from if_pos (own_lt 12272 rfl (by omega))).trans ((show own_v2_160 c = own_v2_174 c from if_pos (own_lt 55296 rfl (by omega))).trans ((show own_v2_174 c = own_v2_188 c from if_pos (own_lt 64976 rfl (by omega))).trans ((show own_v2_188 c = own_v2_194 c from if_neg (own_neq 65534 rfl (by omega))).trans ((show own_v2_194 c = own_v2_202 c from if_neg (own_neq 65535 rfl (by omega))).trans rfl)))))))))))))))))
  rw [e1, e2]
theorem own_reg_8 (c : Int32) (h1 : 215 ≤ c.toInt) (h2 : c.toInt ≤ 215) : own_v1_0 c = own_v2_0 c := by
  have e1 : own_v1_0 c = 0 := ((show own_v1_0 c = own_v1_6 c from if_neg (own_nlt 97 rfl (by omega))).trans ((show own_v1_6 c = own_v1_12 c from if_pos (own_gt 122 rfl (by omega))).trans ((show own_v1_12 c = own_v1_18 c from if_neg (own_nlt 65 rfl (by omega))).trans ((show own_v1_18 c = own_v1_24 c from if_pos (own_gt 90 rfl (by omega))).trans ((show own_v1_24 c = own_v1_30 c from if_neg (own_neq 95 rfl (by omega))).trans ((show own_v1_30 c = own_v1_37 c from if_neg (own_nlt 192 rfl (by omega))).trans ((show own_v1_37 c = own_v1_44 c from if_pos (own_gt 214 rfl (by omega))).trans ((show own_v1_44 c = own_v1_58 c from if_pos (own_lt 216 rfl (by omega))).trans ((show own_v1_58 c = own_v1_72 c from if_pos (own_lt 248 rfl (by omega))).trans ((show own_v1_72 c = own_v1_86 c from if_pos (own_lt 880 rfl (by omega))).trans ((show own_v1_86 c = own_v1_100 c from if_pos (own_lt 895 rfl (by omega))).trans ((show own_v1_100 c = own_v1_114 c from if_pos (own_lt 8204 rfl (by omega))).trans ((show own_v1_114 c = own_v1_128 c from if_pos (own_lt 8304 rfl (by omega))).trans ((show own_v1_128 c = own_v1_142 c from if_pos (own_lt 11264 rfl (by omega))).trans ((show own_v1_142 c = own_v1_155 c from if_pos (own_lt 12289 rfl (by omega))).trans ((show own_v1_155 c = own_v1_167 c from if_pos (own_lt 63744 rfl (by omega))).trans ((show own_v1_167 c = own_v1_179 c from if_pos (own_lt 65008 rfl (by omega))).trans ((show own_v1_179 c = own_v1_195 c from if_pos (own_lt 65536 rfl (by omega))).trans rfl))))))))))))))))))
  have e2 : own_v2_0 c = 0 := ((show own_v2_0 c = own_v2_6 c from if_neg (own_nlt 65 rfl (by omega))).trans ((show own_v2_6 c = own_v2_14 c from if_neg (own_ngt 983039 rfl (by omega))).trans ((show own_v2_14 c = own_v2_20 c from if_pos (own_gt 90 rfl (by omega))).trans ((show own_v2_20 c = own_v2_38 c from if_neg (own_nlt 97 rfl (by omega))).trans ((show own_v2_38 c = own_v2_44 c from if_pos (own_gt 122 rfl (by omega))).trans ((show own_v2_44 c = own_v2_53 c from if_neg (own_nlt 192 rfl (by omega))).trans ((show own_v2_53 c = own_v2_67 c from if_pos (own_eq 215 rfl (by omega))).trans rfl)))))))
  rw [e1, e2]
theorem own_reg_9 (c : Int32) (h1 : 216 ≤ c.toInt) (h2 : c.toInt ≤ 246) : own_v1_0 c = own_v2_0 c := by
  have e1 : own_v1_0 c = 1 := ((show own_v1_0 c = own_v1_6 c from if_neg (own_nlt 97 rfl (by omega))).trans ((show own_v1_6 c = own_v1_12 c from if_pos (own_gt 122 rfl (by omega))).trans ((show own_v1_12 c = own_v1_18 c from if_neg (own_nlt 65 rfl (by omega))).trans ((show own_v1_18 c = own_v1_24 c from if_pos (own_gt 90 rfl (by omega))).trans ((show own_v1_24 c = own_v1_30 c from if_neg (own_neq 95 rfl (by omega))).trans ((show own_v1_30 c = own_v1_37 c from if_neg (own_nlt 192 rfl (by omega))).trans ((show own_v1_37 c = own_v1_44 c from if_pos (own_gt 214 rfl (by omega))).trans ((show own_v1_44 c = own_v1_51 c from if_neg (own_nlt 216 rfl (by omega))).trans ((show own_v1_51 c = own_v1_191 c from if_neg (own_ngt 246 rfl (by omega))).trans rfl)))))))))
  have e2 : own_v2_0 c = 1 := ((show own_v2_0 c = own_v2_6 c from if_neg (own_nlt 65 rfl (by omega))).trans ((show own_v2_6 c = own_v2_14 c from if_neg (own_ngt 983039 rfl (by omega))).trans ((show own_v2_14 c = own_v2_20 c from if_pos (own_gt 90 rfl (by omega))).trans ((show own_v2_20 c = own_v2_38 c from if_neg (own_nlt 97 rfl (by omega))).trans ((show own_v2_38 c = own_v2_44 c from if_pos (own_gt 122 rfl (by omega))).trans ((show own_v2_44 c = own_v2_53 c from if_neg (own_nlt 192 rfl (by omega))).trans ((show own_v2_53 c = own_v2_60 c from if_neg (own_neq 215 rfl (by omega))).trans ((show own_v2_60 c = own_v2_69 c from if_neg (own_neq 247 rfl (by omega))).trans ((show own_v2_69 c = own_v2_85 c from if_pos (own_lt 768 rfl (by omega))).trans ((show own_v2_85 c = own_v2_94 c from if_neg (own_neq 894 rfl (by omega))).trans ((show own_v2_94 c = own_v2_128 c from if_pos (own_lt 8192 rfl (by omega))).trans ((show own_v2_128 c = own_v2_144 c from if_pos (own_lt 8592 rfl (by omega))).trans ((show own_v2_144 c = own_v2_160 c from if_pos (own_lt 12272 rfl (by omega))).trans ((show own_v2_160 c = own_v2_174 c from if_pos (own_lt 55296 rfl (by omega))).trans ((show own_v2_174 c = own_v2_188 c from if_pos (own_lt 64976 rfl (by omega))).trans ((show own_v2_188 c = own_v2_194 c from if_neg (own_neq 65534 rfl (by omega))).trans ((show own_v2_194 c = own_v2_202 c from if_neg (own_neq 65535 rfl (by omega))).trans rfl)))))))))))))))))
  rw [e1, e2]
theorem own_reg_10 (c : Int32) (h1 : 247 ≤ c.toInt) (h2 : c.toInt ≤ 247) : own_v1_0 c = own_v2_0 c := by
  have e1 : own_v1_0 c = 0 := ((show own_v1_0 c = own_v1_6 c from if_neg (own_nlt 97 rfl (by omega))).trans ((show own_v1_6 c = own_v1_12 c from if_pos (own_gt 122 rfl (by omega))).trans ((show own_v1_12 c = own_v1_18 c from if_neg (own_nlt 65 rfl (by omega))).trans ((show own_v1_18 c = own_v1_24 c from if_pos (own_gt 90 rfl (by omega))).trans ((show own_v1_24 c = own_v1_30 c from if_neg (own_neq 95 rfl (by omega))).trans ((show own_v1_30 c = own_v1_37 c from if_neg (own_nlt 192 rfl (by omega))).trans ((show own_v1_37 c = own_v1_44 c from if_pos (own_gt 214 rfl (by omega))).trans ((show own_v1_44 c = own_v1_51 c from if_neg (own_nlt 216 rfl (by omega))).trans ((show own_v1_51 c = own_v1_58 c from if_pos (own_gt 246 rfl (by omega))).trans ((show own_v1_58 c = own_v1_72 c from if_pos (own_lt 248 rfl (by omega))).trans ((show own_v1_72 c = own_v1_86 c from if_pos (own_lt 880 rfl (by omega))).trans ((show own_v1_86 c = own_v1_100 c from if_pos (own_lt 895 rfl (by omega))).trans ((show own_v1_100 c = own_v1_114 c from if_pos (own_lt 8204 rfl (by omega))).trans ((show own_v1_114 c = own_v1_128 c from if_pos (own_lt 8304 rfl (by omega))).trans ((show own_v1_128 c = own_v1_142 c from if_pos (own_lt 11264 rfl (by omega))).trans ((show own_v1_142 c = own_v1_155 c from if_pos (own_lt 12289 rfl (by omega))).trans ((show own_v1_155 c = own_v1_167 c from if_pos (own_lt 63744 rfl (by omega))).trans ((show own_v1_167 c = own_v1_179 c from if_pos (own_lt 65008 rfl (by omega))).trans ((show own_v1_179 c = own_v1_195 c from if_pos (own_lt 65536 rfl (by omega))).trans rfl)))))))))))))))))))
  have e2 : own_v2_0 c = 0 := ((show own_v2_0 c = own_v2_6 c from if_neg (own_nlt 65 rfl (by omega))).trans ((show own_v2_6 c = own_v2_14 c from if_neg (own_ngt 983039 rfl (by omega))).trans ((show own_v2_14 c = own_v2_20 c from if_pos (own_gt 90 rfl (by omega))).trans ((show own_v2_20 c = own_v2_38 c from if_neg (own_nlt 97 rfl (by omega))).trans ((show own_v2_38 c = own_v2_44 c from if_pos (own_gt 122 rfl (by omega))).trans ((show own_v2_44 c = own_v2_53 c from if_neg (own_nlt 192 rfl (by omega))).trans ((show own_v2_53 c = own_v2_60 c from if_neg (own_neq 215 rfl (by omega))).trans ((show own_v2_60 c = own_v2_67 c from if_pos (own_eq 247 rfl (by omega))).trans rfl))))))))
  rw [e1, e2]
theorem own_reg_11 (c : Int32) (h1 : 248 ≤ c.toInt) (h2 : c.toInt ≤ 767) : own_v1_0 c = own_v2_0 c := by
  have e1 : own_v1_0 c = 1 := ((show own_v1_0 c = own_v1_6 c from if_neg (own_nlt 97 rfl (by omega))).trans ((show own_v1_6 c = own_v1_12 c from if_pos (own_gt 122 rfl (by omega))).trans ((show own_v1_12 c = own_v1_18 c from if_neg (own_nlt 65 rfl (by omega))).trans ((show own_v1_18 c = own_v1_24 c from if_pos (own_gt 90 rfl (by omega))).trans ((show own_v1_24 c = own_v1_30 c from if_neg (own_neq 95 rfl (by omega))).trans ((show own_v1_30 c = own_v1_37 c from if_neg (own_nlt 192 rfl (by omega))).trans ((show own_v1_37 c = own_v1_44 c from if_pos (own_gt 214 rfl (by omega))).trans ((show own_v1_44 c = own_v1_51 c from if_neg (own_nlt 216 rfl (by omega))).trans ((show own_v1_51 c = own_v1_58 c from if_pos (own_gt 246 rfl (by omega))).trans ((show own_v1_58 c = own_v1_65 c from if_neg (own_nlt 248 rfl (by omega))).trans ((show own_v1_65 c = own_v1_191 c from if_neg (own_ngt 767 rfl (by omega))).trans rfl)))))))))))
  have e2 : own_v2_0 c = 1 := ((show own_v2_0 c = own_v2_6 c from if_neg (own_nlt 65 rfl (by omega))).trans ((show own_v2_6 c = own_v2_14 c from if_neg (own_ngt 983039 rfl (by omega))).trans ((show own_v2_14 c = own_v2_20 c from if_pos (own_gt 90 rfl (by omega))).trans ((show own_v2_20 c = own_v2_38 c from if_neg (own_nlt 97 rfl (by omega))).trans ((show own_v2_38 c = own_v2_44 c from if_pos (own_gt 122 rfl (by omega))).trans ((show own_v2_44 c = own_v2_53 c from if_neg (own_nlt 192 rfl (by omega))).trans ((show own_v2_53 c = own_v2_60 c from if_neg (own_neq 215 rfl (by omega))).trans ((show own_v2_60 c = own_v2_69 c from if_neg (own_neq 247 rfl (by omega))).trans ((show own_v2_69 c = own_v2_85 c from if_pos (own_lt 768 rfl (by omega))).trans ((show own_v2_85 c = own_v2_94 c from if_neg (own_neq 894 rfl (by omega))).trans ((show own_v2_94 c = own_v2_128 c from if_pos (own_lt 8192 rfl (by omega))).trans ((show own_v2_128 c = own_v2_144 c from if_pos (own_lt 8592 rfl (by omega))).trans ((show own_v2_144 c = own_v2_160 c from if_pos (own_lt 12272 rfl (by omega))).trans ((show own_v2_160 c = own_v2_174 c from if_pos (own_lt 55296 rfl (by omega))).trans ((show own_v2_174 c = own_v2_188 c from if_pos (own_lt 64976 rfl (by omega))).trans ((show own_v2_188 c = own_v2_194 c from if_neg (own_neq 65534 rfl (by omega))).trans ((show own_v2_194 c = own_v2_202 c from if_neg (own_neq 65535 rfl (by omega))).trans rfl)))))))))))))))))
  rw [e1, e2]
theorem own_reg_12 (c : Int32) (h1 : 768 ≤ c.toInt) (h2 : c.toInt ≤ 879) : own_v1_0 c = own_v2_0 c := by
  have e1 : own_v1_0 c = 0 := ((show own_v1_0 c = own_v1_6 c from if_neg (own_nlt 97 rfl (by omega))).trans ((show own_v1_6 c = own_v1_12 c from if_pos (own_gt 122 rfl (by omega))).trans ((show own_v1_12 c = own_v1_18 c from if_neg (own_nlt 65 rfl (by omega))).trans ((show own_v1_18 c = own_v1_24 c from if_pos (own_gt 90 rfl (by omega))).trans ((show own_v1_24 c = own_v1_30 c from if_neg (own_neq 95 rfl (by omega))).trans ((show own_v1_30 c = own_v1_37 c from if_neg (own_nlt 192 rfl (by omega))).trans ((show own_v1_37 c = own_v1_44 c from if_pos (own_gt 214 rfl (by omega))).trans ((show own_v1_44 c = own_v1_51 c from if_neg (own_nlt 216 rfl (by omega))).trans ((show own_v1_51 c = own_v1_58 c from if_pos (own_gt 246 rfl (by omega))).trans ((show own_v1_58 c = own_v1_65 c from if_neg (own_nlt 248 rfl (by omega))).trans ((show own_v1_65 c = own_v1_72 c from if_pos (own_gt 767 rfl (by omega))).trans ((show own_v1_72 c = own_v1_86 c from if_pos (own_lt 880 rfl (by omega))).trans ((show own_v1_86 c = own_v1_100 c from if_pos (own_lt 895 rfl (by omega))).trans ((show own_v1_100 c = own_v1_114 c from if_pos (own_lt 8204 rfl (by omega))).trans ((show own_v1_114 c = own_v1_128 c from if_pos (own_lt 8304 rfl (by omega))).trans ((show own_v1_128 c = own_v1_142 c from if_pos (own_lt 11264 rfl (by omega))).trans ((show own_v1_142 c = own_v1_155 c from if_pos (own_lt 12289 rfl (by omega))).trans ((show own_v1_155 c = own_v1_167 c from if_pos (own_lt 63744 rfl (by omega))).trans ((show own_v1_167 c = own_v1_179 c from if_pos (own_lt 65008 rfl (by omega))).trans ((show own_v1_179 c = own_v1_195 c from if_pos (own_lt 65536 rfl (by omega))).trans rfl))))))))))))))))))))
  have e2 : own_v2_0 c = 0 := ((show own_v2_0 c = own_v2_6 c from if_neg (own_nlt 65 rfl (by omega))).trans ((show own_v2_6 c = own_v2_14 c from if_neg (own_ngt 983039 rfl (by omega))).trans ((show own_v2_14 c = own_v2_20 c from if_pos (own_gt 90 rfl (by omega))).trans ((show own_v2_20 c = own_v2_38 c from if_neg (own_nlt 97 rfl (by omega))).trans ((show own_v2_38 c = own_v2_44 c from if_pos (own_gt 122 rfl (by omega))).trans ((show own_v2_44 c = own_v2_53 c from if_neg (own_nlt 192 rfl (by omega))).trans ((show own_v2_53 c = own_v2_60 c from if_neg (own_neq 215 rfl (by omega))).trans ((show own_v2_60 c = own_v2_69 c from if_neg (own_neq 247 rfl (by omega))).trans ((show own_v2_69 c = own_v2_76 c from if_neg (own_nlt 768 rfl (by omega))).trans ((show own_v2_76 c = own_v2_83 c from if_neg (own_ngt 879 rfl (by omega))).trans rfl))))))))))
  rw [e1, e2]
theorem own_reg_13 (c : Int32) (h1 : 880 ≤ c.toInt) (h2 : c.toInt ≤ 893) : own_v1_0 c = own_v2_0 c := by
  have e1 : own_v1_0 c = 1 := ((show own_v1_0 c = own_v1_6 c from if_neg (own_nlt 97 rfl (by omega))).trans ((show own_v1_6 c = own_v1_12 c from if_pos (own_gt 122 rfl (by omega))).trans ((show own_v1_12 c = own_v1_18 c from if_neg (own_nlt 65 rfl (by omega))).trans ((show own_v1_18 c = own_v1_24 c from if_pos (own_gt 90 rfl (by omega))).trans ((show own_v1_24 c = own_v1_30 c from if_neg (own_neq 95 rfl (by omega))).trans ((show own_v1_30 c = own_v1_37 c from if_neg (own_nlt 192 rfl (by omega))).trans ((show own_v1_37 c = own_v1_44 c from if_pos (own_gt 214 rfl (by omega))).trans ((show own_v1_44 c = own_v1_51 c from if_neg (own_nlt 216 rfl (by omega))).trans ((show own_v1_51 c = own_v1_58 c from if_pos (own_gt 246 rfl (by omega))).trans ((show own_v1_58 c = own_v1_65 c from if_neg (own_nlt 248 rfl (by omega))).trans ((show own_v1_65 c = own_v1_72 c from if_pos (own_gt 767 rfl (by omega))).trans ((show own_v1_72 c = own_v1_79 c from if_neg (own_nlt 880 rfl (by omega))).trans ((show own_v1_79 c = own_v1_191 c from if_neg (own_ngt 893 rfl (by omega))).trans rfl)))))))))))))
  have e2 : own_v2_0 c = 1 := ((show own_v2_0 c = own_v2_6 c from if_neg (own_nlt 65 rfl (by omega))).trans ((show own_v2_6 c = own_v2_14 c from if_neg (own_ngt 983039 rfl (by omega))).trans ((show own_v2_14 c = own_v2_20 c from if_pos (own_gt 90 rfl (by omega))).trans ((show own_v2_20 c = own_v2_38 c from if_neg (own_nlt 97 rfl (by omega))).trans ((show own_v2_38 c = own_v2_44 c from if_pos (own_gt 122 rfl (by omega))).trans ((show own_v2_44 c = own_v2_53 c from if_neg (own_nlt 192 rfl (by omega))).trans ((show own_v2_53 c = own_v2_60 c from if_neg (own_neq 215 rfl (by omega))).trans ((show own_v2_60 c = own_v2_69 c from if_neg (own_neq 247 rfl (by omega))).trans ((show own_v2_69 c = own_v2_76 c from if_neg (own_nlt 768 rfl (by omega))).trans ((show own_v2_76 c = own_v2_85 c from if_pos (own_gt 879 rfl (by omega))).trans ((show own_v2_85 c = own_v2_94 c from if_neg (own_neq 894 rfl (by omega))).trans ((show own_v2_94 c = own_v2_128 c from if_pos (own_lt 8192 rfl (by omega))).trans ((show own_v2_128 c = own_v2_144 c from if_pos (own_lt 8592 rfl (by omega))).trans ((show own_v2_144 c = own_v2_160 c from if_pos (own_lt 12272 rfl (by omega))).trans ((show own_v2_160 c = own_v2_174 c from if_pos (own_lt 55296 rfl (by omega))).trans ((show own_v2_174 c = own_v2_188 c from if_pos (own_lt 64976 rfl (by omega))).trans ((show own_v2_188 c = own_v2_194 c from if_neg (own_neq 65534 rfl (by omega))).trans ((show own_v2_194 c = own_v2_202 c from if_neg (own_neq 65535 rfl (by omega))).trans rfl))))))))))))))))))
  rw [e1, e2]
theorem own_reg_14 (c : Int32) (h1 : 894 ≤ c.toInt) (h2 : c.toInt ≤ 894) : own_v1_0 c = own_v2_0 c := by
  have e1 : own_v1_0 c = 0 := ((show own_v1_0 c = own_v1_6 c from if_neg (own_nlt 97 rfl (by omega))).trans ((show own_v1_6 c = own_v1_12 c from if_pos (own_gt 122 rfl (by omega))).trans ((show own_v1_12 c = own_v1_18 c from if_neg (own_nlt 65 rfl (by omega))).trans ((show own_v1_18 c = own_v1_24 c from if_pos (own_gt 90 rfl (by omega))).trans ((show own_v1_24 c = own_v1_30 c from if_neg (own_neq 95 rfl (by omega))).trans ((show own_v1_30 c = own_v1_37 c from if_neg (own_nlt 192 rfl (by omega))).trans ((show own_v1_37 c = own_v1_44 c from if_pos (own_gt 214 rfl (by omega))).trans ((show own_v1_44 c = own_v1_51 c from if_neg (own_nlt 216 rfl (by omega))).trans ((show own_v1_51 c = own_v1_58 c from if_pos (own_gt 246 rfl (by omega))).trans ((show own_v1_58 c = own_v1_65 c from if_neg (own_nlt 248 rfl (by omega))).trans ((show own_v1_65 c = own_v1_72 c from if_pos (own_gt 767 rfl (by omega))).trans ((show own_v1_72 c = own_v1_79 c from if_neg (own_nlt 880 rfl (by omega))).trans ((show own_v1_79 c = own_v1_86 c from if_pos (own_gt 893 rfl (by omega))).trans ((show own_v1_86 c = own_v1_100 c from if_pos (own_lt 895 rfl (by omega))).trans ((show own_v1_100 c = own_v1_114 c from if_pos (own_lt 8204 rfl (by omega))).trans ((show own_v1_114 c = own_v1_128 c from if_pos (own_lt 8304 rfl (by omega))).trans ((show own_v1_128 c = own_v1_142 c from if_pos (own_lt 11264 rfl (by omega))).trans ((show own_v1_142 c = own_v1_155 c from if_pos (own_lt 12289 rfl (by omega))).trans ((show own_v1_155 c = own_v1_167 c from if_pos (own_lt 63744 rfl (by omega))).trans ((show own_v1_167 c = own_v1_179 c from if_pos (own_lt 65008 rfl (by omega))).trans ((show own_v1_179 c = own_v1_195 c from if_pos (own_lt 65536 rfl (by omega))).trans rfl)))))))))))))))))))))
  have e2 : own_v2_0 c = 0 := ((show own_v2_0 c = own_v2_6 c from if_neg (own_nlt 65 rfl (by omega))).trans ((show own_v2_6 c = own_v2_14 c from if_neg (own_ngt 983039 rfl (by omega))).trans ((show own_v2_14 c = own_v2_20 c from if_pos (own_gt 90 rfl (by omega))).trans ((show own_v2_20 c = own_v2_38 c from if_neg (own_nlt 97 rfl (by omega))).trans ((show own_v2_38 c = own_v2_44 c from if_pos (own_gt 122 rfl (by omega))).trans ((show own_v2_44 c = own_v2_53 c from if_neg (own_nlt 192 rfl (by omega))).trans ((show own_v2_53 c = own_v2_60 c from if_neg (own_neq 215 rfl (by omega))).trans ((show own_v2_60 c = own_v2_69 c from if_neg (own_neq 247 rfl (by omega))).trans ((show own_v2_69 c = own_v2_76 c from if_neg (own_nlt 768 rfl (by omega))).trans ((show own_v2_76 c = own_v2_85 c from if_pos (own_gt 879 rfl (by omega))).trans ((show own_v2_85 c = own_v2_92 c from if_pos (own_eq 894 rfl (by omega))).trans rfl)))))))))))
  rw [e1, e2]
theorem own_reg_15 (c : Int32) (h1 : 895 ≤ c.toInt) (h2 : c.toInt ≤ 8191) : own_v1_0 c = own_v2_0 c := by
  have e1 : own_v1_0 c = 1 := ((show own_v1_0 c = own_v1_6 c from if_neg (own_nlt 97 rfl (by omega))).trans ((show own_v1_6 c = own_v1_12 c from if_pos (own_gt 122 rfl (by omega))).trans ((show own_v1_12 c = own_v1_18 c from if_neg (own_nlt 65 rfl (by omega))).trans ((show own_v1_18 c = own_v1_24 c from if_pos (own_gt 90 rfl (by omega))).trans ((show own_v1_24 c = own_v1_30 c from if_neg (own_neq 95 rfl (by omega))).trans ((show own_v1_30 c = own_v1_37 c from if_neg (own_nlt 192 rfl (by omega))).trans ((show own_v1_37 c = own_v1_44 c from if_pos (own_gt 214 rfl (by omega))).trans ((show own_v1_44 c = own_v1_51 c from if_neg (own_nlt 216 rfl (by omega))).trans ((show own_v1_51 c = own_v1_58 c from if_pos (own_gt 246 rfl (by omega))).trans ((show own_v1_58 c = own_v1_65 c from if_neg (own_nlt 248 rfl (by omega))).trans ((show own_v1_65 c = own_v1_72 c from if_pos (own_gt 767 rfl (by omega))).trans ((show own_v1_72 c = own_v1_79 c from if_neg (own_nlt 880 rfl (by omega))).trans ((show own_v1_79 c = own_v1_86 c from if_pos (own_gt 893 rfl (by omega))).trans ((show own_v1_86 c = own_v1_93 c from if_neg (own_nlt 895 rfl (by omega))).trans ((show own_v1_93 c = own_v1_191 c from if_neg (own_ngt 8191 rfl (by omega))).trans rfl)))))))))))))))
  have e2 : own_v2_0 c = 1 := ((show own_v2_0 c = own_v2_6 c from if_neg (own_nlt 65 rfl (by omega))).trans ((show own_v2_6 c = own_v2_14 c from if_neg (own_ngt 983039 rfl (by omega))).trans ((show own_v2_14 c = own_v2_20 c from if_pos (own_gt 90 rfl (by omega))).trans ((show own_v2_20 c = own_v2_38 c from if_neg (own_nlt 97 rfl (by omega))).trans ((show own_v2_38 c = own_v2_44 c from if_pos (own_gt 122 rfl (by omega))).trans ((show own_v2_44 c = own_v2_53 c from if_neg (own_nlt 192 rfl (by omega))).trans ((show own_v2_53 c = own_v2_60 c from if_neg (own_neq 215 rfl (by omega))).trans ((show own_v2_60 c = own_v2_69 c from if_neg (own_neq 247 rfl (by omega))).trans ((show own_v2_69 c = own_v2_76 c from if_neg (own_nlt 768 rfl (by omega))).trans ((show own_v2_76 c = own_v2_85 c from if_pos (own_gt 879 rfl (by omega))).trans ((show own_v2_85 c = own_v2_94 c from if_neg (own_neq 894 rfl (by omega))).trans ((show own_v2_94 c = own_v2_128 c from if_pos (own_lt 8192 rfl (by omega))).trans ((show own_v2_128 c = own_v2_144 c from if_pos (own_lt 8592 rfl (by omega))).trans ((show own_v2_144 c = own_v2_160 c from if_pos (own_lt 12272 rfl (by omega))).trans ((show own_v2_160 c = own_v2_174 c from if_pos (own_lt 55296 rfl (by omega))).trans ((show own_v2_174 c = own_v2_188 c from if_pos (own_lt 64976 rfl (by omega))).trans ((show own_v2_188 c = own_v2_194 c from if_neg (own_neq 65534 rfl (by omega))).trans ((show own_v2_194 c = own_v2_202 c from if_neg (own_neq 65535 rfl (by omega))).trans rfl))))))))))))))))))
  rw [e1, e2]
theorem own_reg_16 (c : Int32) (h1 : 8192 ≤ c.toInt) (h2 : c.toInt ≤ 8203) : own_v1_0 c = own_v2_0 c := by
  have e1 : own_v1_0 c = 0 := ((show own_v1_0 c = own_v1_6 c from if_neg (own_nlt 97 rfl (by omega))).trans ((show own_v1_6 c = own_v1_12 c from if_pos (own_gt 122 rfl (by omega))).trans ((show own_v1_12 c = own_v1_18 c from if_neg (own_nlt 65 rfl (by omega))).trans ((show own_v1_18 c = own_v1_24 c from if_pos (own_gt 90 rfl (by omega))).trans ((show own_v1_24 c = own_v1_30 c from if_neg (own_neq 95 rfl (by omega))).trans ((show own_v1_30 c = own_v1_37 c from if_neg (own_nlt 192 rfl (by omega))).trans ((show own_v1_37 c = own_v1_44 c from if_pos (own_gt 214 rfl (by omega))).trans ((show own_v1_44 c = own_v1_51 c from if_neg (own_nlt 216 rfl (by omega))).trans ((show own_v1_51 c = own_v1_58 c from if_pos (own_gt 246 rfl (by omega))).trans ((show own_v1_58 c = own_v1_65 c from if_neg (own_nlt 248 rfl (by omega))).trans ((show own_v1_65 c = own_v1_72 c from if_pos (own_gt 767 rfl (by omega))).trans ((show own_v1_72 c = own_v1_79 c from if_neg (own_nlt 880 rfl (by omega))).trans ((show own_v1_79 c = own_v1_86 c from if_pos (own_gt 893 rfl (by omega))).trans ((show own_v1_86 c = own_v1_93 c from if_neg (own_nlt 895 rfl (by omega))).trans ((show own_v1_93 c = own_v1_100 c from if_pos (own_gt 8191 rfl (by omega))).trans ((show own_v1_100 c = own_v1_114 c from if_pos (own_lt 8204 rfl (by omega))).trans ((show own_v1_114 c = own_v1_128 c from if_pos (own_lt 8304 rfl (by omega))).trans ((show own_v1_128 c = own_v1_142 c from if_pos (own_lt 11264 rfl (by omega))).trans ((show own_v1_142 c = own_v1_155 c from if_pos (own_lt 12289 rfl (by omega))).trans ((show own_v1_155 c = own_v1_167 c from if_pos (own_lt 63744 rfl (by omega))).trans ((show own_v1_167 c = own_v1_179 c from if_pos (own_lt 65008 rfl (by omega))).trans ((show own_v1_179 c = own_v1_195 c from if_pos (own_lt 65536 rfl (by omega))).trans rfl))))))))))))))))))))))
  have e2 : own_v2_0 c = 0 := ((show own_v2_0 c = own_v2_6 c from if_neg (own_nlt 65 rfl (by omega))).trans ((show own_v2_6 c = own_v2_14 c from if_neg (own_ngt 983039 rfl (by omega))).trans ((show own_v2_14 c = own_v2_20 c from if_pos (own_gt 90 rfl (by omega))).trans ((show own_v2_20 c = own_v2_38 c from if_neg (own_nlt 97 rfl (by omega))).trans ((show own_v2_38 c = own_v2_44 c from if_pos (own_gt 122 rfl (by omega))).trans ((show own_v2_44 c = own_v2_53 c from if_neg (own_nlt 192 rfl (by omega))).trans ((show own_v2_53 c = own_v2_60 c from if_neg (own_neq 215 rfl (by omega))).trans ((show own_v2_60 c = own_v2_69 c from if_neg (own_neq 247 rfl (by omega))).trans ((show own_v2_69 c = own_v2_76 c from if_neg (own_nlt 768 rfl (by omega))).trans ((show own_v2_76 c = own_v2_85 c from if_pos (own_gt 879 rfl (by omega))).trans ((show own_v2_85 c = own_v2_94 c from if_neg (own_neq 894 rfl (by omega))).trans ((show own_v2_94 c = own_v2_101 c from if_neg (own_nlt 8192 rfl (by omega))).trans ((show own_v2_101 c = own_v2_108 c from if_neg (own_ngt 8303 rfl (by omega))).trans ((show own_v2_108 c = own_v2_115 c from if_neg (own_neq 8204 rfl (by omega))).trans ((show own_v2_115 c = own_v2_126 c from if_neg (own_neq 8205 rfl (by omega))).trans rfl)))))))))))))))
  rw [e1, e2]
theorem own_reg_17 (c : Int32) (h1 : 8204 ≤ c.toInt) (h2 : c.toInt ≤ 8204) : own_v1_0 c = own_v2_0 c := by
  have e1 : own_v1_0 c = 1 := ((show own_v1_0 c = own_v1_6 c from if_neg (own_nlt 97 rfl (by omega))).trans ((show own_v1_6 c = own_v1_12 c from if_pos (own_gt 122 rfl (by omega))).trans ((show own_v1_12 c = own_v1_18 c from if_neg (own_nlt 65 rfl (by omega))).trans ((show own_v1_18 c = own_v1_24 c from if_pos (own_gt 90 rfl (by omega))).trans ((show own_v1_24 c = own_v1_30 c from if_neg (own_neq 95 rfl (by omega))).trans ((show own_v1_30 c = own_v1_37 c from if_neg (own_nlt 192 rfl (by omega))).trans ((show own_v1_37 c = own_v1_44 c from if_pos (own_gt 214 rfl (by omega))).trans ((show own_v1_44 c = own_v1_51 c from if_neg (own_nlt 216 rfl (by omega))).trans ((show own_v1_51 c = own_v1_58 c from if_pos (own_gt 246 rfl (by omega))).trans ((show own_v1_58 c = own_v1_65 c from if_neg (own_nlt 248 rfl (by omega))).trans ((show own_v1_65 c = own_v1_72 c from if_pos (own_gt 767 rfl (by omega))).trans ((show own_v1_72 c = own_v1_79 c from if_neg (own_nlt 880 rfl (by omega))).trans ((show own_v1_79 c = own_v1_86 c from if_pos (own_gt 893 rfl (by omega))).trans ((show own_v1_86 c = own_v1_93 c from if_neg (own_nlt 895 rfl (by omega))).trans ((show own_v1_93 c = own_v1_100 c from if_pos (own_gt 8191 rfl (by omega))).trans ((show own_v1_100 c = own_v1_107 c from if_neg (own_nlt 8204 rfl (by omega))).trans ((show own_v1_107 c = own_v1_191 c from if_neg (own_ngt 8205 rfl (by omega))).trans rfl)))))))))))))))))
  have e2 : own_v2_0 c = 1 := ((show own_v2_0 c = own_v2_6 c from if_neg (own_nlt 65 rfl (by omega))).trans ((show own_v2_6 c = own_v2_14 c from if_neg (own_ngt 983039 rfl (by omega))).trans ((show own_v2_14 c = own_v2_20 c from if_pos (own_gt 90 rfl (by omega))).trans ((show own_v2_20 c = own_v2_38 c from if_neg (own_nlt 97 rfl (by omega))).trans ((show own_v2_38 c = own_v2_44 c from if_pos (own_gt 122 rfl (by omega))).trans ((show own_v2_44 c = own_v2_53 c from if_neg (own_nlt 192 rfl (by omega))).trans ((show own_v2_53 c = own_v2_60 c from if_neg (own_neq 215 rfl (by omega))).trans ((show own_v2_60 c = own_v2_69 c from if_neg (own_neq 247 rfl (by omega))).trans ((show own_v2_69 c = own_v2_76 c from if_neg (own_nlt 768 rfl (by omega))).trans ((show own_v2_76 c = own_v2_85 c from if_pos (own_gt 879 rfl (by omega))).trans ((show own_v2_85 c = own_v2_94 c from if_neg (own_neq 894 rfl (by omega))).trans ((show own_v2_94 c = own_v2_101 c from if_neg (own_nlt 8192 rfl (by omega))).trans ((show own_v2_101 c = own_v2_108 c from if_neg (own_ngt 8303 rfl (by omega))).trans ((show own_v2_108 c = own_v2_122 c from if_pos (own_eq 8204 rfl (by omega))).trans rfl))))))))))))))
  rw [e1, e2]
theorem own_reg_18 (c : Int32) (h1 : 8205 ≤ c.toInt) (h2 : c.toInt ≤ 8205) : own_v1_0 c = own_v2_0 c := by
  have e1 : own_v1_0 c = 1 := ((show own_v1_0 c = own_v1_6 c from if_neg (own_nlt 97 rfl (by omega))).trans ((show own_v1_6 c = own_v1_12 c from if_pos (own_gt 122 rfl (by omega))).trans ((show own_v1_12 c = own_v1_18 c from if_neg (own_nlt 65 rfl (by omega))).trans ((show own_v1_18 c = own_v1_24 c from if_pos (own_gt 90 rfl (by omega))).trans ((show own_v1_24 c = own_v1_30 c from if_neg (own_neq 95 rfl (by omega))).trans ((show own_v1_30 c = own_v1_37 c from if_neg (own_nlt 192 rfl (by omega))).trans ((show own_v1_37 c = own_v1_44 c from if_pos (own_gt 214 rfl (by omega))).trans ((show own_v1_44 c = own_v1_51 c from if_neg (own_nlt 216 rfl (by omega))).trans ((show own_v1_51 c = own_v1_58 c from if_pos (own_gt 246 rfl (by omega))).trans ((show own_v1_58 c = own_v1_65 c from if_neg (own_nlt 248 rfl (by omega))).trans ((show own_v1_65 c = own_v1_72 c from if_pos (own_gt 767 rfl (by omega))).trans ((show own_v1_72 c = own_v1_79 c from if_neg (own_nlt 880 rfl (by omega))).trans ((show own_v1_79 c = own_v1_86 c from if_pos (own_gt 893 rfl (by omega))).trans ((show own_v1_86 c = own_v1_93 c from if_neg (own_nlt 895 rfl (by omega))).trans ((show own_v1_93 c = own_v1_100 c from if_pos (own_gt 8191 rfl (by omega))).trans ((show own_v1_100 c = own_v1_107 c from if_neg (own_nlt 8204 rfl (by omega))).trans ((show own_v1_107 c = own_v1_191 c from if_neg (own_ngt 8205 rfl (by omega))).trans rfl)))))))))))))))))
  have e2 : own_v2_0 c = 1 := ((show own_v2_0 c = own_v2_6 c from if_neg (own_nlt 65 rfl (by omega))).trans ((show own_v2_6 c = own_v2_14 c from if_neg (own_ngt 983039 rfl (by omega))).trans ((show own_v2_14 c = own_v2_20 c from if_pos (own_gt 90 rfl (by omega))).trans ((show own_v2_20 c = own_v2_38 c from if_neg (own_nlt 97 rfl (by omega))).trans ((show own_v2_38 c = own_v2_44 c from if_pos (own_gt 122 rfl (by omega))).trans ((show own_v2_44 c = own_v2_53 c from if_neg (own_nlt 192 rfl (by omega))).trans ((show own_v2_53 c = own_v2_60 c from if_neg (own_neq 215 rfl (by omega))).trans ((show own_v2_60 c = own_v2_69 c from if_neg (own_neq 247 rfl (by omega))).trans ((show own_v2_69 c = own_v2_76 c from if_neg (own_nlt 768 rfl (by omega))).trans ((show own_v2_76 c = own_v2_85 c from if_pos (own_gt 879 rfl (by omega))).trans ((show own_v2_85 c = own_v2_94 c from if_neg (own_neq 894 rfl (by omega))).trans ((show own_v2_94 c = own_v2_101 c from if_neg (own_nlt 8192 rfl (by omega))).trans ((show own_v2_101 c = own_v2_108 c from if_neg (own_ngt 8303 rfl (by omega))).trans ((show own_v2_108 c = own_v2_115 c from if_neg (own_neq 8204 rfl (by omega))).trans ((show own_v2_115 c = own_v2_122 c from if_pos (own_eq 8205 rfl (by omega))).trans rfl)))))))))))))))
  rw [e1, e2]
theorem own_reg_19 (c : Int32) (h1 : 8206 ≤ c.toInt) (h2 : c.toInt ≤ 8303) : own_v1_0 c = own_v2_0 c := by
  have e1 : own_v1_0 c = 0 := ((show own_v1_0 c = own_v1_6 c from if_neg (own_nlt 97 rfl (by omega))).trans ((show own_v1_6 c = own_v1_12 c from if_pos (own_gt 122 rfl (by omega))).trans ((show own_v1_12 c = own_v1_18 c from if_neg (own_nlt 65 rfl (by omega))).trans ((show own_v1_18 c = own_v1_24 c from if_pos (own_gt 90 rfl (by omega))).trans ((show own_v1_24 c = own_v1_30 c from if_neg (own_neq 95 rfl (by omega))).trans ((show own_v1_30 c = own_v1_37 c from if_neg (own_nlt 192 rfl (by omega))).trans ((show own_v1_37 c = own_v1_44 c from if_pos (own_gt 214 rfl (by omega))).trans ((show own_v1_44 c = own_v1_51 c from if_neg (own_nlt 216 rfl (by omega))).trans ((show own_v1_51 c = own_v1_58 c from if_pos (own_gt 246 rfl (by omega))).trans ((show own_v1_58 c = own_v1_65 c from if_neg (own_nlt 248 rfl (by omega))).trans ((show own_v1_65 c = own_v1_72 c from if_pos (own_gt 767 rfl (by omega))).trans ((show own_v1_72 c = own_v1_79 c from if_neg (own_nlt 880 rfl (by omega))).trans ((show own_v1_79 c = own_v1_86 c from if_pos (own_gt 893 rfl (by omega))).trans ((show own_v1_86 c = own_v1_93 c from if_neg (own_nlt 895 rfl (by omega))).trans ((show own_v1_93 c = own_v1_100 c from if_pos (own_gt 8191 rfl (by omega))).trans ((show own_v1_100 c = own_v1_107 c from if_neg (own_nlt 8204 rfl (by omega))).trans ((show own_v1_107 c = own_v1_114 c from if_pos (own_gt 8205 rfl (by omega))).trans ((show own_v1_114 c = own_v1_128 c from if_pos (own_lt 8304 rfl (by omega))).trans ((show own_v1_128 c = own_v1_142 c from if_pos (own_lt 11264 rfl (by omega))).trans ((show own_v1_142 c = own_v1_155 c from if_pos (own_lt 12289 rfl (by omega))).trans ((show own_v1_155 c = own_v1_167 c from if_pos (own_lt 63744 rfl (by omega))).trans ((show own_v1_167 c = own_v1_179 c from if_pos (own_lt 65008 rfl (by omega))).trans ((show own_v1_179 c = own_v1_195 c from if_pos (own_lt 65536 rfl (by omega))).trans rfl)))))))))))))))))))))))
  have e2 : own_v2_0 c = 0 := ((show own_v2_0 c = own_v2_6 c from if_neg (own_nlt 65 rfl (by omega))).trans ((show own_v2_6 c = own_v2_14 c from if_neg (own_ngt 983039 rfl (by omega))).trans ((show own_v2_14 c = own_v2_20 c from if_pos (own_gt 90 rfl (by omega))).trans ((show own_v2_20 c = own_v2_38 c from if_neg (own_nlt 97 rfl (by omega))).trans ((show own_v2_38 c = own_v2_44 c from if_pos (own_gt 122 rfl (by omega))).trans ((show own_v2_44 c = own_v2_53 c from if_neg (own_nlt 192 rfl (by omega))).trans ((show own_v2_53 c = own_v2_60 c from if_neg (own_neq 215 rfl (by omega))).trans ((show own_v2_60 c = own_v2_69 c from if_neg (own_neq 247 rfl (by omega))).trans ((show own_v2_69 c = own_v2_76 c from if_neg (own_nlt 768 rfl (by omega))).trans ((show own_v2_76 c = own_v2_85 c from if_pos (own_gt 879 rfl (by omega))).trans ((show own_v2_85 c = own_v2_94 c from if_neg (own_neq 894 rfl (by omega))).trans ((show own_v2_94 c = own_v2_101 c from if_neg (own_nlt 8192 rfl (by omega))).trans ((show own_v2_101 c = own_v2_108 c from if_neg (own_ngt 8303 rfl (by omega))).trans ((show own_v2_108 c = own_v2_115 c from if_neg (own_neq 8204 rfl (by omega))).trans ((show own_v2_115 c = own_v2_126 c from if_neg (own_neq 8205 rfl (by omega))).trans rfl)))))))))))))))
  rw [e1, e2]
theorem own_reg_20 (c : Int32) (h1 : 8304 ≤ c.toInt) (h2 : c.toInt ≤ 8591) : own_v1_0 c = own_v2_0 c := by
  have e1 : own_v1_0 c = 1 := ((show own_v1_0 c = own_v1_6 c from if_neg (own_nlt 97 rfl (by omega))).trans ((show own_v1_6 c = own_v1_12 c from if_pos (own_gt 122 rfl (by omega))).trans ((show own_v1_12 c = own_v1_18 c from if_neg (own_nlt 65 rfl (by omega))).trans ((show own_v1_18 c = own_v1_24 c from if_pos (own_gt 90 rfl (by omega))).trans ((show own_v1_24 c = own_v1_30 c from if_neg (own_neq 95 rfl (by omega))).trans ((show own_v1_30 c = own_v1_37 c from if_neg (own_nlt 192 rfl (by omega))).trans ((show own_v1_37 c = own_v1_44 c from if_pos (own_gt 214 rfl (by omega))).trans ((show own_v1_44 c = own_v1_51 c from if_neg (own_nlt 216 rfl (by omega))).trans ((show own_v1_51 c = own_v1_58 c from if_pos (own_gt 246 rfl (by omega))).trans ((show own_v1_58 c = own_v1_65 c from if_neg (own_nlt 248 rfl (by omega))).trans ((show own_v1_65 c = own_v1_72 c from if_pos (own_gt 767 rfl (by omega))).trans ((show own_v1_72 c = own_v1_79 c from if_neg (own_nlt 880 rfl (by omega))).trans ((show own_v1_79 c = own_v1_86 c from if_pos (own_gt 893 rfl (by omega))).trans ((show own_v1_86 c = own_v1_93 c from if_neg (own_nlt 895 rfl (by omega))).trans ((show own_v1_93 c = own_v1_100 c from if_pos (own_gt 8191 rfl (by omega))).trans ((show own_v1_100 c = own_v1_107 c from if_neg (own_nlt 8204 rfl (by omega))).trans ((show own_v1_107 c = own_v1_114 c from if_pos (own_gt 8205 rfl (by omega))).trans ((show own_v1_114 c = own_v1_121 c from if_neg (own_nlt 8304 rfl (by omega))).trans ((show own_v1_121 c = own_v1_191 c from if_neg (own_ngt 8591 rfl (by omega))).trans rfl)))))))))))))))))))
  have e2 : own_v2_0 c = 1 := ((show own_v2_0 c = own_v2_6 c from if_neg (own_nlt 65 rfl (by omega))).trans ((show own_v2_6 c = own_v2_14 c from if_neg (own_ngt 983039 rfl (by omega))).trans ((show own_v2_14 c = own_v2_20 c from if_pos (own_gt 90 rfl (by omega))).trans ((show own_v2_20 c = own_v2_38 c from if_neg (own_nlt 97 rfl (by omega))).trans ((show own_v2_38 c = own_v2_44 c from if_pos (own_gt 122 rfl (by omega))).trans ((show own_v2_44 c = own_v2_53 c from if_neg (own_nlt 192 rfl (by omega))).trans ((show own_v2_53 c = own_v2_60 c from if_neg (own_neq 215 rfl (by omega))).trans ((show own_v2_60 c = own_v2_69 c from if_neg (own_neq 247 rfl (by omega))).trans ((show own_v2_69 c = own_v2_76 c from if_neg (own_nlt 768 rfl (by omega))).trans ((show own_v2_76 c = own_v2_85 c from if_pos (own_gt 879 rfl (by omega))).trans ((show own_v2_85 c = own_v2_94 c from if_neg (own_neq 894 rfl (by omega))).trans ((show own_v2_94 c = own_v2_101 c from if_neg (own_nlt 8192 rfl (by omega))).trans ((show own_v2_101 c = own_v2_128 c from if_pos (own_gt 8303 rfl (by omega))).trans ((show own_v2_128 c = own_v2_144 c from if_pos (own_lt 8592 rfl (by omega))).trans ((show own_v2_144 c = own_v2_160 c from if_pos (own_lt 12272 rfl (by omega))).trans ((show own_v2_160 c = own_v2_174 c from if_pos (own_lt 55296 rfl (by omega))).trans ((show own_v2_174 c = own_v2_188 c from if_pos (own_lt 64976 rfl (by omega))).trans ((show own_v2_188 c = own_v2_194 c from if_neg (own_neq 65534 rfl (by omega))).trans ((show own_v2_194 c = own_v2_202 c from if_neg (own_neq 65535 rfl (by omega))).trans rfl)))))))))))))))))))
  rw [e1, e2]
theorem own_reg_21 (c : Int32) (h1 : 8592 ≤ c.toInt) (h2 : c.toInt ≤ 11263) : own_v1_0 c = own_v2_0 c := by
  have e1 : own_v1_0 c = 0 := ((show own_v1_0 c = own_v1_6 c from if_neg (own_nlt 97 rfl (by omega))).trans ((show own_v1_6 c = own_v1_12 c from if_pos (own_gt 122 rfl (by omega))).trans ((show own_v1_12 c = own_v1_18 c from if_neg (own_nlt 65 rfl (by omega))).trans ((show own_v1_18 c = own_v1_24 c from if_pos (own_gt 90 rfl (by omega))).trans ((show own_v1_24 c = own_v1_30 c from if_neg (own_neq 95 rfl (by omega))).trans ((show own_v1_30 c = own_v1_37 c from if_neg (own_nlt 192 rfl (by omega))).trans ((show own_v1_37 c = own_v1_44 c from if_pos (own_gt 214 rfl (by omega))).trans ((show own_v1_44 c = own_v1_51 c from if_neg (own_nlt 216 rfl (by omega))).trans ((show own_v1_51 c = own_v1_58 c from if_pos (own_gt 246 rfl (by omega))).trans ((show own_v1_58 c = own_v1_65 c from if_neg (own_nlt 248 rfl (by omega))).trans ((show own_v1_65 c = own_v1_72 c from if_pos (own_gt 767 rfl (by omega))).trans ((show own_v1_72 c = own_v1_79 c from if_neg (own_nlt 880 rfl (by omega))).trans ((show own_v1_79 c = own_v1_86 c from if_pos (own_gt 893 rfl (by omega))).trans ((show own_v1_86 c = own_v1_93 c from if_neg (own_nlt 895 rfl (by omega))).trans ((show own_v1_93 c = own_v1_100 c from if_pos (own_gt 8191 rfl (by omega))).trans ((show own_v1_100 c = own_v1_107 c from if_neg (own_nlt 8204 rfl (by omega))).trans ((show own_v1_107 c = own_v1_114 c from if_pos (own_gt 8205 rfl (by omega))).trans ((show own_v1_114 c = own_v1_121 c from if_neg (own_nlt 8304 rfl (by omega))).trans ((show own_v1_121 c = own_v1_128 c from if_pos (own_gt 8591 rfl (by omega))).trans ((show own_v1_128 c = own_v1_142 c from if_pos (own_lt 11264 rfl (by omega))).trans ((show own_v1_142 c = own_v1_155 c from if_pos (own_lt 12289 rfl (by omega))).trans ((show own_v1_155 c = own_v1_167 c from if_pos (own_lt 63744 rfl (by omega))).trans ((show own_v1_167 c = own_v1_179 c from if_pos (own_lt 65008 rfl (by omega))).trans ((show own_v1_179 c = own_v1_195 c from if_pos (own_lt 65536 rfl (by omega))).trans rfl))))))))))))))))))))))))
  have e2 : own_v2_0 c = 0 := ((show own_v2_0 c = own_v2_6 c from if_neg (own_nlt 65 rfl (by omega))).trans ((show own_v2_6 c = own_v2_14 c from if_neg (own_ngt 983039 rfl (by omega))).trans ((show own_v2_14 c = own_v2_20 c from if_pos (own_gt 90 rfl (by omega))).trans ((show own_v2_20 c = own_v2_38 c from if_neg (own_nlt 97 rfl (by omega))).trans ((show own_v2_38 c = own_v2_44 c from if_pos (own_gt 122 rfl (by omega))).trans ((show own_v2_44 c = own_v2_53 c from if_neg (own_nlt 192 rfl (by omega))).trans ((show own_v2_53 c = own_v2_60 c from if_neg (own_neq 215 rfl (by omega))).trans ((show own_v2_60 c = own_v2_69 c from if_neg (own_neq 247 rfl (by omega))).trans ((show own_v2_69 c = own_v2_76 c from if_neg (own_nlt 768 rfl (by omega))).trans ((show own_v2_76 c = own_v2_85 c from if_pos (own_gt 879 rfl (by omega))).trans ((show own_v2_85 c = own_v2_94 c from if_neg (own_neq 894 rfl (by omega))).trans ((show own_v2_94 c = own_v2_101 c from if_neg (own_nlt 8192 rfl (by omega))).trans ((show own_v2_101 c = own_v2_128 c from if_pos (own_gt 8303 rfl (by omega))).trans ((show own_v2_128 c = own_v2_135 c from if_neg (own_nlt 8592 rfl (by omega))).trans ((show own_v2_135 c = own_v2_142 c from if_neg (own_ngt 11263 rfl (by omega))).trans rfl)))))))))))))))
  rw [e1, e2]
theorem own_reg_22 (c : Int32) (h1 : 11264 ≤ c.toInt) (h2 : c.toInt ≤ 12271) : own_v1_0 c = own_v2_0 c := by
  have e1 : own_v1_0 c = 1 := ((show own_v1_0 c = own_v1_6 c from if_neg (own_nlt 97 rfl (by omega))).trans ((show own_v1_6 c = own_v1_12 c from if_pos (own_gt 122 rfl (by omega))).trans ((show own_v1_12 c = own_v1_18 c from if_neg (own_nlt 65 rfl (by omega))).trans ((show own_v1_18 c = own_v1_24 c from if_pos (own_gt 90 rfl (by omega))).trans ((show own_v1_24 c = own_v1_30 c from if_neg (own_neq 95 rfl (by omega))).trans ((show own_v1_30 c = own_v1_37 c from if_neg (own_nlt 192 rfl (by omega))).trans ((show own_v1_37 c = own_v1_44 c from if_pos (own_gt 214 rfl (by omega))).trans ((show own_v1_44 c = own_v1_51 c from if_neg (own_nlt 216 rfl (by omega))).trans ((show own_v1_51 c = own_v1_58 c from if_pos (own_gt 246 rfl (by omega))).trans ((show own_v1_58 c = own_v1_65 c from if_neg (own_nlt 248 rfl (by omega))).trans ((show own_v1_65 c = own_v1_72 c from if_pos (own_gt 767 rfl (by omega))).trans ((show own_v1_72 c = own_v1_79 c from if_neg (own_nlt 880 rfl (by omega))).trans ((show own_v1_79 c = own_v1_86 c from if_pos (own_gt 893 rfl (by omega))).trans ((show own_v1_86 c = own_v1_93 c from if_neg (own_nlt 895 rfl (by omega))).trans ((show own_v1_93 c = own_v1_100 c from if_pos (own_gt 8191 rfl (by omega))).trans ((show own_v1_100 c = own_v1_107 c from if_neg (own_nlt 8204 rfl (by omega))).trans ((show own_v1_107 c = own_v1_114 c from if_pos (own_gt 8205 rfl (by omega))).trans ((show own_v1_114 c = own_v1_121 c from if_neg (own_nlt 8304 rfl (by omega))).trans ((show own_v1_121 c = own_v1_128 c from if_pos (own_gt 8591 rfl (by omega))).trans ((show own_v1_128 c = own_v1_135 c from if_neg (own_nlt 11264 rfl (by omega))).trans ((show own_v1_135 c = own_v1_191 c from if_neg (own_ngt 12271 rfl (by omega))).trans rfl)))))))))))))))))))))
  have e2 : own_v2_0 c = 1 := ((show own_v2_0 c = own_v2_6 c from if_neg (own_nlt 65 rfl (by omega))).trans ((show own_v2_6 c = own_v2_14 c from if_neg (own_ngt 983039 rfl (by omega))).trans ((show own_v2_14 c = own_v2_20 c from if_pos (own_gt 90 rfl (by omega))).trans ((show own_v2_20 c = own_v2_38 c from if_neg (own_nlt 97 rfl (by omega))).trans ((show own_v2_38 c = own_v2_44 c from if_pos (own_gt 122 rfl (by omega))).trans ((show own_v2_44 c = own_v2_53 c from if_neg (own_nlt 192 rfl (by omega))).trans ((show own_v2_53 c = own_v2_60 c from if_neg (own_neq 215 rfl (by omega))).trans ((show own_v2_60 c = own_v2_69 c from if_neg (own_neq 247 rfl (by omega))).trans ((show own_v2_69 c = own_v2_76 c from if_neg (own_nlt 768 rfl (by omega))).trans ((show own_v2_76 c = own_v2_85 c from if_pos (own_gt 879 rfl (by omega))).trans ((show own_v2_85 c = own_v2_94 c from if_neg (own_neq 894 rfl (by omega))).trans ((show own_v2_94 c = own_v2_101 c from if_neg (own_nlt 8192 rfl (by omega))).trans ((show own_v2_101 c = own_v2_128 c from if_pos (own_gt 8303 rfl (by omega))).trans ((show own_v2_128 c = own_v2_135 c from if_neg (own_nlt 8592 rfl (by omega))).trans ((show own_v2_135 c = own_v2_144 c from if_pos (own_gt 11263 rfl (by omega))).trans ((show own_v2_144 c = own_v2_160 c from if_pos (own_lt 12272 rfl (by omega))).trans ((show own_v2_160 c = own_v2_174 c from if_pos (own_lt 55296 rfl (by omega))).trans ((show own_v2_174 c = own_v2_188 c from if_pos (own_lt 64976 rfl (by omega))).trans ((show own_v2_188 c = own_v2_194 c from if_neg (own_neq 65534 rfl (by omega))).trans ((show own_v2_194 c = own_v2_202 c from if_neg (own_neq 65535 rfl (by omega))).trans rfl))))))))))))))))))))
  rw [e1, e2]
theorem own_reg_23 (c : Int32) (h1 : 12272 ≤ c.toInt) (h2 : c.toInt ≤ 12288) : own_v1_0 c = own_v2_0 c := by
  have e1 : own_v1_0 c = 0 := ((show own_v1_0 c = own_v1_6 c from if_neg (own_nlt 97 rfl (by omega))).trans ((show own_v1_6 c = own_v1_12 c from if_pos (own_gt 122 rfl (by omega))).trans ((show own_v1_12 c = own_v1_18 c from if_neg (own_nlt 65 rfl (by omega))).trans ((show own_v1_18 c = own_v1_24 c from if_pos (own_gt 90 rfl (by omega))).trans ((show own_v1_24 c = own_v1_30 c from if_neg (own_neq 95 rfl (by omega))).trans ((show own_v1_30 c = own_v1_37 c from if_neg (own_nlt 192 rfl (by omega))).trans ((show own_v1_37 c = own_v1_44 c from if_pos (own_gt 214 rfl (by omega))).trans ((show own_v1_44 c = own_v1_51 c from if_neg (own_nlt 216 rfl (by omega))).trans ((show own_v1_51 c = own_v1_58 c from if_pos (own_gt 246 rfl (by omega))).trans ((show own_v1_58 c = own_v1_65 c from if_neg (own_nlt 248 rfl (by omega))).trans ((show own_v1_65 c = own_v1_72 c from if_pos (own_gt 767 rfl (by omega))).trans ((show own_v1_72 c = own_v1_79 c from if_neg (own_nlt 880 rfl (by omega))).trans ((show own_v1_79 c = own_v1_86 c from if_pos (own_gt 893 rfl (by omega))).trans ((show own_v1_86 c = own_v1_93 c from if_neg (own_nlt 895 rfl (by omega))).trans ((show own_v1_93 c = own_v1_100 c from if_pos (own_gt 8191 rfl (by omega))).trans ((show own_v1_100 c = own_v1_107 c from if_neg (own_nlt 8204 rfl (by omega))).trans ((show own_v1_107 c = own_v1_114 c from if_pos (own_gt 8205 rfl (by omega))).trans ((show own_v1_114 c = own_v1_121 c from if_neg (own_nlt 8304 rfl (by omega))).trans ((show own_v1_121 c = own_v1_128 c from if_pos (own_gt 8591 rfl (by omega))).trans ((show own_v1_128 c = own_v1_135 c from if_neg (own_nlt 11264 rfl (by omega))).trans ((show own_v1_135 c = own_v1_142 c from if_pos (own_gt 12271 rfl (by omega))).trans ((show own_v1_142 c = own_v1_155 c from if_pos (own_lt 12289 rfl (by omega))).trans ((show own_v1_155 c = own_v1_167 c from if_pos (own_lt 63744 rfl (by omega))).trans ((show own_v1_167 c = own_v1_179 c from if_pos (own_lt 65008 rfl (by omega))).trans ((show own_v1_179 c = own_v1_195 c from if_pos (own_lt 65536 rfl (by omega))).trans rfl)))))))))))))))))))))))))
  have e2 : own_v2_0 c = 0 := ((show own_v2_0 c = own_v2_6 c from if_neg (own_nlt 65 rfl (by omega))).trans ((show own_v2_6 c = own_v2_14 c from if_neg (own_ngt 983039 rfl (by omega))).trans ((show own_v2_14 c = own_v2_20 c from if_pos (own_gt 90 rfl (by omega))).trans ((show own_v2_20 c = own_v2_38 c from if_neg (own_nlt 97 rfl (by omega))).trans ((show own_v2_38 c = own_v2_44 c from if_pos (own_gt 122 rfl (by omega))).trans ((show own_v2_44 c = own_v2_53 c from if_neg (own_nlt 192 rfl (by omega))).trans ((show own_v2_53 c = own_v2_60 c from if_neg (own_neq 215 rfl (by omega))).trans ((show own_v2_60 c = own_v2_69 c from if_neg (own_neq 247 rfl (by omega))).trans ((show own_v2_69 c = own_v2_76 c from if_neg (own_nlt 768 rfl (by omega))).trans ((show own_v2_76 c = own_v2_85 c from if_pos (own_gt 879 rfl (by omega))).trans ((show own_v2_85 c = own_v2_94 c from if_neg (own_neq 894 rfl (by omega))).trans ((show own_v2_94 c = own_v2_101 c from if_neg (own_nlt 8192 rfl (by omega))).trans ((show own_v2_101 c = own_v2_128 c from if_pos (own_gt 8303 rfl (by omega))).trans ((show own_v2_128 c = own_v2_135 c from if_neg (own_nlt 8592 rfl (by omega))).trans ((show own_v2_135 c = own_v2_144 c from if_pos (own_gt 11263 rfl (by omega))).trans ((show own_v2_144 c = own_v2_151 c from if_neg (own_nlt 12272 rfl (by omega))).trans ((show own_v2_151 c = own_v2_158 c from if_neg (own_ngt 12288 rfl (by omega))).trans rfl)))))))))))))))))
  rw [e1, e2]
theorem own_reg_24 (c : Int32) (h1 : 12289 ≤ c.toInt) (h2 : c.toInt ≤ 55295) : own_v1_0 c = own_v2_0 c := by
  have e1 : own_v1_0 c = 1 := ((show own_v1_0 c = own_v1_6 c from if_neg (own_nlt 97 rfl (by omega))).trans ((show own_v1_6 c = own_v1_12 c from if_pos (own_gt 122 rfl (by omega))).trans ((show own_v1_12 c = own_v1_18 c from if_neg (own_nlt 65 rfl (by omega))).trans ((show own_v1_18 c = own_v1_24 c from if_pos (own_gt 90 rfl (by omega))).trans ((show own_v1_24 c = own_v1_30 c from if_neg (own_neq 95 rfl (by omega))).trans ((show own_v1_30 c = own_v1_37 c from if_neg (own_nlt 192 rfl (by omega))).trans ((show own_v1_37 c = own_v1_44 c from if_pos (own_gt 214 rfl (by omega))).trans ((show own_v1_44 c = own_v1_51 c from if_neg (own_nlt 216 rfl (by omega))).trans ((show own_v1_51 c = own_v1_58 c from if_pos (own_gt 246 rfl (by omega))).trans ((show own_v1_58 c = own_v1_65 c from if_neg (own_nlt 248 rfl (by omega))).trans ((show own_v1_65 c = own_v1_72 c from if_pos (own_gt 767 rfl (by omega))).trans ((show own_v1_72 c = own_v1_79 c from if_neg (own_nlt 880 rfl (by omega))).trans ((show own_v1_79 c = own_v1_86 c from if_pos (own_gt 893 rfl (by omega))).trans ((show own_v1_86 c = own_v1_93 c from if_neg (own_nlt 895 rfl (by omega))).trans ((show own_v1_93 c = own_v1_100 c from if_pos (own_gt 8191 rfl (by omega))).trans ((show own_v1_100 c = own_v1_107 c from if_neg (own_nlt 8204 rfl (by omega))).trans ((show own_v1_107 c = own_v1_114 c from if_pos (own_gt 8205 rfl (by omega))).trans ((show own_v1_114 c = own_v1_121 c from if_neg (own_nlt 8304 rfl (by omega))).trans ((show own_v1_121 c = own_v1_128 c from if_pos (own_gt 8591 rfl (by omega))).trans ((show own_v1_128 c = own_v1_135 c from if_neg (own_nlt 11264 rfl (by omega))).trans ((show own_v1_135 c = own_v1_142 c from if_pos (own_gt 12271 rfl (by omega))).trans ((show own_v1_142 c = own_v1_149 c from if_neg (own_nlt 12289 rfl (by omega))).trans ((show own_v1_149 c = own_v1_191 c from if_neg (own_ngt 55295 rfl (by omega))).trans rfl)))))))))))))))))))))))
  have e2 : own_v2_0 c = 1 := ((show own_v2_0 c = own_v2_6 c from if_neg (own_nlt 65 rfl (by omega))).trans ((show own_v2_6 c = own_v2_14 c from if_neg (own_ngt 983039 rfl (by omega))).trans ((show own_v2_14 c = own_v2_20 c from if_pos (own_gt 90 rfl (by omega))).trans ((show own_v2_20 c = own_v2_38 c from if_neg (own_nlt 97 rfl (by omega))).trans ((show own_v2_38 c = own_v2_44 c from if_pos (own_gt 122 rfl (by omega))).trans ((show own_v2_44 c = own_v2_53 c from if_neg (own_nlt 192 rfl (by omega))).trans ((show own_v2_53 c = own_v2_60 c from if_neg (own_neq 215 rfl (by omega))).trans ((show own_v2_60 c = own_v2_69 c from if_neg (own_neq 247 rfl (by omega))).trans ((show own_v2_69 c = own_v2_76 c from if_neg (own_nlt 768 rfl (by omega))).trans ((show own_v2_76 c = own_v2_85 c from if_pos (own_gt 879 rfl (by omega))).trans ((show own_v2_85 c = own_v2_94 c from if_neg (own_neq 894 rfl (by omega))).trans ((show own_v2_94 c = own_v2_101 c from if_neg (own_nlt 8192 rfl (by omega))).trans ((show own_v2_101 c = own_v2_128 c from if_pos (own_gt 8303 rfl (by omega))).trans ((show own_v2_128 c = own_v2_135 c from if_neg (own_nlt 8592 rfl (by omega))).trans ((show own_v2_135 c = own_v2_144 c from if_pos (own_gt 11263 rfl (by omega))).trans ((show own_v2_144 c = own_v2_151 c from if_neg (own_nlt 12272 rfl (by omega))).trans ((show own_v2_151 c = own_v2_160 c from if_pos (own_gt 12288 rfl (by omega))).trans ((show own_v2_160 c = own_v2_174 c from if_pos (own_lt 55296 rfl (by omega))).trans ((show own_v2_174 c = own_v2_188 c from if_pos (own_lt 64976 rfl (by omega))).trans ((show own_v2_188 c = own_v2_194 c from if_neg (own_neq 65534 rfl (by omega))).trans ((show own_v2_194 c = own_v2_202 c from if_neg (own_neq 65535 rfl (by omega))).trans rfl)))))))))))))))))))))
  rw [e1, e2]
theorem own_reg_25 (c : Int32) (h1 : 55296 ≤ c.toInt) (h2 : c.toInt ≤ 63743) : own_v1_0 c = own_v2_0 c := by
  have e1 : own_v1_0 c = 0 := ((show own_v1_0 c = own_v1_6 c from if_neg (own_nlt 97 rfl (by omega))).trans ((show own_v1_6 c = own_v1_12 c from if_pos (own_gt 122 rfl (by omega))).trans ((show own_v1_12 c = own_v1_18 c from if_neg (own_nlt 65 rfl (by omega))).trans ((show own_v1_18 c = own_v1_24 c from if_pos (own_gt 90 rfl (by omega))).trans ((show own_v1_24 c = own_v1_30 c from if_neg (own_neq 95 rfl (by omega))).trans ((show own_v1_30 c = own_v1_37 c from if_neg (own_nlt 192 rfl (by omega))).trans ((show own_v1_37 c = own_v1_44 c from if_pos (own_gt 214 rfl (by omega))).trans ((show own_v1_44 c = own_v1_51 c from if_neg (own_nlt 216 rfl (by omega))).trans ((show own_v1_51 c = own_v1_58 c from if_pos (own_gt 246 rfl (by omega))).trans ((show own_v1_58 c = own_v1_65 c from if_neg (own_nlt 248 rfl (by omega))).trans ((show own_v1_65 c = own_v1_72 c from if_pos (own_gt 767 rfl (by omega))).trans ((show own_v1_72 c = own_v1_79 c from if_neg (own_nlt 880 rfl (by omega))).trans ((show own_v1_79 c = own_v1_86 c from if_pos (own_gt 893 rfl (by omega))).trans ((show own_v1_86 c = own_v1_93 c from if_neg (own_nlt 895 rfl (by omega))).trans ((show own_v1_93 c = own_v1_100 c from if_pos (own_gt 8191 rfl (by omega))).trans ((show own_v1_100 c = own_v1_107 c from if_neg (own_nlt 8204 rfl (by omega))).trans ((show own_v1_107 c = own_v1_114 c from if_pos (own_gt 8205 rfl (by omega))).trans ((show own_v1_114 c = own_v1_121 c from if_neg (own_nlt 8304 rfl (by omega))).trans ((show own_v1_121 c = own_v1_128 c from if_pos (own_gt 8591 rfl (by omega))).trans ((show own_v1_128 c = own_v1_135 c from if_neg (own_nlt 11264 rfl (by omega))).trans ((show own_v1_135 c = own_v1_142 c from if_pos (own_gt 12271 rfl (by omega))).trans ((show own_v1_142 c = own_v1_149 c from if_neg (own_nlt 12289 rfl (by omega))).trans ((show own_v1_149 c = own_v1_155 c from if_pos (own_gt 55295 rfl (by omega))).trans ((show own_v1_155 c = own_v1_167 c from if_pos (own_lt 63744 rfl (by omega))).trans ((show own_v1_167 c = own_v1_179 c from if_pos (own_lt 65008 rfl (by omega))).trans ((show own_v1_179 c = own_v1_195 c from if_pos (own_lt 65536 rfl (by omega))).trans rfl))))))))))))))))))))))))))
  have e2 : own_v2_0 c = 0 := ((show own_v2_0 c = own_v2_6 c from if_neg (own_nlt 65 rfl (by omega))).trans ((show own_v2_6 c = own_v2_14 c from if_neg (own_ngt 983039 rfl (by omega))).trans ((show own_v2_14 c = own_v2_20 c from if_pos (own_gt 90 rfl (by omega))).trans ((show own_v2_20 c = own_v2_38 c from if_neg (own_nlt 97 rfl (by omega))).trans ((show own_v2_38 c = own_v2_44 c from if_pos (own_gt 122 rfl (by omega))).trans ((show own_v2_44 c = own_v2_53 c from if_neg (own_nlt 192 rfl (by omega))).trans ((show own_v2_53 c = own_v2_60 c from if_neg (own_neq 215 rfl (by omega))).trans ((show own_v2_60 c = own_v2_69 c from if_neg (own_neq 247 rfl (by omega))).trans ((show own_v2_69 c = own_v2_76 c from if_neg (own_nlt 768 rfl (by omega))).trans ((show own_v2_76 c = own_v2_85 c from if_pos (own_gt 879 rfl (by omega))).trans ((show own_v2_85 c = own_v2_94 c from if_neg (own_neq 894 rfl (by omega))).trans ((show own_v2_94 c = own_v2_101 c from if_neg (own_nlt 8192 rfl (by omega))).trans ((show own_v2_101 c = own_v2_128 c from if_pos (own_gt 8303 rfl (by omega))).trans ((show own_v2_128 c = own_v2_135 c from if_neg (own_nlt 8592 rfl (by omega))).trans ((show own_v2_135 c = own_v2_144 c from if_pos (own_gt 11263 rfl (by omega))).trans ((show own_v2_144 c = own_v2_151 c from if_neg (own_nlt 12272 rfl (by omega))).trans ((show own_v2_151 c = own_v2_160 c from if_pos (own_gt 12288 rfl (by omega))).trans ((show own_v2_160 c = own_v2_166 c from if_neg (own_nlt 55296 rfl (by omega))).trans ((show own_v2_166 c = own_v2_172 c from if_neg (own_ngt 63743 rfl (by omega))).trans rfl)))))))))))))))))))
  rw [e1, e2]
theorem own_reg_26 (c : Int32) (h1 : 63744 ≤ c.toInt) (h2 : c.toInt ≤ 64975) : own_v1_0 c = own_v2_0 c := by
  have e1 : own_v1_0 c = 1 := ((show own_v1_0 c = own_v1_6 c from if_neg (own_nlt 97 rfl (by omega))).trans ((show own_v1_6 c = own_v1_12 c from if_pos (own_gt 122 rfl (by omega))).trans ((show own_v1_12 c = own_v1_18 c from if_neg (own_nlt 65 rfl (by omega))).trans ((show own_v1_18 c = own_v1_24 c from if_pos (own_gt 90 rfl (by omega))).trans ((show own_v1_24 c = own_v1_30 c from if_neg (own_neq 95 rfl (by omega))).trans ((show own_v1_30 c = own_v1_37 c from if_neg (own_nlt 192 rfl (by omega))).trans ((show own_v1_37 c = own_v1_44 c from if_pos (own_gt 214 rfl (by omega))).trans ((show own_v1_44 c = own_v1_51 c from if_neg (own_nlt 216 rfl (by omega))).trans ((show own_v1_51 c = own_v1_58 c from if_pos (own_gt 246 rfl (by omega))).trans ((show own_v1_58 c = own_v1_65 c from if_neg (own_nlt 248 rfl (by omega))).trans ((show own_v1_65 c = own_v1_72 c from if_pos (own_gt 767 rfl (by omega))).trans ((show own_v1_72 c = own_v1_79 c from if_neg (own_nlt 880 rfl (by omega))).trans ((show own_v1_79 c = own_v1_86 c from if_pos (own_gt 893 rfl (by omega))).trans ((show own_v1_86 c = own_v1_93 c from if_neg (own_nlt 895 rfl (by omega))).trans ((show own_v1_93 c = own_v1_100 c from if_pos (own_gt 8191 rfl (by omega))).trans ((show own_v1_100 c = own_v1_107 c from if_neg (own_nlt 8204 rfl (by omega))).trans ((show own_v1_107 c = own_v1_114 c from if_pos (own_gt 8205 rfl (by omega))).trans ((show own_v1_114 c = own_v1_121 c from if_neg (own_nlt 8304 rfl (by omega))).trans ((show own_v1_121 c = own_v1_128 c from if_pos (own_gt 8591 rfl (by omega))).trans ((show own_v1_128 c = own_v1_135 c from if_neg (own_nlt 11264 rfl (by omega))).trans ((show own_v1_135 c = own_v1_142 c from if_pos (own_gt 12271 rfl (by omega))).trans ((show own_v1_142 c = own_v1_149 c from if_neg (own_nlt 12289 rfl (by omega))).trans ((show own_v1_149 c = own_v1_155 c from if_pos (own_gt 55295 rfl (by omega))).trans ((show own_v1_155 c = own_v1_161 c from if_neg (own_nlt 63744 rfl (by omega))).trans ((show own_v1_161 c = own_v1_191 c from if_neg (own_ngt 64975 rfl (by omega))).trans rfl)))))))))))))))))))))))))
  have e2 : own_v2_0 c = 1 := ((show own_v2_0 c = own_v2_6 c from if_neg (own_nlt 65 rfl (by omega))).trans ((show own_v2_6 c = own_v2_14 c from if_neg (own_ngt 983039 rfl (by omega))).trans ((show own_v2_14 c = own_v2_20 c from if_pos (own_gt 90 rfl (by omega))).trans ((show own_v2_20 c = own_v2_38 c from if_neg (own_nlt 97 rfl (by omega))).trans ((show own_v2_38 c = own_v2_44 c from if_pos (own_gt 122 rfl (by omega))).trans ((show own_v2_44 c = own_v2_53 c from if_neg (own_nlt 192 rfl (by omega))).trans ((show own_v2_53 c = own_v2_60 c from if_neg (own_neq 215 rfl (by omega))).trans ((show own_v2_60 c = own_v2_69 c from if_neg (own_neq 247 rfl (by omega))).trans ((show own_v2_69 c = own_v2_76 c from if_neg (own_nlt 768 rfl (by omega))).trans ((show own_v2_76 c = own_v2_85 c from if_pos (own_gt 879 rfl (by omega))).trans ((show own_v2_85 c = own_v2_94 c from if_neg (own_neq 894 rfl (by omega))).trans ((show own_v2_94 c = own_v2_101 c from if_neg (own_nlt 8192 rfl (by omega))).trans ((show own_v2_101 c = own_v2_128 c from if_pos (own_gt 8303 rfl (by omega))).trans ((show own_v2_128 c = own_v2_135 c from if_neg (own_nlt 8592 rfl (by omega))).trans ((show own_v2_135 c = own_v2_144 c from if_pos (own_gt 11263 rfl (by omega))).trans ((show own_v2_144 c = own_v2_151 c from if_neg (own_nlt 12272 rfl (by omega))).trans ((show own_v2_151 c = own_v2_160 c from if_pos (own_gt 12288 rfl (by omega))).trans ((show own_v2_160 c = own_v2_166 c from if_neg (own_nlt 55296 rfl (by omega))).trans ((show own_v2_166 c = own_v2_174 c from if_pos (own_gt 63743 rfl (by omega))).trans ((show own_v2_174 c = own_v2_188 c from if_pos (own_lt 64976 rfl (by omega))).trans ((show own_v2_188 c = own_v2_194 c from if_neg (own_neq 65534 rfl (by omega))).trans ((show own_v2_194 c = own_v2_202 c from if_neg (own_neq 65535 rfl (by omega))).trans rfl))))))))))))))))))))))
  rw [e1, e2]
theorem own_reg_27 (c : Int32) (h1 : 64976 ≤ c.toInt) (h2 : c.toInt ≤ 65007) : own_v1_0 c = own_v2_0 c := by
  have e1 : own_v1_0 c = 0 := ((show own_v1_0 c = own_v1_6 c from if_neg (own_nlt 97 rfl (by omega))).trans ((show own_v1_6 c = own_v1_12 c from if_pos (own_gt 122 rfl (by omega))).trans ((show own_v1_12 c = own_v1_18 c from if_neg (own_nlt 65 rfl (by omega))).trans ((show own_v1_18 c = own_v1_24 c from if_pos (own_gt 90 rfl (by omega))).trans ((show own_v1_24 c = own_v1_30 c from if_neg (own_neq 95 rfl (by omega))).trans ((show own_v1_30 c = own_v1_37 c from if_neg (own_nlt 192 rfl (by omega))).trans ((show own_v1_37 c = own_v1_44 c from if_pos (own_gt 214 rfl (by omega))).trans ((show own_v1_44 c = own_v1_51 c from if_neg (own_nlt 216 rfl (by omega))).trans ((show own_v1_51 c = own_v1_58 c from if_pos (own_gt 246 rfl (by omega))).trans ((show own_v1_58 c = own_v1_65 c from if_neg (own_nlt 248 rfl (by omega))).trans ((show own_v1_65 c = own_v1_72 c from if_pos (own_gt 767 rfl (by omega))).trans ((show own_v1_72 c = own_v1_79 c from if_neg (own_nlt 880 rfl (by omega))).trans ((show own_v1_79 c = own_v1_86 c from if_pos (own_gt 893 rfl (by omega))).trans ((show own_v1_86 c = own_v1_93 c from if_neg (own_nlt 895 rfl (by omega))).trans ((show own_v1_93 c = own_v1_100 c from if_pos (own_gt 8191 rfl (by omega))).trans ((show own_v1_100 c = own_v1_107 c from if_neg (own_nlt 8204 rfl (by omega))).trans ((show own_v1_107 c = own_v1_114 c from if_pos (own_gt 8205 rfl (by omega))).trans ((show own_v1_114 c = own_v1_121 c from if_neg (own_nlt 8304 rfl (by omega))).trans ((show own_v1_121 c = own_v1_128 c from if_pos (own_gt 8591 rfl (by omega))).trans ((show own_v1_128 c = own_v1_135 c from if_neg (own_nlt 11264 rfl (by omega))).trans ((show own_v1_135 c = own_v1_142 c from if_pos (own_gt 12271 rfl (by omega))).trans ((show own_v1_142 c = own_v1_149 c from if_neg (own_nlt 12289 rfl (by omega))).trans ((show own_v1_149 c = own_v1_155 c from if_pos (own_gt 55295 rfl (by omega))).trans ((show own_v1_155 c = own_v1_161 c from if_neg (own_nlt 63744 rfl (by omega))).trans ((show own_v1_161 c = own_v1_167 c from if_pos (own_gt 64975 rfl (by omega))).trans ((show own_v1_167 c = own_v1_179 c from if_pos (own_lt 65008 rfl (by omega))).trans ((show own_v1_179 c = own_v1_195 c from if_pos (own_lt 65536 rfl (by omega))).trans rfl)))))))))))))))))))))))))))
  have e2 : own_v2_0 c = 0 := ((show own_v2_0 c = own_v2_6 c from if_neg (own_nlt 65 rfl (by omega))).trans ((show own_v2_6 c = own_v2_14 c from if_neg (own_ngt 983039 rfl (by omega))).trans ((show own_v2_14 c = own_v2_20 c from if_pos (own_gt 90 rfl (by omega))).trans ((show own_v2_20 c = own_v2_38 c from if_neg (own_nlt 97 rfl (by omega))).trans ((show own_v2_38 c = own_v2_44 c from if_pos (own_gt 122 rfl (by omega))).trans ((show own_v2_44 c = own_v2_53 c from if_neg (own_nlt 192 rfl (by omega))).trans ((show own_v2_53 c = own_v2_60 c from if_neg (own_neq 215 rfl (by omega))).trans ((show own_v2_60 c = own_v2_69 c from if_neg (own_neq 247 rfl (by omega))).trans ((show own_v2_69 c = own_v2_76 c from if_neg (own_nlt 768 rfl (by omega))).trans ((show own_v2_76 c = own_v2_85 c from if_pos (own_gt 879 rfl (by omega))).trans ((show own_v2_85 c = own_v2_94 c from if_neg (own_neq 894 rfl (by omega))).trans ((show own_v2_94 c = own_v2_101 c from if_neg (own_nlt 8192 rfl (by omega))).trans ((show own_v2_101 c = own_v2_128 c from if_pos (own_gt 8303 rfl (by omega))).trans ((show own_v2_128 c = own_v2_135 c from if_neg (own_nlt 8592 rfl (by omega))).trans ((show own_v2_135 c = own_v2_144 c from if_pos (own_gt 11263 rfl (by omega))).trans ((show own_v2_144 c = own_v2_151 c from if_neg (own_nlt 12272 rfl (by omega))).trans ((show own_v2_151 c = own_v2_160 c from if_pos (own_gt 12288 rfl (by omega))).trans ((show own_v2_160 c = own_v2_166 c from if_neg (own_nlt 55296 rfl (by omega))).trans ((show own_v2_166 c = own_v2_174 c from if_pos (own_gt 63743 rfl (by omega))).trans ((show own_v2_174 c = own_v2_180 c from if_neg (own_nlt 64976 rfl (by omega))).trans ((show own_v2_180 c = own_v2_186 c from if_neg (own_ngt 65007 rfl (by omega))).trans rfl)))))))))))))))))))))
  rw [e1, e2]
theorem own_reg_28 (c : Int32) (h1 : 65008 ≤ c.toInt) (h2 : c.toInt ≤ 65533) : own_v1_0 c = own_v2_0 c := by
  have e1 : own_v1_0 c = 1 := ((show own_v1_0 c = own_v1_6 c from if_neg (own_nlt 97 rfl (by omega))).trans ((show own_v1_6 c = own_v1_12 c from if_pos (own_gt 122 rfl (by omega))).trans ((show own_v1_12 c = own_v1_18 c from if_neg (own_nlt 65 rfl (by omega))).trans ((show own_v1_18 c = own_v1_24 c from if_pos (own_gt 90 rfl (by omega))).trans ((show own_v1_24 c = own_v1_30 c from if_neg (own_neq 95 rfl (by omega))).trans ((show own_v1_30 c = own_v1_37 c from if_neg (own_nlt 192 rfl (by omega))).trans ((show own_v1_37 c = own_v1_44 c from if_pos (own_gt 214 rfl (by omega))).trans ((show own_v1_44 c = own_v1_51 c from if_neg (own_nlt 216 rfl (by omega))).trans ((show own_v1_51 c = own_v1_58 c from if_pos (own_gt 246 rfl (by omega))).trans ((show own_v1_58 c = own_v1_65 c from if_neg (own_nlt 248 rfl (by omega))).trans ((show own_v1_65 c = own_v1_72 c from if_pos (own_gt 767 rfl (by omega))).trans ((show own_v1_72 c = own_v1_79 c from if_neg (own_nlt 880 rfl (by omega))).trans ((show own_v1_79 c = own_v1_86 c from if_pos (own_gt 893 rfl (by omega))).trans ((show own_v1_86 c = own_v1_93 c from if_neg (own_nlt 895 rfl (by omega))).trans ((show own_v1_93 c = own_v1_100 c from if_pos (own_gt 8191 rfl (by omega))).trans ((show own_v1_100 c = own_v1_107 c from if_neg (own_nlt 8204 rfl (by omega))).trans ((show own_v1_107 c = own_v1_114 c from if_pos (own_gt 8205 rfl (by omega))).trans ((show own_v1_114 c = own_v1_121 c from if_neg (own_nlt 8304 rfl (by omega))).trans ((show own_v1_121 c = own_v1_128 c from if_pos (own_gt 8591 rfl (by omega))).trans ((show own_v1_128 c = own_v1_135 c from if_neg (own_nlt 11264 rfl (by omega))).trans ((show own_v1_135 c = own_v1_142 c from if_pos (own_gt 12271 rfl (by omega))).trans ((show own_v1_142 c = own_v1_149 c from if_neg (own_nlt 12289 rfl (by omega))).trans ((show own_v1_149 c = own_v1_155 c from if_pos (own_gt 55295 rfl (by omega))).trans ((show own_v1_155 c = own_v1_161 c from if_neg (own_nlt 63744 rfl (by omega))).trans ((show own_v1_161 c = own_v1_167 c from if_pos (own_gt 64975 rfl (by omega))).trans ((show own_v1_167 c = own_v1_173 c from if_neg (own_nlt 65008 rfl (by omega))).trans ((show own_v1_173 c = own_v1_191 c from if_neg (own_ngt 65533 rfl (by omega))).trans rfl)))))))))))))))))))))))))))
  have e2 : own_v2_0 c = 1 := ((show own_v2_0 c = own_v2_6 c from if_neg (own_nlt 65 rfl (by omega))).trans ((show own_v2_6 c = own_v2_14 c from if_neg (own_ngt 983039 rfl (by omega))).trans ((show own_v2_14 c = own_v2_20 c from if_pos (own_gt 90 rfl (by omega))).trans ((show own_v2_20 c = own_v2_38 c from if_neg (own_nlt 97 rfl (by omega))).trans ((show own_v2_38 c = own_v2_44 c from if_pos (own_gt 122 rfl (by omega))).trans ((show own_v2_44 c = own_v2_53 c from if_neg (own_nlt 192 rfl (by omega))).trans ((show own_v2_53 c = own_v2_60 c from if_neg (own_neq 215 rfl (by omega))).trans ((show own_v2_60 c = own_v2_69 c from if_neg (own_neq 247 rfl (by omega))).trans ((show own_v2_69 c = own_v2_76 c from if_neg (own_nlt 768 rfl (by omega))).trans ((show own_v2_76 c = own_v2_85 c from if_pos (own_gt 879 rfl (by omega))).trans ((show own_v2_85 c = own_v2_94 c from if_neg (own_neq 894 rfl (by omega))).trans ((show own_v2_94 c = own_v2_101 c from if_neg (own_nlt 8192 rfl (by omega))).trans ((show own_v2_101 c = own_v2_128 c from if_pos (own_gt 8303 rfl (by omega))).trans ((show own_v2_128 c = own_v2_135 c from if_neg (own_nlt 8592 rfl (by omega))).trans ((show own_v2_135 c = own_v2_144 c from if_pos (own_gt 11263 rfl (by omega))).trans ((show own_v2_144 c = own_v2_151 c from if_neg (own_nlt 12272 rfl (by omega))).trans ((show own_v2_151 c = own_v2_160 c from if_pos (own_gt 12288 rfl (by omega))).trans ((show own_v2_160 c = own_v2_166 c from if_neg (own_nlt 55296 rfl (by omega))).trans ((show own_v2_166 c = own_v2_174 c from if_pos (own_gt 63743 rfl (by omega))).trans ((show own_v2_174 c = own_v2_180 c from if_neg (own_nlt 64976 rfl (by omega))).trans ((show own_v2_180 c = own_v2_188 c from if_pos (own_gt 65007 rfl (by omega))).trans ((show own_v2_188 c = own_v2_194 c from if_neg (own_neq 65534 rfl (by omega))).trans ((show own_v2_194 c = own_v2_202 c from if_neg (own_neq 65535 rfl (by omega))).trans rfl)))))))))))))))))))))))
  rw [e1, e2]
theorem own_reg_29 (c : Int32) (h1 : 65534 ≤ c.toInt) (h2 : c.toInt ≤ 65534) : own_v1_0 c = own_v2_0 c := by
  have e1 : own_v1_0 c = 0 := ((show own_v1_0 c = own_v1_6 c from if_neg (own_nlt 97 rfl (by omega))).trans ((show own_v1_6 c = own_v1_12 c from if_pos (own_gt 122 rfl (by omega))).trans ((show own_v1_12 c = own_v1_18 c from if_neg (own_nlt 65 rfl (by omega))).trans ((show own_v1_18 c = own_v1_24 c from if_pos (own_gt 90 rfl (by omega))).trans ((show own_v1_24 c = own_v1_30 c from if_neg (own_neq 95 rfl (by omega))).trans ((show own_v1_30 c = own_v1_37 c from if_neg (own_nlt 192 rfl (by omega))).trans ((show own_v1_37 c = own_v1_44 c from if_pos (own_gt 214 rfl (by omega))).trans ((show own_v1_44 c = own_v1_51 c from if_neg (own_nlt 216 rfl (by omega))).trans ((show own_v1_51 c = own_v1_58 c from if_pos (own_gt 246 rfl (by omega))).trans ((show own_v1_58 c = own_v1_65 c from if_neg (own_nlt 248 rfl (by omega))).trans ((show own_v1_65 c = own_v1_72 c from if_pos (own_gt 767 rfl (by omega))).trans ((show own_v1_72 c = own_v1_79 c from if_neg (own_nlt 880 rfl (by omega))).trans ((show own_v1_79 c = own_v1_86 c from if_pos (own_gt 893 rfl (by omega))).trans ((show own_v1_86 c = own_v1_93 c from if_neg (own_nlt 895 rfl (by omega))).trans ((show own_v1_93 c = own_v1_100 c from if_pos (own_gt 8191 rfl (by omega))).trans ((show own_v1_100 c = own_v1_107 c from if_neg (own_nlt 8204 rfl (by omega))).trans ((show own_v1_107 c = own_v1_114 c from if_pos (own_gt 8205 rfl (by omega))).trans ((show own_v1_114 c = own_v1_121 c from if_neg (own_nlt 8304 rfl (by omega))).trans ((show own_v1_121 c = own_v1_128 c from if_pos (own_gt 8591 rfl (by omega))).trans ((show own_v1_128 c = own_v1_135 c from if_neg (own_nlt 11264 rfl (by omega))).trans ((show own_v1_135 c = own_v1_142 c from if_pos (own_gt 12271 rfl (by omega))).trans ((show own_v1_142 c = own_v1_149 c from if_neg (own_nlt 12289 rfl (by omega))).trans ((show own_v1_149 c = own_v1_155 c from if_pos (own_gt 55295 rfl (by omega))).trans ((show own_v1_155 c = own_v1_161 c from if_neg (own_nlt 63744 rfl (by omega))).trans ((show own_v1_161 c = own_v1_167 c from if_pos (own_gt 64975 rfl (by omega))).trans ((show own_v1_167 c = own_v1_173 c from if_neg (own_nlt 65008 rfl (by omega))).trans ((show own_v1_173 c = own_v1_179 c from if_pos (own_gt 65533 rfl (by omega))).trans ((show own_v1_179 c = own_v1_195 c from if_pos (own_lt 65536 rfl (by omega))).trans rfl))))))))))))))))))))))))))))
  have e2 : own_v2_0 c = 0 := ((show own_v2_0 c = own_v2_6 c from if_neg (own_nlt 65 rfl (by omega))).trans ((show own_v2_6 c = own_v2_14 c from if_neg (own_ngt 983039 rfl (by omega))).trans ((show own_v2_14 c = own_v2_20 c from if_pos (own_gt 90 rfl (by omega))).trans ((show own_v2_20 c = own_v2_38 c from if_neg (own_nlt 97 rfl (by omega))).trans ((show own_v2_38 c = own_v2_44 c from if_pos (own_gt 122 rfl (by omega))).trans ((show own_v2_44 c = own_v2_53 c from if_neg (own_nlt 192 rfl (by omega))).trans ((show own_v2_53 c = own_v2_60 c from if_neg (own_neq 215 rfl (by omega))).trans ((show own_v2_60 c = own_v2_69 c from if_neg (own_neq 247 rfl (by omega))).trans ((show own_v2_69 c = own_v2_76 c from if_neg (own_nlt 768 rfl (by omega))).trans ((show own_v2_76 c = own_v2_85 c from if_pos (own_gt 879 rfl (by omega))).trans ((show own_v2_85 c = own_v2_94 c from if_neg (own_neq 894 rfl (by omega))).trans ((show own_v2_94 c = own_v2_101 c from if_neg (own_nlt 8192 rfl (by omega))).trans ((show own_v2_101 c = own_v2_128 c from if_pos (own_gt 8303 rfl (by omega))).trans ((show own_v2_128 c = own_v2_135 c from if_neg (own_nlt 8592 rfl (by omega))).trans ((show own_v2_135 c = own_v2_144 c from if_pos (own_gt 11263 rfl (by omega))).trans ((show own_v2_144 c = own_v2_151 c from if_neg (own_nlt 12272 rfl (by omega))).trans ((show own_v2_151 c = own_v2_160 c from if_pos (own_gt 12288 rfl (by omega))).trans ((show own_v2_160 c = own_v2_166 c from if_neg (own_nlt 55296 rfl (by omega))).trans ((show own_v2_166 c = own_v2_174 c from if_pos (own_gt 63743 rfl (by omega))).trans ((show own_v2_174 c = own_v2_180 c from if_neg (own_nlt 64976 rfl (by omega))).trans ((show own_v2_180 c = own_v2_188 c from if_pos (own_gt 65007 rfl (by omega))).trans ((show own_v2_188 c = own_v2_200 c from if_pos (own_eq 65534 rfl (by omega))).trans rfl))))))))))))))))))))))
  rw [e1, e2]
theorem own_reg_30 (c : Int32) (h1 : 65535 ≤ c.toInt) (h2 : c.toInt ≤ 65535) : own_v1_0 c = own_v2_0 c := by
  have e1 : own_v1_0 c = 0 := ((show own_v1_0 c = own_v1_6 c from if_neg (own_nlt 97 rfl (by omega))).trans ((show own_v1_6 c = own_v1_12 c from if_pos (own_gt 122 rfl (by omega))).trans ((show own_v1_12 c = own_v1_18 c from if_neg (own_nlt 65 rfl (by omega))).trans ((show own_v1_18 c = own_v1_24 c from if_pos (own_gt 90 rfl (by omega))).trans ((show own_v1_24 c = own_v1_30 c from if_neg (own_neq 95 rfl (by omega))).trans ((show own_v1_30 c = own_v1_37 c from if_neg (own_nlt 192 rfl (by omega))).trans ((show own_v1_37 c = own_v1_44 c from if_pos (own_gt 214 rfl (by omega))).trans ((show own_v1_44 c = own_v1_51 c from if_neg (own_nlt 216 rfl (by omega))).trans ((show own_v1_51 c = own_v1_58 c from if_pos (own_gt 246 rfl (by omega))).trans ((show own_v1_58 c = own_v1_65 c from if_neg (own_nlt 248 rfl (by omega))).trans ((show own_v1_65 c = own_v1_72 c from if_pos (own_gt 767 rfl (by omega))).trans ((show own_v1_72 c = own_v1_79 c from if_neg (own_nlt 880 rfl (by omega))).trans ((show own_v1_79 c = own_v1_86 c from if_pos (own_gt 893 rfl (by omega))).trans ((show own_v1_86 c = own_v1_93 c from if_neg (own_nlt 895 rfl (by omega))).trans ((show own_v1_93 c = own_v1_100 c from if_pos (own_gt 8191 rfl (by omega))).trans ((show own_v1_100 c = own_v1_107 c from if_neg (own_nlt 8204 rfl (by omega))).trans ((show own_v1_107 c = own_v1_114 c from if_pos (own_gt 8205 rfl (by omega))).trans ((show own_v1_114 c = own_v1_121 c from if_neg (own_nlt 8304 rfl (by omega))).trans ((show own_v1_121 c = own_v1_128 c from if_pos (own_gt 8591 rfl (by omega))).trans ((show own_v1_128 c = own_v1_135 c from if_neg (own_nlt 11264 rfl (by omega))).trans ((show own_v1_135 c = own_v1_142 c from if_pos (own_gt 12271 rfl (by omega))).trans ((show own_v1_142 c = own_v1_149 c from if_neg (own_nlt 12289 rfl (by omega))).trans ((show own_v1_149 c = own_v1_155 c from if_pos (own_gt 55295 rfl (by omega))).trans ((show own_v1_155 c = own_v1_161 c from if_neg (own_nlt 63744 rfl (by omega))).trans ((show own_v1_161 c = own_v1_167 c from if_pos (own_gt 64975 rfl (by omega))).trans ((show own_v1_167 c = own_v1_173 c from if_neg (own_nlt 65008 rfl (by omega))).trans ((show own_v1_173 c = own_v1_179 c from if_pos (own_gt 65533 rfl (by omega))).trans ((show own_v1_179 c = own_v1_195 c from if_pos (own_lt 65536 rfl (by omega))).trans rfl))))))))))))))))))))))))))))
  have e2 : own_v2_0 c = 0 := ((show own_v2_0 c = own_v2_6 c from if_neg (own_nlt 65 rfl (by omega))).trans ((show own_v2_6 c = own_v2_14 c from if_neg (own_ngt 983039 rfl (by omega))).trans ((show own_v2_14 c = own_v2_20 c from if_pos (own_gt 90 rfl (by omega))).trans ((show own_v2_20 c = own_v2_38 c from if_neg (own_nlt 97 rfl (by omega))).trans ((show own_v2_38 c = own_v2_44 c from if_pos (own_gt 122 rfl (by omega))).trans ((show own_v2_44 c = own_v2_53 c from if_neg (own_nlt 192 rfl (by omega))).trans ((show own_v2_53 c = own_v2_60 c from if_neg (own_neq 215 rfl (by omega))).trans ((show own_v2_60 c = own_v2_69 c from if_neg (own_neq 247 rfl (by omega))).trans ((show own_v2_69 c = own_v2_76 c from if_neg (own_nlt 768 rfl (by omega))).trans ((show own_v2_76 c = own_v2_85 c from if_pos (own_gt 879 rfl (by omega))).trans ((show own_v2_85 c = own_v2_94 c from if_neg (own_neq 894 rfl (by omega))).trans ((show own_v2_94 c = own_v2_101 c from if_neg (own_nlt 8192 rfl (by omega))).trans ((show own_v2_101 c = own_v2_128 c from if_pos (own_gt 8303 rfl (by omega))).trans ((show own_v2_128 c = own_v2_135 c from if_neg (own_nlt 8592 rfl (by omega))).trans ((show own_v2_135 c = own_v2_144 c from if_pos (own_gt 11263 rfl (by omega))).trans ((show own_v2_144 c = own_v2_151 c from if_neg (own_nlt 12272 rfl (by omega))).trans ((show own_v2_151 c = own_v2_160 c from if_pos (own_gt 12288 rfl (by omega))).trans ((show own_v2_160 c = own_v2_166 c from if_neg (own_nlt 55296 rfl (by omega))).trans ((show own_v2_166 c = own_v2_174 c from if_pos (own_gt 63743 rfl (by omega))).trans ((show own_v2_174 c = own_v2_180 c from if_neg (own_nlt 64976 rfl (by omega))).trans ((show own_v2_180 c = own_v2_188 c from if_pos (own_gt 65007 rfl (by omega))).trans ((show own_v2_188 c = own_v2_194 c from if_neg (own_neq 65534 rfl (by omega))).trans ((show own_v2_194 c = own_v2_200 c from if_pos (own_eq 65535 rfl (by omega))).trans rfl)))))))))))))))))))))))
  rw [e1, e2]
theorem own_reg_31 (c : Int32) (h1 : 65536 ≤ c.toInt) (h2 : c.toInt ≤ 983039) : own_v1_0 c = own_v2_0 c := by
  have e1 : own_v1_0 c = 1 := ((show own_v1_0 c = own_v1_6 c from if_neg (own_nlt 97 rfl (by omega))).trans ((show own_v1_6 c = own_v1_12 c from if_pos (own_gt 122 rfl (by omega))).trans ((show own_v1_12 c = own_v1_18 c from if_neg (own_nlt 65 rfl (by omega))).trans ((show own_v1_18 c = own_v1_24 c from if_pos (own_gt 90 rfl (by omega))).trans ((show own_v1_24 c = own_v1_30 c from if_neg (own_neq 95 rfl (by omega))).trans ((show own_v1_30 c = own_v1_37 c from if_neg (own_nlt 192 rfl (by omega))).trans ((show own_v1_37 c = own_v1_44 c from if_pos (own_gt 214 rfl (by omega))).trans ((show own_v1_44 c = own_v1_51 c from if_neg (own_nlt 216 rfl (by omega))).trans ((show own_v1_51 c = own_v1_58 c from if_pos (own_gt 246 rfl (by omega))).trans ((show own_v1_58 c = own_v1_65 c from if_neg (own_nlt 248 rfl (by omega))).trans ((show own_v1_65 c = own_v1_72 c from if_pos (own_gt 767 rfl (by omega))).trans ((show own_v1_72 c = own_v1_79 c from if_neg (own_nlt 880 rfl (by omega))).trans ((show own_v1_79 c = own_v1_86 c from if_pos (own_gt 893 rfl (by omega))).trans ((show own_v1_86 c = own_v1_93 c from if_neg (own_nlt 895 rfl (by omega))).trans ((show own_v1_93 c = own_v1_100 c from if_pos (own_gt 8191 rfl (by omega))).trans ((show own_v1_100 c = own_v1_107 c from if_neg (own_nlt 8204 rfl (by omega))).trans ((show own_v1_107 c = own_v1_114 c from if_pos (own_gt 8205 rfl (by omega))).trans ((show own_v1_114 c = own_v1_121 c from if_neg (own_nlt 8304 rfl (by omega))).trans ((show own_v1_121 c = own_v1_128 c from if_pos (own_gt 8591 rfl (by omega))).trans ((show own_v1_128 c = own_v1_135 c from if_neg (own_nlt 11264 rfl (by omega))).trans ((show own_v1_135 c = own_v1_142 c from if_pos (own_gt 12271 rfl (by omega))).trans ((show own_v1_142 c = own_v1_149 c from if_neg (own_nlt 12289 rfl (by omega))).trans ((show own_v1_149 c = own_v1_155 c from if_pos (own_gt 55295 rfl (by omega))).trans ((show own_v1_155 c = own_v1_161 c from if_neg (own_nlt 63744 rfl (by omega))).trans ((show own_v1_161 c = own_v1_167 c from if_pos (own_gt 64975 rfl (by omega))).trans ((show own_v1_167 c = own_v1_173 c from if_neg (own_nlt 65008 rfl (by omega))).trans ((show own_v1_173 c = own_v1_179 c from if_pos (own_gt 65533 rfl (by omega))).trans ((show own_v1_179 c = own_v1_185 c from if_neg (own_nlt 65536 rfl (by omega))).trans ((show own_v1_185 c = own_v1_191 c from if_neg (own_ngt 983039 rfl (by omega))).trans rfl)))))))))))))))))))))))))))))
  have e2 : own_v2_0 c = 1 := ((show own_v2_0 c = own_v2_6 c from if_neg (own_nlt 65 rfl (by omega))).trans ((show own_v2_6 c = own_v2_14 c from if_neg (own_ngt 983039 rfl (by omega))).trans ((show own_v2_14 c = own_v2_20 c from if_pos (own_gt 90 rfl (by omega))).trans ((show own_v2_20 c = own_v2_38 c from if_neg (own_nlt 97 rfl (by omega))).trans ((show own_v2_38 c = own_v2_44 c from if_pos (own_gt 122 rfl (by omega))).trans ((show own_v2_44 c = own_v2_53 c from if_neg (own_nlt 192 rfl (by omega))).trans ((show own_v2_53 c = own_v2_60 c from if_neg (own_neq 215 rfl (by omega))).trans ((show own_v2_60 c = own_v2_69 c from if_neg (own_neq 247 rfl (by omega))).trans ((show own_v2_69 c = own_v2_76 c from if_neg (own_nlt 768 rfl (by omega))).trans ((show own_v2_76 c = own_v2_85 c from if_pos (own_gt 879 rfl (by omega))).trans ((show own_v2_85 c = own_v2_94 c from if_neg (own_neq 894 rfl (by omega))).trans ((show own_v2_94 c = own_v2_101 c from if_neg (own_nlt 8192 rfl (by omega))).trans ((show own_v2_101 c = own_v2_128 c from if_pos (own_gt 8303 rfl (by omega))).trans ((show own_v2_128 c = own_v2_135 c from if_neg (own_nlt 8592 rfl (by omega))).trans ((show own_v2_135 c = own_v2_144 c from if_pos (own_gt 11263 rfl (by omega))).trans ((show own_v2_144 c = own_v2_151 c from if_neg (own_nlt 12272 rfl (by omega))).trans ((show own_v2_151 c = own_v2_160 c from if_pos (own_gt 12288 rfl (by omega))).trans ((show own_v2_160 c = own_v2_166 c from if_neg (own_nlt 55296 rfl (by omega))).trans ((show own_v2_166 c = own_v2_174 c from if_pos (own_gt 63743 rfl (by omega))).trans ((show own_v2_174 c = own_v2_180 c from if_neg (own_nlt 64976 rfl (by omega))).trans ((show own_v2_180 c = own_v2_188 c from if_pos (own_gt 65007 rfl (by omega))).trans ((show own_v2_188 c = own_v2_194 c from if_neg (own_neq 65534 rfl (by omega))).trans ((show own_v2_194 c = own_v2_202 c from if_neg (own_neq 65535 rfl (by omega))).trans rfl)))))))))))))))))))))))
  rw [e1, e2]
theorem own_reg_32 (c : Int32) (h1 : 983040 ≤ c.toInt) : own_v1_0 c = own_v2_0 c := by
  have e1 : own_v1_0 c = 0 := ((show own_v1_0 c = own_v1_6 c from if_neg (own_nlt 97 rfl (by omega))).trans ((show own_v1_6 c = own_v1_12 c from if_pos (own_gt 122 rfl (by omega))).trans ((show own_v1_12 c = own_v1_18 c from if_neg (own_nlt 65 rfl (by omega))).trans ((show own_v1_18 c = own_v1_24 c from if_pos (own_gt 90 rfl (by omega))).trans ((show own_v1_24 c = own_v1_30 c from if_neg (own_neq 95 rfl (by omega))).trans ((show own_v1_30 c = own_v1_37 c from if_neg (own_nlt 192 rfl (by omega))).trans ((show own_v1_37 c = own_v1_44 c from if_pos (own_gt 214 rfl (by omega))).trans ((show own_v1_44 c = own_v1_51 c from if_neg (own_nlt 216 rfl (by omega))).trans ((show own_v1_51 c = own_v1_58 c from if_pos (own_gt 246 rfl (by omega))).trans ((show own_v1_58 c = own_v1_65 c from if_neg (own_nlt 248 rfl (by omega))).trans ((show own_v1_65 c = own_v1_72 c from if_pos (own_gt 767 rfl (by omega))).trans ((show own_v1_72 c = own_v1_79 c from if_neg (own_nlt 880 rfl (by omega))).trans ((show own_v1_79 c = own_v1_86 c from if_pos (own_gt 893 rfl (by omega))).trans ((show own_v1_86 c = own_v1_93 c from if_neg (own_nlt 895 rfl (by omega))).trans ((show own_v1_93 c = own_v1_100 c from if_pos (own_gt 8191 rfl (by omega))).trans ((show own_v1_100 c = own_v1_107 c from if_neg (own_nlt 8204 rfl (by omega))).trans ((show own_v1_107 c = own_v1_114 c from if_pos (own_gt 8205 rfl (by omega))).trans ((show own_v1_114 c = own_v1_121 c from if_neg (own_nlt 8304 rfl (by omega))).trans ((show own_v1_121 c = own_v1_128 c from if_pos (own_gt 8591 rfl (by omega))).trans ((show own_v1_128 c = own_v1_135 c from if_neg (own_nlt 11264 rfl (by omega))).trans ((show own_v1_135 c = own_v1_142 c from if_pos (own_gt 12271 rfl (by omega))).trans ((show own_v1_142 c = own_v1_149 c from if_neg (own_nlt 12289 rfl (by omega))).trans ((show own_v1_149 c = own_v1_155 c from if_pos (own_gt 55295 rfl (by omega))).trans ((show own_v1_155 c = own_v1_161 c from if_neg (own_nlt 63744 rfl (by omega))).trans ((show own_v1_161 c = own_v1_167 c from if_pos (own_gt 64975 rfl (by omega))).trans ((show own_v1_167 c = own_v1_173 c from if_neg (own_nlt 65008 rfl (by omega))).trans ((show own_v1_173 c = own_v1_179 c from if_pos (own_gt 65533 rfl (by omega))).trans ((show own_v1_179 c = own_v1_185 c from if_neg (own_nlt 65536 rfl (by omega))).trans ((show own_v1_185 c = own_v1_195 c from if_pos (own_gt 983039 rfl (by omega))).trans rfl)))))))))))))))))))))))))))))
  have e2 : own_v2_0 c = 0 := ((show own_v2_0 c = own_v2_6 c from if_neg (own_nlt 65 rfl (by omega))).trans ((show own_v2_6 c = own_v2_12 c from if_pos (own_gt 983039 rfl (by omega))).trans rfl))
  rw [e1, e2]
theorem own_same (c : Int32) : own_v1_0 c = own_v2_0 c := by
  by_cases q0 : c.toInt < 65
  · exact own_reg_0 c (by omega) 
  by_cases q1 : c.toInt < 91
  · exact own_reg_1 c (by omega) (by omega) 
  by_cases q2 : c.toInt < 95
  · exact own_reg_2 c (by omega) (by omega) 
  by_cases q3 : c.toInt < 96
  · exact own_reg_3 c (by omega) (by omega) 
  by_cases q4 : c.toInt < 97
  · exact own_reg_4 c (by omega) (by omega) 
  by_cases q5 : c.toInt < 123
  · exact own_reg_5 c (by omega) (by omega) 
  by_cases q6 : c.toInt < 192
  · exact own_reg_6 c (by omega) (by omega) 
  by_cases q7 : c.toInt < 215
  · exact own_reg_7 c (by omega) (by omega) 
  by_cases q8 : c.toInt < 216
  · exact own_reg_8 c (by omega) (by omega) 
  by_cases q9 : c.toInt < 247
  · exact own_reg_9 c (by omega) (by omega) 
  by_cases q10 : c.toInt < 248
  · exact own_reg_10 c (by omega) (by omega) 
  by_cases q11 : c.toInt < 768
  · exact own_reg_11 c (by omega) (by omega) 
  by_cases q12 : c.toInt < 880
  · exact own_reg_12 c (by omega) (by omega) 
  by_cases q13 : c.toInt < 894
  · exact own_reg_13 c (by omega) (by omega) 
  by_cases q14 : c.toInt < 895
  · exact own_reg_14 c (by omega) (by omega) 
  by_cases q15 : c.toInt < 8192
  · exact own_reg_15 c (by omega) (by omega) 
  by_cases q16 : c.toInt < 8204
  · exact own_reg_16 c (by omega) (by omega) 
  by_cases q17 : c.toInt < 8205
  · exact own_reg_17 c (by omega) (by omega) 
  by_cases q18 : c.toInt < 8206
  · exact own_reg_18 c (by omega) (by omega) 
  by_cases q19 : c.toInt < 8304
  · exact own_reg_19 c (by omega) (by omega) 
  by_cases q20 : c.toInt < 8592
  · exact own_reg_20 c (by omega) (by omega) 
  by_cases q21 : c.toInt < 11264
  · exact own_reg_21 c (by omega) (by omega) 
  by_cases q22 : c.toInt < 12272
  · exact own_reg_22 c (by omega) (by omega) 
  by_cases q23 : c.toInt < 12289
  · exact own_reg_23 c (by omega) (by omega) 
  by_cases q24 : c.toInt < 55296
  · exact own_reg_24 c (by omega) (by omega) 
  by_cases q25 : c.toInt < 63744
  · exact own_reg_25 c (by omega) (by omega) 
  by_cases q26 : c.toInt < 64976
  · exact own_reg_26 c (by omega) (by omega) 
  by_cases q27 : c.toInt < 65008
  · exact own_reg_27 c (by omega) (by omega) 
  by_cases q28 : c.toInt < 65534
  · exact own_reg_28 c (by omega) (by omega) 
  by_cases q29 : c.toInt < 65535
  · exact own_reg_29 c (by omega) (by omega) 
  by_cases q30 : c.toInt < 65536
  · exact own_reg_30 c (by omega) (by omega) 
  by_cases q31 : c.toInt < 983040
  · exact own_reg_31 c (by omega) (by omega) 
  exact own_reg_32 c (by omega)
theorem own_idx (k : Int32) : ¬ ((k &&& (2147483647 : Int32)) - (k &&& (2147483647 : Int32)) / (31 : Int32) * (31 : Int32)) < 0 ∧ ((k &&& (2147483647 : Int32)) - (k &&& (2147483647 : Int32)) / (31 : Int32) * (31 : Int32)) < (31 : Int32) := by
  have e1 : (k &&& (2147483647 : Int32)).toInt = k.toInt % 2 ^ 31 := Jvm.Kit.i32_mask k 2147483647 (k := 31) (by decide) (by decide)
  generalize (k &&& (2147483647 : Int32)) = x at *
  have eL : (31 : Int32).toInt = 31 := rfl
  have e0 : (0 : Int32).toInt = 0 := rfl
  have hx : 0 ≤ x.toInt := by omega
  have e2 : (x / (31 : Int32)).toInt = x.toInt / 31 := by
    rw [Jvm.Kit.i32_div (by rw [eL]; omega), eL, Int.tdiv_eq_ediv_of_nonneg hx]
  have e3 : (x / (31 : Int32) * (31 : Int32)).toInt = x.toInt / 31 * 31 := by
    rw [Jvm.Kit.i32_mul (by rw [e2, eL]; omega) (by rw [e2, eL]; omega), e2, eL]
  have e4 : (x - x / (31 : Int32) * (31 : Int32)).toInt = x.toInt - x.toInt / 31 * 31 := by
    rw [Jvm.Kit.i32_sub (by rw [e3]; omega) (by rw [e3]; omega), e3]
  rw [Int32.lt_iff_toInt_lt, Int32.lt_iff_toInt_lt, e4, eL, e0]
  omega
/-- the walk stands at T; the new array of 31 ints lies at b, nothing old is written -/
def own_AV (p : Program) (l : Launch) (e : Env) (R : Room) (s : State) (m : MethodId) (args : Array Value) (below : List Frame) (meth : Method) (c : Code) (Z : State) (h0 : Heap) (n0 : Nat) (b : Addr) (T : State) : Prop :=
  ∃ (locs : List Loc) (vs : List Value) (k : ClassId), Stand p l e R s m args below meth c T locs 1 31 ∧ Arv Z T.heap b k .int (31 : Int32) vs (.int (0 : Int32)) ∧ vs.length = 31 ∧ Keep h0 T.heap [] ∧ Fr n0 locs
theorem own_AVat {p : Program} {l : Launch} {e : Env} {R : Room} {s : State} {m : MethodId} {args : Array Value} {below : List Frame} {meth : Method} {c : Code} {Z : State} {h0 : Heap} {n0 : Nat} {b : Addr} {T : State} (A : own_AV p l e R s m args below meth c Z h0 n0 b T) : At T m c below := by
  obtain ⟨_, _, _, X, -⟩ := A
  exact X.here
theorem own_put {p : Program} {l : Launch} {e : Env} {R : Room} {s : State} {m : MethodId} {args : Array Value} {below : List Frame} {meth : Method} {c : Code} {Z : State} {h0 : Heap} {n0 : Nat} {b : Addr} {T : State} (A : own_AV p l e R s m args below meth c Z h0 n0 b T) (hx : p.tables.exec = Jvm.exec) (hZ : Z.Warmed39 s.vm) (g_b : n0 ≤ b) (sz_b : h0.size ≤ b) (j x : Int32) (i : Nat) (hi : j.toNatClampNeg = i) (hj : ¬ j < 0 ∧ j < (31 : Int32)) {pc : Nat} {Ls : Array Slot} {rest : List Value} (hd : decode c.code pc = .ok (.iastore, 1)) :
    ∃ T', own_AV p l e R s m args below meth c Z h0 n0 b T' ∧ ∀ target, Steps p.tables e below (T'.setTop (mkF m (pc + 1) Ls rest)) target → Steps p.tables e below (T.setTop (mkF m pc Ls (.int x :: .int j :: .ref b :: rest))) target := by
  obtain ⟨locs, vs, k, X, V, hl, K, N⟩ := A
  obtain ⟨cl, Ar, q, S, N', H, G⟩ := V
  obtain ⟨T5, h5, X5, e5, W5, st5⟩ := stI X hx hZ rfl Ar (j := j) (x := x) (inb_of S hj) (g := (mkF m pc Ls (.int x :: .int j :: .ref b :: rest))) rfl rfl hd
  have hlt : i < vs.length := by
    have := inb_of S hj
    have e1 : (31 : Int32).toNatClampNeg = 31 := rfl
    rw [S, hi, e1] at this
    rw [hl]; omega
  have V5 := Arv.set Ar q S N' H G (v := .int x) rfl W5 i hi hlt
  subst e5
  exact ⟨T5, ⟨_, _, k, X5, V5, by rw [List.length_set]; exact hl, K.wr W5 (Or.inr sz_b), Fr.snoc X5 N g_b⟩, st5⟩
theorem own_read {p : Program} {l : Launch} {e : Env} {R : Room} {s : State} {m : MethodId} {args : Array Value} {below : List Frame} {meth : Method} {c : Code} {Z : State} {h0 : Heap} {n0 : Nat} {b : Addr} {T : State} (A : own_AV p l e R s m args below meth c Z h0 n0 b T) (j : Int32) (hj : ¬ j < 0 ∧ j < (31 : Int32)) : ∃ (cl : Cell) (w : Int32), Arr Z T.heap b cl .int ∧ cl.slots.size.toInt32 = (31 : Int32) ∧ ¬ (j < 0 ∨ cl.slots.size ≤ j.toNatClampNeg) ∧ cl.slots[j.toNatClampNeg]? = some (.int w) := by
  obtain ⟨locs, vs, k, X, V, hl, K, N⟩ := A
  obtain ⟨cl, Ar, q, S, N', H, G⟩ := V
  have hin := inb_of S hj
  have hlt : j.toNatClampNeg < cl.slots.size := Nat.lt_of_not_le fun q => hin (Or.inr q)
  obtain ⟨w, ew⟩ := fit_I (G _ hlt) (by simp)
  exact ⟨cl, w, Ar, len_of S N', hin, by rw [H _ hlt, ew]⟩
theorem pn_0 : plainName "com/example/fallbak/fallbak/xpath/QNameIsNameStartCharPinLaw" = true := by first | (simp [plainName, overriddenIn]; done) | decide +kernel
theorem pd_0_0 : parseMethodDescriptor "(I)Z" = some ⟨[.int], some .boolean⟩ := by decide +kernel
theorem ef_0 (m : MethodId) (x0 : Int32) (x1 : Int32) (x2 : Int32) : entryFrame m #[(.int x0), (.int x1), (.int x2)] maxLocals = mkF m 0 #[.val (.int x0), .val (.int x1), .val (.int x2), .unset, .unset, .unset, .unset, .unset] [] := by first | (simp [entryFrame, mkF, argsToLocals, Value.category, maxLocals]; done) | rfl
def Q0 (Z : State) (p1 p2 p3 : Int32) (h0 : Heap) (n0 : Nat) (v : Option Value) (h : Heap) (L : List Loc) : Prop := v = some (.int (1 : Int32)) ∧ Fr n0 L
set_option maxRecDepth 65536 in
set_option maxHeartbeats 40000000 in
theorem own_fill_4 {p : Program} {l : Launch} {e : Env} {s : State} {m : MethodId} {below : List Frame} {meth : Method} {c : Code} {Z : State} {a0 : Array Value} {h0 : Heap} {n0 : Nat} {b : Addr} {T : State} {p1 p2 p3 : Int32} (hx : p.tables.exec = Jvm.exec) (hZ : Z.Warmed39 s.vm) (hw : ∀ d ∈ tables_1, d.before a0 Z = true) (hby : c.code = code) (hown : s.vm.findClass "com/example/fallbak/fallbak/xpath/QNameIsNameStartCharPinLaw" = some m.cls) (g_b : n0 ≤ b) (sz_b : h0.size ≤ b) (A : own_AV p l e room_1 s m #[(.int p1), (.int p2), (.int p3)] below meth c Z h0 n0 b T) : ∃ T', own_AV p l e room_1 s m #[(.int p1), (.int p2), (.int p3)] below meth c Z h0 n0 b T' ∧ ∀ target, Steps p.tables e below (T'.setTop (mkF m 49 #[.val (.int p1), .val (.int p2), .val (.int p3), .unset, .unset, .unset, .unset, .unset] [(.ref b)])) target → Steps p.tables e below (T.setTop (mkF m 4 #[.val (.int p1), .val (.int p2), .val (.int p3), .unset, .unset, .unset, .unset, .unset] [(.ref b)])) target := by
  obtain ⟨T1, A1, st1⟩ := own_put A hx hZ g_b sz_b (0 : Int32) (65 : Int32) 0 rfl ⟨by decide, by decide⟩ (pc := 8) (Ls := #[.val (.int p1), .val (.int p2), .val (.int p3), .unset, .unset, .unset, .unset, .unset]) (rest := [.ref b]) (hb hby at_8)
  obtain ⟨T2, A2, st2⟩ := own_put A1 hx hZ g_b sz_b (1 : Int32) (90 : Int32) 1 rfl ⟨by decide, by decide⟩ (pc := 13) (Ls := #[.val (.int p1), .val (.int p2), .val (.int p3), .unset, .unset, .unset, .unset, .unset]) (rest := [.ref b]) (hb hby at_13)
  obtain ⟨T3, A3, st3⟩ := own_put A2 hx hZ g_b sz_b (2 : Int32) (95 : Int32) 2 rfl ⟨by decide, by decide⟩ (pc := 18) (Ls := #[.val (.int p1), .val (.int p2), .val (.int p3), .unset, .unset, .unset, .unset, .unset]) (rest := [.ref b]) (hb hby at_18)
  obtain ⟨T4, A4, st4⟩ := own_put A3 hx hZ g_b sz_b (3 : Int32) (97 : Int32) 3 rfl ⟨by decide, by decide⟩ (pc := 23) (Ls := #[.val (.int p1), .val (.int p2), .val (.int p3), .unset, .unset, .unset, .unset, .unset]) (rest := [.ref b]) (hb hby at_23)
  obtain ⟨T5, A5, st5⟩ := own_put A4 hx hZ g_b sz_b (4 : Int32) (122 : Int32) 4 rfl ⟨by decide, by decide⟩ (pc := 28) (Ls := #[.val (.int p1), .val (.int p2), .val (.int p3), .unset, .unset, .unset, .unset, .unset]) (rest := [.ref b]) (hb hby at_28)
  obtain ⟨T6, A6, st6⟩ := own_put A5 hx hZ g_b sz_b (5 : Int32) (192 : Int32) 5 rfl ⟨by decide, by decide⟩ (pc := 34) (Ls := #[.val (.int p1), .val (.int p2), .val (.int p3), .unset, .unset, .unset, .unset, .unset]) (rest := [.ref b]) (hb hby at_34)
  obtain ⟨T7, A7, st7⟩ := own_put A6 hx hZ g_b sz_b (6 : Int32) (214 : Int32) 6 rfl ⟨by decide, by decide⟩ (pc := 41) (Ls := #[.val (.int p1), .val (.int p2), .val (.int p3), .unset, .unset, .unset, .unset, .unset]) (rest := [.ref b]) (hb hby at_41)
  obtain ⟨T8, A8, st8⟩ := own_put A7 hx hZ g_b sz_b (7 : Int32) (216 : Int32) 7 rfl ⟨by decide, by decide⟩ (pc := 48) (Ls := #[.val (.int p1), .val (.int p2), .val (.int p3), .unset, .unset, .unset, .unset, .unset]) (rest := [.ref b]) (hb hby at_48)
  refine ⟨T8, A8, fun target kt => ?_⟩
  show Steps p.tables e below (T.setTop (mkF m 4 #[.val (.int p1), .val (.int p2), .val (.int p3), .unset, .unset, .unset, .unset, .unset] [(.ref b)])) _
  refine XS.dup (own_AVat A) hx rfl (hb hby at_4) rfl rfl ?_
  show Steps p.tables e below (T.setTop (mkF m 5 #[.val (.int p1), .val (.int p2), .val (.int p3), .unset, .unset, .unset, .unset, .unset] [(.ref b), (.ref b)])) _
  refine XS.iconst (own_AVat A) hx rfl (hb hby at_5) ?_
  show Steps p.tables e below (T.setTop (mkF m 6 #[.val (.int p1), .val (.int p2), .val (.int p3), .unset, .unset, .unset, .unset, .unset] [(.int (0 : Int32)), (.ref b), (.ref b)])) _
  refine XS.bipush (own_AVat A) hx rfl (hb hby at_6) ?_
  show Steps p.tables e below (T.setTop (mkF m 8 #[.val (.int p1), .val (.int p2), .val (.int p3), .unset, .unset, .unset, .unset, .unset] [(.int (65 : Int32)), (.int (0 : Int32)), (.ref b), (.ref b)])) _
  refine st1 _ ?_
  show Steps p.tables e below (T1.setTop (mkF m 9 #[.val (.int p1), .val (.int p2), .val (.int p3), .unset, .unset, .unset, .unset, .unset] [(.ref b)])) _
  refine XS.dup (own_AVat A1) hx rfl (hb hby at_9) rfl rfl ?_
  show Steps p.tables e below (T1.setTop (mkF m 10 #[.val (.int p1), .val (.int p2), .val (.int p3), .unset, .unset, .unset, .unset, .unset] [(.ref b), (.ref b)])) _
  refine XS.iconst (own_AVat A1) hx rfl (hb hby at_10) ?_
  show Steps p.tables e below (T1.setTop (mkF m 11 #[.val (.int p1), .val (.int p2), .val (.int p3), .unset, .unset, .unset, .unset, .unset] [(.int (1 : Int32)), (.ref b), (.ref b)])) _
  refine XS.bipush (own_AVat A1) hx rfl (hb hby at_11) ?_
  show Steps p.tables e below (T1.setTop (mkF m 13 #[.val (.int p1), .val (.int p2), .val (.int p3), .unset, .unset, .unset, .unset, .unset] [(.int (90 : Int32)), (.int (1 : Int32)), (.ref b), (.ref b)])) _
  refine st2 _ ?_
  show Steps p.tables e below (T2.setTop (mkF m 14 #[.val (.int p1), .val (.int p2), .val (.int p3), .unset, .unset, .unset, .unset, .unset] [(.ref b)])) _
  refine XS.dup (own_AVat A2) hx rfl (hb hby at_14) rfl rfl ?_
  show Steps p.tables e below (T2.setTop (mkF m 15 #[.val (.int p1), .val (.int p2), .val (.int p3), .unset, .unset, .unset, .unset, .unset] [(.ref b), (.ref b)])) _
  refine XS.iconst (own_AVat A2) hx rfl (hb hby at_15) ?_
  show Steps p.tables e below (T2.setTop (mkF m 16 #[.val (.int p1), .val (.int p2), .val (.int p3), .unset, .unset, .unset, .unset, .unset] [(.int (2 : Int32)), (.ref b), (.ref b)])) _
  refine XS.bipush (own_AVat A2) hx rfl (hb hby at_16) ?_
  show Steps p.tables e below (T2.setTop (mkF m 18 #[.val (.int p1), .val (.int p2), .val (.int p3), .unset, .unset, .unset, .unset, .unset] [(.int (95 : Int32)), (.int (2 : Int32)), (.ref b), (.ref b)])) _
  refine st3 _ ?_
  show Steps p.tables e below (T3.setTop (mkF m 19 #[.val (.int p1), .val (.int p2), .val (.int p3), .unset, .unset, .unset, .unset, .unset] [(.ref b)])) _
  refine XS.dup (own_AVat A3) hx rfl (hb hby at_19) rfl rfl ?_
  show Steps p.tables e below (T3.setTop (mkF m 20 #[.val (.int p1), .val (.int p2), .val (.int p3), .unset, .unset, .unset, .unset, .unset] [(.ref b), (.ref b)])) _
  refine XS.iconst (own_AVat A3) hx rfl (hb hby at_20) ?_
  show Steps p.tables e below (T3.setTop (mkF m 21 #[.val (.int p1), .val (.int p2), .val (.int p3), .unset, .unset, .unset, .unset, .unset] [(.int (3 : Int32)), (.ref b), (.ref b)])) _
  refine XS.bipush (own_AVat A3) hx rfl (hb hby at_21) ?_
  show Steps p.tables e below (T3.setTop (mkF m 23 #[.val (.int p1), .val (.int p2), .val (.int p3), .unset, .unset, .unset, .unset, .unset] [(.int (97 : Int32)), (.int (3 : Int32)), (.ref b), (.ref b)])) _
  refine st4 _ ?_
  show Steps p.tables e below (T4.setTop (mkF m 24 #[.val (.int p1), .val (.int p2), .val (.int p3), .unset, .unset, .unset, .unset, .unset] [(.ref b)])) _
  refine XS.dup (own_AVat A4) hx rfl (hb hby at_24) rfl rfl ?_
  show Steps p.tables e below (T4.setTop (mkF m 25 #[.val (.int p1), .val (.int p2), .val (.int p3), .unset, .unset, .unset, .unset, .unset] [(.ref b), (.ref b)])) _
  refine XS.iconst (own_AVat A4) hx rfl (hb hby at_25) ?_
  show Steps p.tables e below (T4.setTop (mkF m 26 #[.val (.int p1), .val (.int p2), .val (.int p3), .unset, .unset, .unset, .unset, .unset] [(.int (4 : Int32)), (.ref b), (.ref b)])) _
  refine XS.bipush (own_AVat A4) hx rfl (hb hby at_26) ?_
  show Steps p.tables e below (T4.setTop (mkF m 28 #[.val (.int p1), .val (.int p2), .val (.int p3), .unset, .unset, .unset, .unset, .unset] [(.int (122 : Int32)), (.int (4 : Int32)), (.ref b), (.ref b)])) _
  refine st5 _ ?_
  show Steps p.tables e below (T5.setTop (mkF m 29 #[.val (.int p1), .val (.int p2), .val (.int p3), .unset, .unset, .unset, .unset, .unset] [(.ref b)])) _
  refine XS.dup (own_AVat A5) hx rfl (hb hby at_29) rfl rfl ?_
  show Steps p.tables e below (T5.setTop (mkF m 30 #[.val (.int p1), .val (.int p2), .val (.int p3), .unset, .unset, .unset, .unset, .unset] [(.ref b), (.ref b)])) _
  refine XS.iconst (own_AVat A5) hx rfl (hb hby at_30) ?_
  show Steps p.tables e below (T5.setTop (mkF m 31 #[.val (.int p1), .val (.int p2), .val (.int p3), .unset, .unset, .unset, .unset, .unset] [(.int (5 : Int32)), (.ref b), (.ref b)])) _
  refine XS.sipush (own_AVat A5) hx rfl (hb hby at_31) ?_
  show Steps p.tables e below (T5.setTop (mkF m 34 #[.val (.int p1), .val (.int p2), .val (.int p3), .unset, .unset, .unset, .unset, .unset] [(.int (192 : Int32)), (.int (5 : Int32)), (.ref b), (.ref b)])) _
  refine st6 _ ?_
  show Steps p.tables e below (T6.setTop (mkF m 35 #[.val (.int p1), .val (.int p2), .val (.int p3), .unset, .unset, .unset, .unset, .unset] [(.ref b)])) _
  refine XS.dup (own_AVat A6) hx rfl (hb hby at_35) rfl rfl ?_
  show Steps p.tables e below (T6.setTop (mkF m 36 #[.val (.int p1), .val (.int p2), .val (.int p3), .unset, .unset, .unset, .unset, .unset] [(.ref b), (.ref b)])) _
  refine XS.bipush (own_AVat A6) hx rfl (hb hby at_36) ?_
  show Steps p.tables e below (T6.setTop (mkF m 38 #[.val (.int p1), .val (.int p2), .val (.int p3), .unset, .unset, .unset, .unset, .unset] [(.int (6 : Int32)), (.ref b), (.ref b)])) _
  refine XS.sipush (own_AVat A6) hx rfl (hb hby at_38) ?_
  show Steps p.tables e below (T6.setTop (mkF m 41 #[.val (.int p1), .val (.int p2), .val (.int p3), .unset, .unset, .unset, .unset, .unset] [(.int (214 : Int32)), (.int (6 : Int32)), (.ref b), (.ref b)])) _
  refine st7 _ ?_
  show Steps p.tables e below (T7.setTop (mkF m 42 #[.val (.int p1), .val (.int p2), .val (.int p3), .unset, .unset, .unset, .unset, .unset] [(.ref b)])) _
  refine XS.dup (own_AVat A7) hx rfl (hb hby at_42) rfl rfl ?_
  show Steps p.tables e below (T7.setTop (mkF m 43 #[.val (.int p1), .val (.int p2), .val (.int p3), .unset, .unset, .unset, .unset, .unset] [(.ref b), (.ref b)])) _
  refine XS.bipush (own_AVat A7) hx rfl (hb hby at_43) ?_
  show Steps p.tables e below (T7.setTop (mkF m 45 #[.val (.int p1), .val (.int p2), .val (.int p3), .unset, .unset, .unset, .unset, .unset] [(.int (7 : Int32)), (.ref b), (.ref b)])) _
  refine XS.sipush (own_AVat A7) hx rfl (hb hby at_45) ?_
  show Steps p.tables e below (T7.setTop (mkF m 48 #[.val (.int p1), .val (.int p2), .val (.int p3), .unset, .unset, .unset, .unset, .unset] [(.int (216 : Int32)), (.int (7 : Int32)), (.ref b), (.ref b)])) _
  refine st8 _ ?_
  exact kt
set_option maxRecDepth 65536 in
set_option maxHeartbeats 40000000 in
theorem own_fill_49 {p : Program} {l : Launch} {e : Env} {s : State} {m : MethodId} {below : List Frame} {meth : Method} {c : Code} {Z : State} {a0 : Array Value} {h0 : Heap} {n0 : Nat} {b : Addr} {T : State} {p1 p2 p3 : Int32} (hx : p.tables.exec = Jvm.exec) (hZ : Z.Warmed39 s.vm) (hw : ∀ d ∈ tables_1, d.before a0 Z = true) (hby : c.code = code) (hown : s.vm.findClass "com/example/fallbak/fallbak/xpath/QNameIsNameStartCharPinLaw" = some m.cls) (g_b : n0 ≤ b) (sz_b : h0.size ≤ b) (A : own_AV p l e room_1 s m #[(.int p1), (.int p2), (.int p3)] below meth c Z h0 n0 b T) : ∃ T', own_AV p l e room_1 s m #[(.int p1), (.int p2), (.int p3)] below meth c Z h0 n0 b T' ∧ ∀ target, Steps p.tables e below (T'.setTop (mkF m 105 #[.val (.int p1), .val (.int p2), .val (.int p3), .unset, .unset, .unset, .unset, .unset] [(.ref b)])) target → Steps p.tables e below (T.setTop (mkF m 49 #[.val (.int p1), .val (.int p2), .val (.int p3), .unset, .unset, .unset, .unset, .unset] [(.ref b)])) target := by
  obtain ⟨T1, A1, st1⟩ := own_put A hx hZ g_b sz_b (8 : Int32) (246 : Int32) 8 rfl ⟨by decide, by decide⟩ (pc := 55) (Ls := #[.val (.int p1), .val (.int p2), .val (.int p3), .unset, .unset, .unset, .unset, .unset]) (rest := [.ref b]) (hb hby at_55)
  obtain ⟨T2, A2, st2⟩ := own_put A1 hx hZ g_b sz_b (9 : Int32) (248 : Int32) 9 rfl ⟨by decide, by decide⟩ (pc := 62) (Ls := #[.val (.int p1), .val (.int p2), .val (.int p3), .unset, .unset, .unset, .unset, .unset]) (rest := [.ref b]) (hb hby at_62)
  obtain ⟨T3, A3, st3⟩ := own_put A2 hx hZ g_b sz_b (10 : Int32) (767 : Int32) 10 rfl ⟨by decide, by decide⟩ (pc := 69) (Ls := #[.val (.int p1), .val (.int p2), .val (.int p3), .unset, .unset, .unset, .unset, .unset]) (rest := [.ref b]) (hb hby at_69)
  obtain ⟨T4, A4, st4⟩ := own_put A3 hx hZ g_b sz_b (11 : Int32) (880 : Int32) 11 rfl ⟨by decide, by decide⟩ (pc := 76) (Ls := #[.val (.int p1), .val (.int p2), .val (.int p3), .unset, .unset, .unset, .unset, .unset]) (rest := [.ref b]) (hb hby at_76)
  obtain ⟨T5, A5, st5⟩ := own_put A4 hx hZ g_b sz_b (12 : Int32) (893 : Int32) 12 rfl ⟨by decide, by decide⟩ (pc := 83) (Ls := #[.val (.int p1), .val (.int p2), .val (.int p3), .unset, .unset, .unset, .unset, .unset]) (rest := [.ref b]) (hb hby at_83)
  obtain ⟨T6, A6, st6⟩ := own_put A5 hx hZ g_b sz_b (13 : Int32) (895 : Int32) 13 rfl ⟨by decide, by decide⟩ (pc := 90) (Ls := #[.val (.int p1), .val (.int p2), .val (.int p3), .unset, .unset, .unset, .unset, .unset]) (rest := [.ref b]) (hb hby at_90)
  obtain ⟨T7, A7, st7⟩ := own_put A6 hx hZ g_b sz_b (14 : Int32) (8191 : Int32) 14 rfl ⟨by decide, by decide⟩ (pc := 97) (Ls := #[.val (.int p1), .val (.int p2), .val (.int p3), .unset, .unset, .unset, .unset, .unset]) (rest := [.ref b]) (hb hby at_97)
  obtain ⟨T8, A8, st8⟩ := own_put A7 hx hZ g_b sz_b (15 : Int32) (8204 : Int32) 15 rfl ⟨by decide, by decide⟩ (pc := 104) (Ls := #[.val (.int p1), .val (.int p2), .val (.int p3), .unset, .unset, .unset, .unset, .unset]) (rest := [.ref b]) (hb hby at_104)
  refine ⟨T8, A8, fun target kt => ?_⟩
  show Steps p.tables e below (T.setTop (mkF m 49 #[.val (.int p1), .val (.int p2), .val (.int p3), .unset, .unset, .unset, .unset, .unset] [(.ref b)])) _
  refine XS.dup (own_AVat A) hx rfl (hb hby at_49) rfl rfl ?_
  show Steps p.tables e below (T.setTop (mkF m 50 #[.val (.int p1), .val (.int p2), .val (.int p3), .unset, .unset, .unset, .unset, .unset] [(.ref b), (.ref b)])) _
  refine XS.bipush (own_AVat A) hx rfl (hb hby at_50) ?_
  show Steps p.tables e below (T.setTop (mkF m 52 #[.val (.int p1), .val (.int p2), .val (.int p3), .unset, .unset, .unset, .unset, .unset] [(.int (8 : Int32)), (.ref b), (.ref b)])) _
  refine XS.sipush (own_AVat A) hx rfl (hb hby at_52) ?_
  show Steps p.tables e below (T.setTop (mkF m 55 #[.val (.int p1), .val (.int p2), .val (.int p3), .unset, .unset, .unset, .unset, .unset] [(.int (246 : Int32)), (.int (8 : Int32)), (.ref b), (.ref b)])) _
  refine st1 _ ?_
  show Steps p.tables e below (T1.setTop (mkF m 56 #[.val (.int p1), .val (.int p2), .val (.int p3), .unset, .unset, .unset, .unset, .unset] [(.ref b)])) _
  refine XS.dup (own_AVat A1) hx rfl (hb hby at_56) rfl rfl ?_
  show Steps p.tables e below (T1.setTop (mkF m 57 #[.val (.int p1), .val (.int p2), .val (.int p3), .unset, .unset, .unset, .unset, .unset] [(.ref b), (.ref b)])) _
  refine XS.bipush (own_AVat A1) hx rfl (hb hby at_57) ?_
  show Steps p.tables e below (T1.setTop (mkF m 59 #[.val (.int p1), .val (.int p2), .val (.int p3), .unset, .unset, .unset, .unset, .unset] [(.int (9 : Int32)), (.ref b), (.ref b)])) _
  refine XS.sipush (own_AVat A1) hx rfl (hb hby at_59) ?_
  show Steps p.tables e below (T1.setTop (mkF m 62 #[.val (.int p1), .val (.int p2), .val (.int p3), .unset, .unset, .unset, .unset, .unset] [(.int (248 : Int32)), (.int (9 : Int32)), (.ref b), (.ref b)])) _
  refine st2 _ ?_
  show Steps p.tables e below (T2.setTop (mkF m 63 #[.val (.int p1), .val (.int p2), .val (.int p3), .unset, .unset, .unset, .unset, .unset] [(.ref b)])) _
  refine XS.dup (own_AVat A2) hx rfl (hb hby at_63) rfl rfl ?_
  show Steps p.tables e below (T2.setTop (mkF m 64 #[.val (.int p1), .val (.int p2), .val (.int p3), .unset, .unset, .unset, .unset, .unset] [(.ref b), (.ref b)])) _
  refine XS.bipush (own_AVat A2) hx rfl (hb hby at_64) ?_
  show Steps p.tables e below (T2.setTop (mkF m 66 #[.val (.int p1), .val (.int p2), .val (.int p3), .unset, .unset, .unset, .unset, .unset] [(.int (10 : Int32)), (.ref b), (.ref b)])) _
  refine XS.sipush (own_AVat A2) hx rfl (hb hby at_66) ?_
  show Steps p.tables e below (T2.setTop (mkF m 69 #[.val (.int p1), .val (.int p2), .val (.int p3), .unset, .unset, .unset, .unset, .unset] [(.int (767 : Int32)), (.int (10 : Int32)), (.ref b), (.ref b)])) _
  refine st3 _ ?_
  show Steps p.tables e below (T3.setTop (mkF m 70 #[.val (.int p1), .val (.int p2), .val (.int p3), .unset, .unset, .unset, .unset, .unset] [(.ref b)])) _
  refine XS.dup (own_AVat A3) hx rfl (hb hby at_70) rfl rfl ?_
  show Steps p.tables e below (T3.setTop (mkF m 71 #[.val (.int p1), .val (.int p2), .val (.int p3), .unset, .unset, .unset, .unset, .unset] [(.ref b), (.ref b)])) _
  refine XS.bipush (own_AVat A3) hx rfl (hb hby at_71) ?_
  show Steps p.tables e below (T3.setTop (mkF m 73 #[.val (.int p1), .val (.int p2), .val (.int p3), .unset, .unset, .unset, .unset, .unset] [(.int (11 : Int32)), (.ref b), (.ref b)])) _
  refine XS.sipush (own_AVat A3) hx rfl (hb hby at_73) ?_
  show Steps p.tables e below (T3.setTop (mkF m 76 #[.val (.int p1), .val (.int p2), .val (.int p3), .unset, .unset, .unset, .unset, .unset] [(.int (880 : Int32)), (.int (11 : Int32)), (.ref b), (.ref b)])) _
  refine st4 _ ?_
  show Steps p.tables e below (T4.setTop (mkF m 77 #[.val (.int p1), .val (.int p2), .val (.int p3), .unset, .unset, .unset, .unset, .unset] [(.ref b)])) _
  refine XS.dup (own_AVat A4) hx rfl (hb hby at_77) rfl rfl ?_
  show Steps p.tables e below (T4.setTop (mkF m 78 #[.val (.int p1), .val (.int p2), .val (.int p3), .unset, .unset, .unset, .unset, .unset] [(.ref b), (.ref b)])) _
  refine XS.bipush (own_AVat A4) hx rfl (hb hby at_78) ?_
  show Steps p.tables e below (T4.setTop (mkF m 80 #[.val (.int p1), .val (.int p2), .val (.int p3), .unset, .unset, .unset, .unset, .unset] [(.int (12 : Int32)), (.ref b), (.ref b)])) _
  refine XS.sipush (own_AVat A4) hx rfl (hb hby at_80) ?_
  show Steps p.tables e below (T4.setTop (mkF m 83 #[.val (.int p1), .val (.int p2), .val (.int p3), .unset, .unset, .unset, .unset, .unset] [(.int (893 : Int32)), (.int (12 : Int32)), (.ref b), (.ref b)])) _
  refine st5 _ ?_
  show Steps p.tables e below (T5.setTop (mkF m 84 #[.val (.int p1), .val (.int p2), .val (.int p3), .unset, .unset, .unset, .unset, .unset] [(.ref b)])) _
  refine XS.dup (own_AVat A5) hx rfl (hb hby at_84) rfl rfl ?_
  show Steps p.tables e below (T5.setTop (mkF m 85 #[.val (.int p1), .val (.int p2), .val (.int p3), .unset, .unset, .unset, .unset, .unset] [(.ref b), (.ref b)])) _
  refine XS.bipush (own_AVat A5) hx rfl (hb hby at_85) ?_
  show Steps p.tables e below (T5.setTop (mkF m 87 #[.val (.int p1), .val (.int p2), .val (.int p3), .unset, .unset, .unset, .unset, .unset] [(.int (13 : Int32)), (.ref b), (.ref b)])) _
  refine XS.sipush (own_AVat A5) hx rfl (hb hby at_87) ?_
  show Steps p.tables e below (T5.setTop (mkF m 90 #[.val (.int p1), .val (.int p2), .val (.int p3), .unset, .unset, .unset, .unset, .unset] [(.int (895 : Int32)), (.int (13 : Int32)), (.ref b), (.ref b)])) _
  refine st6 _ ?_
  show Steps p.tables e below (T6.setTop (mkF m 91 #[.val (.int p1), .val (.int p2), .val (.int p3), .unset, .unset, .unset, .unset, .unset] [(.ref b)])) _
  refine XS.dup (own_AVat A6) hx rfl (hb hby at_91) rfl rfl ?_
  show Steps p.tables e below (T6.setTop (mkF m 92 #[.val (.int p1), .val (.int p2), .val (.int p3), .unset, .unset, .unset, .unset, .unset] [(.ref b), (.ref b)])) _
  refine XS.bipush (own_AVat A6) hx rfl (hb hby at_92) ?_
  show Steps p.tables e below (T6.setTop (mkF m 94 #[.val (.int p1), .val (.int p2), .val (.int p3), .unset, .unset, .unset, .unset, .unset] [(.int (14 : Int32)), (.ref b), (.ref b)])) _
  refine XS.sipush (own_AVat A6) hx rfl (hb hby at_94) ?_
  show Steps p.tables e below (T6.setTop (mkF m 97 #[.val (.int p1), .val (.int p2), .val (.int p3), .unset, .unset, .unset, .unset, .unset] [(.int (8191 : Int32)), (.int (14 : Int32)), (.ref b), (.ref b)])) _
  refine st7 _ ?_
  show Steps p.tables e below (T7.setTop (mkF m 98 #[.val (.int p1), .val (.int p2), .val (.int p3), .unset, .unset, .unset, .unset, .unset] [(.ref b)])) _
  refine XS.dup (own_AVat A7) hx rfl (hb hby at_98) rfl rfl ?_
  show Steps p.tables e below (T7.setTop (mkF m 99 #[.val (.int p1), .val (.int p2), .val (.int p3), .unset, .unset, .unset, .unset, .unset] [(.ref b), (.ref b)])) _
  refine XS.bipush (own_AVat A7) hx rfl (hb hby at_99) ?_
  show Steps p.tables e below (T7.setTop (mkF m 101 #[.val (.int p1), .val (.int p2), .val (.int p3), .unset, .unset, .unset, .unset, .unset] [(.int (15 : Int32)), (.ref b), (.ref b)])) _
  refine XS.sipush (own_AVat A7) hx rfl (hb hby at_101) ?_
  show Steps p.tables e below (T7.setTop (mkF m 104 #[.val (.int p1), .val (.int p2), .val (.int p3), .unset, .unset, .unset, .unset, .unset] [(.int (8204 : Int32)), (.int (15 : Int32)), (.ref b), (.ref b)])) _
  refine st8 _ ?_
  exact kt
set_option maxRecDepth 65536 in
set_option maxHeartbeats 40000000 in
theorem own_fill_105 {p : Program} {l : Launch} {e : Env} {s : State} {m : MethodId} {below : List Frame} {meth : Method} {c : Code} {Z : State} {a0 : Array Value} {h0 : Heap} {n0 : Nat} {b : Addr} {T : State} {p1 p2 p3 : Int32} (hx : p.tables.exec = Jvm.exec) (hZ : Z.Warmed39 s.vm) (hw : ∀ d ∈ tables_1, d.before a0 Z = true) (hby : c.code = code) (hown : s.vm.findClass "com/example/fallbak/fallbak/xpath/QNameIsNameStartCharPinLaw" = some m.cls) (g_b : n0 ≤ b) (sz_b : h0.size ≤ b) (A : own_AV p l e room_1 s m #[(.int p1), (.int p2), (.int p3)] below meth c Z h0 n0 b T) : ∃ T', own_AV p l e room_1 s m #[(.int p1), (.int p2), (.int p3)] below meth c Z h0 n0 b T' ∧ ∀ target, Steps p.tables e below (T'.setTop (mkF m 159 #[.val (.int p1), .val (.int p2), .val (.int p3), .unset, .unset, .unset, .unset, .unset] [(.ref b)])) target → Steps p.tables e below (T.setTop (mkF m 105 #[.val (.int p1), .val (.int p2), .val (.int p3), .unset, .unset, .unset, .unset, .unset] [(.ref b)])) target := by
  obtain ⟨T1, A1, st1⟩ := own_put A hx hZ g_b sz_b (16 : Int32) (8205 : Int32) 16 rfl ⟨by decide, by decide⟩ (pc := 111) (Ls := #[.val (.int p1), .val (.int p2), .val (.int p3), .unset, .unset, .unset, .unset, .unset]) (rest := [.ref b]) (hb hby at_111)
  obtain ⟨T2, A2, st2⟩ := own_put A1 hx hZ g_b sz_b (17 : Int32) (8304 : Int32) 17 rfl ⟨by decide, by decide⟩ (pc := 118) (Ls := #[.val (.int p1), .val (.int p2), .val (.int p3), .unset, .unset, .unset, .unset, .unset]) (rest := [.ref b]) (hb hby at_118)
  obtain ⟨T3, A3, st3⟩ := own_put A2 hx hZ g_b sz_b (18 : Int32) (8591 : Int32) 18 rfl ⟨by decide, by decide⟩ (pc := 125) (Ls := #[.val (.int p1), .val (.int p2), .val (.int p3), .unset, .unset, .unset, .unset, .unset]) (rest := [.ref b]) (hb hby at_125)
  obtain ⟨T4, A4, st4⟩ := own_put A3 hx hZ g_b sz_b (19 : Int32) (11264 : Int32) 19 rfl ⟨by decide, by decide⟩ (pc := 132) (Ls := #[.val (.int p1), .val (.int p2), .val (.int p3), .unset, .unset, .unset, .unset, .unset]) (rest := [.ref b]) (hb hby at_132)
  obtain ⟨T5, A5, st5⟩ := own_put A4 hx hZ g_b sz_b (20 : Int32) (12271 : Int32) 20 rfl ⟨by decide, by decide⟩ (pc := 139) (Ls := #[.val (.int p1), .val (.int p2), .val (.int p3), .unset, .unset, .unset, .unset, .unset]) (rest := [.ref b]) (hb hby at_139)
  obtain ⟨T6, A6, st6⟩ := own_put A5 hx hZ g_b sz_b (21 : Int32) (12289 : Int32) 21 rfl ⟨by decide, by decide⟩ (pc := 146) (Ls := #[.val (.int p1), .val (.int p2), .val (.int p3), .unset, .unset, .unset, .unset, .unset]) (rest := [.ref b]) (hb hby at_146)
  obtain ⟨_, _, _, Xs7, -⟩ := id A6
  obtain ⟨T7, A7, st7⟩ := own_put A6 hx hZ g_b sz_b (22 : Int32) (55295 : Int32) 22 rfl ⟨by decide, by decide⟩ (pc := 152) (Ls := #[.val (.int p1), .val (.int p2), .val (.int p3), .unset, .unset, .unset, .unset, .unset]) (rest := [.ref b]) (hb hby at_152)
  obtain ⟨_, _, _, Xs8, -⟩ := id A7
  obtain ⟨T8, A8, st8⟩ := own_put A7 hx hZ g_b sz_b (23 : Int32) (63744 : Int32) 23 rfl ⟨by decide, by decide⟩ (pc := 158) (Ls := #[.val (.int p1), .val (.int p2), .val (.int p3), .unset, .unset, .unset, .unset, .unset]) (rest := [.ref b]) (hb hby at_158)
  refine ⟨T8, A8, fun target kt => ?_⟩
  show Steps p.tables e below (T.setTop (mkF m 105 #[.val (.int p1), .val (.int p2), .val (.int p3), .unset, .unset, .unset, .unset, .unset] [(.ref b)])) _
  refine XS.dup (own_AVat A) hx rfl (hb hby at_105) rfl rfl ?_
  show Steps p.tables e below (T.setTop (mkF m 106 #[.val (.int p1), .val (.int p2), .val (.int p3), .unset, .unset, .unset, .unset, .unset] [(.ref b), (.ref b)])) _
  refine XS.bipush (own_AVat A) hx rfl (hb hby at_106) ?_
  show Steps p.tables e below (T.setTop (mkF m 108 #[.val (.int p1), .val (.int p2), .val (.int p3), .unset, .unset, .unset, .unset, .unset] [(.int (16 : Int32)), (.ref b), (.ref b)])) _
  refine XS.sipush (own_AVat A) hx rfl (hb hby at_108) ?_
  show Steps p.tables e below (T.setTop (mkF m 111 #[.val (.int p1), .val (.int p2), .val (.int p3), .unset, .unset, .unset, .unset, .unset] [(.int (8205 : Int32)), (.int (16 : Int32)), (.ref b), (.ref b)])) _
  refine st1 _ ?_
  show Steps p.tables e below (T1.setTop (mkF m 112 #[.val (.int p1), .val (.int p2), .val (.int p3), .unset, .unset, .unset, .unset, .unset] [(.ref b)])) _
  refine XS.dup (own_AVat A1) hx rfl (hb hby at_112) rfl rfl ?_
  show Steps p.tables e below (T1.setTop (mkF m 113 #[.val (.int p1), .val (.int p2), .val (.int p3), .unset, .unset, .unset, .unset, .unset] [(.ref b), (.ref b)])) _
  refine XS.bipush (own_AVat A1) hx rfl (hb hby at_113) ?_
  show Steps p.tables e below (T1.setTop (mkF m 115 #[.val (.int p1), .val (.int p2), .val (.int p3), .unset, .unset, .unset, .unset, .unset] [(.int (17 : Int32)), (.ref b), (.ref b)])) _
  refine XS.sipush (own_AVat A1) hx rfl (hb hby at_115) ?_
  show Steps p.tables e below (T1.setTop (mkF m 118 #[.val (.int p1), .val (.int p2), .val (.int p3), .unset, .unset, .unset, .unset, .unset] [(.int (8304 : Int32)), (.int (17 : Int32)), (.ref b), (.ref b)])) _
  refine st2 _ ?_
  show Steps p.tables e below (T2.setTop (mkF m 119 #[.val (.int p1), .val (.int p2), .val (.int p3), .unset, .unset, .unset, .unset, .unset] [(.ref b)])) _
  refine XS.dup (own_AVat A2) hx rfl (hb hby at_119) rfl rfl ?_
  show Steps p.tables e below (T2.setTop (mkF m 120 #[.val (.int p1), .val (.int p2), .val (.int p3), .unset, .unset, .unset, .unset, .unset] [(.ref b), (.ref b)])) _
  refine XS.bipush (own_AVat A2) hx rfl (hb hby at_120) ?_
  show Steps p.tables e below (T2.setTop (mkF m 122 #[.val (.int p1), .val (.int p2), .val (.int p3), .unset, .unset, .unset, .unset, .unset] [(.int (18 : Int32)), (.ref b), (.ref b)])) _
  refine XS.sipush (own_AVat A2) hx rfl (hb hby at_122) ?_
  show Steps p.tables e below (T2.setTop (mkF m 125 #[.val (.int p1), .val (.int p2), .val (.int p3), .unset, .unset, .unset, .unset, .unset] [(.int (8591 : Int32)), (.int (18 : Int32)), (.ref b), (.ref b)])) _
  refine st3 _ ?_
  show Steps p.tables e below (T3.setTop (mkF m 126 #[.val (.int p1), .val (.int p2), .val (.int p3), .unset, .unset, .unset, .unset, .unset] [(.ref b)])) _
  refine XS.dup (own_AVat A3) hx rfl (hb hby at_126) rfl rfl ?_
  show Steps p.tables e below (T3.setTop (mkF m 127 #[.val (.int p1), .val (.int p2), .val (.int p3), .unset, .unset, .unset, .unset, .unset] [(.ref b), (.ref b)])) _
  refine XS.bipush (own_AVat A3) hx rfl (hb hby at_127) ?_
  show Steps p.tables e below (T3.setTop (mkF m 129 #[.val (.int p1), .val (.int p2), .val (.int p3), .unset, .unset, .unset, .unset, .unset] [(.int (19 : Int32)), (.ref b), (.ref b)])) _
  refine XS.sipush (own_AVat A3) hx rfl (hb hby at_129) ?_
  show Steps p.tables e below (T3.setTop (mkF m 132 #[.val (.int p1), .val (.int p2), .val (.int p3), .unset, .unset, .unset, .unset, .unset] [(.int (11264 : Int32)), (.int (19 : Int32)), (.ref b), (.ref b)])) _
  refine st4 _ ?_
  show Steps p.tables e below (T4.setTop (mkF m 133 #[.val (.int p1), .val (.int p2), .val (.int p3), .unset, .unset, .unset, .unset, .unset] [(.ref b)])) _
  refine XS.dup (own_AVat A4) hx rfl (hb hby at_133) rfl rfl ?_
  show Steps p.tables e below (T4.setTop (mkF m 134 #[.val (.int p1), .val (.int p2), .val (.int p3), .unset, .unset, .unset, .unset, .unset] [(.ref b), (.ref b)])) _
  refine XS.bipush (own_AVat A4) hx rfl (hb hby at_134) ?_
  show Steps p.tables e below (T4.setTop (mkF m 136 #[.val (.int p1), .val (.int p2), .val (.int p3), .unset, .unset, .unset, .unset, .unset] [(.int (20 : Int32)), (.ref b), (.ref b)])) _
  refine XS.sipush (own_AVat A4) hx rfl (hb hby at_136) ?_
  show Steps p.tables e below (T4.setTop (mkF m 139 #[.val (.int p1), .val (.int p2), .val (.int p3), .unset, .unset, .unset, .unset, .unset] [(.int (12271 : Int32)), (.int (20 : Int32)), (.ref b), (.ref b)])) _
  refine st5 _ ?_
  show Steps p.tables e below (T5.setTop (mkF m 140 #[.val (.int p1), .val (.int p2), .val (.int p3), .unset, .unset, .unset, .unset, .unset] [(.ref b)])) _
  refine XS.dup (own_AVat A5) hx rfl (hb hby at_140) rfl rfl ?_
  show Steps p.tables e below (T5.setTop (mkF m 141 #[.val (.int p1), .val (.int p2), .val (.int p3), .unset, .unset, .unset, .unset, .unset] [(.ref b), (.ref b)])) _
  refine XS.bipush (own_AVat A5) hx rfl (hb hby at_141) ?_
  show Steps p.tables e below (T5.setTop (mkF m 143 #[.val (.int p1), .val (.int p2), .val (.int p3), .unset, .unset, .unset, .unset, .unset] [(.int (21 : Int32)), (.ref b), (.ref b)])) _
  refine XS.sipush (own_AVat A5) hx rfl (hb hby at_143) ?_
  show Steps p.tables e below (T5.setTop (mkF m 146 #[.val (.int p1), .val (.int p2), .val (.int p3), .unset, .unset, .unset, .unset, .unset] [(.int (12289 : Int32)), (.int (21 : Int32)), (.ref b), (.ref b)])) _
  refine st6 _ ?_
  show Steps p.tables e below (T6.setTop (mkF m 147 #[.val (.int p1), .val (.int p2), .val (.int p3), .unset, .unset, .unset, .unset, .unset] [(.ref b)])) _
  refine XS.dup (own_AVat A6) hx rfl (hb hby at_147) rfl rfl ?_
  show Steps p.tables e below (T6.setTop (mkF m 148 #[.val (.int p1), .val (.int p2), .val (.int p3), .unset, .unset, .unset, .unset, .unset] [(.ref b), (.ref b)])) _
  refine XS.bipush (own_AVat A6) hx rfl (hb hby at_148) ?_
  show Steps p.tables e below (T6.setTop (mkF m 150 #[.val (.int p1), .val (.int p2), .val (.int p3), .unset, .unset, .unset, .unset, .unset] [(.int (22 : Int32)), (.ref b), (.ref b)])) _
  refine Xs7.ldcInt hx hown (mvT hZ (hw _ (List.mem_of_getElem? (i := 1) rfl))) (g := (mkF m 150 #[.val (.int p1), .val (.int p2), .val (.int p3), .unset, .unset, .unset, .unset, .unset] [(.int (22 : Int32)), (.ref b), (.ref b)])) rfl (hb hby at_150) _ ?_
  show Steps p.tables e below (T6.setTop (mkF m 152 #[.val (.int p1), .val (.int p2), .val (.int p3), .unset, .unset, .unset, .unset, .unset] [(.int (55295 : Int32)), (.int (22 : Int32)), (.ref b), (.ref b)])) _
  refine st7 _ ?_
  show Steps p.tables e below (T7.setTop (mkF m 153 #[.val (.int p1), .val (.int p2), .val (.int p3), .unset, .unset, .unset, .unset, .unset] [(.ref b)])) _
  refine XS.dup (own_AVat A7) hx rfl (hb hby at_153) rfl rfl ?_
  show Steps p.tables e below (T7.setTop (mkF m 154 #[.val (.int p1), .val (.int p2), .val (.int p3), .unset, .unset, .unset, .unset, .unset] [(.ref b), (.ref b)])) _
  refine XS.bipush (own_AVat A7) hx rfl (hb hby at_154) ?_
  show Steps p.tables e below (T7.setTop (mkF m 156 #[.val (.int p1), .val (.int p2), .val (.int p3), .unset, .unset, .unset, .unset, .unset] [(.int (23 : Int32)), (.ref b), (.ref b)])) _
  refine Xs8.ldcInt hx hown (mvT hZ (hw _ (List.mem_of_getElem? (i := 2) rfl))) (g := (mkF m 156 #[.val (.int p1), .val (.int p2), .val (.int p3), .unset, .unset, .unset, .unset, .unset] [(.int (23 : Int32)), (.ref b), (.ref b)])) rfl (hb hby at_156) _ ?_
  show Steps p.tables e below (T7.setTop (mkF m 158 #[.val (.int p1), .val (.int p2), .val (.int p3), .unset, .unset, .unset, .unset, .unset] [(.int (63744 : Int32)), (.int (23 : Int32)), (.ref b), (.ref b)])) _
  refine st8 _ ?_
  exact kt
set_option maxRecDepth 65536 in
set_option maxHeartbeats 40000000 in
theorem own_fill_159 {p : Program} {l : Launch} {e : Env} {s : State} {m : MethodId} {below : List Frame} {meth : Method} {c : Code} {Z : State} {a0 : Array Value} {h0 : Heap} {n0 : Nat} {b : Addr} {T : State} {p1 p2 p3 : Int32} (hx : p.tables.exec = Jvm.exec) (hZ : Z.Warmed39 s.vm) (hw : ∀ d ∈ tables_1, d.before a0 Z = true) (hby : c.code = code) (hown : s.vm.findClass "com/example/fallbak/fallbak/xpath/QNameIsNameStartCharPinLaw" = some m.cls) (g_b : n0 ≤ b) (sz_b : h0.size ≤ b) (A : own_AV p l e room_1 s m #[(.int p1), (.int p2), (.int p3)] below meth c Z h0 n0 b T) : ∃ T', own_AV p l e room_1 s m #[(.int p1), (.int p2), (.int p3)] below meth c Z h0 n0 b T' ∧ ∀ target, Steps p.tables e below (T'.setTop (mkF m 200 #[.val (.int p1), .val (.int p2), .val (.int p3), .unset, .unset, .unset, .unset, .unset] [(.ref b)])) target → Steps p.tables e below (T.setTop (mkF m 159 #[.val (.int p1), .val (.int p2), .val (.int p3), .unset, .unset, .unset, .unset, .unset] [(.ref b)])) target := by
  obtain ⟨_, _, _, Xs1, -⟩ := id A
  obtain ⟨T1, A1, st1⟩ := own_put A hx hZ g_b sz_b (24 : Int32) (64975 : Int32) 24 rfl ⟨by decide, by decide⟩ (pc := 164) (Ls := #[.val (.int p1), .val (.int p2), .val (.int p3), .unset, .unset, .unset, .unset, .unset]) (rest := [.ref b]) (hb hby at_164)
  obtain ⟨_, _, _, Xs2, -⟩ := id A1
  obtain ⟨T2, A2, st2⟩ := own_put A1 hx hZ g_b sz_b (25 : Int32) (65008 : Int32) 25 rfl ⟨by decide, by decide⟩ (pc := 170) (Ls := #[.val (.int p1), .val (.int p2), .val (.int p3), .unset, .unset, .unset, .unset, .unset]) (rest := [.ref b]) (hb hby at_170)
  obtain ⟨_, _, _, Xs3, -⟩ := id A2
  obtain ⟨T3, A3, st3⟩ := own_put A2 hx hZ g_b sz_b (26 : Int32) (65533 : Int32) 26 rfl ⟨by decide, by decide⟩ (pc := 176) (Ls := #[.val (.int p1), .val (.int p2), .val (.int p3), .unset, .unset, .unset, .unset, .unset]) (rest := [.ref b]) (hb hby at_176)
  obtain ⟨_, _, _, Xs4, -⟩ := id A3
  obtain ⟨T4, A4, st4⟩ := own_put A3 hx hZ g_b sz_b (27 : Int32) (65536 : Int32) 27 rfl ⟨by decide, by decide⟩ (pc := 182) (Ls := #[.val (.int p1), .val (.int p2), .val (.int p3), .unset, .unset, .unset, .unset, .unset]) (rest := [.ref b]) (hb hby at_182)
  obtain ⟨_, _, _, Xs5, -⟩ := id A4
  obtain ⟨T5, A5, st5⟩ := own_put A4 hx hZ g_b sz_b (28 : Int32) (983039 : Int32) 28 rfl ⟨by decide, by decide⟩ (pc := 188) (Ls := #[.val (.int p1), .val (.int p2), .val (.int p3), .unset, .unset, .unset, .unset, .unset]) (rest := [.ref b]) (hb hby at_188)
  obtain ⟨T6, A6, st6⟩ := own_put A5 hx hZ g_b sz_b (29 : Int32) (58 : Int32) 29 rfl ⟨by decide, by decide⟩ (pc := 194) (Ls := #[.val (.int p1), .val (.int p2), .val (.int p3), .unset, .unset, .unset, .unset, .unset]) (rest := [.ref b]) (hb hby at_194)
  obtain ⟨T7, A7, st7⟩ := own_put A6 hx hZ g_b sz_b (30 : Int32) (0 : Int32) 30 rfl ⟨by decide, by decide⟩ (pc := 199) (Ls := #[.val (.int p1), .val (.int p2), .val (.int p3), .unset, .unset, .unset, .unset, .unset]) (rest := [.ref b]) (hb hby at_199)
  refine ⟨T7, A7, fun target kt => ?_⟩
  show Steps p.tables e below (T.setTop (mkF m 159 #[.val (.int p1), .val (.int p2), .val (.int p3), .unset, .unset, .unset, .unset, .unset] [(.ref b)])) _
  refine XS.dup (own_AVat A) hx rfl (hb hby at_159) rfl rfl ?_
  show Steps p.tables e below (T.setTop (mkF m 160 #[.val (.int p1), .val (.int p2), .val (.int p3), .unset, .unset, .unset, .unset, .unset] [(.ref b), (.ref b)])) _
  refine XS.bipush (own_AVat A) hx rfl (hb hby at_160) ?_
  show Steps p.tables e below (T.setTop (mkF m 162 #[.val (.int p1), .val (.int p2), .val (.int p3), .unset, .unset, .unset, .unset, .unset] [(.int (24 : Int32)), (.ref b), (.ref b)])) _
  refine Xs1.ldcInt hx hown (mvT hZ (hw _ (List.mem_of_getElem? (i := 3) rfl))) (g := (mkF m 162 #[.val (.int p1), .val (.int p2), .val (.int p3), .unset, .unset, .unset, .unset, .unset] [(.int (24 : Int32)), (.ref b), (.ref b)])) rfl (hb hby at_162) _ ?_
  show Steps p.tables e below (T.setTop (mkF m 164 #[.val (.int p1), .val (.int p2), .val (.int p3), .unset, .unset, .unset, .unset, .unset] [(.int (64975 : Int32)), (.int (24 : Int32)), (.ref b), (.ref b)])) _
  refine st1 _ ?_
  show Steps p.tables e below (T1.setTop (mkF m 165 #[.val (.int p1), .val (.int p2), .val (.int p3), .unset, .unset, .unset, .unset, .unset] [(.ref b)])) _
  refine XS.dup (own_AVat A1) hx rfl (hb hby at_165) rfl rfl ?_
  show Steps p.tables e below (T1.setTop (mkF m 166 #[.val (.int p1), .val (.int p2), .val (.int p3), .unset, .unset, .unset, .unset, .unset] [(.ref b), (.ref b)])) _
  refine XS.bipush (own_AVat A1) hx rfl (hb hby at_166) ?_
  show Steps p.tables e below (T1.setTop (mkF m 168 #[.val (.int p1), .val (.int p2), .val (.int p3), .unset, .unset, .unset, .unset, .unset] [(.int (25 : Int32)), (.ref b), (.ref b)])) _
  refine Xs2.ldcInt hx hown (mvT hZ (hw _ (List.mem_of_getElem? (i := 4) rfl))) (g := (mkF m 168 #[.val (.int p1), .val (.int p2), .val (.int p3), .unset, .unset, .unset, .unset, .unset] [(.int (25 : Int32)), (.ref b), (.ref b)])) rfl (hb hby at_168) _ ?_
  show Steps p.tables e below (T1.setTop (mkF m 170 #[.val (.int p1), .val (.int p2), .val (.int p3), .unset, .unset, .unset, .unset, .unset] [(.int (65008 : Int32)), (.int (25 : Int32)), (.ref b), (.ref b)])) _
  refine st2 _ ?_
  show Steps p.tables e below (T2.setTop (mkF m 171 #[.val (.int p1), .val (.int p2), .val (.int p3), .unset, .unset, .unset, .unset, .unset] [(.ref b)])) _
  refine XS.dup (own_AVat A2) hx rfl (hb hby at_171) rfl rfl ?_
  show Steps p.tables e below (T2.setTop (mkF m 172 #[.val (.int p1), .val (.int p2), .val (.int p3), .unset, .unset, .unset, .unset, .unset] [(.ref b), (.ref b)])) _
  refine XS.bipush (own_AVat A2) hx rfl (hb hby at_172) ?_
  show Steps p.tables e below (T2.setTop (mkF m 174 #[.val (.int p1), .val (.int p2), .val (.int p3), .unset, .unset, .unset, .unset, .unset] [(.int (26 : Int32)), (.ref b), (.ref b)])) _
  refine Xs3.ldcInt hx hown (mvT hZ (hw _ (List.mem_of_getElem? (i := 5) rfl))) (g := (mkF m 174 #[.val (.int p1), .val (.int p2), .val (.int p3), .unset, .unset, .unset, .unset, .unset] [(.int (26 : Int32)), (.ref b), (.ref b)])) rfl (hb hby at_174) _ ?_
  show Steps p.tables e below (T2.setTop (mkF m 176 #[.val (.int p1), .val (.int p2), .val (.int p3), .unset, .unset, .unset, .unset, .unset] [(.int (65533 : Int32)), (.int (26 : Int32)), (.ref b), (.ref b)])) _
  refine st3 _ ?_
  show Steps p.tables e below (T3.setTop (mkF m 177 #[.val (.int p1), .val (.int p2), .val (.int p3), .unset, .unset, .unset, .unset, .unset] [(.ref b)])) _
  refine XS.dup (own_AVat A3) hx rfl (hb hby at_177) rfl rfl ?_
  show Steps p.tables e below (T3.setTop (mkF m 178 #[.val (.int p1), .val (.int p2), .val (.int p3), .unset, .unset, .unset, .unset, .unset] [(.ref b), (.ref b)])) _
  refine XS.bipush (own_AVat A3) hx rfl (hb hby at_178) ?_
  show Steps p.tables e below (T3.setTop (mkF m 180 #[.val (.int p1), .val (.int p2), .val (.int p3), .unset, .unset, .unset, .unset, .unset] [(.int (27 : Int32)), (.ref b), (.ref b)])) _
  refine Xs4.ldcInt hx hown (mvT hZ (hw _ (List.mem_of_getElem? (i := 6) rfl))) (g := (mkF m 180 #[.val (.int p1), .val (.int p2), .val (.int p3), .unset, .unset, .unset, .unset, .unset] [(.int (27 : Int32)), (.ref b), (.ref b)])) rfl (hb hby at_180) _ ?_
  show Steps p.tables e below (T3.setTop (mkF m 182 #[.val (.int p1), .val (.int p2), .val (.int p3), .unset, .unset, .unset, .unset, .unset] [(.int (65536 : Int32)), (.int (27 : Int32)), (.ref b), (.ref b)])) _
  refine st4 _ ?_
  show Steps p.tables e below (T4.setTop (mkF m 183 #[.val (.int p1), .val (.int p2), .val (.int p3), .unset, .unset, .unset, .unset, .unset] [(.ref b)])) _
  refine XS.dup (own_AVat A4) hx rfl (hb hby at_183) rfl rfl ?_
  show Steps p.tables e below (T4.setTop (mkF m 184 #[.val (.int p1), .val (.int p2), .val (.int p3), .unset, .unset, .unset, .unset, .unset] [(.ref b), (.ref b)])) _
  refine XS.bipush (own_AVat A4) hx rfl (hb hby at_184) ?_
  show Steps p.tables e below (T4.setTop (mkF m 186 #[.val (.int p1), .val (.int p2), .val (.int p3), .unset, .unset, .unset, .unset, .unset] [(.int (28 : Int32)), (.ref b), (.ref b)])) _
  refine Xs5.ldcInt hx hown (mvT hZ (hw _ (List.mem_of_getElem? (i := 7) rfl))) (g := (mkF m 186 #[.val (.int p1), .val (.int p2), .val (.int p3), .unset, .unset, .unset, .unset, .unset] [(.int (28 : Int32)), (.ref b), (.ref b)])) rfl (hb hby at_186) _ ?_
  show Steps p.tables e below (T4.setTop (mkF m 188 #[.val (.int p1), .val (.int p2), .val (.int p3), .unset, .unset, .unset, .unset, .unset] [(.int (983039 : Int32)), (.int (28 : Int32)), (.ref b), (.ref b)])) _
  refine st5 _ ?_
  show Steps p.tables e below (T5.setTop (mkF m 189 #[.val (.int p1), .val (.int p2), .val (.int p3), .unset, .unset, .unset, .unset, .unset] [(.ref b)])) _
  refine XS.dup (own_AVat A5) hx rfl (hb hby at_189) rfl rfl ?_
  show Steps p.tables e below (T5.setTop (mkF m 190 #[.val (.int p1), .val (.int p2), .val (.int p3), .unset, .unset, .unset, .unset, .unset] [(.ref b), (.ref b)])) _
  refine XS.bipush (own_AVat A5) hx rfl (hb hby at_190) ?_
  show Steps p.tables e below (T5.setTop (mkF m 192 #[.val (.int p1), .val (.int p2), .val (.int p3), .unset, .unset, .unset, .unset, .unset] [(.int (29 : Int32)), (.ref b), (.ref b)])) _
  refine XS.bipush (own_AVat A5) hx rfl (hb hby at_192) ?_
  show Steps p.tables e below (T5.setTop (mkF m 194 #[.val (.int p1), .val (.int p2), .val (.int p3), .unset, .unset, .unset, .unset, .unset] [(.int (58 : Int32)), (.int (29 : Int32)), (.ref b), (.ref b)])) _
  refine st6 _ ?_
  show Steps p.tables e below (T6.setTop (mkF m 195 #[.val (.int p1), .val (.int p2), .val (.int p3), .unset, .unset, .unset, .unset, .unset] [(.ref b)])) _
  refine XS.dup (own_AVat A6) hx rfl (hb hby at_195) rfl rfl ?_
  show Steps p.tables e below (T6.setTop (mkF m 196 #[.val (.int p1), .val (.int p2), .val (.int p3), .unset, .unset, .unset, .unset, .unset] [(.ref b), (.ref b)])) _
  refine XS.bipush (own_AVat A6) hx rfl (hb hby at_196) ?_
  show Steps p.tables e below (T6.setTop (mkF m 198 #[.val (.int p1), .val (.int p2), .val (.int p3), .unset, .unset, .unset, .unset, .unset] [(.int (30 : Int32)), (.ref b), (.ref b)])) _
  refine XS.iconst (own_AVat A6) hx rfl (hb hby at_198) ?_
  show Steps p.tables e below (T6.setTop (mkF m 199 #[.val (.int p1), .val (.int p2), .val (.int p3), .unset, .unset, .unset, .unset, .unset] [(.int (0 : Int32)), (.int (30 : Int32)), (.ref b), (.ref b)])) _
  refine st7 _ ?_
  exact kt
set_option maxRecDepth 65536 in
set_option maxHeartbeats 40000000 in
theorem rm0 (l : Launch) (Z : State) (a0 : Array Value) (hw : ∀ d ∈ tables_1, d.before a0 Z = true) (ws : List Jvm.Cond) (p1 p2 p3 : Int32) (h0 : Heap) (n0 : Nat) (Z0 : n0 ≤ h0.size) :
    MetFree l x (head1 (Jvm.Cond.code x code maxLocals ret :: ws) room_1) (fun a U => a = #[(.int p1), (.int p2), (.int p3)] ∧ Z.Warmed39 U.vm ∧ U.heap = h0) (fun _ _ _ _ _ => True) (fun _ U o U' => ∃ v L, o = .returned v ∧ Q0 Z p1 p2 p3 h0 n0 v U'.heap L ∧ FrameEnd U o U' L room_1.cells room_1.slots) := by
  refine MetFree.of_bodySF (plainFor_of_name pn_0) hisR ?_
  intro p e s m args below meth c s₁ Bd hml0 hP hK
  obtain ⟨rfl, hZ, hh⟩ := hP
  have hx := Bd.exec
  have hby := Bd.bytes
  have hml : c.maxLocals = 8 := hml0
  have hown : s.vm.findClass "com/example/fallbak/fallbak/xpath/QNameIsNameStartCharPinLaw" = some m.cls := findClass_of_methodNamed Bd.named
  have X0 : Stand p l e room_1 s m #[(.int p1), (.int p2), (.int p3)] below meth c s₁ [] 0 0 := Stand.of_body Bd
  have e0 : s₁.heap = h0 := by rw [← hh, Bd.state]; rfl
  have N0 := Fr.nil n0
  have pre0 : ∀ t, Steps p.tables e below (s₁.setTop (mkF m 0 #[.val (.int p1), .val (.int p2), .val (.int p3), .unset, .unset, .unset, .unset, .unset] [])) t → Steps p.tables e below (s₁.setTop (entryFrame m #[(.int p1), (.int p2), (.int p3)] maxLocals)) t := fun t k => castTop (ef_0 m p1 p2 p3) k
  obtain ⟨T1, h1, k1, X1, e1, E1, A1, st1⟩ := newP X0 hx hZ (hw _ (List.mem_of_getElem? (i := 0) rfl)) e0 (g := (mkF m 2 #[.val (.int p1), .val (.int p2), .val (.int p3), .unset, .unset, .unset, .unset, .unset] [(.int (31 : Int32))])) rfl (hb hby at_2) rfl (by decide) (cap := 31) (by decide) (by decide) (by decide) (by decide)
  obtain ⟨b, gb⟩ : ∃ z, z = h0.size := ⟨_, rfl⟩
  rw [← gb] at A1 st1
  have g_b : n0 ≤ b := Nat.le_trans Z0 (Nat.le_of_eq gb.symm)
  have sz_b : h0.size ≤ b := Nat.le_of_eq gb.symm
  subst e1
  have B1 : own_AV p l e room_1 s m #[(.int p1), (.int p2), (.int p3)] below meth c Z h0 n0 b T1 := ⟨_, [] ++ List.replicate 31 (.int (0 : Int32)), _, X1, (Arv.new A1 (by decide)).pad (pad_rep [] (.int (0 : Int32)) 31), by simp, (Keep.refl h0 []).ext E1, N0⟩
  obtain ⟨U0, C0, su0⟩ := own_fill_4 hx hZ hw hby hown g_b sz_b B1
  obtain ⟨U1, C1, su1⟩ := own_fill_49 hx hZ hw hby hown g_b sz_b C0
  obtain ⟨U2, C2, su2⟩ := own_fill_105 hx hZ hw hby hown g_b sz_b C1
  obtain ⟨U3, C3, su3⟩ := own_fill_159 hx hZ hw hby hown g_b sz_b C2
  obtain ⟨cl, w, Ar, hlen, hin, hat⟩ := own_read C3 ((p2 &&& (2147483647 : Int32)) - (p2 &&& (2147483647 : Int32)) / (31 : Int32) * (31 : Int32)) (own_idx p2)
  obtain ⟨L3, vs3, k3, X3, -, -, K3, N3⟩ := C3
  obtain ⟨T3, eT3⟩ : ∃ T3, T3 = U3 := ⟨_, rfl⟩
  rw [← eT3] at Ar X3 K3 su3
  have Z3 : n0 ≤ T3.heap.size := Nat.le_trans Z0 K3.1
  obtain ⟨_, _, ⟨T4, L4, k4, n4⟩, -, X4, ⟨Lc4, hQ4, l4, y4, z4⟩, st4⟩ := Jvm.LawKit.callS X3 hx (y := (⟨"com/example/fallbak/fallbak/xpath/QName", "isNameStartChar", "(I)Z"⟩ : MethodName)) hown (mvT hZ (hw _ (List.mem_of_getElem? (i := 9) rfl))) (mvT hZ (hw _ (List.mem_of_getElem? (i := 10) rfl))) (mvT hZ (hw _ (List.mem_of_getElem? (i := 11) rfl))) (mvT hZ (hw _ (List.mem_of_getElem? (i := 12) rfl))) (by decide) (backOf (W := 0) (rm1 l Z a0 hw [] p1 T3.heap n0 Z3) hZ (hw _ (List.mem_of_getElem? (i := 12) rfl)) (hw _ (List.mem_of_getElem? (i := 11) rfl)) (by decide) (by decide)) (g := (mkF m 226 #[.val (.int p1), .val (.int p2), .val (.int p3), .val (.ref b), .val (.int w), .val (.int ((w + ((p3 &&& (2147483647 : Int32)) - (p3 &&& (2147483647 : Int32)) / (3 : Int32) * (3 : Int32))) - (1 : Int32))), .unset, .unset] [(.int p1)])) rfl (by rw [hml]; rfl) (argsL := [(.int p1)]) (rest := []) (lenOf pd_0_0 rfl) rfl (by show 2 * 0 + _ ≤ _; exact Nat.le_of_eq rfl) (hb hby at_226) (fun _ _ => ⟨rfl, rfl, (by decide : 1 + 0 ≤ _), (by decide : 31 + 0 ≤ _)⟩)
  dsimp only [Pt.U, Pt.locs, Pt.cells, Pt.slots] at X4 l4 y4 z4 st4 hQ4
  subst l4 y4 z4
  obtain ⟨rfl, N4q, eh4⟩ := hQ4
  obtain ⟨_, _, ⟨T5, L5, k5, n5⟩, -, X5, ⟨Lc5, hQ5, l5, y5, z5⟩, st5⟩ := Jvm.LawKit.callS X4 hx (y := (⟨"com/example/fallbak/fallbak/xpath/QNameIsNameStartCharPinLaw", "ref", "(I)Z"⟩ : MethodName)) hown (mvT hZ (hw _ (List.mem_of_getElem? (i := 16) rfl))) (mvT hZ (hw _ (List.mem_of_getElem? (i := 17) rfl))) (mvT hZ (hw _ (List.mem_of_getElem? (i := 18) rfl))) (mvT hZ (hw _ (List.mem_of_getElem? (i := 19) rfl))) (by decide) (backOf (W := 1) (rm2 l Z a0 hw [] p1 T4.heap n0 (by rw [eh4]; exact Z3)) hZ (hw _ (List.mem_of_getElem? (i := 19) rfl)) (hw _ (List.mem_of_getElem? (i := 18) rfl)) (by decide) (by decide)) (g := (mkF m 230 #[.val (.int p1), .val (.int p2), .val (.int p3), .val (.ref b), .val (.int w), .val (.int ((w + ((p3 &&& (2147483647 : Int32)) - (p3 &&& (2147483647 : Int32)) / (3 : Int32) * (3 : Int32))) - (1 : Int32))), .unset, .unset] [(.int p1), (.int (own_v1_0 p1))])) rfl (by rw [hml]; rfl) (argsL := [(.int p1)]) (rest := [(.int (own_v1_0 p1))]) (lenOf pd_0_0 rfl) rfl (by show 2 * 0 + _ ≤ _; exact Nat.le_of_eq rfl) (hb hby at_230) (fun _ _ => ⟨rfl, rfl, (by decide : 1 + 0 ≤ _), (by decide : 31 + 0 ≤ _)⟩)
  dsimp only [Pt.U, Pt.locs, Pt.cells, Pt.slots] at X5 l5 y5 z5 st5 hQ5
  subst l5 y5 z5
  obtain ⟨rfl, N5q, eh5⟩ := hQ5
  obtain ⟨_, _, ⟨T6, L6, k6, n6⟩, -, X6, ⟨Lc6, hQ6, l6, y6, z6⟩, st6⟩ := Jvm.LawKit.callS X5 hx (y := (⟨"com/example/fallbak/fallbak/xpath/QName", "isNameStartChar", "(I)Z"⟩ : MethodName)) hown (mvT hZ (hw _ (List.mem_of_getElem? (i := 9) rfl))) (mvT hZ (hw _ (List.mem_of_getElem? (i := 10) rfl))) (mvT hZ (hw _ (List.mem_of_getElem? (i := 11) rfl))) (mvT hZ (hw _ (List.mem_of_getElem? (i := 12) rfl))) (by decide) (backOf (W := 0) (rm1 l Z a0 hw [] ((w + ((p3 &&& (2147483647 : Int32)) - (p3 &&& (2147483647 : Int32)) / (3 : Int32) * (3 : Int32))) - (1 : Int32)) T5.heap n0 (by rw [eh5, eh4]; exact Z3)) hZ (hw _ (List.mem_of_getElem? (i := 12) rfl)) (hw _ (List.mem_of_getElem? (i := 11) rfl)) (by decide) (by decide)) (g := (mkF m 245 #[.val (.int p1), .val (.int p2), .val (.int p3), .val (.ref b), .val (.int w), .val (.int ((w + ((p3 &&& (2147483647 : Int32)) - (p3 &&& (2147483647 : Int32)) / (3 : Int32) * (3 : Int32))) - (1 : Int32))), .val (.int (1 : Int32)), .unset] [(.int ((w + ((p3 &&& (2147483647 : Int32)) - (p3 &&& (2147483647 : Int32)) / (3 : Int32) * (3 : Int32))) - (1 : Int32)))])) rfl (by rw [hml]; rfl) (argsL := [(.int ((w + ((p3 &&& (2147483647 : Int32)) - (p3 &&& (2147483647 : Int32)) / (3 : Int32) * (3 : Int32))) - (1 : Int32)))]) (rest := []) (lenOf pd_0_0 rfl) rfl (by show 2 * 0 + _ ≤ _; exact Nat.le_of_eq rfl) (hb hby at_245) (fun _ _ => ⟨rfl, rfl, (by decide : 1 + 0 ≤ _), (by decide : 31 + 0 ≤ _)⟩)
  dsimp only [Pt.U, Pt.locs, Pt.cells, Pt.slots] at X6 l6 y6 z6 st6 hQ6
  subst l6 y6 z6
  obtain ⟨rfl, N6q, eh6⟩ := hQ6
  obtain ⟨_, _, ⟨T7, L7, k7, n7⟩, -, X7, ⟨Lc7, hQ7, l7, y7, z7⟩, st7⟩ := Jvm.LawKit.callS X6 hx (y := (⟨"com/example/fallbak/fallbak/xpath/QNameIsNameStartCharPinLaw", "ref", "(I)Z"⟩ : MethodName)) hown (mvT hZ (hw _ (List.mem_of_getElem? (i := 16) rfl))) (mvT hZ (hw _ (List.mem_of_getElem? (i := 17) rfl))) (mvT hZ (hw _ (List.mem_of_getElem? (i := 18) rfl))) (mvT hZ (hw _ (List.mem_of_getElem? (i := 19) rfl))) (by decide) (backOf (W := 1) (rm2 l Z a0 hw [] ((w + ((p3 &&& (2147483647 : Int32)) - (p3 &&& (2147483647 : Int32)) / (3 : Int32) * (3 : Int32))) - (1 : Int32)) T6.heap n0 (by rw [eh6, eh5, eh4]; exact Z3)) hZ (hw _ (List.mem_of_getElem? (i := 19) rfl)) (hw _ (List.mem_of_getElem? (i := 18) rfl)) (by decide) (by decide)) (g := (mkF m 250 #[.val (.int p1), .val (.int p2), .val (.int p3), .val (.ref b), .val (.int w), .val (.int ((w + ((p3 &&& (2147483647 : Int32)) - (p3 &&& (2147483647 : Int32)) / (3 : Int32) * (3 : Int32))) - (1 : Int32))), .val (.int (1 : Int32)), .unset] [(.int ((w + ((p3 &&& (2147483647 : Int32)) - (p3 &&& (2147483647 : Int32)) / (3 : Int32) * (3 : Int32))) - (1 : Int32))), (.int (own_v1_0 ((w + ((p3 &&& (2147483647 : Int32)) - (p3 &&& (2147483647 : Int32)) / (3 : Int32) * (3 : Int32))) - (1 : Int32))))])) rfl (by rw [hml]; rfl) (argsL := [(.int ((w + ((p3 &&& (2147483647 : Int32)) - (p3 &&& (2147483647 : Int32)) / (3 : Int32) * (3 : Int32))) - (1 : Int32)))]) (rest := [(.int (own_v1_0 ((w + ((p3 &&& (2147483647 : Int32)) - (p3 &&& (2147483647 : Int32)) / (3 : Int32) * (3 : Int32))) - (1 : Int32))))]) (lenOf pd_0_0 rfl) rfl (by show 2 * 0 + _ ≤ _; exact Nat.le_of_eq rfl) (hb hby at_250) (fun _ _ => ⟨rfl, rfl, (by decide : 1 + 0 ≤ _), (by decide : 31 + 0 ≤ _)⟩)
  dsimp only [Pt.U, Pt.locs, Pt.cells, Pt.slots] at X7 l7 y7 z7 st7 hQ7
  subst l7 y7 z7
  obtain ⟨rfl, N7q, eh7⟩ := hQ7
  have N7 := Fr.app (Fr.app (Fr.app (Fr.app N3 N4q) N5q) N6q) N7q
  obtain ⟨fs, hr, hrun, hended, hW, hsame⟩ := X7.leave (v := some (.int (1 : Int32))) (fun h => by rw [Bd.returns] at h; cases h)
  refine ⟨_, _, pre0 _ ?_, hrun, hended, _, _, rfl, ?_, ⟨_, rfl⟩, hW, hsame.mono (by decide) (by decide)⟩
  · show Steps p.tables e below (s₁.setTop (mkF m 0 #[.val (.int p1), .val (.int p2), .val (.int p3), .unset, .unset, .unset, .unset, .unset] [])) _
    refine XS.bipush X0.here hx rfl (hb hby at_0) ?_
    show Steps p.tables e below (s₁.setTop (mkF m 2 #[.val (.int p1), .val (.int p2), .val (.int p3), .unset, .unset, .unset, .unset, .unset] [(.int (31 : Int32))])) _
    refine st1 _ ?_
    show Steps p.tables e below (T1.setTop (mkF m 4 #[.val (.int p1), .val (.int p2), .val (.int p3), .unset, .unset, .unset, .unset, .unset] [(.ref b)])) _
    refine su0 _ ?_
    show Steps p.tables e below (U0.setTop (mkF m 49 #[.val (.int p1), .val (.int p2), .val (.int p3), .unset, .unset, .unset, .unset, .unset] [(.ref b)])) _
    refine su1 _ ?_
    show Steps p.tables e below (U1.setTop (mkF m 105 #[.val (.int p1), .val (.int p2), .val (.int p3), .unset, .unset, .unset, .unset, .unset] [(.ref b)])) _
    refine su2 _ ?_
    show Steps p.tables e below (U2.setTop (mkF m 159 #[.val (.int p1), .val (.int p2), .val (.int p3), .unset, .unset, .unset, .unset, .unset] [(.ref b)])) _
    refine su3 _ ?_
    show Steps p.tables e below (T3.setTop (mkF m 200 #[.val (.int p1), .val (.int p2), .val (.int p3), .unset, .unset, .unset, .unset, .unset] [(.ref b)])) _
    refine XS.astoreN X3.here hx rfl (hb hby at_200) rfl rfl (l' := #[.val (.int p1), .val (.int p2), .val (.int p3), .val (.ref b), .unset, .unset, .unset, .unset]) rfl ?_
    show Steps p.tables e below (T3.setTop (mkF m 201 #[.val (.int p1), .val (.int p2), .val (.int p3), .val (.ref b), .unset, .unset, .unset, .unset] [])) _
    refine XS.aloadN X3.here hx rfl (hb hby at_201) rfl rfl ?_
    show Steps p.tables e below (T3.setTop (mkF m 202 #[.val (.int p1), .val (.int p2), .val (.int p3), .val (.ref b), .unset, .unset, .unset, .unset] [(.ref b)])) _
    refine XS.iloadN X3.here hx rfl (hb hby at_202) rfl ?_
    show Steps p.tables e below (T3.setTop (mkF m 203 #[.val (.int p1), .val (.int p2), .val (.int p3), .val (.ref b), .unset, .unset, .unset, .unset] [(.int p2), (.ref b)])) _
    refine X3.ldcInt hx hown (mvT hZ (hw _ (List.mem_of_getElem? (i := 8) rfl))) (g := (mkF m 203 #[.val (.int p1), .val (.int p2), .val (.int p3), .val (.ref b), .unset, .unset, .unset, .unset] [(.int p2), (.ref b)])) rfl (hb hby at_203) _ ?_
    show Steps p.tables e below (T3.setTop (mkF m 205 #[.val (.int p1), .val (.int p2), .val (.int p3), .val (.ref b), .unset, .unset, .unset, .unset] [(.int (2147483647 : Int32)), (.int p2), (.ref b)])) _
    refine XS.iand X3.here hx rfl (hb hby at_205) rfl ?_
    show Steps p.tables e below (T3.setTop (mkF m 206 #[.val (.int p1), .val (.int p2), .val (.int p3), .val (.ref b), .unset, .unset, .unset, .unset] [(.int (p2 &&& (2147483647 : Int32))), (.ref b)])) _
    refine XS.aloadN X3.here hx rfl (hb hby at_206) rfl rfl ?_
    show Steps p.tables e below (T3.setTop (mkF m 207 #[.val (.int p1), .val (.int p2), .val (.int p3), .val (.ref b), .unset, .unset, .unset, .unset] [(.ref b), (.int (p2 &&& (2147483647 : Int32))), (.ref b)])) _
    refine X3.arraylength hx (cell := cl) Ar.1 (State.isArrayOf_alike hZ.alike Ar.2.1) (g := (mkF m 207 #[.val (.int p1), .val (.int p2), .val (.int p3), .val (.ref b), .unset, .unset, .unset, .unset] [(.ref b), (.int (p2 &&& (2147483647 : Int32))), (.ref b)])) rfl (rest := [(.int (p2 &&& (2147483647 : Int32))), (.ref b)]) rfl (hb hby at_207) _ ?_
    rw [hlen]
    show Steps p.tables e below (T3.setTop (mkF m 208 #[.val (.int p1), .val (.int p2), .val (.int p3), .val (.ref b), .unset, .unset, .unset, .unset] [(.int (31 : Int32)), (.int (p2 &&& (2147483647 : Int32))), (.ref b)])) _
    refine XS.irem X3.here hx rfl (hb hby at_208) rfl (by decide) ?_
    show Steps p.tables e below (T3.setTop (mkF m 209 #[.val (.int p1), .val (.int p2), .val (.int p3), .val (.ref b), .unset, .unset, .unset, .unset] [(.int ((p2 &&& (2147483647 : Int32)) - (p2 &&& (2147483647 : Int32)) / (31 : Int32) * (31 : Int32))), (.ref b)])) _
    refine X3.iaload hx (j := ((p2 &&& (2147483647 : Int32)) - (p2 &&& (2147483647 : Int32)) / (31 : Int32) * (31 : Int32))) (v := (.int w)) Ar.1 (State.isArrayOf_alike hZ.alike Ar.2.1) Ar.2.2 hin hat (g := (mkF m 209 #[.val (.int p1), .val (.int p2), .val (.int p3), .val (.ref b), .unset, .unset, .unset, .unset] [(.int ((p2 &&& (2147483647 : Int32)) - (p2 &&& (2147483647 : Int32)) / (31 : Int32) * (31 : Int32))), (.ref b)])) rfl rfl (hb hby at_209) _ ?_
    show Steps p.tables e below (T3.setTop (mkF m 210 #[.val (.int p1), .val (.int p2), .val (.int p3), .val (.ref b), .unset, .unset, .unset, .unset] [(.int w)])) _
    refine XS.istore X3.here hx rfl (hb hby at_210) rfl (l' := #[.val (.int p1), .val (.int p2), .val (.int p3), .val (.ref b), .val (.int w), .unset, .unset, .unset]) rfl ?_
    show Steps p.tables e below (T3.setTop (mkF m 212 #[.val (.int p1), .val (.int p2), .val (.int p3), .val (.ref b), .val (.int w), .unset, .unset, .unset] [])) _
    refine XS.iload X3.here hx rfl (hb hby at_212) rfl ?_
    show Steps p.tables e below (T3.setTop (mkF m 214 #[.val (.int p1), .val (.int p2), .val (.int p3), .val (.ref b), .val (.int w), .unset, .unset, .unset] [(.int w)])) _
    refine XS.iloadN X3.here hx rfl (hb hby at_214) rfl ?_
    show Steps p.tables e below (T3.setTop (mkF m 215 #[.val (.int p1), .val (.int p2), .val (.int p3), .val (.ref b), .val (.int w), .unset, .unset, .unset] [(.int p3), (.int w)])) _
    refine X3.ldcInt hx hown (mvT hZ (hw _ (List.mem_of_getElem? (i := 8) rfl))) (g := (mkF m 215 #[.val (.int p1), .val (.int p2), .val (.int p3), .val (.ref b), .val (.int w), .unset, .unset, .unset] [(.int p3), (.int w)])) rfl (hb hby at_215) _ ?_
    show Steps p.tables e below (T3.setTop (mkF m 217 #[.val (.int p1), .val (.int p2), .val (.int p3), .val (.ref b), .val (.int w), .unset, .unset, .unset] [(.int (2147483647 : Int32)), (.int p3), (.int w)])) _
    refine XS.iand X3.here hx rfl (hb hby at_217) rfl ?_
    show Steps p.tables e below (T3.setTop (mkF m 218 #[.val (.int p1), .val (.int p2), .val (.int p3), .val (.ref b), .val (.int w), .unset, .unset, .unset] [(.int (p3 &&& (2147483647 : Int32))), (.int w)])) _
    refine XS.iconst X3.here hx rfl (hb hby at_218) ?_
    show Steps p.tables e below (T3.setTop (mkF m 219 #[.val (.int p1), .val (.int p2), .val (.int p3), .val (.ref b), .val (.int w), .unset, .unset, .unset] [(.int (3 : Int32)), (.int (p3 &&& (2147483647 : Int32))), (.int w)])) _
    refine XS.irem X3.here hx rfl (hb hby at_219) rfl (by decide) ?_
    show Steps p.tables e below (T3.setTop (mkF m 220 #[.val (.int p1), .val (.int p2), .val (.int p3), .val (.ref b), .val (.int w), .unset, .unset, .unset] [(.int ((p3 &&& (2147483647 : Int32)) - (p3 &&& (2147483647 : Int32)) / (3 : Int32) * (3 : Int32))), (.int w)])) _
    refine XS.iadd X3.here hx rfl (hb hby at_220) rfl ?_
    show Steps p.tables e below (T3.setTop (mkF m 221 #[.val (.int p1), .val (.int p2), .val (.int p3), .val (.ref b), .val (.int w), .unset, .unset, .unset] [(.int (w + ((p3 &&& (2147483647 : Int32)) - (p3 &&& (2147483647 : Int32)) / (3 : Int32) * (3 : Int32))))])) _
    refine XS.iconst X3.here hx rfl (hb hby at_221) ?_
    show Steps p.tables e below (T3.setTop (mkF m 222 #[.val (.int p1), .val (.int p2), .val (.int p3), .val (.ref b), .val (.int w), .unset, .unset, .unset] [(.int (1 : Int32)), (.int (w + ((p3 &&& (2147483647 : Int32)) - (p3 &&& (2147483647 : Int32)) / (3 : Int32) * (3 : Int32))))])) _
    refine XS.isub X3.here hx rfl (hb hby at_222) rfl ?_
    show Steps p.tables e below (T3.setTop (mkF m 223 #[.val (.int p1), .val (.int p2), .val (.int p3), .val (.ref b), .val (.int w), .unset, .unset, .unset] [(.int ((w + ((p3 &&& (2147483647 : Int32)) - (p3 &&& (2147483647 : Int32)) / (3 : Int32) * (3 : Int32))) - (1 : Int32)))])) _
    refine XS.istore X3.here hx rfl (hb hby at_223) rfl (l' := #[.val (.int p1), .val (.int p2), .val (.int p3), .val (.ref b), .val (.int w), .val (.int ((w + ((p3 &&& (2147483647 : Int32)) - (p3 &&& (2147483647 : Int32)) / (3 : Int32) * (3 : Int32))) - (1 : Int32))), .unset, .unset]) rfl ?_
    show Steps p.tables e below (T3.setTop (mkF m 225 #[.val (.int p1), .val (.int p2), .val (.int p3), .val (.ref b), .val (.int w), .val (.int ((w + ((p3 &&& (2147483647 : Int32)) - (p3 &&& (2147483647 : Int32)) / (3 : Int32) * (3 : Int32))) - (1 : Int32))), .unset, .unset] [])) _
    refine XS.iloadN X3.here hx rfl (hb hby at_225) rfl ?_
    show Steps p.tables e below (T3.setTop (mkF m 226 #[.val (.int p1), .val (.int p2), .val (.int p3), .val (.ref b), .val (.int w), .val (.int ((w + ((p3 &&& (2147483647 : Int32)) - (p3 &&& (2147483647 : Int32)) / (3 : Int32) * (3 : Int32))) - (1 : Int32))), .unset, .unset] [(.int p1)])) _
    refine st4 _ ?_
    show Steps p.tables e below (T4.setTop (mkF m 229 #[.val (.int p1), .val (.int p2), .val (.int p3), .val (.ref b), .val (.int w), .val (.int ((w + ((p3 &&& (2147483647 : Int32)) - (p3 &&& (2147483647 : Int32)) / (3 : Int32) * (3 : Int32))) - (1 : Int32))), .unset, .unset] [(.int (own_v1_0 p1))])) _
    refine XS.iloadN X4.here hx rfl (hb hby at_229) rfl ?_
    show Steps p.tables e below (T4.setTop (mkF m 230 #[.val (.int p1), .val (.int p2), .val (.int p3), .val (.ref b), .val (.int w), .val (.int ((w + ((p3 &&& (2147483647 : Int32)) - (p3 &&& (2147483647 : Int32)) / (3 : Int32) * (3 : Int32))) - (1 : Int32))), .unset, .unset] [(.int p1), (.int (own_v1_0 p1))])) _
    refine st5 _ ?_
    show Steps p.tables e below (T5.setTop (mkF m 233 #[.val (.int p1), .val (.int p2), .val (.int p3), .val (.ref b), .val (.int w), .val (.int ((w + ((p3 &&& (2147483647 : Int32)) - (p3 &&& (2147483647 : Int32)) / (3 : Int32) * (3 : Int32))) - (1 : Int32))), .unset, .unset] [(.int (own_v2_0 p1)), (.int (own_v1_0 p1))])) _
    refine XS.icmpNo X5.here hx rfl (hb hby at_233) rfl (teq (own_same _ : own_v1_0 p1 = own_v2_0 p1)).2 ?_
    show Steps p.tables e below (T5.setTop (mkF m 236 #[.val (.int p1), .val (.int p2), .val (.int p3), .val (.ref b), .val (.int w), .val (.int ((w + ((p3 &&& (2147483647 : Int32)) - (p3 &&& (2147483647 : Int32)) / (3 : Int32) * (3 : Int32))) - (1 : Int32))), .unset, .unset] [])) _
    refine XS.iconst X5.here hx rfl (hb hby at_236) ?_
    show Steps p.tables e below (T5.setTop (mkF m 237 #[.val (.int p1), .val (.int p2), .val (.int p3), .val (.ref b), .val (.int w), .val (.int ((w + ((p3 &&& (2147483647 : Int32)) - (p3 &&& (2147483647 : Int32)) / (3 : Int32) * (3 : Int32))) - (1 : Int32))), .unset, .unset] [(.int (1 : Int32))])) _
    refine XS.goto X5.here hx rfl (pc0 := 237) (pc' := 241) rfl (hb hby at_237) (by decide) (by decide) ?_
    show Steps p.tables e below (T5.setTop (mkF m 241 #[.val (.int p1), .val (.int p2), .val (.int p3), .val (.ref b), .val (.int w), .val (.int ((w + ((p3 &&& (2147483647 : Int32)) - (p3 &&& (2147483647 : Int32)) / (3 : Int32) * (3 : Int32))) - (1 : Int32))), .unset, .unset] [(.int (1 : Int32))])) _
    refine XS.istore X5.here hx rfl (hb hby at_241) rfl (l' := #[.val (.int p1), .val (.int p2), .val (.int p3), .val (.ref b), .val (.int w), .val (.int ((w + ((p3 &&& (2147483647 : Int32)) - (p3 &&& (2147483647 : Int32)) / (3 : Int32) * (3 : Int32))) - (1 : Int32))), .val (.int (1 : Int32)), .unset]) rfl ?_
    show Steps p.tables e below (T5.setTop (mkF m 243 #[.val (.int p1), .val (.int p2), .val (.int p3), .val (.ref b), .val (.int w), .val (.int ((w + ((p3 &&& (2147483647 : Int32)) - (p3 &&& (2147483647 : Int32)) / (3 : Int32) * (3 : Int32))) - (1 : Int32))), .val (.int (1 : Int32)), .unset] [])) _
    refine XS.iload X5.here hx rfl (hb hby at_243) rfl ?_
    show Steps p.tables e below (T5.setTop (mkF m 245 #[.val (.int p1), .val (.int p2), .val (.int p3), .val (.ref b), .val (.int w), .val (.int ((w + ((p3 &&& (2147483647 : Int32)) - (p3 &&& (2147483647 : Int32)) / (3 : Int32) * (3 : Int32))) - (1 : Int32))), .val (.int (1 : Int32)), .unset] [(.int ((w + ((p3 &&& (2147483647 : Int32)) - (p3 &&& (2147483647 : Int32)) / (3 : Int32) * (3 : Int32))) - (1 : Int32)))])) _
    refine st6 _ ?_
    show Steps p.tables e below (T6.setTop (mkF m 248 #[.val (.int p1), .val (.int p2), .val (.int p3), .val (.ref b), .val (.int w), .val (.int ((w + ((p3 &&& (2147483647 : Int32)) - (p3 &&& (2147483647 : Int32)) / (3 : Int32) * (3 : Int32))) - (1 : Int32))), .val (.int (1 : Int32)), .unset] [(.int (own_v1_0 ((w + ((p3 &&& (2147483647 : Int32)) - (p3 &&& (2147483647 : Int32)) / (3 : Int32) * (3 : Int32))) - (1 : Int32))))])) _
    refine XS.iload X6.here hx rfl (hb hby at_248) rfl ?_
    show Steps p.tables e below (T6.setTop (mkF m 250 #[.val (.int p1), .val (.int p2), .val (.int p3), .val (.ref b), .val (.int w), .val (.int ((w + ((p3 &&& (2147483647 : Int32)) - (p3 &&& (2147483647 : Int32)) / (3 : Int32) * (3 : Int32))) - (1 : Int32))), .val (.int (1 : Int32)), .unset] [(.int ((w + ((p3 &&& (2147483647 : Int32)) - (p3 &&& (2147483647 : Int32)) / (3 : Int32) * (3 : Int32))) - (1 : Int32))), (.int (own_v1_0 ((w + ((p3 &&& (2147483647 : Int32)) - (p3 &&& (2147483647 : Int32)) / (3 : Int32) * (3 : Int32))) - (1 : Int32))))])) _
    refine st7 _ ?_
    show Steps p.tables e below (T7.setTop (mkF m 253 #[.val (.int p1), .val (.int p2), .val (.int p3), .val (.ref b), .val (.int w), .val (.int ((w + ((p3 &&& (2147483647 : Int32)) - (p3 &&& (2147483647 : Int32)) / (3 : Int32) * (3 : Int32))) - (1 : Int32))), .val (.int (1 : Int32)), .unset] [(.int (own_v2_0 ((w + ((p3 &&& (2147483647 : Int32)) - (p3 &&& (2147483647 : Int32)) / (3 : Int32) * (3 : Int32))) - (1 : Int32)))), (.int (own_v1_0 ((w + ((p3 &&& (2147483647 : Int32)) - (p3 &&& (2147483647 : Int32)) / (3 : Int32) * (3 : Int32))) - (1 : Int32))))])) _
    refine XS.icmpNo X7.here hx rfl (hb hby at_253) rfl (teq (own_same _ : own_v1_0 ((w + ((p3 &&& (2147483647 : Int32)) - (p3 &&& (2147483647 : Int32)) / (3 : Int32) * (3 : Int32))) - (1 : Int32)) = own_v2_0 ((w + ((p3 &&& (2147483647 : Int32)) - (p3 &&& (2147483647 : Int32)) / (3 : Int32) * (3 : Int32))) - (1 : Int32)))).2 ?_
    show Steps p.tables e below (T7.setTop (mkF m 256 #[.val (.int p1), .val (.int p2), .val (.int p3), .val (.ref b), .val (.int w), .val (.int ((w + ((p3 &&& (2147483647 : Int32)) - (p3 &&& (2147483647 : Int32)) / (3 : Int32) * (3 : Int32))) - (1 : Int32))), .val (.int (1 : Int32)), .unset] [])) _
    refine XS.iconst X7.here hx rfl (hb hby at_256) ?_
    show Steps p.tables e below (T7.setTop (mkF m 257 #[.val (.int p1), .val (.int p2), .val (.int p3), .val (.ref b), .val (.int w), .val (.int ((w + ((p3 &&& (2147483647 : Int32)) - (p3 &&& (2147483647 : Int32)) / (3 : Int32) * (3 : Int32))) - (1 : Int32))), .val (.int (1 : Int32)), .unset] [(.int (1 : Int32))])) _
    refine XS.goto X7.here hx rfl (pc0 := 257) (pc' := 261) rfl (hb hby at_257) (by decide) (by decide) ?_
    show Steps p.tables e below (T7.setTop (mkF m 261 #[.val (.int p1), .val (.int p2), .val (.int p3), .val (.ref b), .val (.int w), .val (.int ((w + ((p3 &&& (2147483647 : Int32)) - (p3 &&& (2147483647 : Int32)) / (3 : Int32) * (3 : Int32))) - (1 : Int32))), .val (.int (1 : Int32)), .unset] [(.int (1 : Int32))])) _
    refine XS.istore X7.here hx rfl (hb hby at_261) rfl (l' := #[.val (.int p1), .val (.int p2), .val (.int p3), .val (.ref b), .val (.int w), .val (.int ((w + ((p3 &&& (2147483647 : Int32)) - (p3 &&& (2147483647 : Int32)) / (3 : Int32) * (3 : Int32))) - (1 : Int32))), .val (.int (1 : Int32)), .val (.int (1 : Int32))]) rfl ?_
    show Steps p.tables e below (T7.setTop (mkF m 263 #[.val (.int p1), .val (.int p2), .val (.int p3), .val (.ref b), .val (.int w), .val (.int ((w + ((p3 &&& (2147483647 : Int32)) - (p3 &&& (2147483647 : Int32)) / (3 : Int32) * (3 : Int32))) - (1 : Int32))), .val (.int (1 : Int32)), .val (.int (1 : Int32))] [])) _
    refine XS.iload X7.here hx rfl (hb hby at_263) rfl ?_
    show Steps p.tables e below (T7.setTop (mkF m 265 #[.val (.int p1), .val (.int p2), .val (.int p3), .val (.ref b), .val (.int w), .val (.int ((w + ((p3 &&& (2147483647 : Int32)) - (p3 &&& (2147483647 : Int32)) / (3 : Int32) * (3 : Int32))) - (1 : Int32))), .val (.int (1 : Int32)), .val (.int (1 : Int32))] [(.int (1 : Int32))])) _
    refine XS.ifNo X7.here hx rfl (hb hby at_265) rfl ((if0 _ _).trans (feq (by decide : ¬ ((1 : Int32) = (0 : Int32)))).1) ?_
    show Steps p.tables e below (T7.setTop (mkF m 268 #[.val (.int p1), .val (.int p2), .val (.int p3), .val (.ref b), .val (.int w), .val (.int ((w + ((p3 &&& (2147483647 : Int32)) - (p3 &&& (2147483647 : Int32)) / (3 : Int32) * (3 : Int32))) - (1 : Int32))), .val (.int (1 : Int32)), .val (.int (1 : Int32))] [])) _
    refine XS.iload X7.here hx rfl (hb hby at_268) rfl ?_
    show Steps p.tables e below (T7.setTop (mkF m 270 #[.val (.int p1), .val (.int p2), .val (.int p3), .val (.ref b), .val (.int w), .val (.int ((w + ((p3 &&& (2147483647 : Int32)) - (p3 &&& (2147483647 : Int32)) / (3 : Int32) * (3 : Int32))) - (1 : Int32))), .val (.int (1 : Int32)), .val (.int (1 : Int32))] [(.int (1 : Int32))])) _
    refine XS.ifNo X7.here hx rfl (hb hby at_270) rfl ((if0 _ _).trans (feq (by decide : ¬ ((1 : Int32) = (0 : Int32)))).1) ?_
    show Steps p.tables e below (T7.setTop (mkF m 273 #[.val (.int p1), .val (.int p2), .val (.int p3), .val (.ref b), .val (.int w), .val (.int ((w + ((p3 &&& (2147483647 : Int32)) - (p3 &&& (2147483647 : Int32)) / (3 : Int32) * (3 : Int32))) - (1 : Int32))), .val (.int (1 : Int32)), .val (.int (1 : Int32))] [])) _
    refine XS.iconst X7.here hx rfl (hb hby at_273) ?_
    show Steps p.tables e below (T7.setTop (mkF m 274 #[.val (.int p1), .val (.int p2), .val (.int p3), .val (.ref b), .val (.int w), .val (.int ((w + ((p3 &&& (2147483647 : Int32)) - (p3 &&& (2147483647 : Int32)) / (3 : Int32) * (3 : Int32))) - (1 : Int32))), .val (.int (1 : Int32)), .val (.int (1 : Int32))] [(.int (1 : Int32))])) _
    refine XS.goto X7.here hx rfl (pc0 := 274) (pc' := 278) rfl (hb hby at_274) (by decide) (by decide) ?_
    show Steps p.tables e below (T7.setTop (mkF m 278 #[.val (.int p1), .val (.int p2), .val (.int p3), .val (.ref b), .val (.int w), .val (.int ((w + ((p3 &&& (2147483647 : Int32)) - (p3 &&& (2147483647 : Int32)) / (3 : Int32) * (3 : Int32))) - (1 : Int32))), .val (.int (1 : Int32)), .val (.int (1 : Int32))] [(.int (1 : Int32))])) _
    exact retN X7 hx (t := .boolean) Bd.returns (by simp) (hb hby at_278) hr
  · show Q0 Z p1 p2 p3 h0 n0 _ T7.heap _
    exact ⟨rfl, N7⟩
set_option maxRecDepth 65536 in
set_option maxHeartbeats 40000000 in
theorem comes_1 {Post : Tables → Env → Array Value → State → Outcome → State → Prop} (hpost : ∀ tb e args s v u, (limb_1_1.after args s (.returned v) u = true ∧ limb_1_2.after args s (.returned v) u = true ∧ True) → FrameEnd s (.returned v) u (Jvm.fieldLocs frame_1_writes args s ++ Jvm.arrayLocs frame_1_arrays args s ++ Jvm.staticLocs frame_1_statics s) 16 128 → Post tb e args s (.returned v) u) :
    ArmFor flags0 classFile x code maxLocals ret World_1 tables_1 room_1 Calls_1 rest_1 Pre_1 Post := by
  intro l hfl _ _ p e ha hc hk s m args below hf hA hF happ hP
  obtain ⟨hcalls, hrest, hpre⟩ := hP
  obtain ⟨-, -, -, hnamed, -, -, -, hat⟩ := (Spec.applies_iff hf).mp happ
  obtain ⟨hg, hn⟩ := and_e (Cond.before_iff.mp (show (Jvm.Cond.and given_1 narrow_1).before args s = true from hpre))
  obtain ⟨g41, g42⟩ := and_e hg
  obtain ⟨g43, g44⟩ := and_e g42
  obtain ⟨g45, g46⟩ := and_e g44
  obtain ⟨w0, w1, w2, rfl⟩ : ∃ w0 w1 w2 : Value, args = #[w0, w1, w2] := by
    have hs : args.size = 3 := by simpa [Cond.value, given_1] using g41
    obtain ⟨L⟩ := args
    match L, hs with
    | [w0, w1, w2], _ => exact ⟨w0, w1, w2, rfl⟩
  have hw := fun d (hd : d ∈ tables_1) => atoms_spec (ws := Jvm.Cond.code x code maxLocals ret :: tables_1) hat d (List.mem_cons_of_mem _ hd)
  have hfit : Fit s := fun {y c} hc i hi => by
    obtain ⟨ha, rfl⟩ := Array.getElem?_eq_some_iff.mp hc
    have q := List.all_eq_true.mp ((Array.all_eq_true_iff_forall_mem.mp hF) _ (Array.getElem_mem ha)) i (List.mem_range.mpr hi)
    simpa [Array.getElem?_eq_getElem hi] using q
  obtain ⟨i0, ei0⟩ := is_v g43
  obtain rfl : w0 = (.int i0) := Option.some.inj ei0
  obtain ⟨i1, ei1⟩ := is_v g45
  obtain rfl : w1 = (.int i1) := Option.some.inj ei1
  obtain ⟨i2, ei2⟩ := is_v g46
  obtain rfl : w2 = (.int i2) := Option.some.inj ei2
  obtain ⟨n, o, h1, h2, h3, _, L, rfl, ⟨rfl, N⟩, hq⟩ := rm0 l s _ hw tables_1 i0 i1 i2 s.heap s.heap.size (Nat.le_refl _) p e ha hc hk s m _ below hf ((Spec.applies_iff_loose hf).mp happ).1 ⟨rfl, State.Warmed39.refl s, rfl⟩ trivial
  refine ⟨n, _, h1, h2, h3, hpost _ _ _ _ _ _ ⟨Cond.after_iff.mpr rfl, Cond.after_iff.mpr (eq_i res_at (Term.int_eval (1)) rfl), trivial⟩ ⟨hq.1, hq.2.1, (hq.2.2.sift fun y hy => Or.inr (N y hy)).mono (by decide) (by decide)⟩⟩
theorem main_1_1 : Claimed_1_1 := comes_1 fun _ _ _ _ _ _ h hF => ⟨h.1, hF⟩
theorem main_1_2 : Claimed_1_2 := comes_1 fun _ _ _ _ _ _ h hF => ⟨h.2.1, hF⟩
end Jvm.Pilot.@@N@@
namespace Jvm.Pilot.@@N@@
open Jvm Jvm.ClassFile Sem Op Lib Jvm.Free Jvm.Stand Jvm.Pilot.@@N@@.Jvm.D
/-! MADE BY PROGRAM (witnessworld.py) out of the Statement's table words and the real class files: 9 classes; the members and pool entries that the words name. The judged class is class 1, her method 2. -/
namespace start1
open Jvm.ClassFile
def u (s : String) : CpInfo := .utf8 (stringToUtf16 s)
/-- a pool by its gaps: so many unusable entries, then the entry; so many at the end -/
def gap : Nat → List CpInfo → List CpInfo
  | 0, r => r
  | n + 1, r => .unusable :: gap n r
def poolList (es : List (Nat × CpInfo)) (last : Nat) : List CpInfo := es.foldr (fun e r => gap e.1 (e.2 :: r)) (gap last [])
def pool (es : List (Nat × CpInfo)) (last : Nat) : Array CpInfo := ⟨poolList es last⟩
def fileOf (pool : Array CpInfo) (this : Nat) (attrs : Array Attribute := #[]) (ms : Array MethodInfo := #[]) (fl : Nat := 33) (sup : Nat := 0) (ifs : Array Nat := #[]) (fds : Array FieldInfo := #[]) : ClassFile where
  minorVersion := 0
  majorVersion := 65
  constantPool := pool
  accessFlags := fl
  thisClass := this
  superClass := sup
  interfaces := ifs
  fields := fds
  methods := ms
  attributes := attrs
def plain (name : String) (sup : Option ClassId) : Class where
  name := name
  kind := .ordinary
  loader := none
  accessFlags := 33
  super := sup
  interfaces := #[]
  cf := none
  fields := #[]
  methods := #[]
  instanceTypes := #[]
  staticTypes := #[]
  resolved := #[]
  callSites := []
  init := .initialized
  statics := none
  mirror := none

def pool0 : Array CpInfo := pool [(5, u "<init>"), (0, u "()V"), (1, .class_ 10), (1, u "java/lang/Object")] 113

def k0m0 : Method := { name := "<init>", desc := "()V", sig := { parameters := [], returnType := none }, accessFlags := 1, code := none }
/-- java/lang/Object -/
def k0 : Class := { plain "java/lang/Object" none with
  accessFlags := 33
  interfaces := #[]
  cf := some (fileOf pool0 8 #[] #[{ accessFlags := 1, nameIndex := 5, descriptorIndex := 6, attributes := #[] }] 33 0 #[] #[])
  fields := #[]
  methods := #[k0m0]
  instanceTypes := #[]
  staticTypes := #[]
  resolved := Array.replicate 124 none
  statics := none }

def pool1 : Array CpInfo := pool [(2, .class_ 4), (1, u "java/lang/Object"), (0, u "<init>"), (0, u "()V"), (0, .integer 983039), (0, .integer 55296), (0, .integer 63743), (0, .integer 64976), (0, .integer 65007), (0, .integer 65534), (0, .integer 65535), (0, .integer 55295), (0, .integer 63744), (0, .integer 64975), (0, .integer 65008), (0, .integer 65533), (0, .integer 65536), (0, .integer 2147483647), (0, .methodref 22 23), (0, .class_ 24), (0, .nameAndType 25 26), (0, u "com/example/fallbak/fallbak/xpath/QName"), (0, u "isNameStartChar"), (0, u "(I)Z"), (0, .methodref 28 29), (0, .class_ 30), (0, .nameAndType 31 26), (0, u "com/example/fallbak/fallbak/xpath/QNameIsNameStartCharPinLaw"), (0, u "ref"), (3, u "law"), (0, u "(III)Z")] 4

def k1m0 : Method := { name := "<init>", desc := "()V", sig := { parameters := [], returnType := none }, accessFlags := 1, code := none }
def k1c1 : Code := { maxStack := 2, maxLocals := 1, code := method_2_code, exceptionTable := #[], attributes := #[] }
def k1m1 : Method := { name := "ref", desc := "(I)Z", sig := { parameters := [.int], returnType := some .boolean }, accessFlags := 10, code := some k1c1 }
def k1c2 : Code := { maxStack := 4, maxLocals := 8, code := code, exceptionTable := #[], attributes := #[] }
def k1m2 : Method := { name := "law", desc := "(III)Z", sig := { parameters := [.int, .int, .int], returnType := some .boolean }, accessFlags := 9, code := some k1c2 }
/-- com/example/fallbak/fallbak/xpath/QNameIsNameStartCharPinLaw -/
def k1 : Class := { plain "com/example/fallbak/fallbak/xpath/QNameIsNameStartCharPinLaw" (some 0) with
  accessFlags := 49
  interfaces := #[]
  cf := some (fileOf pool1 28 #[] #[{ accessFlags := 1, nameIndex := 5, descriptorIndex := 6, attributes := #[] }, { accessFlags := 10, nameIndex := 31, descriptorIndex := 26, attributes := #[] }, { accessFlags := 9, nameIndex := 35, descriptorIndex := 36, attributes := #[] }] 49 2 #[] #[])
  fields := #[]
  methods := #[k1m0, k1m1, k1m2]
  instanceTypes := #[]
  staticTypes := #[]
  resolved := Array.replicate 41 none
  statics := none }

def pool2 : Array CpInfo := pool [(4, .class_ 6), (1, u "com/example/fallbak/fallbak/xpath/QName"), (3, .class_ 12), (1, u "java/lang/Object"), (36, u "namespaceUri"), (0, u "Ljava/lang/String;"), (2, u "prefix"), (2, u "localName"), (6, u "hash"), (0, u "I"), (13, u "isNameStartChar"), (0, u "(I)Z"), (53, .integer 55295), (0, .integer 63744), (0, .integer 64975), (0, .integer 65008), (0, .integer 65533), (0, .integer 65536), (0, .integer 983039)] 43

def k2c0 : Code := { maxStack := 2, maxLocals := 1, code := prog_88_method_5_code, exceptionTable := #[], attributes := #[] }
def k2m0 : Method := { name := "isNameStartChar", desc := "(I)Z", sig := { parameters := [.int], returnType := some .boolean }, accessFlags := 8, code := some k2c0 }
/-- com/example/fallbak/fallbak/xpath/QName -/
def k2 : Class := { plain "com/example/fallbak/fallbak/xpath/QName" (some 0) with
  accessFlags := 33
  interfaces := #[]
  cf := some (fileOf pool2 4 #[] #[{ accessFlags := 8, nameIndex := 78, descriptorIndex := 79, attributes := #[] }] 33 10 #[] #[{ accessFlags := 18, nameIndex := 49, descriptorIndex := 50, attributes := #[] }, { accessFlags := 18, nameIndex := 53, descriptorIndex := 50, attributes := #[] }, { accessFlags := 18, nameIndex := 56, descriptorIndex := 50, attributes := #[] }, { accessFlags := 18, nameIndex := 63, descriptorIndex := 64, attributes := #[] }])
  fields := #[{ name := "namespaceUri", type := (.object "java/lang/String"), accessFlags := 18, slot := 0, constantValue := 0 }, { name := "prefix", type := (.object "java/lang/String"), accessFlags := 18, slot := 1, constantValue := 0 }, { name := "localName", type := (.object "java/lang/String"), accessFlags := 18, slot := 2, constantValue := 0 }, { name := "hash", type := .int, accessFlags := 18, slot := 3, constantValue := 0 }]
  methods := #[k2m0]
  instanceTypes := #[(.object "java/lang/String"), (.object "java/lang/String"), (.object "java/lang/String"), .int]
  staticTypes := #[]
  resolved := Array.replicate 183 none
  statics := none }

def pool3 : Array CpInfo := pool [(1, u "java/lang/Cloneable"), (0, .class_ 1), (0, u "java/lang/Object"), (0, .class_ 3)] 3

/-- java/lang/Cloneable -/
def k3 : Class := { plain "java/lang/Cloneable" (some 0) with
  accessFlags := 1537
  interfaces := #[]
  cf := some (fileOf pool3 2 #[] #[] 1537 4 #[] #[])
  fields := #[]
  methods := #[]
  instanceTypes := #[]
  staticTypes := #[]
  resolved := Array.replicate 8 none
  statics := none }

def pool4 : Array CpInfo := pool [(1, u "java/io/Serializable"), (0, .class_ 1), (0, u "java/lang/Object"), (0, .class_ 3)] 3

/-- java/io/Serializable -/
def k4 : Class := { plain "java/io/Serializable" (some 0) with
  accessFlags := 1537
  interfaces := #[]
  cf := some (fileOf pool4 2 #[] #[] 1537 4 #[] #[])
  fields := #[]
  methods := #[]
  instanceTypes := #[]
  staticTypes := #[]
  resolved := Array.replicate 8 none
  statics := none }

/-- the primitive byte -/
def k5 : Class := { plain "byte" none with kind := .primitive 'B', accessFlags := 0x411 }
/-- [B -/
def k6 : Class := { plain "[B" (some 0) with kind := .array 5 .byte, interfaces := #[3, 4], accessFlags := 1041 }

/-- the primitive int -/
def k7 : Class := { plain "int" none with kind := .primitive 'I', accessFlags := 0x411 }
/-- [I -/
def k8 : Class := { plain "[I" (some 0) with kind := .array 7 .int, interfaces := #[3, 4], accessFlags := 1041 }

def heap : Heap := #[]
def classes : Array Class := #[k0, k1, k2, k3, k4, k5, k6, k7, k8]
def interned : List (Array UInt16 × Addr) := []
def slotsUsed : Nat := 0
def theMethod : MethodId := ⟨1, 2⟩
def args0 : Array Value := #[.int 70, .int 3, .int 1]
def aboutOver (below : List Frame) : State where
  vm := { classes := classes, interned := interned.toArray }
  heap := heap
  slotsUsed := slotsUsed
  threads := #[{ frames := .invoking theMethod args0 :: below }]
def below0 : List Frame := [.native { method := ⟨0, 0⟩, args := #[] }]
def about1 : State := aboutOver below0
def p0 : Program := .bare "" "" ""
def e0 : Env := launch0.env 0 0 0
theorem w_frames : about1.frames = Frame.invoking theMethod args0 :: below0 := rfl
set_option maxRecDepth 65536 in
theorem w_args : argsFit about1.vm theMethod args0 = true := by decide +kernel
set_option maxRecDepth 65536 in
theorem w_heap : heapFits about1 = true := by decide +kernel
set_option maxRecDepth 65536 in
theorem w_runnable : about1.curStatus? = some .runnable := by decide +kernel
set_option maxRecDepth 65536 in
theorem w_alone : about1.alone = true := by decide +kernel
set_option maxRecDepth 65536 in
theorem w_named : about1.methodNamed? x = some theMethod := by decide +kernel
set_option maxRecDepth 65536 in
theorem w_hears : about1.hears theMethod below0 = true := by decide +kernel
set_option maxRecDepth 65536 in
theorem w_ripe : about1.ripe theMethod args0 below0 = true := by decide +kernel
theorem w_running : about1.status = .running := rfl
set_option maxRecDepth 65536 in
theorem w_room : about1.hasRoom e0.platform room_1 = true :=
  launch0.hasRoom_least _ room_1 (by decide +kernel) (by decide +kernel) (by decide +kernel) (by decide +kernel) (by decide +kernel) (by decide +kernel)
theorem allAtoms_all (ts : List Jvm.Cond) (a : Array Jvm.Value) (st : Jvm.State) : (allAtoms ts).before a st = ts.all (fun c => c.before a st) := by
  induction ts with
  | nil => rfl
  | cons c t ih =>
    show (Jvm.Cond.and c (allAtoms t)).before a st = _
    rw [Jvm.Cond.before_and, ih, List.all_cons]
def words1 : List Jvm.Cond := Jvm.Cond.code x code maxLocals ret :: tables_1
/-- a 'code' word, met by the world's own term for the bytes: nothing is compared byte by byte -/
theorem code_word {y : MethodName} {bytes : ByteArray} {mx : Nat} {rt : Option FieldType} {a : Array Value} {s : State} {m : MethodId} {meth : Method} {c : Code} (h1 : s.methodNamed? y = some m) (h2 : s.vm.method? m = some meth) (h3 : meth.code = some c) (h4 : c.code = bytes)
    (h5 : (c.maxLocals == mx && c.exceptionTable.isEmpty && decide (c.maxStack ≤ mostOperands) && decide (meth.sig.returnType = rt) && !meth.locks && decide (parseMethodDescriptor y.desc = some meth.sig)) = true) : (Jvm.Cond.code y bytes mx rt).before a s = true := by
  simp only [Bool.and_eq_true, beq_iff_eq, Bool.not_eq_true', decide_eq_true_eq] at h5
  obtain ⟨⟨⟨⟨⟨g1, g2⟩, g3⟩, g4⟩, g5⟩, g6⟩ := h5
  simp [Cond.before, Cond.holds, Cond.value, h1, h2, h3, h4, g1, g2, g3, g4, g5, g6]
def isCode : Jvm.Cond → Bool
  | .code _ _ _ _ => true
  | _ => false
theorem all_split {L : List Jvm.Cond} {P : Jvm.Cond → Bool} (h1 : L.all (fun c => isCode c || P c) = true) (h2 : ∀ c ∈ L.filter isCode, P c = true) : L.all P = true := by
  refine List.all_eq_true.mpr fun c hc => ?_
  have h := List.all_eq_true.mp h1 c hc
  rcases Bool.eq_false_or_eq_true (isCode c) with hi | hi
  · exact h2 c (List.mem_filter.mpr ⟨hc, hi⟩)
  · simpa [hi] using h
set_option maxRecDepth 65536 in
theorem w_c0 : (Jvm.Cond.code x code maxLocals ret).before args0 about1 = true := code_word (m := ⟨1, 2⟩) (meth := k1m2) (c := k1c2) (by decide +kernel) rfl rfl rfl (by decide +kernel)
set_option maxRecDepth 65536 in
theorem w_c1 : (Jvm.Cond.code ({ cls := "com/example/fallbak/fallbak/xpath/QName", name := "isNameStartChar", desc := "(I)Z" } : Jvm.MethodName) prog_88_method_5_code (1 : Nat) (Option.some Jvm.ClassFile.FieldType.boolean)).before args0 about1 = true := code_word (m := ⟨2, 0⟩) (meth := k2m0) (c := k2c0) (by decide +kernel) rfl rfl rfl (by decide +kernel)
set_option maxRecDepth 65536 in
theorem w_c2 : (Jvm.Cond.code ({ cls := "com/example/fallbak/fallbak/xpath/QNameIsNameStartCharPinLaw", name := "ref", desc := "(I)Z" } : Jvm.MethodName) method_2_code (1 : Nat) (Option.some Jvm.ClassFile.FieldType.boolean)).before args0 about1 = true := code_word (m := ⟨1, 1⟩) (meth := k1m1) (c := k1c1) (by decide +kernel) rfl rfl rfl (by decide +kernel)
def codes1 : List Jvm.Cond := [Jvm.Cond.code x code maxLocals ret, Jvm.Cond.code ({ cls := "com/example/fallbak/fallbak/xpath/QName", name := "isNameStartChar", desc := "(I)Z" } : Jvm.MethodName) prog_88_method_5_code (1 : Nat) (Option.some Jvm.ClassFile.FieldType.boolean), Jvm.Cond.code ({ cls := "com/example/fallbak/fallbak/xpath/QNameIsNameStartCharPinLaw", name := "ref", desc := "(I)Z" } : Jvm.MethodName) method_2_code (1 : Nat) (Option.some Jvm.ClassFile.FieldType.boolean)]
set_option maxRecDepth 65536 in
theorem codes_eq : words1.filter isCode = codes1 := rfl
theorem w_codes : ∀ c ∈ words1.filter isCode, c.before args0 about1 = true := by
  rw [codes_eq]
  intro c hc
  simp only [codes1, List.mem_cons, List.not_mem_nil, or_false] at hc
  rcases hc with rfl | rfl | rfl
  · exact w_c0
  · exact w_c1
  · exact w_c2
set_option maxRecDepth 65536 in
theorem w_t1 : (words1.take 24).all (fun c => isCode c || c.before args0 about1) = true := by decide +kernel
set_option maxRecDepth 65536 in
theorem w_t2 : (words1.drop 24).all (fun c => isCode c || c.before args0 about1) = true := by decide +kernel
theorem w_tables : (allAtoms (Jvm.Cond.code x code maxLocals ret :: tables_1)).before args0 about1 = true := by
  rw [allAtoms_all]
  show words1.all (fun c => c.before args0 about1) = true
  refine all_split ?_ w_codes
  rw [← List.take_append_drop 24 words1, List.all_append, w_t1, w_t2]
  rfl
set_option maxRecDepth 65536 in
theorem w_case : (Jvm.Cond.and given_1 narrow_1).before args0 about1 = true := by decide +kernel
theorem w_applies : (headSpec (Jvm.Cond.code x code maxLocals ret :: tables_1) room_1).applies x e0.platform about1 = true :=
  (Spec.applies_iff w_frames).mpr ⟨w_running, w_runnable, w_alone, w_named, w_hears, w_ripe, w_room, w_tables⟩
theorem atStart : AtStart classFile x code maxLocals ret World_1 tables_1 room_1 Calls_1 rest_1 Pre_1 launch0 p0 e0 about1 theMethod args0 below0 :=
  ⟨lists_1, trivial, launch0.admits_env _ _ _, launch0.least_env, fairChoices_fair.cas, fairChoices_fair.clock, w_frames, w_args, w_heap, w_applies, trivial, trivial, w_case⟩
end start1
theorem witness_1 : WitnessClaimed_1 := ⟨start1.p0, start1.e0, start1.about1, start1.theMethod, start1.args0, start1.below0, start1.atStart⟩
end Jvm.Pilot.@@N@@

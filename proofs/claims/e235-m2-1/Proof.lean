import JvmDerived
import JvmDerived.Pilot.@@N@@Statement
import JvmDerived.Pilot.@@N@@Code
set_option linter.unusedVariables false
set_option linter.unusedSimpArgs false
@@BLOCK:NumsL.lean.txt@@
namespace Jvm.RoadKit
open Sem ClassFile Op Lib Jvm.Stand Jvm.Free Jvm.LawKit
section New
variable {p : Program} {l : Launch} {e : Env} {R : Room} {s : State} {m : MethodId} {args : Array Value} {below : List Frame} {meth : Method} {c : Code} {T : State} {locs : List Loc} {cells slots : Nat}
theorem retI (X : Stand p l e R s m args below meth c T locs cells slots) (hx : p.tables.exec = Jvm.exec) {pc : Nat} {Ls : Array Slot} {z : Int32} {rest : List Value} (hret : meth.sig.returnType = some .int) (hd : decode c.code pc = .ok (.ireturn, 1)) {fs : List Frame}
    (hl : ∀ (f : JFrame) (acts : List Action), f.method = m → f.locked = none → f.entered = [] → (doReturn e (T.setTop f) acts (some (.int z))).1 = T.setFrames fs) : Steps p.tables e below (T.setTop (mkF m pc Ls (.int z :: rest))) (T.setFrames fs) := by
  have hm' : T.vm.method? m = some meth := X.method'
  have hn : narrow .int (.int z) = .int z := rfl
  show Steps p.tables e below (T.setTop { method := m, pc := pc, locals := Ls, stack := _ :: rest, locked := none }) _
  jvm_step X.here [X.here.top, hx, hd, hm', hret, hn]
  first | (intro acts; rw [hl _ acts rfl rfl rfl]) | rw [hl _ _ rfl rfl rfl]
  exact Steps.refl _
end New
end Jvm.RoadKit
namespace Jvm.Pilot.@@N@@
open Jvm Jvm.ClassFile Sem Op Lib Jvm.Free Jvm.Stand Jvm.LawKit Jvm.RoadKit Bundle Jvm.Pilot.@@N@@.Jvm.D
theorem d1_0 : decode prog_88_method_6_code 0 = .ok (.iload_n 0, 1) := by decide +kernel
theorem d1_1 : decode prog_88_method_6_code 1 = .ok (.bipush 45, 2) := by decide +kernel
theorem d1_3 : decode prog_88_method_6_code 3 = .ok (.if_icmp .eq 56, 3) := by decide +kernel
theorem d1_6 : decode prog_88_method_6_code 6 = .ok (.iload_n 0, 1) := by decide +kernel
theorem d1_7 : decode prog_88_method_6_code 7 = .ok (.bipush 46, 2) := by decide +kernel
theorem d1_9 : decode prog_88_method_6_code 9 = .ok (.if_icmp .eq 50, 3) := by decide +kernel
theorem d1_12 : decode prog_88_method_6_code 12 = .ok (.iload_n 0, 1) := by decide +kernel
theorem d1_13 : decode prog_88_method_6_code 13 = .ok (.bipush 48, 2) := by decide +kernel
theorem d1_15 : decode prog_88_method_6_code 15 = .ok (.if_icmp .lt 9, 3) := by decide +kernel
theorem d1_18 : decode prog_88_method_6_code 18 = .ok (.iload_n 0, 1) := by decide +kernel
theorem d1_19 : decode prog_88_method_6_code 19 = .ok (.bipush 57, 2) := by decide +kernel
theorem d1_21 : decode prog_88_method_6_code 21 = .ok (.if_icmp .le 38, 3) := by decide +kernel
theorem d1_24 : decode prog_88_method_6_code 24 = .ok (.iload_n 0, 1) := by decide +kernel
theorem d1_25 : decode prog_88_method_6_code 25 = .ok (.sipush 183, 3) := by decide +kernel
theorem d1_28 : decode prog_88_method_6_code 28 = .ok (.if_icmp .eq 31, 3) := by decide +kernel
theorem d1_31 : decode prog_88_method_6_code 31 = .ok (.iload_n 0, 1) := by decide +kernel
theorem d1_32 : decode prog_88_method_6_code 32 = .ok (.sipush 768, 3) := by decide +kernel
theorem d1_35 : decode prog_88_method_6_code 35 = .ok (.if_icmp .lt 10, 3) := by decide +kernel
theorem d1_38 : decode prog_88_method_6_code 38 = .ok (.iload_n 0, 1) := by decide +kernel
theorem d1_39 : decode prog_88_method_6_code 39 = .ok (.sipush 879, 3) := by decide +kernel
theorem d1_42 : decode prog_88_method_6_code 42 = .ok (.if_icmp .le 17, 3) := by decide +kernel
theorem d1_45 : decode prog_88_method_6_code 45 = .ok (.iload_n 0, 1) := by decide +kernel
theorem d1_46 : decode prog_88_method_6_code 46 = .ok (.sipush 8255, 3) := by decide +kernel
theorem d1_49 : decode prog_88_method_6_code 49 = .ok (.if_icmp .lt 14, 3) := by decide +kernel
theorem d1_52 : decode prog_88_method_6_code 52 = .ok (.iload_n 0, 1) := by decide +kernel
theorem d1_53 : decode prog_88_method_6_code 53 = .ok (.sipush 8256, 3) := by decide +kernel
theorem d1_56 : decode prog_88_method_6_code 56 = .ok (.if_icmp .gt 7, 3) := by decide +kernel
theorem d1_59 : decode prog_88_method_6_code 59 = .ok (.iconst 1, 1) := by decide +kernel
theorem d1_60 : decode prog_88_method_6_code 60 = .ok (.goto 4, 3) := by decide +kernel
theorem d1_63 : decode prog_88_method_6_code 63 = .ok (.iconst 0, 1) := by decide +kernel
theorem d1_64 : decode prog_88_method_6_code 64 = .ok (.ireturn, 1) := by decide +kernel
theorem pn_1 : plainName "com/example/fallbak/fallbak/xpath/QName" = true := by first | (simp [plainName, overriddenIn]; done) | decide +kernel
theorem ef_1 (m : MethodId) (x0 : Int32) : entryFrame m #[(.int x0)] 1 = mkF m 0 #[.val (.int x0)] [] := by first | (simp [entryFrame, mkF, argsToLocals, Value.category]; done) | rfl
def own_v1_63 (p1 : Int32) : Int32 := (0 : Int32)
def own_v1_59 (p1 : Int32) : Int32 := (1 : Int32)
def own_v1_52 (p1 : Int32) : Int32 := if (8256 : Int32) < p1 then own_v1_63 p1 else own_v1_59 p1
def own_v1_45 (p1 : Int32) : Int32 := if p1 < (8255 : Int32) then own_v1_63 p1 else own_v1_52 p1
def own_v1_38 (p1 : Int32) : Int32 := if (879 : Int32) < p1 then own_v1_45 p1 else own_v1_59 p1
def own_v1_31 (p1 : Int32) : Int32 := if p1 < (768 : Int32) then own_v1_45 p1 else own_v1_38 p1
def own_v1_24 (p1 : Int32) : Int32 := if p1 = (183 : Int32) then own_v1_59 p1 else own_v1_31 p1
def own_v1_18 (p1 : Int32) : Int32 := if (57 : Int32) < p1 then own_v1_24 p1 else own_v1_59 p1
def own_v1_12 (p1 : Int32) : Int32 := if p1 < (48 : Int32) then own_v1_24 p1 else own_v1_18 p1
def own_v1_6 (p1 : Int32) : Int32 := if p1 = (46 : Int32) then own_v1_59 p1 else own_v1_12 p1
def own_v1_0 (p1 : Int32) : Int32 := if p1 = (45 : Int32) then own_v1_59 p1 else own_v1_6 p1
def Q1 (Z : State) (p1 : Int32) (h0 : Heap) (n0 : Nat) (v : Option Value) (h : Heap) (L : List Loc) : Prop := v = some (.int (own_v1_0 p1)) ∧ Fr n0 L ∧ h = h0
set_option maxRecDepth 65536 in
set_option maxHeartbeats 40000000 in
theorem rm1 (l : Launch) (Z : State) (a0 : Array Value) (hw : ∀ d ∈ tables_1, d.before a0 Z = true) (ws : List Jvm.Cond) (p1 : Int32) (h0 : Heap) (n0 : Nat) (Z0 : n0 ≤ h0.size) :
    MetFree l (⟨"com/example/fallbak/fallbak/xpath/QName", "isNameOnlyChar", "(I)Z"⟩ : MethodName) (head1 (Jvm.Cond.code (⟨"com/example/fallbak/fallbak/xpath/QName", "isNameOnlyChar", "(I)Z"⟩ : MethodName) prog_88_method_6_code 1 (some .boolean) :: ws) ({ frames := 0, cells := 0, slots := 0, locals := 0 } : Room)) (fun a U => a = #[(.int p1)] ∧ Z.Warmed39 U.vm ∧ U.heap = h0) (fun _ _ _ _ _ => True) (fun _ U o U' => ∃ v L, o = .returned v ∧ Q1 Z p1 h0 n0 v U'.heap L ∧ FrameEnd U o U' L ({ frames := 0, cells := 0, slots := 0, locals := 0 } : Room).cells ({ frames := 0, cells := 0, slots := 0, locals := 0 } : Room).slots) := by
  refine MetFree.of_bodySF (plainFor_of_name pn_1) hisR ?_
  intro p e s m args below meth c s₁ Bd hml0 hP hK
  obtain ⟨rfl, hZ, hh⟩ := hP
  have hx := Bd.exec
  have hby := Bd.bytes
  have hown : s.vm.findClass "com/example/fallbak/fallbak/xpath/QName" = some m.cls := findClass_of_methodNamed Bd.named
  have X0 : Stand p l e ({ frames := 0, cells := 0, slots := 0, locals := 0 } : Room) s m #[(.int p1)] below meth c s₁ [] 0 0 := Stand.of_body Bd
  have e0 : s₁.heap = h0 := by rw [← hh, Bd.state]; rfl
  have N0 := Fr.nil n0
  have pre0 : ∀ t, Steps p.tables e below (s₁.setTop (mkF m 0 #[.val (.int p1)] [])) t → Steps p.tables e below (s₁.setTop (entryFrame m #[(.int p1)] 1)) t := fun t k => castTop (ef_1 m p1) k
  obtain ⟨z, hz0⟩ : ∃ z, own_v1_0 p1 = z := ⟨_, rfl⟩
  obtain ⟨fs, hr, hrun, hended, hW, hsame⟩ := X0.leave (v := some (.int z)) (fun h => by rw [Bd.returns] at h; cases h)
  have b63 : own_v1_63 p1 = z → Steps p.tables e below (s₁.setTop (mkF m 63 #[.val (.int p1)] [])) (s₁.setFrames fs) := by
    intro hz
    refine XS.iconst X0.here hx rfl (hb hby d1_63) ?_
    show Steps p.tables e below (s₁.setTop (mkF m 64 #[.val (.int p1)] [(.int (0 : Int32))])) _
    subst hz
    exact retN X0 hx (t := .boolean) Bd.returns (by simp) (hb hby d1_64) hr
  have b59 : own_v1_59 p1 = z → Steps p.tables e below (s₁.setTop (mkF m 59 #[.val (.int p1)] [])) (s₁.setFrames fs) := by
    intro hz
    refine XS.iconst X0.here hx rfl (hb hby d1_59) ?_
    show Steps p.tables e below (s₁.setTop (mkF m 60 #[.val (.int p1)] [(.int (1 : Int32))])) _
    refine XS.goto X0.here hx rfl (pc0 := 60) (pc' := 64) rfl (hb hby d1_60) (by decide) (by decide) ?_
    show Steps p.tables e below (s₁.setTop (mkF m 64 #[.val (.int p1)] [(.int (1 : Int32))])) _
    subst hz
    exact retN X0 hx (t := .boolean) Bd.returns (by simp) (hb hby d1_64) hr
  have b52 : own_v1_52 p1 = z → Steps p.tables e below (s₁.setTop (mkF m 52 #[.val (.int p1)] [])) (s₁.setFrames fs) := by
    intro hz
    refine XS.iloadN X0.here hx rfl (hb hby d1_52) rfl ?_
    show Steps p.tables e below (s₁.setTop (mkF m 53 #[.val (.int p1)] [(.int p1)])) _
    refine XS.sipush X0.here hx rfl (hb hby d1_53) ?_
    show Steps p.tables e below (s₁.setTop (mkF m 56 #[.val (.int p1)] [(.int (8256 : Int32)), (.int p1)])) _
    unfold own_v1_52 at hz
    by_cases h : (8256 : Int32) < p1
    · rw [if_pos h] at hz
      refine XS.icmpYes X0.here hx rfl (pc0 := 56) (pc' := 63) rfl (hb hby d1_56) rfl (tlt h).2.2.1 (by decide) (by decide) ?_
      exact b63 hz
    · rw [if_neg h] at hz
      refine XS.icmpNo X0.here hx rfl (hb hby d1_56) rfl (flt h).2.2.1 ?_
      exact b59 hz
  have b45 : own_v1_45 p1 = z → Steps p.tables e below (s₁.setTop (mkF m 45 #[.val (.int p1)] [])) (s₁.setFrames fs) := by
    intro hz
    refine XS.iloadN X0.here hx rfl (hb hby d1_45) rfl ?_
    show Steps p.tables e below (s₁.setTop (mkF m 46 #[.val (.int p1)] [(.int p1)])) _
    refine XS.sipush X0.here hx rfl (hb hby d1_46) ?_
    show Steps p.tables e below (s₁.setTop (mkF m 49 #[.val (.int p1)] [(.int (8255 : Int32)), (.int p1)])) _
    unfold own_v1_45 at hz
    by_cases h : p1 < (8255 : Int32)
    · rw [if_pos h] at hz
      refine XS.icmpYes X0.here hx rfl (pc0 := 49) (pc' := 63) rfl (hb hby d1_49) rfl (tlt h).1 (by decide) (by decide) ?_
      exact b63 hz
    · rw [if_neg h] at hz
      refine XS.icmpNo X0.here hx rfl (hb hby d1_49) rfl (flt h).1 ?_
      exact b52 hz
  have b38 : own_v1_38 p1 = z → Steps p.tables e below (s₁.setTop (mkF m 38 #[.val (.int p1)] [])) (s₁.setFrames fs) := by
    intro hz
    refine XS.iloadN X0.here hx rfl (hb hby d1_38) rfl ?_
    show Steps p.tables e below (s₁.setTop (mkF m 39 #[.val (.int p1)] [(.int p1)])) _
    refine XS.sipush X0.here hx rfl (hb hby d1_39) ?_
    show Steps p.tables e below (s₁.setTop (mkF m 42 #[.val (.int p1)] [(.int (879 : Int32)), (.int p1)])) _
    unfold own_v1_38 at hz
    by_cases h : (879 : Int32) < p1
    · rw [if_pos h] at hz
      refine XS.icmpNo X0.here hx rfl (hb hby d1_42) rfl (tlt h).2.2.2 ?_
      exact b45 hz
    · rw [if_neg h] at hz
      refine XS.icmpYes X0.here hx rfl (pc0 := 42) (pc' := 59) rfl (hb hby d1_42) rfl (flt h).2.2.2 (by decide) (by decide) ?_
      exact b59 hz
  have b31 : own_v1_31 p1 = z → Steps p.tables e below (s₁.setTop (mkF m 31 #[.val (.int p1)] [])) (s₁.setFrames fs) := by
    intro hz
    refine XS.iloadN X0.here hx rfl (hb hby d1_31) rfl ?_
    show Steps p.tables e below (s₁.setTop (mkF m 32 #[.val (.int p1)] [(.int p1)])) _
    refine XS.sipush X0.here hx rfl (hb hby d1_32) ?_
    show Steps p.tables e below (s₁.setTop (mkF m 35 #[.val (.int p1)] [(.int (768 : Int32)), (.int p1)])) _
    unfold own_v1_31 at hz
    by_cases h : p1 < (768 : Int32)
    · rw [if_pos h] at hz
      refine XS.icmpYes X0.here hx rfl (pc0 := 35) (pc' := 45) rfl (hb hby d1_35) rfl (tlt h).1 (by decide) (by decide) ?_
      exact b45 hz
    · rw [if_neg h] at hz
      refine XS.icmpNo X0.here hx rfl (hb hby d1_35) rfl (flt h).1 ?_
      exact b38 hz
  have b24 : own_v1_24 p1 = z → Steps p.tables e below (s₁.setTop (mkF m 24 #[.val (.int p1)] [])) (s₁.setFrames fs) := by
    intro hz
    refine XS.iloadN X0.here hx rfl (hb hby d1_24) rfl ?_
    show Steps p.tables e below (s₁.setTop (mkF m 25 #[.val (.int p1)] [(.int p1)])) _
    refine XS.sipush X0.here hx rfl (hb hby d1_25) ?_
    show Steps p.tables e below (s₁.setTop (mkF m 28 #[.val (.int p1)] [(.int (183 : Int32)), (.int p1)])) _
    unfold own_v1_24 at hz
    by_cases h : p1 = (183 : Int32)
    · rw [if_pos h] at hz
      refine XS.icmpYes X0.here hx rfl (pc0 := 28) (pc' := 59) rfl (hb hby d1_28) rfl (teq h).1 (by decide) (by decide) ?_
      exact b59 hz
    · rw [if_neg h] at hz
      refine XS.icmpNo X0.here hx rfl (hb hby d1_28) rfl (feq h).1 ?_
      exact b31 hz
  have b18 : own_v1_18 p1 = z → Steps p.tables e below (s₁.setTop (mkF m 18 #[.val (.int p1)] [])) (s₁.setFrames fs) := by
    intro hz
    refine XS.iloadN X0.here hx rfl (hb hby d1_18) rfl ?_
    show Steps p.tables e below (s₁.setTop (mkF m 19 #[.val (.int p1)] [(.int p1)])) _
    refine XS.bipush X0.here hx rfl (hb hby d1_19) ?_
    show Steps p.tables e below (s₁.setTop (mkF m 21 #[.val (.int p1)] [(.int (57 : Int32)), (.int p1)])) _
    unfold own_v1_18 at hz
    by_cases h : (57 : Int32) < p1
    · rw [if_pos h] at hz
      refine XS.icmpNo X0.here hx rfl (hb hby d1_21) rfl (tlt h).2.2.2 ?_
      exact b24 hz
    · rw [if_neg h] at hz
      refine XS.icmpYes X0.here hx rfl (pc0 := 21) (pc' := 59) rfl (hb hby d1_21) rfl (flt h).2.2.2 (by decide) (by decide) ?_
      exact b59 hz
  have b12 : own_v1_12 p1 = z → Steps p.tables e below (s₁.setTop (mkF m 12 #[.val (.int p1)] [])) (s₁.setFrames fs) := by
    intro hz
    refine XS.iloadN X0.here hx rfl (hb hby d1_12) rfl ?_
    show Steps p.tables e below (s₁.setTop (mkF m 13 #[.val (.int p1)] [(.int p1)])) _
    refine XS.bipush X0.here hx rfl (hb hby d1_13) ?_
    show Steps p.tables e below (s₁.setTop (mkF m 15 #[.val (.int p1)] [(.int (48 : Int32)), (.int p1)])) _
    unfold own_v1_12 at hz
    by_cases h : p1 < (48 : Int32)
    · rw [if_pos h] at hz
      refine XS.icmpYes X0.here hx rfl (pc0 := 15) (pc' := 24) rfl (hb hby d1_15) rfl (tlt h).1 (by decide) (by decide) ?_
      exact b24 hz
    · rw [if_neg h] at hz
      refine XS.icmpNo X0.here hx rfl (hb hby d1_15) rfl (flt h).1 ?_
      exact b18 hz
  have b6 : own_v1_6 p1 = z → Steps p.tables e below (s₁.setTop (mkF m 6 #[.val (.int p1)] [])) (s₁.setFrames fs) := by
    intro hz
    refine XS.iloadN X0.here hx rfl (hb hby d1_6) rfl ?_
    show Steps p.tables e below (s₁.setTop (mkF m 7 #[.val (.int p1)] [(.int p1)])) _
    refine XS.bipush X0.here hx rfl (hb hby d1_7) ?_
    show Steps p.tables e below (s₁.setTop (mkF m 9 #[.val (.int p1)] [(.int (46 : Int32)), (.int p1)])) _
    unfold own_v1_6 at hz
    by_cases h : p1 = (46 : Int32)
    · rw [if_pos h] at hz
      refine XS.icmpYes X0.here hx rfl (pc0 := 9) (pc' := 59) rfl (hb hby d1_9) rfl (teq h).1 (by decide) (by decide) ?_
      exact b59 hz
    · rw [if_neg h] at hz
      refine XS.icmpNo X0.here hx rfl (hb hby d1_9) rfl (feq h).1 ?_
      exact b12 hz
  have b0 : own_v1_0 p1 = z → Steps p.tables e below (s₁.setTop (mkF m 0 #[.val (.int p1)] [])) (s₁.setFrames fs) := by
    intro hz
    refine XS.iloadN X0.here hx rfl (hb hby d1_0) rfl ?_
    show Steps p.tables e below (s₁.setTop (mkF m 1 #[.val (.int p1)] [(.int p1)])) _
    refine XS.bipush X0.here hx rfl (hb hby d1_1) ?_
    show Steps p.tables e below (s₁.setTop (mkF m 3 #[.val (.int p1)] [(.int (45 : Int32)), (.int p1)])) _
    unfold own_v1_0 at hz
    by_cases h : p1 = (45 : Int32)
    · rw [if_pos h] at hz
      refine XS.icmpYes X0.here hx rfl (pc0 := 3) (pc' := 59) rfl (hb hby d1_3) rfl (teq h).1 (by decide) (by decide) ?_
      exact b59 hz
    · rw [if_neg h] at hz
      refine XS.icmpNo X0.here hx rfl (hb hby d1_3) rfl (feq h).1 ?_
      exact b6 hz
  refine ⟨_, _, pre0 _ ?_, hrun, hended, _, _, rfl, ?_, ⟨_, rfl⟩, hW, hsame.mono (by decide) (by decide)⟩
  · exact b0 hz0
  · show Q1 Z p1 h0 n0 _ s₁.heap _
    rw [e0, ← hz0]
    exact ⟨rfl, N0, rfl⟩
theorem d2_0 : decode jdk_29_method_69_code 0 = .ok (.iload_n 0, 1) := by decide +kernel
theorem d2_1 : decode jdk_29_method_69_code 1 = .ok (.iload_n 1, 1) := by decide +kernel
theorem d2_2 : decode jdk_29_method_69_code 2 = .ok (.if_icmp .gt 7, 3) := by decide +kernel
theorem d2_5 : decode jdk_29_method_69_code 5 = .ok (.iload_n 0, 1) := by decide +kernel
theorem d2_6 : decode jdk_29_method_69_code 6 = .ok (.goto 4, 3) := by decide +kernel
theorem d2_9 : decode jdk_29_method_69_code 9 = .ok (.iload_n 1, 1) := by decide +kernel
theorem d2_10 : decode jdk_29_method_69_code 10 = .ok (.ireturn, 1) := by decide +kernel
theorem ef_2 (m : MethodId) (x0 : Int32) (x1 : Int32) : entryFrame m #[(.int x0), (.int x1)] 2 = mkF m 0 #[.val (.int x0), .val (.int x1)] [] := by first | (simp [entryFrame, mkF, argsToLocals, Value.category]; done) | rfl
def own_v2_9 (p1 p2 : Int32) : Int32 := p2
def own_v2_5 (p1 p2 : Int32) : Int32 := p1
def own_v2_0 (p1 p2 : Int32) : Int32 := if p2 < p1 then own_v2_9 p1 p2 else own_v2_5 p1 p2
def Q2 (Z : State) (p1 : Int32) (p2 : Int32) (h0 : Heap) (n0 : Nat) (v : Option Value) (h : Heap) (L : List Loc) : Prop := v = some (.int (own_v2_0 p1 p2)) ∧ Fr n0 L ∧ h = h0
set_option maxRecDepth 65536 in
set_option maxHeartbeats 40000000 in
theorem rm2 (l : Launch) (Z : State) (a0 : Array Value) (hw : ∀ d ∈ tables_1, d.before a0 Z = true) (ws : List Jvm.Cond) (p1 : Int32) (p2 : Int32) (h0 : Heap) (n0 : Nat) (Z0 : n0 ≤ h0.size) :
    MetFree l (⟨"java/lang/Math", "min", "(II)I"⟩ : MethodName) (head1 (Jvm.Cond.code (⟨"java/lang/Math", "min", "(II)I"⟩ : MethodName) jdk_29_method_69_code 2 (some .int) :: ws) ({ frames := 0, cells := 0, slots := 0, locals := 0 } : Room)) (fun a U => a = #[(.int p1), (.int p2)] ∧ Z.Warmed39 U.vm ∧ U.heap = h0) (fun _ _ _ _ _ => True) (fun _ U o U' => ∃ v L, o = .returned v ∧ Q2 Z p1 p2 h0 n0 v U'.heap L ∧ FrameEnd U o U' L ({ frames := 0, cells := 0, slots := 0, locals := 0 } : Room).cells ({ frames := 0, cells := 0, slots := 0, locals := 0 } : Room).slots) := by
  refine MetFree.of_bodySF (Jvm.Free.JP.mathPlain rfl (by decide +kernel)) hisR ?_
  intro p e s m args below meth c s₁ Bd hml0 hP hK
  obtain ⟨rfl, hZ, hh⟩ := hP
  have hx := Bd.exec
  have hby := Bd.bytes
  have hown : s.vm.findClass "java/lang/Math" = some m.cls := findClass_of_methodNamed Bd.named
  have X0 : Stand p l e ({ frames := 0, cells := 0, slots := 0, locals := 0 } : Room) s m #[(.int p1), (.int p2)] below meth c s₁ [] 0 0 := Stand.of_body Bd
  have e0 : s₁.heap = h0 := by rw [← hh, Bd.state]; rfl
  have N0 := Fr.nil n0
  have pre0 : ∀ t, Steps p.tables e below (s₁.setTop (mkF m 0 #[.val (.int p1), .val (.int p2)] [])) t → Steps p.tables e below (s₁.setTop (entryFrame m #[(.int p1), (.int p2)] 2)) t := fun t k => castTop (ef_2 m p1 p2) k
  obtain ⟨z, hz0⟩ : ∃ z, own_v2_0 p1 p2 = z := ⟨_, rfl⟩
  obtain ⟨fs, hr, hrun, hended, hW, hsame⟩ := X0.leave (v := some (.int z)) (fun h => by rw [Bd.returns] at h; cases h)
  have b9 : own_v2_9 p1 p2 = z → Steps p.tables e below (s₁.setTop (mkF m 9 #[.val (.int p1), .val (.int p2)] [])) (s₁.setFrames fs) := by
    intro hz
    refine XS.iloadN X0.here hx rfl (hb hby d2_9) rfl ?_
    show Steps p.tables e below (s₁.setTop (mkF m 10 #[.val (.int p1), .val (.int p2)] [(.int p2)])) _
    subst hz
    exact retI X0 hx Bd.returns (hb hby d2_10) hr
  have b5 : own_v2_5 p1 p2 = z → Steps p.tables e below (s₁.setTop (mkF m 5 #[.val (.int p1), .val (.int p2)] [])) (s₁.setFrames fs) := by
    intro hz
    refine XS.iloadN X0.here hx rfl (hb hby d2_5) rfl ?_
    show Steps p.tables e below (s₁.setTop (mkF m 6 #[.val (.int p1), .val (.int p2)] [(.int p1)])) _
    refine XS.goto X0.here hx rfl (pc0 := 6) (pc' := 10) rfl (hb hby d2_6) (by decide) (by decide) ?_
    show Steps p.tables e below (s₁.setTop (mkF m 10 #[.val (.int p1), .val (.int p2)] [(.int p1)])) _
    subst hz
    exact retI X0 hx Bd.returns (hb hby d2_10) hr
  have b0 : own_v2_0 p1 p2 = z → Steps p.tables e below (s₁.setTop (mkF m 0 #[.val (.int p1), .val (.int p2)] [])) (s₁.setFrames fs) := by
    intro hz
    refine XS.iloadN X0.here hx rfl (hb hby d2_0) rfl ?_
    show Steps p.tables e below (s₁.setTop (mkF m 1 #[.val (.int p1), .val (.int p2)] [(.int p1)])) _
    refine XS.iloadN X0.here hx rfl (hb hby d2_1) rfl ?_
    show Steps p.tables e below (s₁.setTop (mkF m 2 #[.val (.int p1), .val (.int p2)] [(.int p2), (.int p1)])) _
    unfold own_v2_0 at hz
    by_cases h : p2 < p1
    · rw [if_pos h] at hz
      refine XS.icmpYes X0.here hx rfl (pc0 := 2) (pc' := 9) rfl (hb hby d2_2) rfl (tlt h).2.2.1 (by decide) (by decide) ?_
      exact b9 hz
    · rw [if_neg h] at hz
      refine XS.icmpNo X0.here hx rfl (hb hby d2_2) rfl (flt h).2.2.1 ?_
      exact b5 hz
  refine ⟨_, _, pre0 _ ?_, hrun, hended, _, _, rfl, ?_, ⟨_, rfl⟩, hW, hsame.mono (by decide) (by decide)⟩
  · exact b0 hz0
  · show Q2 Z p1 p2 h0 n0 _ s₁.heap _
    rw [e0, ← hz0]
    exact ⟨rfl, N0, rfl⟩
theorem d3_0 : decode jdk_29_method_65_code 0 = .ok (.iload_n 0, 1) := by decide +kernel
theorem d3_1 : decode jdk_29_method_65_code 1 = .ok (.iload_n 1, 1) := by decide +kernel
theorem d3_2 : decode jdk_29_method_65_code 2 = .ok (.if_icmp .lt 7, 3) := by decide +kernel
theorem d3_5 : decode jdk_29_method_65_code 5 = .ok (.iload_n 0, 1) := by decide +kernel
theorem d3_6 : decode jdk_29_method_65_code 6 = .ok (.goto 4, 3) := by decide +kernel
theorem d3_9 : decode jdk_29_method_65_code 9 = .ok (.iload_n 1, 1) := by decide +kernel
theorem d3_10 : decode jdk_29_method_65_code 10 = .ok (.ireturn, 1) := by decide +kernel
theorem ef_3 (m : MethodId) (x0 : Int32) (x1 : Int32) : entryFrame m #[(.int x0), (.int x1)] 2 = mkF m 0 #[.val (.int x0), .val (.int x1)] [] := by first | (simp [entryFrame, mkF, argsToLocals, Value.category]; done) | rfl
def own_v3_9 (p1 p2 : Int32) : Int32 := p2
def own_v3_5 (p1 p2 : Int32) : Int32 := p1
def own_v3_0 (p1 p2 : Int32) : Int32 := if p1 < p2 then own_v3_9 p1 p2 else own_v3_5 p1 p2
def Q3 (Z : State) (p1 : Int32) (p2 : Int32) (h0 : Heap) (n0 : Nat) (v : Option Value) (h : Heap) (L : List Loc) : Prop := v = some (.int (own_v3_0 p1 p2)) ∧ Fr n0 L ∧ h = h0
set_option maxRecDepth 65536 in
set_option maxHeartbeats 40000000 in
theorem rm3 (l : Launch) (Z : State) (a0 : Array Value) (hw : ∀ d ∈ tables_1, d.before a0 Z = true) (ws : List Jvm.Cond) (p1 : Int32) (p2 : Int32) (h0 : Heap) (n0 : Nat) (Z0 : n0 ≤ h0.size) :
    MetFree l (⟨"java/lang/Math", "max", "(II)I"⟩ : MethodName) (head1 (Jvm.Cond.code (⟨"java/lang/Math", "max", "(II)I"⟩ : MethodName) jdk_29_method_65_code 2 (some .int) :: ws) ({ frames := 0, cells := 0, slots := 0, locals := 0 } : Room)) (fun a U => a = #[(.int p1), (.int p2)] ∧ Z.Warmed39 U.vm ∧ U.heap = h0) (fun _ _ _ _ _ => True) (fun _ U o U' => ∃ v L, o = .returned v ∧ Q3 Z p1 p2 h0 n0 v U'.heap L ∧ FrameEnd U o U' L ({ frames := 0, cells := 0, slots := 0, locals := 0 } : Room).cells ({ frames := 0, cells := 0, slots := 0, locals := 0 } : Room).slots) := by
  refine MetFree.of_bodySF (Jvm.Free.JP.mathPlain rfl (by decide +kernel)) hisR ?_
  intro p e s m args below meth c s₁ Bd hml0 hP hK
  obtain ⟨rfl, hZ, hh⟩ := hP
  have hx := Bd.exec
  have hby := Bd.bytes
  have hown : s.vm.findClass "java/lang/Math" = some m.cls := findClass_of_methodNamed Bd.named
  have X0 : Stand p l e ({ frames := 0, cells := 0, slots := 0, locals := 0 } : Room) s m #[(.int p1), (.int p2)] below meth c s₁ [] 0 0 := Stand.of_body Bd
  have e0 : s₁.heap = h0 := by rw [← hh, Bd.state]; rfl
  have N0 := Fr.nil n0
  have pre0 : ∀ t, Steps p.tables e below (s₁.setTop (mkF m 0 #[.val (.int p1), .val (.int p2)] [])) t → Steps p.tables e below (s₁.setTop (entryFrame m #[(.int p1), (.int p2)] 2)) t := fun t k => castTop (ef_3 m p1 p2) k
  obtain ⟨z, hz0⟩ : ∃ z, own_v3_0 p1 p2 = z := ⟨_, rfl⟩
  obtain ⟨fs, hr, hrun, hended, hW, hsame⟩ := X0.leave (v := some (.int z)) (fun h => by rw [Bd.returns] at h; cases h)
  have b9 : own_v3_9 p1 p2 = z → Steps p.tables e below (s₁.setTop (mkF m 9 #[.val (.int p1), .val (.int p2)] [])) (s₁.setFrames fs) := by
    intro hz
    refine XS.iloadN X0.here hx rfl (hb hby d3_9) rfl ?_
    show Steps p.tables e below (s₁.setTop (mkF m 10 #[.val (.int p1), .val (.int p2)] [(.int p2)])) _
    subst hz
    exact retI X0 hx Bd.returns (hb hby d3_10) hr
  have b5 : own_v3_5 p1 p2 = z → Steps p.tables e below (s₁.setTop (mkF m 5 #[.val (.int p1), .val (.int p2)] [])) (s₁.setFrames fs) := by
    intro hz
    refine XS.iloadN X0.here hx rfl (hb hby d3_5) rfl ?_
    show Steps p.tables e below (s₁.setTop (mkF m 6 #[.val (.int p1), .val (.int p2)] [(.int p1)])) _
    refine XS.goto X0.here hx rfl (pc0 := 6) (pc' := 10) rfl (hb hby d3_6) (by decide) (by decide) ?_
    show Steps p.tables e below (s₁.setTop (mkF m 10 #[.val (.int p1), .val (.int p2)] [(.int p1)])) _
    subst hz
    exact retI X0 hx Bd.returns (hb hby d3_10) hr
  have b0 : own_v3_0 p1 p2 = z → Steps p.tables e below (s₁.setTop (mkF m 0 #[.val (.int p1), .val (.int p2)] [])) (s₁.setFrames fs) := by
    intro hz
    refine XS.iloadN X0.here hx rfl (hb hby d3_0) rfl ?_
    show Steps p.tables e below (s₁.setTop (mkF m 1 #[.val (.int p1), .val (.int p2)] [(.int p1)])) _
    refine XS.iloadN X0.here hx rfl (hb hby d3_1) rfl ?_
    show Steps p.tables e below (s₁.setTop (mkF m 2 #[.val (.int p1), .val (.int p2)] [(.int p2), (.int p1)])) _
    unfold own_v3_0 at hz
    by_cases h : p1 < p2
    · rw [if_pos h] at hz
      refine XS.icmpYes X0.here hx rfl (pc0 := 2) (pc' := 9) rfl (hb hby d3_2) rfl (tlt h).1 (by decide) (by decide) ?_
      exact b9 hz
    · rw [if_neg h] at hz
      refine XS.icmpNo X0.here hx rfl (hb hby d3_2) rfl (flt h).1 ?_
      exact b5 hz
  refine ⟨_, _, pre0 _ ?_, hrun, hended, _, _, rfl, ?_, ⟨_, rfl⟩, hW, hsame.mono (by decide) (by decide)⟩
  · exact b0 hz0
  · show Q3 Z p1 p2 h0 n0 _ s₁.heap _
    rw [e0, ← hz0]
    exact ⟨rfl, N0, rfl⟩
theorem own_lt {c k : Int32} (K : Int) (hk : k.toInt = K) (h : c.toInt < K) : c < k := by rw [Int32.lt_iff_toInt_lt, hk]; exact h
theorem own_nlt {c k : Int32} (K : Int) (hk : k.toInt = K) (h : K ≤ c.toInt) : ¬ c < k := by rw [Int32.lt_iff_toInt_lt, hk]; omega
theorem own_gt {c k : Int32} (K : Int) (hk : k.toInt = K) (h : K < c.toInt) : k < c := by rw [Int32.lt_iff_toInt_lt, hk]; exact h
theorem own_ngt {c k : Int32} (K : Int) (hk : k.toInt = K) (h : c.toInt ≤ K) : ¬ k < c := by rw [Int32.lt_iff_toInt_lt, hk]; omega
theorem own_eq {c k : Int32} (K : Int) (hk : k.toInt = K) (h : c.toInt = K) : c = k := Int32.toInt_inj.mp (by rw [hk]; exact h)
theorem own_neq {c k : Int32} (K : Int) (hk : k.toInt = K) (h : c.toInt ≠ K) : ¬ c = k := fun e => h (by rw [e]; exact hk)
theorem own_reg_0 (c : Int32) (h2 : c.toInt ≤ 44) : own_v1_0 c = 0 := ((show own_v1_0 c = own_v1_6 c from if_neg (own_neq 45 rfl (by omega))).trans ((show own_v1_6 c = own_v1_12 c from if_neg (own_neq 46 rfl (by omega))).trans ((show own_v1_12 c = own_v1_24 c from if_pos (own_lt 48 rfl (by omega))).trans ((show own_v1_24 c = own_v1_31 c from if_neg (own_neq 183 rfl (by omega))).trans ((show own_v1_31 c = own_v1_45 c from if_pos (own_lt 768 rfl (by omega))).trans ((show own_v1_45 c = own_v1_63 c from if_pos (own_lt 8255 rfl (by omega))).trans rfl))))))
theorem own_reg_1 (c : Int32) (h1 : 45 ≤ c.toInt) (h2 : c.toInt ≤ 45) : own_v1_0 c = 1 := ((show own_v1_0 c = own_v1_59 c from if_pos (own_eq 45 rfl (by omega))).trans rfl)
theorem own_reg_2 (c : Int32) (h1 : 46 ≤ c.toInt) (h2 : c.toInt ≤ 46) : own_v1_0 c = 1 := ((show own_v1_0 c = own_v1_6 c from if_neg (own_neq 45 rfl (by omega))).trans ((show own_v1_6 c = own_v1_59 c from if_pos (own_eq 46 rfl (by omega))).trans rfl))
theorem own_reg_3 (c : Int32) (h1 : 47 ≤ c.toInt) (h2 : c.toInt ≤ 47) : own_v1_0 c = 0 := ((show own_v1_0 c = own_v1_6 c from if_neg (own_neq 45 rfl (by omega))).trans ((show own_v1_6 c = own_v1_12 c from if_neg (own_neq 46 rfl (by omega))).trans ((show own_v1_12 c = own_v1_24 c from if_pos (own_lt 48 rfl (by omega))).trans ((show own_v1_24 c = own_v1_31 c from if_neg (own_neq 183 rfl (by omega))).trans ((show own_v1_31 c = own_v1_45 c from if_pos (own_lt 768 rfl (by omega))).trans ((show own_v1_45 c = own_v1_63 c from if_pos (own_lt 8255 rfl (by omega))).trans rfl))))))
theorem own_reg_4 (c : Int32) (h1 : 48 ≤ c.toInt) (h2 : c.toInt ≤ 57) : own_v1_0 c = 1 := ((show own_v1_0 c = own_v1_6 c from if_neg (own_neq 45 rfl (by omega))).trans ((show own_v1_6 c = own_v1_12 c from if_neg (own_neq 46 rfl (by omega))).trans ((show own_v1_12 c = own_v1_18 c from if_neg (own_nlt 48 rfl (by omega))).trans ((show own_v1_18 c = own_v1_59 c from if_neg (own_ngt 57 rfl (by omega))).trans rfl))))
theorem own_reg_5 (c : Int32) (h1 : 58 ≤ c.toInt) (h2 : c.toInt ≤ 182) : own_v1_0 c = 0 := ((show own_v1_0 c = own_v1_6 c from if_neg (own_neq 45 rfl (by omega))).trans ((show own_v1_6 c = own_v1_12 c from if_neg (own_neq 46 rfl (by omega))).trans ((show own_v1_12 c = own_v1_18 c from if_neg (own_nlt 48 rfl (by omega))).trans ((show own_v1_18 c = own_v1_24 c from if_pos (own_gt 57 rfl (by omega))).trans ((show own_v1_24 c = own_v1_31 c from if_neg (own_neq 183 rfl (by omega))).trans ((show own_v1_31 c = own_v1_45 c from if_pos (own_lt 768 rfl (by omega))).trans ((show own_v1_45 c = own_v1_63 c from if_pos (own_lt 8255 rfl (by omega))).trans rfl)))))))
theorem own_reg_6 (c : Int32) (h1 : 183 ≤ c.toInt) (h2 : c.toInt ≤ 183) : own_v1_0 c = 1 := ((show own_v1_0 c = own_v1_6 c from if_neg (own_neq 45 rfl (by omega))).trans ((show own_v1_6 c = own_v1_12 c from if_neg (own_neq 46 rfl (by omega))).trans ((show own_v1_12 c = own_v1_18 c from if_neg (own_nlt 48 rfl (by omega))).trans ((show own_v1_18 c = own_v1_24 c from if_pos (own_gt 57 rfl (by omega))).trans ((show own_v1_24 c = own_v1_59 c from if_pos (own_eq 183 rfl (by omega))).trans rfl)))))
theorem own_reg_7 (c : Int32) (h1 : 184 ≤ c.toInt) (h2 : c.toInt ≤ 767) : own_v1_0 c = 0 := ((show own_v1_0 c = own_v1_6 c from if_neg (own_neq 45 rfl (by omega))).trans ((show own_v1_6 c = own_v1_12 c from if_neg (own_neq 46 rfl (by omega))).trans ((show own_v1_12 c = own_v1_18 c from if_neg (own_nlt 48 rfl (by omega))).trans ((show own_v1_18 c = own_v1_24 c from if_pos (own_gt 57 rfl (by omega))).trans ((show own_v1_24 c = own_v1_31 c from if_neg (own_neq 183 rfl (by omega))).trans ((show own_v1_31 c = own_v1_45 c from if_pos (own_lt 768 rfl (by omega))).trans ((show own_v1_45 c = own_v1_63 c from if_pos (own_lt 8255 rfl (by omega))).trans rfl)))))))
theorem own_reg_8 (c : Int32) (h1 : 768 ≤ c.toInt) (h2 : c.toInt ≤ 879) : own_v1_0 c = 1 := ((show own_v1_0 c = own_v1_6 c from if_neg (own_neq 45 rfl (by omega))).trans ((show own_v1_6 c = own_v1_12 c from if_neg (own_neq 46 rfl (by omega))).trans ((show own_v1_12 c = own_v1_18 c from if_neg (own_nlt 48 rfl (by omega))).trans ((show own_v1_18 c = own_v1_24 c from if_pos (own_gt 57 rfl (by omega))).trans ((show own_v1_24 c = own_v1_31 c from if_neg (own_neq 183 rfl (by omega))).trans ((show own_v1_31 c = own_v1_38 c from if_neg (own_nlt 768 rfl (by omega))).trans ((show own_v1_38 c = own_v1_59 c from if_neg (own_ngt 879 rfl (by omega))).trans rfl)))))))
theorem own_reg_9 (c : Int32) (h1 : 880 ≤ c.toInt) (h2 : c.toInt ≤ 8254) : own_v1_0 c = 0 := ((show own_v1_0 c = own_v1_6 c from if_neg (own_neq 45 rfl (by omega))).trans ((show own_v1_6 c = own_v1_12 c from if_neg (own_neq 46 rfl (by omega))).trans ((show own_v1_12 c = own_v1_18 c from if_neg (own_nlt 48 rfl (by omega))).trans ((show own_v1_18 c = own_v1_24 c from if_pos (own_gt 57 rfl (by omega))).trans ((show own_v1_24 c = own_v1_31 c from if_neg (own_neq 183 rfl (by omega))).trans ((show own_v1_31 c = own_v1_38 c from if_neg (own_nlt 768 rfl (by omega))).trans ((show own_v1_38 c = own_v1_45 c from if_pos (own_gt 879 rfl (by omega))).trans ((show own_v1_45 c = own_v1_63 c from if_pos (own_lt 8255 rfl (by omega))).trans rfl))))))))
theorem own_reg_10 (c : Int32) (h1 : 8255 ≤ c.toInt) (h2 : c.toInt ≤ 8256) : own_v1_0 c = 1 := ((show own_v1_0 c = own_v1_6 c from if_neg (own_neq 45 rfl (by omega))).trans ((show own_v1_6 c = own_v1_12 c from if_neg (own_neq 46 rfl (by omega))).trans ((show own_v1_12 c = own_v1_18 c from if_neg (own_nlt 48 rfl (by omega))).trans ((show own_v1_18 c = own_v1_24 c from if_pos (own_gt 57 rfl (by omega))).trans ((show own_v1_24 c = own_v1_31 c from if_neg (own_neq 183 rfl (by omega))).trans ((show own_v1_31 c = own_v1_38 c from if_neg (own_nlt 768 rfl (by omega))).trans ((show own_v1_38 c = own_v1_45 c from if_pos (own_gt 879 rfl (by omega))).trans ((show own_v1_45 c = own_v1_52 c from if_neg (own_nlt 8255 rfl (by omega))).trans ((show own_v1_52 c = own_v1_59 c from if_neg (own_ngt 8256 rfl (by omega))).trans rfl)))))))))
theorem own_reg_11 (c : Int32) (h1 : 8257 ≤ c.toInt) : own_v1_0 c = 0 := ((show own_v1_0 c = own_v1_6 c from if_neg (own_neq 45 rfl (by omega))).trans ((show own_v1_6 c = own_v1_12 c from if_neg (own_neq 46 rfl (by omega))).trans ((show own_v1_12 c = own_v1_18 c from if_neg (own_nlt 48 rfl (by omega))).trans ((show own_v1_18 c = own_v1_24 c from if_pos (own_gt 57 rfl (by omega))).trans ((show own_v1_24 c = own_v1_31 c from if_neg (own_neq 183 rfl (by omega))).trans ((show own_v1_31 c = own_v1_38 c from if_neg (own_nlt 768 rfl (by omega))).trans ((show own_v1_38 c = own_v1_45 c from if_pos (own_gt 879 rfl (by omega))).trans ((show own_v1_45 c = own_v1_52 c from if_neg (own_nlt 8255 rfl (by omega))).trans ((show own_v1_52 c = own_v1_63 c from if_pos (own_gt 8256 rfl (by omega))).trans rfl)))))))))
theorem own_rem {u K : Int32} {kk : Int} (hu : 0 ≤ u.toInt) (hk : K.toInt = kk) (h0 : 0 < kk) : (u - u / K * K).toInt = u.toInt % kk := by
  have b := u.toInt_lt
  have e2 : (u / K).toInt = u.toInt / kk := by rw [Jvm.Kit.i32_div (by rw [hk]; omega), hk, Int.tdiv_eq_ediv_of_nonneg hu]
  have m1 : u.toInt / kk * kk ≤ u.toInt := Int.ediv_mul_le _ (by omega)
  have m0 : 0 ≤ u.toInt / kk * kk := Int.mul_nonneg (Int.ediv_nonneg hu (by omega)) (by omega)
  have e3 : (u / K * K).toInt = u.toInt / kk * kk := by rw [Jvm.Kit.i32_mul (by rw [e2, hk]; omega) (by rw [e2, hk]; omega), e2, hk]
  rw [Jvm.Kit.i32_sub (by rw [e3]; omega) (by rw [e3]; omega), e3, Int.emod_def, Int.mul_comm]
theorem own_mask (x : Int32) : 0 ≤ (x &&& (2147483647 : Int32)).toInt := by
  have e1 : (x &&& (2147483647 : Int32)).toInt = x.toInt % 2 ^ 31 := Jvm.Kit.i32_mask x 2147483647 (k := 31) (by decide) (by decide)
  omega
theorem own_plus {u K B : Int32} (kk bb : Int) (hu : 0 ≤ u.toInt) (hk : K.toInt = kk) (hb : B.toInt = bb) (h0 : 0 < kk) (h1 : kk < 10000) (h2 : 0 ≤ bb) (h3 : bb < 10000) : bb ≤ (B + (u - u / K * K)).toInt ∧ (B + (u - u / K * K)).toInt < bb + kk := by
  have e := own_rem hu hk h0
  have a1 := Int.emod_nonneg u.toInt (show kk ≠ 0 by omega)
  have a2 := Int.emod_lt_of_pos u.toInt h0
  rw [Jvm.Kit.i32_add (by rw [hb, e]; omega) (by rw [hb, e]; omega), hb, e]
  omega
theorem own_min (x : Int32) : own_v1_0 (own_v2_0 x (44 : Int32)) = 0 := by
  refine own_reg_0 _ ?_
  have e : (44 : Int32).toInt = 44 := rfl
  show (if (44 : Int32) < x then (44 : Int32) else x).toInt ≤ 44
  by_cases h : (44 : Int32) < x
  · rw [if_pos h, e]; omega
  · rw [if_neg h]; rw [Int32.lt_iff_toInt_lt] at h; omega
theorem own_max (x : Int32) : own_v1_0 (own_v3_0 x (8257 : Int32)) = 0 := by
  refine own_reg_11 _ ?_
  have e : (8257 : Int32).toInt = 8257 := rfl
  show 8257 ≤ (if x < (8257 : Int32) then (8257 : Int32) else x).toInt
  by_cases h : x < (8257 : Int32)
  · rw [if_pos h, e]; omega
  · rw [if_neg h]; rw [Int32.lt_iff_toInt_lt] at h; omega
theorem pn_0 : plainName "com/example/fallbak/fallbak/xpath/QNameIsNameOnlyCharPinLaw" = true := by first | (simp [plainName, overriddenIn]; done) | decide +kernel
theorem pd_0_0 : parseMethodDescriptor "(I)Z" = some ⟨[.int], some .boolean⟩ := by decide +kernel
theorem pd_0_1 : parseMethodDescriptor "(II)I" = some ⟨[.int, .int], some .int⟩ := by decide +kernel
theorem ef_0 (m : MethodId) (x0 : Int32) (x1 : Int32) : entryFrame m #[(.int x0), (.int x1)] maxLocals = mkF m 0 #[.val (.int x0), .val (.int x1), .unset, .unset, .unset, .unset] [] := by first | (simp [entryFrame, mkF, argsToLocals, Value.category, maxLocals]; done) | rfl
def Q0 (Z : State) (p1 : Int32) (p2 : Int32) (h0 : Heap) (n0 : Nat) (v : Option Value) (h : Heap) (L : List Loc) : Prop := v = some (.int (1 : Int32)) ∧ Fr n0 L
set_option maxRecDepth 65536 in
set_option maxHeartbeats 40000000 in
theorem rm0 (l : Launch) (Z : State) (a0 : Array Value) (hw : ∀ d ∈ tables_1, d.before a0 Z = true) (ws : List Jvm.Cond) (p1 : Int32) (p2 : Int32) (h0 : Heap) (n0 : Nat) (Z0 : n0 ≤ h0.size) :
    MetFree l x (head1 (Jvm.Cond.code x code maxLocals ret :: ws) room_1) (fun a U => a = #[(.int p1), (.int p2)] ∧ Z.Warmed39 U.vm ∧ U.heap = h0) (fun _ _ _ _ _ => True) (fun _ U o U' => ∃ v L, o = .returned v ∧ Q0 Z p1 p2 h0 n0 v U'.heap L ∧ FrameEnd U o U' L room_1.cells room_1.slots) := by
  refine MetFree.of_bodySF (plainFor_of_name pn_0) hisR ?_
  intro p e s m args below meth c s₁ Bd hml0 hP hK
  obtain ⟨rfl, hZ, hh⟩ := hP
  have hx := Bd.exec
  have hby := Bd.bytes
  have hml : c.maxLocals = 6 := hml0
  have hown : s.vm.findClass "com/example/fallbak/fallbak/xpath/QNameIsNameOnlyCharPinLaw" = some m.cls := findClass_of_methodNamed Bd.named
  have X0 : Stand p l e room_1 s m #[(.int p1), (.int p2)] below meth c s₁ [] 0 0 := Stand.of_body Bd
  have e0 : s₁.heap = h0 := by rw [← hh, Bd.state]; rfl
  have N0 := Fr.nil n0
  have pre0 : ∀ t, Steps p.tables e below (s₁.setTop (mkF m 0 #[.val (.int p1), .val (.int p2), .unset, .unset, .unset, .unset] [])) t → Steps p.tables e below (s₁.setTop (entryFrame m #[(.int p1), (.int p2)] maxLocals)) t := fun t k => castTop (ef_0 m p1 p2) k
  have pre1 : ∀ t, Steps p.tables e below (s₁.setTop (mkF m 13 #[.val (.int p1), .val (.int p2), .val (.int ((p1 &&& (2147483647 : Int32)) - (p1 &&& (2147483647 : Int32)) / (12 : Int32) * (12 : Int32))), .val (.int (p2 &&& (2147483647 : Int32))), .unset, .unset] [])) t → Steps p.tables e below (s₁.setTop (mkF m 0 #[.val (.int p1), .val (.int p2), .unset, .unset, .unset, .unset] [])) t := by
    intro t kt
    show Steps p.tables e below (s₁.setTop (mkF m 0 #[.val (.int p1), .val (.int p2), .unset, .unset, .unset, .unset] [])) _
    refine XS.iloadN X0.here hx rfl (hb hby at_0) rfl ?_
    show Steps p.tables e below (s₁.setTop (mkF m 1 #[.val (.int p1), .val (.int p2), .unset, .unset, .unset, .unset] [(.int p1)])) _
    refine X0.ldcInt hx hown (mvT hZ (hw _ (List.mem_of_getElem? (i := 0) rfl))) (g := (mkF m 1 #[.val (.int p1), .val (.int p2), .unset, .unset, .unset, .unset] [(.int p1)])) rfl (hb hby at_1) _ ?_
    show Steps p.tables e below (s₁.setTop (mkF m 3 #[.val (.int p1), .val (.int p2), .unset, .unset, .unset, .unset] [(.int (2147483647 : Int32)), (.int p1)])) _
    refine XS.iand X0.here hx rfl (hb hby at_3) rfl ?_
    show Steps p.tables e below (s₁.setTop (mkF m 4 #[.val (.int p1), .val (.int p2), .unset, .unset, .unset, .unset] [(.int (p1 &&& (2147483647 : Int32)))])) _
    refine XS.bipush X0.here hx rfl (hb hby at_4) ?_
    show Steps p.tables e below (s₁.setTop (mkF m 6 #[.val (.int p1), .val (.int p2), .unset, .unset, .unset, .unset] [(.int (12 : Int32)), (.int (p1 &&& (2147483647 : Int32)))])) _
    refine XS.irem X0.here hx rfl (hb hby at_6) rfl (by decide) ?_
    show Steps p.tables e below (s₁.setTop (mkF m 7 #[.val (.int p1), .val (.int p2), .unset, .unset, .unset, .unset] [(.int ((p1 &&& (2147483647 : Int32)) - (p1 &&& (2147483647 : Int32)) / (12 : Int32) * (12 : Int32)))])) _
    refine XS.istoreN X0.here hx rfl (hb hby at_7) rfl (l' := #[.val (.int p1), .val (.int p2), .val (.int ((p1 &&& (2147483647 : Int32)) - (p1 &&& (2147483647 : Int32)) / (12 : Int32) * (12 : Int32))), .unset, .unset, .unset]) rfl ?_
    show Steps p.tables e below (s₁.setTop (mkF m 8 #[.val (.int p1), .val (.int p2), .val (.int ((p1 &&& (2147483647 : Int32)) - (p1 &&& (2147483647 : Int32)) / (12 : Int32) * (12 : Int32))), .unset, .unset, .unset] [])) _
    refine XS.iloadN X0.here hx rfl (hb hby at_8) rfl ?_
    show Steps p.tables e below (s₁.setTop (mkF m 9 #[.val (.int p1), .val (.int p2), .val (.int ((p1 &&& (2147483647 : Int32)) - (p1 &&& (2147483647 : Int32)) / (12 : Int32) * (12 : Int32))), .unset, .unset, .unset] [(.int p2)])) _
    refine X0.ldcInt hx hown (mvT hZ (hw _ (List.mem_of_getElem? (i := 0) rfl))) (g := (mkF m 9 #[.val (.int p1), .val (.int p2), .val (.int ((p1 &&& (2147483647 : Int32)) - (p1 &&& (2147483647 : Int32)) / (12 : Int32) * (12 : Int32))), .unset, .unset, .unset] [(.int p2)])) rfl (hb hby at_9) _ ?_
    show Steps p.tables e below (s₁.setTop (mkF m 11 #[.val (.int p1), .val (.int p2), .val (.int ((p1 &&& (2147483647 : Int32)) - (p1 &&& (2147483647 : Int32)) / (12 : Int32) * (12 : Int32))), .unset, .unset, .unset] [(.int (2147483647 : Int32)), (.int p2)])) _
    refine XS.iand X0.here hx rfl (hb hby at_11) rfl ?_
    show Steps p.tables e below (s₁.setTop (mkF m 12 #[.val (.int p1), .val (.int p2), .val (.int ((p1 &&& (2147483647 : Int32)) - (p1 &&& (2147483647 : Int32)) / (12 : Int32) * (12 : Int32))), .unset, .unset, .unset] [(.int (p2 &&& (2147483647 : Int32)))])) _
    refine XS.istoreN X0.here hx rfl (hb hby at_12) rfl (l' := #[.val (.int p1), .val (.int p2), .val (.int ((p1 &&& (2147483647 : Int32)) - (p1 &&& (2147483647 : Int32)) / (12 : Int32) * (12 : Int32))), .val (.int (p2 &&& (2147483647 : Int32))), .unset, .unset]) rfl ?_
    exact kt
  have hu := own_mask p2
  obtain ⟨k, hk⟩ : ∃ k, k = ((p1 &&& (2147483647 : Int32)) - (p1 &&& (2147483647 : Int32)) / (12 : Int32) * (12 : Int32)) := ⟨_, rfl⟩
  obtain ⟨u, hu'⟩ : ∃ u, u = (p2 &&& (2147483647 : Int32)) := ⟨_, rfl⟩
  rw [← hk, ← hu'] at pre1
  rw [← hu'] at hu
  have m222 : ∃ (T' : State) (L' : List Loc) (cc mem : Int32), Stand p l e room_1 s m #[(.int p1), (.int p2)] below meth c T' L' 0 0 ∧ T'.heap = h0 ∧ Fr n0 L' ∧ own_v1_0 cc = mem ∧ ∀ t, Steps p.tables e below (T'.setTop (mkF m 234 #[.val (.int p1), .val (.int p2), .val (.int k), .val (.int u), .val (.int cc), .val (.int mem)] [])) t → Steps p.tables e below (s₁.setTop (mkF m 222 #[.val (.int p1), .val (.int p2), .val (.int k), .val (.int u), .unset, .unset] [])) t := by
    obtain ⟨_, _, ⟨T9, L9, k9, n9⟩, -, X9, ⟨Lc9, hQ9, l9, y9, z9⟩, st9⟩ := Jvm.LawKit.callS X0 hx (y := (⟨"java/lang/Math", "max", "(II)I"⟩ : MethodName)) hown (mvT hZ (hw _ (List.mem_of_getElem? (i := 9) rfl))) (mvT hZ (hw _ (List.mem_of_getElem? (i := 10) rfl))) (mvT hZ (hw _ (List.mem_of_getElem? (i := 7) rfl))) (mvT hZ (hw _ (List.mem_of_getElem? (i := 11) rfl))) (by decide) (backOf (W := 0) (rm3 l Z a0 hw [] p2 (8257 : Int32) h0 n0 Z0) hZ (hw _ (List.mem_of_getElem? (i := 11) rfl)) (hw _ (List.mem_of_getElem? (i := 7) rfl)) (by decide) (by decide)) (g := (mkF m 226 #[.val (.int p1), .val (.int p2), .val (.int k), .val (.int u), .unset, .unset] [(.int (8257 : Int32)), (.int p2)])) rfl (by rw [hml]; rfl) (argsL := [(.int p2), (.int (8257 : Int32))]) (rest := []) (lenOf pd_0_1 rfl) rfl (by show 2 * 0 + _ ≤ _; exact Nat.le_of_eq rfl) (hb hby at_226) (fun _ _ => ⟨rfl, e0, (by decide : 0 + 0 ≤ _), (by decide : 0 + 0 ≤ _)⟩)
    dsimp only [Pt.U, Pt.locs, Pt.cells, Pt.slots] at X9 l9 y9 z9 st9 hQ9
    subst l9 y9 z9
    obtain ⟨rfl, N9q, eh9⟩ := hQ9
    refine ⟨T9, _, (own_v3_0 p2 (8257 : Int32)), (0 : Int32), X9, eh9, Fr.app N0 N9q, own_max p2, fun t kt => ?_⟩
    show Steps p.tables e below (s₁.setTop (mkF m 222 #[.val (.int p1), .val (.int p2), .val (.int k), .val (.int u), .unset, .unset] [])) _
    refine XS.iloadN X0.here hx rfl (hb hby at_222) rfl ?_
    show Steps p.tables e below (s₁.setTop (mkF m 223 #[.val (.int p1), .val (.int p2), .val (.int k), .val (.int u), .unset, .unset] [(.int p2)])) _
    refine XS.sipush X0.here hx rfl (hb hby at_223) ?_
    show Steps p.tables e below (s₁.setTop (mkF m 226 #[.val (.int p1), .val (.int p2), .val (.int k), .val (.int u), .unset, .unset] [(.int (8257 : Int32)), (.int p2)])) _
    refine st9 _ ?_
    show Steps p.tables e below (T9.setTop (mkF m 229 #[.val (.int p1), .val (.int p2), .val (.int k), .val (.int u), .unset, .unset] [(.int (own_v3_0 p2 (8257 : Int32)))])) _
    refine XS.istore X9.here hx rfl (hb hby at_229) rfl (l' := #[.val (.int p1), .val (.int p2), .val (.int k), .val (.int u), .val (.int (own_v3_0 p2 (8257 : Int32))), .unset]) rfl ?_
    show Steps p.tables e below (T9.setTop (mkF m 231 #[.val (.int p1), .val (.int p2), .val (.int k), .val (.int u), .val (.int (own_v3_0 p2 (8257 : Int32))), .unset] [])) _
    refine XS.iconst X9.here hx rfl (hb hby at_231) ?_
    show Steps p.tables e below (T9.setTop (mkF m 232 #[.val (.int p1), .val (.int p2), .val (.int k), .val (.int u), .val (.int (own_v3_0 p2 (8257 : Int32))), .unset] [(.int (0 : Int32))])) _
    refine XS.istore X9.here hx rfl (hb hby at_232) rfl (l' := #[.val (.int p1), .val (.int p2), .val (.int k), .val (.int u), .val (.int (own_v3_0 p2 (8257 : Int32))), .val (.int (0 : Int32))]) rfl ?_
    exact kt
  have m199 : ∃ (T' : State) (L' : List Loc) (cc mem : Int32), Stand p l e room_1 s m #[(.int p1), (.int p2)] below meth c T' L' 0 0 ∧ T'.heap = h0 ∧ Fr n0 L' ∧ own_v1_0 cc = mem ∧ ∀ t, Steps p.tables e below (T'.setTop (mkF m 234 #[.val (.int p1), .val (.int p2), .val (.int k), .val (.int u), .val (.int cc), .val (.int mem)] [])) t → Steps p.tables e below (s₁.setTop (mkF m 199 #[.val (.int p1), .val (.int p2), .val (.int k), .val (.int u), .unset, .unset] [])) t := by
    by_cases hkk : k = (10 : Int32)
    · have P1 : ∃ (T' : State) (L' : List Loc) (cc mem : Int32), Stand p l e room_1 s m #[(.int p1), (.int p2)] below meth c T' L' 0 0 ∧ T'.heap = h0 ∧ Fr n0 L' ∧ own_v1_0 cc = mem ∧ ∀ t, Steps p.tables e below (T'.setTop (mkF m 234 #[.val (.int p1), .val (.int p2), .val (.int k), .val (.int u), .val (.int cc), .val (.int mem)] [])) t → Steps p.tables e below (s₁.setTop (mkF m 205 #[.val (.int p1), .val (.int p2), .val (.int k), .val (.int u), .unset, .unset] [])) t := by
        refine ⟨s₁, [], ((880 : Int32) + (u - u / (7375 : Int32) * (7375 : Int32))), (0 : Int32), X0, e0, N0, (by have q := own_plus 7375 880 hu (K := (7375 : Int32)) (B := (880 : Int32)) rfl rfl (by decide) (by decide) (by decide) (by decide); exact own_reg_9 _ (by omega) (by omega)), fun t kt => ?_⟩
        show Steps p.tables e below (s₁.setTop (mkF m 205 #[.val (.int p1), .val (.int p2), .val (.int k), .val (.int u), .unset, .unset] [])) _
        refine XS.sipush X0.here hx rfl (hb hby at_205) ?_
        show Steps p.tables e below (s₁.setTop (mkF m 208 #[.val (.int p1), .val (.int p2), .val (.int k), .val (.int u), .unset, .unset] [(.int (880 : Int32))])) _
        refine XS.iloadN X0.here hx rfl (hb hby at_208) rfl ?_
        show Steps p.tables e below (s₁.setTop (mkF m 209 #[.val (.int p1), .val (.int p2), .val (.int k), .val (.int u), .unset, .unset] [(.int u), (.int (880 : Int32))])) _
        refine XS.sipush X0.here hx rfl (hb hby at_209) ?_
        show Steps p.tables e below (s₁.setTop (mkF m 212 #[.val (.int p1), .val (.int p2), .val (.int k), .val (.int u), .unset, .unset] [(.int (7375 : Int32)), (.int u), (.int (880 : Int32))])) _
        refine XS.irem X0.here hx rfl (hb hby at_212) rfl (by decide) ?_
        show Steps p.tables e below (s₁.setTop (mkF m 213 #[.val (.int p1), .val (.int p2), .val (.int k), .val (.int u), .unset, .unset] [(.int (u - u / (7375 : Int32) * (7375 : Int32))), (.int (880 : Int32))])) _
        refine XS.iadd X0.here hx rfl (hb hby at_213) rfl ?_
        show Steps p.tables e below (s₁.setTop (mkF m 214 #[.val (.int p1), .val (.int p2), .val (.int k), .val (.int u), .unset, .unset] [(.int ((880 : Int32) + (u - u / (7375 : Int32) * (7375 : Int32))))])) _
        refine XS.istore X0.here hx rfl (hb hby at_214) rfl (l' := #[.val (.int p1), .val (.int p2), .val (.int k), .val (.int u), .val (.int ((880 : Int32) + (u - u / (7375 : Int32) * (7375 : Int32)))), .unset]) rfl ?_
        show Steps p.tables e below (s₁.setTop (mkF m 216 #[.val (.int p1), .val (.int p2), .val (.int k), .val (.int u), .val (.int ((880 : Int32) + (u - u / (7375 : Int32) * (7375 : Int32)))), .unset] [])) _
        refine XS.iconst X0.here hx rfl (hb hby at_216) ?_
        show Steps p.tables e below (s₁.setTop (mkF m 217 #[.val (.int p1), .val (.int p2), .val (.int k), .val (.int u), .val (.int ((880 : Int32) + (u - u / (7375 : Int32) * (7375 : Int32)))), .unset] [(.int (0 : Int32))])) _
        refine XS.istore X0.here hx rfl (hb hby at_217) rfl (l' := #[.val (.int p1), .val (.int p2), .val (.int k), .val (.int u), .val (.int ((880 : Int32) + (u - u / (7375 : Int32) * (7375 : Int32)))), .val (.int (0 : Int32))]) rfl ?_
        show Steps p.tables e below (s₁.setTop (mkF m 219 #[.val (.int p1), .val (.int p2), .val (.int k), .val (.int u), .val (.int ((880 : Int32) + (u - u / (7375 : Int32) * (7375 : Int32)))), .val (.int (0 : Int32))] [])) _
        refine XS.goto X0.here hx rfl (pc0 := 219) (pc' := 234) rfl (hb hby at_219) (by decide) (by decide) ?_
        exact kt
      obtain ⟨T', L', cc, mem, a1, a2, a3, a4, a5⟩ := P1
      refine ⟨T', L', cc, mem, a1, a2, a3, a4, fun t kt => ?_⟩
      show Steps p.tables e below (s₁.setTop (mkF m 199 #[.val (.int p1), .val (.int p2), .val (.int k), .val (.int u), .unset, .unset] [])) _
      refine XS.iloadN X0.here hx rfl (hb hby at_199) rfl ?_
      show Steps p.tables e below (s₁.setTop (mkF m 200 #[.val (.int p1), .val (.int p2), .val (.int k), .val (.int u), .unset, .unset] [(.int k)])) _
      refine XS.bipush X0.here hx rfl (hb hby at_200) ?_
      show Steps p.tables e below (s₁.setTop (mkF m 202 #[.val (.int p1), .val (.int p2), .val (.int k), .val (.int u), .unset, .unset] [(.int (10 : Int32)), (.int k)])) _
      refine XS.icmpNo X0.here hx rfl (hb hby at_202) rfl (teq hkk).2 ?_
      exact a5 t kt
    · obtain ⟨T', L', cc, mem, a1, a2, a3, a4, a5⟩ := m222
      refine ⟨T', L', cc, mem, a1, a2, a3, a4, fun t kt => ?_⟩
      show Steps p.tables e below (s₁.setTop (mkF m 199 #[.val (.int p1), .val (.int p2), .val (.int k), .val (.int u), .unset, .unset] [])) _
      refine XS.iloadN X0.here hx rfl (hb hby at_199) rfl ?_
      show Steps p.tables e below (s₁.setTop (mkF m 200 #[.val (.int p1), .val (.int p2), .val (.int k), .val (.int u), .unset, .unset] [(.int k)])) _
      refine XS.bipush X0.here hx rfl (hb hby at_200) ?_
      show Steps p.tables e below (s₁.setTop (mkF m 202 #[.val (.int p1), .val (.int p2), .val (.int k), .val (.int u), .unset, .unset] [(.int (10 : Int32)), (.int k)])) _
      refine XS.icmpYes X0.here hx rfl (pc0 := 202) (pc' := 222) rfl (hb hby at_202) rfl (feq hkk).2 (by decide) (by decide) ?_
      exact a5 t kt
  have m176 : ∃ (T' : State) (L' : List Loc) (cc mem : Int32), Stand p l e room_1 s m #[(.int p1), (.int p2)] below meth c T' L' 0 0 ∧ T'.heap = h0 ∧ Fr n0 L' ∧ own_v1_0 cc = mem ∧ ∀ t, Steps p.tables e below (T'.setTop (mkF m 234 #[.val (.int p1), .val (.int p2), .val (.int k), .val (.int u), .val (.int cc), .val (.int mem)] [])) t → Steps p.tables e below (s₁.setTop (mkF m 176 #[.val (.int p1), .val (.int p2), .val (.int k), .val (.int u), .unset, .unset] [])) t := by
    by_cases hkk : k = (9 : Int32)
    · have P1 : ∃ (T' : State) (L' : List Loc) (cc mem : Int32), Stand p l e room_1 s m #[(.int p1), (.int p2)] below meth c T' L' 0 0 ∧ T'.heap = h0 ∧ Fr n0 L' ∧ own_v1_0 cc = mem ∧ ∀ t, Steps p.tables e below (T'.setTop (mkF m 234 #[.val (.int p1), .val (.int p2), .val (.int k), .val (.int u), .val (.int cc), .val (.int mem)] [])) t → Steps p.tables e below (s₁.setTop (mkF m 182 #[.val (.int p1), .val (.int p2), .val (.int k), .val (.int u), .unset, .unset] [])) t := by
        refine ⟨s₁, [], ((184 : Int32) + (u - u / (584 : Int32) * (584 : Int32))), (0 : Int32), X0, e0, N0, (by have q := own_plus 584 184 hu (K := (584 : Int32)) (B := (184 : Int32)) rfl rfl (by decide) (by decide) (by decide) (by decide); exact own_reg_7 _ (by omega) (by omega)), fun t kt => ?_⟩
        show Steps p.tables e below (s₁.setTop (mkF m 182 #[.val (.int p1), .val (.int p2), .val (.int k), .val (.int u), .unset, .unset] [])) _
        refine XS.sipush X0.here hx rfl (hb hby at_182) ?_
        show Steps p.tables e below (s₁.setTop (mkF m 185 #[.val (.int p1), .val (.int p2), .val (.int k), .val (.int u), .unset, .unset] [(.int (184 : Int32))])) _
        refine XS.iloadN X0.here hx rfl (hb hby at_185) rfl ?_
        show Steps p.tables e below (s₁.setTop (mkF m 186 #[.val (.int p1), .val (.int p2), .val (.int k), .val (.int u), .unset, .unset] [(.int u), (.int (184 : Int32))])) _
        refine XS.sipush X0.here hx rfl (hb hby at_186) ?_
        show Steps p.tables e below (s₁.setTop (mkF m 189 #[.val (.int p1), .val (.int p2), .val (.int k), .val (.int u), .unset, .unset] [(.int (584 : Int32)), (.int u), (.int (184 : Int32))])) _
        refine XS.irem X0.here hx rfl (hb hby at_189) rfl (by decide) ?_
        show Steps p.tables e below (s₁.setTop (mkF m 190 #[.val (.int p1), .val (.int p2), .val (.int k), .val (.int u), .unset, .unset] [(.int (u - u / (584 : Int32) * (584 : Int32))), (.int (184 : Int32))])) _
        refine XS.iadd X0.here hx rfl (hb hby at_190) rfl ?_
        show Steps p.tables e below (s₁.setTop (mkF m 191 #[.val (.int p1), .val (.int p2), .val (.int k), .val (.int u), .unset, .unset] [(.int ((184 : Int32) + (u - u / (584 : Int32) * (584 : Int32))))])) _
        refine XS.istore X0.here hx rfl (hb hby at_191) rfl (l' := #[.val (.int p1), .val (.int p2), .val (.int k), .val (.int u), .val (.int ((184 : Int32) + (u - u / (584 : Int32) * (584 : Int32)))), .unset]) rfl ?_
        show Steps p.tables e below (s₁.setTop (mkF m 193 #[.val (.int p1), .val (.int p2), .val (.int k), .val (.int u), .val (.int ((184 : Int32) + (u - u / (584 : Int32) * (584 : Int32)))), .unset] [])) _
        refine XS.iconst X0.here hx rfl (hb hby at_193) ?_
        show Steps p.tables e below (s₁.setTop (mkF m 194 #[.val (.int p1), .val (.int p2), .val (.int k), .val (.int u), .val (.int ((184 : Int32) + (u - u / (584 : Int32) * (584 : Int32)))), .unset] [(.int (0 : Int32))])) _
        refine XS.istore X0.here hx rfl (hb hby at_194) rfl (l' := #[.val (.int p1), .val (.int p2), .val (.int k), .val (.int u), .val (.int ((184 : Int32) + (u - u / (584 : Int32) * (584 : Int32)))), .val (.int (0 : Int32))]) rfl ?_
        show Steps p.tables e below (s₁.setTop (mkF m 196 #[.val (.int p1), .val (.int p2), .val (.int k), .val (.int u), .val (.int ((184 : Int32) + (u - u / (584 : Int32) * (584 : Int32)))), .val (.int (0 : Int32))] [])) _
        refine XS.goto X0.here hx rfl (pc0 := 196) (pc' := 234) rfl (hb hby at_196) (by decide) (by decide) ?_
        exact kt
      obtain ⟨T', L', cc, mem, a1, a2, a3, a4, a5⟩ := P1
      refine ⟨T', L', cc, mem, a1, a2, a3, a4, fun t kt => ?_⟩
      show Steps p.tables e below (s₁.setTop (mkF m 176 #[.val (.int p1), .val (.int p2), .val (.int k), .val (.int u), .unset, .unset] [])) _
      refine XS.iloadN X0.here hx rfl (hb hby at_176) rfl ?_
      show Steps p.tables e below (s₁.setTop (mkF m 177 #[.val (.int p1), .val (.int p2), .val (.int k), .val (.int u), .unset, .unset] [(.int k)])) _
      refine XS.bipush X0.here hx rfl (hb hby at_177) ?_
      show Steps p.tables e below (s₁.setTop (mkF m 179 #[.val (.int p1), .val (.int p2), .val (.int k), .val (.int u), .unset, .unset] [(.int (9 : Int32)), (.int k)])) _
      refine XS.icmpNo X0.here hx rfl (hb hby at_179) rfl (teq hkk).2 ?_
      exact a5 t kt
    · obtain ⟨T', L', cc, mem, a1, a2, a3, a4, a5⟩ := m199
      refine ⟨T', L', cc, mem, a1, a2, a3, a4, fun t kt => ?_⟩
      show Steps p.tables e below (s₁.setTop (mkF m 176 #[.val (.int p1), .val (.int p2), .val (.int k), .val (.int u), .unset, .unset] [])) _
      refine XS.iloadN X0.here hx rfl (hb hby at_176) rfl ?_
      show Steps p.tables e below (s₁.setTop (mkF m 177 #[.val (.int p1), .val (.int p2), .val (.int k), .val (.int u), .unset, .unset] [(.int k)])) _
      refine XS.bipush X0.here hx rfl (hb hby at_177) ?_
      show Steps p.tables e below (s₁.setTop (mkF m 179 #[.val (.int p1), .val (.int p2), .val (.int k), .val (.int u), .unset, .unset] [(.int (9 : Int32)), (.int k)])) _
      refine XS.icmpYes X0.here hx rfl (pc0 := 179) (pc' := 199) rfl (hb hby at_179) rfl (feq hkk).2 (by decide) (by decide) ?_
      exact a5 t kt
  have m155 : ∃ (T' : State) (L' : List Loc) (cc mem : Int32), Stand p l e room_1 s m #[(.int p1), (.int p2)] below meth c T' L' 0 0 ∧ T'.heap = h0 ∧ Fr n0 L' ∧ own_v1_0 cc = mem ∧ ∀ t, Steps p.tables e below (T'.setTop (mkF m 234 #[.val (.int p1), .val (.int p2), .val (.int k), .val (.int u), .val (.int cc), .val (.int mem)] [])) t → Steps p.tables e below (s₁.setTop (mkF m 155 #[.val (.int p1), .val (.int p2), .val (.int k), .val (.int u), .unset, .unset] [])) t := by
    by_cases hkk : k = (8 : Int32)
    · have P1 : ∃ (T' : State) (L' : List Loc) (cc mem : Int32), Stand p l e room_1 s m #[(.int p1), (.int p2)] below meth c T' L' 0 0 ∧ T'.heap = h0 ∧ Fr n0 L' ∧ own_v1_0 cc = mem ∧ ∀ t, Steps p.tables e below (T'.setTop (mkF m 234 #[.val (.int p1), .val (.int p2), .val (.int k), .val (.int u), .val (.int cc), .val (.int mem)] [])) t → Steps p.tables e below (s₁.setTop (mkF m 161 #[.val (.int p1), .val (.int p2), .val (.int k), .val (.int u), .unset, .unset] [])) t := by
        refine ⟨s₁, [], ((58 : Int32) + (u - u / (125 : Int32) * (125 : Int32))), (0 : Int32), X0, e0, N0, (by have q := own_plus 125 58 hu (K := (125 : Int32)) (B := (58 : Int32)) rfl rfl (by decide) (by decide) (by decide) (by decide); exact own_reg_5 _ (by omega) (by omega)), fun t kt => ?_⟩
        show Steps p.tables e below (s₁.setTop (mkF m 161 #[.val (.int p1), .val (.int p2), .val (.int k), .val (.int u), .unset, .unset] [])) _
        refine XS.bipush X0.here hx rfl (hb hby at_161) ?_
        show Steps p.tables e below (s₁.setTop (mkF m 163 #[.val (.int p1), .val (.int p2), .val (.int k), .val (.int u), .unset, .unset] [(.int (58 : Int32))])) _
        refine XS.iloadN X0.here hx rfl (hb hby at_163) rfl ?_
        show Steps p.tables e below (s₁.setTop (mkF m 164 #[.val (.int p1), .val (.int p2), .val (.int k), .val (.int u), .unset, .unset] [(.int u), (.int (58 : Int32))])) _
        refine XS.bipush X0.here hx rfl (hb hby at_164) ?_
        show Steps p.tables e below (s₁.setTop (mkF m 166 #[.val (.int p1), .val (.int p2), .val (.int k), .val (.int u), .unset, .unset] [(.int (125 : Int32)), (.int u), (.int (58 : Int32))])) _
        refine XS.irem X0.here hx rfl (hb hby at_166) rfl (by decide) ?_
        show Steps p.tables e below (s₁.setTop (mkF m 167 #[.val (.int p1), .val (.int p2), .val (.int k), .val (.int u), .unset, .unset] [(.int (u - u / (125 : Int32) * (125 : Int32))), (.int (58 : Int32))])) _
        refine XS.iadd X0.here hx rfl (hb hby at_167) rfl ?_
        show Steps p.tables e below (s₁.setTop (mkF m 168 #[.val (.int p1), .val (.int p2), .val (.int k), .val (.int u), .unset, .unset] [(.int ((58 : Int32) + (u - u / (125 : Int32) * (125 : Int32))))])) _
        refine XS.istore X0.here hx rfl (hb hby at_168) rfl (l' := #[.val (.int p1), .val (.int p2), .val (.int k), .val (.int u), .val (.int ((58 : Int32) + (u - u / (125 : Int32) * (125 : Int32)))), .unset]) rfl ?_
        show Steps p.tables e below (s₁.setTop (mkF m 170 #[.val (.int p1), .val (.int p2), .val (.int k), .val (.int u), .val (.int ((58 : Int32) + (u - u / (125 : Int32) * (125 : Int32)))), .unset] [])) _
        refine XS.iconst X0.here hx rfl (hb hby at_170) ?_
        show Steps p.tables e below (s₁.setTop (mkF m 171 #[.val (.int p1), .val (.int p2), .val (.int k), .val (.int u), .val (.int ((58 : Int32) + (u - u / (125 : Int32) * (125 : Int32)))), .unset] [(.int (0 : Int32))])) _
        refine XS.istore X0.here hx rfl (hb hby at_171) rfl (l' := #[.val (.int p1), .val (.int p2), .val (.int k), .val (.int u), .val (.int ((58 : Int32) + (u - u / (125 : Int32) * (125 : Int32)))), .val (.int (0 : Int32))]) rfl ?_
        show Steps p.tables e below (s₁.setTop (mkF m 173 #[.val (.int p1), .val (.int p2), .val (.int k), .val (.int u), .val (.int ((58 : Int32) + (u - u / (125 : Int32) * (125 : Int32)))), .val (.int (0 : Int32))] [])) _
        refine XS.goto X0.here hx rfl (pc0 := 173) (pc' := 234) rfl (hb hby at_173) (by decide) (by decide) ?_
        exact kt
      obtain ⟨T', L', cc, mem, a1, a2, a3, a4, a5⟩ := P1
      refine ⟨T', L', cc, mem, a1, a2, a3, a4, fun t kt => ?_⟩
      show Steps p.tables e below (s₁.setTop (mkF m 155 #[.val (.int p1), .val (.int p2), .val (.int k), .val (.int u), .unset, .unset] [])) _
      refine XS.iloadN X0.here hx rfl (hb hby at_155) rfl ?_
      show Steps p.tables e below (s₁.setTop (mkF m 156 #[.val (.int p1), .val (.int p2), .val (.int k), .val (.int u), .unset, .unset] [(.int k)])) _
      refine XS.bipush X0.here hx rfl (hb hby at_156) ?_
      show Steps p.tables e below (s₁.setTop (mkF m 158 #[.val (.int p1), .val (.int p2), .val (.int k), .val (.int u), .unset, .unset] [(.int (8 : Int32)), (.int k)])) _
      refine XS.icmpNo X0.here hx rfl (hb hby at_158) rfl (teq hkk).2 ?_
      exact a5 t kt
    · obtain ⟨T', L', cc, mem, a1, a2, a3, a4, a5⟩ := m176
      refine ⟨T', L', cc, mem, a1, a2, a3, a4, fun t kt => ?_⟩
      show Steps p.tables e below (s₁.setTop (mkF m 155 #[.val (.int p1), .val (.int p2), .val (.int k), .val (.int u), .unset, .unset] [])) _
      refine XS.iloadN X0.here hx rfl (hb hby at_155) rfl ?_
      show Steps p.tables e below (s₁.setTop (mkF m 156 #[.val (.int p1), .val (.int p2), .val (.int k), .val (.int u), .unset, .unset] [(.int k)])) _
      refine XS.bipush X0.here hx rfl (hb hby at_156) ?_
      show Steps p.tables e below (s₁.setTop (mkF m 158 #[.val (.int p1), .val (.int p2), .val (.int k), .val (.int u), .unset, .unset] [(.int (8 : Int32)), (.int k)])) _
      refine XS.icmpYes X0.here hx rfl (pc0 := 158) (pc' := 176) rfl (hb hby at_158) rfl (feq hkk).2 (by decide) (by decide) ?_
      exact a5 t kt
  have m139 : ∃ (T' : State) (L' : List Loc) (cc mem : Int32), Stand p l e room_1 s m #[(.int p1), (.int p2)] below meth c T' L' 0 0 ∧ T'.heap = h0 ∧ Fr n0 L' ∧ own_v1_0 cc = mem ∧ ∀ t, Steps p.tables e below (T'.setTop (mkF m 234 #[.val (.int p1), .val (.int p2), .val (.int k), .val (.int u), .val (.int cc), .val (.int mem)] [])) t → Steps p.tables e below (s₁.setTop (mkF m 139 #[.val (.int p1), .val (.int p2), .val (.int k), .val (.int u), .unset, .unset] [])) t := by
    by_cases hkk : k = (7 : Int32)
    · have P1 : ∃ (T' : State) (L' : List Loc) (cc mem : Int32), Stand p l e room_1 s m #[(.int p1), (.int p2)] below meth c T' L' 0 0 ∧ T'.heap = h0 ∧ Fr n0 L' ∧ own_v1_0 cc = mem ∧ ∀ t, Steps p.tables e below (T'.setTop (mkF m 234 #[.val (.int p1), .val (.int p2), .val (.int k), .val (.int u), .val (.int cc), .val (.int mem)] [])) t → Steps p.tables e below (s₁.setTop (mkF m 145 #[.val (.int p1), .val (.int p2), .val (.int k), .val (.int u), .unset, .unset] [])) t := by
        refine ⟨s₁, [], (47 : Int32), (0 : Int32), X0, e0, N0, (own_reg_3 _ (by decide) (by decide)), fun t kt => ?_⟩
        show Steps p.tables e below (s₁.setTop (mkF m 145 #[.val (.int p1), .val (.int p2), .val (.int k), .val (.int u), .unset, .unset] [])) _
        refine XS.bipush X0.here hx rfl (hb hby at_145) ?_
        show Steps p.tables e below (s₁.setTop (mkF m 147 #[.val (.int p1), .val (.int p2), .val (.int k), .val (.int u), .unset, .unset] [(.int (47 : Int32))])) _
        refine XS.istore X0.here hx rfl (hb hby at_147) rfl (l' := #[.val (.int p1), .val (.int p2), .val (.int k), .val (.int u), .val (.int (47 : Int32)), .unset]) rfl ?_
        show Steps p.tables e below (s₁.setTop (mkF m 149 #[.val (.int p1), .val (.int p2), .val (.int k), .val (.int u), .val (.int (47 : Int32)), .unset] [])) _
        refine XS.iconst X0.here hx rfl (hb hby at_149) ?_
        show Steps p.tables e below (s₁.setTop (mkF m 150 #[.val (.int p1), .val (.int p2), .val (.int k), .val (.int u), .val (.int (47 : Int32)), .unset] [(.int (0 : Int32))])) _
        refine XS.istore X0.here hx rfl (hb hby at_150) rfl (l' := #[.val (.int p1), .val (.int p2), .val (.int k), .val (.int u), .val (.int (47 : Int32)), .val (.int (0 : Int32))]) rfl ?_
        show Steps p.tables e below (s₁.setTop (mkF m 152 #[.val (.int p1), .val (.int p2), .val (.int k), .val (.int u), .val (.int (47 : Int32)), .val (.int (0 : Int32))] [])) _
        refine XS.goto X0.here hx rfl (pc0 := 152) (pc' := 234) rfl (hb hby at_152) (by decide) (by decide) ?_
        exact kt
      obtain ⟨T', L', cc, mem, a1, a2, a3, a4, a5⟩ := P1
      refine ⟨T', L', cc, mem, a1, a2, a3, a4, fun t kt => ?_⟩
      show Steps p.tables e below (s₁.setTop (mkF m 139 #[.val (.int p1), .val (.int p2), .val (.int k), .val (.int u), .unset, .unset] [])) _
      refine XS.iloadN X0.here hx rfl (hb hby at_139) rfl ?_
      show Steps p.tables e below (s₁.setTop (mkF m 140 #[.val (.int p1), .val (.int p2), .val (.int k), .val (.int u), .unset, .unset] [(.int k)])) _
      refine XS.bipush X0.here hx rfl (hb hby at_140) ?_
      show Steps p.tables e below (s₁.setTop (mkF m 142 #[.val (.int p1), .val (.int p2), .val (.int k), .val (.int u), .unset, .unset] [(.int (7 : Int32)), (.int k)])) _
      refine XS.icmpNo X0.here hx rfl (hb hby at_142) rfl (teq hkk).2 ?_
      exact a5 t kt
    · obtain ⟨T', L', cc, mem, a1, a2, a3, a4, a5⟩ := m155
      refine ⟨T', L', cc, mem, a1, a2, a3, a4, fun t kt => ?_⟩
      show Steps p.tables e below (s₁.setTop (mkF m 139 #[.val (.int p1), .val (.int p2), .val (.int k), .val (.int u), .unset, .unset] [])) _
      refine XS.iloadN X0.here hx rfl (hb hby at_139) rfl ?_
      show Steps p.tables e below (s₁.setTop (mkF m 140 #[.val (.int p1), .val (.int p2), .val (.int k), .val (.int u), .unset, .unset] [(.int k)])) _
      refine XS.bipush X0.here hx rfl (hb hby at_140) ?_
      show Steps p.tables e below (s₁.setTop (mkF m 142 #[.val (.int p1), .val (.int p2), .val (.int k), .val (.int u), .unset, .unset] [(.int (7 : Int32)), (.int k)])) _
      refine XS.icmpYes X0.here hx rfl (pc0 := 142) (pc' := 155) rfl (hb hby at_142) rfl (feq hkk).2 (by decide) (by decide) ?_
      exact a5 t kt
  have m119 : ∃ (T' : State) (L' : List Loc) (cc mem : Int32), Stand p l e room_1 s m #[(.int p1), (.int p2)] below meth c T' L' 0 0 ∧ T'.heap = h0 ∧ Fr n0 L' ∧ own_v1_0 cc = mem ∧ ∀ t, Steps p.tables e below (T'.setTop (mkF m 234 #[.val (.int p1), .val (.int p2), .val (.int k), .val (.int u), .val (.int cc), .val (.int mem)] [])) t → Steps p.tables e below (s₁.setTop (mkF m 119 #[.val (.int p1), .val (.int p2), .val (.int k), .val (.int u), .unset, .unset] [])) t := by
    by_cases hkk : k = (6 : Int32)
    · have P1 : ∃ (T' : State) (L' : List Loc) (cc mem : Int32), Stand p l e room_1 s m #[(.int p1), (.int p2)] below meth c T' L' 0 0 ∧ T'.heap = h0 ∧ Fr n0 L' ∧ own_v1_0 cc = mem ∧ ∀ t, Steps p.tables e below (T'.setTop (mkF m 234 #[.val (.int p1), .val (.int p2), .val (.int k), .val (.int u), .val (.int cc), .val (.int mem)] [])) t → Steps p.tables e below (s₁.setTop (mkF m 125 #[.val (.int p1), .val (.int p2), .val (.int k), .val (.int u), .unset, .unset] [])) t := by
        obtain ⟨_, _, ⟨T9, L9, k9, n9⟩, -, X9, ⟨Lc9, hQ9, l9, y9, z9⟩, st9⟩ := Jvm.LawKit.callS X0 hx (y := (⟨"java/lang/Math", "min", "(II)I"⟩ : MethodName)) hown (mvT hZ (hw _ (List.mem_of_getElem? (i := 5) rfl))) (mvT hZ (hw _ (List.mem_of_getElem? (i := 6) rfl))) (mvT hZ (hw _ (List.mem_of_getElem? (i := 7) rfl))) (mvT hZ (hw _ (List.mem_of_getElem? (i := 8) rfl))) (by decide) (backOf (W := 0) (rm2 l Z a0 hw [] p2 (44 : Int32) h0 n0 Z0) hZ (hw _ (List.mem_of_getElem? (i := 8) rfl)) (hw _ (List.mem_of_getElem? (i := 7) rfl)) (by decide) (by decide)) (g := (mkF m 128 #[.val (.int p1), .val (.int p2), .val (.int k), .val (.int u), .unset, .unset] [(.int (44 : Int32)), (.int p2)])) rfl (by rw [hml]; rfl) (argsL := [(.int p2), (.int (44 : Int32))]) (rest := []) (lenOf pd_0_1 rfl) rfl (by show 2 * 0 + _ ≤ _; exact Nat.le_of_eq rfl) (hb hby at_128) (fun _ _ => ⟨rfl, e0, (by decide : 0 + 0 ≤ _), (by decide : 0 + 0 ≤ _)⟩)
        dsimp only [Pt.U, Pt.locs, Pt.cells, Pt.slots] at X9 l9 y9 z9 st9 hQ9
        subst l9 y9 z9
        obtain ⟨rfl, N9q, eh9⟩ := hQ9
        refine ⟨T9, _, (own_v2_0 p2 (44 : Int32)), (0 : Int32), X9, eh9, Fr.app N0 N9q, own_min p2, fun t kt => ?_⟩
        show Steps p.tables e below (s₁.setTop (mkF m 125 #[.val (.int p1), .val (.int p2), .val (.int k), .val (.int u), .unset, .unset] [])) _
        refine XS.iloadN X0.here hx rfl (hb hby at_125) rfl ?_
        show Steps p.tables e below (s₁.setTop (mkF m 126 #[.val (.int p1), .val (.int p2), .val (.int k), .val (.int u), .unset, .unset] [(.int p2)])) _
        refine XS.bipush X0.here hx rfl (hb hby at_126) ?_
        show Steps p.tables e below (s₁.setTop (mkF m 128 #[.val (.int p1), .val (.int p2), .val (.int k), .val (.int u), .unset, .unset] [(.int (44 : Int32)), (.int p2)])) _
        refine st9 _ ?_
        show Steps p.tables e below (T9.setTop (mkF m 131 #[.val (.int p1), .val (.int p2), .val (.int k), .val (.int u), .unset, .unset] [(.int (own_v2_0 p2 (44 : Int32)))])) _
        refine XS.istore X9.here hx rfl (hb hby at_131) rfl (l' := #[.val (.int p1), .val (.int p2), .val (.int k), .val (.int u), .val (.int (own_v2_0 p2 (44 : Int32))), .unset]) rfl ?_
        show Steps p.tables e below (T9.setTop (mkF m 133 #[.val (.int p1), .val (.int p2), .val (.int k), .val (.int u), .val (.int (own_v2_0 p2 (44 : Int32))), .unset] [])) _
        refine XS.iconst X9.here hx rfl (hb hby at_133) ?_
        show Steps p.tables e below (T9.setTop (mkF m 134 #[.val (.int p1), .val (.int p2), .val (.int k), .val (.int u), .val (.int (own_v2_0 p2 (44 : Int32))), .unset] [(.int (0 : Int32))])) _
        refine XS.istore X9.here hx rfl (hb hby at_134) rfl (l' := #[.val (.int p1), .val (.int p2), .val (.int k), .val (.int u), .val (.int (own_v2_0 p2 (44 : Int32))), .val (.int (0 : Int32))]) rfl ?_
        show Steps p.tables e below (T9.setTop (mkF m 136 #[.val (.int p1), .val (.int p2), .val (.int k), .val (.int u), .val (.int (own_v2_0 p2 (44 : Int32))), .val (.int (0 : Int32))] [])) _
        refine XS.goto X9.here hx rfl (pc0 := 136) (pc' := 234) rfl (hb hby at_136) (by decide) (by decide) ?_
        exact kt
      obtain ⟨T', L', cc, mem, a1, a2, a3, a4, a5⟩ := P1
      refine ⟨T', L', cc, mem, a1, a2, a3, a4, fun t kt => ?_⟩
      show Steps p.tables e below (s₁.setTop (mkF m 119 #[.val (.int p1), .val (.int p2), .val (.int k), .val (.int u), .unset, .unset] [])) _
      refine XS.iloadN X0.here hx rfl (hb hby at_119) rfl ?_
      show Steps p.tables e below (s₁.setTop (mkF m 120 #[.val (.int p1), .val (.int p2), .val (.int k), .val (.int u), .unset, .unset] [(.int k)])) _
      refine XS.bipush X0.here hx rfl (hb hby at_120) ?_
      show Steps p.tables e below (s₁.setTop (mkF m 122 #[.val (.int p1), .val (.int p2), .val (.int k), .val (.int u), .unset, .unset] [(.int (6 : Int32)), (.int k)])) _
      refine XS.icmpNo X0.here hx rfl (hb hby at_122) rfl (teq hkk).2 ?_
      exact a5 t kt
    · obtain ⟨T', L', cc, mem, a1, a2, a3, a4, a5⟩ := m139
      refine ⟨T', L', cc, mem, a1, a2, a3, a4, fun t kt => ?_⟩
      show Steps p.tables e below (s₁.setTop (mkF m 119 #[.val (.int p1), .val (.int p2), .val (.int k), .val (.int u), .unset, .unset] [])) _
      refine XS.iloadN X0.here hx rfl (hb hby at_119) rfl ?_
      show Steps p.tables e below (s₁.setTop (mkF m 120 #[.val (.int p1), .val (.int p2), .val (.int k), .val (.int u), .unset, .unset] [(.int k)])) _
      refine XS.bipush X0.here hx rfl (hb hby at_120) ?_
      show Steps p.tables e below (s₁.setTop (mkF m 122 #[.val (.int p1), .val (.int p2), .val (.int k), .val (.int u), .unset, .unset] [(.int (6 : Int32)), (.int k)])) _
      refine XS.icmpYes X0.here hx rfl (pc0 := 122) (pc' := 139) rfl (hb hby at_122) rfl (feq hkk).2 (by decide) (by decide) ?_
      exact a5 t kt
  have m99 : ∃ (T' : State) (L' : List Loc) (cc mem : Int32), Stand p l e room_1 s m #[(.int p1), (.int p2)] below meth c T' L' 0 0 ∧ T'.heap = h0 ∧ Fr n0 L' ∧ own_v1_0 cc = mem ∧ ∀ t, Steps p.tables e below (T'.setTop (mkF m 234 #[.val (.int p1), .val (.int p2), .val (.int k), .val (.int u), .val (.int cc), .val (.int mem)] [])) t → Steps p.tables e below (s₁.setTop (mkF m 99 #[.val (.int p1), .val (.int p2), .val (.int k), .val (.int u), .unset, .unset] [])) t := by
    by_cases hkk : k = (5 : Int32)
    · have P1 : ∃ (T' : State) (L' : List Loc) (cc mem : Int32), Stand p l e room_1 s m #[(.int p1), (.int p2)] below meth c T' L' 0 0 ∧ T'.heap = h0 ∧ Fr n0 L' ∧ own_v1_0 cc = mem ∧ ∀ t, Steps p.tables e below (T'.setTop (mkF m 234 #[.val (.int p1), .val (.int p2), .val (.int k), .val (.int u), .val (.int cc), .val (.int mem)] [])) t → Steps p.tables e below (s₁.setTop (mkF m 104 #[.val (.int p1), .val (.int p2), .val (.int k), .val (.int u), .unset, .unset] [])) t := by
        refine ⟨s₁, [], ((8255 : Int32) + (u - u / (2 : Int32) * (2 : Int32))), (1 : Int32), X0, e0, N0, (by have q := own_plus 2 8255 hu (K := (2 : Int32)) (B := (8255 : Int32)) rfl rfl (by decide) (by decide) (by decide) (by decide); exact own_reg_10 _ (by omega) (by omega)), fun t kt => ?_⟩
        show Steps p.tables e below (s₁.setTop (mkF m 104 #[.val (.int p1), .val (.int p2), .val (.int k), .val (.int u), .unset, .unset] [])) _
        refine XS.sipush X0.here hx rfl (hb hby at_104) ?_
        show Steps p.tables e below (s₁.setTop (mkF m 107 #[.val (.int p1), .val (.int p2), .val (.int k), .val (.int u), .unset, .unset] [(.int (8255 : Int32))])) _
        refine XS.iloadN X0.here hx rfl (hb hby at_107) rfl ?_
        show Steps p.tables e below (s₁.setTop (mkF m 108 #[.val (.int p1), .val (.int p2), .val (.int k), .val (.int u), .unset, .unset] [(.int u), (.int (8255 : Int32))])) _
        refine XS.iconst X0.here hx rfl (hb hby at_108) ?_
        show Steps p.tables e below (s₁.setTop (mkF m 109 #[.val (.int p1), .val (.int p2), .val (.int k), .val (.int u), .unset, .unset] [(.int (2 : Int32)), (.int u), (.int (8255 : Int32))])) _
        refine XS.irem X0.here hx rfl (hb hby at_109) rfl (by decide) ?_
        show Steps p.tables e below (s₁.setTop (mkF m 110 #[.val (.int p1), .val (.int p2), .val (.int k), .val (.int u), .unset, .unset] [(.int (u - u / (2 : Int32) * (2 : Int32))), (.int (8255 : Int32))])) _
        refine XS.iadd X0.here hx rfl (hb hby at_110) rfl ?_
        show Steps p.tables e below (s₁.setTop (mkF m 111 #[.val (.int p1), .val (.int p2), .val (.int k), .val (.int u), .unset, .unset] [(.int ((8255 : Int32) + (u - u / (2 : Int32) * (2 : Int32))))])) _
        refine XS.istore X0.here hx rfl (hb hby at_111) rfl (l' := #[.val (.int p1), .val (.int p2), .val (.int k), .val (.int u), .val (.int ((8255 : Int32) + (u - u / (2 : Int32) * (2 : Int32)))), .unset]) rfl ?_
        show Steps p.tables e below (s₁.setTop (mkF m 113 #[.val (.int p1), .val (.int p2), .val (.int k), .val (.int u), .val (.int ((8255 : Int32) + (u - u / (2 : Int32) * (2 : Int32)))), .unset] [])) _
        refine XS.iconst X0.here hx rfl (hb hby at_113) ?_
        show Steps p.tables e below (s₁.setTop (mkF m 114 #[.val (.int p1), .val (.int p2), .val (.int k), .val (.int u), .val (.int ((8255 : Int32) + (u - u / (2 : Int32) * (2 : Int32)))), .unset] [(.int (1 : Int32))])) _
        refine XS.istore X0.here hx rfl (hb hby at_114) rfl (l' := #[.val (.int p1), .val (.int p2), .val (.int k), .val (.int u), .val (.int ((8255 : Int32) + (u - u / (2 : Int32) * (2 : Int32)))), .val (.int (1 : Int32))]) rfl ?_
        show Steps p.tables e below (s₁.setTop (mkF m 116 #[.val (.int p1), .val (.int p2), .val (.int k), .val (.int u), .val (.int ((8255 : Int32) + (u - u / (2 : Int32) * (2 : Int32)))), .val (.int (1 : Int32))] [])) _
        refine XS.goto X0.here hx rfl (pc0 := 116) (pc' := 234) rfl (hb hby at_116) (by decide) (by decide) ?_
        exact kt
      obtain ⟨T', L', cc, mem, a1, a2, a3, a4, a5⟩ := P1
      refine ⟨T', L', cc, mem, a1, a2, a3, a4, fun t kt => ?_⟩
      show Steps p.tables e below (s₁.setTop (mkF m 99 #[.val (.int p1), .val (.int p2), .val (.int k), .val (.int u), .unset, .unset] [])) _
      refine XS.iloadN X0.here hx rfl (hb hby at_99) rfl ?_
      show Steps p.tables e below (s₁.setTop (mkF m 100 #[.val (.int p1), .val (.int p2), .val (.int k), .val (.int u), .unset, .unset] [(.int k)])) _
      refine XS.iconst X0.here hx rfl (hb hby at_100) ?_
      show Steps p.tables e below (s₁.setTop (mkF m 101 #[.val (.int p1), .val (.int p2), .val (.int k), .val (.int u), .unset, .unset] [(.int (5 : Int32)), (.int k)])) _
      refine XS.icmpNo X0.here hx rfl (hb hby at_101) rfl (teq hkk).2 ?_
      exact a5 t kt
    · obtain ⟨T', L', cc, mem, a1, a2, a3, a4, a5⟩ := m119
      refine ⟨T', L', cc, mem, a1, a2, a3, a4, fun t kt => ?_⟩
      show Steps p.tables e below (s₁.setTop (mkF m 99 #[.val (.int p1), .val (.int p2), .val (.int k), .val (.int u), .unset, .unset] [])) _
      refine XS.iloadN X0.here hx rfl (hb hby at_99) rfl ?_
      show Steps p.tables e below (s₁.setTop (mkF m 100 #[.val (.int p1), .val (.int p2), .val (.int k), .val (.int u), .unset, .unset] [(.int k)])) _
      refine XS.iconst X0.here hx rfl (hb hby at_100) ?_
      show Steps p.tables e below (s₁.setTop (mkF m 101 #[.val (.int p1), .val (.int p2), .val (.int k), .val (.int u), .unset, .unset] [(.int (5 : Int32)), (.int k)])) _
      refine XS.icmpYes X0.here hx rfl (pc0 := 101) (pc' := 119) rfl (hb hby at_101) rfl (feq hkk).2 (by decide) (by decide) ?_
      exact a5 t kt
  have m78 : ∃ (T' : State) (L' : List Loc) (cc mem : Int32), Stand p l e room_1 s m #[(.int p1), (.int p2)] below meth c T' L' 0 0 ∧ T'.heap = h0 ∧ Fr n0 L' ∧ own_v1_0 cc = mem ∧ ∀ t, Steps p.tables e below (T'.setTop (mkF m 234 #[.val (.int p1), .val (.int p2), .val (.int k), .val (.int u), .val (.int cc), .val (.int mem)] [])) t → Steps p.tables e below (s₁.setTop (mkF m 78 #[.val (.int p1), .val (.int p2), .val (.int k), .val (.int u), .unset, .unset] [])) t := by
    by_cases hkk : k = (4 : Int32)
    · have P1 : ∃ (T' : State) (L' : List Loc) (cc mem : Int32), Stand p l e room_1 s m #[(.int p1), (.int p2)] below meth c T' L' 0 0 ∧ T'.heap = h0 ∧ Fr n0 L' ∧ own_v1_0 cc = mem ∧ ∀ t, Steps p.tables e below (T'.setTop (mkF m 234 #[.val (.int p1), .val (.int p2), .val (.int k), .val (.int u), .val (.int cc), .val (.int mem)] [])) t → Steps p.tables e below (s₁.setTop (mkF m 83 #[.val (.int p1), .val (.int p2), .val (.int k), .val (.int u), .unset, .unset] [])) t := by
        refine ⟨s₁, [], ((768 : Int32) + (u - u / (112 : Int32) * (112 : Int32))), (1 : Int32), X0, e0, N0, (by have q := own_plus 112 768 hu (K := (112 : Int32)) (B := (768 : Int32)) rfl rfl (by decide) (by decide) (by decide) (by decide); exact own_reg_8 _ (by omega) (by omega)), fun t kt => ?_⟩
        show Steps p.tables e below (s₁.setTop (mkF m 83 #[.val (.int p1), .val (.int p2), .val (.int k), .val (.int u), .unset, .unset] [])) _
        refine XS.sipush X0.here hx rfl (hb hby at_83) ?_
        show Steps p.tables e below (s₁.setTop (mkF m 86 #[.val (.int p1), .val (.int p2), .val (.int k), .val (.int u), .unset, .unset] [(.int (768 : Int32))])) _
        refine XS.iloadN X0.here hx rfl (hb hby at_86) rfl ?_
        show Steps p.tables e below (s₁.setTop (mkF m 87 #[.val (.int p1), .val (.int p2), .val (.int k), .val (.int u), .unset, .unset] [(.int u), (.int (768 : Int32))])) _
        refine XS.bipush X0.here hx rfl (hb hby at_87) ?_
        show Steps p.tables e below (s₁.setTop (mkF m 89 #[.val (.int p1), .val (.int p2), .val (.int k), .val (.int u), .unset, .unset] [(.int (112 : Int32)), (.int u), (.int (768 : Int32))])) _
        refine XS.irem X0.here hx rfl (hb hby at_89) rfl (by decide) ?_
        show Steps p.tables e below (s₁.setTop (mkF m 90 #[.val (.int p1), .val (.int p2), .val (.int k), .val (.int u), .unset, .unset] [(.int (u - u / (112 : Int32) * (112 : Int32))), (.int (768 : Int32))])) _
        refine XS.iadd X0.here hx rfl (hb hby at_90) rfl ?_
        show Steps p.tables e below (s₁.setTop (mkF m 91 #[.val (.int p1), .val (.int p2), .val (.int k), .val (.int u), .unset, .unset] [(.int ((768 : Int32) + (u - u / (112 : Int32) * (112 : Int32))))])) _
        refine XS.istore X0.here hx rfl (hb hby at_91) rfl (l' := #[.val (.int p1), .val (.int p2), .val (.int k), .val (.int u), .val (.int ((768 : Int32) + (u - u / (112 : Int32) * (112 : Int32)))), .unset]) rfl ?_
        show Steps p.tables e below (s₁.setTop (mkF m 93 #[.val (.int p1), .val (.int p2), .val (.int k), .val (.int u), .val (.int ((768 : Int32) + (u - u / (112 : Int32) * (112 : Int32)))), .unset] [])) _
        refine XS.iconst X0.here hx rfl (hb hby at_93) ?_
        show Steps p.tables e below (s₁.setTop (mkF m 94 #[.val (.int p1), .val (.int p2), .val (.int k), .val (.int u), .val (.int ((768 : Int32) + (u - u / (112 : Int32) * (112 : Int32)))), .unset] [(.int (1 : Int32))])) _
        refine XS.istore X0.here hx rfl (hb hby at_94) rfl (l' := #[.val (.int p1), .val (.int p2), .val (.int k), .val (.int u), .val (.int ((768 : Int32) + (u - u / (112 : Int32) * (112 : Int32)))), .val (.int (1 : Int32))]) rfl ?_
        show Steps p.tables e below (s₁.setTop (mkF m 96 #[.val (.int p1), .val (.int p2), .val (.int k), .val (.int u), .val (.int ((768 : Int32) + (u - u / (112 : Int32) * (112 : Int32)))), .val (.int (1 : Int32))] [])) _
        refine XS.goto X0.here hx rfl (pc0 := 96) (pc' := 234) rfl (hb hby at_96) (by decide) (by decide) ?_
        exact kt
      obtain ⟨T', L', cc, mem, a1, a2, a3, a4, a5⟩ := P1
      refine ⟨T', L', cc, mem, a1, a2, a3, a4, fun t kt => ?_⟩
      show Steps p.tables e below (s₁.setTop (mkF m 78 #[.val (.int p1), .val (.int p2), .val (.int k), .val (.int u), .unset, .unset] [])) _
      refine XS.iloadN X0.here hx rfl (hb hby at_78) rfl ?_
      show Steps p.tables e below (s₁.setTop (mkF m 79 #[.val (.int p1), .val (.int p2), .val (.int k), .val (.int u), .unset, .unset] [(.int k)])) _
      refine XS.iconst X0.here hx rfl (hb hby at_79) ?_
      show Steps p.tables e below (s₁.setTop (mkF m 80 #[.val (.int p1), .val (.int p2), .val (.int k), .val (.int u), .unset, .unset] [(.int (4 : Int32)), (.int k)])) _
      refine XS.icmpNo X0.here hx rfl (hb hby at_80) rfl (teq hkk).2 ?_
      exact a5 t kt
    · obtain ⟨T', L', cc, mem, a1, a2, a3, a4, a5⟩ := m99
      refine ⟨T', L', cc, mem, a1, a2, a3, a4, fun t kt => ?_⟩
      show Steps p.tables e below (s₁.setTop (mkF m 78 #[.val (.int p1), .val (.int p2), .val (.int k), .val (.int u), .unset, .unset] [])) _
      refine XS.iloadN X0.here hx rfl (hb hby at_78) rfl ?_
      show Steps p.tables e below (s₁.setTop (mkF m 79 #[.val (.int p1), .val (.int p2), .val (.int k), .val (.int u), .unset, .unset] [(.int k)])) _
      refine XS.iconst X0.here hx rfl (hb hby at_79) ?_
      show Steps p.tables e below (s₁.setTop (mkF m 80 #[.val (.int p1), .val (.int p2), .val (.int k), .val (.int u), .unset, .unset] [(.int (4 : Int32)), (.int k)])) _
      refine XS.icmpYes X0.here hx rfl (pc0 := 80) (pc' := 99) rfl (hb hby at_80) rfl (feq hkk).2 (by decide) (by decide) ?_
      exact a5 t kt
  have m62 : ∃ (T' : State) (L' : List Loc) (cc mem : Int32), Stand p l e room_1 s m #[(.int p1), (.int p2)] below meth c T' L' 0 0 ∧ T'.heap = h0 ∧ Fr n0 L' ∧ own_v1_0 cc = mem ∧ ∀ t, Steps p.tables e below (T'.setTop (mkF m 234 #[.val (.int p1), .val (.int p2), .val (.int k), .val (.int u), .val (.int cc), .val (.int mem)] [])) t → Steps p.tables e below (s₁.setTop (mkF m 62 #[.val (.int p1), .val (.int p2), .val (.int k), .val (.int u), .unset, .unset] [])) t := by
    by_cases hkk : k = (3 : Int32)
    · have P1 : ∃ (T' : State) (L' : List Loc) (cc mem : Int32), Stand p l e room_1 s m #[(.int p1), (.int p2)] below meth c T' L' 0 0 ∧ T'.heap = h0 ∧ Fr n0 L' ∧ own_v1_0 cc = mem ∧ ∀ t, Steps p.tables e below (T'.setTop (mkF m 234 #[.val (.int p1), .val (.int p2), .val (.int k), .val (.int u), .val (.int cc), .val (.int mem)] [])) t → Steps p.tables e below (s₁.setTop (mkF m 67 #[.val (.int p1), .val (.int p2), .val (.int k), .val (.int u), .unset, .unset] [])) t := by
        refine ⟨s₁, [], (183 : Int32), (1 : Int32), X0, e0, N0, (own_reg_6 _ (by decide) (by decide)), fun t kt => ?_⟩
        show Steps p.tables e below (s₁.setTop (mkF m 67 #[.val (.int p1), .val (.int p2), .val (.int k), .val (.int u), .unset, .unset] [])) _
        refine XS.sipush X0.here hx rfl (hb hby at_67) ?_
        show Steps p.tables e below (s₁.setTop (mkF m 70 #[.val (.int p1), .val (.int p2), .val (.int k), .val (.int u), .unset, .unset] [(.int (183 : Int32))])) _
        refine XS.istore X0.here hx rfl (hb hby at_70) rfl (l' := #[.val (.int p1), .val (.int p2), .val (.int k), .val (.int u), .val (.int (183 : Int32)), .unset]) rfl ?_
        show Steps p.tables e below (s₁.setTop (mkF m 72 #[.val (.int p1), .val (.int p2), .val (.int k), .val (.int u), .val (.int (183 : Int32)), .unset] [])) _
        refine XS.iconst X0.here hx rfl (hb hby at_72) ?_
        show Steps p.tables e below (s₁.setTop (mkF m 73 #[.val (.int p1), .val (.int p2), .val (.int k), .val (.int u), .val (.int (183 : Int32)), .unset] [(.int (1 : Int32))])) _
        refine XS.istore X0.here hx rfl (hb hby at_73) rfl (l' := #[.val (.int p1), .val (.int p2), .val (.int k), .val (.int u), .val (.int (183 : Int32)), .val (.int (1 : Int32))]) rfl ?_
        show Steps p.tables e below (s₁.setTop (mkF m 75 #[.val (.int p1), .val (.int p2), .val (.int k), .val (.int u), .val (.int (183 : Int32)), .val (.int (1 : Int32))] [])) _
        refine XS.goto X0.here hx rfl (pc0 := 75) (pc' := 234) rfl (hb hby at_75) (by decide) (by decide) ?_
        exact kt
      obtain ⟨T', L', cc, mem, a1, a2, a3, a4, a5⟩ := P1
      refine ⟨T', L', cc, mem, a1, a2, a3, a4, fun t kt => ?_⟩
      show Steps p.tables e below (s₁.setTop (mkF m 62 #[.val (.int p1), .val (.int p2), .val (.int k), .val (.int u), .unset, .unset] [])) _
      refine XS.iloadN X0.here hx rfl (hb hby at_62) rfl ?_
      show Steps p.tables e below (s₁.setTop (mkF m 63 #[.val (.int p1), .val (.int p2), .val (.int k), .val (.int u), .unset, .unset] [(.int k)])) _
      refine XS.iconst X0.here hx rfl (hb hby at_63) ?_
      show Steps p.tables e below (s₁.setTop (mkF m 64 #[.val (.int p1), .val (.int p2), .val (.int k), .val (.int u), .unset, .unset] [(.int (3 : Int32)), (.int k)])) _
      refine XS.icmpNo X0.here hx rfl (hb hby at_64) rfl (teq hkk).2 ?_
      exact a5 t kt
    · obtain ⟨T', L', cc, mem, a1, a2, a3, a4, a5⟩ := m78
      refine ⟨T', L', cc, mem, a1, a2, a3, a4, fun t kt => ?_⟩
      show Steps p.tables e below (s₁.setTop (mkF m 62 #[.val (.int p1), .val (.int p2), .val (.int k), .val (.int u), .unset, .unset] [])) _
      refine XS.iloadN X0.here hx rfl (hb hby at_62) rfl ?_
      show Steps p.tables e below (s₁.setTop (mkF m 63 #[.val (.int p1), .val (.int p2), .val (.int k), .val (.int u), .unset, .unset] [(.int k)])) _
      refine XS.iconst X0.here hx rfl (hb hby at_63) ?_
      show Steps p.tables e below (s₁.setTop (mkF m 64 #[.val (.int p1), .val (.int p2), .val (.int k), .val (.int u), .unset, .unset] [(.int (3 : Int32)), (.int k)])) _
      refine XS.icmpYes X0.here hx rfl (pc0 := 64) (pc' := 78) rfl (hb hby at_64) rfl (feq hkk).2 (by decide) (by decide) ?_
      exact a5 t kt
  have m42 : ∃ (T' : State) (L' : List Loc) (cc mem : Int32), Stand p l e room_1 s m #[(.int p1), (.int p2)] below meth c T' L' 0 0 ∧ T'.heap = h0 ∧ Fr n0 L' ∧ own_v1_0 cc = mem ∧ ∀ t, Steps p.tables e below (T'.setTop (mkF m 234 #[.val (.int p1), .val (.int p2), .val (.int k), .val (.int u), .val (.int cc), .val (.int mem)] [])) t → Steps p.tables e below (s₁.setTop (mkF m 42 #[.val (.int p1), .val (.int p2), .val (.int k), .val (.int u), .unset, .unset] [])) t := by
    by_cases hkk : k = (2 : Int32)
    · have P1 : ∃ (T' : State) (L' : List Loc) (cc mem : Int32), Stand p l e room_1 s m #[(.int p1), (.int p2)] below meth c T' L' 0 0 ∧ T'.heap = h0 ∧ Fr n0 L' ∧ own_v1_0 cc = mem ∧ ∀ t, Steps p.tables e below (T'.setTop (mkF m 234 #[.val (.int p1), .val (.int p2), .val (.int k), .val (.int u), .val (.int cc), .val (.int mem)] [])) t → Steps p.tables e below (s₁.setTop (mkF m 47 #[.val (.int p1), .val (.int p2), .val (.int k), .val (.int u), .unset, .unset] [])) t := by
        refine ⟨s₁, [], ((48 : Int32) + (u - u / (10 : Int32) * (10 : Int32))), (1 : Int32), X0, e0, N0, (by have q := own_plus 10 48 hu (K := (10 : Int32)) (B := (48 : Int32)) rfl rfl (by decide) (by decide) (by decide) (by decide); exact own_reg_4 _ (by omega) (by omega)), fun t kt => ?_⟩
        show Steps p.tables e below (s₁.setTop (mkF m 47 #[.val (.int p1), .val (.int p2), .val (.int k), .val (.int u), .unset, .unset] [])) _
        refine XS.bipush X0.here hx rfl (hb hby at_47) ?_
        show Steps p.tables e below (s₁.setTop (mkF m 49 #[.val (.int p1), .val (.int p2), .val (.int k), .val (.int u), .unset, .unset] [(.int (48 : Int32))])) _
        refine XS.iloadN X0.here hx rfl (hb hby at_49) rfl ?_
        show Steps p.tables e below (s₁.setTop (mkF m 50 #[.val (.int p1), .val (.int p2), .val (.int k), .val (.int u), .unset, .unset] [(.int u), (.int (48 : Int32))])) _
        refine XS.bipush X0.here hx rfl (hb hby at_50) ?_
        show Steps p.tables e below (s₁.setTop (mkF m 52 #[.val (.int p1), .val (.int p2), .val (.int k), .val (.int u), .unset, .unset] [(.int (10 : Int32)), (.int u), (.int (48 : Int32))])) _
        refine XS.irem X0.here hx rfl (hb hby at_52) rfl (by decide) ?_
        show Steps p.tables e below (s₁.setTop (mkF m 53 #[.val (.int p1), .val (.int p2), .val (.int k), .val (.int u), .unset, .unset] [(.int (u - u / (10 : Int32) * (10 : Int32))), (.int (48 : Int32))])) _
        refine XS.iadd X0.here hx rfl (hb hby at_53) rfl ?_
        show Steps p.tables e below (s₁.setTop (mkF m 54 #[.val (.int p1), .val (.int p2), .val (.int k), .val (.int u), .unset, .unset] [(.int ((48 : Int32) + (u - u / (10 : Int32) * (10 : Int32))))])) _
        refine XS.istore X0.here hx rfl (hb hby at_54) rfl (l' := #[.val (.int p1), .val (.int p2), .val (.int k), .val (.int u), .val (.int ((48 : Int32) + (u - u / (10 : Int32) * (10 : Int32)))), .unset]) rfl ?_
        show Steps p.tables e below (s₁.setTop (mkF m 56 #[.val (.int p1), .val (.int p2), .val (.int k), .val (.int u), .val (.int ((48 : Int32) + (u - u / (10 : Int32) * (10 : Int32)))), .unset] [])) _
        refine XS.iconst X0.here hx rfl (hb hby at_56) ?_
        show Steps p.tables e below (s₁.setTop (mkF m 57 #[.val (.int p1), .val (.int p2), .val (.int k), .val (.int u), .val (.int ((48 : Int32) + (u - u / (10 : Int32) * (10 : Int32)))), .unset] [(.int (1 : Int32))])) _
        refine XS.istore X0.here hx rfl (hb hby at_57) rfl (l' := #[.val (.int p1), .val (.int p2), .val (.int k), .val (.int u), .val (.int ((48 : Int32) + (u - u / (10 : Int32) * (10 : Int32)))), .val (.int (1 : Int32))]) rfl ?_
        show Steps p.tables e below (s₁.setTop (mkF m 59 #[.val (.int p1), .val (.int p2), .val (.int k), .val (.int u), .val (.int ((48 : Int32) + (u - u / (10 : Int32) * (10 : Int32)))), .val (.int (1 : Int32))] [])) _
        refine XS.goto X0.here hx rfl (pc0 := 59) (pc' := 234) rfl (hb hby at_59) (by decide) (by decide) ?_
        exact kt
      obtain ⟨T', L', cc, mem, a1, a2, a3, a4, a5⟩ := P1
      refine ⟨T', L', cc, mem, a1, a2, a3, a4, fun t kt => ?_⟩
      show Steps p.tables e below (s₁.setTop (mkF m 42 #[.val (.int p1), .val (.int p2), .val (.int k), .val (.int u), .unset, .unset] [])) _
      refine XS.iloadN X0.here hx rfl (hb hby at_42) rfl ?_
      show Steps p.tables e below (s₁.setTop (mkF m 43 #[.val (.int p1), .val (.int p2), .val (.int k), .val (.int u), .unset, .unset] [(.int k)])) _
      refine XS.iconst X0.here hx rfl (hb hby at_43) ?_
      show Steps p.tables e below (s₁.setTop (mkF m 44 #[.val (.int p1), .val (.int p2), .val (.int k), .val (.int u), .unset, .unset] [(.int (2 : Int32)), (.int k)])) _
      refine XS.icmpNo X0.here hx rfl (hb hby at_44) rfl (teq hkk).2 ?_
      exact a5 t kt
    · obtain ⟨T', L', cc, mem, a1, a2, a3, a4, a5⟩ := m62
      refine ⟨T', L', cc, mem, a1, a2, a3, a4, fun t kt => ?_⟩
      show Steps p.tables e below (s₁.setTop (mkF m 42 #[.val (.int p1), .val (.int p2), .val (.int k), .val (.int u), .unset, .unset] [])) _
      refine XS.iloadN X0.here hx rfl (hb hby at_42) rfl ?_
      show Steps p.tables e below (s₁.setTop (mkF m 43 #[.val (.int p1), .val (.int p2), .val (.int k), .val (.int u), .unset, .unset] [(.int k)])) _
      refine XS.iconst X0.here hx rfl (hb hby at_43) ?_
      show Steps p.tables e below (s₁.setTop (mkF m 44 #[.val (.int p1), .val (.int p2), .val (.int k), .val (.int u), .unset, .unset] [(.int (2 : Int32)), (.int k)])) _
      refine XS.icmpYes X0.here hx rfl (pc0 := 44) (pc' := 62) rfl (hb hby at_44) rfl (feq hkk).2 (by decide) (by decide) ?_
      exact a5 t kt
  have m27 : ∃ (T' : State) (L' : List Loc) (cc mem : Int32), Stand p l e room_1 s m #[(.int p1), (.int p2)] below meth c T' L' 0 0 ∧ T'.heap = h0 ∧ Fr n0 L' ∧ own_v1_0 cc = mem ∧ ∀ t, Steps p.tables e below (T'.setTop (mkF m 234 #[.val (.int p1), .val (.int p2), .val (.int k), .val (.int u), .val (.int cc), .val (.int mem)] [])) t → Steps p.tables e below (s₁.setTop (mkF m 27 #[.val (.int p1), .val (.int p2), .val (.int k), .val (.int u), .unset, .unset] [])) t := by
    by_cases hkk : k = (1 : Int32)
    · have P1 : ∃ (T' : State) (L' : List Loc) (cc mem : Int32), Stand p l e room_1 s m #[(.int p1), (.int p2)] below meth c T' L' 0 0 ∧ T'.heap = h0 ∧ Fr n0 L' ∧ own_v1_0 cc = mem ∧ ∀ t, Steps p.tables e below (T'.setTop (mkF m 234 #[.val (.int p1), .val (.int p2), .val (.int k), .val (.int u), .val (.int cc), .val (.int mem)] [])) t → Steps p.tables e below (s₁.setTop (mkF m 32 #[.val (.int p1), .val (.int p2), .val (.int k), .val (.int u), .unset, .unset] [])) t := by
        refine ⟨s₁, [], (46 : Int32), (1 : Int32), X0, e0, N0, (own_reg_2 _ (by decide) (by decide)), fun t kt => ?_⟩
        show Steps p.tables e below (s₁.setTop (mkF m 32 #[.val (.int p1), .val (.int p2), .val (.int k), .val (.int u), .unset, .unset] [])) _
        refine XS.bipush X0.here hx rfl (hb hby at_32) ?_
        show Steps p.tables e below (s₁.setTop (mkF m 34 #[.val (.int p1), .val (.int p2), .val (.int k), .val (.int u), .unset, .unset] [(.int (46 : Int32))])) _
        refine XS.istore X0.here hx rfl (hb hby at_34) rfl (l' := #[.val (.int p1), .val (.int p2), .val (.int k), .val (.int u), .val (.int (46 : Int32)), .unset]) rfl ?_
        show Steps p.tables e below (s₁.setTop (mkF m 36 #[.val (.int p1), .val (.int p2), .val (.int k), .val (.int u), .val (.int (46 : Int32)), .unset] [])) _
        refine XS.iconst X0.here hx rfl (hb hby at_36) ?_
        show Steps p.tables e below (s₁.setTop (mkF m 37 #[.val (.int p1), .val (.int p2), .val (.int k), .val (.int u), .val (.int (46 : Int32)), .unset] [(.int (1 : Int32))])) _
        refine XS.istore X0.here hx rfl (hb hby at_37) rfl (l' := #[.val (.int p1), .val (.int p2), .val (.int k), .val (.int u), .val (.int (46 : Int32)), .val (.int (1 : Int32))]) rfl ?_
        show Steps p.tables e below (s₁.setTop (mkF m 39 #[.val (.int p1), .val (.int p2), .val (.int k), .val (.int u), .val (.int (46 : Int32)), .val (.int (1 : Int32))] [])) _
        refine XS.goto X0.here hx rfl (pc0 := 39) (pc' := 234) rfl (hb hby at_39) (by decide) (by decide) ?_
        exact kt
      obtain ⟨T', L', cc, mem, a1, a2, a3, a4, a5⟩ := P1
      refine ⟨T', L', cc, mem, a1, a2, a3, a4, fun t kt => ?_⟩
      show Steps p.tables e below (s₁.setTop (mkF m 27 #[.val (.int p1), .val (.int p2), .val (.int k), .val (.int u), .unset, .unset] [])) _
      refine XS.iloadN X0.here hx rfl (hb hby at_27) rfl ?_
      show Steps p.tables e below (s₁.setTop (mkF m 28 #[.val (.int p1), .val (.int p2), .val (.int k), .val (.int u), .unset, .unset] [(.int k)])) _
      refine XS.iconst X0.here hx rfl (hb hby at_28) ?_
      show Steps p.tables e below (s₁.setTop (mkF m 29 #[.val (.int p1), .val (.int p2), .val (.int k), .val (.int u), .unset, .unset] [(.int (1 : Int32)), (.int k)])) _
      refine XS.icmpNo X0.here hx rfl (hb hby at_29) rfl (teq hkk).2 ?_
      exact a5 t kt
    · obtain ⟨T', L', cc, mem, a1, a2, a3, a4, a5⟩ := m42
      refine ⟨T', L', cc, mem, a1, a2, a3, a4, fun t kt => ?_⟩
      show Steps p.tables e below (s₁.setTop (mkF m 27 #[.val (.int p1), .val (.int p2), .val (.int k), .val (.int u), .unset, .unset] [])) _
      refine XS.iloadN X0.here hx rfl (hb hby at_27) rfl ?_
      show Steps p.tables e below (s₁.setTop (mkF m 28 #[.val (.int p1), .val (.int p2), .val (.int k), .val (.int u), .unset, .unset] [(.int k)])) _
      refine XS.iconst X0.here hx rfl (hb hby at_28) ?_
      show Steps p.tables e below (s₁.setTop (mkF m 29 #[.val (.int p1), .val (.int p2), .val (.int k), .val (.int u), .unset, .unset] [(.int (1 : Int32)), (.int k)])) _
      refine XS.icmpYes X0.here hx rfl (pc0 := 29) (pc' := 42) rfl (hb hby at_29) rfl (feq hkk).2 (by decide) (by decide) ?_
      exact a5 t kt
  have m13 : ∃ (T' : State) (L' : List Loc) (cc mem : Int32), Stand p l e room_1 s m #[(.int p1), (.int p2)] below meth c T' L' 0 0 ∧ T'.heap = h0 ∧ Fr n0 L' ∧ own_v1_0 cc = mem ∧ ∀ t, Steps p.tables e below (T'.setTop (mkF m 234 #[.val (.int p1), .val (.int p2), .val (.int k), .val (.int u), .val (.int cc), .val (.int mem)] [])) t → Steps p.tables e below (s₁.setTop (mkF m 13 #[.val (.int p1), .val (.int p2), .val (.int k), .val (.int u), .unset, .unset] [])) t := by
    by_cases hkk : k = (0 : Int32)
    · have P1 : ∃ (T' : State) (L' : List Loc) (cc mem : Int32), Stand p l e room_1 s m #[(.int p1), (.int p2)] below meth c T' L' 0 0 ∧ T'.heap = h0 ∧ Fr n0 L' ∧ own_v1_0 cc = mem ∧ ∀ t, Steps p.tables e below (T'.setTop (mkF m 234 #[.val (.int p1), .val (.int p2), .val (.int k), .val (.int u), .val (.int cc), .val (.int mem)] [])) t → Steps p.tables e below (s₁.setTop (mkF m 17 #[.val (.int p1), .val (.int p2), .val (.int k), .val (.int u), .unset, .unset] [])) t := by
        refine ⟨s₁, [], (45 : Int32), (1 : Int32), X0, e0, N0, (own_reg_1 _ (by decide) (by decide)), fun t kt => ?_⟩
        show Steps p.tables e below (s₁.setTop (mkF m 17 #[.val (.int p1), .val (.int p2), .val (.int k), .val (.int u), .unset, .unset] [])) _
        refine XS.bipush X0.here hx rfl (hb hby at_17) ?_
        show Steps p.tables e below (s₁.setTop (mkF m 19 #[.val (.int p1), .val (.int p2), .val (.int k), .val (.int u), .unset, .unset] [(.int (45 : Int32))])) _
        refine XS.istore X0.here hx rfl (hb hby at_19) rfl (l' := #[.val (.int p1), .val (.int p2), .val (.int k), .val (.int u), .val (.int (45 : Int32)), .unset]) rfl ?_
        show Steps p.tables e below (s₁.setTop (mkF m 21 #[.val (.int p1), .val (.int p2), .val (.int k), .val (.int u), .val (.int (45 : Int32)), .unset] [])) _
        refine XS.iconst X0.here hx rfl (hb hby at_21) ?_
        show Steps p.tables e below (s₁.setTop (mkF m 22 #[.val (.int p1), .val (.int p2), .val (.int k), .val (.int u), .val (.int (45 : Int32)), .unset] [(.int (1 : Int32))])) _
        refine XS.istore X0.here hx rfl (hb hby at_22) rfl (l' := #[.val (.int p1), .val (.int p2), .val (.int k), .val (.int u), .val (.int (45 : Int32)), .val (.int (1 : Int32))]) rfl ?_
        show Steps p.tables e below (s₁.setTop (mkF m 24 #[.val (.int p1), .val (.int p2), .val (.int k), .val (.int u), .val (.int (45 : Int32)), .val (.int (1 : Int32))] [])) _
        refine XS.goto X0.here hx rfl (pc0 := 24) (pc' := 234) rfl (hb hby at_24) (by decide) (by decide) ?_
        exact kt
      obtain ⟨T', L', cc, mem, a1, a2, a3, a4, a5⟩ := P1
      refine ⟨T', L', cc, mem, a1, a2, a3, a4, fun t kt => ?_⟩
      show Steps p.tables e below (s₁.setTop (mkF m 13 #[.val (.int p1), .val (.int p2), .val (.int k), .val (.int u), .unset, .unset] [])) _
      refine XS.iloadN X0.here hx rfl (hb hby at_13) rfl ?_
      show Steps p.tables e below (s₁.setTop (mkF m 14 #[.val (.int p1), .val (.int p2), .val (.int k), .val (.int u), .unset, .unset] [(.int k)])) _
      refine XS.ifNo X0.here hx rfl (hb hby at_14) rfl ((if0 _ _).trans (teq hkk).2) ?_
      exact a5 t kt
    · obtain ⟨T', L', cc, mem, a1, a2, a3, a4, a5⟩ := m27
      refine ⟨T', L', cc, mem, a1, a2, a3, a4, fun t kt => ?_⟩
      show Steps p.tables e below (s₁.setTop (mkF m 13 #[.val (.int p1), .val (.int p2), .val (.int k), .val (.int u), .unset, .unset] [])) _
      refine XS.iloadN X0.here hx rfl (hb hby at_13) rfl ?_
      show Steps p.tables e below (s₁.setTop (mkF m 14 #[.val (.int p1), .val (.int p2), .val (.int k), .val (.int u), .unset, .unset] [(.int k)])) _
      refine XS.ifYes X0.here hx rfl (pc0 := 14) (pc' := 27) rfl (hb hby at_14) rfl ((if0 _ _).trans (feq hkk).2) (by decide) (by decide) ?_
      exact a5 t kt
  obtain ⟨T8, L8, cc, mem, X8, e8, N8, v8, st8⟩ := m13
  obtain ⟨_, _, ⟨T9, L9, k9, n9⟩, -, X9, ⟨Lc9, hQ9, l9, y9, z9⟩, st9⟩ := Jvm.LawKit.callS X8 hx (y := (⟨"com/example/fallbak/fallbak/xpath/QName", "isNameOnlyChar", "(I)Z"⟩ : MethodName)) hown (mvT hZ (hw _ (List.mem_of_getElem? (i := 1) rfl))) (mvT hZ (hw _ (List.mem_of_getElem? (i := 2) rfl))) (mvT hZ (hw _ (List.mem_of_getElem? (i := 3) rfl))) (mvT hZ (hw _ (List.mem_of_getElem? (i := 4) rfl))) (by decide) (backOf (W := 0) (rm1 l Z a0 hw [] cc h0 n0 Z0) hZ (hw _ (List.mem_of_getElem? (i := 4) rfl)) (hw _ (List.mem_of_getElem? (i := 3) rfl)) (by decide) (by decide)) (g := (mkF m 236 #[.val (.int p1), .val (.int p2), .val (.int k), .val (.int u), .val (.int cc), .val (.int mem)] [(.int cc)])) rfl (by rw [hml]; rfl) (argsL := [(.int cc)]) (rest := []) (lenOf pd_0_0 rfl) rfl (by show 2 * 0 + _ ≤ _; exact Nat.le_of_eq rfl) (hb hby at_236) (fun _ _ => ⟨rfl, e8, (by decide : 0 + 0 ≤ _), (by decide : 0 + 0 ≤ _)⟩)
  dsimp only [Pt.U, Pt.locs, Pt.cells, Pt.slots] at X9 l9 y9 z9 st9 hQ9
  subst l9 y9 z9
  obtain ⟨rfl, N9q, eh9⟩ := hQ9
  have N9 := Fr.app N8 N9q
  obtain ⟨fs, hr, hrun, hended, hW, hsame⟩ := X9.leave (v := some (.int (1 : Int32))) (fun h => by rw [Bd.returns] at h; cases h)
  refine ⟨_, _, pre0 _ (pre1 _ (st8 _ ?_)), hrun, hended, _, _, rfl, ?_, ⟨_, rfl⟩, hW, hsame.mono (by decide) (by decide)⟩
  · show Steps p.tables e below (T8.setTop (mkF m 234 #[.val (.int p1), .val (.int p2), .val (.int k), .val (.int u), .val (.int cc), .val (.int mem)] [])) _
    refine XS.iload X8.here hx rfl (hb hby at_234) rfl ?_
    show Steps p.tables e below (T8.setTop (mkF m 236 #[.val (.int p1), .val (.int p2), .val (.int k), .val (.int u), .val (.int cc), .val (.int mem)] [(.int cc)])) _
    refine st9 _ ?_
    show Steps p.tables e below (T9.setTop (mkF m 239 #[.val (.int p1), .val (.int p2), .val (.int k), .val (.int u), .val (.int cc), .val (.int mem)] [(.int (own_v1_0 cc))])) _
    refine XS.iload X9.here hx rfl (hb hby at_239) rfl ?_
    show Steps p.tables e below (T9.setTop (mkF m 241 #[.val (.int p1), .val (.int p2), .val (.int k), .val (.int u), .val (.int cc), .val (.int mem)] [(.int mem), (.int (own_v1_0 cc))])) _
    refine XS.icmpNo X9.here hx rfl (hb hby at_241) rfl (teq v8).2 ?_
    show Steps p.tables e below (T9.setTop (mkF m 244 #[.val (.int p1), .val (.int p2), .val (.int k), .val (.int u), .val (.int cc), .val (.int mem)] [])) _
    refine XS.iconst X9.here hx rfl (hb hby at_244) ?_
    show Steps p.tables e below (T9.setTop (mkF m 245 #[.val (.int p1), .val (.int p2), .val (.int k), .val (.int u), .val (.int cc), .val (.int mem)] [(.int (1 : Int32))])) _
    refine XS.goto X9.here hx rfl (pc0 := 245) (pc' := 249) rfl (hb hby at_245) (by decide) (by decide) ?_
    show Steps p.tables e below (T9.setTop (mkF m 249 #[.val (.int p1), .val (.int p2), .val (.int k), .val (.int u), .val (.int cc), .val (.int mem)] [(.int (1 : Int32))])) _
    exact retN X9 hx (t := .boolean) Bd.returns (by simp) (hb hby at_249) hr
  · show Q0 Z p1 p2 h0 n0 _ T9.heap _
    exact ⟨rfl, N9⟩
set_option maxRecDepth 65536 in
set_option maxHeartbeats 40000000 in
theorem comes_1 {Post : Tables → Env → Array Value → State → Outcome → State → Prop} (hpost : ∀ tb e args s v u, (limb_1_1.after args s (.returned v) u = true ∧ limb_1_2.after args s (.returned v) u = true ∧ True) → FrameEnd s (.returned v) u (Jvm.fieldLocs frame_1_writes args s ++ Jvm.arrayLocs frame_1_arrays args s ++ Jvm.staticLocs frame_1_statics s) 0 0 → Post tb e args s (.returned v) u) :
    ArmFor flags0 classFile x code maxLocals ret World_1 tables_1 room_1 Calls_1 rest_1 Pre_1 Post := by
  intro l hfl _ _ p e ha hc hk s m args below hf hA hF happ hP
  obtain ⟨hcalls, hrest, hpre⟩ := hP
  obtain ⟨-, -, -, hnamed, -, -, -, hat⟩ := (Spec.applies_iff hf).mp happ
  obtain ⟨hg, hn⟩ := and_e (Cond.before_iff.mp (show (Jvm.Cond.and given_1 narrow_1).before args s = true from hpre))
  obtain ⟨g4, g5⟩ := and_e hg
  obtain ⟨g6, g7⟩ := and_e g5
  obtain ⟨w0, w1, rfl⟩ : ∃ w0 w1 : Value, args = #[w0, w1] := by
    have hs : args.size = 2 := by simpa [Cond.value, given_1] using g4
    obtain ⟨L⟩ := args
    match L, hs with
    | [w0, w1], _ => exact ⟨w0, w1, rfl⟩
  have hw := fun d (hd : d ∈ tables_1) => atoms_spec (ws := Jvm.Cond.code x code maxLocals ret :: tables_1) hat d (List.mem_cons_of_mem _ hd)
  have hfit : Fit s := fun {y c} hc i hi => by
    obtain ⟨ha, rfl⟩ := Array.getElem?_eq_some_iff.mp hc
    have q := List.all_eq_true.mp ((Array.all_eq_true_iff_forall_mem.mp hF) _ (Array.getElem_mem ha)) i (List.mem_range.mpr hi)
    simpa [Array.getElem?_eq_getElem hi] using q
  obtain ⟨i0, ei0⟩ := is_v g6
  obtain rfl : w0 = (.int i0) := Option.some.inj ei0
  obtain ⟨i1, ei1⟩ := is_v g7
  obtain rfl : w1 = (.int i1) := Option.some.inj ei1
  obtain ⟨n, o, h1, h2, h3, _, L, rfl, ⟨rfl, N⟩, hq⟩ := rm0 l s _ hw tables_1 i0 i1 s.heap s.heap.size (Nat.le_refl _) p e ha hc hk s m _ below hf ((Spec.applies_iff_loose hf).mp happ).1 ⟨rfl, State.Warmed39.refl s, rfl⟩ trivial
  refine ⟨n, _, h1, h2, h3, hpost _ _ _ _ _ _ ⟨Cond.after_iff.mpr rfl, Cond.after_iff.mpr (eq_i res_at (Term.int_eval (1)) rfl), trivial⟩ ⟨hq.1, hq.2.1, (hq.2.2.sift fun y hy => Or.inr (N y hy)).mono (by decide) (by decide)⟩⟩
theorem main_1_1 : Claimed_1_1 := comes_1 fun _ _ _ _ _ _ h hF => ⟨h.1, hF⟩
theorem main_1_2 : Claimed_1_2 := comes_1 fun _ _ _ _ _ _ h hF => ⟨h.2.1, hF⟩
end Jvm.Pilot.@@N@@
namespace Jvm.Pilot.@@N@@
open Jvm Jvm.ClassFile Sem Op Lib Jvm.Free Jvm.Stand Jvm.Pilot.@@N@@.Jvm.D
/-! MADE BY PROGRAM (witnessworld.py) out of the Statement's table words and the real class files: 8 classes; the members and pool entries that the words name. The judged class is class 1, her method 1. -/
namespace start1
open Jvm.ClassFile
def u (s : String) : CpInfo := .utf8 (stringToUtf16 s)
/-- a pool by its gaps: so many unusable entries, then the entry; so many at the end -/
def gap : Nat → List CpInfo → List CpInfo
  | 0, r => r
  | n + 1, r => .unusable :: gap n r
def poolList (es : List (Nat × CpInfo)) (last : Nat) : List CpInfo := es.foldr (fun e r => gap e.1 (e.2 :: r)) (gap last [])
def pool (es : List (Nat × CpInfo)) (last : Nat) : Array CpInfo := ⟨poolList es last⟩
def fileOf (pool : Array CpInfo) (this : Nat) (attrs : Array Attribute := #[]) (ms : Array MethodInfo := #[]) (fl : Nat := 33) (sup : Nat := 0) (ifs : Array Nat := #[]) (fds : Array FieldInfo := #[]) : ClassFile where
  minorVersion := 0
  majorVersion := 65
  constantPool := pool
  accessFlags := fl
  thisClass := this
  superClass := sup
  interfaces := ifs
  fields := fds
  methods := ms
  attributes := attrs
def plain (name : String) (sup : Option ClassId) : Class where
  name := name
  kind := .ordinary
  loader := none
  accessFlags := 33
  super := sup
  interfaces := #[]
  cf := none
  fields := #[]
  methods := #[]
  instanceTypes := #[]
  staticTypes := #[]
  resolved := #[]
  callSites := []
  init := .initialized
  statics := none
  mirror := none

def pool0 : Array CpInfo := pool [(5, u "<init>"), (0, u "()V"), (1, .class_ 10), (1, u "java/lang/Object")] 113

def k0m0 : Method := { name := "<init>", desc := "()V", sig := { parameters := [], returnType := none }, accessFlags := 1, code := none }
/-- java/lang/Object -/
def k0 : Class := { plain "java/lang/Object" none with
  accessFlags := 33
  interfaces := #[]
  cf := some (fileOf pool0 8 #[] #[{ accessFlags := 1, nameIndex := 5, descriptorIndex := 6, attributes := #[] }] 33 0 #[] #[])
  fields := #[]
  methods := #[k0m0]
  instanceTypes := #[]
  staticTypes := #[]
  resolved := Array.replicate 124 none
  statics := none }

def pool1 : Array CpInfo := pool [(2, .class_ 4), (1, u "java/lang/Object"), (0, u "<init>"), (0, u "()V"), (0, .integer 2147483647), (0, .methodref 9 10), (0, .class_ 11), (0, .nameAndType 12 13), (0, u "java/lang/Math"), (0, u "min"), (0, u "(II)I"), (0, .methodref 9 15), (0, .nameAndType 16 13), (0, u "max"), (0, .methodref 18 19), (0, .class_ 20), (0, .nameAndType 21 22), (0, u "com/example/fallbak/fallbak/xpath/QName"), (0, u "isNameOnlyChar"), (0, u "(I)Z"), (0, .class_ 24), (0, u "com/example/fallbak/fallbak/xpath/QNameIsNameOnlyCharPinLaw"), (2, u "law"), (0, u "(II)Z")] 3

def k1m0 : Method := { name := "<init>", desc := "()V", sig := { parameters := [], returnType := none }, accessFlags := 1, code := none }
def k1c1 : Code := { maxStack := 3, maxLocals := 6, code := code, exceptionTable := #[], attributes := #[] }
def k1m1 : Method := { name := "law", desc := "(II)Z", sig := { parameters := [.int, .int], returnType := some .boolean }, accessFlags := 9, code := some k1c1 }
/-- com/example/fallbak/fallbak/xpath/QNameIsNameOnlyCharPinLaw -/
def k1 : Class := { plain "com/example/fallbak/fallbak/xpath/QNameIsNameOnlyCharPinLaw" (some 0) with
  accessFlags := 49
  interfaces := #[]
  cf := some (fileOf pool1 23 #[] #[{ accessFlags := 1, nameIndex := 5, descriptorIndex := 6, attributes := #[] }, { accessFlags := 9, nameIndex := 27, descriptorIndex := 28, attributes := #[] }] 49 2 #[] #[])
  fields := #[]
  methods := #[k1m0, k1m1]
  instanceTypes := #[]
  staticTypes := #[]
  resolved := Array.replicate 32 none
  statics := none }

def pool2 : Array CpInfo := pool [(4, .class_ 6), (1, u "com/example/fallbak/fallbak/xpath/QName"), (3, .class_ 12), (1, u "java/lang/Object"), (36, u "namespaceUri"), (0, u "Ljava/lang/String;"), (2, u "prefix"), (2, u "localName"), (6, u "hash"), (0, u "I"), (14, u "(I)Z"), (6, u "isNameOnlyChar")] 96

def k2c0 : Code := { maxStack := 2, maxLocals := 1, code := prog_88_method_6_code, exceptionTable := #[], attributes := #[] }
def k2m0 : Method := { name := "isNameOnlyChar", desc := "(I)Z", sig := { parameters := [.int], returnType := some .boolean }, accessFlags := 8, code := some k2c0 }
/-- com/example/fallbak/fallbak/xpath/QName -/
def k2 : Class := { plain "com/example/fallbak/fallbak/xpath/QName" (some 0) with
  accessFlags := 33
  interfaces := #[]
  cf := some (fileOf pool2 4 #[] #[{ accessFlags := 8, nameIndex := 86, descriptorIndex := 79, attributes := #[] }] 33 10 #[] #[{ accessFlags := 18, nameIndex := 49, descriptorIndex := 50, attributes := #[] }, { accessFlags := 18, nameIndex := 53, descriptorIndex := 50, attributes := #[] }, { accessFlags := 18, nameIndex := 56, descriptorIndex := 50, attributes := #[] }, { accessFlags := 18, nameIndex := 63, descriptorIndex := 64, attributes := #[] }])
  fields := #[{ name := "namespaceUri", type := (.object "java/lang/String"), accessFlags := 18, slot := 0, constantValue := 0 }, { name := "prefix", type := (.object "java/lang/String"), accessFlags := 18, slot := 1, constantValue := 0 }, { name := "localName", type := (.object "java/lang/String"), accessFlags := 18, slot := 2, constantValue := 0 }, { name := "hash", type := .int, accessFlags := 18, slot := 3, constantValue := 0 }]
  methods := #[k2m0]
  instanceTypes := #[(.object "java/lang/String"), (.object "java/lang/String"), (.object "java/lang/String"), .int]
  staticTypes := #[]
  resolved := Array.replicate 183 none
  statics := none }

def pool3 : Array CpInfo := pool [(1, .class_ 2), (0, u "java/lang/Math"), (1, .class_ 6), (1, u "java/lang/Object"), (0, u "<init>"), (0, u "()V"), (89, .class_ 100), (1, u "java/lang/Math$RandomNumberGeneratorHolder"), (71, u "negativeZeroFloatBits"), (0, u "J"), (2, u "negativeZeroDoubleBits"), (21, u "max"), (2, u "min"), (43, u "$assertionsDisabled"), (0, u "Z"), (88, u "(II)I"), (2, u "twoToTheDoubleScaleDown"), (0, u "D"), (4, u "twoToTheDoubleScaleUp"), (9, u "E"), (3, u "PI"), (2, u "TAU"), (2, u "DEGREES_TO_RADIANS"), (0, u "RADIANS_TO_DEGREES")] 94

def k3m0 : Method := { name := "<init>", desc := "()V", sig := { parameters := [], returnType := none }, accessFlags := 2, code := none }
def k3c1 : Code := { maxStack := 2, maxLocals := 2, code := jdk_29_method_65_code, exceptionTable := #[], attributes := #[] }
def k3m1 : Method := { name := "max", desc := "(II)I", sig := { parameters := [.int, .int], returnType := some .int }, accessFlags := 9, code := some k3c1 }
def k3c2 : Code := { maxStack := 2, maxLocals := 2, code := jdk_29_method_69_code, exceptionTable := #[], attributes := #[] }
def k3m2 : Method := { name := "min", desc := "(II)I", sig := { parameters := [.int, .int], returnType := some .int }, accessFlags := 9, code := some k3c2 }
/-- java/lang/Math -/
def k3 : Class := { plain "java/lang/Math" (some 0) with
  accessFlags := 49
  interfaces := #[]
  cf := some (fileOf pool3 1 #[.nestMembers #[98]] #[{ accessFlags := 2, nameIndex := 7, descriptorIndex := 8, attributes := #[] }, { accessFlags := 9, nameIndex := 198, descriptorIndex := 335, attributes := #[] }, { accessFlags := 9, nameIndex := 201, descriptorIndex := 335, attributes := #[] }] 49 4 #[] #[{ accessFlags := 25, nameIndex := 354, descriptorIndex := 339, attributes := #[] }, { accessFlags := 25, nameIndex := 358, descriptorIndex := 339, attributes := #[] }, { accessFlags := 25, nameIndex := 361, descriptorIndex := 339, attributes := #[] }, { accessFlags := 26, nameIndex := 364, descriptorIndex := 339, attributes := #[] }, { accessFlags := 26, nameIndex := 365, descriptorIndex := 339, attributes := #[] }, { accessFlags := 26, nameIndex := 172, descriptorIndex := 173, attributes := #[] }, { accessFlags := 26, nameIndex := 176, descriptorIndex := 173, attributes := #[] }, { accessFlags := 8, nameIndex := 344, descriptorIndex := 339, attributes := #[] }, { accessFlags := 8, nameIndex := 338, descriptorIndex := 339, attributes := #[] }, { accessFlags := 4120, nameIndex := 245, descriptorIndex := 246, attributes := #[] }])
  fields := #[{ name := "E", type := .double, accessFlags := 25, slot := 0, constantValue := 0 }, { name := "PI", type := .double, accessFlags := 25, slot := 1, constantValue := 0 }, { name := "TAU", type := .double, accessFlags := 25, slot := 2, constantValue := 0 }, { name := "DEGREES_TO_RADIANS", type := .double, accessFlags := 26, slot := 3, constantValue := 0 }, { name := "RADIANS_TO_DEGREES", type := .double, accessFlags := 26, slot := 4, constantValue := 0 }, { name := "negativeZeroFloatBits", type := .long, accessFlags := 26, slot := 5, constantValue := 0 }, { name := "negativeZeroDoubleBits", type := .long, accessFlags := 26, slot := 6, constantValue := 0 }, { name := "twoToTheDoubleScaleUp", type := .double, accessFlags := 8, slot := 7, constantValue := 0 }, { name := "twoToTheDoubleScaleDown", type := .double, accessFlags := 8, slot := 8, constantValue := 0 }, { name := "$assertionsDisabled", type := .boolean, accessFlags := 4120, slot := 9, constantValue := 0 }]
  methods := #[k3m0, k3m1, k3m2]
  instanceTypes := #[]
  staticTypes := #[.double, .double, .double, .double, .double, .long, .long, .double, .double, .boolean]
  resolved := Array.replicate 460 none
  statics := none }

def pool4 : Array CpInfo := pool [(1, u "java/lang/Cloneable"), (0, .class_ 1), (0, u "java/lang/Object"), (0, .class_ 3)] 3

/-- java/lang/Cloneable -/
def k4 : Class := { plain "java/lang/Cloneable" (some 0) with
  accessFlags := 1537
  interfaces := #[]
  cf := some (fileOf pool4 2 #[] #[] 1537 4 #[] #[])
  fields := #[]
  methods := #[]
  instanceTypes := #[]
  staticTypes := #[]
  resolved := Array.replicate 8 none
  statics := none }

def pool5 : Array CpInfo := pool [(1, u "java/io/Serializable"), (0, .class_ 1), (0, u "java/lang/Object"), (0, .class_ 3)] 3

/-- java/io/Serializable -/
def k5 : Class := { plain "java/io/Serializable" (some 0) with
  accessFlags := 1537
  interfaces := #[]
  cf := some (fileOf pool5 2 #[] #[] 1537 4 #[] #[])
  fields := #[]
  methods := #[]
  instanceTypes := #[]
  staticTypes := #[]
  resolved := Array.replicate 8 none
  statics := none }

/-- the primitive byte -/
def k6 : Class := { plain "byte" none with kind := .primitive 'B', accessFlags := 0x411 }
/-- [B -/
def k7 : Class := { plain "[B" (some 0) with kind := .array 6 .byte, interfaces := #[4, 5], accessFlags := 1041 }

def heap : Heap := #[]
def classes : Array Class := #[k0, k1, k2, k3, k4, k5, k6, k7]
def interned : List (Array UInt16 × Addr) := []
def slotsUsed : Nat := 0
def theMethod : MethodId := ⟨1, 1⟩
def args0 : Array Value := #[.int 5, .int 7]
def aboutOver (below : List Frame) : State where
  vm := { classes := classes, interned := interned.toArray }
  heap := heap
  slotsUsed := slotsUsed
  threads := #[{ frames := .invoking theMethod args0 :: below }]
def below0 : List Frame := [.native { method := ⟨0, 0⟩, args := #[] }]
def about1 : State := aboutOver below0
def p0 : Program := .bare "" "" ""
def e0 : Env := launch0.env 0 0 0
theorem w_frames : about1.frames = Frame.invoking theMethod args0 :: below0 := rfl
set_option maxRecDepth 65536 in
theorem w_args : argsFit about1.vm theMethod args0 = true := by decide +kernel
set_option maxRecDepth 65536 in
theorem w_heap : heapFits about1 = true := by decide +kernel
set_option maxRecDepth 65536 in
theorem w_runnable : about1.curStatus? = some .runnable := by decide +kernel
set_option maxRecDepth 65536 in
theorem w_alone : about1.alone = true := by decide +kernel
set_option maxRecDepth 65536 in
theorem w_named : about1.methodNamed? x = some theMethod := by decide +kernel
set_option maxRecDepth 65536 in
theorem w_hears : about1.hears theMethod below0 = true := by decide +kernel
set_option maxRecDepth 65536 in
theorem w_ripe : about1.ripe theMethod args0 below0 = true := by decide +kernel
theorem w_running : about1.status = .running := rfl
set_option maxRecDepth 65536 in
theorem w_room : about1.hasRoom e0.platform room_1 = true :=
  launch0.hasRoom_least _ room_1 (by decide +kernel) (by decide +kernel) (by decide +kernel) (by decide +kernel) (by decide +kernel) (by decide +kernel)
theorem allAtoms_all (ts : List Jvm.Cond) (a : Array Jvm.Value) (st : Jvm.State) : (allAtoms ts).before a st = ts.all (fun c => c.before a st) := by
  induction ts with
  | nil => rfl
  | cons c t ih =>
    show (Jvm.Cond.and c (allAtoms t)).before a st = _
    rw [Jvm.Cond.before_and, ih, List.all_cons]
def words1 : List Jvm.Cond := Jvm.Cond.code x code maxLocals ret :: tables_1
/-- a 'code' word, met by the world's own term for the bytes: nothing is compared byte by byte -/
theorem code_word {y : MethodName} {bytes : ByteArray} {mx : Nat} {rt : Option FieldType} {a : Array Value} {s : State} {m : MethodId} {meth : Method} {c : Code} (h1 : s.methodNamed? y = some m) (h2 : s.vm.method? m = some meth) (h3 : meth.code = some c) (h4 : c.code = bytes)
    (h5 : (c.maxLocals == mx && c.exceptionTable.isEmpty && decide (c.maxStack ≤ mostOperands) && decide (meth.sig.returnType = rt) && !meth.locks && decide (parseMethodDescriptor y.desc = some meth.sig)) = true) : (Jvm.Cond.code y bytes mx rt).before a s = true := by
  simp only [Bool.and_eq_true, beq_iff_eq, Bool.not_eq_true', decide_eq_true_eq] at h5
  obtain ⟨⟨⟨⟨⟨g1, g2⟩, g3⟩, g4⟩, g5⟩, g6⟩ := h5
  simp [Cond.before, Cond.holds, Cond.value, h1, h2, h3, h4, g1, g2, g3, g4, g5, g6]
def isCode : Jvm.Cond → Bool
  | .code _ _ _ _ => true
  | _ => false
theorem all_split {L : List Jvm.Cond} {P : Jvm.Cond → Bool} (h1 : L.all (fun c => isCode c || P c) = true) (h2 : ∀ c ∈ L.filter isCode, P c = true) : L.all P = true := by
  refine List.all_eq_true.mpr fun c hc => ?_
  have h := List.all_eq_true.mp h1 c hc
  rcases Bool.eq_false_or_eq_true (isCode c) with hi | hi
  · exact h2 c (List.mem_filter.mpr ⟨hc, hi⟩)
  · simpa [hi] using h
set_option maxRecDepth 65536 in
theorem w_c0 : (Jvm.Cond.code x code maxLocals ret).before args0 about1 = true := code_word (m := ⟨1, 1⟩) (meth := k1m1) (c := k1c1) (by decide +kernel) rfl rfl rfl (by decide +kernel)
set_option maxRecDepth 65536 in
theorem w_c1 : (Jvm.Cond.code ({ cls := "com/example/fallbak/fallbak/xpath/QName", name := "isNameOnlyChar", desc := "(I)Z" } : Jvm.MethodName) prog_88_method_6_code (1 : Nat) (Option.some Jvm.ClassFile.FieldType.boolean)).before args0 about1 = true := code_word (m := ⟨2, 0⟩) (meth := k2m0) (c := k2c0) (by decide +kernel) rfl rfl rfl (by decide +kernel)
set_option maxRecDepth 65536 in
theorem w_c2 : (Jvm.Cond.code ({ cls := "java/lang/Math", name := "min", desc := "(II)I" } : Jvm.MethodName) jdk_29_method_69_code (2 : Nat) (Option.some Jvm.ClassFile.FieldType.int)).before args0 about1 = true := code_word (m := ⟨3, 2⟩) (meth := k3m2) (c := k3c2) (by decide +kernel) rfl rfl rfl (by decide +kernel)
set_option maxRecDepth 65536 in
theorem w_c3 : (Jvm.Cond.code ({ cls := "java/lang/Math", name := "max", desc := "(II)I" } : Jvm.MethodName) jdk_29_method_65_code (2 : Nat) (Option.some Jvm.ClassFile.FieldType.int)).before args0 about1 = true := code_word (m := ⟨3, 1⟩) (meth := k3m1) (c := k3c1) (by decide +kernel) rfl rfl rfl (by decide +kernel)
def codes1 : List Jvm.Cond := [Jvm.Cond.code x code maxLocals ret, Jvm.Cond.code ({ cls := "com/example/fallbak/fallbak/xpath/QName", name := "isNameOnlyChar", desc := "(I)Z" } : Jvm.MethodName) prog_88_method_6_code (1 : Nat) (Option.some Jvm.ClassFile.FieldType.boolean), Jvm.Cond.code ({ cls := "java/lang/Math", name := "min", desc := "(II)I" } : Jvm.MethodName) jdk_29_method_69_code (2 : Nat) (Option.some Jvm.ClassFile.FieldType.int), Jvm.Cond.code ({ cls := "java/lang/Math", name := "max", desc := "(II)I" } : Jvm.MethodName) jdk_29_method_65_code (2 : Nat) (Option.some Jvm.ClassFile.FieldType.int)]
set_option maxRecDepth 65536 in
theorem codes_eq : words1.filter isCode = codes1 := rfl
theorem w_codes : ∀ c ∈ words1.filter isCode, c.before args0 about1 = true := by
  rw [codes_eq]
  intro c hc
  simp only [codes1, List.mem_cons, List.not_mem_nil, or_false] at hc
  rcases hc with rfl | rfl | rfl | rfl
  · exact w_c0
  · exact w_c1
  · exact w_c2
  · exact w_c3
set_option maxRecDepth 65536 in
theorem w_t1 : words1.all (fun c => isCode c || c.before args0 about1) = true := by decide +kernel
theorem w_tables : (allAtoms (Jvm.Cond.code x code maxLocals ret :: tables_1)).before args0 about1 = true := by
  rw [allAtoms_all]
  show words1.all (fun c => c.before args0 about1) = true
  refine all_split ?_ w_codes
  rw [w_t1]
set_option maxRecDepth 65536 in
theorem w_case : (Jvm.Cond.and given_1 narrow_1).before args0 about1 = true := by decide +kernel
theorem w_applies : (headSpec (Jvm.Cond.code x code maxLocals ret :: tables_1) room_1).applies x e0.platform about1 = true :=
  (Spec.applies_iff w_frames).mpr ⟨w_running, w_runnable, w_alone, w_named, w_hears, w_ripe, w_room, w_tables⟩
theorem atStart : AtStart classFile x code maxLocals ret World_1 tables_1 room_1 Calls_1 rest_1 Pre_1 launch0 p0 e0 about1 theMethod args0 below0 :=
  ⟨lists_1, trivial, launch0.admits_env _ _ _, launch0.least_env, fairChoices_fair.cas, fairChoices_fair.clock, w_frames, w_args, w_heap, w_applies, trivial, trivial, w_case⟩
end start1
theorem witness_1 : WitnessClaimed_1 := ⟨start1.p0, start1.e0, start1.about1, start1.theMethod, start1.args0, start1.below0, start1.atStart⟩
end Jvm.Pilot.@@N@@

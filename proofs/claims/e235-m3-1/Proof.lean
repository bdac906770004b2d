import JvmDerived
import JvmDerived.Pilot.@@N@@Statement
import JvmDerived.Pilot.@@N@@Code
set_option linter.unusedVariables false
set_option linter.unusedSimpArgs false
@@BLOCK:NumsL.lean.txt@@
namespace Jvm.RoadKit
open Sem ClassFile Op Lib Jvm.Stand Jvm.Free Jvm.LawKit
section New
variable {p : Program} {l : Launch} {e : Env} {R : Room} {s : State} {m : MethodId} {args : Array Value} {below : List Frame} {meth : Method} {c : Code} {T : State} {locs : List Loc} {cells slots : Nat}
theorem retI (X : Stand p l e R s m args below meth c T locs cells slots) (hx : p.tables.exec = Jvm.exec) {pc : Nat} {Ls : Array Slot} {z : Int32} {rest : List Value} (hret : meth.sig.returnType = some .int) (hd : decode c.code pc = .ok (.ireturn, 1)) {fs : List Frame}
    (hl : ∀ (f : JFrame) (acts : List Action), f.method = m → f.locked = none → f.entered = [] → (doReturn e (T.setTop f) acts (some (.int z))).1 = T.setFrames fs) : Steps p.tables e below (T.setTop (mkF m pc Ls (.int z :: rest))) (T.setFrames fs) := by
  have hm' : T.vm.method? m = some meth := X.method'
  have hn : narrow .int (.int z) = .int z := rfl
  show Steps p.tables e below (T.setTop { method := m, pc := pc, locals := Ls, stack := _ :: rest, locked := none }) _
  jvm_step X.here [X.here.top, hx, hd, hm', hret, hn]
  first | (intro acts; rw [hl _ acts rfl rfl rfl]) | rw [hl _ _ rfl rfl rfl]
  exact Steps.refl _
end New
end Jvm.RoadKit
namespace Jvm.Pilot.@@N@@
open Jvm Jvm.ClassFile Sem Op Lib Jvm.Free Jvm.Stand Jvm.LawKit Jvm.RoadKit Bundle Jvm.Pilot.@@N@@.Jvm.D
theorem d1_0 : decode method_3_code 0 = .ok (.iload_n 0, 1) := by decide +kernel
theorem d1_1 : decode method_3_code 1 = .ok (.ifCond .ne 7, 3) := by decide +kernel
theorem d1_4 : decode method_3_code 4 = .ok (.getstatic 20, 3) := by decide +kernel
theorem d1_7 : decode method_3_code 7 = .ok (.areturn, 1) := by decide +kernel
theorem pn_1 : plainName "com/example/fallbak/fallbak/xslt/VisibilityMayBeExposedOnPinLaw" = true := by first | (simp [plainName, overriddenIn]; done) | decide +kernel
theorem ef_1 (m : MethodId) (x0 : Int32) : entryFrame m #[(.int x0)] 1 = mkF m 0 #[.val (.int x0)] [] := by first | (simp [entryFrame, mkF, argsToLocals, Value.category]; done) | rfl
theorem d1_8 : decode method_3_code 8 = .ok (.iload_n 0, 1) := by decide +kernel
theorem d1_9 : decode method_3_code 9 = .ok (.iconst 1, 1) := by decide +kernel
theorem d1_10 : decode method_3_code 10 = .ok (.if_icmp .ne 7, 3) := by decide +kernel
theorem d1_13 : decode method_3_code 13 = .ok (.getstatic 24, 3) := by decide +kernel
theorem d1_16 : decode method_3_code 16 = .ok (.areturn, 1) := by decide +kernel
theorem d1_17 : decode method_3_code 17 = .ok (.iload_n 0, 1) := by decide +kernel
theorem d1_18 : decode method_3_code 18 = .ok (.iconst 2, 1) := by decide +kernel
theorem d1_19 : decode method_3_code 19 = .ok (.if_icmp .ne 7, 3) := by decide +kernel
theorem d1_22 : decode method_3_code 22 = .ok (.getstatic 27, 3) := by decide +kernel
theorem d1_25 : decode method_3_code 25 = .ok (.areturn, 1) := by decide +kernel
theorem d1_26 : decode method_3_code 26 = .ok (.getstatic 30, 3) := by decide +kernel
theorem d1_29 : decode method_3_code 29 = .ok (.areturn, 1) := by decide +kernel
theorem d2_0 : decode prog_258_method_7_code 0 = .ok (.aload_n 1, 1) := by decide +kernel
theorem d2_1 : decode prog_258_method_7_code 1 = .ok (.ifnull 10, 3) := by decide +kernel
theorem d2_11 : decode prog_258_method_7_code 11 = .ok (.aload_n 0, 1) := by decide +kernel
theorem d2_12 : decode prog_258_method_7_code 12 = .ok (.getstatic 13, 3) := by decide +kernel
theorem d2_15 : decode prog_258_method_7_code 15 = .ok (.if_acmp .eq 7, 3) := by decide +kernel
theorem d2_22 : decode prog_258_method_7_code 22 = .ok (.iconst 0, 1) := by decide +kernel
theorem d2_23 : decode prog_258_method_7_code 23 = .ok (.ireturn, 1) := by decide +kernel
theorem pn_2 : plainName "com/example/fallbak/fallbak/xslt/Visibility" = true := by first | (simp [plainName, overriddenIn]; done) | decide +kernel
theorem ef_2n (m : MethodId) (x0 : Addr) : entryFrame m #[(.ref x0), .null] 2 = mkF m 0 #[.val (.ref x0), .val .null] [] := by first | (simp [entryFrame, mkF, argsToLocals, Value.category]; done) | rfl
theorem d2_18 : decode prog_258_method_7_code 18 = .ok (.iconst 1, 1) := by decide +kernel
theorem d2_19 : decode prog_258_method_7_code 19 = .ok (.goto 4, 3) := by decide +kernel
theorem d2_4 : decode prog_258_method_7_code 4 = .ok (.aload_n 1, 1) := by decide +kernel
theorem d2_5 : decode prog_258_method_7_code 5 = .ok (.getstatic 3, 3) := by decide +kernel
theorem d2_8 : decode prog_258_method_7_code 8 = .ok (.if_acmp .ne 16, 3) := by decide +kernel
theorem ef_2 (m : MethodId) (x0 : Addr) (x1 : Addr) : entryFrame m #[(.ref x0), (.ref x1)] 2 = mkF m 0 #[.val (.ref x0), .val (.ref x1)] [] := by first | (simp [entryFrame, mkF, argsToLocals, Value.category]; done) | rfl
theorem d2_24 : decode prog_258_method_7_code 24 = .ok (.aload_n 1, 1) := by decide +kernel
theorem d2_25 : decode prog_258_method_7_code 25 = .ok (.getstatic 10, 3) := by decide +kernel
theorem d2_28 : decode prog_258_method_7_code 28 = .ok (.if_acmp .ne 23, 3) := by decide +kernel
theorem d2_31 : decode prog_258_method_7_code 31 = .ok (.aload_n 0, 1) := by decide +kernel
theorem d2_32 : decode prog_258_method_7_code 32 = .ok (.getstatic 10, 3) := by decide +kernel
theorem d2_35 : decode prog_258_method_7_code 35 = .ok (.if_acmp .eq 10, 3) := by decide +kernel
theorem d2_45 : decode prog_258_method_7_code 45 = .ok (.iconst 1, 1) := by decide +kernel
theorem d2_46 : decode prog_258_method_7_code 46 = .ok (.goto 4, 3) := by decide +kernel
theorem d2_50 : decode prog_258_method_7_code 50 = .ok (.ireturn, 1) := by decide +kernel
theorem d2_38 : decode prog_258_method_7_code 38 = .ok (.aload_n 0, 1) := by decide +kernel
theorem d2_39 : decode prog_258_method_7_code 39 = .ok (.getstatic 7, 3) := by decide +kernel
theorem d2_42 : decode prog_258_method_7_code 42 = .ok (.if_acmp .ne 7, 3) := by decide +kernel
theorem d2_49 : decode prog_258_method_7_code 49 = .ok (.iconst 0, 1) := by decide +kernel
theorem d2_51 : decode prog_258_method_7_code 51 = .ok (.aload_n 0, 1) := by decide +kernel
theorem d2_52 : decode prog_258_method_7_code 52 = .ok (.aload_n 1, 1) := by decide +kernel
theorem d2_53 : decode prog_258_method_7_code 53 = .ok (.if_acmp .ne 7, 3) := by decide +kernel
theorem d2_56 : decode prog_258_method_7_code 56 = .ok (.iconst 1, 1) := by decide +kernel
theorem d2_57 : decode prog_258_method_7_code 57 = .ok (.goto 4, 3) := by decide +kernel
theorem d2_61 : decode prog_258_method_7_code 61 = .ok (.ireturn, 1) := by decide +kernel
theorem d2_60 : decode prog_258_method_7_code 60 = .ok (.iconst 0, 1) := by decide +kernel
theorem pn_0 : plainName "com/example/fallbak/fallbak/xslt/VisibilityMayBeExposedOnPinLaw" = true := by first | (simp [plainName, overriddenIn]; done) | decide +kernel
theorem pd_0_0 : parseMethodDescriptor "(I)Lcom/example/fallbak/fallbak/xslt/Visibility;" = some ⟨[.int], some (.object "com/example/fallbak/fallbak/xslt/Visibility")⟩ := by decide +kernel
theorem pd_0_1 : parseMethodDescriptor "(Lcom/example/fallbak/fallbak/xslt/Visibility;)Z" = some ⟨[(.object "com/example/fallbak/fallbak/xslt/Visibility")], some .boolean⟩ := by decide +kernel
theorem ef_0 (m : MethodId) (x0 : Int32) (x1 : Int32) : entryFrame m #[(.int x0), (.int x1)] maxLocals = mkF m 0 #[.val (.int x0), .val (.int x1), .unset, .unset, .unset, .unset, .unset, .unset] [] := by first | (simp [entryFrame, mkF, argsToLocals, Value.category, maxLocals]; done) | rfl
def own_c (i : Int32) (wPUBLIC wPRIVATE wFINAL wABSTRACT : Addr) : Addr := if i = (0 : Int32) then wPUBLIC else if i = (1 : Int32) then wPRIVATE else if i = (2 : Int32) then wFINAL else wABSTRACT
def own_n (a : Addr) (wPUBLIC wPRIVATE wFINAL wABSTRACT : Addr) : Int32 := if a = wABSTRACT then 0 else 1
def own_m (a d : Addr) (wPUBLIC wPRIVATE wFINAL wABSTRACT : Addr) : Int32 := if d = wPUBLIC then (if a = wABSTRACT then 0 else 1) else if d = wFINAL then (if a = wFINAL then 1 else if a = wPRIVATE then 1 else 0) else if a = d then 1 else 0
def Q1 (Z : State) (p1 : Int32) (wPUBLIC wPRIVATE wFINAL wABSTRACT : Addr) (h0 : Heap) (n0 : Nat) (v : Option Value) (h : Heap) (L : List Loc) : Prop := v = some (.ref (own_c p1 wPUBLIC wPRIVATE wFINAL wABSTRACT)) ∧ Fr n0 L ∧ h = h0
def Q2n (Z : State) (a1 : Addr) (wPUBLIC wPRIVATE wFINAL wABSTRACT : Addr) (h0 : Heap) (n0 : Nat) (v : Option Value) (h : Heap) (L : List Loc) : Prop := v = some (.int (own_n a1 wPUBLIC wPRIVATE wFINAL wABSTRACT)) ∧ Fr n0 L ∧ h = h0
def Q2 (Z : State) (a1 a2 : Addr) (wPUBLIC wPRIVATE wFINAL wABSTRACT : Addr) (h0 : Heap) (n0 : Nat) (v : Option Value) (h : Heap) (L : List Loc) : Prop := v = some (.int (own_m a1 a2 wPUBLIC wPRIVATE wFINAL wABSTRACT)) ∧ Fr n0 L ∧ h = h0
set_option maxRecDepth 65536 in
set_option maxHeartbeats 40000000 in
theorem rm1_f (l : Launch) (Z : State) (a0 : Array Value) (hw : ∀ d ∈ tables_1, d.before a0 Z = true) (ws : List Jvm.Cond) (p1 : Int32) (wPUBLIC wPRIVATE wFINAL wABSTRACT : Addr) (h0 : Heap) (n0 : Nat) (Z0 : n0 ≤ h0.size) (S_PUBLIC : Sta Z h0 "com/example/fallbak/fallbak/xslt/Visibility" "PUBLIC" "Lcom/example/fallbak/fallbak/xslt/Visibility;" (.ref wPUBLIC)) (S_PRIVATE : Sta Z h0 "com/example/fallbak/fallbak/xslt/Visibility" "PRIVATE" "Lcom/example/fallbak/fallbak/xslt/Visibility;" (.ref wPRIVATE)) (S_FINAL : Sta Z h0 "com/example/fallbak/fallbak/xslt/Visibility" "FINAL" "Lcom/example/fallbak/fallbak/xslt/Visibility;" (.ref wFINAL)) (S_ABSTRACT : Sta Z h0 "com/example/fallbak/fallbak/xslt/Visibility" "ABSTRACT" "Lcom/example/fallbak/fallbak/xslt/Visibility;" (.ref wABSTRACT)) (hc1 : p1 = (0 : Int32)) :
    MetFree l (⟨"com/example/fallbak/fallbak/xslt/VisibilityMayBeExposedOnPinLaw", "constant", "(I)Lcom/example/fallbak/fallbak/xslt/Visibility;"⟩ : MethodName) (head1 (Jvm.Cond.code (⟨"com/example/fallbak/fallbak/xslt/VisibilityMayBeExposedOnPinLaw", "constant", "(I)Lcom/example/fallbak/fallbak/xslt/Visibility;"⟩ : MethodName) method_3_code 1 (some (.object "com/example/fallbak/fallbak/xslt/Visibility")) :: ws) ({ frames := 0, cells := 0, slots := 0, locals := 0 } : Room)) (fun a U => a = #[(.int p1)] ∧ Z.Warmed39 U.vm ∧ U.heap = h0) (fun _ _ _ _ _ => True) (fun _ U o U' => ∃ v L, o = .returned v ∧ Q1 Z p1 wPUBLIC wPRIVATE wFINAL wABSTRACT h0 n0 v U'.heap L ∧ FrameEnd U o U' L ({ frames := 0, cells := 0, slots := 0, locals := 0 } : Room).cells ({ frames := 0, cells := 0, slots := 0, locals := 0 } : Room).slots) := by
  refine MetFree.of_bodySF (plainFor_of_name pn_1) hisR ?_
  intro p e s m args below meth c s₁ Bd hml0 hP hK
  obtain ⟨rfl, hZ, hh⟩ := hP
  have hx := Bd.exec
  have hby := Bd.bytes
  have hml : c.maxLocals = 1 := hml0
  have hown : s.vm.findClass "com/example/fallbak/fallbak/xslt/VisibilityMayBeExposedOnPinLaw" = some m.cls := findClass_of_methodNamed Bd.named
  have hnm := (name_of_methodNamed Bd.named Bd.method).1
  have X0 : Stand p l e ({ frames := 0, cells := 0, slots := 0, locals := 0 } : Room) s m #[(.int p1)] below meth c s₁ [] 0 0 := Stand.of_body Bd
  have e0 : s₁.heap = h0 := by rw [← hh, Bd.state]; rfl
  have N0 := Fr.nil n0
  have pre0 : ∀ t, Steps p.tables e below (s₁.setTop (mkF m 0 #[.val (.int p1)] [])) t → Steps p.tables e below (s₁.setTop (entryFrame m #[(.int p1)] 1)) t := fun t k => castTop (ef_1 m p1) k
  obtain ⟨T3, X3, e3, st3⟩ := getS2 X0 hx hZ hown (host := "") (Or.inl (hw _ (List.mem_of_getElem? (i := 5) rfl))) Via.refl e0 S_PUBLIC (g := (mkF m 4 #[.val (.int p1)] [])) rfl (hb hby d1_4)
  obtain ⟨fs, hr, hrun, hended, hW, hsame⟩ := X3.leave (v := some (.ref wPUBLIC)) (fun h => by rw [Bd.returns] at h; cases h)
  refine ⟨_, _, pre0 _ ?_, hrun, hended, _, _, rfl, ?_, ⟨_, rfl⟩, hW, hsame.mono (by decide) (by decide)⟩
  · show Steps p.tables e below (s₁.setTop (mkF m 0 #[.val (.int p1)] [])) _
    refine XS.iloadN X0.here hx rfl (hb hby d1_0) rfl ?_
    show Steps p.tables e below (s₁.setTop (mkF m 1 #[.val (.int p1)] [(.int p1)])) _
    refine XS.ifNo X0.here hx rfl (hb hby d1_1) rfl ((if0 _ _).trans (teq hc1).2) ?_
    show Steps p.tables e below (s₁.setTop (mkF m 4 #[.val (.int p1)] [])) _
    refine st3 _ ?_
    show Steps p.tables e below (T3.setTop (mkF m 7 #[.val (.int p1)] [(.ref wPUBLIC)])) _
    jvm_step X3.here [X3.here.top, hx, (hb hby d1_7), X3.method', Bd.returns, Value.isRef, FieldType.isReference]
    first | (intro acts; rw [hr _ acts rfl rfl rfl]) | rw [hr _ _ rfl rfl rfl]
    exact Steps.refl _
  · show Q1 Z p1 wPUBLIC wPRIVATE wFINAL wABSTRACT h0 n0 _ T3.heap _
    rw [e3]
    exact ⟨by rw [own_c, if_pos hc1], N0, rfl⟩
set_option maxRecDepth 65536 in
set_option maxHeartbeats 40000000 in
theorem rm1_tf (l : Launch) (Z : State) (a0 : Array Value) (hw : ∀ d ∈ tables_1, d.before a0 Z = true) (ws : List Jvm.Cond) (p1 : Int32) (wPUBLIC wPRIVATE wFINAL wABSTRACT : Addr) (h0 : Heap) (n0 : Nat) (Z0 : n0 ≤ h0.size) (S_PUBLIC : Sta Z h0 "com/example/fallbak/fallbak/xslt/Visibility" "PUBLIC" "Lcom/example/fallbak/fallbak/xslt/Visibility;" (.ref wPUBLIC)) (S_PRIVATE : Sta Z h0 "com/example/fallbak/fallbak/xslt/Visibility" "PRIVATE" "Lcom/example/fallbak/fallbak/xslt/Visibility;" (.ref wPRIVATE)) (S_FINAL : Sta Z h0 "com/example/fallbak/fallbak/xslt/Visibility" "FINAL" "Lcom/example/fallbak/fallbak/xslt/Visibility;" (.ref wFINAL)) (S_ABSTRACT : Sta Z h0 "com/example/fallbak/fallbak/xslt/Visibility" "ABSTRACT" "Lcom/example/fallbak/fallbak/xslt/Visibility;" (.ref wABSTRACT)) (hc1 : ¬ (p1 = (0 : Int32))) (hc10 : p1 = (1 : Int32)) :
    MetFree l (⟨"com/example/fallbak/fallbak/xslt/VisibilityMayBeExposedOnPinLaw", "constant", "(I)Lcom/example/fallbak/fallbak/xslt/Visibility;"⟩ : MethodName) (head1 (Jvm.Cond.code (⟨"com/example/fallbak/fallbak/xslt/VisibilityMayBeExposedOnPinLaw", "constant", "(I)Lcom/example/fallbak/fallbak/xslt/Visibility;"⟩ : MethodName) method_3_code 1 (some (.object "com/example/fallbak/fallbak/xslt/Visibility")) :: ws) ({ frames := 0, cells := 0, slots := 0, locals := 0 } : Room)) (fun a U => a = #[(.int p1)] ∧ Z.Warmed39 U.vm ∧ U.heap = h0) (fun _ _ _ _ _ => True) (fun _ U o U' => ∃ v L, o = .returned v ∧ Q1 Z p1 wPUBLIC wPRIVATE wFINAL wABSTRACT h0 n0 v U'.heap L ∧ FrameEnd U o U' L ({ frames := 0, cells := 0, slots := 0, locals := 0 } : Room).cells ({ frames := 0, cells := 0, slots := 0, locals := 0 } : Room).slots) := by
  refine MetFree.of_bodySF (plainFor_of_name pn_1) hisR ?_
  intro p e s m args below meth c s₁ Bd hml0 hP hK
  obtain ⟨rfl, hZ, hh⟩ := hP
  have hx := Bd.exec
  have hby := Bd.bytes
  have hml : c.maxLocals = 1 := hml0
  have hown : s.vm.findClass "com/example/fallbak/fallbak/xslt/VisibilityMayBeExposedOnPinLaw" = some m.cls := findClass_of_methodNamed Bd.named
  have hnm := (name_of_methodNamed Bd.named Bd.method).1
  have X0 : Stand p l e ({ frames := 0, cells := 0, slots := 0, locals := 0 } : Room) s m #[(.int p1)] below meth c s₁ [] 0 0 := Stand.of_body Bd
  have e0 : s₁.heap = h0 := by rw [← hh, Bd.state]; rfl
  have N0 := Fr.nil n0
  have pre0 : ∀ t, Steps p.tables e below (s₁.setTop (mkF m 0 #[.val (.int p1)] [])) t → Steps p.tables e below (s₁.setTop (entryFrame m #[(.int p1)] 1)) t := fun t k => castTop (ef_1 m p1) k
  obtain ⟨T3, X3, e3, st3⟩ := getS2 X0 hx hZ hown (host := "") (Or.inl (hw _ (List.mem_of_getElem? (i := 22) rfl))) Via.refl e0 S_PRIVATE (g := (mkF m 13 #[.val (.int p1)] [])) rfl (hb hby d1_13)
  obtain ⟨fs, hr, hrun, hended, hW, hsame⟩ := X3.leave (v := some (.ref wPRIVATE)) (fun h => by rw [Bd.returns] at h; cases h)
  refine ⟨_, _, pre0 _ ?_, hrun, hended, _, _, rfl, ?_, ⟨_, rfl⟩, hW, hsame.mono (by decide) (by decide)⟩
  · show Steps p.tables e below (s₁.setTop (mkF m 0 #[.val (.int p1)] [])) _
    refine XS.iloadN X0.here hx rfl (hb hby d1_0) rfl ?_
    show Steps p.tables e below (s₁.setTop (mkF m 1 #[.val (.int p1)] [(.int p1)])) _
    refine XS.ifYes X0.here hx rfl (pc0 := 1) (pc' := 8) rfl (hb hby d1_1) rfl ((if0 _ _).trans (feq hc1).2) (by decide) (by decide) ?_
    show Steps p.tables e below (s₁.setTop (mkF m 8 #[.val (.int p1)] [])) _
    refine XS.iloadN X0.here hx rfl (hb hby d1_8) rfl ?_
    show Steps p.tables e below (s₁.setTop (mkF m 9 #[.val (.int p1)] [(.int p1)])) _
    refine XS.iconst X0.here hx rfl (hb hby d1_9) ?_
    show Steps p.tables e below (s₁.setTop (mkF m 10 #[.val (.int p1)] [(.int (1 : Int32)), (.int p1)])) _
    refine XS.icmpNo X0.here hx rfl (hb hby d1_10) rfl (teq hc10).2 ?_
    show Steps p.tables e below (s₁.setTop (mkF m 13 #[.val (.int p1)] [])) _
    refine st3 _ ?_
    show Steps p.tables e below (T3.setTop (mkF m 16 #[.val (.int p1)] [(.ref wPRIVATE)])) _
    jvm_step X3.here [X3.here.top, hx, (hb hby d1_16), X3.method', Bd.returns, Value.isRef, FieldType.isReference]
    first | (intro acts; rw [hr _ acts rfl rfl rfl]) | rw [hr _ _ rfl rfl rfl]
    exact Steps.refl _
  · show Q1 Z p1 wPUBLIC wPRIVATE wFINAL wABSTRACT h0 n0 _ T3.heap _
    rw [e3]
    exact ⟨by rw [own_c, if_neg hc1, if_pos hc10], N0, rfl⟩
set_option maxRecDepth 65536 in
set_option maxHeartbeats 40000000 in
theorem rm1_ttf (l : Launch) (Z : State) (a0 : Array Value) (hw : ∀ d ∈ tables_1, d.before a0 Z = true) (ws : List Jvm.Cond) (p1 : Int32) (wPUBLIC wPRIVATE wFINAL wABSTRACT : Addr) (h0 : Heap) (n0 : Nat) (Z0 : n0 ≤ h0.size) (S_PUBLIC : Sta Z h0 "com/example/fallbak/fallbak/xslt/Visibility" "PUBLIC" "Lcom/example/fallbak/fallbak/xslt/Visibility;" (.ref wPUBLIC)) (S_PRIVATE : Sta Z h0 "com/example/fallbak/fallbak/xslt/Visibility" "PRIVATE" "Lcom/example/fallbak/fallbak/xslt/Visibility;" (.ref wPRIVATE)) (S_FINAL : Sta Z h0 "com/example/fallbak/fallbak/xslt/Visibility" "FINAL" "Lcom/example/fallbak/fallbak/xslt/Visibility;" (.ref wFINAL)) (S_ABSTRACT : Sta Z h0 "com/example/fallbak/fallbak/xslt/Visibility" "ABSTRACT" "Lcom/example/fallbak/fallbak/xslt/Visibility;" (.ref wABSTRACT)) (hc1 : ¬ (p1 = (0 : Int32))) (hc10 : ¬ (p1 = (1 : Int32))) (hc19 : p1 = (2 : Int32)) :
    MetFree l (⟨"com/example/fallbak/fallbak/xslt/VisibilityMayBeExposedOnPinLaw", "constant", "(I)Lcom/example/fallbak/fallbak/xslt/Visibility;"⟩ : MethodName) (head1 (Jvm.Cond.code (⟨"com/example/fallbak/fallbak/xslt/VisibilityMayBeExposedOnPinLaw", "constant", "(I)Lcom/example/fallbak/fallbak/xslt/Visibility;"⟩ : MethodName) method_3_code 1 (some (.object "com/example/fallbak/fallbak/xslt/Visibility")) :: ws) ({ frames := 0, cells := 0, slots := 0, locals := 0 } : Room)) (fun a U => a = #[(.int p1)] ∧ Z.Warmed39 U.vm ∧ U.heap = h0) (fun _ _ _ _ _ => True) (fun _ U o U' => ∃ v L, o = .returned v ∧ Q1 Z p1 wPUBLIC wPRIVATE wFINAL wABSTRACT h0 n0 v U'.heap L ∧ FrameEnd U o U' L ({ frames := 0, cells := 0, slots := 0, locals := 0 } : Room).cells ({ frames := 0, cells := 0, slots := 0, locals := 0 } : Room).slots) := by
  refine MetFree.of_bodySF (plainFor_of_name pn_1) hisR ?_
  intro p e s m args below meth c s₁ Bd hml0 hP hK
  obtain ⟨rfl, hZ, hh⟩ := hP
  have hx := Bd.exec
  have hby := Bd.bytes
  have hml : c.maxLocals = 1 := hml0
  have hown : s.vm.findClass "com/example/fallbak/fallbak/xslt/VisibilityMayBeExposedOnPinLaw" = some m.cls := findClass_of_methodNamed Bd.named
  have hnm := (name_of_methodNamed Bd.named Bd.method).1
  have X0 : Stand p l e ({ frames := 0, cells := 0, slots := 0, locals := 0 } : Room) s m #[(.int p1)] below meth c s₁ [] 0 0 := Stand.of_body Bd
  have e0 : s₁.heap = h0 := by rw [← hh, Bd.state]; rfl
  have N0 := Fr.nil n0
  have pre0 : ∀ t, Steps p.tables e below (s₁.setTop (mkF m 0 #[.val (.int p1)] [])) t → Steps p.tables e below (s₁.setTop (entryFrame m #[(.int p1)] 1)) t := fun t k => castTop (ef_1 m p1) k
  obtain ⟨T3, X3, e3, st3⟩ := getS2 X0 hx hZ hown (host := "") (Or.inl (hw _ (List.mem_of_getElem? (i := 8) rfl))) Via.refl e0 S_FINAL (g := (mkF m 22 #[.val (.int p1)] [])) rfl (hb hby d1_22)
  obtain ⟨fs, hr, hrun, hended, hW, hsame⟩ := X3.leave (v := some (.ref wFINAL)) (fun h => by rw [Bd.returns] at h; cases h)
  refine ⟨_, _, pre0 _ ?_, hrun, hended, _, _, rfl, ?_, ⟨_, rfl⟩, hW, hsame.mono (by decide) (by decide)⟩
  · show Steps p.tables e below (s₁.setTop (mkF m 0 #[.val (.int p1)] [])) _
    refine XS.iloadN X0.here hx rfl (hb hby d1_0) rfl ?_
    show Steps p.tables e below (s₁.setTop (mkF m 1 #[.val (.int p1)] [(.int p1)])) _
    refine XS.ifYes X0.here hx rfl (pc0 := 1) (pc' := 8) rfl (hb hby d1_1) rfl ((if0 _ _).trans (feq hc1).2) (by decide) (by decide) ?_
    show Steps p.tables e below (s₁.setTop (mkF m 8 #[.val (.int p1)] [])) _
    refine XS.iloadN X0.here hx rfl (hb hby d1_8) rfl ?_
    show Steps p.tables e below (s₁.setTop (mkF m 9 #[.val (.int p1)] [(.int p1)])) _
    refine XS.iconst X0.here hx rfl (hb hby d1_9) ?_
    show Steps p.tables e below (s₁.setTop (mkF m 10 #[.val (.int p1)] [(.int (1 : Int32)), (.int p1)])) _
    refine XS.icmpYes X0.here hx rfl (pc0 := 10) (pc' := 17) rfl (hb hby d1_10) rfl (feq hc10).2 (by decide) (by decide) ?_
    show Steps p.tables e below (s₁.setTop (mkF m 17 #[.val (.int p1)] [])) _
    refine XS.iloadN X0.here hx rfl (hb hby d1_17) rfl ?_
    show Steps p.tables e below (s₁.setTop (mkF m 18 #[.val (.int p1)] [(.int p1)])) _
    refine XS.iconst X0.here hx rfl (hb hby d1_18) ?_
    show Steps p.tables e below (s₁.setTop (mkF m 19 #[.val (.int p1)] [(.int (2 : Int32)), (.int p1)])) _
    refine XS.icmpNo X0.here hx rfl (hb hby d1_19) rfl (teq hc19).2 ?_
    show Steps p.tables e below (s₁.setTop (mkF m 22 #[.val (.int p1)] [])) _
    refine st3 _ ?_
    show Steps p.tables e below (T3.setTop (mkF m 25 #[.val (.int p1)] [(.ref wFINAL)])) _
    jvm_step X3.here [X3.here.top, hx, (hb hby d1_25), X3.method', Bd.returns, Value.isRef, FieldType.isReference]
    first | (intro acts; rw [hr _ acts rfl rfl rfl]) | rw [hr _ _ rfl rfl rfl]
    exact Steps.refl _
  · show Q1 Z p1 wPUBLIC wPRIVATE wFINAL wABSTRACT h0 n0 _ T3.heap _
    rw [e3]
    exact ⟨by rw [own_c, if_neg hc1, if_neg hc10, if_pos hc19], N0, rfl⟩
set_option maxRecDepth 65536 in
set_option maxHeartbeats 40000000 in
theorem rm1_ttt (l : Launch) (Z : State) (a0 : Array Value) (hw : ∀ d ∈ tables_1, d.before a0 Z = true) (ws : List Jvm.Cond) (p1 : Int32) (wPUBLIC wPRIVATE wFINAL wABSTRACT : Addr) (h0 : Heap) (n0 : Nat) (Z0 : n0 ≤ h0.size) (S_PUBLIC : Sta Z h0 "com/example/fallbak/fallbak/xslt/Visibility" "PUBLIC" "Lcom/example/fallbak/fallbak/xslt/Visibility;" (.ref wPUBLIC)) (S_PRIVATE : Sta Z h0 "com/example/fallbak/fallbak/xslt/Visibility" "PRIVATE" "Lcom/example/fallbak/fallbak/xslt/Visibility;" (.ref wPRIVATE)) (S_FINAL : Sta Z h0 "com/example/fallbak/fallbak/xslt/Visibility" "FINAL" "Lcom/example/fallbak/fallbak/xslt/Visibility;" (.ref wFINAL)) (S_ABSTRACT : Sta Z h0 "com/example/fallbak/fallbak/xslt/Visibility" "ABSTRACT" "Lcom/example/fallbak/fallbak/xslt/Visibility;" (.ref wABSTRACT)) (hc1 : ¬ (p1 = (0 : Int32))) (hc10 : ¬ (p1 = (1 : Int32))) (hc19 : ¬ (p1 = (2 : Int32))) :
    MetFree l (⟨"com/example/fallbak/fallbak/xslt/VisibilityMayBeExposedOnPinLaw", "constant", "(I)Lcom/example/fallbak/fallbak/xslt/Visibility;"⟩ : MethodName) (head1 (Jvm.Cond.code (⟨"com/example/fallbak/fallbak/xslt/VisibilityMayBeExposedOnPinLaw", "constant", "(I)Lcom/example/fallbak/fallbak/xslt/Visibility;"⟩ : MethodName) method_3_code 1 (some (.object "com/example/fallbak/fallbak/xslt/Visibility")) :: ws) ({ frames := 0, cells := 0, slots := 0, locals := 0 } : Room)) (fun a U => a = #[(.int p1)] ∧ Z.Warmed39 U.vm ∧ U.heap = h0) (fun _ _ _ _ _ => True) (fun _ U o U' => ∃ v L, o = .returned v ∧ Q1 Z p1 wPUBLIC wPRIVATE wFINAL wABSTRACT h0 n0 v U'.heap L ∧ FrameEnd U o U' L ({ frames := 0, cells := 0, slots := 0, locals := 0 } : Room).cells ({ frames := 0, cells := 0, slots := 0, locals := 0 } : Room).slots) := by
  refine MetFree.of_bodySF (plainFor_of_name pn_1) hisR ?_
  intro p e s m args below meth c s₁ Bd hml0 hP hK
  obtain ⟨rfl, hZ, hh⟩ := hP
  have hx := Bd.exec
  have hby := Bd.bytes
  have hml : c.maxLocals = 1 := hml0
  have hown : s.vm.findClass "com/example/fallbak/fallbak/xslt/VisibilityMayBeExposedOnPinLaw" = some m.cls := findClass_of_methodNamed Bd.named
  have hnm := (name_of_methodNamed Bd.named Bd.method).1
  have X0 : Stand p l e ({ frames := 0, cells := 0, slots := 0, locals := 0 } : Room) s m #[(.int p1)] below meth c s₁ [] 0 0 := Stand.of_body Bd
  have e0 : s₁.heap = h0 := by rw [← hh, Bd.state]; rfl
  have N0 := Fr.nil n0
  have pre0 : ∀ t, Steps p.tables e below (s₁.setTop (mkF m 0 #[.val (.int p1)] [])) t → Steps p.tables e below (s₁.setTop (entryFrame m #[(.int p1)] 1)) t := fun t k => castTop (ef_1 m p1) k
  obtain ⟨T3, X3, e3, st3⟩ := getS2 X0 hx hZ hown (host := "") (Or.inl (hw _ (List.mem_of_getElem? (i := 23) rfl))) Via.refl e0 S_ABSTRACT (g := (mkF m 26 #[.val (.int p1)] [])) rfl (hb hby d1_26)
  obtain ⟨fs, hr, hrun, hended, hW, hsame⟩ := X3.leave (v := some (.ref wABSTRACT)) (fun h => by rw [Bd.returns] at h; cases h)
  refine ⟨_, _, pre0 _ ?_, hrun, hended, _, _, rfl, ?_, ⟨_, rfl⟩, hW, hsame.mono (by decide) (by decide)⟩
  · show Steps p.tables e below (s₁.setTop (mkF m 0 #[.val (.int p1)] [])) _
    refine XS.iloadN X0.here hx rfl (hb hby d1_0) rfl ?_
    show Steps p.tables e below (s₁.setTop (mkF m 1 #[.val (.int p1)] [(.int p1)])) _
    refine XS.ifYes X0.here hx rfl (pc0 := 1) (pc' := 8) rfl (hb hby d1_1) rfl ((if0 _ _).trans (feq hc1).2) (by decide) (by decide) ?_
    show Steps p.tables e below (s₁.setTop (mkF m 8 #[.val (.int p1)] [])) _
    refine XS.iloadN X0.here hx rfl (hb hby d1_8) rfl ?_
    show Steps p.tables e below (s₁.setTop (mkF m 9 #[.val (.int p1)] [(.int p1)])) _
    refine XS.iconst X0.here hx rfl (hb hby d1_9) ?_
    show Steps p.tables e below (s₁.setTop (mkF m 10 #[.val (.int p1)] [(.int (1 : Int32)), (.int p1)])) _
    refine XS.icmpYes X0.here hx rfl (pc0 := 10) (pc' := 17) rfl (hb hby d1_10) rfl (feq hc10).2 (by decide) (by decide) ?_
    show Steps p.tables e below (s₁.setTop (mkF m 17 #[.val (.int p1)] [])) _
    refine XS.iloadN X0.here hx rfl (hb hby d1_17) rfl ?_
    show Steps p.tables e below (s₁.setTop (mkF m 18 #[.val (.int p1)] [(.int p1)])) _
    refine XS.iconst X0.here hx rfl (hb hby d1_18) ?_
    show Steps p.tables e below (s₁.setTop (mkF m 19 #[.val (.int p1)] [(.int (2 : Int32)), (.int p1)])) _
    refine XS.icmpYes X0.here hx rfl (pc0 := 19) (pc' := 26) rfl (hb hby d1_19) rfl (feq hc19).2 (by decide) (by decide) ?_
    show Steps p.tables e below (s₁.setTop (mkF m 26 #[.val (.int p1)] [])) _
    refine st3 _ ?_
    show Steps p.tables e below (T3.setTop (mkF m 29 #[.val (.int p1)] [(.ref wABSTRACT)])) _
    jvm_step X3.here [X3.here.top, hx, (hb hby d1_29), X3.method', Bd.returns, Value.isRef, FieldType.isReference]
    first | (intro acts; rw [hr _ acts rfl rfl rfl]) | rw [hr _ _ rfl rfl rfl]
    exact Steps.refl _
  · show Q1 Z p1 wPUBLIC wPRIVATE wFINAL wABSTRACT h0 n0 _ T3.heap _
    rw [e3]
    exact ⟨by rw [own_c, if_neg hc1, if_neg hc10, if_neg hc19], N0, rfl⟩
set_option maxRecDepth 65536 in
set_option maxHeartbeats 40000000 in
theorem rm2n_tt (l : Launch) (Z : State) (a0 : Array Value) (hw : ∀ d ∈ tables_1, d.before a0 Z = true) (ws : List Jvm.Cond) (a1 : Addr) (wPUBLIC wPRIVATE wFINAL wABSTRACT : Addr) (h0 : Heap) (n0 : Nat) (Z0 : n0 ≤ h0.size) (S_PUBLIC : Sta Z h0 "com/example/fallbak/fallbak/xslt/Visibility" "PUBLIC" "Lcom/example/fallbak/fallbak/xslt/Visibility;" (.ref wPUBLIC)) (S_PRIVATE : Sta Z h0 "com/example/fallbak/fallbak/xslt/Visibility" "PRIVATE" "Lcom/example/fallbak/fallbak/xslt/Visibility;" (.ref wPRIVATE)) (S_FINAL : Sta Z h0 "com/example/fallbak/fallbak/xslt/Visibility" "FINAL" "Lcom/example/fallbak/fallbak/xslt/Visibility;" (.ref wFINAL)) (S_ABSTRACT : Sta Z h0 "com/example/fallbak/fallbak/xslt/Visibility" "ABSTRACT" "Lcom/example/fallbak/fallbak/xslt/Visibility;" (.ref wABSTRACT)) (ha15 : a1 = wABSTRACT) :
    MetFree l (⟨"com/example/fallbak/fallbak/xslt/Visibility", "mayBeExposedOn", "(Lcom/example/fallbak/fallbak/xslt/Visibility;)Z"⟩ : MethodName) (head1 (Jvm.Cond.code (⟨"com/example/fallbak/fallbak/xslt/Visibility", "mayBeExposedOn", "(Lcom/example/fallbak/fallbak/xslt/Visibility;)Z"⟩ : MethodName) prog_258_method_7_code 2 (some .boolean) :: ws) ({ frames := 0, cells := 0, slots := 0, locals := 0 } : Room)) (fun a U => a = #[(.ref a1), .null] ∧ Z.Warmed39 U.vm ∧ U.heap = h0) (fun _ _ _ _ _ => True) (fun _ U o U' => ∃ v L, o = .returned v ∧ Q2n Z a1 wPUBLIC wPRIVATE wFINAL wABSTRACT h0 n0 v U'.heap L ∧ FrameEnd U o U' L ({ frames := 0, cells := 0, slots := 0, locals := 0 } : Room).cells ({ frames := 0, cells := 0, slots := 0, locals := 0 } : Room).slots) := by
  refine MetFree.of_bodySF (plainFor_of_name pn_2) hisR ?_
  intro p e s m args below meth c s₁ Bd hml0 hP hK
  obtain ⟨rfl, hZ, hh⟩ := hP
  have hx := Bd.exec
  have hby := Bd.bytes
  have hml : c.maxLocals = 2 := hml0
  have hown : s.vm.findClass "com/example/fallbak/fallbak/xslt/Visibility" = some m.cls := findClass_of_methodNamed Bd.named
  have hnm := (name_of_methodNamed Bd.named Bd.method).1
  have X0 : Stand p l e ({ frames := 0, cells := 0, slots := 0, locals := 0 } : Room) s m #[(.ref a1), .null] below meth c s₁ [] 0 0 := Stand.of_body Bd
  have e0 : s₁.heap = h0 := by rw [← hh, Bd.state]; rfl
  have N0 := Fr.nil n0
  have pre0 : ∀ t, Steps p.tables e below (s₁.setTop (mkF m 0 #[.val (.ref a1), .val .null] [])) t → Steps p.tables e below (s₁.setTop (entryFrame m #[(.ref a1), .null] 2)) t := fun t k => castTop (ef_2n m a1) k
  obtain ⟨T3, X3, e3, st3⟩ := getS2 X0 hx hZ hown (host := "") (Or.inl (hw _ (List.mem_of_getElem? (i := 20) rfl))) Via.refl e0 S_ABSTRACT (g := (mkF m 12 #[.val (.ref a1), .val .null] [(.ref a1)])) rfl (hb hby d2_12)
  obtain ⟨fs, hr, hrun, hended, hW, hsame⟩ := X3.leave (v := some (.int (0 : Int32))) (fun h => by rw [Bd.returns] at h; cases h)
  refine ⟨_, _, pre0 _ ?_, hrun, hended, _, _, rfl, ?_, ⟨_, rfl⟩, hW, hsame.mono (by decide) (by decide)⟩
  · show Steps p.tables e below (s₁.setTop (mkF m 0 #[.val (.ref a1), .val .null] [])) _
    refine XS.aloadN X0.here hx rfl (hb hby d2_0) rfl rfl ?_
    show Steps p.tables e below (s₁.setTop (mkF m 1 #[.val (.ref a1), .val .null] [.null])) _
    refine XS.ifnullYes X0.here hx rfl (pc0 := 1) (pc' := 11) rfl (hb hby d2_1) rfl (by decide) (by decide) ?_
    show Steps p.tables e below (s₁.setTop (mkF m 11 #[.val (.ref a1), .val .null] [])) _
    refine XS.aloadN X0.here hx rfl (hb hby d2_11) rfl rfl ?_
    show Steps p.tables e below (s₁.setTop (mkF m 12 #[.val (.ref a1), .val .null] [(.ref a1)])) _
    refine st3 _ ?_
    show Steps p.tables e below (T3.setTop (mkF m 15 #[.val (.ref a1), .val .null] [(.ref wABSTRACT), (.ref a1)])) _
    refine Jvm.RoadKit.acmp (g := (mkF m 15 #[.val (.ref a1), .val .null] [(.ref wABSTRACT), (.ref a1)])) X3 hx rfl rfl rfl (pc0 := 15) (pc' := 22) (same := true) rfl (hb hby d2_15) rfl (decide_eq_true (congrArg Value.ref ha15)) (by decide) (by decide) ?_
    show Steps p.tables e below (T3.setTop (mkF m 22 #[.val (.ref a1), .val .null] [])) _
    refine XS.iconst X3.here hx rfl (hb hby d2_22) ?_
    show Steps p.tables e below (T3.setTop (mkF m 23 #[.val (.ref a1), .val .null] [(.int (0 : Int32))])) _
    exact retN X3 hx (t := .boolean) Bd.returns (by simp) (hb hby d2_23) hr
  · show Q2n Z a1 wPUBLIC wPRIVATE wFINAL wABSTRACT h0 n0 _ T3.heap _
    rw [e3]
    exact ⟨by rw [own_n, if_pos ha15], N0, rfl⟩
set_option maxRecDepth 65536 in
set_option maxHeartbeats 40000000 in
theorem rm2n_tf (l : Launch) (Z : State) (a0 : Array Value) (hw : ∀ d ∈ tables_1, d.before a0 Z = true) (ws : List Jvm.Cond) (a1 : Addr) (wPUBLIC wPRIVATE wFINAL wABSTRACT : Addr) (h0 : Heap) (n0 : Nat) (Z0 : n0 ≤ h0.size) (S_PUBLIC : Sta Z h0 "com/example/fallbak/fallbak/xslt/Visibility" "PUBLIC" "Lcom/example/fallbak/fallbak/xslt/Visibility;" (.ref wPUBLIC)) (S_PRIVATE : Sta Z h0 "com/example/fallbak/fallbak/xslt/Visibility" "PRIVATE" "Lcom/example/fallbak/fallbak/xslt/Visibility;" (.ref wPRIVATE)) (S_FINAL : Sta Z h0 "com/example/fallbak/fallbak/xslt/Visibility" "FINAL" "Lcom/example/fallbak/fallbak/xslt/Visibility;" (.ref wFINAL)) (S_ABSTRACT : Sta Z h0 "com/example/fallbak/fallbak/xslt/Visibility" "ABSTRACT" "Lcom/example/fallbak/fallbak/xslt/Visibility;" (.ref wABSTRACT)) (ha15 : ¬ (a1 = wABSTRACT)) :
    MetFree l (⟨"com/example/fallbak/fallbak/xslt/Visibility", "mayBeExposedOn", "(Lcom/example/fallbak/fallbak/xslt/Visibility;)Z"⟩ : MethodName) (head1 (Jvm.Cond.code (⟨"com/example/fallbak/fallbak/xslt/Visibility", "mayBeExposedOn", "(Lcom/example/fallbak/fallbak/xslt/Visibility;)Z"⟩ : MethodName) prog_258_method_7_code 2 (some .boolean) :: ws) ({ frames := 0, cells := 0, slots := 0, locals := 0 } : Room)) (fun a U => a = #[(.ref a1), .null] ∧ Z.Warmed39 U.vm ∧ U.heap = h0) (fun _ _ _ _ _ => True) (fun _ U o U' => ∃ v L, o = .returned v ∧ Q2n Z a1 wPUBLIC wPRIVATE wFINAL wABSTRACT h0 n0 v U'.heap L ∧ FrameEnd U o U' L ({ frames := 0, cells := 0, slots := 0, locals := 0 } : Room).cells ({ frames := 0, cells := 0, slots := 0, locals := 0 } : Room).slots) := by
  refine MetFree.of_bodySF (plainFor_of_name pn_2) hisR ?_
  intro p e s m args below meth c s₁ Bd hml0 hP hK
  obtain ⟨rfl, hZ, hh⟩ := hP
  have hx := Bd.exec
  have hby := Bd.bytes
  have hml : c.maxLocals = 2 := hml0
  have hown : s.vm.findClass "com/example/fallbak/fallbak/xslt/Visibility" = some m.cls := findClass_of_methodNamed Bd.named
  have hnm := (name_of_methodNamed Bd.named Bd.method).1
  have X0 : Stand p l e ({ frames := 0, cells := 0, slots := 0, locals := 0 } : Room) s m #[(.ref a1), .null] below meth c s₁ [] 0 0 := Stand.of_body Bd
  have e0 : s₁.heap = h0 := by rw [← hh, Bd.state]; rfl
  have N0 := Fr.nil n0
  have pre0 : ∀ t, Steps p.tables e below (s₁.setTop (mkF m 0 #[.val (.ref a1), .val .null] [])) t → Steps p.tables e below (s₁.setTop (entryFrame m #[(.ref a1), .null] 2)) t := fun t k => castTop (ef_2n m a1) k
  obtain ⟨T3, X3, e3, st3⟩ := getS2 X0 hx hZ hown (host := "") (Or.inl (hw _ (List.mem_of_getElem? (i := 20) rfl))) Via.refl e0 S_ABSTRACT (g := (mkF m 12 #[.val (.ref a1), .val .null] [(.ref a1)])) rfl (hb hby d2_12)
  obtain ⟨fs, hr, hrun, hended, hW, hsame⟩ := X3.leave (v := some (.int (1 : Int32))) (fun h => by rw [Bd.returns] at h; cases h)
  refine ⟨_, _, pre0 _ ?_, hrun, hended, _, _, rfl, ?_, ⟨_, rfl⟩, hW, hsame.mono (by decide) (by decide)⟩
  · show Steps p.tables e below (s₁.setTop (mkF m 0 #[.val (.ref a1), .val .null] [])) _
    refine XS.aloadN X0.here hx rfl (hb hby d2_0) rfl rfl ?_
    show Steps p.tables e below (s₁.setTop (mkF m 1 #[.val (.ref a1), .val .null] [.null])) _
    refine XS.ifnullYes X0.here hx rfl (pc0 := 1) (pc' := 11) rfl (hb hby d2_1) rfl (by decide) (by decide) ?_
    show Steps p.tables e below (s₁.setTop (mkF m 11 #[.val (.ref a1), .val .null] [])) _
    refine XS.aloadN X0.here hx rfl (hb hby d2_11) rfl rfl ?_
    show Steps p.tables e below (s₁.setTop (mkF m 12 #[.val (.ref a1), .val .null] [(.ref a1)])) _
    refine st3 _ ?_
    show Steps p.tables e below (T3.setTop (mkF m 15 #[.val (.ref a1), .val .null] [(.ref wABSTRACT), (.ref a1)])) _
    refine Jvm.RoadKit.acmp (g := (mkF m 15 #[.val (.ref a1), .val .null] [(.ref wABSTRACT), (.ref a1)])) X3 hx rfl rfl rfl (pc0 := 15) (pc' := 18) (same := false) rfl (hb hby d2_15) rfl (decide_eq_false fun q => ha15 (Value.ref.inj q)) (by decide) (by decide) ?_
    show Steps p.tables e below (T3.setTop (mkF m 18 #[.val (.ref a1), .val .null] [])) _
    refine XS.iconst X3.here hx rfl (hb hby d2_18) ?_
    show Steps p.tables e below (T3.setTop (mkF m 19 #[.val (.ref a1), .val .null] [(.int (1 : Int32))])) _
    refine XS.goto X3.here hx rfl (pc0 := 19) (pc' := 23) rfl (hb hby d2_19) (by decide) (by decide) ?_
    show Steps p.tables e below (T3.setTop (mkF m 23 #[.val (.ref a1), .val .null] [(.int (1 : Int32))])) _
    exact retN X3 hx (t := .boolean) Bd.returns (by simp) (hb hby d2_23) hr
  · show Q2n Z a1 wPUBLIC wPRIVATE wFINAL wABSTRACT h0 n0 _ T3.heap _
    rw [e3]
    exact ⟨by rw [own_n, if_neg ha15], N0, rfl⟩
set_option maxRecDepth 65536 in
set_option maxHeartbeats 40000000 in
theorem rm2_fft (l : Launch) (Z : State) (a0 : Array Value) (hw : ∀ d ∈ tables_1, d.before a0 Z = true) (ws : List Jvm.Cond) (a1 : Addr) (a2 : Addr) (wPUBLIC wPRIVATE wFINAL wABSTRACT : Addr) (h0 : Heap) (n0 : Nat) (Z0 : n0 ≤ h0.size) (S_PUBLIC : Sta Z h0 "com/example/fallbak/fallbak/xslt/Visibility" "PUBLIC" "Lcom/example/fallbak/fallbak/xslt/Visibility;" (.ref wPUBLIC)) (S_PRIVATE : Sta Z h0 "com/example/fallbak/fallbak/xslt/Visibility" "PRIVATE" "Lcom/example/fallbak/fallbak/xslt/Visibility;" (.ref wPRIVATE)) (S_FINAL : Sta Z h0 "com/example/fallbak/fallbak/xslt/Visibility" "FINAL" "Lcom/example/fallbak/fallbak/xslt/Visibility;" (.ref wFINAL)) (S_ABSTRACT : Sta Z h0 "com/example/fallbak/fallbak/xslt/Visibility" "ABSTRACT" "Lcom/example/fallbak/fallbak/xslt/Visibility;" (.ref wABSTRACT)) (ha8 : a2 = wPUBLIC) (ha15 : a1 = wABSTRACT) :
    MetFree l (⟨"com/example/fallbak/fallbak/xslt/Visibility", "mayBeExposedOn", "(Lcom/example/fallbak/fallbak/xslt/Visibility;)Z"⟩ : MethodName) (head1 (Jvm.Cond.code (⟨"com/example/fallbak/fallbak/xslt/Visibility", "mayBeExposedOn", "(Lcom/example/fallbak/fallbak/xslt/Visibility;)Z"⟩ : MethodName) prog_258_method_7_code 2 (some .boolean) :: ws) ({ frames := 0, cells := 0, slots := 0, locals := 0 } : Room)) (fun a U => a = #[(.ref a1), (.ref a2)] ∧ Z.Warmed39 U.vm ∧ U.heap = h0) (fun _ _ _ _ _ => True) (fun _ U o U' => ∃ v L, o = .returned v ∧ Q2 Z a1 a2 wPUBLIC wPRIVATE wFINAL wABSTRACT h0 n0 v U'.heap L ∧ FrameEnd U o U' L ({ frames := 0, cells := 0, slots := 0, locals := 0 } : Room).cells ({ frames := 0, cells := 0, slots := 0, locals := 0 } : Room).slots) := by
  refine MetFree.of_bodySF (plainFor_of_name pn_2) hisR ?_
  intro p e s m args below meth c s₁ Bd hml0 hP hK
  obtain ⟨rfl, hZ, hh⟩ := hP
  have hx := Bd.exec
  have hby := Bd.bytes
  have hml : c.maxLocals = 2 := hml0
  have hown : s.vm.findClass "com/example/fallbak/fallbak/xslt/Visibility" = some m.cls := findClass_of_methodNamed Bd.named
  have hnm := (name_of_methodNamed Bd.named Bd.method).1
  have X0 : Stand p l e ({ frames := 0, cells := 0, slots := 0, locals := 0 } : Room) s m #[(.ref a1), (.ref a2)] below meth c s₁ [] 0 0 := Stand.of_body Bd
  have e0 : s₁.heap = h0 := by rw [← hh, Bd.state]; rfl
  have N0 := Fr.nil n0
  have pre0 : ∀ t, Steps p.tables e below (s₁.setTop (mkF m 0 #[.val (.ref a1), .val (.ref a2)] [])) t → Steps p.tables e below (s₁.setTop (entryFrame m #[(.ref a1), (.ref a2)] 2)) t := fun t k => castTop (ef_2 m a1 a2) k
  obtain ⟨T4, X4, e4, st4⟩ := getS2 X0 hx hZ hown (host := "") (Or.inl (hw _ (List.mem_of_getElem? (i := 16) rfl))) Via.refl e0 S_PUBLIC (g := (mkF m 5 #[.val (.ref a1), .val (.ref a2)] [(.ref a2)])) rfl (hb hby d2_5)
  obtain ⟨T6, X6, e6, st6⟩ := getS2 X4 hx hZ hown (host := "") (Or.inl (hw _ (List.mem_of_getElem? (i := 20) rfl))) Via.refl e4 S_ABSTRACT (g := (mkF m 12 #[.val (.ref a1), .val (.ref a2)] [(.ref a1)])) rfl (hb hby d2_12)
  obtain ⟨fs, hr, hrun, hended, hW, hsame⟩ := X6.leave (v := some (.int (0 : Int32))) (fun h => by rw [Bd.returns] at h; cases h)
  refine ⟨_, _, pre0 _ ?_, hrun, hended, _, _, rfl, ?_, ⟨_, rfl⟩, hW, hsame.mono (by decide) (by decide)⟩
  · show Steps p.tables e below (s₁.setTop (mkF m 0 #[.val (.ref a1), .val (.ref a2)] [])) _
    refine XS.aloadN X0.here hx rfl (hb hby d2_0) rfl rfl ?_
    show Steps p.tables e below (s₁.setTop (mkF m 1 #[.val (.ref a1), .val (.ref a2)] [(.ref a2)])) _
    refine XS.ifnullNo X0.here hx rfl (hb hby d2_1) rfl ?_
    show Steps p.tables e below (s₁.setTop (mkF m 4 #[.val (.ref a1), .val (.ref a2)] [])) _
    refine XS.aloadN X0.here hx rfl (hb hby d2_4) rfl rfl ?_
    show Steps p.tables e below (s₁.setTop (mkF m 5 #[.val (.ref a1), .val (.ref a2)] [(.ref a2)])) _
    refine st4 _ ?_
    show Steps p.tables e below (T4.setTop (mkF m 8 #[.val (.ref a1), .val (.ref a2)] [(.ref wPUBLIC), (.ref a2)])) _
    refine Jvm.RoadKit.acmp (g := (mkF m 8 #[.val (.ref a1), .val (.ref a2)] [(.ref wPUBLIC), (.ref a2)])) X4 hx rfl rfl rfl (pc0 := 8) (pc' := 11) (same := true) rfl (hb hby d2_8) rfl (decide_eq_true (congrArg Value.ref ha8)) (by decide) (by decide) ?_
    show Steps p.tables e below (T4.setTop (mkF m 11 #[.val (.ref a1), .val (.ref a2)] [])) _
    refine XS.aloadN X4.here hx rfl (hb hby d2_11) rfl rfl ?_
    show Steps p.tables e below (T4.setTop (mkF m 12 #[.val (.ref a1), .val (.ref a2)] [(.ref a1)])) _
    refine st6 _ ?_
    show Steps p.tables e below (T6.setTop (mkF m 15 #[.val (.ref a1), .val (.ref a2)] [(.ref wABSTRACT), (.ref a1)])) _
    refine Jvm.RoadKit.acmp (g := (mkF m 15 #[.val (.ref a1), .val (.ref a2)] [(.ref wABSTRACT), (.ref a1)])) X6 hx rfl rfl rfl (pc0 := 15) (pc' := 22) (same := true) rfl (hb hby d2_15) rfl (decide_eq_true (congrArg Value.ref ha15)) (by decide) (by decide) ?_
    show Steps p.tables e below (T6.setTop (mkF m 22 #[.val (.ref a1), .val (.ref a2)] [])) _
    refine XS.iconst X6.here hx rfl (hb hby d2_22) ?_
    show Steps p.tables e below (T6.setTop (mkF m 23 #[.val (.ref a1), .val (.ref a2)] [(.int (0 : Int32))])) _
    exact retN X6 hx (t := .boolean) Bd.returns (by simp) (hb hby d2_23) hr
  · show Q2 Z a1 a2 wPUBLIC wPRIVATE wFINAL wABSTRACT h0 n0 _ T6.heap _
    rw [e6]
    exact ⟨by rw [own_m, if_pos ha8, if_pos ha15], N0, rfl⟩
set_option maxRecDepth 65536 in
set_option maxHeartbeats 40000000 in
theorem rm2_fff (l : Launch) (Z : State) (a0 : Array Value) (hw : ∀ d ∈ tables_1, d.before a0 Z = true) (ws : List Jvm.Cond) (a1 : Addr) (a2 : Addr) (wPUBLIC wPRIVATE wFINAL wABSTRACT : Addr) (h0 : Heap) (n0 : Nat) (Z0 : n0 ≤ h0.size) (S_PUBLIC : Sta Z h0 "com/example/fallbak/fallbak/xslt/Visibility" "PUBLIC" "Lcom/example/fallbak/fallbak/xslt/Visibility;" (.ref wPUBLIC)) (S_PRIVATE : Sta Z h0 "com/example/fallbak/fallbak/xslt/Visibility" "PRIVATE" "Lcom/example/fallbak/fallbak/xslt/Visibility;" (.ref wPRIVATE)) (S_FINAL : Sta Z h0 "com/example/fallbak/fallbak/xslt/Visibility" "FINAL" "Lcom/example/fallbak/fallbak/xslt/Visibility;" (.ref wFINAL)) (S_ABSTRACT : Sta Z h0 "com/example/fallbak/fallbak/xslt/Visibility" "ABSTRACT" "Lcom/example/fallbak/fallbak/xslt/Visibility;" (.ref wABSTRACT)) (ha8 : a2 = wPUBLIC) (ha15 : ¬ (a1 = wABSTRACT)) :
    MetFree l (⟨"com/example/fallbak/fallbak/xslt/Visibility", "mayBeExposedOn", "(Lcom/example/fallbak/fallbak/xslt/Visibility;)Z"⟩ : MethodName) (head1 (Jvm.Cond.code (⟨"com/example/fallbak/fallbak/xslt/Visibility", "mayBeExposedOn", "(Lcom/example/fallbak/fallbak/xslt/Visibility;)Z"⟩ : MethodName) prog_258_method_7_code 2 (some .boolean) :: ws) ({ frames := 0, cells := 0, slots := 0, locals := 0 } : Room)) (fun a U => a = #[(.ref a1), (.ref a2)] ∧ Z.Warmed39 U.vm ∧ U.heap = h0) (fun _ _ _ _ _ => True) (fun _ U o U' => ∃ v L, o = .returned v ∧ Q2 Z a1 a2 wPUBLIC wPRIVATE wFINAL wABSTRACT h0 n0 v U'.heap L ∧ FrameEnd U o U' L ({ frames := 0, cells := 0, slots := 0, locals := 0 } : Room).cells ({ frames := 0, cells := 0, slots := 0, locals := 0 } : Room).slots) := by
  refine MetFree.of_bodySF (plainFor_of_name pn_2) hisR ?_
  intro p e s m args below meth c s₁ Bd hml0 hP hK
  obtain ⟨rfl, hZ, hh⟩ := hP
  have hx := Bd.exec
  have hby := Bd.bytes
  have hml : c.maxLocals = 2 := hml0
  have hown : s.vm.findClass "com/example/fallbak/fallbak/xslt/Visibility" = some m.cls := findClass_of_methodNamed Bd.named
  have hnm := (name_of_methodNamed Bd.named Bd.method).1
  have X0 : Stand p l e ({ frames := 0, cells := 0, slots := 0, locals := 0 } : Room) s m #[(.ref a1), (.ref a2)] below meth c s₁ [] 0 0 := Stand.of_body Bd
  have e0 : s₁.heap = h0 := by rw [← hh, Bd.state]; rfl
  have N0 := Fr.nil n0
  have pre0 : ∀ t, Steps p.tables e below (s₁.setTop (mkF m 0 #[.val (.ref a1), .val (.ref a2)] [])) t → Steps p.tables e below (s₁.setTop (entryFrame m #[(.ref a1), (.ref a2)] 2)) t := fun t k => castTop (ef_2 m a1 a2) k
  obtain ⟨T4, X4, e4, st4⟩ := getS2 X0 hx hZ hown (host := "") (Or.inl (hw _ (List.mem_of_getElem? (i := 16) rfl))) Via.refl e0 S_PUBLIC (g := (mkF m 5 #[.val (.ref a1), .val (.ref a2)] [(.ref a2)])) rfl (hb hby d2_5)
  obtain ⟨T6, X6, e6, st6⟩ := getS2 X4 hx hZ hown (host := "") (Or.inl (hw _ (List.mem_of_getElem? (i := 20) rfl))) Via.refl e4 S_ABSTRACT (g := (mkF m 12 #[.val (.ref a1), .val (.ref a2)] [(.ref a1)])) rfl (hb hby d2_12)
  obtain ⟨fs, hr, hrun, hended, hW, hsame⟩ := X6.leave (v := some (.int (1 : Int32))) (fun h => by rw [Bd.returns] at h; cases h)
  refine ⟨_, _, pre0 _ ?_, hrun, hended, _, _, rfl, ?_, ⟨_, rfl⟩, hW, hsame.mono (by decide) (by decide)⟩
  · show Steps p.tables e below (s₁.setTop (mkF m 0 #[.val (.ref a1), .val (.ref a2)] [])) _
    refine XS.aloadN X0.here hx rfl (hb hby d2_0) rfl rfl ?_
    show Steps p.tables e below (s₁.setTop (mkF m 1 #[.val (.ref a1), .val (.ref a2)] [(.ref a2)])) _
    refine XS.ifnullNo X0.here hx rfl (hb hby d2_1) rfl ?_
    show Steps p.tables e below (s₁.setTop (mkF m 4 #[.val (.ref a1), .val (.ref a2)] [])) _
    refine XS.aloadN X0.here hx rfl (hb hby d2_4) rfl rfl ?_
    show Steps p.tables e below (s₁.setTop (mkF m 5 #[.val (.ref a1), .val (.ref a2)] [(.ref a2)])) _
    refine st4 _ ?_
    show Steps p.tables e below (T4.setTop (mkF m 8 #[.val (.ref a1), .val (.ref a2)] [(.ref wPUBLIC), (.ref a2)])) _
    refine Jvm.RoadKit.acmp (g := (mkF m 8 #[.val (.ref a1), .val (.ref a2)] [(.ref wPUBLIC), (.ref a2)])) X4 hx rfl rfl rfl (pc0 := 8) (pc' := 11) (same := true) rfl (hb hby d2_8) rfl (decide_eq_true (congrArg Value.ref ha8)) (by decide) (by decide) ?_
    show Steps p.tables e below (T4.setTop (mkF m 11 #[.val (.ref a1), .val (.ref a2)] [])) _
    refine XS.aloadN X4.here hx rfl (hb hby d2_11) rfl rfl ?_
    show Steps p.tables e below (T4.setTop (mkF m 12 #[.val (.ref a1), .val (.ref a2)] [(.ref a1)])) _
    refine st6 _ ?_
    show Steps p.tables e below (T6.setTop (mkF m 15 #[.val (.ref a1), .val (.ref a2)] [(.ref wABSTRACT), (.ref a1)])) _
    refine Jvm.RoadKit.acmp (g := (mkF m 15 #[.val (.ref a1), .val (.ref a2)] [(.ref wABSTRACT), (.ref a1)])) X6 hx rfl rfl rfl (pc0 := 15) (pc' := 18) (same := false) rfl (hb hby d2_15) rfl (decide_eq_false fun q => ha15 (Value.ref.inj q)) (by decide) (by decide) ?_
    show Steps p.tables e below (T6.setTop (mkF m 18 #[.val (.ref a1), .val (.ref a2)] [])) _
    refine XS.iconst X6.here hx rfl (hb hby d2_18) ?_
    show Steps p.tables e below (T6.setTop (mkF m 19 #[.val (.ref a1), .val (.ref a2)] [(.int (1 : Int32))])) _
    refine XS.goto X6.here hx rfl (pc0 := 19) (pc' := 23) rfl (hb hby d2_19) (by decide) (by decide) ?_
    show Steps p.tables e below (T6.setTop (mkF m 23 #[.val (.ref a1), .val (.ref a2)] [(.int (1 : Int32))])) _
    exact retN X6 hx (t := .boolean) Bd.returns (by simp) (hb hby d2_23) hr
  · show Q2 Z a1 a2 wPUBLIC wPRIVATE wFINAL wABSTRACT h0 n0 _ T6.heap _
    rw [e6]
    exact ⟨by rw [own_m, if_pos ha8, if_neg ha15], N0, rfl⟩
set_option maxRecDepth 65536 in
set_option maxHeartbeats 40000000 in
theorem rm2_ftft (l : Launch) (Z : State) (a0 : Array Value) (hw : ∀ d ∈ tables_1, d.before a0 Z = true) (ws : List Jvm.Cond) (a1 : Addr) (a2 : Addr) (wPUBLIC wPRIVATE wFINAL wABSTRACT : Addr) (h0 : Heap) (n0 : Nat) (Z0 : n0 ≤ h0.size) (S_PUBLIC : Sta Z h0 "com/example/fallbak/fallbak/xslt/Visibility" "PUBLIC" "Lcom/example/fallbak/fallbak/xslt/Visibility;" (.ref wPUBLIC)) (S_PRIVATE : Sta Z h0 "com/example/fallbak/fallbak/xslt/Visibility" "PRIVATE" "Lcom/example/fallbak/fallbak/xslt/Visibility;" (.ref wPRIVATE)) (S_FINAL : Sta Z h0 "com/example/fallbak/fallbak/xslt/Visibility" "FINAL" "Lcom/example/fallbak/fallbak/xslt/Visibility;" (.ref wFINAL)) (S_ABSTRACT : Sta Z h0 "com/example/fallbak/fallbak/xslt/Visibility" "ABSTRACT" "Lcom/example/fallbak/fallbak/xslt/Visibility;" (.ref wABSTRACT)) (ha8 : ¬ (a2 = wPUBLIC)) (ha28 : a2 = wFINAL) (ha35 : a1 = wFINAL) :
    MetFree l (⟨"com/example/fallbak/fallbak/xslt/Visibility", "mayBeExposedOn", "(Lcom/example/fallbak/fallbak/xslt/Visibility;)Z"⟩ : MethodName) (head1 (Jvm.Cond.code (⟨"com/example/fallbak/fallbak/xslt/Visibility", "mayBeExposedOn", "(Lcom/example/fallbak/fallbak/xslt/Visibility;)Z"⟩ : MethodName) prog_258_method_7_code 2 (some .boolean) :: ws) ({ frames := 0, cells := 0, slots := 0, locals := 0 } : Room)) (fun a U => a = #[(.ref a1), (.ref a2)] ∧ Z.Warmed39 U.vm ∧ U.heap = h0) (fun _ _ _ _ _ => True) (fun _ U o U' => ∃ v L, o = .returned v ∧ Q2 Z a1 a2 wPUBLIC wPRIVATE wFINAL wABSTRACT h0 n0 v U'.heap L ∧ FrameEnd U o U' L ({ frames := 0, cells := 0, slots := 0, locals := 0 } : Room).cells ({ frames := 0, cells := 0, slots := 0, locals := 0 } : Room).slots) := by
  refine MetFree.of_bodySF (plainFor_of_name pn_2) hisR ?_
  intro p e s m args below meth c s₁ Bd hml0 hP hK
  obtain ⟨rfl, hZ, hh⟩ := hP
  have hx := Bd.exec
  have hby := Bd.bytes
  have hml : c.maxLocals = 2 := hml0
  have hown : s.vm.findClass "com/example/fallbak/fallbak/xslt/Visibility" = some m.cls := findClass_of_methodNamed Bd.named
  have hnm := (name_of_methodNamed Bd.named Bd.method).1
  have X0 : Stand p l e ({ frames := 0, cells := 0, slots := 0, locals := 0 } : Room) s m #[(.ref a1), (.ref a2)] below meth c s₁ [] 0 0 := Stand.of_body Bd
  have e0 : s₁.heap = h0 := by rw [← hh, Bd.state]; rfl
  have N0 := Fr.nil n0
  have pre0 : ∀ t, Steps p.tables e below (s₁.setTop (mkF m 0 #[.val (.ref a1), .val (.ref a2)] [])) t → Steps p.tables e below (s₁.setTop (entryFrame m #[(.ref a1), (.ref a2)] 2)) t := fun t k => castTop (ef_2 m a1 a2) k
  obtain ⟨T4, X4, e4, st4⟩ := getS2 X0 hx hZ hown (host := "") (Or.inl (hw _ (List.mem_of_getElem? (i := 16) rfl))) Via.refl e0 S_PUBLIC (g := (mkF m 5 #[.val (.ref a1), .val (.ref a2)] [(.ref a2)])) rfl (hb hby d2_5)
  obtain ⟨T6, X6, e6, st6⟩ := getS2 X4 hx hZ hown (host := "") (Or.inl (hw _ (List.mem_of_getElem? (i := 17) rfl))) Via.refl e4 S_FINAL (g := (mkF m 25 #[.val (.ref a1), .val (.ref a2)] [(.ref a2)])) rfl (hb hby d2_25)
  obtain ⟨T7, X7, e7, st7⟩ := getS2 X6 hx hZ hown (host := "") (Or.inl (hw _ (List.mem_of_getElem? (i := 17) rfl))) Via.refl e6 S_FINAL (g := (mkF m 32 #[.val (.ref a1), .val (.ref a2)] [(.ref a1)])) rfl (hb hby d2_32)
  obtain ⟨fs, hr, hrun, hended, hW, hsame⟩ := X7.leave (v := some (.int (1 : Int32))) (fun h => by rw [Bd.returns] at h; cases h)
  refine ⟨_, _, pre0 _ ?_, hrun, hended, _, _, rfl, ?_, ⟨_, rfl⟩, hW, hsame.mono (by decide) (by decide)⟩
  · show Steps p.tables e below (s₁.setTop (mkF m 0 #[.val (.ref a1), .val (.ref a2)] [])) _
    refine XS.aloadN X0.here hx rfl (hb hby d2_0) rfl rfl ?_
    show Steps p.tables e below (s₁.setTop (mkF m 1 #[.val (.ref a1), .val (.ref a2)] [(.ref a2)])) _
    refine XS.ifnullNo X0.here hx rfl (hb hby d2_1) rfl ?_
    show Steps p.tables e below (s₁.setTop (mkF m 4 #[.val (.ref a1), .val (.ref a2)] [])) _
    refine XS.aloadN X0.here hx rfl (hb hby d2_4) rfl rfl ?_
    show Steps p.tables e below (s₁.setTop (mkF m 5 #[.val (.ref a1), .val (.ref a2)] [(.ref a2)])) _
    refine st4 _ ?_
    show Steps p.tables e below (T4.setTop (mkF m 8 #[.val (.ref a1), .val (.ref a2)] [(.ref wPUBLIC), (.ref a2)])) _
    refine Jvm.RoadKit.acmp (g := (mkF m 8 #[.val (.ref a1), .val (.ref a2)] [(.ref wPUBLIC), (.ref a2)])) X4 hx rfl rfl rfl (pc0 := 8) (pc' := 24) (same := false) rfl (hb hby d2_8) rfl (decide_eq_false fun q => ha8 (Value.ref.inj q)) (by decide) (by decide) ?_
    show Steps p.tables e below (T4.setTop (mkF m 24 #[.val (.ref a1), .val (.ref a2)] [])) _
    refine XS.aloadN X4.here hx rfl (hb hby d2_24) rfl rfl ?_
    show Steps p.tables e below (T4.setTop (mkF m 25 #[.val (.ref a1), .val (.ref a2)] [(.ref a2)])) _
    refine st6 _ ?_
    show Steps p.tables e below (T6.setTop (mkF m 28 #[.val (.ref a1), .val (.ref a2)] [(.ref wFINAL), (.ref a2)])) _
    refine Jvm.RoadKit.acmp (g := (mkF m 28 #[.val (.ref a1), .val (.ref a2)] [(.ref wFINAL), (.ref a2)])) X6 hx rfl rfl rfl (pc0 := 28) (pc' := 31) (same := true) rfl (hb hby d2_28) rfl (decide_eq_true (congrArg Value.ref ha28)) (by decide) (by decide) ?_
    show Steps p.tables e below (T6.setTop (mkF m 31 #[.val (.ref a1), .val (.ref a2)] [])) _
    refine XS.aloadN X6.here hx rfl (hb hby d2_31) rfl rfl ?_
    show Steps p.tables e below (T6.setTop (mkF m 32 #[.val (.ref a1), .val (.ref a2)] [(.ref a1)])) _
    refine st7 _ ?_
    show Steps p.tables e below (T7.setTop (mkF m 35 #[.val (.ref a1), .val (.ref a2)] [(.ref wFINAL), (.ref a1)])) _
    refine Jvm.RoadKit.acmp (g := (mkF m 35 #[.val (.ref a1), .val (.ref a2)] [(.ref wFINAL), (.ref a1)])) X7 hx rfl rfl rfl (pc0 := 35) (pc' := 45) (same := true) rfl (hb hby d2_35) rfl (decide_eq_true (congrArg Value.ref ha35)) (by decide) (by decide) ?_
    show Steps p.tables e below (T7.setTop (mkF m 45 #[.val (.ref a1), .val (.ref a2)] [])) _
    refine XS.iconst X7.here hx rfl (hb hby d2_45) ?_
    show Steps p.tables e below (T7.setTop (mkF m 46 #[.val (.ref a1), .val (.ref a2)] [(.int (1 : Int32))])) _
    refine XS.goto X7.here hx rfl (pc0 := 46) (pc' := 50) rfl (hb hby d2_46) (by decide) (by decide) ?_
    show Steps p.tables e below (T7.setTop (mkF m 50 #[.val (.ref a1), .val (.ref a2)] [(.int (1 : Int32))])) _
    exact retN X7 hx (t := .boolean) Bd.returns (by simp) (hb hby d2_50) hr
  · show Q2 Z a1 a2 wPUBLIC wPRIVATE wFINAL wABSTRACT h0 n0 _ T7.heap _
    rw [e7]
    exact ⟨by rw [own_m, if_neg ha8, if_pos ha28, if_pos ha35], N0, rfl⟩
set_option maxRecDepth 65536 in
set_option maxHeartbeats 40000000 in
theorem rm2_ftfff (l : Launch) (Z : State) (a0 : Array Value) (hw : ∀ d ∈ tables_1, d.before a0 Z = true) (ws : List Jvm.Cond) (a1 : Addr) (a2 : Addr) (wPUBLIC wPRIVATE wFINAL wABSTRACT : Addr) (h0 : Heap) (n0 : Nat) (Z0 : n0 ≤ h0.size) (S_PUBLIC : Sta Z h0 "com/example/fallbak/fallbak/xslt/Visibility" "PUBLIC" "Lcom/example/fallbak/fallbak/xslt/Visibility;" (.ref wPUBLIC)) (S_PRIVATE : Sta Z h0 "com/example/fallbak/fallbak/xslt/Visibility" "PRIVATE" "Lcom/example/fallbak/fallbak/xslt/Visibility;" (.ref wPRIVATE)) (S_FINAL : Sta Z h0 "com/example/fallbak/fallbak/xslt/Visibility" "FINAL" "Lcom/example/fallbak/fallbak/xslt/Visibility;" (.ref wFINAL)) (S_ABSTRACT : Sta Z h0 "com/example/fallbak/fallbak/xslt/Visibility" "ABSTRACT" "Lcom/example/fallbak/fallbak/xslt/Visibility;" (.ref wABSTRACT)) (ha8 : ¬ (a2 = wPUBLIC)) (ha28 : a2 = wFINAL) (ha35 : ¬ (a1 = wFINAL)) (ha42 : a1 = wPRIVATE) :
    MetFree l (⟨"com/example/fallbak/fallbak/xslt/Visibility", "mayBeExposedOn", "(Lcom/example/fallbak/fallbak/xslt/Visibility;)Z"⟩ : MethodName) (head1 (Jvm.Cond.code (⟨"com/example/fallbak/fallbak/xslt/Visibility", "mayBeExposedOn", "(Lcom/example/fallbak/fallbak/xslt/Visibility;)Z"⟩ : MethodName) prog_258_method_7_code 2 (some .boolean) :: ws) ({ frames := 0, cells := 0, slots := 0, locals := 0 } : Room)) (fun a U => a = #[(.ref a1), (.ref a2)] ∧ Z.Warmed39 U.vm ∧ U.heap = h0) (fun _ _ _ _ _ => True) (fun _ U o U' => ∃ v L, o = .returned v ∧ Q2 Z a1 a2 wPUBLIC wPRIVATE wFINAL wABSTRACT h0 n0 v U'.heap L ∧ FrameEnd U o U' L ({ frames := 0, cells := 0, slots := 0, locals := 0 } : Room).cells ({ frames := 0, cells := 0, slots := 0, locals := 0 } : Room).slots) := by
  refine MetFree.of_bodySF (plainFor_of_name pn_2) hisR ?_
  intro p e s m args below meth c s₁ Bd hml0 hP hK
  obtain ⟨rfl, hZ, hh⟩ := hP
  have hx := Bd.exec
  have hby := Bd.bytes
  have hml : c.maxLocals = 2 := hml0
  have hown : s.vm.findClass "com/example/fallbak/fallbak/xslt/Visibility" = some m.cls := findClass_of_methodNamed Bd.named
  have hnm := (name_of_methodNamed Bd.named Bd.method).1
  have X0 : Stand p l e ({ frames := 0, cells := 0, slots := 0, locals := 0 } : Room) s m #[(.ref a1), (.ref a2)] below meth c s₁ [] 0 0 := Stand.of_body Bd
  have e0 : s₁.heap = h0 := by rw [← hh, Bd.state]; rfl
  have N0 := Fr.nil n0
  have pre0 : ∀ t, Steps p.tables e below (s₁.setTop (mkF m 0 #[.val (.ref a1), .val (.ref a2)] [])) t → Steps p.tables e below (s₁.setTop (entryFrame m #[(.ref a1), (.ref a2)] 2)) t := fun t k => castTop (ef_2 m a1 a2) k
  obtain ⟨T4, X4, e4, st4⟩ := getS2 X0 hx hZ hown (host := "") (Or.inl (hw _ (List.mem_of_getElem? (i := 16) rfl))) Via.refl e0 S_PUBLIC (g := (mkF m 5 #[.val (.ref a1), .val (.ref a2)] [(.ref a2)])) rfl (hb hby d2_5)
  obtain ⟨T6, X6, e6, st6⟩ := getS2 X4 hx hZ hown (host := "") (Or.inl (hw _ (List.mem_of_getElem? (i := 17) rfl))) Via.refl e4 S_FINAL (g := (mkF m 25 #[.val (.ref a1), .val (.ref a2)] [(.ref a2)])) rfl (hb hby d2_25)
  obtain ⟨T7, X7, e7, st7⟩ := getS2 X6 hx hZ hown (host := "") (Or.inl (hw _ (List.mem_of_getElem? (i := 17) rfl))) Via.refl e6 S_FINAL (g := (mkF m 32 #[.val (.ref a1), .val (.ref a2)] [(.ref a1)])) rfl (hb hby d2_32)
  obtain ⟨T9, X9, e9, st9⟩ := getS2 X7 hx hZ hown (host := "") (Or.inl (hw _ (List.mem_of_getElem? (i := 18) rfl))) Via.refl e7 S_PRIVATE (g := (mkF m 39 #[.val (.ref a1), .val (.ref a2)] [(.ref a1)])) rfl (hb hby d2_39)
  obtain ⟨fs, hr, hrun, hended, hW, hsame⟩ := X9.leave (v := some (.int (1 : Int32))) (fun h => by rw [Bd.returns] at h; cases h)
  refine ⟨_, _, pre0 _ ?_, hrun, hended, _, _, rfl, ?_, ⟨_, rfl⟩, hW, hsame.mono (by decide) (by decide)⟩
  · show Steps p.tables e below (s₁.setTop (mkF m 0 #[.val (.ref a1), .val (.ref a2)] [])) _
    refine XS.aloadN X0.here hx rfl (hb hby d2_0) rfl rfl ?_
    show Steps p.tables e below (s₁.setTop (mkF m 1 #[.val (.ref a1), .val (.ref a2)] [(.ref a2)])) _
    refine XS.ifnullNo X0.here hx rfl (hb hby d2_1) rfl ?_
    show Steps p.tables e below (s₁.setTop (mkF m 4 #[.val (.ref a1), .val (.ref a2)] [])) _
    refine XS.aloadN X0.here hx rfl (hb hby d2_4) rfl rfl ?_
    show Steps p.tables e below (s₁.setTop (mkF m 5 #[.val (.ref a1), .val (.ref a2)] [(.ref a2)])) _
    refine st4 _ ?_
    show Steps p.tables e below (T4.setTop (mkF m 8 #[.val (.ref a1), .val (.ref a2)] [(.ref wPUBLIC), (.ref a2)])) _
    refine Jvm.RoadKit.acmp (g := (mkF m 8 #[.val (.ref a1), .val (.ref a2)] [(.ref wPUBLIC), (.ref a2)])) X4 hx rfl rfl rfl (pc0 := 8) (pc' := 24) (same := false) rfl (hb hby d2_8) rfl (decide_eq_false fun q => ha8 (Value.ref.inj q)) (by decide) (by decide) ?_
    show Steps p.tables e below (T4.setTop (mkF m 24 #[.val (.ref a1), .val (.ref a2)] [])) _
    refine XS.aloadN X4.here hx rfl (hb hby d2_24) rfl rfl ?_
    show Steps p.tables e below (T4.setTop (mkF m 25 #[.val (.ref a1), .val (.ref a2)] [(.ref a2)])) _
    refine st6 _ ?_
    show Steps p.tables e below (T6.setTop (mkF m 28 #[.val (.ref a1), .val (.ref a2)] [(.ref wFINAL), (.ref a2)])) _
    refine Jvm.RoadKit.acmp (g := (mkF m 28 #[.val (.ref a1), .val (.ref a2)] [(.ref wFINAL), (.ref a2)])) X6 hx rfl rfl rfl (pc0 := 28) (pc' := 31) (same := true) rfl (hb hby d2_28) rfl (decide_eq_true (congrArg Value.ref ha28)) (by decide) (by decide) ?_
    show Steps p.tables e below (T6.setTop (mkF m 31 #[.val (.ref a1), .val (.ref a2)] [])) _
    refine XS.aloadN X6.here hx rfl (hb hby d2_31) rfl rfl ?_
    show Steps p.tables e below (T6.setTop (mkF m 32 #[.val (.ref a1), .val (.ref a2)] [(.ref a1)])) _
    refine st7 _ ?_
    show Steps p.tables e below (T7.setTop (mkF m 35 #[.val (.ref a1), .val (.ref a2)] [(.ref wFINAL), (.ref a1)])) _
    refine Jvm.RoadKit.acmp (g := (mkF m 35 #[.val (.ref a1), .val (.ref a2)] [(.ref wFINAL), (.ref a1)])) X7 hx rfl rfl rfl (pc0 := 35) (pc' := 38) (same := false) rfl (hb hby d2_35) rfl (decide_eq_false fun q => ha35 (Value.ref.inj q)) (by decide) (by decide) ?_
    show Steps p.tables e below (T7.setTop (mkF m 38 #[.val (.ref a1), .val (.ref a2)] [])) _
    refine XS.aloadN X7.here hx rfl (hb hby d2_38) rfl rfl ?_
    show Steps p.tables e below (T7.setTop (mkF m 39 #[.val (.ref a1), .val (.ref a2)] [(.ref a1)])) _
    refine st9 _ ?_
    show Steps p.tables e below (T9.setTop (mkF m 42 #[.val (.ref a1), .val (.ref a2)] [(.ref wPRIVATE), (.ref a1)])) _
    refine Jvm.RoadKit.acmp (g := (mkF m 42 #[.val (.ref a1), .val (.ref a2)] [(.ref wPRIVATE), (.ref a1)])) X9 hx rfl rfl rfl (pc0 := 42) (pc' := 45) (same := true) rfl (hb hby d2_42) rfl (decide_eq_true (congrArg Value.ref ha42)) (by decide) (by decide) ?_
    show Steps p.tables e below (T9.setTop (mkF m 45 #[.val (.ref a1), .val (.ref a2)] [])) _
    refine XS.iconst X9.here hx rfl (hb hby d2_45) ?_
    show Steps p.tables e below (T9.setTop (mkF m 46 #[.val (.ref a1), .val (.ref a2)] [(.int (1 : Int32))])) _
    refine XS.goto X9.here hx rfl (pc0 := 46) (pc' := 50) rfl (hb hby d2_46) (by decide) (by decide) ?_
    show Steps p.tables e below (T9.setTop (mkF m 50 #[.val (.ref a1), .val (.ref a2)] [(.int (1 : Int32))])) _
    exact retN X9 hx (t := .boolean) Bd.returns (by simp) (hb hby d2_50) hr
  · show Q2 Z a1 a2 wPUBLIC wPRIVATE wFINAL wABSTRACT h0 n0 _ T9.heap _
    rw [e9]
    exact ⟨by rw [own_m, if_neg ha8, if_pos ha28, if_neg ha35, if_pos ha42], N0, rfl⟩
set_option maxRecDepth 65536 in
set_option maxHeartbeats 40000000 in
theorem rm2_ftfft (l : Launch) (Z : State) (a0 : Array Value) (hw : ∀ d ∈ tables_1, d.before a0 Z = true) (ws : List Jvm.Cond) (a1 : Addr) (a2 : Addr) (wPUBLIC wPRIVATE wFINAL wABSTRACT : Addr) (h0 : Heap) (n0 : Nat) (Z0 : n0 ≤ h0.size) (S_PUBLIC : Sta Z h0 "com/example/fallbak/fallbak/xslt/Visibility" "PUBLIC" "Lcom/example/fallbak/fallbak/xslt/Visibility;" (.ref wPUBLIC)) (S_PRIVATE : Sta Z h0 "com/example/fallbak/fallbak/xslt/Visibility" "PRIVATE" "Lcom/example/fallbak/fallbak/xslt/Visibility;" (.ref wPRIVATE)) (S_FINAL : Sta Z h0 "com/example/fallbak/fallbak/xslt/Visibility" "FINAL" "Lcom/example/fallbak/fallbak/xslt/Visibility;" (.ref wFINAL)) (S_ABSTRACT : Sta Z h0 "com/example/fallbak/fallbak/xslt/Visibility" "ABSTRACT" "Lcom/example/fallbak/fallbak/xslt/Visibility;" (.ref wABSTRACT)) (ha8 : ¬ (a2 = wPUBLIC)) (ha28 : a2 = wFINAL) (ha35 : ¬ (a1 = wFINAL)) (ha42 : ¬ (a1 = wPRIVATE)) :
    MetFree l (⟨"com/example/fallbak/fallbak/xslt/Visibility", "mayBeExposedOn", "(Lcom/example/fallbak/fallbak/xslt/Visibility;)Z"⟩ : MethodName) (head1 (Jvm.Cond.code (⟨"com/example/fallbak/fallbak/xslt/Visibility", "mayBeExposedOn", "(Lcom/example/fallbak/fallbak/xslt/Visibility;)Z"⟩ : MethodName) prog_258_method_7_code 2 (some .boolean) :: ws) ({ frames := 0, cells := 0, slots := 0, locals := 0 } : Room)) (fun a U => a = #[(.ref a1), (.ref a2)] ∧ Z.Warmed39 U.vm ∧ U.heap = h0) (fun _ _ _ _ _ => True) (fun _ U o U' => ∃ v L, o = .returned v ∧ Q2 Z a1 a2 wPUBLIC wPRIVATE wFINAL wABSTRACT h0 n0 v U'.heap L ∧ FrameEnd U o U' L ({ frames := 0, cells := 0, slots := 0, locals := 0 } : Room).cells ({ frames := 0, cells := 0, slots := 0, locals := 0 } : Room).slots) := by
  refine MetFree.of_bodySF (plainFor_of_name pn_2) hisR ?_
  intro p e s m args below meth c s₁ Bd hml0 hP hK
  obtain ⟨rfl, hZ, hh⟩ := hP
  have hx := Bd.exec
  have hby := Bd.bytes
  have hml : c.maxLocals = 2 := hml0
  have hown : s.vm.findClass "com/example/fallbak/fallbak/xslt/Visibility" = some m.cls := findClass_of_methodNamed Bd.named
  have hnm := (name_of_methodNamed Bd.named Bd.method).1
  have X0 : Stand p l e ({ frames := 0, cells := 0, slots := 0, locals := 0 } : Room) s m #[(.ref a1), (.ref a2)] below meth c s₁ [] 0 0 := Stand.of_body Bd
  have e0 : s₁.heap = h0 := by rw [← hh, Bd.state]; rfl
  have N0 := Fr.nil n0
  have pre0 : ∀ t, Steps p.tables e below (s₁.setTop (mkF m 0 #[.val (.ref a1), .val (.ref a2)] [])) t → Steps p.tables e below (s₁.setTop (entryFrame m #[(.ref a1), (.ref a2)] 2)) t := fun t k => castTop (ef_2 m a1 a2) k
  obtain ⟨T4, X4, e4, st4⟩ := getS2 X0 hx hZ hown (host := "") (Or.inl (hw _ (List.mem_of_getElem? (i := 16) rfl))) Via.refl e0 S_PUBLIC (g := (mkF m 5 #[.val (.ref a1), .val (.ref a2)] [(.ref a2)])) rfl (hb hby d2_5)
  obtain ⟨T6, X6, e6, st6⟩ := getS2 X4 hx hZ hown (host := "") (Or.inl (hw _ (List.mem_of_getElem? (i := 17) rfl))) Via.refl e4 S_FINAL (g := (mkF m 25 #[.val (.ref a1), .val (.ref a2)] [(.ref a2)])) rfl (hb hby d2_25)
  obtain ⟨T7, X7, e7, st7⟩ := getS2 X6 hx hZ hown (host := "") (Or.inl (hw _ (List.mem_of_getElem? (i := 17) rfl))) Via.refl e6 S_FINAL (g := (mkF m 32 #[.val (.ref a1), .val (.ref a2)] [(.ref a1)])) rfl (hb hby d2_32)
  obtain ⟨T9, X9, e9, st9⟩ := getS2 X7 hx hZ hown (host := "") (Or.inl (hw _ (List.mem_of_getElem? (i := 18) rfl))) Via.refl e7 S_PRIVATE (g := (mkF m 39 #[.val (.ref a1), .val (.ref a2)] [(.ref a1)])) rfl (hb hby d2_39)
  obtain ⟨fs, hr, hrun, hended, hW, hsame⟩ := X9.leave (v := some (.int (0 : Int32))) (fun h => by rw [Bd.returns] at h; cases h)
  refine ⟨_, _, pre0 _ ?_, hrun, hended, _, _, rfl, ?_, ⟨_, rfl⟩, hW, hsame.mono (by decide) (by decide)⟩
  · show Steps p.tables e below (s₁.setTop (mkF m 0 #[.val (.ref a1), .val (.ref a2)] [])) _
    refine XS.aloadN X0.here hx rfl (hb hby d2_0) rfl rfl ?_
    show Steps p.tables e below (s₁.setTop (mkF m 1 #[.val (.ref a1), .val (.ref a2)] [(.ref a2)])) _
    refine XS.ifnullNo X0.here hx rfl (hb hby d2_1) rfl ?_
    show Steps p.tables e below (s₁.setTop (mkF m 4 #[.val (.ref a1), .val (.ref a2)] [])) _
    refine XS.aloadN X0.here hx rfl (hb hby d2_4) rfl rfl ?_
    show Steps p.tables e below (s₁.setTop (mkF m 5 #[.val (.ref a1), .val (.ref a2)] [(.ref a2)])) _
    refine st4 _ ?_
    show Steps p.tables e below (T4.setTop (mkF m 8 #[.val (.ref a1), .val (.ref a2)] [(.ref wPUBLIC), (.ref a2)])) _
    refine Jvm.RoadKit.acmp (g := (mkF m 8 #[.val (.ref a1), .val (.ref a2)] [(.ref wPUBLIC), (.ref a2)])) X4 hx rfl rfl rfl (pc0 := 8) (pc' := 24) (same := false) rfl (hb hby d2_8) rfl (decide_eq_false fun q => ha8 (Value.ref.inj q)) (by decide) (by decide) ?_
    show Steps p.tables e below (T4.setTop (mkF m 24 #[.val (.ref a1), .val (.ref a2)] [])) _
    refine XS.aloadN X4.here hx rfl (hb hby d2_24) rfl rfl ?_
    show Steps p.tables e below (T4.setTop (mkF m 25 #[.val (.ref a1), .val (.ref a2)] [(.ref a2)])) _
    refine st6 _ ?_
    show Steps p.tables e below (T6.setTop (mkF m 28 #[.val (.ref a1), .val (.ref a2)] [(.ref wFINAL), (.ref a2)])) _
    refine Jvm.RoadKit.acmp (g := (mkF m 28 #[.val (.ref a1), .val (.ref a2)] [(.ref wFINAL), (.ref a2)])) X6 hx rfl rfl rfl (pc0 := 28) (pc' := 31) (same := true) rfl (hb hby d2_28) rfl (decide_eq_true (congrArg Value.ref ha28)) (by decide) (by decide) ?_
    show Steps p.tables e below (T6.setTop (mkF m 31 #[.val (.ref a1), .val (.ref a2)] [])) _
    refine XS.aloadN X6.here hx rfl (hb hby d2_31) rfl rfl ?_
    show Steps p.tables e below (T6.setTop (mkF m 32 #[.val (.ref a1), .val (.ref a2)] [(.ref a1)])) _
    refine st7 _ ?_
    show Steps p.tables e below (T7.setTop (mkF m 35 #[.val (.ref a1), .val (.ref a2)] [(.ref wFINAL), (.ref a1)])) _
    refine Jvm.RoadKit.acmp (g := (mkF m 35 #[.val (.ref a1), .val (.ref a2)] [(.ref wFINAL), (.ref a1)])) X7 hx rfl rfl rfl (pc0 := 35) (pc' := 38) (same := false) rfl (hb hby d2_35) rfl (decide_eq_false fun q => ha35 (Value.ref.inj q)) (by decide) (by decide) ?_
    show Steps p.tables e below (T7.setTop (mkF m 38 #[.val (.ref a1), .val (.ref a2)] [])) _
    refine XS.aloadN X7.here hx rfl (hb hby d2_38) rfl rfl ?_
    show Steps p.tables e below (T7.setTop (mkF m 39 #[.val (.ref a1), .val (.ref a2)] [(.ref a1)])) _
    refine st9 _ ?_
    show Steps p.tables e below (T9.setTop (mkF m 42 #[.val (.ref a1), .val (.ref a2)] [(.ref wPRIVATE), (.ref a1)])) _
    refine Jvm.RoadKit.acmp (g := (mkF m 42 #[.val (.ref a1), .val (.ref a2)] [(.ref wPRIVATE), (.ref a1)])) X9 hx rfl rfl rfl (pc0 := 42) (pc' := 49) (same := false) rfl (hb hby d2_42) rfl (decide_eq_false fun q => ha42 (Value.ref.inj q)) (by decide) (by decide) ?_
    show Steps p.tables e below (T9.setTop (mkF m 49 #[.val (.ref a1), .val (.ref a2)] [])) _
    refine XS.iconst X9.here hx rfl (hb hby d2_49) ?_
    show Steps p.tables e below (T9.setTop (mkF m 50 #[.val (.ref a1), .val (.ref a2)] [(.int (0 : Int32))])) _
    exact retN X9 hx (t := .boolean) Bd.returns (by simp) (hb hby d2_50) hr
  · show Q2 Z a1 a2 wPUBLIC wPRIVATE wFINAL wABSTRACT h0 n0 _ T9.heap _
    rw [e9]
    exact ⟨by rw [own_m, if_neg ha8, if_pos ha28, if_neg ha35, if_neg ha42], N0, rfl⟩
set_option maxRecDepth 65536 in
set_option maxHeartbeats 40000000 in
theorem rm2_fttf (l : Launch) (Z : State) (a0 : Array Value) (hw : ∀ d ∈ tables_1, d.before a0 Z = true) (ws : List Jvm.Cond) (a1 : Addr) (a2 : Addr) (wPUBLIC wPRIVATE wFINAL wABSTRACT : Addr) (h0 : Heap) (n0 : Nat) (Z0 : n0 ≤ h0.size) (S_PUBLIC : Sta Z h0 "com/example/fallbak/fallbak/xslt/Visibility" "PUBLIC" "Lcom/example/fallbak/fallbak/xslt/Visibility;" (.ref wPUBLIC)) (S_PRIVATE : Sta Z h0 "com/example/fallbak/fallbak/xslt/Visibility" "PRIVATE" "Lcom/example/fallbak/fallbak/xslt/Visibility;" (.ref wPRIVATE)) (S_FINAL : Sta Z h0 "com/example/fallbak/fallbak/xslt/Visibility" "FINAL" "Lcom/example/fallbak/fallbak/xslt/Visibility;" (.ref wFINAL)) (S_ABSTRACT : Sta Z h0 "com/example/fallbak/fallbak/xslt/Visibility" "ABSTRACT" "Lcom/example/fallbak/fallbak/xslt/Visibility;" (.ref wABSTRACT)) (ha8 : ¬ (a2 = wPUBLIC)) (ha28 : ¬ (a2 = wFINAL)) (ha53 : a1 = a2) :
    MetFree l (⟨"com/example/fallbak/fallbak/xslt/Visibility", "mayBeExposedOn", "(Lcom/example/fallbak/fallbak/xslt/Visibility;)Z"⟩ : MethodName) (head1 (Jvm.Cond.code (⟨"com/example/fallbak/fallbak/xslt/Visibility", "mayBeExposedOn", "(Lcom/example/fallbak/fallbak/xslt/Visibility;)Z"⟩ : MethodName) prog_258_method_7_code 2 (some .boolean) :: ws) ({ frames := 0, cells := 0, slots := 0, locals := 0 } : Room)) (fun a U => a = #[(.ref a1), (.ref a2)] ∧ Z.Warmed39 U.vm ∧ U.heap = h0) (fun _ _ _ _ _ => True) (fun _ U o U' => ∃ v L, o = .returned v ∧ Q2 Z a1 a2 wPUBLIC wPRIVATE wFINAL wABSTRACT h0 n0 v U'.heap L ∧ FrameEnd U o U' L ({ frames := 0, cells := 0, slots := 0, locals := 0 } : Room).cells ({ frames := 0, cells := 0, slots := 0, locals := 0 } : Room).slots) := by
  refine MetFree.of_bodySF (plainFor_of_name pn_2) hisR ?_
  intro p e s m args below meth c s₁ Bd hml0 hP hK
  obtain ⟨rfl, hZ, hh⟩ := hP
  have hx := Bd.exec
  have hby := Bd.bytes
  have hml : c.maxLocals = 2 := hml0
  have hown : s.vm.findClass "com/example/fallbak/fallbak/xslt/Visibility" = some m.cls := findClass_of_methodNamed Bd.named
  have hnm := (name_of_methodNamed Bd.named Bd.method).1
  have X0 : Stand p l e ({ frames := 0, cells := 0, slots := 0, locals := 0 } : Room) s m #[(.ref a1), (.ref a2)] below meth c s₁ [] 0 0 := Stand.of_body Bd
  have e0 : s₁.heap = h0 := by rw [← hh, Bd.state]; rfl
  have N0 := Fr.nil n0
  have pre0 : ∀ t, Steps p.tables e below (s₁.setTop (mkF m 0 #[.val (.ref a1), .val (.ref a2)] [])) t → Steps p.tables e below (s₁.setTop (entryFrame m #[(.ref a1), (.ref a2)] 2)) t := fun t k => castTop (ef_2 m a1 a2) k
  obtain ⟨T4, X4, e4, st4⟩ := getS2 X0 hx hZ hown (host := "") (Or.inl (hw _ (List.mem_of_getElem? (i := 16) rfl))) Via.refl e0 S_PUBLIC (g := (mkF m 5 #[.val (.ref a1), .val (.ref a2)] [(.ref a2)])) rfl (hb hby d2_5)
  obtain ⟨T6, X6, e6, st6⟩ := getS2 X4 hx hZ hown (host := "") (Or.inl (hw _ (List.mem_of_getElem? (i := 17) rfl))) Via.refl e4 S_FINAL (g := (mkF m 25 #[.val (.ref a1), .val (.ref a2)] [(.ref a2)])) rfl (hb hby d2_25)
  obtain ⟨fs, hr, hrun, hended, hW, hsame⟩ := X6.leave (v := some (.int (1 : Int32))) (fun h => by rw [Bd.returns] at h; cases h)
  refine ⟨_, _, pre0 _ ?_, hrun, hended, _, _, rfl, ?_, ⟨_, rfl⟩, hW, hsame.mono (by decide) (by decide)⟩
  · show Steps p.tables e below (s₁.setTop (mkF m 0 #[.val (.ref a1), .val (.ref a2)] [])) _
    refine XS.aloadN X0.here hx rfl (hb hby d2_0) rfl rfl ?_
    show Steps p.tables e below (s₁.setTop (mkF m 1 #[.val (.ref a1), .val (.ref a2)] [(.ref a2)])) _
    refine XS.ifnullNo X0.here hx rfl (hb hby d2_1) rfl ?_
    show Steps p.tables e below (s₁.setTop (mkF m 4 #[.val (.ref a1), .val (.ref a2)] [])) _
    refine XS.aloadN X0.here hx rfl (hb hby d2_4) rfl rfl ?_
    show Steps p.tables e below (s₁.setTop (mkF m 5 #[.val (.ref a1), .val (.ref a2)] [(.ref a2)])) _
    refine st4 _ ?_
    show Steps p.tables e below (T4.setTop (mkF m 8 #[.val (.ref a1), .val (.ref a2)] [(.ref wPUBLIC), (.ref a2)])) _
    refine Jvm.RoadKit.acmp (g := (mkF m 8 #[.val (.ref a1), .val (.ref a2)] [(.ref wPUBLIC), (.ref a2)])) X4 hx rfl rfl rfl (pc0 := 8) (pc' := 24) (same := false) rfl (hb hby d2_8) rfl (decide_eq_false fun q => ha8 (Value.ref.inj q)) (by decide) (by decide) ?_
    show Steps p.tables e below (T4.setTop (mkF m 24 #[.val (.ref a1), .val (.ref a2)] [])) _
    refine XS.aloadN X4.here hx rfl (hb hby d2_24) rfl rfl ?_
    show Steps p.tables e below (T4.setTop (mkF m 25 #[.val (.ref a1), .val (.ref a2)] [(.ref a2)])) _
    refine st6 _ ?_
    show Steps p.tables e below (T6.setTop (mkF m 28 #[.val (.ref a1), .val (.ref a2)] [(.ref wFINAL), (.ref a2)])) _
    refine Jvm.RoadKit.acmp (g := (mkF m 28 #[.val (.ref a1), .val (.ref a2)] [(.ref wFINAL), (.ref a2)])) X6 hx rfl rfl rfl (pc0 := 28) (pc' := 51) (same := false) rfl (hb hby d2_28) rfl (decide_eq_false fun q => ha28 (Value.ref.inj q)) (by decide) (by decide) ?_
    show Steps p.tables e below (T6.setTop (mkF m 51 #[.val (.ref a1), .val (.ref a2)] [])) _
    refine XS.aloadN X6.here hx rfl (hb hby d2_51) rfl rfl ?_
    show Steps p.tables e below (T6.setTop (mkF m 52 #[.val (.ref a1), .val (.ref a2)] [(.ref a1)])) _
    refine XS.aloadN X6.here hx rfl (hb hby d2_52) rfl rfl ?_
    show Steps p.tables e below (T6.setTop (mkF m 53 #[.val (.ref a1), .val (.ref a2)] [(.ref a2), (.ref a1)])) _
    refine Jvm.RoadKit.acmp (g := (mkF m 53 #[.val (.ref a1), .val (.ref a2)] [(.ref a2), (.ref a1)])) X6 hx rfl rfl rfl (pc0 := 53) (pc' := 56) (same := true) rfl (hb hby d2_53) rfl (decide_eq_true (congrArg Value.ref ha53)) (by decide) (by decide) ?_
    show Steps p.tables e below (T6.setTop (mkF m 56 #[.val (.ref a1), .val (.ref a2)] [])) _
    refine XS.iconst X6.here hx rfl (hb hby d2_56) ?_
    show Steps p.tables e below (T6.setTop (mkF m 57 #[.val (.ref a1), .val (.ref a2)] [(.int (1 : Int32))])) _
    refine XS.goto X6.here hx rfl (pc0 := 57) (pc' := 61) rfl (hb hby d2_57) (by decide) (by decide) ?_
    show Steps p.tables e below (T6.setTop (mkF m 61 #[.val (.ref a1), .val (.ref a2)] [(.int (1 : Int32))])) _
    exact retN X6 hx (t := .boolean) Bd.returns (by simp) (hb hby d2_61) hr
  · show Q2 Z a1 a2 wPUBLIC wPRIVATE wFINAL wABSTRACT h0 n0 _ T6.heap _
    rw [e6]
    exact ⟨by rw [own_m, if_neg ha8, if_neg ha28, if_pos ha53], N0, rfl⟩
set_option maxRecDepth 65536 in
set_option maxHeartbeats 40000000 in
theorem rm2_fttt (l : Launch) (Z : State) (a0 : Array Value) (hw : ∀ d ∈ tables_1, d.before a0 Z = true) (ws : List Jvm.Cond) (a1 : Addr) (a2 : Addr) (wPUBLIC wPRIVATE wFINAL wABSTRACT : Addr) (h0 : Heap) (n0 : Nat) (Z0 : n0 ≤ h0.size) (S_PUBLIC : Sta Z h0 "com/example/fallbak/fallbak/xslt/Visibility" "PUBLIC" "Lcom/example/fallbak/fallbak/xslt/Visibility;" (.ref wPUBLIC)) (S_PRIVATE : Sta Z h0 "com/example/fallbak/fallbak/xslt/Visibility" "PRIVATE" "Lcom/example/fallbak/fallbak/xslt/Visibility;" (.ref wPRIVATE)) (S_FINAL : Sta Z h0 "com/example/fallbak/fallbak/xslt/Visibility" "FINAL" "Lcom/example/fallbak/fallbak/xslt/Visibility;" (.ref wFINAL)) (S_ABSTRACT : Sta Z h0 "com/example/fallbak/fallbak/xslt/Visibility" "ABSTRACT" "Lcom/example/fallbak/fallbak/xslt/Visibility;" (.ref wABSTRACT)) (ha8 : ¬ (a2 = wPUBLIC)) (ha28 : ¬ (a2 = wFINAL)) (ha53 : ¬ (a1 = a2)) :
    MetFree l (⟨"com/example/fallbak/fallbak/xslt/Visibility", "mayBeExposedOn", "(Lcom/example/fallbak/fallbak/xslt/Visibility;)Z"⟩ : MethodName) (head1 (Jvm.Cond.code (⟨"com/example/fallbak/fallbak/xslt/Visibility", "mayBeExposedOn", "(Lcom/example/fallbak/fallbak/xslt/Visibility;)Z"⟩ : MethodName) prog_258_method_7_code 2 (some .boolean) :: ws) ({ frames := 0, cells := 0, slots := 0, locals := 0 } : Room)) (fun a U => a = #[(.ref a1), (.ref a2)] ∧ Z.Warmed39 U.vm ∧ U.heap = h0) (fun _ _ _ _ _ => True) (fun _ U o U' => ∃ v L, o = .returned v ∧ Q2 Z a1 a2 wPUBLIC wPRIVATE wFINAL wABSTRACT h0 n0 v U'.heap L ∧ FrameEnd U o U' L ({ frames := 0, cells := 0, slots := 0, locals := 0 } : Room).cells ({ frames := 0, cells := 0, slots := 0, locals := 0 } : Room).slots) := by
  refine MetFree.of_bodySF (plainFor_of_name pn_2) hisR ?_
  intro p e s m args below meth c s₁ Bd hml0 hP hK
  obtain ⟨rfl, hZ, hh⟩ := hP
  have hx := Bd.exec
  have hby := Bd.bytes
  have hml : c.maxLocals = 2 := hml0
  have hown : s.vm.findClass "com/example/fallbak/fallbak/xslt/Visibility" = some m.cls := findClass_of_methodNamed Bd.named
  have hnm := (name_of_methodNamed Bd.named Bd.method).1
  have X0 : Stand p l e ({ frames := 0, cells := 0, slots := 0, locals := 0 } : Room) s m #[(.ref a1), (.ref a2)] below meth c s₁ [] 0 0 := Stand.of_body Bd
  have e0 : s₁.heap = h0 := by rw [← hh, Bd.state]; rfl
  have N0 := Fr.nil n0
  have pre0 : ∀ t, Steps p.tables e below (s₁.setTop (mkF m 0 #[.val (.ref a1), .val (.ref a2)] [])) t → Steps p.tables e below (s₁.setTop (entryFrame m #[(.ref a1), (.ref a2)] 2)) t := fun t k => castTop (ef_2 m a1 a2) k
  obtain ⟨T4, X4, e4, st4⟩ := getS2 X0 hx hZ hown (host := "") (Or.inl (hw _ (List.mem_of_getElem? (i := 16) rfl))) Via.refl e0 S_PUBLIC (g := (mkF m 5 #[.val (.ref a1), .val (.ref a2)] [(.ref a2)])) rfl (hb hby d2_5)
  obtain ⟨T6, X6, e6, st6⟩ := getS2 X4 hx hZ hown (host := "") (Or.inl (hw _ (List.mem_of_getElem? (i := 17) rfl))) Via.refl e4 S_FINAL (g := (mkF m 25 #[.val (.ref a1), .val (.ref a2)] [(.ref a2)])) rfl (hb hby d2_25)
  obtain ⟨fs, hr, hrun, hended, hW, hsame⟩ := X6.leave (v := some (.int (0 : Int32))) (fun h => by rw [Bd.returns] at h; cases h)
  refine ⟨_, _, pre0 _ ?_, hrun, hended, _, _, rfl, ?_, ⟨_, rfl⟩, hW, hsame.mono (by decide) (by decide)⟩
  · show Steps p.tables e below (s₁.setTop (mkF m 0 #[.val (.ref a1), .val (.ref a2)] [])) _
    refine XS.aloadN X0.here hx rfl (hb hby d2_0) rfl rfl ?_
    show Steps p.tables e below (s₁.setTop (mkF m 1 #[.val (.ref a1), .val (.ref a2)] [(.ref a2)])) _
    refine XS.ifnullNo X0.here hx rfl (hb hby d2_1) rfl ?_
    show Steps p.tables e below (s₁.setTop (mkF m 4 #[.val (.ref a1), .val (.ref a2)] [])) _
    refine XS.aloadN X0.here hx rfl (hb hby d2_4) rfl rfl ?_
    show Steps p.tables e below (s₁.setTop (mkF m 5 #[.val (.ref a1), .val (.ref a2)] [(.ref a2)])) _
    refine st4 _ ?_
    show Steps p.tables e below (T4.setTop (mkF m 8 #[.val (.ref a1), .val (.ref a2)] [(.ref wPUBLIC), (.ref a2)])) _
    refine Jvm.RoadKit.acmp (g := (mkF m 8 #[.val (.ref a1), .val (.ref a2)] [(.ref wPUBLIC), (.ref a2)])) X4 hx rfl rfl rfl (pc0 := 8) (pc' := 24) (same := false) rfl (hb hby d2_8) rfl (decide_eq_false fun q => ha8 (Value.ref.inj q)) (by decide) (by decide) ?_
    show Steps p.tables e below (T4.setTop (mkF m 24 #[.val (.ref a1), .val (.ref a2)] [])) _
    refine XS.aloadN X4.here hx rfl (hb hby d2_24) rfl rfl ?_
    show Steps p.tables e below (T4.setTop (mkF m 25 #[.val (.ref a1), .val (.ref a2)] [(.ref a2)])) _
    refine st6 _ ?_
    show Steps p.tables e below (T6.setTop (mkF m 28 #[.val (.ref a1), .val (.ref a2)] [(.ref wFINAL), (.ref a2)])) _
    refine Jvm.RoadKit.acmp (g := (mkF m 28 #[.val (.ref a1), .val (.ref a2)] [(.ref wFINAL), (.ref a2)])) X6 hx rfl rfl rfl (pc0 := 28) (pc' := 51) (same := false) rfl (hb hby d2_28) rfl (decide_eq_false fun q => ha28 (Value.ref.inj q)) (by decide) (by decide) ?_
    show Steps p.tables e below (T6.setTop (mkF m 51 #[.val (.ref a1), .val (.ref a2)] [])) _
    refine XS.aloadN X6.here hx rfl (hb hby d2_51) rfl rfl ?_
    show Steps p.tables e below (T6.setTop (mkF m 52 #[.val (.ref a1), .val (.ref a2)] [(.ref a1)])) _
    refine XS.aloadN X6.here hx rfl (hb hby d2_52) rfl rfl ?_
    show Steps p.tables e below (T6.setTop (mkF m 53 #[.val (.ref a1), .val (.ref a2)] [(.ref a2), (.ref a1)])) _
    refine Jvm.RoadKit.acmp (g := (mkF m 53 #[.val (.ref a1), .val (.ref a2)] [(.ref a2), (.ref a1)])) X6 hx rfl rfl rfl (pc0 := 53) (pc' := 60) (same := false) rfl (hb hby d2_53) rfl (decide_eq_false fun q => ha53 (Value.ref.inj q)) (by decide) (by decide) ?_
    show Steps p.tables e below (T6.setTop (mkF m 60 #[.val (.ref a1), .val (.ref a2)] [])) _
    refine XS.iconst X6.here hx rfl (hb hby d2_60) ?_
    show Steps p.tables e below (T6.setTop (mkF m 61 #[.val (.ref a1), .val (.ref a2)] [(.int (0 : Int32))])) _
    exact retN X6 hx (t := .boolean) Bd.returns (by simp) (hb hby d2_61) hr
  · show Q2 Z a1 a2 wPUBLIC wPRIVATE wFINAL wABSTRACT h0 n0 _ T6.heap _
    rw [e6]
    exact ⟨by rw [own_m, if_neg ha8, if_neg ha28, if_neg ha53], N0, rfl⟩
set_option maxRecDepth 65536 in
set_option maxHeartbeats 40000000 in
theorem rm1 (l : Launch) (Z : State) (a0 : Array Value) (hw : ∀ d ∈ tables_1, d.before a0 Z = true) (ws : List Jvm.Cond) (p1 : Int32) (wPUBLIC wPRIVATE wFINAL wABSTRACT : Addr) (h0 : Heap) (n0 : Nat) (Z0 : n0 ≤ h0.size) (S_PUBLIC : Sta Z h0 "com/example/fallbak/fallbak/xslt/Visibility" "PUBLIC" "Lcom/example/fallbak/fallbak/xslt/Visibility;" (.ref wPUBLIC)) (S_PRIVATE : Sta Z h0 "com/example/fallbak/fallbak/xslt/Visibility" "PRIVATE" "Lcom/example/fallbak/fallbak/xslt/Visibility;" (.ref wPRIVATE)) (S_FINAL : Sta Z h0 "com/example/fallbak/fallbak/xslt/Visibility" "FINAL" "Lcom/example/fallbak/fallbak/xslt/Visibility;" (.ref wFINAL)) (S_ABSTRACT : Sta Z h0 "com/example/fallbak/fallbak/xslt/Visibility" "ABSTRACT" "Lcom/example/fallbak/fallbak/xslt/Visibility;" (.ref wABSTRACT)) :
    MetFree l (⟨"com/example/fallbak/fallbak/xslt/VisibilityMayBeExposedOnPinLaw", "constant", "(I)Lcom/example/fallbak/fallbak/xslt/Visibility;"⟩ : MethodName) (head1 (Jvm.Cond.code (⟨"com/example/fallbak/fallbak/xslt/VisibilityMayBeExposedOnPinLaw", "constant", "(I)Lcom/example/fallbak/fallbak/xslt/Visibility;"⟩ : MethodName) method_3_code 1 (some (.object "com/example/fallbak/fallbak/xslt/Visibility")) :: ws) ({ frames := 0, cells := 0, slots := 0, locals := 0 } : Room)) (fun a U => a = #[(.int p1)] ∧ Z.Warmed39 U.vm ∧ U.heap = h0) (fun _ _ _ _ _ => True) (fun _ U o U' => ∃ v L, o = .returned v ∧ Q1 Z p1 wPUBLIC wPRIVATE wFINAL wABSTRACT h0 n0 v U'.heap L ∧ FrameEnd U o U' L ({ frames := 0, cells := 0, slots := 0, locals := 0 } : Room).cells ({ frames := 0, cells := 0, slots := 0, locals := 0 } : Room).slots) := by
  by_cases hc1 : p1 = (0 : Int32)
  · exact rm1_f l Z a0 hw ws p1 wPUBLIC wPRIVATE wFINAL wABSTRACT h0 n0 Z0 S_PUBLIC S_PRIVATE S_FINAL S_ABSTRACT hc1
  by_cases hc10 : p1 = (1 : Int32)
  · exact rm1_tf l Z a0 hw ws p1 wPUBLIC wPRIVATE wFINAL wABSTRACT h0 n0 Z0 S_PUBLIC S_PRIVATE S_FINAL S_ABSTRACT hc1 hc10
  by_cases hc19 : p1 = (2 : Int32)
  · exact rm1_ttf l Z a0 hw ws p1 wPUBLIC wPRIVATE wFINAL wABSTRACT h0 n0 Z0 S_PUBLIC S_PRIVATE S_FINAL S_ABSTRACT hc1 hc10 hc19
  · exact rm1_ttt l Z a0 hw ws p1 wPUBLIC wPRIVATE wFINAL wABSTRACT h0 n0 Z0 S_PUBLIC S_PRIVATE S_FINAL S_ABSTRACT hc1 hc10 hc19
set_option maxRecDepth 65536 in
set_option maxHeartbeats 40000000 in
theorem rm2n (l : Launch) (Z : State) (a0 : Array Value) (hw : ∀ d ∈ tables_1, d.before a0 Z = true) (ws : List Jvm.Cond) (a1 : Addr) (wPUBLIC wPRIVATE wFINAL wABSTRACT : Addr) (h0 : Heap) (n0 : Nat) (Z0 : n0 ≤ h0.size) (S_PUBLIC : Sta Z h0 "com/example/fallbak/fallbak/xslt/Visibility" "PUBLIC" "Lcom/example/fallbak/fallbak/xslt/Visibility;" (.ref wPUBLIC)) (S_PRIVATE : Sta Z h0 "com/example/fallbak/fallbak/xslt/Visibility" "PRIVATE" "Lcom/example/fallbak/fallbak/xslt/Visibility;" (.ref wPRIVATE)) (S_FINAL : Sta Z h0 "com/example/fallbak/fallbak/xslt/Visibility" "FINAL" "Lcom/example/fallbak/fallbak/xslt/Visibility;" (.ref wFINAL)) (S_ABSTRACT : Sta Z h0 "com/example/fallbak/fallbak/xslt/Visibility" "ABSTRACT" "Lcom/example/fallbak/fallbak/xslt/Visibility;" (.ref wABSTRACT)) :
    MetFree l (⟨"com/example/fallbak/fallbak/xslt/Visibility", "mayBeExposedOn", "(Lcom/example/fallbak/fallbak/xslt/Visibility;)Z"⟩ : MethodName) (head1 (Jvm.Cond.code (⟨"com/example/fallbak/fallbak/xslt/Visibility", "mayBeExposedOn", "(Lcom/example/fallbak/fallbak/xslt/Visibility;)Z"⟩ : MethodName) prog_258_method_7_code 2 (some .boolean) :: ws) ({ frames := 0, cells := 0, slots := 0, locals := 0 } : Room)) (fun a U => a = #[(.ref a1), .null] ∧ Z.Warmed39 U.vm ∧ U.heap = h0) (fun _ _ _ _ _ => True) (fun _ U o U' => ∃ v L, o = .returned v ∧ Q2n Z a1 wPUBLIC wPRIVATE wFINAL wABSTRACT h0 n0 v U'.heap L ∧ FrameEnd U o U' L ({ frames := 0, cells := 0, slots := 0, locals := 0 } : Room).cells ({ frames := 0, cells := 0, slots := 0, locals := 0 } : Room).slots) := by
  by_cases ha15 : a1 = wABSTRACT
  · exact rm2n_tt l Z a0 hw ws a1 wPUBLIC wPRIVATE wFINAL wABSTRACT h0 n0 Z0 S_PUBLIC S_PRIVATE S_FINAL S_ABSTRACT ha15
  · exact rm2n_tf l Z a0 hw ws a1 wPUBLIC wPRIVATE wFINAL wABSTRACT h0 n0 Z0 S_PUBLIC S_PRIVATE S_FINAL S_ABSTRACT ha15
set_option maxRecDepth 65536 in
set_option maxHeartbeats 40000000 in
theorem rm2 (l : Launch) (Z : State) (a0 : Array Value) (hw : ∀ d ∈ tables_1, d.before a0 Z = true) (ws : List Jvm.Cond) (a1 : Addr) (a2 : Addr) (wPUBLIC wPRIVATE wFINAL wABSTRACT : Addr) (h0 : Heap) (n0 : Nat) (Z0 : n0 ≤ h0.size) (S_PUBLIC : Sta Z h0 "com/example/fallbak/fallbak/xslt/Visibility" "PUBLIC" "Lcom/example/fallbak/fallbak/xslt/Visibility;" (.ref wPUBLIC)) (S_PRIVATE : Sta Z h0 "com/example/fallbak/fallbak/xslt/Visibility" "PRIVATE" "Lcom/example/fallbak/fallbak/xslt/Visibility;" (.ref wPRIVATE)) (S_FINAL : Sta Z h0 "com/example/fallbak/fallbak/xslt/Visibility" "FINAL" "Lcom/example/fallbak/fallbak/xslt/Visibility;" (.ref wFINAL)) (S_ABSTRACT : Sta Z h0 "com/example/fallbak/fallbak/xslt/Visibility" "ABSTRACT" "Lcom/example/fallbak/fallbak/xslt/Visibility;" (.ref wABSTRACT)) :
    MetFree l (⟨"com/example/fallbak/fallbak/xslt/Visibility", "mayBeExposedOn", "(Lcom/example/fallbak/fallbak/xslt/Visibility;)Z"⟩ : MethodName) (head1 (Jvm.Cond.code (⟨"com/example/fallbak/fallbak/xslt/Visibility", "mayBeExposedOn", "(Lcom/example/fallbak/fallbak/xslt/Visibility;)Z"⟩ : MethodName) prog_258_method_7_code 2 (some .boolean) :: ws) ({ frames := 0, cells := 0, slots := 0, locals := 0 } : Room)) (fun a U => a = #[(.ref a1), (.ref a2)] ∧ Z.Warmed39 U.vm ∧ U.heap = h0) (fun _ _ _ _ _ => True) (fun _ U o U' => ∃ v L, o = .returned v ∧ Q2 Z a1 a2 wPUBLIC wPRIVATE wFINAL wABSTRACT h0 n0 v U'.heap L ∧ FrameEnd U o U' L ({ frames := 0, cells := 0, slots := 0, locals := 0 } : Room).cells ({ frames := 0, cells := 0, slots := 0, locals := 0 } : Room).slots) := by
  by_cases ha8 : a2 = wPUBLIC
  · by_cases ha15 : a1 = wABSTRACT
    · exact rm2_fft l Z a0 hw ws a1 a2 wPUBLIC wPRIVATE wFINAL wABSTRACT h0 n0 Z0 S_PUBLIC S_PRIVATE S_FINAL S_ABSTRACT ha8 ha15
    · exact rm2_fff l Z a0 hw ws a1 a2 wPUBLIC wPRIVATE wFINAL wABSTRACT h0 n0 Z0 S_PUBLIC S_PRIVATE S_FINAL S_ABSTRACT ha8 ha15
  by_cases ha28 : a2 = wFINAL
  · by_cases ha35 : a1 = wFINAL
    · exact rm2_ftft l Z a0 hw ws a1 a2 wPUBLIC wPRIVATE wFINAL wABSTRACT h0 n0 Z0 S_PUBLIC S_PRIVATE S_FINAL S_ABSTRACT ha8 ha28 ha35
    by_cases ha42 : a1 = wPRIVATE
    · exact rm2_ftfff l Z a0 hw ws a1 a2 wPUBLIC wPRIVATE wFINAL wABSTRACT h0 n0 Z0 S_PUBLIC S_PRIVATE S_FINAL S_ABSTRACT ha8 ha28 ha35 ha42
    · exact rm2_ftfft l Z a0 hw ws a1 a2 wPUBLIC wPRIVATE wFINAL wABSTRACT h0 n0 Z0 S_PUBLIC S_PRIVATE S_FINAL S_ABSTRACT ha8 ha28 ha35 ha42
  by_cases ha53 : a1 = a2
  · exact rm2_fttf l Z a0 hw ws a1 a2 wPUBLIC wPRIVATE wFINAL wABSTRACT h0 n0 Z0 S_PUBLIC S_PRIVATE S_FINAL S_ABSTRACT ha8 ha28 ha53
  · exact rm2_fttt l Z a0 hw ws a1 a2 wPUBLIC wPRIVATE wFINAL wABSTRACT h0 n0 Z0 S_PUBLIC S_PRIVATE S_FINAL S_ABSTRACT ha8 ha28 ha53
theorem own_cE {Z : State} {h0 : Heap} (i : Int32) {wPUBLIC wPRIVATE wFINAL wABSTRACT : Addr} (E_PUBLIC : Exa Z h0 wPUBLIC "com/example/fallbak/fallbak/xslt/Visibility") (E_PRIVATE : Exa Z h0 wPRIVATE "com/example/fallbak/fallbak/xslt/Visibility") (E_FINAL : Exa Z h0 wFINAL "com/example/fallbak/fallbak/xslt/Visibility") (E_ABSTRACT : Exa Z h0 wABSTRACT "com/example/fallbak/fallbak/xslt/Visibility") : Exa Z h0 (own_c i wPUBLIC wPRIVATE wFINAL wABSTRACT) "com/example/fallbak/fallbak/xslt/Visibility" := by
  unfold own_c
  split
  · exact E_PUBLIC
  split
  · exact E_PRIVATE
  split
  · exact E_FINAL
  · exact E_ABSTRACT
def own_al (j : Nat) : Int32 := match j with
  | 0 => 7
  | 1 => 7
  | 2 => 2
  | 3 => 6
  | _ => 8
theorem own_rem (k K : Int32) (n : Nat) (hK : K.toInt = n) (h0 : 0 < n) (h1 : n < 100) : 0 ≤ ((k &&& (2147483647 : Int32)) - ((k &&& (2147483647 : Int32)) / K) * K).toInt ∧ ((k &&& (2147483647 : Int32)) - ((k &&& (2147483647 : Int32)) / K) * K).toInt < n := by
  have e1 : (k &&& (2147483647 : Int32)).toInt = k.toInt % 2 ^ 31 := Jvm.Kit.i32_mask k 2147483647 (k := 31) (by decide) (by decide)
  generalize (k &&& (2147483647 : Int32)) = u at *
  have hu : 0 ≤ u.toInt := by omega
  have b := u.toInt_lt
  have e2 : (u / K).toInt = u.toInt / n := by rw [Jvm.Kit.i32_div (by rw [hK]; omega), hK, Int.tdiv_eq_ediv_of_nonneg hu]
  have m1 : u.toInt / n * n ≤ u.toInt := Int.ediv_mul_le _ (by omega)
  have m0 : 0 ≤ u.toInt / n * n := Int.mul_nonneg (Int.ediv_nonneg hu (by omega)) (by omega)
  have e3 : (u / K * K).toInt = u.toInt / n * n := by rw [Jvm.Kit.i32_mul (by rw [e2, hK]; omega) (by rw [e2, hK]; omega), e2, hK]
  have e4 : (u - u / K * K).toInt = u.toInt % n := by rw [Jvm.Kit.i32_sub (by rw [e3]; omega) (by rw [e3]; omega), e3, Int.emod_def, Int.mul_comm]
  rw [e4]
  exact ⟨Int.emod_nonneg _ (by omega), Int.emod_lt_of_pos _ (by omega)⟩
theorem own_inb (k K : Int32) (n : Nat) (hK : K.toInt = n) (h0 : 0 < n) (h1 : n < 100) : ¬ ((k &&& (2147483647 : Int32)) - ((k &&& (2147483647 : Int32)) / K) * K) < 0 ∧ ((k &&& (2147483647 : Int32)) - ((k &&& (2147483647 : Int32)) / K) * K) < K := by
  have q := own_rem k K n hK h0 h1
  rw [Int32.lt_iff_toInt_lt, Int32.lt_iff_toInt_lt, hK, show (0 : Int32).toInt = 0 from rfl]
  omega
theorem own_is {c : Int32} {n : Int} (h : c.toInt = n) : c = Int32.ofInt n := by rw [← h, Int32.ofInt_toInt]
theorem own_t4 (k : Int32) : (((k &&& (2147483647 : Int32)) - ((k &&& (2147483647 : Int32)) / (4 : Int32)) * (4 : Int32))) = 0 ∨ (((k &&& (2147483647 : Int32)) - ((k &&& (2147483647 : Int32)) / (4 : Int32)) * (4 : Int32))) = 1 ∨ (((k &&& (2147483647 : Int32)) - ((k &&& (2147483647 : Int32)) / (4 : Int32)) * (4 : Int32))) = 2 ∨ (((k &&& (2147483647 : Int32)) - ((k &&& (2147483647 : Int32)) / (4 : Int32)) * (4 : Int32))) = 3 := by
  have q := own_rem k 4 4 rfl (by decide) (by decide)
  generalize ((k &&& (2147483647 : Int32)) - ((k &&& (2147483647 : Int32)) / (4 : Int32)) * (4 : Int32)) = c at *
  have r : c.toInt = 0 ∨ c.toInt = 1 ∨ c.toInt = 2 ∨ c.toInt = 3 := by omega
  rcases r with r | r | r | r
  · exact Or.inl (own_is r)
  · exact Or.inr (Or.inl (own_is r))
  · exact Or.inr (Or.inr (Or.inl (own_is r)))
  · exact Or.inr (Or.inr (Or.inr (own_is r)))
theorem own_d5 (k : Int32) : (((k &&& (2147483647 : Int32)) - ((k &&& (2147483647 : Int32)) / (5 : Int32)) * (5 : Int32))) = 0 ∨ (((k &&& (2147483647 : Int32)) - ((k &&& (2147483647 : Int32)) / (5 : Int32)) * (5 : Int32))) = 1 ∨ (((k &&& (2147483647 : Int32)) - ((k &&& (2147483647 : Int32)) / (5 : Int32)) * (5 : Int32))) = 2 ∨ (((k &&& (2147483647 : Int32)) - ((k &&& (2147483647 : Int32)) / (5 : Int32)) * (5 : Int32))) = 3 ∨ (((k &&& (2147483647 : Int32)) - ((k &&& (2147483647 : Int32)) / (5 : Int32)) * (5 : Int32))) = 4 := by
  have q := own_rem k 5 5 rfl (by decide) (by decide)
  generalize ((k &&& (2147483647 : Int32)) - ((k &&& (2147483647 : Int32)) / (5 : Int32)) * (5 : Int32)) = c at *
  have r : c.toInt = 0 ∨ c.toInt = 1 ∨ c.toInt = 2 ∨ c.toInt = 3 ∨ c.toInt = 4 := by omega
  rcases r with r | r | r | r | r
  · exact Or.inl (own_is r)
  · exact Or.inr (Or.inl (own_is r))
  · exact Or.inr (Or.inr (Or.inl (own_is r)))
  · exact Or.inr (Or.inr (Or.inr (Or.inl (own_is r))))
  · exact Or.inr (Or.inr (Or.inr (Or.inr (own_is r))))
theorem own_Ext {h h' : Heap} (K : Keep h h' []) : Ext h h' := ⟨K.1, fun a c q => K.2.1 a c q nin0⟩
def own_bit (t d : Int32) : Int32 := (own_al d.toNatClampNeg >>> (t &&& 31)) &&& (1 : Int32)
theorem own_ord {args : Array Value} {s : State} {t : Term} {a : Addr} {k : Int32} (ev : t.eval args s none [] s = some (.ref a)) (o : (Cond.eq (Term.field t "java/lang/Enum" "ordinal" "I") (Term.int k)).value args s none s [] = some true) : s.fieldOf? a "java/lang/Enum" "ordinal" "I" = some (.int k) := by
  have e1 := fld_at (C := "java/lang/Enum") (n := "ordinal") (dd := "I") ev
  obtain ⟨x, y, h1, h2, -, h4⟩ := cmp_v (Or.inl o)
  have h5 : y = .int k := Option.some.inj (h2.symm.trans (Term.int_eval k))
  subst h5
  obtain ⟨z, rfl⟩ : ∃ z, x = .int z := h4
  have h6 : z = k := by simpa [Cond.value, h1, Term.int_eval] using o
  subst h6
  rw [← e1]; exact h1
theorem own_ne {s : State} {a b : Addr} {i j : Int32} (f : s.fieldOf? a "java/lang/Enum" "ordinal" "I" = some (.int i)) (g : s.fieldOf? b "java/lang/Enum" "ordinal" "I" = some (.int j)) (h : ¬ i = j) : a ≠ b := fun e => by
  subst e
  exact h (Value.int.inj (Option.some.inj (f.symm.trans g)))
def Q0 (Z : State) (p1 : Int32) (p2 : Int32) (h0 : Heap) (n0 : Nat) (v : Option Value) (h : Heap) (L : List Loc) : Prop := v = some (.int (1 : Int32)) ∧ Fr n0 L
set_option maxRecDepth 65536 in
set_option maxHeartbeats 40000000 in
theorem rm0_fff (l : Launch) (Z : State) (a0 : Array Value) (hw : ∀ d ∈ tables_1, d.before a0 Z = true) (ws : List Jvm.Cond) (p1 : Int32) (p2 : Int32) (wPUBLIC wPRIVATE wFINAL wABSTRACT : Addr) (h0 : Heap) (n0 : Nat) (Z0 : n0 ≤ h0.size) (S_PUBLIC : Sta Z h0 "com/example/fallbak/fallbak/xslt/Visibility" "PUBLIC" "Lcom/example/fallbak/fallbak/xslt/Visibility;" (.ref wPUBLIC)) (S_PRIVATE : Sta Z h0 "com/example/fallbak/fallbak/xslt/Visibility" "PRIVATE" "Lcom/example/fallbak/fallbak/xslt/Visibility;" (.ref wPRIVATE)) (S_FINAL : Sta Z h0 "com/example/fallbak/fallbak/xslt/Visibility" "FINAL" "Lcom/example/fallbak/fallbak/xslt/Visibility;" (.ref wFINAL)) (S_ABSTRACT : Sta Z h0 "com/example/fallbak/fallbak/xslt/Visibility" "ABSTRACT" "Lcom/example/fallbak/fallbak/xslt/Visibility;" (.ref wABSTRACT)) (E_PUBLIC : Exa Z h0 wPUBLIC "com/example/fallbak/fallbak/xslt/Visibility") (E_PRIVATE : Exa Z h0 wPRIVATE "com/example/fallbak/fallbak/xslt/Visibility") (E_FINAL : Exa Z h0 wFINAL "com/example/fallbak/fallbak/xslt/Visibility") (E_ABSTRACT : Exa Z h0 wABSTRACT "com/example/fallbak/fallbak/xslt/Visibility") (hc21 : ((p2 &&& (2147483647 : Int32)) - ((p2 &&& (2147483647 : Int32)) / (5 : Int32)) * (5 : Int32)) = (0 : Int32)) (hc73 : ¬ own_bit ((p1 &&& (2147483647 : Int32)) - ((p1 &&& (2147483647 : Int32)) / (4 : Int32)) * (4 : Int32)) ((p2 &&& (2147483647 : Int32)) - ((p2 &&& (2147483647 : Int32)) / (5 : Int32)) * (5 : Int32)) = (0 : Int32)) (h92 : own_n (own_c ((p1 &&& (2147483647 : Int32)) - ((p1 &&& (2147483647 : Int32)) / (4 : Int32)) * (4 : Int32)) wPUBLIC wPRIVATE wFINAL wABSTRACT) wPUBLIC wPRIVATE wFINAL wABSTRACT = (1 : Int32)) :
    MetFree l x (head1 (Jvm.Cond.code x code maxLocals ret :: ws) room_1) (fun a U => a = #[(.int p1), (.int p2)] ∧ Z.Warmed39 U.vm ∧ U.heap = h0) (fun _ _ _ _ _ => True) (fun _ U o U' => ∃ v L, o = .returned v ∧ Q0 Z p1 p2 h0 n0 v U'.heap L ∧ FrameEnd U o U' L room_1.cells room_1.slots) := by
  refine MetFree.of_bodySF (plainFor_of_name pn_0) hisR ?_
  intro p e s m args below meth c s₁ Bd hml0 hP hK
  obtain ⟨rfl, hZ, hh⟩ := hP
  have hx := Bd.exec
  have hby := Bd.bytes
  have hml : c.maxLocals = 8 := hml0
  have hown : s.vm.findClass "com/example/fallbak/fallbak/xslt/VisibilityMayBeExposedOnPinLaw" = some m.cls := findClass_of_methodNamed Bd.named
  have hnm := (name_of_methodNamed Bd.named Bd.method).1
  have X0 : Stand p l e room_1 s m #[(.int p1), (.int p2)] below meth c s₁ [] 0 0 := Stand.of_body Bd
  have e0 : s₁.heap = h0 := by rw [← hh, Bd.state]; rfl
  have N0 := Fr.nil n0
  have pre0 : ∀ t, Steps p.tables e below (s₁.setTop (mkF m 0 #[.val (.int p1), .val (.int p2), .unset, .unset, .unset, .unset, .unset, .unset] [])) t → Steps p.tables e below (s₁.setTop (entryFrame m #[(.int p1), (.int p2)] maxLocals)) t := fun t k => castTop (ef_0 m p1 p2) k
  obtain ⟨_, _, ⟨T3, L3, k3, n3⟩, -, X3, ⟨Lc3, hQ3, l3, y3, z3⟩, st3⟩ := Jvm.LawKit.callS X0 hx (y := (⟨"com/example/fallbak/fallbak/xslt/VisibilityMayBeExposedOnPinLaw", "constant", "(I)Lcom/example/fallbak/fallbak/xslt/Visibility;"⟩ : MethodName)) hown (mvT hZ (hw _ (List.mem_of_getElem? (i := 1) rfl))) (mvT hZ (hw _ (List.mem_of_getElem? (i := 2) rfl))) (mvT hZ (hw _ (List.mem_of_getElem? (i := 3) rfl))) (mvT hZ (hw _ (List.mem_of_getElem? (i := 4) rfl))) (by decide) (backOf (W := 0) (rm1 l Z a0 hw [] ((p1 &&& (2147483647 : Int32)) - ((p1 &&& (2147483647 : Int32)) / (4 : Int32)) * (4 : Int32)) wPUBLIC wPRIVATE wFINAL wABSTRACT h0 n0 Z0 S_PUBLIC S_PRIVATE S_FINAL S_ABSTRACT) hZ (hw _ (List.mem_of_getElem? (i := 4) rfl)) (hw _ (List.mem_of_getElem? (i := 3) rfl)) (by decide) (by decide)) (g := (mkF m 15 #[.val (.int p1), .val (.int p2), .val (.int ((p1 &&& (2147483647 : Int32)) - ((p1 &&& (2147483647 : Int32)) / (4 : Int32)) * (4 : Int32))), .val (.int ((p2 &&& (2147483647 : Int32)) - ((p2 &&& (2147483647 : Int32)) / (5 : Int32)) * (5 : Int32))), .unset, .unset, .unset, .unset] [(.int ((p1 &&& (2147483647 : Int32)) - ((p1 &&& (2147483647 : Int32)) / (4 : Int32)) * (4 : Int32)))])) rfl (by rw [hml]; rfl) (argsL := [(.int ((p1 &&& (2147483647 : Int32)) - ((p1 &&& (2147483647 : Int32)) / (4 : Int32)) * (4 : Int32)))]) (rest := []) (lenOf pd_0_0 rfl) rfl (by show 2 * 0 + _ ≤ _; exact Nat.le_of_eq rfl) (hb hby at_15) (fun _ _ => ⟨rfl, e0, (by decide : 0 + 0 ≤ _), (by decide : 0 + 0 ≤ _)⟩)
  dsimp only [Pt.U, Pt.locs, Pt.cells, Pt.slots] at X3 l3 y3 z3 st3 hQ3
  subst l3 y3 z3
  obtain ⟨rfl, N3q, eh3⟩ := hQ3
  have N3 := Fr.app N0 N3q
  have KC3 : Keep h0 T3.heap [] := by rw [eh3]; exact Keep.refl _ _
  have E_c := own_cE (Z := Z) (h0 := h0) ((p1 &&& (2147483647 : Int32)) - ((p1 &&& (2147483647 : Int32)) / (4 : Int32)) * (4 : Int32)) E_PUBLIC E_PRIVATE E_FINAL E_ABSTRACT
  obtain ⟨T4, h4, k4, X4, e4, E4, A4, st4⟩ := newP X3 hx hZ (hw _ (List.mem_of_getElem? (i := 10) rfl)) rfl (g := (mkF m 37 #[.val (.int p1), .val (.int p2), .val (.int ((p1 &&& (2147483647 : Int32)) - ((p1 &&& (2147483647 : Int32)) / (4 : Int32)) * (4 : Int32))), .val (.int ((p2 &&& (2147483647 : Int32)) - ((p2 &&& (2147483647 : Int32)) / (5 : Int32)) * (5 : Int32))), .val (.ref (own_c ((p1 &&& (2147483647 : Int32)) - ((p1 &&& (2147483647 : Int32)) / (4 : Int32)) * (4 : Int32)) wPUBLIC wPRIVATE wFINAL wABSTRACT)), .val .null, .unset, .unset] [(.int (5 : Int32))])) rfl (hb hby at_37) rfl (by decide) (cap := 5) (by decide) (by decide) (by decide) (by decide)
  obtain ⟨b4, g4⟩ : ∃ z, z = T3.heap.size := ⟨_, rfl⟩
  rw [← g4] at A4 st4
  have V_b4 : Arv Z h4 b4 k4 .int (5 : Int32) [(.int (0 : Int32)), (.int (0 : Int32)), (.int (0 : Int32)), (.int (0 : Int32)), (.int (0 : Int32))] (.int (0 : Int32)) := (Arv.new A4 (by decide)).pad (pad_rep [] (.int (0 : Int32)) 5)
  have g_b4 : n0 ≤ b4 := Nat.le_trans (Nat.le_trans Z0 KC3.1) (Nat.le_of_eq g4.symm)
  have sz_b4 : h0.size ≤ b4 := (Nat.le_trans KC3.1 (Nat.le_of_eq g4.symm))
  have K4 : Keep h0 h4 [] := KC3.ext E4
  obtain ⟨cl_b4_43, Ar_b4, q_b4, S_b4, N_b4, H_b4, G_b4⟩ := V_b4
  have hin43 : ¬ ((0 : Int32) < 0 ∨ cl_b4_43.slots.size ≤ ((0 : Int32)).toNatClampNeg) := inb_of S_b4 ⟨by decide, by decide⟩
  obtain ⟨T5, h5, X5, e5, W5, st5⟩ := stI X4 hx hZ e4 Ar_b4 (j := (0 : Int32)) hin43 (g := (mkF m 43 #[.val (.int p1), .val (.int p2), .val (.int ((p1 &&& (2147483647 : Int32)) - ((p1 &&& (2147483647 : Int32)) / (4 : Int32)) * (4 : Int32))), .val (.int ((p2 &&& (2147483647 : Int32)) - ((p2 &&& (2147483647 : Int32)) / (5 : Int32)) * (5 : Int32))), .val (.ref (own_c ((p1 &&& (2147483647 : Int32)) - ((p1 &&& (2147483647 : Int32)) / (4 : Int32)) * (4 : Int32)) wPUBLIC wPRIVATE wFINAL wABSTRACT)), .val .null, .unset, .unset] [(.int (7 : Int32)), (.int (0 : Int32)), (.ref b4), (.ref b4)])) rfl rfl (hb hby at_43)
  have V_b4_5 := Arv.set Ar_b4 q_b4 S_b4 N_b4 H_b4 G_b4 rfl W5 0 rfl (Nat.le_of_ble_eq_true rfl)
  have K5 : Keep h0 h5 [] := K4.wr W5 (Or.inr sz_b4)
  have N5 := Fr.snoc X5 N3 g_b4
  obtain ⟨cl_b4_48, Ar_b4, q_b4, S_b4, N_b4, H_b4, G_b4⟩ := V_b4_5
  have hin48 : ¬ ((1 : Int32) < 0 ∨ cl_b4_48.slots.size ≤ ((1 : Int32)).toNatClampNeg) := inb_of S_b4 ⟨by decide, by decide⟩
  obtain ⟨T6, h6, X6, e6, W6, st6⟩ := stI X5 hx hZ e5 Ar_b4 (j := (1 : Int32)) hin48 (g := (mkF m 48 #[.val (.int p1), .val (.int p2), .val (.int ((p1 &&& (2147483647 : Int32)) - ((p1 &&& (2147483647 : Int32)) / (4 : Int32)) * (4 : Int32))), .val (.int ((p2 &&& (2147483647 : Int32)) - ((p2 &&& (2147483647 : Int32)) / (5 : Int32)) * (5 : Int32))), .val (.ref (own_c ((p1 &&& (2147483647 : Int32)) - ((p1 &&& (2147483647 : Int32)) / (4 : Int32)) * (4 : Int32)) wPUBLIC wPRIVATE wFINAL wABSTRACT)), .val .null, .unset, .unset] [(.int (7 : Int32)), (.int (1 : Int32)), (.ref b4), (.ref b4)])) rfl rfl (hb hby at_48)
  have V_b4_6 := Arv.set Ar_b4 q_b4 S_b4 N_b4 H_b4 G_b4 rfl W6 1 rfl (Nat.le_of_ble_eq_true rfl)
  have K6 : Keep h0 h6 [] := K5.wr W6 (Or.inr sz_b4)
  have N6 := Fr.snoc X6 N5 g_b4
  obtain ⟨cl_b4_52, Ar_b4, q_b4, S_b4, N_b4, H_b4, G_b4⟩ := V_b4_6
  have hin52 : ¬ ((2 : Int32) < 0 ∨ cl_b4_52.slots.size ≤ ((2 : Int32)).toNatClampNeg) := inb_of S_b4 ⟨by decide, by decide⟩
  obtain ⟨T7, h7, X7, e7, W7, st7⟩ := stI X6 hx hZ e6 Ar_b4 (j := (2 : Int32)) hin52 (g := (mkF m 52 #[.val (.int p1), .val (.int p2), .val (.int ((p1 &&& (2147483647 : Int32)) - ((p1 &&& (2147483647 : Int32)) / (4 : Int32)) * (4 : Int32))), .val (.int ((p2 &&& (2147483647 : Int32)) - ((p2 &&& (2147483647 : Int32)) / (5 : Int32)) * (5 : Int32))), .val (.ref (own_c ((p1 &&& (2147483647 : Int32)) - ((p1 &&& (2147483647 : Int32)) / (4 : Int32)) * (4 : Int32)) wPUBLIC wPRIVATE wFINAL wABSTRACT)), .val .null, .unset, .unset] [(.int (2 : Int32)), (.int (2 : Int32)), (.ref b4), (.ref b4)])) rfl rfl (hb hby at_52)
  have V_b4_7 := Arv.set Ar_b4 q_b4 S_b4 N_b4 H_b4 G_b4 rfl W7 2 rfl (Nat.le_of_ble_eq_true rfl)
  have K7 : Keep h0 h7 [] := K6.wr W7 (Or.inr sz_b4)
  have N7 := Fr.snoc X7 N6 g_b4
  obtain ⟨cl_b4_57, Ar_b4, q_b4, S_b4, N_b4, H_b4, G_b4⟩ := V_b4_7
  have hin57 : ¬ ((3 : Int32) < 0 ∨ cl_b4_57.slots.size ≤ ((3 : Int32)).toNatClampNeg) := inb_of S_b4 ⟨by decide, by decide⟩
  obtain ⟨T8, h8, X8, e8, W8, st8⟩ := stI X7 hx hZ e7 Ar_b4 (j := (3 : Int32)) hin57 (g := (mkF m 57 #[.val (.int p1), .val (.int p2), .val (.int ((p1 &&& (2147483647 : Int32)) - ((p1 &&& (2147483647 : Int32)) / (4 : Int32)) * (4 : Int32))), .val (.int ((p2 &&& (2147483647 : Int32)) - ((p2 &&& (2147483647 : Int32)) / (5 : Int32)) * (5 : Int32))), .val (.ref (own_c ((p1 &&& (2147483647 : Int32)) - ((p1 &&& (2147483647 : Int32)) / (4 : Int32)) * (4 : Int32)) wPUBLIC wPRIVATE wFINAL wABSTRACT)), .val .null, .unset, .unset] [(.int (6 : Int32)), (.int (3 : Int32)), (.ref b4), (.ref b4)])) rfl rfl (hb hby at_57)
  have V_b4_8 := Arv.set Ar_b4 q_b4 S_b4 N_b4 H_b4 G_b4 rfl W8 3 rfl (Nat.le_of_ble_eq_true rfl)
  have K8 : Keep h0 h8 [] := K7.wr W8 (Or.inr sz_b4)
  have N8 := Fr.snoc X8 N7 g_b4
  obtain ⟨cl_b4_62, Ar_b4, q_b4, S_b4, N_b4, H_b4, G_b4⟩ := V_b4_8
  have hin62 : ¬ ((4 : Int32) < 0 ∨ cl_b4_62.slots.size ≤ ((4 : Int32)).toNatClampNeg) := inb_of S_b4 ⟨by decide, by decide⟩
  obtain ⟨T9, h9, X9, e9, W9, st9⟩ := stI X8 hx hZ e8 Ar_b4 (j := (4 : Int32)) hin62 (g := (mkF m 62 #[.val (.int p1), .val (.int p2), .val (.int ((p1 &&& (2147483647 : Int32)) - ((p1 &&& (2147483647 : Int32)) / (4 : Int32)) * (4 : Int32))), .val (.int ((p2 &&& (2147483647 : Int32)) - ((p2 &&& (2147483647 : Int32)) / (5 : Int32)) * (5 : Int32))), .val (.ref (own_c ((p1 &&& (2147483647 : Int32)) - ((p1 &&& (2147483647 : Int32)) / (4 : Int32)) * (4 : Int32)) wPUBLIC wPRIVATE wFINAL wABSTRACT)), .val .null, .unset, .unset] [(.int (8 : Int32)), (.int (4 : Int32)), (.ref b4), (.ref b4)])) rfl rfl (hb hby at_62)
  have V_b4_9 := Arv.set Ar_b4 q_b4 S_b4 N_b4 H_b4 G_b4 rfl W9 4 rfl (Nat.le_of_ble_eq_true rfl)
  have K9 : Keep h0 h9 [] := K8.wr W9 (Or.inr sz_b4)
  have N9 := Fr.snoc X9 N8 g_b4
  obtain ⟨cl_x, Ar_b4, q_x, S_x, N_x, H_x, G_x⟩ := V_b4_9
  have hin68 : ¬ (((p2 &&& (2147483647 : Int32)) - ((p2 &&& (2147483647 : Int32)) / (5 : Int32)) * (5 : Int32)) < 0 ∨ cl_x.slots.size ≤ (((p2 &&& (2147483647 : Int32)) - ((p2 &&& (2147483647 : Int32)) / (5 : Int32)) * (5 : Int32))).toNatClampNeg) := inb_of S_x (own_inb p2 5 5 rfl (by decide) (by decide))
  obtain ⟨w10, hW0⟩ : ∃ w, w = own_al (((p2 &&& (2147483647 : Int32)) - ((p2 &&& (2147483647 : Int32)) / (5 : Int32)) * (5 : Int32))).toNatClampNeg := ⟨_, rfl⟩
  have hat68 : cl_x.slots[(((p2 &&& (2147483647 : Int32)) - ((p2 &&& (2147483647 : Int32)) / (5 : Int32)) * (5 : Int32))).toNatClampNeg]? = some (.int w10) := by
    have hlt : (((p2 &&& (2147483647 : Int32)) - ((p2 &&& (2147483647 : Int32)) / (5 : Int32)) * (5 : Int32))).toNatClampNeg < cl_x.slots.size := Nat.lt_of_not_le fun q => hin68 (Or.inr q)
    rw [H_x _ hlt, hW0]
    rcases own_d5 p2 with r | r | r | r | r <;> rw [r] <;> rfl
  have hc73' : ¬ ((w10 >>> (((p1 &&& (2147483647 : Int32)) - ((p1 &&& (2147483647 : Int32)) / (4 : Int32)) * (4 : Int32)) &&& 31)) &&& (1 : Int32)) = (0 : Int32) := by rw [hW0]; exact hc73
  have S' : ∀ {n : String} {v : Value}, Sta Z h0 "com/example/fallbak/fallbak/xslt/Visibility" n "Lcom/example/fallbak/fallbak/xslt/Visibility;" v → Sta Z h9 "com/example/fallbak/fallbak/xslt/Visibility" n "Lcom/example/fallbak/fallbak/xslt/Visibility;" v := fun F => Sta.ext (own_Ext K9) F
  obtain ⟨cq11, kq11, q11a, q11b, q11c⟩ := isOf hZ e9 (((((((E_c.keep KC3).ext E4).wr W5).wr W6).wr W7).wr W8).wr W9)
  obtain ⟨_, _, ⟨T11, L11, k11, n11⟩, -, X11, ⟨Lc11, hQ11, l11, y11, z11⟩, st11⟩ := X9.virtualBack hx (y := (⟨"com/example/fallbak/fallbak/xslt/Visibility", "mayBeExposedOn", "(Lcom/example/fallbak/fallbak/xslt/Visibility;)Z"⟩ : MethodName)) (z := (⟨"com/example/fallbak/fallbak/xslt/Visibility", "mayBeExposedOn", "(Lcom/example/fallbak/fallbak/xslt/Visibility;)Z"⟩ : MethodName)) hown (mvT hZ (hw _ (List.mem_of_getElem? (i := 11) rfl))) (mvT hZ (hw _ (List.mem_of_getElem? (i := 12) rfl))) (notFace_of_selects (args := #[]) (mvT hZ (hw _ (List.mem_of_getElem? (i := 14) rfl)))) (mvT hZ (hw _ (List.mem_of_getElem? (i := 14) rfl))) (mvT hZ (hw _ (List.mem_of_getElem? (i := 13) rfl))) (by decide) (backOf (W := 0) (rm2n l Z a0 hw [] (own_c ((p1 &&& (2147483647 : Int32)) - ((p1 &&& (2147483647 : Int32)) / (4 : Int32)) * (4 : Int32)) wPUBLIC wPRIVATE wFINAL wABSTRACT) wPUBLIC wPRIVATE wFINAL wABSTRACT h9 n0 (Nat.le_trans Z0 K9.1) (S' S_PUBLIC) (S' S_PRIVATE) (S' S_FINAL) (S' S_ABSTRACT)) hZ (hw _ (List.mem_of_getElem? (i := 15) rfl)) (hw _ (List.mem_of_getElem? (i := 6) rfl)) (by decide) (by decide)) q11a q11c (g := (mkF m 87 #[.val (.int p1), .val (.int p2), .val (.int ((p1 &&& (2147483647 : Int32)) - ((p1 &&& (2147483647 : Int32)) / (4 : Int32)) * (4 : Int32))), .val (.int ((p2 &&& (2147483647 : Int32)) - ((p2 &&& (2147483647 : Int32)) / (5 : Int32)) * (5 : Int32))), .val (.ref (own_c ((p1 &&& (2147483647 : Int32)) - ((p1 &&& (2147483647 : Int32)) / (4 : Int32)) * (4 : Int32)) wPUBLIC wPRIVATE wFINAL wABSTRACT)), .val .null, .val (.ref b4), .val (.int (1 : Int32))] [.null, (.ref (own_c ((p1 &&& (2147483647 : Int32)) - ((p1 &&& (2147483647 : Int32)) / (4 : Int32)) * (4 : Int32)) wPUBLIC wPRIVATE wFINAL wABSTRACT))])) rfl (by rw [hml]; rfl) (Steps.refl _) (argsL := [.null]) (rest := []) (lenOf pd_0_1 rfl) rfl (by show 2 * 0 + _ ≤ _; exact Nat.le_of_eq rfl) (hb hby at_87) (fun _ _ => ⟨rfl, e9, (by decide : 1 + 0 ≤ _), (by decide : 5 + 0 ≤ _)⟩)
  dsimp only [Pt.U, Pt.locs, Pt.cells, Pt.slots] at X11 l11 y11 z11 st11 hQ11
  subst l11 y11 z11
  obtain ⟨rfl, N11q, eh_2⟩ := hQ11
  have N11 := Fr.app N9 N11q
  obtain ⟨fs, hr, hrun, hended, hW, hsame⟩ := X11.leave (v := some (.int (1 : Int32))) (fun h => by rw [Bd.returns] at h; cases h)
  refine ⟨_, _, pre0 _ ?_, hrun, hended, _, _, rfl, ?_, ⟨_, rfl⟩, hW, hsame.mono (by decide) (by decide)⟩
  · show Steps p.tables e below (s₁.setTop (mkF m 0 #[.val (.int p1), .val (.int p2), .unset, .unset, .unset, .unset, .unset, .unset] [])) _
    refine XS.iloadN X0.here hx rfl (hb hby at_0) rfl ?_
    show Steps p.tables e below (s₁.setTop (mkF m 1 #[.val (.int p1), .val (.int p2), .unset, .unset, .unset, .unset, .unset, .unset] [(.int p1)])) _
    refine X0.ldcInt hx hown (mvT hZ (hw _ (List.mem_of_getElem? (i := 0) rfl))) (g := (mkF m 1 #[.val (.int p1), .val (.int p2), .unset, .unset, .unset, .unset, .unset, .unset] [(.int p1)])) rfl (hb hby at_1) _ ?_
    show Steps p.tables e below (s₁.setTop (mkF m 3 #[.val (.int p1), .val (.int p2), .unset, .unset, .unset, .unset, .unset, .unset] [(.int (2147483647 : Int32)), (.int p1)])) _
    refine XS.iand X0.here hx rfl (hb hby at_3) rfl ?_
    show Steps p.tables e below (s₁.setTop (mkF m 4 #[.val (.int p1), .val (.int p2), .unset, .unset, .unset, .unset, .unset, .unset] [(.int (p1 &&& (2147483647 : Int32)))])) _
    refine XS.iconst X0.here hx rfl (hb hby at_4) ?_
    show Steps p.tables e below (s₁.setTop (mkF m 5 #[.val (.int p1), .val (.int p2), .unset, .unset, .unset, .unset, .unset, .unset] [(.int (4 : Int32)), (.int (p1 &&& (2147483647 : Int32)))])) _
    refine XS.irem X0.here hx rfl (hb hby at_5) rfl (by decide) ?_
    show Steps p.tables e below (s₁.setTop (mkF m 6 #[.val (.int p1), .val (.int p2), .unset, .unset, .unset, .unset, .unset, .unset] [(.int ((p1 &&& (2147483647 : Int32)) - ((p1 &&& (2147483647 : Int32)) / (4 : Int32)) * (4 : Int32)))])) _
    refine XS.istoreN X0.here hx rfl (hb hby at_6) rfl (l' := #[.val (.int p1), .val (.int p2), .val (.int ((p1 &&& (2147483647 : Int32)) - ((p1 &&& (2147483647 : Int32)) / (4 : Int32)) * (4 : Int32))), .unset, .unset, .unset, .unset, .unset]) rfl ?_
    show Steps p.tables e below (s₁.setTop (mkF m 7 #[.val (.int p1), .val (.int p2), .val (.int ((p1 &&& (2147483647 : Int32)) - ((p1 &&& (2147483647 : Int32)) / (4 : Int32)) * (4 : Int32))), .unset, .unset, .unset, .unset, .unset] [])) _
    refine XS.iloadN X0.here hx rfl (hb hby at_7) rfl ?_
    show Steps p.tables e below (s₁.setTop (mkF m 8 #[.val (.int p1), .val (.int p2), .val (.int ((p1 &&& (2147483647 : Int32)) - ((p1 &&& (2147483647 : Int32)) / (4 : Int32)) * (4 : Int32))), .unset, .unset, .unset, .unset, .unset] [(.int p2)])) _
    refine X0.ldcInt hx hown (mvT hZ (hw _ (List.mem_of_getElem? (i := 0) rfl))) (g := (mkF m 8 #[.val (.int p1), .val (.int p2), .val (.int ((p1 &&& (2147483647 : Int32)) - ((p1 &&& (2147483647 : Int32)) / (4 : Int32)) * (4 : Int32))), .unset, .unset, .unset, .unset, .unset] [(.int p2)])) rfl (hb hby at_8) _ ?_
    show Steps p.tables e below (s₁.setTop (mkF m 10 #[.val (.int p1), .val (.int p2), .val (.int ((p1 &&& (2147483647 : Int32)) - ((p1 &&& (2147483647 : Int32)) / (4 : Int32)) * (4 : Int32))), .unset, .unset, .unset, .unset, .unset] [(.int (2147483647 : Int32)), (.int p2)])) _
    refine XS.iand X0.here hx rfl (hb hby at_10) rfl ?_
    show Steps p.tables e below (s₁.setTop (mkF m 11 #[.val (.int p1), .val (.int p2), .val (.int ((p1 &&& (2147483647 : Int32)) - ((p1 &&& (2147483647 : Int32)) / (4 : Int32)) * (4 : Int32))), .unset, .unset, .unset, .unset, .unset] [(.int (p2 &&& (2147483647 : Int32)))])) _
    refine XS.iconst X0.here hx rfl (hb hby at_11) ?_
    show Steps p.tables e below (s₁.setTop (mkF m 12 #[.val (.int p1), .val (.int p2), .val (.int ((p1 &&& (2147483647 : Int32)) - ((p1 &&& (2147483647 : Int32)) / (4 : Int32)) * (4 : Int32))), .unset, .unset, .unset, .unset, .unset] [(.int (5 : Int32)), (.int (p2 &&& (2147483647 : Int32)))])) _
    refine XS.irem X0.here hx rfl (hb hby at_12) rfl (by decide) ?_
    show Steps p.tables e below (s₁.setTop (mkF m 13 #[.val (.int p1), .val (.int p2), .val (.int ((p1 &&& (2147483647 : Int32)) - ((p1 &&& (2147483647 : Int32)) / (4 : Int32)) * (4 : Int32))), .unset, .unset, .unset, .unset, .unset] [(.int ((p2 &&& (2147483647 : Int32)) - ((p2 &&& (2147483647 : Int32)) / (5 : Int32)) * (5 : Int32)))])) _
    refine XS.istoreN X0.here hx rfl (hb hby at_13) rfl (l' := #[.val (.int p1), .val (.int p2), .val (.int ((p1 &&& (2147483647 : Int32)) - ((p1 &&& (2147483647 : Int32)) / (4 : Int32)) * (4 : Int32))), .val (.int ((p2 &&& (2147483647 : Int32)) - ((p2 &&& (2147483647 : Int32)) / (5 : Int32)) * (5 : Int32))), .unset, .unset, .unset, .unset]) rfl ?_
    show Steps p.tables e below (s₁.setTop (mkF m 14 #[.val (.int p1), .val (.int p2), .val (.int ((p1 &&& (2147483647 : Int32)) - ((p1 &&& (2147483647 : Int32)) / (4 : Int32)) * (4 : Int32))), .val (.int ((p2 &&& (2147483647 : Int32)) - ((p2 &&& (2147483647 : Int32)) / (5 : Int32)) * (5 : Int32))), .unset, .unset, .unset, .unset] [])) _
    refine XS.iloadN X0.here hx rfl (hb hby at_14) rfl ?_
    show Steps p.tables e below (s₁.setTop (mkF m 15 #[.val (.int p1), .val (.int p2), .val (.int ((p1 &&& (2147483647 : Int32)) - ((p1 &&& (2147483647 : Int32)) / (4 : Int32)) * (4 : Int32))), .val (.int ((p2 &&& (2147483647 : Int32)) - ((p2 &&& (2147483647 : Int32)) / (5 : Int32)) * (5 : Int32))), .unset, .unset, .unset, .unset] [(.int ((p1 &&& (2147483647 : Int32)) - ((p1 &&& (2147483647 : Int32)) / (4 : Int32)) * (4 : Int32)))])) _
    refine st3 _ ?_
    show Steps p.tables e below (T3.setTop (mkF m 18 #[.val (.int p1), .val (.int p2), .val (.int ((p1 &&& (2147483647 : Int32)) - ((p1 &&& (2147483647 : Int32)) / (4 : Int32)) * (4 : Int32))), .val (.int ((p2 &&& (2147483647 : Int32)) - ((p2 &&& (2147483647 : Int32)) / (5 : Int32)) * (5 : Int32))), .unset, .unset, .unset, .unset] [(.ref (own_c ((p1 &&& (2147483647 : Int32)) - ((p1 &&& (2147483647 : Int32)) / (4 : Int32)) * (4 : Int32)) wPUBLIC wPRIVATE wFINAL wABSTRACT))])) _
    refine XS.astore X3.here hx rfl (hb hby at_18) rfl rfl (l' := #[.val (.int p1), .val (.int p2), .val (.int ((p1 &&& (2147483647 : Int32)) - ((p1 &&& (2147483647 : Int32)) / (4 : Int32)) * (4 : Int32))), .val (.int ((p2 &&& (2147483647 : Int32)) - ((p2 &&& (2147483647 : Int32)) / (5 : Int32)) * (5 : Int32))), .val (.ref (own_c ((p1 &&& (2147483647 : Int32)) - ((p1 &&& (2147483647 : Int32)) / (4 : Int32)) * (4 : Int32)) wPUBLIC wPRIVATE wFINAL wABSTRACT)), .unset, .unset, .unset]) rfl ?_
    show Steps p.tables e below (T3.setTop (mkF m 20 #[.val (.int p1), .val (.int p2), .val (.int ((p1 &&& (2147483647 : Int32)) - ((p1 &&& (2147483647 : Int32)) / (4 : Int32)) * (4 : Int32))), .val (.int ((p2 &&& (2147483647 : Int32)) - ((p2 &&& (2147483647 : Int32)) / (5 : Int32)) * (5 : Int32))), .val (.ref (own_c ((p1 &&& (2147483647 : Int32)) - ((p1 &&& (2147483647 : Int32)) / (4 : Int32)) * (4 : Int32)) wPUBLIC wPRIVATE wFINAL wABSTRACT)), .unset, .unset, .unset] [])) _
    refine XS.iloadN X3.here hx rfl (hb hby at_20) rfl ?_
    show Steps p.tables e below (T3.setTop (mkF m 21 #[.val (.int p1), .val (.int p2), .val (.int ((p1 &&& (2147483647 : Int32)) - ((p1 &&& (2147483647 : Int32)) / (4 : Int32)) * (4 : Int32))), .val (.int ((p2 &&& (2147483647 : Int32)) - ((p2 &&& (2147483647 : Int32)) / (5 : Int32)) * (5 : Int32))), .val (.ref (own_c ((p1 &&& (2147483647 : Int32)) - ((p1 &&& (2147483647 : Int32)) / (4 : Int32)) * (4 : Int32)) wPUBLIC wPRIVATE wFINAL wABSTRACT)), .unset, .unset, .unset] [(.int ((p2 &&& (2147483647 : Int32)) - ((p2 &&& (2147483647 : Int32)) / (5 : Int32)) * (5 : Int32)))])) _
    refine XS.ifNo X3.here hx rfl (hb hby at_21) rfl ((if0 _ _).trans (teq hc21).2) ?_
    show Steps p.tables e below (T3.setTop (mkF m 24 #[.val (.int p1), .val (.int p2), .val (.int ((p1 &&& (2147483647 : Int32)) - ((p1 &&& (2147483647 : Int32)) / (4 : Int32)) * (4 : Int32))), .val (.int ((p2 &&& (2147483647 : Int32)) - ((p2 &&& (2147483647 : Int32)) / (5 : Int32)) * (5 : Int32))), .val (.ref (own_c ((p1 &&& (2147483647 : Int32)) - ((p1 &&& (2147483647 : Int32)) / (4 : Int32)) * (4 : Int32)) wPUBLIC wPRIVATE wFINAL wABSTRACT)), .unset, .unset, .unset] [])) _
    refine XS.aconstNull X3.here hx rfl (hb hby at_24) ?_
    show Steps p.tables e below (T3.setTop (mkF m 25 #[.val (.int p1), .val (.int p2), .val (.int ((p1 &&& (2147483647 : Int32)) - ((p1 &&& (2147483647 : Int32)) / (4 : Int32)) * (4 : Int32))), .val (.int ((p2 &&& (2147483647 : Int32)) - ((p2 &&& (2147483647 : Int32)) / (5 : Int32)) * (5 : Int32))), .val (.ref (own_c ((p1 &&& (2147483647 : Int32)) - ((p1 &&& (2147483647 : Int32)) / (4 : Int32)) * (4 : Int32)) wPUBLIC wPRIVATE wFINAL wABSTRACT)), .unset, .unset, .unset] [.null])) _
    refine XS.goto X3.here hx rfl (pc0 := 25) (pc' := 34) rfl (hb hby at_25) (by decide) (by decide) ?_
    show Steps p.tables e below (T3.setTop (mkF m 34 #[.val (.int p1), .val (.int p2), .val (.int ((p1 &&& (2147483647 : Int32)) - ((p1 &&& (2147483647 : Int32)) / (4 : Int32)) * (4 : Int32))), .val (.int ((p2 &&& (2147483647 : Int32)) - ((p2 &&& (2147483647 : Int32)) / (5 : Int32)) * (5 : Int32))), .val (.ref (own_c ((p1 &&& (2147483647 : Int32)) - ((p1 &&& (2147483647 : Int32)) / (4 : Int32)) * (4 : Int32)) wPUBLIC wPRIVATE wFINAL wABSTRACT)), .unset, .unset, .unset] [.null])) _
    refine XS.astore X3.here hx rfl (hb hby at_34) rfl rfl (l' := #[.val (.int p1), .val (.int p2), .val (.int ((p1 &&& (2147483647 : Int32)) - ((p1 &&& (2147483647 : Int32)) / (4 : Int32)) * (4 : Int32))), .val (.int ((p2 &&& (2147483647 : Int32)) - ((p2 &&& (2147483647 : Int32)) / (5 : Int32)) * (5 : Int32))), .val (.ref (own_c ((p1 &&& (2147483647 : Int32)) - ((p1 &&& (2147483647 : Int32)) / (4 : Int32)) * (4 : Int32)) wPUBLIC wPRIVATE wFINAL wABSTRACT)), .val .null, .unset, .unset]) rfl ?_
    show Steps p.tables e below (T3.setTop (mkF m 36 #[.val (.int p1), .val (.int p2), .val (.int ((p1 &&& (2147483647 : Int32)) - ((p1 &&& (2147483647 : Int32)) / (4 : Int32)) * (4 : Int32))), .val (.int ((p2 &&& (2147483647 : Int32)) - ((p2 &&& (2147483647 : Int32)) / (5 : Int32)) * (5 : Int32))), .val (.ref (own_c ((p1 &&& (2147483647 : Int32)) - ((p1 &&& (2147483647 : Int32)) / (4 : Int32)) * (4 : Int32)) wPUBLIC wPRIVATE wFINAL wABSTRACT)), .val .null, .unset, .unset] [])) _
    refine XS.iconst X3.here hx rfl (hb hby at_36) ?_
    show Steps p.tables e below (T3.setTop (mkF m 37 #[.val (.int p1), .val (.int p2), .val (.int ((p1 &&& (2147483647 : Int32)) - ((p1 &&& (2147483647 : Int32)) / (4 : Int32)) * (4 : Int32))), .val (.int ((p2 &&& (2147483647 : Int32)) - ((p2 &&& (2147483647 : Int32)) / (5 : Int32)) * (5 : Int32))), .val (.ref (own_c ((p1 &&& (2147483647 : Int32)) - ((p1 &&& (2147483647 : Int32)) / (4 : Int32)) * (4 : Int32)) wPUBLIC wPRIVATE wFINAL wABSTRACT)), .val .null, .unset, .unset] [(.int (5 : Int32))])) _
    refine st4 _ ?_
    show Steps p.tables e below (T4.setTop (mkF m 39 #[.val (.int p1), .val (.int p2), .val (.int ((p1 &&& (2147483647 : Int32)) - ((p1 &&& (2147483647 : Int32)) / (4 : Int32)) * (4 : Int32))), .val (.int ((p2 &&& (2147483647 : Int32)) - ((p2 &&& (2147483647 : Int32)) / (5 : Int32)) * (5 : Int32))), .val (.ref (own_c ((p1 &&& (2147483647 : Int32)) - ((p1 &&& (2147483647 : Int32)) / (4 : Int32)) * (4 : Int32)) wPUBLIC wPRIVATE wFINAL wABSTRACT)), .val .null, .unset, .unset] [(.ref b4)])) _
    refine XS.dup X4.here hx rfl (hb hby at_39) rfl rfl ?_
    show Steps p.tables e below (T4.setTop (mkF m 40 #[.val (.int p1), .val (.int p2), .val (.int ((p1 &&& (2147483647 : Int32)) - ((p1 &&& (2147483647 : Int32)) / (4 : Int32)) * (4 : Int32))), .val (.int ((p2 &&& (2147483647 : Int32)) - ((p2 &&& (2147483647 : Int32)) / (5 : Int32)) * (5 : Int32))), .val (.ref (own_c ((p1 &&& (2147483647 : Int32)) - ((p1 &&& (2147483647 : Int32)) / (4 : Int32)) * (4 : Int32)) wPUBLIC wPRIVATE wFINAL wABSTRACT)), .val .null, .unset, .unset] [(.ref b4), (.ref b4)])) _
    refine XS.iconst X4.here hx rfl (hb hby at_40) ?_
    show Steps p.tables e below (T4.setTop (mkF m 41 #[.val (.int p1), .val (.int p2), .val (.int ((p1 &&& (2147483647 : Int32)) - ((p1 &&& (2147483647 : Int32)) / (4 : Int32)) * (4 : Int32))), .val (.int ((p2 &&& (2147483647 : Int32)) - ((p2 &&& (2147483647 : Int32)) / (5 : Int32)) * (5 : Int32))), .val (.ref (own_c ((p1 &&& (2147483647 : Int32)) - ((p1 &&& (2147483647 : Int32)) / (4 : Int32)) * (4 : Int32)) wPUBLIC wPRIVATE wFINAL wABSTRACT)), .val .null, .unset, .unset] [(.int (0 : Int32)), (.ref b4), (.ref b4)])) _
    refine XS.bipush X4.here hx rfl (hb hby at_41) ?_
    show Steps p.tables e below (T4.setTop (mkF m 43 #[.val (.int p1), .val (.int p2), .val (.int ((p1 &&& (2147483647 : Int32)) - ((p1 &&& (2147483647 : Int32)) / (4 : Int32)) * (4 : Int32))), .val (.int ((p2 &&& (2147483647 : Int32)) - ((p2 &&& (2147483647 : Int32)) / (5 : Int32)) * (5 : Int32))), .val (.ref (own_c ((p1 &&& (2147483647 : Int32)) - ((p1 &&& (2147483647 : Int32)) / (4 : Int32)) * (4 : Int32)) wPUBLIC wPRIVATE wFINAL wABSTRACT)), .val .null, .unset, .unset] [(.int (7 : Int32)), (.int (0 : Int32)), (.ref b4), (.ref b4)])) _
    refine st5 _ ?_
    show Steps p.tables e below (T5.setTop (mkF m 44 #[.val (.int p1), .val (.int p2), .val (.int ((p1 &&& (2147483647 : Int32)) - ((p1 &&& (2147483647 : Int32)) / (4 : Int32)) * (4 : Int32))), .val (.int ((p2 &&& (2147483647 : Int32)) - ((p2 &&& (2147483647 : Int32)) / (5 : Int32)) * (5 : Int32))), .val (.ref (own_c ((p1 &&& (2147483647 : Int32)) - ((p1 &&& (2147483647 : Int32)) / (4 : Int32)) * (4 : Int32)) wPUBLIC wPRIVATE wFINAL wABSTRACT)), .val .null, .unset, .unset] [(.ref b4)])) _
    refine XS.dup X5.here hx rfl (hb hby at_44) rfl rfl ?_
    show Steps p.tables e below (T5.setTop (mkF m 45 #[.val (.int p1), .val (.int p2), .val (.int ((p1 &&& (2147483647 : Int32)) - ((p1 &&& (2147483647 : Int32)) / (4 : Int32)) * (4 : Int32))), .val (.int ((p2 &&& (2147483647 : Int32)) - ((p2 &&& (2147483647 : Int32)) / (5 : Int32)) * (5 : Int32))), .val (.ref (own_c ((p1 &&& (2147483647 : Int32)) - ((p1 &&& (2147483647 : Int32)) / (4 : Int32)) * (4 : Int32)) wPUBLIC wPRIVATE wFINAL wABSTRACT)), .val .null, .unset, .unset] [(.ref b4), (.ref b4)])) _
    refine XS.iconst X5.here hx rfl (hb hby at_45) ?_
    show Steps p.tables e below (T5.setTop (mkF m 46 #[.val (.int p1), .val (.int p2), .val (.int ((p1 &&& (2147483647 : Int32)) - ((p1 &&& (2147483647 : Int32)) / (4 : Int32)) * (4 : Int32))), .val (.int ((p2 &&& (2147483647 : Int32)) - ((p2 &&& (2147483647 : Int32)) / (5 : Int32)) * (5 : Int32))), .val (.ref (own_c ((p1 &&& (2147483647 : Int32)) - ((p1 &&& (2147483647 : Int32)) / (4 : Int32)) * (4 : Int32)) wPUBLIC wPRIVATE wFINAL wABSTRACT)), .val .null, .unset, .unset] [(.int (1 : Int32)), (.ref b4), (.ref b4)])) _
    refine XS.bipush X5.here hx rfl (hb hby at_46) ?_
    show Steps p.tables e below (T5.setTop (mkF m 48 #[.val (.int p1), .val (.int p2), .val (.int ((p1 &&& (2147483647 : Int32)) - ((p1 &&& (2147483647 : Int32)) / (4 : Int32)) * (4 : Int32))), .val (.int ((p2 &&& (2147483647 : Int32)) - ((p2 &&& (2147483647 : Int32)) / (5 : Int32)) * (5 : Int32))), .val (.ref (own_c ((p1 &&& (2147483647 : Int32)) - ((p1 &&& (2147483647 : Int32)) / (4 : Int32)) * (4 : Int32)) wPUBLIC wPRIVATE wFINAL wABSTRACT)), .val .null, .unset, .unset] [(.int (7 : Int32)), (.int (1 : Int32)), (.ref b4), (.ref b4)])) _
    refine st6 _ ?_
    show Steps p.tables e below (T6.setTop (mkF m 49 #[.val (.int p1), .val (.int p2), .val (.int ((p1 &&& (2147483647 : Int32)) - ((p1 &&& (2147483647 : Int32)) / (4 : Int32)) * (4 : Int32))), .val (.int ((p2 &&& (2147483647 : Int32)) - ((p2 &&& (2147483647 : Int32)) / (5 : Int32)) * (5 : Int32))), .val (.ref (own_c ((p1 &&& (2147483647 : Int32)) - ((p1 &&& (2147483647 : Int32)) / (4 : Int32)) * (4 : Int32)) wPUBLIC wPRIVATE wFINAL wABSTRACT)), .val .null, .unset, .unset] [(.ref b4)])) _
    refine XS.dup X6.here hx rfl (hb hby at_49) rfl rfl ?_
    show Steps p.tables e below (T6.setTop (mkF m 50 #[.val (.int p1), .val (.int p2), .val (.int ((p1 &&& (2147483647 : Int32)) - ((p1 &&& (2147483647 : Int32)) / (4 : Int32)) * (4 : Int32))), .val (.int ((p2 &&& (2147483647 : Int32)) - ((p2 &&& (2147483647 : Int32)) / (5 : Int32)) * (5 : Int32))), .val (.ref (own_c ((p1 &&& (2147483647 : Int32)) - ((p1 &&& (2147483647 : Int32)) / (4 : Int32)) * (4 : Int32)) wPUBLIC wPRIVATE wFINAL wABSTRACT)), .val .null, .unset, .unset] [(.ref b4), (.ref b4)])) _
    refine XS.iconst X6.here hx rfl (hb hby at_50) ?_
    show Steps p.tables e below (T6.setTop (mkF m 51 #[.val (.int p1), .val (.int p2), .val (.int ((p1 &&& (2147483647 : Int32)) - ((p1 &&& (2147483647 : Int32)) / (4 : Int32)) * (4 : Int32))), .val (.int ((p2 &&& (2147483647 : Int32)) - ((p2 &&& (2147483647 : Int32)) / (5 : Int32)) * (5 : Int32))), .val (.ref (own_c ((p1 &&& (2147483647 : Int32)) - ((p1 &&& (2147483647 : Int32)) / (4 : Int32)) * (4 : Int32)) wPUBLIC wPRIVATE wFINAL wABSTRACT)), .val .null, .unset, .unset] [(.int (2 : Int32)), (.ref b4), (.ref b4)])) _
    refine XS.iconst X6.here hx rfl (hb hby at_51) ?_
    show Steps p.tables e below (T6.setTop (mkF m 52 #[.val (.int p1), .val (.int p2), .val (.int ((p1 &&& (2147483647 : Int32)) - ((p1 &&& (2147483647 : Int32)) / (4 : Int32)) * (4 : Int32))), .val (.int ((p2 &&& (2147483647 : Int32)) - ((p2 &&& (2147483647 : Int32)) / (5 : Int32)) * (5 : Int32))), .val (.ref (own_c ((p1 &&& (2147483647 : Int32)) - ((p1 &&& (2147483647 : Int32)) / (4 : Int32)) * (4 : Int32)) wPUBLIC wPRIVATE wFINAL wABSTRACT)), .val .null, .unset, .unset] [(.int (2 : Int32)), (.int (2 : Int32)), (.ref b4), (.ref b4)])) _
    refine st7 _ ?_
    show Steps p.tables e below (T7.setTop (mkF m 53 #[.val (.int p1), .val (.int p2), .val (.int ((p1 &&& (2147483647 : Int32)) - ((p1 &&& (2147483647 : Int32)) / (4 : Int32)) * (4 : Int32))), .val (.int ((p2 &&& (2147483647 : Int32)) - ((p2 &&& (2147483647 : Int32)) / (5 : Int32)) * (5 : Int32))), .val (.ref (own_c ((p1 &&& (2147483647 : Int32)) - ((p1 &&& (2147483647 : Int32)) / (4 : Int32)) * (4 : Int32)) wPUBLIC wPRIVATE wFINAL wABSTRACT)), .val .null, .unset, .unset] [(.ref b4)])) _
    refine XS.dup X7.here hx rfl (hb hby at_53) rfl rfl ?_
    show Steps p.tables e below (T7.setTop (mkF m 54 #[.val (.int p1), .val (.int p2), .val (.int ((p1 &&& (2147483647 : Int32)) - ((p1 &&& (2147483647 : Int32)) / (4 : Int32)) * (4 : Int32))), .val (.int ((p2 &&& (2147483647 : Int32)) - ((p2 &&& (2147483647 : Int32)) / (5 : Int32)) * (5 : Int32))), .val (.ref (own_c ((p1 &&& (2147483647 : Int32)) - ((p1 &&& (2147483647 : Int32)) / (4 : Int32)) * (4 : Int32)) wPUBLIC wPRIVATE wFINAL wABSTRACT)), .val .null, .unset, .unset] [(.ref b4), (.ref b4)])) _
    refine XS.iconst X7.here hx rfl (hb hby at_54) ?_
    show Steps p.tables e below (T7.setTop (mkF m 55 #[.val (.int p1), .val (.int p2), .val (.int ((p1 &&& (2147483647 : Int32)) - ((p1 &&& (2147483647 : Int32)) / (4 : Int32)) * (4 : Int32))), .val (.int ((p2 &&& (2147483647 : Int32)) - ((p2 &&& (2147483647 : Int32)) / (5 : Int32)) * (5 : Int32))), .val (.ref (own_c ((p1 &&& (2147483647 : Int32)) - ((p1 &&& (2147483647 : Int32)) / (4 : Int32)) * (4 : Int32)) wPUBLIC wPRIVATE wFINAL wABSTRACT)), .val .null, .unset, .unset] [(.int (3 : Int32)), (.ref b4), (.ref b4)])) _
    refine XS.bipush X7.here hx rfl (hb hby at_55) ?_
    show Steps p.tables e below (T7.setTop (mkF m 57 #[.val (.int p1), .val (.int p2), .val (.int ((p1 &&& (2147483647 : Int32)) - ((p1 &&& (2147483647 : Int32)) / (4 : Int32)) * (4 : Int32))), .val (.int ((p2 &&& (2147483647 : Int32)) - ((p2 &&& (2147483647 : Int32)) / (5 : Int32)) * (5 : Int32))), .val (.ref (own_c ((p1 &&& (2147483647 : Int32)) - ((p1 &&& (2147483647 : Int32)) / (4 : Int32)) * (4 : Int32)) wPUBLIC wPRIVATE wFINAL wABSTRACT)), .val .null, .unset, .unset] [(.int (6 : Int32)), (.int (3 : Int32)), (.ref b4), (.ref b4)])) _
    refine st8 _ ?_
    show Steps p.tables e below (T8.setTop (mkF m 58 #[.val (.int p1), .val (.int p2), .val (.int ((p1 &&& (2147483647 : Int32)) - ((p1 &&& (2147483647 : Int32)) / (4 : Int32)) * (4 : Int32))), .val (.int ((p2 &&& (2147483647 : Int32)) - ((p2 &&& (2147483647 : Int32)) / (5 : Int32)) * (5 : Int32))), .val (.ref (own_c ((p1 &&& (2147483647 : Int32)) - ((p1 &&& (2147483647 : Int32)) / (4 : Int32)) * (4 : Int32)) wPUBLIC wPRIVATE wFINAL wABSTRACT)), .val .null, .unset, .unset] [(.ref b4)])) _
    refine XS.dup X8.here hx rfl (hb hby at_58) rfl rfl ?_
    show Steps p.tables e below (T8.setTop (mkF m 59 #[.val (.int p1), .val (.int p2), .val (.int ((p1 &&& (2147483647 : Int32)) - ((p1 &&& (2147483647 : Int32)) / (4 : Int32)) * (4 : Int32))), .val (.int ((p2 &&& (2147483647 : Int32)) - ((p2 &&& (2147483647 : Int32)) / (5 : Int32)) * (5 : Int32))), .val (.ref (own_c ((p1 &&& (2147483647 : Int32)) - ((p1 &&& (2147483647 : Int32)) / (4 : Int32)) * (4 : Int32)) wPUBLIC wPRIVATE wFINAL wABSTRACT)), .val .null, .unset, .unset] [(.ref b4), (.ref b4)])) _
    refine XS.iconst X8.here hx rfl (hb hby at_59) ?_
    show Steps p.tables e below (T8.setTop (mkF m 60 #[.val (.int p1), .val (.int p2), .val (.int ((p1 &&& (2147483647 : Int32)) - ((p1 &&& (2147483647 : Int32)) / (4 : Int32)) * (4 : Int32))), .val (.int ((p2 &&& (2147483647 : Int32)) - ((p2 &&& (2147483647 : Int32)) / (5 : Int32)) * (5 : Int32))), .val (.ref (own_c ((p1 &&& (2147483647 : Int32)) - ((p1 &&& (2147483647 : Int32)) / (4 : Int32)) * (4 : Int32)) wPUBLIC wPRIVATE wFINAL wABSTRACT)), .val .null, .unset, .unset] [(.int (4 : Int32)), (.ref b4), (.ref b4)])) _
    refine XS.bipush X8.here hx rfl (hb hby at_60) ?_
    show Steps p.tables e below (T8.setTop (mkF m 62 #[.val (.int p1), .val (.int p2), .val (.int ((p1 &&& (2147483647 : Int32)) - ((p1 &&& (2147483647 : Int32)) / (4 : Int32)) * (4 : Int32))), .val (.int ((p2 &&& (2147483647 : Int32)) - ((p2 &&& (2147483647 : Int32)) / (5 : Int32)) * (5 : Int32))), .val (.ref (own_c ((p1 &&& (2147483647 : Int32)) - ((p1 &&& (2147483647 : Int32)) / (4 : Int32)) * (4 : Int32)) wPUBLIC wPRIVATE wFINAL wABSTRACT)), .val .null, .unset, .unset] [(.int (8 : Int32)), (.int (4 : Int32)), (.ref b4), (.ref b4)])) _
    refine st9 _ ?_
    show Steps p.tables e below (T9.setTop (mkF m 63 #[.val (.int p1), .val (.int p2), .val (.int ((p1 &&& (2147483647 : Int32)) - ((p1 &&& (2147483647 : Int32)) / (4 : Int32)) * (4 : Int32))), .val (.int ((p2 &&& (2147483647 : Int32)) - ((p2 &&& (2147483647 : Int32)) / (5 : Int32)) * (5 : Int32))), .val (.ref (own_c ((p1 &&& (2147483647 : Int32)) - ((p1 &&& (2147483647 : Int32)) / (4 : Int32)) * (4 : Int32)) wPUBLIC wPRIVATE wFINAL wABSTRACT)), .val .null, .unset, .unset] [(.ref b4)])) _
    refine XS.astore X9.here hx rfl (hb hby at_63) rfl rfl (l' := #[.val (.int p1), .val (.int p2), .val (.int ((p1 &&& (2147483647 : Int32)) - ((p1 &&& (2147483647 : Int32)) / (4 : Int32)) * (4 : Int32))), .val (.int ((p2 &&& (2147483647 : Int32)) - ((p2 &&& (2147483647 : Int32)) / (5 : Int32)) * (5 : Int32))), .val (.ref (own_c ((p1 &&& (2147483647 : Int32)) - ((p1 &&& (2147483647 : Int32)) / (4 : Int32)) * (4 : Int32)) wPUBLIC wPRIVATE wFINAL wABSTRACT)), .val .null, .val (.ref b4), .unset]) rfl ?_
    show Steps p.tables e below (T9.setTop (mkF m 65 #[.val (.int p1), .val (.int p2), .val (.int ((p1 &&& (2147483647 : Int32)) - ((p1 &&& (2147483647 : Int32)) / (4 : Int32)) * (4 : Int32))), .val (.int ((p2 &&& (2147483647 : Int32)) - ((p2 &&& (2147483647 : Int32)) / (5 : Int32)) * (5 : Int32))), .val (.ref (own_c ((p1 &&& (2147483647 : Int32)) - ((p1 &&& (2147483647 : Int32)) / (4 : Int32)) * (4 : Int32)) wPUBLIC wPRIVATE wFINAL wABSTRACT)), .val .null, .val (.ref b4), .unset] [])) _
    refine XS.aload X9.here hx rfl (hb hby at_65) rfl rfl ?_
    show Steps p.tables e below (T9.setTop (mkF m 67 #[.val (.int p1), .val (.int p2), .val (.int ((p1 &&& (2147483647 : Int32)) - ((p1 &&& (2147483647 : Int32)) / (4 : Int32)) * (4 : Int32))), .val (.int ((p2 &&& (2147483647 : Int32)) - ((p2 &&& (2147483647 : Int32)) / (5 : Int32)) * (5 : Int32))), .val (.ref (own_c ((p1 &&& (2147483647 : Int32)) - ((p1 &&& (2147483647 : Int32)) / (4 : Int32)) * (4 : Int32)) wPUBLIC wPRIVATE wFINAL wABSTRACT)), .val .null, .val (.ref b4), .unset] [(.ref b4)])) _
    refine XS.iloadN X9.here hx rfl (hb hby at_67) rfl ?_
    show Steps p.tables e below (T9.setTop (mkF m 68 #[.val (.int p1), .val (.int p2), .val (.int ((p1 &&& (2147483647 : Int32)) - ((p1 &&& (2147483647 : Int32)) / (4 : Int32)) * (4 : Int32))), .val (.int ((p2 &&& (2147483647 : Int32)) - ((p2 &&& (2147483647 : Int32)) / (5 : Int32)) * (5 : Int32))), .val (.ref (own_c ((p1 &&& (2147483647 : Int32)) - ((p1 &&& (2147483647 : Int32)) / (4 : Int32)) * (4 : Int32)) wPUBLIC wPRIVATE wFINAL wABSTRACT)), .val .null, .val (.ref b4), .unset] [(.int ((p2 &&& (2147483647 : Int32)) - ((p2 &&& (2147483647 : Int32)) / (5 : Int32)) * (5 : Int32))), (.ref b4)])) _
    refine X9.iaload hx (j := ((p2 &&& (2147483647 : Int32)) - ((p2 &&& (2147483647 : Int32)) / (5 : Int32)) * (5 : Int32))) (v := (.int w10)) (by rw [e9]; exact Ar_b4.1) (State.isArrayOf_alike hZ.alike Ar_b4.2.1) Ar_b4.2.2 hin68 hat68 (g := (mkF m 68 #[.val (.int p1), .val (.int p2), .val (.int ((p1 &&& (2147483647 : Int32)) - ((p1 &&& (2147483647 : Int32)) / (4 : Int32)) * (4 : Int32))), .val (.int ((p2 &&& (2147483647 : Int32)) - ((p2 &&& (2147483647 : Int32)) / (5 : Int32)) * (5 : Int32))), .val (.ref (own_c ((p1 &&& (2147483647 : Int32)) - ((p1 &&& (2147483647 : Int32)) / (4 : Int32)) * (4 : Int32)) wPUBLIC wPRIVATE wFINAL wABSTRACT)), .val .null, .val (.ref b4), .unset] [(.int ((p2 &&& (2147483647 : Int32)) - ((p2 &&& (2147483647 : Int32)) / (5 : Int32)) * (5 : Int32))), (.ref b4)])) rfl rfl (hb hby at_68) _ ?_
    show Steps p.tables e below (T9.setTop (mkF m 69 #[.val (.int p1), .val (.int p2), .val (.int ((p1 &&& (2147483647 : Int32)) - ((p1 &&& (2147483647 : Int32)) / (4 : Int32)) * (4 : Int32))), .val (.int ((p2 &&& (2147483647 : Int32)) - ((p2 &&& (2147483647 : Int32)) / (5 : Int32)) * (5 : Int32))), .val (.ref (own_c ((p1 &&& (2147483647 : Int32)) - ((p1 &&& (2147483647 : Int32)) / (4 : Int32)) * (4 : Int32)) wPUBLIC wPRIVATE wFINAL wABSTRACT)), .val .null, .val (.ref b4), .unset] [(.int w10)])) _
    refine XS.iloadN X9.here hx rfl (hb hby at_69) rfl ?_
    show Steps p.tables e below (T9.setTop (mkF m 70 #[.val (.int p1), .val (.int p2), .val (.int ((p1 &&& (2147483647 : Int32)) - ((p1 &&& (2147483647 : Int32)) / (4 : Int32)) * (4 : Int32))), .val (.int ((p2 &&& (2147483647 : Int32)) - ((p2 &&& (2147483647 : Int32)) / (5 : Int32)) * (5 : Int32))), .val (.ref (own_c ((p1 &&& (2147483647 : Int32)) - ((p1 &&& (2147483647 : Int32)) / (4 : Int32)) * (4 : Int32)) wPUBLIC wPRIVATE wFINAL wABSTRACT)), .val .null, .val (.ref b4), .unset] [(.int ((p1 &&& (2147483647 : Int32)) - ((p1 &&& (2147483647 : Int32)) / (4 : Int32)) * (4 : Int32))), (.int w10)])) _
    refine XS.ishr X9.here hx rfl (hb hby at_70) rfl ?_
    show Steps p.tables e below (T9.setTop (mkF m 71 #[.val (.int p1), .val (.int p2), .val (.int ((p1 &&& (2147483647 : Int32)) - ((p1 &&& (2147483647 : Int32)) / (4 : Int32)) * (4 : Int32))), .val (.int ((p2 &&& (2147483647 : Int32)) - ((p2 &&& (2147483647 : Int32)) / (5 : Int32)) * (5 : Int32))), .val (.ref (own_c ((p1 &&& (2147483647 : Int32)) - ((p1 &&& (2147483647 : Int32)) / (4 : Int32)) * (4 : Int32)) wPUBLIC wPRIVATE wFINAL wABSTRACT)), .val .null, .val (.ref b4), .unset] [(.int (w10 >>> (((p1 &&& (2147483647 : Int32)) - ((p1 &&& (2147483647 : Int32)) / (4 : Int32)) * (4 : Int32)) &&& 31)))])) _
    refine XS.iconst X9.here hx rfl (hb hby at_71) ?_
    show Steps p.tables e below (T9.setTop (mkF m 72 #[.val (.int p1), .val (.int p2), .val (.int ((p1 &&& (2147483647 : Int32)) - ((p1 &&& (2147483647 : Int32)) / (4 : Int32)) * (4 : Int32))), .val (.int ((p2 &&& (2147483647 : Int32)) - ((p2 &&& (2147483647 : Int32)) / (5 : Int32)) * (5 : Int32))), .val (.ref (own_c ((p1 &&& (2147483647 : Int32)) - ((p1 &&& (2147483647 : Int32)) / (4 : Int32)) * (4 : Int32)) wPUBLIC wPRIVATE wFINAL wABSTRACT)), .val .null, .val (.ref b4), .unset] [(.int (1 : Int32)), (.int (w10 >>> (((p1 &&& (2147483647 : Int32)) - ((p1 &&& (2147483647 : Int32)) / (4 : Int32)) * (4 : Int32)) &&& 31)))])) _
    refine XS.iand X9.here hx rfl (hb hby at_72) rfl ?_
    show Steps p.tables e below (T9.setTop (mkF m 73 #[.val (.int p1), .val (.int p2), .val (.int ((p1 &&& (2147483647 : Int32)) - ((p1 &&& (2147483647 : Int32)) / (4 : Int32)) * (4 : Int32))), .val (.int ((p2 &&& (2147483647 : Int32)) - ((p2 &&& (2147483647 : Int32)) / (5 : Int32)) * (5 : Int32))), .val (.ref (own_c ((p1 &&& (2147483647 : Int32)) - ((p1 &&& (2147483647 : Int32)) / (4 : Int32)) * (4 : Int32)) wPUBLIC wPRIVATE wFINAL wABSTRACT)), .val .null, .val (.ref b4), .unset] [(.int ((w10 >>> (((p1 &&& (2147483647 : Int32)) - ((p1 &&& (2147483647 : Int32)) / (4 : Int32)) * (4 : Int32)) &&& 31)) &&& (1 : Int32)))])) _
    refine XS.ifNo X9.here hx rfl (hb hby at_73) rfl ((if0 _ _).trans (feq hc73').1) ?_
    show Steps p.tables e below (T9.setTop (mkF m 76 #[.val (.int p1), .val (.int p2), .val (.int ((p1 &&& (2147483647 : Int32)) - ((p1 &&& (2147483647 : Int32)) / (4 : Int32)) * (4 : Int32))), .val (.int ((p2 &&& (2147483647 : Int32)) - ((p2 &&& (2147483647 : Int32)) / (5 : Int32)) * (5 : Int32))), .val (.ref (own_c ((p1 &&& (2147483647 : Int32)) - ((p1 &&& (2147483647 : Int32)) / (4 : Int32)) * (4 : Int32)) wPUBLIC wPRIVATE wFINAL wABSTRACT)), .val .null, .val (.ref b4), .unset] [])) _
    refine XS.iconst X9.here hx rfl (hb hby at_76) ?_
    show Steps p.tables e below (T9.setTop (mkF m 77 #[.val (.int p1), .val (.int p2), .val (.int ((p1 &&& (2147483647 : Int32)) - ((p1 &&& (2147483647 : Int32)) / (4 : Int32)) * (4 : Int32))), .val (.int ((p2 &&& (2147483647 : Int32)) - ((p2 &&& (2147483647 : Int32)) / (5 : Int32)) * (5 : Int32))), .val (.ref (own_c ((p1 &&& (2147483647 : Int32)) - ((p1 &&& (2147483647 : Int32)) / (4 : Int32)) * (4 : Int32)) wPUBLIC wPRIVATE wFINAL wABSTRACT)), .val .null, .val (.ref b4), .unset] [(.int (1 : Int32))])) _
    refine XS.goto X9.here hx rfl (pc0 := 77) (pc' := 81) rfl (hb hby at_77) (by decide) (by decide) ?_
    show Steps p.tables e below (T9.setTop (mkF m 81 #[.val (.int p1), .val (.int p2), .val (.int ((p1 &&& (2147483647 : Int32)) - ((p1 &&& (2147483647 : Int32)) / (4 : Int32)) * (4 : Int32))), .val (.int ((p2 &&& (2147483647 : Int32)) - ((p2 &&& (2147483647 : Int32)) / (5 : Int32)) * (5 : Int32))), .val (.ref (own_c ((p1 &&& (2147483647 : Int32)) - ((p1 &&& (2147483647 : Int32)) / (4 : Int32)) * (4 : Int32)) wPUBLIC wPRIVATE wFINAL wABSTRACT)), .val .null, .val (.ref b4), .unset] [(.int (1 : Int32))])) _
    refine XS.istore X9.here hx rfl (hb hby at_81) rfl (l' := #[.val (.int p1), .val (.int p2), .val (.int ((p1 &&& (2147483647 : Int32)) - ((p1 &&& (2147483647 : Int32)) / (4 : Int32)) * (4 : Int32))), .val (.int ((p2 &&& (2147483647 : Int32)) - ((p2 &&& (2147483647 : Int32)) / (5 : Int32)) * (5 : Int32))), .val (.ref (own_c ((p1 &&& (2147483647 : Int32)) - ((p1 &&& (2147483647 : Int32)) / (4 : Int32)) * (4 : Int32)) wPUBLIC wPRIVATE wFINAL wABSTRACT)), .val .null, .val (.ref b4), .val (.int (1 : Int32))]) rfl ?_
    show Steps p.tables e below (T9.setTop (mkF m 83 #[.val (.int p1), .val (.int p2), .val (.int ((p1 &&& (2147483647 : Int32)) - ((p1 &&& (2147483647 : Int32)) / (4 : Int32)) * (4 : Int32))), .val (.int ((p2 &&& (2147483647 : Int32)) - ((p2 &&& (2147483647 : Int32)) / (5 : Int32)) * (5 : Int32))), .val (.ref (own_c ((p1 &&& (2147483647 : Int32)) - ((p1 &&& (2147483647 : Int32)) / (4 : Int32)) * (4 : Int32)) wPUBLIC wPRIVATE wFINAL wABSTRACT)), .val .null, .val (.ref b4), .val (.int (1 : Int32))] [])) _
    refine XS.aload X9.here hx rfl (hb hby at_83) rfl rfl ?_
    show Steps p.tables e below (T9.setTop (mkF m 85 #[.val (.int p1), .val (.int p2), .val (.int ((p1 &&& (2147483647 : Int32)) - ((p1 &&& (2147483647 : Int32)) / (4 : Int32)) * (4 : Int32))), .val (.int ((p2 &&& (2147483647 : Int32)) - ((p2 &&& (2147483647 : Int32)) / (5 : Int32)) * (5 : Int32))), .val (.ref (own_c ((p1 &&& (2147483647 : Int32)) - ((p1 &&& (2147483647 : Int32)) / (4 : Int32)) * (4 : Int32)) wPUBLIC wPRIVATE wFINAL wABSTRACT)), .val .null, .val (.ref b4), .val (.int (1 : Int32))] [(.ref (own_c ((p1 &&& (2147483647 : Int32)) - ((p1 &&& (2147483647 : Int32)) / (4 : Int32)) * (4 : Int32)) wPUBLIC wPRIVATE wFINAL wABSTRACT))])) _
    refine XS.aload X9.here hx rfl (hb hby at_85) rfl rfl ?_
    show Steps p.tables e below (T9.setTop (mkF m 87 #[.val (.int p1), .val (.int p2), .val (.int ((p1 &&& (2147483647 : Int32)) - ((p1 &&& (2147483647 : Int32)) / (4 : Int32)) * (4 : Int32))), .val (.int ((p2 &&& (2147483647 : Int32)) - ((p2 &&& (2147483647 : Int32)) / (5 : Int32)) * (5 : Int32))), .val (.ref (own_c ((p1 &&& (2147483647 : Int32)) - ((p1 &&& (2147483647 : Int32)) / (4 : Int32)) * (4 : Int32)) wPUBLIC wPRIVATE wFINAL wABSTRACT)), .val .null, .val (.ref b4), .val (.int (1 : Int32))] [.null, (.ref (own_c ((p1 &&& (2147483647 : Int32)) - ((p1 &&& (2147483647 : Int32)) / (4 : Int32)) * (4 : Int32)) wPUBLIC wPRIVATE wFINAL wABSTRACT))])) _
    refine st11.trans ?_
    show Steps p.tables e below (T11.setTop (mkF m 90 #[.val (.int p1), .val (.int p2), .val (.int ((p1 &&& (2147483647 : Int32)) - ((p1 &&& (2147483647 : Int32)) / (4 : Int32)) * (4 : Int32))), .val (.int ((p2 &&& (2147483647 : Int32)) - ((p2 &&& (2147483647 : Int32)) / (5 : Int32)) * (5 : Int32))), .val (.ref (own_c ((p1 &&& (2147483647 : Int32)) - ((p1 &&& (2147483647 : Int32)) / (4 : Int32)) * (4 : Int32)) wPUBLIC wPRIVATE wFINAL wABSTRACT)), .val .null, .val (.ref b4), .val (.int (1 : Int32))] [(.int (own_n (own_c ((p1 &&& (2147483647 : Int32)) - ((p1 &&& (2147483647 : Int32)) / (4 : Int32)) * (4 : Int32)) wPUBLIC wPRIVATE wFINAL wABSTRACT) wPUBLIC wPRIVATE wFINAL wABSTRACT))])) _
    refine XS.iload X11.here hx rfl (hb hby at_90) rfl ?_
    show Steps p.tables e below (T11.setTop (mkF m 92 #[.val (.int p1), .val (.int p2), .val (.int ((p1 &&& (2147483647 : Int32)) - ((p1 &&& (2147483647 : Int32)) / (4 : Int32)) * (4 : Int32))), .val (.int ((p2 &&& (2147483647 : Int32)) - ((p2 &&& (2147483647 : Int32)) / (5 : Int32)) * (5 : Int32))), .val (.ref (own_c ((p1 &&& (2147483647 : Int32)) - ((p1 &&& (2147483647 : Int32)) / (4 : Int32)) * (4 : Int32)) wPUBLIC wPRIVATE wFINAL wABSTRACT)), .val .null, .val (.ref b4), .val (.int (1 : Int32))] [(.int (1 : Int32)), (.int (own_n (own_c ((p1 &&& (2147483647 : Int32)) - ((p1 &&& (2147483647 : Int32)) / (4 : Int32)) * (4 : Int32)) wPUBLIC wPRIVATE wFINAL wABSTRACT) wPUBLIC wPRIVATE wFINAL wABSTRACT))])) _
    refine XS.icmpNo X11.here hx rfl (hb hby at_92) rfl (teq (h92 : (own_n (own_c ((p1 &&& (2147483647 : Int32)) - ((p1 &&& (2147483647 : Int32)) / (4 : Int32)) * (4 : Int32)) wPUBLIC wPRIVATE wFINAL wABSTRACT) wPUBLIC wPRIVATE wFINAL wABSTRACT) = (1 : Int32))).2 ?_
    show Steps p.tables e below (T11.setTop (mkF m 95 #[.val (.int p1), .val (.int p2), .val (.int ((p1 &&& (2147483647 : Int32)) - ((p1 &&& (2147483647 : Int32)) / (4 : Int32)) * (4 : Int32))), .val (.int ((p2 &&& (2147483647 : Int32)) - ((p2 &&& (2147483647 : Int32)) / (5 : Int32)) * (5 : Int32))), .val (.ref (own_c ((p1 &&& (2147483647 : Int32)) - ((p1 &&& (2147483647 : Int32)) / (4 : Int32)) * (4 : Int32)) wPUBLIC wPRIVATE wFINAL wABSTRACT)), .val .null, .val (.ref b4), .val (.int (1 : Int32))] [])) _
    refine XS.iconst X11.here hx rfl (hb hby at_95) ?_
    show Steps p.tables e below (T11.setTop (mkF m 96 #[.val (.int p1), .val (.int p2), .val (.int ((p1 &&& (2147483647 : Int32)) - ((p1 &&& (2147483647 : Int32)) / (4 : Int32)) * (4 : Int32))), .val (.int ((p2 &&& (2147483647 : Int32)) - ((p2 &&& (2147483647 : Int32)) / (5 : Int32)) * (5 : Int32))), .val (.ref (own_c ((p1 &&& (2147483647 : Int32)) - ((p1 &&& (2147483647 : Int32)) / (4 : Int32)) * (4 : Int32)) wPUBLIC wPRIVATE wFINAL wABSTRACT)), .val .null, .val (.ref b4), .val (.int (1 : Int32))] [(.int (1 : Int32))])) _
    refine XS.goto X11.here hx rfl (pc0 := 96) (pc' := 100) rfl (hb hby at_96) (by decide) (by decide) ?_
    show Steps p.tables e below (T11.setTop (mkF m 100 #[.val (.int p1), .val (.int p2), .val (.int ((p1 &&& (2147483647 : Int32)) - ((p1 &&& (2147483647 : Int32)) / (4 : Int32)) * (4 : Int32))), .val (.int ((p2 &&& (2147483647 : Int32)) - ((p2 &&& (2147483647 : Int32)) / (5 : Int32)) * (5 : Int32))), .val (.ref (own_c ((p1 &&& (2147483647 : Int32)) - ((p1 &&& (2147483647 : Int32)) / (4 : Int32)) * (4 : Int32)) wPUBLIC wPRIVATE wFINAL wABSTRACT)), .val .null, .val (.ref b4), .val (.int (1 : Int32))] [(.int (1 : Int32))])) _
    exact retN X11 hx (t := .boolean) Bd.returns (by simp) (hb hby at_100) hr
  · show Q0 Z p1 p2 h0 n0 _ T11.heap _
    exact ⟨rfl, N11⟩
set_option maxRecDepth 65536 in
set_option maxHeartbeats 40000000 in
theorem rm0_ftf (l : Launch) (Z : State) (a0 : Array Value) (hw : ∀ d ∈ tables_1, d.before a0 Z = true) (ws : List Jvm.Cond) (p1 : Int32) (p2 : Int32) (wPUBLIC wPRIVATE wFINAL wABSTRACT : Addr) (h0 : Heap) (n0 : Nat) (Z0 : n0 ≤ h0.size) (S_PUBLIC : Sta Z h0 "com/example/fallbak/fallbak/xslt/Visibility" "PUBLIC" "Lcom/example/fallbak/fallbak/xslt/Visibility;" (.ref wPUBLIC)) (S_PRIVATE : Sta Z h0 "com/example/fallbak/fallbak/xslt/Visibility" "PRIVATE" "Lcom/example/fallbak/fallbak/xslt/Visibility;" (.ref wPRIVATE)) (S_FINAL : Sta Z h0 "com/example/fallbak/fallbak/xslt/Visibility" "FINAL" "Lcom/example/fallbak/fallbak/xslt/Visibility;" (.ref wFINAL)) (S_ABSTRACT : Sta Z h0 "com/example/fallbak/fallbak/xslt/Visibility" "ABSTRACT" "Lcom/example/fallbak/fallbak/xslt/Visibility;" (.ref wABSTRACT)) (E_PUBLIC : Exa Z h0 wPUBLIC "com/example/fallbak/fallbak/xslt/Visibility") (E_PRIVATE : Exa Z h0 wPRIVATE "com/example/fallbak/fallbak/xslt/Visibility") (E_FINAL : Exa Z h0 wFINAL "com/example/fallbak/fallbak/xslt/Visibility") (E_ABSTRACT : Exa Z h0 wABSTRACT "com/example/fallbak/fallbak/xslt/Visibility") (hc21 : ((p2 &&& (2147483647 : Int32)) - ((p2 &&& (2147483647 : Int32)) / (5 : Int32)) * (5 : Int32)) = (0 : Int32)) (hc73 : own_bit ((p1 &&& (2147483647 : Int32)) - ((p1 &&& (2147483647 : Int32)) / (4 : Int32)) * (4 : Int32)) ((p2 &&& (2147483647 : Int32)) - ((p2 &&& (2147483647 : Int32)) / (5 : Int32)) * (5 : Int32)) = (0 : Int32)) (h92 : own_n (own_c ((p1 &&& (2147483647 : Int32)) - ((p1 &&& (2147483647 : Int32)) / (4 : Int32)) * (4 : Int32)) wPUBLIC wPRIVATE wFINAL wABSTRACT) wPUBLIC wPRIVATE wFINAL wABSTRACT = (0 : Int32)) :
    MetFree l x (head1 (Jvm.Cond.code x code maxLocals ret :: ws) room_1) (fun a U => a = #[(.int p1), (.int p2)] ∧ Z.Warmed39 U.vm ∧ U.heap = h0) (fun _ _ _ _ _ => True) (fun _ U o U' => ∃ v L, o = .returned v ∧ Q0 Z p1 p2 h0 n0 v U'.heap L ∧ FrameEnd U o U' L room_1.cells room_1.slots) := by
  refine MetFree.of_bodySF (plainFor_of_name pn_0) hisR ?_
  intro p e s m args below meth c s₁ Bd hml0 hP hK
  obtain ⟨rfl, hZ, hh⟩ := hP
  have hx := Bd.exec
  have hby := Bd.bytes
  have hml : c.maxLocals = 8 := hml0
  have hown : s.vm.findClass "com/example/fallbak/fallbak/xslt/VisibilityMayBeExposedOnPinLaw" = some m.cls := findClass_of_methodNamed Bd.named
  have hnm := (name_of_methodNamed Bd.named Bd.method).1
  have X0 : Stand p l e room_1 s m #[(.int p1), (.int p2)] below meth c s₁ [] 0 0 := Stand.of_body Bd
  have e0 : s₁.heap = h0 := by rw [← hh, Bd.state]; rfl
  have N0 := Fr.nil n0
  have pre0 : ∀ t, Steps p.tables e below (s₁.setTop (mkF m 0 #[.val (.int p1), .val (.int p2), .unset, .unset, .unset, .unset, .unset, .unset] [])) t → Steps p.tables e below (s₁.setTop (entryFrame m #[(.int p1), (.int p2)] maxLocals)) t := fun t k => castTop (ef_0 m p1 p2) k
  obtain ⟨_, _, ⟨T3, L3, k3, n3⟩, -, X3, ⟨Lc3, hQ3, l3, y3, z3⟩, st3⟩ := Jvm.LawKit.callS X0 hx (y := (⟨"com/example/fallbak/fallbak/xslt/VisibilityMayBeExposedOnPinLaw", "constant", "(I)Lcom/example/fallbak/fallbak/xslt/Visibility;"⟩ : MethodName)) hown (mvT hZ (hw _ (List.mem_of_getElem? (i := 1) rfl))) (mvT hZ (hw _ (List.mem_of_getElem? (i := 2) rfl))) (mvT hZ (hw _ (List.mem_of_getElem? (i := 3) rfl))) (mvT hZ (hw _ (List.mem_of_getElem? (i := 4) rfl))) (by decide) (backOf (W := 0) (rm1 l Z a0 hw [] ((p1 &&& (2147483647 : Int32)) - ((p1 &&& (2147483647 : Int32)) / (4 : Int32)) * (4 : Int32)) wPUBLIC wPRIVATE wFINAL wABSTRACT h0 n0 Z0 S_PUBLIC S_PRIVATE S_FINAL S_ABSTRACT) hZ (hw _ (List.mem_of_getElem? (i := 4) rfl)) (hw _ (List.mem_of_getElem? (i := 3) rfl)) (by decide) (by decide)) (g := (mkF m 15 #[.val (.int p1), .val (.int p2), .val (.int ((p1 &&& (2147483647 : Int32)) - ((p1 &&& (2147483647 : Int32)) / (4 : Int32)) * (4 : Int32))), .val (.int ((p2 &&& (2147483647 : Int32)) - ((p2 &&& (2147483647 : Int32)) / (5 : Int32)) * (5 : Int32))), .unset, .unset, .unset, .unset] [(.int ((p1 &&& (2147483647 : Int32)) - ((p1 &&& (2147483647 : Int32)) / (4 : Int32)) * (4 : Int32)))])) rfl (by rw [hml]; rfl) (argsL := [(.int ((p1 &&& (2147483647 : Int32)) - ((p1 &&& (2147483647 : Int32)) / (4 : Int32)) * (4 : Int32)))]) (rest := []) (lenOf pd_0_0 rfl) rfl (by show 2 * 0 + _ ≤ _; exact Nat.le_of_eq rfl) (hb hby at_15) (fun _ _ => ⟨rfl, e0, (by decide : 0 + 0 ≤ _), (by decide : 0 + 0 ≤ _)⟩)
  dsimp only [Pt.U, Pt.locs, Pt.cells, Pt.slots] at X3 l3 y3 z3 st3 hQ3
  subst l3 y3 z3
  obtain ⟨rfl, N3q, eh3⟩ := hQ3
  have N3 := Fr.app N0 N3q
  have KC3 : Keep h0 T3.heap [] := by rw [eh3]; exact Keep.refl _ _
  have E_c := own_cE (Z := Z) (h0 := h0) ((p1 &&& (2147483647 : Int32)) - ((p1 &&& (2147483647 : Int32)) / (4 : Int32)) * (4 : Int32)) E_PUBLIC E_PRIVATE E_FINAL E_ABSTRACT
  obtain ⟨T4, h4, k4, X4, e4, E4, A4, st4⟩ := newP X3 hx hZ (hw _ (List.mem_of_getElem? (i := 10) rfl)) rfl (g := (mkF m 37 #[.val (.int p1), .val (.int p2), .val (.int ((p1 &&& (2147483647 : Int32)) - ((p1 &&& (2147483647 : Int32)) / (4 : Int32)) * (4 : Int32))), .val (.int ((p2 &&& (2147483647 : Int32)) - ((p2 &&& (2147483647 : Int32)) / (5 : Int32)) * (5 : Int32))), .val (.ref (own_c ((p1 &&& (2147483647 : Int32)) - ((p1 &&& (2147483647 : Int32)) / (4 : Int32)) * (4 : Int32)) wPUBLIC wPRIVATE wFINAL wABSTRACT)), .val .null, .unset, .unset] [(.int (5 : Int32))])) rfl (hb hby at_37) rfl (by decide) (cap := 5) (by decide) (by decide) (by decide) (by decide)
  obtain ⟨b4, g4⟩ : ∃ z, z = T3.heap.size := ⟨_, rfl⟩
  rw [← g4] at A4 st4
  have V_b4 : Arv Z h4 b4 k4 .int (5 : Int32) [(.int (0 : Int32)), (.int (0 : Int32)), (.int (0 : Int32)), (.int (0 : Int32)), (.int (0 : Int32))] (.int (0 : Int32)) := (Arv.new A4 (by decide)).pad (pad_rep [] (.int (0 : Int32)) 5)
  have g_b4 : n0 ≤ b4 := Nat.le_trans (Nat.le_trans Z0 KC3.1) (Nat.le_of_eq g4.symm)
  have sz_b4 : h0.size ≤ b4 := (Nat.le_trans KC3.1 (Nat.le_of_eq g4.symm))
  have K4 : Keep h0 h4 [] := KC3.ext E4
  obtain ⟨cl_b4_43, Ar_b4, q_b4, S_b4, N_b4, H_b4, G_b4⟩ := V_b4
  have hin43 : ¬ ((0 : Int32) < 0 ∨ cl_b4_43.slots.size ≤ ((0 : Int32)).toNatClampNeg) := inb_of S_b4 ⟨by decide, by decide⟩
  obtain ⟨T5, h5, X5, e5, W5, st5⟩ := stI X4 hx hZ e4 Ar_b4 (j := (0 : Int32)) hin43 (g := (mkF m 43 #[.val (.int p1), .val (.int p2), .val (.int ((p1 &&& (2147483647 : Int32)) - ((p1 &&& (2147483647 : Int32)) / (4 : Int32)) * (4 : Int32))), .val (.int ((p2 &&& (2147483647 : Int32)) - ((p2 &&& (2147483647 : Int32)) / (5 : Int32)) * (5 : Int32))), .val (.ref (own_c ((p1 &&& (2147483647 : Int32)) - ((p1 &&& (2147483647 : Int32)) / (4 : Int32)) * (4 : Int32)) wPUBLIC wPRIVATE wFINAL wABSTRACT)), .val .null, .unset, .unset] [(.int (7 : Int32)), (.int (0 : Int32)), (.ref b4), (.ref b4)])) rfl rfl (hb hby at_43)
  have V_b4_5 := Arv.set Ar_b4 q_b4 S_b4 N_b4 H_b4 G_b4 rfl W5 0 rfl (Nat.le_of_ble_eq_true rfl)
  have K5 : Keep h0 h5 [] := K4.wr W5 (Or.inr sz_b4)
  have N5 := Fr.snoc X5 N3 g_b4
  obtain ⟨cl_b4_48, Ar_b4, q_b4, S_b4, N_b4, H_b4, G_b4⟩ := V_b4_5
  have hin48 : ¬ ((1 : Int32) < 0 ∨ cl_b4_48.slots.size ≤ ((1 : Int32)).toNatClampNeg) := inb_of S_b4 ⟨by decide, by decide⟩
  obtain ⟨T6, h6, X6, e6, W6, st6⟩ := stI X5 hx hZ e5 Ar_b4 (j := (1 : Int32)) hin48 (g := (mkF m 48 #[.val (.int p1), .val (.int p2), .val (.int ((p1 &&& (2147483647 : Int32)) - ((p1 &&& (2147483647 : Int32)) / (4 : Int32)) * (4 : Int32))), .val (.int ((p2 &&& (2147483647 : Int32)) - ((p2 &&& (2147483647 : Int32)) / (5 : Int32)) * (5 : Int32))), .val (.ref (own_c ((p1 &&& (2147483647 : Int32)) - ((p1 &&& (2147483647 : Int32)) / (4 : Int32)) * (4 : Int32)) wPUBLIC wPRIVATE wFINAL wABSTRACT)), .val .null, .unset, .unset] [(.int (7 : Int32)), (.int (1 : Int32)), (.ref b4), (.ref b4)])) rfl rfl (hb hby at_48)
  have V_b4_6 := Arv.set Ar_b4 q_b4 S_b4 N_b4 H_b4 G_b4 rfl W6 1 rfl (Nat.le_of_ble_eq_true rfl)
  have K6 : Keep h0 h6 [] := K5.wr W6 (Or.inr sz_b4)
  have N6 := Fr.snoc X6 N5 g_b4
  obtain ⟨cl_b4_52, Ar_b4, q_b4, S_b4, N_b4, H_b4, G_b4⟩ := V_b4_6
  have hin52 : ¬ ((2 : Int32) < 0 ∨ cl_b4_52.slots.size ≤ ((2 : Int32)).toNatClampNeg) := inb_of S_b4 ⟨by decide, by decide⟩
  obtain ⟨T7, h7, X7, e7, W7, st7⟩ := stI X6 hx hZ e6 Ar_b4 (j := (2 : Int32)) hin52 (g := (mkF m 52 #[.val (.int p1), .val (.int p2), .val (.int ((p1 &&& (2147483647 : Int32)) - ((p1 &&& (2147483647 : Int32)) / (4 : Int32)) * (4 : Int32))), .val (.int ((p2 &&& (2147483647 : Int32)) - ((p2 &&& (2147483647 : Int32)) / (5 : Int32)) * (5 : Int32))), .val (.ref (own_c ((p1 &&& (2147483647 : Int32)) - ((p1 &&& (2147483647 : Int32)) / (4 : Int32)) * (4 : Int32)) wPUBLIC wPRIVATE wFINAL wABSTRACT)), .val .null, .unset, .unset] [(.int (2 : Int32)), (.int (2 : Int32)), (.ref b4), (.ref b4)])) rfl rfl (hb hby at_52)
  have V_b4_7 := Arv.set Ar_b4 q_b4 S_b4 N_b4 H_b4 G_b4 rfl W7 2 rfl (Nat.le_of_ble_eq_true rfl)
  have K7 : Keep h0 h7 [] := K6.wr W7 (Or.inr sz_b4)
  have N7 := Fr.snoc X7 N6 g_b4
  obtain ⟨cl_b4_57, Ar_b4, q_b4, S_b4, N_b4, H_b4, G_b4⟩ := V_b4_7
  have hin57 : ¬ ((3 : Int32) < 0 ∨ cl_b4_57.slots.size ≤ ((3 : Int32)).toNatClampNeg) := inb_of S_b4 ⟨by decide, by decide⟩
  obtain ⟨T8, h8, X8, e8, W8, st8⟩ := stI X7 hx hZ e7 Ar_b4 (j := (3 : Int32)) hin57 (g := (mkF m 57 #[.val (.int p1), .val (.int p2), .val (.int ((p1 &&& (2147483647 : Int32)) - ((p1 &&& (2147483647 : Int32)) / (4 : Int32)) * (4 : Int32))), .val (.int ((p2 &&& (2147483647 : Int32)) - ((p2 &&& (2147483647 : Int32)) / (5 : Int32)) * (5 : Int32))), .val (.ref (own_c ((p1 &&& (2147483647 : Int32)) - ((p1 &&& (2147483647 : Int32)) / (4 : Int32)) * (4 : Int32)) wPUBLIC wPRIVATE wFINAL wABSTRACT)), .val .null, .unset, .unset] [(.int (6 : Int32)), (.int (3 : Int32)), (.ref b4), (.ref b4)])) rfl rfl (hb hby at_57)
  have V_b4_8 := Arv.set Ar_b4 q_b4 S_b4 N_b4 H_b4 G_b4 rfl W8 3 rfl (Nat.le_of_ble_eq_true rfl)
  have K8 : Keep h0 h8 [] := K7.wr W8 (Or.inr sz_b4)
  have N8 := Fr.snoc X8 N7 g_b4
  obtain ⟨cl_b4_62, Ar_b4, q_b4, S_b4, N_b4, H_b4, G_b4⟩ := V_b4_8
  have hin62 : ¬ ((4 : Int32) < 0 ∨ cl_b4_62.slots.size ≤ ((4 : Int32)).toNatClampNeg) := inb_of S_b4 ⟨by decide, by decide⟩
  obtain ⟨T9, h9, X9, e9, W9, st9⟩ := stI X8 hx hZ e8 Ar_b4 (j := (4 : Int32)) hin62 (g := (mkF m 62 #[.val (.int p1), .val (.int p2), .val (.int ((p1 &&& (2147483647 : Int32)) - ((p1 &&& (2147483647 : Int32)) / (4 : Int32)) * (4 : Int32))), .val (.int ((p2 &&& (2147483647 : Int32)) - ((p2 &&& (2147483647 : Int32)) / (5 : Int32)) * (5 : Int32))), .val (.ref (own_c ((p1 &&& (2147483647 : Int32)) - ((p1 &&& (2147483647 : Int32)) / (4 : Int32)) * (4 : Int32)) wPUBLIC wPRIVATE wFINAL wABSTRACT)), .val .null, .unset, .unset] [(.int (8 : Int32)), (.int (4 : Int32)), (.ref b4), (.ref b4)])) rfl rfl (hb hby at_62)
  have V_b4_9 := Arv.set Ar_b4 q_b4 S_b4 N_b4 H_b4 G_b4 rfl W9 4 rfl (Nat.le_of_ble_eq_true rfl)
  have K9 : Keep h0 h9 [] := K8.wr W9 (Or.inr sz_b4)
  have N9 := Fr.snoc X9 N8 g_b4
  obtain ⟨cl_x, Ar_b4, q_x, S_x, N_x, H_x, G_x⟩ := V_b4_9
  have hin68 : ¬ (((p2 &&& (2147483647 : Int32)) - ((p2 &&& (2147483647 : Int32)) / (5 : Int32)) * (5 : Int32)) < 0 ∨ cl_x.slots.size ≤ (((p2 &&& (2147483647 : Int32)) - ((p2 &&& (2147483647 : Int32)) / (5 : Int32)) * (5 : Int32))).toNatClampNeg) := inb_of S_x (own_inb p2 5 5 rfl (by decide) (by decide))
  obtain ⟨w10, hW0⟩ : ∃ w, w = own_al (((p2 &&& (2147483647 : Int32)) - ((p2 &&& (2147483647 : Int32)) / (5 : Int32)) * (5 : Int32))).toNatClampNeg := ⟨_, rfl⟩
  have hat68 : cl_x.slots[(((p2 &&& (2147483647 : Int32)) - ((p2 &&& (2147483647 : Int32)) / (5 : Int32)) * (5 : Int32))).toNatClampNeg]? = some (.int w10) := by
    have hlt : (((p2 &&& (2147483647 : Int32)) - ((p2 &&& (2147483647 : Int32)) / (5 : Int32)) * (5 : Int32))).toNatClampNeg < cl_x.slots.size := Nat.lt_of_not_le fun q => hin68 (Or.inr q)
    rw [H_x _ hlt, hW0]
    rcases own_d5 p2 with r | r | r | r | r <;> rw [r] <;> rfl
  have hc73' : ((w10 >>> (((p1 &&& (2147483647 : Int32)) - ((p1 &&& (2147483647 : Int32)) / (4 : Int32)) * (4 : Int32)) &&& 31)) &&& (1 : Int32)) = (0 : Int32) := by rw [hW0]; exact hc73
  have S' : ∀ {n : String} {v : Value}, Sta Z h0 "com/example/fallbak/fallbak/xslt/Visibility" n "Lcom/example/fallbak/fallbak/xslt/Visibility;" v → Sta Z h9 "com/example/fallbak/fallbak/xslt/Visibility" n "Lcom/example/fallbak/fallbak/xslt/Visibility;" v := fun F => Sta.ext (own_Ext K9) F
  obtain ⟨cq11, kq11, q11a, q11b, q11c⟩ := isOf hZ e9 (((((((E_c.keep KC3).ext E4).wr W5).wr W6).wr W7).wr W8).wr W9)
  obtain ⟨_, _, ⟨T11, L11, k11, n11⟩, -, X11, ⟨Lc11, hQ11, l11, y11, z11⟩, st11⟩ := X9.virtualBack hx (y := (⟨"com/example/fallbak/fallbak/xslt/Visibility", "mayBeExposedOn", "(Lcom/example/fallbak/fallbak/xslt/Visibility;)Z"⟩ : MethodName)) (z := (⟨"com/example/fallbak/fallbak/xslt/Visibility", "mayBeExposedOn", "(Lcom/example/fallbak/fallbak/xslt/Visibility;)Z"⟩ : MethodName)) hown (mvT hZ (hw _ (List.mem_of_getElem? (i := 11) rfl))) (mvT hZ (hw _ (List.mem_of_getElem? (i := 12) rfl))) (notFace_of_selects (args := #[]) (mvT hZ (hw _ (List.mem_of_getElem? (i := 14) rfl)))) (mvT hZ (hw _ (List.mem_of_getElem? (i := 14) rfl))) (mvT hZ (hw _ (List.mem_of_getElem? (i := 13) rfl))) (by decide) (backOf (W := 0) (rm2n l Z a0 hw [] (own_c ((p1 &&& (2147483647 : Int32)) - ((p1 &&& (2147483647 : Int32)) / (4 : Int32)) * (4 : Int32)) wPUBLIC wPRIVATE wFINAL wABSTRACT) wPUBLIC wPRIVATE wFINAL wABSTRACT h9 n0 (Nat.le_trans Z0 K9.1) (S' S_PUBLIC) (S' S_PRIVATE) (S' S_FINAL) (S' S_ABSTRACT)) hZ (hw _ (List.mem_of_getElem? (i := 15) rfl)) (hw _ (List.mem_of_getElem? (i := 6) rfl)) (by decide) (by decide)) q11a q11c (g := (mkF m 87 #[.val (.int p1), .val (.int p2), .val (.int ((p1 &&& (2147483647 : Int32)) - ((p1 &&& (2147483647 : Int32)) / (4 : Int32)) * (4 : Int32))), .val (.int ((p2 &&& (2147483647 : Int32)) - ((p2 &&& (2147483647 : Int32)) / (5 : Int32)) * (5 : Int32))), .val (.ref (own_c ((p1 &&& (2147483647 : Int32)) - ((p1 &&& (2147483647 : Int32)) / (4 : Int32)) * (4 : Int32)) wPUBLIC wPRIVATE wFINAL wABSTRACT)), .val .null, .val (.ref b4), .val (.int (0 : Int32))] [.null, (.ref (own_c ((p1 &&& (2147483647 : Int32)) - ((p1 &&& (2147483647 : Int32)) / (4 : Int32)) * (4 : Int32)) wPUBLIC wPRIVATE wFINAL wABSTRACT))])) rfl (by rw [hml]; rfl) (Steps.refl _) (argsL := [.null]) (rest := []) (lenOf pd_0_1 rfl) rfl (by show 2 * 0 + _ ≤ _; exact Nat.le_of_eq rfl) (hb hby at_87) (fun _ _ => ⟨rfl, e9, (by decide : 1 + 0 ≤ _), (by decide : 5 + 0 ≤ _)⟩)
  dsimp only [Pt.U, Pt.locs, Pt.cells, Pt.slots] at X11 l11 y11 z11 st11 hQ11
  subst l11 y11 z11
  obtain ⟨rfl, N11q, eh_2⟩ := hQ11
  have N11 := Fr.app N9 N11q
  obtain ⟨fs, hr, hrun, hended, hW, hsame⟩ := X11.leave (v := some (.int (1 : Int32))) (fun h => by rw [Bd.returns] at h; cases h)
  refine ⟨_, _, pre0 _ ?_, hrun, hended, _, _, rfl, ?_, ⟨_, rfl⟩, hW, hsame.mono (by decide) (by decide)⟩
  · show Steps p.tables e below (s₁.setTop (mkF m 0 #[.val (.int p1), .val (.int p2), .unset, .unset, .unset, .unset, .unset, .unset] [])) _
    refine XS.iloadN X0.here hx rfl (hb hby at_0) rfl ?_
    show Steps p.tables e below (s₁.setTop (mkF m 1 #[.val (.int p1), .val (.int p2), .unset, .unset, .unset, .unset, .unset, .unset] [(.int p1)])) _
    refine X0.ldcInt hx hown (mvT hZ (hw _ (List.mem_of_getElem? (i := 0) rfl))) (g := (mkF m 1 #[.val (.int p1), .val (.int p2), .unset, .unset, .unset, .unset, .unset, .unset] [(.int p1)])) rfl (hb hby at_1) _ ?_
    show Steps p.tables e below (s₁.setTop (mkF m 3 #[.val (.int p1), .val (.int p2), .unset, .unset, .unset, .unset, .unset, .unset] [(.int (2147483647 : Int32)), (.int p1)])) _
    refine XS.iand X0.here hx rfl (hb hby at_3) rfl ?_
    show Steps p.tables e below (s₁.setTop (mkF m 4 #[.val (.int p1), .val (.int p2), .unset, .unset, .unset, .unset, .unset, .unset] [(.int (p1 &&& (2147483647 : Int32)))])) _
    refine XS.iconst X0.here hx rfl (hb hby at_4) ?_
    show Steps p.tables e below (s₁.setTop (mkF m 5 #[.val (.int p1), .val (.int p2), .unset, .unset, .unset, .unset, .unset, .unset] [(.int (4 : Int32)), (.int (p1 &&& (2147483647 : Int32)))])) _
    refine XS.irem X0.here hx rfl (hb hby at_5) rfl (by decide) ?_
    show Steps p.tables e below (s₁.setTop (mkF m 6 #[.val (.int p1), .val (.int p2), .unset, .unset, .unset, .unset, .unset, .unset] [(.int ((p1 &&& (2147483647 : Int32)) - ((p1 &&& (2147483647 : Int32)) / (4 : Int32)) * (4 : Int32)))])) _
    refine XS.istoreN X0.here hx rfl (hb hby at_6) rfl (l' := #[.val (.int p1), .val (.int p2), .val (.int ((p1 &&& (2147483647 : Int32)) - ((p1 &&& (2147483647 : Int32)) / (4 : Int32)) * (4 : Int32))), .unset, .unset, .unset, .unset, .unset]) rfl ?_
    show Steps p.tables e below (s₁.setTop (mkF m 7 #[.val (.int p1), .val (.int p2), .val (.int ((p1 &&& (2147483647 : Int32)) - ((p1 &&& (2147483647 : Int32)) / (4 : Int32)) * (4 : Int32))), .unset, .unset, .unset, .unset, .unset] [])) _
    refine XS.iloadN X0.here hx rfl (hb hby at_7) rfl ?_
    show Steps p.tables e below (s₁.setTop (mkF m 8 #[.val (.int p1), .val (.int p2), .val (.int ((p1 &&& (2147483647 : Int32)) - ((p1 &&& (2147483647 : Int32)) / (4 : Int32)) * (4 : Int32))), .unset, .unset, .unset, .unset, .unset] [(.int p2)])) _
    refine X0.ldcInt hx hown (mvT hZ (hw _ (List.mem_of_getElem? (i := 0) rfl))) (g := (mkF m 8 #[.val (.int p1), .val (.int p2), .val (.int ((p1 &&& (2147483647 : Int32)) - ((p1 &&& (2147483647 : Int32)) / (4 : Int32)) * (4 : Int32))), .unset, .unset, .unset, .unset, .unset] [(.int p2)])) rfl (hb hby at_8) _ ?_
    show Steps p.tables e below (s₁.setTop (mkF m 10 #[.val (.int p1), .val (.int p2), .val (.int ((p1 &&& (2147483647 : Int32)) - ((p1 &&& (2147483647 : Int32)) / (4 : Int32)) * (4 : Int32))), .unset, .unset, .unset, .unset, .unset] [(.int (2147483647 : Int32)), (.int p2)])) _
    refine XS.iand X0.here hx rfl (hb hby at_10) rfl ?_
    show Steps p.tables e below (s₁.setTop (mkF m 11 #[.val (.int p1), .val (.int p2), .val (.int ((p1 &&& (2147483647 : Int32)) - ((p1 &&& (2147483647 : Int32)) / (4 : Int32)) * (4 : Int32))), .unset, .unset, .unset, .unset, .unset] [(.int (p2 &&& (2147483647 : Int32)))])) _
    refine XS.iconst X0.here hx rfl (hb hby at_11) ?_
    show Steps p.tables e below (s₁.setTop (mkF m 12 #[.val (.int p1), .val (.int p2), .val (.int ((p1 &&& (2147483647 : Int32)) - ((p1 &&& (2147483647 : Int32)) / (4 : Int32)) * (4 : Int32))), .unset, .unset, .unset, .unset, .unset] [(.int (5 : Int32)), (.int (p2 &&& (2147483647 : Int32)))])) _
    refine XS.irem X0.here hx rfl (hb hby at_12) rfl (by decide) ?_
    show Steps p.tables e below (s₁.setTop (mkF m 13 #[.val (.int p1), .val (.int p2), .val (.int ((p1 &&& (2147483647 : Int32)) - ((p1 &&& (2147483647 : Int32)) / (4 : Int32)) * (4 : Int32))), .unset, .unset, .unset, .unset, .unset] [(.int ((p2 &&& (2147483647 : Int32)) - ((p2 &&& (2147483647 : Int32)) / (5 : Int32)) * (5 : Int32)))])) _
    refine XS.istoreN X0.here hx rfl (hb hby at_13) rfl (l' := #[.val (.int p1), .val (.int p2), .val (.int ((p1 &&& (2147483647 : Int32)) - ((p1 &&& (2147483647 : Int32)) / (4 : Int32)) * (4 : Int32))), .val (.int ((p2 &&& (2147483647 : Int32)) - ((p2 &&& (2147483647 : Int32)) / (5 : Int32)) * (5 : Int32))), .unset, .unset, .unset, .unset]) rfl ?_
    show Steps p.tables e below (s₁.setTop (mkF m 14 #[.val (.int p1), .val (.int p2), .val (.int ((p1 &&& (2147483647 : Int32)) - ((p1 &&& (2147483647 : Int32)) / (4 : Int32)) * (4 : Int32))), .val (.int ((p2 &&& (2147483647 : Int32)) - ((p2 &&& (2147483647 : Int32)) / (5 : Int32)) * (5 : Int32))), .unset, .unset, .unset, .unset] [])) _
    refine XS.iloadN X0.here hx rfl (hb hby at_14) rfl ?_
    show Steps p.tables e below (s₁.setTop (mkF m 15 #[.val (.int p1), .val (.int p2), .val (.int ((p1 &&& (2147483647 : Int32)) - ((p1 &&& (2147483647 : Int32)) / (4 : Int32)) * (4 : Int32))), .val (.int ((p2 &&& (2147483647 : Int32)) - ((p2 &&& (2147483647 : Int32)) / (5 : Int32)) * (5 : Int32))), .unset, .unset, .unset, .unset] [(.int ((p1 &&& (2147483647 : Int32)) - ((p1 &&& (2147483647 : Int32)) / (4 : Int32)) * (4 : Int32)))])) _
    refine st3 _ ?_
    show Steps p.tables e below (T3.setTop (mkF m 18 #[.val (.int p1), .val (.int p2), .val (.int ((p1 &&& (2147483647 : Int32)) - ((p1 &&& (2147483647 : Int32)) / (4 : Int32)) * (4 : Int32))), .val (.int ((p2 &&& (2147483647 : Int32)) - ((p2 &&& (2147483647 : Int32)) / (5 : Int32)) * (5 : Int32))), .unset, .unset, .unset, .unset] [(.ref (own_c ((p1 &&& (2147483647 : Int32)) - ((p1 &&& (2147483647 : Int32)) / (4 : Int32)) * (4 : Int32)) wPUBLIC wPRIVATE wFINAL wABSTRACT))])) _
    refine XS.astore X3.here hx rfl (hb hby at_18) rfl rfl (l' := #[.val (.int p1), .val (.int p2), .val (.int ((p1 &&& (2147483647 : Int32)) - ((p1 &&& (2147483647 : Int32)) / (4 : Int32)) * (4 : Int32))), .val (.int ((p2 &&& (2147483647 : Int32)) - ((p2 &&& (2147483647 : Int32)) / (5 : Int32)) * (5 : Int32))), .val (.ref (own_c ((p1 &&& (2147483647 : Int32)) - ((p1 &&& (2147483647 : Int32)) / (4 : Int32)) * (4 : Int32)) wPUBLIC wPRIVATE wFINAL wABSTRACT)), .unset, .unset, .unset]) rfl ?_
    show Steps p.tables e below (T3.setTop (mkF m 20 #[.val (.int p1), .val (.int p2), .val (.int ((p1 &&& (2147483647 : Int32)) - ((p1 &&& (2147483647 : Int32)) / (4 : Int32)) * (4 : Int32))), .val (.int ((p2 &&& (2147483647 : Int32)) - ((p2 &&& (2147483647 : Int32)) / (5 : Int32)) * (5 : Int32))), .val (.ref (own_c ((p1 &&& (2147483647 : Int32)) - ((p1 &&& (2147483647 : Int32)) / (4 : Int32)) * (4 : Int32)) wPUBLIC wPRIVATE wFINAL wABSTRACT)), .unset, .unset, .unset] [])) _
    refine XS.iloadN X3.here hx rfl (hb hby at_20) rfl ?_
    show Steps p.tables e below (T3.setTop (mkF m 21 #[.val (.int p1), .val (.int p2), .val (.int ((p1 &&& (2147483647 : Int32)) - ((p1 &&& (2147483647 : Int32)) / (4 : Int32)) * (4 : Int32))), .val (.int ((p2 &&& (2147483647 : Int32)) - ((p2 &&& (2147483647 : Int32)) / (5 : Int32)) * (5 : Int32))), .val (.ref (own_c ((p1 &&& (2147483647 : Int32)) - ((p1 &&& (2147483647 : Int32)) / (4 : Int32)) * (4 : Int32)) wPUBLIC wPRIVATE wFINAL wABSTRACT)), .unset, .unset, .unset] [(.int ((p2 &&& (2147483647 : Int32)) - ((p2 &&& (2147483647 : Int32)) / (5 : Int32)) * (5 : Int32)))])) _
    refine XS.ifNo X3.here hx rfl (hb hby at_21) rfl ((if0 _ _).trans (teq hc21).2) ?_
    show Steps p.tables e below (T3.setTop (mkF m 24 #[.val (.int p1), .val (.int p2), .val (.int ((p1 &&& (2147483647 : Int32)) - ((p1 &&& (2147483647 : Int32)) / (4 : Int32)) * (4 : Int32))), .val (.int ((p2 &&& (2147483647 : Int32)) - ((p2 &&& (2147483647 : Int32)) / (5 : Int32)) * (5 : Int32))), .val (.ref (own_c ((p1 &&& (2147483647 : Int32)) - ((p1 &&& (2147483647 : Int32)) / (4 : Int32)) * (4 : Int32)) wPUBLIC wPRIVATE wFINAL wABSTRACT)), .unset, .unset, .unset] [])) _
    refine XS.aconstNull X3.here hx rfl (hb hby at_24) ?_
    show Steps p.tables e below (T3.setTop (mkF m 25 #[.val (.int p1), .val (.int p2), .val (.int ((p1 &&& (2147483647 : Int32)) - ((p1 &&& (2147483647 : Int32)) / (4 : Int32)) * (4 : Int32))), .val (.int ((p2 &&& (2147483647 : Int32)) - ((p2 &&& (2147483647 : Int32)) / (5 : Int32)) * (5 : Int32))), .val (.ref (own_c ((p1 &&& (2147483647 : Int32)) - ((p1 &&& (2147483647 : Int32)) / (4 : Int32)) * (4 : Int32)) wPUBLIC wPRIVATE wFINAL wABSTRACT)), .unset, .unset, .unset] [.null])) _
    refine XS.goto X3.here hx rfl (pc0 := 25) (pc' := 34) rfl (hb hby at_25) (by decide) (by decide) ?_
    show Steps p.tables e below (T3.setTop (mkF m 34 #[.val (.int p1), .val (.int p2), .val (.int ((p1 &&& (2147483647 : Int32)) - ((p1 &&& (2147483647 : Int32)) / (4 : Int32)) * (4 : Int32))), .val (.int ((p2 &&& (2147483647 : Int32)) - ((p2 &&& (2147483647 : Int32)) / (5 : Int32)) * (5 : Int32))), .val (.ref (own_c ((p1 &&& (2147483647 : Int32)) - ((p1 &&& (2147483647 : Int32)) / (4 : Int32)) * (4 : Int32)) wPUBLIC wPRIVATE wFINAL wABSTRACT)), .unset, .unset, .unset] [.null])) _
    refine XS.astore X3.here hx rfl (hb hby at_34) rfl rfl (l' := #[.val (.int p1), .val (.int p2), .val (.int ((p1 &&& (2147483647 : Int32)) - ((p1 &&& (2147483647 : Int32)) / (4 : Int32)) * (4 : Int32))), .val (.int ((p2 &&& (2147483647 : Int32)) - ((p2 &&& (2147483647 : Int32)) / (5 : Int32)) * (5 : Int32))), .val (.ref (own_c ((p1 &&& (2147483647 : Int32)) - ((p1 &&& (2147483647 : Int32)) / (4 : Int32)) * (4 : Int32)) wPUBLIC wPRIVATE wFINAL wABSTRACT)), .val .null, .unset, .unset]) rfl ?_
    show Steps p.tables e below (T3.setTop (mkF m 36 #[.val (.int p1), .val (.int p2), .val (.int ((p1 &&& (2147483647 : Int32)) - ((p1 &&& (2147483647 : Int32)) / (4 : Int32)) * (4 : Int32))), .val (.int ((p2 &&& (2147483647 : Int32)) - ((p2 &&& (2147483647 : Int32)) / (5 : Int32)) * (5 : Int32))), .val (.ref (own_c ((p1 &&& (2147483647 : Int32)) - ((p1 &&& (2147483647 : Int32)) / (4 : Int32)) * (4 : Int32)) wPUBLIC wPRIVATE wFINAL wABSTRACT)), .val .null, .unset, .unset] [])) _
    refine XS.iconst X3.here hx rfl (hb hby at_36) ?_
    show Steps p.tables e below (T3.setTop (mkF m 37 #[.val (.int p1), .val (.int p2), .val (.int ((p1 &&& (2147483647 : Int32)) - ((p1 &&& (2147483647 : Int32)) / (4 : Int32)) * (4 : Int32))), .val (.int ((p2 &&& (2147483647 : Int32)) - ((p2 &&& (2147483647 : Int32)) / (5 : Int32)) * (5 : Int32))), .val (.ref (own_c ((p1 &&& (2147483647 : Int32)) - ((p1 &&& (2147483647 : Int32)) / (4 : Int32)) * (4 : Int32)) wPUBLIC wPRIVATE wFINAL wABSTRACT)), .val .null, .unset, .unset] [(.int (5 : Int32))])) _
    refine st4 _ ?_
    show Steps p.tables e below (T4.setTop (mkF m 39 #[.val (.int p1), .val (.int p2), .val (.int ((p1 &&& (2147483647 : Int32)) - ((p1 &&& (2147483647 : Int32)) / (4 : Int32)) * (4 : Int32))), .val (.int ((p2 &&& (2147483647 : Int32)) - ((p2 &&& (2147483647 : Int32)) / (5 : Int32)) * (5 : Int32))), .val (.ref (own_c ((p1 &&& (2147483647 : Int32)) - ((p1 &&& (2147483647 : Int32)) / (4 : Int32)) * (4 : Int32)) wPUBLIC wPRIVATE wFINAL wABSTRACT)), .val .null, .unset, .unset] [(.ref b4)])) _
    refine XS.dup X4.here hx rfl (hb hby at_39) rfl rfl ?_
    show Steps p.tables e below (T4.setTop (mkF m 40 #[.val (.int p1), .val (.int p2), .val (.int ((p1 &&& (2147483647 : Int32)) - ((p1 &&& (2147483647 : Int32)) / (4 : Int32)) * (4 : Int32))), .val (.int ((p2 &&& (2147483647 : Int32)) - ((p2 &&& (2147483647 : Int32)) / (5 : Int32)) * (5 : Int32))), .val (.ref (own_c ((p1 &&& (2147483647 : Int32)) - ((p1 &&& (2147483647 : Int32)) / (4 : Int32)) * (4 : Int32)) wPUBLIC wPRIVATE wFINAL wABSTRACT)), .val .null, .unset, .unset] [(.ref b4), (.ref b4)])) _
    refine XS.iconst X4.here hx rfl (hb hby at_40) ?_
    show Steps p.tables e below (T4.setTop (mkF m 41 #[.val (.int p1), .val (.int p2), .val (.int ((p1 &&& (2147483647 : Int32)) - ((p1 &&& (2147483647 : Int32)) / (4 : Int32)) * (4 : Int32))), .val (.int ((p2 &&& (2147483647 : Int32)) - ((p2 &&& (2147483647 : Int32)) / (5 : Int32)) * (5 : Int32))), .val (.ref (own_c ((p1 &&& (2147483647 : Int32)) - ((p1 &&& (2147483647 : Int32)) / (4 : Int32)) * (4 : Int32)) wPUBLIC wPRIVATE wFINAL wABSTRACT)), .val .null, .unset, .unset] [(.int (0 : Int32)), (.ref b4), (.ref b4)])) _
    refine XS.bipush X4.here hx rfl (hb hby at_41) ?_
    show Steps p.tables e below (T4.setTop (mkF m 43 #[.val (.int p1), .val (.int p2), .val (.int ((p1 &&& (2147483647 : Int32)) - ((p1 &&& (2147483647 : Int32)) / (4 : Int32)) * (4 : Int32))), .val (.int ((p2 &&& (2147483647 : Int32)) - ((p2 &&& (2147483647 : Int32)) / (5 : Int32)) * (5 : Int32))), .val (.ref (own_c ((p1 &&& (2147483647 : Int32)) - ((p1 &&& (2147483647 : Int32)) / (4 : Int32)) * (4 : Int32)) wPUBLIC wPRIVATE wFINAL wABSTRACT)), .val .null, .unset, .unset] [(.int (7 : Int32)), (.int (0 : Int32)), (.ref b4), (.ref b4)])) _
    refine st5 _ ?_
    show Steps p.tables e below (T5.setTop (mkF m 44 #[.val (.int p1), .val (.int p2), .val (.int ((p1 &&& (2147483647 : Int32)) - ((p1 &&& (2147483647 : Int32)) / (4 : Int32)) * (4 : Int32))), .val (.int ((p2 &&& (2147483647 : Int32)) - ((p2 &&& (2147483647 : Int32)) / (5 : Int32)) * (5 : Int32))), .val (.ref (own_c ((p1 &&& (2147483647 : Int32)) - ((p1 &&& (2147483647 : Int32)) / (4 : Int32)) * (4 : Int32)) wPUBLIC wPRIVATE wFINAL wABSTRACT)), .val .null, .unset, .unset] [(.ref b4)])) _
    refine XS.dup X5.here hx rfl (hb hby at_44) rfl rfl ?_
    show Steps p.tables e below (T5.setTop (mkF m 45 #[.val (.int p1), .val (.int p2), .val (.int ((p1 &&& (2147483647 : Int32)) - ((p1 &&& (2147483647 : Int32)) / (4 : Int32)) * (4 : Int32))), .val (.int ((p2 &&& (2147483647 : Int32)) - ((p2 &&& (2147483647 : Int32)) / (5 : Int32)) * (5 : Int32))), .val (.ref (own_c ((p1 &&& (2147483647 : Int32)) - ((p1 &&& (2147483647 : Int32)) / (4 : Int32)) * (4 : Int32)) wPUBLIC wPRIVATE wFINAL wABSTRACT)), .val .null, .unset, .unset] [(.ref b4), (.ref b4)])) _
    refine XS.iconst X5.here hx rfl (hb hby at_45) ?_
    show Steps p.tables e below (T5.setTop (mkF m 46 #[.val (.int p1), .val (.int p2), .val (.int ((p1 &&& (2147483647 : Int32)) - ((p1 &&& (2147483647 : Int32)) / (4 : Int32)) * (4 : Int32))), .val (.int ((p2 &&& (2147483647 : Int32)) - ((p2 &&& (2147483647 : Int32)) / (5 : Int32)) * (5 : Int32))), .val (.ref (own_c ((p1 &&& (2147483647 : Int32)) - ((p1 &&& (2147483647 : Int32)) / (4 : Int32)) * (4 : Int32)) wPUBLIC wPRIVATE wFINAL wABSTRACT)), .val .null, .unset, .unset] [(.int (1 : Int32)), (.ref b4), (.ref b4)])) _
    refine XS.bipush X5.here hx rfl (hb hby at_46) ?_
    show Steps p.tables e below (T5.setTop (mkF m 48 #[.val (.int p1), .val (.int p2), .val (.int ((p1 &&& (2147483647 : Int32)) - ((p1 &&& (2147483647 : Int32)) / (4 : Int32)) * (4 : Int32))), .val (.int ((p2 &&& (2147483647 : Int32)) - ((p2 &&& (2147483647 : Int32)) / (5 : Int32)) * (5 : Int32))), .val (.ref (own_c ((p1 &&& (2147483647 : Int32)) - ((p1 &&& (2147483647 : Int32)) / (4 : Int32)) * (4 : Int32)) wPUBLIC wPRIVATE wFINAL wABSTRACT)), .val .null, .unset, .unset] [(.int (7 : Int32)), (.int (1 : Int32)), (.ref b4), (.ref b4)])) _
    refine st6 _ ?_
    show Steps p.tables e below (T6.setTop (mkF m 49 #[.val (.int p1), .val (.int p2), .val (.int ((p1 &&& (2147483647 : Int32)) - ((p1 &&& (2147483647 : Int32)) / (4 : Int32)) * (4 : Int32))), .val (.int ((p2 &&& (2147483647 : Int32)) - ((p2 &&& (2147483647 : Int32)) / (5 : Int32)) * (5 : Int32))), .val (.ref (own_c ((p1 &&& (2147483647 : Int32)) - ((p1 &&& (2147483647 : Int32)) / (4 : Int32)) * (4 : Int32)) wPUBLIC wPRIVATE wFINAL wABSTRACT)), .val .null, .unset, .unset] [(.ref b4)])) _
    refine XS.dup X6.here hx rfl (hb hby at_49) rfl rfl ?_
    show Steps p.tables e below (T6.setTop (mkF m 50 #[.val (.int p1), .val (.int p2), .val (.int ((p1 &&& (2147483647 : Int32)) - ((p1 &&& (2147483647 : Int32)) / (4 : Int32)) * (4 : Int32))), .val (.int ((p2 &&& (2147483647 : Int32)) - ((p2 &&& (2147483647 : Int32)) / (5 : Int32)) * (5 : Int32))), .val (.ref (own_c ((p1 &&& (2147483647 : Int32)) - ((p1 &&& (2147483647 : Int32)) / (4 : Int32)) * (4 : Int32)) wPUBLIC wPRIVATE wFINAL wABSTRACT)), .val .null, .unset, .unset] [(.ref b4), (.ref b4)])) _
    refine XS.iconst X6.here hx rfl (hb hby at_50) ?_
    show Steps p.tables e below (T6.setTop (mkF m 51 #[.val (.int p1), .val (.int p2), .val (.int ((p1 &&& (2147483647 : Int32)) - ((p1 &&& (2147483647 : Int32)) / (4 : Int32)) * (4 : Int32))), .val (.int ((p2 &&& (2147483647 : Int32)) - ((p2 &&& (2147483647 : Int32)) / (5 : Int32)) * (5 : Int32))), .val (.ref (own_c ((p1 &&& (2147483647 : Int32)) - ((p1 &&& (2147483647 : Int32)) / (4 : Int32)) * (4 : Int32)) wPUBLIC wPRIVATE wFINAL wABSTRACT)), .val .null, .unset, .unset] [(.int (2 : Int32)), (.ref b4), (.ref b4)])) _
    refine XS.iconst X6.here hx rfl (hb hby at_51) ?_
    show Steps p.tables e below (T6.setTop (mkF m 52 #[.val (.int p1), .val (.int p2), .val (.int ((p1 &&& (2147483647 : Int32)) - ((p1 &&& (2147483647 : Int32)) / (4 : Int32)) * (4 : Int32))), .val (.int ((p2 &&& (2147483647 : Int32)) - ((p2 &&& (2147483647 : Int32)) / (5 : Int32)) * (5 : Int32))), .val (.ref (own_c ((p1 &&& (2147483647 : Int32)) - ((p1 &&& (2147483647 : Int32)) / (4 : Int32)) * (4 : Int32)) wPUBLIC wPRIVATE wFINAL wABSTRACT)), .val .null, .unset, .unset] [(.int (2 : Int32)), (.int (2 : Int32)), (.ref b4), (.ref b4)])) _
    refine st7 _ ?_
    show Steps p.tables e below (T7.setTop (mkF m 53 #[.val (.int p1), .val (.int p2), .val (.int ((p1 &&& (2147483647 : Int32)) - ((p1 &&& (2147483647 : Int32)) / (4 : Int32)) * (4 : Int32))), .val (.int ((p2 &&& (2147483647 : Int32)) - ((p2 &&& (2147483647 : Int32)) / (5 : Int32)) * (5 : Int32))), .val (.ref (own_c ((p1 &&& (2147483647 : Int32)) - ((p1 &&& (2147483647 : Int32)) / (4 : Int32)) * (4 : Int32)) wPUBLIC wPRIVATE wFINAL wABSTRACT)), .val .null, .unset, .unset] [(.ref b4)])) _
    refine XS.dup X7.here hx rfl (hb hby at_53) rfl rfl ?_
    show Steps p.tables e below (T7.setTop (mkF m 54 #[.val (.int p1), .val (.int p2), .val (.int ((p1 &&& (2147483647 : Int32)) - ((p1 &&& (2147483647 : Int32)) / (4 : Int32)) * (4 : Int32))), .val (.int ((p2 &&& (2147483647 : Int32)) - ((p2 &&& (2147483647 : Int32)) / (5 : Int32)) * (5 : Int32))), .val (.ref (own_c ((p1 &&& (2147483647 : Int32)) - ((p1 &&& (2147483647 : Int32)) / (4 : Int32)) * (4 : Int32)) wPUBLIC wPRIVATE wFINAL wABSTRACT)), .val .null, .unset, .unset] [(.ref b4), (.ref b4)])) _
    refine XS.iconst X7.here hx rfl (hb hby at_54) ?_
    show Steps p.tables e below (T7.setTop (mkF m 55 #[.val (.int p1), .val (.int p2), .val (.int ((p1 &&& (2147483647 : Int32)) - ((p1 &&& (2147483647 : Int32)) / (4 : Int32)) * (4 : Int32))), .val (.int ((p2 &&& (2147483647 : Int32)) - ((p2 &&& (2147483647 : Int32)) / (5 : Int32)) * (5 : Int32))), .val (.ref (own_c ((p1 &&& (2147483647 : Int32)) - ((p1 &&& (2147483647 : Int32)) / (4 : Int32)) * (4 : Int32)) wPUBLIC wPRIVATE wFINAL wABSTRACT)), .val .null, .unset, .unset] [(.int (3 : Int32)), (.ref b4), (.ref b4)])) _
    refine XS.bipush X7.here hx rfl (hb hby at_55) ?_
    show Steps p.tables e below (T7.setTop (mkF m 57 #[.val (.int p1), .val (.int p2), .val (.int ((p1 &&& (2147483647 : Int32)) - ((p1 &&& (2147483647 : Int32)) / (4 : Int32)) * (4 : Int32))), .val (.int ((p2 &&& (2147483647 : Int32)) - ((p2 &&& (2147483647 : Int32)) / (5 : Int32)) * (5 : Int32))), .val (.ref (own_c ((p1 &&& (2147483647 : Int32)) - ((p1 &&& (2147483647 : Int32)) / (4 : Int32)) * (4 : Int32)) wPUBLIC wPRIVATE wFINAL wABSTRACT)), .val .null, .unset, .unset] [(.int (6 : Int32)), (.int (3 : Int32)), (.ref b4), (.ref b4)])) _
    refine st8 _ ?_
    show Steps p.tables e below (T8.setTop (mkF m 58 #[.val (.int p1), .val (.int p2), .val (.int ((p1 &&& (2147483647 : Int32)) - ((p1 &&& (2147483647 : Int32)) / (4 : Int32)) * (4 : Int32))), .val (.int ((p2 &&& (2147483647 : Int32)) - ((p2 &&& (2147483647 : Int32)) / (5 : Int32)) * (5 : Int32))), .val (.ref (own_c ((p1 &&& (2147483647 : Int32)) - ((p1 &&& (2147483647 : Int32)) / (4 : Int32)) * (4 : Int32)) wPUBLIC wPRIVATE wFINAL wABSTRACT)), .val .null, .unset, .unset] [(.ref b4)])) _
    refine XS.dup X8.here hx rfl (hb hby at_58) rfl rfl ?_
    show Steps p.tables e below (T8.setTop (mkF m 59 #[.val (.int p1), .val (.int p2), .val (.int ((p1 &&& (2147483647 : Int32)) - ((p1 &&& (2147483647 : Int32)) / (4 : Int32)) * (4 : Int32))), .val (.int ((p2 &&& (2147483647 : Int32)) - ((p2 &&& (2147483647 : Int32)) / (5 : Int32)) * (5 : Int32))), .val (.ref (own_c ((p1 &&& (2147483647 : Int32)) - ((p1 &&& (2147483647 : Int32)) / (4 : Int32)) * (4 : Int32)) wPUBLIC wPRIVATE wFINAL wABSTRACT)), .val .null, .unset, .unset] [(.ref b4), (.ref b4)])) _
    refine XS.iconst X8.here hx rfl (hb hby at_59) ?_
    show Steps p.tables e below (T8.setTop (mkF m 60 #[.val (.int p1), .val (.int p2), .val (.int ((p1 &&& (2147483647 : Int32)) - ((p1 &&& (2147483647 : Int32)) / (4 : Int32)) * (4 : Int32))), .val (.int ((p2 &&& (2147483647 : Int32)) - ((p2 &&& (2147483647 : Int32)) / (5 : Int32)) * (5 : Int32))), .val (.ref (own_c ((p1 &&& (2147483647 : Int32)) - ((p1 &&& (2147483647 : Int32)) / (4 : Int32)) * (4 : Int32)) wPUBLIC wPRIVATE wFINAL wABSTRACT)), .val .null, .unset, .unset] [(.int (4 : Int32)), (.ref b4), (.ref b4)])) _
    refine XS.bipush X8.here hx rfl (hb hby at_60) ?_
    show Steps p.tables e below (T8.setTop (mkF m 62 #[.val (.int p1), .val (.int p2), .val (.int ((p1 &&& (2147483647 : Int32)) - ((p1 &&& (2147483647 : Int32)) / (4 : Int32)) * (4 : Int32))), .val (.int ((p2 &&& (2147483647 : Int32)) - ((p2 &&& (2147483647 : Int32)) / (5 : Int32)) * (5 : Int32))), .val (.ref (own_c ((p1 &&& (2147483647 : Int32)) - ((p1 &&& (2147483647 : Int32)) / (4 : Int32)) * (4 : Int32)) wPUBLIC wPRIVATE wFINAL wABSTRACT)), .val .null, .unset, .unset] [(.int (8 : Int32)), (.int (4 : Int32)), (.ref b4), (.ref b4)])) _
    refine st9 _ ?_
    show Steps p.tables e below (T9.setTop (mkF m 63 #[.val (.int p1), .val (.int p2), .val (.int ((p1 &&& (2147483647 : Int32)) - ((p1 &&& (2147483647 : Int32)) / (4 : Int32)) * (4 : Int32))), .val (.int ((p2 &&& (2147483647 : Int32)) - ((p2 &&& (2147483647 : Int32)) / (5 : Int32)) * (5 : Int32))), .val (.ref (own_c ((p1 &&& (2147483647 : Int32)) - ((p1 &&& (2147483647 : Int32)) / (4 : Int32)) * (4 : Int32)) wPUBLIC wPRIVATE wFINAL wABSTRACT)), .val .null, .unset, .unset] [(.ref b4)])) _
    refine XS.astore X9.here hx rfl (hb hby at_63) rfl rfl (l' := #[.val (.int p1), .val (.int p2), .val (.int ((p1 &&& (2147483647 : Int32)) - ((p1 &&& (2147483647 : Int32)) / (4 : Int32)) * (4 : Int32))), .val (.int ((p2 &&& (2147483647 : Int32)) - ((p2 &&& (2147483647 : Int32)) / (5 : Int32)) * (5 : Int32))), .val (.ref (own_c ((p1 &&& (2147483647 : Int32)) - ((p1 &&& (2147483647 : Int32)) / (4 : Int32)) * (4 : Int32)) wPUBLIC wPRIVATE wFINAL wABSTRACT)), .val .null, .val (.ref b4), .unset]) rfl ?_
    show Steps p.tables e below (T9.setTop (mkF m 65 #[.val (.int p1), .val (.int p2), .val (.int ((p1 &&& (2147483647 : Int32)) - ((p1 &&& (2147483647 : Int32)) / (4 : Int32)) * (4 : Int32))), .val (.int ((p2 &&& (2147483647 : Int32)) - ((p2 &&& (2147483647 : Int32)) / (5 : Int32)) * (5 : Int32))), .val (.ref (own_c ((p1 &&& (2147483647 : Int32)) - ((p1 &&& (2147483647 : Int32)) / (4 : Int32)) * (4 : Int32)) wPUBLIC wPRIVATE wFINAL wABSTRACT)), .val .null, .val (.ref b4), .unset] [])) _
    refine XS.aload X9.here hx rfl (hb hby at_65) rfl rfl ?_
    show Steps p.tables e below (T9.setTop (mkF m 67 #[.val (.int p1), .val (.int p2), .val (.int ((p1 &&& (2147483647 : Int32)) - ((p1 &&& (2147483647 : Int32)) / (4 : Int32)) * (4 : Int32))), .val (.int ((p2 &&& (2147483647 : Int32)) - ((p2 &&& (2147483647 : Int32)) / (5 : Int32)) * (5 : Int32))), .val (.ref (own_c ((p1 &&& (2147483647 : Int32)) - ((p1 &&& (2147483647 : Int32)) / (4 : Int32)) * (4 : Int32)) wPUBLIC wPRIVATE wFINAL wABSTRACT)), .val .null, .val (.ref b4), .unset] [(.ref b4)])) _
    refine XS.iloadN X9.here hx rfl (hb hby at_67) rfl ?_
    show Steps p.tables e below (T9.setTop (mkF m 68 #[.val (.int p1), .val (.int p2), .val (.int ((p1 &&& (2147483647 : Int32)) - ((p1 &&& (2147483647 : Int32)) / (4 : Int32)) * (4 : Int32))), .val (.int ((p2 &&& (2147483647 : Int32)) - ((p2 &&& (2147483647 : Int32)) / (5 : Int32)) * (5 : Int32))), .val (.ref (own_c ((p1 &&& (2147483647 : Int32)) - ((p1 &&& (2147483647 : Int32)) / (4 : Int32)) * (4 : Int32)) wPUBLIC wPRIVATE wFINAL wABSTRACT)), .val .null, .val (.ref b4), .unset] [(.int ((p2 &&& (2147483647 : Int32)) - ((p2 &&& (2147483647 : Int32)) / (5 : Int32)) * (5 : Int32))), (.ref b4)])) _
    refine X9.iaload hx (j := ((p2 &&& (2147483647 : Int32)) - ((p2 &&& (2147483647 : Int32)) / (5 : Int32)) * (5 : Int32))) (v := (.int w10)) (by rw [e9]; exact Ar_b4.1) (State.isArrayOf_alike hZ.alike Ar_b4.2.1) Ar_b4.2.2 hin68 hat68 (g := (mkF m 68 #[.val (.int p1), .val (.int p2), .val (.int ((p1 &&& (2147483647 : Int32)) - ((p1 &&& (2147483647 : Int32)) / (4 : Int32)) * (4 : Int32))), .val (.int ((p2 &&& (2147483647 : Int32)) - ((p2 &&& (2147483647 : Int32)) / (5 : Int32)) * (5 : Int32))), .val (.ref (own_c ((p1 &&& (2147483647 : Int32)) - ((p1 &&& (2147483647 : Int32)) / (4 : Int32)) * (4 : Int32)) wPUBLIC wPRIVATE wFINAL wABSTRACT)), .val .null, .val (.ref b4), .unset] [(.int ((p2 &&& (2147483647 : Int32)) - ((p2 &&& (2147483647 : Int32)) / (5 : Int32)) * (5 : Int32))), (.ref b4)])) rfl rfl (hb hby at_68) _ ?_
    show Steps p.tables e below (T9.setTop (mkF m 69 #[.val (.int p1), .val (.int p2), .val (.int ((p1 &&& (2147483647 : Int32)) - ((p1 &&& (2147483647 : Int32)) / (4 : Int32)) * (4 : Int32))), .val (.int ((p2 &&& (2147483647 : Int32)) - ((p2 &&& (2147483647 : Int32)) / (5 : Int32)) * (5 : Int32))), .val (.ref (own_c ((p1 &&& (2147483647 : Int32)) - ((p1 &&& (2147483647 : Int32)) / (4 : Int32)) * (4 : Int32)) wPUBLIC wPRIVATE wFINAL wABSTRACT)), .val .null, .val (.ref b4), .unset] [(.int w10)])) _
    refine XS.iloadN X9.here hx rfl (hb hby at_69) rfl ?_
    show Steps p.tables e below (T9.setTop (mkF m 70 #[.val (.int p1), .val (.int p2), .val (.int ((p1 &&& (2147483647 : Int32)) - ((p1 &&& (2147483647 : Int32)) / (4 : Int32)) * (4 : Int32))), .val (.int ((p2 &&& (2147483647 : Int32)) - ((p2 &&& (2147483647 : Int32)) / (5 : Int32)) * (5 : Int32))), .val (.ref (own_c ((p1 &&& (2147483647 : Int32)) - ((p1 &&& (2147483647 : Int32)) / (4 : Int32)) * (4 : Int32)) wPUBLIC wPRIVATE wFINAL wABSTRACT)), .val .null, .val (.ref b4), .unset] [(.int ((p1 &&& (2147483647 : Int32)) - ((p1 &&& (2147483647 : Int32)) / (4 : Int32)) * (4 : Int32))), (.int w10)])) _
    refine XS.ishr X9.here hx rfl (hb hby at_70) rfl ?_
    show Steps p.tables e below (T9.setTop (mkF m 71 #[.val (.int p1), .val (.int p2), .val (.int ((p1 &&& (2147483647 : Int32)) - ((p1 &&& (2147483647 : Int32)) / (4 : Int32)) * (4 : Int32))), .val (.int ((p2 &&& (2147483647 : Int32)) - ((p2 &&& (2147483647 : Int32)) / (5 : Int32)) * (5 : Int32))), .val (.ref (own_c ((p1 &&& (2147483647 : Int32)) - ((p1 &&& (2147483647 : Int32)) / (4 : Int32)) * (4 : Int32)) wPUBLIC wPRIVATE wFINAL wABSTRACT)), .val .null, .val (.ref b4), .unset] [(.int (w10 >>> (((p1 &&& (2147483647 : Int32)) - ((p1 &&& (2147483647 : Int32)) / (4 : Int32)) * (4 : Int32)) &&& 31)))])) _
    refine XS.iconst X9.here hx rfl (hb hby at_71) ?_
    show Steps p.tables e below (T9.setTop (mkF m 72 #[.val (.int p1), .val (.int p2), .val (.int ((p1 &&& (2147483647 : Int32)) - ((p1 &&& (2147483647 : Int32)) / (4 : Int32)) * (4 : Int32))), .val (.int ((p2 &&& (2147483647 : Int32)) - ((p2 &&& (2147483647 : Int32)) / (5 : Int32)) * (5 : Int32))), .val (.ref (own_c ((p1 &&& (2147483647 : Int32)) - ((p1 &&& (2147483647 : Int32)) / (4 : Int32)) * (4 : Int32)) wPUBLIC wPRIVATE wFINAL wABSTRACT)), .val .null, .val (.ref b4), .unset] [(.int (1 : Int32)), (.int (w10 >>> (((p1 &&& (2147483647 : Int32)) - ((p1 &&& (2147483647 : Int32)) / (4 : Int32)) * (4 : Int32)) &&& 31)))])) _
    refine XS.iand X9.here hx rfl (hb hby at_72) rfl ?_
    show Steps p.tables e below (T9.setTop (mkF m 73 #[.val (.int p1), .val (.int p2), .val (.int ((p1 &&& (2147483647 : Int32)) - ((p1 &&& (2147483647 : Int32)) / (4 : Int32)) * (4 : Int32))), .val (.int ((p2 &&& (2147483647 : Int32)) - ((p2 &&& (2147483647 : Int32)) / (5 : Int32)) * (5 : Int32))), .val (.ref (own_c ((p1 &&& (2147483647 : Int32)) - ((p1 &&& (2147483647 : Int32)) / (4 : Int32)) * (4 : Int32)) wPUBLIC wPRIVATE wFINAL wABSTRACT)), .val .null, .val (.ref b4), .unset] [(.int ((w10 >>> (((p1 &&& (2147483647 : Int32)) - ((p1 &&& (2147483647 : Int32)) / (4 : Int32)) * (4 : Int32)) &&& 31)) &&& (1 : Int32)))])) _
    refine XS.ifYes X9.here hx rfl (pc0 := 73) (pc' := 80) rfl (hb hby at_73) rfl ((if0 _ _).trans (teq hc73').1) (by decide) (by decide) ?_
    show Steps p.tables e below (T9.setTop (mkF m 80 #[.val (.int p1), .val (.int p2), .val (.int ((p1 &&& (2147483647 : Int32)) - ((p1 &&& (2147483647 : Int32)) / (4 : Int32)) * (4 : Int32))), .val (.int ((p2 &&& (2147483647 : Int32)) - ((p2 &&& (2147483647 : Int32)) / (5 : Int32)) * (5 : Int32))), .val (.ref (own_c ((p1 &&& (2147483647 : Int32)) - ((p1 &&& (2147483647 : Int32)) / (4 : Int32)) * (4 : Int32)) wPUBLIC wPRIVATE wFINAL wABSTRACT)), .val .null, .val (.ref b4), .unset] [])) _
    refine XS.iconst X9.here hx rfl (hb hby at_80) ?_
    show Steps p.tables e below (T9.setTop (mkF m 81 #[.val (.int p1), .val (.int p2), .val (.int ((p1 &&& (2147483647 : Int32)) - ((p1 &&& (2147483647 : Int32)) / (4 : Int32)) * (4 : Int32))), .val (.int ((p2 &&& (2147483647 : Int32)) - ((p2 &&& (2147483647 : Int32)) / (5 : Int32)) * (5 : Int32))), .val (.ref (own_c ((p1 &&& (2147483647 : Int32)) - ((p1 &&& (2147483647 : Int32)) / (4 : Int32)) * (4 : Int32)) wPUBLIC wPRIVATE wFINAL wABSTRACT)), .val .null, .val (.ref b4), .unset] [(.int (0 : Int32))])) _
    refine XS.istore X9.here hx rfl (hb hby at_81) rfl (l' := #[.val (.int p1), .val (.int p2), .val (.int ((p1 &&& (2147483647 : Int32)) - ((p1 &&& (2147483647 : Int32)) / (4 : Int32)) * (4 : Int32))), .val (.int ((p2 &&& (2147483647 : Int32)) - ((p2 &&& (2147483647 : Int32)) / (5 : Int32)) * (5 : Int32))), .val (.ref (own_c ((p1 &&& (2147483647 : Int32)) - ((p1 &&& (2147483647 : Int32)) / (4 : Int32)) * (4 : Int32)) wPUBLIC wPRIVATE wFINAL wABSTRACT)), .val .null, .val (.ref b4), .val (.int (0 : Int32))]) rfl ?_
    show Steps p.tables e below (T9.setTop (mkF m 83 #[.val (.int p1), .val (.int p2), .val (.int ((p1 &&& (2147483647 : Int32)) - ((p1 &&& (2147483647 : Int32)) / (4 : Int32)) * (4 : Int32))), .val (.int ((p2 &&& (2147483647 : Int32)) - ((p2 &&& (2147483647 : Int32)) / (5 : Int32)) * (5 : Int32))), .val (.ref (own_c ((p1 &&& (2147483647 : Int32)) - ((p1 &&& (2147483647 : Int32)) / (4 : Int32)) * (4 : Int32)) wPUBLIC wPRIVATE wFINAL wABSTRACT)), .val .null, .val (.ref b4), .val (.int (0 : Int32))] [])) _
    refine XS.aload X9.here hx rfl (hb hby at_83) rfl rfl ?_
    show Steps p.tables e below (T9.setTop (mkF m 85 #[.val (.int p1), .val (.int p2), .val (.int ((p1 &&& (2147483647 : Int32)) - ((p1 &&& (2147483647 : Int32)) / (4 : Int32)) * (4 : Int32))), .val (.int ((p2 &&& (2147483647 : Int32)) - ((p2 &&& (2147483647 : Int32)) / (5 : Int32)) * (5 : Int32))), .val (.ref (own_c ((p1 &&& (2147483647 : Int32)) - ((p1 &&& (2147483647 : Int32)) / (4 : Int32)) * (4 : Int32)) wPUBLIC wPRIVATE wFINAL wABSTRACT)), .val .null, .val (.ref b4), .val (.int (0 : Int32))] [(.ref (own_c ((p1 &&& (2147483647 : Int32)) - ((p1 &&& (2147483647 : Int32)) / (4 : Int32)) * (4 : Int32)) wPUBLIC wPRIVATE wFINAL wABSTRACT))])) _
    refine XS.aload X9.here hx rfl (hb hby at_85) rfl rfl ?_
    show Steps p.tables e below (T9.setTop (mkF m 87 #[.val (.int p1), .val (.int p2), .val (.int ((p1 &&& (2147483647 : Int32)) - ((p1 &&& (2147483647 : Int32)) / (4 : Int32)) * (4 : Int32))), .val (.int ((p2 &&& (2147483647 : Int32)) - ((p2 &&& (2147483647 : Int32)) / (5 : Int32)) * (5 : Int32))), .val (.ref (own_c ((p1 &&& (2147483647 : Int32)) - ((p1 &&& (2147483647 : Int32)) / (4 : Int32)) * (4 : Int32)) wPUBLIC wPRIVATE wFINAL wABSTRACT)), .val .null, .val (.ref b4), .val (.int (0 : Int32))] [.null, (.ref (own_c ((p1 &&& (2147483647 : Int32)) - ((p1 &&& (2147483647 : Int32)) / (4 : Int32)) * (4 : Int32)) wPUBLIC wPRIVATE wFINAL wABSTRACT))])) _
    refine st11.trans ?_
    show Steps p.tables e below (T11.setTop (mkF m 90 #[.val (.int p1), .val (.int p2), .val (.int ((p1 &&& (2147483647 : Int32)) - ((p1 &&& (2147483647 : Int32)) / (4 : Int32)) * (4 : Int32))), .val (.int ((p2 &&& (2147483647 : Int32)) - ((p2 &&& (2147483647 : Int32)) / (5 : Int32)) * (5 : Int32))), .val (.ref (own_c ((p1 &&& (2147483647 : Int32)) - ((p1 &&& (2147483647 : Int32)) / (4 : Int32)) * (4 : Int32)) wPUBLIC wPRIVATE wFINAL wABSTRACT)), .val .null, .val (.ref b4), .val (.int (0 : Int32))] [(.int (own_n (own_c ((p1 &&& (2147483647 : Int32)) - ((p1 &&& (2147483647 : Int32)) / (4 : Int32)) * (4 : Int32)) wPUBLIC wPRIVATE wFINAL wABSTRACT) wPUBLIC wPRIVATE wFINAL wABSTRACT))])) _
    refine XS.iload X11.here hx rfl (hb hby at_90) rfl ?_
    show Steps p.tables e below (T11.setTop (mkF m 92 #[.val (.int p1), .val (.int p2), .val (.int ((p1 &&& (2147483647 : Int32)) - ((p1 &&& (2147483647 : Int32)) / (4 : Int32)) * (4 : Int32))), .val (.int ((p2 &&& (2147483647 : Int32)) - ((p2 &&& (2147483647 : Int32)) / (5 : Int32)) * (5 : Int32))), .val (.ref (own_c ((p1 &&& (2147483647 : Int32)) - ((p1 &&& (2147483647 : Int32)) / (4 : Int32)) * (4 : Int32)) wPUBLIC wPRIVATE wFINAL wABSTRACT)), .val .null, .val (.ref b4), .val (.int (0 : Int32))] [(.int (0 : Int32)), (.int (own_n (own_c ((p1 &&& (2147483647 : Int32)) - ((p1 &&& (2147483647 : Int32)) / (4 : Int32)) * (4 : Int32)) wPUBLIC wPRIVATE wFINAL wABSTRACT) wPUBLIC wPRIVATE wFINAL wABSTRACT))])) _
    refine XS.icmpNo X11.here hx rfl (hb hby at_92) rfl (teq (h92 : (own_n (own_c ((p1 &&& (2147483647 : Int32)) - ((p1 &&& (2147483647 : Int32)) / (4 : Int32)) * (4 : Int32)) wPUBLIC wPRIVATE wFINAL wABSTRACT) wPUBLIC wPRIVATE wFINAL wABSTRACT) = (0 : Int32))).2 ?_
    show Steps p.tables e below (T11.setTop (mkF m 95 #[.val (.int p1), .val (.int p2), .val (.int ((p1 &&& (2147483647 : Int32)) - ((p1 &&& (2147483647 : Int32)) / (4 : Int32)) * (4 : Int32))), .val (.int ((p2 &&& (2147483647 : Int32)) - ((p2 &&& (2147483647 : Int32)) / (5 : Int32)) * (5 : Int32))), .val (.ref (own_c ((p1 &&& (2147483647 : Int32)) - ((p1 &&& (2147483647 : Int32)) / (4 : Int32)) * (4 : Int32)) wPUBLIC wPRIVATE wFINAL wABSTRACT)), .val .null, .val (.ref b4), .val (.int (0 : Int32))] [])) _
    refine XS.iconst X11.here hx rfl (hb hby at_95) ?_
    show Steps p.tables e below (T11.setTop (mkF m 96 #[.val (.int p1), .val (.int p2), .val (.int ((p1 &&& (2147483647 : Int32)) - ((p1 &&& (2147483647 : Int32)) / (4 : Int32)) * (4 : Int32))), .val (.int ((p2 &&& (2147483647 : Int32)) - ((p2 &&& (2147483647 : Int32)) / (5 : Int32)) * (5 : Int32))), .val (.ref (own_c ((p1 &&& (2147483647 : Int32)) - ((p1 &&& (2147483647 : Int32)) / (4 : Int32)) * (4 : Int32)) wPUBLIC wPRIVATE wFINAL wABSTRACT)), .val .null, .val (.ref b4), .val (.int (0 : Int32))] [(.int (1 : Int32))])) _
    refine XS.goto X11.here hx rfl (pc0 := 96) (pc' := 100) rfl (hb hby at_96) (by decide) (by decide) ?_
    show Steps p.tables e below (T11.setTop (mkF m 100 #[.val (.int p1), .val (.int p2), .val (.int ((p1 &&& (2147483647 : Int32)) - ((p1 &&& (2147483647 : Int32)) / (4 : Int32)) * (4 : Int32))), .val (.int ((p2 &&& (2147483647 : Int32)) - ((p2 &&& (2147483647 : Int32)) / (5 : Int32)) * (5 : Int32))), .val (.ref (own_c ((p1 &&& (2147483647 : Int32)) - ((p1 &&& (2147483647 : Int32)) / (4 : Int32)) * (4 : Int32)) wPUBLIC wPRIVATE wFINAL wABSTRACT)), .val .null, .val (.ref b4), .val (.int (0 : Int32))] [(.int (1 : Int32))])) _
    exact retN X11 hx (t := .boolean) Bd.returns (by simp) (hb hby at_100) hr
  · show Q0 Z p1 p2 h0 n0 _ T11.heap _
    exact ⟨rfl, N11⟩
set_option maxRecDepth 65536 in
set_option maxHeartbeats 40000000 in
theorem rm0_tff (l : Launch) (Z : State) (a0 : Array Value) (hw : ∀ d ∈ tables_1, d.before a0 Z = true) (ws : List Jvm.Cond) (p1 : Int32) (p2 : Int32) (wPUBLIC wPRIVATE wFINAL wABSTRACT : Addr) (h0 : Heap) (n0 : Nat) (Z0 : n0 ≤ h0.size) (S_PUBLIC : Sta Z h0 "com/example/fallbak/fallbak/xslt/Visibility" "PUBLIC" "Lcom/example/fallbak/fallbak/xslt/Visibility;" (.ref wPUBLIC)) (S_PRIVATE : Sta Z h0 "com/example/fallbak/fallbak/xslt/Visibility" "PRIVATE" "Lcom/example/fallbak/fallbak/xslt/Visibility;" (.ref wPRIVATE)) (S_FINAL : Sta Z h0 "com/example/fallbak/fallbak/xslt/Visibility" "FINAL" "Lcom/example/fallbak/fallbak/xslt/Visibility;" (.ref wFINAL)) (S_ABSTRACT : Sta Z h0 "com/example/fallbak/fallbak/xslt/Visibility" "ABSTRACT" "Lcom/example/fallbak/fallbak/xslt/Visibility;" (.ref wABSTRACT)) (E_PUBLIC : Exa Z h0 wPUBLIC "com/example/fallbak/fallbak/xslt/Visibility") (E_PRIVATE : Exa Z h0 wPRIVATE "com/example/fallbak/fallbak/xslt/Visibility") (E_FINAL : Exa Z h0 wFINAL "com/example/fallbak/fallbak/xslt/Visibility") (E_ABSTRACT : Exa Z h0 wABSTRACT "com/example/fallbak/fallbak/xslt/Visibility") (hc21 : ¬ (((p2 &&& (2147483647 : Int32)) - ((p2 &&& (2147483647 : Int32)) / (5 : Int32)) * (5 : Int32)) = (0 : Int32))) (hc73 : ¬ own_bit ((p1 &&& (2147483647 : Int32)) - ((p1 &&& (2147483647 : Int32)) / (4 : Int32)) * (4 : Int32)) ((p2 &&& (2147483647 : Int32)) - ((p2 &&& (2147483647 : Int32)) / (5 : Int32)) * (5 : Int32)) = (0 : Int32)) (h92 : own_m (own_c ((p1 &&& (2147483647 : Int32)) - ((p1 &&& (2147483647 : Int32)) / (4 : Int32)) * (4 : Int32)) wPUBLIC wPRIVATE wFINAL wABSTRACT) (own_c (((p2 &&& (2147483647 : Int32)) - ((p2 &&& (2147483647 : Int32)) / (5 : Int32)) * (5 : Int32)) - (1 : Int32)) wPUBLIC wPRIVATE wFINAL wABSTRACT) wPUBLIC wPRIVATE wFINAL wABSTRACT = (1 : Int32)) :
    MetFree l x (head1 (Jvm.Cond.code x code maxLocals ret :: ws) room_1) (fun a U => a = #[(.int p1), (.int p2)] ∧ Z.Warmed39 U.vm ∧ U.heap = h0) (fun _ _ _ _ _ => True) (fun _ U o U' => ∃ v L, o = .returned v ∧ Q0 Z p1 p2 h0 n0 v U'.heap L ∧ FrameEnd U o U' L room_1.cells room_1.slots) := by
  refine MetFree.of_bodySF (plainFor_of_name pn_0) hisR ?_
  intro p e s m args below meth c s₁ Bd hml0 hP hK
  obtain ⟨rfl, hZ, hh⟩ := hP
  have hx := Bd.exec
  have hby := Bd.bytes
  have hml : c.maxLocals = 8 := hml0
  have hown : s.vm.findClass "com/example/fallbak/fallbak/xslt/VisibilityMayBeExposedOnPinLaw" = some m.cls := findClass_of_methodNamed Bd.named
  have hnm := (name_of_methodNamed Bd.named Bd.method).1
  have X0 : Stand p l e room_1 s m #[(.int p1), (.int p2)] below meth c s₁ [] 0 0 := Stand.of_body Bd
  have e0 : s₁.heap = h0 := by rw [← hh, Bd.state]; rfl
  have N0 := Fr.nil n0
  have pre0 : ∀ t, Steps p.tables e below (s₁.setTop (mkF m 0 #[.val (.int p1), .val (.int p2), .unset, .unset, .unset, .unset, .unset, .unset] [])) t → Steps p.tables e below (s₁.setTop (entryFrame m #[(.int p1), (.int p2)] maxLocals)) t := fun t k => castTop (ef_0 m p1 p2) k
  obtain ⟨_, _, ⟨T3, L3, k3, n3⟩, -, X3, ⟨Lc3, hQ3, l3, y3, z3⟩, st3⟩ := Jvm.LawKit.callS X0 hx (y := (⟨"com/example/fallbak/fallbak/xslt/VisibilityMayBeExposedOnPinLaw", "constant", "(I)Lcom/example/fallbak/fallbak/xslt/Visibility;"⟩ : MethodName)) hown (mvT hZ (hw _ (List.mem_of_getElem? (i := 1) rfl))) (mvT hZ (hw _ (List.mem_of_getElem? (i := 2) rfl))) (mvT hZ (hw _ (List.mem_of_getElem? (i := 3) rfl))) (mvT hZ (hw _ (List.mem_of_getElem? (i := 4) rfl))) (by decide) (backOf (W := 0) (rm1 l Z a0 hw [] ((p1 &&& (2147483647 : Int32)) - ((p1 &&& (2147483647 : Int32)) / (4 : Int32)) * (4 : Int32)) wPUBLIC wPRIVATE wFINAL wABSTRACT h0 n0 Z0 S_PUBLIC S_PRIVATE S_FINAL S_ABSTRACT) hZ (hw _ (List.mem_of_getElem? (i := 4) rfl)) (hw _ (List.mem_of_getElem? (i := 3) rfl)) (by decide) (by decide)) (g := (mkF m 15 #[.val (.int p1), .val (.int p2), .val (.int ((p1 &&& (2147483647 : Int32)) - ((p1 &&& (2147483647 : Int32)) / (4 : Int32)) * (4 : Int32))), .val (.int ((p2 &&& (2147483647 : Int32)) - ((p2 &&& (2147483647 : Int32)) / (5 : Int32)) * (5 : Int32))), .unset, .unset, .unset, .unset] [(.int ((p1 &&& (2147483647 : Int32)) - ((p1 &&& (2147483647 : Int32)) / (4 : Int32)) * (4 : Int32)))])) rfl (by rw [hml]; rfl) (argsL := [(.int ((p1 &&& (2147483647 : Int32)) - ((p1 &&& (2147483647 : Int32)) / (4 : Int32)) * (4 : Int32)))]) (rest := []) (lenOf pd_0_0 rfl) rfl (by show 2 * 0 + _ ≤ _; exact Nat.le_of_eq rfl) (hb hby at_15) (fun _ _ => ⟨rfl, e0, (by decide : 0 + 0 ≤ _), (by decide : 0 + 0 ≤ _)⟩)
  dsimp only [Pt.U, Pt.locs, Pt.cells, Pt.slots] at X3 l3 y3 z3 st3 hQ3
  subst l3 y3 z3
  obtain ⟨rfl, N3q, eh3⟩ := hQ3
  have N3 := Fr.app N0 N3q
  obtain ⟨_, _, ⟨T4, L4, k4, n4⟩, -, X4, ⟨Lc4, hQ4, l4, y4, z4⟩, st4⟩ := Jvm.LawKit.callS X3 hx (y := (⟨"com/example/fallbak/fallbak/xslt/VisibilityMayBeExposedOnPinLaw", "constant", "(I)Lcom/example/fallbak/fallbak/xslt/Visibility;"⟩ : MethodName)) hown (mvT hZ (hw _ (List.mem_of_getElem? (i := 1) rfl))) (mvT hZ (hw _ (List.mem_of_getElem? (i := 2) rfl))) (mvT hZ (hw _ (List.mem_of_getElem? (i := 3) rfl))) (mvT hZ (hw _ (List.mem_of_getElem? (i := 4) rfl))) (by decide) (backOf (W := 0) (rm1 l Z a0 hw [] (((p2 &&& (2147483647 : Int32)) - ((p2 &&& (2147483647 : Int32)) / (5 : Int32)) * (5 : Int32)) - (1 : Int32)) wPUBLIC wPRIVATE wFINAL wABSTRACT T3.heap n0 (by rw [eh3]; exact Z0) (by rw [eh3]; exact S_PUBLIC) (by rw [eh3]; exact S_PRIVATE) (by rw [eh3]; exact S_FINAL) (by rw [eh3]; exact S_ABSTRACT)) hZ (hw _ (List.mem_of_getElem? (i := 4) rfl)) (hw _ (List.mem_of_getElem? (i := 3) rfl)) (by decide) (by decide)) (g := (mkF m 31 #[.val (.int p1), .val (.int p2), .val (.int ((p1 &&& (2147483647 : Int32)) - ((p1 &&& (2147483647 : Int32)) / (4 : Int32)) * (4 : Int32))), .val (.int ((p2 &&& (2147483647 : Int32)) - ((p2 &&& (2147483647 : Int32)) / (5 : Int32)) * (5 : Int32))), .val (.ref (own_c ((p1 &&& (2147483647 : Int32)) - ((p1 &&& (2147483647 : Int32)) / (4 : Int32)) * (4 : Int32)) wPUBLIC wPRIVATE wFINAL wABSTRACT)), .unset, .unset, .unset] [(.int (((p2 &&& (2147483647 : Int32)) - ((p2 &&& (2147483647 : Int32)) / (5 : Int32)) * (5 : Int32)) - (1 : Int32)))])) rfl (by rw [hml]; rfl) (argsL := [(.int (((p2 &&& (2147483647 : Int32)) - ((p2 &&& (2147483647 : Int32)) / (5 : Int32)) * (5 : Int32)) - (1 : Int32)))]) (rest := []) (lenOf pd_0_0 rfl) rfl (by show 2 * 0 + _ ≤ _; exact Nat.le_of_eq rfl) (hb hby at_31) (fun _ _ => ⟨rfl, rfl, (by decide : 0 + 0 ≤ _), (by decide : 0 + 0 ≤ _)⟩)
  dsimp only [Pt.U, Pt.locs, Pt.cells, Pt.slots] at X4 l4 y4 z4 st4 hQ4
  subst l4 y4 z4
  obtain ⟨rfl, N4q, eh4⟩ := hQ4
  have N4 := Fr.app N3 N4q
  have KC3 : Keep h0 T3.heap [] := by rw [eh3]; exact Keep.refl _ _
  have KC4 : Keep T3.heap T4.heap [] := by rw [eh4]; exact Keep.refl _ _
  have KT : Keep h0 T4.heap [] := by rw [eh4, eh3]; exact Keep.refl _ _
  have E_c := own_cE (Z := Z) (h0 := h0) ((p1 &&& (2147483647 : Int32)) - ((p1 &&& (2147483647 : Int32)) / (4 : Int32)) * (4 : Int32)) E_PUBLIC E_PRIVATE E_FINAL E_ABSTRACT
  obtain ⟨T5, h5, k5, X5, e5, E5, A5, st5⟩ := newP X4 hx hZ (hw _ (List.mem_of_getElem? (i := 10) rfl)) rfl (g := (mkF m 37 #[.val (.int p1), .val (.int p2), .val (.int ((p1 &&& (2147483647 : Int32)) - ((p1 &&& (2147483647 : Int32)) / (4 : Int32)) * (4 : Int32))), .val (.int ((p2 &&& (2147483647 : Int32)) - ((p2 &&& (2147483647 : Int32)) / (5 : Int32)) * (5 : Int32))), .val (.ref (own_c ((p1 &&& (2147483647 : Int32)) - ((p1 &&& (2147483647 : Int32)) / (4 : Int32)) * (4 : Int32)) wPUBLIC wPRIVATE wFINAL wABSTRACT)), .val (.ref (own_c (((p2 &&& (2147483647 : Int32)) - ((p2 &&& (2147483647 : Int32)) / (5 : Int32)) * (5 : Int32)) - (1 : Int32)) wPUBLIC wPRIVATE wFINAL wABSTRACT)), .unset, .unset] [(.int (5 : Int32))])) rfl (hb hby at_37) rfl (by decide) (cap := 5) (by decide) (by decide) (by decide) (by decide)
  obtain ⟨b5, g5⟩ : ∃ z, z = T4.heap.size := ⟨_, rfl⟩
  rw [← g5] at A5 st5
  have V_b5 : Arv Z h5 b5 k5 .int (5 : Int32) [(.int (0 : Int32)), (.int (0 : Int32)), (.int (0 : Int32)), (.int (0 : Int32)), (.int (0 : Int32))] (.int (0 : Int32)) := (Arv.new A5 (by decide)).pad (pad_rep [] (.int (0 : Int32)) 5)
  have g_b5 : n0 ≤ b5 := Nat.le_trans (Nat.le_trans (Nat.le_trans Z0 KC3.1) KC4.1) (Nat.le_of_eq g5.symm)
  have sz_b5 : h0.size ≤ b5 := (Nat.le_trans KT.1 (Nat.le_of_eq g5.symm))
  have K5 : Keep h0 h5 [] := KT.ext E5
  obtain ⟨cl_b5_43, Ar_b5, q_b5, S_b5, N_b5, H_b5, G_b5⟩ := V_b5
  have hin43 : ¬ ((0 : Int32) < 0 ∨ cl_b5_43.slots.size ≤ ((0 : Int32)).toNatClampNeg) := inb_of S_b5 ⟨by decide, by decide⟩
  obtain ⟨T6, h6, X6, e6, W6, st6⟩ := stI X5 hx hZ e5 Ar_b5 (j := (0 : Int32)) hin43 (g := (mkF m 43 #[.val (.int p1), .val (.int p2), .val (.int ((p1 &&& (2147483647 : Int32)) - ((p1 &&& (2147483647 : Int32)) / (4 : Int32)) * (4 : Int32))), .val (.int ((p2 &&& (2147483647 : Int32)) - ((p2 &&& (2147483647 : Int32)) / (5 : Int32)) * (5 : Int32))), .val (.ref (own_c ((p1 &&& (2147483647 : Int32)) - ((p1 &&& (2147483647 : Int32)) / (4 : Int32)) * (4 : Int32)) wPUBLIC wPRIVATE wFINAL wABSTRACT)), .val (.ref (own_c (((p2 &&& (2147483647 : Int32)) - ((p2 &&& (2147483647 : Int32)) / (5 : Int32)) * (5 : Int32)) - (1 : Int32)) wPUBLIC wPRIVATE wFINAL wABSTRACT)), .unset, .unset] [(.int (7 : Int32)), (.int (0 : Int32)), (.ref b5), (.ref b5)])) rfl rfl (hb hby at_43)
  have V_b5_6 := Arv.set Ar_b5 q_b5 S_b5 N_b5 H_b5 G_b5 rfl W6 0 rfl (Nat.le_of_ble_eq_true rfl)
  have K6 : Keep h0 h6 [] := K5.wr W6 (Or.inr sz_b5)
  have N6 := Fr.snoc X6 N4 g_b5
  obtain ⟨cl_b5_48, Ar_b5, q_b5, S_b5, N_b5, H_b5, G_b5⟩ := V_b5_6
  have hin48 : ¬ ((1 : Int32) < 0 ∨ cl_b5_48.slots.size ≤ ((1 : Int32)).toNatClampNeg) := inb_of S_b5 ⟨by decide, by decide⟩
  obtain ⟨T7, h7, X7, e7, W7, st7⟩ := stI X6 hx hZ e6 Ar_b5 (j := (1 : Int32)) hin48 (g := (mkF m 48 #[.val (.int p1), .val (.int p2), .val (.int ((p1 &&& (2147483647 : Int32)) - ((p1 &&& (2147483647 : Int32)) / (4 : Int32)) * (4 : Int32))), .val (.int ((p2 &&& (2147483647 : Int32)) - ((p2 &&& (2147483647 : Int32)) / (5 : Int32)) * (5 : Int32))), .val (.ref (own_c ((p1 &&& (2147483647 : Int32)) - ((p1 &&& (2147483647 : Int32)) / (4 : Int32)) * (4 : Int32)) wPUBLIC wPRIVATE wFINAL wABSTRACT)), .val (.ref (own_c (((p2 &&& (2147483647 : Int32)) - ((p2 &&& (2147483647 : Int32)) / (5 : Int32)) * (5 : Int32)) - (1 : Int32)) wPUBLIC wPRIVATE wFINAL wABSTRACT)), .unset, .unset] [(.int (7 : Int32)), (.int (1 : Int32)), (.ref b5), (.ref b5)])) rfl rfl (hb hby at_48)
  have V_b5_7 := Arv.set Ar_b5 q_b5 S_b5 N_b5 H_b5 G_b5 rfl W7 1 rfl (Nat.le_of_ble_eq_true rfl)
  have K7 : Keep h0 h7 [] := K6.wr W7 (Or.inr sz_b5)
  have N7 := Fr.snoc X7 N6 g_b5
  obtain ⟨cl_b5_52, Ar_b5, q_b5, S_b5, N_b5, H_b5, G_b5⟩ := V_b5_7
  have hin52 : ¬ ((2 : Int32) < 0 ∨ cl_b5_52.slots.size ≤ ((2 : Int32)).toNatClampNeg) := inb_of S_b5 ⟨by decide, by decide⟩
  obtain ⟨T8, h8, X8, e8, W8, st8⟩ := stI X7 hx hZ e7 Ar_b5 (j := (2 : Int32)) hin52 (g := (mkF m 52 #[.val (.int p1), .val (.int p2), .val (.int ((p1 &&& (2147483647 : Int32)) - ((p1 &&& (2147483647 : Int32)) / (4 : Int32)) * (4 : Int32))), .val (.int ((p2 &&& (2147483647 : Int32)) - ((p2 &&& (2147483647 : Int32)) / (5 : Int32)) * (5 : Int32))), .val (.ref (own_c ((p1 &&& (2147483647 : Int32)) - ((p1 &&& (2147483647 : Int32)) / (4 : Int32)) * (4 : Int32)) wPUBLIC wPRIVATE wFINAL wABSTRACT)), .val (.ref (own_c (((p2 &&& (2147483647 : Int32)) - ((p2 &&& (2147483647 : Int32)) / (5 : Int32)) * (5 : Int32)) - (1 : Int32)) wPUBLIC wPRIVATE wFINAL wABSTRACT)), .unset, .unset] [(.int (2 : Int32)), (.int (2 : Int32)), (.ref b5), (.ref b5)])) rfl rfl (hb hby at_52)
  have V_b5_8 := Arv.set Ar_b5 q_b5 S_b5 N_b5 H_b5 G_b5 rfl W8 2 rfl (Nat.le_of_ble_eq_true rfl)
  have K8 : Keep h0 h8 [] := K7.wr W8 (Or.inr sz_b5)
  have N8 := Fr.snoc X8 N7 g_b5
  obtain ⟨cl_b5_57, Ar_b5, q_b5, S_b5, N_b5, H_b5, G_b5⟩ := V_b5_8
  have hin57 : ¬ ((3 : Int32) < 0 ∨ cl_b5_57.slots.size ≤ ((3 : Int32)).toNatClampNeg) := inb_of S_b5 ⟨by decide, by decide⟩
  obtain ⟨T9, h9, X9, e9, W9, st9⟩ := stI X8 hx hZ e8 Ar_b5 (j := (3 : Int32)) hin57 (g := (mkF m 57 #[.val (.int p1), .val (.int p2), .val (.int ((p1 &&& (2147483647 : Int32)) - ((p1 &&& (2147483647 : Int32)) / (4 : Int32)) * (4 : Int32))), .val (.int ((p2 &&& (2147483647 : Int32)) - ((p2 &&& (2147483647 : Int32)) / (5 : Int32)) * (5 : Int32))), .val (.ref (own_c ((p1 &&& (2147483647 : Int32)) - ((p1 &&& (2147483647 : Int32)) / (4 : Int32)) * (4 : Int32)) wPUBLIC wPRIVATE wFINAL wABSTRACT)), .val (.ref (own_c (((p2 &&& (2147483647 : Int32)) - ((p2 &&& (2147483647 : Int32)) / (5 : Int32)) * (5 : Int32)) - (1 : Int32)) wPUBLIC wPRIVATE wFINAL wABSTRACT)), .unset, .unset] [(.int (6 : Int32)), (.int (3 : Int32)), (.ref b5), (.ref b5)])) rfl rfl (hb hby at_57)
  have V_b5_9 := Arv.set Ar_b5 q_b5 S_b5 N_b5 H_b5 G_b5 rfl W9 3 rfl (Nat.le_of_ble_eq_true rfl)
  have K9 : Keep h0 h9 [] := K8.wr W9 (Or.inr sz_b5)
  have N9 := Fr.snoc X9 N8 g_b5
  obtain ⟨cl_b5_62, Ar_b5, q_b5, S_b5, N_b5, H_b5, G_b5⟩ := V_b5_9
  have hin62 : ¬ ((4 : Int32) < 0 ∨ cl_b5_62.slots.size ≤ ((4 : Int32)).toNatClampNeg) := inb_of S_b5 ⟨by decide, by decide⟩
  obtain ⟨T10, h10, X10, e10, W10, st10⟩ := stI X9 hx hZ e9 Ar_b5 (j := (4 : Int32)) hin62 (g := (mkF m 62 #[.val (.int p1), .val (.int p2), .val (.int ((p1 &&& (2147483647 : Int32)) - ((p1 &&& (2147483647 : Int32)) / (4 : Int32)) * (4 : Int32))), .val (.int ((p2 &&& (2147483647 : Int32)) - ((p2 &&& (2147483647 : Int32)) / (5 : Int32)) * (5 : Int32))), .val (.ref (own_c ((p1 &&& (2147483647 : Int32)) - ((p1 &&& (2147483647 : Int32)) / (4 : Int32)) * (4 : Int32)) wPUBLIC wPRIVATE wFINAL wABSTRACT)), .val (.ref (own_c (((p2 &&& (2147483647 : Int32)) - ((p2 &&& (2147483647 : Int32)) / (5 : Int32)) * (5 : Int32)) - (1 : Int32)) wPUBLIC wPRIVATE wFINAL wABSTRACT)), .unset, .unset] [(.int (8 : Int32)), (.int (4 : Int32)), (.ref b5), (.ref b5)])) rfl rfl (hb hby at_62)
  have V_b5_10 := Arv.set Ar_b5 q_b5 S_b5 N_b5 H_b5 G_b5 rfl W10 4 rfl (Nat.le_of_ble_eq_true rfl)
  have K10 : Keep h0 h10 [] := K9.wr W10 (Or.inr sz_b5)
  have N10 := Fr.snoc X10 N9 g_b5
  obtain ⟨cl_x, Ar_b5, q_x, S_x, N_x, H_x, G_x⟩ := V_b5_10
  have hin68 : ¬ (((p2 &&& (2147483647 : Int32)) - ((p2 &&& (2147483647 : Int32)) / (5 : Int32)) * (5 : Int32)) < 0 ∨ cl_x.slots.size ≤ (((p2 &&& (2147483647 : Int32)) - ((p2 &&& (2147483647 : Int32)) / (5 : Int32)) * (5 : Int32))).toNatClampNeg) := inb_of S_x (own_inb p2 5 5 rfl (by decide) (by decide))
  obtain ⟨w11, hW0⟩ : ∃ w, w = own_al (((p2 &&& (2147483647 : Int32)) - ((p2 &&& (2147483647 : Int32)) / (5 : Int32)) * (5 : Int32))).toNatClampNeg := ⟨_, rfl⟩
  have hat68 : cl_x.slots[(((p2 &&& (2147483647 : Int32)) - ((p2 &&& (2147483647 : Int32)) / (5 : Int32)) * (5 : Int32))).toNatClampNeg]? = some (.int w11) := by
    have hlt : (((p2 &&& (2147483647 : Int32)) - ((p2 &&& (2147483647 : Int32)) / (5 : Int32)) * (5 : Int32))).toNatClampNeg < cl_x.slots.size := Nat.lt_of_not_le fun q => hin68 (Or.inr q)
    rw [H_x _ hlt, hW0]
    rcases own_d5 p2 with r | r | r | r | r <;> rw [r] <;> rfl
  have hc73' : ¬ ((w11 >>> (((p1 &&& (2147483647 : Int32)) - ((p1 &&& (2147483647 : Int32)) / (4 : Int32)) * (4 : Int32)) &&& 31)) &&& (1 : Int32)) = (0 : Int32) := by rw [hW0]; exact hc73
  have S' : ∀ {n : String} {v : Value}, Sta Z h0 "com/example/fallbak/fallbak/xslt/Visibility" n "Lcom/example/fallbak/fallbak/xslt/Visibility;" v → Sta Z h10 "com/example/fallbak/fallbak/xslt/Visibility" n "Lcom/example/fallbak/fallbak/xslt/Visibility;" v := fun F => Sta.ext (own_Ext K10) F
  obtain ⟨cq12, kq12, q12a, q12b, q12c⟩ := isOf hZ e10 ((((((((E_c.keep KC3).keep KC4).ext E5).wr W6).wr W7).wr W8).wr W9).wr W10)
  obtain ⟨_, _, ⟨T12, L12, k12, n12⟩, -, X12, ⟨Lc12, hQ12, l12, y12, z12⟩, st12⟩ := X10.virtualBack hx (y := (⟨"com/example/fallbak/fallbak/xslt/Visibility", "mayBeExposedOn", "(Lcom/example/fallbak/fallbak/xslt/Visibility;)Z"⟩ : MethodName)) (z := (⟨"com/example/fallbak/fallbak/xslt/Visibility", "mayBeExposedOn", "(Lcom/example/fallbak/fallbak/xslt/Visibility;)Z"⟩ : MethodName)) hown (mvT hZ (hw _ (List.mem_of_getElem? (i := 11) rfl))) (mvT hZ (hw _ (List.mem_of_getElem? (i := 12) rfl))) (notFace_of_selects (args := #[]) (mvT hZ (hw _ (List.mem_of_getElem? (i := 14) rfl)))) (mvT hZ (hw _ (List.mem_of_getElem? (i := 14) rfl))) (mvT hZ (hw _ (List.mem_of_getElem? (i := 13) rfl))) (by decide) (backOf (W := 0) (rm2 l Z a0 hw [] (own_c ((p1 &&& (2147483647 : Int32)) - ((p1 &&& (2147483647 : Int32)) / (4 : Int32)) * (4 : Int32)) wPUBLIC wPRIVATE wFINAL wABSTRACT) (own_c (((p2 &&& (2147483647 : Int32)) - ((p2 &&& (2147483647 : Int32)) / (5 : Int32)) * (5 : Int32)) - (1 : Int32)) wPUBLIC wPRIVATE wFINAL wABSTRACT) wPUBLIC wPRIVATE wFINAL wABSTRACT h10 n0 (Nat.le_trans Z0 K10.1) (S' S_PUBLIC) (S' S_PRIVATE) (S' S_FINAL) (S' S_ABSTRACT)) hZ (hw _ (List.mem_of_getElem? (i := 15) rfl)) (hw _ (List.mem_of_getElem? (i := 6) rfl)) (by decide) (by decide)) q12a q12c (g := (mkF m 87 #[.val (.int p1), .val (.int p2), .val (.int ((p1 &&& (2147483647 : Int32)) - ((p1 &&& (2147483647 : Int32)) / (4 : Int32)) * (4 : Int32))), .val (.int ((p2 &&& (2147483647 : Int32)) - ((p2 &&& (2147483647 : Int32)) / (5 : Int32)) * (5 : Int32))), .val (.ref (own_c ((p1 &&& (2147483647 : Int32)) - ((p1 &&& (2147483647 : Int32)) / (4 : Int32)) * (4 : Int32)) wPUBLIC wPRIVATE wFINAL wABSTRACT)), .val (.ref (own_c (((p2 &&& (2147483647 : Int32)) - ((p2 &&& (2147483647 : Int32)) / (5 : Int32)) * (5 : Int32)) - (1 : Int32)) wPUBLIC wPRIVATE wFINAL wABSTRACT)), .val (.ref b5), .val (.int (1 : Int32))] [(.ref (own_c (((p2 &&& (2147483647 : Int32)) - ((p2 &&& (2147483647 : Int32)) / (5 : Int32)) * (5 : Int32)) - (1 : Int32)) wPUBLIC wPRIVATE wFINAL wABSTRACT)), (.ref (own_c ((p1 &&& (2147483647 : Int32)) - ((p1 &&& (2147483647 : Int32)) / (4 : Int32)) * (4 : Int32)) wPUBLIC wPRIVATE wFINAL wABSTRACT))])) rfl (by rw [hml]; rfl) (Steps.refl _) (argsL := [(.ref (own_c (((p2 &&& (2147483647 : Int32)) - ((p2 &&& (2147483647 : Int32)) / (5 : Int32)) * (5 : Int32)) - (1 : Int32)) wPUBLIC wPRIVATE wFINAL wABSTRACT))]) (rest := []) (lenOf pd_0_1 rfl) rfl (by show 2 * 0 + _ ≤ _; exact Nat.le_of_eq rfl) (hb hby at_87) (fun _ _ => ⟨rfl, e10, (by decide : 1 + 0 ≤ _), (by decide : 5 + 0 ≤ _)⟩)
  dsimp only [Pt.U, Pt.locs, Pt.cells, Pt.slots] at X12 l12 y12 z12 st12 hQ12
  subst l12 y12 z12
  obtain ⟨rfl, N12q, eh_2⟩ := hQ12
  have N12 := Fr.app N10 N12q
  obtain ⟨fs, hr, hrun, hended, hW, hsame⟩ := X12.leave (v := some (.int (1 : Int32))) (fun h => by rw [Bd.returns] at h; cases h)
  refine ⟨_, _, pre0 _ ?_, hrun, hended, _, _, rfl, ?_, ⟨_, rfl⟩, hW, hsame.mono (by decide) (by decide)⟩
  · show Steps p.tables e below (s₁.setTop (mkF m 0 #[.val (.int p1), .val (.int p2), .unset, .unset, .unset, .unset, .unset, .unset] [])) _
    refine XS.iloadN X0.here hx rfl (hb hby at_0) rfl ?_
    show Steps p.tables e below (s₁.setTop (mkF m 1 #[.val (.int p1), .val (.int p2), .unset, .unset, .unset, .unset, .unset, .unset] [(.int p1)])) _
    refine X0.ldcInt hx hown (mvT hZ (hw _ (List.mem_of_getElem? (i := 0) rfl))) (g := (mkF m 1 #[.val (.int p1), .val (.int p2), .unset, .unset, .unset, .unset, .unset, .unset] [(.int p1)])) rfl (hb hby at_1) _ ?_
    show Steps p.tables e below (s₁.setTop (mkF m 3 #[.val (.int p1), .val (.int p2), .unset, .unset, .unset, .unset, .unset, .unset] [(.int (2147483647 : Int32)), (.int p1)])) _
    refine XS.iand X0.here hx rfl (hb hby at_3) rfl ?_
    show Steps p.tables e below (s₁.setTop (mkF m 4 #[.val (.int p1), .val (.int p2), .unset, .unset, .unset, .unset, .unset, .unset] [(.int (p1 &&& (2147483647 : Int32)))])) _
    refine XS.iconst X0.here hx rfl (hb hby at_4) ?_
    show Steps p.tables e below (s₁.setTop (mkF m 5 #[.val (.int p1), .val (.int p2), .unset, .unset, .unset, .unset, .unset, .unset] [(.int (4 : Int32)), (.int (p1 &&& (2147483647 : Int32)))])) _
    refine XS.irem X0.here hx rfl (hb hby at_5) rfl (by decide) ?_
    show Steps p.tables e below (s₁.setTop (mkF m 6 #[.val (.int p1), .val (.int p2), .unset, .unset, .unset, .unset, .unset, .unset] [(.int ((p1 &&& (2147483647 : Int32)) - ((p1 &&& (2147483647 : Int32)) / (4 : Int32)) * (4 : Int32)))])) _
    refine XS.istoreN X0.here hx rfl (hb hby at_6) rfl (l' := #[.val (.int p1), .val (.int p2), .val (.int ((p1 &&& (2147483647 : Int32)) - ((p1 &&& (2147483647 : Int32)) / (4 : Int32)) * (4 : Int32))), .unset, .unset, .unset, .unset, .unset]) rfl ?_
    show Steps p.tables e below (s₁.setTop (mkF m 7 #[.val (.int p1), .val (.int p2), .val (.int ((p1 &&& (2147483647 : Int32)) - ((p1 &&& (2147483647 : Int32)) / (4 : Int32)) * (4 : Int32))), .unset, .unset, .unset, .unset, .unset] [])) _
    refine XS.iloadN X0.here hx rfl (hb hby at_7) rfl ?_
    show Steps p.tables e below (s₁.setTop (mkF m 8 #[.val (.int p1), .val (.int p2), .val (.int ((p1 &&& (2147483647 : Int32)) - ((p1 &&& (2147483647 : Int32)) / (4 : Int32)) * (4 : Int32))), .unset, .unset, .unset, .unset, .unset] [(.int p2)])) _
    refine X0.ldcInt hx hown (mvT hZ (hw _ (List.mem_of_getElem? (i := 0) rfl))) (g := (mkF m 8 #[.val (.int p1), .val (.int p2), .val (.int ((p1 &&& (2147483647 : Int32)) - ((p1 &&& (2147483647 : Int32)) / (4 : Int32)) * (4 : Int32))), .unset, .unset, .unset, .unset, .unset] [(.int p2)])) rfl (hb hby at_8) _ ?_
    show Steps p.tables e below (s₁.setTop (mkF m 10 #[.val (.int p1), .val (.int p2), .val (.int ((p1 &&& (2147483647 : Int32)) - ((p1 &&& (2147483647 : Int32)) / (4 : Int32)) * (4 : Int32))), .unset, .unset, .unset, .unset, .unset] [(.int (2147483647 : Int32)), (.int p2)])) _
    refine XS.iand X0.here hx rfl (hb hby at_10) rfl ?_
    show Steps p.tables e below (s₁.setTop (mkF m 11 #[.val (.int p1), .val (.int p2), .val (.int ((p1 &&& (2147483647 : Int32)) - ((p1 &&& (2147483647 : Int32)) / (4 : Int32)) * (4 : Int32))), .unset, .unset, .unset, .unset, .unset] [(.int (p2 &&& (2147483647 : Int32)))])) _
    refine XS.iconst X0.here hx rfl (hb hby at_11) ?_
    show Steps p.tables e below (s₁.setTop (mkF m 12 #[.val (.int p1), .val (.int p2), .val (.int ((p1 &&& (2147483647 : Int32)) - ((p1 &&& (2147483647 : Int32)) / (4 : Int32)) * (4 : Int32))), .unset, .unset, .unset, .unset, .unset] [(.int (5 : Int32)), (.int (p2 &&& (2147483647 : Int32)))])) _
    refine XS.irem X0.here hx rfl (hb hby at_12) rfl (by decide) ?_
    show Steps p.tables e below (s₁.setTop (mkF m 13 #[.val (.int p1), .val (.int p2), .val (.int ((p1 &&& (2147483647 : Int32)) - ((p1 &&& (2147483647 : Int32)) / (4 : Int32)) * (4 : Int32))), .unset, .unset, .unset, .unset, .unset] [(.int ((p2 &&& (2147483647 : Int32)) - ((p2 &&& (2147483647 : Int32)) / (5 : Int32)) * (5 : Int32)))])) _
    refine XS.istoreN X0.here hx rfl (hb hby at_13) rfl (l' := #[.val (.int p1), .val (.int p2), .val (.int ((p1 &&& (2147483647 : Int32)) - ((p1 &&& (2147483647 : Int32)) / (4 : Int32)) * (4 : Int32))), .val (.int ((p2 &&& (2147483647 : Int32)) - ((p2 &&& (2147483647 : Int32)) / (5 : Int32)) * (5 : Int32))), .unset, .unset, .unset, .unset]) rfl ?_
    show Steps p.tables e below (s₁.setTop (mkF m 14 #[.val (.int p1), .val (.int p2), .val (.int ((p1 &&& (2147483647 : Int32)) - ((p1 &&& (2147483647 : Int32)) / (4 : Int32)) * (4 : Int32))), .val (.int ((p2 &&& (2147483647 : Int32)) - ((p2 &&& (2147483647 : Int32)) / (5 : Int32)) * (5 : Int32))), .unset, .unset, .unset, .unset] [])) _
    refine XS.iloadN X0.here hx rfl (hb hby at_14) rfl ?_
    show Steps p.tables e below (s₁.setTop (mkF m 15 #[.val (.int p1), .val (.int p2), .val (.int ((p1 &&& (2147483647 : Int32)) - ((p1 &&& (2147483647 : Int32)) / (4 : Int32)) * (4 : Int32))), .val (.int ((p2 &&& (2147483647 : Int32)) - ((p2 &&& (2147483647 : Int32)) / (5 : Int32)) * (5 : Int32))), .unset, .unset, .unset, .unset] [(.int ((p1 &&& (2147483647 : Int32)) - ((p1 &&& (2147483647 : Int32)) / (4 : Int32)) * (4 : Int32)))])) _
    refine st3 _ ?_
    show Steps p.tables e below (T3.setTop (mkF m 18 #[.val (.int p1), .val (.int p2), .val (.int ((p1 &&& (2147483647 : Int32)) - ((p1 &&& (2147483647 : Int32)) / (4 : Int32)) * (4 : Int32))), .val (.int ((p2 &&& (2147483647 : Int32)) - ((p2 &&& (2147483647 : Int32)) / (5 : Int32)) * (5 : Int32))), .unset, .unset, .unset, .unset] [(.ref (own_c ((p1 &&& (2147483647 : Int32)) - ((p1 &&& (2147483647 : Int32)) / (4 : Int32)) * (4 : Int32)) wPUBLIC wPRIVATE wFINAL wABSTRACT))])) _
    refine XS.astore X3.here hx rfl (hb hby at_18) rfl rfl (l' := #[.val (.int p1), .val (.int p2), .val (.int ((p1 &&& (2147483647 : Int32)) - ((p1 &&& (2147483647 : Int32)) / (4 : Int32)) * (4 : Int32))), .val (.int ((p2 &&& (2147483647 : Int32)) - ((p2 &&& (2147483647 : Int32)) / (5 : Int32)) * (5 : Int32))), .val (.ref (own_c ((p1 &&& (2147483647 : Int32)) - ((p1 &&& (2147483647 : Int32)) / (4 : Int32)) * (4 : Int32)) wPUBLIC wPRIVATE wFINAL wABSTRACT)), .unset, .unset, .unset]) rfl ?_
    show Steps p.tables e below (T3.setTop (mkF m 20 #[.val (.int p1), .val (.int p2), .val (.int ((p1 &&& (2147483647 : Int32)) - ((p1 &&& (2147483647 : Int32)) / (4 : Int32)) * (4 : Int32))), .val (.int ((p2 &&& (2147483647 : Int32)) - ((p2 &&& (2147483647 : Int32)) / (5 : Int32)) * (5 : Int32))), .val (.ref (own_c ((p1 &&& (2147483647 : Int32)) - ((p1 &&& (2147483647 : Int32)) / (4 : Int32)) * (4 : Int32)) wPUBLIC wPRIVATE wFINAL wABSTRACT)), .unset, .unset, .unset] [])) _
    refine XS.iloadN X3.here hx rfl (hb hby at_20) rfl ?_
    show Steps p.tables e below (T3.setTop (mkF m 21 #[.val (.int p1), .val (.int p2), .val (.int ((p1 &&& (2147483647 : Int32)) - ((p1 &&& (2147483647 : Int32)) / (4 : Int32)) * (4 : Int32))), .val (.int ((p2 &&& (2147483647 : Int32)) - ((p2 &&& (2147483647 : Int32)) / (5 : Int32)) * (5 : Int32))), .val (.ref (own_c ((p1 &&& (2147483647 : Int32)) - ((p1 &&& (2147483647 : Int32)) / (4 : Int32)) * (4 : Int32)) wPUBLIC wPRIVATE wFINAL wABSTRACT)), .unset, .unset, .unset] [(.int ((p2 &&& (2147483647 : Int32)) - ((p2 &&& (2147483647 : Int32)) / (5 : Int32)) * (5 : Int32)))])) _
    refine XS.ifYes X3.here hx rfl (pc0 := 21) (pc' := 28) rfl (hb hby at_21) rfl ((if0 _ _).trans (feq hc21).2) (by decide) (by decide) ?_
    show Steps p.tables e below (T3.setTop (mkF m 28 #[.val (.int p1), .val (.int p2), .val (.int ((p1 &&& (2147483647 : Int32)) - ((p1 &&& (2147483647 : Int32)) / (4 : Int32)) * (4 : Int32))), .val (.int ((p2 &&& (2147483647 : Int32)) - ((p2 &&& (2147483647 : Int32)) / (5 : Int32)) * (5 : Int32))), .val (.ref (own_c ((p1 &&& (2147483647 : Int32)) - ((p1 &&& (2147483647 : Int32)) / (4 : Int32)) * (4 : Int32)) wPUBLIC wPRIVATE wFINAL wABSTRACT)), .unset, .unset, .unset] [])) _
    refine XS.iloadN X3.here hx rfl (hb hby at_28) rfl ?_
    show Steps p.tables e below (T3.setTop (mkF m 29 #[.val (.int p1), .val (.int p2), .val (.int ((p1 &&& (2147483647 : Int32)) - ((p1 &&& (2147483647 : Int32)) / (4 : Int32)) * (4 : Int32))), .val (.int ((p2 &&& (2147483647 : Int32)) - ((p2 &&& (2147483647 : Int32)) / (5 : Int32)) * (5 : Int32))), .val (.ref (own_c ((p1 &&& (2147483647 : Int32)) - ((p1 &&& (2147483647 : Int32)) / (4 : Int32)) * (4 : Int32)) wPUBLIC wPRIVATE wFINAL wABSTRACT)), .unset, .unset, .unset] [(.int ((p2 &&& (2147483647 : Int32)) - ((p2 &&& (2147483647 : Int32)) / (5 : Int32)) * (5 : Int32)))])) _
    refine XS.iconst X3.here hx rfl (hb hby at_29) ?_
    show Steps p.tables e below (T3.setTop (mkF m 30 #[.val (.int p1), .val (.int p2), .val (.int ((p1 &&& (2147483647 : Int32)) - ((p1 &&& (2147483647 : Int32)) / (4 : Int32)) * (4 : Int32))), .val (.int ((p2 &&& (2147483647 : Int32)) - ((p2 &&& (2147483647 : Int32)) / (5 : Int32)) * (5 : Int32))), .val (.ref (own_c ((p1 &&& (2147483647 : Int32)) - ((p1 &&& (2147483647 : Int32)) / (4 : Int32)) * (4 : Int32)) wPUBLIC wPRIVATE wFINAL wABSTRACT)), .unset, .unset, .unset] [(.int (1 : Int32)), (.int ((p2 &&& (2147483647 : Int32)) - ((p2 &&& (2147483647 : Int32)) / (5 : Int32)) * (5 : Int32)))])) _
    refine XS.isub X3.here hx rfl (hb hby at_30) rfl ?_
    show Steps p.tables e below (T3.setTop (mkF m 31 #[.val (.int p1), .val (.int p2), .val (.int ((p1 &&& (2147483647 : Int32)) - ((p1 &&& (2147483647 : Int32)) / (4 : Int32)) * (4 : Int32))), .val (.int ((p2 &&& (2147483647 : Int32)) - ((p2 &&& (2147483647 : Int32)) / (5 : Int32)) * (5 : Int32))), .val (.ref (own_c ((p1 &&& (2147483647 : Int32)) - ((p1 &&& (2147483647 : Int32)) / (4 : Int32)) * (4 : Int32)) wPUBLIC wPRIVATE wFINAL wABSTRACT)), .unset, .unset, .unset] [(.int (((p2 &&& (2147483647 : Int32)) - ((p2 &&& (2147483647 : Int32)) / (5 : Int32)) * (5 : Int32)) - (1 : Int32)))])) _
    refine st4 _ ?_
    show Steps p.tables e below (T4.setTop (mkF m 34 #[.val (.int p1), .val (.int p2), .val (.int ((p1 &&& (2147483647 : Int32)) - ((p1 &&& (2147483647 : Int32)) / (4 : Int32)) * (4 : Int32))), .val (.int ((p2 &&& (2147483647 : Int32)) - ((p2 &&& (2147483647 : Int32)) / (5 : Int32)) * (5 : Int32))), .val (.ref (own_c ((p1 &&& (2147483647 : Int32)) - ((p1 &&& (2147483647 : Int32)) / (4 : Int32)) * (4 : Int32)) wPUBLIC wPRIVATE wFINAL wABSTRACT)), .unset, .unset, .unset] [(.ref (own_c (((p2 &&& (2147483647 : Int32)) - ((p2 &&& (2147483647 : Int32)) / (5 : Int32)) * (5 : Int32)) - (1 : Int32)) wPUBLIC wPRIVATE wFINAL wABSTRACT))])) _
    refine XS.astore X4.here hx rfl (hb hby at_34) rfl rfl (l' := #[.val (.int p1), .val (.int p2), .val (.int ((p1 &&& (2147483647 : Int32)) - ((p1 &&& (2147483647 : Int32)) / (4 : Int32)) * (4 : Int32))), .val (.int ((p2 &&& (2147483647 : Int32)) - ((p2 &&& (2147483647 : Int32)) / (5 : Int32)) * (5 : Int32))), .val (.ref (own_c ((p1 &&& (2147483647 : Int32)) - ((p1 &&& (2147483647 : Int32)) / (4 : Int32)) * (4 : Int32)) wPUBLIC wPRIVATE wFINAL wABSTRACT)), .val (.ref (own_c (((p2 &&& (2147483647 : Int32)) - ((p2 &&& (2147483647 : Int32)) / (5 : Int32)) * (5 : Int32)) - (1 : Int32)) wPUBLIC wPRIVATE wFINAL wABSTRACT)), .unset, .unset]) rfl ?_
    show Steps p.tables e below (T4.setTop (mkF m 36 #[.val (.int p1), .val (.int p2), .val (.int ((p1 &&& (2147483647 : Int32)) - ((p1 &&& (2147483647 : Int32)) / (4 : Int32)) * (4 : Int32))), .val (.int ((p2 &&& (2147483647 : Int32)) - ((p2 &&& (2147483647 : Int32)) / (5 : Int32)) * (5 : Int32))), .val (.ref (own_c ((p1 &&& (2147483647 : Int32)) - ((p1 &&& (2147483647 : Int32)) / (4 : Int32)) * (4 : Int32)) wPUBLIC wPRIVATE wFINAL wABSTRACT)), .val (.ref (own_c (((p2 &&& (2147483647 : Int32)) - ((p2 &&& (2147483647 : Int32)) / (5 : Int32)) * (5 : Int32)) - (1 : Int32)) wPUBLIC wPRIVATE wFINAL wABSTRACT)), .unset, .unset] [])) _
    refine XS.iconst X4.here hx rfl (hb hby at_36) ?_
    show Steps p.tables e below (T4.setTop (mkF m 37 #[.val (.int p1), .val (.int p2), .val (.int ((p1 &&& (2147483647 : Int32)) - ((p1 &&& (2147483647 : Int32)) / (4 : Int32)) * (4 : Int32))), .val (.int ((p2 &&& (2147483647 : Int32)) - ((p2 &&& (2147483647 : Int32)) / (5 : Int32)) * (5 : Int32))), .val (.ref (own_c ((p1 &&& (2147483647 : Int32)) - ((p1 &&& (2147483647 : Int32)) / (4 : Int32)) * (4 : Int32)) wPUBLIC wPRIVATE wFINAL wABSTRACT)), .val (.ref (own_c (((p2 &&& (2147483647 : Int32)) - ((p2 &&& (2147483647 : Int32)) / (5 : Int32)) * (5 : Int32)) - (1 : Int32)) wPUBLIC wPRIVATE wFINAL wABSTRACT)), .unset, .unset] [(.int (5 : Int32))])) _
    refine st5 _ ?_
    show Steps p.tables e below (T5.setTop (mkF m 39 #[.val (.int p1), .val (.int p2), .val (.int ((p1 &&& (2147483647 : Int32)) - ((p1 &&& (2147483647 : Int32)) / (4 : Int32)) * (4 : Int32))), .val (.int ((p2 &&& (2147483647 : Int32)) - ((p2 &&& (2147483647 : Int32)) / (5 : Int32)) * (5 : Int32))), .val (.ref (own_c ((p1 &&& (2147483647 : Int32)) - ((p1 &&& (2147483647 : Int32)) / (4 : Int32)) * (4 : Int32)) wPUBLIC wPRIVATE wFINAL wABSTRACT)), .val (.ref (own_c (((p2 &&& (2147483647 : Int32)) - ((p2 &&& (2147483647 : Int32)) / (5 : Int32)) * (5 : Int32)) - (1 : Int32)) wPUBLIC wPRIVATE wFINAL wABSTRACT)), .unset, .unset] [(.ref b5)])) _
    refine XS.dup X5.here hx rfl (hb hby at_39) rfl rfl ?_
    show Steps p.tables e below (T5.setTop (mkF m 40 #[.val (.int p1), .val (.int p2), .val (.int ((p1 &&& (2147483647 : Int32)) - ((p1 &&& (2147483647 : Int32)) / (4 : Int32)) * (4 : Int32))), .val (.int ((p2 &&& (2147483647 : Int32)) - ((p2 &&& (2147483647 : Int32)) / (5 : Int32)) * (5 : Int32))), .val (.ref (own_c ((p1 &&& (2147483647 : Int32)) - ((p1 &&& (2147483647 : Int32)) / (4 : Int32)) * (4 : Int32)) wPUBLIC wPRIVATE wFINAL wABSTRACT)), .val (.ref (own_c (((p2 &&& (2147483647 : Int32)) - ((p2 &&& (2147483647 : Int32)) / (5 : Int32)) * (5 : Int32)) - (1 : Int32)) wPUBLIC wPRIVATE wFINAL wABSTRACT)), .unset, .unset] [(.ref b5), (.ref b5)])) _
    refine XS.iconst X5.here hx rfl (hb hby at_40) ?_
    show Steps p.tables e below (T5.setTop (mkF m 41 #[.val (.int p1), .val (.int p2), .val (.int ((p1 &&& (2147483647 : Int32)) - ((p1 &&& (2147483647 : Int32)) / (4 : Int32)) * (4 : Int32))), .val (.int ((p2 &&& (2147483647 : Int32)) - ((p2 &&& (2147483647 : Int32)) / (5 : Int32)) * (5 : Int32))), .val (.ref (own_c ((p1 &&& (2147483647 : Int32)) - ((p1 &&& (2147483647 : Int32)) / (4 : Int32)) * (4 : Int32)) wPUBLIC wPRIVATE wFINAL wABSTRACT)), .val (.ref (own_c (((p2 &&& (2147483647 : Int32)) - ((p2 &&& (2147483647 : Int32)) / (5 : Int32)) * (5 : Int32)) - (1 : Int32)) wPUBLIC wPRIVATE wFINAL wABSTRACT)), .unset, .unset] [(.int (0 : Int32)), (.ref b5), (.ref b5)])) _
    refine XS.bipush X5.here hx rfl (hb hby at_41) ?_
    show Steps p.tables e below (T5.setTop (mkF m 43 #[.val (.int p1), .val (.int p2), .val (.int ((p1 &&& (2147483647 : Int32)) - ((p1 &&& (2147483647 : Int32)) / (4 : Int32)) * (4 : Int32))), .val (.int ((p2 &&& (2147483647 : Int32)) - ((p2 &&& (2147483647 : Int32)) / (5 : Int32)) * (5 : Int32))), .val (.ref (own_c ((p1 &&& (2147483647 : Int32)) - ((p1 &&& (2147483647 : Int32)) / (4 : Int32)) * (4 : Int32)) wPUBLIC wPRIVATE wFINAL wABSTRACT)), .val (.ref (own_c (((p2 &&& (2147483647 : Int32)) - ((p2 &&& (2147483647 : Int32)) / (5 : Int32)) * (5 : Int32)) - (1 : Int32)) wPUBLIC wPRIVATE wFINAL wABSTRACT)), .unset, .unset] [(.int (7 : Int32)), (.int (0 : Int32)), (.ref b5), (.ref b5)])) _
    refine st6 _ ?_
    show Steps p.tables e below (T6.setTop (mkF m 44 #[.val (.int p1), .val (.int p2), .val (.int ((p1 &&& (2147483647 : Int32)) - ((p1 &&& (2147483647 : Int32)) / (4 : Int32)) * (4 : Int32))), .val (.int ((p2 &&& (2147483647 : Int32)) - ((p2 &&& (2147483647 : Int32)) / (5 : Int32)) * (5 : Int32))), .val (.ref (own_c ((p1 &&& (2147483647 : Int32)) - ((p1 &&& (2147483647 : Int32)) / (4 : Int32)) * (4 : Int32)) wPUBLIC wPRIVATE wFINAL wABSTRACT)), .val (.ref (own_c (((p2 &&& (2147483647 : Int32)) - ((p2 &&& (2147483647 : Int32)) / (5 : Int32)) * (5 : Int32)) - (1 : Int32)) wPUBLIC wPRIVATE wFINAL wABSTRACT)), .unset, .unset] [(.ref b5)])) _
    refine XS.dup X6.here hx rfl (hb hby at_44) rfl rfl ?_
    show Steps p.tables e below (T6.setTop (mkF m 45 #[.val (.int p1), .val (.int p2), .val (.int ((p1 &&& (2147483647 : Int32)) - ((p1 &&& (2147483647 : Int32)) / (4 : Int32)) * (4 : Int32))), .val (.int ((p2 &&& (2147483647 : Int32)) - ((p2 &&& (2147483647 : Int32)) / (5 : Int32)) * (5 : Int32))), .val (.ref (own_c ((p1 &&& (2147483647 : Int32)) - ((p1 &&& (2147483647 : Int32)) / (4 : Int32)) * (4 : Int32)) wPUBLIC wPRIVATE wFINAL wABSTRACT)), .val (.ref (own_c (((p2 &&& (2147483647 : Int32)) - ((p2 &&& (2147483647 : Int32)) / (5 : Int32)) * (5 : Int32)) - (1 : Int32)) wPUBLIC wPRIVATE wFINAL wABSTRACT)), .unset, .unset] [(.ref b5), (.ref b5)])) _
    refine XS.iconst X6.here hx rfl (hb hby at_45) ?_
    show Steps p.tables e below (T6.setTop (mkF m 46 #[.val (.int p1), .val (.int p2), .val (.int ((p1 &&& (2147483647 : Int32)) - ((p1 &&& (2147483647 : Int32)) / (4 : Int32)) * (4 : Int32))), .val (.int ((p2 &&& (2147483647 : Int32)) - ((p2 &&& (2147483647 : Int32)) / (5 : Int32)) * (5 : Int32))), .val (.ref (own_c ((p1 &&& (2147483647 : Int32)) - ((p1 &&& (2147483647 : Int32)) / (4 : Int32)) * (4 : Int32)) wPUBLIC wPRIVATE wFINAL wABSTRACT)), .val (.ref (own_c (((p2 &&& (2147483647 : Int32)) - ((p2 &&& (2147483647 : Int32)) / (5 : Int32)) * (5 : Int32)) - (1 : Int32)) wPUBLIC wPRIVATE wFINAL wABSTRACT)), .unset, .unset] [(.int (1 : Int32)), (.ref b5), (.ref b5)])) _
    refine XS.bipush X6.here hx rfl (hb hby at_46) ?_
    show Steps p.tables e below (T6.setTop (mkF m 48 #[.val (.int p1), .val (.int p2), .val (.int ((p1 &&& (2147483647 : Int32)) - ((p1 &&& (2147483647 : Int32)) / (4 : Int32)) * (4 : Int32))), .val (.int ((p2 &&& (2147483647 : Int32)) - ((p2 &&& (2147483647 : Int32)) / (5 : Int32)) * (5 : Int32))), .val (.ref (own_c ((p1 &&& (2147483647 : Int32)) - ((p1 &&& (2147483647 : Int32)) / (4 : Int32)) * (4 : Int32)) wPUBLIC wPRIVATE wFINAL wABSTRACT)), .val (.ref (own_c (((p2 &&& (2147483647 : Int32)) - ((p2 &&& (2147483647 : Int32)) / (5 : Int32)) * (5 : Int32)) - (1 : Int32)) wPUBLIC wPRIVATE wFINAL wABSTRACT)), .unset, .unset] [(.int (7 : Int32)), (.int (1 : Int32)), (.ref b5), (.ref b5)])) _
    refine st7 _ ?_
    show Steps p.tables e below (T7.setTop (mkF m 49 #[.val (.int p1), .val (.int p2), .val (.int ((p1 &&& (2147483647 : Int32)) - ((p1 &&& (2147483647 : Int32)) / (4 : Int32)) * (4 : Int32))), .val (.int ((p2 &&& (2147483647 : Int32)) - ((p2 &&& (2147483647 : Int32)) / (5 : Int32)) * (5 : Int32))), .val (.ref (own_c ((p1 &&& (2147483647 : Int32)) - ((p1 &&& (2147483647 : Int32)) / (4 : Int32)) * (4 : Int32)) wPUBLIC wPRIVATE wFINAL wABSTRACT)), .val (.ref (own_c (((p2 &&& (2147483647 : Int32)) - ((p2 &&& (2147483647 : Int32)) / (5 : Int32)) * (5 : Int32)) - (1 : Int32)) wPUBLIC wPRIVATE wFINAL wABSTRACT)), .unset, .unset] [(.ref b5)])) _
    refine XS.dup X7.here hx rfl (hb hby at_49) rfl rfl ?_
    show Steps p.tables e below (T7.setTop (mkF m 50 #[.val (.int p1), .val (.int p2), .val (.int ((p1 &&& (2147483647 : Int32)) - ((p1 &&& (2147483647 : Int32)) / (4 : Int32)) * (4 : Int32))), .val (.int ((p2 &&& (2147483647 : Int32)) - ((p2 &&& (2147483647 : Int32)) / (5 : Int32)) * (5 : Int32))), .val (.ref (own_c ((p1 &&& (2147483647 : Int32)) - ((p1 &&& (2147483647 : Int32)) / (4 : Int32)) * (4 : Int32)) wPUBLIC wPRIVATE wFINAL wABSTRACT)), .val (.ref (own_c (((p2 &&& (2147483647 : Int32)) - ((p2 &&& (2147483647 : Int32)) / (5 : Int32)) * (5 : Int32)) - (1 : Int32)) wPUBLIC wPRIVATE wFINAL wABSTRACT)), .unset, .unset] [(.ref b5), (.ref b5)])) _
    refine XS.iconst X7.here hx rfl (hb hby at_50) ?_
    show Steps p.tables e below (T7.setTop (mkF m 51 #[.val (.int p1), .val (.int p2), .val (.int ((p1 &&& (2147483647 : Int32)) - ((p1 &&& (2147483647 : Int32)) / (4 : Int32)) * (4 : Int32))), .val (.int ((p2 &&& (2147483647 : Int32)) - ((p2 &&& (2147483647 : Int32)) / (5 : Int32)) * (5 : Int32))), .val (.ref (own_c ((p1 &&& (2147483647 : Int32)) - ((p1 &&& (2147483647 : Int32)) / (4 : Int32)) * (4 : Int32)) wPUBLIC wPRIVATE wFINAL wABSTRACT)), .val (.ref (own_c (((p2 &&& (2147483647 : Int32)) - ((p2 &&& (2147483647 : Int32)) / (5 : Int32)) * (5 : Int32)) - (1 : Int32)) wPUBLIC wPRIVATE wFINAL wABSTRACT)), .unset, .unset] [(.int (2 : Int32)), (.ref b5), (.ref b5)])) _
    refine XS.iconst X7.here hx rfl (hb hby at_51) ?_
    show Steps p.tables e below (T7.setTop (mkF m 52 #[.val (.int p1), .val (.int p2), .val (.int ((p1 &&& (2147483647 : Int32)) - ((p1 &&& (2147483647 : Int32)) / (4 : Int32)) * (4 : Int32))), .val (.int ((p2 &&& (2147483647 : Int32)) - ((p2 &&& (2147483647 : Int32)) / (5 : Int32)) * (5 : Int32))), .val (.ref (own_c ((p1 &&& (2147483647 : Int32)) - ((p1 &&& (2147483647 : Int32)) / (4 : Int32)) * (4 : Int32)) wPUBLIC wPRIVATE wFINAL wABSTRACT)), .val (.ref (own_c (((p2 &&& (2147483647 : Int32)) - ((p2 &&& (2147483647 : Int32)) / (5 : Int32)) * (5 : Int32)) - (1 : Int32)) wPUBLIC wPRIVATE wFINAL wABSTRACT)), .unset, .unset] [(.int (2 : Int32)), (.int (2 : Int32)), (.ref b5), (.ref b5)])) _
    refine st8 _ ?_
    show Steps p.tables e below (T8.setTop (mkF m 53 #[.val (.int p1), .val (.int p2), .val (.int ((p1 &&& (2147483647 : Int32)) - ((p1 &&& (2147483647 : Int32)) / (4 : Int32)) * (4 : Int32))), .val (.int ((p2 &&& (2147483647 : Int32)) - ((p2 &&& (2147483647 : Int32)) / (5 : Int32)) * (5 : Int32))), .val (.ref (own_c ((p1 &&& (2147483647 : Int32)) - ((p1 &&& (2147483647 : Int32)) / (4 : Int32)) * (4 : Int32)) wPUBLIC wPRIVATE wFINAL wABSTRACT)), .val (.ref (own_c (((p2 &&& (2147483647 : Int32)) - ((p2 &&& (2147483647 : Int32)) / (5 : Int32)) * (5 : Int32)) - (1 : Int32)) wPUBLIC wPRIVATE wFINAL wABSTRACT)), .unset, .unset] [(.ref b5)])) _
    refine XS.dup X8.here hx rfl (hb hby at_53) rfl rfl ?_
    show Steps p.tables e below (T8.setTop (mkF m 54 #[.val (.int p1), .val (.int p2), .val (.int ((p1 &&& (2147483647 : Int32)) - ((p1 &&& (2147483647 : Int32)) / (4 : Int32)) * (4 : Int32))), .val (.int ((p2 &&& (2147483647 : Int32)) - ((p2 &&& (2147483647 : Int32)) / (5 : Int32)) * (5 : Int32))), .val (.ref (own_c ((p1 &&& (2147483647 : Int32)) - ((p1 &&& (2147483647 : Int32)) / (4 : Int32)) * (4 : Int32)) wPUBLIC wPRIVATE wFINAL wABSTRACT)), .val (.ref (own_c (((p2 &&& (2147483647 : Int32)) - ((p2 &&& (2147483647 : Int32)) / (5 : Int32)) * (5 : Int32)) - (1 : Int32)) wPUBLIC wPRIVATE wFINAL wABSTRACT)), .unset, .unset] [(.ref b5), (.ref b5)])) _
    refine XS.iconst X8.here hx rfl (hb hby at_54) ?_
    show Steps p.tables e below (T8.setTop (mkF m 55 #[.val (.int p1), .val (.int p2), .val (.int ((p1 &&& (2147483647 : Int32)) - ((p1 &&& (2147483647 : Int32)) / (4 : Int32)) * (4 : Int32))), .val (.int ((p2 &&& (2147483647 : Int32)) - ((p2 &&& (2147483647 : Int32)) / (5 : Int32)) * (5 : Int32))), .val (.ref (own_c ((p1 &&& (2147483647 : Int32)) - ((p1 &&& (2147483647 : Int32)) / (4 : Int32)) * (4 : Int32)) wPUBLIC wPRIVATE wFINAL wABSTRACT)), .val (.ref (own_c (((p2 &&& (2147483647 : Int32)) - ((p2 &&& (2147483647 : Int32)) / (5 : Int32)) * (5 : Int32)) - (1 : Int32)) wPUBLIC wPRIVATE wFINAL wABSTRACT)), .unset, .unset] [(.int (3 : Int32)), (.ref b5), (.ref b5)])) _
    refine XS.bipush X8.here hx rfl (hb hby at_55) ?_
    show Steps p.tables e below (T8.setTop (mkF m 57 #[.val (.int p1), .val (.int p2), .val (.int ((p1 &&& (2147483647 : Int32)) - ((p1 &&& (2147483647 : Int32)) / (4 : Int32)) * (4 : Int32))), .val (.int ((p2 &&& (2147483647 : Int32)) - ((p2 &&& (2147483647 : Int32)) / (5 : Int32)) * (5 : Int32))), .val (.ref (own_c ((p1 &&& (2147483647 : Int32)) - ((p1 &&& (2147483647 : Int32)) / (4 : Int32)) * (4 : Int32)) wPUBLIC wPRIVATE wFINAL wABSTRACT)), .val (.ref (own_c (((p2 &&& (2147483647 : Int32)) - ((p2 &&& (2147483647 : Int32)) / (5 : Int32)) * (5 : Int32)) - (1 : Int32)) wPUBLIC wPRIVATE wFINAL wABSTRACT)), .unset, .unset] [(.int (6 : Int32)), (.int (3 : Int32)), (.ref b5), (.ref b5)])) _
    refine st9 _ ?_
    show Steps p.tables e below (T9.setTop (mkF m 58 #[.val (.int p1), .val (.int p2), .val (.int ((p1 &&& (2147483647 : Int32)) - ((p1 &&& (2147483647 : Int32)) / (4 : Int32)) * (4 : Int32))), .val (.int ((p2 &&& (2147483647 : Int32)) - ((p2 &&& (2147483647 : Int32)) / (5 : Int32)) * (5 : Int32))), .val (.ref (own_c ((p1 &&& (2147483647 : Int32)) - ((p1 &&& (2147483647 : Int32)) / (4 : Int32)) * (4 : Int32)) wPUBLIC wPRIVATE wFINAL wABSTRACT)), .val (.ref (own_c (((p2 &&& (2147483647 : Int32)) - ((p2 &&& (2147483647 : Int32)) / (5 : Int32)) * (5 : Int32)) - (1 : Int32)) wPUBLIC wPRIVATE wFINAL wABSTRACT)), .unset, .unset] [(.ref b5)])) _
    refine XS.dup X9.here hx rfl (hb hby at_58) rfl rfl ?_
    show Steps p.tables e below (T9.setTop (mkF m 59 #[.val (.int p1), .val (.int p2), .val (.int ((p1 &&& (2147483647 : Int32)) - ((p1 &&& (2147483647 : Int32)) / (4 : Int32)) * (4 : Int32))), .val (.int ((p2 &&& (2147483647 : Int32)) - ((p2 &&& (2147483647 : Int32)) / (5 : Int32)) * (5 : Int32))), .val (.ref (own_c ((p1 &&& (2147483647 : Int32)) - ((p1 &&& (2147483647 : Int32)) / (4 : Int32)) * (4 : Int32)) wPUBLIC wPRIVATE wFINAL wABSTRACT)), .val (.ref (own_c (((p2 &&& (2147483647 : Int32)) - ((p2 &&& (2147483647 : Int32)) / (5 : Int32)) * (5 : Int32)) - (1 : Int32)) wPUBLIC wPRIVATE wFINAL wABSTRACT)), .unset, .unset] [(.ref b5), (.ref b5)])) _
    refine XS.iconst X9.here hx rfl (hb hby at_59) ?_
    show Steps p.tables e below (T9.setTop (mkF m 60 #[.val (.int p1), .val (.int p2), .val (.int ((p1 &&& (2147483647 : Int32)) - ((p1 &&& (2147483647 : Int32)) / (4 : Int32)) * (4 : Int32))), .val (.int ((p2 &&& (2147483647 : Int32)) - ((p2 &&& (2147483647 : Int32)) / (5 : Int32)) * (5 : Int32))), .val (.ref (own_c ((p1 &&& (2147483647 : Int32)) - ((p1 &&& (2147483647 : Int32)) / (4 : Int32)) * (4 : Int32)) wPUBLIC wPRIVATE wFINAL wABSTRACT)), .val (.ref (own_c (((p2 &&& (2147483647 : Int32)) - ((p2 &&& (2147483647 : Int32)) / (5 : Int32)) * (5 : Int32)) - (1 : Int32)) wPUBLIC wPRIVATE wFINAL wABSTRACT)), .unset, .unset] [(.int (4 : Int32)), (.ref b5), (.ref b5)])) _
    refine XS.bipush X9.here hx rfl (hb hby at_60) ?_
    show Steps p.tables e below (T9.setTop (mkF m 62 #[.val (.int p1), .val (.int p2), .val (.int ((p1 &&& (2147483647 : Int32)) - ((p1 &&& (2147483647 : Int32)) / (4 : Int32)) * (4 : Int32))), .val (.int ((p2 &&& (2147483647 : Int32)) - ((p2 &&& (2147483647 : Int32)) / (5 : Int32)) * (5 : Int32))), .val (.ref (own_c ((p1 &&& (2147483647 : Int32)) - ((p1 &&& (2147483647 : Int32)) / (4 : Int32)) * (4 : Int32)) wPUBLIC wPRIVATE wFINAL wABSTRACT)), .val (.ref (own_c (((p2 &&& (2147483647 : Int32)) - ((p2 &&& (2147483647 : Int32)) / (5 : Int32)) * (5 : Int32)) - (1 : Int32)) wPUBLIC wPRIVATE wFINAL wABSTRACT)), .unset, .unset] [(.int (8 : Int32)), (.int (4 : Int32)), (.ref b5), (.ref b5)])) _
    refine st10 _ ?_
    show Steps p.tables e below (T10.setTop (mkF m 63 #[.val (.int p1), .val (.int p2), .val (.int ((p1 &&& (2147483647 : Int32)) - ((p1 &&& (2147483647 : Int32)) / (4 : Int32)) * (4 : Int32))), .val (.int ((p2 &&& (2147483647 : Int32)) - ((p2 &&& (2147483647 : Int32)) / (5 : Int32)) * (5 : Int32))), .val (.ref (own_c ((p1 &&& (2147483647 : Int32)) - ((p1 &&& (2147483647 : Int32)) / (4 : Int32)) * (4 : Int32)) wPUBLIC wPRIVATE wFINAL wABSTRACT)), .val (.ref (own_c (((p2 &&& (2147483647 : Int32)) - ((p2 &&& (2147483647 : Int32)) / (5 : Int32)) * (5 : Int32)) - (1 : Int32)) wPUBLIC wPRIVATE wFINAL wABSTRACT)), .unset, .unset] [(.ref b5)])) _
    refine XS.astore X10.here hx rfl (hb hby at_63) rfl rfl (l' := #[.val (.int p1), .val (.int p2), .val (.int ((p1 &&& (2147483647 : Int32)) - ((p1 &&& (2147483647 : Int32)) / (4 : Int32)) * (4 : Int32))), .val (.int ((p2 &&& (2147483647 : Int32)) - ((p2 &&& (2147483647 : Int32)) / (5 : Int32)) * (5 : Int32))), .val (.ref (own_c ((p1 &&& (2147483647 : Int32)) - ((p1 &&& (2147483647 : Int32)) / (4 : Int32)) * (4 : Int32)) wPUBLIC wPRIVATE wFINAL wABSTRACT)), .val (.ref (own_c (((p2 &&& (2147483647 : Int32)) - ((p2 &&& (2147483647 : Int32)) / (5 : Int32)) * (5 : Int32)) - (1 : Int32)) wPUBLIC wPRIVATE wFINAL wABSTRACT)), .val (.ref b5), .unset]) rfl ?_
    show Steps p.tables e below (T10.setTop (mkF m 65 #[.val (.int p1), .val (.int p2), .val (.int ((p1 &&& (2147483647 : Int32)) - ((p1 &&& (2147483647 : Int32)) / (4 : Int32)) * (4 : Int32))), .val (.int ((p2 &&& (2147483647 : Int32)) - ((p2 &&& (2147483647 : Int32)) / (5 : Int32)) * (5 : Int32))), .val (.ref (own_c ((p1 &&& (2147483647 : Int32)) - ((p1 &&& (2147483647 : Int32)) / (4 : Int32)) * (4 : Int32)) wPUBLIC wPRIVATE wFINAL wABSTRACT)), .val (.ref (own_c (((p2 &&& (2147483647 : Int32)) - ((p2 &&& (2147483647 : Int32)) / (5 : Int32)) * (5 : Int32)) - (1 : Int32)) wPUBLIC wPRIVATE wFINAL wABSTRACT)), .val (.ref b5), .unset] [])) _
    refine XS.aload X10.here hx rfl (hb hby at_65) rfl rfl ?_
    show Steps p.tables e below (T10.setTop (mkF m 67 #[.val (.int p1), .val (.int p2), .val (.int ((p1 &&& (2147483647 : Int32)) - ((p1 &&& (2147483647 : Int32)) / (4 : Int32)) * (4 : Int32))), .val (.int ((p2 &&& (2147483647 : Int32)) - ((p2 &&& (2147483647 : Int32)) / (5 : Int32)) * (5 : Int32))), .val (.ref (own_c ((p1 &&& (2147483647 : Int32)) - ((p1 &&& (2147483647 : Int32)) / (4 : Int32)) * (4 : Int32)) wPUBLIC wPRIVATE wFINAL wABSTRACT)), .val (.ref (own_c (((p2 &&& (2147483647 : Int32)) - ((p2 &&& (2147483647 : Int32)) / (5 : Int32)) * (5 : Int32)) - (1 : Int32)) wPUBLIC wPRIVATE wFINAL wABSTRACT)), .val (.ref b5), .unset] [(.ref b5)])) _
    refine XS.iloadN X10.here hx rfl (hb hby at_67) rfl ?_
    show Steps p.tables e below (T10.setTop (mkF m 68 #[.val (.int p1), .val (.int p2), .val (.int ((p1 &&& (2147483647 : Int32)) - ((p1 &&& (2147483647 : Int32)) / (4 : Int32)) * (4 : Int32))), .val (.int ((p2 &&& (2147483647 : Int32)) - ((p2 &&& (2147483647 : Int32)) / (5 : Int32)) * (5 : Int32))), .val (.ref (own_c ((p1 &&& (2147483647 : Int32)) - ((p1 &&& (2147483647 : Int32)) / (4 : Int32)) * (4 : Int32)) wPUBLIC wPRIVATE wFINAL wABSTRACT)), .val (.ref (own_c (((p2 &&& (2147483647 : Int32)) - ((p2 &&& (2147483647 : Int32)) / (5 : Int32)) * (5 : Int32)) - (1 : Int32)) wPUBLIC wPRIVATE wFINAL wABSTRACT)), .val (.ref b5), .unset] [(.int ((p2 &&& (2147483647 : Int32)) - ((p2 &&& (2147483647 : Int32)) / (5 : Int32)) * (5 : Int32))), (.ref b5)])) _
    refine X10.iaload hx (j := ((p2 &&& (2147483647 : Int32)) - ((p2 &&& (2147483647 : Int32)) / (5 : Int32)) * (5 : Int32))) (v := (.int w11)) (by rw [e10]; exact Ar_b5.1) (State.isArrayOf_alike hZ.alike Ar_b5.2.1) Ar_b5.2.2 hin68 hat68 (g := (mkF m 68 #[.val (.int p1), .val (.int p2), .val (.int ((p1 &&& (2147483647 : Int32)) - ((p1 &&& (2147483647 : Int32)) / (4 : Int32)) * (4 : Int32))), .val (.int ((p2 &&& (2147483647 : Int32)) - ((p2 &&& (2147483647 : Int32)) / (5 : Int32)) * (5 : Int32))), .val (.ref (own_c ((p1 &&& (2147483647 : Int32)) - ((p1 &&& (2147483647 : Int32)) / (4 : Int32)) * (4 : Int32)) wPUBLIC wPRIVATE wFINAL wABSTRACT)), .val (.ref (own_c (((p2 &&& (2147483647 : Int32)) - ((p2 &&& (2147483647 : Int32)) / (5 : Int32)) * (5 : Int32)) - (1 : Int32)) wPUBLIC wPRIVATE wFINAL wABSTRACT)), .val (.ref b5), .unset] [(.int ((p2 &&& (2147483647 : Int32)) - ((p2 &&& (2147483647 : Int32)) / (5 : Int32)) * (5 : Int32))), (.ref b5)])) rfl rfl (hb hby at_68) _ ?_
    show Steps p.tables e below (T10.setTop (mkF m 69 #[.val (.int p1), .val (.int p2), .val (.int ((p1 &&& (2147483647 : Int32)) - ((p1 &&& (2147483647 : Int32)) / (4 : Int32)) * (4 : Int32))), .val (.int ((p2 &&& (2147483647 : Int32)) - ((p2 &&& (2147483647 : Int32)) / (5 : Int32)) * (5 : Int32))), .val (.ref (own_c ((p1 &&& (2147483647 : Int32)) - ((p1 &&& (2147483647 : Int32)) / (4 : Int32)) * (4 : Int32)) wPUBLIC wPRIVATE wFINAL wABSTRACT)), .val (.ref (own_c (((p2 &&& (2147483647 : Int32)) - ((p2 &&& (2147483647 : Int32)) / (5 : Int32)) * (5 : Int32)) - (1 : Int32)) wPUBLIC wPRIVATE wFINAL wABSTRACT)), .val (.ref b5), .unset] [(.int w11)])) _
    refine XS.iloadN X10.here hx rfl (hb hby at_69) rfl ?_
    show Steps p.tables e below (T10.setTop (mkF m 70 #[.val (.int p1), .val (.int p2), .val (.int ((p1 &&& (2147483647 : Int32)) - ((p1 &&& (2147483647 : Int32)) / (4 : Int32)) * (4 : Int32))), .val (.int ((p2 &&& (2147483647 : Int32)) - ((p2 &&& (2147483647 : Int32)) / (5 : Int32)) * (5 : Int32))), .val (.ref (own_c ((p1 &&& (2147483647 : Int32)) - ((p1 &&& (2147483647 : Int32)) / (4 : Int32)) * (4 : Int32)) wPUBLIC wPRIVATE wFINAL wABSTRACT)), .val (.ref (own_c (((p2 &&& (2147483647 : Int32)) - ((p2 &&& (2147483647 : Int32)) / (5 : Int32)) * (5 : Int32)) - (1 : Int32)) wPUBLIC wPRIVATE wFINAL wABSTRACT)), .val (.ref b5), .unset] [(.int ((p1 &&& (2147483647 : Int32)) - ((p1 &&& (2147483647 : Int32)) / (4 : Int32)) * (4 : Int32))), (.int w11)])) _
    refine XS.ishr X10.here hx rfl (hb hby at_70) rfl ?_
    show Steps p.tables e below (T10.setTop (mkF m 71 #[.val (.int p1), .val (.int p2), .val (.int ((p1 &&& (2147483647 : Int32)) - ((p1 &&& (2147483647 : Int32)) / (4 : Int32)) * (4 : Int32))), .val (.int ((p2 &&& (2147483647 : Int32)) - ((p2 &&& (2147483647 : Int32)) / (5 : Int32)) * (5 : Int32))), .val (.ref (own_c ((p1 &&& (2147483647 : Int32)) - ((p1 &&& (2147483647 : Int32)) / (4 : Int32)) * (4 : Int32)) wPUBLIC wPRIVATE wFINAL wABSTRACT)), .val (.ref (own_c (((p2 &&& (2147483647 : Int32)) - ((p2 &&& (2147483647 : Int32)) / (5 : Int32)) * (5 : Int32)) - (1 : Int32)) wPUBLIC wPRIVATE wFINAL wABSTRACT)), .val (.ref b5), .unset] [(.int (w11 >>> (((p1 &&& (2147483647 : Int32)) - ((p1 &&& (2147483647 : Int32)) / (4 : Int32)) * (4 : Int32)) &&& 31)))])) _
    refine XS.iconst X10.here hx rfl (hb hby at_71) ?_
    show Steps p.tables e below (T10.setTop (mkF m 72 #[.val (.int p1), .val (.int p2), .val (.int ((p1 &&& (2147483647 : Int32)) - ((p1 &&& (2147483647 : Int32)) / (4 : Int32)) * (4 : Int32))), .val (.int ((p2 &&& (2147483647 : Int32)) - ((p2 &&& (2147483647 : Int32)) / (5 : Int32)) * (5 : Int32))), .val (.ref (own_c ((p1 &&& (2147483647 : Int32)) - ((p1 &&& (2147483647 : Int32)) / (4 : Int32)) * (4 : Int32)) wPUBLIC wPRIVATE wFINAL wABSTRACT)), .val (.ref (own_c (((p2 &&& (2147483647 : Int32)) - ((p2 &&& (2147483647 : Int32)) / (5 : Int32)) * (5 : Int32)) - (1 : Int32)) wPUBLIC wPRIVATE wFINAL wABSTRACT)), .val (.ref b5), .unset] [(.int (1 : Int32)), (.int (w11 >>> (((p1 &&& (2147483647 : Int32)) - ((p1 &&& (2147483647 : Int32)) / (4 : Int32)) * (4 : Int32)) &&& 31)))])) _
    refine XS.iand X10.here hx rfl (hb hby at_72) rfl ?_
    show Steps p.tables e below (T10.setTop (mkF m 73 #[.val (.int p1), .val (.int p2), .val (.int ((p1 &&& (2147483647 : Int32)) - ((p1 &&& (2147483647 : Int32)) / (4 : Int32)) * (4 : Int32))), .val (.int ((p2 &&& (2147483647 : Int32)) - ((p2 &&& (2147483647 : Int32)) / (5 : Int32)) * (5 : Int32))), .val (.ref (own_c ((p1 &&& (2147483647 : Int32)) - ((p1 &&& (2147483647 : Int32)) / (4 : Int32)) * (4 : Int32)) wPUBLIC wPRIVATE wFINAL wABSTRACT)), .val (.ref (own_c (((p2 &&& (2147483647 : Int32)) - ((p2 &&& (2147483647 : Int32)) / (5 : Int32)) * (5 : Int32)) - (1 : Int32)) wPUBLIC wPRIVATE wFINAL wABSTRACT)), .val (.ref b5), .unset] [(.int ((w11 >>> (((p1 &&& (2147483647 : Int32)) - ((p1 &&& (2147483647 : Int32)) / (4 : Int32)) * (4 : Int32)) &&& 31)) &&& (1 : Int32)))])) _
    refine XS.ifNo X10.here hx rfl (hb hby at_73) rfl ((if0 _ _).trans (feq hc73').1) ?_
    show Steps p.tables e below (T10.setTop (mkF m 76 #[.val (.int p1), .val (.int p2), .val (.int ((p1 &&& (2147483647 : Int32)) - ((p1 &&& (2147483647 : Int32)) / (4 : Int32)) * (4 : Int32))), .val (.int ((p2 &&& (2147483647 : Int32)) - ((p2 &&& (2147483647 : Int32)) / (5 : Int32)) * (5 : Int32))), .val (.ref (own_c ((p1 &&& (2147483647 : Int32)) - ((p1 &&& (2147483647 : Int32)) / (4 : Int32)) * (4 : Int32)) wPUBLIC wPRIVATE wFINAL wABSTRACT)), .val (.ref (own_c (((p2 &&& (2147483647 : Int32)) - ((p2 &&& (2147483647 : Int32)) / (5 : Int32)) * (5 : Int32)) - (1 : Int32)) wPUBLIC wPRIVATE wFINAL wABSTRACT)), .val (.ref b5), .unset] [])) _
    refine XS.iconst X10.here hx rfl (hb hby at_76) ?_
    show Steps p.tables e below (T10.setTop (mkF m 77 #[.val (.int p1), .val (.int p2), .val (.int ((p1 &&& (2147483647 : Int32)) - ((p1 &&& (2147483647 : Int32)) / (4 : Int32)) * (4 : Int32))), .val (.int ((p2 &&& (2147483647 : Int32)) - ((p2 &&& (2147483647 : Int32)) / (5 : Int32)) * (5 : Int32))), .val (.ref (own_c ((p1 &&& (2147483647 : Int32)) - ((p1 &&& (2147483647 : Int32)) / (4 : Int32)) * (4 : Int32)) wPUBLIC wPRIVATE wFINAL wABSTRACT)), .val (.ref (own_c (((p2 &&& (2147483647 : Int32)) - ((p2 &&& (2147483647 : Int32)) / (5 : Int32)) * (5 : Int32)) - (1 : Int32)) wPUBLIC wPRIVATE wFINAL wABSTRACT)), .val (.ref b5), .unset] [(.int (1 : Int32))])) _
    refine XS.goto X10.here hx rfl (pc0 := 77) (pc' := 81) rfl (hb hby at_77) (by decide) (by decide) ?_
    show Steps p.tables e below (T10.setTop (mkF m 81 #[.val (.int p1), .val (.int p2), .val (.int ((p1 &&& (2147483647 : Int32)) - ((p1 &&& (2147483647 : Int32)) / (4 : Int32)) * (4 : Int32))), .val (.int ((p2 &&& (2147483647 : Int32)) - ((p2 &&& (2147483647 : Int32)) / (5 : Int32)) * (5 : Int32))), .val (.ref (own_c ((p1 &&& (2147483647 : Int32)) - ((p1 &&& (2147483647 : Int32)) / (4 : Int32)) * (4 : Int32)) wPUBLIC wPRIVATE wFINAL wABSTRACT)), .val (.ref (own_c (((p2 &&& (2147483647 : Int32)) - ((p2 &&& (2147483647 : Int32)) / (5 : Int32)) * (5 : Int32)) - (1 : Int32)) wPUBLIC wPRIVATE wFINAL wABSTRACT)), .val (.ref b5), .unset] [(.int (1 : Int32))])) _
    refine XS.istore X10.here hx rfl (hb hby at_81) rfl (l' := #[.val (.int p1), .val (.int p2), .val (.int ((p1 &&& (2147483647 : Int32)) - ((p1 &&& (2147483647 : Int32)) / (4 : Int32)) * (4 : Int32))), .val (.int ((p2 &&& (2147483647 : Int32)) - ((p2 &&& (2147483647 : Int32)) / (5 : Int32)) * (5 : Int32))), .val (.ref (own_c ((p1 &&& (2147483647 : Int32)) - ((p1 &&& (2147483647 : Int32)) / (4 : Int32)) * (4 : Int32)) wPUBLIC wPRIVATE wFINAL wABSTRACT)), .val (.ref (own_c (((p2 &&& (2147483647 : Int32)) - ((p2 &&& (2147483647 : Int32)) / (5 : Int32)) * (5 : Int32)) - (1 : Int32)) wPUBLIC wPRIVATE wFINAL wABSTRACT)), .val (.ref b5), .val (.int (1 : Int32))]) rfl ?_
    show Steps p.tables e below (T10.setTop (mkF m 83 #[.val (.int p1), .val (.int p2), .val (.int ((p1 &&& (2147483647 : Int32)) - ((p1 &&& (2147483647 : Int32)) / (4 : Int32)) * (4 : Int32))), .val (.int ((p2 &&& (2147483647 : Int32)) - ((p2 &&& (2147483647 : Int32)) / (5 : Int32)) * (5 : Int32))), .val (.ref (own_c ((p1 &&& (2147483647 : Int32)) - ((p1 &&& (2147483647 : Int32)) / (4 : Int32)) * (4 : Int32)) wPUBLIC wPRIVATE wFINAL wABSTRACT)), .val (.ref (own_c (((p2 &&& (2147483647 : Int32)) - ((p2 &&& (2147483647 : Int32)) / (5 : Int32)) * (5 : Int32)) - (1 : Int32)) wPUBLIC wPRIVATE wFINAL wABSTRACT)), .val (.ref b5), .val (.int (1 : Int32))] [])) _
    refine XS.aload X10.here hx rfl (hb hby at_83) rfl rfl ?_
    show Steps p.tables e below (T10.setTop (mkF m 85 #[.val (.int p1), .val (.int p2), .val (.int ((p1 &&& (2147483647 : Int32)) - ((p1 &&& (2147483647 : Int32)) / (4 : Int32)) * (4 : Int32))), .val (.int ((p2 &&& (2147483647 : Int32)) - ((p2 &&& (2147483647 : Int32)) / (5 : Int32)) * (5 : Int32))), .val (.ref (own_c ((p1 &&& (2147483647 : Int32)) - ((p1 &&& (2147483647 : Int32)) / (4 : Int32)) * (4 : Int32)) wPUBLIC wPRIVATE wFINAL wABSTRACT)), .val (.ref (own_c (((p2 &&& (2147483647 : Int32)) - ((p2 &&& (2147483647 : Int32)) / (5 : Int32)) * (5 : Int32)) - (1 : Int32)) wPUBLIC wPRIVATE wFINAL wABSTRACT)), .val (.ref b5), .val (.int (1 : Int32))] [(.ref (own_c ((p1 &&& (2147483647 : Int32)) - ((p1 &&& (2147483647 : Int32)) / (4 : Int32)) * (4 : Int32)) wPUBLIC wPRIVATE wFINAL wABSTRACT))])) _
    refine XS.aload X10.here hx rfl (hb hby at_85) rfl rfl ?_
    show Steps p.tables e below (T10.setTop (mkF m 87 #[.val (.int p1), .val (.int p2), .val (.int ((p1 &&& (2147483647 : Int32)) - ((p1 &&& (2147483647 : Int32)) / (4 : Int32)) * (4 : Int32))), .val (.int ((p2 &&& (2147483647 : Int32)) - ((p2 &&& (2147483647 : Int32)) / (5 : Int32)) * (5 : Int32))), .val (.ref (own_c ((p1 &&& (2147483647 : Int32)) - ((p1 &&& (2147483647 : Int32)) / (4 : Int32)) * (4 : Int32)) wPUBLIC wPRIVATE wFINAL wABSTRACT)), .val (.ref (own_c (((p2 &&& (2147483647 : Int32)) - ((p2 &&& (2147483647 : Int32)) / (5 : Int32)) * (5 : Int32)) - (1 : Int32)) wPUBLIC wPRIVATE wFINAL wABSTRACT)), .val (.ref b5), .val (.int (1 : Int32))] [(.ref (own_c (((p2 &&& (2147483647 : Int32)) - ((p2 &&& (2147483647 : Int32)) / (5 : Int32)) * (5 : Int32)) - (1 : Int32)) wPUBLIC wPRIVATE wFINAL wABSTRACT)), (.ref (own_c ((p1 &&& (2147483647 : Int32)) - ((p1 &&& (2147483647 : Int32)) / (4 : Int32)) * (4 : Int32)) wPUBLIC wPRIVATE wFINAL wABSTRACT))])) _
    refine st12.trans ?_
    show Steps p.tables e below (T12.setTop (mkF m 90 #[.val (.int p1), .val (.int p2), .val (.int ((p1 &&& (2147483647 : Int32)) - ((p1 &&& (2147483647 : Int32)) / (4 : Int32)) * (4 : Int32))), .val (.int ((p2 &&& (2147483647 : Int32)) - ((p2 &&& (2147483647 : Int32)) / (5 : Int32)) * (5 : Int32))), .val (.ref (own_c ((p1 &&& (2147483647 : Int32)) - ((p1 &&& (2147483647 : Int32)) / (4 : Int32)) * (4 : Int32)) wPUBLIC wPRIVATE wFINAL wABSTRACT)), .val (.ref (own_c (((p2 &&& (2147483647 : Int32)) - ((p2 &&& (2147483647 : Int32)) / (5 : Int32)) * (5 : Int32)) - (1 : Int32)) wPUBLIC wPRIVATE wFINAL wABSTRACT)), .val (.ref b5), .val (.int (1 : Int32))] [(.int (own_m (own_c ((p1 &&& (2147483647 : Int32)) - ((p1 &&& (2147483647 : Int32)) / (4 : Int32)) * (4 : Int32)) wPUBLIC wPRIVATE wFINAL wABSTRACT) (own_c (((p2 &&& (2147483647 : Int32)) - ((p2 &&& (2147483647 : Int32)) / (5 : Int32)) * (5 : Int32)) - (1 : Int32)) wPUBLIC wPRIVATE wFINAL wABSTRACT) wPUBLIC wPRIVATE wFINAL wABSTRACT))])) _
    refine XS.iload X12.here hx rfl (hb hby at_90) rfl ?_
    show Steps p.tables e below (T12.setTop (mkF m 92 #[.val (.int p1), .val (.int p2), .val (.int ((p1 &&& (2147483647 : Int32)) - ((p1 &&& (2147483647 : Int32)) / (4 : Int32)) * (4 : Int32))), .val (.int ((p2 &&& (2147483647 : Int32)) - ((p2 &&& (2147483647 : Int32)) / (5 : Int32)) * (5 : Int32))), .val (.ref (own_c ((p1 &&& (2147483647 : Int32)) - ((p1 &&& (2147483647 : Int32)) / (4 : Int32)) * (4 : Int32)) wPUBLIC wPRIVATE wFINAL wABSTRACT)), .val (.ref (own_c (((p2 &&& (2147483647 : Int32)) - ((p2 &&& (2147483647 : Int32)) / (5 : Int32)) * (5 : Int32)) - (1 : Int32)) wPUBLIC wPRIVATE wFINAL wABSTRACT)), .val (.ref b5), .val (.int (1 : Int32))] [(.int (1 : Int32)), (.int (own_m (own_c ((p1 &&& (2147483647 : Int32)) - ((p1 &&& (2147483647 : Int32)) / (4 : Int32)) * (4 : Int32)) wPUBLIC wPRIVATE wFINAL wABSTRACT) (own_c (((p2 &&& (2147483647 : Int32)) - ((p2 &&& (2147483647 : Int32)) / (5 : Int32)) * (5 : Int32)) - (1 : Int32)) wPUBLIC wPRIVATE wFINAL wABSTRACT) wPUBLIC wPRIVATE wFINAL wABSTRACT))])) _
    refine XS.icmpNo X12.here hx rfl (hb hby at_92) rfl (teq (h92 : (own_m (own_c ((p1 &&& (2147483647 : Int32)) - ((p1 &&& (2147483647 : Int32)) / (4 : Int32)) * (4 : Int32)) wPUBLIC wPRIVATE wFINAL wABSTRACT) (own_c (((p2 &&& (2147483647 : Int32)) - ((p2 &&& (2147483647 : Int32)) / (5 : Int32)) * (5 : Int32)) - (1 : Int32)) wPUBLIC wPRIVATE wFINAL wABSTRACT) wPUBLIC wPRIVATE wFINAL wABSTRACT) = (1 : Int32))).2 ?_
    show Steps p.tables e below (T12.setTop (mkF m 95 #[.val (.int p1), .val (.int p2), .val (.int ((p1 &&& (2147483647 : Int32)) - ((p1 &&& (2147483647 : Int32)) / (4 : Int32)) * (4 : Int32))), .val (.int ((p2 &&& (2147483647 : Int32)) - ((p2 &&& (2147483647 : Int32)) / (5 : Int32)) * (5 : Int32))), .val (.ref (own_c ((p1 &&& (2147483647 : Int32)) - ((p1 &&& (2147483647 : Int32)) / (4 : Int32)) * (4 : Int32)) wPUBLIC wPRIVATE wFINAL wABSTRACT)), .val (.ref (own_c (((p2 &&& (2147483647 : Int32)) - ((p2 &&& (2147483647 : Int32)) / (5 : Int32)) * (5 : Int32)) - (1 : Int32)) wPUBLIC wPRIVATE wFINAL wABSTRACT)), .val (.ref b5), .val (.int (1 : Int32))] [])) _
    refine XS.iconst X12.here hx rfl (hb hby at_95) ?_
    show Steps p.tables e below (T12.setTop (mkF m 96 #[.val (.int p1), .val (.int p2), .val (.int ((p1 &&& (2147483647 : Int32)) - ((p1 &&& (2147483647 : Int32)) / (4 : Int32)) * (4 : Int32))), .val (.int ((p2 &&& (2147483647 : Int32)) - ((p2 &&& (2147483647 : Int32)) / (5 : Int32)) * (5 : Int32))), .val (.ref (own_c ((p1 &&& (2147483647 : Int32)) - ((p1 &&& (2147483647 : Int32)) / (4 : Int32)) * (4 : Int32)) wPUBLIC wPRIVATE wFINAL wABSTRACT)), .val (.ref (own_c (((p2 &&& (2147483647 : Int32)) - ((p2 &&& (2147483647 : Int32)) / (5 : Int32)) * (5 : Int32)) - (1 : Int32)) wPUBLIC wPRIVATE wFINAL wABSTRACT)), .val (.ref b5), .val (.int (1 : Int32))] [(.int (1 : Int32))])) _
    refine XS.goto X12.here hx rfl (pc0 := 96) (pc' := 100) rfl (hb hby at_96) (by decide) (by decide) ?_
    show Steps p.tables e below (T12.setTop (mkF m 100 #[.val (.int p1), .val (.int p2), .val (.int ((p1 &&& (2147483647 : Int32)) - ((p1 &&& (2147483647 : Int32)) / (4 : Int32)) * (4 : Int32))), .val (.int ((p2 &&& (2147483647 : Int32)) - ((p2 &&& (2147483647 : Int32)) / (5 : Int32)) * (5 : Int32))), .val (.ref (own_c ((p1 &&& (2147483647 : Int32)) - ((p1 &&& (2147483647 : Int32)) / (4 : Int32)) * (4 : Int32)) wPUBLIC wPRIVATE wFINAL wABSTRACT)), .val (.ref (own_c (((p2 &&& (2147483647 : Int32)) - ((p2 &&& (2147483647 : Int32)) / (5 : Int32)) * (5 : Int32)) - (1 : Int32)) wPUBLIC wPRIVATE wFINAL wABSTRACT)), .val (.ref b5), .val (.int (1 : Int32))] [(.int (1 : Int32))])) _
    exact retN X12 hx (t := .boolean) Bd.returns (by simp) (hb hby at_100) hr
  · show Q0 Z p1 p2 h0 n0 _ T12.heap _
    exact ⟨rfl, N12⟩
set_option maxRecDepth 65536 in
set_option maxHeartbeats 40000000 in
theorem rm0_ttf (l : Launch) (Z : State) (a0 : Array Value) (hw : ∀ d ∈ tables_1, d.before a0 Z = true) (ws : List Jvm.Cond) (p1 : Int32) (p2 : Int32) (wPUBLIC wPRIVATE wFINAL wABSTRACT : Addr) (h0 : Heap) (n0 : Nat) (Z0 : n0 ≤ h0.size) (S_PUBLIC : Sta Z h0 "com/example/fallbak/fallbak/xslt/Visibility" "PUBLIC" "Lcom/example/fallbak/fallbak/xslt/Visibility;" (.ref wPUBLIC)) (S_PRIVATE : Sta Z h0 "com/example/fallbak/fallbak/xslt/Visibility" "PRIVATE" "Lcom/example/fallbak/fallbak/xslt/Visibility;" (.ref wPRIVATE)) (S_FINAL : Sta Z h0 "com/example/fallbak/fallbak/xslt/Visibility" "FINAL" "Lcom/example/fallbak/fallbak/xslt/Visibility;" (.ref wFINAL)) (S_ABSTRACT : Sta Z h0 "com/example/fallbak/fallbak/xslt/Visibility" "ABSTRACT" "Lcom/example/fallbak/fallbak/xslt/Visibility;" (.ref wABSTRACT)) (E_PUBLIC : Exa Z h0 wPUBLIC "com/example/fallbak/fallbak/xslt/Visibility") (E_PRIVATE : Exa Z h0 wPRIVATE "com/example/fallbak/fallbak/xslt/Visibility") (E_FINAL : Exa Z h0 wFINAL "com/example/fallbak/fallbak/xslt/Visibility") (E_ABSTRACT : Exa Z h0 wABSTRACT "com/example/fallbak/fallbak/xslt/Visibility") (hc21 : ¬ (((p2 &&& (2147483647 : Int32)) - ((p2 &&& (2147483647 : Int32)) / (5 : Int32)) * (5 : Int32)) = (0 : Int32))) (hc73 : own_bit ((p1 &&& (2147483647 : Int32)) - ((p1 &&& (2147483647 : Int32)) / (4 : Int32)) * (4 : Int32)) ((p2 &&& (2147483647 : Int32)) - ((p2 &&& (2147483647 : Int32)) / (5 : Int32)) * (5 : Int32)) = (0 : Int32)) (h92 : own_m (own_c ((p1 &&& (2147483647 : Int32)) - ((p1 &&& (2147483647 : Int32)) / (4 : Int32)) * (4 : Int32)) wPUBLIC wPRIVATE wFINAL wABSTRACT) (own_c (((p2 &&& (2147483647 : Int32)) - ((p2 &&& (2147483647 : Int32)) / (5 : Int32)) * (5 : Int32)) - (1 : Int32)) wPUBLIC wPRIVATE wFINAL wABSTRACT) wPUBLIC wPRIVATE wFINAL wABSTRACT = (0 : Int32)) :
    MetFree l x (head1 (Jvm.Cond.code x code maxLocals ret :: ws) room_1) (fun a U => a = #[(.int p1), (.int p2)] ∧ Z.Warmed39 U.vm ∧ U.heap = h0) (fun _ _ _ _ _ => True) (fun _ U o U' => ∃ v L, o = .returned v ∧ Q0 Z p1 p2 h0 n0 v U'.heap L ∧ FrameEnd U o U' L room_1.cells room_1.slots) := by
  refine MetFree.of_bodySF (plainFor_of_name pn_0) hisR ?_
  intro p e s m args below meth c s₁ Bd hml0 hP hK
  obtain ⟨rfl, hZ, hh⟩ := hP
  have hx := Bd.exec
  have hby := Bd.bytes
  have hml : c.maxLocals = 8 := hml0
  have hown : s.vm.findClass "com/example/fallbak/fallbak/xslt/VisibilityMayBeExposedOnPinLaw" = some m.cls := findClass_of_methodNamed Bd.named
  have hnm := (name_of_methodNamed Bd.named Bd.method).1
  have X0 : Stand p l e room_1 s m #[(.int p1), (.int p2)] below meth c s₁ [] 0 0 := Stand.of_body Bd
  have e0 : s₁.heap = h0 := by rw [← hh, Bd.state]; rfl
  have N0 := Fr.nil n0
  have pre0 : ∀ t, Steps p.tables e below (s₁.setTop (mkF m 0 #[.val (.int p1), .val (.int p2), .unset, .unset, .unset, .unset, .unset, .unset] [])) t → Steps p.tables e below (s₁.setTop (entryFrame m #[(.int p1), (.int p2)] maxLocals)) t := fun t k => castTop (ef_0 m p1 p2) k
  obtain ⟨_, _, ⟨T3, L3, k3, n3⟩, -, X3, ⟨Lc3, hQ3, l3, y3, z3⟩, st3⟩ := Jvm.LawKit.callS X0 hx (y := (⟨"com/example/fallbak/fallbak/xslt/VisibilityMayBeExposedOnPinLaw", "constant", "(I)Lcom/example/fallbak/fallbak/xslt/Visibility;"⟩ : MethodName)) hown (mvT hZ (hw _ (List.mem_of_getElem? (i := 1) rfl))) (mvT hZ (hw _ (List.mem_of_getElem? (i := 2) rfl))) (mvT hZ (hw _ (List.mem_of_getElem? (i := 3) rfl))) (mvT hZ (hw _ (List.mem_of_getElem? (i := 4) rfl))) (by decide) (backOf (W := 0) (rm1 l Z a0 hw [] ((p1 &&& (2147483647 : Int32)) - ((p1 &&& (2147483647 : Int32)) / (4 : Int32)) * (4 : Int32)) wPUBLIC wPRIVATE wFINAL wABSTRACT h0 n0 Z0 S_PUBLIC S_PRIVATE S_FINAL S_ABSTRACT) hZ (hw _ (List.mem_of_getElem? (i := 4) rfl)) (hw _ (List.mem_of_getElem? (i := 3) rfl)) (by decide) (by decide)) (g := (mkF m 15 #[.val (.int p1), .val (.int p2), .val (.int ((p1 &&& (2147483647 : Int32)) - ((p1 &&& (2147483647 : Int32)) / (4 : Int32)) * (4 : Int32))), .val (.int ((p2 &&& (2147483647 : Int32)) - ((p2 &&& (2147483647 : Int32)) / (5 : Int32)) * (5 : Int32))), .unset, .unset, .unset, .unset] [(.int ((p1 &&& (2147483647 : Int32)) - ((p1 &&& (2147483647 : Int32)) / (4 : Int32)) * (4 : Int32)))])) rfl (by rw [hml]; rfl) (argsL := [(.int ((p1 &&& (2147483647 : Int32)) - ((p1 &&& (2147483647 : Int32)) / (4 : Int32)) * (4 : Int32)))]) (rest := []) (lenOf pd_0_0 rfl) rfl (by show 2 * 0 + _ ≤ _; exact Nat.le_of_eq rfl) (hb hby at_15) (fun _ _ => ⟨rfl, e0, (by decide : 0 + 0 ≤ _), (by decide : 0 + 0 ≤ _)⟩)
  dsimp only [Pt.U, Pt.locs, Pt.cells, Pt.slots] at X3 l3 y3 z3 st3 hQ3
  subst l3 y3 z3
  obtain ⟨rfl, N3q, eh3⟩ := hQ3
  have N3 := Fr.app N0 N3q
  obtain ⟨_, _, ⟨T4, L4, k4, n4⟩, -, X4, ⟨Lc4, hQ4, l4, y4, z4⟩, st4⟩ := Jvm.LawKit.callS X3 hx (y := (⟨"com/example/fallbak/fallbak/xslt/VisibilityMayBeExposedOnPinLaw", "constant", "(I)Lcom/example/fallbak/fallbak/xslt/Visibility;"⟩ : MethodName)) hown (mvT hZ (hw _ (List.mem_of_getElem? (i := 1) rfl))) (mvT hZ (hw _ (List.mem_of_getElem? (i := 2) rfl))) (mvT hZ (hw _ (List.mem_of_getElem? (i := 3) rfl))) (mvT hZ (hw _ (List.mem_of_getElem? (i := 4) rfl))) (by decide) (backOf (W := 0) (rm1 l Z a0 hw [] (((p2 &&& (2147483647 : Int32)) - ((p2 &&& (2147483647 : Int32)) / (5 : Int32)) * (5 : Int32)) - (1 : Int32)) wPUBLIC wPRIVATE wFINAL wABSTRACT T3.heap n0 (by rw [eh3]; exact Z0) (by rw [eh3]; exact S_PUBLIC) (by rw [eh3]; exact S_PRIVATE) (by rw [eh3]; exact S_FINAL) (by rw [eh3]; exact S_ABSTRACT)) hZ (hw _ (List.mem_of_getElem? (i := 4) rfl)) (hw _ (List.mem_of_getElem? (i := 3) rfl)) (by decide) (by decide)) (g := (mkF m 31 #[.val (.int p1), .val (.int p2), .val (.int ((p1 &&& (2147483647 : Int32)) - ((p1 &&& (2147483647 : Int32)) / (4 : Int32)) * (4 : Int32))), .val (.int ((p2 &&& (2147483647 : Int32)) - ((p2 &&& (2147483647 : Int32)) / (5 : Int32)) * (5 : Int32))), .val (.ref (own_c ((p1 &&& (2147483647 : Int32)) - ((p1 &&& (2147483647 : Int32)) / (4 : Int32)) * (4 : Int32)) wPUBLIC wPRIVATE wFINAL wABSTRACT)), .unset, .unset, .unset] [(.int (((p2 &&& (2147483647 : Int32)) - ((p2 &&& (2147483647 : Int32)) / (5 : Int32)) * (5 : Int32)) - (1 : Int32)))])) rfl (by rw [hml]; rfl) (argsL := [(.int (((p2 &&& (2147483647 : Int32)) - ((p2 &&& (2147483647 : Int32)) / (5 : Int32)) * (5 : Int32)) - (1 : Int32)))]) (rest := []) (lenOf pd_0_0 rfl) rfl (by show 2 * 0 + _ ≤ _; exact Nat.le_of_eq rfl) (hb hby at_31) (fun _ _ => ⟨rfl, rfl, (by decide : 0 + 0 ≤ _), (by decide : 0 + 0 ≤ _)⟩)
  dsimp only [Pt.U, Pt.locs, Pt.cells, Pt.slots] at X4 l4 y4 z4 st4 hQ4
  subst l4 y4 z4
  obtain ⟨rfl, N4q, eh4⟩ := hQ4
  have N4 := Fr.app N3 N4q
  have KC3 : Keep h0 T3.heap [] := by rw [eh3]; exact Keep.refl _ _
  have KC4 : Keep T3.heap T4.heap [] := by rw [eh4]; exact Keep.refl _ _
  have KT : Keep h0 T4.heap [] := by rw [eh4, eh3]; exact Keep.refl _ _
  have E_c := own_cE (Z := Z) (h0 := h0) ((p1 &&& (2147483647 : Int32)) - ((p1 &&& (2147483647 : Int32)) / (4 : Int32)) * (4 : Int32)) E_PUBLIC E_PRIVATE E_FINAL E_ABSTRACT
  obtain ⟨T5, h5, k5, X5, e5, E5, A5, st5⟩ := newP X4 hx hZ (hw _ (List.mem_of_getElem? (i := 10) rfl)) rfl (g := (mkF m 37 #[.val (.int p1), .val (.int p2), .val (.int ((p1 &&& (2147483647 : Int32)) - ((p1 &&& (2147483647 : Int32)) / (4 : Int32)) * (4 : Int32))), .val (.int ((p2 &&& (2147483647 : Int32)) - ((p2 &&& (2147483647 : Int32)) / (5 : Int32)) * (5 : Int32))), .val (.ref (own_c ((p1 &&& (2147483647 : Int32)) - ((p1 &&& (2147483647 : Int32)) / (4 : Int32)) * (4 : Int32)) wPUBLIC wPRIVATE wFINAL wABSTRACT)), .val (.ref (own_c (((p2 &&& (2147483647 : Int32)) - ((p2 &&& (2147483647 : Int32)) / (5 : Int32)) * (5 : Int32)) - (1 : Int32)) wPUBLIC wPRIVATE wFINAL wABSTRACT)), .unset, .unset] [(.int (5 : Int32))])) rfl (hb hby at_37) rfl (by decide) (cap := 5) (by decide) (by decide) (by decide) (by decide)
  obtain ⟨b5, g5⟩ : ∃ z, z = T4.heap.size := ⟨_, rfl⟩
  rw [← g5] at A5 st5
  have V_b5 : Arv Z h5 b5 k5 .int (5 : Int32) [(.int (0 : Int32)), (.int (0 : Int32)), (.int (0 : Int32)), (.int (0 : Int32)), (.int (0 : Int32))] (.int (0 : Int32)) := (Arv.new A5 (by decide)).pad (pad_rep [] (.int (0 : Int32)) 5)
  have g_b5 : n0 ≤ b5 := Nat.le_trans (Nat.le_trans (Nat.le_trans Z0 KC3.1) KC4.1) (Nat.le_of_eq g5.symm)
  have sz_b5 : h0.size ≤ b5 := (Nat.le_trans KT.1 (Nat.le_of_eq g5.symm))
  have K5 : Keep h0 h5 [] := KT.ext E5
  obtain ⟨cl_b5_43, Ar_b5, q_b5, S_b5, N_b5, H_b5, G_b5⟩ := V_b5
  have hin43 : ¬ ((0 : Int32) < 0 ∨ cl_b5_43.slots.size ≤ ((0 : Int32)).toNatClampNeg) := inb_of S_b5 ⟨by decide, by decide⟩
  obtain ⟨T6, h6, X6, e6, W6, st6⟩ := stI X5 hx hZ e5 Ar_b5 (j := (0 : Int32)) hin43 (g := (mkF m 43 #[.val (.int p1), .val (.int p2), .val (.int ((p1 &&& (2147483647 : Int32)) - ((p1 &&& (2147483647 : Int32)) / (4 : Int32)) * (4 : Int32))), .val (.int ((p2 &&& (2147483647 : Int32)) - ((p2 &&& (2147483647 : Int32)) / (5 : Int32)) * (5 : Int32))), .val (.ref (own_c ((p1 &&& (2147483647 : Int32)) - ((p1 &&& (2147483647 : Int32)) / (4 : Int32)) * (4 : Int32)) wPUBLIC wPRIVATE wFINAL wABSTRACT)), .val (.ref (own_c (((p2 &&& (2147483647 : Int32)) - ((p2 &&& (2147483647 : Int32)) / (5 : Int32)) * (5 : Int32)) - (1 : Int32)) wPUBLIC wPRIVATE wFINAL wABSTRACT)), .unset, .unset] [(.int (7 : Int32)), (.int (0 : Int32)), (.ref b5), (.ref b5)])) rfl rfl (hb hby at_43)
  have V_b5_6 := Arv.set Ar_b5 q_b5 S_b5 N_b5 H_b5 G_b5 rfl W6 0 rfl (Nat.le_of_ble_eq_true rfl)
  have K6 : Keep h0 h6 [] := K5.wr W6 (Or.inr sz_b5)
  have N6 := Fr.snoc X6 N4 g_b5
  obtain ⟨cl_b5_48, Ar_b5, q_b5, S_b5, N_b5, H_b5, G_b5⟩ := V_b5_6
  have hin48 : ¬ ((1 : Int32) < 0 ∨ cl_b5_48.slots.size ≤ ((1 : Int32)).toNatClampNeg) := inb_of S_b5 ⟨by decide, by decide⟩
  obtain ⟨T7, h7, X7, e7, W7, st7⟩ := stI X6 hx hZ e6 Ar_b5 (j := (1 : Int32)) hin48 (g := (mkF m 48 #[.val (.int p1), .val (.int p2), .val (.int ((p1 &&& (2147483647 : Int32)) - ((p1 &&& (2147483647 : Int32)) / (4 : Int32)) * (4 : Int32))), .val (.int ((p2 &&& (2147483647 : Int32)) - ((p2 &&& (2147483647 : Int32)) / (5 : Int32)) * (5 : Int32))), .val (.ref (own_c ((p1 &&& (2147483647 : Int32)) - ((p1 &&& (2147483647 : Int32)) / (4 : Int32)) * (4 : Int32)) wPUBLIC wPRIVATE wFINAL wABSTRACT)), .val (.ref (own_c (((p2 &&& (2147483647 : Int32)) - ((p2 &&& (2147483647 : Int32)) / (5 : Int32)) * (5 : Int32)) - (1 : Int32)) wPUBLIC wPRIVATE wFINAL wABSTRACT)), .unset, .unset] [(.int (7 : Int32)), (.int (1 : Int32)), (.ref b5), (.ref b5)])) rfl rfl (hb hby at_48)
  have V_b5_7 := Arv.set Ar_b5 q_b5 S_b5 N_b5 H_b5 G_b5 rfl W7 1 rfl (Nat.le_of_ble_eq_true rfl)
  have K7 : Keep h0 h7 [] := K6.wr W7 (Or.inr sz_b5)
  have N7 := Fr.snoc X7 N6 g_b5
  obtain ⟨cl_b5_52, Ar_b5, q_b5, S_b5, N_b5, H_b5, G_b5⟩ := V_b5_7
  have hin52 : ¬ ((2 : Int32) < 0 ∨ cl_b5_52.slots.size ≤ ((2 : Int32)).toNatClampNeg) := inb_of S_b5 ⟨by decide, by decide⟩
  obtain ⟨T8, h8, X8, e8, W8, st8⟩ := stI X7 hx hZ e7 Ar_b5 (j := (2 : Int32)) hin52 (g := (mkF m 52 #[.val (.int p1), .val (.int p2), .val (.int ((p1 &&& (2147483647 : Int32)) - ((p1 &&& (2147483647 : Int32)) / (4 : Int32)) * (4 : Int32))), .val (.int ((p2 &&& (2147483647 : Int32)) - ((p2 &&& (2147483647 : Int32)) / (5 : Int32)) * (5 : Int32))), .val (.ref (own_c ((p1 &&& (2147483647 : Int32)) - ((p1 &&& (2147483647 : Int32)) / (4 : Int32)) * (4 : Int32)) wPUBLIC wPRIVATE wFINAL wABSTRACT)), .val (.ref (own_c (((p2 &&& (2147483647 : Int32)) - ((p2 &&& (2147483647 : Int32)) / (5 : Int32)) * (5 : Int32)) - (1 : Int32)) wPUBLIC wPRIVATE wFINAL wABSTRACT)), .unset, .unset] [(.int (2 : Int32)), (.int (2 : Int32)), (.ref b5), (.ref b5)])) rfl rfl (hb hby at_52)
  have V_b5_8 := Arv.set Ar_b5 q_b5 S_b5 N_b5 H_b5 G_b5 rfl W8 2 rfl (Nat.le_of_ble_eq_true rfl)
  have K8 : Keep h0 h8 [] := K7.wr W8 (Or.inr sz_b5)
  have N8 := Fr.snoc X8 N7 g_b5
  obtain ⟨cl_b5_57, Ar_b5, q_b5, S_b5, N_b5, H_b5, G_b5⟩ := V_b5_8
  have hin57 : ¬ ((3 : Int32) < 0 ∨ cl_b5_57.slots.size ≤ ((3 : Int32)).toNatClampNeg) := inb_of S_b5 ⟨by decide, by decide⟩
  obtain ⟨T9, h9, X9, e9, W9, st9⟩ := stI X8 hx hZ e8 Ar_b5 (j := (3 : Int32)) hin57 (g := (mkF m 57 #[.val (.int p1), .val (.int p2), .val (.int ((p1 &&& (2147483647 : Int32)) - ((p1 &&& (2147483647 : Int32)) / (4 : Int32)) * (4 : Int32))), .val (.int ((p2 &&& (2147483647 : Int32)) - ((p2 &&& (2147483647 : Int32)) / (5 : Int32)) * (5 : Int32))), .val (.ref (own_c ((p1 &&& (2147483647 : Int32)) - ((p1 &&& (2147483647 : Int32)) / (4 : Int32)) * (4 : Int32)) wPUBLIC wPRIVATE wFINAL wABSTRACT)), .val (.ref (own_c (((p2 &&& (2147483647 : Int32)) - ((p2 &&& (2147483647 : Int32)) / (5 : Int32)) * (5 : Int32)) - (1 : Int32)) wPUBLIC wPRIVATE wFINAL wABSTRACT)), .unset, .unset] [(.int (6 : Int32)), (.int (3 : Int32)), (.ref b5), (.ref b5)])) rfl rfl (hb hby at_57)
  have V_b5_9 := Arv.set Ar_b5 q_b5 S_b5 N_b5 H_b5 G_b5 rfl W9 3 rfl (Nat.le_of_ble_eq_true rfl)
  have K9 : Keep h0 h9 [] := K8.wr W9 (Or.inr sz_b5)
  have N9 := Fr.snoc X9 N8 g_b5
  obtain ⟨cl_b5_62, Ar_b5, q_b5, S_b5, N_b5, H_b5, G_b5⟩ := V_b5_9
  have hin62 : ¬ ((4 : Int32) < 0 ∨ cl_b5_62.slots.size ≤ ((4 : Int32)).toNatClampNeg) := inb_of S_b5 ⟨by decide, by decide⟩
  obtain ⟨T10, h10, X10, e10, W10, st10⟩ := stI X9 hx hZ e9 Ar_b5 (j := (4 : Int32)) hin62 (g := (mkF m 62 #[.val (.int p1), .val (.int p2), .val (.int ((p1 &&& (2147483647 : Int32)) - ((p1 &&& (2147483647 : Int32)) / (4 : Int32)) * (4 : Int32))), .val (.int ((p2 &&& (2147483647 : Int32)) - ((p2 &&& (2147483647 : Int32)) / (5 : Int32)) * (5 : Int32))), .val (.ref (own_c ((p1 &&& (2147483647 : Int32)) - ((p1 &&& (2147483647 : Int32)) / (4 : Int32)) * (4 : Int32)) wPUBLIC wPRIVATE wFINAL wABSTRACT)), .val (.ref (own_c (((p2 &&& (2147483647 : Int32)) - ((p2 &&& (2147483647 : Int32)) / (5 : Int32)) * (5 : Int32)) - (1 : Int32)) wPUBLIC wPRIVATE wFINAL wABSTRACT)), .unset, .unset] [(.int (8 : Int32)), (.int (4 : Int32)), (.ref b5), (.ref b5)])) rfl rfl (hb hby at_62)
  have V_b5_10 := Arv.set Ar_b5 q_b5 S_b5 N_b5 H_b5 G_b5 rfl W10 4 rfl (Nat.le_of_ble_eq_true rfl)
  have K10 : Keep h0 h10 [] := K9.wr W10 (Or.inr sz_b5)
  have N10 := Fr.snoc X10 N9 g_b5
  obtain ⟨cl_x, Ar_b5, q_x, S_x, N_x, H_x, G_x⟩ := V_b5_10
  have hin68 : ¬ (((p2 &&& (2147483647 : Int32)) - ((p2 &&& (2147483647 : Int32)) / (5 : Int32)) * (5 : Int32)) < 0 ∨ cl_x.slots.size ≤ (((p2 &&& (2147483647 : Int32)) - ((p2 &&& (2147483647 : Int32)) / (5 : Int32)) * (5 : Int32))).toNatClampNeg) := inb_of S_x (own_inb p2 5 5 rfl (by decide) (by decide))
  obtain ⟨w11, hW0⟩ : ∃ w, w = own_al (((p2 &&& (2147483647 : Int32)) - ((p2 &&& (2147483647 : Int32)) / (5 : Int32)) * (5 : Int32))).toNatClampNeg := ⟨_, rfl⟩
  have hat68 : cl_x.slots[(((p2 &&& (2147483647 : Int32)) - ((p2 &&& (2147483647 : Int32)) / (5 : Int32)) * (5 : Int32))).toNatClampNeg]? = some (.int w11) := by
    have hlt : (((p2 &&& (2147483647 : Int32)) - ((p2 &&& (2147483647 : Int32)) / (5 : Int32)) * (5 : Int32))).toNatClampNeg < cl_x.slots.size := Nat.lt_of_not_le fun q => hin68 (Or.inr q)
    rw [H_x _ hlt, hW0]
    rcases own_d5 p2 with r | r | r | r | r <;> rw [r] <;> rfl
  have hc73' : ((w11 >>> (((p1 &&& (2147483647 : Int32)) - ((p1 &&& (2147483647 : Int32)) / (4 : Int32)) * (4 : Int32)) &&& 31)) &&& (1 : Int32)) = (0 : Int32) := by rw [hW0]; exact hc73
  have S' : ∀ {n : String} {v : Value}, Sta Z h0 "com/example/fallbak/fallbak/xslt/Visibility" n "Lcom/example/fallbak/fallbak/xslt/Visibility;" v → Sta Z h10 "com/example/fallbak/fallbak/xslt/Visibility" n "Lcom/example/fallbak/fallbak/xslt/Visibility;" v := fun F => Sta.ext (own_Ext K10) F
  obtain ⟨cq12, kq12, q12a, q12b, q12c⟩ := isOf hZ e10 ((((((((E_c.keep KC3).keep KC4).ext E5).wr W6).wr W7).wr W8).wr W9).wr W10)
  obtain ⟨_, _, ⟨T12, L12, k12, n12⟩, -, X12, ⟨Lc12, hQ12, l12, y12, z12⟩, st12⟩ := X10.virtualBack hx (y := (⟨"com/example/fallbak/fallbak/xslt/Visibility", "mayBeExposedOn", "(Lcom/example/fallbak/fallbak/xslt/Visibility;)Z"⟩ : MethodName)) (z := (⟨"com/example/fallbak/fallbak/xslt/Visibility", "mayBeExposedOn", "(Lcom/example/fallbak/fallbak/xslt/Visibility;)Z"⟩ : MethodName)) hown (mvT hZ (hw _ (List.mem_of_getElem? (i := 11) rfl))) (mvT hZ (hw _ (List.mem_of_getElem? (i := 12) rfl))) (notFace_of_selects (args := #[]) (mvT hZ (hw _ (List.mem_of_getElem? (i := 14) rfl)))) (mvT hZ (hw _ (List.mem_of_getElem? (i := 14) rfl))) (mvT hZ (hw _ (List.mem_of_getElem? (i := 13) rfl))) (by decide) (backOf (W := 0) (rm2 l Z a0 hw [] (own_c ((p1 &&& (2147483647 : Int32)) - ((p1 &&& (2147483647 : Int32)) / (4 : Int32)) * (4 : Int32)) wPUBLIC wPRIVATE wFINAL wABSTRACT) (own_c (((p2 &&& (2147483647 : Int32)) - ((p2 &&& (2147483647 : Int32)) / (5 : Int32)) * (5 : Int32)) - (1 : Int32)) wPUBLIC wPRIVATE wFINAL wABSTRACT) wPUBLIC wPRIVATE wFINAL wABSTRACT h10 n0 (Nat.le_trans Z0 K10.1) (S' S_PUBLIC) (S' S_PRIVATE) (S' S_FINAL) (S' S_ABSTRACT)) hZ (hw _ (List.mem_of_getElem? (i := 15) rfl)) (hw _ (List.mem_of_getElem? (i := 6) rfl)) (by decide) (by decide)) q12a q12c (g := (mkF m 87 #[.val (.int p1), .val (.int p2), .val (.int ((p1 &&& (2147483647 : Int32)) - ((p1 &&& (2147483647 : Int32)) / (4 : Int32)) * (4 : Int32))), .val (.int ((p2 &&& (2147483647 : Int32)) - ((p2 &&& (2147483647 : Int32)) / (5 : Int32)) * (5 : Int32))), .val (.ref (own_c ((p1 &&& (2147483647 : Int32)) - ((p1 &&& (2147483647 : Int32)) / (4 : Int32)) * (4 : Int32)) wPUBLIC wPRIVATE wFINAL wABSTRACT)), .val (.ref (own_c (((p2 &&& (2147483647 : Int32)) - ((p2 &&& (2147483647 : Int32)) / (5 : Int32)) * (5 : Int32)) - (1 : Int32)) wPUBLIC wPRIVATE wFINAL wABSTRACT)), .val (.ref b5), .val (.int (0 : Int32))] [(.ref (own_c (((p2 &&& (2147483647 : Int32)) - ((p2 &&& (2147483647 : Int32)) / (5 : Int32)) * (5 : Int32)) - (1 : Int32)) wPUBLIC wPRIVATE wFINAL wABSTRACT)), (.ref (own_c ((p1 &&& (2147483647 : Int32)) - ((p1 &&& (2147483647 : Int32)) / (4 : Int32)) * (4 : Int32)) wPUBLIC wPRIVATE wFINAL wABSTRACT))])) rfl (by rw [hml]; rfl) (Steps.refl _) (argsL := [(.ref (own_c (((p2 &&& (2147483647 : Int32)) - ((p2 &&& (2147483647 : Int32)) / (5 : Int32)) * (5 : Int32)) - (1 : Int32)) wPUBLIC wPRIVATE wFINAL wABSTRACT))]) (rest := []) (lenOf pd_0_1 rfl) rfl (by show 2 * 0 + _ ≤ _; exact Nat.le_of_eq rfl) (hb hby at_87) (fun _ _ => ⟨rfl, e10, (by decide : 1 + 0 ≤ _), (by decide : 5 + 0 ≤ _)⟩)
  dsimp only [Pt.U, Pt.locs, Pt.cells, Pt.slots] at X12 l12 y12 z12 st12 hQ12
  subst l12 y12 z12
  obtain ⟨rfl, N12q, eh_2⟩ := hQ12
  have N12 := Fr.app N10 N12q
  obtain ⟨fs, hr, hrun, hended, hW, hsame⟩ := X12.leave (v := some (.int (1 : Int32))) (fun h => by rw [Bd.returns] at h; cases h)
  refine ⟨_, _, pre0 _ ?_, hrun, hended, _, _, rfl, ?_, ⟨_, rfl⟩, hW, hsame.mono (by decide) (by decide)⟩
  · show Steps p.tables e below (s₁.setTop (mkF m 0 #[.val (.int p1), .val (.int p2), .unset, .unset, .unset, .unset, .unset, .unset] [])) _
    refine XS.iloadN X0.here hx rfl (hb hby at_0) rfl ?_
    show Steps p.tables e below (s₁.setTop (mkF m 1 #[.val (.int p1), .val (.int p2), .unset, .unset, .unset, .unset, .unset, .unset] [(.int p1)])) _
    refine X0.ldcInt hx hown (mvT hZ (hw _ (List.mem_of_getElem? (i := 0) rfl))) (g := (mkF m 1 #[.val (.int p1), .val (.int p2), .unset, .unset, .unset, .unset, .unset, .unset] [(.int p1)])) rfl (hb hby at_1) _ ?_
    show Steps p.tables e below (s₁.setTop (mkF m 3 #[.val (.int p1), .val (.int p2), .unset, .unset, .unset, .unset, .unset, .unset] [(.int (2147483647 : Int32)), (.int p1)])) _
    refine XS.iand X0.here hx rfl (hb hby at_3) rfl ?_
    show Steps p.tables e below (s₁.setTop (mkF m 4 #[.val (.int p1), .val (.int p2), .unset, .unset, .unset, .unset, .unset, .unset] [(.int (p1 &&& (2147483647 : Int32)))])) _
    refine XS.iconst X0.here hx rfl (hb hby at_4) ?_
    show Steps p.tables e below (s₁.setTop (mkF m 5 #[.val (.int p1), .val (.int p2), .unset, .unset, .unset, .unset, .unset, .unset] [(.int (4 : Int32)), (.int (p1 &&& (2147483647 : Int32)))])) _
    refine XS.irem X0.here hx rfl (hb hby at_5) rfl (by decide) ?_
    show Steps p.tables e below (s₁.setTop (mkF m 6 #[.val (.int p1), .val (.int p2), .unset, .unset, .unset, .unset, .unset, .unset] [(.int ((p1 &&& (2147483647 : Int32)) - ((p1 &&& (2147483647 : Int32)) / (4 : Int32)) * (4 : Int32)))])) _
    refine XS.istoreN X0.here hx rfl (hb hby at_6) rfl (l' := #[.val (.int p1), .val (.int p2), .val (.int ((p1 &&& (2147483647 : Int32)) - ((p1 &&& (2147483647 : Int32)) / (4 : Int32)) * (4 : Int32))), .unset, .unset, .unset, .unset, .unset]) rfl ?_
    show Steps p.tables e below (s₁.setTop (mkF m 7 #[.val (.int p1), .val (.int p2), .val (.int ((p1 &&& (2147483647 : Int32)) - ((p1 &&& (2147483647 : Int32)) / (4 : Int32)) * (4 : Int32))), .unset, .unset, .unset, .unset, .unset] [])) _
    refine XS.iloadN X0.here hx rfl (hb hby at_7) rfl ?_
    show Steps p.tables e below (s₁.setTop (mkF m 8 #[.val (.int p1), .val (.int p2), .val (.int ((p1 &&& (2147483647 : Int32)) - ((p1 &&& (2147483647 : Int32)) / (4 : Int32)) * (4 : Int32))), .unset, .unset, .unset, .unset, .unset] [(.int p2)])) _
    refine X0.ldcInt hx hown (mvT hZ (hw _ (List.mem_of_getElem? (i := 0) rfl))) (g := (mkF m 8 #[.val (.int p1), .val (.int p2), .val (.int ((p1 &&& (2147483647 : Int32)) - ((p1 &&& (2147483647 : Int32)) / (4 : Int32)) * (4 : Int32))), .unset, .unset, .unset, .unset, .unset] [(.int p2)])) rfl (hb hby at_8) _ ?_
    show Steps p.tables e below (s₁.setTop (mkF m 10 #[.val (.int p1), .val (.int p2), .val (.int ((p1 &&& (2147483647 : Int32)) - ((p1 &&& (2147483647 : Int32)) / (4 : Int32)) * (4 : Int32))), .unset, .unset, .unset, .unset, .unset] [(.int (2147483647 : Int32)), (.int p2)])) _
    refine XS.iand X0.here hx rfl (hb hby at_10) rfl ?_
    show Steps p.tables e below (s₁.setTop (mkF m 11 #[.val (.int p1), .val (.int p2), .val (.int ((p1 &&& (2147483647 : Int32)) - ((p1 &&& (2147483647 : Int32)) / (4 : Int32)) * (4 : Int32))), .unset, .unset, .unset, .unset, .unset] [(.int (p2 &&& (2147483647 : Int32)))])) _
    refine XS.iconst X0.here hx rfl (hb hby at_11) ?_
    show Steps p.tables e below (s₁.setTop (mkF m 12 #[.val (.int p1), .val (.int p2), .val (.int ((p1 &&& (2147483647 : Int32)) - ((p1 &&& (2147483647 : Int32)) / (4 : Int32)) * (4 : Int32))), .unset, .unset, .unset, .unset, .unset] [(.int (5 : Int32)), (.int (p2 &&& (2147483647 : Int32)))])) _
    refine XS.irem X0.here hx rfl (hb hby at_12) rfl (by decide) ?_
    show Steps p.tables e below (s₁.setTop (mkF m 13 #[.val (.int p1), .val (.int p2), .val (.int ((p1 &&& (2147483647 : Int32)) - ((p1 &&& (2147483647 : Int32)) / (4 : Int32)) * (4 : Int32))), .unset, .unset, .unset, .unset, .unset] [(.int ((p2 &&& (2147483647 : Int32)) - ((p2 &&& (2147483647 : Int32)) / (5 : Int32)) * (5 : Int32)))])) _
    refine XS.istoreN X0.here hx rfl (hb hby at_13) rfl (l' := #[.val (.int p1), .val (.int p2), .val (.int ((p1 &&& (2147483647 : Int32)) - ((p1 &&& (2147483647 : Int32)) / (4 : Int32)) * (4 : Int32))), .val (.int ((p2 &&& (2147483647 : Int32)) - ((p2 &&& (2147483647 : Int32)) / (5 : Int32)) * (5 : Int32))), .unset, .unset, .unset, .unset]) rfl ?_
    show Steps p.tables e below (s₁.setTop (mkF m 14 #[.val (.int p1), .val (.int p2), .val (.int ((p1 &&& (2147483647 : Int32)) - ((p1 &&& (2147483647 : Int32)) / (4 : Int32)) * (4 : Int32))), .val (.int ((p2 &&& (2147483647 : Int32)) - ((p2 &&& (2147483647 : Int32)) / (5 : Int32)) * (5 : Int32))), .unset, .unset, .unset, .unset] [])) _
    refine XS.iloadN X0.here hx rfl (hb hby at_14) rfl ?_
    show Steps p.tables e below (s₁.setTop (mkF m 15 #[.val (.int p1), .val (.int p2), .val (.int ((p1 &&& (2147483647 : Int32)) - ((p1 &&& (2147483647 : Int32)) / (4 : Int32)) * (4 : Int32))), .val (.int ((p2 &&& (2147483647 : Int32)) - ((p2 &&& (2147483647 : Int32)) / (5 : Int32)) * (5 : Int32))), .unset, .unset, .unset, .unset] [(.int ((p1 &&& (2147483647 : Int32)) - ((p1 &&& (2147483647 : Int32)) / (4 : Int32)) * (4 : Int32)))])) _
    refine st3 _ ?_
    show Steps p.tables e below (T3.setTop (mkF m 18 #[.val (.int p1), .val (.int p2), .val (.int ((p1 &&& (2147483647 : Int32)) - ((p1 &&& (2147483647 : Int32)) / (4 : Int32)) * (4 : Int32))), .val (.int ((p2 &&& (2147483647 : Int32)) - ((p2 &&& (2147483647 : Int32)) / (5 : Int32)) * (5 : Int32))), .unset, .unset, .unset, .unset] [(.ref (own_c ((p1 &&& (2147483647 : Int32)) - ((p1 &&& (2147483647 : Int32)) / (4 : Int32)) * (4 : Int32)) wPUBLIC wPRIVATE wFINAL wABSTRACT))])) _
    refine XS.astore X3.here hx rfl (hb hby at_18) rfl rfl (l' := #[.val (.int p1), .val (.int p2), .val (.int ((p1 &&& (2147483647 : Int32)) - ((p1 &&& (2147483647 : Int32)) / (4 : Int32)) * (4 : Int32))), .val (.int ((p2 &&& (2147483647 : Int32)) - ((p2 &&& (2147483647 : Int32)) / (5 : Int32)) * (5 : Int32))), .val (.ref (own_c ((p1 &&& (2147483647 : Int32)) - ((p1 &&& (2147483647 : Int32)) / (4 : Int32)) * (4 : Int32)) wPUBLIC wPRIVATE wFINAL wABSTRACT)), .unset, .unset, .unset]) rfl ?_
    show Steps p.tables e below (T3.setTop (mkF m 20 #[.val (.int p1), .val (.int p2), .val (.int ((p1 &&& (2147483647 : Int32)) - ((p1 &&& (2147483647 : Int32)) / (4 : Int32)) * (4 : Int32))), .val (.int ((p2 &&& (2147483647 : Int32)) - ((p2 &&& (2147483647 : Int32)) / (5 : Int32)) * (5 : Int32))), .val (.ref (own_c ((p1 &&& (2147483647 : Int32)) - ((p1 &&& (2147483647 : Int32)) / (4 : Int32)) * (4 : Int32)) wPUBLIC wPRIVATE wFINAL wABSTRACT)), .unset, .unset, .unset] [])) _
    refine XS.iloadN X3.here hx rfl (hb hby at_20) rfl ?_
    show Steps p.tables e below (T3.setTop (mkF m 21 #[.val (.int p1), .val (.int p2), .val (.int ((p1 &&& (2147483647 : Int32)) - ((p1 &&& (2147483647 : Int32)) / (4 : Int32)) * (4 : Int32))), .val (.int ((p2 &&& (2147483647 : Int32)) - ((p2 &&& (2147483647 : Int32)) / (5 : Int32)) * (5 : Int32))), .val (.ref (own_c ((p1 &&& (2147483647 : Int32)) - ((p1 &&& (2147483647 : Int32)) / (4 : Int32)) * (4 : Int32)) wPUBLIC wPRIVATE wFINAL wABSTRACT)), .unset, .unset, .unset] [(.int ((p2 &&& (2147483647 : Int32)) - ((p2 &&& (2147483647 : Int32)) / (5 : Int32)) * (5 : Int32)))])) _
    refine XS.ifYes X3.here hx rfl (pc0 := 21) (pc' := 28) rfl (hb hby at_21) rfl ((if0 _ _).trans (feq hc21).2) (by decide) (by decide) ?_
    show Steps p.tables e below (T3.setTop (mkF m 28 #[.val (.int p1), .val (.int p2), .val (.int ((p1 &&& (2147483647 : Int32)) - ((p1 &&& (2147483647 : Int32)) / (4 : Int32)) * (4 : Int32))), .val (.int ((p2 &&& (2147483647 : Int32)) - ((p2 &&& (2147483647 : Int32)) / (5 : Int32)) * (5 : Int32))), .val (.ref (own_c ((p1 &&& (2147483647 : Int32)) - ((p1 &&& (2147483647 : Int32)) / (4 : Int32)) * (4 : Int32)) wPUBLIC wPRIVATE wFINAL wABSTRACT)), .unset, .unset, .unset] [])) _
    refine XS.iloadN X3.here hx rfl (hb hby at_28) rfl ?_
    show Steps p.tables e below (T3.setTop (mkF m 29 #[.val (.int p1), .val (.int p2), .val (.int ((p1 &&& (2147483647 : Int32)) - ((p1 &&& (2147483647 : Int32)) / (4 : Int32)) * (4 : Int32))), .val (.int ((p2 &&& (2147483647 : Int32)) - ((p2 &&& (2147483647 : Int32)) / (5 : Int32)) * (5 : Int32))), .val (.ref (own_c ((p1 &&& (2147483647 : Int32)) - ((p1 &&& (2147483647 : Int32)) / (4 : Int32)) * (4 : Int32)) wPUBLIC wPRIVATE wFINAL wABSTRACT)), .unset, .unset, .unset] [(.int ((p2 &&& (2147483647 : Int32)) - ((p2 &&& (2147483647 : Int32)) / (5 : Int32)) * (5 : Int32)))])) _
    refine XS.iconst X3.here hx rfl (hb hby at_29) ?_
    show Steps p.tables e below (T3.setTop (mkF m 30 #[.val (.int p1), .val (.int p2), .val (.int ((p1 &&& (2147483647 : Int32)) - ((p1 &&& (2147483647 : Int32)) / (4 : Int32)) * (4 : Int32))), .val (.int ((p2 &&& (2147483647 : Int32)) - ((p2 &&& (2147483647 : Int32)) / (5 : Int32)) * (5 : Int32))), .val (.ref (own_c ((p1 &&& (2147483647 : Int32)) - ((p1 &&& (2147483647 : Int32)) / (4 : Int32)) * (4 : Int32)) wPUBLIC wPRIVATE wFINAL wABSTRACT)), .unset, .unset, .unset] [(.int (1 : Int32)), (.int ((p2 &&& (2147483647 : Int32)) - ((p2 &&& (2147483647 : Int32)) / (5 : Int32)) * (5 : Int32)))])) _
    refine XS.isub X3.here hx rfl (hb hby at_30) rfl ?_
    show Steps p.tables e below (T3.setTop (mkF m 31 #[.val (.int p1), .val (.int p2), .val (.int ((p1 &&& (2147483647 : Int32)) - ((p1 &&& (2147483647 : Int32)) / (4 : Int32)) * (4 : Int32))), .val (.int ((p2 &&& (2147483647 : Int32)) - ((p2 &&& (2147483647 : Int32)) / (5 : Int32)) * (5 : Int32))), .val (.ref (own_c ((p1 &&& (2147483647 : Int32)) - ((p1 &&& (2147483647 : Int32)) / (4 : Int32)) * (4 : Int32)) wPUBLIC wPRIVATE wFINAL wABSTRACT)), .unset, .unset, .unset] [(.int (((p2 &&& (2147483647 : Int32)) - ((p2 &&& (2147483647 : Int32)) / (5 : Int32)) * (5 : Int32)) - (1 : Int32)))])) _
    refine st4 _ ?_
    show Steps p.tables e below (T4.setTop (mkF m 34 #[.val (.int p1), .val (.int p2), .val (.int ((p1 &&& (2147483647 : Int32)) - ((p1 &&& (2147483647 : Int32)) / (4 : Int32)) * (4 : Int32))), .val (.int ((p2 &&& (2147483647 : Int32)) - ((p2 &&& (2147483647 : Int32)) / (5 : Int32)) * (5 : Int32))), .val (.ref (own_c ((p1 &&& (2147483647 : Int32)) - ((p1 &&& (2147483647 : Int32)) / (4 : Int32)) * (4 : Int32)) wPUBLIC wPRIVATE wFINAL wABSTRACT)), .unset, .unset, .unset] [(.ref (own_c (((p2 &&& (2147483647 : Int32)) - ((p2 &&& (2147483647 : Int32)) / (5 : Int32)) * (5 : Int32)) - (1 : Int32)) wPUBLIC wPRIVATE wFINAL wABSTRACT))])) _
    refine XS.astore X4.here hx rfl (hb hby at_34) rfl rfl (l' := #[.val (.int p1), .val (.int p2), .val (.int ((p1 &&& (2147483647 : Int32)) - ((p1 &&& (2147483647 : Int32)) / (4 : Int32)) * (4 : Int32))), .val (.int ((p2 &&& (2147483647 : Int32)) - ((p2 &&& (2147483647 : Int32)) / (5 : Int32)) * (5 : Int32))), .val (.ref (own_c ((p1 &&& (2147483647 : Int32)) - ((p1 &&& (2147483647 : Int32)) / (4 : Int32)) * (4 : Int32)) wPUBLIC wPRIVATE wFINAL wABSTRACT)), .val (.ref (own_c (((p2 &&& (2147483647 : Int32)) - ((p2 &&& (2147483647 : Int32)) / (5 : Int32)) * (5 : Int32)) - (1 : Int32)) wPUBLIC wPRIVATE wFINAL wABSTRACT)), .unset, .unset]) rfl ?_
    show Steps p.tables e below (T4.setTop (mkF m 36 #[.val (.int p1), .val (.int p2), .val (.int ((p1 &&& (2147483647 : Int32)) - ((p1 &&& (2147483647 : Int32)) / (4 : Int32)) * (4 : Int32))), .val (.int ((p2 &&& (2147483647 : Int32)) - ((p2 &&& (2147483647 : Int32)) / (5 : Int32)) * (5 : Int32))), .val (.ref (own_c ((p1 &&& (2147483647 : Int32)) - ((p1 &&& (2147483647 : Int32)) / (4 : Int32)) * (4 : Int32)) wPUBLIC wPRIVATE wFINAL wABSTRACT)), .val (.ref (own_c (((p2 &&& (2147483647 : Int32)) - ((p2 &&& (2147483647 : Int32)) / (5 : Int32)) * (5 : Int32)) - (1 : Int32)) wPUBLIC wPRIVATE wFINAL wABSTRACT)), .unset, .unset] [])) _
    refine XS.iconst X4.here hx rfl (hb hby at_36) ?_
    show Steps p.tables e below (T4.setTop (mkF m 37 #[.val (.int p1), .val (.int p2), .val (.int ((p1 &&& (2147483647 : Int32)) - ((p1 &&& (2147483647 : Int32)) / (4 : Int32)) * (4 : Int32))), .val (.int ((p2 &&& (2147483647 : Int32)) - ((p2 &&& (2147483647 : Int32)) / (5 : Int32)) * (5 : Int32))), .val (.ref (own_c ((p1 &&& (2147483647 : Int32)) - ((p1 &&& (2147483647 : Int32)) / (4 : Int32)) * (4 : Int32)) wPUBLIC wPRIVATE wFINAL wABSTRACT)), .val (.ref (own_c (((p2 &&& (2147483647 : Int32)) - ((p2 &&& (2147483647 : Int32)) / (5 : Int32)) * (5 : Int32)) - (1 : Int32)) wPUBLIC wPRIVATE wFINAL wABSTRACT)), .unset, .unset] [(.int (5 : Int32))])) _
    refine st5 _ ?_
    show Steps p.tables e below (T5.setTop (mkF m 39 #[.val (.int p1), .val (.int p2), .val (.int ((p1 &&& (2147483647 : Int32)) - ((p1 &&& (2147483647 : Int32)) / (4 : Int32)) * (4 : Int32))), .val (.int ((p2 &&& (2147483647 : Int32)) - ((p2 &&& (2147483647 : Int32)) / (5 : Int32)) * (5 : Int32))), .val (.ref (own_c ((p1 &&& (2147483647 : Int32)) - ((p1 &&& (2147483647 : Int32)) / (4 : Int32)) * (4 : Int32)) wPUBLIC wPRIVATE wFINAL wABSTRACT)), .val (.ref (own_c (((p2 &&& (2147483647 : Int32)) - ((p2 &&& (2147483647 : Int32)) / (5 : Int32)) * (5 : Int32)) - (1 : Int32)) wPUBLIC wPRIVATE wFINAL wABSTRACT)), .unset, .unset] [(.ref b5)])) _
    refine XS.dup X5.here hx rfl (hb hby at_39) rfl rfl ?_
    show Steps p.tables e below (T5.setTop (mkF m 40 #[.val (.int p1), .val (.int p2), .val (.int ((p1 &&& (2147483647 : Int32)) - ((p1 &&& (2147483647 : Int32)) / (4 : Int32)) * (4 : Int32))), .val (.int ((p2 &&& (2147483647 : Int32)) - ((p2 &&& (2147483647 : Int32)) / (5 : Int32)) * (5 : Int32))), .val (.ref (own_c ((p1 &&& (2147483647 : Int32)) - ((p1 &&& (2147483647 : Int32)) / (4 : Int32)) * (4 : Int32)) wPUBLIC wPRIVATE wFINAL wABSTRACT)), .val (.ref (own_c (((p2 &&& (2147483647 : Int32)) - ((p2 &&& (2147483647 : Int32)) / (5 : Int32)) * (5 : Int32)) - (1 : Int32)) wPUBLIC wPRIVATE wFINAL wABSTRACT)), .unset, .unset] [(.ref b5), (.ref b5)])) _
    refine XS.iconst X5.here hx rfl (hb hby at_40) ?_
    show Steps p.tables e below (T5.setTop (mkF m 41 #[.val (.int p1), .val (.int p2), .val (.int ((p1 &&& (2147483647 : Int32)) - ((p1 &&& (2147483647 : Int32)) / (4 : Int32)) * (4 : Int32))), .val (.int ((p2 &&& (2147483647 : Int32)) - ((p2 &&& (2147483647 : Int32)) / (5 : Int32)) * (5 : Int32))), .val (.ref (own_c ((p1 &&& (2147483647 : Int32)) - ((p1 &&& (2147483647 : Int32)) / (4 : Int32)) * (4 : Int32)) wPUBLIC wPRIVATE wFINAL wABSTRACT)), .val (.ref (own_c (((p2 &&& (2147483647 : Int32)) - ((p2 &&& (2147483647 : Int32)) / (5 : Int32)) * (5 : Int32)) - (1 : Int32)) wPUBLIC wPRIVATE wFINAL wABSTRACT)), .unset, .unset] [(.int (0 : Int32)), (.ref b5), (.ref b5)])) _
    refine XS.bipush X5.here hx rfl (hb hby at_41) ?_
    show Steps p.tables e below (T5.setTop (mkF m 43 #[.val (.int p1), .val (.int p2), .val (.int ((p1 &&& (2147483647 : Int32)) - ((p1 &&& (2147483647 : Int32)) / (4 : Int32)) * (4 : Int32))), .val (.int ((p2 &&& (2147483647 : Int32)) - ((p2 &&& (2147483647 : Int32)) / (5 : Int32)) * (5 : Int32))), .val (.ref (own_c ((p1 &&& (2147483647 : Int32)) - ((p1 &&& (2147483647 : Int32)) / (4 : Int32)) * (4 : Int32)) wPUBLIC wPRIVATE wFINAL wABSTRACT)), .val (.ref (own_c (((p2 &&& (2147483647 : Int32)) - ((p2 &&& (2147483647 : Int32)) / (5 : Int32)) * (5 : Int32)) - (1 : Int32)) wPUBLIC wPRIVATE wFINAL wABSTRACT)), .unset, .unset] [(.int (7 : Int32)), (.int (0 : Int32)), (.ref b5), (.ref b5)])) _
    refine st6 _ ?_
    show Steps p.tables e below (T6.setTop (mkF m 44 #[.val (.int p1), .val (.int p2), .val (.int ((p1 &&& (2147483647 : Int32)) - ((p1 &&& (2147483647 : Int32)) / (4 : Int32)) * (4 : Int32))), .val (.int ((p2 &&& (2147483647 : Int32)) - ((p2 &&& (2147483647 : Int32)) / (5 : Int32)) * (5 : Int32))), .val (.ref (own_c ((p1 &&& (2147483647 : Int32)) - ((p1 &&& (2147483647 : Int32)) / (4 : Int32)) * (4 : Int32)) wPUBLIC wPRIVATE wFINAL wABSTRACT)), .val (.ref (own_c (((p2 &&& (2147483647 : Int32)) - ((p2 &&& (2147483647 : Int32)) / (5 : Int32)) * (5 : Int32)) - (1 : Int32)) wPUBLIC wPRIVATE wFINAL wABSTRACT)), .unset, .unset] [(.ref b5)])) _
    refine XS.dup X6.here hx rfl (hb hby at_44) rfl rfl ?_
    show Steps p.tables e below (T6.setTop (mkF m 45 #[.val (.int p1), .val (.int p2), .val (.int ((p1 &&& (2147483647 : Int32)) - ((p1 &&& (2147483647 : Int32)) / (4 : Int32)) * (4 : Int32))), .val (.int ((p2 &&& (2147483647 : Int32)) - ((p2 &&& (2147483647 : Int32)) / (5 : Int32)) * (5 : Int32))), .val (.ref (own_c ((p1 &&& (2147483647 : Int32)) - ((p1 &&& (2147483647 : Int32)) / (4 : Int32)) * (4 : Int32)) wPUBLIC wPRIVATE wFINAL wABSTRACT)), .val (.ref (own_c (((p2 &&& (2147483647 : Int32)) - ((p2 &&& (2147483647 : Int32)) / (5 : Int32)) * (5 : Int32)) - (1 : Int32)) wPUBLIC wPRIVATE wFINAL wABSTRACT)), .unset, .unset] [(.ref b5), (.ref b5)])) _
    refine XS.iconst X6.here hx rfl (hb hby at_45) ?_
    show Steps p.tables e below (T6.setTop (mkF m 46 #[.val (.int p1), .val (.int p2), .val (.int ((p1 &&& (2147483647 : Int32)) - ((p1 &&& (2147483647 : Int32)) / (4 : Int32)) * (4 : Int32))), .val (.int ((p2 &&& (2147483647 : Int32)) - ((p2 &&& (2147483647 : Int32)) / (5 : Int32)) * (5 : Int32))), .val (.ref (own_c ((p1 &&& (2147483647 : Int32)) - ((p1 &&& (2147483647 : Int32)) / (4 : Int32)) * (4 : Int32)) wPUBLIC wPRIVATE wFINAL wABSTRACT)), .val (.ref (own_c (((p2 &&& (2147483647 : Int32)) - ((p2 &&& (2147483647 : Int32)) / (5 : Int32)) * (5 : Int32)) - (1 : Int32)) wPUBLIC wPRIVATE wFINAL wABSTRACT)), .unset, .unset] [(.int (1 : Int32)), (.ref b5), (.ref b5)])) _
    refine XS.bipush X6.here hx rfl (hb hby at_46) ?_
    show Steps p.tables e below (T6.setTop (mkF m 48 #[.val (.int p1), .val (.int p2), .val (.int ((p1 &&& (2147483647 : Int32)) - ((p1 &&& (2147483647 : Int32)) / (4 : Int32)) * (4 : Int32))), .val (.int ((p2 &&& (2147483647 : Int32)) - ((p2 &&& (2147483647 : Int32)) / (5 : Int32)) * (5 : Int32))), .val (.ref (own_c ((p1 &&& (2147483647 : Int32)) - ((p1 &&& (2147483647 : Int32)) / (4 : Int32)) * (4 : Int32)) wPUBLIC wPRIVATE wFINAL wABSTRACT)), .val (.ref (own_c (((p2 &&& (2147483647 : Int32)) - ((p2 &&& (2147483647 : Int32)) / (5 : Int32)) * (5 : Int32)) - (1 : Int32)) wPUBLIC wPRIVATE wFINAL wABSTRACT)), .unset, .unset] [(.int (7 : Int32)), (.int (1 : Int32)), (.ref b5), (.ref b5)])) _
    refine st7 _ ?_
    show Steps p.tables e below (T7.setTop (mkF m 49 #[.val (.int p1), .val (.int p2), .val (.int ((p1 &&& (2147483647 : Int32)) - ((p1 &&& (2147483647 : Int32)) / (4 : Int32)) * (4 : Int32))), .val (.int ((p2 &&& (2147483647 : Int32)) - ((p2 &&& (2147483647 : Int32)) / (5 : Int32)) * (5 : Int32))), .val (.ref (own_c ((p1 &&& (2147483647 : Int32)) - ((p1 &&& (2147483647 : Int32)) / (4 : Int32)) * (4 : Int32)) wPUBLIC wPRIVATE wFINAL wABSTRACT)), .val (.ref (own_c (((p2 &&& (2147483647 : Int32)) - ((p2 &&& (2147483647 : Int32)) / (5 : Int32)) * (5 : Int32)) - (1 : Int32)) wPUBLIC wPRIVATE wFINAL wABSTRACT)), .unset, .unset] [(.ref b5)])) _
    refine XS.dup X7.here hx rfl (hb hby at_49) rfl rfl ?_
    show Steps p.tables e below (T7.setTop (mkF m 50 #[.val (.int p1), .val (.int p2), .val (.int ((p1 &&& (2147483647 : Int32)) - ((p1 &&& (2147483647 : Int32)) / (4 : Int32)) * (4 : Int32))), .val (.int ((p2 &&& (2147483647 : Int32)) - ((p2 &&& (2147483647 : Int32)) / (5 : Int32)) * (5 : Int32))), .val (.ref (own_c ((p1 &&& (2147483647 : Int32)) - ((p1 &&& (2147483647 : Int32)) / (4 : Int32)) * (4 : Int32)) wPUBLIC wPRIVATE wFINAL wABSTRACT)), .val (.ref (own_c (((p2 &&& (2147483647 : Int32)) - ((p2 &&& (2147483647 : Int32)) / (5 : Int32)) * (5 : Int32)) - (1 : Int32)) wPUBLIC wPRIVATE wFINAL wABSTRACT)), .unset, .unset] [(.ref b5), (.ref b5)])) _
    refine XS.iconst X7.here hx rfl (hb hby at_50) ?_
    show Steps p.tables e below (T7.setTop (mkF m 51 #[.val (.int p1), .val (.int p2), .val (.int ((p1 &&& (2147483647 : Int32)) - ((p1 &&& (2147483647 : Int32)) / (4 : Int32)) * (4 : Int32))), .val (.int ((p2 &&& (2147483647 : Int32)) - ((p2 &&& (2147483647 : Int32)) / (5 : Int32)) * (5 : Int32))), .val (.ref (own_c ((p1 &&& (2147483647 : Int32)) - ((p1 &&& (2147483647 : Int32)) / (4 : Int32)) * (4 : Int32)) wPUBLIC wPRIVATE wFINAL wABSTRACT)), .val (.ref (own_c (((p2 &&& (2147483647 : Int32)) - ((p2 &&& (2147483647 : Int32)) / (5 : Int32)) * (5 : Int32)) - (1 : Int32)) wPUBLIC wPRIVATE wFINAL wABSTRACT)), .unset, .unset] [(.int (2 : Int32)), (.ref b5), (.ref b5)])) _
    refine XS.iconst X7.here hx rfl (hb hby at_51) ?_
    show Steps p.tables e below (T7.setTop (mkF m 52 #[.val (.int p1), .val (.int p2), .val (.int ((p1 &&& (2147483647 : Int32)) - ((p1 &&& (2147483647 : Int32)) / (4 : Int32)) * (4 : Int32))), .val (.int ((p2 &&& (2147483647 : Int32)) - ((p2 &&& (2147483647 : Int32)) / (5 : Int32)) * (5 : Int32))), .val (.ref (own_c ((p1 &&& (2147483647 : Int32)) - ((p1 &&& (2147483647 : Int32)) / (4 : Int32)) * (4 : Int32)) wPUBLIC wPRIVATE wFINAL wABSTRACT)), .val (.ref (own_c (((p2 &&& (2147483647 : Int32)) - ((p2 &&& (2147483647 : Int32)) / (5 : Int32)) * (5 : Int32)) - (1 : Int32)) wPUBLIC wPRIVATE wFINAL wABSTRACT)), .unset, .unset] [(.int (2 : Int32)), (.int (2 : Int32)), (.ref b5), (.ref b5)])) _
    refine st8 _ ?_
    show Steps p.tables e below (T8.setTop (mkF m 53 #[.val (.int p1), .val (.int p2), .val (.int ((p1 &&& (2147483647 : Int32)) - ((p1 &&& (2147483647 : Int32)) / (4 : Int32)) * (4 : Int32))), .val (.int ((p2 &&& (2147483647 : Int32)) - ((p2 &&& (2147483647 : Int32)) / (5 : Int32)) * (5 : Int32))), .val (.ref (own_c ((p1 &&& (2147483647 : Int32)) - ((p1 &&& (2147483647 : Int32)) / (4 : Int32)) * (4 : Int32)) wPUBLIC wPRIVATE wFINAL wABSTRACT)), .val (.ref (own_c (((p2 &&& (2147483647 : Int32)) - ((p2 &&& (2147483647 : Int32)) / (5 : Int32)) * (5 : Int32)) - (1 : Int32)) wPUBLIC wPRIVATE wFINAL wABSTRACT)), .unset, .unset] [(.ref b5)])) _
    refine XS.dup X8.here hx rfl (hb hby at_53) rfl rfl ?_
    show Steps p.tables e below (T8.setTop (mkF m 54 #[.val (.int p1), .val (.int p2), .val (.int ((p1 &&& (2147483647 : Int32)) - ((p1 &&& (2147483647 : Int32)) / (4 : Int32)) * (4 : Int32))), .val (.int ((p2 &&& (2147483647 : Int32)) - ((p2 &&& (2147483647 : Int32)) / (5 : Int32)) * (5 : Int32))), .val (.ref (own_c ((p1 &&& (2147483647 : Int32)) - ((p1 &&& (2147483647 : Int32)) / (4 : Int32)) * (4 : Int32)) wPUBLIC wPRIVATE wFINAL wABSTRACT)), .val (.ref (own_c (((p2 &&& (2147483647 : Int32)) - ((p2 &&& (2147483647 : Int32)) / (5 : Int32)) * (5 : Int32)) - (1 : Int32)) wPUBLIC wPRIVATE wFINAL wABSTRACT)), .unset, .unset] [(.ref b5), (.ref b5)])) _
    refine XS.iconst X8.here hx rfl (hb hby at_54) ?_
    show Steps p.tables e below (T8.setTop (mkF m 55 #[.val (.int p1), .val (.int p2), .val (.int ((p1 &&& (2147483647 : Int32)) - ((p1 &&& (2147483647 : Int32)) / (4 : Int32)) * (4 : Int32))), .val (.int ((p2 &&& (2147483647 : Int32)) - ((p2 &&& (2147483647 : Int32)) / (5 : Int32)) * (5 : Int32))), .val (.ref (own_c ((p1 &&& (2147483647 : Int32)) - ((p1 &&& (2147483647 : Int32)) / (4 : Int32)) * (4 : Int32)) wPUBLIC wPRIVATE wFINAL wABSTRACT)), .val (.ref (own_c (((p2 &&& (2147483647 : Int32)) - ((p2 &&& (2147483647 : Int32)) / (5 : Int32)) * (5 : Int32)) - (1 : Int32)) wPUBLIC wPRIVATE wFINAL wABSTRACT)), .unset, .unset] [(.int (3 : Int32)), (.ref b5), (.ref b5)])) _
    refine XS.bipush X8.here hx rfl (hb hby at_55) ?_
    show Steps p.tables e below (T8.setTop (mkF m 57 #[.val (.int p1), .val (.int p2), .val (.int ((p1 &&& (2147483647 : Int32)) - ((p1 &&& (2147483647 : Int32)) / (4 : Int32)) * (4 : Int32))), .val (.int ((p2 &&& (2147483647 : Int32)) - ((p2 &&& (2147483647 : Int32)) / (5 : Int32)) * (5 : Int32))), .val (.ref (own_c ((p1 &&& (2147483647 : Int32)) - ((p1 &&& (2147483647 : Int32)) / (4 : Int32)) * (4 : Int32)) wPUBLIC wPRIVATE wFINAL wABSTRACT)), .val (.ref (own_c (((p2 &&& (2147483647 : Int32)) - ((p2 &&& (2147483647 : Int32)) / (5 : Int32)) * (5 : Int32)) - (1 : Int32)) wPUBLIC wPRIVATE wFINAL wABSTRACT)), .unset, .unset] [(.int (6 : Int32)), (.int (3 : Int32)), (.ref b5), (.ref b5)])) _
    refine st9 _ ?_
    show Steps p.tables e below (T9.setTop (mkF m 58 #[.val (.int p1), .val (.int p2), .val (.int ((p1 &&& (2147483647 : Int32)) - ((p1 &&& (2147483647 : Int32)) / (4 : Int32)) * (4 : Int32))), .val (.int ((p2 &&& (2147483647 : Int32)) - ((p2 &&& (2147483647 : Int32)) / (5 : Int32)) * (5 : Int32))), .val (.ref (own_c ((p1 &&& (2147483647 : Int32)) - ((p1 &&& (2147483647 : Int32)) / (4 : Int32)) * (4 : Int32)) wPUBLIC wPRIVATE wFINAL wABSTRACT)), .val (.ref (own_c (((p2 &&& (2147483647 : Int32)) - ((p2 &&& (2147483647 : Int32)) / (5 : Int32)) * (5 : Int32)) - (1 : Int32)) wPUBLIC wPRIVATE wFINAL wABSTRACT)), .unset, .unset] [(.ref b5)])) _
    refine XS.dup X9.here hx rfl (hb hby at_58) rfl rfl ?_
    show Steps p.tables e below (T9.setTop (mkF m 59 #[.val (.int p1), .val (.int p2), .val (.int ((p1 &&& (2147483647 : Int32)) - ((p1 &&& (2147483647 : Int32)) / (4 : Int32)) * (4 : Int32))), .val (.int ((p2 &&& (2147483647 : Int32)) - ((p2 &&& (2147483647 : Int32)) / (5 : Int32)) * (5 : Int32))), .val (.ref (own_c ((p1 &&& (2147483647 : Int32)) - ((p1 &&& (2147483647 : Int32)) / (4 : Int32)) * (4 : Int32)) wPUBLIC wPRIVATE wFINAL wABSTRACT)), .val (.ref (own_c (((p2 &&& (2147483647 : Int32)) - ((p2 &&& (2147483647 : Int32)) / (5 : Int32)) * (5 : Int32)) - (1 : Int32)) wPUBLIC wPRIVATE wFINAL wABSTRACT)), .unset, .unset] [(.ref b5), (.ref b5)])) _
    refine XS.iconst X9.here hx rfl (hb hby at_59) ?_
    show Steps p.tables e below (T9.setTop (mkF m 60 #[.val (.int p1), .val (.int p2), .val (.int ((p1 &&& (2147483647 : Int32)) - ((p1 &&& (2147483647 : Int32)) / (4 : Int32)) * (4 : Int32))), .val (.int ((p2 &&& (2147483647 : Int32)) - ((p2 &&& (2147483647 : Int32)) / (5 : Int32)) * (5 : Int32))), .val (.ref (own_c ((p1 &&& (2147483647 : Int32)) - ((p1 &&& (2147483647 : Int32)) / (4 : Int32)) * (4 : Int32)) wPUBLIC wPRIVATE wFINAL wABSTRACT)), .val (.ref (own_c (((p2 &&& (2147483647 : Int32)) - ((p2 &&& (2147483647 : Int32)) / (5 : Int32)) * (5 : Int32)) - (1 : Int32)) wPUBLIC wPRIVATE wFINAL wABSTRACT)), .unset, .unset] [(.int (4 : Int32)), (.ref b5), (.ref b5)])) _
    refine XS.bipush X9.here hx rfl (hb hby at_60) ?_
    show Steps p.tables e below (T9.setTop (mkF m 62 #[.val (.int p1), .val (.int p2), .val (.int ((p1 &&& (2147483647 : Int32)) - ((p1 &&& (2147483647 : Int32)) / (4 : Int32)) * (4 : Int32))), .val (.int ((p2 &&& (2147483647 : Int32)) - ((p2 &&& (2147483647 : Int32)) / (5 : Int32)) * (5 : Int32))), .val (.ref (own_c ((p1 &&& (2147483647 : Int32)) - ((p1 &&& (2147483647 : Int32)) / (4 : Int32)) * (4 : Int32)) wPUBLIC wPRIVATE wFINAL wABSTRACT)), .val (.ref (own_c (((p2 &&& (2147483647 : Int32)) - ((p2 &&& (2147483647 : Int32)) / (5 : Int32)) * (5 : Int32)) - (1 : Int32)) wPUBLIC wPRIVATE wFINAL wABSTRACT)), .unset, .unset] [(.int (8 : Int32)), (.int (4 : Int32)), (.ref b5), (.ref b5)])) _
    refine st10 _ ?_
    show Steps p.tables e below (T10.setTop (mkF m 63 #[.val (.int p1), .val (.int p2), .val (.int ((p1 &&& (2147483647 : Int32)) - ((p1 &&& (2147483647 : Int32)) / (4 : Int32)) * (4 : Int32))), .val (.int ((p2 &&& (2147483647 : Int32)) - ((p2 &&& (2147483647 : Int32)) / (5 : Int32)) * (5 : Int32))), .val (.ref (own_c ((p1 &&& (2147483647 : Int32)) - ((p1 &&& (2147483647 : Int32)) / (4 : Int32)) * (4 : Int32)) wPUBLIC wPRIVATE wFINAL wABSTRACT)), .val (.ref (own_c (((p2 &&& (2147483647 : Int32)) - ((p2 &&& (2147483647 : Int32)) / (5 : Int32)) * (5 : Int32)) - (1 : Int32)) wPUBLIC wPRIVATE wFINAL wABSTRACT)), .unset, .unset] [(.ref b5)])) _
    refine XS.astore X10.here hx rfl (hb hby at_63) rfl rfl (l' := #[.val (.int p1), .val (.int p2), .val (.int ((p1 &&& (2147483647 : Int32)) - ((p1 &&& (2147483647 : Int32)) / (4 : Int32)) * (4 : Int32))), .val (.int ((p2 &&& (2147483647 : Int32)) - ((p2 &&& (2147483647 : Int32)) / (5 : Int32)) * (5 : Int32))), .val (.ref (own_c ((p1 &&& (2147483647 : Int32)) - ((p1 &&& (2147483647 : Int32)) / (4 : Int32)) * (4 : Int32)) wPUBLIC wPRIVATE wFINAL wABSTRACT)), .val (.ref (own_c (((p2 &&& (2147483647 : Int32)) - ((p2 &&& (2147483647 : Int32)) / (5 : Int32)) * (5 : Int32)) - (1 : Int32)) wPUBLIC wPRIVATE wFINAL wABSTRACT)), .val (.ref b5), .unset]) rfl ?_
    show Steps p.tables e below (T10.setTop (mkF m 65 #[.val (.int p1), .val (.int p2), .val (.int ((p1 &&& (2147483647 : Int32)) - ((p1 &&& (2147483647 : Int32)) / (4 : Int32)) * (4 : Int32))), .val (.int ((p2 &&& (2147483647 : Int32)) - ((p2 &&& (2147483647 : Int32)) / (5 : Int32)) * (5 : Int32))), .val (.ref (own_c ((p1 &&& (2147483647 : Int32)) - ((p1 &&& (2147483647 : Int32)) / (4 : Int32)) * (4 : Int32)) wPUBLIC wPRIVATE wFINAL wABSTRACT)), .val (.ref (own_c (((p2 &&& (2147483647 : Int32)) - ((p2 &&& (2147483647 : Int32)) / (5 : Int32)) * (5 : Int32)) - (1 : Int32)) wPUBLIC wPRIVATE wFINAL wABSTRACT)), .val (.ref b5), .unset] [])) _
    refine XS.aload X10.here hx rfl (hb hby at_65) rfl rfl ?_
    show Steps p.tables e below (T10.setTop (mkF m 67 #[.val (.int p1), .val (.int p2), .val (.int ((p1 &&& (2147483647 : Int32)) - ((p1 &&& (2147483647 : Int32)) / (4 : Int32)) * (4 : Int32))), .val (.int ((p2 &&& (2147483647 : Int32)) - ((p2 &&& (2147483647 : Int32)) / (5 : Int32)) * (5 : Int32))), .val (.ref (own_c ((p1 &&& (2147483647 : Int32)) - ((p1 &&& (2147483647 : Int32)) / (4 : Int32)) * (4 : Int32)) wPUBLIC wPRIVATE wFINAL wABSTRACT)), .val (.ref (own_c (((p2 &&& (2147483647 : Int32)) - ((p2 &&& (2147483647 : Int32)) / (5 : Int32)) * (5 : Int32)) - (1 : Int32)) wPUBLIC wPRIVATE wFINAL wABSTRACT)), .val (.ref b5), .unset] [(.ref b5)])) _
    refine XS.iloadN X10.here hx rfl (hb hby at_67) rfl ?_
    show Steps p.tables e below (T10.setTop (mkF m 68 #[.val (.int p1), .val (.int p2), .val (.int ((p1 &&& (2147483647 : Int32)) - ((p1 &&& (2147483647 : Int32)) / (4 : Int32)) * (4 : Int32))), .val (.int ((p2 &&& (2147483647 : Int32)) - ((p2 &&& (2147483647 : Int32)) / (5 : Int32)) * (5 : Int32))), .val (.ref (own_c ((p1 &&& (2147483647 : Int32)) - ((p1 &&& (2147483647 : Int32)) / (4 : Int32)) * (4 : Int32)) wPUBLIC wPRIVATE wFINAL wABSTRACT)), .val (.ref (own_c (((p2 &&& (2147483647 : Int32)) - ((p2 &&& (2147483647 : Int32)) / (5 : Int32)) * (5 : Int32)) - (1 : Int32)) wPUBLIC wPRIVATE wFINAL wABSTRACT)), .val (.ref b5), .unset] [(.int ((p2 &&& (2147483647 : Int32)) - ((p2 &&& (2147483647 : Int32)) / (5 : Int32)) * (5 : Int32))), (.ref b5)])) _
    refine X10.iaload hx (j := ((p2 &&& (2147483647 : Int32)) - ((p2 &&& (2147483647 : Int32)) / (5 : Int32)) * (5 : Int32))) (v := (.int w11)) (by rw [e10]; exact Ar_b5.1) (State.isArrayOf_alike hZ.alike Ar_b5.2.1) Ar_b5.2.2 hin68 hat68 (g := (mkF m 68 #[.val (.int p1), .val (.int p2), .val (.int ((p1 &&& (2147483647 : Int32)) - ((p1 &&& (2147483647 : Int32)) / (4 : Int32)) * (4 : Int32))), .val (.int ((p2 &&& (2147483647 : Int32)) - ((p2 &&& (2147483647 : Int32)) / (5 : Int32)) * (5 : Int32))), .val (.ref (own_c ((p1 &&& (2147483647 : Int32)) - ((p1 &&& (2147483647 : Int32)) / (4 : Int32)) * (4 : Int32)) wPUBLIC wPRIVATE wFINAL wABSTRACT)), .val (.ref (own_c (((p2 &&& (2147483647 : Int32)) - ((p2 &&& (2147483647 : Int32)) / (5 : Int32)) * (5 : Int32)) - (1 : Int32)) wPUBLIC wPRIVATE wFINAL wABSTRACT)), .val (.ref b5), .unset] [(.int ((p2 &&& (2147483647 : Int32)) - ((p2 &&& (2147483647 : Int32)) / (5 : Int32)) * (5 : Int32))), (.ref b5)])) rfl rfl (hb hby at_68) _ ?_
    show Steps p.tables e below (T10.setTop (mkF m 69 #[.val (.int p1), .val (.int p2), .val (.int ((p1 &&& (2147483647 : Int32)) - ((p1 &&& (2147483647 : Int32)) / (4 : Int32)) * (4 : Int32))), .val (.int ((p2 &&& (2147483647 : Int32)) - ((p2 &&& (2147483647 : Int32)) / (5 : Int32)) * (5 : Int32))), .val (.ref (own_c ((p1 &&& (2147483647 : Int32)) - ((p1 &&& (2147483647 : Int32)) / (4 : Int32)) * (4 : Int32)) wPUBLIC wPRIVATE wFINAL wABSTRACT)), .val (.ref (own_c (((p2 &&& (2147483647 : Int32)) - ((p2 &&& (2147483647 : Int32)) / (5 : Int32)) * (5 : Int32)) - (1 : Int32)) wPUBLIC wPRIVATE wFINAL wABSTRACT)), .val (.ref b5), .unset] [(.int w11)])) _
    refine XS.iloadN X10.here hx rfl (hb hby at_69) rfl ?_
    show Steps p.tables e below (T10.setTop (mkF m 70 #[.val (.int p1), .val (.int p2), .val (.int ((p1 &&& (2147483647 : Int32)) - ((p1 &&& (2147483647 : Int32)) / (4 : Int32)) * (4 : Int32))), .val (.int ((p2 &&& (2147483647 : Int32)) - ((p2 &&& (2147483647 : Int32)) / (5 : Int32)) * (5 : Int32))), .val (.ref (own_c ((p1 &&& (2147483647 : Int32)) - ((p1 &&& (2147483647 : Int32)) / (4 : Int32)) * (4 : Int32)) wPUBLIC wPRIVATE wFINAL wABSTRACT)), .val (.ref (own_c (((p2 &&& (2147483647 : Int32)) - ((p2 &&& (2147483647 : Int32)) / (5 : Int32)) * (5 : Int32)) - (1 : Int32)) wPUBLIC wPRIVATE wFINAL wABSTRACT)), .val (.ref b5), .unset] [(.int ((p1 &&& (2147483647 : Int32)) - ((p1 &&& (2147483647 : Int32)) / (4 : Int32)) * (4 : Int32))), (.int w11)])) _
    refine XS.ishr X10.here hx rfl (hb hby at_70) rfl ?_
    show Steps p.tables e below (T10.setTop (mkF m 71 #[.val (.int p1), .val (.int p2), .val (.int ((p1 &&& (2147483647 : Int32)) - ((p1 &&& (2147483647 : Int32)) / (4 : Int32)) * (4 : Int32))), .val (.int ((p2 &&& (2147483647 : Int32)) - ((p2 &&& (2147483647 : Int32)) / (5 : Int32)) * (5 : Int32))), .val (.ref (own_c ((p1 &&& (2147483647 : Int32)) - ((p1 &&& (2147483647 : Int32)) / (4 : Int32)) * (4 : Int32)) wPUBLIC wPRIVATE wFINAL wABSTRACT)), .val (.ref (own_c (((p2 &&& (2147483647 : Int32)) - ((p2 &&& (2147483647 : Int32)) / (5 : Int32)) * (5 : Int32)) - (1 : Int32)) wPUBLIC wPRIVATE wFINAL wABSTRACT)), .val (.ref b5), .unset] [(.int (w11 >>> (((p1 &&& (2147483647 : Int32)) - ((p1 &&& (2147483647 : Int32)) / (4 : Int32)) * (4 : Int32)) &&& 31)))])) _
    refine XS.iconst X10.here hx rfl (hb hby at_71) ?_
    show Steps p.tables e below (T10.setTop (mkF m 72 #[.val (.int p1), .val (.int p2), .val (.int ((p1 &&& (2147483647 : Int32)) - ((p1 &&& (2147483647 : Int32)) / (4 : Int32)) * (4 : Int32))), .val (.int ((p2 &&& (2147483647 : Int32)) - ((p2 &&& (2147483647 : Int32)) / (5 : Int32)) * (5 : Int32))), .val (.ref (own_c ((p1 &&& (2147483647 : Int32)) - ((p1 &&& (2147483647 : Int32)) / (4 : Int32)) * (4 : Int32)) wPUBLIC wPRIVATE wFINAL wABSTRACT)), .val (.ref (own_c (((p2 &&& (2147483647 : Int32)) - ((p2 &&& (2147483647 : Int32)) / (5 : Int32)) * (5 : Int32)) - (1 : Int32)) wPUBLIC wPRIVATE wFINAL wABSTRACT)), .val (.ref b5), .unset] [(.int (1 : Int32)), (.int (w11 >>> (((p1 &&& (2147483647 : Int32)) - ((p1 &&& (2147483647 : Int32)) / (4 : Int32)) * (4 : Int32)) &&& 31)))])) _
    refine XS.iand X10.here hx rfl (hb hby at_72) rfl ?_
    show Steps p.tables e below (T10.setTop (mkF m 73 #[.val (.int p1), .val (.int p2), .val (.int ((p1 &&& (2147483647 : Int32)) - ((p1 &&& (2147483647 : Int32)) / (4 : Int32)) * (4 : Int32))), .val (.int ((p2 &&& (2147483647 : Int32)) - ((p2 &&& (2147483647 : Int32)) / (5 : Int32)) * (5 : Int32))), .val (.ref (own_c ((p1 &&& (2147483647 : Int32)) - ((p1 &&& (2147483647 : Int32)) / (4 : Int32)) * (4 : Int32)) wPUBLIC wPRIVATE wFINAL wABSTRACT)), .val (.ref (own_c (((p2 &&& (2147483647 : Int32)) - ((p2 &&& (2147483647 : Int32)) / (5 : Int32)) * (5 : Int32)) - (1 : Int32)) wPUBLIC wPRIVATE wFINAL wABSTRACT)), .val (.ref b5), .unset] [(.int ((w11 >>> (((p1 &&& (2147483647 : Int32)) - ((p1 &&& (2147483647 : Int32)) / (4 : Int32)) * (4 : Int32)) &&& 31)) &&& (1 : Int32)))])) _
    refine XS.ifYes X10.here hx rfl (pc0 := 73) (pc' := 80) rfl (hb hby at_73) rfl ((if0 _ _).trans (teq hc73').1) (by decide) (by decide) ?_
    show Steps p.tables e below (T10.setTop (mkF m 80 #[.val (.int p1), .val (.int p2), .val (.int ((p1 &&& (2147483647 : Int32)) - ((p1 &&& (2147483647 : Int32)) / (4 : Int32)) * (4 : Int32))), .val (.int ((p2 &&& (2147483647 : Int32)) - ((p2 &&& (2147483647 : Int32)) / (5 : Int32)) * (5 : Int32))), .val (.ref (own_c ((p1 &&& (2147483647 : Int32)) - ((p1 &&& (2147483647 : Int32)) / (4 : Int32)) * (4 : Int32)) wPUBLIC wPRIVATE wFINAL wABSTRACT)), .val (.ref (own_c (((p2 &&& (2147483647 : Int32)) - ((p2 &&& (2147483647 : Int32)) / (5 : Int32)) * (5 : Int32)) - (1 : Int32)) wPUBLIC wPRIVATE wFINAL wABSTRACT)), .val (.ref b5), .unset] [])) _
    refine XS.iconst X10.here hx rfl (hb hby at_80) ?_
    show Steps p.tables e below (T10.setTop (mkF m 81 #[.val (.int p1), .val (.int p2), .val (.int ((p1 &&& (2147483647 : Int32)) - ((p1 &&& (2147483647 : Int32)) / (4 : Int32)) * (4 : Int32))), .val (.int ((p2 &&& (2147483647 : Int32)) - ((p2 &&& (2147483647 : Int32)) / (5 : Int32)) * (5 : Int32))), .val (.ref (own_c ((p1 &&& (2147483647 : Int32)) - ((p1 &&& (2147483647 : Int32)) / (4 : Int32)) * (4 : Int32)) wPUBLIC wPRIVATE wFINAL wABSTRACT)), .val (.ref (own_c (((p2 &&& (2147483647 : Int32)) - ((p2 &&& (2147483647 : Int32)) / (5 : Int32)) * (5 : Int32)) - (1 : Int32)) wPUBLIC wPRIVATE wFINAL wABSTRACT)), .val (.ref b5), .unset] [(.int (0 : Int32))])) _
    refine XS.istore X10.here hx rfl (hb hby at_81) rfl (l' := #[.val (.int p1), .val (.int p2), .val (.int ((p1 &&& (2147483647 : Int32)) - ((p1 &&& (2147483647 : Int32)) / (4 : Int32)) * (4 : Int32))), .val (.int ((p2 &&& (2147483647 : Int32)) - ((p2 &&& (2147483647 : Int32)) / (5 : Int32)) * (5 : Int32))), .val (.ref (own_c ((p1 &&& (2147483647 : Int32)) - ((p1 &&& (2147483647 : Int32)) / (4 : Int32)) * (4 : Int32)) wPUBLIC wPRIVATE wFINAL wABSTRACT)), .val (.ref (own_c (((p2 &&& (2147483647 : Int32)) - ((p2 &&& (2147483647 : Int32)) / (5 : Int32)) * (5 : Int32)) - (1 : Int32)) wPUBLIC wPRIVATE wFINAL wABSTRACT)), .val (.ref b5), .val (.int (0 : Int32))]) rfl ?_
    show Steps p.tables e below (T10.setTop (mkF m 83 #[.val (.int p1), .val (.int p2), .val (.int ((p1 &&& (2147483647 : Int32)) - ((p1 &&& (2147483647 : Int32)) / (4 : Int32)) * (4 : Int32))), .val (.int ((p2 &&& (2147483647 : Int32)) - ((p2 &&& (2147483647 : Int32)) / (5 : Int32)) * (5 : Int32))), .val (.ref (own_c ((p1 &&& (2147483647 : Int32)) - ((p1 &&& (2147483647 : Int32)) / (4 : Int32)) * (4 : Int32)) wPUBLIC wPRIVATE wFINAL wABSTRACT)), .val (.ref (own_c (((p2 &&& (2147483647 : Int32)) - ((p2 &&& (2147483647 : Int32)) / (5 : Int32)) * (5 : Int32)) - (1 : Int32)) wPUBLIC wPRIVATE wFINAL wABSTRACT)), .val (.ref b5), .val (.int (0 : Int32))] [])) _
    refine XS.aload X10.here hx rfl (hb hby at_83) rfl rfl ?_
    show Steps p.tables e below (T10.setTop (mkF m 85 #[.val (.int p1), .val (.int p2), .val (.int ((p1 &&& (2147483647 : Int32)) - ((p1 &&& (2147483647 : Int32)) / (4 : Int32)) * (4 : Int32))), .val (.int ((p2 &&& (2147483647 : Int32)) - ((p2 &&& (2147483647 : Int32)) / (5 : Int32)) * (5 : Int32))), .val (.ref (own_c ((p1 &&& (2147483647 : Int32)) - ((p1 &&& (2147483647 : Int32)) / (4 : Int32)) * (4 : Int32)) wPUBLIC wPRIVATE wFINAL wABSTRACT)), .val (.ref (own_c (((p2 &&& (2147483647 : Int32)) - ((p2 &&& (2147483647 : Int32)) / (5 : Int32)) * (5 : Int32)) - (1 : Int32)) wPUBLIC wPRIVATE wFINAL wABSTRACT)), .val (.ref b5), .val (.int (0 : Int32))] [(.ref (own_c ((p1 &&& (2147483647 : Int32)) - ((p1 &&& (2147483647 : Int32)) / (4 : Int32)) * (4 : Int32)) wPUBLIC wPRIVATE wFINAL wABSTRACT))])) _
    refine XS.aload X10.here hx rfl (hb hby at_85) rfl rfl ?_
    show Steps p.tables e below (T10.setTop (mkF m 87 #[.val (.int p1), .val (.int p2), .val (.int ((p1 &&& (2147483647 : Int32)) - ((p1 &&& (2147483647 : Int32)) / (4 : Int32)) * (4 : Int32))), .val (.int ((p2 &&& (2147483647 : Int32)) - ((p2 &&& (2147483647 : Int32)) / (5 : Int32)) * (5 : Int32))), .val (.ref (own_c ((p1 &&& (2147483647 : Int32)) - ((p1 &&& (2147483647 : Int32)) / (4 : Int32)) * (4 : Int32)) wPUBLIC wPRIVATE wFINAL wABSTRACT)), .val (.ref (own_c (((p2 &&& (2147483647 : Int32)) - ((p2 &&& (2147483647 : Int32)) / (5 : Int32)) * (5 : Int32)) - (1 : Int32)) wPUBLIC wPRIVATE wFINAL wABSTRACT)), .val (.ref b5), .val (.int (0 : Int32))] [(.ref (own_c (((p2 &&& (2147483647 : Int32)) - ((p2 &&& (2147483647 : Int32)) / (5 : Int32)) * (5 : Int32)) - (1 : Int32)) wPUBLIC wPRIVATE wFINAL wABSTRACT)), (.ref (own_c ((p1 &&& (2147483647 : Int32)) - ((p1 &&& (2147483647 : Int32)) / (4 : Int32)) * (4 : Int32)) wPUBLIC wPRIVATE wFINAL wABSTRACT))])) _
    refine st12.trans ?_
    show Steps p.tables e below (T12.setTop (mkF m 90 #[.val (.int p1), .val (.int p2), .val (.int ((p1 &&& (2147483647 : Int32)) - ((p1 &&& (2147483647 : Int32)) / (4 : Int32)) * (4 : Int32))), .val (.int ((p2 &&& (2147483647 : Int32)) - ((p2 &&& (2147483647 : Int32)) / (5 : Int32)) * (5 : Int32))), .val (.ref (own_c ((p1 &&& (2147483647 : Int32)) - ((p1 &&& (2147483647 : Int32)) / (4 : Int32)) * (4 : Int32)) wPUBLIC wPRIVATE wFINAL wABSTRACT)), .val (.ref (own_c (((p2 &&& (2147483647 : Int32)) - ((p2 &&& (2147483647 : Int32)) / (5 : Int32)) * (5 : Int32)) - (1 : Int32)) wPUBLIC wPRIVATE wFINAL wABSTRACT)), .val (.ref b5), .val (.int (0 : Int32))] [(.int (own_m (own_c ((p1 &&& (2147483647 : Int32)) - ((p1 &&& (2147483647 : Int32)) / (4 : Int32)) * (4 : Int32)) wPUBLIC wPRIVATE wFINAL wABSTRACT) (own_c (((p2 &&& (2147483647 : Int32)) - ((p2 &&& (2147483647 : Int32)) / (5 : Int32)) * (5 : Int32)) - (1 : Int32)) wPUBLIC wPRIVATE wFINAL wABSTRACT) wPUBLIC wPRIVATE wFINAL wABSTRACT))])) _
    refine XS.iload X12.here hx rfl (hb hby at_90) rfl ?_
    show Steps p.tables e below (T12.setTop (mkF m 92 #[.val (.int p1), .val (.int p2), .val (.int ((p1 &&& (2147483647 : Int32)) - ((p1 &&& (2147483647 : Int32)) / (4 : Int32)) * (4 : Int32))), .val (.int ((p2 &&& (2147483647 : Int32)) - ((p2 &&& (2147483647 : Int32)) / (5 : Int32)) * (5 : Int32))), .val (.ref (own_c ((p1 &&& (2147483647 : Int32)) - ((p1 &&& (2147483647 : Int32)) / (4 : Int32)) * (4 : Int32)) wPUBLIC wPRIVATE wFINAL wABSTRACT)), .val (.ref (own_c (((p2 &&& (2147483647 : Int32)) - ((p2 &&& (2147483647 : Int32)) / (5 : Int32)) * (5 : Int32)) - (1 : Int32)) wPUBLIC wPRIVATE wFINAL wABSTRACT)), .val (.ref b5), .val (.int (0 : Int32))] [(.int (0 : Int32)), (.int (own_m (own_c ((p1 &&& (2147483647 : Int32)) - ((p1 &&& (2147483647 : Int32)) / (4 : Int32)) * (4 : Int32)) wPUBLIC wPRIVATE wFINAL wABSTRACT) (own_c (((p2 &&& (2147483647 : Int32)) - ((p2 &&& (2147483647 : Int32)) / (5 : Int32)) * (5 : Int32)) - (1 : Int32)) wPUBLIC wPRIVATE wFINAL wABSTRACT) wPUBLIC wPRIVATE wFINAL wABSTRACT))])) _
    refine XS.icmpNo X12.here hx rfl (hb hby at_92) rfl (teq (h92 : (own_m (own_c ((p1 &&& (2147483647 : Int32)) - ((p1 &&& (2147483647 : Int32)) / (4 : Int32)) * (4 : Int32)) wPUBLIC wPRIVATE wFINAL wABSTRACT) (own_c (((p2 &&& (2147483647 : Int32)) - ((p2 &&& (2147483647 : Int32)) / (5 : Int32)) * (5 : Int32)) - (1 : Int32)) wPUBLIC wPRIVATE wFINAL wABSTRACT) wPUBLIC wPRIVATE wFINAL wABSTRACT) = (0 : Int32))).2 ?_
    show Steps p.tables e below (T12.setTop (mkF m 95 #[.val (.int p1), .val (.int p2), .val (.int ((p1 &&& (2147483647 : Int32)) - ((p1 &&& (2147483647 : Int32)) / (4 : Int32)) * (4 : Int32))), .val (.int ((p2 &&& (2147483647 : Int32)) - ((p2 &&& (2147483647 : Int32)) / (5 : Int32)) * (5 : Int32))), .val (.ref (own_c ((p1 &&& (2147483647 : Int32)) - ((p1 &&& (2147483647 : Int32)) / (4 : Int32)) * (4 : Int32)) wPUBLIC wPRIVATE wFINAL wABSTRACT)), .val (.ref (own_c (((p2 &&& (2147483647 : Int32)) - ((p2 &&& (2147483647 : Int32)) / (5 : Int32)) * (5 : Int32)) - (1 : Int32)) wPUBLIC wPRIVATE wFINAL wABSTRACT)), .val (.ref b5), .val (.int (0 : Int32))] [])) _
    refine XS.iconst X12.here hx rfl (hb hby at_95) ?_
    show Steps p.tables e below (T12.setTop (mkF m 96 #[.val (.int p1), .val (.int p2), .val (.int ((p1 &&& (2147483647 : Int32)) - ((p1 &&& (2147483647 : Int32)) / (4 : Int32)) * (4 : Int32))), .val (.int ((p2 &&& (2147483647 : Int32)) - ((p2 &&& (2147483647 : Int32)) / (5 : Int32)) * (5 : Int32))), .val (.ref (own_c ((p1 &&& (2147483647 : Int32)) - ((p1 &&& (2147483647 : Int32)) / (4 : Int32)) * (4 : Int32)) wPUBLIC wPRIVATE wFINAL wABSTRACT)), .val (.ref (own_c (((p2 &&& (2147483647 : Int32)) - ((p2 &&& (2147483647 : Int32)) / (5 : Int32)) * (5 : Int32)) - (1 : Int32)) wPUBLIC wPRIVATE wFINAL wABSTRACT)), .val (.ref b5), .val (.int (0 : Int32))] [(.int (1 : Int32))])) _
    refine XS.goto X12.here hx rfl (pc0 := 96) (pc' := 100) rfl (hb hby at_96) (by decide) (by decide) ?_
    show Steps p.tables e below (T12.setTop (mkF m 100 #[.val (.int p1), .val (.int p2), .val (.int ((p1 &&& (2147483647 : Int32)) - ((p1 &&& (2147483647 : Int32)) / (4 : Int32)) * (4 : Int32))), .val (.int ((p2 &&& (2147483647 : Int32)) - ((p2 &&& (2147483647 : Int32)) / (5 : Int32)) * (5 : Int32))), .val (.ref (own_c ((p1 &&& (2147483647 : Int32)) - ((p1 &&& (2147483647 : Int32)) / (4 : Int32)) * (4 : Int32)) wPUBLIC wPRIVATE wFINAL wABSTRACT)), .val (.ref (own_c (((p2 &&& (2147483647 : Int32)) - ((p2 &&& (2147483647 : Int32)) / (5 : Int32)) * (5 : Int32)) - (1 : Int32)) wPUBLIC wPRIVATE wFINAL wABSTRACT)), .val (.ref b5), .val (.int (0 : Int32))] [(.int (1 : Int32))])) _
    exact retN X12 hx (t := .boolean) Bd.returns (by simp) (hb hby at_100) hr
  · show Q0 Z p1 p2 h0 n0 _ T12.heap _
    exact ⟨rfl, N12⟩
theorem own_n0 (t d : Int32) {wPUBLIC wPRIVATE wFINAL wABSTRACT : Addr} (ne1 : wPUBLIC ≠ wPRIVATE) (ne2 : wPUBLIC ≠ wFINAL) (ne3 : wPUBLIC ≠ wABSTRACT) (ne4 : wPRIVATE ≠ wFINAL) (ne5 : wPRIVATE ≠ wABSTRACT) (ne6 : wFINAL ≠ wABSTRACT) (ht : t = 0 ∨ t = 1 ∨ t = 2 ∨ t = 3) (hd : d = 0) : own_n (own_c t wPUBLIC wPRIVATE wFINAL wABSTRACT) wPUBLIC wPRIVATE wFINAL wABSTRACT = if own_bit t d = 0 then 0 else 1 := by
  subst hd
  rcases ht with rfl | rfl | rfl | rfl <;> simp +decide [own_n, own_c, own_bit, own_al, ne1, ne2, ne3, ne4, ne5, ne6, ne1.symm, ne2.symm, ne3.symm, ne4.symm, ne5.symm, ne6.symm]
theorem own_m0 (t d : Int32) {wPUBLIC wPRIVATE wFINAL wABSTRACT : Addr} (ne1 : wPUBLIC ≠ wPRIVATE) (ne2 : wPUBLIC ≠ wFINAL) (ne3 : wPUBLIC ≠ wABSTRACT) (ne4 : wPRIVATE ≠ wFINAL) (ne5 : wPRIVATE ≠ wABSTRACT) (ne6 : wFINAL ≠ wABSTRACT) (ht : t = 0 ∨ t = 1 ∨ t = 2 ∨ t = 3) (hd : d = 0 ∨ d = 1 ∨ d = 2 ∨ d = 3 ∨ d = 4) (h0 : ¬ d = 0) : own_m (own_c t wPUBLIC wPRIVATE wFINAL wABSTRACT) (own_c (d - (1 : Int32)) wPUBLIC wPRIVATE wFINAL wABSTRACT) wPUBLIC wPRIVATE wFINAL wABSTRACT = if own_bit t d = 0 then 0 else 1 := by
  rcases hd with rfl | rfl | rfl | rfl | rfl
  · exact absurd rfl h0
  all_goals
    rcases ht with rfl | rfl | rfl | rfl <;> simp +decide [own_m, own_c, own_bit, own_al, ne1, ne2, ne3, ne4, ne5, ne6, ne1.symm, ne2.symm, ne3.symm, ne4.symm, ne5.symm, ne6.symm]
set_option maxRecDepth 65536 in
theorem rm0 (l : Launch) (Z : State) (a0 : Array Value) (hw : ∀ d ∈ tables_1, d.before a0 Z = true) (ws : List Jvm.Cond) (p1 : Int32) (p2 : Int32) (wPUBLIC wPRIVATE wFINAL wABSTRACT : Addr) (h0 : Heap) (n0 : Nat) (Z0 : n0 ≤ h0.size) (S_PUBLIC : Sta Z h0 "com/example/fallbak/fallbak/xslt/Visibility" "PUBLIC" "Lcom/example/fallbak/fallbak/xslt/Visibility;" (.ref wPUBLIC)) (S_PRIVATE : Sta Z h0 "com/example/fallbak/fallbak/xslt/Visibility" "PRIVATE" "Lcom/example/fallbak/fallbak/xslt/Visibility;" (.ref wPRIVATE)) (S_FINAL : Sta Z h0 "com/example/fallbak/fallbak/xslt/Visibility" "FINAL" "Lcom/example/fallbak/fallbak/xslt/Visibility;" (.ref wFINAL)) (S_ABSTRACT : Sta Z h0 "com/example/fallbak/fallbak/xslt/Visibility" "ABSTRACT" "Lcom/example/fallbak/fallbak/xslt/Visibility;" (.ref wABSTRACT)) (E_PUBLIC : Exa Z h0 wPUBLIC "com/example/fallbak/fallbak/xslt/Visibility") (E_PRIVATE : Exa Z h0 wPRIVATE "com/example/fallbak/fallbak/xslt/Visibility") (E_FINAL : Exa Z h0 wFINAL "com/example/fallbak/fallbak/xslt/Visibility") (E_ABSTRACT : Exa Z h0 wABSTRACT "com/example/fallbak/fallbak/xslt/Visibility") (ne1 : wPUBLIC ≠ wPRIVATE) (ne2 : wPUBLIC ≠ wFINAL) (ne3 : wPUBLIC ≠ wABSTRACT) (ne4 : wPRIVATE ≠ wFINAL) (ne5 : wPRIVATE ≠ wABSTRACT) (ne6 : wFINAL ≠ wABSTRACT) :
    MetFree l x (head1 (Jvm.Cond.code x code maxLocals ret :: ws) room_1) (fun a U => a = #[(.int p1), (.int p2)] ∧ Z.Warmed39 U.vm ∧ U.heap = h0) (fun _ _ _ _ _ => True) (fun _ U o U' => ∃ v L, o = .returned v ∧ Q0 Z p1 p2 h0 n0 v U'.heap L ∧ FrameEnd U o U' L room_1.cells room_1.slots) := by
  have ht := own_t4 p1
  have hd := own_d5 p2
  by_cases hc21 : ((p2 &&& (2147483647 : Int32)) - ((p2 &&& (2147483647 : Int32)) / (5 : Int32)) * (5 : Int32)) = (0 : Int32)
  · have q := own_n0 ((p1 &&& (2147483647 : Int32)) - ((p1 &&& (2147483647 : Int32)) / (4 : Int32)) * (4 : Int32)) ((p2 &&& (2147483647 : Int32)) - ((p2 &&& (2147483647 : Int32)) / (5 : Int32)) * (5 : Int32)) ne1 ne2 ne3 ne4 ne5 ne6 ht hc21
    by_cases hc73 : own_bit ((p1 &&& (2147483647 : Int32)) - ((p1 &&& (2147483647 : Int32)) / (4 : Int32)) * (4 : Int32)) ((p2 &&& (2147483647 : Int32)) - ((p2 &&& (2147483647 : Int32)) / (5 : Int32)) * (5 : Int32)) = (0 : Int32)
    · rw [if_pos hc73] at q
      exact rm0_ftf l Z a0 hw ws p1 p2 wPUBLIC wPRIVATE wFINAL wABSTRACT h0 n0 Z0 S_PUBLIC S_PRIVATE S_FINAL S_ABSTRACT E_PUBLIC E_PRIVATE E_FINAL E_ABSTRACT hc21 hc73 q
    · rw [if_neg hc73] at q
      exact rm0_fff l Z a0 hw ws p1 p2 wPUBLIC wPRIVATE wFINAL wABSTRACT h0 n0 Z0 S_PUBLIC S_PRIVATE S_FINAL S_ABSTRACT E_PUBLIC E_PRIVATE E_FINAL E_ABSTRACT hc21 hc73 q
  · have q := own_m0 ((p1 &&& (2147483647 : Int32)) - ((p1 &&& (2147483647 : Int32)) / (4 : Int32)) * (4 : Int32)) ((p2 &&& (2147483647 : Int32)) - ((p2 &&& (2147483647 : Int32)) / (5 : Int32)) * (5 : Int32)) ne1 ne2 ne3 ne4 ne5 ne6 ht hd hc21
    by_cases hc73 : own_bit ((p1 &&& (2147483647 : Int32)) - ((p1 &&& (2147483647 : Int32)) / (4 : Int32)) * (4 : Int32)) ((p2 &&& (2147483647 : Int32)) - ((p2 &&& (2147483647 : Int32)) / (5 : Int32)) * (5 : Int32)) = (0 : Int32)
    · rw [if_pos hc73] at q
      exact rm0_ttf l Z a0 hw ws p1 p2 wPUBLIC wPRIVATE wFINAL wABSTRACT h0 n0 Z0 S_PUBLIC S_PRIVATE S_FINAL S_ABSTRACT E_PUBLIC E_PRIVATE E_FINAL E_ABSTRACT hc21 hc73 q
    · rw [if_neg hc73] at q
      exact rm0_tff l Z a0 hw ws p1 p2 wPUBLIC wPRIVATE wFINAL wABSTRACT h0 n0 Z0 S_PUBLIC S_PRIVATE S_FINAL S_ABSTRACT E_PUBLIC E_PRIVATE E_FINAL E_ABSTRACT hc21 hc73 q
set_option maxRecDepth 65536 in
set_option maxHeartbeats 40000000 in
theorem comes_1 {Post : Tables → Env → Array Value → State → Outcome → State → Prop} (hpost : ∀ tb e args s v u, (limb_1_1.after args s (.returned v) u = true ∧ limb_1_2.after args s (.returned v) u = true ∧ True) → FrameEnd s (.returned v) u (Jvm.fieldLocs frame_1_writes args s ++ Jvm.arrayLocs frame_1_arrays args s ++ Jvm.staticLocs frame_1_statics s) 16 128 → Post tb e args s (.returned v) u) :
    ArmFor flags0 classFile x code maxLocals ret World_1 tables_1 room_1 Calls_1 rest_1 Pre_1 Post := by
  intro l hfl _ _ p e ha hc hk s m args below hf hA hF happ hP
  obtain ⟨hcalls, hrest, hpre⟩ := hP
  obtain ⟨-, -, -, hnamed, -, -, -, hat⟩ := (Spec.applies_iff hf).mp happ
  obtain ⟨hg, hn⟩ := and_e (Cond.before_iff.mp (show (Jvm.Cond.and given_1 narrow_1).before args s = true from hpre))
  obtain ⟨g13, g14⟩ := and_e hg
  obtain ⟨g15, g16⟩ := and_e g14
  obtain ⟨w0, w1, rfl⟩ : ∃ w0 w1 : Value, args = #[w0, w1] := by
    have hs : args.size = 2 := by simpa [Cond.value, given_1] using g13
    obtain ⟨L⟩ := args
    match L, hs with
    | [w0, w1], _ => exact ⟨w0, w1, rfl⟩
  have hw := fun d (hd : d ∈ tables_1) => atoms_spec (ws := Jvm.Cond.code x code maxLocals ret :: tables_1) hat d (List.mem_cons_of_mem _ hd)
  have hfit : Fit s := fun {y c} hc i hi => by
    obtain ⟨ha, rfl⟩ := Array.getElem?_eq_some_iff.mp hc
    have q := List.all_eq_true.mp ((Array.all_eq_true_iff_forall_mem.mp hF) _ (Array.getElem_mem ha)) i (List.mem_range.mpr hi)
    simpa [Array.getElem?_eq_getElem hi] using q
  obtain ⟨i0, ei0⟩ := is_v g15
  obtain rfl : w0 = (.int i0) := Option.some.inj ei0
  obtain ⟨i1, ei1⟩ := is_v g16
  obtain rfl : w1 = (.int i1) := Option.some.inj ei1
  obtain ⟨x1, hn⟩ := and_e hn
  obtain ⟨x3, hn⟩ := and_e hn
  obtain ⟨o3, hn⟩ := and_e hn
  obtain ⟨o1, hn⟩ := and_e hn
  obtain ⟨x2, hn⟩ := and_e hn
  obtain ⟨o2, hn⟩ := and_e hn
  obtain ⟨x4, o4⟩ := and_e hn
  obtain ⟨wPUBLIC, ev1⟩ := exa_v x1
  have E_PUBLIC := Exa.start ev1 x1
  have S_PUBLIC := Sta.start ev1 (Or.inr ⟨hw _ (List.mem_of_getElem? (i := 6) rfl), hw _ (List.mem_of_getElem? (i := 7) rfl)⟩)
  have f1 := own_ord ev1 o1
  obtain ⟨wPRIVATE, ev2⟩ := exa_v x2
  have E_PRIVATE := Exa.start ev2 x2
  have S_PRIVATE := Sta.start ev2 (Or.inr ⟨hw _ (List.mem_of_getElem? (i := 6) rfl), hw _ (List.mem_of_getElem? (i := 19) rfl)⟩)
  have f2 := own_ord ev2 o2
  obtain ⟨wFINAL, ev3⟩ := exa_v x3
  have E_FINAL := Exa.start ev3 x3
  have S_FINAL := Sta.start ev3 (Or.inr ⟨hw _ (List.mem_of_getElem? (i := 6) rfl), hw _ (List.mem_of_getElem? (i := 9) rfl)⟩)
  have f3 := own_ord ev3 o3
  obtain ⟨wABSTRACT, ev4⟩ := exa_v x4
  have E_ABSTRACT := Exa.start ev4 x4
  have S_ABSTRACT := Sta.start ev4 (Or.inr ⟨hw _ (List.mem_of_getElem? (i := 6) rfl), hw _ (List.mem_of_getElem? (i := 21) rfl)⟩)
  have f4 := own_ord ev4 o4
  have ne1 : wPUBLIC ≠ wPRIVATE := own_ne f1 f2 (by decide)
  have ne2 : wPUBLIC ≠ wFINAL := own_ne f1 f3 (by decide)
  have ne3 : wPUBLIC ≠ wABSTRACT := own_ne f1 f4 (by decide)
  have ne4 : wPRIVATE ≠ wFINAL := own_ne f2 f3 (by decide)
  have ne5 : wPRIVATE ≠ wABSTRACT := own_ne f2 f4 (by decide)
  have ne6 : wFINAL ≠ wABSTRACT := own_ne f3 f4 (by decide)
  obtain ⟨n, o, h1, h2, h3, _, L, rfl, ⟨rfl, N⟩, hq⟩ := rm0 l s _ hw tables_1 i0 i1 wPUBLIC wPRIVATE wFINAL wABSTRACT s.heap s.heap.size (Nat.le_refl _) S_PUBLIC S_PRIVATE S_FINAL S_ABSTRACT E_PUBLIC E_PRIVATE E_FINAL E_ABSTRACT ne1 ne2 ne3 ne4 ne5 ne6 p e ha hc hk s m _ below hf ((Spec.applies_iff_loose hf).mp happ).1 ⟨rfl, State.Warmed39.refl s, rfl⟩ trivial
  refine ⟨n, _, h1, h2, h3, hpost _ _ _ _ _ _ ⟨Cond.after_iff.mpr rfl, Cond.after_iff.mpr (eq_i res_at (Term.int_eval (1)) rfl), trivial⟩ ⟨hq.1, hq.2.1, (hq.2.2.sift fun y hy => Or.inr (N y hy)).mono (by decide) (by decide)⟩⟩
theorem main_1_1 : Claimed_1_1 := comes_1 fun _ _ _ _ _ _ h hF => ⟨h.1, hF⟩
theorem main_1_2 : Claimed_1_2 := comes_1 fun _ _ _ _ _ _ h hF => ⟨h.2.1, hF⟩
end Jvm.Pilot.@@N@@
namespace Jvm.Pilot.@@N@@
open Jvm Jvm.ClassFile Sem Op Lib Jvm.Free Jvm.Stand Jvm.Pilot.@@N@@.Jvm.D
/-! MADE BY PROGRAM (witnessworld.py) out of the Statement's table words and the real class files: 12 classes; the members and pool entries that the words name. The judged class is class 1, her method 1. -/
namespace start1
open Jvm.ClassFile
def u (s : String) : CpInfo := .utf8 (stringToUtf16 s)
/-- a pool by its gaps: so many unusable entries, then the entry; so many at the end -/
def gap : Nat → List CpInfo → List CpInfo
  | 0, r => r
  | n + 1, r => .unusable :: gap n r
def poolList (es : List (Nat × CpInfo)) (last : Nat) : List CpInfo := es.foldr (fun e r => gap e.1 (e.2 :: r)) (gap last [])
def pool (es : List (Nat × CpInfo)) (last : Nat) : Array CpInfo := ⟨poolList es last⟩
def fileOf (pool : Array CpInfo) (this : Nat) (attrs : Array Attribute := #[]) (ms : Array MethodInfo := #[]) (fl : Nat := 33) (sup : Nat := 0) (ifs : Array Nat := #[]) (fds : Array FieldInfo := #[]) : ClassFile where
  minorVersion := 0
  majorVersion := 65
  constantPool := pool
  accessFlags := fl
  thisClass := this
  superClass := sup
  interfaces := ifs
  fields := fds
  methods := ms
  attributes := attrs
def plain (name : String) (sup : Option ClassId) : Class where
  name := name
  kind := .ordinary
  loader := none
  accessFlags := 33
  super := sup
  interfaces := #[]
  cf := none
  fields := #[]
  methods := #[]
  instanceTypes := #[]
  staticTypes := #[]
  resolved := #[]
  callSites := []
  init := .initialized
  statics := none
  mirror := none

def pool0 : Array CpInfo := pool [(5, u "<init>"), (0, u "()V"), (1, .class_ 10), (1, u "java/lang/Object")] 113

def k0m0 : Method := { name := "<init>", desc := "()V", sig := { parameters := [], returnType := none }, accessFlags := 1, code := none }
/-- java/lang/Object -/
def k0 : Class := { plain "java/lang/Object" none with
  accessFlags := 33
  interfaces := #[]
  cf := some (fileOf pool0 8 #[] #[{ accessFlags := 1, nameIndex := 5, descriptorIndex := 6, attributes := #[] }] 33 0 #[] #[])
  fields := #[]
  methods := #[k0m0]
  instanceTypes := #[]
  staticTypes := #[]
  resolved := Array.replicate 124 none
  statics := none }

def pool1 : Array CpInfo := pool [(2, .class_ 4), (1, u "java/lang/Object"), (0, u "<init>"), (0, u "()V"), (0, .integer 2147483647), (0, .methodref 9 10), (0, .class_ 11), (0, .nameAndType 12 13), (0, u "com/example/fallbak/fallbak/xslt/VisibilityMayBeExposedOnPinLaw"), (0, u "constant"), (0, u "(I)Lcom/example/fallbak/fallbak/xslt/Visibility;"), (0, .methodref 15 16), (0, .class_ 17), (0, .nameAndType 18 19), (0, u "com/example/fallbak/fallbak/xslt/Visibility"), (0, u "mayBeExposedOn"), (0, u "(Lcom/example/fallbak/fallbak/xslt/Visibility;)Z"), (0, .fieldref 15 21), (0, .nameAndType 22 23), (0, u "PUBLIC"), (0, u "Lcom/example/fallbak/fallbak/xslt/Visibility;"), (0, .fieldref 15 25), (0, .nameAndType 26 23), (0, u "PRIVATE"), (0, .fieldref 15 28), (0, .nameAndType 29 23), (0, u "FINAL"), (0, .fieldref 15 31), (0, .nameAndType 32 23), (0, u "ABSTRACT"), (2, u "law"), (0, u "(II)Z")] 5

def k1m0 : Method := { name := "<init>", desc := "()V", sig := { parameters := [], returnType := none }, accessFlags := 1, code := none }
def k1c1 : Code := { maxStack := 4, maxLocals := 8, code := code, exceptionTable := #[], attributes := #[] }
def k1m1 : Method := { name := "law", desc := "(II)Z", sig := { parameters := [.int, .int], returnType := some .boolean }, accessFlags := 9, code := some k1c1 }
def k1c2 : Code := { maxStack := 2, maxLocals := 1, code := method_3_code, exceptionTable := #[], attributes := #[] }
def k1m2 : Method := { name := "constant", desc := "(I)Lcom/example/fallbak/fallbak/xslt/Visibility;", sig := { parameters := [.int], returnType := some (.object "com/example/fallbak/fallbak/xslt/Visibility") }, accessFlags := 10, code := some k1c2 }
/-- com/example/fallbak/fallbak/xslt/VisibilityMayBeExposedOnPinLaw -/
def k1 : Class := { plain "com/example/fallbak/fallbak/xslt/VisibilityMayBeExposedOnPinLaw" (some 0) with
  accessFlags := 49
  interfaces := #[]
  cf := some (fileOf pool1 9 #[] #[{ accessFlags := 1, nameIndex := 5, descriptorIndex := 6, attributes := #[] }, { accessFlags := 9, nameIndex := 35, descriptorIndex := 36, attributes := #[] }, { accessFlags := 10, nameIndex := 12, descriptorIndex := 13, attributes := #[] }] 49 2 #[] #[])
  fields := #[]
  methods := #[k1m0, k1m1, k1m2]
  instanceTypes := #[]
  staticTypes := #[]
  resolved := Array.replicate 42 none
  statics := none }

def pool2 : Array CpInfo := pool [(1, .class_ 2), (0, u "java/lang/constant/Constable"), (0, .class_ 4), (0, u "java/lang/Object")] 6

/-- java/lang/constant/Constable -/
def k2 : Class := { plain "java/lang/constant/Constable" (some 0) with
  accessFlags := 1537
  interfaces := #[]
  cf := some (fileOf pool2 1 #[] #[] 1537 3 #[] #[])
  fields := #[]
  methods := #[]
  instanceTypes := #[]
  staticTypes := #[]
  resolved := Array.replicate 11 none
  statics := none }

def pool3 : Array CpInfo := pool [(1, .class_ 2), (0, u "java/lang/Comparable"), (0, .class_ 4), (0, u "java/lang/Object")] 7

/-- java/lang/Comparable -/
def k3 : Class := { plain "java/lang/Comparable" (some 0) with
  accessFlags := 1537
  interfaces := #[]
  cf := some (fileOf pool3 1 #[] #[] 1537 3 #[] #[])
  fields := #[]
  methods := #[]
  instanceTypes := #[]
  staticTypes := #[]
  resolved := Array.replicate 12 none
  statics := none }

def pool4 : Array CpInfo := pool [(1, .class_ 2), (0, u "java/io/Serializable"), (0, .class_ 4), (0, u "java/lang/Object")] 2

/-- java/io/Serializable -/
def k4 : Class := { plain "java/io/Serializable" (some 0) with
  accessFlags := 1537
  interfaces := #[]
  cf := some (fileOf pool4 1 #[] #[] 1537 3 #[] #[])
  fields := #[]
  methods := #[]
  instanceTypes := #[]
  staticTypes := #[]
  resolved := Array.replicate 7 none
  statics := none }

def pool5 : Array CpInfo := pool [(2, .class_ 4), (1, u "java/lang/Enum"), (0, u "name"), (0, u "Ljava/lang/String;"), (2, u "ordinal"), (0, u "I"), (1, .class_ 14), (1, u "java/lang/Object"), (4, u "hash"), (86, .class_ 108), (1, u "java/lang/Enum$EnumDesc"), (2, .class_ 112), (0, u "java/lang/constant/Constable"), (0, .class_ 114), (0, u "java/lang/Comparable"), (0, .class_ 116), (0, u "java/io/Serializable")] 87

/-- java/lang/Enum -/
def k5 : Class := { plain "java/lang/Enum" (some 0) with
  accessFlags := 1057
  interfaces := #[2, 3, 4]
  cf := some (fileOf pool5 2 #[.nestMembers #[106]] #[] 1057 12 #[111, 113, 115] #[{ accessFlags := 18, nameIndex := 5, descriptorIndex := 6, attributes := #[] }, { accessFlags := 18, nameIndex := 9, descriptorIndex := 10, attributes := #[] }, { accessFlags := 2, nameIndex := 19, descriptorIndex := 10, attributes := #[] }])
  fields := #[{ name := "name", type := (.object "java/lang/String"), accessFlags := 18, slot := 0, constantValue := 0 }, { name := "ordinal", type := .int, accessFlags := 18, slot := 1, constantValue := 0 }, { name := "hash", type := .int, accessFlags := 2, slot := 2, constantValue := 0 }]
  methods := #[]
  instanceTypes := #[(.object "java/lang/String"), .int, .int]
  staticTypes := #[]
  resolved := Array.replicate 204 none
  statics := none }

def pool6 : Array CpInfo := pool [(1, .class_ 2), (0, u "com/example/fallbak/fallbak/xslt/Visibility"), (0, .fieldref 1 4), (0, .nameAndType 5 6), (0, u "PUBLIC"), (0, u "Lcom/example/fallbak/fallbak/xslt/Visibility;"), (0, .fieldref 1 8), (0, .nameAndType 9 6), (0, u "PRIVATE"), (0, .fieldref 1 11), (0, .nameAndType 12 6), (0, u "FINAL"), (0, .fieldref 1 14), (0, .nameAndType 15 6), (0, u "ABSTRACT"), (2, u "$VALUES"), (0, u "[Lcom/example/fallbak/fallbak/xslt/Visibility;"), (6, .class_ 28), (1, u "java/lang/Enum"), (83, u "mayBeExposedOn"), (0, u "(Lcom/example/fallbak/fallbak/xslt/Visibility;)Z")] 19

def k6c0 : Code := { maxStack := 2, maxLocals := 2, code := prog_258_method_7_code, exceptionTable := #[], attributes := #[] }
def k6m0 : Method := { name := "mayBeExposedOn", desc := "(Lcom/example/fallbak/fallbak/xslt/Visibility;)Z", sig := { parameters := [(.object "com/example/fallbak/fallbak/xslt/Visibility")], returnType := some .boolean }, accessFlags := 0, code := some k6c0 }
/-- com/example/fallbak/fallbak/xslt/Visibility -/
def k6 : Class := { plain "com/example/fallbak/fallbak/xslt/Visibility" (some 5) with
  accessFlags := 16432
  interfaces := #[]
  cf := some (fileOf pool6 1 #[] #[{ accessFlags := 0, nameIndex := 112, descriptorIndex := 113, attributes := #[] }] 16432 26 #[] #[{ accessFlags := 16409, nameIndex := 5, descriptorIndex := 6, attributes := #[] }, { accessFlags := 16409, nameIndex := 9, descriptorIndex := 6, attributes := #[] }, { accessFlags := 16409, nameIndex := 12, descriptorIndex := 6, attributes := #[] }, { accessFlags := 16409, nameIndex := 15, descriptorIndex := 6, attributes := #[] }, { accessFlags := 4122, nameIndex := 18, descriptorIndex := 19, attributes := #[] }])
  fields := #[{ name := "PUBLIC", type := (.object "com/example/fallbak/fallbak/xslt/Visibility"), accessFlags := 16409, slot := 0, constantValue := 0 }, { name := "PRIVATE", type := (.object "com/example/fallbak/fallbak/xslt/Visibility"), accessFlags := 16409, slot := 1, constantValue := 0 }, { name := "FINAL", type := (.object "com/example/fallbak/fallbak/xslt/Visibility"), accessFlags := 16409, slot := 2, constantValue := 0 }, { name := "ABSTRACT", type := (.object "com/example/fallbak/fallbak/xslt/Visibility"), accessFlags := 16409, slot := 3, constantValue := 0 }, { name := "$VALUES", type := (.array (.object "com/example/fallbak/fallbak/xslt/Visibility")), accessFlags := 4122, slot := 4, constantValue := 0 }]
  methods := #[k6m0]
  instanceTypes := #[(.object "java/lang/String"), .int, .int]
  staticTypes := #[(.object "com/example/fallbak/fallbak/xslt/Visibility"), (.object "com/example/fallbak/fallbak/xslt/Visibility"), (.object "com/example/fallbak/fallbak/xslt/Visibility"), (.object "com/example/fallbak/fallbak/xslt/Visibility"), (.array (.object "com/example/fallbak/fallbak/xslt/Visibility"))]
  resolved := Array.replicate 133 none
  statics := some 0 }

def pool7 : Array CpInfo := pool [(1, u "java/lang/Cloneable"), (0, .class_ 1), (0, u "java/lang/Object"), (0, .class_ 3)] 3

/-- java/lang/Cloneable -/
def k7 : Class := { plain "java/lang/Cloneable" (some 0) with
  accessFlags := 1537
  interfaces := #[]
  cf := some (fileOf pool7 2 #[] #[] 1537 4 #[] #[])
  fields := #[]
  methods := #[]
  instanceTypes := #[]
  staticTypes := #[]
  resolved := Array.replicate 8 none
  statics := none }

/-- the primitive byte -/
def k8 : Class := { plain "byte" none with kind := .primitive 'B', accessFlags := 0x411 }
/-- [B -/
def k9 : Class := { plain "[B" (some 0) with kind := .array 8 .byte, interfaces := #[7, 4], accessFlags := 1041 }

/-- the primitive int -/
def k10 : Class := { plain "int" none with kind := .primitive 'I', accessFlags := 0x411 }
/-- [I -/
def k11 : Class := { plain "[I" (some 0) with kind := .array 10 .int, interfaces := #[7, 4], accessFlags := 1041 }

def heap : Heap := #[{ cls := 6, slots := #[.ref 1, .ref 2, .ref 3, .ref 4, .null], vm := .statics 6 },
  { cls := 6, slots := #[.null, .int 0, .int 0], vm := .none },
  { cls := 6, slots := #[.null, .int 1, .int 0], vm := .none },
  { cls := 6, slots := #[.null, .int 2, .int 0], vm := .none },
  { cls := 6, slots := #[.null, .int 3, .int 0], vm := .none }]
def classes : Array Class := #[k0, k1, k2, k3, k4, k5, k6, k7, k8, k9, k10, k11]
def interned : List (Array UInt16 × Addr) := []
def slotsUsed : Nat := 17
def theMethod : MethodId := ⟨1, 1⟩
def args0 : Array Value := #[.int 5, .int 7]
def aboutOver (below : List Frame) : State where
  vm := { classes := classes, interned := interned.toArray }
  heap := heap
  slotsUsed := slotsUsed
  threads := #[{ frames := .invoking theMethod args0 :: below }]
def below0 : List Frame := [.native { method := ⟨0, 0⟩, args := #[] }]
def about1 : State := aboutOver below0
def p0 : Program := .bare "" "" ""
def e0 : Env := launch0.env 0 0 0
theorem w_frames : about1.frames = Frame.invoking theMethod args0 :: below0 := rfl
set_option maxRecDepth 65536 in
theorem w_args : argsFit about1.vm theMethod args0 = true := by decide +kernel
set_option maxRecDepth 65536 in
theorem w_heap : heapFits about1 = true := by decide +kernel
set_option maxRecDepth 65536 in
theorem w_runnable : about1.curStatus? = some .runnable := by decide +kernel
set_option maxRecDepth 65536 in
theorem w_alone : about1.alone = true := by decide +kernel
set_option maxRecDepth 65536 in
theorem w_named : about1.methodNamed? x = some theMethod := by decide +kernel
set_option maxRecDepth 65536 in
theorem w_hears : about1.hears theMethod below0 = true := by decide +kernel
set_option maxRecDepth 65536 in
theorem w_ripe : about1.ripe theMethod args0 below0 = true := by decide +kernel
theorem w_running : about1.status = .running := rfl
set_option maxRecDepth 65536 in
theorem w_room : about1.hasRoom e0.platform room_1 = true :=
  launch0.hasRoom_least _ room_1 (by decide +kernel) (by decide +kernel) (by decide +kernel) (by decide +kernel) (by decide +kernel) (by decide +kernel)
theorem allAtoms_all (ts : List Jvm.Cond) (a : Array Jvm.Value) (st : Jvm.State) : (allAtoms ts).before a st = ts.all (fun c => c.before a st) := by
  induction ts with
  | nil => rfl
  | cons c t ih =>
    show (Jvm.Cond.and c (allAtoms t)).before a st = _
    rw [Jvm.Cond.before_and, ih, List.all_cons]
def words1 : List Jvm.Cond := Jvm.Cond.code x code maxLocals ret :: tables_1
/-- a 'code' word, met by the world's own term for the bytes: nothing is compared byte by byte -/
theorem code_word {y : MethodName} {bytes : ByteArray} {mx : Nat} {rt : Option FieldType} {a : Array Value} {s : State} {m : MethodId} {meth : Method} {c : Code} (h1 : s.methodNamed? y = some m) (h2 : s.vm.method? m = some meth) (h3 : meth.code = some c) (h4 : c.code = bytes)
    (h5 : (c.maxLocals == mx && c.exceptionTable.isEmpty && decide (c.maxStack ≤ mostOperands) && decide (meth.sig.returnType = rt) && !meth.locks && decide (parseMethodDescriptor y.desc = some meth.sig)) = true) : (Jvm.Cond.code y bytes mx rt).before a s = true := by
  simp only [Bool.and_eq_true, beq_iff_eq, Bool.not_eq_true', decide_eq_true_eq] at h5
  obtain ⟨⟨⟨⟨⟨g1, g2⟩, g3⟩, g4⟩, g5⟩, g6⟩ := h5
  simp [Cond.before, Cond.holds, Cond.value, h1, h2, h3, h4, g1, g2, g3, g4, g5, g6]
def isCode : Jvm.Cond → Bool
  | .code _ _ _ _ => true
  | _ => false
theorem all_split {L : List Jvm.Cond} {P : Jvm.Cond → Bool} (h1 : L.all (fun c => isCode c || P c) = true) (h2 : ∀ c ∈ L.filter isCode, P c = true) : L.all P = true := by
  refine List.all_eq_true.mpr fun c hc => ?_
  have h := List.all_eq_true.mp h1 c hc
  rcases Bool.eq_false_or_eq_true (isCode c) with hi | hi
  · exact h2 c (List.mem_filter.mpr ⟨hc, hi⟩)
  · simpa [hi] using h
set_option maxRecDepth 65536 in
theorem w_c0 : (Jvm.Cond.code x code maxLocals ret).before args0 about1 = true := code_word (m := ⟨1, 1⟩) (meth := k1m1) (c := k1c1) (by decide +kernel) rfl rfl rfl (by decide +kernel)
set_option maxRecDepth 65536 in
theorem w_c1 : (Jvm.Cond.code ({ cls := "com/example/fallbak/fallbak/xslt/VisibilityMayBeExposedOnPinLaw", name := "constant", desc := "(I)Lcom/example/fallbak/fallbak/xslt/Visibility;" } : Jvm.MethodName) method_3_code (1 : Nat) (Option.some (Jvm.ClassFile.FieldType.object "com/example/fallbak/fallbak/xslt/Visibility"))).before args0 about1 = true := code_word (m := ⟨1, 2⟩) (meth := k1m2) (c := k1c2) (by decide +kernel) rfl rfl rfl (by decide +kernel)
set_option maxRecDepth 65536 in
theorem w_c2 : (Jvm.Cond.code ({ cls := "com/example/fallbak/fallbak/xslt/Visibility", name := "mayBeExposedOn", desc := "(Lcom/example/fallbak/fallbak/xslt/Visibility;)Z" } : Jvm.MethodName) prog_258_method_7_code (2 : Nat) (Option.some Jvm.ClassFile.FieldType.boolean)).before args0 about1 = true := code_word (m := ⟨6, 0⟩) (meth := k6m0) (c := k6c0) (by decide +kernel) rfl rfl rfl (by decide +kernel)
def codes1 : List Jvm.Cond := [Jvm.Cond.code x code maxLocals ret, Jvm.Cond.code ({ cls := "com/example/fallbak/fallbak/xslt/VisibilityMayBeExposedOnPinLaw", name := "constant", desc := "(I)Lcom/example/fallbak/fallbak/xslt/Visibility;" } : Jvm.MethodName) method_3_code (1 : Nat) (Option.some (Jvm.ClassFile.FieldType.object "com/example/fallbak/fallbak/xslt/Visibility")), Jvm.Cond.code ({ cls := "com/example/fallbak/fallbak/xslt/Visibility", name := "mayBeExposedOn", desc := "(Lcom/example/fallbak/fallbak/xslt/Visibility;)Z" } : Jvm.MethodName) prog_258_method_7_code (2 : Nat) (Option.some Jvm.ClassFile.FieldType.boolean)]
set_option maxRecDepth 65536 in
theorem codes_eq : words1.filter isCode = codes1 := rfl
theorem w_codes : ∀ c ∈ words1.filter isCode, c.before args0 about1 = true := by
  rw [codes_eq]
  intro c hc
  simp only [codes1, List.mem_cons, List.not_mem_nil, or_false] at hc
  rcases hc with rfl | rfl | rfl
  · exact w_c0
  · exact w_c1
  · exact w_c2
set_option maxRecDepth 65536 in
theorem w_t1 : (words1.take 24).all (fun c => isCode c || c.before args0 about1) = true := by decide +kernel
set_option maxRecDepth 65536 in
theorem w_t2 : (words1.drop 24).all (fun c => isCode c || c.before args0 about1) = true := by decide +kernel
theorem w_tables : (allAtoms (Jvm.Cond.code x code maxLocals ret :: tables_1)).before args0 about1 = true := by
  rw [allAtoms_all]
  show words1.all (fun c => c.before args0 about1) = true
  refine all_split ?_ w_codes
  rw [← List.take_append_drop 24 words1, List.all_append, w_t1, w_t2]
  rfl
set_option maxRecDepth 65536 in
theorem w_case : (Jvm.Cond.and given_1 narrow_1).before args0 about1 = true := by decide +kernel
theorem w_applies : (headSpec (Jvm.Cond.code x code maxLocals ret :: tables_1) room_1).applies x e0.platform about1 = true :=
  (Spec.applies_iff w_frames).mpr ⟨w_running, w_runnable, w_alone, w_named, w_hears, w_ripe, w_room, w_tables⟩
theorem atStart : AtStart classFile x code maxLocals ret World_1 tables_1 room_1 Calls_1 rest_1 Pre_1 launch0 p0 e0 about1 theMethod args0 below0 :=
  ⟨lists_1, trivial, launch0.admits_env _ _ _, launch0.least_env, fairChoices_fair.cas, fairChoices_fair.clock, w_frames, w_args, w_heap, w_applies, trivial, trivial, w_case⟩
end start1
theorem witness_1 : WitnessClaimed_1 := ⟨start1.p0, start1.e0, start1.about1, start1.theMethod, start1.args0, start1.below0, start1.atStart⟩
end Jvm.Pilot.@@N@@

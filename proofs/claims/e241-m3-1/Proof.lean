import JvmDerived
import JvmDerived.Pilot.@@N@@Statement
import JvmDerived.Pilot.@@N@@Code
set_option linter.unusedVariables false
set_option linter.unusedSimpArgs false
@@BLOCK:NumsL.lean.txt@@
namespace Jvm.RoadKit
open Sem ClassFile Op Lib Jvm.Stand Jvm.Free Jvm.LawKit
section New
variable {p : Program} {l : Launch} {e : Env} {R : Room} {s : State} {m : MethodId} {args : Array Value} {below : List Frame} {meth : Method} {c : Code} {T : State} {locs : List Loc} {cells slots : Nat}
theorem retI (X : Stand p l e R s m args below meth c T locs cells slots) (hx : p.tables.exec = Jvm.exec) {pc : Nat} {Ls : Array Slot} {z : Int32} {rest : List Value} (hret : meth.sig.returnType = some .int) (hd : decode c.code pc = .ok (.ireturn, 1)) {fs : List Frame}
    (hl : ∀ (f : JFrame) (acts : List Action), f.method = m → f.locked = none → f.entered = [] → (doReturn e (T.setTop f) acts (some (.int z))).1 = T.setFrames fs) : Steps p.tables e below (T.setTop (mkF m pc Ls (.int z :: rest))) (T.setFrames fs) := by
  have hm' : T.vm.method? m = some meth := X.method'
  have hn : narrow .int (.int z) = .int z := rfl
  show Steps p.tables e below (T.setTop { method := m, pc := pc, locals := Ls, stack := _ :: rest, locked := none }) _
  jvm_step X.here [X.here.top, hx, hd, hm', hret, hn]
  first | (intro acts; rw [hl _ acts rfl rfl rfl]) | rw [hl _ _ rfl rfl rfl]
  exact Steps.refl _
end New
end Jvm.RoadKit
/- laws to paste: Road.backV, Road.lenW, Road.eqW (cut by pick.py; bodies as the Statement names them) -/
namespace Jvm.Pilot.@@N@@
namespace StrChars
open Jvm Sem ClassFile Op Lib Jvm.Stand Jvm.Free.XT Jvm.Free.ALB Jvm.Free.JM Jvm.Free
open Jvm.Lib.Cold (StaticIs)
/-- a char array whose places are chars -/
def Ch (a : Addr) (A : Cell) (U : State) : Prop := Arr .char a A U ∧ Typed .char A
theorem Ch.mv {a : Addr} {A : Cell} {U U' : State} (h : Ch a A U) (hal : U.vm.Alike U'.vm) (hh : U'.heap = U.heap) : Ch a A U' := ⟨h.1.mv hal hh, h.2⟩
theorem Ch.keep {a : Addr} {A : Cell} {U U' : State} (h : Ch a A U) (hal : U.vm.Alike U'.vm) (hk : U'.heap[a]? = some A) : Ch a A U' := ⟨h.1.keep hal hk, h.2⟩
/-- what place i of a char[]'s cell holds -/
def cv (A : Cell) (i : Nat) : Int32 := match A.slots[i]? with | some (.int x) => x | _ => 0
theorem Ch.get {a : Addr} {A : Cell} {U : State} (h : Ch a A U) {i : Nat} (hi : i < A.slots.size) : A.slots[i]? = some (.int (cv A i)) := by
  have e := Array.getElem?_eq_getElem hi
  have f := h.2 i _ e
  unfold cv; rw [e]
  generalize A.slots[i] = v at f
  cases v <;> simp [fits] at f ⊢
/-- the byte that i2b leaves of a char -/
def lo8 (x : Int32) : Int32 := x.toInt8.toInt32
theorem fits_lo8 (y : Int32) : fits .byte (.int (lo8 y)) = true := by
  have h1 := y.toInt8.le_toInt
  have h2 := y.toInt8.toInt_lt
  simp only [lo8, fits, Bool.and_eq_true, decide_eq_true_eq, Int32.le_iff_toInt_le, Int8.toInt_toInt32, show (-128 : Int32).toInt = -128 from by decide, show (127 : Int32).toInt = 127 from by decide]
  omega
/-- A' is A but that each place j of lo .. hi - 1 holds f j -/
def Laid (A A' : Cell) (lo hi : Nat) (f : Nat → Value) : Prop := A'.cls = A.cls ∧ A'.vm = A.vm ∧ A'.slots.size = A.slots.size ∧ ∀ i, A'.slots[i]? = if lo ≤ i ∧ i < hi then some (f i) else A.slots[i]?
theorem Laid.zero (A : Cell) (lo : Nat) (f : Nat → Value) : Laid A A lo (lo + 0) f := ⟨rfl, rfl, rfl, fun i => by rw [if_neg (by omega)]⟩
theorem Laid.step {A Ak : Cell} {lo k : Nat} {f : Nat → Value} {v : Value} (h : Laid A Ak lo k f) (hlo : lo ≤ k) (hk : k < Ak.slots.size) (hv : v = f k) : Laid A (Ak.setSlot k v) lo (k + 1) f := by
  refine ⟨h.1, h.2.1, by simpa [Cell.setSlot] using h.2.2.1, fun i => ?_⟩
  by_cases e : k = i
  · subst e; rw [Cell.slots_setSlot_self v hk, if_pos (by omega), hv]
  · rw [Cell.slots_setSlot_ne v e, h.2.2.2 i]
    by_cases q : lo ≤ i ∧ i < k
    · rw [if_pos q, if_pos (by omega)]
    · rw [if_neg q, if_neg (by omega)]
def U16 : String := "java/lang/StringUTF16"
namespace Cmp5
def yN : MethodName := ⟨"java/lang/StringUTF16", "compress", "([CI[BII)I"⟩
abbrev yB : ByteArray := jdk_52_method_21_code
theorem d0 : decode yB 0 = .ok (.iconst 0, 1) := by decide +kernel
theorem d1 : decode yB 1 = .ok (.istore 5, 2) := by decide +kernel
theorem d3 : decode yB 3 = .ok (.iload 5, 2) := by decide +kernel
theorem d5 : decode yB 5 = .ok (.iload 4, 2) := by decide +kernel
theorem d7 : decode yB 7 = .ok (.if_icmp (.ge) 37, 3) := by decide +kernel
theorem d10 : decode yB 10 = .ok (.aload_n 0, 1) := by decide +kernel
theorem d11 : decode yB 11 = .ok (.iload_n 1, 1) := by decide +kernel
theorem d12 : decode yB 12 = .ok (.caload, 1) := by decide +kernel
theorem d13 : decode yB 13 = .ok (.istore 6, 2) := by decide +kernel
theorem d15 : decode yB 15 = .ok (.iload 6, 2) := by decide +kernel
theorem d17 : decode yB 17 = .ok (.sipush 255, 3) := by decide +kernel
theorem d20 : decode yB 20 = .ok (.if_icmp (.le) 6, 3) := by decide +kernel
theorem d26 : decode yB 26 = .ok (.aload_n 2, 1) := by decide +kernel
theorem d27 : decode yB 27 = .ok (.iload_n 3, 1) := by decide +kernel
theorem d28 : decode yB 28 = .ok (.iload 6, 2) := by decide +kernel
theorem d30 : decode yB 30 = .ok (.i2b, 1) := by decide +kernel
theorem d31 : decode yB 31 = .ok (.bastore, 1) := by decide +kernel
theorem d32 : decode yB 32 = .ok (.iinc 1 1, 3) := by decide +kernel
theorem d35 : decode yB 35 = .ok (.iinc 3 1, 3) := by decide +kernel
theorem d38 : decode yB 38 = .ok (.iinc 5 1, 3) := by decide +kernel
theorem d41 : decode yB 41 = .ok (.goto (-38), 3) := by decide +kernel
theorem d44 : decode yB 44 = .ok (.iload 4, 2) := by decide +kernel
theorem d46 : decode yB 46 = .ok (.ireturn, 1) := by decide +kernel
def site : List Cond := []
def tab : Cond := tabOf yN yB 7 (some .int) site
def P (b : Addr) (A : Cell) (d : Addr) (B : Cell) (o q len : Nat) (args : Array Value) (s : State) : Prop := args = #[.ref b, .int (Int32.ofNat o), .ref d, .int (Int32.ofNat q), .int (Int32.ofNat len)] ∧ Ch b A s ∧ Arr .byte d B s ∧ b ≠ d ∧ o + len ≤ A.slots.size ∧ q + len ≤ B.slots.size ∧ ∀ i, i < len → ¬ 255 < cv A (o + i)
def E (b : Addr) (A : Cell) (d : Addr) (B : Cell) (o q len : Nat) (r : Option Value) (s u : State) : Prop := r = some (.int (Int32.ofNat len)) ∧ ∃ B', Put d B' s u ∧ Laid B B' q (q + len) (fun j => Value.int (lo8 (cv A (o + (j - q)))))
/-- no char of the range above 255: len; the places written hold each char's low byte -/
theorem law (l : Launch) (b : Addr) (A : Cell) (d : Addr) (B : Cell) (o q len : Nat) : Law l yN 5 5 0 0 yB 7 (some .int) site (P b A d B o q len) (E b A d B o q len) (copyLocs d q len) 0 0 := by
  refine Law.of_walk (plainFor_of_name (by decide +kernel)) (by decide +kernel) (by decide +kernel) (by decide) (fun _ _ h => by rw [h.1]; rfl) (fun _ U U' hal hh h => ⟨h.1, h.2.1.mv hal hh, h.2.2.1.mv hal hh, h.2.2.2⟩) (fun r U U' V V' h1 hal h2 h => ⟨h.1, h.2.elim fun B' q => ⟨B', q.1.mv h1 h2, q.2⟩⟩) ?_
  intro p e s m args below meth c s₁ X0 hexec hbytes hml hret hlk hnm hown hh0 W hP
  obtain ⟨rfl, hA, hB, hne, l1, l2, hp⟩ := hP
  have c1 : Steps p.tables e below (s₁.setTop (entryFrame m #[.ref b, .int (Int32.ofNat o), .ref d, .int (Int32.ofNat q), .int (Int32.ofNat len)] 7)) (s₁.setTop (mkF m 0 #[.val (.ref b), .val (.int (Int32.ofNat o)), .val (.ref d), .val (.int (Int32.ofNat q)), .val (.int (Int32.ofNat len)), .unset, .unset] [])) := entry rfl
  have hA0 := hA.1.mv X0.warmed.alike hh0
  have hB0 := hB.mv X0.warmed.alike hh0
  have a31 := hA.1.2.2.2
  have c2 : Steps p.tables e below (s₁.setTop (entryFrame m #[.ref b, .int (Int32.ofNat o), .ref d, .int (Int32.ofNat q), .int (Int32.ofNat len)] 7)) (s₁.setTop (mkF m 3 #[.val (.ref b), .val (.int (Int32.ofNat o)), .val (.ref d), .val (.int (Int32.ofNat q)), .val (.int (Int32.ofNat len)), .val (.int 0), .unset] [])) := c1.trans (by
    refine iconstV X0.here hexec rfl 0 (hb hbytes d0) (by decide) ?_
    refine XS.istore X0.here hexec rfl (hb hbytes d1) rfl rfl ?_
    exact Steps.refl _)
  have loop : ∀ (r i : Nat), i + r = len → ∀ (z : Slot), (z = .unset ∨ ∃ w, z = .val w ∧ w.category = 1) → ∀ (Tl : State) (Bk : Cell), Stand p l e { frames := 0, locals := 0, cells := 0, slots := 0 } s m #[.ref b, .int (Int32.ofNat o), .ref d, .int (Int32.ofNat q), .int (Int32.ofNat len)] below meth c Tl ([] ++ copyLocs d q i) 0 0 → Put d Bk s₁ Tl → Laid B Bk q (q + i) (fun j => Value.int (lo8 (cv A (o + (j - q))))) →
      Steps p.tables e below (s₁.setTop (entryFrame m #[.ref b, .int (Int32.ofNat o), .ref d, .int (Int32.ofNat q), .int (Int32.ofNat len)] 7)) (Tl.setTop (mkF m 3 #[.val (.ref b), .val (.int (Int32.ofNat (o + i))), .val (.ref d), .val (.int (Int32.ofNat (q + i))), .val (.int (Int32.ofNat len)), .val (.int (Int32.ofNat i)), z] [])) → ∃ (T' : State) (B' : Cell) (z' : Slot), Stand p l e { frames := 0, locals := 0, cells := 0, slots := 0 } s m #[.ref b, .int (Int32.ofNat o), .ref d, .int (Int32.ofNat q), .int (Int32.ofNat len)] below meth c T' ([] ++ copyLocs d q len) 0 0 ∧ Put d B' s₁ T' ∧ Laid B B' q (q + len) (fun j => Value.int (lo8 (cv A (o + (j - q))))) ∧
      Steps p.tables e below (s₁.setTop (entryFrame m #[.ref b, .int (Int32.ofNat o), .ref d, .int (Int32.ofNat q), .int (Int32.ofNat len)] 7)) (T'.setTop (mkF m 3 #[.val (.ref b), .val (.int (Int32.ofNat (o + len))), .val (.ref d), .val (.int (Int32.ofNat (q + len))), .val (.int (Int32.ofNat len)), .val (.int (Int32.ofNat len)), z'] [])) := by
    intro r
    induction r with
    | zero =>
      intro i hi z hz Tl Bk Xl pl fl cl
      have hil : i = len := by omega
      rw [hil] at Xl fl cl
      exact ⟨Tl, Bk, z, Xl, pl, fl, cl⟩
    | succ r ih =>
      intro i hi z hz Tl Bk Xl pl fl cl
      have all := X0.warmed.alike.symm.trans Xl.warmed.alike
      have hAl := hA0.keep all (pl.other hne hA0.1)
      have hBk := hB0.like all pl.1 fl.1 fl.2.1 fl.2.2.1
      have hlt : q + i < Bk.slots.size := by rw [fl.2.2.1]; omega
      have c3 : Steps p.tables e below (s₁.setTop (entryFrame m #[.ref b, .int (Int32.ofNat o), .ref d, .int (Int32.ofNat q), .int (Int32.ofNat len)] 7)) (Tl.setTop (mkF m 12 #[.val (.ref b), .val (.int (Int32.ofNat (o + i))), .val (.ref d), .val (.int (Int32.ofNat (q + i))), .val (.int (Int32.ofNat len)), .val (.int (Int32.ofNat i)), z] [.int (Int32.ofNat (o + i)), .ref b])) := cl.trans (by
        refine XS.iload Xl.here hexec rfl (hb hbytes d3) rfl ?_
        refine XS.iload Xl.here hexec rfl (hb hbytes d5) rfl ?_
        refine XS.icmpNo Xl.here hexec rfl (hb hbytes d7) rfl (ii_ge_f (lt32 (by omega) (by omega))) ?_
        refine XS.aloadN Xl.here hexec rfl (hb hbytes d10) rfl rfl ?_
        refine XS.iloadN Xl.here hexec rfl (hb hbytes d11) rfl ?_
        exact Steps.refl _)
      have c4 : Steps p.tables e below (s₁.setTop (entryFrame m #[.ref b, .int (Int32.ofNat o), .ref d, .int (Int32.ofNat q), .int (Int32.ofNat len)] 7)) (Tl.setTop (mkF m 13 #[.val (.ref b), .val (.int (Int32.ofNat (o + i))), .val (.ref d), .val (.int (Int32.ofNat (q + i))), .val (.int (Int32.ofNat len)), .val (.int (Int32.ofNat i)), z] [.int (cv A (o + i))])) := c3.trans (by
        refine Xl.aget hexec hAl rfl (hA.get (i := o + i) (by omega)) rfl rfl (hb hbytes d12) ?_
        exact Steps.refl _)
      have c5 : Steps p.tables e below (s₁.setTop (entryFrame m #[.ref b, .int (Int32.ofNat o), .ref d, .int (Int32.ofNat q), .int (Int32.ofNat len)] 7)) (Tl.setTop (mkF m 15 #[.val (.ref b), .val (.int (Int32.ofNat (o + i))), .val (.ref d), .val (.int (Int32.ofNat (q + i))), .val (.int (Int32.ofNat len)), .val (.int (Int32.ofNat i)), .val (.int (cv A (o + i)))] [])) := c4.trans (by
        refine XS.istoreS Xl.here hexec rfl (hb hbytes d13) rfl rfl hz ?_
        exact Steps.refl _)
      have c6 : Steps p.tables e below (s₁.setTop (entryFrame m #[.ref b, .int (Int32.ofNat o), .ref d, .int (Int32.ofNat q), .int (Int32.ofNat len)] 7)) (Tl.setTop (mkF m 31 #[.val (.ref b), .val (.int (Int32.ofNat (o + i))), .val (.ref d), .val (.int (Int32.ofNat (q + i))), .val (.int (Int32.ofNat len)), .val (.int (Int32.ofNat i)), .val (.int (cv A (o + i)))] [.int (lo8 (cv A (o + i))), .int (Int32.ofNat (q + i)), .ref d])) := c5.trans (by
        refine XS.iload Xl.here hexec rfl (hb hbytes d15) rfl ?_
        refine sipushV Xl.here hexec rfl 255 (hb hbytes d17) (by decide) ?_
        refine XS.icmpYes Xl.here hexec rfl (pc0 := 20) rfl (hb hbytes d20) rfl (ii_le_t (hp i (by omega))) (by decide) rfl ?_
        refine XS.aloadN Xl.here hexec rfl (hb hbytes d26) rfl rfl ?_
        refine XS.iloadN Xl.here hexec rfl (hb hbytes d27) rfl ?_
        refine XS.iload Xl.here hexec rfl (hb hbytes d28) rfl ?_
        refine i2b Xl.here hexec rfl (hb hbytes d30) rfl ?_
        exact Steps.refl _)
      obtain ⟨T7, X7, p7, st7⟩ := Xl.aput hexec hBk rfl hlt rfl (fits_lo8 (cv A (o + i))) (g := (mkF m 31 #[.val (.ref b), .val (.int (Int32.ofNat (o + i))), .val (.ref d), .val (.int (Int32.ofNat (q + i))), .val (.int (Int32.ofNat len)), .val (.int (Int32.ofNat i)), .val (.int (cv A (o + i)))] [.int (lo8 (cv A (o + i))), .int (Int32.ofNat (q + i)), .ref d])) rfl (rest := []) rfl (hb hbytes d31)
      have c8 : Steps p.tables e below (s₁.setTop (entryFrame m #[.ref b, .int (Int32.ofNat o), .ref d, .int (Int32.ofNat q), .int (Int32.ofNat len)] 7)) (T7.setTop (mkF m 32 #[.val (.ref b), .val (.int (Int32.ofNat (o + i))), .val (.ref d), .val (.int (Int32.ofNat (q + i))), .val (.int (Int32.ofNat len)), .val (.int (Int32.ofNat i)), .val (.int (cv A (o + i)))] [])) := c6.trans (st7 _ (Steps.refl _))
      have c9 : Steps p.tables e below (s₁.setTop (entryFrame m #[.ref b, .int (Int32.ofNat o), .ref d, .int (Int32.ofNat q), .int (Int32.ofNat len)] 7)) (T7.setTop (mkF m 3 #[.val (.ref b), .val (.int (Int32.ofNat (o + i) + 1)), .val (.ref d), .val (.int (Int32.ofNat (q + i) + 1)), .val (.int (Int32.ofNat len)), .val (.int (Int32.ofNat i + 1)), .val (.int (cv A (o + i)))] [])) := c8.trans (by
        refine iincV X7.here hexec rfl 1 (hb hbytes d32) (by decide) rfl rfl ?_
        refine iincV X7.here hexec rfl 1 (hb hbytes d35) (by decide) rfl rfl ?_
        refine iincV X7.here hexec rfl 1 (hb hbytes d38) (by decide) rfl rfl ?_
        refine XS.goto X7.here hexec rfl (pc0 := 41) rfl (hb hbytes d41) (by decide) rfl ?_
        exact Steps.refl _)
      have c10 : Steps p.tables e below (s₁.setTop (entryFrame m #[.ref b, .int (Int32.ofNat o), .ref d, .int (Int32.ofNat q), .int (Int32.ofNat len)] 7)) (T7.setTop (mkF m 3 #[.val (.ref b), .val (.int (Int32.ofNat (o + (i + 1)))), .val (.ref d), .val (.int (Int32.ofNat (q + (i + 1)))), .val (.int (Int32.ofNat len)), .val (.int (Int32.ofNat (i + 1))), .val (.int (cv A (o + i)))] [])) := by
        have := c9
        rw [succ32, succ32, succ32] at this
        exact this
      exact ih (i + 1) (by omega) _ (Or.inr ⟨_, rfl, rfl⟩) T7 _ (by rw [copyLocs_step, ← List.append_assoc]; exact X7) (pl.trans p7) (fl.step (by omega) hlt (by simp)) c10
  obtain ⟨T9, B9, z9, X9, p9, f9, g9⟩ := loop len 0 (by omega) .unset (Or.inl rfl) s₁ B (by simpa [copyLocs] using X0) ⟨hB0.1, fun _ _ => rfl, rfl⟩ (Laid.zero _ _ _) c2
  have c11 : Steps p.tables e below (s₁.setTop (entryFrame m #[.ref b, .int (Int32.ofNat o), .ref d, .int (Int32.ofNat q), .int (Int32.ofNat len)] 7)) (T9.setTop (mkF m 46 #[.val (.ref b), .val (.int (Int32.ofNat (o + len))), .val (.ref d), .val (.int (Int32.ofNat (q + len))), .val (.int (Int32.ofNat len)), .val (.int (Int32.ofNat len)), z9] [.int (Int32.ofNat len)])) := g9.trans (by
    refine XS.iload X9.here hexec rfl (hb hbytes d3) rfl ?_
    refine XS.iload X9.here hexec rfl (hb hbytes d5) rfl ?_
    refine XS.icmpYes X9.here hexec rfl (pc0 := 7) rfl (hb hbytes d7) rfl (ii_ge_t (nlt32 (by omega) (Nat.le_refl _))) (by decide) rfl ?_
    refine XS.iload X9.here hexec rfl (hb hbytes d44) rfl ?_
    exact Steps.refl _)
  exact ⟨T9, some (.int (Int32.ofNat len)), _, _, _, X9, by simp, rfl, rfl, (fun h => by cases h), ⟨rfl, B9, p9.from hh0, f9⟩, fun fs hl => c11.trans (X9.ireturnOut hexec hret rfl (Or.inl rfl) (hb hbytes d46) hl)⟩
end Cmp5
namespace Cmp3
def yN : MethodName := ⟨"java/lang/StringUTF16", "compress", "([CII)[B"⟩
abbrev yB : ByteArray := jdk_52_method_16_code
theorem d0 : decode yB 0 = .ok (.iload_n 2, 1) := by decide +kernel
theorem d1 : decode yB 1 = .ok (.newarray .byte, 2) := by decide +kernel
theorem d3 : decode yB 3 = .ok (.astore_n 3, 1) := by decide +kernel
theorem d4 : decode yB 4 = .ok (.aload_n 0, 1) := by decide +kernel
theorem d5 : decode yB 5 = .ok (.iload_n 1, 1) := by decide +kernel
theorem d6 : decode yB 6 = .ok (.aload_n 3, 1) := by decide +kernel
theorem d7 : decode yB 7 = .ok (.iconst 0, 1) := by decide +kernel
theorem d8 : decode yB 8 = .ok (.iload_n 2, 1) := by decide +kernel
theorem d9 : decode yB 9 = .ok (.invokestatic 115, 3) := by decide +kernel
theorem d12 : decode yB 12 = .ok (.istore 4, 2) := by decide +kernel
theorem d14 : decode yB 14 = .ok (.iload 4, 2) := by decide +kernel
theorem d16 : decode yB 16 = .ok (.iload_n 2, 1) := by decide +kernel
theorem d17 : decode yB 17 = .ok (.if_icmp (.eq) 40, 3) := by decide +kernel
theorem d57 : decode yB 57 = .ok (.aload_n 3, 1) := by decide +kernel
theorem d58 : decode yB 58 = .ok (.areturn, 1) := by decide +kernel
def site : List Cond := [.arrayClass .byte, Cmp5.tab] ++ staticW U16 115 Cmp5.yN
def tab : Cond := tabOf yN yB 6 (some (.array .byte)) site
def P (b : Addr) (A : Cell) (o len : Nat) (args : Array Value) (s : State) : Prop := args = #[.ref b, .int (Int32.ofNat o), .int (Int32.ofNat len)] ∧ Ch b A s ∧ o + len ≤ A.slots.size ∧ len ≤ 536870912 ∧ ∀ i, i < len → ¬ 255 < cv A (o + i)
def E (b : Addr) (A : Cell) (o len : Nat) (r : Option Value) (s u : State) : Prop := NewArr .byte "[B" len (fun j => .int (lo8 (cv A (o + j)))) r s u ∧ u.heap.size = s.heap.size + 1
/-- no char of the range above 255: a new byte[] of their low bytes -/
theorem law (l : Launch) (b : Addr) (A : Cell) (o len : Nat) : Law l yN 3 3 1 18 yB 6 (some (.array .byte)) site (P b A o len) (E b A o len) [] 1 len := by
  refine Law.of_walk (plainFor_of_name (by decide +kernel)) (by decide +kernel) (by decide +kernel) (by decide) (fun _ _ h => by rw [h.1]; rfl) (fun _ U U' hal hh h => ⟨h.1, h.2.1.mv hal hh, h.2.2⟩) (fun r U U' V V' h1 hal h2 h => ⟨NewArr.mv r U U' V V' h1 hal h2 h.1, by rw [h1, h2]; exact h.2⟩) ?_
  intro p e s m args below meth c s₁ X0 hexec hbytes hml hret hlk hnm hown hh0 W hP
  obtain ⟨rfl, hA, l1, l2, hp⟩ := hP
  have a31 := hA.1.2.2.2
  have c1 : Steps p.tables e below (s₁.setTop (entryFrame m #[.ref b, .int (Int32.ofNat o), .int (Int32.ofNat len)] 6)) (s₁.setTop (mkF m 0 #[.val (.ref b), .val (.int (Int32.ofNat o)), .val (.int (Int32.ofNat len)), .unset, .unset, .unset] [])) := entry rfl
  have c2 : Steps p.tables e below (s₁.setTop (entryFrame m #[.ref b, .int (Int32.ofNat o), .int (Int32.ofNat len)] 6)) (s₁.setTop (mkF m 1 #[.val (.ref b), .val (.int (Int32.ofNat o)), .val (.int (Int32.ofNat len)), .unset, .unset, .unset] [.int (Int32.ofNat len)])) := c1.trans (by
    refine XS.iloadN X0.here hexec rfl (hb hbytes d0) rfl ?_
    exact Steps.refl _)
  obtain ⟨T3, B3, X3, ba3, bs3, bv3, bh3, bf3, st3⟩ := X0.anew hexec (atype := .byte) (wk W (.arrayClass .byte)) rfl (by show len * 1 ≤ _; omega) (by omega) (g := (mkF m 1 #[.val (.ref b), .val (.int (Int32.ofNat o)), .val (.int (Int32.ofNat len)), .unset, .unset, .unset] [.int (Int32.ofNat len)])) rfl (hb hbytes d1) (rest := []) rfl (Nat.le_refl _) (by show 0 + len ≤ len; omega)
  rw [hh0] at ba3 st3
  have kp3 : XT.Kept s T3 := (XT.Kept.of_eq hh0).push bh3
  have hA3 := hA.keep X3.warmed.alike (kp3 _ _ hA.1.1)
  have hne : b ≠ s.heap.size := hA.1.ne
  have c4 : Steps p.tables e below (s₁.setTop (entryFrame m #[.ref b, .int (Int32.ofNat o), .int (Int32.ofNat len)] 6)) (T3.setTop (mkF m 3 #[.val (.ref b), .val (.int (Int32.ofNat o)), .val (.int (Int32.ofNat len)), .unset, .unset, .unset] [.ref s.heap.size])) := c2.trans (st3 _ (Steps.refl _))
  have c5 : Steps p.tables e below (s₁.setTop (entryFrame m #[.ref b, .int (Int32.ofNat o), .int (Int32.ofNat len)] 6)) (T3.setTop (mkF m 9 #[.val (.ref b), .val (.int (Int32.ofNat o)), .val (.int (Int32.ofNat len)), .val (.ref s.heap.size), .unset, .unset] [.int (Int32.ofNat len), .int 0, .ref s.heap.size, .int (Int32.ofNat o), .ref b])) := c4.trans (by
    refine XS.astoreN X3.here hexec rfl (hb hbytes d3) rfl rfl rfl ?_
    refine XS.aloadN X3.here hexec rfl (hb hbytes d4) rfl rfl ?_
    refine XS.iloadN X3.here hexec rfl (hb hbytes d5) rfl ?_
    refine XS.aloadN X3.here hexec rfl (hb hbytes d6) rfl rfl ?_
    refine iconstV X3.here hexec rfl 0 (hb hbytes d7) (by decide) ?_
    refine XS.iloadN X3.here hexec rfl (hb hbytes d8) rfl ?_
    exact Steps.refl _)
  obtain ⟨v6, T6, X6, E6, g6⟩ := X3.callS hexec (Cmp5.law l b A s.heap.size B3 o 0 len) hown (wks W (staticW U16 115 Cmp5.yN)) (wk W Cmp5.tab) (W := 0) (Nat.le_of_ble_eq_true rfl) (Nat.le_of_ble_eq_true rfl) (Nat.le_refl _) (by show 0 + len + 0 ≤ len; omega) (g := (mkF m 9 #[.val (.ref b), .val (.int (Int32.ofNat o)), .val (.int (Int32.ofNat len)), .val (.ref s.heap.size), .unset, .unset] [.int (Int32.ofNat len), .int (Int32.ofNat 0), .ref s.heap.size, .int (Int32.ofNat o), .ref b])) rfl (by rw [hml]; rfl) c5 (argsL := [.ref b, .int (Int32.ofNat o), .ref s.heap.size, .int (Int32.ofNat 0), .int (Int32.ofNat len)]) (rest := []) rfl rfl (by show 2 * 0 + 0 ≤ _; decide) (hb hbytes d9) (⟨rfl, hA3, ba3, hne, l1, by rw [bs3]; simp, hp⟩)
  obtain ⟨rfl, B6, p6, f6⟩ := E6
  have c7 : Steps p.tables e below (s₁.setTop (entryFrame m #[.ref b, .int (Int32.ofNat o), .int (Int32.ofNat len)] 6)) (T6.setTop (mkF m 12 #[.val (.ref b), .val (.int (Int32.ofNat o)), .val (.int (Int32.ofNat len)), .val (.ref s.heap.size), .unset, .unset] [.int (Int32.ofNat len)])) := g6
  have c8 : Steps p.tables e below (s₁.setTop (entryFrame m #[.ref b, .int (Int32.ofNat o), .int (Int32.ofNat len)] 6)) (T6.setTop (mkF m 58 #[.val (.ref b), .val (.int (Int32.ofNat o)), .val (.int (Int32.ofNat len)), .val (.ref s.heap.size), .val (.int (Int32.ofNat len)), .unset] [.ref s.heap.size])) := c7.trans (by
    refine XS.istore X6.here hexec rfl (hb hbytes d12) rfl rfl ?_
    refine XS.iload X6.here hexec rfl (hb hbytes d14) rfl ?_
    refine XS.iloadN X6.here hexec rfl (hb hbytes d16) rfl ?_
    refine XS.icmpYes X6.here hexec rfl (pc0 := 17) rfl (hb hbytes d17) rfl (ii_eq_t rfl) (by decide) rfl ?_
    refine XS.aloadN X6.here hexec rfl (hb hbytes d57) rfl rfl ?_
    exact Steps.refl _)
  have X8 := X6.wide (L' := []) (cells' := 1) (slots' := len) (fun x hx hlt => by
    simp only [List.nil_append, copyLocs, List.mem_map, List.mem_range] at hx
    obtain ⟨i, -, rfl⟩ := hx
    exact absurd hlt (Nat.lt_irrefl _)) (Nat.le_refl _) (by omega)
  exact ⟨T6, some (.ref s.heap.size), _, _, _, X8, rfl, rfl, rfl, (fun h => by cases h), ⟨⟨rfl, B6, ba3.like (X3.warmed.alike.symm.trans X6.warmed.alike) p6.1 f6.1 f6.2.1 f6.2.2.1, f6.2.1.trans bv3, by rw [X6.warmed.alike.findClass, f6.1]; exact bf3, by rw [f6.2.2.1, bs3]; simp, fun j hj => by rw [f6.2.2.2 j, if_pos (by omega)]; rfl, kp3.put p6 (Nat.le_refl _)⟩, by rw [p6.2.2, bh3, hh0]; simp⟩, fun fs hl => c8.trans (X8.areturnOut hexec rfl hret rfl (hb hbytes d58) hl)⟩
end Cmp3
namespace CodL
def yN : MethodName := ⟨"java/lang/StringUTF16", "coderFromArrayLen", "([BI)B"⟩
abbrev yB : ByteArray := jdk_52_method_15_code
theorem d0 : decode yB 0 = .ok (.iload_n 1, 1) := by decide +kernel
theorem d1 : decode yB 1 = .ok (.aload_n 0, 1) := by decide +kernel
theorem d2 : decode yB 2 = .ok (.arraylength, 1) := by decide +kernel
theorem d3 : decode yB 3 = .ok (.isub, 1) := by decide +kernel
theorem d4 : decode yB 4 = .ok (.bipush 31, 2) := by decide +kernel
theorem d6 : decode yB 6 = .ok (.iushr, 1) := by decide +kernel
theorem d7 : decode yB 7 = .ok (.i2b, 1) := by decide +kernel
theorem d8 : decode yB 8 = .ok (.ireturn, 1) := by decide +kernel
def site : List Cond := []
def tab : Cond := tabOf yN yB 2 (some .byte) site
def P (d : Addr) (B : Cell) (args : Array Value) (s : State) : Prop := args = #[.ref d, .int (Int32.ofNat B.slots.size)] ∧ Arr .byte d B s
def E (r : Option Value) (s u : State) : Prop := XT.PureE (some (.int 0)) r s u
/-- an array as long as the number of chars: LATIN1 -/
theorem law (l : Launch) (d : Addr) (B : Cell) : Law l yN 2 2 0 0 yB 2 (some .byte) site (P d B) E [] 0 0 := by
  refine Law.of_walk (plainFor_of_name (by decide +kernel)) (by decide +kernel) (by decide +kernel) (by decide) (fun _ _ h => by rw [h.1]; rfl) (fun _ U U' hal hh h => ⟨h.1, h.2.mv hal hh⟩) (fun r U U' V V' h1 hal h2 h => XT.PureE.mv r U U' V V' h1 hal h2 h) ?_
  intro p e s m args below meth c s₁ X0 hexec hbytes hml hret hlk hnm hown hh0 W hP
  obtain ⟨rfl, hB⟩ := hP
  have hB0 := hB.mv X0.warmed.alike hh0
  have c1 : Steps p.tables e below (s₁.setTop (entryFrame m #[.ref d, .int (Int32.ofNat B.slots.size)] 2)) (s₁.setTop (mkF m 0 #[.val (.ref d), .val (.int (Int32.ofNat B.slots.size))] [])) := entry rfl
  have c2 : Steps p.tables e below (s₁.setTop (entryFrame m #[.ref d, .int (Int32.ofNat B.slots.size)] 2)) (s₁.setTop (mkF m 2 #[.val (.ref d), .val (.int (Int32.ofNat B.slots.size))] [.ref d, .int (Int32.ofNat B.slots.size)])) := c1.trans (by
    refine XS.iloadN X0.here hexec rfl (hb hbytes d0) rfl ?_
    refine XS.aloadN X0.here hexec rfl (hb hbytes d1) rfl rfl ?_
    exact Steps.refl _)
  have c3 : Steps p.tables e below (s₁.setTop (entryFrame m #[.ref d, .int (Int32.ofNat B.slots.size)] 2)) (s₁.setTop (mkF m 8 #[.val (.ref d), .val (.int (Int32.ofNat B.slots.size))] [.int (lo8 (ushr (Int32.ofNat B.slots.size - Int32.ofNat B.slots.size) 31))])) := c2.trans (by
    refine X0.alen hexec hB0 rfl rfl (hb hbytes d2) ?_
    refine XS.isub X0.here hexec rfl (hb hbytes d3) rfl ?_
    refine bipushV X0.here hexec rfl 31 (hb hbytes d4) (by decide) ?_
    refine iushr X0.here hexec rfl (hb hbytes d6) rfl ?_
    refine i2b X0.here hexec rfl (hb hbytes d7) rfl ?_
    exact Steps.refl _)
  have e0 : lo8 (ushr (Int32.ofNat B.slots.size - Int32.ofNat B.slots.size) 31) = 0 := by rw [Int32.sub_self]; decide
  rw [e0] at c3
  exact ⟨s₁, some (.int 0), _, _, _, X0, rfl, rfl, rfl, (fun h => by cases h), ⟨rfl, hh0⟩, fun fs hl => c3.trans (X0.ireturnOut hexec hret rfl (Or.inr (Or.inr (Or.inl rfl))) (hb hbytes d8) hl)⟩
end CodL
/-- the String at a is Latin-1 over a new byte[] (the heap's one new cell): the low bytes of the len chars of A from o on; every cell but a is kept -/
def Got (a : Addr) (D : Cell) (fV fC : Field) (A : Cell) (o len : Nat) (r : Option Value) (s u : State) : Prop := r = none ∧ ∃ D' V : Cell, Blank "java/lang/String" a D' u ∧ Same D D' [fV.slot, fC.slot] ∧ D'.slots[fV.slot]? = some (.ref s.heap.size) ∧ D'.slots[fC.slot]? = some (.int 0) ∧ Arr .byte s.heap.size V u ∧ V.vm = .none ∧ u.vm.findClass "[B" = some V.cls ∧ V.slots.size = len ∧ (∀ j, j < len → V.slots[j]? = some (.int (lo8 (cv A (o + j))))) ∧ (∀ (y : Addr) (c : Cell), y ≠ a → s.heap[y]? = some c → u.heap[y]? = some c) ∧ u.heap.size = s.heap.size + 1
theorem Got.mv {a : Addr} {D A : Cell} {fV fC : Field} {o len : Nat} : ∀ r (U U' V V' : State), U'.heap = U.heap → V.vm.Alike V'.vm → V'.heap = V.heap → Got a D fV fC A o len r U V → Got a D fV fC A o len r U' V' :=
  fun r U U' V V' h1 hal h2 ⟨e0, D', X, a1, a2, a3, a4, a5, a6, a7, a8, a9, a10, a11⟩ => ⟨e0, D', X, a1.mv hal h2, a2, by rw [h1]; exact a3, a4, by rw [h1]; exact a5.mv hal h2, a6, by rw [hal.findClass]; exact a7, a8, a9, by rw [h1, h2]; exact a10, by rw [h1, h2]; exact a11⟩
namespace New4
def yN : MethodName := ⟨"java/lang/String", "<init>", "([CIILjava/lang/Void;)V"⟩
abbrev yB : ByteArray := jdk_42_method_149_code
theorem d0 : decode yB 0 = .ok (.aload_n 0, 1) := by decide +kernel
theorem d1 : decode yB 1 = .ok (.invokespecial 1, 3) := by decide +kernel
theorem d4 : decode yB 4 = .ok (.iload_n 3, 1) := by decide +kernel
theorem d5 : decode yB 5 = .ok (.ifCond (.ne) 22, 3) := by decide +kernel
theorem d27 : decode yB 27 = .ok (.getstatic 38, 3) := by decide +kernel
theorem d30 : decode yB 30 = .ok (.ifCond (.eq) 28, 3) := by decide +kernel
theorem d33 : decode yB 33 = .ok (.aload_n 1, 1) := by decide +kernel
theorem d34 : decode yB 34 = .ok (.iload_n 2, 1) := by decide +kernel
theorem d35 : decode yB 35 = .ok (.iload_n 3, 1) := by decide +kernel
theorem d36 : decode yB 36 = .ok (.invokestatic 177, 3) := by decide +kernel
theorem d39 : decode yB 39 = .ok (.astore 5, 2) := by decide +kernel
theorem d41 : decode yB 41 = .ok (.aload_n 0, 1) := by decide +kernel
theorem d42 : decode yB 42 = .ok (.aload 5, 2) := by decide +kernel
theorem d44 : decode yB 44 = .ok (.iload_n 3, 1) := by decide +kernel
theorem d45 : decode yB 45 = .ok (.invokestatic 47, 3) := by decide +kernel
theorem d48 : decode yB 48 = .ok (.putfield 15, 3) := by decide +kernel
theorem d51 : decode yB 51 = .ok (.aload_n 0, 1) := by decide +kernel
theorem d52 : decode yB 52 = .ok (.aload 5, 2) := by decide +kernel
theorem d54 : decode yB 54 = .ok (.putfield 9, 3) := by decide +kernel
theorem d57 : decode yB 57 = .ok (.return_, 1) := by decide +kernel
def site : List Cond := [.fieldLink "java/lang/String" 38 "java/lang/String" "COMPACT_STRINGS" "Z", Cmp3.tab, CodL.tab, .laysFinal "java/lang/String" "java/lang/String" "value" "[B", .fieldLink "java/lang/String" 9 "java/lang/String" "value" "[B", .laysFinal "java/lang/String" "java/lang/String" "coder" "B", .fieldLink "java/lang/String" 15 "java/lang/String" "coder" "B"] ++ objW "java/lang/String" 1 ++ staticW "java/lang/String" 177 Cmp3.yN ++ staticW "java/lang/String" 47 CodL.yN
def tab : Cond := tabOf yN yB 6 none site
def P (a : Addr) (D : Cell) (fV fC : Field) (b : Addr) (A : Cell) (z : Int32) (o len : Nat) (args : Array Value) (s : State) : Prop := args = #[.ref a, .ref b, .int (Int32.ofNat o), .int (Int32.ofNat len), .null] ∧ Blank "java/lang/String" a D s ∧ Found "java/lang/String" "value" "[B" fV s ∧ Found "java/lang/String" "coder" "B" fC s ∧ Ch b A s ∧ StaticIs s "java/lang/String" "COMPACT_STRINGS" "Z" (.int z) ∧ ¬ z = 0 ∧ 0 < len ∧ o + len ≤ A.slots.size ∧ len ≤ 536870912 ∧ ∀ i, i < len → ¬ 255 < cv A (o + i)
def E (a : Addr) (D : Cell) (fV fC : Field) (A : Cell) (o len : Nat) (r : Option Value) (s u : State) : Prop := Got a D fV fC A o len r s u
/-- len > 0, no char of the range above 255: a Latin-1 String of their low bytes -/
theorem law (l : Launch) (a : Addr) (D : Cell) (fV fC : Field) (b : Addr) (A : Cell) (z : Int32) (o len : Nat) : Law l yN 5 4 2 35 yB 6 none site (P a D fV fC b A z o len) (E a D fV fC A o len) [⟨a, fC.slot⟩, ⟨a, fV.slot⟩] 1 len := by
  refine Law.of_walk (plainFor_of_name (by decide +kernel)) (by decide +kernel) (by decide +kernel) (by decide) (fun _ _ h => by rw [h.1]; rfl) (fun _ U U' hal hh h => ⟨h.1, h.2.1.mv hal hh, h.2.2.1.al hal, h.2.2.2.1.al hal, h.2.2.2.2.1.mv hal hh, h.2.2.2.2.2.1.there hal hh, h.2.2.2.2.2.2⟩) (fun r U U' V V' h1 hal h2 h => Got.mv r U U' V V' h1 hal h2 h) ?_
  intro p e s m args below meth c s₁ X0 hexec hbytes hml hret hlk hnm hown hh0 W hP
  obtain ⟨rfl, hB, f1, f2, hA, s1, hz, l0, l1, l2, hp⟩ := hP
  have a31 := hA.1.2.2.2
  have c1 : Steps p.tables e below (s₁.setTop (entryFrame m #[.ref a, .ref b, .int (Int32.ofNat o), .int (Int32.ofNat len), .null] 6)) (s₁.setTop (mkF m 0 #[.val (.ref a), .val (.ref b), .val (.int (Int32.ofNat o)), .val (.int (Int32.ofNat len)), .val .null, .unset] [])) := entry rfl
  have c2 : Steps p.tables e below (s₁.setTop (entryFrame m #[.ref a, .ref b, .int (Int32.ofNat o), .int (Int32.ofNat len), .null] 6)) (s₁.setTop (mkF m 1 #[.val (.ref a), .val (.ref b), .val (.int (Int32.ofNat o)), .val (.int (Int32.ofNat len)), .val .null, .unset] [.ref a])) := c1.trans (by
    refine XS.aloadN X0.here hexec rfl (hb hbytes d0) rfl rfl ?_
    exact Steps.refl _)
  obtain ⟨T3, X3, q3, st3⟩ := X0.oinit hexec hown (wks W (objW "java/lang/String" 1)) (g := (mkF m 1 #[.val (.ref a), .val (.ref b), .val (.int (Int32.ofNat o)), .val (.int (Int32.ofNat len)), .val .null, .unset] [.ref a])) rfl (by rw [hml]; rfl) (rest := []) rfl (hb hbytes d1) (W := 0) (by show 2 * 0 + 0 ≤ _; decide) (Nat.le_of_ble_eq_true rfl) (Nat.le_of_ble_eq_true rfl)
  have hh3 := q3.trans hh0
  have c4 : Steps p.tables e below (s₁.setTop (entryFrame m #[.ref a, .ref b, .int (Int32.ofNat o), .int (Int32.ofNat len), .null] 6)) (T3.setTop (mkF m 27 #[.val (.ref a), .val (.ref b), .val (.int (Int32.ofNat o)), .val (.int (Int32.ofNat len)), .val .null, .unset] [])) := (c2.trans (st3 _ (Steps.refl _))).trans (by
    refine XS.iloadN X3.here hexec rfl (hb hbytes d4) rfl ?_
    refine XS.ifYes X3.here hexec rfl (pc0 := 5) rfl (hb hbytes d5) rfl (i0_ne_t (nz32 (by omega) l0)) (by decide) rfl ?_
    exact Steps.refl _)
  obtain ⟨T5, X5, q5, st5⟩ := X3.sget hexec hown (wk W (.fieldLink "java/lang/String" 38 "java/lang/String" "COMPACT_STRINGS" "Z")) s1 (fun _ _ h => by rw [hh3]; exact h) (g := (mkF m 27 #[.val (.ref a), .val (.ref b), .val (.int (Int32.ofNat o)), .val (.int (Int32.ofNat len)), .val .null, .unset] [])) rfl (hb hbytes d27)
  have hh5 := q5.trans hh3
  have c6 : Steps p.tables e below (s₁.setTop (entryFrame m #[.ref a, .ref b, .int (Int32.ofNat o), .int (Int32.ofNat len), .null] 6)) (T5.setTop (mkF m 30 #[.val (.ref a), .val (.ref b), .val (.int (Int32.ofNat o)), .val (.int (Int32.ofNat len)), .val .null, .unset] [.int z])) := c4.trans (st5 _ (Steps.refl _))
  have c7 : Steps p.tables e below (s₁.setTop (entryFrame m #[.ref a, .ref b, .int (Int32.ofNat o), .int (Int32.ofNat len), .null] 6)) (T5.setTop (mkF m 36 #[.val (.ref a), .val (.ref b), .val (.int (Int32.ofNat o)), .val (.int (Int32.ofNat len)), .val .null, .unset] [.int (Int32.ofNat len), .int (Int32.ofNat o), .ref b])) := c6.trans (by
    refine XS.ifNo X5.here hexec rfl (hb hbytes d30) rfl (i0_eq_f hz) ?_
    refine XS.aloadN X5.here hexec rfl (hb hbytes d33) rfl rfl ?_
    refine XS.iloadN X5.here hexec rfl (hb hbytes d34) rfl ?_
    refine XS.iloadN X5.here hexec rfl (hb hbytes d35) rfl ?_
    exact Steps.refl _)
  obtain ⟨v8, T8, X8, E8, g8⟩ := X5.callS hexec (Cmp3.law l b A o len) hown (wks W (staticW "java/lang/String" 177 Cmp3.yN)) (wk W Cmp3.tab) (W := 0) (Nat.le_of_ble_eq_true rfl) (Nat.le_of_ble_eq_true rfl) (Nat.le_refl _) (by show 0 + len ≤ len; omega) (g := (mkF m 36 #[.val (.ref a), .val (.ref b), .val (.int (Int32.ofNat o)), .val (.int (Int32.ofNat len)), .val .null, .unset] [.int (Int32.ofNat len), .int (Int32.ofNat o), .ref b])) rfl (by rw [hml]; rfl) c7 (argsL := [.ref b, .int (Int32.ofNat o), .int (Int32.ofNat len)]) (rest := []) rfl rfl (by show 2 * 0 + 0 ≤ _; decide) (hb hbytes d36) (⟨rfl, hA.mv X5.warmed.alike hh5, l1, l2, hp⟩)
  obtain ⟨e8, z8⟩ := E8
  obtain ⟨rfl, N, n1, n2, n3, n4, n5, n6⟩ := NewArr.mv _ T5 s _ _ hh5.symm (Vm.Alike.refl _) rfl e8
  rw [hh5] at z8
  have hB1 := hB.keep X8.warmed.alike (n6 _ _ hB.1)
  have hne : s.heap.size ≠ a := (Nat.ne_of_lt (Array.getElem?_eq_some_iff.mp hB.1).1).symm
  have c9 : Steps p.tables e below (s₁.setTop (entryFrame m #[.ref a, .ref b, .int (Int32.ofNat o), .int (Int32.ofNat len), .null] 6)) (T8.setTop (mkF m 39 #[.val (.ref a), .val (.ref b), .val (.int (Int32.ofNat o)), .val (.int (Int32.ofNat len)), .val .null, .unset] [.ref s.heap.size])) := g8
  have c10 : Steps p.tables e below (s₁.setTop (entryFrame m #[.ref a, .ref b, .int (Int32.ofNat o), .int (Int32.ofNat len), .null] 6)) (T8.setTop (mkF m 45 #[.val (.ref a), .val (.ref b), .val (.int (Int32.ofNat o)), .val (.int (Int32.ofNat len)), .val .null, .val (.ref s.heap.size)] [.int (Int32.ofNat N.slots.size), .ref s.heap.size, .ref a])) := by
    have hc : Steps p.tables e below (s₁.setTop (entryFrame m #[.ref a, .ref b, .int (Int32.ofNat o), .int (Int32.ofNat len), .null] 6)) (T8.setTop (mkF m 45 #[.val (.ref a), .val (.ref b), .val (.int (Int32.ofNat o)), .val (.int (Int32.ofNat len)), .val .null, .val (.ref s.heap.size)] [.int (Int32.ofNat len), .ref s.heap.size, .ref a])) := c9.trans (by
      refine XS.astore X8.here hexec rfl (hb hbytes d39) rfl rfl rfl ?_
      refine XS.aloadN X8.here hexec rfl (hb hbytes d41) rfl rfl ?_
      refine XS.aload X8.here hexec rfl (hb hbytes d42) rfl rfl ?_
      refine XS.iloadN X8.here hexec rfl (hb hbytes d44) rfl ?_
      exact Steps.refl _)
    rw [n4]; exact hc
  obtain ⟨v11, T11, X11, E11, g11⟩ := X8.callS hexec (CodL.law l s.heap.size N) hown (wks W (staticW "java/lang/String" 47 CodL.yN)) (wk W CodL.tab) (W := 1) (Nat.le_of_ble_eq_true rfl) (Nat.le_of_ble_eq_true rfl) (Nat.le_refl _) (by show 0 + len + 0 ≤ len; omega) (g := (mkF m 45 #[.val (.ref a), .val (.ref b), .val (.int (Int32.ofNat o)), .val (.int (Int32.ofNat len)), .val .null, .val (.ref s.heap.size)] [.int (Int32.ofNat N.slots.size), .ref s.heap.size, .ref a])) rfl (by rw [hml]; rfl) c10 (argsL := [.ref s.heap.size, .int (Int32.ofNat N.slots.size)]) (rest := [.ref a]) rfl rfl (by show 2 * 0 + (1 + 0) ≤ _; decide) (hb hbytes d45) (⟨rfl, n1⟩)
  obtain ⟨rfl, q11⟩ := E11
  have hB11 := hB1.mv (X8.warmed.alike.symm.trans X11.warmed.alike) q11
  have c12 : Steps p.tables e below (s₁.setTop (entryFrame m #[.ref a, .ref b, .int (Int32.ofNat o), .int (Int32.ofNat len), .null] 6)) (T11.setTop (mkF m 48 #[.val (.ref a), .val (.ref b), .val (.int (Int32.ofNat o)), .val (.int (Int32.ofNat len)), .val .null, .val (.ref s.heap.size)] [.int 0, .ref a])) := g11
  obtain ⟨T13, X13, p13, bl13, sl13, st13⟩ := X11.finit hexec hown (wk W (.fieldLink "java/lang/String" 15 "java/lang/String" "coder" "B")) (Or.inr ⟨_, (wk W (.laysFinal "java/lang/String" "java/lang/String" "coder" "B"))⟩) (Or.inl ⟨rfl, hnm⟩) f2 (Or.inl rfl) hB11 (t := .byte) (by decide +kernel) rfl (g := (mkF m 48 #[.val (.ref a), .val (.ref b), .val (.int (Int32.ofNat o)), .val (.int (Int32.ofNat len)), .val .null, .val (.ref s.heap.size)] [.int 0, .ref a])) rfl (rest := []) rfl (hb hbytes d48)
  have c14 : Steps p.tables e below (s₁.setTop (entryFrame m #[.ref a, .ref b, .int (Int32.ofNat o), .int (Int32.ofNat len), .null] 6)) (T13.setTop (mkF m 54 #[.val (.ref a), .val (.ref b), .val (.int (Int32.ofNat o)), .val (.int (Int32.ofNat len)), .val .null, .val (.ref s.heap.size)] [.ref s.heap.size, .ref a])) := (c12.trans (st13 _ (Steps.refl _))).trans (by
    refine XS.aloadN X13.here hexec rfl (hb hbytes d51) rfl rfl ?_
    refine XS.aload X13.here hexec rfl (hb hbytes d52) rfl rfl ?_
    exact Steps.refl _)
  obtain ⟨T15, X15, p15, bl15, sl15, st15⟩ := X13.finit hexec hown (wk W (.fieldLink "java/lang/String" 9 "java/lang/String" "value" "[B")) (Or.inr ⟨_, (wk W (.laysFinal "java/lang/String" "java/lang/String" "value" "[B"))⟩) (Or.inl ⟨rfl, hnm⟩) f1 (Or.inl rfl) bl13 (t := (.array .byte)) (by decide +kernel) rfl (g := (mkF m 54 #[.val (.ref a), .val (.ref b), .val (.int (Int32.ofNat o)), .val (.int (Int32.ofNat len)), .val .null, .val (.ref s.heap.size)] [.ref s.heap.size, .ref a])) rfl (rest := []) rfl (hb hbytes d54)
  have c16 : Steps p.tables e below (s₁.setTop (entryFrame m #[.ref a, .ref b, .int (Int32.ofNat o), .int (Int32.ofNat len), .null] 6)) (T15.setTop (mkF m 57 #[.val (.ref a), .val (.ref b), .val (.int (Int32.ofNat o)), .val (.int (Int32.ofNat len)), .val .null, .val (.ref s.heap.size)] [])) := c14.trans (st15 _ (Steps.refl _))
  have ap := apart (Or.inr ⟨_, (wk W (.laysFinal "java/lang/String" "java/lang/String" "value" "[B"))⟩) (Or.inr ⟨_, (wk W (.laysFinal "java/lang/String" "java/lang/String" "coder" "B"))⟩) f1 f2 (t₁ := .array .byte) (t₂ := .byte) (by decide +kernel) (by decide +kernel) (by decide)
  have al := X8.warmed.alike.symm.trans X15.warmed.alike
  have n7 : T11.heap[s.heap.size]? = some N := by rw [q11]; exact n1.1
  exact ⟨T15, none, _, _, _, X15, by simp, rfl, by omega, (fun _ => rfl), ⟨rfl, _, N, bl15, ((Same.refl D _).set _ (by simp)).set _ (by simp), sl15, (Cell.slots_setSlot_ne _ ap).trans sl13, n1.keep al (p15.other hne (p13.other hne n7)), n2, by rw [al.findClass]; exact n3, n4, n5, fun y c h1 h2 => p15.other h1 (p13.other h1 (by rw [q11]; exact n6 y c h2)), by rw [p15.2.2, p13.2.2, q11]; exact z8⟩, fun fs hl => c16.trans (X15.returnOut hexec hret (hb hbytes d57) hl)⟩
end New4
namespace New1
def yN : MethodName := ⟨"java/lang/String", "<init>", "([C)V"⟩
abbrev yB : ByteArray := jdk_42_method_3_code
theorem d0 : decode yB 0 = .ok (.aload_n 0, 1) := by decide +kernel
theorem d1 : decode yB 1 = .ok (.aload_n 1, 1) := by decide +kernel
theorem d2 : decode yB 2 = .ok (.iconst 0, 1) := by decide +kernel
theorem d3 : decode yB 3 = .ok (.aload_n 1, 1) := by decide +kernel
theorem d4 : decode yB 4 = .ok (.arraylength, 1) := by decide +kernel
theorem d5 : decode yB 5 = .ok (.aconst_null, 1) := by decide +kernel
theorem d6 : decode yB 6 = .ok (.invokespecial 27, 3) := by decide +kernel
theorem d9 : decode yB 9 = .ok (.return_, 1) := by decide +kernel
def site : List Cond := [New4.tab] ++ initW "java/lang/String" 27 New4.yN
def tab : Cond := tabOf yN yB 2 none site
def P (a : Addr) (D : Cell) (fV fC : Field) (b : Addr) (A : Cell) (z : Int32) (args : Array Value) (s : State) : Prop := args = #[.ref a, .ref b] ∧ Blank "java/lang/String" a D s ∧ Found "java/lang/String" "value" "[B" fV s ∧ Found "java/lang/String" "coder" "B" fC s ∧ Ch b A s ∧ StaticIs s "java/lang/String" "COMPACT_STRINGS" "Z" (.int z) ∧ ¬ z = 0 ∧ 0 < A.slots.size ∧ A.slots.size ≤ 536870912 ∧ ∀ i, i < A.slots.size → ¬ 255 < cv A i
def E (a : Addr) (D : Cell) (fV fC : Field) (A : Cell) (r : Option Value) (s u : State) : Prop := Got a D fV fC A 0 A.slots.size r s u
/-- new String(chars), not empty, no char above 255: a Latin-1 String of their low bytes -/
theorem law (l : Launch) (a : Addr) (D : Cell) (fV fC : Field) (b : Addr) (A : Cell) (z : Int32) : Law l yN 2 1 3 52 yB 2 none site (P a D fV fC b A z) (E a D fV fC A) [⟨a, fC.slot⟩, ⟨a, fV.slot⟩] 1 A.slots.size := by
  refine Law.of_walk (plainFor_of_name (by decide +kernel)) (by decide +kernel) (by decide +kernel) (by decide) (fun _ _ h => by rw [h.1]; rfl) (fun _ U U' hal hh h => ⟨h.1, h.2.1.mv hal hh, h.2.2.1.al hal, h.2.2.2.1.al hal, h.2.2.2.2.1.mv hal hh, h.2.2.2.2.2.1.there hal hh, h.2.2.2.2.2.2⟩) (fun r U U' V V' h1 hal h2 h => Got.mv r U U' V V' h1 hal h2 h) ?_
  intro p e s m args below meth c s₁ X0 hexec hbytes hml hret hlk hnm hown hh0 W hP
  obtain ⟨rfl, hB, f1, f2, hA, s1, hz, l0, l2, hp⟩ := hP
  have c1 : Steps p.tables e below (s₁.setTop (entryFrame m #[.ref a, .ref b] 2)) (s₁.setTop (mkF m 0 #[.val (.ref a), .val (.ref b)] [])) := entry rfl
  have c2 : Steps p.tables e below (s₁.setTop (entryFrame m #[.ref a, .ref b] 2)) (s₁.setTop (mkF m 6 #[.val (.ref a), .val (.ref b)] [.null, .int (Int32.ofNat A.slots.size), .int 0, .ref b, .ref a])) := c1.trans (by
    refine XS.aloadN X0.here hexec rfl (hb hbytes d0) rfl rfl ?_
    refine XS.aloadN X0.here hexec rfl (hb hbytes d1) rfl rfl ?_
    refine iconstV X0.here hexec rfl 0 (hb hbytes d2) (by decide) ?_
    refine XS.aloadN X0.here hexec rfl (hb hbytes d3) rfl rfl ?_
    refine X0.alen hexec (hA.1.mv X0.warmed.alike hh0) rfl rfl (hb hbytes d4) ?_
    refine XS.aconstNull X0.here hexec rfl (hb hbytes d5) ?_
    exact Steps.refl _)
  obtain ⟨v3, T3, X3, E3, g3⟩ := X0.callN hexec (New4.law l a D fV fC b A z 0 A.slots.size) rfl hown (wks W (initW "java/lang/String" 27 New4.yN)) (W New4.tab (by simp only [site, List.mem_cons, List.mem_append, true_or, or_true])) (W := 0) (Nat.le_of_ble_eq_true rfl) (Nat.le_of_ble_eq_true rfl) (Nat.le_refl _) (by show 0 + A.slots.size ≤ A.slots.size; omega) (g := (mkF m 6 #[.val (.ref a), .val (.ref b)] [.null, .int (Int32.ofNat A.slots.size), .int (Int32.ofNat 0), .ref b, .ref a])) rfl (by rw [hml]; rfl) c2 (argsL := [.ref b, .int (Int32.ofNat 0), .int (Int32.ofNat A.slots.size), .null]) (rest := []) rfl rfl (by show 2 * 0 + 0 ≤ _; decide) (hb hbytes d6) (⟨rfl, hB.mv X0.warmed.alike hh0, f1.al X0.warmed.alike, f2.al X0.warmed.alike, hA.mv X0.warmed.alike hh0, s1.there X0.warmed.alike hh0, hz, l0, by omega, l2, fun i hi => by rw [Nat.zero_add]; exact hp i hi⟩)
  have e0 := Got.mv _ s₁ s _ _ hh0.symm (Vm.Alike.refl _) rfl E3
  obtain rfl := e0.1
  have c4 : Steps p.tables e below (s₁.setTop (entryFrame m #[.ref a, .ref b] 2)) (T3.setTop (mkF m 9 #[.val (.ref a), .val (.ref b)] [])) := g3
  exact ⟨T3, none, _, _, _, X3, by simp, rfl, by omega, (fun _ => rfl), e0, fun fs hl => c4.trans (X3.returnOut hexec hret (hb hbytes d9) hl)⟩
theorem pays {l : Launch} {R : Room} {p : Program} {e : Env} {below : List Frame} {s : State} {sargs : Array Value} {len W : Nat} (a : Addr) (D : Cell) (fV fC : Field) (b : Addr) (A : Cell) (z : Int32) (htab : tab.before sargs s = true) (hfr : 4 ≤ R.frames) (hlo : W + 65 ≤ R.locals) :
    Back l R p e below s sargs yN len W (fun A₁ a₁ => A₁.cells + 1 ≤ R.cells ∧ A₁.slots + A.slots.size ≤ R.slots ∧ P a D fV fC b A z a₁ A₁.U) (fun A₁ _ v₁ B₁ => E a D fV fC A v₁ A₁.U B₁.U ∧ B₁.locs = A₁.locs ++ [⟨a, fC.slot⟩, ⟨a, fV.slot⟩] ∧ B₁.cells = A₁.cells + 1 ∧ B₁.slots = A₁.slots + A.slots.size) :=
  (law l a D fV fC b A z).pays htab hfr (by omega)
end New1
/-- the byte, read back as charAt reads it, is the char -/
theorem lo8_mask {x : Int32} (h0 : ¬ x < 0) (h1 : ¬ 255 < x) : lo8 x &&& 255 = x := by
  have t : ∀ k : Fin 256, lo8 (Int32.ofNat k.val) &&& 255 = Int32.ofNat k.val := by decide +kernel
  rw [Int32.lt_iff_toInt_lt] at h0 h1
  have e0 : (0 : Int32).toInt = 0 := rfl
  have e1 : (255 : Int32).toInt = 255 := rfl
  obtain ⟨k, hk⟩ : ∃ k : Nat, x.toInt = k := ⟨x.toInt.toNat, by omega⟩
  have hx : x = Int32.ofNat k := Int32.toInt_inj.mp (by rw [hk, Int32.toInt_ofNat_small (by omega)])
  rw [hx]
  exact t ⟨k, by omega⟩
end StrChars
namespace StrChars.Road
open Jvm Sem ClassFile Op Lib Jvm.Stand Jvm.Free Jvm.Free.XT
open Jvm.Lib.Cold (StaticIs)
abbrev ST : String := "java/lang/String"
/-- every table word that New1's law asks, flat -/
abbrev words : List Jvm.Cond := [.code New1.yN New1.yB 2 none, .initialized ST, .methodLink ST 27 New4.yN, .instanceMethod New4.yN,
  .code New4.yN New4.yB 6 none, .fieldLink ST 38 ST "COMPACT_STRINGS" "Z", .laysFinal ST ST "value" "[B", .fieldLink ST 9 ST "value" "[B", .laysFinal ST ST "coder" "B", .fieldLink ST 15 ST "coder" "B",
  .methodLink ST 1 Lib.objectInit, .instanceMethod Lib.objectInit, .code Lib.objectInit ⟨#[0xb1]⟩ 1 none, .methodLink ST 177 Cmp3.yN, .static Cmp3.yN, .methodLink ST 47 CodL.yN, .static CodL.yN,
  .code Cmp3.yN Cmp3.yB 6 (some (.array .byte)), .initialized U16, .arrayClass .byte, .methodLink U16 115 Cmp5.yN, .static Cmp5.yN, .code Cmp5.yN Cmp5.yB 7 (some .int), .code CodL.yN CodL.yB 2 (some .byte)]
theorem tab_of {a : Array Value} {s : State} (h : ∀ w ∈ words, w.before a s = true) : New1.tab.before a s = true := by
  have h5 : Cmp5.tab.before a s = true := unparts (wk h (.code Cmp5.yN Cmp5.yB 7 (some .int))) (wks h (.initialized Cmp5.yN.cls :: Cmp5.site))
  have hc : CodL.tab.before a s = true := unparts (wk h (.code CodL.yN CodL.yB 2 (some .byte))) (wks h (.initialized CodL.yN.cls :: CodL.site))
  have q5 : ∀ w ∈ Cmp5.tab :: words, w.before a s = true := fun w hw => (List.mem_cons.mp hw).elim (fun e => e ▸ h5) (h w)
  have h3 : Cmp3.tab.before a s = true := unparts (wk q5 (.code Cmp3.yN Cmp3.yB 6 (some (.array .byte)))) (wks q5 (.initialized Cmp3.yN.cls :: Cmp3.site))
  have q3 : ∀ w ∈ Cmp3.tab :: CodL.tab :: words, w.before a s = true := fun w hw => (List.mem_cons.mp hw).elim (fun e => e ▸ h3) fun hw => (List.mem_cons.mp hw).elim (fun e => e ▸ hc) (h w)
  have h4 : New4.tab.before a s = true := unparts (wk q3 (.code New4.yN New4.yB 6 none)) (wks q3 (.initialized New4.yN.cls :: New4.site))
  have q4 : ∀ w ∈ New4.tab :: words, w.before a s = true := fun w hw => (List.mem_cons.mp hw).elim (fun e => e ▸ h4) (h w)
  exact unparts (wk q4 (.code New1.yN New1.yB 2 none)) (wks q4 (.initialized New1.yN.cls :: New1.site))
/-- the words ride from the start Z to the walk's own state -/
theorem moved {Z s : State} {a0 args : Array Value} (hZ : Z.Warmed39 s.vm) (hw : ∀ d ∈ words, d.before a0 Z = true) : ∀ d ∈ words, d.before args s = true := fun d hd => by
  have q := hw d hd
  have t : ∀ d ∈ words, d = .arrayClass .byte ∨ (d.onTables && d.keepsFace) = true := by decide +kernel
  rcases t d hd with rfl | t
  · exact RoadKit.mvA hZ q
  · exact RoadKit.mv hZ q t
/-- WHAT COMES BACK, over the tables of the start Z: h the heap at the call, h' behind it -/
def Q (Z : State) (x : Addr) (A : Cell) (h : Heap) (v : Option Value) (h' : Heap) (L : List Loc) : Prop := v = none ∧ (∀ y ∈ L, y.base = x) ∧ RoadKit.Keep h h' [x] ∧ h'.size = h.size + 1 ∧ RoadKit.Exa Z h' x ST ∧ RoadKit.Fld Z h' x ST "value" "[B" (.ref h.size) ∧ RoadKit.Fld Z h' x ST "coder" "B" (.int 0) ∧
  (∃ V : Cell, RoadKit.Arr Z h' h.size V .byte ∧ V.vm = .none ∧ Z.vm.findClass "[B" = some V.cls ∧ V.slots.size = A.slots.size ∧ ∀ j, j < A.slots.size → V.slots[j]? = some (.int (lo8 (cv A j)))) ∧
  ∀ (O n d : String) (w : Value), RoadKit.Fld Z h x O n d w → RoadKit.slotOf Z O n d ≠ RoadKit.slotOf Z ST "value" "[B" → RoadKit.slotOf Z O n d ≠ RoadKit.slotOf Z ST "coder" "B" → RoadKit.Fld Z h' x O n d w
/-- **new String(chars) AT A CALL, IN THE ROAD'S FORM**: for specialBack behind newO: x the fresh String, b the char[] with the cell A -/
theorem back {p : Program} {l : Launch} {e : Env} {R : Room} {s : State} {args : Array Value} {below : List Frame} {len W : Nat} {Z : State} {a0 : Array Value} {h : Heap} (hZ : Z.Warmed39 s.vm) (hw : ∀ d ∈ words, d.before a0 Z = true) {kI : Nat} (wi : (Jvm.Cond.instantiable ST kI).before a0 Z = true)
    {x b : Addr} {A : Cell} {z : Int32} {v0 c0 : Value} (E : RoadKit.Exa Z h x ST) (V : RoadKit.Fld Z h x ST "value" "[B" v0) (C : RoadKit.Fld Z h x ST "coder" "B" c0) (K : RoadKit.Arr Z h b A .char) (hty : Typed .char A) (S : RoadKit.Sta Z h ST "COMPACT_STRINGS" "Z" (.int z)) (hz : ¬ z = 0)
    (l0 : 0 < A.slots.size) (l2 : A.slots.size ≤ 536870912) (hp : ∀ i, i < A.slots.size → ¬ 255 < cv A i) (hfr : 4 ≤ R.frames) (hlo : W + 65 ≤ R.locals) :
    Back l R p e below s args New1.yN len W (fun P a => a = #[.ref x, .ref b] ∧ P.U.heap = h ∧ P.cells + 1 ≤ R.cells ∧ P.slots + A.slots.size ≤ R.slots)
      (fun P _ v B => ∃ L, Q Z x A h v B.U.heap L ∧ B.locs = P.locs ++ L ∧ B.cells = P.cells + 1 ∧ B.slots = P.slots + A.slots.size) := by
  intro m meth c P g ig mk a X hg hsize hdg hW hn hp'
  obtain ⟨rfl, rfl, r1, r2⟩ := hp'
  have al : Z.vm.Alike P.U.vm := hZ.alike.trans X.warmed.alike
  obtain ⟨D, cfV, kV, iV, fV, hD, gV, stV, knV, obV, asV, slV⟩ := id V
  obtain ⟨D', cfC, kC, iC, fC, hD', gC, stC, -, -, asC, slC⟩ := id C
  cases hD.symm.trans hD'
  obtain ⟨D2, kD, e1, e2, e3, e4, e5⟩ := id E
  cases hD.symm.trans e1
  obtain ⟨c2, k2, i1, i2, i3, -⟩ := Cond.instantiable_spec wi
  cases e2.symm.trans i1
  cases e3.symm.trans i2
  obtain ⟨kU, u1, u2⟩ := al.2.2 _ _ e3
  have hB : Blank ST x D P.U := ⟨hD, ⟨knV, fun q hq => by rw [hq] at obV; cases obV⟩, by rw [al.findClass]; exact e2, kU, u1, by rw [u2]; exact i3, by rw [u2]; exact e5 i3⟩
  have F1 : Found ST "value" "[B" fV P.U := ⟨SBG.found_only al ⟨cfV, kV, iV, gV⟩, stV⟩
  have F2 : Found ST "coder" "B" fC P.U := ⟨SBG.found_only al ⟨cfC, kC, iC, gC⟩, stC⟩
  have hA : Ch b A P.U := ⟨⟨K.1, State.isArrayOf_alike al K.2.1, K.2.2, by omega⟩, hty⟩
  have hS : StaticIs P.U ST "COMPACT_STRINGS" "Z" (.int z) := by
    obtain ⟨cfS, iS, kS, fS, st, cS, t1, t2, t3, t4, t5, t6, t7⟩ := S
    exact StaticIs.there (s := { Z with heap := P.U.heap }) ⟨cfS, iS, kS, fS, st, cS, t1, t2, t3, t4, t5, (fun q => by rw [q] at t6; cases t6), t7⟩ al rfl
  obtain ⟨v, B, X', ⟨⟨hv, E', V', q1, q2, q3, q4, q5, q6, q7, q8, q9, q10, q11⟩, hl, hc, hs⟩, st⟩ := New1.pays x D fV fC b A z (tab_of (moved hZ hw)) hfr hlo m meth c P g ig mk _ X hg hsize hdg hW hn ⟨r1, r2, rfl, hB, F1, F2, hA, hS, hz, l0, l2, hp⟩
  have al' : Z.vm.Alike B.U.vm := hZ.alike.trans X'.warmed.alike
  have hsz : E'.slots.size = D.slots.size := by
    obtain ⟨-, -, -, kB, w1, w2, w3⟩ := q1
    obtain ⟨kB', y1, y2⟩ := al'.2.2 _ _ e3
    rw [q2.2.1] at w1
    cases w1.symm.trans y1
    rw [w3, e5 i3, y2]
  refine ⟨v, B, X', ⟨_, ⟨hv, ?_, ⟨by omega, fun y cy hy hn' => q10 y cy (by simpa using hn') hy, fun y cy hy => ?_⟩, q11, ⟨E', _, q1.1, by rw [q2.2.1]; exact e2, by rw [q2.2.1]; exact e3, by rw [q2.1]; exact obV, fun _ => by rw [hsz]; exact e5 i3⟩,
    ⟨E', cfV, kV, iV, fV, q1.1, gV, stV, by rw [q2.1]; exact knV, by rw [q2.1]; exact obV, by rw [q2.2.1]; exact asV, q3⟩, ⟨E', cfC, kC, iC, fC, q1.1, gC, stC, by rw [q2.1]; exact knV, by rw [q2.1]; exact obV, by rw [q2.2.1]; exact asC, q4⟩,
    ⟨V', ⟨q5.1, State.isArrayOf_alike al'.symm q5.2.1, q5.2.2.1⟩, q6, by rw [← al'.findClass]; exact q7, q8, fun j hj => by have := q9 j hj; rwa [Nat.zero_add] at this⟩, fun O n d w F n1 n2 => ?_⟩, hl, hc, hs⟩, st⟩
  · intro y hy
    simp only [List.mem_cons, List.not_mem_nil, or_false] at hy
    rcases hy with rfl | rfl <;> rfl
  · by_cases q : y = x
    · subst q
      cases hD.symm.trans hy
      exact ⟨E', q1.1, q2.2.1, q2.1, hsz⟩
    · exact ⟨cy, q10 y cy q hy, rfl, rfl, rfl⟩
  · obtain ⟨D3, cf, k, i, f, g1, g2, g3, g4, g5, g6, g7⟩ := F
    cases hD.symm.trans g1
    simp only [RoadKit.slotOf, g2, gV, gC, Option.map_some, Option.getD_some] at n1 n2
    exact ⟨E', cf, k, i, f, q1.1, g2, g3, by rw [q2.1]; exact g4, by rw [q2.1]; exact g5, by rw [q2.2.1]; exact g6, by rw [q2.2.2 f.slot (by simp [n1, n2])]; exact g7⟩
end StrChars.Road
namespace StrChars.Road
open Jvm Sem ClassFile Op Lib Jvm.Stand Jvm.Free Jvm.Free.XT
/-- WHAT COMES BACK, the byte[] as a list of values -/
def QA (Z : State) (x : Addr) (zn : Int32) (cs : List Int32) (h : Heap) (v : Option Value) (h' : Heap) (L : List Loc) : Prop := v = none ∧ (∀ y ∈ L, y.base = x) ∧ RoadKit.Keep h h' [x] ∧ h'.size = h.size + 1 ∧ RoadKit.Exa Z h' x ST ∧ RoadKit.Fld Z h' x ST "value" "[B" (.ref h.size) ∧ RoadKit.Fld Z h' x ST "coder" "B" (.int 0) ∧
  (∃ kb, Z.vm.findClass "[B" = some kb ∧ RoadKit.Arv Z h' h.size kb .byte zn (cs.map fun c => .int (lo8 c)) (.int 0)) ∧
  ∀ (O n d : String) (w : Value), RoadKit.Fld Z h x O n d w → RoadKit.slotOf Z O n d ≠ RoadKit.slotOf Z ST "value" "[B" → RoadKit.slotOf Z O n d ≠ RoadKit.slotOf Z ST "coder" "B" → RoadKit.Fld Z h' x O n d w
/-- **new String(chars) AT A CALL, THE ARRAYS AS LISTS**: the char[] at b holds cs, not empty, no char above 255 -/
theorem backArv {p : Program} {l : Launch} {e : Env} {R : Room} {s : State} {args : Array Value} {below : List Frame} {len W : Nat} {Z : State} {a0 : Array Value} {h : Heap} (hZ : Z.Warmed39 s.vm) (hw : ∀ d ∈ words, d.before a0 Z = true) {kI : Nat} (wi : (Jvm.Cond.instantiable ST kI).before a0 Z = true)
    {x b : Addr} {k : ClassId} {zn z : Int32} {cs : List Int32} {dv v0 c0 : Value} (E : RoadKit.Exa Z h x ST) (V : RoadKit.Fld Z h x ST "value" "[B" v0) (C : RoadKit.Fld Z h x ST "coder" "B" c0) (K : RoadKit.Arv Z h b k .char zn (cs.map Value.int) dv) (S : RoadKit.Sta Z h ST "COMPACT_STRINGS" "Z" (.int z)) (hz : ¬ z = 0)
    (hlen : zn.toNatClampNeg = cs.length) (h0 : 0 < cs.length) (hbig : cs.length ≤ 536870912) (hall : ∀ c ∈ cs, ¬ 255 < c) (hfr : 4 ≤ R.frames) (hlo : W + 65 ≤ R.locals) :
    Back l R p e below s args New1.yN len W (fun P a => a = #[.ref x, .ref b] ∧ P.U.heap = h ∧ P.cells + 1 ≤ R.cells ∧ P.slots + cs.length ≤ R.slots)
      (fun P _ v B => ∃ L, QA Z x zn cs h v B.U.heap L ∧ B.locs = P.locs ++ L ∧ B.cells = P.cells + 1 ∧ B.slots = P.slots + cs.length) := by
  obtain ⟨A, K1, K2, K3, K4, K5, K6⟩ := K
  have e : A.slots.size = cs.length := K3.trans hlen
  have hat : ∀ (i : Nat) (hi : i < cs.length), A.slots[i]? = some (.int cs[i]) := fun i hi => by rw [K5 i (by omega)]; simp [List.getD_eq_getElem?_getD, hi]
  have hcv : ∀ (i : Nat) (hi : i < cs.length), cv A i = cs[i] := fun i hi => by unfold cv; rw [hat i hi]
  have hty : Typed .char A := fun i v hv => by
    have hi : i < A.slots.size := (Array.getElem?_eq_some_iff.mp hv).1
    have q := K5 i hi
    rw [hv] at q
    rw [Option.some.inj q]
    exact K6 i hi
  refine Back.mono (back hZ hw wi E V C K1 hty S hz (by omega) (by omega) (fun i hi => by rw [hcv i (by omega)]; exact hall _ (List.getElem_mem _)) hfr hlo) (fun P a hp => ⟨hp.1, hp.2.1, hp.2.2.1, by rw [e]; exact hp.2.2.2⟩) (fun P a v B hp hq => ?_)
  obtain ⟨L, ⟨q1, q2, q3, q4, q5, q6, q7, ⟨V', v1, v2, v3, v4, v5⟩, q9⟩, hl, hc, hs⟩ := hq
  refine ⟨L, ⟨q1, q2, q3, q4, q5, q6, q7, ⟨V'.cls, v3, V', v1, rfl, by rw [v4, e, hlen], K4, fun i hi => ?_, fun i hi => ?_⟩, q9⟩, hl, hc, by rw [hs, e]⟩
  · have hi' : i < cs.length := by omega
    rw [v5 i (by omega), hcv i hi']; simp [List.getD_eq_getElem?_getD, hi']
  · have hi' : i < cs.length := by omega
    simp only [List.getD_eq_getElem?_getD, List.getElem?_map, List.getElem?_eq_getElem hi', Option.map_some, Option.getD_some]
    exact fits_lo8 _
end StrChars.Road
namespace StrChars.Road
open Jvm Sem ClassFile Op Lib Jvm.Stand Jvm.Free Jvm.Free.XT
/-- WHAT COMES BACK, in the writer's own shape -/
def QV (Z : State) (x : Addr) (N : Int32) (bs : List Int32) (h : Heap) (n0 : Nat) (v : Option Value) (h' : Heap) (L : List Loc) : Prop := v = none ∧ RoadKit.Fr n0 L ∧ RoadKit.Keep h h' [x] ∧ RoadKit.Exa Z h' x ST ∧ RoadKit.Fld Z h' x ST "coder" "B" (.int 0) ∧
  ∃ (t : Addr) (kb : ClassId), n0 ≤ t ∧ h.size ≤ t ∧ ¬ t = x ∧ RoadKit.Fld Z h' x ST "value" "[B" (.ref t) ∧ RoadKit.Arv Z h' t kb .byte N (bs.map Value.int) (.int 0)
/-- **new String(chars) AT A CALL, FOR THE WRITER**: a char[] of n known ints, each 0 to 255 -/
theorem backV {p : Program} {l : Launch} {e : Env} {R : Room} {s : State} {args : Array Value} {below : List Frame} {len W : Nat} {Z : State} {a0 : Array Value} {h : Heap} (hZ : Z.Warmed39 s.vm) (hw : ∀ d ∈ words, d.before a0 Z = true) {kI : Nat} (wi : (Jvm.Cond.instantiable ST kI).before a0 Z = true)
    {x b : Addr} {kC : ClassId} {cs bs : List Int32} {d v0 c0 : Value} {z N : Int32} {n n0 : Nat} (hx0 : n0 ≤ x) (hh0 : n0 ≤ h.size) (E : RoadKit.Exa Z h x ST) (V : RoadKit.Fld Z h x ST "value" "[B" v0) (C : RoadKit.Fld Z h x ST "coder" "B" c0) (K : RoadKit.Arv Z h b kC .char N (cs.map Value.int) d) (S : RoadKit.Sta Z h ST "COMPACT_STRINGS" "Z" (.int z)) (hz : ¬ z = 0)
    (hn : cs.length = n) (hN : N = Int32.ofNat n) (l0 : 0 < n) (l2 : n ≤ 4000) (hp : ∀ c ∈ cs, ¬ c < 0 ∧ ¬ (255 : Int32) < c) (hb : bs = cs.map (fun c => c.toInt8.toInt32)) (hfr : 4 ≤ R.frames) (hlo : W + 65 ≤ R.locals) :
    Back l R p e below s args (⟨"java/lang/String", "<init>", "([C)V"⟩ : MethodName) len W (fun P a => a = #[.ref x, .ref b] ∧ P.U.heap = h ∧ P.cells + 1 ≤ R.cells ∧ P.slots + n ≤ R.slots)
      (fun P _ v B => ∃ L, QV Z x N bs h n0 v B.U.heap L ∧ B.locs = P.locs ++ L ∧ B.cells = P.cells + 1 ∧ B.slots = P.slots + n) := by
  subst hn hN hb
  refine Back.mono (backArv hZ hw wi E V C K S hz (n32 (by omega)) l0 (by omega) (fun c hc => (hp c hc).2) hfr hlo) (fun P a hp => hp) (fun P a v B hp hq => ?_)
  obtain ⟨L, ⟨q1, q2, q3, q4, q5, q6, q7, ⟨kb, v1, v2⟩, q9⟩, hl, hc, hs⟩ := hq
  exact ⟨L, ⟨q1, fun y hy => by rw [q2 y hy]; exact hx0, q3, q5, q7, h.size, kb, hh0, Nat.le_refl _, Nat.ne_of_gt E.lt, q6, by rw [List.map_map]; exact v2⟩, hl, hc, hs⟩
end StrChars.Road
namespace StrChars
open Jvm Sem ClassFile Op Lib Jvm.Stand Jvm.Free.XT Jvm.Free.ALB Jvm.Free.JM Jvm.Free
open Jvm.Lib.Cold (StaticIs)
def hi8 (x : Int32) : Int32 := lo8 (x >>> ((8 : Int32) &&& 31))
/-- what StringUTF16.getChar makes of two bytes -/
def pairCh (u v : Int32) : Int32 := (((u &&& 255) <<< ((0 : Int32) &&& 31)) ||| ((v &&& 255) <<< ((8 : Int32) &&& 31))).toUInt32.toUInt16.toUInt32.toInt32
theorem shr0 (c : Int32) : c >>> ((0 : Int32) &&& 31) = c := by
  have e : ((0 : Int32) &&& 31) = 0 := by decide
  rw [e]
  apply Int32.toBitVec_inj.mp
  rw [Int32.toBitVec_shiftRight]
  have e1 : ((0 : Int32).toBitVec.smod 32) = 0#32 := by decide
  rw [e1, BitVec.sshiftRight_eq']
  exact BitVec.sshiftRight_zero
theorem lo8_and (x : Int32) : (lo8 x &&& 255).toBitVec.toNat = x.toBitVec.toNat % 256 := by
  have h : (lo8 x).toBitVec = (x.toBitVec.signExtend 8).signExtend 32 := by rw [lo8, Int8.toBitVec_toInt32, Int32.toBitVec_toInt8]
  rw [Int32.toBitVec_and, BitVec.toNat_and, h]
  have e : ((x.toBitVec.signExtend 8).signExtend 32).toNat % 256 = x.toBitVec.toNat % 256 := by
    rw [BitVec.toNat_signExtend]
    have hlt := x.toBitVec.isLt
    simp only [BitVec.toNat_setWidth, BitVec.toNat_signExtend]
    split <;> split <;> omega
  rw [← e]
  exact Nat.and_two_pow_sub_one_eq_mod _ 8
theorem pair_says {c : Int32} (h0 : ¬ c < 0) (h1 : ¬ 65535 < c) : pairCh (lo8 c) (hi8 c) = c := by
  rw [Int32.lt_iff_toInt_lt] at h0 h1
  have e0 : (0 : Int32).toInt = 0 := rfl
  have e1 : (65535 : Int32).toInt = 65535 := rfl
  have hc : c.toInt = c.toBitVec.toNat := by
    have := c.toBitVec.isLt
    have e : c.toInt = c.toBitVec.toInt := rfl
    rw [e] at h0 h1
    rw [e]
    rw [BitVec.toInt_eq_toNat_cond] at h0 h1 ⊢
    split at h0 <;> split <;> omega
  have hn : c.toBitVec.toNat < 65536 := by omega
  have a1 := lo8_and c
  have a2 : (hi8 c &&& 255).toBitVec.toNat = c.toBitVec.toNat / 256 := by
    rw [hi8, lo8_and]
    have e : ((8 : Int32) &&& 31) = 8 := by decide
    rw [e, Int32.toBitVec_shiftRight]
    have e2 : ((8 : Int32).toBitVec.smod 32) = 8#32 := by decide
    rw [e2, BitVec.sshiftRight_eq', BitVec.toNat_sshiftRight_of_msb_false (by rw [BitVec.msb_eq_false_iff_two_mul_lt]; omega)]
    show c.toBitVec.toNat >>> 8 % 256 = _
    rw [Nat.shiftRight_eq_div_pow]
    omega
  unfold pairCh
  apply Int32.toBitVec_inj.mp
  apply BitVec.eq_of_toNat_eq
  have f0 : ((0 : Int32) &&& 31) = 0 := by decide
  have f8 : ((8 : Int32) &&& 31) = 8 := by decide
  rw [f0, f8]
  have g : (((lo8 c &&& 255) <<< (0 : Int32)) ||| ((hi8 c &&& 255) <<< (8 : Int32))).toBitVec.toNat = c.toBitVec.toNat := by
    rw [Int32.toBitVec_or, Int32.toBitVec_shiftLeft, Int32.toBitVec_shiftLeft]
    have s0 : ((0 : Int32).toBitVec.smod 32) = 0#32 := by decide
    have s8 : ((8 : Int32).toBitVec.smod 32) = 8#32 := by decide
    rw [s0, s8, BitVec.toNat_or]
    simp only [BitVec.shiftLeft_eq', BitVec.toNat_shiftLeft, a1, a2]
    show (c.toBitVec.toNat % 256) <<< 0 % 2 ^ 32 ||| (c.toBitVec.toNat / 256) <<< 8 % 2 ^ 32 = _
    rw [Nat.shiftLeft_zero, Nat.mod_eq_of_lt (show c.toBitVec.toNat % 256 < 2 ^ 32 by omega), Nat.mod_eq_of_lt (show (c.toBitVec.toNat / 256) <<< 8 < 2 ^ 32 by rw [Nat.shiftLeft_eq]; omega), Nat.or_comm, ← Nat.shiftLeft_add_eq_or_of_lt (by omega), Nat.shiftLeft_eq]
    omega
  show BitVec.toNat (((((lo8 c &&& 255) <<< (0 : Int32)) ||| ((hi8 c &&& 255) <<< (8 : Int32))).toBitVec.setWidth 16).setWidth 32) = _
  rw [BitVec.toNat_setWidth, BitVec.toNat_setWidth, g]
  omega
end StrChars
namespace StrChars
open Jvm Sem ClassFile Op Lib Jvm.Stand Jvm.Free.XT Jvm.Free.ALB Jvm.Free.JM Jvm.Free
open Jvm.Lib.Cold (StaticIs)
theorem shr1 {n : Nat} (h : 2 * n < 2 ^ 31) : Int32.ofNat (2 * n) >>> ((1 : Int32) &&& 31) = Int32.ofNat n := by
  have e : ((1 : Int32) &&& 31) = 1 := by decide
  rw [e]
  apply Int32.toBitVec_inj.mp
  rw [Int32.toBitVec_shiftRight]
  have e1 : ((1 : Int32).toBitVec.smod 32) = 1#32 := by decide
  have hm : (BitVec.ofNat 32 (2 * n)).toNat = 2 * n := by rw [BitVec.toNat_ofNat, Nat.mod_eq_of_lt (by omega)]
  rw [e1, BitVec.sshiftRight_eq']
  apply BitVec.eq_of_toNat_eq
  show ((BitVec.ofNat 32 (2 * n)).sshiftRight 1).toNat = (BitVec.ofNat 32 n).toNat
  rw [BitVec.toNat_sshiftRight_of_msb_false (by rw [BitVec.msb_eq_false_iff_two_mul_lt, hm]; omega), hm, BitVec.toNat_ofNat, Nat.shiftRight_eq_div_pow]
  omega
/-- the array's cell V codes the n chars f 0 .. f (n - 1) by the coder cd, as the JDK does: coder 1 just where some char is above 255 -/
def Cod (cd : Int32) (n : Nat) (f : Nat → Int32) (V : Cell) : Prop := (cd = 0 ∧ V.slots.size = n ∧ ∀ j, j < n → V.slots[j]? = some (.int (lo8 (f j))) ∧ ¬ 255 < f j) ∨ (cd = 1 ∧ V.slots.size = 2 * n ∧ (∀ j, j < n → V.slots[2 * j]? = some (.int (lo8 (f j))) ∧ V.slots[2 * j + 1]? = some (.int (hi8 (f j)))) ∧ ∃ j, j < n ∧ 255 < f j)
theorem Cod.cd {cd : Int32} {n : Nat} {f : Nat → Int32} {V : Cell} (h : Cod cd n f V) : cd = 0 ∨ cd = 1 := h.imp (fun q => q.1) fun q => q.1
theorem Cod.len {cd : Int32} {n : Nat} {f : Nat → Int32} {V : Cell} (h : Cod cd n f V) (hs : V.slots.size < 2 ^ 31) : Int32.ofNat V.slots.size >>> (cd &&& 31) = Int32.ofNat n := by
  rcases h with ⟨rfl, h, -⟩ | ⟨rfl, h, -⟩
  · rw [shr0, h]
  · rw [h, shr1 (by omega)]
/-- **x is a String of the n chars f 0 .. f (n - 1)**, Latin-1 or UTF-16; its array at t has the cell V -/
def Txt (x t : Addr) (V : Cell) (cd : Int32) (n : Nat) (f : Nat → Int32) (U : State) : Prop := Exact "java/lang/String" x U ∧ Has x "java/lang/String" "value" "[B" (.ref t) U ∧ Has x "java/lang/String" "coder" "B" (.int cd) U ∧ XT.Arr .byte t V U ∧ Cod cd n f V ∧ ∀ j, j < n → ¬ f j < 0 ∧ ¬ 65535 < f j
theorem Txt.mv {x t : Addr} {V : Cell} {cd : Int32} {n : Nat} {f : Nat → Int32} {U U' : State} (h : Txt x t V cd n f U) (hal : U.vm.Alike U'.vm) (hh : U'.heap = U.heap) : Txt x t V cd n f U' := ⟨h.1.mv hal hh, h.2.1.mv hal hh, h.2.2.1.mv hal hh, h.2.2.2.1.mv hal hh, h.2.2.2.2⟩
namespace Cdr
def yN : MethodName := ⟨"java/lang/String", "coder", "()B"⟩
abbrev yB : ByteArray := jdk_42_method_152_code
theorem d0 : decode yB 0 = .ok (.getstatic 38, 3) := by decide +kernel
theorem d3 : decode yB 3 = .ok (.ifCond (.eq) 10, 3) := by decide +kernel
theorem d6 : decode yB 6 = .ok (.aload_n 0, 1) := by decide +kernel
theorem d7 : decode yB 7 = .ok (.getfield 15, 3) := by decide +kernel
theorem d10 : decode yB 10 = .ok (.goto 4, 3) := by decide +kernel
theorem d14 : decode yB 14 = .ok (.ireturn, 1) := by decide +kernel
def site : List Cond := [.fieldLink "java/lang/String" 38 "java/lang/String" "COMPACT_STRINGS" "Z", .fieldLink "java/lang/String" 15 "java/lang/String" "coder" "B"]
def tab : Cond := tabOf yN yB 1 (some .byte) site
def P (x : Addr) (cd z : Int32) (args : Array Value) (s : State) : Prop := args = #[.ref x] ∧ Has x "java/lang/String" "coder" "B" (.int cd) s ∧ (cd = 0 ∨ cd = 1) ∧ StaticIs s "java/lang/String" "COMPACT_STRINGS" "Z" (.int z) ∧ ¬ z = 0
def E (cd : Int32) (r : Option Value) (s u : State) : Prop := XT.PureE (some (.int cd)) r s u
theorem law (l : Launch) (x : Addr) (cd z : Int32) : Law l yN 1 0 0 0 yB 1 (some .byte) site (P x cd z) (E cd) [] 0 0 := by
  refine Law.of_walk (plainFor_of_name (by decide +kernel)) (by decide +kernel) (by decide +kernel) (by decide) (fun _ _ h => by rw [h.1]; rfl) (fun _ U U' hal hh h => ⟨h.1, h.2.1.mv hal hh, h.2.2.1, h.2.2.2.1.there hal hh, h.2.2.2.2⟩) (fun r U U' V V' h1 hal h2 h => XT.PureE.mv r U U' V V' h1 hal h2 h) ?_
  intro p e s m args below meth c s₁ X0 hexec hbytes hml hret hlk hnm hown hh0 W hP
  obtain ⟨rfl, hx, hc, s1, hz⟩ := hP
  have c1 : Steps p.tables e below (s₁.setTop (entryFrame m #[.ref x] 1)) (s₁.setTop (mkF m 0 #[.val (.ref x)] [])) := entry rfl
  obtain ⟨T2, X2, q2, st2⟩ := X0.sget hexec hown (wk W (.fieldLink "java/lang/String" 38 "java/lang/String" "COMPACT_STRINGS" "Z")) s1 (fun _ _ h => by rw [hh0]; exact h) (g := (mkF m 0 #[.val (.ref x)] [])) rfl (hb hbytes d0)
  have hh2 := q2.trans hh0
  have c3 : Steps p.tables e below (s₁.setTop (entryFrame m #[.ref x] 1)) (T2.setTop (mkF m 7 #[.val (.ref x)] [.ref x])) := (c1.trans (st2 _ (Steps.refl _))).trans (by
    refine XS.ifNo X2.here hexec rfl (hb hbytes d3) rfl (i0_eq_f hz) ?_
    refine XS.aloadN X2.here hexec rfl (hb hbytes d6) rfl rfl ?_
    exact Steps.refl _)
  obtain ⟨T4, X4, q4, st4⟩ := X2.hget hexec hown (wk W (.fieldLink "java/lang/String" 15 "java/lang/String" "coder" "B")) (hx.mv X2.warmed.alike hh2) (g := (mkF m 7 #[.val (.ref x)] [.ref x])) rfl (rest := []) rfl (hb hbytes d7)
  have c5 : Steps p.tables e below (s₁.setTop (entryFrame m #[.ref x] 1)) (T4.setTop (mkF m 14 #[.val (.ref x)] [.int cd])) := (c3.trans (st4 _ (Steps.refl _))).trans (by
    refine XS.goto X4.here hexec rfl (pc0 := 10) rfl (hb hbytes d10) (by decide) rfl ?_
    exact Steps.refl _)
  exact ⟨T4, some (.int cd), _, _, _, X4, rfl, rfl, rfl, (fun h => by cases h), ⟨rfl, q4.trans hh2⟩, fun fs hl => c5.trans (X4.ireturnOut hexec hret (by rcases hc with rfl | rfl <;> rfl) (Or.inr (Or.inr (Or.inl rfl))) (hb hbytes d14) hl)⟩
end Cdr
namespace Len
def yN : MethodName := ⟨"java/lang/String", "length", "()I"⟩
abbrev yB : ByteArray := jdk_42_method_54_code
theorem d0 : decode yB 0 = .ok (.aload_n 0, 1) := by decide +kernel
theorem d1 : decode yB 1 = .ok (.getfield 9, 3) := by decide +kernel
theorem d4 : decode yB 4 = .ok (.arraylength, 1) := by decide +kernel
theorem d5 : decode yB 5 = .ok (.aload_n 0, 1) := by decide +kernel
theorem d6 : decode yB 6 = .ok (.invokevirtual 335, 3) := by decide +kernel
theorem d9 : decode yB 9 = .ok (.ishr, 1) := by decide +kernel
theorem d10 : decode yB 10 = .ok (.ireturn, 1) := by decide +kernel
def site : List Cond := [.fieldLink "java/lang/String" 9 "java/lang/String" "value" "[B", Cdr.tab] ++ virtW "java/lang/String" 335 "java/lang/String" Cdr.yN Cdr.yN
def tab : Cond := tabOf yN yB 1 (some .int) site
def P (x t : Addr) (V : Cell) (cd : Int32) (n : Nat) (f : Nat → Int32) (z : Int32) (args : Array Value) (s : State) : Prop := args = #[.ref x] ∧ Txt x t V cd n f s ∧ StaticIs s "java/lang/String" "COMPACT_STRINGS" "Z" (.int z) ∧ ¬ z = 0
def E (n : Nat) (r : Option Value) (s u : State) : Prop := XT.PureE (some (.int (Int32.ofNat n))) r s u
/-- length() of a String of n chars, in either coding -/
theorem law (l : Launch) (x t : Addr) (V : Cell) (cd : Int32) (n : Nat) (f : Nat → Int32) (z : Int32) : Law l yN 1 0 1 13 yB 1 (some .int) site (P x t V cd n f z) (E n) [] 0 0 := by
  refine Law.of_walk (plainFor_of_name (by decide +kernel)) (by decide +kernel) (by decide +kernel) (by decide) (fun _ _ h => by rw [h.1]; rfl) (fun _ U U' hal hh h => ⟨h.1, h.2.1.mv hal hh, h.2.2.1.there hal hh, h.2.2.2⟩) (fun r U U' V V' h1 hal h2 h => XT.PureE.mv r U U' V V' h1 hal h2 h) ?_
  intro p e s m args below meth c s₁ X0 hexec hbytes hml hret hlk hnm hown hh0 W hP
  obtain ⟨rfl, hx, s1, hz⟩ := hP
  have v31 := hx.2.2.2.1.2.2.2
  have c1 : Steps p.tables e below (s₁.setTop (entryFrame m #[.ref x] 1)) (s₁.setTop (mkF m 1 #[.val (.ref x)] [.ref x])) := Steps.trans (entry rfl) (by
    show Steps p.tables e below (s₁.setTop (mkF m 0 #[.val (.ref x)] [])) _
    refine XS.aloadN X0.here hexec rfl (hb hbytes d0) rfl rfl ?_
    exact Steps.refl _)
  obtain ⟨T2, X2, q2, st2⟩ := X0.hget hexec hown (wk W (.fieldLink "java/lang/String" 9 "java/lang/String" "value" "[B")) (hx.mv X0.warmed.alike hh0).2.1 (g := (mkF m 1 #[.val (.ref x)] [.ref x])) rfl (rest := []) rfl (hb hbytes d1)
  have hh2 := q2.trans hh0
  have hx2 := hx.mv X2.warmed.alike hh2
  have c3 : Steps p.tables e below (s₁.setTop (entryFrame m #[.ref x] 1)) (T2.setTop (mkF m 6 #[.val (.ref x)] [.ref x, .int (Int32.ofNat V.slots.size)])) := (c1.trans (st2 _ (Steps.refl _))).trans (by
    refine X2.alen hexec hx2.2.2.2.1 rfl rfl (hb hbytes d4) ?_
    refine XS.aloadN X2.here hexec rfl (hb hbytes d5) rfl rfl ?_
    exact Steps.refl _)
  obtain ⟨v4, T4, X4, E4, g4⟩ := X2.callV hexec (Cdr.law l x cd z) hown (wks W (virtW "java/lang/String" 335 "java/lang/String" Cdr.yN Cdr.yN)) rfl (by decide) (wk W Cdr.tab) (W := 1) (Nat.le_of_ble_eq_true rfl) (Nat.le_of_ble_eq_true rfl) (Nat.le_refl _) (Nat.le_refl _) (hx2.1.fc X2.warmed.alike) hx2.1.is (g := (mkF m 6 #[.val (.ref x)] [.ref x, .int (Int32.ofNat V.slots.size)])) rfl (by rw [hml]; rfl) c3 (argsL := []) (rest := [.int (Int32.ofNat V.slots.size)]) rfl rfl (by show 2 * 0 + (1 + 0) ≤ _; decide) (hb hbytes d6) (⟨rfl, hx2.2.2.1, hx.2.2.2.2.1.cd, s1.there X2.warmed.alike hh2, hz⟩)
  obtain ⟨rfl, q4⟩ := E4
  have c5 : Steps p.tables e below (s₁.setTop (entryFrame m #[.ref x] 1)) (T4.setTop (mkF m 10 #[.val (.ref x)] [.int (Int32.ofNat V.slots.size >>> (cd &&& 31))])) := Steps.trans g4 (by
    refine ishr X4.here hexec rfl (hb hbytes d9) rfl ?_
    exact Steps.refl _)
  rw [hx.2.2.2.2.1.len v31] at c5
  exact ⟨T4, some (.int (Int32.ofNat n)), _, _, _, X4, rfl, rfl, rfl, (fun h => by cases h), ⟨rfl, q4.trans hh2⟩, fun fs hl => c5.trans (X4.ireturnOut hexec hret rfl (Or.inl rfl) (hb hbytes d10) hl)⟩
theorem pays {l : Launch} {R : Room} {p : Program} {e : Env} {below : List Frame} {s : State} {sargs : Array Value} {len W : Nat} (x t : Addr) (V : Cell) (cd : Int32) (n : Nat) (f : Nat → Int32) (z : Int32) (htab : tab.before sargs s = true) (hfr : 2 ≤ R.frames) (hlo : W + 25 ≤ R.locals) :
    Back l R p e below s sargs yN len W (fun A₁ a₁ => A₁.cells + 0 ≤ R.cells ∧ A₁.slots + 0 ≤ R.slots ∧ P x t V cd n f z a₁ A₁.U) (fun A₁ _ v₁ B₁ => E n v₁ A₁.U B₁.U ∧ B₁.locs = A₁.locs ++ [] ∧ B₁.cells = A₁.cells + 0 ∧ B₁.slots = A₁.slots + 0) :=
  (law l x t V cd n f z).pays htab hfr (by omega)
end Len
end StrChars
namespace StrChars.Road
open Jvm Sem ClassFile Op Lib Jvm.Stand Jvm.Free Jvm.Free.XT
open Jvm.Lib.Cold (StaticIs)
theorem consq {a : Array Value} {s : State} {c : Jvm.Cond} {L : List Jvm.Cond} (h0 : c.before a s = true) (h : ∀ w ∈ L, w.before a s = true) : ∀ w ∈ c :: L, w.before a s = true := fun w hw => (List.mem_cons.mp hw).elim (fun e => e ▸ h0) (h w)
/-- the words of String.length(), either coding -/
abbrev wordsLen : List Jvm.Cond := [.code Len.yN Len.yB 1 (some .int), .initialized ST, .fieldLink ST 9 ST "value" "[B", .fieldLink ST 38 ST "COMPACT_STRINGS" "Z", .fieldLink ST 15 ST "coder" "B", .code Cdr.yN Cdr.yB 1 (some .byte), .methodLink ST 335 Cdr.yN, .declares Cdr.yN, .selects ST Cdr.yN Cdr.yN, .instanceMethod Cdr.yN]
theorem tabLen_of {a : Array Value} {s : State} (h : ∀ w ∈ wordsLen, w.before a s = true) : Len.tab.before a s = true := by
  have hc : Cdr.tab.before a s = true := unparts (wk h (.code Cdr.yN Cdr.yB 1 (some .byte))) (wks h (.initialized Cdr.yN.cls :: Cdr.site))
  have q := consq hc h
  exact unparts (wk q (.code Len.yN Len.yB 1 (some .int))) (wks q (.initialized Len.yN.cls :: Len.site))
theorem movedLen {Z s : State} {a0 args : Array Value} (hZ : Z.Warmed39 s.vm) (hw : ∀ d ∈ wordsLen, d.before a0 Z = true) : ∀ d ∈ wordsLen, d.before args s = true := fun d hd => by
  have q := hw d hd
  have t : ∀ d ∈ wordsLen, d = .arrayClass .byte ∨ (d.onTables && d.keepsFace) = true := by decide +kernel
  rcases t d hd with rfl | t
  · exact RoadKit.mvA hZ q
  · exact RoadKit.mv hZ q t
/-- the bytes of the chars cs, low before high -/
def wideBytes : List Int32 → List Value
  | [] => []
  | c :: cs => .int (lo8 c) :: .int (hi8 c) :: wideBytes cs
theorem wide_lo (d : Value) : ∀ (cs : List Int32) (j : Nat), j < cs.length → (wideBytes cs).getD (2 * j) d = .int (lo8 (cs.getD j 0))
  | [], j, h => absurd h (Nat.not_lt_zero j)
  | c :: cs, 0, _ => rfl
  | c :: cs, j + 1, h => by
    have q := wide_lo d cs j (by simpa using h)
    rw [show 2 * (j + 1) = 2 * j + 1 + 1 from by omega]
    simpa [wideBytes] using q
theorem wide_hi (d : Value) : ∀ (cs : List Int32) (j : Nat), j < cs.length → (wideBytes cs).getD (2 * j + 1) d = .int (hi8 (cs.getD j 0))
  | [], j, h => absurd h (Nat.not_lt_zero j)
  | c :: cs, 0, _ => rfl
  | c :: cs, j + 1, h => by
    have q := wide_hi d cs j (by simpa using h)
    rw [show 2 * (j + 1) + 1 = 2 * j + 1 + 1 + 1 from by omega]
    simpa [wideBytes] using q
theorem low_at (d : Value) (cs : List Int32) (j : Nat) (h : j < cs.length) : (cs.map fun c => Value.int (lo8 c)).getD j d = .int (lo8 (cs.getD j 0)) := by
  simp [List.getD_eq_getElem?_getD, h]
/-- an array of N2 bytes vs codes the chars cs by the coder cd -/
def CodA (cs : List Int32) (cd N2 : Int32) (vs : List Value) : Prop := (cd = 0 ∧ N2 = Int32.ofNat cs.length ∧ vs = (cs.map fun c => Value.int (lo8 c)) ∧ ∀ c ∈ cs, ¬ 255 < c) ∨ (cd = 1 ∧ N2 = Int32.ofNat (2 * cs.length) ∧ vs = wideBytes cs ∧ ∃ c ∈ cs, 255 < c)
theorem CodA.cod {cs : List Int32} {cd N2 : Int32} {vs : List Value} {V : Cell} (h : CodA cs cd N2 vs) (hn : 2 * cs.length < 2 ^ 31) (hs : V.slots.size = N2.toNatClampNeg) (hv : RoadKit.Has V vs (.int 0)) : Cod cd cs.length (fun j => cs.getD j 0) V := by
  rcases h with ⟨rfl, rfl, rfl, h⟩ | ⟨rfl, rfl, rfl, c, hc, hw⟩
  · rw [n32 (by omega)] at hs
    exact Or.inl ⟨rfl, hs, fun j hj => ⟨by rw [hv j (by omega), low_at _ _ _ hj], by
      have e : cs.getD j 0 = cs[j] := by simp [List.getD_eq_getElem?_getD, hj]
      show ¬ 255 < cs.getD j 0
      rw [e]; exact h _ (List.getElem_mem _)⟩⟩
  · rw [n32 (by omega)] at hs
    obtain ⟨j, hj, rfl⟩ := List.getElem_of_mem hc
    exact Or.inr ⟨rfl, hs, fun j hj => ⟨by rw [hv _ (by omega), wide_lo _ _ _ hj], by rw [hv _ (by omega), wide_hi _ _ _ hj]⟩, j, hj, by
      have e : cs.getD j 0 = cs[j] := by simp [List.getD_eq_getElem?_getD, hj]
      show 255 < cs.getD j 0
      rw [e]; exact hw⟩
/-- an object of exactly java/lang/String, its two fields found: as the laws ask it -/
theorem strObj {Z U : State} {a0 : Array Value} {kI : Nat} (wi : (Jvm.Cond.instantiable ST kI).before a0 Z = true) (al : Z.vm.Alike U.vm) {x : Addr} {v0 c0 : Value} (E : RoadKit.Exa Z U.heap x ST) (V : RoadKit.Fld Z U.heap x ST "value" "[B" v0) (C : RoadKit.Fld Z U.heap x ST "coder" "B" c0) :
    ∃ (D : Cell) (fV fC : Field), Blank ST x D U ∧ Found ST "value" "[B" fV U ∧ Found ST "coder" "B" fC U ∧ D.slots[fV.slot]? = some v0 ∧ D.slots[fC.slot]? = some c0 ∧ RoadKit.slotOf Z ST "value" "[B" = fV.slot ∧ RoadKit.slotOf Z ST "coder" "B" = fC.slot := by
  obtain ⟨D, cfV, kV, iV, fV, hD, gV, stV, knV, obV, asV, slV⟩ := V
  obtain ⟨D', cfC, kC, iC, fC, hD', gC, stC, -, -, asC, slC⟩ := C
  cases hD.symm.trans hD'
  obtain ⟨D2, kD, e1, e2, e3, e4, e5⟩ := E
  cases hD.symm.trans e1
  obtain ⟨c2, k2, i1, i2, i3, -⟩ := Cond.instantiable_spec wi
  cases e2.symm.trans i1
  cases e3.symm.trans i2
  obtain ⟨kU, u1, u2⟩ := al.2.2 _ _ e3
  exact ⟨D, fV, fC, ⟨hD, ⟨knV, fun q hq => by rw [hq] at obV; cases obV⟩, by rw [al.findClass]; exact e2, kU, u1, by rw [u2]; exact i3, by rw [u2]; exact e5 i3⟩, ⟨SBG.found_only al ⟨cfV, kV, iV, gV⟩, stV⟩, ⟨SBG.found_only al ⟨cfC, kC, iC, gC⟩, stC⟩, slV, slC, by simp [RoadKit.slotOf, gV], by simp [RoadKit.slotOf, gC]⟩
theorem sta_is {Z U : State} (al : Z.vm.Alike U.vm) {C n d : String} {v : Value} (S : RoadKit.Sta Z U.heap C n d v) : StaticIs U C n d v := by
  obtain ⟨cfS, iS, kS, fS, st, cS, t1, t2, t3, t4, t5, t6, t7⟩ := S
  exact StaticIs.there (s := { Z with heap := U.heap }) ⟨cfS, iS, kS, fS, st, cS, t1, t2, t3, t4, t5, (fun q => by rw [q] at t6; cases t6), t7⟩ al rfl
/-- **length() OF SUCH A STRING** -/
theorem lenW {p : Program} {l : Launch} {e : Env} {R : Room} {s : State} {args : Array Value} {below : List Frame} {len W : Nat} {Z : State} {a0 : Array Value} {h : Heap} (hZ : Z.Warmed39 s.vm) (hw : ∀ d ∈ wordsLen, d.before a0 Z = true) {kI : Nat} (wi : (Jvm.Cond.instantiable ST kI).before a0 Z = true)
    {x t : Addr} {kb : ClassId} {cs : List Int32} {cd N2 z : Int32} {vs : List Value} (E : RoadKit.Exa Z h x ST) (V : RoadKit.Fld Z h x ST "value" "[B" (.ref t)) (C : RoadKit.Fld Z h x ST "coder" "B" (.int cd)) (K : RoadKit.Arv Z h t kb .byte N2 vs (.int 0)) (hc : CodA cs cd N2 vs) (hb : ∀ c ∈ cs, ¬ c < 0 ∧ ¬ (65535 : Int32) < c)
    (S : RoadKit.Sta Z h ST "COMPACT_STRINGS" "Z" (.int z)) (hz : ¬ z = 0) (l2 : cs.length ≤ 4000) (hfr : 2 ≤ R.frames) (hlo : W + 25 ≤ R.locals) :
    Back l R p e below s args (⟨"java/lang/String", "length", "()I"⟩ : MethodName) len W (fun P a => a = #[.ref x] ∧ P.U.heap = h ∧ P.cells + 0 ≤ R.cells ∧ P.slots + 0 ≤ R.slots)
      (fun P _ v B => ∃ L, (v = some (.int (Int32.ofNat cs.length)) ∧ L = [] ∧ B.U.heap = h) ∧ B.locs = P.locs ++ L ∧ B.cells = P.cells + 0 ∧ B.slots = P.slots + 0) := by
  obtain ⟨A, K1, K2, K3, K4, K5, K6⟩ := K
  have hcod := hc.cod (by omega) K3 K5
  intro m meth c P g ig mk a X hg hsize hdg hW hn hp'
  obtain ⟨rfl, rfl, r1, r2⟩ := hp'
  have al : Z.vm.Alike P.U.vm := hZ.alike.trans X.warmed.alike
  obtain ⟨D, fV, fC, hB, F1, F2, g1, g2, -, -⟩ := strObj wi al E V C
  have hx : Txt x t A cd cs.length (fun j => cs.getD j 0) P.U := ⟨⟨_, hB.2.2.1, D, hB.1, rfl, by cases q : D.vm <;> first | rfl | exact absurd q (hB.2.1.2 _)⟩, Has.of hB F1 g1, Has.of hB F2 g2, ⟨K1.1, State.isArrayOf_alike al K1.2.1, K1.2.2, by rcases hcod with ⟨-, q, -⟩ | ⟨-, q, -⟩ <;> omega⟩, hcod, fun j hj => by
    have e : cs.getD j 0 = cs[j] := by simp [List.getD_eq_getElem?_getD, hj]
    show ¬ cs.getD j 0 < 0 ∧ ¬ 65535 < cs.getD j 0
    rw [e]; exact hb _ (List.getElem_mem _)⟩
  obtain ⟨v, B, X', ⟨⟨hv, hh⟩, hl, hk, hs⟩, st⟩ := Len.pays x t A cd cs.length (fun j => cs.getD j 0) z (tabLen_of (movedLen hZ hw)) hfr hlo m meth c P g ig mk _ X hg hsize hdg hW hn ⟨r1, r2, rfl, hx, sta_is al S, hz⟩
  exact ⟨v, B, X', ⟨[], ⟨hv, rfl, hh⟩, hl, hk, hs⟩, st⟩
end StrChars.Road
namespace StrChars
open Jvm Sem ClassFile Op Lib Jvm.Stand Jvm.Free.XT Jvm.Free.ALB Jvm.Free.JM Jvm.Free
open Jvm.Lib.Cold (StaticIs)
/-- what place i of a byte[]'s cell holds -/
def yv (A : Cell) (i : Nat) : Int32 := match A.slots[i]? with | some (.int x) => x | _ => 0
theorem yv_get {a : Addr} {A : Cell} {U : State} (h : XT.Arr .byte a A U) (ht : Typed .byte A) {i : Nat} (hi : i < A.slots.size) : A.slots[i]? = some (.int (yv A i)) := by
  have e := Array.getElem?_eq_getElem hi
  have f := ht i _ e
  unfold yv; rw [e]
  generalize A.slots[i] = v at f
  cases v <;> simp [fits] at f ⊢
/-- the two arrays are equal, place for place -/
def EqC (A B : Cell) : Prop := A.slots.size = B.slots.size ∧ ∀ i, i < A.slots.size → yv A i = yv B i
/-- a boolean that says whether p -/
def Says01 (q : Prop) (r : Option Value) (s u : State) : Prop := ∃ v : Int32, r = some (.int v) ∧ u.heap = s.heap ∧ ((v = 1 ∧ q) ∨ (v = 0 ∧ ¬ q))
theorem Says01.mv {q : Prop} : ∀ r (U U' V V' : State), U'.heap = U.heap → V.vm.Alike V'.vm → V'.heap = V.heap → Says01 q r U V → Says01 q r U' V' :=
  fun r U U' V V' h1 _ h2 ⟨v, a, b, c⟩ => ⟨v, a, by rw [h1, h2]; exact b, c⟩
namespace LEq
def yN : MethodName := ⟨"java/lang/StringLatin1", "equals", "([B[B)Z"⟩
abbrev yB : ByteArray := jdk_43_method_13_code
theorem d0 : decode yB 0 = .ok (.aload_n 0, 1) := by decide +kernel
theorem d1 : decode yB 1 = .ok (.arraylength, 1) := by decide +kernel
theorem d2 : decode yB 2 = .ok (.aload_n 1, 1) := by decide +kernel
theorem d3 : decode yB 3 = .ok (.arraylength, 1) := by decide +kernel
theorem d4 : decode yB 4 = .ok (.if_icmp (.ne) 30, 3) := by decide +kernel
theorem d7 : decode yB 7 = .ok (.iconst 0, 1) := by decide +kernel
theorem d8 : decode yB 8 = .ok (.istore_n 2, 1) := by decide +kernel
theorem d9 : decode yB 9 = .ok (.iload_n 2, 1) := by decide +kernel
theorem d10 : decode yB 10 = .ok (.aload_n 0, 1) := by decide +kernel
theorem d11 : decode yB 11 = .ok (.arraylength, 1) := by decide +kernel
theorem d12 : decode yB 12 = .ok (.if_icmp (.ge) 20, 3) := by decide +kernel
theorem d15 : decode yB 15 = .ok (.aload_n 0, 1) := by decide +kernel
theorem d16 : decode yB 16 = .ok (.iload_n 2, 1) := by decide +kernel
theorem d17 : decode yB 17 = .ok (.baload, 1) := by decide +kernel
theorem d18 : decode yB 18 = .ok (.aload_n 1, 1) := by decide +kernel
theorem d19 : decode yB 19 = .ok (.iload_n 2, 1) := by decide +kernel
theorem d20 : decode yB 20 = .ok (.baload, 1) := by decide +kernel
theorem d21 : decode yB 21 = .ok (.if_icmp (.eq) 5, 3) := by decide +kernel
theorem d24 : decode yB 24 = .ok (.iconst 0, 1) := by decide +kernel
theorem d25 : decode yB 25 = .ok (.ireturn, 1) := by decide +kernel
theorem d26 : decode yB 26 = .ok (.iinc 2 1, 3) := by decide +kernel
theorem d29 : decode yB 29 = .ok (.goto (-20), 3) := by decide +kernel
theorem d32 : decode yB 32 = .ok (.iconst 1, 1) := by decide +kernel
theorem d33 : decode yB 33 = .ok (.ireturn, 1) := by decide +kernel
theorem d34 : decode yB 34 = .ok (.iconst 0, 1) := by decide +kernel
theorem d35 : decode yB 35 = .ok (.ireturn, 1) := by decide +kernel
def site : List Cond := []
def tab : Cond := tabOf yN yB 3 (some .boolean) site
def P (a : Addr) (A : Cell) (b : Addr) (B : Cell) (args : Array Value) (s : State) : Prop := args = #[.ref a, .ref b] ∧ XT.Arr .byte a A s ∧ Typed .byte A ∧ XT.Arr .byte b B s ∧ Typed .byte B
/-- whether two byte[] are equal, place for place -/
theorem law (l : Launch) (a : Addr) (A : Cell) (b : Addr) (B : Cell) : Law l yN 2 2 0 0 yB 3 (some .boolean) site (P a A b B) (Says01 (EqC A B)) [] 0 0 := by
  refine Law.of_walk (plainFor_of_name (by decide +kernel)) (by decide +kernel) (by decide +kernel) (by decide) (fun _ _ h => by rw [h.1]; rfl) (fun _ U U' hal hh h => ⟨h.1, h.2.1.mv hal hh, h.2.2.1, h.2.2.2.1.mv hal hh, h.2.2.2.2⟩) (fun r U U' V V' h1 hal h2 h => Says01.mv r U U' V V' h1 hal h2 h) ?_
  intro p e s m args below meth c s₁ X0 hexec hbytes hml hret hlk hnm hown hh0 W hP
  obtain ⟨rfl, hA, tA, hB, tB⟩ := hP
  have a31 := hA.2.2.2
  have b31 := hB.2.2.2
  have hA0 := hA.mv X0.warmed.alike hh0
  have hB0 := hB.mv X0.warmed.alike hh0
  have c1 : Steps p.tables e below (s₁.setTop (entryFrame m #[.ref a, .ref b] 3)) (s₁.setTop (mkF m 0 #[.val (.ref a), .val (.ref b), .unset] [])) := entry rfl
  have c2 : Steps p.tables e below (s₁.setTop (entryFrame m #[.ref a, .ref b] 3)) (s₁.setTop (mkF m 4 #[.val (.ref a), .val (.ref b), .unset] [.int (Int32.ofNat B.slots.size), .int (Int32.ofNat A.slots.size)])) := c1.trans (by
    refine XS.aloadN X0.here hexec rfl (hb hbytes d0) rfl rfl ?_
    refine X0.alen hexec hA0 rfl rfl (hb hbytes d1) ?_
    refine XS.aloadN X0.here hexec rfl (hb hbytes d2) rfl rfl ?_
    refine X0.alen hexec hB0 rfl rfl (hb hbytes d3) ?_
    exact Steps.refl _)
  by_cases hs : A.slots.size = B.slots.size
  · have c3 : Steps p.tables e below (s₁.setTop (entryFrame m #[.ref a, .ref b] 3)) (s₁.setTop (mkF m 9 #[.val (.ref a), .val (.ref b), .val (.int 0)] [])) := c2.trans (by
      refine XS.icmpNo X0.here hexec rfl (hb hbytes d4) rfl (ii_ne_f (by rw [hs])) ?_
      refine iconstV X0.here hexec rfl 0 (hb hbytes d7) (by decide) ?_
      refine XS.istoreN X0.here hexec rfl (hb hbytes d8) rfl rfl ?_
      exact Steps.refl _)
    have loop : ∀ (r i : Nat), i + r = A.slots.size → (∀ j, j < i → yv A j = yv B j) → Steps p.tables e below (s₁.setTop (entryFrame m #[.ref a, .ref b] 3)) (s₁.setTop (mkF m 9 #[.val (.ref a), .val (.ref b), .val (.int (Int32.ofNat i))] [])) → ∃ (pc : Nat) (Ls : Array Slot) (v : Int32), (pc = 25 ∨ pc = 33) ∧ ((v = 1 ∧ EqC A B) ∨ (v = 0 ∧ ¬ EqC A B)) ∧ Steps p.tables e below (s₁.setTop (entryFrame m #[.ref a, .ref b] 3)) (s₁.setTop (mkF m pc Ls [.int v])) := by
      intro r
      induction r with
      | zero =>
        intro i hi he cl
        exact ⟨33, _, 1, Or.inr rfl, Or.inl ⟨rfl, hs, fun j hj => he j (by omega)⟩, cl.trans (by
          refine XS.iloadN X0.here hexec rfl (hb hbytes d9) rfl ?_
          refine XS.aloadN X0.here hexec rfl (hb hbytes d10) rfl rfl ?_
          refine X0.alen hexec hA0 rfl rfl (hb hbytes d11) ?_
          refine XS.icmpYes X0.here hexec rfl (pc0 := 12) rfl (hb hbytes d12) rfl (ii_ge_t (nlt32 (by omega) (by omega))) (by decide) rfl ?_
          refine iconstV X0.here hexec rfl 1 (hb hbytes d32) (by decide) ?_
          exact Steps.refl _)⟩
      | succ r ih =>
        intro i hi he cl
        have c4 : Steps p.tables e below (s₁.setTop (entryFrame m #[.ref a, .ref b] 3)) (s₁.setTop (mkF m 21 #[.val (.ref a), .val (.ref b), .val (.int (Int32.ofNat i))] [.int (yv B i), .int (yv A i)])) := cl.trans (by
          refine XS.iloadN X0.here hexec rfl (hb hbytes d9) rfl ?_
          refine XS.aloadN X0.here hexec rfl (hb hbytes d10) rfl rfl ?_
          refine X0.alen hexec hA0 rfl rfl (hb hbytes d11) ?_
          refine XS.icmpNo X0.here hexec rfl (hb hbytes d12) rfl (ii_ge_f (lt32 (by omega) (by omega))) ?_
          refine XS.aloadN X0.here hexec rfl (hb hbytes d15) rfl rfl ?_
          refine XS.iloadN X0.here hexec rfl (hb hbytes d16) rfl ?_
          refine X0.aget hexec hA0 rfl (yv_get hA tA (i := i) (by omega)) rfl rfl (hb hbytes d17) ?_
          refine XS.aloadN X0.here hexec rfl (hb hbytes d18) rfl rfl ?_
          refine XS.iloadN X0.here hexec rfl (hb hbytes d19) rfl ?_
          refine X0.aget hexec hB0 rfl (yv_get hB tB (i := i) (by omega)) rfl rfl (hb hbytes d20) ?_
          exact Steps.refl _)
        by_cases hv : yv A i = yv B i
        · have c5 : Steps p.tables e below (s₁.setTop (entryFrame m #[.ref a, .ref b] 3)) (s₁.setTop (mkF m 9 #[.val (.ref a), .val (.ref b), .val (.int (Int32.ofNat i + 1))] [])) := c4.trans (by
            refine XS.icmpYes X0.here hexec rfl (pc0 := 21) rfl (hb hbytes d21) rfl (ii_eq_t hv) (by decide) rfl ?_
            refine iincV X0.here hexec rfl 1 (hb hbytes d26) (by decide) rfl rfl ?_
            refine XS.goto X0.here hexec rfl (pc0 := 29) rfl (hb hbytes d29) (by decide) rfl ?_
            exact Steps.refl _)
          rw [succ32] at c5
          exact ih (i + 1) (by omega) (fun j hj => by
            by_cases e : j = i
            · rw [e]; exact hv
            · exact he j (by omega)) c5
        · exact ⟨25, _, 0, Or.inl rfl, Or.inr ⟨rfl, fun q => hv (q.2 i (by omega))⟩, c4.trans (by
            refine XS.icmpNo X0.here hexec rfl (hb hbytes d21) rfl (ii_eq_f hv) ?_
            refine iconstV X0.here hexec rfl 0 (hb hbytes d24) (by decide) ?_
            exact Steps.refl _)⟩
    obtain ⟨pc, Ls, v, hpc, hv, cz⟩ := loop A.slots.size 0 (by omega) (fun j hj => absurd hj (Nat.not_lt_zero j)) c3
    have nv : narrow .boolean (.int v) = .int v := by rcases hv with ⟨rfl, -⟩ | ⟨rfl, -⟩ <;> rfl
    rcases hpc with rfl | rfl
    · exact ⟨s₁, some (.int v), _, _, _, X0, rfl, rfl, rfl, (fun h => by cases h), ⟨v, rfl, hh0, hv⟩, fun fs hl => cz.trans (X0.ireturnOut hexec hret nv (Or.inr (Or.inl rfl)) (hb hbytes d25) hl)⟩
    · exact ⟨s₁, some (.int v), _, _, _, X0, rfl, rfl, rfl, (fun h => by cases h), ⟨v, rfl, hh0, hv⟩, fun fs hl => cz.trans (X0.ireturnOut hexec hret nv (Or.inr (Or.inl rfl)) (hb hbytes d33) hl)⟩
  · have c3 : Steps p.tables e below (s₁.setTop (entryFrame m #[.ref a, .ref b] 3)) (s₁.setTop (mkF m 35 #[.val (.ref a), .val (.ref b), .unset] [.int 0])) := c2.trans (by
      refine XS.icmpYes X0.here hexec rfl (pc0 := 4) rfl (hb hbytes d4) rfl (ii_ne_t (ne32 a31 b31 hs)) (by decide) rfl ?_
      refine iconstV X0.here hexec rfl 0 (hb hbytes d34) (by decide) ?_
      exact Steps.refl _)
    exact ⟨s₁, some (.int 0), _, _, _, X0, rfl, rfl, rfl, (fun h => by cases h), ⟨0, rfl, hh0, Or.inr ⟨rfl, fun q => hs q.1⟩⟩, fun fs hl => c3.trans (X0.ireturnOut hexec hret rfl (Or.inr (Or.inl rfl)) (hb hbytes d35) hl)⟩
end LEq
theorem Cod.ty {cd : Int32} {n : Nat} {f : Nat → Int32} {V : Cell} (h : Cod cd n f V) : Typed .byte V := fun i v hv => by
  have hi : i < V.slots.size := (Array.getElem?_eq_some_iff.mp hv).1
  rcases h with ⟨-, k1, k2⟩ | ⟨-, k1, k2, -⟩
  · rw [(k2 i (by omega)).1] at hv; cases hv; exact fits_lo8 _
  · rcases Nat.mod_two_eq_zero_or_one i with e | e
    · obtain ⟨j, rfl⟩ : ∃ j, i = 2 * j := ⟨i / 2, by omega⟩
      rw [(k2 j (by omega)).1] at hv; cases hv; exact fits_lo8 _
    · obtain ⟨j, rfl⟩ : ∃ j, i = 2 * j + 1 := ⟨i / 2, by omega⟩
      rw [(k2 j (by omega)).2] at hv; cases hv; exact fits_lo8 _
/-- the same text -/
def SameT (n : Nat) (f : Nat → Int32) (k : Nat) (g : Nat → Int32) : Prop := n = k ∧ ∀ j, j < n → f j = g j
theorem lo8_inj {x y : Int32} (h0 : ¬ x < 0) (h1 : ¬ 255 < x) (k0 : ¬ y < 0) (k1 : ¬ 255 < y) (h : lo8 x = lo8 y) : x = y := by
  rw [← lo8_mask h0 h1, ← lo8_mask k0 k1, h]
/-- arrays coded by one coder are equal just where the texts are -/
theorem Cod.eqv {cd : Int32} {n k : Nat} {f g : Nat → Int32} {V V' : Cell} (h : Cod cd n f V) (h' : Cod cd k g V') (hf : ∀ j, j < n → ¬ f j < 0 ∧ ¬ 65535 < f j) (hg : ∀ j, j < k → ¬ g j < 0 ∧ ¬ 65535 < g j) : EqC V V' ↔ SameT n f k g := by
  have yvv : ∀ {W : Cell} {i : Nat} {x : Int32}, W.slots[i]? = some (.int x) → yv W i = x := fun q => by unfold yv; rw [q]
  rcases h with ⟨rfl, k1, k2⟩ | ⟨rfl, k1, k2, -⟩
  · rcases h' with ⟨-, m1, m2⟩ | ⟨e, -⟩
    · constructor
      · rintro ⟨e1, e2⟩
        refine ⟨by omega, fun j hj => ?_⟩
        have q := e2 j (by omega)
        rw [yvv (k2 j hj).1, yvv (m2 j (by omega)).1] at q
        exact lo8_inj (hf j hj).1 (k2 j hj).2 (hg j (by omega)).1 (m2 j (by omega)).2 q
      · rintro ⟨rfl, e2⟩
        refine ⟨by omega, fun j hj => ?_⟩
        rw [yvv (k2 j (by omega)).1, yvv (m2 j (by omega)).1, e2 j (by omega)]
    · exact absurd e (by decide)
  · rcases h' with ⟨e, -⟩ | ⟨-, m1, m2, -⟩
    · exact absurd e (by decide)
    · constructor
      · rintro ⟨e1, e2⟩
        refine ⟨by omega, fun j hj => ?_⟩
        have q1 := e2 (2 * j) (by omega)
        have q2 := e2 (2 * j + 1) (by omega)
        rw [yvv (k2 j hj).1, yvv (m2 j (by omega)).1] at q1
        rw [yvv (k2 j hj).2, yvv (m2 j (by omega)).2] at q2
        rw [← pair_says (hf j hj).1 (hf j hj).2, ← pair_says (hg j (by omega)).1 (hg j (by omega)).2, q1, q2]
      · rintro ⟨rfl, e2⟩
        refine ⟨by omega, fun i hi => ?_⟩
        rcases Nat.mod_two_eq_zero_or_one i with e | e
        · obtain ⟨j, rfl⟩ : ∃ j, i = 2 * j := ⟨i / 2, by omega⟩
          rw [yvv (k2 j (by omega)).1, yvv (m2 j (by omega)).1, e2 j (by omega)]
        · obtain ⟨j, rfl⟩ : ∃ j, i = 2 * j + 1 := ⟨i / 2, by omega⟩
          rw [yvv (k2 j (by omega)).2, yvv (m2 j (by omega)).2, e2 j (by omega)]
/-- two codings differ: so do the texts -/
theorem Cod.dif {cd cd' : Int32} {n k : Nat} {f g : Nat → Int32} {V V' : Cell} (h : Cod cd n f V) (h' : Cod cd' k g V') (hne : ¬ cd = cd') : ¬ SameT n f k g := by
  rintro ⟨rfl, e⟩
  rcases h with ⟨rfl, -, k2⟩ | ⟨rfl, -, -, j, hj, hw⟩
  · rcases h' with ⟨rfl, -⟩ | ⟨-, -, -, j, hj, hw⟩
    · exact hne rfl
    · exact (k2 j hj).2 (by rw [e j hj]; exact hw)
  · rcases h' with ⟨-, -, m2⟩ | ⟨rfl, -⟩
    · exact (m2 j hj).2 (by rw [← e j hj]; exact hw)
    · exact hne rfl
/-- an object of exactly C is an instance of C -/
theorem cinst {p : Program} {l : Launch} {e : Env} {R : Room} {s : State} {m : MethodId} {args : Array Value} {below : List Frame} {meth : Method} {c : Code} {T : State} {locs : List Loc} {cells slots : Nat} (X : Stand p l e R s m args below meth c T locs cells slots) (hexec : p.tables.exec = Jvm.exec) {own C : String} {index : Nat} (hown : s.vm.findClass own = some m.cls) (hlink : (Cond.classLink own index C).before args s = true) {a : Addr} (hE : Exact C a T)
    {g : JFrame} (hg : g.method = m) {rest : List Value} (hstack : g.stack = .ref a :: rest) (hdg : decode c.code g.pc = .ok (.instanceof index, 3)) :
    ∃ T', Stand p l e R s m args below meth c T' locs cells slots ∧ T'.heap = T.heap ∧ ∀ target, Steps p.tables e below (T'.setTop { g with pc := g.pc + 3, stack := .int 1 :: rest }) target → Steps p.tables e below (T.setTop g) target := by
  obtain ⟨cB, h1, D, h2, h3, h4⟩ := hE
  have h1' : s.vm.findClass C = some cB := by rw [← X.warmed.alike.findClass]; exact h1
  obtain ⟨vm', X', st⟩ := X.instanceofYes hexec hown hlink h2 h4 h1' (by rw [h3]; exact Jvm.Free.SB.assignable_self _ _) hg hstack hdg
  exact ⟨_, X', rfl, st⟩
theorem cself {p : Program} {l : Launch} {e : Env} {R : Room} {s : State} {m : MethodId} {args : Array Value} {below : List Frame} {meth : Method} {c : Code} {T : State} {locs : List Loc} {cells slots : Nat} (X : Stand p l e R s m args below meth c T locs cells slots) (hexec : p.tables.exec = Jvm.exec) {own C : String} {index : Nat} (hown : s.vm.findClass own = some m.cls) (hlink : (Cond.classLink own index C).before args s = true) {a : Addr} (hE : Exact C a T)
    {g : JFrame} (hg : g.method = m) {rest : List Value} (hstack : g.stack = .ref a :: rest) (hdg : decode c.code g.pc = .ok (.checkcast index, 3)) :
    ∃ T', Stand p l e R s m args below meth c T' locs cells slots ∧ T'.heap = T.heap ∧ ∀ target, Steps p.tables e below (T'.setTop { g with pc := g.pc + 3, stack := .ref a :: rest }) target → Steps p.tables e below (T.setTop g) target := by
  obtain ⟨cB, h1, D, h2, h3, h4⟩ := hE
  have h1' : s.vm.findClass C = some cB := by rw [← X.warmed.alike.findClass]; exact h1
  obtain ⟨vm', X', st⟩ := X.checkcastYes hexec hown hlink h2 h4 h1' (by rw [h3]; exact Jvm.Free.SB.assignable_self _ _) hg hstack hdg
  exact ⟨_, X', rfl, fun t h => st t (by rw [← hstack] at h; exact h)⟩
namespace SEq
def yN : MethodName := ⟨"java/lang/String", "equals", "(Ljava/lang/Object;)Z"⟩
abbrev yB : ByteArray := jdk_42_method_66_code
theorem d0 : decode yB 0 = .ok (.aload_n 0, 1) := by decide +kernel
theorem d1 : decode yB 1 = .ok (.aload_n 1, 1) := by decide +kernel
theorem d2 : decode yB 2 = .ok (.if_acmp (.ne) 5, 3) := by decide +kernel
theorem d5 : decode yB 5 = .ok (.iconst 1, 1) := by decide +kernel
theorem d6 : decode yB 6 = .ok (.ireturn, 1) := by decide +kernel
theorem d7 : decode yB 7 = .ok (.aload_n 1, 1) := by decide +kernel
theorem d8 : decode yB 8 = .ok (.instanceof 10, 3) := by decide +kernel
theorem d11 : decode yB 11 = .ok (.ifCond (.eq) 43, 3) := by decide +kernel
theorem d14 : decode yB 14 = .ok (.aload_n 1, 1) := by decide +kernel
theorem d15 : decode yB 15 = .ok (.checkcast 10, 3) := by decide +kernel
theorem d18 : decode yB 18 = .ok (.astore_n 2, 1) := by decide +kernel
theorem d19 : decode yB 19 = .ok (.getstatic 38, 3) := by decide +kernel
theorem d22 : decode yB 22 = .ok (.ifCond (.eq) 14, 3) := by decide +kernel
theorem d25 : decode yB 25 = .ok (.aload_n 0, 1) := by decide +kernel
theorem d26 : decode yB 26 = .ok (.getfield 15, 3) := by decide +kernel
theorem d29 : decode yB 29 = .ok (.aload_n 2, 1) := by decide +kernel
theorem d30 : decode yB 30 = .ok (.getfield 15, 3) := by decide +kernel
theorem d33 : decode yB 33 = .ok (.if_icmp (.ne) 21, 3) := by decide +kernel
theorem d36 : decode yB 36 = .ok (.aload_n 0, 1) := by decide +kernel
theorem d37 : decode yB 37 = .ok (.getfield 9, 3) := by decide +kernel
theorem d40 : decode yB 40 = .ok (.aload_n 2, 1) := by decide +kernel
theorem d41 : decode yB 41 = .ok (.getfield 9, 3) := by decide +kernel
theorem d44 : decode yB 44 = .ok (.invokestatic 541, 3) := by decide +kernel
theorem d47 : decode yB 47 = .ok (.ifCond (.eq) 7, 3) := by decide +kernel
theorem d50 : decode yB 50 = .ok (.iconst 1, 1) := by decide +kernel
theorem d51 : decode yB 51 = .ok (.goto 4, 3) := by decide +kernel
theorem d54 : decode yB 54 = .ok (.iconst 0, 1) := by decide +kernel
theorem d55 : decode yB 55 = .ok (.ireturn, 1) := by decide +kernel
def site : List Cond := [.classLink "java/lang/String" 10 "java/lang/String", .fieldLink "java/lang/String" 38 "java/lang/String" "COMPACT_STRINGS" "Z", .fieldLink "java/lang/String" 15 "java/lang/String" "coder" "B", .fieldLink "java/lang/String" 9 "java/lang/String" "value" "[B", LEq.tab] ++ staticW "java/lang/String" 541 LEq.yN
def tab : Cond := tabOf yN yB 3 (some .boolean) site
def P (x t : Addr) (V : Cell) (cd : Int32) (n : Nat) (f : Nat → Int32) (y t' : Addr) (V' : Cell) (cd' : Int32) (k : Nat) (g : Nat → Int32) (z : Int32) (args : Array Value) (s : State) : Prop := args = #[.ref x, .ref y] ∧ Txt x t V cd n f s ∧ Txt y t' V' cd' k g s ∧ StaticIs s "java/lang/String" "COMPACT_STRINGS" "Z" (.int z) ∧ ¬ z = 0
/-- equals(Object) of two Strings: whether the texts are the same -/
theorem law (l : Launch) (x t : Addr) (V : Cell) (cd : Int32) (n : Nat) (f : Nat → Int32) (y t' : Addr) (V' : Cell) (cd' : Int32) (k : Nat) (g : Nat → Int32) (z : Int32) : Law l yN 2 1 1 14 yB 3 (some .boolean) site (P x t V cd n f y t' V' cd' k g z) (Says01 (SameT n f k g)) [] 0 0 := by
  refine Law.of_walk (plainFor_of_name (by decide +kernel)) (by decide +kernel) (by decide +kernel) (by decide) (fun _ _ h => by rw [h.1]; rfl) (fun _ U U' hal hh h => ⟨h.1, h.2.1.mv hal hh, h.2.2.1.mv hal hh, h.2.2.2.1.there hal hh, h.2.2.2.2⟩) (fun r U U' V V' h1 hal h2 h => Says01.mv r U U' V V' h1 hal h2 h) ?_
  intro p e s m args below meth c s₁ X0 hexec hbytes hml hret hlk hnm hown hh0 W hP
  obtain ⟨rfl, hx, hy, s1, hz⟩ := hP
  have c1 : Steps p.tables e below (s₁.setTop (entryFrame m #[.ref x, .ref y] 3)) (s₁.setTop (mkF m 2 #[.val (.ref x), .val (.ref y), .unset] [.ref y, .ref x])) := Steps.trans (entry rfl) (by
    show Steps p.tables e below (s₁.setTop (mkF m 0 #[.val (.ref x), .val (.ref y), .unset] [])) _
    refine XS.aloadN X0.here hexec rfl (hb hbytes d0) rfl rfl ?_
    refine XS.aloadN X0.here hexec rfl (hb hbytes d1) rfl rfl ?_
    exact Steps.refl _)
  by_cases hxy : x = y
  · have c2 : Steps p.tables e below (s₁.setTop (entryFrame m #[.ref x, .ref y] 3)) (s₁.setTop (mkF m 6 #[.val (.ref x), .val (.ref y), .unset] [.int 1])) := c1.trans (by
      refine acmpNo X0.here hexec rfl (hb hbytes d2) rfl rfl rfl (by simp [acmp, hxy]) ?_
      refine iconstV X0.here hexec rfl 1 (hb hbytes d5) (by decide) ?_
      exact Steps.refl _)
    subst hxy
    have ec : cd = cd' := by
      obtain ⟨D, fd, a1, a2, a3⟩ := hx.2.2.1
      obtain ⟨D', fd', b1, b2, b3⟩ := hy.2.2.1
      cases a1.symm.trans b1
      obtain ⟨q1, q2, q3, q4⟩ := a2.1
      obtain ⟨r1, r2, r3, r4⟩ := b2.1
      cases q4.symm.trans r4
      cases a3.symm.trans b3; rfl
    have et : t = t' := by
      obtain ⟨D, fd, a1, a2, a3⟩ := hx.2.1
      obtain ⟨D', fd', b1, b2, b3⟩ := hy.2.1
      cases a1.symm.trans b1
      obtain ⟨q1, q2, q3, q4⟩ := a2.1
      obtain ⟨r1, r2, r3, r4⟩ := b2.1
      cases q4.symm.trans r4
      cases a3.symm.trans b3; rfl
    subst ec et
    have ev : V = V' := by cases hx.2.2.2.1.1.symm.trans hy.2.2.2.1.1; rfl
    subst ev
    have hs : SameT n f k g := (Cod.eqv hx.2.2.2.2.1 hy.2.2.2.2.1 hx.2.2.2.2.2 hy.2.2.2.2.2).mp ⟨rfl, fun _ _ => rfl⟩
    exact ⟨s₁, some (.int 1), _, _, _, X0, rfl, rfl, rfl, (fun h => by cases h), ⟨1, rfl, hh0, Or.inl ⟨rfl, hs⟩⟩, fun fs hl => c2.trans (X0.ireturnOut hexec hret rfl (Or.inr (Or.inl rfl)) (hb hbytes d6) hl)⟩
  · have c2 : Steps p.tables e below (s₁.setTop (entryFrame m #[.ref x, .ref y] 3)) (s₁.setTop (mkF m 8 #[.val (.ref x), .val (.ref y), .unset] [.ref y])) := c1.trans (by
      refine acmpYes X0.here hexec rfl (pc0 := 2) rfl (hb hbytes d2) rfl rfl rfl (by simp [acmp, hxy]) (by decide) rfl ?_
      refine XS.aloadN X0.here hexec rfl (hb hbytes d7) rfl rfl ?_
      exact Steps.refl _)
    obtain ⟨T3, X3, q3, st3⟩ := cinst X0 hexec hown (wk W (.classLink "java/lang/String" 10 "java/lang/String")) (hy.mv X0.warmed.alike hh0).1 (g := (mkF m 8 #[.val (.ref x), .val (.ref y), .unset] [.ref y])) rfl (rest := []) rfl (hb hbytes d8)
    have hh3 := q3.trans hh0
    have c4 : Steps p.tables e below (s₁.setTop (entryFrame m #[.ref x, .ref y] 3)) (T3.setTop (mkF m 15 #[.val (.ref x), .val (.ref y), .unset] [.ref y])) := (c2.trans (st3 _ (Steps.refl _))).trans (by
      refine XS.ifNo X3.here hexec rfl (hb hbytes d11) rfl (i0_eq_f (by decide)) ?_
      refine XS.aloadN X3.here hexec rfl (hb hbytes d14) rfl rfl ?_
      exact Steps.refl _)
    obtain ⟨T5, X5, q5, st5⟩ := cself X3 hexec hown (wk W (.classLink "java/lang/String" 10 "java/lang/String")) (hy.mv X3.warmed.alike hh3).1 (g := (mkF m 15 #[.val (.ref x), .val (.ref y), .unset] [.ref y])) rfl (rest := []) rfl (hb hbytes d15)
    have hh5 := q5.trans hh3
    have c6 : Steps p.tables e below (s₁.setTop (entryFrame m #[.ref x, .ref y] 3)) (T5.setTop (mkF m 19 #[.val (.ref x), .val (.ref y), .val (.ref y)] [])) := (c4.trans (st5 _ (Steps.refl _))).trans (by
      refine XS.astoreN X5.here hexec rfl (hb hbytes d18) rfl rfl rfl ?_
      exact Steps.refl _)
    obtain ⟨T7, X7, q7, st7⟩ := X5.sget hexec hown (wk W (.fieldLink "java/lang/String" 38 "java/lang/String" "COMPACT_STRINGS" "Z")) s1 (fun _ _ h => by rw [hh5]; exact h) (g := (mkF m 19 #[.val (.ref x), .val (.ref y), .val (.ref y)] [])) rfl (hb hbytes d19)
    have hh7 := q7.trans hh5
    have c8 : Steps p.tables e below (s₁.setTop (entryFrame m #[.ref x, .ref y] 3)) (T7.setTop (mkF m 26 #[.val (.ref x), .val (.ref y), .val (.ref y)] [.ref x])) := (c6.trans (st7 _ (Steps.refl _))).trans (by
      refine XS.ifNo X7.here hexec rfl (hb hbytes d22) rfl (i0_eq_f hz) ?_
      refine XS.aloadN X7.here hexec rfl (hb hbytes d25) rfl rfl ?_
      exact Steps.refl _)
    obtain ⟨T9, X9, q9, st9⟩ := X7.hget hexec hown (wk W (.fieldLink "java/lang/String" 15 "java/lang/String" "coder" "B")) (hx.mv X7.warmed.alike hh7).2.2.1 (g := (mkF m 26 #[.val (.ref x), .val (.ref y), .val (.ref y)] [.ref x])) rfl (rest := []) rfl (hb hbytes d26)
    have hh9 := q9.trans hh7
    have c10 : Steps p.tables e below (s₁.setTop (entryFrame m #[.ref x, .ref y] 3)) (T9.setTop (mkF m 30 #[.val (.ref x), .val (.ref y), .val (.ref y)] [.ref y, .int cd])) := (c8.trans (st9 _ (Steps.refl _))).trans (by
      refine XS.aloadN X9.here hexec rfl (hb hbytes d29) rfl rfl ?_
      exact Steps.refl _)
    obtain ⟨T11, X11, q11, st11⟩ := X9.hget hexec hown (wk W (.fieldLink "java/lang/String" 15 "java/lang/String" "coder" "B")) (hy.mv X9.warmed.alike hh9).2.2.1 (g := (mkF m 30 #[.val (.ref x), .val (.ref y), .val (.ref y)] [.ref y, .int cd])) rfl (rest := [.int cd]) rfl (hb hbytes d30)
    have hh11 := q11.trans hh9
    have c12 : Steps p.tables e below (s₁.setTop (entryFrame m #[.ref x, .ref y] 3)) (T11.setTop (mkF m 33 #[.val (.ref x), .val (.ref y), .val (.ref y)] [.int cd', .int cd])) := c10.trans (st11 _ (Steps.refl _))
    by_cases hcd : cd = cd'
    · subst hcd
      have c13 : Steps p.tables e below (s₁.setTop (entryFrame m #[.ref x, .ref y] 3)) (T11.setTop (mkF m 37 #[.val (.ref x), .val (.ref y), .val (.ref y)] [.ref x])) := c12.trans (by
        refine XS.icmpNo X11.here hexec rfl (hb hbytes d33) rfl (ii_ne_f rfl) ?_
        refine XS.aloadN X11.here hexec rfl (hb hbytes d36) rfl rfl ?_
        exact Steps.refl _)
      obtain ⟨T14, X14, q14, st14⟩ := X11.hget hexec hown (wk W (.fieldLink "java/lang/String" 9 "java/lang/String" "value" "[B")) (hx.mv X11.warmed.alike hh11).2.1 (g := (mkF m 37 #[.val (.ref x), .val (.ref y), .val (.ref y)] [.ref x])) rfl (rest := []) rfl (hb hbytes d37)
      have hh14 := q14.trans hh11
      have c15 : Steps p.tables e below (s₁.setTop (entryFrame m #[.ref x, .ref y] 3)) (T14.setTop (mkF m 41 #[.val (.ref x), .val (.ref y), .val (.ref y)] [.ref y, .ref t])) := (c13.trans (st14 _ (Steps.refl _))).trans (by
        refine XS.aloadN X14.here hexec rfl (hb hbytes d40) rfl rfl ?_
        exact Steps.refl _)
      obtain ⟨T16, X16, q16, st16⟩ := X14.hget hexec hown (wk W (.fieldLink "java/lang/String" 9 "java/lang/String" "value" "[B")) (hy.mv X14.warmed.alike hh14).2.1 (g := (mkF m 41 #[.val (.ref x), .val (.ref y), .val (.ref y)] [.ref y, .ref t])) rfl (rest := [.ref t]) rfl (hb hbytes d41)
      have hh16 := q16.trans hh14
      have c17 : Steps p.tables e below (s₁.setTop (entryFrame m #[.ref x, .ref y] 3)) (T16.setTop (mkF m 44 #[.val (.ref x), .val (.ref y), .val (.ref y)] [.ref t', .ref t])) := c15.trans (st16 _ (Steps.refl _))
      obtain ⟨v18, T18, X18, E18, g18⟩ := X16.callS hexec (LEq.law l t V t' V') hown (wks W (staticW "java/lang/String" 541 LEq.yN)) (wk W LEq.tab) (W := 0) (Nat.le_of_ble_eq_true rfl) (Nat.le_of_ble_eq_true rfl) (Nat.le_refl _) (Nat.le_refl _) (g := (mkF m 44 #[.val (.ref x), .val (.ref y), .val (.ref y)] [.ref t', .ref t])) rfl (by rw [hml]; rfl) c17 (argsL := [.ref t, .ref t']) (rest := []) rfl rfl (by show 2 * 0 + 0 ≤ _; decide) (hb hbytes d44) (⟨rfl, hx.2.2.2.1.mv X16.warmed.alike hh16, hx.2.2.2.2.1.ty, hy.2.2.2.1.mv X16.warmed.alike hh16, hy.2.2.2.2.1.ty⟩)
      obtain ⟨v, rfl, q18, hv⟩ := E18
      have iff := Cod.eqv hx.2.2.2.2.1 hy.2.2.2.2.1 hx.2.2.2.2.2 hy.2.2.2.2.2
      rcases hv with ⟨rfl, he⟩ | ⟨rfl, he⟩
      · have c19 : Steps p.tables e below (s₁.setTop (entryFrame m #[.ref x, .ref y] 3)) (T18.setTop (mkF m 55 #[.val (.ref x), .val (.ref y), .val (.ref y)] [.int 1])) := Steps.trans g18 (by
          refine XS.ifNo X18.here hexec rfl (hb hbytes d47) rfl (i0_eq_f (by decide)) ?_
          refine iconstV X18.here hexec rfl 1 (hb hbytes d50) (by decide) ?_
          refine XS.goto X18.here hexec rfl (pc0 := 51) rfl (hb hbytes d51) (by decide) rfl ?_
          exact Steps.refl _)
        exact ⟨T18, some (.int 1), _, _, _, X18, rfl, rfl, rfl, (fun h => by cases h), ⟨1, rfl, q18.trans hh16, Or.inl ⟨rfl, iff.mp he⟩⟩, fun fs hl => c19.trans (X18.ireturnOut hexec hret rfl (Or.inr (Or.inl rfl)) (hb hbytes d55) hl)⟩
      · have c19 : Steps p.tables e below (s₁.setTop (entryFrame m #[.ref x, .ref y] 3)) (T18.setTop (mkF m 55 #[.val (.ref x), .val (.ref y), .val (.ref y)] [.int 0])) := Steps.trans g18 (by
          refine XS.ifYes X18.here hexec rfl (pc0 := 47) rfl (hb hbytes d47) rfl (i0_eq_t rfl) (by decide) rfl ?_
          refine iconstV X18.here hexec rfl 0 (hb hbytes d54) (by decide) ?_
          exact Steps.refl _)
        exact ⟨T18, some (.int 0), _, _, _, X18, rfl, rfl, rfl, (fun h => by cases h), ⟨0, rfl, q18.trans hh16, Or.inr ⟨rfl, fun q => he (iff.mpr q)⟩⟩, fun fs hl => c19.trans (X18.ireturnOut hexec hret rfl (Or.inr (Or.inl rfl)) (hb hbytes d55) hl)⟩
    · have c13 : Steps p.tables e below (s₁.setTop (entryFrame m #[.ref x, .ref y] 3)) (T11.setTop (mkF m 55 #[.val (.ref x), .val (.ref y), .val (.ref y)] [.int 0])) := c12.trans (by
        refine XS.icmpYes X11.here hexec rfl (pc0 := 33) rfl (hb hbytes d33) rfl (ii_ne_t hcd) (by decide) rfl ?_
        refine iconstV X11.here hexec rfl 0 (hb hbytes d54) (by decide) ?_
        exact Steps.refl _)
      exact ⟨T11, some (.int 0), _, _, _, X11, rfl, rfl, rfl, (fun h => by cases h), ⟨0, rfl, hh11, Or.inr ⟨rfl, Cod.dif hx.2.2.2.2.1 hy.2.2.2.2.1 hcd⟩⟩, fun fs hl => c13.trans (X11.ireturnOut hexec hret rfl (Or.inr (Or.inl rfl)) (hb hbytes d55) hl)⟩
theorem pays {l : Launch} {R : Room} {p : Program} {e : Env} {below : List Frame} {s : State} {sargs : Array Value} {len W : Nat} (x t : Addr) (V : Cell) (cd : Int32) (n : Nat) (f : Nat → Int32) (y t' : Addr) (V' : Cell) (cd' : Int32) (k : Nat) (g : Nat → Int32) (z : Int32) (htab : tab.before sargs s = true) (hfr : 2 ≤ R.frames) (hlo : W + 28 ≤ R.locals) :
    Back l R p e below s sargs yN len W (fun A₁ a₁ => A₁.cells + 0 ≤ R.cells ∧ A₁.slots + 0 ≤ R.slots ∧ P x t V cd n f y t' V' cd' k g z a₁ A₁.U) (fun A₁ _ v₁ B₁ => Says01 (SameT n f k g) v₁ A₁.U B₁.U ∧ B₁.locs = A₁.locs ++ [] ∧ B₁.cells = A₁.cells + 0 ∧ B₁.slots = A₁.slots + 0) :=
  (law l x t V cd n f y t' V' cd' k g z).pays htab hfr (by omega)
end SEq
end StrChars
namespace StrChars.Road
open Jvm Sem ClassFile Op Lib Jvm.Stand Jvm.Free Jvm.Free.XT
open Jvm.Lib.Cold (StaticIs)
/-- the words of String.equals(Object) -/
abbrev wordsEq : List Jvm.Cond := [.code SEq.yN SEq.yB 3 (some .boolean), .initialized ST, .classLink ST 10 ST, .fieldLink ST 38 ST "COMPACT_STRINGS" "Z", .fieldLink ST 15 ST "coder" "B", .fieldLink ST 9 ST "value" "[B", .methodLink ST 541 LEq.yN, .static LEq.yN, .code LEq.yN LEq.yB 3 (some .boolean), .initialized "java/lang/StringLatin1"]
theorem tabEq_of {a : Array Value} {s : State} (h : ∀ w ∈ wordsEq, w.before a s = true) : SEq.tab.before a s = true := by
  have hl : LEq.tab.before a s = true := unparts (wk h (.code LEq.yN LEq.yB 3 (some .boolean))) (wks h (.initialized LEq.yN.cls :: LEq.site))
  have q := consq hl h
  exact unparts (wk q (.code SEq.yN SEq.yB 3 (some .boolean))) (wks q (.initialized SEq.yN.cls :: SEq.site))
theorem movedEq {Z s : State} {a0 args : Array Value} (hZ : Z.Warmed39 s.vm) (hw : ∀ d ∈ wordsEq, d.before a0 Z = true) : ∀ d ∈ wordsEq, d.before args s = true := fun d hd => by
  have t : ∀ d ∈ wordsEq, (d.onTables && d.keepsFace) = true := by decide +kernel
  exact RoadKit.mv hZ (hw d hd) (t d hd)
/-- the road's facts of a String, as the laws ask it -/
theorem txt_of {Z U : State} {a0 : Array Value} {kI : Nat} (wi : (Jvm.Cond.instantiable ST kI).before a0 Z = true) (al : Z.vm.Alike U.vm) {x t : Addr} {kb : ClassId} {cs : List Int32} {cd N2 : Int32} {vs : List Value} (E : RoadKit.Exa Z U.heap x ST) (V : RoadKit.Fld Z U.heap x ST "value" "[B" (.ref t)) (C : RoadKit.Fld Z U.heap x ST "coder" "B" (.int cd)) (K : RoadKit.Arv Z U.heap t kb .byte N2 vs (.int 0)) (hc : CodA cs cd N2 vs) (hb : ∀ c ∈ cs, ¬ c < 0 ∧ ¬ (65535 : Int32) < c) (l2 : cs.length ≤ 4000) :
    ∃ A, Txt x t A cd cs.length (fun j => cs.getD j 0) U := by
  obtain ⟨A, K1, K2, K3, K4, K5, K6⟩ := K
  have hcod := hc.cod (by omega) K3 K5
  obtain ⟨D, fV, fC, hB, F1, F2, g1, g2, -, -⟩ := strObj wi al E V C
  exact ⟨A, ⟨_, hB.2.2.1, D, hB.1, rfl, by cases q : D.vm <;> first | rfl | exact absurd q (hB.2.1.2 _)⟩, Has.of hB F1 g1, Has.of hB F2 g2, ⟨K1.1, State.isArrayOf_alike al K1.2.1, K1.2.2, by rcases hcod with ⟨-, q, -⟩ | ⟨-, q, -⟩ <;> omega⟩, hcod, fun j hj => by
    have e : cs.getD j 0 = cs[j] := by simp [List.getD_eq_getElem?_getD, hj]
    show ¬ cs.getD j 0 < 0 ∧ ¬ 65535 < cs.getD j 0
    rw [e]; exact hb _ (List.getElem_mem _)⟩
theorem same_list (cs ds : List Int32) : SameT cs.length (fun j => cs.getD j 0) ds.length (fun j => ds.getD j 0) ↔ cs = ds := by
  constructor
  · rintro ⟨e, q⟩
    refine List.ext_getElem e fun j h1 h2 => ?_
    have := q j h1
    simpa [List.getD_eq_getElem?_getD, h1, h2] using this
  · rintro rfl
    exact ⟨rfl, fun _ _ => rfl⟩
/-- **equals(Object) OF TWO SUCH STRINGS**: 1 just where the chars are the same -/
theorem eqW {p : Program} {l : Launch} {e : Env} {R : Room} {s : State} {args : Array Value} {below : List Frame} {len W : Nat} {Z : State} {a0 : Array Value} {h : Heap} (hZ : Z.Warmed39 s.vm) (hw : ∀ d ∈ wordsEq, d.before a0 Z = true) {kI : Nat} (wi : (Jvm.Cond.instantiable ST kI).before a0 Z = true)
    {x t : Addr} {kb : ClassId} {cs : List Int32} {cd N2 : Int32} {vs : List Value} (E : RoadKit.Exa Z h x ST) (V : RoadKit.Fld Z h x ST "value" "[B" (.ref t)) (C : RoadKit.Fld Z h x ST "coder" "B" (.int cd)) (K : RoadKit.Arv Z h t kb .byte N2 vs (.int 0)) (hc : CodA cs cd N2 vs) (hb : ∀ c ∈ cs, ¬ c < 0 ∧ ¬ (65535 : Int32) < c) (l2 : cs.length ≤ 4000)
    {y t' : Addr} {kb' : ClassId} {ds : List Int32} {cd' N2' : Int32} {vs' : List Value} (E' : RoadKit.Exa Z h y ST) (V' : RoadKit.Fld Z h y ST "value" "[B" (.ref t')) (C' : RoadKit.Fld Z h y ST "coder" "B" (.int cd')) (K' : RoadKit.Arv Z h t' kb' .byte N2' vs' (.int 0)) (hc' : CodA ds cd' N2' vs') (hb' : ∀ c ∈ ds, ¬ c < 0 ∧ ¬ (65535 : Int32) < c) (l2' : ds.length ≤ 4000)
    {z : Int32} (S : RoadKit.Sta Z h ST "COMPACT_STRINGS" "Z" (.int z)) (hz : ¬ z = 0) (hfr : 2 ≤ R.frames) (hlo : W + 28 ≤ R.locals) :
    Back l R p e below s args (⟨"java/lang/String", "equals", "(Ljava/lang/Object;)Z"⟩ : MethodName) len W (fun P a => a = #[.ref x, .ref y] ∧ P.U.heap = h ∧ P.cells + 0 ≤ R.cells ∧ P.slots + 0 ≤ R.slots)
      (fun P _ v B => ∃ L, (((v = some (.int 1) ∧ cs = ds) ∨ (v = some (.int 0) ∧ ¬ cs = ds)) ∧ L = [] ∧ B.U.heap = h) ∧ B.locs = P.locs ++ L ∧ B.cells = P.cells + 0 ∧ B.slots = P.slots + 0) := by
  intro m meth c P g ig mk a X hg hsize hdg hW hn hp'
  obtain ⟨rfl, rfl, r1, r2⟩ := hp'
  have al : Z.vm.Alike P.U.vm := hZ.alike.trans X.warmed.alike
  obtain ⟨A, hx⟩ := txt_of wi al E V C K hc hb l2
  obtain ⟨A', hy⟩ := txt_of wi al E' V' C' K' hc' hb' l2'
  obtain ⟨v, B, X', ⟨⟨w, hv, hh, hq⟩, hl, hk, hs⟩, st⟩ := SEq.pays x t A cd cs.length (fun j => cs.getD j 0) y t' A' cd' ds.length (fun j => ds.getD j 0) z (tabEq_of (movedEq hZ hw)) hfr hlo m meth c P g ig mk _ X hg hsize hdg hW hn ⟨r1, r2, rfl, hx, hy, sta_is al S, hz⟩
  refine ⟨v, B, X', ⟨[], ⟨?_, rfl, hh⟩, hl, hk, hs⟩, st⟩
  rcases hq with ⟨rfl, q⟩ | ⟨rfl, q⟩
  · exact Or.inl ⟨hv, (same_list cs ds).mp q⟩
  · exact Or.inr ⟨hv, fun e => q ((same_list cs ds).mpr e)⟩
end StrChars.Road
end Jvm.Pilot.@@N@@
namespace Jvm.Pilot.@@N@@
open Jvm Jvm.ClassFile Sem Op Lib Jvm.Free Jvm.Stand Jvm.LawKit Jvm.RoadKit Bundle Jvm.Pilot.@@N@@.Jvm.D
/-! facts of this claim -/
abbrev own_ST : String := "java/lang/String"
abbrev own_TS : String := "com/example/templum/templum/model/TextStore"
/-- x is a String of the chars cs (Latin-1) -/
def own_S (Z : State) (h : Heap) (x : Addr) (cs : List Int32) : Prop :=
  Exa Z h x "java/lang/String" ∧ Fld Z h x "java/lang/String" "coder" "B" (.int 0) ∧ ∃ (t : Addr) (kb : ClassId), Fld Z h x "java/lang/String" "value" "[B" (.ref t) ∧ Arv Z h t kb .byte (Int32.ofNat cs.length) (cs.map fun c => Value.int (StrChars.lo8 c)) (.int 0)
/-- y is an array of another kind than byte[], or a TextStore -/
def own_O (Z : State) (h : Heap) (y : Addr) : Prop := (∃ (cl : Cell) (ty : FieldType), Arr Z h y cl ty ∧ ty ≠ .byte) ∨ Exa Z h y "com/example/templum/templum/model/TextStore"
/-- from h to h' nothing that stood in h is written but such cells, none of them older than n0 -/
def own_K (Z : State) (n0 : Nat) (h h' : Heap) : Prop := ∃ ws : List Addr, Keep h h' ws ∧ ∀ y ∈ ws, n0 ≤ y ∧ own_O Z h y
theorem own_K.refl {Z : State} {n0 : Nat} {h : Heap} : own_K Z n0 h h := ⟨[], Keep.refl _ _, fun _ q => by cases q⟩
theorem own_K.size {Z : State} {n0 : Nat} {h h' : Heap} (K : own_K Z n0 h h') : h.size ≤ h'.size := by obtain ⟨ws, K, -⟩ := K; exact K.1
theorem own_K.ofExt {Z : State} {n0 : Nat} {h h' : Heap} (E : Ext h h') : own_K Z n0 h h' := ⟨[], (Keep.refl _ _).ext E, fun _ q => by cases q⟩
theorem own_O.back {Z : State} {h h' : Heap} {ws : List Addr} {y : Addr} (K : Keep h h' ws) (hy : y < h.size) (O : own_O Z h' y) : own_O Z h y := by
  have h0 : h[y]? = some h[y] := Array.getElem?_eq_getElem hy
  obtain ⟨c', q1, q2, q3, q4⟩ := K.2.2 y _ h0
  rcases O with ⟨cl, ty, A, ht⟩ | ⟨cell, k, e1, e2, e3, e4, e5⟩
  · refine Or.inl ⟨h[y], ty, ⟨h0, ?_, ?_⟩, ht⟩
    · cases q1.symm.trans A.1
      obtain ⟨hst, k, hk, comp, hkind⟩ := A.2.1
      exact ⟨by rw [← q3]; exact hst, k, by rw [← q2]; exact hk, comp, hkind⟩
    · cases q1.symm.trans A.1
      rw [← q3]; exact A.2.2
  · cases q1.symm.trans e1
    exact Or.inr ⟨h[y], k, h0, by rw [← q2]; exact e2, by rw [← q2]; exact e3, by rw [← q3]; exact e4, fun ho => by rw [← q4]; exact e5 ho⟩
theorem own_O.keep {Z : State} {h h' : Heap} {ws : List Addr} {y : Addr} (K : Keep h h' ws) (O : own_O Z h y) : own_O Z h' y := by
  rcases O with ⟨cl, ty, A, ht⟩ | E
  · obtain ⟨c', q1, q2, q3, q4⟩ := K.2.2 y _ A.1
    obtain ⟨hst, k, hk, comp, hkind⟩ := A.2.1
    exact Or.inl ⟨c', ty, ⟨q1, ⟨by rw [q3]; exact hst, k, by rw [q2]; exact hk, comp, hkind⟩, by rw [q3]; exact A.2.2⟩, ht⟩
  · exact Or.inr (E.keep K)
theorem own_K.trans {Z : State} {n0 : Nat} {h h1 h2 : Heap} (A : own_K Z n0 h h1) (B : own_K Z n0 h1 h2) : own_K Z n0 h h2 := by
  obtain ⟨ws, K, O⟩ := A
  obtain ⟨ws', K', O'⟩ := B
  refine ⟨ws ++ ws'.filter (fun y => decide (y < h.size)), Keep.trans (ws := ws ++ ws'.filter (fun y => decide (y < h.size))) ⟨K.1, fun x c q r => K.2.1 x c q fun z => r (List.mem_append_left _ z), K.2.2⟩ K' fun x hx => ?_, fun y hy => ?_⟩
  · by_cases q : x < h.size
    · exact Or.inl (List.mem_append_right _ (List.mem_filter.mpr ⟨hx, by simpa using q⟩))
    · exact Or.inr (Nat.le_of_not_lt q)
  · rcases List.mem_append.mp hy with q | q
    · exact O y q
    · obtain ⟨q1, q2⟩ := List.mem_filter.mp q
      exact ⟨(O' y q1).1, (O' y q1).2.back K (by simpa using q2)⟩
theorem own_K.wr {Z : State} {n0 : Nat} {h h1 h2 : Heap} {a : Addr} {sl : Nat} {v : Value} (A : own_K Z n0 h h1) (W : Wr h1 h2 a sl v) (ge : n0 ≤ a) (O : own_O Z h1 a) : own_K Z n0 h h2 :=
  A.trans ⟨[a], Keep.of_wr W, fun y hy => by cases List.mem_singleton.mp hy; exact ⟨ge, O⟩⟩
theorem own_K.ext {Z : State} {n0 : Nat} {h h1 h2 : Heap} (A : own_K Z n0 h h1) (E : Ext h1 h2) : own_K Z n0 h h2 := A.trans (own_K.ofExt E)
theorem own_K.old {Z : State} {n0 : Nat} {h h' : Heap} (K : own_K Z n0 h h') (X : Old Z n0 h) : Old Z n0 h' := by
  obtain ⟨ws, K, O⟩ := K
  exact X.keep K fun y hy => (O y hy).1
theorem own_K.exa {Z : State} {n0 : Nat} {h h' : Heap} {a : Addr} {C : String} (K : own_K Z n0 h h') (E : Exa Z h a C) : Exa Z h' a C := by obtain ⟨ws, K, -⟩ := K; exact E.keep K
theorem own_cls_ne {Z : State} {h : Heap} {a b : Addr} {cl cl' : Cell} {ty ty' : FieldType} (A : Arr Z h a cl ty) (B : Arr Z h b cl' ty') (ht : ty ≠ ty') : a ≠ b := fun e => by
  subst e
  cases A.1.symm.trans B.1
  obtain ⟨-, k, hk, comp, hkind⟩ := A.2.1
  obtain ⟨-, k', hk', comp', hkind'⟩ := B.2.1
  cases hk.symm.trans hk'
  rw [hkind] at hkind'
  cases hkind'
  exact ht rfl
/-- a String stays what it is -/
theorem own_S.keep {Z : State} {a0 : Array Value} {n0 kS kT : Nat} {h h' : Heap} {x : Addr} {cs : List Int32} (wi : (Jvm.Cond.instantiable "java/lang/String" kS).before a0 Z = true) (wt : (Jvm.Cond.instantiable "com/example/templum/templum/model/TextStore" kT).before a0 Z = true) (K : own_K Z n0 h h') (S : own_S Z h x cs) : own_S Z h' x cs := by
  obtain ⟨ws, K, O⟩ := K
  obtain ⟨E, C, t, kb, V, A⟩ := S
  have nx : x ∉ ws := fun q => by
    rcases (O x q).2 with ⟨cl, ty, B, -⟩ | B
    · exact ne_arr E wi B rfl
    · exact Exa.ne E B (by decide) rfl
  have nt : t ∉ ws := fun q => by
    obtain ⟨cA, A1, -⟩ := id A
    rcases (O t q).2 with ⟨cl, ty, B, hb⟩ | B
    · exact own_cls_ne B A1 hb rfl
    · exact ne_arr B wt A1 rfl
  exact ⟨E.keep K, C.keep K nx, t, kb, V.keep K nx, A.keep K nt⟩
theorem own_S.ext {Z : State} {h h' : Heap} {x : Addr} {cs : List Int32} (E : Ext h h') (S : own_S Z h x cs) : own_S Z h' x cs := by
  obtain ⟨S1, C, t, kb, V, A⟩ := S
  exact ⟨S1.ext E, C.ext E, t, kb, V.ext E, A.ext E⟩
theorem own_S.keep0 {Z : State} {h h' : Heap} {x : Addr} {cs : List Int32} (K : Keep h h' []) (S : own_S Z h x cs) : own_S Z h' x cs := S.ext ⟨K.1, fun a c q => K.2.1 a c q nin0⟩
theorem own_S.exa {Z : State} {h : Heap} {x : Addr} {cs : List Int32} (S : own_S Z h x cs) : Exa Z h x "java/lang/String" := S.1
/-- what the JVM may hold goes on -/
theorem own_K.chr {Z : State} {n0 : Nat} {h h' : Heap} {vm : Vm} {EL : List (String × Nat)} (hal : Z.vm.Alike vm) (K : own_K Z n0 h h') (H : CHv Z EL vm h) : CHr Z EL vm h vm h' := by
  obtain ⟨ws, K, O⟩ := K
  refine CHr.keep K (fun y hy => ?_) H
  rcases (O y hy).2 with ⟨cl, ty, B, hb⟩ | B
  · exact Safe.arr hal B hb
  · exact Safe.exa hal B (by decide) (by decide)
theorem own_nar (x : Int32) : nar .byte x.toInt8.toInt32 = StrChars.lo8 x := by simp [nar, StrChars.lo8]
theorem d33_0 : decode jdk_43_method_3_code 0 = .ok (.iload_n 0, 1) := by decide +kernel
theorem d33_1 : decode jdk_43_method_3_code 1 = .ok (.sipush 255, 3) := by decide +kernel
theorem d33_4 : decode jdk_43_method_3_code 4 = .ok (.if_icmp .gt 7, 3) := by decide +kernel
theorem d33_7 : decode jdk_43_method_3_code 7 = .ok (.iconst 1, 1) := by decide +kernel
theorem d33_8 : decode jdk_43_method_3_code 8 = .ok (.goto 4, 3) := by decide +kernel
theorem d33_12 : decode jdk_43_method_3_code 12 = .ok (.ireturn, 1) := by decide +kernel
theorem pn_33 : plainName "java/lang/StringLatin1" = true := by first | (simp [plainName, overriddenIn]; done) | decide +kernel
theorem ef_33 (m : MethodId) (x0 : Int32) : entryFrame m #[(.int x0)] 1 = mkF m 0 #[.val (.int x0)] [] := by first | (simp [entryFrame, mkF, argsToLocals, Value.category]; done) | rfl
def Q33 (Z : State) (p1 : Int32) (h0 : Heap) (n0 : Nat) (v : Option Value) (h : Heap) (L : List Loc) : Prop := v = some (.int (1 : Int32)) ∧ Fr n0 L ∧ h = h0
set_option maxRecDepth 65536 in
set_option maxHeartbeats 40000000 in
theorem rm33 (l : Launch) (Z : State) (a0 : Array Value) (hw : ∀ d ∈ tables_1, d.before a0 Z = true) (ws : List Jvm.Cond) (p1 : Int32) (h0 : Heap) (n0 : Nat) (Z0 : n0 ≤ h0.size) (hc4 : ¬ ((255 : Int32) < p1)) :
    MetFree l (⟨"java/lang/StringLatin1", "canEncode", "(C)Z"⟩ : MethodName) (head1 (Jvm.Cond.code (⟨"java/lang/StringLatin1", "canEncode", "(C)Z"⟩ : MethodName) jdk_43_method_3_code 1 (some .boolean) :: ws) ({ frames := 0, cells := 0, slots := 0, locals := 0 } : Room)) (fun a U => a = #[(.int p1)] ∧ Z.Warmed39 U.vm ∧ U.heap = h0) (fun _ _ _ _ _ => True) (fun _ U o U' => ∃ v L, o = .returned v ∧ Q33 Z p1 h0 n0 v U'.heap L ∧ FrameEnd U o U' L ({ frames := 0, cells := 0, slots := 0, locals := 0 } : Room).cells ({ frames := 0, cells := 0, slots := 0, locals := 0 } : Room).slots) := by
  refine MetFree.of_bodySF (plainFor_of_name pn_33) hisR ?_
  intro p e s m args below meth c s₁ Bd hml0 hP hK
  obtain ⟨rfl, hZ, hh⟩ := hP
  have hx := Bd.exec
  have hby := Bd.bytes
  have hml : c.maxLocals = 1 := hml0
  have hown : s.vm.findClass "java/lang/StringLatin1" = some m.cls := findClass_of_methodNamed Bd.named
  have hnm := (name_of_methodNamed Bd.named Bd.method).1
  have X0 : Stand p l e ({ frames := 0, cells := 0, slots := 0, locals := 0 } : Room) s m #[(.int p1)] below meth c s₁ [] 0 0 := Stand.of_body Bd
  have e0 : s₁.heap = h0 := by rw [← hh, Bd.state]; rfl
  have N0 := Fr.nil n0
  have pre0 : ∀ t, Steps p.tables e below (s₁.setTop (mkF m 0 #[.val (.int p1)] [])) t → Steps p.tables e below (s₁.setTop (entryFrame m #[(.int p1)] 1)) t := fun t k => castTop (ef_33 m p1) k

  obtain ⟨fs, hr, hrun, hended, hW, hsame⟩ := X0.leave (v := some (.int (1 : Int32))) (fun h => by rw [Bd.returns] at h; cases h)
  refine ⟨_, _, pre0 _ ?_, hrun, hended, _, _, rfl, ?_, ⟨_, rfl⟩, hW, hsame.mono (by decide) (by decide)⟩
  · show Steps p.tables e below (s₁.setTop (mkF m 0 #[.val (.int p1)] [])) _
    refine XS.iloadN X0.here hx rfl (hb hby d33_0) rfl ?_
    show Steps p.tables e below (s₁.setTop (mkF m 1 #[.val (.int p1)] [(.int p1)])) _
    refine XS.sipush X0.here hx rfl (hb hby d33_1) ?_
    show Steps p.tables e below (s₁.setTop (mkF m 4 #[.val (.int p1)] [(.int (255 : Int32)), (.int p1)])) _
    refine XS.icmpNo X0.here hx rfl (hb hby d33_4) rfl (flt hc4).2.2.1 ?_
    show Steps p.tables e below (s₁.setTop (mkF m 7 #[.val (.int p1)] [])) _
    refine XS.iconst X0.here hx rfl (hb hby d33_7) ?_
    show Steps p.tables e below (s₁.setTop (mkF m 8 #[.val (.int p1)] [(.int (1 : Int32))])) _
    refine XS.goto X0.here hx rfl (pc0 := 8) (pc' := 12) rfl (hb hby d33_8) (by decide) (by decide) ?_
    show Steps p.tables e below (s₁.setTop (mkF m 12 #[.val (.int p1)] [(.int (1 : Int32))])) _
    exact retN X0 hx (t := .boolean) Bd.returns (by simp) (hb hby d33_12) hr
  · show Q33 Z p1 h0 n0 _ s₁.heap _
    rw [e0]
    exact ⟨rfl, N0, rfl⟩
theorem d34_0 : decode jdk_43_method_46_code 0 = .ok (.iconst 1, 1) := by decide +kernel
theorem d34_1 : decode jdk_43_method_46_code 1 = .ok (.newarray .byte, 2) := by decide +kernel
theorem d34_3 : decode jdk_43_method_46_code 3 = .ok (.dup, 1) := by decide +kernel
theorem d34_4 : decode jdk_43_method_46_code 4 = .ok (.iconst 0, 1) := by decide +kernel
theorem d34_5 : decode jdk_43_method_46_code 5 = .ok (.iload_n 0, 1) := by decide +kernel
theorem d34_6 : decode jdk_43_method_46_code 6 = .ok (.i2b, 1) := by decide +kernel
theorem d34_7 : decode jdk_43_method_46_code 7 = .ok (.bastore, 1) := by decide +kernel
theorem d34_8 : decode jdk_43_method_46_code 8 = .ok (.areturn, 1) := by decide +kernel
theorem pn_34 : plainName "java/lang/StringLatin1" = true := by first | (simp [plainName, overriddenIn]; done) | decide +kernel
theorem ef_34 (m : MethodId) (x0 : Int32) : entryFrame m #[(.int x0)] 1 = mkF m 0 #[.val (.int x0)] [] := by first | (simp [entryFrame, mkF, argsToLocals, Value.category]; done) | rfl
def Q34 (Z : State) (p1 : Int32) (h0 : Heap) (n0 : Nat) (v : Option Value) (h : Heap) (L : List Loc) : Prop := ∃ (b : Addr) (kb : ClassId), v = some (.ref b) ∧ Fr n0 L ∧ Keep h0 h [] ∧ h0.size ≤ b ∧ Arv Z h b kb .byte (1 : Int32) [.int (StrChars.lo8 p1)] (.int 0)
set_option maxRecDepth 65536 in
set_option maxHeartbeats 40000000 in
theorem rm34 (l : Launch) (Z : State) (a0 : Array Value) (hw : ∀ d ∈ tables_1, d.before a0 Z = true) (ws : List Jvm.Cond) (p1 : Int32) (h0 : Heap) (n0 : Nat) (Z0 : n0 ≤ h0.size) :
    MetFree l (⟨"java/lang/StringLatin1", "toBytes", "(C)[B"⟩ : MethodName) (head1 (Jvm.Cond.code (⟨"java/lang/StringLatin1", "toBytes", "(C)[B"⟩ : MethodName) jdk_43_method_46_code 1 (some (.array .byte)) :: ws) ({ frames := 0, cells := 1, slots := 1, locals := 0 } : Room)) (fun a U => a = #[(.int p1)] ∧ Z.Warmed39 U.vm ∧ U.heap = h0) (fun _ _ _ _ _ => True) (fun _ U o U' => ∃ v L, o = .returned v ∧ Q34 Z p1 h0 n0 v U'.heap L ∧ FrameEnd U o U' L ({ frames := 0, cells := 1, slots := 1, locals := 0 } : Room).cells ({ frames := 0, cells := 1, slots := 1, locals := 0 } : Room).slots) := by
  refine MetFree.of_bodySF (plainFor_of_name pn_34) hisR ?_
  intro p e s m args below meth c s₁ Bd hml0 hP hK
  obtain ⟨rfl, hZ, hh⟩ := hP
  have hx := Bd.exec
  have hby := Bd.bytes
  have hml : c.maxLocals = 1 := hml0
  have hown : s.vm.findClass "java/lang/StringLatin1" = some m.cls := findClass_of_methodNamed Bd.named
  have hnm := (name_of_methodNamed Bd.named Bd.method).1
  have X0 : Stand p l e ({ frames := 0, cells := 1, slots := 1, locals := 0 } : Room) s m #[(.int p1)] below meth c s₁ [] 0 0 := Stand.of_body Bd
  have e0 : s₁.heap = h0 := by rw [← hh, Bd.state]; rfl
  have N0 := Fr.nil n0
  have pre0 : ∀ t, Steps p.tables e below (s₁.setTop (mkF m 0 #[.val (.int p1)] [])) t → Steps p.tables e below (s₁.setTop (entryFrame m #[(.int p1)] 1)) t := fun t k => castTop (ef_34 m p1) k
  obtain ⟨T2, h2, k2, X2, e2, E2, A2, st2⟩ := newP X0 hx hZ (hw _ (List.mem_of_getElem? (i := 19) rfl)) e0 (g := (mkF m 1 #[.val (.int p1)] [(.int (1 : Int32))])) rfl (hb hby d34_1) rfl (by decide) (cap := 1) (by decide) (by decide) (by decide) (by decide)
  obtain ⟨b2, g2⟩ : ∃ z, z = h0.size := ⟨_, rfl⟩
  rw [← g2] at A2 st2
  have V_b2 : Arv Z h2 b2 k2 .byte (1 : Int32) [(.int (0 : Int32))] (.int (0 : Int32)) := (Arv.new A2 (by decide)).pad (pad_rep [] (.int (0 : Int32)) 1)
  have g_b2 : n0 ≤ b2 := Nat.le_trans Z0 (Nat.le_of_eq g2.symm)
  have sz_b2 : h0.size ≤ b2 := (Nat.le_trans (Keep.refl h0 []).1 (Nat.le_of_eq g2.symm))
  have K2 : Keep h0 h2 [] := (Keep.refl h0 []).ext E2
  obtain ⟨cl_b2_7, Ar_b2, q_b2, S_b2, N_b2, H_b2, G_b2⟩ := V_b2
  have hin7 : ¬ ((0 : Int32) < 0 ∨ cl_b2_7.slots.size ≤ ((0 : Int32)).toNatClampNeg) := inb_of S_b2 ⟨by decide, by decide⟩
  obtain ⟨T3, h3, X3, e3, W3, st3⟩ := stB X2 hx hZ e2 Ar_b2 (j := (0 : Int32)) hin7 (g := (mkF m 7 #[.val (.int p1)] [(.int (p1.toInt8.toInt32)), (.int (0 : Int32)), (.ref b2), (.ref b2)])) rfl rfl (hb hby d34_7)
  have V_b2_3 := Arv.set Ar_b2 q_b2 S_b2 N_b2 H_b2 G_b2 (fits_nar_byte _) W3 0 rfl (Nat.le_of_ble_eq_true rfl)
  have K3 : Keep h0 h3 [] := K2.wr W3 (Or.inr sz_b2)
  have N3 := Fr.snoc X3 N0 g_b2
  obtain ⟨fs, hr, hrun, hended, hW, hsame⟩ := X3.leave (v := some (.ref b2)) (fun h => by rw [Bd.returns] at h; cases h)
  refine ⟨_, _, pre0 _ ?_, hrun, hended, _, _, rfl, ?_, ⟨_, rfl⟩, hW, hsame.mono (by decide) (by decide)⟩
  · show Steps p.tables e below (s₁.setTop (mkF m 0 #[.val (.int p1)] [])) _
    refine XS.iconst X0.here hx rfl (hb hby d34_0) ?_
    show Steps p.tables e below (s₁.setTop (mkF m 1 #[.val (.int p1)] [(.int (1 : Int32))])) _
    refine st2 _ ?_
    show Steps p.tables e below (T2.setTop (mkF m 3 #[.val (.int p1)] [(.ref b2)])) _
    refine XS.dup X2.here hx rfl (hb hby d34_3) rfl rfl ?_
    show Steps p.tables e below (T2.setTop (mkF m 4 #[.val (.int p1)] [(.ref b2), (.ref b2)])) _
    refine XS.iconst X2.here hx rfl (hb hby d34_4) ?_
    show Steps p.tables e below (T2.setTop (mkF m 5 #[.val (.int p1)] [(.int (0 : Int32)), (.ref b2), (.ref b2)])) _
    refine XS.iloadN X2.here hx rfl (hb hby d34_5) rfl ?_
    show Steps p.tables e below (T2.setTop (mkF m 6 #[.val (.int p1)] [(.int p1), (.int (0 : Int32)), (.ref b2), (.ref b2)])) _
    refine XS.i2b X2.here hx rfl (hb hby d34_6) rfl ?_
    show Steps p.tables e below (T2.setTop (mkF m 7 #[.val (.int p1)] [(.int (p1.toInt8.toInt32)), (.int (0 : Int32)), (.ref b2), (.ref b2)])) _
    refine st3 _ ?_
    show Steps p.tables e below (T3.setTop (mkF m 8 #[.val (.int p1)] [(.ref b2)])) _
    jvm_step X3.here [X3.here.top, hx, (hb hby d34_8), X3.method', Bd.returns, Value.isRef, FieldType.isReference]
    first | (intro acts; rw [hr _ acts rfl rfl rfl]) | rw [hr _ _ rfl rfl rfl]
    exact Steps.refl _
  · show Q34 Z p1 h0 n0 _ T3.heap _
    rw [e3]
    exact ⟨b2, k2, rfl, N3, K3, sz_b2, by simpa [own_nar, StrChars.lo8] using V_b2_3⟩
theorem d35_0 : decode jdk_42_method_151_code 0 = .ok (.aload_n 0, 1) := by decide +kernel
theorem d35_1 : decode jdk_42_method_151_code 1 = .ok (.invokespecial 1, 3) := by decide +kernel
theorem d35_4 : decode jdk_42_method_151_code 4 = .ok (.aload_n 0, 1) := by decide +kernel
theorem d35_5 : decode jdk_42_method_151_code 5 = .ok (.aload_n 1, 1) := by decide +kernel
theorem d35_6 : decode jdk_42_method_151_code 6 = .ok (.putfield 9, 3) := by decide +kernel
theorem d35_9 : decode jdk_42_method_151_code 9 = .ok (.aload_n 0, 1) := by decide +kernel
theorem d35_10 : decode jdk_42_method_151_code 10 = .ok (.iload_n 2, 1) := by decide +kernel
theorem d35_11 : decode jdk_42_method_151_code 11 = .ok (.putfield 15, 3) := by decide +kernel
theorem d35_14 : decode jdk_42_method_151_code 14 = .ok (.return_, 1) := by decide +kernel
theorem pn_35 : plainName "java/lang/String" = true := by first | (simp [plainName, overriddenIn]; done) | decide +kernel
theorem ef_35 (m : MethodId) (x0 : Addr) (x1 : Addr) (x2 : Int32) : entryFrame m #[(.ref x0), (.ref x1), (.int x2)] 3 = mkF m 0 #[.val (.ref x0), .val (.ref x1), .val (.int x2)] [] := by first | (simp [entryFrame, mkF, argsToLocals, Value.category]; done) | rfl
def Q35 (Z : State) (a1 : Addr) (a2 : Addr) (p3 : Int32) (u_value_a1 : Value) (u_coder_a1 : Value) (h0 : Heap) (n0 : Nat) (v : Option Value) (h : Heap) (L : List Loc) : Prop := v = none ∧ Fr n0 L ∧ Keep h0 h [a1] ∧ Exa Z h a1 "java/lang/String" ∧ Fld Z h a1 "java/lang/String" "value" "[B" (.ref a2) ∧ Fld Z h a1 "java/lang/String" "coder" "B" (.int (nar .byte p3))
set_option maxRecDepth 65536 in
set_option maxHeartbeats 40000000 in
theorem rm35 (l : Launch) (Z : State) (a0 : Array Value) (hw : ∀ d ∈ tables_1, d.before a0 Z = true) (ws : List Jvm.Cond) (a1 : Addr) (a2 : Addr) (p3 : Int32) (u_value_a1 : Value) (u_coder_a1 : Value) (h0 : Heap) (n0 : Nat) (Z0 : n0 ≤ h0.size) (E_a1 : Exa Z h0 a1 "java/lang/String") (F_value_a1 : Fld Z h0 a1 "java/lang/String" "value" "[B" u_value_a1) (g_a1 : n0 ≤ a1) (F_coder_a1 : Fld Z h0 a1 "java/lang/String" "coder" "B" u_coder_a1) :
    MetFree l (⟨"java/lang/String", "<init>", "([BB)V"⟩ : MethodName) (head1 (Jvm.Cond.code (⟨"java/lang/String", "<init>", "([BB)V"⟩ : MethodName) jdk_42_method_151_code 3 none :: ws) ({ frames := 1, cells := 0, slots := 0, locals := 12 } : Room)) (fun a U => a = #[(.ref a1), (.ref a2), (.int p3)] ∧ Z.Warmed39 U.vm ∧ U.heap = h0) (fun _ _ _ _ _ => True) (fun _ U o U' => ∃ v L, o = .returned v ∧ Q35 Z a1 a2 p3 u_value_a1 u_coder_a1 h0 n0 v U'.heap L ∧ FrameEnd U o U' L ({ frames := 1, cells := 0, slots := 0, locals := 12 } : Room).cells ({ frames := 1, cells := 0, slots := 0, locals := 12 } : Room).slots) := by
  refine MetFree.of_bodySF (plainFor_of_name pn_35) hisR ?_
  intro p e s m args below meth c s₁ Bd hml0 hP hK
  obtain ⟨rfl, hZ, hh⟩ := hP
  have hx := Bd.exec
  have hby := Bd.bytes
  have hml : c.maxLocals = 3 := hml0
  have hown : s.vm.findClass "java/lang/String" = some m.cls := findClass_of_methodNamed Bd.named
  have hnm := (name_of_methodNamed Bd.named Bd.method).1
  have X0 : Stand p l e ({ frames := 1, cells := 0, slots := 0, locals := 12 } : Room) s m #[(.ref a1), (.ref a2), (.int p3)] below meth c s₁ [] 0 0 := Stand.of_body Bd
  have e0 : s₁.heap = h0 := by rw [← hh, Bd.state]; rfl
  have N0 := Fr.nil n0
  have pre0 : ∀ t, Steps p.tables e below (s₁.setTop (mkF m 0 #[.val (.ref a1), .val (.ref a2), .val (.int p3)] [])) t → Steps p.tables e below (s₁.setTop (entryFrame m #[(.ref a1), (.ref a2), (.int p3)] 3)) t := fun t k => castTop (ef_35 m a1 a2 p3) k
  obtain ⟨T4, X4, e4, st4⟩ := initO X0 hx hZ hown (hw _ (List.mem_of_getElem? (i := 15) rfl)) (hw _ (List.mem_of_getElem? (i := 16) rfl)) (hw _ (List.mem_of_getElem? (i := 17) rfl)) e0 (g := (mkF m 1 #[.val (.ref a1), .val (.ref a2), .val (.int p3)] [(.ref a1)])) rfl (by rw [hml]; rfl) rfl (hb hby d35_1) (by decide) (W := 0) (by show 2 * 0 + _ ≤ _; exact Nat.le_of_eq rfl) (by decide)
  obtain ⟨T5, h5, X5, e5, W5, st5⟩ := putF X4 hx hZ hown (host := "") (Or.inl (hw _ (List.mem_of_getElem? (i := 24) rfl))) Via.refl e4 F_value_a1 E_a1 (Or.inr ⟨(hw _ (List.mem_of_getElem? (i := 20) rfl)), rfl, hnm⟩) (hw _ (List.mem_of_getElem? (i := 5) rfl)) (ty := (.array .byte)) (by decide) rfl rfl (g := (mkF m 6 #[.val (.ref a1), .val (.ref a2), .val (.int p3)] [(.ref a2), (.ref a1)])) rfl rfl (hb hby d35_6)
  have Fw5 := F_value_a1.same W5
  have K5 : Keep h0 h5 [a1] := (Keep.refl h0 [a1]).wr W5 (Or.inl (List.mem_of_getElem? (i := 0) rfl))
  have N5 := Fr.snoc X5 N0 g_a1
  obtain ⟨T6, h6, X6, e6, W6, st6⟩ := putFN X5 hx hZ hown (hw _ (List.mem_of_getElem? (i := 25) rfl)) Via.refl e5 (F_coder_a1.other W5 (Or.inr (slot_ne (Or.inr (hw _ (List.mem_of_getElem? (i := 21) rfl))) (Or.inr (hw _ (List.mem_of_getElem? (i := 20) rfl))) (by decide) (t := .byte) (t' := (.array .byte)) (by decide) (by decide)))) (E_a1.wr W5) (Or.inr ⟨(hw _ (List.mem_of_getElem? (i := 21) rfl)), rfl, hnm⟩) (hw _ (List.mem_of_getElem? (i := 5) rfl)) (ty := .byte) (v' := (.int (nar .byte p3))) (by decide) rfl (fits_nar_byte _) (g := (mkF m 11 #[.val (.ref a1), .val (.ref a2), .val (.int p3)] [(.int p3), (.ref a1)])) rfl rfl (hb hby d35_11)
  have Fw6 := (F_coder_a1.other W5 (Or.inr (slot_ne (Or.inr (hw _ (List.mem_of_getElem? (i := 21) rfl))) (Or.inr (hw _ (List.mem_of_getElem? (i := 20) rfl))) (by decide) (t := .byte) (t' := (.array .byte)) (by decide) (by decide)))).same W6
  have K6 : Keep h0 h6 [a1] := K5.wr W6 (Or.inl (List.mem_of_getElem? (i := 0) rfl))
  have N6 := Fr.snoc X6 N5 g_a1
  obtain ⟨fs, hr, hrun, hended, hW, hsame⟩ := X6.leave (v := none) (fun _ => rfl)
  refine ⟨_, _, pre0 _ ?_, hrun, hended, _, _, rfl, ?_, ⟨_, rfl⟩, hW, hsame.mono (by decide) (by decide)⟩
  · show Steps p.tables e below (s₁.setTop (mkF m 0 #[.val (.ref a1), .val (.ref a2), .val (.int p3)] [])) _
    refine XS.aloadN X0.here hx rfl (hb hby d35_0) rfl rfl ?_
    show Steps p.tables e below (s₁.setTop (mkF m 1 #[.val (.ref a1), .val (.ref a2), .val (.int p3)] [(.ref a1)])) _
    refine st4 _ ?_
    show Steps p.tables e below (T4.setTop (mkF m 4 #[.val (.ref a1), .val (.ref a2), .val (.int p3)] [])) _
    refine XS.aloadN X4.here hx rfl (hb hby d35_4) rfl rfl ?_
    show Steps p.tables e below (T4.setTop (mkF m 5 #[.val (.ref a1), .val (.ref a2), .val (.int p3)] [(.ref a1)])) _
    refine XS.aloadN X4.here hx rfl (hb hby d35_5) rfl rfl ?_
    show Steps p.tables e below (T4.setTop (mkF m 6 #[.val (.ref a1), .val (.ref a2), .val (.int p3)] [(.ref a2), (.ref a1)])) _
    refine st5 _ ?_
    show Steps p.tables e below (T5.setTop (mkF m 9 #[.val (.ref a1), .val (.ref a2), .val (.int p3)] [])) _
    refine XS.aloadN X5.here hx rfl (hb hby d35_9) rfl rfl ?_
    show Steps p.tables e below (T5.setTop (mkF m 10 #[.val (.ref a1), .val (.ref a2), .val (.int p3)] [(.ref a1)])) _
    refine XS.iloadN X5.here hx rfl (hb hby d35_10) rfl ?_
    show Steps p.tables e below (T5.setTop (mkF m 11 #[.val (.ref a1), .val (.ref a2), .val (.int p3)] [(.int p3), (.ref a1)])) _
    refine st6 _ ?_
    show Steps p.tables e below (T6.setTop (mkF m 14 #[.val (.ref a1), .val (.ref a2), .val (.int p3)] [])) _
    exact X6.returnOut hx Bd.returns (hb hby d35_14) hr
  · show Q35 Z a1 a2 p3 u_value_a1 u_coder_a1 h0 n0 _ T6.heap _
    rw [e6]
    exact ⟨rfl, N6, K6, ((E_a1.wr W5).wr W6), (Fw5.other W6 (Or.inr (slot_ne (Or.inr (hw _ (List.mem_of_getElem? (i := 20) rfl))) (Or.inr (hw _ (List.mem_of_getElem? (i := 21) rfl))) (by decide) (t := (.array .byte)) (t' := .byte) (by decide) (by decide)))), Fw6⟩
theorem d32_0 : decode jdk_42_method_139_code 0 = .ok (.getstatic 38, 3) := by decide +kernel
theorem d32_3 : decode jdk_42_method_139_code 3 = .ok (.ifCond .eq 23, 3) := by decide +kernel
theorem d32_6 : decode jdk_42_method_139_code 6 = .ok (.iload_n 0, 1) := by decide +kernel
theorem d32_7 : decode jdk_42_method_139_code 7 = .ok (.invokestatic 1015, 3) := by decide +kernel
theorem d32_10 : decode jdk_42_method_139_code 10 = .ok (.ifCond .eq 16, 3) := by decide +kernel
theorem d32_13 : decode jdk_42_method_139_code 13 = .ok (.new 10, 3) := by decide +kernel
theorem d32_16 : decode jdk_42_method_139_code 16 = .ok (.dup, 1) := by decide +kernel
theorem d32_17 : decode jdk_42_method_139_code 17 = .ok (.iload_n 0, 1) := by decide +kernel
theorem d32_18 : decode jdk_42_method_139_code 18 = .ok (.invokestatic 1018, 3) := by decide +kernel
theorem d32_21 : decode jdk_42_method_139_code 21 = .ok (.iconst 0, 1) := by decide +kernel
theorem d32_22 : decode jdk_42_method_139_code 22 = .ok (.invokespecial 209, 3) := by decide +kernel
theorem d32_25 : decode jdk_42_method_139_code 25 = .ok (.areturn, 1) := by decide +kernel
theorem pn_32 : plainName "java/lang/String" = true := by first | (simp [plainName, overriddenIn]; done) | decide +kernel
theorem pd_32_27 : parseMethodDescriptor "(C)Z" = some ⟨[.char], some .boolean⟩ := by decide +kernel
theorem pd_32_28 : parseMethodDescriptor "(C)[B" = some ⟨[.char], some (.array .byte)⟩ := by decide +kernel
theorem pd_32_29 : parseMethodDescriptor "([BB)V" = some ⟨[(.array .byte), .byte], none⟩ := by decide +kernel
theorem ef_32 (m : MethodId) (x0 : Int32) : entryFrame m #[(.int x0)] 1 = mkF m 0 #[.val (.int x0)] [] := by first | (simp [entryFrame, mkF, argsToLocals, Value.category]; done) | rfl
def Q32 (Z : State) (p1 : Int32) (w2 : Int32) (h0 : Heap) (n0 : Nat) (v : Option Value) (h : Heap) (L : List Loc) : Prop := ∃ b : Addr, v = some (.ref b) ∧ Fr n0 L ∧ Keep h0 h [] ∧ own_S Z h b [p1]
set_option maxRecDepth 65536 in
set_option maxHeartbeats 40000000 in
theorem rm32 (l : Launch) (Z : State) (a0 : Array Value) (hw : ∀ d ∈ tables_1, d.before a0 Z = true) (ws : List Jvm.Cond) (p1 : Int32) (w2 : Int32) (h0 : Heap) (n0 : Nat) (Z0 : n0 ≤ h0.size) (S_COMPACT_STRINGS : Sta Z h0 "java/lang/String" "COMPACT_STRINGS" "Z" (.int w2)) (hc3 : ¬ (w2 = (0 : Int32))) (hlat : ¬ ((255 : Int32) < p1)) :
    MetFree l (⟨"java/lang/String", "valueOf", "(C)Ljava/lang/String;"⟩ : MethodName) (head1 (Jvm.Cond.code (⟨"java/lang/String", "valueOf", "(C)Ljava/lang/String;"⟩ : MethodName) jdk_42_method_139_code 1 (some (.object "java/lang/String")) :: ws) ({ frames := 2, cells := 2, slots := 5, locals := 27 } : Room)) (fun a U => a = #[(.int p1)] ∧ Z.Warmed39 U.vm ∧ U.heap = h0) (fun _ _ _ _ _ => True) (fun _ U o U' => ∃ v L, o = .returned v ∧ Q32 Z p1 w2 h0 n0 v U'.heap L ∧ FrameEnd U o U' L ({ frames := 2, cells := 2, slots := 5, locals := 27 } : Room).cells ({ frames := 2, cells := 2, slots := 5, locals := 27 } : Room).slots) := by
  refine MetFree.of_bodySF (plainFor_of_name pn_32) hisR ?_
  intro p e s m args below meth c s₁ Bd hml0 hP hK
  obtain ⟨rfl, hZ, hh⟩ := hP
  have hx := Bd.exec
  have hby := Bd.bytes
  have hml : c.maxLocals = 1 := hml0
  have hown : s.vm.findClass "java/lang/String" = some m.cls := findClass_of_methodNamed Bd.named
  have hnm := (name_of_methodNamed Bd.named Bd.method).1
  have X0 : Stand p l e ({ frames := 2, cells := 2, slots := 5, locals := 27 } : Room) s m #[(.int p1)] below meth c s₁ [] 0 0 := Stand.of_body Bd
  have e0 : s₁.heap = h0 := by rw [← hh, Bd.state]; rfl
  have N0 := Fr.nil n0
  have pre0 : ∀ t, Steps p.tables e below (s₁.setTop (mkF m 0 #[.val (.int p1)] [])) t → Steps p.tables e below (s₁.setTop (entryFrame m #[(.int p1)] 1)) t := fun t k => castTop (ef_32 m p1) k
  obtain ⟨T3, X3, e3, st3⟩ := getS2 X0 hx hZ hown (host := "") (Or.inl (hw _ (List.mem_of_getElem? (i := 63) rfl))) Via.refl e0 S_COMPACT_STRINGS (g := (mkF m 0 #[.val (.int p1)] [])) rfl (hb hby d32_0)
  obtain ⟨_, _, ⟨T4, L4, k4, n4⟩, -, X4, ⟨Lc4, hQ4, l4, y4, z4⟩, st4⟩ := Jvm.LawKit.callS X3 hx (y := (⟨"java/lang/StringLatin1", "canEncode", "(C)Z"⟩ : MethodName)) hown (mvT hZ (hw _ (List.mem_of_getElem? (i := 166) rfl))) (mvT hZ (hw _ (List.mem_of_getElem? (i := 167) rfl))) (mvT hZ (hw _ (List.mem_of_getElem? (i := 97) rfl))) (mvT hZ (hw _ (List.mem_of_getElem? (i := 168) rfl))) (by decide) (backOf (W := 0) (rm33 l Z a0 hw [] p1 h0 n0 Z0 hlat) hZ (hw _ (List.mem_of_getElem? (i := 168) rfl)) (hw _ (List.mem_of_getElem? (i := 97) rfl)) (by decide) (by decide)) (g := (mkF m 7 #[.val (.int p1)] [(.int p1)])) rfl (by rw [hml]; rfl) (argsL := [(.int p1)]) (rest := []) (lenOf pd_32_27 rfl) rfl (by show 2 * 0 + _ ≤ _; exact Nat.le_of_eq rfl) (hb hby d32_7) (fun _ _ => ⟨rfl, e3, (by decide : 0 + 0 ≤ _), (by decide : 0 + 0 ≤ _)⟩)
  dsimp only [Pt.U, Pt.locs, Pt.cells, Pt.slots] at X4 l4 y4 z4 st4 hQ4
  subst l4 y4 z4
  obtain ⟨rfl, N4q, eh4⟩ := hQ4
  have KC4 : Keep h0 T4.heap [] := by rw [eh4]; exact Keep.refl _ _
  have N4 := Fr.app N0 N4q
  obtain ⟨T5, h5, X5, e5, E5, A5, D5, -, st5⟩ := newO X4 hx hZ hown (hw _ (List.mem_of_getElem? (i := 94) rfl)) (hw _ (List.mem_of_getElem? (i := 5) rfl)) (hw _ (List.mem_of_getElem? (i := 6) rfl)) rfl (g := (mkF m 13 #[.val (.int p1)] [])) rfl (hb hby d32_13) (by decide) (by decide)
  obtain ⟨b5, g5⟩ : ∃ z, z = T4.heap.size := ⟨_, rfl⟩
  rw [← g5] at A5 D5 st5
  have F_value_b5 : Fld Z h5 b5 "java/lang/String" "value" "[B" .null := D5 (Or.inr (hw _ (List.mem_of_getElem? (i := 20) rfl))) (ty := (.array .byte)) (by decide)
  have F_coder_b5 : Fld Z h5 b5 "java/lang/String" "coder" "B" (.int (0 : Int32)) := D5 (Or.inr (hw _ (List.mem_of_getElem? (i := 21) rfl))) (ty := .byte) (by decide)
  have E_b5 := A5
  have g_b5 : n0 ≤ b5 := Nat.le_trans (Nat.le_trans Z0 KC4.1) (Nat.le_of_eq g5.symm)
  have sz_b5 : h0.size ≤ b5 := (Nat.le_trans KC4.1 (Nat.le_of_eq g5.symm))
  have K5 : Keep h0 h5 [] := KC4.ext E5
  obtain ⟨_, _, ⟨T6, L6, k6, n6⟩, -, X6, ⟨Lc6, hQ6, l6, y6, z6⟩, st6⟩ := Jvm.LawKit.callS X5 hx (y := (⟨"java/lang/StringLatin1", "toBytes", "(C)[B"⟩ : MethodName)) hown (mvT hZ (hw _ (List.mem_of_getElem? (i := 169) rfl))) (mvT hZ (hw _ (List.mem_of_getElem? (i := 170) rfl))) (mvT hZ (hw _ (List.mem_of_getElem? (i := 97) rfl))) (mvT hZ (hw _ (List.mem_of_getElem? (i := 171) rfl))) (by decide) (backOf (W := 2) (rm34 l Z a0 hw [] p1 h5 n0 (Nat.le_trans Z0 K5.1)) hZ (hw _ (List.mem_of_getElem? (i := 171) rfl)) (hw _ (List.mem_of_getElem? (i := 97) rfl)) (by decide) (by decide)) (g := (mkF m 18 #[.val (.int p1)] [(.int p1), (.ref b5), (.ref b5)])) rfl (by rw [hml]; rfl) (argsL := [(.int p1)]) (rest := [(.ref b5), (.ref b5)]) (lenOf pd_32_28 rfl) rfl (by show 2 * 0 + _ ≤ _; exact Nat.le_of_eq rfl) (hb hby d32_18) (fun _ _ => ⟨rfl, e5, (by decide : 1 + 1 ≤ _), (by decide : 4 + 1 ≤ _)⟩)
  dsimp only [Pt.U, Pt.locs, Pt.cells, Pt.slots] at X6 l6 y6 z6 st6 hQ6
  subst l6 y6 z6
  obtain ⟨b6, kb6, rfl, N6q, K6, s6, V6⟩ := hQ6
  have N6 := Fr.app N4 N6q
  obtain ⟨_, _, ⟨T7, L7, k7, n7⟩, -, X7, ⟨Lc7, hQ7, l7, y7, z7⟩, st7⟩ := X6.specialBack hx (y := (⟨"java/lang/String", "<init>", "([BB)V"⟩ : MethodName)) rfl hown (mvT hZ (hw _ (List.mem_of_getElem? (i := 172) rfl))) (mvT hZ (hw _ (List.mem_of_getElem? (i := 173) rfl))) (mvT hZ (hw _ (List.mem_of_getElem? (i := 174) rfl))) (by decide) (backOf (W := 1) (rm35 l Z a0 hw [] b5 b6 (0 : Int32) .null (.int 0) T6.heap n0 (Nat.le_trans Z0 (K5.trans K6 all0).1) (E_b5.keep K6) (F_value_b5.keep K6 nin0) g_b5 (F_coder_b5.keep K6 nin0)) hZ (hw _ (List.mem_of_getElem? (i := 174) rfl)) (hw _ (List.mem_of_getElem? (i := 6) rfl)) (by decide) (by decide)) (g := (mkF m 22 #[.val (.int p1)] [(.int (0 : Int32)), (.ref b6), (.ref b5), (.ref b5)])) rfl (by rw [hml]; rfl) (Steps.refl _) (a := b5) (argsL := [(.ref b6), (.int (0 : Int32))]) (rest := [(.ref b5)]) (lenOf pd_32_29 rfl) rfl (by show 2 * 0 + _ ≤ _; exact Nat.le_of_eq rfl) (hb hby d32_22) (fun _ _ => ⟨rfl, rfl, (by decide : 1 + 1 + 0 ≤ _), (by decide : 4 + 1 + 0 ≤ _)⟩)
  dsimp only [Pt.U, Pt.locs, Pt.cells, Pt.slots] at X7 l7 y7 z7 st7 hQ7
  subst l7 y7 z7
  obtain ⟨rfl, N7q, K7, E7, F7, G7⟩ := hQ7
  have N7 := Fr.app N6 N7q
  obtain ⟨fs, hr, hrun, hended, hW, hsame⟩ := X7.leave (v := some (.ref b5)) (fun h => by rw [Bd.returns] at h; cases h)
  refine ⟨_, _, pre0 _ ?_, hrun, hended, _, _, rfl, ?_, ⟨_, rfl⟩, hW, hsame.mono (by decide) (by decide)⟩
  · show Steps p.tables e below (s₁.setTop (mkF m 0 #[.val (.int p1)] [])) _
    refine st3 _ ?_
    show Steps p.tables e below (T3.setTop (mkF m 3 #[.val (.int p1)] [(.int w2)])) _
    refine XS.ifNo X3.here hx rfl (hb hby d32_3) rfl ((if0 _ _).trans (feq hc3).1) ?_
    show Steps p.tables e below (T3.setTop (mkF m 6 #[.val (.int p1)] [])) _
    refine XS.iloadN X3.here hx rfl (hb hby d32_6) rfl ?_
    show Steps p.tables e below (T3.setTop (mkF m 7 #[.val (.int p1)] [(.int p1)])) _
    refine st4 _ ?_
    show Steps p.tables e below (T4.setTop (mkF m 10 #[.val (.int p1)] [(.int (1 : Int32))])) _
    refine XS.ifNo X4.here hx rfl (hb hby d32_10) rfl ((if0 _ _).trans (feq ((by decide) : ¬ ((1 : Int32) = (0 : Int32)))).1) ?_
    show Steps p.tables e below (T4.setTop (mkF m 13 #[.val (.int p1)] [])) _
    refine st5 _ ?_
    show Steps p.tables e below (T5.setTop (mkF m 16 #[.val (.int p1)] [(.ref b5)])) _
    refine XS.dup X5.here hx rfl (hb hby d32_16) rfl rfl ?_
    show Steps p.tables e below (T5.setTop (mkF m 17 #[.val (.int p1)] [(.ref b5), (.ref b5)])) _
    refine XS.iloadN X5.here hx rfl (hb hby d32_17) rfl ?_
    show Steps p.tables e below (T5.setTop (mkF m 18 #[.val (.int p1)] [(.int p1), (.ref b5), (.ref b5)])) _
    refine st6 _ ?_
    show Steps p.tables e below (T6.setTop (mkF m 21 #[.val (.int p1)] [(.ref b6), (.ref b5), (.ref b5)])) _
    refine XS.iconst X6.here hx rfl (hb hby d32_21) ?_
    show Steps p.tables e below (T6.setTop (mkF m 22 #[.val (.int p1)] [(.int (0 : Int32)), (.ref b6), (.ref b5), (.ref b5)])) _
    refine st7.trans ?_
    show Steps p.tables e below (T7.setTop (mkF m 25 #[.val (.int p1)] [(.ref b5)])) _
    jvm_step X7.here [X7.here.top, hx, (hb hby d32_25), X7.method', Bd.returns, Value.isRef, FieldType.isReference]
    first | (intro acts; rw [hr _ acts rfl rfl rfl]) | rw [hr _ _ rfl rfl rfl]
    exact Steps.refl _
  · show Q32 Z p1 w2 h0 n0 _ T7.heap _
    refine ⟨b5, rfl, N7, (K5.trans K6 all0).trans K7 (allS (Or.inr sz_b5) all0), ⟨E7, G7, b6, kb6, F7, V6.keep K7 (ninS (fun q => absurd (Nat.lt_of_lt_of_le A5.lt s6) (by rw [q]; exact Nat.lt_irrefl _)) nin0)⟩⟩
/-- the store's own fields: size and openLength, its chunks' array -/
def own_F (Z : State) (h : Heap) (n0 : Nat) (o : Addr) (sz ol : Nat) (q : Addr) (kq : ClassId) : Prop :=
  Exa Z h o "com/example/templum/templum/model/TextStore" ∧ n0 ≤ o ∧ Fld Z h o "com/example/templum/templum/model/TextStore" "size" "I" (.int (Int32.ofNat sz)) ∧ Fld Z h o "com/example/templum/templum/model/TextStore" "openLength" "I" (.int (Int32.ofNat ol)) ∧
    Fld Z h o "com/example/templum/templum/model/TextStore" "chunks" "[[C" (.ref q) ∧ n0 ≤ q ∧ OvrA Z kq .char "[C"
/-- no chunk yet -/
def own_V (Z : State) (h : Heap) (n0 : Nat) (o : Addr) (ol : Nat) (q : Addr) (kq : ClassId) : Prop :=
  own_F Z h n0 o 0 ol q kq ∧ Arv Z h q kq (.array .char) (4 : Int32) [.null, .null, .null, .null] .null
/-- one chunk, at ch, which begins with the chars cs -/
def own_U (Z : State) (h : Heap) (n0 : Nat) (o : Addr) (cs : List Int32) (ol : Nat) (q : Addr) (kq : ClassId) (ch : Addr) (kc : ClassId) : Prop :=
  own_F Z h n0 o cs.length ol q kq ∧ Arv Z h q kq (.array .char) (4 : Int32) [.ref ch, .null, .null, .null] .null ∧ n0 ≤ ch ∧ Arv Z h ch kc .char (65536 : Int32) (cs.map Value.int) (.int (0 : Int32))
/-- the store at o holds the chars cs, the last ol of them open -/
def own_T (Z : State) (h : Heap) (n0 : Nat) (o : Addr) (cs : List Int32) (ol : Nat) : Prop :=
  (cs = [] ∧ ∃ q kq, own_V Z h n0 o ol q kq) ∨ ∃ q kq ch kc, own_U Z h n0 o cs ol q kq ch kc
section Store
variable {Z : State} {a0 : Array Value} {h h' : Heap} {n0 : Nat} {o q ch : Addr} {kq kc : ClassId} {sz ol k : Nat} {cs : List Int32} {sl : Nat} {v : Value}
theorem own_F.ext (E : Ext h h') (F : own_F Z h n0 o sz ol q kq) : own_F Z h' n0 o sz ol q kq := by
  obtain ⟨a, b, c, d, e, f, g⟩ := F
  exact ⟨a.ext E, b, c.ext E, d.ext E, e.ext E, f, g⟩
theorem own_V.ext (E : Ext h h') (F : own_V Z h n0 o ol q kq) : own_V Z h' n0 o ol q kq := ⟨F.1.ext E, F.2.ext E⟩
theorem own_U.ext (E : Ext h h') (F : own_U Z h n0 o cs ol q kq ch kc) : own_U Z h' n0 o cs ol q kq ch kc := ⟨F.1.ext E, F.2.1.ext E, F.2.2.1, F.2.2.2.ext E⟩
theorem own_T.ext (E : Ext h h') (F : own_T Z h n0 o cs ol) : own_T Z h' n0 o cs ol := by
  rcases F with ⟨e, q, kq, F⟩ | ⟨q, kq, ch, kc, F⟩
  · exact Or.inl ⟨e, q, kq, F.ext E⟩
  · exact Or.inr ⟨q, kq, ch, kc, F.ext E⟩
theorem own_F.other {a : Addr} (W : Wr h h' a sl v) (ne : o ≠ a) (F : own_F Z h n0 o sz ol q kq) : own_F Z h' n0 o sz ol q kq := by
  obtain ⟨a, b, c, d, e, f, g⟩ := F
  exact ⟨a.wr W, b, c.other W (Or.inl ne), d.other W (Or.inl ne), e.other W (Or.inl ne), f, g⟩
theorem own_F.open (hw : ∀ d ∈ tables_1, d.before a0 Z = true) (W : Wr h h' o (Jvm.RoadKit.slotOf Z "com/example/templum/templum/model/TextStore" "openLength" "I") (.int (Int32.ofNat k))) (F : own_F Z h n0 o sz ol q kq) : own_F Z h' n0 o sz k q kq := by
  obtain ⟨a, b, c, d, e, f, g⟩ := F
  refine ⟨a.wr W, b, c.other W (Or.inr ?_), d.same W, e.other W (Or.inr ?_), f, g⟩
  · exact slot_ne (Or.inl (hw _ (List.mem_of_getElem? (i := 70) rfl))) (Or.inl (hw _ (List.mem_of_getElem? (i := 43) rfl))) (by decide) (t := .int) (t' := .int) (by decide) (by decide)
  · exact slot_ne (Or.inl (hw _ (List.mem_of_getElem? (i := 36) rfl))) (Or.inl (hw _ (List.mem_of_getElem? (i := 43) rfl))) (by decide) (t := .array (.array .char)) (t' := .int) (by decide) (by decide)
theorem own_F.sized (hw : ∀ d ∈ tables_1, d.before a0 Z = true) (W : Wr h h' o (Jvm.RoadKit.slotOf Z "com/example/templum/templum/model/TextStore" "size" "I") (.int (Int32.ofNat k))) (F : own_F Z h n0 o sz ol q kq) : own_F Z h' n0 o k ol q kq := by
  obtain ⟨a, b, c, d, e, f, g⟩ := F
  refine ⟨a.wr W, b, c.same W, d.other W (Or.inr ?_), e.other W (Or.inr ?_), f, g⟩
  · exact slot_ne (Or.inl (hw _ (List.mem_of_getElem? (i := 43) rfl))) (Or.inl (hw _ (List.mem_of_getElem? (i := 70) rfl))) (by decide) (t := .int) (t' := .int) (by decide) (by decide)
  · exact slot_ne (Or.inl (hw _ (List.mem_of_getElem? (i := 36) rfl))) (Or.inl (hw _ (List.mem_of_getElem? (i := 70) rfl))) (by decide) (t := .array (.array .char)) (t' := .int) (by decide) (by decide)
theorem own_F.O (F : own_F Z h n0 o sz ol q kq) : own_O Z h o := Or.inr F.1
theorem own_F.ge (F : own_F Z h n0 o sz ol q kq) : n0 ≤ o := F.2.1
theorem own_arrO {a : Addr} {k : ClassId} {ty : FieldType} {z : Int32} {vs : List Value} {d : Value} (A : Arv Z h a k ty z vs d) (ht : ty ≠ .byte) : own_O Z h a := by
  obtain ⟨cl, Ar, -⟩ := A
  exact Or.inl ⟨cl, ty, Ar, ht⟩
theorem own_F.neA {a : Addr} {k : ClassId} {ty : FieldType} {z : Int32} {vs : List Value} {d : Value} (hw : ∀ d ∈ tables_1, d.before a0 Z = true) (F : own_F Z h n0 o sz ol q kq) (A : Arv Z h a k ty z vs d) : a ≠ o := by
  obtain ⟨cl, Ar, -⟩ := A
  exact (ne_arr F.1 (hw _ (List.mem_of_getElem? (i := 27) rfl)) Ar).symm
theorem own_neAA {a b : Addr} {k k' : ClassId} {ty ty' : FieldType} {z z' : Int32} {vs vs' : List Value} {d d' : Value} (A : Arv Z h a k ty z vs d) (B : Arv Z h b k' ty' z' vs' d') (ht : ty ≠ ty') : a ≠ b := by
  obtain ⟨cl, Ar, -⟩ := A
  obtain ⟨cl', Br, -⟩ := B
  exact own_cls_ne Ar Br ht
theorem own_T.opened (hw : ∀ d ∈ tables_1, d.before a0 Z = true) (W : Wr h h' o (Jvm.RoadKit.slotOf Z "com/example/templum/templum/model/TextStore" "openLength" "I") (.int (Int32.ofNat k))) (F : own_T Z h n0 o cs ol) : own_T Z h' n0 o cs k := by
  rcases F with ⟨e, q, kq, F, A⟩ | ⟨q, kq, ch, kc, F, A, g, B⟩
  · exact Or.inl ⟨e, q, kq, F.open hw W, A.other W (F.neA hw A)⟩
  · exact Or.inr ⟨q, kq, ch, kc, F.open hw W, A.other W (F.neA hw A), g, B.other W (F.neA hw B)⟩
theorem own_T.F (F : own_T Z h n0 o cs ol) : ∃ q kq, own_F Z h n0 o cs.length ol q kq := by
  rcases F with ⟨rfl, q, kq, F, A⟩ | ⟨q, kq, ch, kc, F, A, g, B⟩
  · exact ⟨q, kq, F⟩
  · exact ⟨q, kq, F⟩
end Store
theorem own_shr {n : Nat} (h : n ≤ 100) : ((Int32.ofNat n).toUInt32 >>> ((16 : Int32) &&& 31).toUInt32).toInt32 = (0 : Int32) := by
  have H : ∀ k : Fin 101, ((Int32.ofNat k.val).toUInt32 >>> ((16 : Int32) &&& 31).toUInt32).toInt32 = (0 : Int32) := by decide +kernel
  exact H ⟨n, by omega⟩
theorem own_low {n : Nat} (h : n ≤ 100) : (Int32.ofNat n) &&& (65535 : Int32) = Int32.ofNat n := by
  have H : ∀ k : Fin 101, (Int32.ofNat k.val) &&& (65535 : Int32) = Int32.ofNat k.val := by decide +kernel
  exact H ⟨n, by omega⟩
/-- a contract that says less -/
theorem own_mono {l : Launch} {y : MethodName} {S : Spec} {P : Array Value → State → Prop} {R : Room} {Q Q' : Option Value → Heap → List Loc → Prop}
    (H : MetFree l y S P (fun _ _ _ _ _ => True) (fun _ U o U' => ∃ v L, o = .returned v ∧ Q v U'.heap L ∧ FrameEnd U o U' L R.cells R.slots)) (hQ : ∀ v h L, Q v h L → Q' v h L) :
    MetFree l y S P (fun _ _ _ _ _ => True) (fun _ U o U' => ∃ v L, o = .returned v ∧ Q' v U'.heap L ∧ FrameEnd U o U' L R.cells R.slots) := by
  intro p e ha hc hk s m args below hf happ hP hK
  obtain ⟨n, o, h1, h2, h3, v, L, rfl, q, f⟩ := H p e ha hc hk s m args below hf happ hP hK
  exact ⟨n, _, h1, h2, h3, v, L, rfl, hQ _ _ _ q, f⟩
theorem d10_0 : decode prog_84_method_5_code 0 = .ok (.iload_n 1, 1) := by decide +kernel
theorem d10_1 : decode prog_84_method_5_code 1 = .ok (.ldc 84, 2) := by decide +kernel
theorem d10_3 : decode prog_84_method_5_code 3 = .ok (.aload_n 0, 1) := by decide +kernel
theorem d10_4 : decode prog_84_method_5_code 4 = .ok (.getfield 47, 3) := by decide +kernel
theorem d10_7 : decode prog_84_method_5_code 7 = .ok (.isub, 1) := by decide +kernel
theorem d10_8 : decode prog_84_method_5_code 8 = .ok (.if_icmp .le 16, 3) := by decide +kernel
theorem d10_24 : decode prog_84_method_5_code 24 = .ok (.return_, 1) := by decide +kernel
theorem pn_10 : plainName "com/example/templum/templum/model/TextStore" = true := by first | (simp [plainName, overriddenIn]; done) | decide +kernel
theorem ef_10 (m : MethodId) (x0 : Addr) (x1 : Int32) : entryFrame m #[(.ref x0), (.int x1)] 2 = mkF m 0 #[.val (.ref x0), .val (.int x1)] [] := by first | (simp [entryFrame, mkF, argsToLocals, Value.category]; done) | rfl
def Q10 (Z : State) (a1 : Addr) (p2 : Int32) (w3 : Int32) (h0 : Heap) (n0 : Nat) (v : Option Value) (h : Heap) (L : List Loc) : Prop := v = none ∧ Fr n0 L ∧ h = h0
set_option maxRecDepth 65536 in
set_option maxHeartbeats 40000000 in
theorem rm10 (l : Launch) (Z : State) (a0 : Array Value) (hw : ∀ d ∈ tables_1, d.before a0 Z = true) (ws : List Jvm.Cond) (a1 : Addr) (p2 : Int32) (w3 : Int32) (h0 : Heap) (n0 : Nat) (Z0 : n0 ≤ h0.size) (F_size_a1 : Fld Z h0 a1 "com/example/templum/templum/model/TextStore" "size" "I" (.int w3)) (hc8 : ¬ (((2147483647 : Int32) - w3) < p2)) :
    MetFree l (⟨"com/example/templum/templum/model/TextStore", "reserve", "(I)V"⟩ : MethodName) (head1 (Jvm.Cond.code (⟨"com/example/templum/templum/model/TextStore", "reserve", "(I)V"⟩ : MethodName) prog_84_method_5_code 2 none :: ws) ({ frames := 0, cells := 0, slots := 0, locals := 0 } : Room)) (fun a U => a = #[(.ref a1), (.int p2)] ∧ Z.Warmed39 U.vm ∧ U.heap = h0) (fun _ _ _ _ _ => True) (fun _ U o U' => ∃ v L, o = .returned v ∧ Q10 Z a1 p2 w3 h0 n0 v U'.heap L ∧ FrameEnd U o U' L ({ frames := 0, cells := 0, slots := 0, locals := 0 } : Room).cells ({ frames := 0, cells := 0, slots := 0, locals := 0 } : Room).slots) := by
  refine MetFree.of_bodySF (plainFor_of_name pn_10) hisR ?_
  intro p e s m args below meth c s₁ Bd hml0 hP hK
  obtain ⟨rfl, hZ, hh⟩ := hP
  have hx := Bd.exec
  have hby := Bd.bytes
  have hml : c.maxLocals = 2 := hml0
  have hown : s.vm.findClass "com/example/templum/templum/model/TextStore" = some m.cls := findClass_of_methodNamed Bd.named
  have hnm := (name_of_methodNamed Bd.named Bd.method).1
  have X0 : Stand p l e ({ frames := 0, cells := 0, slots := 0, locals := 0 } : Room) s m #[(.ref a1), (.int p2)] below meth c s₁ [] 0 0 := Stand.of_body Bd
  have e0 : s₁.heap = h0 := by rw [← hh, Bd.state]; rfl
  have N0 := Fr.nil n0
  have pre0 : ∀ t, Steps p.tables e below (s₁.setTop (mkF m 0 #[.val (.ref a1), .val (.int p2)] [])) t → Steps p.tables e below (s₁.setTop (entryFrame m #[(.ref a1), (.int p2)] 2)) t := fun t k => castTop (ef_10 m a1 p2) k
  obtain ⟨T4, X4, e4, st4⟩ := getF X0 hx hZ hown (host := "") (Or.inl (hw _ (List.mem_of_getElem? (i := 69) rfl))) Via.refl e0 F_size_a1 (g := (mkF m 4 #[.val (.ref a1), .val (.int p2)] [(.ref a1), (.int (2147483647 : Int32)), (.int p2)])) rfl rfl (hb hby d10_4)
  obtain ⟨fs, hr, hrun, hended, hW, hsame⟩ := X4.leave (v := none) (fun _ => rfl)
  refine ⟨_, _, pre0 _ ?_, hrun, hended, _, _, rfl, ?_, ⟨_, rfl⟩, hW, hsame.mono (by decide) (by decide)⟩
  · show Steps p.tables e below (s₁.setTop (mkF m 0 #[.val (.ref a1), .val (.int p2)] [])) _
    refine XS.iloadN X0.here hx rfl (hb hby d10_0) rfl ?_
    show Steps p.tables e below (s₁.setTop (mkF m 1 #[.val (.ref a1), .val (.int p2)] [(.int p2)])) _
    refine X0.ldcInt hx hown (mvT hZ (hw _ (List.mem_of_getElem? (i := 68) rfl))) (g := (mkF m 1 #[.val (.ref a1), .val (.int p2)] [(.int p2)])) rfl (hb hby d10_1) _ ?_
    show Steps p.tables e below (s₁.setTop (mkF m 3 #[.val (.ref a1), .val (.int p2)] [(.int (2147483647 : Int32)), (.int p2)])) _
    refine XS.aloadN X0.here hx rfl (hb hby d10_3) rfl rfl ?_
    show Steps p.tables e below (s₁.setTop (mkF m 4 #[.val (.ref a1), .val (.int p2)] [(.ref a1), (.int (2147483647 : Int32)), (.int p2)])) _
    refine st4 _ ?_
    show Steps p.tables e below (T4.setTop (mkF m 7 #[.val (.ref a1), .val (.int p2)] [(.int w3), (.int (2147483647 : Int32)), (.int p2)])) _
    refine XS.isub X4.here hx rfl (hb hby d10_7) rfl ?_
    show Steps p.tables e below (T4.setTop (mkF m 8 #[.val (.ref a1), .val (.int p2)] [(.int ((2147483647 : Int32) - w3)), (.int p2)])) _
    refine XS.icmpYes X4.here hx rfl (pc0 := 8) (pc' := 24) rfl (hb hby d10_8) rfl (flt hc8).2.2.2 (by decide) (by decide) ?_
    show Steps p.tables e below (T4.setTop (mkF m 24 #[.val (.ref a1), .val (.int p2)] [])) _
    exact X4.returnOut hx Bd.returns (hb hby d10_24) hr
  · show Q10 Z a1 p2 w3 h0 n0 _ T4.heap _
    rw [e4]
    exact ⟨rfl, N0, rfl⟩
theorem d11_0 : decode prog_84_method_8_code 0 = .ok (.aload_n 0, 1) := by decide +kernel
theorem d11_1 : decode prog_84_method_8_code 1 = .ok (.getfield 15, 3) := by decide +kernel
theorem d11_4 : decode prog_84_method_8_code 4 = .ok (.ifCond .ne 7, 3) := by decide +kernel
theorem d11_7 : decode prog_84_method_8_code 7 = .ok (.iconst 0, 1) := by decide +kernel
theorem d11_8 : decode prog_84_method_8_code 8 = .ok (.goto 12, 3) := by decide +kernel
theorem d11_20 : decode prog_84_method_8_code 20 = .ok (.istore_n 1, 1) := by decide +kernel
theorem d11_21 : decode prog_84_method_8_code 21 = .ok (.aload_n 0, 1) := by decide +kernel
theorem d11_22 : decode prog_84_method_8_code 22 = .ok (.iconst 0, 1) := by decide +kernel
theorem d11_23 : decode prog_84_method_8_code 23 = .ok (.putfield 15, 3) := by decide +kernel
theorem d11_26 : decode prog_84_method_8_code 26 = .ok (.iload_n 1, 1) := by decide +kernel
theorem d11_27 : decode prog_84_method_8_code 27 = .ok (.ireturn, 1) := by decide +kernel
theorem pn_11 : plainName "com/example/templum/templum/model/TextStore" = true := by first | (simp [plainName, overriddenIn]; done) | decide +kernel
theorem ef_11 (m : MethodId) (x0 : Addr) : entryFrame m #[(.ref x0)] 2 = mkF m 0 #[.val (.ref x0), .unset] [] := by first | (simp [entryFrame, mkF, argsToLocals, Value.category]; done) | rfl
def Q11_f (Z : State) (a1 : Addr) (w2 : Int32) (h0 : Heap) (n0 : Nat) (v : Option Value) (h : Heap) (L : List Loc) : Prop := v = some (.int (0 : Int32)) ∧ Fr n0 L ∧ Wr h0 h a1 (Jvm.RoadKit.slotOf Z "com/example/templum/templum/model/TextStore" "openLength" "I") (.int (Int32.ofNat 0))
set_option maxRecDepth 65536 in
set_option maxHeartbeats 40000000 in
theorem rm11_f (l : Launch) (Z : State) (a0 : Array Value) (hw : ∀ d ∈ tables_1, d.before a0 Z = true) (ws : List Jvm.Cond) (a1 : Addr) (w2 : Int32) (h0 : Heap) (n0 : Nat) (Z0 : n0 ≤ h0.size) (F_openLength_a1 : Fld Z h0 a1 "com/example/templum/templum/model/TextStore" "openLength" "I" (.int w2)) (E_a1 : Exa Z h0 a1 "com/example/templum/templum/model/TextStore") (g_a1 : n0 ≤ a1) (hc4 : w2 = (0 : Int32)) :
    MetFree l (⟨"com/example/templum/templum/model/TextStore", "close", "()I"⟩ : MethodName) (head1 (Jvm.Cond.code (⟨"com/example/templum/templum/model/TextStore", "close", "()I"⟩ : MethodName) prog_84_method_8_code 2 (some .int) :: ws) ({ frames := 0, cells := 0, slots := 0, locals := 0 } : Room)) (fun a U => a = #[(.ref a1)] ∧ Z.Warmed39 U.vm ∧ U.heap = h0) (fun _ _ _ _ _ => True) (fun _ U o U' => ∃ v L, o = .returned v ∧ Q11_f Z a1 w2 h0 n0 v U'.heap L ∧ FrameEnd U o U' L ({ frames := 0, cells := 0, slots := 0, locals := 0 } : Room).cells ({ frames := 0, cells := 0, slots := 0, locals := 0 } : Room).slots) := by
  refine MetFree.of_bodySF (plainFor_of_name pn_11) hisR ?_
  intro p e s m args below meth c s₁ Bd hml0 hP hK
  obtain ⟨rfl, hZ, hh⟩ := hP
  have hx := Bd.exec
  have hby := Bd.bytes
  have hml : c.maxLocals = 2 := hml0
  have hown : s.vm.findClass "com/example/templum/templum/model/TextStore" = some m.cls := findClass_of_methodNamed Bd.named
  have hnm := (name_of_methodNamed Bd.named Bd.method).1
  have X0 : Stand p l e ({ frames := 0, cells := 0, slots := 0, locals := 0 } : Room) s m #[(.ref a1)] below meth c s₁ [] 0 0 := Stand.of_body Bd
  have e0 : s₁.heap = h0 := by rw [← hh, Bd.state]; rfl
  have N0 := Fr.nil n0
  have pre0 : ∀ t, Steps p.tables e below (s₁.setTop (mkF m 0 #[.val (.ref a1), .unset] [])) t → Steps p.tables e below (s₁.setTop (entryFrame m #[(.ref a1)] 2)) t := fun t k => castTop (ef_11 m a1) k
  obtain ⟨T3, X3, e3, st3⟩ := getF X0 hx hZ hown (host := "") (Or.inl (hw _ (List.mem_of_getElem? (i := 42) rfl))) Via.refl e0 F_openLength_a1 (g := (mkF m 1 #[.val (.ref a1), .unset] [(.ref a1)])) rfl rfl (hb hby d11_1)
  obtain ⟨T4, h4, X4, e4, W4, st4⟩ := putF X3 hx hZ hown (host := "") (Or.inl (hw _ (List.mem_of_getElem? (i := 42) rfl))) Via.refl e3 F_openLength_a1 E_a1 (Or.inl (hw _ (List.mem_of_getElem? (i := 43) rfl))) (hw _ (List.mem_of_getElem? (i := 27) rfl)) (ty := .int) (by decide) rfl rfl (g := (mkF m 23 #[.val (.ref a1), .val (.int (0 : Int32))] [(.int (0 : Int32)), (.ref a1)])) rfl rfl (hb hby d11_23)
  have Fw4 := F_openLength_a1.same W4
  have K4 : Keep h0 h4 [a1] := (Keep.refl h0 [a1]).wr W4 (Or.inl (List.mem_of_getElem? (i := 0) rfl))
  have N4 := Fr.snoc X4 N0 g_a1
  obtain ⟨fs, hr, hrun, hended, hW, hsame⟩ := X4.leave (v := some (.int (0 : Int32))) (fun h => by rw [Bd.returns] at h; cases h)
  refine ⟨_, _, pre0 _ ?_, hrun, hended, _, _, rfl, ?_, ⟨_, rfl⟩, hW, hsame.mono (by decide) (by decide)⟩
  · show Steps p.tables e below (s₁.setTop (mkF m 0 #[.val (.ref a1), .unset] [])) _
    refine XS.aloadN X0.here hx rfl (hb hby d11_0) rfl rfl ?_
    show Steps p.tables e below (s₁.setTop (mkF m 1 #[.val (.ref a1), .unset] [(.ref a1)])) _
    refine st3 _ ?_
    show Steps p.tables e below (T3.setTop (mkF m 4 #[.val (.ref a1), .unset] [(.int w2)])) _
    refine XS.ifNo X3.here hx rfl (hb hby d11_4) rfl ((if0 _ _).trans (teq hc4).2) ?_
    show Steps p.tables e below (T3.setTop (mkF m 7 #[.val (.ref a1), .unset] [])) _
    refine XS.iconst X3.here hx rfl (hb hby d11_7) ?_
    show Steps p.tables e below (T3.setTop (mkF m 8 #[.val (.ref a1), .unset] [(.int (0 : Int32))])) _
    refine XS.goto X3.here hx rfl (pc0 := 8) (pc' := 20) rfl (hb hby d11_8) (by decide) (by decide) ?_
    show Steps p.tables e below (T3.setTop (mkF m 20 #[.val (.ref a1), .unset] [(.int (0 : Int32))])) _
    refine XS.istoreN X3.here hx rfl (hb hby d11_20) rfl (l' := #[.val (.ref a1), .val (.int (0 : Int32))]) rfl ?_
    show Steps p.tables e below (T3.setTop (mkF m 21 #[.val (.ref a1), .val (.int (0 : Int32))] [])) _
    refine XS.aloadN X3.here hx rfl (hb hby d11_21) rfl rfl ?_
    show Steps p.tables e below (T3.setTop (mkF m 22 #[.val (.ref a1), .val (.int (0 : Int32))] [(.ref a1)])) _
    refine XS.iconst X3.here hx rfl (hb hby d11_22) ?_
    show Steps p.tables e below (T3.setTop (mkF m 23 #[.val (.ref a1), .val (.int (0 : Int32))] [(.int (0 : Int32)), (.ref a1)])) _
    refine st4 _ ?_
    show Steps p.tables e below (T4.setTop (mkF m 26 #[.val (.ref a1), .val (.int (0 : Int32))] [])) _
    refine XS.iloadN X4.here hx rfl (hb hby d11_26) rfl ?_
    show Steps p.tables e below (T4.setTop (mkF m 27 #[.val (.ref a1), .val (.int (0 : Int32))] [(.int (0 : Int32))])) _
    exact retI X4 hx Bd.returns (hb hby d11_27) hr
  · show Q11_f Z a1 w2 h0 n0 _ T4.heap _
    rw [e4]
    exact ⟨rfl, N4, W4⟩
theorem d11_11 : decode prog_84_method_8_code 11 = .ok (.aload_n 0, 1) := by decide +kernel
theorem d11_12 : decode prog_84_method_8_code 12 = .ok (.getfield 47, 3) := by decide +kernel
theorem d11_15 : decode prog_84_method_8_code 15 = .ok (.aload_n 0, 1) := by decide +kernel
theorem d11_16 : decode prog_84_method_8_code 16 = .ok (.getfield 15, 3) := by decide +kernel
theorem d11_19 : decode prog_84_method_8_code 19 = .ok (.isub, 1) := by decide +kernel
def Q11_t (Z : State) (a1 : Addr) (w2 : Int32) (w4 : Int32) (h0 : Heap) (n0 : Nat) (v : Option Value) (h : Heap) (L : List Loc) : Prop := v = some (.int (w4 - w2)) ∧ Fr n0 L ∧ Wr h0 h a1 (Jvm.RoadKit.slotOf Z "com/example/templum/templum/model/TextStore" "openLength" "I") (.int (Int32.ofNat 0))
set_option maxRecDepth 65536 in
set_option maxHeartbeats 40000000 in
theorem rm11_t (l : Launch) (Z : State) (a0 : Array Value) (hw : ∀ d ∈ tables_1, d.before a0 Z = true) (ws : List Jvm.Cond) (a1 : Addr) (w2 : Int32) (w4 : Int32) (h0 : Heap) (n0 : Nat) (Z0 : n0 ≤ h0.size) (F_openLength_a1 : Fld Z h0 a1 "com/example/templum/templum/model/TextStore" "openLength" "I" (.int w2)) (F_size_a1 : Fld Z h0 a1 "com/example/templum/templum/model/TextStore" "size" "I" (.int w4)) (E_a1 : Exa Z h0 a1 "com/example/templum/templum/model/TextStore") (g_a1 : n0 ≤ a1) (hc4 : ¬ (w2 = (0 : Int32))) :
    MetFree l (⟨"com/example/templum/templum/model/TextStore", "close", "()I"⟩ : MethodName) (head1 (Jvm.Cond.code (⟨"com/example/templum/templum/model/TextStore", "close", "()I"⟩ : MethodName) prog_84_method_8_code 2 (some .int) :: ws) ({ frames := 0, cells := 0, slots := 0, locals := 0 } : Room)) (fun a U => a = #[(.ref a1)] ∧ Z.Warmed39 U.vm ∧ U.heap = h0) (fun _ _ _ _ _ => True) (fun _ U o U' => ∃ v L, o = .returned v ∧ Q11_t Z a1 w2 w4 h0 n0 v U'.heap L ∧ FrameEnd U o U' L ({ frames := 0, cells := 0, slots := 0, locals := 0 } : Room).cells ({ frames := 0, cells := 0, slots := 0, locals := 0 } : Room).slots) := by
  refine MetFree.of_bodySF (plainFor_of_name pn_11) hisR ?_
  intro p e s m args below meth c s₁ Bd hml0 hP hK
  obtain ⟨rfl, hZ, hh⟩ := hP
  have hx := Bd.exec
  have hby := Bd.bytes
  have hml : c.maxLocals = 2 := hml0
  have hown : s.vm.findClass "com/example/templum/templum/model/TextStore" = some m.cls := findClass_of_methodNamed Bd.named
  have hnm := (name_of_methodNamed Bd.named Bd.method).1
  have X0 : Stand p l e ({ frames := 0, cells := 0, slots := 0, locals := 0 } : Room) s m #[(.ref a1)] below meth c s₁ [] 0 0 := Stand.of_body Bd
  have e0 : s₁.heap = h0 := by rw [← hh, Bd.state]; rfl
  have N0 := Fr.nil n0
  have pre0 : ∀ t, Steps p.tables e below (s₁.setTop (mkF m 0 #[.val (.ref a1), .unset] [])) t → Steps p.tables e below (s₁.setTop (entryFrame m #[(.ref a1)] 2)) t := fun t k => castTop (ef_11 m a1) k
  obtain ⟨T3, X3, e3, st3⟩ := getF X0 hx hZ hown (host := "") (Or.inl (hw _ (List.mem_of_getElem? (i := 42) rfl))) Via.refl e0 F_openLength_a1 (g := (mkF m 1 #[.val (.ref a1), .unset] [(.ref a1)])) rfl rfl (hb hby d11_1)
  obtain ⟨T5, X5, e5, st5⟩ := getF X3 hx hZ hown (host := "") (Or.inl (hw _ (List.mem_of_getElem? (i := 69) rfl))) Via.refl e3 F_size_a1 (g := (mkF m 12 #[.val (.ref a1), .unset] [(.ref a1)])) rfl rfl (hb hby d11_12)
  obtain ⟨T6, X6, e6, st6⟩ := getF X5 hx hZ hown (host := "") (Or.inl (hw _ (List.mem_of_getElem? (i := 42) rfl))) Via.refl e5 F_openLength_a1 (g := (mkF m 16 #[.val (.ref a1), .unset] [(.ref a1), (.int w4)])) rfl rfl (hb hby d11_16)
  obtain ⟨T7, h7, X7, e7, W7, st7⟩ := putF X6 hx hZ hown (host := "") (Or.inl (hw _ (List.mem_of_getElem? (i := 42) rfl))) Via.refl e6 F_openLength_a1 E_a1 (Or.inl (hw _ (List.mem_of_getElem? (i := 43) rfl))) (hw _ (List.mem_of_getElem? (i := 27) rfl)) (ty := .int) (by decide) rfl rfl (g := (mkF m 23 #[.val (.ref a1), .val (.int (w4 - w2))] [(.int (0 : Int32)), (.ref a1)])) rfl rfl (hb hby d11_23)
  have Fw7 := F_openLength_a1.same W7
  have K7 : Keep h0 h7 [a1] := (Keep.refl h0 [a1]).wr W7 (Or.inl (List.mem_of_getElem? (i := 0) rfl))
  have N7 := Fr.snoc X7 N0 g_a1
  obtain ⟨fs, hr, hrun, hended, hW, hsame⟩ := X7.leave (v := some (.int (w4 - w2))) (fun h => by rw [Bd.returns] at h; cases h)
  refine ⟨_, _, pre0 _ ?_, hrun, hended, _, _, rfl, ?_, ⟨_, rfl⟩, hW, hsame.mono (by decide) (by decide)⟩
  · show Steps p.tables e below (s₁.setTop (mkF m 0 #[.val (.ref a1), .unset] [])) _
    refine XS.aloadN X0.here hx rfl (hb hby d11_0) rfl rfl ?_
    show Steps p.tables e below (s₁.setTop (mkF m 1 #[.val (.ref a1), .unset] [(.ref a1)])) _
    refine st3 _ ?_
    show Steps p.tables e below (T3.setTop (mkF m 4 #[.val (.ref a1), .unset] [(.int w2)])) _
    refine XS.ifYes X3.here hx rfl (pc0 := 4) (pc' := 11) rfl (hb hby d11_4) rfl ((if0 _ _).trans (feq hc4).2) (by decide) (by decide) ?_
    show Steps p.tables e below (T3.setTop (mkF m 11 #[.val (.ref a1), .unset] [])) _
    refine XS.aloadN X3.here hx rfl (hb hby d11_11) rfl rfl ?_
    show Steps p.tables e below (T3.setTop (mkF m 12 #[.val (.ref a1), .unset] [(.ref a1)])) _
    refine st5 _ ?_
    show Steps p.tables e below (T5.setTop (mkF m 15 #[.val (.ref a1), .unset] [(.int w4)])) _
    refine XS.aloadN X5.here hx rfl (hb hby d11_15) rfl rfl ?_
    show Steps p.tables e below (T5.setTop (mkF m 16 #[.val (.ref a1), .unset] [(.ref a1), (.int w4)])) _
    refine st6 _ ?_
    show Steps p.tables e below (T6.setTop (mkF m 19 #[.val (.ref a1), .unset] [(.int w2), (.int w4)])) _
    refine XS.isub X6.here hx rfl (hb hby d11_19) rfl ?_
    show Steps p.tables e below (T6.setTop (mkF m 20 #[.val (.ref a1), .unset] [(.int (w4 - w2))])) _
    refine XS.istoreN X6.here hx rfl (hb hby d11_20) rfl (l' := #[.val (.ref a1), .val (.int (w4 - w2))]) rfl ?_
    show Steps p.tables e below (T6.setTop (mkF m 21 #[.val (.ref a1), .val (.int (w4 - w2))] [])) _
    refine XS.aloadN X6.here hx rfl (hb hby d11_21) rfl rfl ?_
    show Steps p.tables e below (T6.setTop (mkF m 22 #[.val (.ref a1), .val (.int (w4 - w2))] [(.ref a1)])) _
    refine XS.iconst X6.here hx rfl (hb hby d11_22) ?_
    show Steps p.tables e below (T6.setTop (mkF m 23 #[.val (.ref a1), .val (.int (w4 - w2))] [(.int (0 : Int32)), (.ref a1)])) _
    refine st7 _ ?_
    show Steps p.tables e below (T7.setTop (mkF m 26 #[.val (.ref a1), .val (.int (w4 - w2))] [])) _
    refine XS.iloadN X7.here hx rfl (hb hby d11_26) rfl ?_
    show Steps p.tables e below (T7.setTop (mkF m 27 #[.val (.ref a1), .val (.int (w4 - w2))] [(.int (w4 - w2))])) _
    exact retI X7 hx Bd.returns (hb hby d11_27) hr
  · show Q11_t Z a1 w2 w4 h0 n0 _ T7.heap _
    rw [e7]
    exact ⟨rfl, N7, W7⟩
theorem d12_0 : decode prog_84_method_7_code 0 = .ok (.aload_n 0, 1) := by decide +kernel
theorem d12_1 : decode prog_84_method_7_code 1 = .ok (.getfield 15, 3) := by decide +kernel
theorem d12_4 : decode prog_84_method_7_code 4 = .ok (.ireturn, 1) := by decide +kernel
theorem pn_12 : plainName "com/example/templum/templum/model/TextStore" = true := by first | (simp [plainName, overriddenIn]; done) | decide +kernel
theorem ef_12 (m : MethodId) (x0 : Addr) : entryFrame m #[(.ref x0)] 1 = mkF m 0 #[.val (.ref x0)] [] := by first | (simp [entryFrame, mkF, argsToLocals, Value.category]; done) | rfl
def Q12 (Z : State) (a1 : Addr) (w2 : Int32) (h0 : Heap) (n0 : Nat) (v : Option Value) (h : Heap) (L : List Loc) : Prop := v = some (.int w2) ∧ Fr n0 L ∧ h = h0
set_option maxRecDepth 65536 in
set_option maxHeartbeats 40000000 in
theorem rm12 (l : Launch) (Z : State) (a0 : Array Value) (hw : ∀ d ∈ tables_1, d.before a0 Z = true) (ws : List Jvm.Cond) (a1 : Addr) (w2 : Int32) (h0 : Heap) (n0 : Nat) (Z0 : n0 ≤ h0.size) (F_openLength_a1 : Fld Z h0 a1 "com/example/templum/templum/model/TextStore" "openLength" "I" (.int w2)) :
    MetFree l (⟨"com/example/templum/templum/model/TextStore", "openLength", "()I"⟩ : MethodName) (head1 (Jvm.Cond.code (⟨"com/example/templum/templum/model/TextStore", "openLength", "()I"⟩ : MethodName) prog_84_method_7_code 1 (some .int) :: ws) ({ frames := 0, cells := 0, slots := 0, locals := 0 } : Room)) (fun a U => a = #[(.ref a1)] ∧ Z.Warmed39 U.vm ∧ U.heap = h0) (fun _ _ _ _ _ => True) (fun _ U o U' => ∃ v L, o = .returned v ∧ Q12 Z a1 w2 h0 n0 v U'.heap L ∧ FrameEnd U o U' L ({ frames := 0, cells := 0, slots := 0, locals := 0 } : Room).cells ({ frames := 0, cells := 0, slots := 0, locals := 0 } : Room).slots) := by
  refine MetFree.of_bodySF (plainFor_of_name pn_12) hisR ?_
  intro p e s m args below meth c s₁ Bd hml0 hP hK
  obtain ⟨rfl, hZ, hh⟩ := hP
  have hx := Bd.exec
  have hby := Bd.bytes
  have hml : c.maxLocals = 1 := hml0
  have hown : s.vm.findClass "com/example/templum/templum/model/TextStore" = some m.cls := findClass_of_methodNamed Bd.named
  have hnm := (name_of_methodNamed Bd.named Bd.method).1
  have X0 : Stand p l e ({ frames := 0, cells := 0, slots := 0, locals := 0 } : Room) s m #[(.ref a1)] below meth c s₁ [] 0 0 := Stand.of_body Bd
  have e0 : s₁.heap = h0 := by rw [← hh, Bd.state]; rfl
  have N0 := Fr.nil n0
  have pre0 : ∀ t, Steps p.tables e below (s₁.setTop (mkF m 0 #[.val (.ref a1)] [])) t → Steps p.tables e below (s₁.setTop (entryFrame m #[(.ref a1)] 1)) t := fun t k => castTop (ef_12 m a1) k
  obtain ⟨T3, X3, e3, st3⟩ := getF X0 hx hZ hown (host := "") (Or.inl (hw _ (List.mem_of_getElem? (i := 42) rfl))) Via.refl e0 F_openLength_a1 (g := (mkF m 1 #[.val (.ref a1)] [(.ref a1)])) rfl rfl (hb hby d12_1)
  obtain ⟨fs, hr, hrun, hended, hW, hsame⟩ := X3.leave (v := some (.int w2)) (fun h => by rw [Bd.returns] at h; cases h)
  refine ⟨_, _, pre0 _ ?_, hrun, hended, _, _, rfl, ?_, ⟨_, rfl⟩, hW, hsame.mono (by decide) (by decide)⟩
  · show Steps p.tables e below (s₁.setTop (mkF m 0 #[.val (.ref a1)] [])) _
    refine XS.aloadN X0.here hx rfl (hb hby d12_0) rfl rfl ?_
    show Steps p.tables e below (s₁.setTop (mkF m 1 #[.val (.ref a1)] [(.ref a1)])) _
    refine st3 _ ?_
    show Steps p.tables e below (T3.setTop (mkF m 4 #[.val (.ref a1)] [(.int w2)])) _
    exact retI X3 hx Bd.returns (hb hby d12_4) hr
  · show Q12 Z a1 w2 h0 n0 _ T3.heap _
    rw [e3]
    exact ⟨rfl, N0, rfl⟩
theorem d29_0 : decode prog_84_method_12_code 0 = .ok (.iload_n 0, 1) := by decide +kernel
theorem d29_1 : decode prog_84_method_12_code 1 = .ok (.ldc 50, 2) := by decide +kernel
theorem d29_3 : decode prog_84_method_12_code 3 = .ok (.iand, 1) := by decide +kernel
theorem d29_4 : decode prog_84_method_12_code 4 = .ok (.iload_n 1, 1) := by decide +kernel
theorem d29_5 : decode prog_84_method_12_code 5 = .ok (.iadd, 1) := by decide +kernel
theorem d29_6 : decode prog_84_method_12_code 6 = .ok (.ldc 51, 2) := by decide +kernel
theorem d29_8 : decode prog_84_method_12_code 8 = .ok (.if_icmp .gt 7, 3) := by decide +kernel
theorem d29_11 : decode prog_84_method_12_code 11 = .ok (.iconst 1, 1) := by decide +kernel
theorem d29_12 : decode prog_84_method_12_code 12 = .ok (.goto 4, 3) := by decide +kernel
theorem d29_16 : decode prog_84_method_12_code 16 = .ok (.ireturn, 1) := by decide +kernel
theorem pn_29 : plainName "com/example/templum/templum/model/TextStore" = true := by first | (simp [plainName, overriddenIn]; done) | decide +kernel
theorem ef_29 (m : MethodId) (x0 : Int32) (x1 : Int32) : entryFrame m #[(.int x0), (.int x1)] 2 = mkF m 0 #[.val (.int x0), .val (.int x1)] [] := by first | (simp [entryFrame, mkF, argsToLocals, Value.category]; done) | rfl
def Q29 (Z : State) (p1 : Int32) (p2 : Int32) (h0 : Heap) (n0 : Nat) (v : Option Value) (h : Heap) (L : List Loc) : Prop := v = some (.int (1 : Int32)) ∧ Fr n0 L ∧ h = h0
set_option maxRecDepth 65536 in
set_option maxHeartbeats 40000000 in
theorem rm29 (l : Launch) (Z : State) (a0 : Array Value) (hw : ∀ d ∈ tables_1, d.before a0 Z = true) (ws : List Jvm.Cond) (p1 : Int32) (p2 : Int32) (h0 : Heap) (n0 : Nat) (Z0 : n0 ≤ h0.size) (hc8 : ¬ ((65536 : Int32) < ((p1 &&& (65535 : Int32)) + p2))) :
    MetFree l (⟨"com/example/templum/templum/model/TextStore", "inOneChunk", "(II)Z"⟩ : MethodName) (head1 (Jvm.Cond.code (⟨"com/example/templum/templum/model/TextStore", "inOneChunk", "(II)Z"⟩ : MethodName) prog_84_method_12_code 2 (some .boolean) :: ws) ({ frames := 0, cells := 0, slots := 0, locals := 0 } : Room)) (fun a U => a = #[(.int p1), (.int p2)] ∧ Z.Warmed39 U.vm ∧ U.heap = h0) (fun _ _ _ _ _ => True) (fun _ U o U' => ∃ v L, o = .returned v ∧ Q29 Z p1 p2 h0 n0 v U'.heap L ∧ FrameEnd U o U' L ({ frames := 0, cells := 0, slots := 0, locals := 0 } : Room).cells ({ frames := 0, cells := 0, slots := 0, locals := 0 } : Room).slots) := by
  refine MetFree.of_bodySF (plainFor_of_name pn_29) hisR ?_
  intro p e s m args below meth c s₁ Bd hml0 hP hK
  obtain ⟨rfl, hZ, hh⟩ := hP
  have hx := Bd.exec
  have hby := Bd.bytes
  have hml : c.maxLocals = 2 := hml0
  have hown : s.vm.findClass "com/example/templum/templum/model/TextStore" = some m.cls := findClass_of_methodNamed Bd.named
  have hnm := (name_of_methodNamed Bd.named Bd.method).1
  have X0 : Stand p l e ({ frames := 0, cells := 0, slots := 0, locals := 0 } : Room) s m #[(.int p1), (.int p2)] below meth c s₁ [] 0 0 := Stand.of_body Bd
  have e0 : s₁.heap = h0 := by rw [← hh, Bd.state]; rfl
  have N0 := Fr.nil n0
  have pre0 : ∀ t, Steps p.tables e below (s₁.setTop (mkF m 0 #[.val (.int p1), .val (.int p2)] [])) t → Steps p.tables e below (s₁.setTop (entryFrame m #[(.int p1), (.int p2)] 2)) t := fun t k => castTop (ef_29 m p1 p2) k

  obtain ⟨fs, hr, hrun, hended, hW, hsame⟩ := X0.leave (v := some (.int (1 : Int32))) (fun h => by rw [Bd.returns] at h; cases h)
  refine ⟨_, _, pre0 _ ?_, hrun, hended, _, _, rfl, ?_, ⟨_, rfl⟩, hW, hsame.mono (by decide) (by decide)⟩
  · show Steps p.tables e below (s₁.setTop (mkF m 0 #[.val (.int p1), .val (.int p2)] [])) _
    refine XS.iloadN X0.here hx rfl (hb hby d29_0) rfl ?_
    show Steps p.tables e below (s₁.setTop (mkF m 1 #[.val (.int p1), .val (.int p2)] [(.int p1)])) _
    refine X0.ldcInt hx hown (mvT hZ (hw _ (List.mem_of_getElem? (i := 115) rfl))) (g := (mkF m 1 #[.val (.int p1), .val (.int p2)] [(.int p1)])) rfl (hb hby d29_1) _ ?_
    show Steps p.tables e below (s₁.setTop (mkF m 3 #[.val (.int p1), .val (.int p2)] [(.int (65535 : Int32)), (.int p1)])) _
    refine XS.iand X0.here hx rfl (hb hby d29_3) rfl ?_
    show Steps p.tables e below (s₁.setTop (mkF m 4 #[.val (.int p1), .val (.int p2)] [(.int (p1 &&& (65535 : Int32)))])) _
    refine XS.iloadN X0.here hx rfl (hb hby d29_4) rfl ?_
    show Steps p.tables e below (s₁.setTop (mkF m 5 #[.val (.int p1), .val (.int p2)] [(.int p2), (.int (p1 &&& (65535 : Int32)))])) _
    refine XS.iadd X0.here hx rfl (hb hby d29_5) rfl ?_
    show Steps p.tables e below (s₁.setTop (mkF m 6 #[.val (.int p1), .val (.int p2)] [(.int ((p1 &&& (65535 : Int32)) + p2))])) _
    refine X0.ldcInt hx hown (mvT hZ (hw _ (List.mem_of_getElem? (i := 113) rfl))) (g := (mkF m 6 #[.val (.int p1), .val (.int p2)] [(.int ((p1 &&& (65535 : Int32)) + p2))])) rfl (hb hby d29_6) _ ?_
    show Steps p.tables e below (s₁.setTop (mkF m 8 #[.val (.int p1), .val (.int p2)] [(.int (65536 : Int32)), (.int ((p1 &&& (65535 : Int32)) + p2))])) _
    refine XS.icmpNo X0.here hx rfl (hb hby d29_8) rfl (flt hc8).2.2.1 ?_
    show Steps p.tables e below (s₁.setTop (mkF m 11 #[.val (.int p1), .val (.int p2)] [])) _
    refine XS.iconst X0.here hx rfl (hb hby d29_11) ?_
    show Steps p.tables e below (s₁.setTop (mkF m 12 #[.val (.int p1), .val (.int p2)] [(.int (1 : Int32))])) _
    refine XS.goto X0.here hx rfl (pc0 := 12) (pc' := 16) rfl (hb hby d29_12) (by decide) (by decide) ?_
    show Steps p.tables e below (s₁.setTop (mkF m 16 #[.val (.int p1), .val (.int p2)] [(.int (1 : Int32))])) _
    exact retN X0 hx (t := .boolean) Bd.returns (by simp) (hb hby d29_16) hr
  · show Q29 Z p1 p2 h0 n0 _ s₁.heap _
    rw [e0]
    exact ⟨rfl, N0, rfl⟩
theorem d20_0 : decode jdk_29_method_69_code 0 = .ok (.iload_n 0, 1) := by decide +kernel
theorem d20_1 : decode jdk_29_method_69_code 1 = .ok (.iload_n 1, 1) := by decide +kernel
theorem d20_2 : decode jdk_29_method_69_code 2 = .ok (.if_icmp .gt 7, 3) := by decide +kernel
theorem d20_5 : decode jdk_29_method_69_code 5 = .ok (.iload_n 0, 1) := by decide +kernel
theorem d20_6 : decode jdk_29_method_69_code 6 = .ok (.goto 4, 3) := by decide +kernel
theorem d20_9 : decode jdk_29_method_69_code 9 = .ok (.iload_n 1, 1) := by decide +kernel
theorem d20_10 : decode jdk_29_method_69_code 10 = .ok (.ireturn, 1) := by decide +kernel
theorem ef_20 (m : MethodId) (x0 : Int32) (x1 : Int32) : entryFrame m #[(.int x0), (.int x1)] 2 = mkF m 0 #[.val (.int x0), .val (.int x1)] [] := by first | (simp [entryFrame, mkF, argsToLocals, Value.category]; done) | rfl
def own_v20_9 (p1 p2 : Int32) : Int32 := p2
def own_v20_5 (p1 p2 : Int32) : Int32 := p1
def own_v20_0 (p1 p2 : Int32) : Int32 := if p2 < p1 then own_v20_9 p1 p2 else own_v20_5 p1 p2
def Q20 (Z : State) (p1 : Int32) (p2 : Int32) (h0 : Heap) (n0 : Nat) (v : Option Value) (h : Heap) (L : List Loc) : Prop := v = some (.int (own_v20_0 p1 p2)) ∧ Fr n0 L ∧ h = h0
set_option maxRecDepth 65536 in
set_option maxHeartbeats 40000000 in
theorem rm20 (l : Launch) (Z : State) (a0 : Array Value) (hw : ∀ d ∈ tables_1, d.before a0 Z = true) (ws : List Jvm.Cond) (p1 : Int32) (p2 : Int32) (h0 : Heap) (n0 : Nat) (Z0 : n0 ≤ h0.size) :
    MetFree l (⟨"java/lang/Math", "min", "(II)I"⟩ : MethodName) (head1 (Jvm.Cond.code (⟨"java/lang/Math", "min", "(II)I"⟩ : MethodName) jdk_29_method_69_code 2 (some .int) :: ws) ({ frames := 0, cells := 0, slots := 0, locals := 0 } : Room)) (fun a U => a = #[(.int p1), (.int p2)] ∧ Z.Warmed39 U.vm ∧ U.heap = h0) (fun _ _ _ _ _ => True) (fun _ U o U' => ∃ v L, o = .returned v ∧ Q20 Z p1 p2 h0 n0 v U'.heap L ∧ FrameEnd U o U' L ({ frames := 0, cells := 0, slots := 0, locals := 0 } : Room).cells ({ frames := 0, cells := 0, slots := 0, locals := 0 } : Room).slots) := by
  refine MetFree.of_bodySF (Jvm.Free.JP.mathPlain rfl (by decide +kernel)) hisR ?_
  intro p e s m args below meth c s₁ Bd hml0 hP hK
  obtain ⟨rfl, hZ, hh⟩ := hP
  have hx := Bd.exec
  have hby := Bd.bytes
  have hown : s.vm.findClass "java/lang/Math" = some m.cls := findClass_of_methodNamed Bd.named
  have X0 : Stand p l e ({ frames := 0, cells := 0, slots := 0, locals := 0 } : Room) s m #[(.int p1), (.int p2)] below meth c s₁ [] 0 0 := Stand.of_body Bd
  have e0 : s₁.heap = h0 := by rw [← hh, Bd.state]; rfl
  have N0 := Fr.nil n0
  have pre0 : ∀ t, Steps p.tables e below (s₁.setTop (mkF m 0 #[.val (.int p1), .val (.int p2)] [])) t → Steps p.tables e below (s₁.setTop (entryFrame m #[(.int p1), (.int p2)] 2)) t := fun t k => castTop (ef_20 m p1 p2) k
  obtain ⟨z, hz0⟩ : ∃ z, own_v20_0 p1 p2 = z := ⟨_, rfl⟩
  obtain ⟨fs, hr, hrun, hended, hW, hsame⟩ := X0.leave (v := some (.int z)) (fun h => by rw [Bd.returns] at h; cases h)
  have b9 : own_v20_9 p1 p2 = z → Steps p.tables e below (s₁.setTop (mkF m 9 #[.val (.int p1), .val (.int p2)] [])) (s₁.setFrames fs) := by
    intro hz
    refine XS.iloadN X0.here hx rfl (hb hby d20_9) rfl ?_
    show Steps p.tables e below (s₁.setTop (mkF m 10 #[.val (.int p1), .val (.int p2)] [(.int p2)])) _
    subst hz
    exact retI X0 hx Bd.returns (hb hby d20_10) hr
  have b5 : own_v20_5 p1 p2 = z → Steps p.tables e below (s₁.setTop (mkF m 5 #[.val (.int p1), .val (.int p2)] [])) (s₁.setFrames fs) := by
    intro hz
    refine XS.iloadN X0.here hx rfl (hb hby d20_5) rfl ?_
    show Steps p.tables e below (s₁.setTop (mkF m 6 #[.val (.int p1), .val (.int p2)] [(.int p1)])) _
    refine XS.goto X0.here hx rfl (pc0 := 6) (pc' := 10) rfl (hb hby d20_6) (by decide) (by decide) ?_
    show Steps p.tables e below (s₁.setTop (mkF m 10 #[.val (.int p1), .val (.int p2)] [(.int p1)])) _
    subst hz
    exact retI X0 hx Bd.returns (hb hby d20_10) hr
  have b0 : own_v20_0 p1 p2 = z → Steps p.tables e below (s₁.setTop (mkF m 0 #[.val (.int p1), .val (.int p2)] [])) (s₁.setFrames fs) := by
    intro hz
    refine XS.iloadN X0.here hx rfl (hb hby d20_0) rfl ?_
    show Steps p.tables e below (s₁.setTop (mkF m 1 #[.val (.int p1), .val (.int p2)] [(.int p1)])) _
    refine XS.iloadN X0.here hx rfl (hb hby d20_1) rfl ?_
    show Steps p.tables e below (s₁.setTop (mkF m 2 #[.val (.int p1), .val (.int p2)] [(.int p2), (.int p1)])) _
    unfold own_v20_0 at hz
    by_cases h : p2 < p1
    · rw [if_pos h] at hz
      refine XS.icmpYes X0.here hx rfl (pc0 := 2) (pc' := 9) rfl (hb hby d20_2) rfl (tlt h).2.2.1 (by decide) (by decide) ?_
      exact b9 hz
    · rw [if_neg h] at hz
      refine XS.icmpNo X0.here hx rfl (hb hby d20_2) rfl (flt h).2.2.1 ?_
      exact b5 hz
  refine ⟨_, _, pre0 _ ?_, hrun, hended, _, _, rfl, ?_, ⟨_, rfl⟩, hW, hsame.mono (by decide) (by decide)⟩
  · exact b0 hz0
  · show Q20 Z p1 p2 h0 n0 _ s₁.heap _
    rw [e0, ← hz0]
    exact ⟨rfl, N0, rfl⟩
def own_start (cs : List Int32) (ol : Nat) : Int32 := if Int32.ofNat ol = 0 then 0 else Int32.ofNat cs.length - Int32.ofNat ol
def Q11 (Z : State) (a1 : Addr) (cs : List Int32) (ol : Nat) (h0 : Heap) (n0 : Nat) (v : Option Value) (h : Heap) (L : List Loc) : Prop := v = some (.int (own_start cs ol)) ∧ Fr n0 L ∧ own_K Z n0 h0 h ∧ own_T Z h n0 a1 cs 0
theorem own_Q11 {Z : State} {a0 : Array Value} {h0 h : Heap} {n0 : Nat} {a1 : Addr} {cs : List Int32} {ol : Nat} (hw : ∀ d ∈ tables_1, d.before a0 Z = true) (T : own_T Z h0 n0 a1 cs ol) (W : Wr h0 h a1 (Jvm.RoadKit.slotOf Z "com/example/templum/templum/model/TextStore" "openLength" "I") (.int (Int32.ofNat 0))) : own_K Z n0 h0 h ∧ own_T Z h n0 a1 cs 0 := by
  obtain ⟨q, kq, F⟩ := T.F
  exact ⟨own_K.refl.wr W F.ge F.O, T.opened hw W⟩
set_option maxRecDepth 65536 in
theorem rm11 (l : Launch) (Z : State) (a0 : Array Value) (hw : ∀ d ∈ tables_1, d.before a0 Z = true) (ws : List Jvm.Cond) (a1 : Addr) (cs : List Int32) (ol : Nat) (h0 : Heap) (n0 : Nat) (Z0 : n0 ≤ h0.size) (T : own_T Z h0 n0 a1 cs ol) :
    MetFree l (⟨"com/example/templum/templum/model/TextStore", "close", "()I"⟩ : MethodName) (head1 (Jvm.Cond.code (⟨"com/example/templum/templum/model/TextStore", "close", "()I"⟩ : MethodName) prog_84_method_8_code 2 (some .int) :: ws) ({ frames := 0, cells := 0, slots := 0, locals := 0 } : Room)) (fun a U => a = #[(.ref a1)] ∧ Z.Warmed39 U.vm ∧ U.heap = h0) (fun _ _ _ _ _ => True) (fun _ U o U' => ∃ v L, o = .returned v ∧ Q11 Z a1 cs ol h0 n0 v U'.heap L ∧ FrameEnd U o U' L ({ frames := 0, cells := 0, slots := 0, locals := 0 } : Room).cells ({ frames := 0, cells := 0, slots := 0, locals := 0 } : Room).slots) := by
  obtain ⟨q, kq, F⟩ := T.F
  by_cases h : Int32.ofNat ol = (0 : Int32)
  · refine own_mono (rm11_f l Z a0 hw ws a1 (Int32.ofNat ol) h0 n0 Z0 F.2.2.2.1 F.1 F.2.1 h) fun v hh L ⟨e, N, W⟩ => ⟨by rw [e, own_start, if_pos h], N, own_Q11 hw T W⟩
  · refine own_mono (rm11_t l Z a0 hw ws a1 (Int32.ofNat ol) (Int32.ofNat cs.length) h0 n0 Z0 F.2.2.2.1 F.2.2.1 F.1 F.2.1 h) fun v hh L ⟨e, N, W⟩ => ⟨by rw [e, own_start, if_neg h], N, own_Q11 hw T W⟩
def Q19B (Z : State) (a1 q ch : Addr) (kq kc : ClassId) (cs : List Int32) (ol : Nat) (h0 : Heap) (n0 : Nat) (v : Option Value) (h : Heap) (L : List Loc) : Prop := v = some (.ref ch) ∧ Fr n0 L ∧ h = h0
theorem d19_0 : decode prog_84_method_6_code 0 = .ok (.aload_n 0, 1) := by decide +kernel
theorem d19_1 : decode prog_84_method_6_code 1 = .ok (.getfield 47, 3) := by decide +kernel
theorem d19_4 : decode prog_84_method_6_code 4 = .ok (.bipush 16, 2) := by decide +kernel
theorem d19_6 : decode prog_84_method_6_code 6 = .ok (.iushr, 1) := by decide +kernel
theorem d19_7 : decode prog_84_method_6_code 7 = .ok (.istore_n 1, 1) := by decide +kernel
theorem d19_8 : decode prog_84_method_6_code 8 = .ok (.iload_n 1, 1) := by decide +kernel
theorem d19_9 : decode prog_84_method_6_code 9 = .ok (.aload_n 0, 1) := by decide +kernel
theorem d19_10 : decode prog_84_method_6_code 10 = .ok (.getfield 11, 3) := by decide +kernel
theorem d19_13 : decode prog_84_method_6_code 13 = .ok (.arraylength, 1) := by decide +kernel
theorem d19_14 : decode prog_84_method_6_code 14 = .ok (.if_icmp .ne 20, 3) := by decide +kernel
theorem d19_34 : decode prog_84_method_6_code 34 = .ok (.aload_n 0, 1) := by decide +kernel
theorem d19_35 : decode prog_84_method_6_code 35 = .ok (.getfield 11, 3) := by decide +kernel
theorem d19_38 : decode prog_84_method_6_code 38 = .ok (.iload_n 1, 1) := by decide +kernel
theorem d19_39 : decode prog_84_method_6_code 39 = .ok (.aaload, 1) := by decide +kernel
theorem d19_40 : decode prog_84_method_6_code 40 = .ok (.ifnonnull 13, 3) := by decide +kernel
theorem d19_53 : decode prog_84_method_6_code 53 = .ok (.aload_n 0, 1) := by decide +kernel
theorem d19_54 : decode prog_84_method_6_code 54 = .ok (.getfield 11, 3) := by decide +kernel
theorem d19_57 : decode prog_84_method_6_code 57 = .ok (.iload_n 1, 1) := by decide +kernel
theorem d19_58 : decode prog_84_method_6_code 58 = .ok (.aaload, 1) := by decide +kernel
theorem d19_59 : decode prog_84_method_6_code 59 = .ok (.areturn, 1) := by decide +kernel
theorem pn_19 : plainName "com/example/templum/templum/model/TextStore" = true := by first | (simp [plainName, overriddenIn]; done) | decide +kernel
theorem ef_19 (m : MethodId) (x0 : Addr) : entryFrame m #[(.ref x0)] 2 = mkF m 0 #[.val (.ref x0), .unset] [] := by first | (simp [entryFrame, mkF, argsToLocals, Value.category]; done) | rfl
set_option maxRecDepth 65536 in
set_option maxHeartbeats 40000000 in
theorem rm19B (l : Launch) (Z : State) (a0 : Array Value) (hw : ∀ d ∈ tables_1, d.before a0 Z = true) (ws : List Jvm.Cond) (a1 q ch : Addr) (kq kc : ClassId) (cs : List Int32) (ol : Nat) (h0 : Heap) (n0 : Nat) (Z0 : n0 ≤ h0.size) (U : own_U Z h0 n0 a1 cs ol q kq ch kc) (hl : cs.length ≤ 100) :
    MetFree l (⟨"com/example/templum/templum/model/TextStore", "chunkWithRoom", "()[C"⟩ : MethodName) (head1 (Jvm.Cond.code (⟨"com/example/templum/templum/model/TextStore", "chunkWithRoom", "()[C"⟩ : MethodName) prog_84_method_6_code 2 (some (.array .char)) :: ws) ({ frames := 0, cells := 0, slots := 0, locals := 0 } : Room)) (fun a U => a = #[(.ref a1)] ∧ Z.Warmed39 U.vm ∧ U.heap = h0) (fun _ _ _ _ _ => True) (fun _ U o U' => ∃ v L, o = .returned v ∧ Q19B Z a1 q ch kq kc cs ol h0 n0 v U'.heap L ∧ FrameEnd U o U' L ({ frames := 0, cells := 0, slots := 0, locals := 0 } : Room).cells ({ frames := 0, cells := 0, slots := 0, locals := 0 } : Room).slots) := by
  refine MetFree.of_bodySF (plainFor_of_name pn_19) hisR ?_
  intro p e s m args below meth c s₁ Bd hml0 hP hK
  obtain ⟨rfl, hZ, hh⟩ := hP
  have hx := Bd.exec
  have hby := Bd.bytes
  have hml : c.maxLocals = 2 := hml0
  have hown : s.vm.findClass "com/example/templum/templum/model/TextStore" = some m.cls := findClass_of_methodNamed Bd.named
  have hnm := (name_of_methodNamed Bd.named Bd.method).1
  have X0 : Stand p l e ({ frames := 0, cells := 0, slots := 0, locals := 0 } : Room) s m #[(.ref a1)] below meth c s₁ [] 0 0 := Stand.of_body Bd
  have e0 : s₁.heap = h0 := by rw [← hh, Bd.state]; rfl
  have N0 := Fr.nil n0
  have pre0 : ∀ t, Steps p.tables e below (s₁.setTop (mkF m 0 #[.val (.ref a1), .unset] [])) t → Steps p.tables e below (s₁.setTop (entryFrame m #[(.ref a1)] 2)) t := fun t k => castTop (ef_19 m a1) k
  obtain ⟨F0, Vq, gch, Vch⟩ := id U
  have hsh := own_shr hl
  obtain ⟨clq, Aq, qq, Sq, Nq, Hq, Gq⟩ := id Vq
  have hin : ¬ ((0 : Int32) < 0 ∨ clq.slots.size ≤ ((0 : Int32)).toNatClampNeg) := inb_of Sq ⟨by decide, by decide⟩
  have hat : clq.slots[((0 : Int32)).toNatClampNeg]? = some (.ref ch) := Hq.at hin rfl
  obtain ⟨T1, X1, e1, st1⟩ := getF X0 hx hZ hown (host := "") (Or.inl (hw _ (List.mem_of_getElem? (i := 69) rfl))) Via.refl e0 F0.2.2.1 (g := (mkF m 1 #[.val (.ref a1), .unset] [(.ref a1)])) rfl rfl (hb hby d19_1)
  obtain ⟨T2, X2, e2, st2⟩ := getF X1 hx hZ hown (host := "") (Or.inl (hw _ (List.mem_of_getElem? (i := 35) rfl))) Via.refl e1 F0.2.2.2.2.1 (g := (mkF m 10 #[.val (.ref a1), .val (.int (0 : Int32))] [(.ref a1), (.int (0 : Int32))])) rfl rfl (hb hby d19_10)
  obtain ⟨T3, X3, e3, st3⟩ := getF X2 hx hZ hown (host := "") (Or.inl (hw _ (List.mem_of_getElem? (i := 35) rfl))) Via.refl e2 F0.2.2.2.2.1 (g := (mkF m 35 #[.val (.ref a1), .val (.int (0 : Int32))] [(.ref a1)])) rfl rfl (hb hby d19_35)
  obtain ⟨T4, X4, e4, st4⟩ := getF X3 hx hZ hown (host := "") (Or.inl (hw _ (List.mem_of_getElem? (i := 35) rfl))) Via.refl e3 F0.2.2.2.2.1 (g := (mkF m 54 #[.val (.ref a1), .val (.int (0 : Int32))] [(.ref a1)])) rfl rfl (hb hby d19_54)
  obtain ⟨fs, hr, hrun, hended, hW, hsame⟩ := X4.leave (v := some (.ref ch)) (fun h => by rw [Bd.returns] at h; cases h)
  refine ⟨_, _, pre0 _ ?_, hrun, hended, _, _, rfl, ?_, ⟨_, rfl⟩, hW, hsame.mono (by decide) (by decide)⟩
  · show Steps p.tables e below (s₁.setTop (mkF m 0 #[.val (.ref a1), .unset] [])) _
    refine XS.aloadN X0.here hx rfl (hb hby d19_0) rfl rfl ?_
    show Steps p.tables e below (s₁.setTop (mkF m 1 #[.val (.ref a1), .unset] [(.ref a1)])) _
    refine st1 _ ?_
    show Steps p.tables e below (T1.setTop (mkF m 4 #[.val (.ref a1), .unset] [(.int (Int32.ofNat cs.length))])) _
    refine XS.bipush X1.here hx rfl (hb hby d19_4) ?_
    show Steps p.tables e below (T1.setTop (mkF m 6 #[.val (.ref a1), .unset] [(.int (16 : Int32)), (.int (Int32.ofNat cs.length))])) _
    refine XS.iushr X1.here hx rfl (hb hby d19_6) rfl ?_
    show Steps p.tables e below (T1.setTop (mkF m 7 #[.val (.ref a1), .unset] [(.int (((Int32.ofNat cs.length).toUInt32 >>> ((16 : Int32) &&& 31).toUInt32).toInt32))])) _
    rw [hsh]
    show Steps p.tables e below (T1.setTop (mkF m 7 #[.val (.ref a1), .unset] [(.int (0 : Int32))])) _
    refine XS.istoreN X1.here hx rfl (hb hby d19_7) rfl (l' := #[.val (.ref a1), .val (.int (0 : Int32))]) rfl ?_
    show Steps p.tables e below (T1.setTop (mkF m 8 #[.val (.ref a1), .val (.int (0 : Int32))] [])) _
    refine XS.iloadN X1.here hx rfl (hb hby d19_8) rfl ?_
    show Steps p.tables e below (T1.setTop (mkF m 9 #[.val (.ref a1), .val (.int (0 : Int32))] [(.int (0 : Int32))])) _
    refine XS.aloadN X1.here hx rfl (hb hby d19_9) rfl rfl ?_
    show Steps p.tables e below (T1.setTop (mkF m 10 #[.val (.ref a1), .val (.int (0 : Int32))] [(.ref a1), (.int (0 : Int32))])) _
    refine st2 _ ?_
    show Steps p.tables e below (T2.setTop (mkF m 13 #[.val (.ref a1), .val (.int (0 : Int32))] [(.ref q), (.int (0 : Int32))])) _
    refine X2.arraylength hx (cell := clq) (by rw [e2]; exact Aq.1) (State.isArrayOf_alike hZ.alike Aq.2.1) (g := (mkF m 13 #[.val (.ref a1), .val (.int (0 : Int32))] [(.ref q), (.int (0 : Int32))])) rfl rfl (hb hby d19_13) _ ?_
    rw [len_of Sq Nq]
    show Steps p.tables e below (T2.setTop (mkF m 14 #[.val (.ref a1), .val (.int (0 : Int32))] [(.int (4 : Int32)), (.int (0 : Int32))])) _
    refine XS.icmpYes X2.here hx rfl (pc0 := 14) (pc' := 34) rfl (hb hby d19_14) rfl (feq (by decide : ¬ ((0 : Int32) = (4 : Int32)))).2 (by decide) (by decide) ?_
    show Steps p.tables e below (T2.setTop (mkF m 34 #[.val (.ref a1), .val (.int (0 : Int32))] [])) _
    refine XS.aloadN X2.here hx rfl (hb hby d19_34) rfl rfl ?_
    show Steps p.tables e below (T2.setTop (mkF m 35 #[.val (.ref a1), .val (.int (0 : Int32))] [(.ref a1)])) _
    refine st3 _ ?_
    show Steps p.tables e below (T3.setTop (mkF m 38 #[.val (.ref a1), .val (.int (0 : Int32))] [(.ref q)])) _
    refine XS.iloadN X3.here hx rfl (hb hby d19_38) rfl ?_
    show Steps p.tables e below (T3.setTop (mkF m 39 #[.val (.ref a1), .val (.int (0 : Int32))] [(.int (0 : Int32)), (.ref q)])) _
    refine X3.aaload hx (j := (0 : Int32)) (v := (.ref ch)) (by rw [e3]; exact Aq.1) (State.isArrayOf_alike hZ.alike Aq.2.1) rfl Aq.2.2 hin hat (g := (mkF m 39 #[.val (.ref a1), .val (.int (0 : Int32))] [(.int (0 : Int32)), (.ref q)])) rfl rfl (hb hby d19_39) _ ?_
    show Steps p.tables e below (T3.setTop (mkF m 40 #[.val (.ref a1), .val (.int (0 : Int32))] [(.ref ch)])) _
    refine XS.ifnonnullYes X3.here hx rfl (pc0 := 40) (pc' := 53) rfl (hb hby d19_40) rfl (by decide) (by decide) ?_
    show Steps p.tables e below (T3.setTop (mkF m 53 #[.val (.ref a1), .val (.int (0 : Int32))] [])) _
    refine XS.aloadN X3.here hx rfl (hb hby d19_53) rfl rfl ?_
    show Steps p.tables e below (T3.setTop (mkF m 54 #[.val (.ref a1), .val (.int (0 : Int32))] [(.ref a1)])) _
    refine st4 _ ?_
    show Steps p.tables e below (T4.setTop (mkF m 57 #[.val (.ref a1), .val (.int (0 : Int32))] [(.ref q)])) _
    refine XS.iloadN X4.here hx rfl (hb hby d19_57) rfl ?_
    show Steps p.tables e below (T4.setTop (mkF m 58 #[.val (.ref a1), .val (.int (0 : Int32))] [(.int (0 : Int32)), (.ref q)])) _
    refine X4.aaload hx (j := (0 : Int32)) (v := (.ref ch)) (by rw [e4]; exact Aq.1) (State.isArrayOf_alike hZ.alike Aq.2.1) rfl Aq.2.2 hin hat (g := (mkF m 58 #[.val (.ref a1), .val (.int (0 : Int32))] [(.int (0 : Int32)), (.ref q)])) rfl rfl (hb hby d19_58) _ ?_
    show Steps p.tables e below (T4.setTop (mkF m 59 #[.val (.ref a1), .val (.int (0 : Int32))] [(.ref ch)])) _
    jvm_step X4.here [X4.here.top, hx, (hb hby d19_59), X4.method', Bd.returns, Value.isRef, FieldType.isReference]
    first | (intro acts; rw [hr _ acts rfl rfl rfl]) | rw [hr _ _ rfl rfl rfl]
    exact Steps.refl _
  · show Q19B Z a1 q ch kq kc cs ol h0 n0 _ T4.heap _
    rw [e4]
    exact ⟨rfl, N0, rfl⟩
def Q19A (Z : State) (a1 q : Addr) (kq : ClassId) (ol : Nat) (h0 : Heap) (n0 : Nat) (v : Option Value) (h : Heap) (L : List Loc) : Prop := ∃ (ch : Addr) (kc : ClassId), v = some (.ref ch) ∧ Fr n0 L ∧ own_K Z n0 h0 h ∧ own_U Z h n0 a1 [] ol q kq ch kc
theorem d19_43 : decode prog_84_method_6_code 43 = .ok (.aload_n 0, 1) := by decide +kernel
theorem d19_44 : decode prog_84_method_6_code 44 = .ok (.getfield 11, 3) := by decide +kernel
theorem d19_47 : decode prog_84_method_6_code 47 = .ok (.iload_n 1, 1) := by decide +kernel
theorem d19_48 : decode prog_84_method_6_code 48 = .ok (.ldc 51, 2) := by decide +kernel
theorem d19_50 : decode prog_84_method_6_code 50 = .ok (.newarray .char, 2) := by decide +kernel
theorem d19_52 : decode prog_84_method_6_code 52 = .ok (.aastore, 1) := by decide +kernel
set_option maxRecDepth 65536 in
set_option maxHeartbeats 40000000 in
theorem rm19A (l : Launch) (Z : State) (a0 : Array Value) (hw : ∀ d ∈ tables_1, d.before a0 Z = true) (ws : List Jvm.Cond) (a1 q : Addr) (kq : ClassId) (ol : Nat) (h0 : Heap) (n0 : Nat) (Z0 : n0 ≤ h0.size) (U : own_V Z h0 n0 a1 ol q kq) :
    MetFree l (⟨"com/example/templum/templum/model/TextStore", "chunkWithRoom", "()[C"⟩ : MethodName) (head1 (Jvm.Cond.code (⟨"com/example/templum/templum/model/TextStore", "chunkWithRoom", "()[C"⟩ : MethodName) prog_84_method_6_code 2 (some (.array .char)) :: ws) ({ frames := 0, cells := 1, slots := 65536, locals := 0 } : Room)) (fun a U => a = #[(.ref a1)] ∧ Z.Warmed39 U.vm ∧ U.heap = h0) (fun _ _ _ _ _ => True) (fun _ U o U' => ∃ v L, o = .returned v ∧ Q19A Z a1 q kq ol h0 n0 v U'.heap L ∧ FrameEnd U o U' L ({ frames := 0, cells := 1, slots := 65536, locals := 0 } : Room).cells ({ frames := 0, cells := 1, slots := 65536, locals := 0 } : Room).slots) := by
  refine MetFree.of_bodySF (plainFor_of_name pn_19) hisR ?_
  intro p e s m args below meth c s₁ Bd hml0 hP hK
  obtain ⟨rfl, hZ, hh⟩ := hP
  have hx := Bd.exec
  have hby := Bd.bytes
  have hml : c.maxLocals = 2 := hml0
  have hown : s.vm.findClass "com/example/templum/templum/model/TextStore" = some m.cls := findClass_of_methodNamed Bd.named
  have hnm := (name_of_methodNamed Bd.named Bd.method).1
  have X0 : Stand p l e ({ frames := 0, cells := 1, slots := 65536, locals := 0 } : Room) s m #[(.ref a1)] below meth c s₁ [] 0 0 := Stand.of_body Bd
  have e0 : s₁.heap = h0 := by rw [← hh, Bd.state]; rfl
  have N0 := Fr.nil n0
  have pre0 : ∀ t, Steps p.tables e below (s₁.setTop (mkF m 0 #[.val (.ref a1), .unset] [])) t → Steps p.tables e below (s₁.setTop (entryFrame m #[(.ref a1)] 2)) t := fun t k => castTop (ef_19 m a1) k
  obtain ⟨F0, Vq⟩ := id U
  have hsh := own_shr (n := 0) (by decide)
  obtain ⟨clq, Aq, qq, Sq, Nq, Hq, Gq⟩ := id Vq
  have hin : ¬ ((0 : Int32) < 0 ∨ clq.slots.size ≤ ((0 : Int32)).toNatClampNeg) := inb_of Sq ⟨by decide, by decide⟩
  have hat : clq.slots[((0 : Int32)).toNatClampNeg]? = some .null := Hq.at hin rfl
  obtain ⟨T1, X1, e1, st1⟩ := getF X0 hx hZ hown (host := "") (Or.inl (hw _ (List.mem_of_getElem? (i := 69) rfl))) Via.refl e0 F0.2.2.1 (g := (mkF m 1 #[.val (.ref a1), .unset] [(.ref a1)])) rfl rfl (hb hby d19_1)
  obtain ⟨T2, X2, e2, st2⟩ := getF X1 hx hZ hown (host := "") (Or.inl (hw _ (List.mem_of_getElem? (i := 35) rfl))) Via.refl e1 F0.2.2.2.2.1 (g := (mkF m 10 #[.val (.ref a1), .val (.int (0 : Int32))] [(.ref a1), (.int (0 : Int32))])) rfl rfl (hb hby d19_10)
  obtain ⟨T3, X3, e3, st3⟩ := getF X2 hx hZ hown (host := "") (Or.inl (hw _ (List.mem_of_getElem? (i := 35) rfl))) Via.refl e2 F0.2.2.2.2.1 (g := (mkF m 35 #[.val (.ref a1), .val (.int (0 : Int32))] [(.ref a1)])) rfl rfl (hb hby d19_35)
  obtain ⟨T4, X4, e4, st4⟩ := getF X3 hx hZ hown (host := "") (Or.inl (hw _ (List.mem_of_getElem? (i := 35) rfl))) Via.refl e3 F0.2.2.2.2.1 (g := (mkF m 44 #[.val (.ref a1), .val (.int (0 : Int32))] [(.ref a1)])) rfl rfl (hb hby d19_44)
  obtain ⟨T5, h5, k5, X5, e5, E5, A5, Ec5, st5⟩ := newPE X4 hx hZ (hw _ (List.mem_of_getElem? (i := 7) rfl)) e4 (g := (mkF m 50 #[.val (.ref a1), .val (.int (0 : Int32))] [(.int (65536 : Int32)), (.int (0 : Int32)), (.ref q)])) rfl (hb hby d19_50) rfl (by decide) (cap := 65536) (by decide) (by decide) (by decide) (by decide) (ad := "[C") rfl
  obtain ⟨b5, g5⟩ : ∃ z, z = h0.size := ⟨_, rfl⟩
  rw [← g5] at A5 Ec5 st5
  have V5 : Arv Z h5 b5 k5 .char (65536 : Int32) [] (.int (0 : Int32)) := Arv.new A5 (by decide)
  have gb5 : n0 ≤ b5 := Nat.le_trans Z0 (Nat.le_of_eq g5.symm)
  have U5 : own_V Z h5 n0 a1 ol q kq := U.ext E5
  obtain ⟨F5, Vq5⟩ := id U5
  obtain ⟨clq5, Aq5, qq5, Sq5, Nq5, Hq5, Gq5⟩ := id Vq5
  have hin5 : ¬ ((0 : Int32) < 0 ∨ clq5.slots.size ≤ ((0 : Int32)).toNatClampNeg) := inb_of Sq5 ⟨by decide, by decide⟩
  have Sto5 : Sto Z h5 q (.ref b5) := Sto.ofVA Aq5 qq5 F0.2.2.2.2.2.2 (Ins.self Ec5)
  obtain ⟨T6, h6, X6, e6, W6, st6⟩ := stR X5 hx hZ e5 Aq5 (j := (0 : Int32)) hin5 rfl Sto5 (g := (mkF m 52 #[.val (.ref a1), .val (.int (0 : Int32))] [(.ref b5), (.int (0 : Int32)), (.ref q)])) rfl rfl (hb hby d19_52)
  have Vq6 := Arv.set Aq5 qq5 Sq5 Nq5 Hq5 Gq5 rfl W6 0 rfl (Nat.le_of_ble_eq_true rfl)
  have F6 : own_F Z h6 n0 a1 0 ol q kq := F5.other W6 (F5.neA hw Vq5).symm
  have V6 : Arv Z h6 b5 k5 .char (65536 : Int32) [] (.int (0 : Int32)) := V5.other W6 (own_neAA V5 Vq5 (by decide))
  have K6 : own_K Z n0 h0 h6 := (own_K.ofExt E5).wr W6 F0.2.2.2.2.2.1 (own_arrO Vq5 (by decide))
  have N6 := Fr.snoc X6 N0 F0.2.2.2.2.2.1
  obtain ⟨clq6, Aq6, qq6, Sq6, Nq6, Hq6, Gq6⟩ := id Vq6
  have hin6 : ¬ ((0 : Int32) < 0 ∨ clq6.slots.size ≤ ((0 : Int32)).toNatClampNeg) := inb_of Sq6 ⟨by decide, by decide⟩
  have hat6 : clq6.slots[((0 : Int32)).toNatClampNeg]? = some (.ref b5) := Hq6.at hin6 rfl
  obtain ⟨T7, X7, e7, st7⟩ := getF X6 hx hZ hown (host := "") (Or.inl (hw _ (List.mem_of_getElem? (i := 35) rfl))) Via.refl e6 F6.2.2.2.2.1 (g := (mkF m 54 #[.val (.ref a1), .val (.int (0 : Int32))] [(.ref a1)])) rfl rfl (hb hby d19_54)
  obtain ⟨fs, hr, hrun, hended, hW, hsame⟩ := X7.leave (v := some (.ref b5)) (fun h => by rw [Bd.returns] at h; cases h)
  refine ⟨_, _, pre0 _ ?_, hrun, hended, _, _, rfl, ?_, ⟨_, rfl⟩, hW, hsame.mono (by decide) (by decide)⟩
  · show Steps p.tables e below (s₁.setTop (mkF m 0 #[.val (.ref a1), .unset] [])) _
    refine XS.aloadN X0.here hx rfl (hb hby d19_0) rfl rfl ?_
    show Steps p.tables e below (s₁.setTop (mkF m 1 #[.val (.ref a1), .unset] [(.ref a1)])) _
    refine st1 _ ?_
    show Steps p.tables e below (T1.setTop (mkF m 4 #[.val (.ref a1), .unset] [(.int (Int32.ofNat 0))])) _
    refine XS.bipush X1.here hx rfl (hb hby d19_4) ?_
    show Steps p.tables e below (T1.setTop (mkF m 6 #[.val (.ref a1), .unset] [(.int (16 : Int32)), (.int (Int32.ofNat 0))])) _
    refine XS.iushr X1.here hx rfl (hb hby d19_6) rfl ?_
    show Steps p.tables e below (T1.setTop (mkF m 7 #[.val (.ref a1), .unset] [(.int (((Int32.ofNat 0).toUInt32 >>> ((16 : Int32) &&& 31).toUInt32).toInt32))])) _
    rw [hsh]
    show Steps p.tables e below (T1.setTop (mkF m 7 #[.val (.ref a1), .unset] [(.int (0 : Int32))])) _
    refine XS.istoreN X1.here hx rfl (hb hby d19_7) rfl (l' := #[.val (.ref a1), .val (.int (0 : Int32))]) rfl ?_
    show Steps p.tables e below (T1.setTop (mkF m 8 #[.val (.ref a1), .val (.int (0 : Int32))] [])) _
    refine XS.iloadN X1.here hx rfl (hb hby d19_8) rfl ?_
    show Steps p.tables e below (T1.setTop (mkF m 9 #[.val (.ref a1), .val (.int (0 : Int32))] [(.int (0 : Int32))])) _
    refine XS.aloadN X1.here hx rfl (hb hby d19_9) rfl rfl ?_
    show Steps p.tables e below (T1.setTop (mkF m 10 #[.val (.ref a1), .val (.int (0 : Int32))] [(.ref a1), (.int (0 : Int32))])) _
    refine st2 _ ?_
    show Steps p.tables e below (T2.setTop (mkF m 13 #[.val (.ref a1), .val (.int (0 : Int32))] [(.ref q), (.int (0 : Int32))])) _
    refine X2.arraylength hx (cell := clq) (by rw [e2]; exact Aq.1) (State.isArrayOf_alike hZ.alike Aq.2.1) (g := (mkF m 13 #[.val (.ref a1), .val (.int (0 : Int32))] [(.ref q), (.int (0 : Int32))])) rfl rfl (hb hby d19_13) _ ?_
    rw [len_of Sq Nq]
    show Steps p.tables e below (T2.setTop (mkF m 14 #[.val (.ref a1), .val (.int (0 : Int32))] [(.int (4 : Int32)), (.int (0 : Int32))])) _
    refine XS.icmpYes X2.here hx rfl (pc0 := 14) (pc' := 34) rfl (hb hby d19_14) rfl (feq (by decide : ¬ ((0 : Int32) = (4 : Int32)))).2 (by decide) (by decide) ?_
    show Steps p.tables e below (T2.setTop (mkF m 34 #[.val (.ref a1), .val (.int (0 : Int32))] [])) _
    refine XS.aloadN X2.here hx rfl (hb hby d19_34) rfl rfl ?_
    show Steps p.tables e below (T2.setTop (mkF m 35 #[.val (.ref a1), .val (.int (0 : Int32))] [(.ref a1)])) _
    refine st3 _ ?_
    show Steps p.tables e below (T3.setTop (mkF m 38 #[.val (.ref a1), .val (.int (0 : Int32))] [(.ref q)])) _
    refine XS.iloadN X3.here hx rfl (hb hby d19_38) rfl ?_
    show Steps p.tables e below (T3.setTop (mkF m 39 #[.val (.ref a1), .val (.int (0 : Int32))] [(.int (0 : Int32)), (.ref q)])) _
    refine X3.aaload hx (j := (0 : Int32)) (v := .null) (by rw [e3]; exact Aq.1) (State.isArrayOf_alike hZ.alike Aq.2.1) rfl Aq.2.2 hin hat (g := (mkF m 39 #[.val (.ref a1), .val (.int (0 : Int32))] [(.int (0 : Int32)), (.ref q)])) rfl rfl (hb hby d19_39) _ ?_
    show Steps p.tables e below (T3.setTop (mkF m 40 #[.val (.ref a1), .val (.int (0 : Int32))] [.null])) _
    refine XS.ifnonnullNo X3.here hx rfl (hb hby d19_40) rfl ?_
    show Steps p.tables e below (T3.setTop (mkF m 43 #[.val (.ref a1), .val (.int (0 : Int32))] [])) _
    refine XS.aloadN X3.here hx rfl (hb hby d19_43) rfl rfl ?_
    show Steps p.tables e below (T3.setTop (mkF m 44 #[.val (.ref a1), .val (.int (0 : Int32))] [(.ref a1)])) _
    refine st4 _ ?_
    show Steps p.tables e below (T4.setTop (mkF m 47 #[.val (.ref a1), .val (.int (0 : Int32))] [(.ref q)])) _
    refine XS.iloadN X4.here hx rfl (hb hby d19_47) rfl ?_
    show Steps p.tables e below (T4.setTop (mkF m 48 #[.val (.ref a1), .val (.int (0 : Int32))] [(.int (0 : Int32)), (.ref q)])) _
    refine X4.ldcInt hx hown (mvT hZ (hw _ (List.mem_of_getElem? (i := 113) rfl))) (g := (mkF m 48 #[.val (.ref a1), .val (.int (0 : Int32))] [(.int (0 : Int32)), (.ref q)])) rfl (hb hby d19_48) _ ?_
    show Steps p.tables e below (T4.setTop (mkF m 50 #[.val (.ref a1), .val (.int (0 : Int32))] [(.int (65536 : Int32)), (.int (0 : Int32)), (.ref q)])) _
    refine st5 _ ?_
    show Steps p.tables e below (T5.setTop (mkF m 52 #[.val (.ref a1), .val (.int (0 : Int32))] [(.ref b5), (.int (0 : Int32)), (.ref q)])) _
    refine st6 _ ?_
    show Steps p.tables e below (T6.setTop (mkF m 53 #[.val (.ref a1), .val (.int (0 : Int32))] [])) _
    refine XS.aloadN X6.here hx rfl (hb hby d19_53) rfl rfl ?_
    show Steps p.tables e below (T6.setTop (mkF m 54 #[.val (.ref a1), .val (.int (0 : Int32))] [(.ref a1)])) _
    refine st7 _ ?_
    show Steps p.tables e below (T7.setTop (mkF m 57 #[.val (.ref a1), .val (.int (0 : Int32))] [(.ref q)])) _
    refine XS.iloadN X7.here hx rfl (hb hby d19_57) rfl ?_
    show Steps p.tables e below (T7.setTop (mkF m 58 #[.val (.ref a1), .val (.int (0 : Int32))] [(.int (0 : Int32)), (.ref q)])) _
    refine X7.aaload hx (j := (0 : Int32)) (v := (.ref b5)) (by rw [e7]; exact Aq6.1) (State.isArrayOf_alike hZ.alike Aq6.2.1) rfl Aq6.2.2 hin6 hat6 (g := (mkF m 58 #[.val (.ref a1), .val (.int (0 : Int32))] [(.int (0 : Int32)), (.ref q)])) rfl rfl (hb hby d19_58) _ ?_
    show Steps p.tables e below (T7.setTop (mkF m 59 #[.val (.ref a1), .val (.int (0 : Int32))] [(.ref b5)])) _
    jvm_step X7.here [X7.here.top, hx, (hb hby d19_59), X7.method', Bd.returns, Value.isRef, FieldType.isReference]
    first | (intro acts; rw [hr _ acts rfl rfl rfl]) | rw [hr _ _ rfl rfl rfl]
    exact Steps.refl _
  · show Q19A Z a1 q kq ol h0 n0 _ T7.heap _
    rw [e7]
    exact ⟨b5, k5, rfl, N6, K6, F6, Vq6, gb5, V6⟩
def Q5 (Z : State) (a1 : Addr) (h0 : Heap) (n0 : Nat) (v : Option Value) (h : Heap) (L : List Loc) : Prop := v = none ∧ Fr n0 L ∧ Keep h0 h [a1] ∧ own_T Z h n0 a1 [] 0
theorem d5_0 : decode prog_84_method_1_code 0 = .ok (.aload_n 0, 1) := by decide +kernel
theorem d5_1 : decode prog_84_method_1_code 1 = .ok (.invokespecial 3, 3) := by decide +kernel
theorem d5_4 : decode prog_84_method_1_code 4 = .ok (.aload_n 0, 1) := by decide +kernel
theorem d5_5 : decode prog_84_method_1_code 5 = .ok (.iconst 4, 1) := by decide +kernel
theorem d5_6 : decode prog_84_method_1_code 6 = .ok (.anewarray 9, 3) := by decide +kernel
theorem d5_9 : decode prog_84_method_1_code 9 = .ok (.putfield 11, 3) := by decide +kernel
theorem d5_12 : decode prog_84_method_1_code 12 = .ok (.return_, 1) := by decide +kernel
theorem pn_5 : plainName "com/example/templum/templum/model/TextStore" = true := by first | (simp [plainName, overriddenIn]; done) | decide +kernel
theorem ef_5 (m : MethodId) (x0 : Addr) : entryFrame m #[(.ref x0)] 1 = mkF m 0 #[.val (.ref x0)] [] := by first | (simp [entryFrame, mkF, argsToLocals, Value.category]; done) | rfl
set_option maxRecDepth 65536 in
set_option maxHeartbeats 40000000 in
theorem rm5 (l : Launch) (Z : State) (a0 : Array Value) (hw : ∀ d ∈ tables_1, d.before a0 Z = true) (ws : List Jvm.Cond) (a1 : Addr) (h0 : Heap) (n0 : Nat) (Z0 : n0 ≤ h0.size) (EA : Exa Z h0 a1 "com/example/templum/templum/model/TextStore") (g1 : n0 ≤ a1) (FS : Fld Z h0 a1 "com/example/templum/templum/model/TextStore" "size" "I" (.int (0 : Int32))) (FO : Fld Z h0 a1 "com/example/templum/templum/model/TextStore" "openLength" "I" (.int (0 : Int32))) (FC : Fld Z h0 a1 "com/example/templum/templum/model/TextStore" "chunks" "[[C" .null) :
    MetFree l (⟨"com/example/templum/templum/model/TextStore", "<init>", "()V"⟩ : MethodName) (head1 (Jvm.Cond.code (⟨"com/example/templum/templum/model/TextStore", "<init>", "()V"⟩ : MethodName) prog_84_method_1_code 1 none :: ws) ({ frames := 1, cells := 1, slots := 4, locals := 12 } : Room)) (fun a U => a = #[(.ref a1)] ∧ Z.Warmed39 U.vm ∧ U.heap = h0) (fun _ _ _ _ _ => True) (fun _ U o U' => ∃ v L, o = .returned v ∧ Q5 Z a1 h0 n0 v U'.heap L ∧ FrameEnd U o U' L ({ frames := 1, cells := 1, slots := 4, locals := 12 } : Room).cells ({ frames := 1, cells := 1, slots := 4, locals := 12 } : Room).slots) := by
  refine MetFree.of_bodySF (plainFor_of_name pn_5) hisR ?_
  intro p e s m args below meth c s₁ Bd hml0 hP hK
  obtain ⟨rfl, hZ, hh⟩ := hP
  have hx := Bd.exec
  have hby := Bd.bytes
  have hml : c.maxLocals = 1 := hml0
  have hown : s.vm.findClass "com/example/templum/templum/model/TextStore" = some m.cls := findClass_of_methodNamed Bd.named
  have hnm := (name_of_methodNamed Bd.named Bd.method).1
  have X0 : Stand p l e ({ frames := 1, cells := 1, slots := 4, locals := 12 } : Room) s m #[(.ref a1)] below meth c s₁ [] 0 0 := Stand.of_body Bd
  have e0 : s₁.heap = h0 := by rw [← hh, Bd.state]; rfl
  have N0 := Fr.nil n0
  have pre0 : ∀ t, Steps p.tables e below (s₁.setTop (mkF m 0 #[.val (.ref a1)] [])) t → Steps p.tables e below (s₁.setTop (entryFrame m #[(.ref a1)] 1)) t := fun t k => castTop (ef_5 m a1) k
  obtain ⟨T1, X1, e1, st1⟩ := initO X0 hx hZ hown (hw _ (List.mem_of_getElem? (i := 32) rfl)) (hw _ (List.mem_of_getElem? (i := 16) rfl)) (hw _ (List.mem_of_getElem? (i := 17) rfl)) e0 (g := (mkF m 1 #[.val (.ref a1)] [(.ref a1)])) rfl (by rw [hml]; rfl) rfl (hb hby d5_1) (by decide) (W := 0) (by show 2 * 0 + _ ≤ _; exact Nat.le_of_eq rfl) (by decide)
  obtain ⟨T2, h2, k2, X2, e2, E2, A2, Ea2, O2, st2⟩ := newRA X1 hx hZ hown (ty := .char) (C := "[C") rfl (hw _ (List.mem_of_getElem? (i := 33) rfl)) (hw _ (List.mem_of_getElem? (i := 34) rfl)) e1 (g := (mkF m 6 #[.val (.ref a1)] [(.int (4 : Int32)), (.ref a1)])) rfl (hb hby d5_6) rfl (by decide) (cap := 4) (by decide) (by decide) (by decide) (by decide) (ad := "[[C") rfl
  obtain ⟨b2, g2⟩ : ∃ z, z = h0.size := ⟨_, rfl⟩
  rw [← g2] at A2 Ea2 st2
  have V2 : Arv Z h2 b2 k2 (.array .char) (4 : Int32) [.null, .null, .null, .null] .null := (Arv.new A2 (by decide)).pad (pad_rep [] .null 4)
  have gb2 : n0 ≤ b2 := Nat.le_trans Z0 (Nat.le_of_eq g2.symm)
  obtain ⟨T3, h3, X3, e3, W3, st3⟩ := putF X2 hx hZ hown (host := "") (Or.inl (hw _ (List.mem_of_getElem? (i := 35) rfl))) Via.refl e2 (FC.ext E2) (EA.ext E2) (Or.inl (hw _ (List.mem_of_getElem? (i := 36) rfl))) (hw _ (List.mem_of_getElem? (i := 27) rfl)) (ty := (.array (.array .char))) (by decide) rfl rfl (g := (mkF m 9 #[.val (.ref a1)] [(.ref b2), (.ref a1)])) rfl rfl (hb hby d5_9)
  have N3 := Fr.snoc X3 N0 g1
  have K3 : Keep h0 h3 [a1] := ((Keep.refl h0 [a1]).ext E2).wr W3 (Or.inl (List.mem_of_getElem? (i := 0) rfl))
  have neA : b2 ≠ a1 := (Exa.neArv (EA.ext E2) V2 (hw _ (List.mem_of_getElem? (i := 27) rfl))).symm
  have s1 := slot_ne (Or.inl (hw _ (List.mem_of_getElem? (i := 70) rfl))) (Or.inl (hw _ (List.mem_of_getElem? (i := 36) rfl))) (by decide) (t := .int) (t' := .array (.array .char)) (by decide) (by decide)
  have s2 := slot_ne (Or.inl (hw _ (List.mem_of_getElem? (i := 43) rfl))) (Or.inl (hw _ (List.mem_of_getElem? (i := 36) rfl))) (by decide) (t := .int) (t' := .array (.array .char)) (by decide) (by decide)
  obtain ⟨fs, hr, hrun, hended, hW, hsame⟩ := X3.leave (v := none) (fun _ => rfl)
  refine ⟨_, _, pre0 _ ?_, hrun, hended, _, _, rfl, ?_, ⟨_, rfl⟩, hW, hsame.mono (by decide) (by decide)⟩
  · show Steps p.tables e below (s₁.setTop (mkF m 0 #[.val (.ref a1)] [])) _
    refine XS.aloadN X0.here hx rfl (hb hby d5_0) rfl rfl ?_
    show Steps p.tables e below (s₁.setTop (mkF m 1 #[.val (.ref a1)] [(.ref a1)])) _
    refine st1 _ ?_
    show Steps p.tables e below (T1.setTop (mkF m 4 #[.val (.ref a1)] [])) _
    refine XS.aloadN X1.here hx rfl (hb hby d5_4) rfl rfl ?_
    show Steps p.tables e below (T1.setTop (mkF m 5 #[.val (.ref a1)] [(.ref a1)])) _
    refine XS.iconst X1.here hx rfl (hb hby d5_5) ?_
    show Steps p.tables e below (T1.setTop (mkF m 6 #[.val (.ref a1)] [(.int (4 : Int32)), (.ref a1)])) _
    refine st2 _ ?_
    show Steps p.tables e below (T2.setTop (mkF m 9 #[.val (.ref a1)] [(.ref b2), (.ref a1)])) _
    refine st3 _ ?_
    show Steps p.tables e below (T3.setTop (mkF m 12 #[.val (.ref a1)] [])) _
    exact X3.returnOut hx Bd.returns (hb hby d5_12) hr
  · show Q5 Z a1 h0 n0 _ T3.heap _
    rw [e3]
    exact ⟨rfl, N3, K3, Or.inl ⟨rfl, b2, k2, ⟨(EA.ext E2).wr W3, g1, (FS.ext E2).other W3 (Or.inr s1), (FO.ext E2).other W3 (Or.inr s2), (FC.ext E2).same W3, gb2, O2⟩, V2.other W3 neA⟩⟩
theorem own_nat {n : Nat} (h : n ≤ 100) : (Int32.ofNat n).toNatClampNeg = n := by
  rw [Int32.toNatClampNeg, Int32.toInt_ofNat_of_lt (by omega)]; rfl
theorem own_ltN {i n : Nat} (h : i < n) (hn : n ≤ 100) : Int32.ofNat i < Int32.ofNat n := by
  rw [Int32.lt_iff_toInt_lt, Int32.toInt_ofNat_of_lt (by omega), Int32.toInt_ofNat_of_lt (by omega)]; omega
theorem own_nneg {n : Nat} (hn : n ≤ 100) : ¬ Int32.ofNat n < 0 := by
  rw [Int32.lt_iff_toInt_lt, Int32.toInt_ofNat_of_lt (by omega), show (0 : Int32).toInt = 0 from rfl]; omega
theorem own_big {n : Nat} (hn : n ≤ 100) : Int32.ofNat n < (65536 : Int32) := by
  rw [Int32.lt_iff_toInt_lt, Int32.toInt_ofNat_of_lt (by omega), show (65536 : Int32).toInt = 65536 from rfl]; omega
theorem own_one (i : Nat) : Int32.ofNat i + (1 : Int32) = Int32.ofNat (i + 1) := (Int32.ofNat_add i 1).symm
/-- a byte read back and stored as a char -/
theorem own_back {c : Int32} (h0 : ¬ c < 0) (h1 : ¬ 255 < c) : nar .char ((StrChars.lo8 c &&& (255 : Int32)).toUInt32.toUInt16.toUInt32.toInt32) = c := by
  have H : ∀ k : Fin 256, nar .char ((StrChars.lo8 (Int32.ofInt (k.val : Int)) &&& (255 : Int32)).toUInt32.toUInt16.toUInt32.toInt32) = Int32.ofInt (k.val : Int) := by decide +kernel
  rw [Int32.lt_iff_toInt_lt, show (0 : Int32).toInt = 0 from rfl] at h0
  rw [Int32.lt_iff_toInt_lt, show (255 : Int32).toInt = 255 from rfl] at h1
  obtain ⟨n, hn⟩ := Int.eq_ofNat_of_zero_le (Int.not_lt.mp h0)
  have e : c = Int32.ofInt (n : Int) := by rw [← hn, Int32.ofInt_toInt]
  rw [e]; exact H ⟨n, by omega⟩
theorem d28_3 : decode jdk_43_method_49_code 3 = .ok (.iload 5, 2) := by decide +kernel
theorem d28_5 : decode jdk_43_method_49_code 5 = .ok (.iload 4, 2) := by decide +kernel
theorem d28_7 : decode jdk_43_method_49_code 7 = .ok (.if_icmp .ge 26, 3) := by decide +kernel
theorem d28_10 : decode jdk_43_method_49_code 10 = .ok (.aload_n 2, 1) := by decide +kernel
theorem d28_11 : decode jdk_43_method_49_code 11 = .ok (.iload_n 3, 1) := by decide +kernel
theorem d28_12 : decode jdk_43_method_49_code 12 = .ok (.iinc 3 1, 3) := by decide +kernel
theorem d28_15 : decode jdk_43_method_49_code 15 = .ok (.aload_n 0, 1) := by decide +kernel
theorem d28_16 : decode jdk_43_method_49_code 16 = .ok (.iload_n 1, 1) := by decide +kernel
theorem d28_17 : decode jdk_43_method_49_code 17 = .ok (.iinc 1 1, 3) := by decide +kernel
theorem d28_20 : decode jdk_43_method_49_code 20 = .ok (.baload, 1) := by decide +kernel
theorem d28_21 : decode jdk_43_method_49_code 21 = .ok (.sipush 255, 3) := by decide +kernel
theorem d28_24 : decode jdk_43_method_49_code 24 = .ok (.iand, 1) := by decide +kernel
theorem d28_25 : decode jdk_43_method_49_code 25 = .ok (.i2c, 1) := by decide +kernel
theorem d28_26 : decode jdk_43_method_49_code 26 = .ok (.castore, 1) := by decide +kernel
theorem d28_27 : decode jdk_43_method_49_code 27 = .ok (.iinc 5 1, 3) := by decide +kernel
theorem d28_30 : decode jdk_43_method_49_code 30 = .ok (.goto (-27), 3) := by decide +kernel
theorem own_setlast (vs : List Value) (x v : Value) : (vs ++ List.replicate 1 x).set vs.length v = vs ++ [v] := by simp
theorem own_el (cs ds : List Int32) (i : Nat) (hi : i < ds.length) (d : Value) : (((cs ++ ds.take i).map Value.int) ++ List.replicate 1 d).set (cs.length + i) (Value.int ds[i]) = (cs ++ ds.take (i + 1)).map Value.int := by
  have hl : ((cs ++ ds.take i).map Value.int).length = cs.length + i := by simp; omega
  have e : ds.take (i + 1) = ds.take i ++ [ds[i]] := (List.take_append_getElem hi).symm
  rw [← hl, own_setlast, e, ← List.append_assoc, List.map_append (l₁ := cs ++ ds.take i)]
  rfl
theorem own_fitc {c : Int32} (h : ¬ c < 0 ∧ ¬ (255 : Int32) < c) : fits .char (.int c) = true := by
  have H : ∀ k : Fin 256, fits .char (.int (Int32.ofInt (k.val : Int))) = true := by decide +kernel
  obtain ⟨h0, h1⟩ := h
  rw [Int32.lt_iff_toInt_lt, show (0 : Int32).toInt = 0 from rfl] at h0
  rw [Int32.lt_iff_toInt_lt, show (255 : Int32).toInt = 255 from rfl] at h1
  obtain ⟨n, hn⟩ := Int.eq_ofNat_of_zero_le (Int.not_lt.mp h0)
  have e : c = Int32.ofInt (n : Int) := by rw [← hn, Int32.ofInt_toInt]
  rw [e]; exact H ⟨n, by omega⟩
set_option maxRecDepth 65536 in
set_option maxHeartbeats 40000000 in
theorem tn28_3_33 {p : Program} {l : Launch} {e : Env} {R : Room} {s : State} {m : MethodId} {args : Array Value} {below : List Frame} {meth : Method} {c : Code} {T0 : State} {locs : List Loc} {cells slots : Nat} {Z : State} {a0 : Array Value} {h0 : Heap} (s0 : Slot) (s1 : Slot) (s2 : Slot) (s3 : Slot) (i4 : Int32) (i5 : Int32)
    (X0 : Stand p l e R s m args below meth c T0 locs cells slots) (hx : p.tables.exec = Jvm.exec) (hZ : Z.Warmed39 s.vm) (hw : ∀ d ∈ tables_1, d.before a0 Z = true) (hby : c.code = jdk_43_method_49_code) (hml : c.maxLocals = 6) (hown : s.vm.findClass "java/lang/StringLatin1" = some m.cls) (e0 : T0.heap = h0) (hc7 : ¬ (i5 < i4)) :
    ∃ (T' : State), Stand p l e R s m args below meth c T' locs cells slots ∧ T'.heap = h0 ∧
      ∀ target, Steps p.tables e below (T'.setTop (mkF m 33 #[s0, s1, s2, s3, .val (.int i4), .val (.int i5)] [])) target → Steps p.tables e below (T0.setTop (mkF m 3 #[s0, s1, s2, s3, .val (.int i4), .val (.int i5)] [])) target := by

  refine ⟨T0, X0, e0, fun target kt => ?_⟩
  show Steps p.tables e below (T0.setTop (mkF m 3 #[s0, s1, s2, s3, .val (.int i4), .val (.int i5)] [])) _
  refine XS.iload X0.here hx rfl (hb hby d28_3) rfl ?_
  show Steps p.tables e below (T0.setTop (mkF m 5 #[s0, s1, s2, s3, .val (.int i4), .val (.int i5)] [(.int i5)])) _
  refine XS.iload X0.here hx rfl (hb hby d28_5) rfl ?_
  show Steps p.tables e below (T0.setTop (mkF m 7 #[s0, s1, s2, s3, .val (.int i4), .val (.int i5)] [(.int i4), (.int i5)])) _
  refine XS.icmpYes X0.here hx rfl (pc0 := 7) (pc' := 33) rfl (hb hby d28_7) rfl (flt hc7).2.1 (by decide) (by decide) ?_
  exact kt
set_option maxRecDepth 65536 in
set_option maxHeartbeats 40000000 in
theorem own_inf1 {p : Program} {l : Launch} {e : Env} {R : Room} {s : State} {m : MethodId} {args : Array Value} {below : List Frame} {meth : Method} {c : Code} {T0 : State} {locs : List Loc} {cells slots : Nat} {Z : State} {a0 : Array Value} {h0 : Heap} {n0 : Nat} (o0 o2 : Addr) (kb kc : ClassId) (cs ds : List Int32) (i : Nat) (hi : i < ds.length) (hn : ds.length ≤ 15) (hS : cs.length ≤ 15) (hp : ∀ c ∈ ds, ¬ c < 0 ∧ ¬ (255 : Int32) < c)
    (X0 : Stand p l e R s m args below meth c T0 locs cells slots) (hx : p.tables.exec = Jvm.exec) (hZ : Z.Warmed39 s.vm) (hw : ∀ d ∈ tables_1, d.before a0 Z = true) (hby : c.code = jdk_43_method_49_code) (hml : c.maxLocals = 6) (hown : s.vm.findClass "java/lang/StringLatin1" = some m.cls) (e0 : T0.heap = h0) (g_o2 : n0 ≤ o2) (N0 : Fr n0 locs) (VS : Arv Z h0 o0 kb .byte (Int32.ofNat ds.length) (ds.map fun c => Value.int (StrChars.lo8 c)) (.int 0)) (VD : Arv Z h0 o2 kc .char (65536 : Int32) ((cs ++ ds.take i).map Value.int) (.int (0 : Int32))) (ne : o0 ≠ o2) :
    ∃ (T' : State) (h' : Heap) (locs' : List Loc), Stand p l e R s m args below meth c T' locs' cells slots ∧ T'.heap = h' ∧ Fr n0 locs' ∧ Keep h0 h' [o2] ∧ Arv Z h' o0 kb .byte (Int32.ofNat ds.length) (ds.map fun c => Value.int (StrChars.lo8 c)) (.int 0) ∧ Arv Z h' o2 kc .char (65536 : Int32) ((cs ++ ds.take (i + 1)).map Value.int) (.int (0 : Int32)) ∧
      ∀ target, Steps p.tables e below (T'.setTop (mkF m 3 #[.val (.ref o0), .val (.int (Int32.ofNat (i + 1))), .val (.ref o2), .val (.int (Int32.ofNat (cs.length + (i + 1)))), .val (.int (Int32.ofNat ds.length)), .val (.int (Int32.ofNat (i + 1)))] [])) target → Steps p.tables e below (T0.setTop (mkF m 3 #[.val (.ref o0), .val (.int (Int32.ofNat i)), .val (.ref o2), .val (.int (Int32.ofNat (cs.length + i))), .val (.int (Int32.ofNat ds.length)), .val (.int (Int32.ofNat i))] [])) target := by
  obtain ⟨cl_o0, Ar_o0, qs, Ss, Ns, Hs, Gs⟩ := id VS
  have hl : ((cs ++ ds.take i).map Value.int).length = cs.length + i := by simp; omega
  have VD1 := VD.pad (pad_rep ((cs ++ ds.take i).map Value.int) (.int (0 : Int32)) 1)
  obtain ⟨cl_o2, Ar_o2, qd, Sd, Nd, Hd, Gd⟩ := id VD1
  obtain ⟨i1, hi1⟩ : ∃ z, z = Int32.ofNat i := ⟨_, rfl⟩
  obtain ⟨i3, hi3⟩ : ∃ z, z = Int32.ofNat (cs.length + i) := ⟨_, rfl⟩
  obtain ⟨i4, hi4⟩ : ∃ z, z = Int32.ofNat ds.length := ⟨_, rfl⟩
  rw [← own_one, show cs.length + (i + 1) = (cs.length + i) + 1 from rfl, ← own_one, ← hi1, ← hi3]
  rw [← hi4] at Ss Ns ⊢
  have n1 : i1.toNatClampNeg = i := by rw [hi1]; exact own_nat (by omega)
  have n3 : i3.toNatClampNeg = cs.length + i := by rw [hi3]; exact own_nat (by omega)
  have hc7 : i1 < i4 := by rw [hi1, hi4]; exact own_ltN hi (by omega)
  have hin20 : ¬ (i1 < 0 ∨ cl_o0.slots.size ≤ (i1).toNatClampNeg) := inb_of Ss ⟨by rw [hi1]; exact own_nneg (by omega), hc7⟩
  have hat20 : cl_o0.slots[(i1).toNatClampNeg]? = some (.int (StrChars.lo8 ds[i])) := Hs.at hin20 (by rw [n1]; simp [List.getD_eq_getElem?_getD, hi])
  have hin26 : ¬ (i3 < 0 ∨ cl_o2.slots.size ≤ (i3).toNatClampNeg) := inb_of Sd ⟨by rw [hi3]; exact own_nneg (by omega), by rw [hi3]; exact own_big (by omega)⟩
  obtain ⟨w6, hw6⟩ : ∃ z, z = StrChars.lo8 ds[i] := ⟨_, rfl⟩
  rw [← hw6] at hat20
  obtain ⟨T7, h7, X7, e7, W7, st7⟩ := stC X0 hx hZ e0 Ar_o2 (j := i3) hin26 (g := (mkF m 26 #[.val (.ref o0), .val (.int (i1 + (1 : Int32))), .val (.ref o2), .val (.int (i3 + (1 : Int32))), .val (.int i4), .val (.int i1)] [(.int ((w6 &&& (255 : Int32)).toUInt32.toUInt16.toUInt32.toInt32)), (.int i3), (.ref o2)])) rfl rfl (hb hby d28_26)
  have hst : nar .char ((w6 &&& (255 : Int32)).toUInt32.toUInt16.toUInt32.toInt32) = ds[i] := by rw [hw6]; exact own_back (hp _ (List.getElem_mem _)).1 (hp _ (List.getElem_mem _)).2
  rw [hst] at W7
  have VD7 := Arv.set Ar_o2 qd Sd Nd Hd Gd (own_fitc (hp _ (List.getElem_mem hi))) W7 (cs.length + i) n3 (by rw [List.length_append, hl]; simp)
  have el := own_el cs ds i hi (Value.int (0 : Int32))
  rw [el] at VD7
  refine ⟨T7, h7, _, X7, e7, Fr.snoc X7 N0 g_o2, (Keep.refl h0 [o2]).wr W7 (Or.inl (List.mem_of_getElem? (i := 0) rfl)), by rw [hi4]; exact VS.other W7 ne, VD7, fun target kt => ?_⟩
  show Steps p.tables e below (T0.setTop (mkF m 3 #[.val (.ref o0), .val (.int i1), .val (.ref o2), .val (.int i3), .val (.int i4), .val (.int i1)] [])) _
  refine XS.iload X0.here hx rfl (hb hby d28_3) rfl ?_
  show Steps p.tables e below (T0.setTop (mkF m 5 #[.val (.ref o0), .val (.int i1), .val (.ref o2), .val (.int i3), .val (.int i4), .val (.int i1)] [(.int i1)])) _
  refine XS.iload X0.here hx rfl (hb hby d28_5) rfl ?_
  show Steps p.tables e below (T0.setTop (mkF m 7 #[.val (.ref o0), .val (.int i1), .val (.ref o2), .val (.int i3), .val (.int i4), .val (.int i1)] [(.int i4), (.int i1)])) _
  refine XS.icmpNo X0.here hx rfl (hb hby d28_7) rfl (tlt hc7).2.1 ?_
  show Steps p.tables e below (T0.setTop (mkF m 10 #[.val (.ref o0), .val (.int i1), .val (.ref o2), .val (.int i3), .val (.int i4), .val (.int i1)] [])) _
  refine XS.aloadN X0.here hx rfl (hb hby d28_10) rfl rfl ?_
  show Steps p.tables e below (T0.setTop (mkF m 11 #[.val (.ref o0), .val (.int i1), .val (.ref o2), .val (.int i3), .val (.int i4), .val (.int i1)] [(.ref o2)])) _
  refine XS.iloadN X0.here hx rfl (hb hby d28_11) rfl ?_
  show Steps p.tables e below (T0.setTop (mkF m 12 #[.val (.ref o0), .val (.int i1), .val (.ref o2), .val (.int i3), .val (.int i4), .val (.int i1)] [(.int i3), (.ref o2)])) _
  refine XS.iinc X0.here hx rfl (hb hby d28_12) rfl (l' := #[.val (.ref o0), .val (.int i1), .val (.ref o2), .val (.int (i3 + (1 : Int32))), .val (.int i4), .val (.int i1)]) rfl ?_
  show Steps p.tables e below (T0.setTop (mkF m 15 #[.val (.ref o0), .val (.int i1), .val (.ref o2), .val (.int (i3 + (1 : Int32))), .val (.int i4), .val (.int i1)] [(.int i3), (.ref o2)])) _
  refine XS.aloadN X0.here hx rfl (hb hby d28_15) rfl rfl ?_
  show Steps p.tables e below (T0.setTop (mkF m 16 #[.val (.ref o0), .val (.int i1), .val (.ref o2), .val (.int (i3 + (1 : Int32))), .val (.int i4), .val (.int i1)] [(.ref o0), (.int i3), (.ref o2)])) _
  refine XS.iloadN X0.here hx rfl (hb hby d28_16) rfl ?_
  show Steps p.tables e below (T0.setTop (mkF m 17 #[.val (.ref o0), .val (.int i1), .val (.ref o2), .val (.int (i3 + (1 : Int32))), .val (.int i4), .val (.int i1)] [(.int i1), (.ref o0), (.int i3), (.ref o2)])) _
  refine XS.iinc X0.here hx rfl (hb hby d28_17) rfl (l' := #[.val (.ref o0), .val (.int (i1 + (1 : Int32))), .val (.ref o2), .val (.int (i3 + (1 : Int32))), .val (.int i4), .val (.int i1)]) rfl ?_
  show Steps p.tables e below (T0.setTop (mkF m 20 #[.val (.ref o0), .val (.int (i1 + (1 : Int32))), .val (.ref o2), .val (.int (i3 + (1 : Int32))), .val (.int i4), .val (.int i1)] [(.int i1), (.ref o0), (.int i3), (.ref o2)])) _
  refine X0.baloadBytes hx (j := i1) (v := (.int w6)) (by rw [e0]; exact Ar_o0.1) (State.isArrayOf_alike hZ.alike Ar_o0.2.1) Ar_o0.2.2 hin20 hat20 (g := (mkF m 20 #[.val (.ref o0), .val (.int (i1 + (1 : Int32))), .val (.ref o2), .val (.int (i3 + (1 : Int32))), .val (.int i4), .val (.int i1)] [(.int i1), (.ref o0), (.int i3), (.ref o2)])) rfl rfl (hb hby d28_20) _ ?_
  show Steps p.tables e below (T0.setTop (mkF m 21 #[.val (.ref o0), .val (.int (i1 + (1 : Int32))), .val (.ref o2), .val (.int (i3 + (1 : Int32))), .val (.int i4), .val (.int i1)] [(.int w6), (.int i3), (.ref o2)])) _
  refine XS.sipush X0.here hx rfl (hb hby d28_21) ?_
  show Steps p.tables e below (T0.setTop (mkF m 24 #[.val (.ref o0), .val (.int (i1 + (1 : Int32))), .val (.ref o2), .val (.int (i3 + (1 : Int32))), .val (.int i4), .val (.int i1)] [(.int (255 : Int32)), (.int w6), (.int i3), (.ref o2)])) _
  refine XS.iand X0.here hx rfl (hb hby d28_24) rfl ?_
  show Steps p.tables e below (T0.setTop (mkF m 25 #[.val (.ref o0), .val (.int (i1 + (1 : Int32))), .val (.ref o2), .val (.int (i3 + (1 : Int32))), .val (.int i4), .val (.int i1)] [(.int (w6 &&& (255 : Int32))), (.int i3), (.ref o2)])) _
  refine XS.i2c X0.here hx rfl (hb hby d28_25) rfl ?_
  show Steps p.tables e below (T0.setTop (mkF m 26 #[.val (.ref o0), .val (.int (i1 + (1 : Int32))), .val (.ref o2), .val (.int (i3 + (1 : Int32))), .val (.int i4), .val (.int i1)] [(.int ((w6 &&& (255 : Int32)).toUInt32.toUInt16.toUInt32.toInt32)), (.int i3), (.ref o2)])) _
  refine st7 _ ?_
  show Steps p.tables e below (T7.setTop (mkF m 27 #[.val (.ref o0), .val (.int (i1 + (1 : Int32))), .val (.ref o2), .val (.int (i3 + (1 : Int32))), .val (.int i4), .val (.int i1)] [])) _
  refine XS.iinc X7.here hx rfl (hb hby d28_27) rfl (l' := #[.val (.ref o0), .val (.int (i1 + (1 : Int32))), .val (.ref o2), .val (.int (i3 + (1 : Int32))), .val (.int i4), .val (.int (i1 + (1 : Int32)))]) rfl ?_
  show Steps p.tables e below (T7.setTop (mkF m 30 #[.val (.ref o0), .val (.int (i1 + (1 : Int32))), .val (.ref o2), .val (.int (i3 + (1 : Int32))), .val (.int i4), .val (.int (i1 + (1 : Int32)))] [])) _
  refine XS.goto X7.here hx rfl (pc0 := 30) (pc' := 3) rfl (hb hby d28_30) (by decide) (by decide) ?_
  exact kt
set_option maxRecDepth 65536 in
theorem own_inf {p : Program} {l : Launch} {e : Env} {R : Room} {s : State} {m : MethodId} {args : Array Value} {below : List Frame} {meth : Method} {c : Code} {cells slots : Nat} {Z : State} {a0 : Array Value} {n0 : Nat} (o0 o2 : Addr) (kb kc : ClassId) (cs ds : List Int32) (hn : ds.length ≤ 15) (hS : cs.length ≤ 15) (hp : ∀ c ∈ ds, ¬ c < 0 ∧ ¬ (255 : Int32) < c) (k : Nat) : ∀ (T0 : State) (locs : List Loc) (h0 : Heap) (i : Nat), i + k = ds.length → 
    ∀ (X0 : Stand p l e R s m args below meth c T0 locs cells slots) (hx : p.tables.exec = Jvm.exec) (hZ : Z.Warmed39 s.vm) (hw : ∀ d ∈ tables_1, d.before a0 Z = true) (hby : c.code = jdk_43_method_49_code) (hml : c.maxLocals = 6) (hown : s.vm.findClass "java/lang/StringLatin1" = some m.cls) (e0 : T0.heap = h0)
    (g_o2 : n0 ≤ o2) (N0 : Fr n0 locs) (VS : Arv Z h0 o0 kb .byte (Int32.ofNat ds.length) (ds.map fun c => Value.int (StrChars.lo8 c)) (.int 0)) (VD : Arv Z h0 o2 kc .char (65536 : Int32) ((cs ++ ds.take i).map Value.int) (.int (0 : Int32))) (ne : o0 ≠ o2),
    ∃ (T' : State) (h' : Heap) (locs' : List Loc), Stand p l e R s m args below meth c T' locs' cells slots ∧ T'.heap = h' ∧ Fr n0 locs' ∧ Keep h0 h' [o2] ∧ Arv Z h' o0 kb .byte (Int32.ofNat ds.length) (ds.map fun c => Value.int (StrChars.lo8 c)) (.int 0) ∧ Arv Z h' o2 kc .char (65536 : Int32) ((cs ++ ds).map Value.int) (.int (0 : Int32)) ∧
      ∀ target, Steps p.tables e below (T'.setTop (mkF m 33 #[.val (.ref o0), .val (.int (Int32.ofNat ds.length)), .val (.ref o2), .val (.int (Int32.ofNat (cs.length + ds.length))), .val (.int (Int32.ofNat ds.length)), .val (.int (Int32.ofNat ds.length))] [])) target → Steps p.tables e below (T0.setTop (mkF m 3 #[.val (.ref o0), .val (.int (Int32.ofNat i)), .val (.ref o2), .val (.int (Int32.ofNat (cs.length + i))), .val (.int (Int32.ofNat ds.length)), .val (.int (Int32.ofNat i))] [])) target := by
  induction k with
  | zero =>
    intro T0 locs h0 i hk X0 hx hZ hw hby hml hown e0 g_o2 N0 VS VD ne
    obtain rfl : i = ds.length := by omega
    obtain ⟨T', X', e', st⟩ := tn28_3_33 (.val (.ref o0)) (.val (.int (Int32.ofNat ds.length))) (.val (.ref o2)) (.val (.int (Int32.ofNat (cs.length + ds.length)))) (Int32.ofNat ds.length) (Int32.ofNat ds.length) X0 hx hZ hw hby hml hown e0 (Int32.lt_irrefl)
    exact ⟨T', h0, locs, X', e', N0, Keep.refl _ _, VS, by simpa using VD, st⟩
  | succ k ih =>
    intro T0 locs h0 i hk X0 hx hZ hw hby hml hown e0 g_o2 N0 VS VD ne
    obtain ⟨T1, h1, L1, X1, e1, N1, K1, VS1, VD1, st1⟩ := own_inf1 o0 o2 kb kc cs ds i (by omega) hn hS hp X0 hx hZ hw hby hml hown e0 g_o2 N0 VS VD ne
    obtain ⟨T2, h2, L2, X2, e2, N2, K2, VS2, VD2, st2⟩ := ih T1 L1 h1 (i + 1) (by omega) X1 hx hZ hw hby hml hown e1 g_o2 N1 VS1 VD1 ne
    exact ⟨T2, h2, L2, X2, e2, N2, K1.trans K2 (fun x hx => Or.inl hx), VS2, VD2, fun t kt => st1 t (st2 t kt)⟩
def Q28 (Z : State) (o0 o2 : Addr) (kb kc : ClassId) (cs ds : List Int32) (h0 : Heap) (n0 : Nat) (v : Option Value) (h : Heap) (L : List Loc) : Prop := v = none ∧ Fr n0 L ∧ Keep h0 h [o2] ∧ Arv Z h o2 kc .char (65536 : Int32) ((cs ++ ds).map Value.int) (.int (0 : Int32))
theorem d28_0 : decode jdk_43_method_49_code 0 = .ok (.iconst 0, 1) := by decide +kernel
theorem d28_1 : decode jdk_43_method_49_code 1 = .ok (.istore 5, 2) := by decide +kernel
theorem d28_33 : decode jdk_43_method_49_code 33 = .ok (.return_, 1) := by decide +kernel
theorem pn_28 : plainName "java/lang/StringLatin1" = true := by first | (simp [plainName, overriddenIn]; done) | decide +kernel
theorem ef_28 (m : MethodId) (x0 : Addr) (x1 : Int32) (x2 : Addr) (x3 : Int32) (x4 : Int32) : entryFrame m #[(.ref x0), (.int x1), (.ref x2), (.int x3), (.int x4)] 6 = mkF m 0 #[.val (.ref x0), .val (.int x1), .val (.ref x2), .val (.int x3), .val (.int x4), .unset] [] := by first | (simp [entryFrame, mkF, argsToLocals, Value.category]; done) | rfl
set_option maxRecDepth 65536 in
set_option maxHeartbeats 40000000 in
theorem rm28 (l : Launch) (Z : State) (a0 : Array Value) (hw : ∀ d ∈ tables_1, d.before a0 Z = true) (ws : List Jvm.Cond) (o0 o2 : Addr) (kb kc : ClassId) (cs ds : List Int32) (h0 : Heap) (n0 : Nat) (Z0 : n0 ≤ h0.size) (hn : ds.length ≤ 15) (hS : cs.length ≤ 15) (hp : ∀ c ∈ ds, ¬ c < 0 ∧ ¬ (255 : Int32) < c) (g_o2 : n0 ≤ o2) (VS : Arv Z h0 o0 kb .byte (Int32.ofNat ds.length) (ds.map fun c => Value.int (StrChars.lo8 c)) (.int 0)) (VD : Arv Z h0 o2 kc .char (65536 : Int32) (cs.map Value.int) (.int (0 : Int32))) (ne : o0 ≠ o2) :
    MetFree l (⟨"java/lang/StringLatin1", "inflate", "([BI[CII)V"⟩ : MethodName) (head1 (Jvm.Cond.code (⟨"java/lang/StringLatin1", "inflate", "([BI[CII)V"⟩ : MethodName) jdk_43_method_49_code 6 none :: ws) ({ frames := 0, cells := 0, slots := 0, locals := 0 } : Room)) (fun a U => a = #[(.ref o0), (.int (0 : Int32)), (.ref o2), (.int (Int32.ofNat cs.length)), (.int (Int32.ofNat ds.length))] ∧ Z.Warmed39 U.vm ∧ U.heap = h0) (fun _ _ _ _ _ => True) (fun _ U o U' => ∃ v L, o = .returned v ∧ Q28 Z o0 o2 kb kc cs ds h0 n0 v U'.heap L ∧ FrameEnd U o U' L ({ frames := 0, cells := 0, slots := 0, locals := 0 } : Room).cells ({ frames := 0, cells := 0, slots := 0, locals := 0 } : Room).slots) := by
  refine MetFree.of_bodySF (plainFor_of_name pn_28) hisR ?_
  intro p e s m args below meth c s₁ Bd hml0 hP hK
  obtain ⟨rfl, hZ, hh⟩ := hP
  have hx := Bd.exec
  have hby := Bd.bytes
  have hml : c.maxLocals = 6 := hml0
  have hown : s.vm.findClass "java/lang/StringLatin1" = some m.cls := findClass_of_methodNamed Bd.named
  have hnm := (name_of_methodNamed Bd.named Bd.method).1
  have X0 : Stand p l e ({ frames := 0, cells := 0, slots := 0, locals := 0 } : Room) s m #[(.ref o0), (.int (0 : Int32)), (.ref o2), (.int (Int32.ofNat cs.length)), (.int (Int32.ofNat ds.length))] below meth c s₁ [] 0 0 := Stand.of_body Bd
  have e0 : s₁.heap = h0 := by rw [← hh, Bd.state]; rfl
  have N0 := Fr.nil n0
  have pre0 : ∀ t, Steps p.tables e below (s₁.setTop (mkF m 0 #[.val (.ref o0), .val (.int (0 : Int32)), .val (.ref o2), .val (.int (Int32.ofNat cs.length)), .val (.int (Int32.ofNat ds.length)), .unset] [])) t → Steps p.tables e below (s₁.setTop (entryFrame m #[(.ref o0), (.int (0 : Int32)), (.ref o2), (.int (Int32.ofNat cs.length)), (.int (Int32.ofNat ds.length))] 6)) t := fun t k => castTop (ef_28 m o0 (0 : Int32) o2 (Int32.ofNat cs.length) (Int32.ofNat ds.length)) k
  obtain ⟨T1, h1, L1, X1, e1, N1, K1, VS1, VD1, st1⟩ := own_inf o0 o2 kb kc cs ds hn hS hp ds.length s₁ [] h0 0 (by omega) X0 hx hZ hw hby hml hown e0 g_o2 N0 VS (by simpa using VD) ne
  obtain ⟨fs, hr, hrun, hended, hW, hsame⟩ := X1.leave (v := none) (fun _ => rfl)
  refine ⟨_, _, pre0 _ ?_, hrun, hended, _, _, rfl, ?_, ⟨_, rfl⟩, hW, hsame.mono (by decide) (by decide)⟩
  · show Steps p.tables e below (s₁.setTop (mkF m 0 #[.val (.ref o0), .val (.int (0 : Int32)), .val (.ref o2), .val (.int (Int32.ofNat cs.length)), .val (.int (Int32.ofNat ds.length)), .unset] [])) _
    refine XS.iconst X0.here hx rfl (hb hby d28_0) ?_
    show Steps p.tables e below (s₁.setTop (mkF m 1 #[.val (.ref o0), .val (.int (0 : Int32)), .val (.ref o2), .val (.int (Int32.ofNat cs.length)), .val (.int (Int32.ofNat ds.length)), .unset] [(.int (0 : Int32))])) _
    refine XS.istore X0.here hx rfl (hb hby d28_1) rfl (l' := #[.val (.ref o0), .val (.int (0 : Int32)), .val (.ref o2), .val (.int (Int32.ofNat cs.length)), .val (.int (Int32.ofNat ds.length)), .val (.int (0 : Int32))]) rfl ?_
    show Steps p.tables e below (s₁.setTop (mkF m 3 #[.val (.ref o0), .val (.int (0 : Int32)), .val (.ref o2), .val (.int (Int32.ofNat cs.length)), .val (.int (Int32.ofNat ds.length)), .val (.int (0 : Int32))] [])) _
    refine st1 _ ?_
    show Steps p.tables e below (T1.setTop (mkF m 33 #[.val (.ref o0), .val (.int (Int32.ofNat ds.length)), .val (.ref o2), .val (.int (Int32.ofNat (cs.length + ds.length))), .val (.int (Int32.ofNat ds.length)), .val (.int (Int32.ofNat ds.length))] [])) _
    exact X1.returnOut hx Bd.returns (hb hby d28_33) hr
  · show Q28 Z o0 o2 kb kc cs ds h0 n0 _ T1.heap _
    rw [e1]
    exact ⟨rfl, N1, K1, VD1⟩
theorem own_wide {c : Int32} (h : ¬ (255 : Int32) < c) : ¬ (65535 : Int32) < c := by
  rw [Int32.lt_iff_toInt_lt, show (255 : Int32).toInt = 255 from rfl] at h
  rw [Int32.lt_iff_toInt_lt, show (65535 : Int32).toInt = 65535 from rfl]
  omega
theorem own_or {i j : Nat} (hi : i ≤ 15) (hj : j ≤ 15) : ¬ (((65536 : Int32) ||| Int32.ofNat i) ||| Int32.ofNat j) < 0 := by
  have H : ∀ a b : Fin 16, ¬ (((65536 : Int32) ||| Int32.ofNat a.val) ||| Int32.ofNat b.val) < 0 := by decide +kernel
  exact H ⟨i, by omega⟩ ⟨j, by omega⟩
theorem own_fit {i j : Nat} (hi : i ≤ 15) (hj : j ≤ 15) : ¬ ((65536 : Int32) - Int32.ofNat i) < Int32.ofNat j := by
  have H : ∀ a b : Fin 16, ¬ ((65536 : Int32) - Int32.ofNat a.val) < Int32.ofNat b.val := by decide +kernel
  exact H ⟨i, by omega⟩ ⟨j, by omega⟩
theorem own_lenW : ∀ d ∈ StrChars.Road.wordsLen, d ∈ tables_1 := by decide +kernel
theorem pd_o28 : parseMethodDescriptor "([BI[CII)V" = some ⟨[(.array .byte), .int, (.array .char), .int, .int], none⟩ := by decide +kernel
theorem pd_o23 : parseMethodDescriptor "(IIILjava/util/function/BiFunction;)I" = some ⟨[.int, .int, .int, (.object "java/util/function/BiFunction")], some .int⟩ := by decide +kernel
theorem pd_o3 : parseMethodDescriptor "(III)V" = some ⟨[.int, .int, .int], none⟩ := by decide +kernel
theorem pd_o3i : parseMethodDescriptor "(III)I" = some ⟨[.int, .int, .int], some .int⟩ := by decide +kernel
theorem pd_olen : parseMethodDescriptor "()I" = some ⟨[], some .int⟩ := by decide +kernel
theorem pd_olat : parseMethodDescriptor "()Z" = some ⟨[], some .boolean⟩ := by decide +kernel
theorem pd_o27 : parseMethodDescriptor "([BII[CI)V" = some ⟨[(.array .byte), .int, .int, (.array .char), .int], none⟩ := by decide +kernel
theorem d27_0 : decode jdk_43_method_11_code 0 = .ok (.aload_n 0, 1) := by decide +kernel
theorem d27_1 : decode jdk_43_method_11_code 1 = .ok (.iload_n 1, 1) := by decide +kernel
theorem d27_2 : decode jdk_43_method_11_code 2 = .ok (.aload_n 3, 1) := by decide +kernel
theorem d27_3 : decode jdk_43_method_11_code 3 = .ok (.iload 4, 2) := by decide +kernel
theorem d27_5 : decode jdk_43_method_11_code 5 = .ok (.iload_n 2, 1) := by decide +kernel
theorem d27_6 : decode jdk_43_method_11_code 6 = .ok (.iload_n 1, 1) := by decide +kernel
theorem d27_7 : decode jdk_43_method_11_code 7 = .ok (.isub, 1) := by decide +kernel
theorem d27_8 : decode jdk_43_method_11_code 8 = .ok (.invokestatic 13, 3) := by decide +kernel
theorem d27_11 : decode jdk_43_method_11_code 11 = .ok (.return_, 1) := by decide +kernel
theorem pn_27 : plainName "java/lang/StringLatin1" = true := by first | (simp [plainName, overriddenIn]; done) | decide +kernel
theorem ef_27 (m : MethodId) (x0 : Addr) (x1 : Int32) (x2 : Int32) (x3 : Addr) (x4 : Int32) : entryFrame m #[(.ref x0), (.int x1), (.int x2), (.ref x3), (.int x4)] 5 = mkF m 0 #[.val (.ref x0), .val (.int x1), .val (.int x2), .val (.ref x3), .val (.int x4)] [] := by first | (simp [entryFrame, mkF, argsToLocals, Value.category]; done) | rfl
set_option maxRecDepth 65536 in
set_option maxHeartbeats 40000000 in
theorem rm27 (l : Launch) (Z : State) (a0 : Array Value) (hw : ∀ d ∈ tables_1, d.before a0 Z = true) (ws : List Jvm.Cond) (o0 o2 : Addr) (kb kc : ClassId) (cs ds : List Int32) (h0 : Heap) (n0 : Nat) (Z0 : n0 ≤ h0.size) (hn : ds.length ≤ 15) (hS : cs.length ≤ 15) (hp : ∀ c ∈ ds, ¬ c < 0 ∧ ¬ (255 : Int32) < c) (g_o2 : n0 ≤ o2) (VS : Arv Z h0 o0 kb .byte (Int32.ofNat ds.length) (ds.map fun c => Value.int (StrChars.lo8 c)) (.int 0)) (VD : Arv Z h0 o2 kc .char (65536 : Int32) (cs.map Value.int) (.int (0 : Int32))) (ne : o0 ≠ o2) :
    MetFree l (⟨"java/lang/StringLatin1", "getChars", "([BII[CI)V"⟩ : MethodName) (head1 (Jvm.Cond.code (⟨"java/lang/StringLatin1", "getChars", "([BII[CI)V"⟩ : MethodName) jdk_43_method_11_code 5 none :: ws) ({ frames := 1, cells := 0, slots := 0, locals := 17 } : Room)) (fun a U => a = #[(.ref o0), (.int (0 : Int32)), (.int (Int32.ofNat ds.length)), (.ref o2), (.int (Int32.ofNat cs.length))] ∧ Z.Warmed39 U.vm ∧ U.heap = h0) (fun _ _ _ _ _ => True) (fun _ U o U' => ∃ v L, o = .returned v ∧ Q28 Z o0 o2 kb kc cs ds h0 n0 v U'.heap L ∧ FrameEnd U o U' L ({ frames := 1, cells := 0, slots := 0, locals := 17 } : Room).cells ({ frames := 1, cells := 0, slots := 0, locals := 17 } : Room).slots) := by
  refine MetFree.of_bodySF (plainFor_of_name pn_27) hisR ?_
  intro p e s m args below meth c s₁ Bd hml0 hP hK
  obtain ⟨rfl, hZ, hh⟩ := hP
  have hx := Bd.exec
  have hby := Bd.bytes
  have hml : c.maxLocals = 5 := hml0
  have hown : s.vm.findClass "java/lang/StringLatin1" = some m.cls := findClass_of_methodNamed Bd.named
  have hnm := (name_of_methodNamed Bd.named Bd.method).1
  have X0 : Stand p l e ({ frames := 1, cells := 0, slots := 0, locals := 17 } : Room) s m #[(.ref o0), (.int (0 : Int32)), (.int (Int32.ofNat ds.length)), (.ref o2), (.int (Int32.ofNat cs.length))] below meth c s₁ [] 0 0 := Stand.of_body Bd
  have e0 : s₁.heap = h0 := by rw [← hh, Bd.state]; rfl
  have N0 := Fr.nil n0
  have pre0 : ∀ t, Steps p.tables e below (s₁.setTop (mkF m 0 #[.val (.ref o0), .val (.int (0 : Int32)), .val (.int (Int32.ofNat ds.length)), .val (.ref o2), .val (.int (Int32.ofNat cs.length))] [])) t → Steps p.tables e below (s₁.setTop (entryFrame m #[(.ref o0), (.int (0 : Int32)), (.int (Int32.ofNat ds.length)), (.ref o2), (.int (Int32.ofNat cs.length))] 5)) t := fun t k => castTop (ef_27 m o0 (0 : Int32) (Int32.ofNat ds.length) o2 (Int32.ofNat cs.length)) k
  obtain ⟨_, _, ⟨T1, L1, k1, n1⟩, -, X1, ⟨Lc1, hQ1, l1, y1, z1⟩, st1⟩ := Jvm.LawKit.callS X0 hx (y := (⟨"java/lang/StringLatin1", "inflate", "([BI[CII)V"⟩ : MethodName)) hown (mvT hZ (hw _ (List.mem_of_getElem? (i := 151) rfl))) (mvT hZ (hw _ (List.mem_of_getElem? (i := 152) rfl))) (mvT hZ (hw _ (List.mem_of_getElem? (i := 97) rfl))) (mvT hZ (hw _ (List.mem_of_getElem? (i := 153) rfl))) (by decide) (backOf (W := 0) (rm28 l Z a0 hw [] o0 o2 kb kc cs ds h0 n0 Z0 hn hS hp g_o2 VS VD ne) hZ (hw _ (List.mem_of_getElem? (i := 153) rfl)) (hw _ (List.mem_of_getElem? (i := 97) rfl)) (Nat.le_of_ble_eq_true rfl) (Nat.le_of_ble_eq_true rfl)) (g := (mkF m 8 #[.val (.ref o0), .val (.int (0 : Int32)), .val (.int (Int32.ofNat ds.length)), .val (.ref o2), .val (.int (Int32.ofNat cs.length))] [(.int (Int32.ofNat ds.length)), (.int (Int32.ofNat cs.length)), (.ref o2), (.int (0 : Int32)), (.ref o0)])) rfl (by rw [hml]; rfl) (argsL := [(.ref o0), (.int (0 : Int32)), (.ref o2), (.int (Int32.ofNat cs.length)), (.int (Int32.ofNat ds.length))]) (rest := []) (lenOf pd_o28 rfl) rfl (by show 2 * 0 + _ ≤ _; exact Nat.le_of_eq rfl) (hb hby d27_8) (fun _ _ => ⟨rfl, e0, (Nat.le_of_ble_eq_true rfl), (Nat.le_of_ble_eq_true rfl)⟩)
  dsimp only [Pt.U, Pt.locs, Pt.cells, Pt.slots] at X1 l1 y1 z1 st1 hQ1
  subst l1 y1 z1
  obtain ⟨rfl, N1, K1, VD1⟩ := hQ1
  obtain ⟨fs, hr, hrun, hended, hW, hsame⟩ := X1.leave (v := none) (fun _ => rfl)
  refine ⟨_, _, pre0 _ ?_, hrun, hended, _, _, rfl, ?_, ⟨_, rfl⟩, hW, hsame.mono (by decide) (by decide)⟩
  · show Steps p.tables e below (s₁.setTop (mkF m 0 #[.val (.ref o0), .val (.int (0 : Int32)), .val (.int (Int32.ofNat ds.length)), .val (.ref o2), .val (.int (Int32.ofNat cs.length))] [])) _
    refine XS.aloadN X0.here hx rfl (hb hby d27_0) rfl rfl ?_
    show Steps p.tables e below (s₁.setTop (mkF m 1 #[.val (.ref o0), .val (.int (0 : Int32)), .val (.int (Int32.ofNat ds.length)), .val (.ref o2), .val (.int (Int32.ofNat cs.length))] [(.ref o0)])) _
    refine XS.iloadN X0.here hx rfl (hb hby d27_1) rfl ?_
    show Steps p.tables e below (s₁.setTop (mkF m 2 #[.val (.ref o0), .val (.int (0 : Int32)), .val (.int (Int32.ofNat ds.length)), .val (.ref o2), .val (.int (Int32.ofNat cs.length))] [(.int (0 : Int32)), (.ref o0)])) _
    refine XS.aloadN X0.here hx rfl (hb hby d27_2) rfl rfl ?_
    show Steps p.tables e below (s₁.setTop (mkF m 3 #[.val (.ref o0), .val (.int (0 : Int32)), .val (.int (Int32.ofNat ds.length)), .val (.ref o2), .val (.int (Int32.ofNat cs.length))] [(.ref o2), (.int (0 : Int32)), (.ref o0)])) _
    refine XS.iload X0.here hx rfl (hb hby d27_3) rfl ?_
    show Steps p.tables e below (s₁.setTop (mkF m 5 #[.val (.ref o0), .val (.int (0 : Int32)), .val (.int (Int32.ofNat ds.length)), .val (.ref o2), .val (.int (Int32.ofNat cs.length))] [(.int (Int32.ofNat cs.length)), (.ref o2), (.int (0 : Int32)), (.ref o0)])) _
    refine XS.iloadN X0.here hx rfl (hb hby d27_5) rfl ?_
    show Steps p.tables e below (s₁.setTop (mkF m 6 #[.val (.ref o0), .val (.int (0 : Int32)), .val (.int (Int32.ofNat ds.length)), .val (.ref o2), .val (.int (Int32.ofNat cs.length))] [(.int (Int32.ofNat ds.length)), (.int (Int32.ofNat cs.length)), (.ref o2), (.int (0 : Int32)), (.ref o0)])) _
    refine XS.iloadN X0.here hx rfl (hb hby d27_6) rfl ?_
    show Steps p.tables e below (s₁.setTop (mkF m 7 #[.val (.ref o0), .val (.int (0 : Int32)), .val (.int (Int32.ofNat ds.length)), .val (.ref o2), .val (.int (Int32.ofNat cs.length))] [(.int (0 : Int32)), (.int (Int32.ofNat ds.length)), (.int (Int32.ofNat cs.length)), (.ref o2), (.int (0 : Int32)), (.ref o0)])) _
    refine XS.isub X0.here hx rfl (hb hby d27_7) rfl ?_
    show Steps p.tables e below (s₁.setTop (mkF m 8 #[.val (.ref o0), .val (.int (0 : Int32)), .val (.int (Int32.ofNat ds.length)), .val (.ref o2), .val (.int (Int32.ofNat cs.length))] [(.int ((Int32.ofNat ds.length) - (0 : Int32))), (.int (Int32.ofNat cs.length)), (.ref o2), (.int (0 : Int32)), (.ref o0)])) _
    rw [Int32.sub_zero]
    show Steps p.tables e below (s₁.setTop (mkF m 8 #[.val (.ref o0), .val (.int (0 : Int32)), .val (.int (Int32.ofNat ds.length)), .val (.ref o2), .val (.int (Int32.ofNat cs.length))] [(.int (Int32.ofNat ds.length)), (.int (Int32.ofNat cs.length)), (.ref o2), (.int (0 : Int32)), (.ref o0)])) _
    refine st1 _ ?_
    show Steps p.tables e below (T1.setTop (mkF m 11 #[.val (.ref o0), .val (.int (0 : Int32)), .val (.int (Int32.ofNat ds.length)), .val (.ref o2), .val (.int (Int32.ofNat cs.length))] [])) _
    exact X1.returnOut hx Bd.returns (hb hby d27_11) hr
  · exact ⟨rfl, Fr.app N0 N1, K1, VD1⟩
def Q23 (Z : State) (p1 p2 p3 : Int32) (fm : Value) (h0 : Heap) (n0 : Nat) (v : Option Value) (h : Heap) (L : List Loc) : Prop := v = some (.int p1) ∧ Fr n0 L ∧ h = h0
theorem d23_0 : decode jdk_41_method_12_code 0 = .ok (.iload_n 0, 1) := by decide +kernel
theorem d23_1 : decode jdk_41_method_12_code 1 = .ok (.ifCond .lt 13, 3) := by decide +kernel
theorem d23_4 : decode jdk_41_method_12_code 4 = .ok (.iload_n 0, 1) := by decide +kernel
theorem d23_5 : decode jdk_41_method_12_code 5 = .ok (.iload_n 1, 1) := by decide +kernel
theorem d23_6 : decode jdk_41_method_12_code 6 = .ok (.if_icmp .gt 8, 3) := by decide +kernel
theorem d23_9 : decode jdk_41_method_12_code 9 = .ok (.iload_n 1, 1) := by decide +kernel
theorem d23_10 : decode jdk_41_method_12_code 10 = .ok (.iload_n 2, 1) := by decide +kernel
theorem d23_11 : decode jdk_41_method_12_code 11 = .ok (.if_icmp .le 11, 3) := by decide +kernel
theorem d23_22 : decode jdk_41_method_12_code 22 = .ok (.iload_n 0, 1) := by decide +kernel
theorem d23_23 : decode jdk_41_method_12_code 23 = .ok (.ireturn, 1) := by decide +kernel
theorem pn_23 : plainName "jdk/internal/util/Preconditions" = true := by first | (simp [plainName, overriddenIn]; done) | decide +kernel
theorem ef_23 (m : MethodId) (x0 : Int32) (x1 : Int32) (x2 : Int32) (x3 : Value) (q3 : x3.isRef = true) : entryFrame m #[(.int x0), (.int x1), (.int x2), x3] 4 = mkF m 0 #[.val (.int x0), .val (.int x1), .val (.int x2), .val x3] [] := by rcases ref_cases q3 with rfl | ⟨f, rfl⟩ <;> first | (simp [entryFrame, mkF, argsToLocals, Value.category]; done) | rfl
set_option maxRecDepth 65536 in
set_option maxHeartbeats 40000000 in
theorem rm23 (l : Launch) (Z : State) (a0 : Array Value) (hw : ∀ d ∈ tables_1, d.before a0 Z = true) (ws : List Jvm.Cond) (p1 p2 p3 : Int32) (fm : Value) (h0 : Heap) (n0 : Nat) (Z0 : n0 ≤ h0.size) (hfm : fm.isRef = true) (c1 : ¬ p1 < 0) (c2 : ¬ p2 < p1) (c3 : ¬ p3 < p2) :
    MetFree l (⟨"jdk/internal/util/Preconditions", "checkFromToIndex", "(IIILjava/util/function/BiFunction;)I"⟩ : MethodName) (head1 (Jvm.Cond.code (⟨"jdk/internal/util/Preconditions", "checkFromToIndex", "(IIILjava/util/function/BiFunction;)I"⟩ : MethodName) jdk_41_method_12_code 4 (some .int) :: ws) ({ frames := 0, cells := 0, slots := 0, locals := 0 } : Room)) (fun a U => a = #[(.int p1), (.int p2), (.int p3), fm] ∧ Z.Warmed39 U.vm ∧ U.heap = h0) (fun _ _ _ _ _ => True) (fun _ U o U' => ∃ v L, o = .returned v ∧ Q23 Z p1 p2 p3 fm h0 n0 v U'.heap L ∧ FrameEnd U o U' L ({ frames := 0, cells := 0, slots := 0, locals := 0 } : Room).cells ({ frames := 0, cells := 0, slots := 0, locals := 0 } : Room).slots) := by
  refine MetFree.of_bodySF (plainFor_of_name pn_23) hisR ?_
  intro p e s m args below meth c s₁ Bd hml0 hP hK
  obtain ⟨rfl, hZ, hh⟩ := hP
  have hx := Bd.exec
  have hby := Bd.bytes
  have hml : c.maxLocals = 4 := hml0
  have hown : s.vm.findClass "jdk/internal/util/Preconditions" = some m.cls := findClass_of_methodNamed Bd.named
  have hnm := (name_of_methodNamed Bd.named Bd.method).1
  have X0 : Stand p l e ({ frames := 0, cells := 0, slots := 0, locals := 0 } : Room) s m #[(.int p1), (.int p2), (.int p3), fm] below meth c s₁ [] 0 0 := Stand.of_body Bd
  have e0 : s₁.heap = h0 := by rw [← hh, Bd.state]; rfl
  have N0 := Fr.nil n0
  have pre0 : ∀ t, Steps p.tables e below (s₁.setTop (mkF m 0 #[.val (.int p1), .val (.int p2), .val (.int p3), .val fm] [])) t → Steps p.tables e below (s₁.setTop (entryFrame m #[(.int p1), (.int p2), (.int p3), fm] 4)) t := fun t k => castTop (ef_23 m p1 p2 p3 fm hfm) k
  obtain ⟨fs, hr, hrun, hended, hW, hsame⟩ := X0.leave (v := some (.int p1)) (fun h => by rw [Bd.returns] at h; cases h)
  refine ⟨_, _, pre0 _ ?_, hrun, hended, _, _, rfl, ?_, ⟨_, rfl⟩, hW, hsame.mono (by decide) (by decide)⟩
  · show Steps p.tables e below (s₁.setTop (mkF m 0 #[.val (.int p1), .val (.int p2), .val (.int p3), .val fm] [])) _
    refine XS.iloadN X0.here hx rfl (hb hby d23_0) rfl ?_
    show Steps p.tables e below (s₁.setTop (mkF m 1 #[.val (.int p1), .val (.int p2), .val (.int p3), .val fm] [(.int p1)])) _
    refine XS.ifNo X0.here hx rfl (hb hby d23_1) rfl ((if0 _ _).trans (flt c1).1) ?_
    show Steps p.tables e below (s₁.setTop (mkF m 4 #[.val (.int p1), .val (.int p2), .val (.int p3), .val fm] [])) _
    refine XS.iloadN X0.here hx rfl (hb hby d23_4) rfl ?_
    show Steps p.tables e below (s₁.setTop (mkF m 5 #[.val (.int p1), .val (.int p2), .val (.int p3), .val fm] [(.int p1)])) _
    refine XS.iloadN X0.here hx rfl (hb hby d23_5) rfl ?_
    show Steps p.tables e below (s₁.setTop (mkF m 6 #[.val (.int p1), .val (.int p2), .val (.int p3), .val fm] [(.int p2), (.int p1)])) _
    refine XS.icmpNo X0.here hx rfl (hb hby d23_6) rfl (flt c2).2.2.1 ?_
    show Steps p.tables e below (s₁.setTop (mkF m 9 #[.val (.int p1), .val (.int p2), .val (.int p3), .val fm] [])) _
    refine XS.iloadN X0.here hx rfl (hb hby d23_9) rfl ?_
    show Steps p.tables e below (s₁.setTop (mkF m 10 #[.val (.int p1), .val (.int p2), .val (.int p3), .val fm] [(.int p2)])) _
    refine XS.iloadN X0.here hx rfl (hb hby d23_10) rfl ?_
    show Steps p.tables e below (s₁.setTop (mkF m 11 #[.val (.int p1), .val (.int p2), .val (.int p3), .val fm] [(.int p3), (.int p2)])) _
    refine XS.icmpYes X0.here hx rfl (pc0 := 11) (pc' := 22) rfl (hb hby d23_11) rfl (flt c3).2.2.2 (by decide) (by decide) ?_
    show Steps p.tables e below (s₁.setTop (mkF m 22 #[.val (.int p1), .val (.int p2), .val (.int p3), .val fm] [])) _
    refine XS.iloadN X0.here hx rfl (hb hby d23_22) rfl ?_
    show Steps p.tables e below (s₁.setTop (mkF m 23 #[.val (.int p1), .val (.int p2), .val (.int p3), .val fm] [(.int p1)])) _
    exact retI X0 hx Bd.returns (hb hby d23_23) hr
  · show Q23 Z p1 p2 p3 fm h0 n0 _ s₁.heap _
    rw [e0]
    exact ⟨rfl, N0, rfl⟩
theorem d25_0 : decode jdk_41_method_13_code 0 = .ok (.iload_n 2, 1) := by decide +kernel
theorem d25_1 : decode jdk_41_method_13_code 1 = .ok (.iload_n 0, 1) := by decide +kernel
theorem d25_2 : decode jdk_41_method_13_code 2 = .ok (.ior, 1) := by decide +kernel
theorem d25_3 : decode jdk_41_method_13_code 3 = .ok (.iload_n 1, 1) := by decide +kernel
theorem d25_4 : decode jdk_41_method_13_code 4 = .ok (.ior, 1) := by decide +kernel
theorem d25_5 : decode jdk_41_method_13_code 5 = .ok (.ifCond .lt 10, 3) := by decide +kernel
theorem d25_8 : decode jdk_41_method_13_code 8 = .ok (.iload_n 1, 1) := by decide +kernel
theorem d25_9 : decode jdk_41_method_13_code 9 = .ok (.iload_n 2, 1) := by decide +kernel
theorem d25_10 : decode jdk_41_method_13_code 10 = .ok (.iload_n 0, 1) := by decide +kernel
theorem d25_11 : decode jdk_41_method_13_code 11 = .ok (.isub, 1) := by decide +kernel
theorem d25_12 : decode jdk_41_method_13_code 12 = .ok (.if_icmp .le 11, 3) := by decide +kernel
theorem d25_23 : decode jdk_41_method_13_code 23 = .ok (.iload_n 0, 1) := by decide +kernel
theorem d25_24 : decode jdk_41_method_13_code 24 = .ok (.ireturn, 1) := by decide +kernel
theorem pn_25 : plainName "jdk/internal/util/Preconditions" = true := by first | (simp [plainName, overriddenIn]; done) | decide +kernel
theorem ef_25 (m : MethodId) (x0 : Int32) (x1 : Int32) (x2 : Int32) (x3 : Value) (q3 : x3.isRef = true) : entryFrame m #[(.int x0), (.int x1), (.int x2), x3] 4 = mkF m 0 #[.val (.int x0), .val (.int x1), .val (.int x2), .val x3] [] := by rcases ref_cases q3 with rfl | ⟨f, rfl⟩ <;> first | (simp [entryFrame, mkF, argsToLocals, Value.category]; done) | rfl
set_option maxRecDepth 65536 in
set_option maxHeartbeats 40000000 in
theorem rm25 (l : Launch) (Z : State) (a0 : Array Value) (hw : ∀ d ∈ tables_1, d.before a0 Z = true) (ws : List Jvm.Cond) (p1 p2 p3 : Int32) (fm : Value) (h0 : Heap) (n0 : Nat) (Z0 : n0 ≤ h0.size) (hfm : fm.isRef = true) (c1 : ¬ ((p3 ||| p1) ||| p2) < 0) (c2 : ¬ (p3 - p1) < p2) :
    MetFree l (⟨"jdk/internal/util/Preconditions", "checkFromIndexSize", "(IIILjava/util/function/BiFunction;)I"⟩ : MethodName) (head1 (Jvm.Cond.code (⟨"jdk/internal/util/Preconditions", "checkFromIndexSize", "(IIILjava/util/function/BiFunction;)I"⟩ : MethodName) jdk_41_method_13_code 4 (some .int) :: ws) ({ frames := 0, cells := 0, slots := 0, locals := 0 } : Room)) (fun a U => a = #[(.int p1), (.int p2), (.int p3), fm] ∧ Z.Warmed39 U.vm ∧ U.heap = h0) (fun _ _ _ _ _ => True) (fun _ U o U' => ∃ v L, o = .returned v ∧ Q23 Z p1 p2 p3 fm h0 n0 v U'.heap L ∧ FrameEnd U o U' L ({ frames := 0, cells := 0, slots := 0, locals := 0 } : Room).cells ({ frames := 0, cells := 0, slots := 0, locals := 0 } : Room).slots) := by
  refine MetFree.of_bodySF (plainFor_of_name pn_25) hisR ?_
  intro p e s m args below meth c s₁ Bd hml0 hP hK
  obtain ⟨rfl, hZ, hh⟩ := hP
  have hx := Bd.exec
  have hby := Bd.bytes
  have hml : c.maxLocals = 4 := hml0
  have hown : s.vm.findClass "jdk/internal/util/Preconditions" = some m.cls := findClass_of_methodNamed Bd.named
  have hnm := (name_of_methodNamed Bd.named Bd.method).1
  have X0 : Stand p l e ({ frames := 0, cells := 0, slots := 0, locals := 0 } : Room) s m #[(.int p1), (.int p2), (.int p3), fm] below meth c s₁ [] 0 0 := Stand.of_body Bd
  have e0 : s₁.heap = h0 := by rw [← hh, Bd.state]; rfl
  have N0 := Fr.nil n0
  have pre0 : ∀ t, Steps p.tables e below (s₁.setTop (mkF m 0 #[.val (.int p1), .val (.int p2), .val (.int p3), .val fm] [])) t → Steps p.tables e below (s₁.setTop (entryFrame m #[(.int p1), (.int p2), (.int p3), fm] 4)) t := fun t k => castTop (ef_25 m p1 p2 p3 fm hfm) k
  obtain ⟨fs, hr, hrun, hended, hW, hsame⟩ := X0.leave (v := some (.int p1)) (fun h => by rw [Bd.returns] at h; cases h)
  refine ⟨_, _, pre0 _ ?_, hrun, hended, _, _, rfl, ?_, ⟨_, rfl⟩, hW, hsame.mono (by decide) (by decide)⟩
  · show Steps p.tables e below (s₁.setTop (mkF m 0 #[.val (.int p1), .val (.int p2), .val (.int p3), .val fm] [])) _
    refine XS.iloadN X0.here hx rfl (hb hby d25_0) rfl ?_
    show Steps p.tables e below (s₁.setTop (mkF m 1 #[.val (.int p1), .val (.int p2), .val (.int p3), .val fm] [(.int p3)])) _
    refine XS.iloadN X0.here hx rfl (hb hby d25_1) rfl ?_
    show Steps p.tables e below (s₁.setTop (mkF m 2 #[.val (.int p1), .val (.int p2), .val (.int p3), .val fm] [(.int p1), (.int p3)])) _
    refine XS.ior X0.here hx rfl (hb hby d25_2) rfl ?_
    show Steps p.tables e below (s₁.setTop (mkF m 3 #[.val (.int p1), .val (.int p2), .val (.int p3), .val fm] [(.int (p3 ||| p1))])) _
    refine XS.iloadN X0.here hx rfl (hb hby d25_3) rfl ?_
    show Steps p.tables e below (s₁.setTop (mkF m 4 #[.val (.int p1), .val (.int p2), .val (.int p3), .val fm] [(.int p2), (.int (p3 ||| p1))])) _
    refine XS.ior X0.here hx rfl (hb hby d25_4) rfl ?_
    show Steps p.tables e below (s₁.setTop (mkF m 5 #[.val (.int p1), .val (.int p2), .val (.int p3), .val fm] [(.int ((p3 ||| p1) ||| p2))])) _
    refine XS.ifNo X0.here hx rfl (hb hby d25_5) rfl ((if0 _ _).trans (flt c1).1) ?_
    show Steps p.tables e below (s₁.setTop (mkF m 8 #[.val (.int p1), .val (.int p2), .val (.int p3), .val fm] [])) _
    refine XS.iloadN X0.here hx rfl (hb hby d25_8) rfl ?_
    show Steps p.tables e below (s₁.setTop (mkF m 9 #[.val (.int p1), .val (.int p2), .val (.int p3), .val fm] [(.int p2)])) _
    refine XS.iloadN X0.here hx rfl (hb hby d25_9) rfl ?_
    show Steps p.tables e below (s₁.setTop (mkF m 10 #[.val (.int p1), .val (.int p2), .val (.int p3), .val fm] [(.int p3), (.int p2)])) _
    refine XS.iloadN X0.here hx rfl (hb hby d25_10) rfl ?_
    show Steps p.tables e below (s₁.setTop (mkF m 11 #[.val (.int p1), .val (.int p2), .val (.int p3), .val fm] [(.int p1), (.int p3), (.int p2)])) _
    refine XS.isub X0.here hx rfl (hb hby d25_11) rfl ?_
    show Steps p.tables e below (s₁.setTop (mkF m 12 #[.val (.int p1), .val (.int p2), .val (.int p3), .val fm] [(.int (p3 - p1)), (.int p2)])) _
    refine XS.icmpYes X0.here hx rfl (pc0 := 12) (pc' := 23) rfl (hb hby d25_12) rfl (flt c2).2.2.2 (by decide) (by decide) ?_
    show Steps p.tables e below (s₁.setTop (mkF m 23 #[.val (.int p1), .val (.int p2), .val (.int p3), .val fm] [])) _
    refine XS.iloadN X0.here hx rfl (hb hby d25_23) rfl ?_
    show Steps p.tables e below (s₁.setTop (mkF m 24 #[.val (.int p1), .val (.int p2), .val (.int p3), .val fm] [(.int p1)])) _
    exact retI X0 hx Bd.returns (hb hby d25_24) hr
  · show Q23 Z p1 p2 p3 fm h0 n0 _ s₁.heap _
    rw [e0]
    exact ⟨rfl, N0, rfl⟩
def Q22 (Z : State) (p1 p2 p3 : Int32) (fm : Value) (h0 : Heap) (n0 : Nat) (v : Option Value) (h : Heap) (L : List Loc) : Prop := v = none ∧ Fr n0 L ∧ h = h0
theorem d22_0 : decode jdk_42_method_158_code 0 = .ok (.iload_n 0, 1) := by decide +kernel
theorem d22_1 : decode jdk_42_method_158_code 1 = .ok (.iload_n 1, 1) := by decide +kernel
theorem d22_2 : decode jdk_42_method_158_code 2 = .ok (.iload_n 2, 1) := by decide +kernel
theorem d22_3 : decode jdk_42_method_158_code 3 = .ok (.getstatic 1053, 3) := by decide +kernel
theorem d22_6 : decode jdk_42_method_158_code 6 = .ok (.invokestatic 1062, 3) := by decide +kernel
theorem d22_9 : decode jdk_42_method_158_code 9 = .ok (.pop, 1) := by decide +kernel
theorem d22_10 : decode jdk_42_method_158_code 10 = .ok (.return_, 1) := by decide +kernel
theorem pn_22 : plainName "java/lang/String" = true := by first | (simp [plainName, overriddenIn]; done) | decide +kernel
theorem ef_22 (m : MethodId) (x0 : Int32) (x1 : Int32) (x2 : Int32) : entryFrame m #[(.int x0), (.int x1), (.int x2)] 3 = mkF m 0 #[.val (.int x0), .val (.int x1), .val (.int x2)] [] := by first | (simp [entryFrame, mkF, argsToLocals, Value.category]; done) | rfl
set_option maxRecDepth 65536 in
set_option maxHeartbeats 40000000 in
theorem rm22 (l : Launch) (Z : State) (a0 : Array Value) (hw : ∀ d ∈ tables_1, d.before a0 Z = true) (ws : List Jvm.Cond) (p1 p2 p3 : Int32) (fm : Value) (h0 : Heap) (n0 : Nat) (Z0 : n0 ≤ h0.size) (hfm : fm.isRef = true) (SF : Sta Z h0 "jdk/internal/util/Preconditions" "SIOOBE_FORMATTER" "Ljava/util/function/BiFunction;" fm) (c1 : ¬ p1 < 0) (c2 : ¬ p2 < p1) (c3 : ¬ p3 < p2) :
    MetFree l (⟨"java/lang/String", "checkBoundsBeginEnd", "(III)V"⟩ : MethodName) (head1 (Jvm.Cond.code (⟨"java/lang/String", "checkBoundsBeginEnd", "(III)V"⟩ : MethodName) jdk_42_method_158_code 3 none :: ws) ({ frames := 1, cells := 0, slots := 0, locals := 15 } : Room)) (fun a U => a = #[(.int p1), (.int p2), (.int p3)] ∧ Z.Warmed39 U.vm ∧ U.heap = h0) (fun _ _ _ _ _ => True) (fun _ U o U' => ∃ v L, o = .returned v ∧ Q22 Z p1 p2 p3 fm h0 n0 v U'.heap L ∧ FrameEnd U o U' L ({ frames := 1, cells := 0, slots := 0, locals := 15 } : Room).cells ({ frames := 1, cells := 0, slots := 0, locals := 15 } : Room).slots) := by
  refine MetFree.of_bodySF (plainFor_of_name pn_22) hisR ?_
  intro p e s m args below meth c s₁ Bd hml0 hP hK
  obtain ⟨rfl, hZ, hh⟩ := hP
  have hx := Bd.exec
  have hby := Bd.bytes
  have hml : c.maxLocals = 3 := hml0
  have hown : s.vm.findClass "java/lang/String" = some m.cls := findClass_of_methodNamed Bd.named
  have hnm := (name_of_methodNamed Bd.named Bd.method).1
  have X0 : Stand p l e ({ frames := 1, cells := 0, slots := 0, locals := 15 } : Room) s m #[(.int p1), (.int p2), (.int p3)] below meth c s₁ [] 0 0 := Stand.of_body Bd
  have e0 : s₁.heap = h0 := by rw [← hh, Bd.state]; rfl
  have N0 := Fr.nil n0
  have pre0 : ∀ t, Steps p.tables e below (s₁.setTop (mkF m 0 #[.val (.int p1), .val (.int p2), .val (.int p3)] [])) t → Steps p.tables e below (s₁.setTop (entryFrame m #[(.int p1), (.int p2), (.int p3)] 3)) t := fun t k => castTop (ef_22 m p1 p2 p3) k
  obtain ⟨T1, X1, e1, st1⟩ := getS2 X0 hx hZ hown (host := "") (Or.inl (hw _ (List.mem_of_getElem? (i := 132) rfl))) Via.refl e0 SF (g := (mkF m 3 #[.val (.int p1), .val (.int p2), .val (.int p3)] [(.int p3), (.int p2), (.int p1)])) rfl (hb hby d22_3)
  obtain ⟨_, _, ⟨T2, L2, k2, n2⟩, -, X2, ⟨Lc2, hQ2, l2, y2, z2⟩, st2⟩ := Jvm.LawKit.callS X1 hx (y := (⟨"jdk/internal/util/Preconditions", "checkFromToIndex", "(IIILjava/util/function/BiFunction;)I"⟩ : MethodName)) hown (mvT hZ (hw _ (List.mem_of_getElem? (i := 134) rfl))) (mvT hZ (hw _ (List.mem_of_getElem? (i := 135) rfl))) (mvT hZ (hw _ (List.mem_of_getElem? (i := 133) rfl))) (mvT hZ (hw _ (List.mem_of_getElem? (i := 136) rfl))) (by decide) (backOf (W := 0) (rm23 l Z a0 hw [] p1 p2 p3 fm h0 n0 Z0 hfm c1 c2 c3) hZ (hw _ (List.mem_of_getElem? (i := 136) rfl)) (hw _ (List.mem_of_getElem? (i := 133) rfl)) (Nat.le_of_ble_eq_true rfl) (Nat.le_of_ble_eq_true rfl)) (g := (mkF m 6 #[.val (.int p1), .val (.int p2), .val (.int p3)] [fm, (.int p3), (.int p2), (.int p1)])) rfl (by rw [hml]; rfl) (argsL := [(.int p1), (.int p2), (.int p3), fm]) (rest := []) (lenOf pd_o23 rfl) rfl (by show 2 * 0 + _ ≤ _; exact Nat.le_of_eq rfl) (hb hby d22_6) (fun _ _ => ⟨rfl, e1, (Nat.le_of_ble_eq_true rfl), (Nat.le_of_ble_eq_true rfl)⟩)
  dsimp only [Pt.U, Pt.locs, Pt.cells, Pt.slots] at X2 l2 y2 z2 st2 hQ2
  subst l2 y2 z2
  obtain ⟨rfl, N2, eh2⟩ := hQ2
  obtain ⟨fs, hr, hrun, hended, hW, hsame⟩ := X2.leave (v := none) (fun _ => rfl)
  refine ⟨_, _, pre0 _ ?_, hrun, hended, _, _, rfl, ?_, ⟨_, rfl⟩, hW, hsame.mono (by decide) (by decide)⟩
  · show Steps p.tables e below (s₁.setTop (mkF m 0 #[.val (.int p1), .val (.int p2), .val (.int p3)] [])) _
    refine XS.iloadN X0.here hx rfl (hb hby d22_0) rfl ?_
    show Steps p.tables e below (s₁.setTop (mkF m 1 #[.val (.int p1), .val (.int p2), .val (.int p3)] [(.int p1)])) _
    refine XS.iloadN X0.here hx rfl (hb hby d22_1) rfl ?_
    show Steps p.tables e below (s₁.setTop (mkF m 2 #[.val (.int p1), .val (.int p2), .val (.int p3)] [(.int p2), (.int p1)])) _
    refine XS.iloadN X0.here hx rfl (hb hby d22_2) rfl ?_
    show Steps p.tables e below (s₁.setTop (mkF m 3 #[.val (.int p1), .val (.int p2), .val (.int p3)] [(.int p3), (.int p2), (.int p1)])) _
    refine st1 _ ?_
    show Steps p.tables e below (T1.setTop (mkF m 6 #[.val (.int p1), .val (.int p2), .val (.int p3)] [fm, (.int p3), (.int p2), (.int p1)])) _
    refine st2 _ ?_
    show Steps p.tables e below (T2.setTop (mkF m 9 #[.val (.int p1), .val (.int p2), .val (.int p3)] [(.int p1)])) _
    refine XS.pop X2.here hx rfl (hb hby d22_9) rfl rfl ?_
    show Steps p.tables e below (T2.setTop (mkF m 10 #[.val (.int p1), .val (.int p2), .val (.int p3)] [])) _
    exact X2.returnOut hx Bd.returns (hb hby d22_10) hr
  · exact ⟨rfl, Fr.app N0 N2, eh2⟩
def Q24 (Z : State) (p1 p2 p3 : Int32) (fm : Value) (h0 : Heap) (n0 : Nat) (v : Option Value) (h : Heap) (L : List Loc) : Prop := v = some (.int p1) ∧ Fr n0 L ∧ h = h0
theorem d24_0 : decode jdk_42_method_157_code 0 = .ok (.iload_n 0, 1) := by decide +kernel
theorem d24_1 : decode jdk_42_method_157_code 1 = .ok (.iload_n 1, 1) := by decide +kernel
theorem d24_2 : decode jdk_42_method_157_code 2 = .ok (.iload_n 2, 1) := by decide +kernel
theorem d24_3 : decode jdk_42_method_157_code 3 = .ok (.getstatic 1053, 3) := by decide +kernel
theorem d24_6 : decode jdk_42_method_157_code 6 = .ok (.invokestatic 1065, 3) := by decide +kernel
theorem d24_9 : decode jdk_42_method_157_code 9 = .ok (.ireturn, 1) := by decide +kernel
theorem pn_24 : plainName "java/lang/String" = true := by first | (simp [plainName, overriddenIn]; done) | decide +kernel
theorem ef_24 (m : MethodId) (x0 : Int32) (x1 : Int32) (x2 : Int32) : entryFrame m #[(.int x0), (.int x1), (.int x2)] 3 = mkF m 0 #[.val (.int x0), .val (.int x1), .val (.int x2)] [] := by first | (simp [entryFrame, mkF, argsToLocals, Value.category]; done) | rfl
set_option maxRecDepth 65536 in
set_option maxHeartbeats 40000000 in
theorem rm24 (l : Launch) (Z : State) (a0 : Array Value) (hw : ∀ d ∈ tables_1, d.before a0 Z = true) (ws : List Jvm.Cond) (p1 p2 p3 : Int32) (fm : Value) (h0 : Heap) (n0 : Nat) (Z0 : n0 ≤ h0.size) (hfm : fm.isRef = true) (SF : Sta Z h0 "jdk/internal/util/Preconditions" "SIOOBE_FORMATTER" "Ljava/util/function/BiFunction;" fm) (c1 : ¬ ((p3 ||| p1) ||| p2) < 0) (c2 : ¬ (p3 - p1) < p2) :
    MetFree l (⟨"java/lang/String", "checkBoundsOffCount", "(III)I"⟩ : MethodName) (head1 (Jvm.Cond.code (⟨"java/lang/String", "checkBoundsOffCount", "(III)I"⟩ : MethodName) jdk_42_method_157_code 3 (some .int) :: ws) ({ frames := 1, cells := 0, slots := 0, locals := 15 } : Room)) (fun a U => a = #[(.int p1), (.int p2), (.int p3)] ∧ Z.Warmed39 U.vm ∧ U.heap = h0) (fun _ _ _ _ _ => True) (fun _ U o U' => ∃ v L, o = .returned v ∧ Q24 Z p1 p2 p3 fm h0 n0 v U'.heap L ∧ FrameEnd U o U' L ({ frames := 1, cells := 0, slots := 0, locals := 15 } : Room).cells ({ frames := 1, cells := 0, slots := 0, locals := 15 } : Room).slots) := by
  refine MetFree.of_bodySF (plainFor_of_name pn_24) hisR ?_
  intro p e s m args below meth c s₁ Bd hml0 hP hK
  obtain ⟨rfl, hZ, hh⟩ := hP
  have hx := Bd.exec
  have hby := Bd.bytes
  have hml : c.maxLocals = 3 := hml0
  have hown : s.vm.findClass "java/lang/String" = some m.cls := findClass_of_methodNamed Bd.named
  have hnm := (name_of_methodNamed Bd.named Bd.method).1
  have X0 : Stand p l e ({ frames := 1, cells := 0, slots := 0, locals := 15 } : Room) s m #[(.int p1), (.int p2), (.int p3)] below meth c s₁ [] 0 0 := Stand.of_body Bd
  have e0 : s₁.heap = h0 := by rw [← hh, Bd.state]; rfl
  have N0 := Fr.nil n0
  have pre0 : ∀ t, Steps p.tables e below (s₁.setTop (mkF m 0 #[.val (.int p1), .val (.int p2), .val (.int p3)] [])) t → Steps p.tables e below (s₁.setTop (entryFrame m #[(.int p1), (.int p2), (.int p3)] 3)) t := fun t k => castTop (ef_24 m p1 p2 p3) k
  obtain ⟨T1, X1, e1, st1⟩ := getS2 X0 hx hZ hown (host := "") (Or.inl (hw _ (List.mem_of_getElem? (i := 132) rfl))) Via.refl e0 SF (g := (mkF m 3 #[.val (.int p1), .val (.int p2), .val (.int p3)] [(.int p3), (.int p2), (.int p1)])) rfl (hb hby d24_3)
  obtain ⟨_, _, ⟨T2, L2, k2, n2⟩, -, X2, ⟨Lc2, hQ2, l2, y2, z2⟩, st2⟩ := Jvm.LawKit.callS X1 hx (y := (⟨"jdk/internal/util/Preconditions", "checkFromIndexSize", "(IIILjava/util/function/BiFunction;)I"⟩ : MethodName)) hown (mvT hZ (hw _ (List.mem_of_getElem? (i := 140) rfl))) (mvT hZ (hw _ (List.mem_of_getElem? (i := 141) rfl))) (mvT hZ (hw _ (List.mem_of_getElem? (i := 133) rfl))) (mvT hZ (hw _ (List.mem_of_getElem? (i := 142) rfl))) (by decide) (backOf (W := 0) (rm25 l Z a0 hw [] p1 p2 p3 fm h0 n0 Z0 hfm c1 c2) hZ (hw _ (List.mem_of_getElem? (i := 142) rfl)) (hw _ (List.mem_of_getElem? (i := 133) rfl)) (Nat.le_of_ble_eq_true rfl) (Nat.le_of_ble_eq_true rfl)) (g := (mkF m 6 #[.val (.int p1), .val (.int p2), .val (.int p3)] [fm, (.int p3), (.int p2), (.int p1)])) rfl (by rw [hml]; rfl) (argsL := [(.int p1), (.int p2), (.int p3), fm]) (rest := []) (lenOf pd_o23 rfl) rfl (by show 2 * 0 + _ ≤ _; exact Nat.le_of_eq rfl) (hb hby d24_6) (fun _ _ => ⟨rfl, e1, (Nat.le_of_ble_eq_true rfl), (Nat.le_of_ble_eq_true rfl)⟩)
  dsimp only [Pt.U, Pt.locs, Pt.cells, Pt.slots] at X2 l2 y2 z2 st2 hQ2
  subst l2 y2 z2
  obtain ⟨rfl, N2, eh2⟩ := hQ2
  obtain ⟨fs, hr, hrun, hended, hW, hsame⟩ := X2.leave (v := some (.int p1)) (fun h => by rw [Bd.returns] at h; cases h)
  refine ⟨_, _, pre0 _ ?_, hrun, hended, _, _, rfl, ?_, ⟨_, rfl⟩, hW, hsame.mono (by decide) (by decide)⟩
  · show Steps p.tables e below (s₁.setTop (mkF m 0 #[.val (.int p1), .val (.int p2), .val (.int p3)] [])) _
    refine XS.iloadN X0.here hx rfl (hb hby d24_0) rfl ?_
    show Steps p.tables e below (s₁.setTop (mkF m 1 #[.val (.int p1), .val (.int p2), .val (.int p3)] [(.int p1)])) _
    refine XS.iloadN X0.here hx rfl (hb hby d24_1) rfl ?_
    show Steps p.tables e below (s₁.setTop (mkF m 2 #[.val (.int p1), .val (.int p2), .val (.int p3)] [(.int p2), (.int p1)])) _
    refine XS.iloadN X0.here hx rfl (hb hby d24_2) rfl ?_
    show Steps p.tables e below (s₁.setTop (mkF m 3 #[.val (.int p1), .val (.int p2), .val (.int p3)] [(.int p3), (.int p2), (.int p1)])) _
    refine st1 _ ?_
    show Steps p.tables e below (T1.setTop (mkF m 6 #[.val (.int p1), .val (.int p2), .val (.int p3)] [fm, (.int p3), (.int p2), (.int p1)])) _
    refine st2 _ ?_
    show Steps p.tables e below (T2.setTop (mkF m 9 #[.val (.int p1), .val (.int p2), .val (.int p3)] [(.int p1)])) _
    exact retI X2 hx Bd.returns (hb hby d24_9) hr
  · exact ⟨rfl, Fr.app N0 N2, eh2⟩
def Q26 (Z : State) (x : Addr) (z : Int32) (h0 : Heap) (n0 : Nat) (v : Option Value) (h : Heap) (L : List Loc) : Prop := v = some (.int (1 : Int32)) ∧ Fr n0 L ∧ h = h0
theorem d26_0 : decode jdk_42_method_154_code 0 = .ok (.getstatic 38, 3) := by decide +kernel
theorem d26_3 : decode jdk_42_method_154_code 3 = .ok (.ifCond .eq 14, 3) := by decide +kernel
theorem d26_6 : decode jdk_42_method_154_code 6 = .ok (.aload_n 0, 1) := by decide +kernel
theorem d26_7 : decode jdk_42_method_154_code 7 = .ok (.getfield 15, 3) := by decide +kernel
theorem d26_10 : decode jdk_42_method_154_code 10 = .ok (.ifCond .ne 7, 3) := by decide +kernel
theorem d26_13 : decode jdk_42_method_154_code 13 = .ok (.iconst 1, 1) := by decide +kernel
theorem d26_14 : decode jdk_42_method_154_code 14 = .ok (.goto 4, 3) := by decide +kernel
theorem d26_18 : decode jdk_42_method_154_code 18 = .ok (.ireturn, 1) := by decide +kernel
theorem pn_26 : plainName "java/lang/String" = true := by first | (simp [plainName, overriddenIn]; done) | decide +kernel
theorem ef_26 (m : MethodId) (x0 : Addr) : entryFrame m #[(.ref x0)] 1 = mkF m 0 #[.val (.ref x0)] [] := by first | (simp [entryFrame, mkF, argsToLocals, Value.category]; done) | rfl
set_option maxRecDepth 65536 in
set_option maxHeartbeats 40000000 in
theorem rm26 (l : Launch) (Z : State) (a0 : Array Value) (hw : ∀ d ∈ tables_1, d.before a0 Z = true) (ws : List Jvm.Cond) (x : Addr) (z : Int32) (h0 : Heap) (n0 : Nat) (Z0 : n0 ≤ h0.size) (SC : Sta Z h0 "java/lang/String" "COMPACT_STRINGS" "Z" (.int z)) (hz : ¬ z = (0 : Int32)) (FC : Fld Z h0 x "java/lang/String" "coder" "B" (.int 0)) :
    MetFree l (⟨"java/lang/String", "isLatin1", "()Z"⟩ : MethodName) (head1 (Jvm.Cond.code (⟨"java/lang/String", "isLatin1", "()Z"⟩ : MethodName) jdk_42_method_154_code 1 (some .boolean) :: ws) ({ frames := 0, cells := 0, slots := 0, locals := 0 } : Room)) (fun a U => a = #[(.ref x)] ∧ Z.Warmed39 U.vm ∧ U.heap = h0) (fun _ _ _ _ _ => True) (fun _ U o U' => ∃ v L, o = .returned v ∧ Q26 Z x z h0 n0 v U'.heap L ∧ FrameEnd U o U' L ({ frames := 0, cells := 0, slots := 0, locals := 0 } : Room).cells ({ frames := 0, cells := 0, slots := 0, locals := 0 } : Room).slots) := by
  refine MetFree.of_bodySF (plainFor_of_name pn_26) hisR ?_
  intro p e s m args below meth c s₁ Bd hml0 hP hK
  obtain ⟨rfl, hZ, hh⟩ := hP
  have hx := Bd.exec
  have hby := Bd.bytes
  have hml : c.maxLocals = 1 := hml0
  have hown : s.vm.findClass "java/lang/String" = some m.cls := findClass_of_methodNamed Bd.named
  have hnm := (name_of_methodNamed Bd.named Bd.method).1
  have X0 : Stand p l e ({ frames := 0, cells := 0, slots := 0, locals := 0 } : Room) s m #[(.ref x)] below meth c s₁ [] 0 0 := Stand.of_body Bd
  have e0 : s₁.heap = h0 := by rw [← hh, Bd.state]; rfl
  have N0 := Fr.nil n0
  have pre0 : ∀ t, Steps p.tables e below (s₁.setTop (mkF m 0 #[.val (.ref x)] [])) t → Steps p.tables e below (s₁.setTop (entryFrame m #[(.ref x)] 1)) t := fun t k => castTop (ef_26 m x) k
  obtain ⟨T1, X1, e1, st1⟩ := getS2 X0 hx hZ hown (host := "") (Or.inl (hw _ (List.mem_of_getElem? (i := 63) rfl))) Via.refl e0 SC (g := (mkF m 0 #[.val (.ref x)] [])) rfl (hb hby d26_0)
  obtain ⟨T2, X2, e2, st2⟩ := getF X1 hx hZ hown (host := "") (Or.inl (hw _ (List.mem_of_getElem? (i := 25) rfl))) Via.refl e1 FC (g := (mkF m 7 #[.val (.ref x)] [(.ref x)])) rfl rfl (hb hby d26_7)
  obtain ⟨fs, hr, hrun, hended, hW, hsame⟩ := X2.leave (v := some (.int (1 : Int32))) (fun h => by rw [Bd.returns] at h; cases h)
  refine ⟨_, _, pre0 _ ?_, hrun, hended, _, _, rfl, ?_, ⟨_, rfl⟩, hW, hsame.mono (by decide) (by decide)⟩
  · show Steps p.tables e below (s₁.setTop (mkF m 0 #[.val (.ref x)] [])) _
    refine st1 _ ?_
    show Steps p.tables e below (T1.setTop (mkF m 3 #[.val (.ref x)] [(.int z)])) _
    refine XS.ifNo X1.here hx rfl (hb hby d26_3) rfl ((if0 _ _).trans (feq hz).1) ?_
    show Steps p.tables e below (T1.setTop (mkF m 6 #[.val (.ref x)] [])) _
    refine XS.aloadN X1.here hx rfl (hb hby d26_6) rfl rfl ?_
    show Steps p.tables e below (T1.setTop (mkF m 7 #[.val (.ref x)] [(.ref x)])) _
    refine st2 _ ?_
    show Steps p.tables e below (T2.setTop (mkF m 10 #[.val (.ref x)] [(.int (0 : Int32))])) _
    refine XS.ifNo X2.here hx rfl (hb hby d26_10) rfl ((if0 _ _).trans (teq (rfl : (0 : Int32) = 0)).2) ?_
    show Steps p.tables e below (T2.setTop (mkF m 13 #[.val (.ref x)] [])) _
    refine XS.iconst X2.here hx rfl (hb hby d26_13) ?_
    show Steps p.tables e below (T2.setTop (mkF m 14 #[.val (.ref x)] [(.int (1 : Int32))])) _
    refine XS.goto X2.here hx rfl (pc0 := 14) (pc' := 18) rfl (hb hby d26_14) (by decide) (by decide) ?_
    show Steps p.tables e below (T2.setTop (mkF m 18 #[.val (.ref x)] [(.int (1 : Int32))])) _
    exact retN X2 hx (t := .boolean) Bd.returns (by simp) (hb hby d26_18) hr
  · show Q26 Z x z h0 n0 _ T2.heap _
    rw [e2]
    exact ⟨rfl, N0, rfl⟩
def Q21 (Z : State) (x o2 : Addr) (kc : ClassId) (cs ds : List Int32) (z : Int32) (fm : Value) (h0 : Heap) (n0 : Nat) (v : Option Value) (h : Heap) (L : List Loc) : Prop := v = none ∧ Fr n0 L ∧ Keep h0 h [o2] ∧ Arv Z h o2 kc .char (65536 : Int32) ((cs ++ ds).map Value.int) (.int (0 : Int32))
theorem d21_0 : decode jdk_42_method_61_code 0 = .ok (.iload_n 1, 1) := by decide +kernel
theorem d21_1 : decode jdk_42_method_61_code 1 = .ok (.iload_n 2, 1) := by decide +kernel
theorem d21_2 : decode jdk_42_method_61_code 2 = .ok (.aload_n 0, 1) := by decide +kernel
theorem d21_3 : decode jdk_42_method_61_code 3 = .ok (.invokevirtual 505, 3) := by decide +kernel
theorem d21_6 : decode jdk_42_method_61_code 6 = .ok (.invokestatic 521, 3) := by decide +kernel
theorem d21_9 : decode jdk_42_method_61_code 9 = .ok (.iload 4, 2) := by decide +kernel
theorem d21_11 : decode jdk_42_method_61_code 11 = .ok (.iload_n 2, 1) := by decide +kernel
theorem d21_12 : decode jdk_42_method_61_code 12 = .ok (.iload_n 1, 1) := by decide +kernel
theorem d21_13 : decode jdk_42_method_61_code 13 = .ok (.isub, 1) := by decide +kernel
theorem d21_14 : decode jdk_42_method_61_code 14 = .ok (.aload_n 3, 1) := by decide +kernel
theorem d21_15 : decode jdk_42_method_61_code 15 = .ok (.arraylength, 1) := by decide +kernel
theorem d21_16 : decode jdk_42_method_61_code 16 = .ok (.invokestatic 34, 3) := by decide +kernel
theorem d21_19 : decode jdk_42_method_61_code 19 = .ok (.pop, 1) := by decide +kernel
theorem d21_20 : decode jdk_42_method_61_code 20 = .ok (.aload_n 0, 1) := by decide +kernel
theorem d21_21 : decode jdk_42_method_61_code 21 = .ok (.invokevirtual 492, 3) := by decide +kernel
theorem d21_24 : decode jdk_42_method_61_code 24 = .ok (.ifCond .eq 18, 3) := by decide +kernel
theorem d21_27 : decode jdk_42_method_61_code 27 = .ok (.aload_n 0, 1) := by decide +kernel
theorem d21_28 : decode jdk_42_method_61_code 28 = .ok (.getfield 9, 3) := by decide +kernel
theorem d21_31 : decode jdk_42_method_61_code 31 = .ok (.iload_n 1, 1) := by decide +kernel
theorem d21_32 : decode jdk_42_method_61_code 32 = .ok (.iload_n 2, 1) := by decide +kernel
theorem d21_33 : decode jdk_42_method_61_code 33 = .ok (.aload_n 3, 1) := by decide +kernel
theorem d21_34 : decode jdk_42_method_61_code 34 = .ok (.iload 4, 2) := by decide +kernel
theorem d21_36 : decode jdk_42_method_61_code 36 = .ok (.invokestatic 525, 3) := by decide +kernel
theorem d21_39 : decode jdk_42_method_61_code 39 = .ok (.goto 15, 3) := by decide +kernel
theorem d21_54 : decode jdk_42_method_61_code 54 = .ok (.return_, 1) := by decide +kernel
theorem pn_21 : plainName "java/lang/String" = true := by first | (simp [plainName, overriddenIn]; done) | decide +kernel
theorem ef_21 (m : MethodId) (x0 : Addr) (x1 : Int32) (x2 : Int32) (x3 : Addr) (x4 : Int32) : entryFrame m #[(.ref x0), (.int x1), (.int x2), (.ref x3), (.int x4)] 5 = mkF m 0 #[.val (.ref x0), .val (.int x1), .val (.int x2), .val (.ref x3), .val (.int x4)] [] := by first | (simp [entryFrame, mkF, argsToLocals, Value.category]; done) | rfl
set_option maxRecDepth 65536 in
set_option maxHeartbeats 40000000 in
theorem rm21 (l : Launch) (Z : State) (a0 : Array Value) (hw : ∀ d ∈ tables_1, d.before a0 Z = true) (ws : List Jvm.Cond) (x o2 : Addr) (kc : ClassId) (cs ds : List Int32) (z : Int32) (fm : Value) (h0 : Heap) (n0 : Nat) (Z0 : n0 ≤ h0.size) (hfm : fm.isRef = true) (SF : Sta Z h0 "jdk/internal/util/Preconditions" "SIOOBE_FORMATTER" "Ljava/util/function/BiFunction;" fm) (SC : Sta Z h0 "java/lang/String" "COMPACT_STRINGS" "Z" (.int z)) (hz : ¬ z = (0 : Int32)) (hn : ds.length ≤ 15) (hS : cs.length ≤ 15) (hp : ∀ c ∈ ds, ¬ c < 0 ∧ ¬ (255 : Int32) < c) (g_o2 : n0 ≤ o2) (SX : own_S Z h0 x ds) (VD : Arv Z h0 o2 kc .char (65536 : Int32) (cs.map Value.int) (.int (0 : Int32))) :
    MetFree l (⟨"java/lang/String", "getChars", "(II[CI)V"⟩ : MethodName) (head1 (Jvm.Cond.code (⟨"java/lang/String", "getChars", "(II[CI)V"⟩ : MethodName) jdk_42_method_61_code 5 none :: ws) ({ frames := 2, cells := 0, slots := 0, locals := 33 } : Room)) (fun a U => a = #[(.ref x), (.int (0 : Int32)), (.int (Int32.ofNat ds.length)), (.ref o2), (.int (Int32.ofNat cs.length))] ∧ Z.Warmed39 U.vm ∧ U.heap = h0) (fun _ _ _ _ _ => True) (fun _ U o U' => ∃ v L, o = .returned v ∧ Q21 Z x o2 kc cs ds z fm h0 n0 v U'.heap L ∧ FrameEnd U o U' L ({ frames := 2, cells := 0, slots := 0, locals := 33 } : Room).cells ({ frames := 2, cells := 0, slots := 0, locals := 33 } : Room).slots) := by
  refine MetFree.of_bodySF (plainFor_of_name pn_21) hisR ?_
  intro p e s m args below meth c s₁ Bd hml0 hP hK
  obtain ⟨rfl, hZ, hh⟩ := hP
  have hx := Bd.exec
  have hby := Bd.bytes
  have hml : c.maxLocals = 5 := hml0
  have hown : s.vm.findClass "java/lang/String" = some m.cls := findClass_of_methodNamed Bd.named
  have hnm := (name_of_methodNamed Bd.named Bd.method).1
  have X0 : Stand p l e ({ frames := 2, cells := 0, slots := 0, locals := 33 } : Room) s m #[(.ref x), (.int (0 : Int32)), (.int (Int32.ofNat ds.length)), (.ref o2), (.int (Int32.ofNat cs.length))] below meth c s₁ [] 0 0 := Stand.of_body Bd
  have e0 : s₁.heap = h0 := by rw [← hh, Bd.state]; rfl
  have N0 := Fr.nil n0
  have pre0 : ∀ t, Steps p.tables e below (s₁.setTop (mkF m 0 #[.val (.ref x), .val (.int (0 : Int32)), .val (.int (Int32.ofNat ds.length)), .val (.ref o2), .val (.int (Int32.ofNat cs.length))] [])) t → Steps p.tables e below (s₁.setTop (entryFrame m #[(.ref x), (.int (0 : Int32)), (.int (Int32.ofNat ds.length)), (.ref o2), (.int (Int32.ofNat cs.length))] 5)) t := fun t k => castTop (ef_21 m x (0 : Int32) (Int32.ofNat ds.length) o2 (Int32.ofNat cs.length)) k
  obtain ⟨EX, FCo, o0, kb, FV, VS⟩ := id SX
  have ne : o0 ≠ o2 := own_neAA VS VD (by decide)
  have hcd : StrChars.Road.CodA ds 0 (Int32.ofNat ds.length) (ds.map fun c => Value.int (StrChars.lo8 c)) := Or.inl ⟨rfl, rfl, rfl, fun c hc => (hp c hc).2⟩
  have hbd : ∀ c ∈ ds, ¬ c < 0 ∧ ¬ (65535 : Int32) < c := fun c hc => ⟨(hp c hc).1, own_wide (hp c hc).2⟩
  have hln : ∀ d ∈ StrChars.Road.wordsLen, d.before a0 Z = true := fun d hd => hw d (own_lenW d hd)
  obtain ⟨cq1, kq1, qa1, qb1, qc1⟩ := isOf hZ e0 EX
  obtain ⟨_, _, ⟨T1, L1, k1, n1⟩, -, X1, ⟨Lc1, hQ1, l1, y1, z1⟩, st1⟩ := X0.virtualBack hx (y := (⟨"java/lang/String", "length", "()I"⟩ : MethodName)) (z := (⟨"java/lang/String", "length", "()I"⟩ : MethodName)) hown (mvT hZ (hw _ (List.mem_of_getElem? (i := 126) rfl))) (mvT hZ (hw _ (List.mem_of_getElem? (i := 127) rfl))) (notFace_of_selects (args := #[]) (mvT hZ (hw _ (List.mem_of_getElem? (i := 128) rfl)))) (mvT hZ (hw _ (List.mem_of_getElem? (i := 128) rfl))) (mvT hZ (hw _ (List.mem_of_getElem? (i := 53) rfl))) (by decide) (StrChars.Road.lenW (W := 2) hZ hln (kI := 4) (hw _ (List.mem_of_getElem? (i := 5) rfl)) EX FV FCo VS hcd hbd SC hz (by omega) (Nat.le_of_ble_eq_true rfl) (Nat.le_of_ble_eq_true rfl)) qa1 qc1 (g := (mkF m 3 #[.val (.ref x), .val (.int (0 : Int32)), .val (.int (Int32.ofNat ds.length)), .val (.ref o2), .val (.int (Int32.ofNat cs.length))] [(.ref x), (.int (Int32.ofNat ds.length)), (.int (0 : Int32))])) rfl (by rw [hml]; rfl) (Steps.refl _) (argsL := []) (rest := [(.int (Int32.ofNat ds.length)), (.int (0 : Int32))]) (lenOf pd_olen rfl) rfl (by show 2 * 0 + _ ≤ _; exact Nat.le_of_eq rfl) (hb hby d21_3) (fun _ _ => ⟨rfl, e0, (Nat.le_of_ble_eq_true rfl), (Nat.le_of_ble_eq_true rfl)⟩)
  dsimp only [Pt.U, Pt.locs, Pt.cells, Pt.slots] at X1 l1 y1 z1 st1 hQ1
  subst l1 y1 z1
  obtain ⟨rfl, rfl, eh1⟩ := hQ1
  obtain ⟨_, _, ⟨T2, L2, k2, n2⟩, -, X2, ⟨Lc2, hQ2, l2, y2, z2⟩, st2⟩ := Jvm.LawKit.callS X1 hx (y := (⟨"java/lang/String", "checkBoundsBeginEnd", "(III)V"⟩ : MethodName)) hown (mvT hZ (hw _ (List.mem_of_getElem? (i := 129) rfl))) (mvT hZ (hw _ (List.mem_of_getElem? (i := 130) rfl))) (mvT hZ (hw _ (List.mem_of_getElem? (i := 6) rfl))) (mvT hZ (hw _ (List.mem_of_getElem? (i := 131) rfl))) (by decide) (backOf (W := 0) (rm22 l Z a0 hw [] (0 : Int32) (Int32.ofNat ds.length) (Int32.ofNat ds.length) fm h0 n0 Z0 hfm SF (by decide) (own_nneg (by omega)) Int32.lt_irrefl) hZ (hw _ (List.mem_of_getElem? (i := 131) rfl)) (hw _ (List.mem_of_getElem? (i := 6) rfl)) (Nat.le_of_ble_eq_true rfl) (Nat.le_of_ble_eq_true rfl)) (g := (mkF m 6 #[.val (.ref x), .val (.int (0 : Int32)), .val (.int (Int32.ofNat ds.length)), .val (.ref o2), .val (.int (Int32.ofNat cs.length))] [(.int (Int32.ofNat ds.length)), (.int (Int32.ofNat ds.length)), (.int (0 : Int32))])) rfl (by rw [hml]; rfl) (argsL := [(.int (0 : Int32)), (.int (Int32.ofNat ds.length)), (.int (Int32.ofNat ds.length))]) (rest := []) (lenOf pd_o3 rfl) rfl (by show 2 * 0 + _ ≤ _; exact Nat.le_of_eq rfl) (hb hby d21_6) (fun _ _ => ⟨rfl, eh1, (Nat.le_of_ble_eq_true rfl), (Nat.le_of_ble_eq_true rfl)⟩)
  dsimp only [Pt.U, Pt.locs, Pt.cells, Pt.slots] at X2 l2 y2 z2 st2 hQ2
  subst l2 y2 z2
  obtain ⟨rfl, N2, eh2⟩ := hQ2
  obtain ⟨cl2, Ar2, qd2, Sd2, Nd2, Hd2, Gd2⟩ := id VD
  obtain ⟨_, _, ⟨T3, L3, k3, n3⟩, -, X3, ⟨Lc3, hQ3, l3, y3, z3⟩, st3⟩ := Jvm.LawKit.callS X2 hx (y := (⟨"java/lang/String", "checkBoundsOffCount", "(III)I"⟩ : MethodName)) hown (mvT hZ (hw _ (List.mem_of_getElem? (i := 137) rfl))) (mvT hZ (hw _ (List.mem_of_getElem? (i := 138) rfl))) (mvT hZ (hw _ (List.mem_of_getElem? (i := 6) rfl))) (mvT hZ (hw _ (List.mem_of_getElem? (i := 139) rfl))) (by decide) (backOf (W := 0) (rm24 l Z a0 hw [] (Int32.ofNat cs.length) (Int32.ofNat ds.length) (65536 : Int32) fm h0 n0 Z0 hfm SF (own_or hS hn) (own_fit hS hn)) hZ (hw _ (List.mem_of_getElem? (i := 139) rfl)) (hw _ (List.mem_of_getElem? (i := 6) rfl)) (Nat.le_of_ble_eq_true rfl) (Nat.le_of_ble_eq_true rfl)) (g := (mkF m 16 #[.val (.ref x), .val (.int (0 : Int32)), .val (.int (Int32.ofNat ds.length)), .val (.ref o2), .val (.int (Int32.ofNat cs.length))] [(.int (65536 : Int32)), (.int (Int32.ofNat ds.length)), (.int (Int32.ofNat cs.length))])) rfl (by rw [hml]; rfl) (argsL := [(.int (Int32.ofNat cs.length)), (.int (Int32.ofNat ds.length)), (.int (65536 : Int32))]) (rest := []) (lenOf pd_o3i rfl) rfl (by show 2 * 0 + _ ≤ _; exact Nat.le_of_eq rfl) (hb hby d21_16) (fun _ _ => ⟨rfl, eh2, (Nat.le_of_ble_eq_true rfl), (Nat.le_of_ble_eq_true rfl)⟩)
  dsimp only [Pt.U, Pt.locs, Pt.cells, Pt.slots] at X3 l3 y3 z3 st3 hQ3
  subst l3 y3 z3
  obtain ⟨rfl, N3, eh3⟩ := hQ3
  obtain ⟨cq4, kq4, qa4, qb4, qc4⟩ := isOf hZ eh3 EX
  obtain ⟨_, _, ⟨T4, L4, k4, n4⟩, -, X4, ⟨Lc4, hQ4, l4, y4, z4⟩, st4⟩ := X3.virtualBack hx (y := (⟨"java/lang/String", "isLatin1", "()Z"⟩ : MethodName)) (z := (⟨"java/lang/String", "isLatin1", "()Z"⟩ : MethodName)) hown (mvT hZ (hw _ (List.mem_of_getElem? (i := 143) rfl))) (mvT hZ (hw _ (List.mem_of_getElem? (i := 144) rfl))) (notFace_of_selects (args := #[]) (mvT hZ (hw _ (List.mem_of_getElem? (i := 146) rfl)))) (mvT hZ (hw _ (List.mem_of_getElem? (i := 146) rfl))) (mvT hZ (hw _ (List.mem_of_getElem? (i := 145) rfl))) (by decide) (backOf (W := 0) (rm26 l Z a0 hw [] x z h0 n0 Z0 SC hz FCo) hZ (hw _ (List.mem_of_getElem? (i := 147) rfl)) (hw _ (List.mem_of_getElem? (i := 6) rfl)) (Nat.le_of_ble_eq_true rfl) (Nat.le_of_ble_eq_true rfl)) qa4 qc4 (g := (mkF m 21 #[.val (.ref x), .val (.int (0 : Int32)), .val (.int (Int32.ofNat ds.length)), .val (.ref o2), .val (.int (Int32.ofNat cs.length))] [(.ref x)])) rfl (by rw [hml]; rfl) (Steps.refl _) (argsL := []) (rest := []) (lenOf pd_olat rfl) rfl (by show 2 * 0 + _ ≤ _; exact Nat.le_of_eq rfl) (hb hby d21_21) (fun _ _ => ⟨rfl, eh3, (Nat.le_of_ble_eq_true rfl), (Nat.le_of_ble_eq_true rfl)⟩)
  dsimp only [Pt.U, Pt.locs, Pt.cells, Pt.slots] at X4 l4 y4 z4 st4 hQ4
  subst l4 y4 z4
  obtain ⟨rfl, N4, eh4⟩ := hQ4
  obtain ⟨T5, X5, e5, st5⟩ := getF X4 hx hZ hown (host := "") (Or.inl (hw _ (List.mem_of_getElem? (i := 24) rfl))) Via.refl eh4 FV (g := (mkF m 28 #[.val (.ref x), .val (.int (0 : Int32)), .val (.int (Int32.ofNat ds.length)), .val (.ref o2), .val (.int (Int32.ofNat cs.length))] [(.ref x)])) rfl rfl (hb hby d21_28)
  obtain ⟨_, _, ⟨T6, L6, k6, n6⟩, -, X6, ⟨Lc6, hQ6, l6, y6, z6⟩, st6⟩ := Jvm.LawKit.callS X5 hx (y := (⟨"java/lang/StringLatin1", "getChars", "([BII[CI)V"⟩ : MethodName)) hown (mvT hZ (hw _ (List.mem_of_getElem? (i := 148) rfl))) (mvT hZ (hw _ (List.mem_of_getElem? (i := 149) rfl))) (mvT hZ (hw _ (List.mem_of_getElem? (i := 97) rfl))) (mvT hZ (hw _ (List.mem_of_getElem? (i := 150) rfl))) (by decide) (backOf (W := 0) (rm27 l Z a0 hw [] o0 o2 kb kc cs ds h0 n0 Z0 hn hS hp g_o2 VS VD ne) hZ (hw _ (List.mem_of_getElem? (i := 150) rfl)) (hw _ (List.mem_of_getElem? (i := 97) rfl)) (Nat.le_of_ble_eq_true rfl) (Nat.le_of_ble_eq_true rfl)) (g := (mkF m 36 #[.val (.ref x), .val (.int (0 : Int32)), .val (.int (Int32.ofNat ds.length)), .val (.ref o2), .val (.int (Int32.ofNat cs.length))] [(.int (Int32.ofNat cs.length)), (.ref o2), (.int (Int32.ofNat ds.length)), (.int (0 : Int32)), (.ref o0)])) rfl (by rw [hml]; rfl) (argsL := [(.ref o0), (.int (0 : Int32)), (.int (Int32.ofNat ds.length)), (.ref o2), (.int (Int32.ofNat cs.length))]) (rest := []) (lenOf pd_o27 rfl) rfl (by show 2 * 0 + _ ≤ _; exact Nat.le_of_eq rfl) (hb hby d21_36) (fun _ _ => ⟨rfl, e5, (Nat.le_of_ble_eq_true rfl), (Nat.le_of_ble_eq_true rfl)⟩)
  dsimp only [Pt.U, Pt.locs, Pt.cells, Pt.slots] at X6 l6 y6 z6 st6 hQ6
  subst l6 y6 z6
  obtain ⟨rfl, N6, K6, VD6⟩ := hQ6
  obtain ⟨fs, hr, hrun, hended, hW, hsame⟩ := X6.leave (v := none) (fun _ => rfl)
  refine ⟨_, _, pre0 _ ?_, hrun, hended, _, _, rfl, ?_, ⟨_, rfl⟩, hW, hsame.mono (by decide) (by decide)⟩
  · show Steps p.tables e below (s₁.setTop (mkF m 0 #[.val (.ref x), .val (.int (0 : Int32)), .val (.int (Int32.ofNat ds.length)), .val (.ref o2), .val (.int (Int32.ofNat cs.length))] [])) _
    refine XS.iloadN X0.here hx rfl (hb hby d21_0) rfl ?_
    show Steps p.tables e below (s₁.setTop (mkF m 1 #[.val (.ref x), .val (.int (0 : Int32)), .val (.int (Int32.ofNat ds.length)), .val (.ref o2), .val (.int (Int32.ofNat cs.length))] [(.int (0 : Int32))])) _
    refine XS.iloadN X0.here hx rfl (hb hby d21_1) rfl ?_
    show Steps p.tables e below (s₁.setTop (mkF m 2 #[.val (.ref x), .val (.int (0 : Int32)), .val (.int (Int32.ofNat ds.length)), .val (.ref o2), .val (.int (Int32.ofNat cs.length))] [(.int (Int32.ofNat ds.length)), (.int (0 : Int32))])) _
    refine XS.aloadN X0.here hx rfl (hb hby d21_2) rfl rfl ?_
    show Steps p.tables e below (s₁.setTop (mkF m 3 #[.val (.ref x), .val (.int (0 : Int32)), .val (.int (Int32.ofNat ds.length)), .val (.ref o2), .val (.int (Int32.ofNat cs.length))] [(.ref x), (.int (Int32.ofNat ds.length)), (.int (0 : Int32))])) _
    refine st1.trans ?_
    show Steps p.tables e below (T1.setTop (mkF m 6 #[.val (.ref x), .val (.int (0 : Int32)), .val (.int (Int32.ofNat ds.length)), .val (.ref o2), .val (.int (Int32.ofNat cs.length))] [(.int (Int32.ofNat ds.length)), (.int (Int32.ofNat ds.length)), (.int (0 : Int32))])) _
    refine st2 _ ?_
    show Steps p.tables e below (T2.setTop (mkF m 9 #[.val (.ref x), .val (.int (0 : Int32)), .val (.int (Int32.ofNat ds.length)), .val (.ref o2), .val (.int (Int32.ofNat cs.length))] [])) _
    refine XS.iload X2.here hx rfl (hb hby d21_9) rfl ?_
    show Steps p.tables e below (T2.setTop (mkF m 11 #[.val (.ref x), .val (.int (0 : Int32)), .val (.int (Int32.ofNat ds.length)), .val (.ref o2), .val (.int (Int32.ofNat cs.length))] [(.int (Int32.ofNat cs.length))])) _
    refine XS.iloadN X2.here hx rfl (hb hby d21_11) rfl ?_
    show Steps p.tables e below (T2.setTop (mkF m 12 #[.val (.ref x), .val (.int (0 : Int32)), .val (.int (Int32.ofNat ds.length)), .val (.ref o2), .val (.int (Int32.ofNat cs.length))] [(.int (Int32.ofNat ds.length)), (.int (Int32.ofNat cs.length))])) _
    refine XS.iloadN X2.here hx rfl (hb hby d21_12) rfl ?_
    show Steps p.tables e below (T2.setTop (mkF m 13 #[.val (.ref x), .val (.int (0 : Int32)), .val (.int (Int32.ofNat ds.length)), .val (.ref o2), .val (.int (Int32.ofNat cs.length))] [(.int (0 : Int32)), (.int (Int32.ofNat ds.length)), (.int (Int32.ofNat cs.length))])) _
    refine XS.isub X2.here hx rfl (hb hby d21_13) rfl ?_
    show Steps p.tables e below (T2.setTop (mkF m 14 #[.val (.ref x), .val (.int (0 : Int32)), .val (.int (Int32.ofNat ds.length)), .val (.ref o2), .val (.int (Int32.ofNat cs.length))] [(.int ((Int32.ofNat ds.length) - (0 : Int32))), (.int (Int32.ofNat cs.length))])) _
    rw [Int32.sub_zero]
    show Steps p.tables e below (T2.setTop (mkF m 14 #[.val (.ref x), .val (.int (0 : Int32)), .val (.int (Int32.ofNat ds.length)), .val (.ref o2), .val (.int (Int32.ofNat cs.length))] [(.int (Int32.ofNat ds.length)), (.int (Int32.ofNat cs.length))])) _
    refine XS.aloadN X2.here hx rfl (hb hby d21_14) rfl rfl ?_
    show Steps p.tables e below (T2.setTop (mkF m 15 #[.val (.ref x), .val (.int (0 : Int32)), .val (.int (Int32.ofNat ds.length)), .val (.ref o2), .val (.int (Int32.ofNat cs.length))] [(.ref o2), (.int (Int32.ofNat ds.length)), (.int (Int32.ofNat cs.length))])) _
    refine X2.arraylength hx (cell := cl2) (by rw [eh2]; exact Ar2.1) (State.isArrayOf_alike hZ.alike Ar2.2.1) (g := (mkF m 15 #[.val (.ref x), .val (.int (0 : Int32)), .val (.int (Int32.ofNat ds.length)), .val (.ref o2), .val (.int (Int32.ofNat cs.length))] [(.ref o2), (.int (Int32.ofNat ds.length)), (.int (Int32.ofNat cs.length))])) rfl rfl (hb hby d21_15) _ ?_
    rw [len_of Sd2 Nd2]
    show Steps p.tables e below (T2.setTop (mkF m 16 #[.val (.ref x), .val (.int (0 : Int32)), .val (.int (Int32.ofNat ds.length)), .val (.ref o2), .val (.int (Int32.ofNat cs.length))] [(.int (65536 : Int32)), (.int (Int32.ofNat ds.length)), (.int (Int32.ofNat cs.length))])) _
    refine st3 _ ?_
    show Steps p.tables e below (T3.setTop (mkF m 19 #[.val (.ref x), .val (.int (0 : Int32)), .val (.int (Int32.ofNat ds.length)), .val (.ref o2), .val (.int (Int32.ofNat cs.length))] [(.int (Int32.ofNat cs.length))])) _
    refine XS.pop X3.here hx rfl (hb hby d21_19) rfl rfl ?_
    show Steps p.tables e below (T3.setTop (mkF m 20 #[.val (.ref x), .val (.int (0 : Int32)), .val (.int (Int32.ofNat ds.length)), .val (.ref o2), .val (.int (Int32.ofNat cs.length))] [])) _
    refine XS.aloadN X3.here hx rfl (hb hby d21_20) rfl rfl ?_
    show Steps p.tables e below (T3.setTop (mkF m 21 #[.val (.ref x), .val (.int (0 : Int32)), .val (.int (Int32.ofNat ds.length)), .val (.ref o2), .val (.int (Int32.ofNat cs.length))] [(.ref x)])) _
    refine st4.trans ?_
    show Steps p.tables e below (T4.setTop (mkF m 24 #[.val (.ref x), .val (.int (0 : Int32)), .val (.int (Int32.ofNat ds.length)), .val (.ref o2), .val (.int (Int32.ofNat cs.length))] [(.int (1 : Int32))])) _
    refine XS.ifNo X4.here hx rfl (hb hby d21_24) rfl ((if0 _ _).trans (feq (by decide : ¬ ((1 : Int32) = 0))).1) ?_
    show Steps p.tables e below (T4.setTop (mkF m 27 #[.val (.ref x), .val (.int (0 : Int32)), .val (.int (Int32.ofNat ds.length)), .val (.ref o2), .val (.int (Int32.ofNat cs.length))] [])) _
    refine XS.aloadN X4.here hx rfl (hb hby d21_27) rfl rfl ?_
    show Steps p.tables e below (T4.setTop (mkF m 28 #[.val (.ref x), .val (.int (0 : Int32)), .val (.int (Int32.ofNat ds.length)), .val (.ref o2), .val (.int (Int32.ofNat cs.length))] [(.ref x)])) _
    refine st5 _ ?_
    show Steps p.tables e below (T5.setTop (mkF m 31 #[.val (.ref x), .val (.int (0 : Int32)), .val (.int (Int32.ofNat ds.length)), .val (.ref o2), .val (.int (Int32.ofNat cs.length))] [(.ref o0)])) _
    refine XS.iloadN X5.here hx rfl (hb hby d21_31) rfl ?_
    show Steps p.tables e below (T5.setTop (mkF m 32 #[.val (.ref x), .val (.int (0 : Int32)), .val (.int (Int32.ofNat ds.length)), .val (.ref o2), .val (.int (Int32.ofNat cs.length))] [(.int (0 : Int32)), (.ref o0)])) _
    refine XS.iloadN X5.here hx rfl (hb hby d21_32) rfl ?_
    show Steps p.tables e below (T5.setTop (mkF m 33 #[.val (.ref x), .val (.int (0 : Int32)), .val (.int (Int32.ofNat ds.length)), .val (.ref o2), .val (.int (Int32.ofNat cs.length))] [(.int (Int32.ofNat ds.length)), (.int (0 : Int32)), (.ref o0)])) _
    refine XS.aloadN X5.here hx rfl (hb hby d21_33) rfl rfl ?_
    show Steps p.tables e below (T5.setTop (mkF m 34 #[.val (.ref x), .val (.int (0 : Int32)), .val (.int (Int32.ofNat ds.length)), .val (.ref o2), .val (.int (Int32.ofNat cs.length))] [(.ref o2), (.int (Int32.ofNat ds.length)), (.int (0 : Int32)), (.ref o0)])) _
    refine XS.iload X5.here hx rfl (hb hby d21_34) rfl ?_
    show Steps p.tables e below (T5.setTop (mkF m 36 #[.val (.ref x), .val (.int (0 : Int32)), .val (.int (Int32.ofNat ds.length)), .val (.ref o2), .val (.int (Int32.ofNat cs.length))] [(.int (Int32.ofNat cs.length)), (.ref o2), (.int (Int32.ofNat ds.length)), (.int (0 : Int32)), (.ref o0)])) _
    refine st6 _ ?_
    show Steps p.tables e below (T6.setTop (mkF m 39 #[.val (.ref x), .val (.int (0 : Int32)), .val (.int (Int32.ofNat ds.length)), .val (.ref o2), .val (.int (Int32.ofNat cs.length))] [])) _
    refine XS.goto X6.here hx rfl (pc0 := 39) (pc' := 54) rfl (hb hby d21_39) (by decide) (by decide) ?_
    show Steps p.tables e below (T6.setTop (mkF m 54 #[.val (.ref x), .val (.int (0 : Int32)), .val (.int (Int32.ofNat ds.length)), .val (.ref o2), .val (.int (Int32.ofNat cs.length))] [])) _
    exact X6.returnOut hx Bd.returns (hb hby d21_54) hr
  · exact ⟨rfl, Fr.app (Fr.app (Fr.app (Fr.app (Fr.app N0 (Fr.nil _)) N2) N3) N4) N6, K6, VD6⟩
theorem own_F.keep {Z : State} {h h' : Heap} {n0 : Nat} {o q : Addr} {kq : ClassId} {sz ol : Nat} {ws : List Addr} (K : Keep h h' ws) (n : o ∉ ws) (F : own_F Z h n0 o sz ol q kq) : own_F Z h' n0 o sz ol q kq := by
  obtain ⟨a, b, c, d, e, f, g⟩ := F
  exact ⟨a.keep K, b, c.keep K n, d.keep K n, e.keep K n, f, g⟩
theorem own_add (i j : Nat) : Int32.ofNat i + Int32.ofNat j = Int32.ofNat (i + j) := (Int32.ofNat_add i j).symm
theorem own_res {i j : Nat} (hi : i ≤ 15) (hj : j ≤ 15) : ¬ ((2147483647 : Int32) - Int32.ofNat i) < Int32.ofNat j := by
  have H : ∀ a b : Fin 16, ¬ ((2147483647 : Int32) - Int32.ofNat a.val) < Int32.ofNat b.val := by decide +kernel
  exact H ⟨i, by omega⟩ ⟨j, by omega⟩
theorem own_min15 {i j : Nat} (hi : i ≤ 15) (hj : j ≤ 15) : own_v20_0 (Int32.ofNat j) ((65536 : Int32) - Int32.ofNat i) = Int32.ofNat j := by
  have H : ∀ a b : Fin 16, own_v20_0 (Int32.ofNat b.val) ((65536 : Int32) - Int32.ofNat a.val) = Int32.ofNat b.val := by decide +kernel
  exact H ⟨i, by omega⟩ ⟨j, by omega⟩
theorem own_selP {s : State} {args : Array Value} {y x : MethodName} (hc : y.cls = x.cls) (hsel : (Cond.selects x.cls x x).before args s = true) (hp : s.PrivateAt y) (hi : (Cond.instanceMethod y).before args s = true) (hy : y.cls ≠ "java/lang/invoke/MethodHandle" ∧ y.cls ≠ "java/lang/invoke/VarHandle" := by decide) : (Cond.selects y.cls y y).before args s = true := by
  obtain ⟨c, r, m, h1, h2, h3, h4, k, h5, h6⟩ := Cond.selects_spec hsel
  have h7 := findClass_of_methodNamed h3
  exact selects_self_of_private (by rw [hc]; exact h7) h5 h6 hp hi hy
theorem pd_oI : parseMethodDescriptor "(I)V" = some ⟨[.int], none⟩ := by decide +kernel
theorem pd_oC : parseMethodDescriptor "()[C" = some ⟨[], some (.array .char)⟩ := by decide +kernel
theorem pd_oII : parseMethodDescriptor "(II)I" = some ⟨[.int, .int], some .int⟩ := by decide +kernel
theorem pd_o21 : parseMethodDescriptor "(II[CI)V" = some ⟨[.int, .int, (.array .char), .int], none⟩ := by decide +kernel
def Q7 (Z : State) (a1 x : Addr) (cs ds : List Int32) (ol : Nat) (z : Int32) (fm : Value) (h0 : Heap) (n0 : Nat) (v : Option Value) (h : Heap) (L : List Loc) : Prop := v = none ∧ Fr n0 L ∧ own_K Z n0 h0 h ∧ own_T Z h n0 a1 (cs ++ ds) (ol + ds.length)
theorem d7_0 : decode prog_84_method_3_code 0 = .ok (.aload_n 1, 1) := by decide +kernel
theorem d7_1 : decode prog_84_method_3_code 1 = .ok (.invokeinterface 34 1, 5) := by decide +kernel
theorem d7_6 : decode prog_84_method_3_code 6 = .ok (.istore_n 2, 1) := by decide +kernel
theorem d7_7 : decode prog_84_method_3_code 7 = .ok (.aload_n 0, 1) := by decide +kernel
theorem d7_8 : decode prog_84_method_3_code 8 = .ok (.iload_n 2, 1) := by decide +kernel
theorem d7_9 : decode prog_84_method_3_code 9 = .ok (.invokevirtual 39, 3) := by decide +kernel
theorem d7_12 : decode prog_84_method_3_code 12 = .ok (.iconst 0, 1) := by decide +kernel
theorem d7_13 : decode prog_84_method_3_code 13 = .ok (.istore_n 3, 1) := by decide +kernel
theorem d7_14 : decode prog_84_method_3_code 14 = .ok (.iload_n 3, 1) := by decide +kernel
theorem d7_15 : decode prog_84_method_3_code 15 = .ok (.iload_n 2, 1) := by decide +kernel
theorem d7_16 : decode prog_84_method_3_code 16 = .ok (.if_icmp .ge 147, 3) := by decide +kernel
theorem d7_163 : decode prog_84_method_3_code 163 = .ok (.aload_n 0, 1) := by decide +kernel
theorem d7_164 : decode prog_84_method_3_code 164 = .ok (.dup, 1) := by decide +kernel
theorem d7_165 : decode prog_84_method_3_code 165 = .ok (.getfield 15, 3) := by decide +kernel
theorem d7_168 : decode prog_84_method_3_code 168 = .ok (.iload_n 2, 1) := by decide +kernel
theorem d7_169 : decode prog_84_method_3_code 169 = .ok (.iadd, 1) := by decide +kernel
theorem d7_170 : decode prog_84_method_3_code 170 = .ok (.putfield 15, 3) := by decide +kernel
theorem d7_173 : decode prog_84_method_3_code 173 = .ok (.return_, 1) := by decide +kernel
theorem pn_7 : plainName "com/example/templum/templum/model/TextStore" = true := by first | (simp [plainName, overriddenIn]; done) | decide +kernel
theorem ef_7 (m : MethodId) (x0 : Addr) (x1 : Addr) : entryFrame m #[(.ref x0), (.ref x1)] 8 = mkF m 0 #[.val (.ref x0), .val (.ref x1), .unset, .unset, .unset, .unset, .unset, .unset] [] := by first | (simp [entryFrame, mkF, argsToLocals, Value.category]; done) | rfl
set_option maxRecDepth 65536 in
set_option maxHeartbeats 40000000 in
theorem rm7E (l : Launch) (Z : State) (a0 : Array Value) (hw : ∀ d ∈ tables_1, d.before a0 Z = true) (ws : List Jvm.Cond) (a1 x : Addr) (cs ds : List Int32) (ol : Nat) (z : Int32) (fm : Value) (h0 : Heap) (n0 : Nat) (Z0 : n0 ≤ h0.size) (hfm : fm.isRef = true) (SF : Sta Z Z.heap "jdk/internal/util/Preconditions" "SIOOBE_FORMATTER" "Ljava/util/function/BiFunction;" fm) (SC : Sta Z Z.heap "java/lang/String" "COMPACT_STRINGS" "Z" (.int z)) (hz : ¬ z = (0 : Int32)) (OO : Old Z n0 h0) (hn : ds.length ≤ 15) (hS : cs.length ≤ 15) (hp : ∀ c ∈ ds, ¬ c < 0 ∧ ¬ (255 : Int32) < c) (SX : own_S Z h0 x ds) (T : own_T Z h0 n0 a1 cs ol) (hd : ds = []) :
    MetFree l (⟨"com/example/templum/templum/model/TextStore", "append", "(Ljava/lang/CharSequence;)V"⟩ : MethodName) (head1 (Jvm.Cond.code (⟨"com/example/templum/templum/model/TextStore", "append", "(Ljava/lang/CharSequence;)V"⟩ : MethodName) prog_84_method_3_code 8 none :: ws) ({ frames := 3, cells := 0, slots := 0, locals := 49 } : Room)) (fun a U => a = #[(.ref a1), (.ref x)] ∧ Z.Warmed39 U.vm ∧ U.heap = h0) (fun _ _ _ _ _ => True) (fun _ U o U' => ∃ v L, o = .returned v ∧ Q7 Z a1 x cs ds ol z fm h0 n0 v U'.heap L ∧ FrameEnd U o U' L ({ frames := 3, cells := 0, slots := 0, locals := 49 } : Room).cells ({ frames := 3, cells := 0, slots := 0, locals := 49 } : Room).slots) := by
  refine MetFree.of_bodySF (plainFor_of_name pn_7) hisR ?_
  intro p e s m args below meth c s₁ Bd hml0 hP hK
  obtain ⟨rfl, hZ, hh⟩ := hP
  have hx := Bd.exec
  have hby := Bd.bytes
  have hml : c.maxLocals = 8 := hml0
  have hown : s.vm.findClass "com/example/templum/templum/model/TextStore" = some m.cls := findClass_of_methodNamed Bd.named
  have hnm := (name_of_methodNamed Bd.named Bd.method).1
  have X0 : Stand p l e ({ frames := 3, cells := 0, slots := 0, locals := 49 } : Room) s m #[(.ref a1), (.ref x)] below meth c s₁ [] 0 0 := Stand.of_body Bd
  have e0 : s₁.heap = h0 := by rw [← hh, Bd.state]; rfl
  have N0 := Fr.nil n0
  have pre0 : ∀ t, Steps p.tables e below (s₁.setTop (mkF m 0 #[.val (.ref a1), .val (.ref x), .unset, .unset, .unset, .unset, .unset, .unset] [])) t → Steps p.tables e below (s₁.setTop (entryFrame m #[(.ref a1), (.ref x)] 8)) t := fun t k => castTop (ef_7 m a1 x) k
  obtain ⟨EX, FCo, o0, kb, FV, VS⟩ := id SX
  have hcd : StrChars.Road.CodA ds 0 (Int32.ofNat ds.length) (ds.map fun c => Value.int (StrChars.lo8 c)) := Or.inl ⟨rfl, rfl, rfl, fun c hc => (hp c hc).2⟩
  have hbd : ∀ c ∈ ds, ¬ c < 0 ∧ ¬ (65535 : Int32) < c := fun c hc => ⟨(hp c hc).1, own_wide (hp c hc).2⟩
  have hln : ∀ d ∈ StrChars.Road.wordsLen, d.before a0 Z = true := fun d hd => hw d (own_lenW d hd)
  have wi := (hw _ (List.mem_of_getElem? (i := 5) rfl))
  have wt := (hw _ (List.mem_of_getElem? (i := 27) rfl))
  obtain ⟨q, kq, F0⟩ := T.F
  subst hd
  obtain ⟨cq1, kq1, qa1, qb1, qc1⟩ := isOf hZ e0 EX
  obtain ⟨_, _, ⟨T1, L1, k1, n1⟩, -, X1, ⟨Lc1, hQ1, l1, y1, z1⟩, st1⟩ := X0.interfaceBack hx (xi := (⟨"java/lang/CharSequence", "length", "()I"⟩ : MethodName)) (y := (⟨"java/lang/String", "length", "()I"⟩ : MethodName)) hown (mvT hZ (hw _ (List.mem_of_getElem? (i := 49) rfl))) (mvT hZ (hw _ (List.mem_of_getElem? (i := 50) rfl))) (mvT hZ (hw _ (List.mem_of_getElem? (i := 51) rfl))) (mvT hZ (hw _ (List.mem_of_getElem? (i := 52) rfl))) (mvT hZ (hw _ (List.mem_of_getElem? (i := 53) rfl))) (mvT hZ (hw _ (List.mem_of_getElem? (i := 54) rfl))) (mvT hZ (hw _ (List.mem_of_getElem? (i := 55) rfl))) (mvT hZ (hw _ (List.mem_of_getElem? (i := 56) rfl))) (by decide) (StrChars.Road.lenW (W := 0) hZ hln (kI := 4) wi EX FV FCo VS hcd hbd (Sta.ext OO.2 SC) hz (by omega) (Nat.le_of_ble_eq_true rfl) (Nat.le_of_ble_eq_true rfl)) qa1 qb1 qc1 (g := (mkF m 1 #[.val (.ref a1), .val (.ref x), .unset, .unset, .unset, .unset, .unset, .unset] [(.ref x)])) rfl (by rw [hml]; rfl) (Steps.refl _) (argsL := []) (rest := []) (lenOf pd_olen rfl) rfl (by show 2 * 0 + _ ≤ _; exact Nat.le_of_eq rfl) (hb hby d7_1) (fun _ _ => ⟨rfl, e0, (Nat.le_of_ble_eq_true rfl), (Nat.le_of_ble_eq_true rfl)⟩)
  dsimp only [Pt.U, Pt.locs, Pt.cells, Pt.slots] at X1 l1 y1 z1 st1 hQ1
  subst l1 y1 z1
  obtain ⟨rfl, rfl, eh1⟩ := hQ1
  obtain ⟨cq2, q2a, q2b⟩ := (F0.1).cell
  obtain ⟨_, _, ⟨T2, L2, k2, n2⟩, -, X2, ⟨Lc2, hQ2, l2, y2, z2⟩, st2⟩ := X1.privateBack hx (y := (⟨"com/example/templum/templum/model/TextStore", "reserve", "(I)V"⟩ : MethodName)) hown (mvT hZ (hw _ (List.mem_of_getElem? (i := 64) rfl))) (mvT hZ (hw _ (List.mem_of_getElem? (i := 65) rfl))) (own_selP (x := (⟨"com/example/templum/templum/model/TextStore", "append", "(Ljava/lang/CharSequence;)V"⟩ : MethodName)) rfl (mvT hZ (hw _ (List.mem_of_getElem? (i := 47) rfl))) (Cond.privateMethod_at (mvP hZ (hw _ (List.mem_of_getElem? (i := 66) rfl)) (args := #[]))) (mvT hZ (hw _ (List.mem_of_getElem? (i := 65) rfl)))) (Cond.privateMethod_at (mvP hZ (hw _ (List.mem_of_getElem? (i := 66) rfl)) (args := #[]))) (mvT hZ (hw _ (List.mem_of_getElem? (i := 67) rfl))) (by decide) (backOf (W := 0) (rm10 l Z a0 hw [] a1 (Int32.ofNat ([] : List Int32).length) (Int32.ofNat cs.length) h0 n0 Z0 F0.2.2.1 (own_res hS hn)) hZ (hw _ (List.mem_of_getElem? (i := 67) rfl)) (hw _ (List.mem_of_getElem? (i := 28) rfl)) (Nat.le_of_ble_eq_true rfl) (Nat.le_of_ble_eq_true rfl)) (g := (mkF m 9 #[.val (.ref a1), .val (.ref x), .val (.int (Int32.ofNat ([] : List Int32).length)), .unset, .unset, .unset, .unset, .unset] [(.int (Int32.ofNat ([] : List Int32).length)), (.ref a1)])) rfl (by rw [hml]; rfl) (Steps.refl _) (a := a1) (by rw [eh1]; exact q2a) q2b (argsL := [(.int (Int32.ofNat ([] : List Int32).length))]) (rest := []) (lenOf pd_oI rfl) rfl (by show 2 * 0 + _ ≤ _; exact Nat.le_of_eq rfl) (hb hby d7_9) (fun _ _ => ⟨rfl, eh1, (Nat.le_of_ble_eq_true rfl), (Nat.le_of_ble_eq_true rfl)⟩)
  dsimp only [Pt.U, Pt.locs, Pt.cells, Pt.slots] at X2 l2 y2 z2 st2 hQ2
  subst l2 y2 z2
  obtain ⟨rfl, N2, eh2⟩ := hQ2
  obtain ⟨T9a, X9a, e9a, st9a⟩ := getF X2 hx hZ hown (host := "") (Or.inl (hw _ (List.mem_of_getElem? (i := 42) rfl))) Via.refl eh2 F0.2.2.2.1 (g := (mkF m 165 #[.val (.ref a1), .val (.ref x), .val (.int (Int32.ofNat ([] : List Int32).length)), .val (.int (0 : Int32)), .unset, .unset, .unset, .unset] [(.ref a1), (.ref a1)])) rfl rfl (hb hby d7_165)
  obtain ⟨T9b, h9b, X9b, e9b, W9b, st9b⟩ := putF X9a hx hZ hown (host := "") (Or.inl (hw _ (List.mem_of_getElem? (i := 42) rfl))) Via.refl e9a F0.2.2.2.1 F0.1 (Or.inl (hw _ (List.mem_of_getElem? (i := 43) rfl))) wt (ty := .int) (by decide) rfl rfl (g := (mkF m 170 #[.val (.ref a1), .val (.ref x), .val (.int (Int32.ofNat ([] : List Int32).length)), .val (.int (0 : Int32)), .unset, .unset, .unset, .unset] [(.int (Int32.ofNat (ol + ([] : List Int32).length))), (.ref a1)])) rfl rfl (hb hby d7_170)
  have N9b := Fr.snoc X9b (Fr.app (Fr.app N0 (Fr.nil _)) N2) F0.2.1
  obtain ⟨fs, hr, hrun, hended, hW, hsame⟩ := X9b.leave (v := none) (fun _ => rfl)
  refine ⟨_, _, pre0 _ ?_, hrun, hended, _, _, rfl, ?_, ⟨_, rfl⟩, hW, hsame.mono (by decide) (by decide)⟩
  · show Steps p.tables e below (s₁.setTop (mkF m 0 #[.val (.ref a1), .val (.ref x), .unset, .unset, .unset, .unset, .unset, .unset] [])) _
    refine XS.aloadN X0.here hx rfl (hb hby d7_0) rfl rfl ?_
    show Steps p.tables e below (s₁.setTop (mkF m 1 #[.val (.ref a1), .val (.ref x), .unset, .unset, .unset, .unset, .unset, .unset] [(.ref x)])) _
    refine st1.trans ?_
    show Steps p.tables e below (T1.setTop (mkF m 6 #[.val (.ref a1), .val (.ref x), .unset, .unset, .unset, .unset, .unset, .unset] [(.int (Int32.ofNat ([] : List Int32).length))])) _
    refine XS.istoreN X1.here hx rfl (hb hby d7_6) rfl (l' := #[.val (.ref a1), .val (.ref x), .val (.int (Int32.ofNat ([] : List Int32).length)), .unset, .unset, .unset, .unset, .unset]) rfl ?_
    show Steps p.tables e below (T1.setTop (mkF m 7 #[.val (.ref a1), .val (.ref x), .val (.int (Int32.ofNat ([] : List Int32).length)), .unset, .unset, .unset, .unset, .unset] [])) _
    refine XS.aloadN X1.here hx rfl (hb hby d7_7) rfl rfl ?_
    show Steps p.tables e below (T1.setTop (mkF m 8 #[.val (.ref a1), .val (.ref x), .val (.int (Int32.ofNat ([] : List Int32).length)), .unset, .unset, .unset, .unset, .unset] [(.ref a1)])) _
    refine XS.iloadN X1.here hx rfl (hb hby d7_8) rfl ?_
    show Steps p.tables e below (T1.setTop (mkF m 9 #[.val (.ref a1), .val (.ref x), .val (.int (Int32.ofNat ([] : List Int32).length)), .unset, .unset, .unset, .unset, .unset] [(.int (Int32.ofNat ([] : List Int32).length)), (.ref a1)])) _
    refine st2.trans ?_
    show Steps p.tables e below (T2.setTop (mkF m 12 #[.val (.ref a1), .val (.ref x), .val (.int (Int32.ofNat ([] : List Int32).length)), .unset, .unset, .unset, .unset, .unset] [])) _
    refine XS.iconst X2.here hx rfl (hb hby d7_12) ?_
    show Steps p.tables e below (T2.setTop (mkF m 13 #[.val (.ref a1), .val (.ref x), .val (.int (Int32.ofNat ([] : List Int32).length)), .unset, .unset, .unset, .unset, .unset] [(.int (0 : Int32))])) _
    refine XS.istoreN X2.here hx rfl (hb hby d7_13) rfl (l' := #[.val (.ref a1), .val (.ref x), .val (.int (Int32.ofNat ([] : List Int32).length)), .val (.int (0 : Int32)), .unset, .unset, .unset, .unset]) rfl ?_
    show Steps p.tables e below (T2.setTop (mkF m 14 #[.val (.ref a1), .val (.ref x), .val (.int (Int32.ofNat ([] : List Int32).length)), .val (.int (0 : Int32)), .unset, .unset, .unset, .unset] [])) _
    refine XS.iloadN X2.here hx rfl (hb hby d7_14) rfl ?_
    show Steps p.tables e below (T2.setTop (mkF m 15 #[.val (.ref a1), .val (.ref x), .val (.int (Int32.ofNat ([] : List Int32).length)), .val (.int (0 : Int32)), .unset, .unset, .unset, .unset] [(.int (0 : Int32))])) _
    refine XS.iloadN X2.here hx rfl (hb hby d7_15) rfl ?_
    show Steps p.tables e below (T2.setTop (mkF m 16 #[.val (.ref a1), .val (.ref x), .val (.int (Int32.ofNat ([] : List Int32).length)), .val (.int (0 : Int32)), .unset, .unset, .unset, .unset] [(.int (Int32.ofNat ([] : List Int32).length)), (.int (0 : Int32))])) _
    refine XS.icmpYes X2.here hx rfl (pc0 := 16) (pc' := 163) rfl (hb hby d7_16) rfl (flt (by decide : ¬ ((0 : Int32) < (Int32.ofNat ([] : List Int32).length)))).2.1 (by decide) (by decide) ?_
    show Steps p.tables e below (T2.setTop (mkF m 163 #[.val (.ref a1), .val (.ref x), .val (.int (Int32.ofNat ([] : List Int32).length)), .val (.int (0 : Int32)), .unset, .unset, .unset, .unset] [])) _
    refine XS.aloadN X2.here hx rfl (hb hby d7_163) rfl rfl ?_
    show Steps p.tables e below (T2.setTop (mkF m 164 #[.val (.ref a1), .val (.ref x), .val (.int (Int32.ofNat ([] : List Int32).length)), .val (.int (0 : Int32)), .unset, .unset, .unset, .unset] [(.ref a1)])) _
    refine XS.dup X2.here hx rfl (hb hby d7_164) rfl rfl ?_
    show Steps p.tables e below (T2.setTop (mkF m 165 #[.val (.ref a1), .val (.ref x), .val (.int (Int32.ofNat ([] : List Int32).length)), .val (.int (0 : Int32)), .unset, .unset, .unset, .unset] [(.ref a1), (.ref a1)])) _
    refine st9a _ ?_
    show Steps p.tables e below (T9a.setTop (mkF m 168 #[.val (.ref a1), .val (.ref x), .val (.int (Int32.ofNat ([] : List Int32).length)), .val (.int (0 : Int32)), .unset, .unset, .unset, .unset] [(.int (Int32.ofNat ol)), (.ref a1)])) _
    refine XS.iloadN X9a.here hx rfl (hb hby d7_168) rfl ?_
    show Steps p.tables e below (T9a.setTop (mkF m 169 #[.val (.ref a1), .val (.ref x), .val (.int (Int32.ofNat ([] : List Int32).length)), .val (.int (0 : Int32)), .unset, .unset, .unset, .unset] [(.int (Int32.ofNat ([] : List Int32).length)), (.int (Int32.ofNat ol)), (.ref a1)])) _
    refine XS.iadd X9a.here hx rfl (hb hby d7_169) rfl ?_
    show Steps p.tables e below (T9a.setTop (mkF m 170 #[.val (.ref a1), .val (.ref x), .val (.int (Int32.ofNat ([] : List Int32).length)), .val (.int (0 : Int32)), .unset, .unset, .unset, .unset] [(.int ((Int32.ofNat ol) + (Int32.ofNat ([] : List Int32).length))), (.ref a1)])) _
    rw [own_add]
    show Steps p.tables e below (T9a.setTop (mkF m 170 #[.val (.ref a1), .val (.ref x), .val (.int (Int32.ofNat ([] : List Int32).length)), .val (.int (0 : Int32)), .unset, .unset, .unset, .unset] [(.int (Int32.ofNat (ol + ([] : List Int32).length))), (.ref a1)])) _
    refine st9b _ ?_
    show Steps p.tables e below (T9b.setTop (mkF m 173 #[.val (.ref a1), .val (.ref x), .val (.int (Int32.ofNat ([] : List Int32).length)), .val (.int (0 : Int32)), .unset, .unset, .unset, .unset] [])) _
    exact X9b.returnOut hx Bd.returns (hb hby d7_173) hr
  · show Q7 Z a1 x cs [] ol z fm h0 n0 _ T9b.heap _
    rw [e9b]
    exact ⟨rfl, N9b, own_K.refl.wr W9b F0.ge F0.O, by rw [List.append_nil]; exact T.opened hw W9b⟩
theorem d7_19 : decode prog_84_method_3_code 19 = .ok (.aload_n 0, 1) := by decide +kernel
theorem d7_20 : decode prog_84_method_3_code 20 = .ok (.invokevirtual 43, 3) := by decide +kernel
theorem d7_23 : decode prog_84_method_3_code 23 = .ok (.astore 4, 2) := by decide +kernel
theorem d7_25 : decode prog_84_method_3_code 25 = .ok (.aload_n 0, 1) := by decide +kernel
theorem d7_26 : decode prog_84_method_3_code 26 = .ok (.getfield 47, 3) := by decide +kernel
theorem d7_29 : decode prog_84_method_3_code 29 = .ok (.ldc 50, 2) := by decide +kernel
theorem d7_31 : decode prog_84_method_3_code 31 = .ok (.iand, 1) := by decide +kernel
theorem d7_32 : decode prog_84_method_3_code 32 = .ok (.istore 5, 2) := by decide +kernel
theorem d7_34 : decode prog_84_method_3_code 34 = .ok (.iload_n 2, 1) := by decide +kernel
theorem d7_35 : decode prog_84_method_3_code 35 = .ok (.iload_n 3, 1) := by decide +kernel
theorem d7_36 : decode prog_84_method_3_code 36 = .ok (.isub, 1) := by decide +kernel
theorem d7_37 : decode prog_84_method_3_code 37 = .ok (.ldc 51, 2) := by decide +kernel
theorem d7_39 : decode prog_84_method_3_code 39 = .ok (.iload 5, 2) := by decide +kernel
theorem d7_41 : decode prog_84_method_3_code 41 = .ok (.isub, 1) := by decide +kernel
theorem d7_42 : decode prog_84_method_3_code 42 = .ok (.invokestatic 52, 3) := by decide +kernel
theorem d7_45 : decode prog_84_method_3_code 45 = .ok (.istore 6, 2) := by decide +kernel
theorem d7_47 : decode prog_84_method_3_code 47 = .ok (.aload_n 1, 1) := by decide +kernel
theorem d7_48 : decode prog_84_method_3_code 48 = .ok (.instanceof 58, 3) := by decide +kernel
theorem d7_51 : decode prog_84_method_3_code 51 = .ok (.ifCond .eq 22, 3) := by decide +kernel
theorem d7_54 : decode prog_84_method_3_code 54 = .ok (.aload_n 1, 1) := by decide +kernel
theorem d7_55 : decode prog_84_method_3_code 55 = .ok (.checkcast 58, 3) := by decide +kernel
theorem d7_58 : decode prog_84_method_3_code 58 = .ok (.iload_n 3, 1) := by decide +kernel
theorem d7_59 : decode prog_84_method_3_code 59 = .ok (.iload_n 3, 1) := by decide +kernel
theorem d7_60 : decode prog_84_method_3_code 60 = .ok (.iload 6, 2) := by decide +kernel
theorem d7_62 : decode prog_84_method_3_code 62 = .ok (.iadd, 1) := by decide +kernel
theorem d7_63 : decode prog_84_method_3_code 63 = .ok (.aload 4, 2) := by decide +kernel
theorem d7_65 : decode prog_84_method_3_code 65 = .ok (.iload 5, 2) := by decide +kernel
theorem d7_67 : decode prog_84_method_3_code 67 = .ok (.invokevirtual 60, 3) := by decide +kernel
theorem d7_70 : decode prog_84_method_3_code 70 = .ok (.goto 74, 3) := by decide +kernel
theorem d7_144 : decode prog_84_method_3_code 144 = .ok (.aload_n 0, 1) := by decide +kernel
theorem d7_145 : decode prog_84_method_3_code 145 = .ok (.dup, 1) := by decide +kernel
theorem d7_146 : decode prog_84_method_3_code 146 = .ok (.getfield 47, 3) := by decide +kernel
theorem d7_149 : decode prog_84_method_3_code 149 = .ok (.iload 6, 2) := by decide +kernel
theorem d7_151 : decode prog_84_method_3_code 151 = .ok (.iadd, 1) := by decide +kernel
theorem d7_152 : decode prog_84_method_3_code 152 = .ok (.putfield 47, 3) := by decide +kernel
theorem d7_155 : decode prog_84_method_3_code 155 = .ok (.iload_n 3, 1) := by decide +kernel
theorem d7_156 : decode prog_84_method_3_code 156 = .ok (.iload 6, 2) := by decide +kernel
theorem d7_158 : decode prog_84_method_3_code 158 = .ok (.iadd, 1) := by decide +kernel
theorem d7_159 : decode prog_84_method_3_code 159 = .ok (.istore_n 3, 1) := by decide +kernel
theorem d7_160 : decode prog_84_method_3_code 160 = .ok (.goto (-146), 3) := by decide +kernel
set_option maxRecDepth 65536 in
set_option maxHeartbeats 40000000 in
theorem rm7A (l : Launch) (Z : State) (a0 : Array Value) (hw : ∀ d ∈ tables_1, d.before a0 Z = true) (ws : List Jvm.Cond) (a1 x : Addr) (ds : List Int32) (ol : Nat) (z : Int32) (fm : Value) (q : Addr) (kq : ClassId) (h0 : Heap) (n0 : Nat) (Z0 : n0 ≤ h0.size) (hfm : fm.isRef = true) (SF : Sta Z Z.heap "jdk/internal/util/Preconditions" "SIOOBE_FORMATTER" "Ljava/util/function/BiFunction;" fm) (SC : Sta Z Z.heap "java/lang/String" "COMPACT_STRINGS" "Z" (.int z)) (hz : ¬ z = (0 : Int32)) (OO : Old Z n0 h0) (hn : ds.length ≤ 15) (hp : ∀ c ∈ ds, ¬ c < 0 ∧ ¬ (255 : Int32) < c) (SX : own_S Z h0 x ds) (U : own_V Z h0 n0 a1 ol q kq) (hd : 0 < ds.length) :
    MetFree l (⟨"com/example/templum/templum/model/TextStore", "append", "(Ljava/lang/CharSequence;)V"⟩ : MethodName) (head1 (Jvm.Cond.code (⟨"com/example/templum/templum/model/TextStore", "append", "(Ljava/lang/CharSequence;)V"⟩ : MethodName) prog_84_method_3_code 8 none :: ws) ({ frames := 3, cells := 1, slots := 65536, locals := 49 } : Room)) (fun a U => a = #[(.ref a1), (.ref x)] ∧ Z.Warmed39 U.vm ∧ U.heap = h0) (fun _ _ _ _ _ => True) (fun _ U o U' => ∃ v L, o = .returned v ∧ Q7 Z a1 x [] ds ol z fm h0 n0 v U'.heap L ∧ FrameEnd U o U' L ({ frames := 3, cells := 1, slots := 65536, locals := 49 } : Room).cells ({ frames := 3, cells := 1, slots := 65536, locals := 49 } : Room).slots) := by
  refine MetFree.of_bodySF (plainFor_of_name pn_7) hisR ?_
  intro p e s m args below meth c s₁ Bd hml0 hP hK
  obtain ⟨rfl, hZ, hh⟩ := hP
  have hx := Bd.exec
  have hby := Bd.bytes
  have hml : c.maxLocals = 8 := hml0
  have hown : s.vm.findClass "com/example/templum/templum/model/TextStore" = some m.cls := findClass_of_methodNamed Bd.named
  have hnm := (name_of_methodNamed Bd.named Bd.method).1
  have X0 : Stand p l e ({ frames := 3, cells := 1, slots := 65536, locals := 49 } : Room) s m #[(.ref a1), (.ref x)] below meth c s₁ [] 0 0 := Stand.of_body Bd
  have e0 : s₁.heap = h0 := by rw [← hh, Bd.state]; rfl
  have N0 := Fr.nil n0
  have pre0 : ∀ t, Steps p.tables e below (s₁.setTop (mkF m 0 #[.val (.ref a1), .val (.ref x), .unset, .unset, .unset, .unset, .unset, .unset] [])) t → Steps p.tables e below (s₁.setTop (entryFrame m #[(.ref a1), (.ref x)] 8)) t := fun t k => castTop (ef_7 m a1 x) k
  obtain ⟨EX, FCo, o0, kb, FV, VS⟩ := id SX
  have hcd : StrChars.Road.CodA ds 0 (Int32.ofNat ds.length) (ds.map fun c => Value.int (StrChars.lo8 c)) := Or.inl ⟨rfl, rfl, rfl, fun c hc => (hp c hc).2⟩
  have hbd : ∀ c ∈ ds, ¬ c < 0 ∧ ¬ (65535 : Int32) < c := fun c hc => ⟨(hp c hc).1, own_wide (hp c hc).2⟩
  have hln : ∀ d ∈ StrChars.Road.wordsLen, d.before a0 Z = true := fun d hd => hw d (own_lenW d hd)
  have wi := (hw _ (List.mem_of_getElem? (i := 5) rfl))
  have wt := (hw _ (List.mem_of_getElem? (i := 27) rfl))
  obtain ⟨F0, Vq0⟩ := id U
  have hpos : (0 : Int32) < (Int32.ofNat ds.length) := own_ltN (i := 0) hd (by omega)
  obtain ⟨cq1, kq1, qa1, qb1, qc1⟩ := isOf hZ e0 EX
  obtain ⟨_, _, ⟨T1, L1, k1, n1⟩, -, X1, ⟨Lc1, hQ1, l1, y1, z1⟩, st1⟩ := X0.interfaceBack hx (xi := (⟨"java/lang/CharSequence", "length", "()I"⟩ : MethodName)) (y := (⟨"java/lang/String", "length", "()I"⟩ : MethodName)) hown (mvT hZ (hw _ (List.mem_of_getElem? (i := 49) rfl))) (mvT hZ (hw _ (List.mem_of_getElem? (i := 50) rfl))) (mvT hZ (hw _ (List.mem_of_getElem? (i := 51) rfl))) (mvT hZ (hw _ (List.mem_of_getElem? (i := 52) rfl))) (mvT hZ (hw _ (List.mem_of_getElem? (i := 53) rfl))) (mvT hZ (hw _ (List.mem_of_getElem? (i := 54) rfl))) (mvT hZ (hw _ (List.mem_of_getElem? (i := 55) rfl))) (mvT hZ (hw _ (List.mem_of_getElem? (i := 56) rfl))) (by decide) (StrChars.Road.lenW (W := 0) hZ hln (kI := 4) wi EX FV FCo VS hcd hbd (Sta.ext OO.2 SC) hz (by omega) (Nat.le_of_ble_eq_true rfl) (Nat.le_of_ble_eq_true rfl)) qa1 qb1 qc1 (g := (mkF m 1 #[.val (.ref a1), .val (.ref x), .unset, .unset, .unset, .unset, .unset, .unset] [(.ref x)])) rfl (by rw [hml]; rfl) (Steps.refl _) (argsL := []) (rest := []) (lenOf pd_olen rfl) rfl (by show 2 * 0 + _ ≤ _; exact Nat.le_of_eq rfl) (hb hby d7_1) (fun _ _ => ⟨rfl, e0, (Nat.le_of_ble_eq_true rfl), (Nat.le_of_ble_eq_true rfl)⟩)
  dsimp only [Pt.U, Pt.locs, Pt.cells, Pt.slots] at X1 l1 y1 z1 st1 hQ1
  subst l1 y1 z1
  obtain ⟨rfl, rfl, eh1⟩ := hQ1
  obtain ⟨cq2, q2a, q2b⟩ := (F0.1).cell
  obtain ⟨_, _, ⟨T2, L2, k2, n2⟩, -, X2, ⟨Lc2, hQ2, l2, y2, z2⟩, st2⟩ := X1.privateBack hx (y := (⟨"com/example/templum/templum/model/TextStore", "reserve", "(I)V"⟩ : MethodName)) hown (mvT hZ (hw _ (List.mem_of_getElem? (i := 64) rfl))) (mvT hZ (hw _ (List.mem_of_getElem? (i := 65) rfl))) (own_selP (x := (⟨"com/example/templum/templum/model/TextStore", "append", "(Ljava/lang/CharSequence;)V"⟩ : MethodName)) rfl (mvT hZ (hw _ (List.mem_of_getElem? (i := 47) rfl))) (Cond.privateMethod_at (mvP hZ (hw _ (List.mem_of_getElem? (i := 66) rfl)) (args := #[]))) (mvT hZ (hw _ (List.mem_of_getElem? (i := 65) rfl)))) (Cond.privateMethod_at (mvP hZ (hw _ (List.mem_of_getElem? (i := 66) rfl)) (args := #[]))) (mvT hZ (hw _ (List.mem_of_getElem? (i := 67) rfl))) (by decide) (backOf (W := 0) (rm10 l Z a0 hw [] a1 (Int32.ofNat ds.length) (Int32.ofNat ([] : List Int32).length) h0 n0 Z0 F0.2.2.1 (own_res (i := 0) (by decide) hn)) hZ (hw _ (List.mem_of_getElem? (i := 67) rfl)) (hw _ (List.mem_of_getElem? (i := 28) rfl)) (Nat.le_of_ble_eq_true rfl) (Nat.le_of_ble_eq_true rfl)) (g := (mkF m 9 #[.val (.ref a1), .val (.ref x), .val (.int (Int32.ofNat ds.length)), .unset, .unset, .unset, .unset, .unset] [(.int (Int32.ofNat ds.length)), (.ref a1)])) rfl (by rw [hml]; rfl) (Steps.refl _) (a := a1) (by rw [eh1]; exact q2a) q2b (argsL := [(.int (Int32.ofNat ds.length))]) (rest := []) (lenOf pd_oI rfl) rfl (by show 2 * 0 + _ ≤ _; exact Nat.le_of_eq rfl) (hb hby d7_9) (fun _ _ => ⟨rfl, eh1, (Nat.le_of_ble_eq_true rfl), (Nat.le_of_ble_eq_true rfl)⟩)
  dsimp only [Pt.U, Pt.locs, Pt.cells, Pt.slots] at X2 l2 y2 z2 st2 hQ2
  subst l2 y2 z2
  obtain ⟨rfl, N2, eh2⟩ := hQ2
  obtain ⟨cq3, q3a, q3b⟩ := (F0.1).cell
  obtain ⟨_, _, ⟨T3, L3, k3, n3⟩, -, X3, ⟨Lc3, hQ3, l3, y3, z3⟩, st3⟩ := X2.privateBack hx (y := (⟨"com/example/templum/templum/model/TextStore", "chunkWithRoom", "()[C"⟩ : MethodName)) hown (mvT hZ (hw _ (List.mem_of_getElem? (i := 109) rfl))) (mvT hZ (hw _ (List.mem_of_getElem? (i := 110) rfl))) (own_selP (x := (⟨"com/example/templum/templum/model/TextStore", "append", "(Ljava/lang/CharSequence;)V"⟩ : MethodName)) rfl (mvT hZ (hw _ (List.mem_of_getElem? (i := 47) rfl))) (Cond.privateMethod_at (mvP hZ (hw _ (List.mem_of_getElem? (i := 111) rfl)) (args := #[]))) (mvT hZ (hw _ (List.mem_of_getElem? (i := 110) rfl)))) (Cond.privateMethod_at (mvP hZ (hw _ (List.mem_of_getElem? (i := 111) rfl)) (args := #[]))) (mvT hZ (hw _ (List.mem_of_getElem? (i := 112) rfl))) (by decide) (backOf (W := 0) (rm19A l Z a0 hw [] a1 q kq ol h0 n0 Z0 U) hZ (hw _ (List.mem_of_getElem? (i := 112) rfl)) (hw _ (List.mem_of_getElem? (i := 28) rfl)) (Nat.le_of_ble_eq_true rfl) (Nat.le_of_ble_eq_true rfl)) (g := (mkF m 20 #[.val (.ref a1), .val (.ref x), .val (.int (Int32.ofNat ds.length)), .val (.int (0 : Int32)), .unset, .unset, .unset, .unset] [(.ref a1)])) rfl (by rw [hml]; rfl) (Steps.refl _) (a := a1) (by rw [eh2]; exact q3a) q3b (argsL := []) (rest := []) (lenOf pd_oC rfl) rfl (by show 2 * 0 + _ ≤ _; exact Nat.le_of_eq rfl) (hb hby d7_20) (fun _ _ => ⟨rfl, eh2, (by decide : 0 + 1 ≤ _), (by decide : 0 + 65536 ≤ _)⟩)
  dsimp only [Pt.U, Pt.locs, Pt.cells, Pt.slots] at X3 l3 y3 z3 st3 hQ3
  subst l3 y3 z3
  obtain ⟨ch, kc, rfl, N3, K3, U3⟩ := hQ3
  obtain ⟨F3, Vq3, gc3, Vc3⟩ := id U3
  have S3 : own_S Z T3.heap x ds := SX.keep wi wt K3
  have O3 := K3.old OO
  have Z3 : n0 ≤ T3.heap.size := Nat.le_trans Z0 K3.size
  obtain ⟨T4, X4, e4, st4⟩ := getF X3 hx hZ hown (host := "") (Or.inl (hw _ (List.mem_of_getElem? (i := 69) rfl))) Via.refl rfl F3.2.2.1 (g := (mkF m 26 #[.val (.ref a1), .val (.ref x), .val (.int (Int32.ofNat ds.length)), .val (.int (0 : Int32)), .val (.ref ch), .unset, .unset, .unset] [(.ref a1)])) rfl rfl (hb hby d7_26)
  obtain ⟨_, _, ⟨T5, L5, k5, n5⟩, -, X5, ⟨Lc5, hQ5, l5, y5, z5⟩, st5⟩ := Jvm.LawKit.callS X4 hx (y := (⟨"java/lang/Math", "min", "(II)I"⟩ : MethodName)) hown (mvT hZ (hw _ (List.mem_of_getElem? (i := 116) rfl))) (mvT hZ (hw _ (List.mem_of_getElem? (i := 117) rfl))) (mvT hZ (hw _ (List.mem_of_getElem? (i := 118) rfl))) (mvT hZ (hw _ (List.mem_of_getElem? (i := 119) rfl))) (by decide) (backOf (W := 0) (rm20 l Z a0 hw [] (Int32.ofNat ds.length) ((65536 : Int32) - (Int32.ofNat ([] : List Int32).length)) T3.heap n0 Z3) hZ (hw _ (List.mem_of_getElem? (i := 119) rfl)) (hw _ (List.mem_of_getElem? (i := 118) rfl)) (Nat.le_of_ble_eq_true rfl) (Nat.le_of_ble_eq_true rfl)) (g := (mkF m 42 #[.val (.ref a1), .val (.ref x), .val (.int (Int32.ofNat ds.length)), .val (.int (0 : Int32)), .val (.ref ch), .val (.int (Int32.ofNat ([] : List Int32).length)), .unset, .unset] [(.int ((65536 : Int32) - (Int32.ofNat ([] : List Int32).length))), (.int (Int32.ofNat ds.length))])) rfl (by rw [hml]; rfl) (argsL := [(.int (Int32.ofNat ds.length)), (.int ((65536 : Int32) - (Int32.ofNat ([] : List Int32).length)))]) (rest := []) (lenOf pd_oII rfl) rfl (by show 2 * 0 + _ ≤ _; exact Nat.le_of_eq rfl) (hb hby d7_42) (fun _ _ => ⟨rfl, e4, (Nat.le_of_ble_eq_true rfl), (Nat.le_of_ble_eq_true rfl)⟩)
  dsimp only [Pt.U, Pt.locs, Pt.cells, Pt.slots] at X5 l5 y5 z5 st5 hQ5
  subst l5 y5 z5
  obtain ⟨rfl, N5, eh5⟩ := hQ5
  obtain ⟨T6, X6, e6, st6⟩ := instY X5 hx hZ hown (hw _ (List.mem_of_getElem? (i := 120) rfl)) eh5 (Ins.self S3.1) (g := (mkF m 48 #[.val (.ref a1), .val (.ref x), .val (.int (Int32.ofNat ds.length)), .val (.int (0 : Int32)), .val (.ref ch), .val (.int (Int32.ofNat ([] : List Int32).length)), .val (.int (Int32.ofNat ds.length)), .unset] [(.ref x)])) rfl rfl (hb hby d7_48)
  obtain ⟨T7, X7, e7, st7⟩ := castY X6 hx hZ hown (hw _ (List.mem_of_getElem? (i := 120) rfl)) e6 (Ins.self S3.1) (g := (mkF m 55 #[.val (.ref a1), .val (.ref x), .val (.int (Int32.ofNat ds.length)), .val (.int (0 : Int32)), .val (.ref ch), .val (.int (Int32.ofNat ([] : List Int32).length)), .val (.int (Int32.ofNat ds.length)), .unset] [(.ref x)])) rfl rfl (hb hby d7_55)
  obtain ⟨cq8, kq8, qa8, qb8, qc8⟩ := isOf hZ e7 S3.1
  obtain ⟨_, _, ⟨T8, L8, k8, n8⟩, -, X8, ⟨Lc8, hQ8, l8, y8, z8⟩, st8⟩ := X7.virtualBack hx (y := (⟨"java/lang/String", "getChars", "(II[CI)V"⟩ : MethodName)) (z := (⟨"java/lang/String", "getChars", "(II[CI)V"⟩ : MethodName)) hown (mvT hZ (hw _ (List.mem_of_getElem? (i := 121) rfl))) (mvT hZ (hw _ (List.mem_of_getElem? (i := 122) rfl))) (notFace_of_selects (args := #[]) (mvT hZ (hw _ (List.mem_of_getElem? (i := 124) rfl)))) (mvT hZ (hw _ (List.mem_of_getElem? (i := 124) rfl))) (mvT hZ (hw _ (List.mem_of_getElem? (i := 123) rfl))) (by decide) (backOf (W := 0) (rm21 l Z a0 hw [] x ch kc [] ds z fm T3.heap n0 Z3 hfm (Sta.ext O3.2 SF) (Sta.ext O3.2 SC) hz hn (by decide) hp gc3 S3 Vc3) hZ (hw _ (List.mem_of_getElem? (i := 125) rfl)) (hw _ (List.mem_of_getElem? (i := 6) rfl)) (Nat.le_of_ble_eq_true rfl) (Nat.le_of_ble_eq_true rfl)) qa8 qc8 (g := (mkF m 67 #[.val (.ref a1), .val (.ref x), .val (.int (Int32.ofNat ds.length)), .val (.int (0 : Int32)), .val (.ref ch), .val (.int (Int32.ofNat ([] : List Int32).length)), .val (.int (Int32.ofNat ds.length)), .unset] [(.int (Int32.ofNat ([] : List Int32).length)), (.ref ch), (.int (Int32.ofNat ds.length)), (.int (0 : Int32)), (.ref x)])) rfl (by rw [hml]; rfl) (Steps.refl _) (argsL := [(.int (0 : Int32)), (.int (Int32.ofNat ds.length)), (.ref ch), (.int (Int32.ofNat ([] : List Int32).length))]) (rest := []) (lenOf pd_o21 rfl) rfl (by show 2 * 0 + _ ≤ _; exact Nat.le_of_eq rfl) (hb hby d7_67) (fun _ _ => ⟨rfl, e7, (Nat.le_of_ble_eq_true rfl), (Nat.le_of_ble_eq_true rfl)⟩)
  dsimp only [Pt.U, Pt.locs, Pt.cells, Pt.slots] at X8 l8 y8 z8 st8 hQ8
  subst l8 y8 z8
  obtain ⟨rfl, N8, K8, V8⟩ := hQ8
  have neq8 : q ≠ ch := own_neAA Vq3 Vc3 (by decide)
  have F8 : own_F Z T8.heap n0 a1 ([] : List Int32).length ol q kq := F3.keep K8 (ninS (F3.neA hw Vc3).symm nin0)
  have Vq8 := Vq3.keep K8 (ninS neq8 nin0)
  have K8' : own_K Z n0 h0 T8.heap := K3.trans ⟨[ch], K8, fun y hy => by cases List.mem_singleton.mp hy; exact ⟨gc3, own_arrO Vc3 (by decide)⟩⟩
  obtain ⟨T8a, X8a, e8a, st8a⟩ := getF X8 hx hZ hown (host := "") (Or.inl (hw _ (List.mem_of_getElem? (i := 69) rfl))) Via.refl rfl F8.2.2.1 (g := (mkF m 146 #[.val (.ref a1), .val (.ref x), .val (.int (Int32.ofNat ds.length)), .val (.int (0 : Int32)), .val (.ref ch), .val (.int (Int32.ofNat ([] : List Int32).length)), .val (.int (Int32.ofNat ds.length)), .unset] [(.ref a1), (.ref a1)])) rfl rfl (hb hby d7_146)
  obtain ⟨T8b, h8b, X8b, e8b, W8b, st8b⟩ := putF X8a hx hZ hown (host := "") (Or.inl (hw _ (List.mem_of_getElem? (i := 69) rfl))) Via.refl e8a F8.2.2.1 F8.1 (Or.inl (hw _ (List.mem_of_getElem? (i := 70) rfl))) wt (ty := .int) (by decide) rfl rfl (g := (mkF m 152 #[.val (.ref a1), .val (.ref x), .val (.int (Int32.ofNat ds.length)), .val (.int (0 : Int32)), .val (.ref ch), .val (.int (Int32.ofNat ([] : List Int32).length)), .val (.int (Int32.ofNat ds.length)), .unset] [(.int (Int32.ofNat (([] : List Int32).length + ds.length))), (.ref a1)])) rfl rfl (hb hby d7_152)
  have N8b := Fr.snoc X8b (Fr.app (Fr.app (Fr.app (Fr.app (Fr.app N0 (Fr.nil _)) N2) N3) N5) N8) F8.2.1
  have F9 := F8.sized hw W8b
  have Vq9 := Vq8.other W8b (F8.neA hw Vq8)
  have V9 := V8.other W8b (F8.neA hw V8)
  have K9 := K8'.wr W8b F8.ge F8.O
  obtain ⟨T9a, X9a, e9a, st9a⟩ := getF X8b hx hZ hown (host := "") (Or.inl (hw _ (List.mem_of_getElem? (i := 42) rfl))) Via.refl e8b F9.2.2.2.1 (g := (mkF m 165 #[.val (.ref a1), .val (.ref x), .val (.int (Int32.ofNat ds.length)), .val (.int (Int32.ofNat ds.length)), .val (.ref ch), .val (.int (Int32.ofNat ([] : List Int32).length)), .val (.int (Int32.ofNat ds.length)), .unset] [(.ref a1), (.ref a1)])) rfl rfl (hb hby d7_165)
  obtain ⟨T9b, h9b, X9b, e9b, W9b, st9b⟩ := putF X9a hx hZ hown (host := "") (Or.inl (hw _ (List.mem_of_getElem? (i := 42) rfl))) Via.refl e9a F9.2.2.2.1 F9.1 (Or.inl (hw _ (List.mem_of_getElem? (i := 43) rfl))) wt (ty := .int) (by decide) rfl rfl (g := (mkF m 170 #[.val (.ref a1), .val (.ref x), .val (.int (Int32.ofNat ds.length)), .val (.int (Int32.ofNat ds.length)), .val (.ref ch), .val (.int (Int32.ofNat ([] : List Int32).length)), .val (.int (Int32.ofNat ds.length)), .unset] [(.int (Int32.ofNat (ol + ds.length))), (.ref a1)])) rfl rfl (hb hby d7_170)
  have N9b := Fr.snoc X9b N8b F9.2.1
  have F10 := F9.open hw W9b
  have Vq10 := Vq9.other W9b (F9.neA hw Vq9)
  have V10 := V9.other W9b (F9.neA hw V9)
  have K10 := K9.wr W9b F9.ge F9.O
  obtain ⟨fs, hr, hrun, hended, hW, hsame⟩ := X9b.leave (v := none) (fun _ => rfl)
  refine ⟨_, _, pre0 _ ?_, hrun, hended, _, _, rfl, ?_, ⟨_, rfl⟩, hW, hsame.mono (by decide) (by decide)⟩
  · show Steps p.tables e below (s₁.setTop (mkF m 0 #[.val (.ref a1), .val (.ref x), .unset, .unset, .unset, .unset, .unset, .unset] [])) _
    refine XS.aloadN X0.here hx rfl (hb hby d7_0) rfl rfl ?_
    show Steps p.tables e below (s₁.setTop (mkF m 1 #[.val (.ref a1), .val (.ref x), .unset, .unset, .unset, .unset, .unset, .unset] [(.ref x)])) _
    refine st1.trans ?_
    show Steps p.tables e below (T1.setTop (mkF m 6 #[.val (.ref a1), .val (.ref x), .unset, .unset, .unset, .unset, .unset, .unset] [(.int (Int32.ofNat ds.length))])) _
    refine XS.istoreN X1.here hx rfl (hb hby d7_6) rfl (l' := #[.val (.ref a1), .val (.ref x), .val (.int (Int32.ofNat ds.length)), .unset, .unset, .unset, .unset, .unset]) rfl ?_
    show Steps p.tables e below (T1.setTop (mkF m 7 #[.val (.ref a1), .val (.ref x), .val (.int (Int32.ofNat ds.length)), .unset, .unset, .unset, .unset, .unset] [])) _
    refine XS.aloadN X1.here hx rfl (hb hby d7_7) rfl rfl ?_
    show Steps p.tables e below (T1.setTop (mkF m 8 #[.val (.ref a1), .val (.ref x), .val (.int (Int32.ofNat ds.length)), .unset, .unset, .unset, .unset, .unset] [(.ref a1)])) _
    refine XS.iloadN X1.here hx rfl (hb hby d7_8) rfl ?_
    show Steps p.tables e below (T1.setTop (mkF m 9 #[.val (.ref a1), .val (.ref x), .val (.int (Int32.ofNat ds.length)), .unset, .unset, .unset, .unset, .unset] [(.int (Int32.ofNat ds.length)), (.ref a1)])) _
    refine st2.trans ?_
    show Steps p.tables e below (T2.setTop (mkF m 12 #[.val (.ref a1), .val (.ref x), .val (.int (Int32.ofNat ds.length)), .unset, .unset, .unset, .unset, .unset] [])) _
    refine XS.iconst X2.here hx rfl (hb hby d7_12) ?_
    show Steps p.tables e below (T2.setTop (mkF m 13 #[.val (.ref a1), .val (.ref x), .val (.int (Int32.ofNat ds.length)), .unset, .unset, .unset, .unset, .unset] [(.int (0 : Int32))])) _
    refine XS.istoreN X2.here hx rfl (hb hby d7_13) rfl (l' := #[.val (.ref a1), .val (.ref x), .val (.int (Int32.ofNat ds.length)), .val (.int (0 : Int32)), .unset, .unset, .unset, .unset]) rfl ?_
    show Steps p.tables e below (T2.setTop (mkF m 14 #[.val (.ref a1), .val (.ref x), .val (.int (Int32.ofNat ds.length)), .val (.int (0 : Int32)), .unset, .unset, .unset, .unset] [])) _
    refine XS.iloadN X2.here hx rfl (hb hby d7_14) rfl ?_
    show Steps p.tables e below (T2.setTop (mkF m 15 #[.val (.ref a1), .val (.ref x), .val (.int (Int32.ofNat ds.length)), .val (.int (0 : Int32)), .unset, .unset, .unset, .unset] [(.int (0 : Int32))])) _
    refine XS.iloadN X2.here hx rfl (hb hby d7_15) rfl ?_
    show Steps p.tables e below (T2.setTop (mkF m 16 #[.val (.ref a1), .val (.ref x), .val (.int (Int32.ofNat ds.length)), .val (.int (0 : Int32)), .unset, .unset, .unset, .unset] [(.int (Int32.ofNat ds.length)), (.int (0 : Int32))])) _
    refine XS.icmpNo X2.here hx rfl (hb hby d7_16) rfl (tlt hpos).2.1 ?_
    show Steps p.tables e below (T2.setTop (mkF m 19 #[.val (.ref a1), .val (.ref x), .val (.int (Int32.ofNat ds.length)), .val (.int (0 : Int32)), .unset, .unset, .unset, .unset] [])) _
    refine XS.aloadN X2.here hx rfl (hb hby d7_19) rfl rfl ?_
    show Steps p.tables e below (T2.setTop (mkF m 20 #[.val (.ref a1), .val (.ref x), .val (.int (Int32.ofNat ds.length)), .val (.int (0 : Int32)), .unset, .unset, .unset, .unset] [(.ref a1)])) _
    refine st3.trans ?_
    show Steps p.tables e below (T3.setTop (mkF m 23 #[.val (.ref a1), .val (.ref x), .val (.int (Int32.ofNat ds.length)), .val (.int (0 : Int32)), .unset, .unset, .unset, .unset] [(.ref ch)])) _
    refine XS.astore X3.here hx rfl (hb hby d7_23) rfl rfl (l' := #[.val (.ref a1), .val (.ref x), .val (.int (Int32.ofNat ds.length)), .val (.int (0 : Int32)), .val (.ref ch), .unset, .unset, .unset]) rfl ?_
    show Steps p.tables e below (T3.setTop (mkF m 25 #[.val (.ref a1), .val (.ref x), .val (.int (Int32.ofNat ds.length)), .val (.int (0 : Int32)), .val (.ref ch), .unset, .unset, .unset] [])) _
    refine XS.aloadN X3.here hx rfl (hb hby d7_25) rfl rfl ?_
    show Steps p.tables e below (T3.setTop (mkF m 26 #[.val (.ref a1), .val (.ref x), .val (.int (Int32.ofNat ds.length)), .val (.int (0 : Int32)), .val (.ref ch), .unset, .unset, .unset] [(.ref a1)])) _
    refine st4 _ ?_
    show Steps p.tables e below (T4.setTop (mkF m 29 #[.val (.ref a1), .val (.ref x), .val (.int (Int32.ofNat ds.length)), .val (.int (0 : Int32)), .val (.ref ch), .unset, .unset, .unset] [(.int (Int32.ofNat ([] : List Int32).length))])) _
    refine X4.ldcInt hx hown (mvT hZ (hw _ (List.mem_of_getElem? (i := 115) rfl))) (g := (mkF m 29 #[.val (.ref a1), .val (.ref x), .val (.int (Int32.ofNat ds.length)), .val (.int (0 : Int32)), .val (.ref ch), .unset, .unset, .unset] [(.int (Int32.ofNat ([] : List Int32).length))])) rfl (hb hby d7_29) _ ?_
    show Steps p.tables e below (T4.setTop (mkF m 31 #[.val (.ref a1), .val (.ref x), .val (.int (Int32.ofNat ds.length)), .val (.int (0 : Int32)), .val (.ref ch), .unset, .unset, .unset] [(.int (65535 : Int32)), (.int (Int32.ofNat ([] : List Int32).length))])) _
    refine XS.iand X4.here hx rfl (hb hby d7_31) rfl ?_
    show Steps p.tables e below (T4.setTop (mkF m 32 #[.val (.ref a1), .val (.ref x), .val (.int (Int32.ofNat ds.length)), .val (.int (0 : Int32)), .val (.ref ch), .unset, .unset, .unset] [(.int ((Int32.ofNat ([] : List Int32).length) &&& (65535 : Int32)))])) _
    rw [own_low (by decide : ([] : List Int32).length ≤ 100)]
    show Steps p.tables e below (T4.setTop (mkF m 32 #[.val (.ref a1), .val (.ref x), .val (.int (Int32.ofNat ds.length)), .val (.int (0 : Int32)), .val (.ref ch), .unset, .unset, .unset] [(.int (Int32.ofNat ([] : List Int32).length))])) _
    refine XS.istore X4.here hx rfl (hb hby d7_32) rfl (l' := #[.val (.ref a1), .val (.ref x), .val (.int (Int32.ofNat ds.length)), .val (.int (0 : Int32)), .val (.ref ch), .val (.int (Int32.ofNat ([] : List Int32).length)), .unset, .unset]) rfl ?_
    show Steps p.tables e below (T4.setTop (mkF m 34 #[.val (.ref a1), .val (.ref x), .val (.int (Int32.ofNat ds.length)), .val (.int (0 : Int32)), .val (.ref ch), .val (.int (Int32.ofNat ([] : List Int32).length)), .unset, .unset] [])) _
    refine XS.iloadN X4.here hx rfl (hb hby d7_34) rfl ?_
    show Steps p.tables e below (T4.setTop (mkF m 35 #[.val (.ref a1), .val (.ref x), .val (.int (Int32.ofNat ds.length)), .val (.int (0 : Int32)), .val (.ref ch), .val (.int (Int32.ofNat ([] : List Int32).length)), .unset, .unset] [(.int (Int32.ofNat ds.length))])) _
    refine XS.iloadN X4.here hx rfl (hb hby d7_35) rfl ?_
    show Steps p.tables e below (T4.setTop (mkF m 36 #[.val (.ref a1), .val (.ref x), .val (.int (Int32.ofNat ds.length)), .val (.int (0 : Int32)), .val (.ref ch), .val (.int (Int32.ofNat ([] : List Int32).length)), .unset, .unset] [(.int (0 : Int32)), (.int (Int32.ofNat ds.length))])) _
    refine XS.isub X4.here hx rfl (hb hby d7_36) rfl ?_
    show Steps p.tables e below (T4.setTop (mkF m 37 #[.val (.ref a1), .val (.ref x), .val (.int (Int32.ofNat ds.length)), .val (.int (0 : Int32)), .val (.ref ch), .val (.int (Int32.ofNat ([] : List Int32).length)), .unset, .unset] [(.int ((Int32.ofNat ds.length) - (0 : Int32)))])) _
    rw [Int32.sub_zero]
    show Steps p.tables e below (T4.setTop (mkF m 37 #[.val (.ref a1), .val (.ref x), .val (.int (Int32.ofNat ds.length)), .val (.int (0 : Int32)), .val (.ref ch), .val (.int (Int32.ofNat ([] : List Int32).length)), .unset, .unset] [(.int (Int32.ofNat ds.length))])) _
    refine X4.ldcInt hx hown (mvT hZ (hw _ (List.mem_of_getElem? (i := 113) rfl))) (g := (mkF m 37 #[.val (.ref a1), .val (.ref x), .val (.int (Int32.ofNat ds.length)), .val (.int (0 : Int32)), .val (.ref ch), .val (.int (Int32.ofNat ([] : List Int32).length)), .unset, .unset] [(.int (Int32.ofNat ds.length))])) rfl (hb hby d7_37) _ ?_
    show Steps p.tables e below (T4.setTop (mkF m 39 #[.val (.ref a1), .val (.ref x), .val (.int (Int32.ofNat ds.length)), .val (.int (0 : Int32)), .val (.ref ch), .val (.int (Int32.ofNat ([] : List Int32).length)), .unset, .unset] [(.int (65536 : Int32)), (.int (Int32.ofNat ds.length))])) _
    refine XS.iload X4.here hx rfl (hb hby d7_39) rfl ?_
    show Steps p.tables e below (T4.setTop (mkF m 41 #[.val (.ref a1), .val (.ref x), .val (.int (Int32.ofNat ds.length)), .val (.int (0 : Int32)), .val (.ref ch), .val (.int (Int32.ofNat ([] : List Int32).length)), .unset, .unset] [(.int (Int32.ofNat ([] : List Int32).length)), (.int (65536 : Int32)), (.int (Int32.ofNat ds.length))])) _
    refine XS.isub X4.here hx rfl (hb hby d7_41) rfl ?_
    show Steps p.tables e below (T4.setTop (mkF m 42 #[.val (.ref a1), .val (.ref x), .val (.int (Int32.ofNat ds.length)), .val (.int (0 : Int32)), .val (.ref ch), .val (.int (Int32.ofNat ([] : List Int32).length)), .unset, .unset] [(.int ((65536 : Int32) - (Int32.ofNat ([] : List Int32).length))), (.int (Int32.ofNat ds.length))])) _
    refine st5 _ ?_
    show Steps p.tables e below (T5.setTop (mkF m 45 #[.val (.ref a1), .val (.ref x), .val (.int (Int32.ofNat ds.length)), .val (.int (0 : Int32)), .val (.ref ch), .val (.int (Int32.ofNat ([] : List Int32).length)), .unset, .unset] [(.int (own_v20_0 (Int32.ofNat ds.length) ((65536 : Int32) - (Int32.ofNat ([] : List Int32).length))))])) _
    rw [own_min15 (i := ([] : List Int32).length) (by decide) hn]
    show Steps p.tables e below (T5.setTop (mkF m 45 #[.val (.ref a1), .val (.ref x), .val (.int (Int32.ofNat ds.length)), .val (.int (0 : Int32)), .val (.ref ch), .val (.int (Int32.ofNat ([] : List Int32).length)), .unset, .unset] [(.int (Int32.ofNat ds.length))])) _
    refine XS.istore X5.here hx rfl (hb hby d7_45) rfl (l' := #[.val (.ref a1), .val (.ref x), .val (.int (Int32.ofNat ds.length)), .val (.int (0 : Int32)), .val (.ref ch), .val (.int (Int32.ofNat ([] : List Int32).length)), .val (.int (Int32.ofNat ds.length)), .unset]) rfl ?_
    show Steps p.tables e below (T5.setTop (mkF m 47 #[.val (.ref a1), .val (.ref x), .val (.int (Int32.ofNat ds.length)), .val (.int (0 : Int32)), .val (.ref ch), .val (.int (Int32.ofNat ([] : List Int32).length)), .val (.int (Int32.ofNat ds.length)), .unset] [])) _
    refine XS.aloadN X5.here hx rfl (hb hby d7_47) rfl rfl ?_
    show Steps p.tables e below (T5.setTop (mkF m 48 #[.val (.ref a1), .val (.ref x), .val (.int (Int32.ofNat ds.length)), .val (.int (0 : Int32)), .val (.ref ch), .val (.int (Int32.ofNat ([] : List Int32).length)), .val (.int (Int32.ofNat ds.length)), .unset] [(.ref x)])) _
    refine st6 _ ?_
    show Steps p.tables e below (T6.setTop (mkF m 51 #[.val (.ref a1), .val (.ref x), .val (.int (Int32.ofNat ds.length)), .val (.int (0 : Int32)), .val (.ref ch), .val (.int (Int32.ofNat ([] : List Int32).length)), .val (.int (Int32.ofNat ds.length)), .unset] [(.int (1 : Int32))])) _
    refine XS.ifNo X6.here hx rfl (hb hby d7_51) rfl ((if0 _ _).trans (feq (by decide : ¬ ((1 : Int32) = 0))).1) ?_
    show Steps p.tables e below (T6.setTop (mkF m 54 #[.val (.ref a1), .val (.ref x), .val (.int (Int32.ofNat ds.length)), .val (.int (0 : Int32)), .val (.ref ch), .val (.int (Int32.ofNat ([] : List Int32).length)), .val (.int (Int32.ofNat ds.length)), .unset] [])) _
    refine XS.aloadN X6.here hx rfl (hb hby d7_54) rfl rfl ?_
    show Steps p.tables e below (T6.setTop (mkF m 55 #[.val (.ref a1), .val (.ref x), .val (.int (Int32.ofNat ds.length)), .val (.int (0 : Int32)), .val (.ref ch), .val (.int (Int32.ofNat ([] : List Int32).length)), .val (.int (Int32.ofNat ds.length)), .unset] [(.ref x)])) _
    refine st7 _ ?_
    show Steps p.tables e below (T7.setTop (mkF m 58 #[.val (.ref a1), .val (.ref x), .val (.int (Int32.ofNat ds.length)), .val (.int (0 : Int32)), .val (.ref ch), .val (.int (Int32.ofNat ([] : List Int32).length)), .val (.int (Int32.ofNat ds.length)), .unset] [(.ref x)])) _
    refine XS.iloadN X7.here hx rfl (hb hby d7_58) rfl ?_
    show Steps p.tables e below (T7.setTop (mkF m 59 #[.val (.ref a1), .val (.ref x), .val (.int (Int32.ofNat ds.length)), .val (.int (0 : Int32)), .val (.ref ch), .val (.int (Int32.ofNat ([] : List Int32).length)), .val (.int (Int32.ofNat ds.length)), .unset] [(.int (0 : Int32)), (.ref x)])) _
    refine XS.iloadN X7.here hx rfl (hb hby d7_59) rfl ?_
    show Steps p.tables e below (T7.setTop (mkF m 60 #[.val (.ref a1), .val (.ref x), .val (.int (Int32.ofNat ds.length)), .val (.int (0 : Int32)), .val (.ref ch), .val (.int (Int32.ofNat ([] : List Int32).length)), .val (.int (Int32.ofNat ds.length)), .unset] [(.int (0 : Int32)), (.int (0 : Int32)), (.ref x)])) _
    refine XS.iload X7.here hx rfl (hb hby d7_60) rfl ?_
    show Steps p.tables e below (T7.setTop (mkF m 62 #[.val (.ref a1), .val (.ref x), .val (.int (Int32.ofNat ds.length)), .val (.int (0 : Int32)), .val (.ref ch), .val (.int (Int32.ofNat ([] : List Int32).length)), .val (.int (Int32.ofNat ds.length)), .unset] [(.int (Int32.ofNat ds.length)), (.int (0 : Int32)), (.int (0 : Int32)), (.ref x)])) _
    refine XS.iadd X7.here hx rfl (hb hby d7_62) rfl ?_
    show Steps p.tables e below (T7.setTop (mkF m 63 #[.val (.ref a1), .val (.ref x), .val (.int (Int32.ofNat ds.length)), .val (.int (0 : Int32)), .val (.ref ch), .val (.int (Int32.ofNat ([] : List Int32).length)), .val (.int (Int32.ofNat ds.length)), .unset] [(.int ((0 : Int32) + (Int32.ofNat ds.length))), (.int (0 : Int32)), (.ref x)])) _
    rw [Int32.zero_add]
    show Steps p.tables e below (T7.setTop (mkF m 63 #[.val (.ref a1), .val (.ref x), .val (.int (Int32.ofNat ds.length)), .val (.int (0 : Int32)), .val (.ref ch), .val (.int (Int32.ofNat ([] : List Int32).length)), .val (.int (Int32.ofNat ds.length)), .unset] [(.int (Int32.ofNat ds.length)), (.int (0 : Int32)), (.ref x)])) _
    refine XS.aload X7.here hx rfl (hb hby d7_63) rfl rfl ?_
    show Steps p.tables e below (T7.setTop (mkF m 65 #[.val (.ref a1), .val (.ref x), .val (.int (Int32.ofNat ds.length)), .val (.int (0 : Int32)), .val (.ref ch), .val (.int (Int32.ofNat ([] : List Int32).length)), .val (.int (Int32.ofNat ds.length)), .unset] [(.ref ch), (.int (Int32.ofNat ds.length)), (.int (0 : Int32)), (.ref x)])) _
    refine XS.iload X7.here hx rfl (hb hby d7_65) rfl ?_
    show Steps p.tables e below (T7.setTop (mkF m 67 #[.val (.ref a1), .val (.ref x), .val (.int (Int32.ofNat ds.length)), .val (.int (0 : Int32)), .val (.ref ch), .val (.int (Int32.ofNat ([] : List Int32).length)), .val (.int (Int32.ofNat ds.length)), .unset] [(.int (Int32.ofNat ([] : List Int32).length)), (.ref ch), (.int (Int32.ofNat ds.length)), (.int (0 : Int32)), (.ref x)])) _
    refine st8.trans ?_
    show Steps p.tables e below (T8.setTop (mkF m 70 #[.val (.ref a1), .val (.ref x), .val (.int (Int32.ofNat ds.length)), .val (.int (0 : Int32)), .val (.ref ch), .val (.int (Int32.ofNat ([] : List Int32).length)), .val (.int (Int32.ofNat ds.length)), .unset] [])) _
    refine XS.goto X8.here hx rfl (pc0 := 70) (pc' := 144) rfl (hb hby d7_70) (by decide) (by decide) ?_
    show Steps p.tables e below (T8.setTop (mkF m 144 #[.val (.ref a1), .val (.ref x), .val (.int (Int32.ofNat ds.length)), .val (.int (0 : Int32)), .val (.ref ch), .val (.int (Int32.ofNat ([] : List Int32).length)), .val (.int (Int32.ofNat ds.length)), .unset] [])) _
    refine XS.aloadN X8.here hx rfl (hb hby d7_144) rfl rfl ?_
    show Steps p.tables e below (T8.setTop (mkF m 145 #[.val (.ref a1), .val (.ref x), .val (.int (Int32.ofNat ds.length)), .val (.int (0 : Int32)), .val (.ref ch), .val (.int (Int32.ofNat ([] : List Int32).length)), .val (.int (Int32.ofNat ds.length)), .unset] [(.ref a1)])) _
    refine XS.dup X8.here hx rfl (hb hby d7_145) rfl rfl ?_
    show Steps p.tables e below (T8.setTop (mkF m 146 #[.val (.ref a1), .val (.ref x), .val (.int (Int32.ofNat ds.length)), .val (.int (0 : Int32)), .val (.ref ch), .val (.int (Int32.ofNat ([] : List Int32).length)), .val (.int (Int32.ofNat ds.length)), .unset] [(.ref a1), (.ref a1)])) _
    refine st8a _ ?_
    show Steps p.tables e below (T8a.setTop (mkF m 149 #[.val (.ref a1), .val (.ref x), .val (.int (Int32.ofNat ds.length)), .val (.int (0 : Int32)), .val (.ref ch), .val (.int (Int32.ofNat ([] : List Int32).length)), .val (.int (Int32.ofNat ds.length)), .unset] [(.int (Int32.ofNat ([] : List Int32).length)), (.ref a1)])) _
    refine XS.iload X8a.here hx rfl (hb hby d7_149) rfl ?_
    show Steps p.tables e below (T8a.setTop (mkF m 151 #[.val (.ref a1), .val (.ref x), .val (.int (Int32.ofNat ds.length)), .val (.int (0 : Int32)), .val (.ref ch), .val (.int (Int32.ofNat ([] : List Int32).length)), .val (.int (Int32.ofNat ds.length)), .unset] [(.int (Int32.ofNat ds.length)), (.int (Int32.ofNat ([] : List Int32).length)), (.ref a1)])) _
    refine XS.iadd X8a.here hx rfl (hb hby d7_151) rfl ?_
    show Steps p.tables e below (T8a.setTop (mkF m 152 #[.val (.ref a1), .val (.ref x), .val (.int (Int32.ofNat ds.length)), .val (.int (0 : Int32)), .val (.ref ch), .val (.int (Int32.ofNat ([] : List Int32).length)), .val (.int (Int32.ofNat ds.length)), .unset] [(.int ((Int32.ofNat ([] : List Int32).length) + (Int32.ofNat ds.length))), (.ref a1)])) _
    rw [own_add]
    show Steps p.tables e below (T8a.setTop (mkF m 152 #[.val (.ref a1), .val (.ref x), .val (.int (Int32.ofNat ds.length)), .val (.int (0 : Int32)), .val (.ref ch), .val (.int (Int32.ofNat ([] : List Int32).length)), .val (.int (Int32.ofNat ds.length)), .unset] [(.int (Int32.ofNat (([] : List Int32).length + ds.length))), (.ref a1)])) _
    refine st8b _ ?_
    show Steps p.tables e below (T8b.setTop (mkF m 155 #[.val (.ref a1), .val (.ref x), .val (.int (Int32.ofNat ds.length)), .val (.int (0 : Int32)), .val (.ref ch), .val (.int (Int32.ofNat ([] : List Int32).length)), .val (.int (Int32.ofNat ds.length)), .unset] [])) _
    refine XS.iloadN X8b.here hx rfl (hb hby d7_155) rfl ?_
    show Steps p.tables e below (T8b.setTop (mkF m 156 #[.val (.ref a1), .val (.ref x), .val (.int (Int32.ofNat ds.length)), .val (.int (0 : Int32)), .val (.ref ch), .val (.int (Int32.ofNat ([] : List Int32).length)), .val (.int (Int32.ofNat ds.length)), .unset] [(.int (0 : Int32))])) _
    refine XS.iload X8b.here hx rfl (hb hby d7_156) rfl ?_
    show Steps p.tables e below (T8b.setTop (mkF m 158 #[.val (.ref a1), .val (.ref x), .val (.int (Int32.ofNat ds.length)), .val (.int (0 : Int32)), .val (.ref ch), .val (.int (Int32.ofNat ([] : List Int32).length)), .val (.int (Int32.ofNat ds.length)), .unset] [(.int (Int32.ofNat ds.length)), (.int (0 : Int32))])) _
    refine XS.iadd X8b.here hx rfl (hb hby d7_158) rfl ?_
    show Steps p.tables e below (T8b.setTop (mkF m 159 #[.val (.ref a1), .val (.ref x), .val (.int (Int32.ofNat ds.length)), .val (.int (0 : Int32)), .val (.ref ch), .val (.int (Int32.ofNat ([] : List Int32).length)), .val (.int (Int32.ofNat ds.length)), .unset] [(.int ((0 : Int32) + (Int32.ofNat ds.length)))])) _
    rw [Int32.zero_add]
    show Steps p.tables e below (T8b.setTop (mkF m 159 #[.val (.ref a1), .val (.ref x), .val (.int (Int32.ofNat ds.length)), .val (.int (0 : Int32)), .val (.ref ch), .val (.int (Int32.ofNat ([] : List Int32).length)), .val (.int (Int32.ofNat ds.length)), .unset] [(.int (Int32.ofNat ds.length))])) _
    refine XS.istoreN X8b.here hx rfl (hb hby d7_159) rfl (l' := #[.val (.ref a1), .val (.ref x), .val (.int (Int32.ofNat ds.length)), .val (.int (Int32.ofNat ds.length)), .val (.ref ch), .val (.int (Int32.ofNat ([] : List Int32).length)), .val (.int (Int32.ofNat ds.length)), .unset]) rfl ?_
    show Steps p.tables e below (T8b.setTop (mkF m 160 #[.val (.ref a1), .val (.ref x), .val (.int (Int32.ofNat ds.length)), .val (.int (Int32.ofNat ds.length)), .val (.ref ch), .val (.int (Int32.ofNat ([] : List Int32).length)), .val (.int (Int32.ofNat ds.length)), .unset] [])) _
    refine XS.goto X8b.here hx rfl (pc0 := 160) (pc' := 14) rfl (hb hby d7_160) (by decide) (by decide) ?_
    show Steps p.tables e below (T8b.setTop (mkF m 14 #[.val (.ref a1), .val (.ref x), .val (.int (Int32.ofNat ds.length)), .val (.int (Int32.ofNat ds.length)), .val (.ref ch), .val (.int (Int32.ofNat ([] : List Int32).length)), .val (.int (Int32.ofNat ds.length)), .unset] [])) _
    refine XS.iloadN X8b.here hx rfl (hb hby d7_14) rfl ?_
    show Steps p.tables e below (T8b.setTop (mkF m 15 #[.val (.ref a1), .val (.ref x), .val (.int (Int32.ofNat ds.length)), .val (.int (Int32.ofNat ds.length)), .val (.ref ch), .val (.int (Int32.ofNat ([] : List Int32).length)), .val (.int (Int32.ofNat ds.length)), .unset] [(.int (Int32.ofNat ds.length))])) _
    refine XS.iloadN X8b.here hx rfl (hb hby d7_15) rfl ?_
    show Steps p.tables e below (T8b.setTop (mkF m 16 #[.val (.ref a1), .val (.ref x), .val (.int (Int32.ofNat ds.length)), .val (.int (Int32.ofNat ds.length)), .val (.ref ch), .val (.int (Int32.ofNat ([] : List Int32).length)), .val (.int (Int32.ofNat ds.length)), .unset] [(.int (Int32.ofNat ds.length)), (.int (Int32.ofNat ds.length))])) _
    refine XS.icmpYes X8b.here hx rfl (pc0 := 16) (pc' := 163) rfl (hb hby d7_16) rfl (flt (Int32.lt_irrefl)).2.1 (by decide) (by decide) ?_
    show Steps p.tables e below (T8b.setTop (mkF m 163 #[.val (.ref a1), .val (.ref x), .val (.int (Int32.ofNat ds.length)), .val (.int (Int32.ofNat ds.length)), .val (.ref ch), .val (.int (Int32.ofNat ([] : List Int32).length)), .val (.int (Int32.ofNat ds.length)), .unset] [])) _
    refine XS.aloadN X8b.here hx rfl (hb hby d7_163) rfl rfl ?_
    show Steps p.tables e below (T8b.setTop (mkF m 164 #[.val (.ref a1), .val (.ref x), .val (.int (Int32.ofNat ds.length)), .val (.int (Int32.ofNat ds.length)), .val (.ref ch), .val (.int (Int32.ofNat ([] : List Int32).length)), .val (.int (Int32.ofNat ds.length)), .unset] [(.ref a1)])) _
    refine XS.dup X8b.here hx rfl (hb hby d7_164) rfl rfl ?_
    show Steps p.tables e below (T8b.setTop (mkF m 165 #[.val (.ref a1), .val (.ref x), .val (.int (Int32.ofNat ds.length)), .val (.int (Int32.ofNat ds.length)), .val (.ref ch), .val (.int (Int32.ofNat ([] : List Int32).length)), .val (.int (Int32.ofNat ds.length)), .unset] [(.ref a1), (.ref a1)])) _
    refine st9a _ ?_
    show Steps p.tables e below (T9a.setTop (mkF m 168 #[.val (.ref a1), .val (.ref x), .val (.int (Int32.ofNat ds.length)), .val (.int (Int32.ofNat ds.length)), .val (.ref ch), .val (.int (Int32.ofNat ([] : List Int32).length)), .val (.int (Int32.ofNat ds.length)), .unset] [(.int (Int32.ofNat ol)), (.ref a1)])) _
    refine XS.iloadN X9a.here hx rfl (hb hby d7_168) rfl ?_
    show Steps p.tables e below (T9a.setTop (mkF m 169 #[.val (.ref a1), .val (.ref x), .val (.int (Int32.ofNat ds.length)), .val (.int (Int32.ofNat ds.length)), .val (.ref ch), .val (.int (Int32.ofNat ([] : List Int32).length)), .val (.int (Int32.ofNat ds.length)), .unset] [(.int (Int32.ofNat ds.length)), (.int (Int32.ofNat ol)), (.ref a1)])) _
    refine XS.iadd X9a.here hx rfl (hb hby d7_169) rfl ?_
    show Steps p.tables e below (T9a.setTop (mkF m 170 #[.val (.ref a1), .val (.ref x), .val (.int (Int32.ofNat ds.length)), .val (.int (Int32.ofNat ds.length)), .val (.ref ch), .val (.int (Int32.ofNat ([] : List Int32).length)), .val (.int (Int32.ofNat ds.length)), .unset] [(.int ((Int32.ofNat ol) + (Int32.ofNat ds.length))), (.ref a1)])) _
    rw [own_add]
    show Steps p.tables e below (T9a.setTop (mkF m 170 #[.val (.ref a1), .val (.ref x), .val (.int (Int32.ofNat ds.length)), .val (.int (Int32.ofNat ds.length)), .val (.ref ch), .val (.int (Int32.ofNat ([] : List Int32).length)), .val (.int (Int32.ofNat ds.length)), .unset] [(.int (Int32.ofNat (ol + ds.length))), (.ref a1)])) _
    refine st9b _ ?_
    show Steps p.tables e below (T9b.setTop (mkF m 173 #[.val (.ref a1), .val (.ref x), .val (.int (Int32.ofNat ds.length)), .val (.int (Int32.ofNat ds.length)), .val (.ref ch), .val (.int (Int32.ofNat ([] : List Int32).length)), .val (.int (Int32.ofNat ds.length)), .unset] [])) _
    exact X9b.returnOut hx Bd.returns (hb hby d7_173) hr
  · show Q7 Z a1 x [] ds ol z fm h0 n0 _ T9b.heap _
    rw [e9b]
    exact ⟨rfl, N9b, K10, Or.inr ⟨q, kq, ch, kc, by rw [List.length_append]; exact F10, Vq10, gc3, V10⟩⟩
set_option maxRecDepth 65536 in
set_option maxHeartbeats 40000000 in
theorem rm7B (l : Launch) (Z : State) (a0 : Array Value) (hw : ∀ d ∈ tables_1, d.before a0 Z = true) (ws : List Jvm.Cond) (a1 x : Addr) (cs ds : List Int32) (ol : Nat) (z : Int32) (fm : Value) (q ch : Addr) (kq kc : ClassId) (h0 : Heap) (n0 : Nat) (Z0 : n0 ≤ h0.size) (hfm : fm.isRef = true) (SF : Sta Z Z.heap "jdk/internal/util/Preconditions" "SIOOBE_FORMATTER" "Ljava/util/function/BiFunction;" fm) (SC : Sta Z Z.heap "java/lang/String" "COMPACT_STRINGS" "Z" (.int z)) (hz : ¬ z = (0 : Int32)) (OO : Old Z n0 h0) (hn : ds.length ≤ 15) (hS : cs.length ≤ 15) (hp : ∀ c ∈ ds, ¬ c < 0 ∧ ¬ (255 : Int32) < c) (SX : own_S Z h0 x ds) (U : own_U Z h0 n0 a1 cs ol q kq ch kc) (hd : 0 < ds.length) :
    MetFree l (⟨"com/example/templum/templum/model/TextStore", "append", "(Ljava/lang/CharSequence;)V"⟩ : MethodName) (head1 (Jvm.Cond.code (⟨"com/example/templum/templum/model/TextStore", "append", "(Ljava/lang/CharSequence;)V"⟩ : MethodName) prog_84_method_3_code 8 none :: ws) ({ frames := 3, cells := 0, slots := 0, locals := 49 } : Room)) (fun a U => a = #[(.ref a1), (.ref x)] ∧ Z.Warmed39 U.vm ∧ U.heap = h0) (fun _ _ _ _ _ => True) (fun _ U o U' => ∃ v L, o = .returned v ∧ Q7 Z a1 x cs ds ol z fm h0 n0 v U'.heap L ∧ FrameEnd U o U' L ({ frames := 3, cells := 0, slots := 0, locals := 49 } : Room).cells ({ frames := 3, cells := 0, slots := 0, locals := 49 } : Room).slots) := by
  refine MetFree.of_bodySF (plainFor_of_name pn_7) hisR ?_
  intro p e s m args below meth c s₁ Bd hml0 hP hK
  obtain ⟨rfl, hZ, hh⟩ := hP
  have hx := Bd.exec
  have hby := Bd.bytes
  have hml : c.maxLocals = 8 := hml0
  have hown : s.vm.findClass "com/example/templum/templum/model/TextStore" = some m.cls := findClass_of_methodNamed Bd.named
  have hnm := (name_of_methodNamed Bd.named Bd.method).1
  have X0 : Stand p l e ({ frames := 3, cells := 0, slots := 0, locals := 49 } : Room) s m #[(.ref a1), (.ref x)] below meth c s₁ [] 0 0 := Stand.of_body Bd
  have e0 : s₁.heap = h0 := by rw [← hh, Bd.state]; rfl
  have N0 := Fr.nil n0
  have pre0 : ∀ t, Steps p.tables e below (s₁.setTop (mkF m 0 #[.val (.ref a1), .val (.ref x), .unset, .unset, .unset, .unset, .unset, .unset] [])) t → Steps p.tables e below (s₁.setTop (entryFrame m #[(.ref a1), (.ref x)] 8)) t := fun t k => castTop (ef_7 m a1 x) k
  obtain ⟨EX, FCo, o0, kb, FV, VS⟩ := id SX
  have hcd : StrChars.Road.CodA ds 0 (Int32.ofNat ds.length) (ds.map fun c => Value.int (StrChars.lo8 c)) := Or.inl ⟨rfl, rfl, rfl, fun c hc => (hp c hc).2⟩
  have hbd : ∀ c ∈ ds, ¬ c < 0 ∧ ¬ (65535 : Int32) < c := fun c hc => ⟨(hp c hc).1, own_wide (hp c hc).2⟩
  have hln : ∀ d ∈ StrChars.Road.wordsLen, d.before a0 Z = true := fun d hd => hw d (own_lenW d hd)
  have wi := (hw _ (List.mem_of_getElem? (i := 5) rfl))
  have wt := (hw _ (List.mem_of_getElem? (i := 27) rfl))
  obtain ⟨F0, Vq0, gch, Vch0⟩ := id U
  have hpos : (0 : Int32) < (Int32.ofNat ds.length) := own_ltN (i := 0) hd (by omega)
  obtain ⟨cq1, kq1, qa1, qb1, qc1⟩ := isOf hZ e0 EX
  obtain ⟨_, _, ⟨T1, L1, k1, n1⟩, -, X1, ⟨Lc1, hQ1, l1, y1, z1⟩, st1⟩ := X0.interfaceBack hx (xi := (⟨"java/lang/CharSequence", "length", "()I"⟩ : MethodName)) (y := (⟨"java/lang/String", "length", "()I"⟩ : MethodName)) hown (mvT hZ (hw _ (List.mem_of_getElem? (i := 49) rfl))) (mvT hZ (hw _ (List.mem_of_getElem? (i := 50) rfl))) (mvT hZ (hw _ (List.mem_of_getElem? (i := 51) rfl))) (mvT hZ (hw _ (List.mem_of_getElem? (i := 52) rfl))) (mvT hZ (hw _ (List.mem_of_getElem? (i := 53) rfl))) (mvT hZ (hw _ (List.mem_of_getElem? (i := 54) rfl))) (mvT hZ (hw _ (List.mem_of_getElem? (i := 55) rfl))) (mvT hZ (hw _ (List.mem_of_getElem? (i := 56) rfl))) (by decide) (StrChars.Road.lenW (W := 0) hZ hln (kI := 4) wi EX FV FCo VS hcd hbd (Sta.ext OO.2 SC) hz (by omega) (Nat.le_of_ble_eq_true rfl) (Nat.le_of_ble_eq_true rfl)) qa1 qb1 qc1 (g := (mkF m 1 #[.val (.ref a1), .val (.ref x), .unset, .unset, .unset, .unset, .unset, .unset] [(.ref x)])) rfl (by rw [hml]; rfl) (Steps.refl _) (argsL := []) (rest := []) (lenOf pd_olen rfl) rfl (by show 2 * 0 + _ ≤ _; exact Nat.le_of_eq rfl) (hb hby d7_1) (fun _ _ => ⟨rfl, e0, (Nat.le_of_ble_eq_true rfl), (Nat.le_of_ble_eq_true rfl)⟩)
  dsimp only [Pt.U, Pt.locs, Pt.cells, Pt.slots] at X1 l1 y1 z1 st1 hQ1
  subst l1 y1 z1
  obtain ⟨rfl, rfl, eh1⟩ := hQ1
  obtain ⟨cq2, q2a, q2b⟩ := (F0.1).cell
  obtain ⟨_, _, ⟨T2, L2, k2, n2⟩, -, X2, ⟨Lc2, hQ2, l2, y2, z2⟩, st2⟩ := X1.privateBack hx (y := (⟨"com/example/templum/templum/model/TextStore", "reserve", "(I)V"⟩ : MethodName)) hown (mvT hZ (hw _ (List.mem_of_getElem? (i := 64) rfl))) (mvT hZ (hw _ (List.mem_of_getElem? (i := 65) rfl))) (own_selP (x := (⟨"com/example/templum/templum/model/TextStore", "append", "(Ljava/lang/CharSequence;)V"⟩ : MethodName)) rfl (mvT hZ (hw _ (List.mem_of_getElem? (i := 47) rfl))) (Cond.privateMethod_at (mvP hZ (hw _ (List.mem_of_getElem? (i := 66) rfl)) (args := #[]))) (mvT hZ (hw _ (List.mem_of_getElem? (i := 65) rfl)))) (Cond.privateMethod_at (mvP hZ (hw _ (List.mem_of_getElem? (i := 66) rfl)) (args := #[]))) (mvT hZ (hw _ (List.mem_of_getElem? (i := 67) rfl))) (by decide) (backOf (W := 0) (rm10 l Z a0 hw [] a1 (Int32.ofNat ds.length) (Int32.ofNat cs.length) h0 n0 Z0 F0.2.2.1 (own_res hS hn)) hZ (hw _ (List.mem_of_getElem? (i := 67) rfl)) (hw _ (List.mem_of_getElem? (i := 28) rfl)) (Nat.le_of_ble_eq_true rfl) (Nat.le_of_ble_eq_true rfl)) (g := (mkF m 9 #[.val (.ref a1), .val (.ref x), .val (.int (Int32.ofNat ds.length)), .unset, .unset, .unset, .unset, .unset] [(.int (Int32.ofNat ds.length)), (.ref a1)])) rfl (by rw [hml]; rfl) (Steps.refl _) (a := a1) (by rw [eh1]; exact q2a) q2b (argsL := [(.int (Int32.ofNat ds.length))]) (rest := []) (lenOf pd_oI rfl) rfl (by show 2 * 0 + _ ≤ _; exact Nat.le_of_eq rfl) (hb hby d7_9) (fun _ _ => ⟨rfl, eh1, (Nat.le_of_ble_eq_true rfl), (Nat.le_of_ble_eq_true rfl)⟩)
  dsimp only [Pt.U, Pt.locs, Pt.cells, Pt.slots] at X2 l2 y2 z2 st2 hQ2
  subst l2 y2 z2
  obtain ⟨rfl, N2, eh2⟩ := hQ2
  obtain ⟨cq3, q3a, q3b⟩ := (F0.1).cell
  obtain ⟨_, _, ⟨T3, L3, k3, n3⟩, -, X3, ⟨Lc3, hQ3, l3, y3, z3⟩, st3⟩ := X2.privateBack hx (y := (⟨"com/example/templum/templum/model/TextStore", "chunkWithRoom", "()[C"⟩ : MethodName)) hown (mvT hZ (hw _ (List.mem_of_getElem? (i := 109) rfl))) (mvT hZ (hw _ (List.mem_of_getElem? (i := 110) rfl))) (own_selP (x := (⟨"com/example/templum/templum/model/TextStore", "append", "(Ljava/lang/CharSequence;)V"⟩ : MethodName)) rfl (mvT hZ (hw _ (List.mem_of_getElem? (i := 47) rfl))) (Cond.privateMethod_at (mvP hZ (hw _ (List.mem_of_getElem? (i := 111) rfl)) (args := #[]))) (mvT hZ (hw _ (List.mem_of_getElem? (i := 110) rfl)))) (Cond.privateMethod_at (mvP hZ (hw _ (List.mem_of_getElem? (i := 111) rfl)) (args := #[]))) (mvT hZ (hw _ (List.mem_of_getElem? (i := 112) rfl))) (by decide) (backOf (W := 0) (rm19B l Z a0 hw [] a1 q ch kq kc cs ol h0 n0 Z0 U (by omega)) hZ (hw _ (List.mem_of_getElem? (i := 112) rfl)) (hw _ (List.mem_of_getElem? (i := 28) rfl)) (Nat.le_of_ble_eq_true rfl) (Nat.le_of_ble_eq_true rfl)) (g := (mkF m 20 #[.val (.ref a1), .val (.ref x), .val (.int (Int32.ofNat ds.length)), .val (.int (0 : Int32)), .unset, .unset, .unset, .unset] [(.ref a1)])) rfl (by rw [hml]; rfl) (Steps.refl _) (a := a1) (by rw [eh2]; exact q3a) q3b (argsL := []) (rest := []) (lenOf pd_oC rfl) rfl (by show 2 * 0 + _ ≤ _; exact Nat.le_of_eq rfl) (hb hby d7_20) (fun _ _ => ⟨rfl, eh2, (Nat.le_of_ble_eq_true rfl), (Nat.le_of_ble_eq_true rfl)⟩)
  dsimp only [Pt.U, Pt.locs, Pt.cells, Pt.slots] at X3 l3 y3 z3 st3 hQ3
  subst l3 y3 z3
  obtain ⟨rfl, N3, eh3⟩ := hQ3
  have K3 : own_K Z n0 h0 T3.heap := by rw [eh3]; exact own_K.refl
  have U3 : own_U Z T3.heap n0 a1 cs ol q kq ch kc := by rw [eh3]; exact U
  obtain ⟨F3, Vq3, gc3, Vc3⟩ := id U3
  have S3 : own_S Z T3.heap x ds := SX.keep wi wt K3
  have O3 := K3.old OO
  have Z3 : n0 ≤ T3.heap.size := Nat.le_trans Z0 K3.size
  obtain ⟨T4, X4, e4, st4⟩ := getF X3 hx hZ hown (host := "") (Or.inl (hw _ (List.mem_of_getElem? (i := 69) rfl))) Via.refl rfl F3.2.2.1 (g := (mkF m 26 #[.val (.ref a1), .val (.ref x), .val (.int (Int32.ofNat ds.length)), .val (.int (0 : Int32)), .val (.ref ch), .unset, .unset, .unset] [(.ref a1)])) rfl rfl (hb hby d7_26)
  obtain ⟨_, _, ⟨T5, L5, k5, n5⟩, -, X5, ⟨Lc5, hQ5, l5, y5, z5⟩, st5⟩ := Jvm.LawKit.callS X4 hx (y := (⟨"java/lang/Math", "min", "(II)I"⟩ : MethodName)) hown (mvT hZ (hw _ (List.mem_of_getElem? (i := 116) rfl))) (mvT hZ (hw _ (List.mem_of_getElem? (i := 117) rfl))) (mvT hZ (hw _ (List.mem_of_getElem? (i := 118) rfl))) (mvT hZ (hw _ (List.mem_of_getElem? (i := 119) rfl))) (by decide) (backOf (W := 0) (rm20 l Z a0 hw [] (Int32.ofNat ds.length) ((65536 : Int32) - (Int32.ofNat cs.length)) T3.heap n0 Z3) hZ (hw _ (List.mem_of_getElem? (i := 119) rfl)) (hw _ (List.mem_of_getElem? (i := 118) rfl)) (Nat.le_of_ble_eq_true rfl) (Nat.le_of_ble_eq_true rfl)) (g := (mkF m 42 #[.val (.ref a1), .val (.ref x), .val (.int (Int32.ofNat ds.length)), .val (.int (0 : Int32)), .val (.ref ch), .val (.int (Int32.ofNat cs.length)), .unset, .unset] [(.int ((65536 : Int32) - (Int32.ofNat cs.length))), (.int (Int32.ofNat ds.length))])) rfl (by rw [hml]; rfl) (argsL := [(.int (Int32.ofNat ds.length)), (.int ((65536 : Int32) - (Int32.ofNat cs.length)))]) (rest := []) (lenOf pd_oII rfl) rfl (by show 2 * 0 + _ ≤ _; exact Nat.le_of_eq rfl) (hb hby d7_42) (fun _ _ => ⟨rfl, e4, (Nat.le_of_ble_eq_true rfl), (Nat.le_of_ble_eq_true rfl)⟩)
  dsimp only [Pt.U, Pt.locs, Pt.cells, Pt.slots] at X5 l5 y5 z5 st5 hQ5
  subst l5 y5 z5
  obtain ⟨rfl, N5, eh5⟩ := hQ5
  obtain ⟨T6, X6, e6, st6⟩ := instY X5 hx hZ hown (hw _ (List.mem_of_getElem? (i := 120) rfl)) eh5 (Ins.self S3.1) (g := (mkF m 48 #[.val (.ref a1), .val (.ref x), .val (.int (Int32.ofNat ds.length)), .val (.int (0 : Int32)), .val (.ref ch), .val (.int (Int32.ofNat cs.length)), .val (.int (Int32.ofNat ds.length)), .unset] [(.ref x)])) rfl rfl (hb hby d7_48)
  obtain ⟨T7, X7, e7, st7⟩ := castY X6 hx hZ hown (hw _ (List.mem_of_getElem? (i := 120) rfl)) e6 (Ins.self S3.1) (g := (mkF m 55 #[.val (.ref a1), .val (.ref x), .val (.int (Int32.ofNat ds.length)), .val (.int (0 : Int32)), .val (.ref ch), .val (.int (Int32.ofNat cs.length)), .val (.int (Int32.ofNat ds.length)), .unset] [(.ref x)])) rfl rfl (hb hby d7_55)
  obtain ⟨cq8, kq8, qa8, qb8, qc8⟩ := isOf hZ e7 S3.1
  obtain ⟨_, _, ⟨T8, L8, k8, n8⟩, -, X8, ⟨Lc8, hQ8, l8, y8, z8⟩, st8⟩ := X7.virtualBack hx (y := (⟨"java/lang/String", "getChars", "(II[CI)V"⟩ : MethodName)) (z := (⟨"java/lang/String", "getChars", "(II[CI)V"⟩ : MethodName)) hown (mvT hZ (hw _ (List.mem_of_getElem? (i := 121) rfl))) (mvT hZ (hw _ (List.mem_of_getElem? (i := 122) rfl))) (notFace_of_selects (args := #[]) (mvT hZ (hw _ (List.mem_of_getElem? (i := 124) rfl)))) (mvT hZ (hw _ (List.mem_of_getElem? (i := 124) rfl))) (mvT hZ (hw _ (List.mem_of_getElem? (i := 123) rfl))) (by decide) (backOf (W := 0) (rm21 l Z a0 hw [] x ch kc cs ds z fm T3.heap n0 Z3 hfm (Sta.ext O3.2 SF) (Sta.ext O3.2 SC) hz hn hS hp gc3 S3 Vc3) hZ (hw _ (List.mem_of_getElem? (i := 125) rfl)) (hw _ (List.mem_of_getElem? (i := 6) rfl)) (Nat.le_of_ble_eq_true rfl) (Nat.le_of_ble_eq_true rfl)) qa8 qc8 (g := (mkF m 67 #[.val (.ref a1), .val (.ref x), .val (.int (Int32.ofNat ds.length)), .val (.int (0 : Int32)), .val (.ref ch), .val (.int (Int32.ofNat cs.length)), .val (.int (Int32.ofNat ds.length)), .unset] [(.int (Int32.ofNat cs.length)), (.ref ch), (.int (Int32.ofNat ds.length)), (.int (0 : Int32)), (.ref x)])) rfl (by rw [hml]; rfl) (Steps.refl _) (argsL := [(.int (0 : Int32)), (.int (Int32.ofNat ds.length)), (.ref ch), (.int (Int32.ofNat cs.length))]) (rest := []) (lenOf pd_o21 rfl) rfl (by show 2 * 0 + _ ≤ _; exact Nat.le_of_eq rfl) (hb hby d7_67) (fun _ _ => ⟨rfl, e7, (Nat.le_of_ble_eq_true rfl), (Nat.le_of_ble_eq_true rfl)⟩)
  dsimp only [Pt.U, Pt.locs, Pt.cells, Pt.slots] at X8 l8 y8 z8 st8 hQ8
  subst l8 y8 z8
  obtain ⟨rfl, N8, K8, V8⟩ := hQ8
  have neq8 : q ≠ ch := own_neAA Vq3 Vc3 (by decide)
  have F8 : own_F Z T8.heap n0 a1 cs.length ol q kq := F3.keep K8 (ninS (F3.neA hw Vc3).symm nin0)
  have Vq8 := Vq3.keep K8 (ninS neq8 nin0)
  have K8' : own_K Z n0 h0 T8.heap := K3.trans ⟨[ch], K8, fun y hy => by cases List.mem_singleton.mp hy; exact ⟨gc3, own_arrO Vc3 (by decide)⟩⟩
  obtain ⟨T8a, X8a, e8a, st8a⟩ := getF X8 hx hZ hown (host := "") (Or.inl (hw _ (List.mem_of_getElem? (i := 69) rfl))) Via.refl rfl F8.2.2.1 (g := (mkF m 146 #[.val (.ref a1), .val (.ref x), .val (.int (Int32.ofNat ds.length)), .val (.int (0 : Int32)), .val (.ref ch), .val (.int (Int32.ofNat cs.length)), .val (.int (Int32.ofNat ds.length)), .unset] [(.ref a1), (.ref a1)])) rfl rfl (hb hby d7_146)
  obtain ⟨T8b, h8b, X8b, e8b, W8b, st8b⟩ := putF X8a hx hZ hown (host := "") (Or.inl (hw _ (List.mem_of_getElem? (i := 69) rfl))) Via.refl e8a F8.2.2.1 F8.1 (Or.inl (hw _ (List.mem_of_getElem? (i := 70) rfl))) wt (ty := .int) (by decide) rfl rfl (g := (mkF m 152 #[.val (.ref a1), .val (.ref x), .val (.int (Int32.ofNat ds.length)), .val (.int (0 : Int32)), .val (.ref ch), .val (.int (Int32.ofNat cs.length)), .val (.int (Int32.ofNat ds.length)), .unset] [(.int (Int32.ofNat (cs.length + ds.length))), (.ref a1)])) rfl rfl (hb hby d7_152)
  have N8b := Fr.snoc X8b (Fr.app (Fr.app (Fr.app (Fr.app (Fr.app N0 (Fr.nil _)) N2) N3) N5) N8) F8.2.1
  have F9 := F8.sized hw W8b
  have Vq9 := Vq8.other W8b (F8.neA hw Vq8)
  have V9 := V8.other W8b (F8.neA hw V8)
  have K9 := K8'.wr W8b F8.ge F8.O
  obtain ⟨T9a, X9a, e9a, st9a⟩ := getF X8b hx hZ hown (host := "") (Or.inl (hw _ (List.mem_of_getElem? (i := 42) rfl))) Via.refl e8b F9.2.2.2.1 (g := (mkF m 165 #[.val (.ref a1), .val (.ref x), .val (.int (Int32.ofNat ds.length)), .val (.int (Int32.ofNat ds.length)), .val (.ref ch), .val (.int (Int32.ofNat cs.length)), .val (.int (Int32.ofNat ds.length)), .unset] [(.ref a1), (.ref a1)])) rfl rfl (hb hby d7_165)
  obtain ⟨T9b, h9b, X9b, e9b, W9b, st9b⟩ := putF X9a hx hZ hown (host := "") (Or.inl (hw _ (List.mem_of_getElem? (i := 42) rfl))) Via.refl e9a F9.2.2.2.1 F9.1 (Or.inl (hw _ (List.mem_of_getElem? (i := 43) rfl))) wt (ty := .int) (by decide) rfl rfl (g := (mkF m 170 #[.val (.ref a1), .val (.ref x), .val (.int (Int32.ofNat ds.length)), .val (.int (Int32.ofNat ds.length)), .val (.ref ch), .val (.int (Int32.ofNat cs.length)), .val (.int (Int32.ofNat ds.length)), .unset] [(.int (Int32.ofNat (ol + ds.length))), (.ref a1)])) rfl rfl (hb hby d7_170)
  have N9b := Fr.snoc X9b N8b F9.2.1
  have F10 := F9.open hw W9b
  have Vq10 := Vq9.other W9b (F9.neA hw Vq9)
  have V10 := V9.other W9b (F9.neA hw V9)
  have K10 := K9.wr W9b F9.ge F9.O
  obtain ⟨fs, hr, hrun, hended, hW, hsame⟩ := X9b.leave (v := none) (fun _ => rfl)
  refine ⟨_, _, pre0 _ ?_, hrun, hended, _, _, rfl, ?_, ⟨_, rfl⟩, hW, hsame.mono (by decide) (by decide)⟩
  · show Steps p.tables e below (s₁.setTop (mkF m 0 #[.val (.ref a1), .val (.ref x), .unset, .unset, .unset, .unset, .unset, .unset] [])) _
    refine XS.aloadN X0.here hx rfl (hb hby d7_0) rfl rfl ?_
    show Steps p.tables e below (s₁.setTop (mkF m 1 #[.val (.ref a1), .val (.ref x), .unset, .unset, .unset, .unset, .unset, .unset] [(.ref x)])) _
    refine st1.trans ?_
    show Steps p.tables e below (T1.setTop (mkF m 6 #[.val (.ref a1), .val (.ref x), .unset, .unset, .unset, .unset, .unset, .unset] [(.int (Int32.ofNat ds.length))])) _
    refine XS.istoreN X1.here hx rfl (hb hby d7_6) rfl (l' := #[.val (.ref a1), .val (.ref x), .val (.int (Int32.ofNat ds.length)), .unset, .unset, .unset, .unset, .unset]) rfl ?_
    show Steps p.tables e below (T1.setTop (mkF m 7 #[.val (.ref a1), .val (.ref x), .val (.int (Int32.ofNat ds.length)), .unset, .unset, .unset, .unset, .unset] [])) _
    refine XS.aloadN X1.here hx rfl (hb hby d7_7) rfl rfl ?_
    show Steps p.tables e below (T1.setTop (mkF m 8 #[.val (.ref a1), .val (.ref x), .val (.int (Int32.ofNat ds.length)), .unset, .unset, .unset, .unset, .unset] [(.ref a1)])) _
    refine XS.iloadN X1.here hx rfl (hb hby d7_8) rfl ?_
    show Steps p.tables e below (T1.setTop (mkF m 9 #[.val (.ref a1), .val (.ref x), .val (.int (Int32.ofNat ds.length)), .unset, .unset, .unset, .unset, .unset] [(.int (Int32.ofNat ds.length)), (.ref a1)])) _
    refine st2.trans ?_
    show Steps p.tables e below (T2.setTop (mkF m 12 #[.val (.ref a1), .val (.ref x), .val (.int (Int32.ofNat ds.length)), .unset, .unset, .unset, .unset, .unset] [])) _
    refine XS.iconst X2.here hx rfl (hb hby d7_12) ?_
    show Steps p.tables e below (T2.setTop (mkF m 13 #[.val (.ref a1), .val (.ref x), .val (.int (Int32.ofNat ds.length)), .unset, .unset, .unset, .unset, .unset] [(.int (0 : Int32))])) _
    refine XS.istoreN X2.here hx rfl (hb hby d7_13) rfl (l' := #[.val (.ref a1), .val (.ref x), .val (.int (Int32.ofNat ds.length)), .val (.int (0 : Int32)), .unset, .unset, .unset, .unset]) rfl ?_
    show Steps p.tables e below (T2.setTop (mkF m 14 #[.val (.ref a1), .val (.ref x), .val (.int (Int32.ofNat ds.length)), .val (.int (0 : Int32)), .unset, .unset, .unset, .unset] [])) _
    refine XS.iloadN X2.here hx rfl (hb hby d7_14) rfl ?_
    show Steps p.tables e below (T2.setTop (mkF m 15 #[.val (.ref a1), .val (.ref x), .val (.int (Int32.ofNat ds.length)), .val (.int (0 : Int32)), .unset, .unset, .unset, .unset] [(.int (0 : Int32))])) _
    refine XS.iloadN X2.here hx rfl (hb hby d7_15) rfl ?_
    show Steps p.tables e below (T2.setTop (mkF m 16 #[.val (.ref a1), .val (.ref x), .val (.int (Int32.ofNat ds.length)), .val (.int (0 : Int32)), .unset, .unset, .unset, .unset] [(.int (Int32.ofNat ds.length)), (.int (0 : Int32))])) _
    refine XS.icmpNo X2.here hx rfl (hb hby d7_16) rfl (tlt hpos).2.1 ?_
    show Steps p.tables e below (T2.setTop (mkF m 19 #[.val (.ref a1), .val (.ref x), .val (.int (Int32.ofNat ds.length)), .val (.int (0 : Int32)), .unset, .unset, .unset, .unset] [])) _
    refine XS.aloadN X2.here hx rfl (hb hby d7_19) rfl rfl ?_
    show Steps p.tables e below (T2.setTop (mkF m 20 #[.val (.ref a1), .val (.ref x), .val (.int (Int32.ofNat ds.length)), .val (.int (0 : Int32)), .unset, .unset, .unset, .unset] [(.ref a1)])) _
    refine st3.trans ?_
    show Steps p.tables e below (T3.setTop (mkF m 23 #[.val (.ref a1), .val (.ref x), .val (.int (Int32.ofNat ds.length)), .val (.int (0 : Int32)), .unset, .unset, .unset, .unset] [(.ref ch)])) _
    refine XS.astore X3.here hx rfl (hb hby d7_23) rfl rfl (l' := #[.val (.ref a1), .val (.ref x), .val (.int (Int32.ofNat ds.length)), .val (.int (0 : Int32)), .val (.ref ch), .unset, .unset, .unset]) rfl ?_
    show Steps p.tables e below (T3.setTop (mkF m 25 #[.val (.ref a1), .val (.ref x), .val (.int (Int32.ofNat ds.length)), .val (.int (0 : Int32)), .val (.ref ch), .unset, .unset, .unset] [])) _
    refine XS.aloadN X3.here hx rfl (hb hby d7_25) rfl rfl ?_
    show Steps p.tables e below (T3.setTop (mkF m 26 #[.val (.ref a1), .val (.ref x), .val (.int (Int32.ofNat ds.length)), .val (.int (0 : Int32)), .val (.ref ch), .unset, .unset, .unset] [(.ref a1)])) _
    refine st4 _ ?_
    show Steps p.tables e below (T4.setTop (mkF m 29 #[.val (.ref a1), .val (.ref x), .val (.int (Int32.ofNat ds.length)), .val (.int (0 : Int32)), .val (.ref ch), .unset, .unset, .unset] [(.int (Int32.ofNat cs.length))])) _
    refine X4.ldcInt hx hown (mvT hZ (hw _ (List.mem_of_getElem? (i := 115) rfl))) (g := (mkF m 29 #[.val (.ref a1), .val (.ref x), .val (.int (Int32.ofNat ds.length)), .val (.int (0 : Int32)), .val (.ref ch), .unset, .unset, .unset] [(.int (Int32.ofNat cs.length))])) rfl (hb hby d7_29) _ ?_
    show Steps p.tables e below (T4.setTop (mkF m 31 #[.val (.ref a1), .val (.ref x), .val (.int (Int32.ofNat ds.length)), .val (.int (0 : Int32)), .val (.ref ch), .unset, .unset, .unset] [(.int (65535 : Int32)), (.int (Int32.ofNat cs.length))])) _
    refine XS.iand X4.here hx rfl (hb hby d7_31) rfl ?_
    show Steps p.tables e below (T4.setTop (mkF m 32 #[.val (.ref a1), .val (.ref x), .val (.int (Int32.ofNat ds.length)), .val (.int (0 : Int32)), .val (.ref ch), .unset, .unset, .unset] [(.int ((Int32.ofNat cs.length) &&& (65535 : Int32)))])) _
    rw [own_low (by omega : cs.length ≤ 100)]
    show Steps p.tables e below (T4.setTop (mkF m 32 #[.val (.ref a1), .val (.ref x), .val (.int (Int32.ofNat ds.length)), .val (.int (0 : Int32)), .val (.ref ch), .unset, .unset, .unset] [(.int (Int32.ofNat cs.length))])) _
    refine XS.istore X4.here hx rfl (hb hby d7_32) rfl (l' := #[.val (.ref a1), .val (.ref x), .val (.int (Int32.ofNat ds.length)), .val (.int (0 : Int32)), .val (.ref ch), .val (.int (Int32.ofNat cs.length)), .unset, .unset]) rfl ?_
    show Steps p.tables e below (T4.setTop (mkF m 34 #[.val (.ref a1), .val (.ref x), .val (.int (Int32.ofNat ds.length)), .val (.int (0 : Int32)), .val (.ref ch), .val (.int (Int32.ofNat cs.length)), .unset, .unset] [])) _
    refine XS.iloadN X4.here hx rfl (hb hby d7_34) rfl ?_
    show Steps p.tables e below (T4.setTop (mkF m 35 #[.val (.ref a1), .val (.ref x), .val (.int (Int32.ofNat ds.length)), .val (.int (0 : Int32)), .val (.ref ch), .val (.int (Int32.ofNat cs.length)), .unset, .unset] [(.int (Int32.ofNat ds.length))])) _
    refine XS.iloadN X4.here hx rfl (hb hby d7_35) rfl ?_
    show Steps p.tables e below (T4.setTop (mkF m 36 #[.val (.ref a1), .val (.ref x), .val (.int (Int32.ofNat ds.length)), .val (.int (0 : Int32)), .val (.ref ch), .val (.int (Int32.ofNat cs.length)), .unset, .unset] [(.int (0 : Int32)), (.int (Int32.ofNat ds.length))])) _
    refine XS.isub X4.here hx rfl (hb hby d7_36) rfl ?_
    show Steps p.tables e below (T4.setTop (mkF m 37 #[.val (.ref a1), .val (.ref x), .val (.int (Int32.ofNat ds.length)), .val (.int (0 : Int32)), .val (.ref ch), .val (.int (Int32.ofNat cs.length)), .unset, .unset] [(.int ((Int32.ofNat ds.length) - (0 : Int32)))])) _
    rw [Int32.sub_zero]
    show Steps p.tables e below (T4.setTop (mkF m 37 #[.val (.ref a1), .val (.ref x), .val (.int (Int32.ofNat ds.length)), .val (.int (0 : Int32)), .val (.ref ch), .val (.int (Int32.ofNat cs.length)), .unset, .unset] [(.int (Int32.ofNat ds.length))])) _
    refine X4.ldcInt hx hown (mvT hZ (hw _ (List.mem_of_getElem? (i := 113) rfl))) (g := (mkF m 37 #[.val (.ref a1), .val (.ref x), .val (.int (Int32.ofNat ds.length)), .val (.int (0 : Int32)), .val (.ref ch), .val (.int (Int32.ofNat cs.length)), .unset, .unset] [(.int (Int32.ofNat ds.length))])) rfl (hb hby d7_37) _ ?_
    show Steps p.tables e below (T4.setTop (mkF m 39 #[.val (.ref a1), .val (.ref x), .val (.int (Int32.ofNat ds.length)), .val (.int (0 : Int32)), .val (.ref ch), .val (.int (Int32.ofNat cs.length)), .unset, .unset] [(.int (65536 : Int32)), (.int (Int32.ofNat ds.length))])) _
    refine XS.iload X4.here hx rfl (hb hby d7_39) rfl ?_
    show Steps p.tables e below (T4.setTop (mkF m 41 #[.val (.ref a1), .val (.ref x), .val (.int (Int32.ofNat ds.length)), .val (.int (0 : Int32)), .val (.ref ch), .val (.int (Int32.ofNat cs.length)), .unset, .unset] [(.int (Int32.ofNat cs.length)), (.int (65536 : Int32)), (.int (Int32.ofNat ds.length))])) _
    refine XS.isub X4.here hx rfl (hb hby d7_41) rfl ?_
    show Steps p.tables e below (T4.setTop (mkF m 42 #[.val (.ref a1), .val (.ref x), .val (.int (Int32.ofNat ds.length)), .val (.int (0 : Int32)), .val (.ref ch), .val (.int (Int32.ofNat cs.length)), .unset, .unset] [(.int ((65536 : Int32) - (Int32.ofNat cs.length))), (.int (Int32.ofNat ds.length))])) _
    refine st5 _ ?_
    show Steps p.tables e below (T5.setTop (mkF m 45 #[.val (.ref a1), .val (.ref x), .val (.int (Int32.ofNat ds.length)), .val (.int (0 : Int32)), .val (.ref ch), .val (.int (Int32.ofNat cs.length)), .unset, .unset] [(.int (own_v20_0 (Int32.ofNat ds.length) ((65536 : Int32) - (Int32.ofNat cs.length))))])) _
    rw [own_min15 hS hn]
    show Steps p.tables e below (T5.setTop (mkF m 45 #[.val (.ref a1), .val (.ref x), .val (.int (Int32.ofNat ds.length)), .val (.int (0 : Int32)), .val (.ref ch), .val (.int (Int32.ofNat cs.length)), .unset, .unset] [(.int (Int32.ofNat ds.length))])) _
    refine XS.istore X5.here hx rfl (hb hby d7_45) rfl (l' := #[.val (.ref a1), .val (.ref x), .val (.int (Int32.ofNat ds.length)), .val (.int (0 : Int32)), .val (.ref ch), .val (.int (Int32.ofNat cs.length)), .val (.int (Int32.ofNat ds.length)), .unset]) rfl ?_
    show Steps p.tables e below (T5.setTop (mkF m 47 #[.val (.ref a1), .val (.ref x), .val (.int (Int32.ofNat ds.length)), .val (.int (0 : Int32)), .val (.ref ch), .val (.int (Int32.ofNat cs.length)), .val (.int (Int32.ofNat ds.length)), .unset] [])) _
    refine XS.aloadN X5.here hx rfl (hb hby d7_47) rfl rfl ?_
    show Steps p.tables e below (T5.setTop (mkF m 48 #[.val (.ref a1), .val (.ref x), .val (.int (Int32.ofNat ds.length)), .val (.int (0 : Int32)), .val (.ref ch), .val (.int (Int32.ofNat cs.length)), .val (.int (Int32.ofNat ds.length)), .unset] [(.ref x)])) _
    refine st6 _ ?_
    show Steps p.tables e below (T6.setTop (mkF m 51 #[.val (.ref a1), .val (.ref x), .val (.int (Int32.ofNat ds.length)), .val (.int (0 : Int32)), .val (.ref ch), .val (.int (Int32.ofNat cs.length)), .val (.int (Int32.ofNat ds.length)), .unset] [(.int (1 : Int32))])) _
    refine XS.ifNo X6.here hx rfl (hb hby d7_51) rfl ((if0 _ _).trans (feq (by decide : ¬ ((1 : Int32) = 0))).1) ?_
    show Steps p.tables e below (T6.setTop (mkF m 54 #[.val (.ref a1), .val (.ref x), .val (.int (Int32.ofNat ds.length)), .val (.int (0 : Int32)), .val (.ref ch), .val (.int (Int32.ofNat cs.length)), .val (.int (Int32.ofNat ds.length)), .unset] [])) _
    refine XS.aloadN X6.here hx rfl (hb hby d7_54) rfl rfl ?_
    show Steps p.tables e below (T6.setTop (mkF m 55 #[.val (.ref a1), .val (.ref x), .val (.int (Int32.ofNat ds.length)), .val (.int (0 : Int32)), .val (.ref ch), .val (.int (Int32.ofNat cs.length)), .val (.int (Int32.ofNat ds.length)), .unset] [(.ref x)])) _
    refine st7 _ ?_
    show Steps p.tables e below (T7.setTop (mkF m 58 #[.val (.ref a1), .val (.ref x), .val (.int (Int32.ofNat ds.length)), .val (.int (0 : Int32)), .val (.ref ch), .val (.int (Int32.ofNat cs.length)), .val (.int (Int32.ofNat ds.length)), .unset] [(.ref x)])) _
    refine XS.iloadN X7.here hx rfl (hb hby d7_58) rfl ?_
    show Steps p.tables e below (T7.setTop (mkF m 59 #[.val (.ref a1), .val (.ref x), .val (.int (Int32.ofNat ds.length)), .val (.int (0 : Int32)), .val (.ref ch), .val (.int (Int32.ofNat cs.length)), .val (.int (Int32.ofNat ds.length)), .unset] [(.int (0 : Int32)), (.ref x)])) _
    refine XS.iloadN X7.here hx rfl (hb hby d7_59) rfl ?_
    show Steps p.tables e below (T7.setTop (mkF m 60 #[.val (.ref a1), .val (.ref x), .val (.int (Int32.ofNat ds.length)), .val (.int (0 : Int32)), .val (.ref ch), .val (.int (Int32.ofNat cs.length)), .val (.int (Int32.ofNat ds.length)), .unset] [(.int (0 : Int32)), (.int (0 : Int32)), (.ref x)])) _
    refine XS.iload X7.here hx rfl (hb hby d7_60) rfl ?_
    show Steps p.tables e below (T7.setTop (mkF m 62 #[.val (.ref a1), .val (.ref x), .val (.int (Int32.ofNat ds.length)), .val (.int (0 : Int32)), .val (.ref ch), .val (.int (Int32.ofNat cs.length)), .val (.int (Int32.ofNat ds.length)), .unset] [(.int (Int32.ofNat ds.length)), (.int (0 : Int32)), (.int (0 : Int32)), (.ref x)])) _
    refine XS.iadd X7.here hx rfl (hb hby d7_62) rfl ?_
    show Steps p.tables e below (T7.setTop (mkF m 63 #[.val (.ref a1), .val (.ref x), .val (.int (Int32.ofNat ds.length)), .val (.int (0 : Int32)), .val (.ref ch), .val (.int (Int32.ofNat cs.length)), .val (.int (Int32.ofNat ds.length)), .unset] [(.int ((0 : Int32) + (Int32.ofNat ds.length))), (.int (0 : Int32)), (.ref x)])) _
    rw [Int32.zero_add]
    show Steps p.tables e below (T7.setTop (mkF m 63 #[.val (.ref a1), .val (.ref x), .val (.int (Int32.ofNat ds.length)), .val (.int (0 : Int32)), .val (.ref ch), .val (.int (Int32.ofNat cs.length)), .val (.int (Int32.ofNat ds.length)), .unset] [(.int (Int32.ofNat ds.length)), (.int (0 : Int32)), (.ref x)])) _
    refine XS.aload X7.here hx rfl (hb hby d7_63) rfl rfl ?_
    show Steps p.tables e below (T7.setTop (mkF m 65 #[.val (.ref a1), .val (.ref x), .val (.int (Int32.ofNat ds.length)), .val (.int (0 : Int32)), .val (.ref ch), .val (.int (Int32.ofNat cs.length)), .val (.int (Int32.ofNat ds.length)), .unset] [(.ref ch), (.int (Int32.ofNat ds.length)), (.int (0 : Int32)), (.ref x)])) _
    refine XS.iload X7.here hx rfl (hb hby d7_65) rfl ?_
    show Steps p.tables e below (T7.setTop (mkF m 67 #[.val (.ref a1), .val (.ref x), .val (.int (Int32.ofNat ds.length)), .val (.int (0 : Int32)), .val (.ref ch), .val (.int (Int32.ofNat cs.length)), .val (.int (Int32.ofNat ds.length)), .unset] [(.int (Int32.ofNat cs.length)), (.ref ch), (.int (Int32.ofNat ds.length)), (.int (0 : Int32)), (.ref x)])) _
    refine st8.trans ?_
    show Steps p.tables e below (T8.setTop (mkF m 70 #[.val (.ref a1), .val (.ref x), .val (.int (Int32.ofNat ds.length)), .val (.int (0 : Int32)), .val (.ref ch), .val (.int (Int32.ofNat cs.length)), .val (.int (Int32.ofNat ds.length)), .unset] [])) _
    refine XS.goto X8.here hx rfl (pc0 := 70) (pc' := 144) rfl (hb hby d7_70) (by decide) (by decide) ?_
    show Steps p.tables e below (T8.setTop (mkF m 144 #[.val (.ref a1), .val (.ref x), .val (.int (Int32.ofNat ds.length)), .val (.int (0 : Int32)), .val (.ref ch), .val (.int (Int32.ofNat cs.length)), .val (.int (Int32.ofNat ds.length)), .unset] [])) _
    refine XS.aloadN X8.here hx rfl (hb hby d7_144) rfl rfl ?_
    show Steps p.tables e below (T8.setTop (mkF m 145 #[.val (.ref a1), .val (.ref x), .val (.int (Int32.ofNat ds.length)), .val (.int (0 : Int32)), .val (.ref ch), .val (.int (Int32.ofNat cs.length)), .val (.int (Int32.ofNat ds.length)), .unset] [(.ref a1)])) _
    refine XS.dup X8.here hx rfl (hb hby d7_145) rfl rfl ?_
    show Steps p.tables e below (T8.setTop (mkF m 146 #[.val (.ref a1), .val (.ref x), .val (.int (Int32.ofNat ds.length)), .val (.int (0 : Int32)), .val (.ref ch), .val (.int (Int32.ofNat cs.length)), .val (.int (Int32.ofNat ds.length)), .unset] [(.ref a1), (.ref a1)])) _
    refine st8a _ ?_
    show Steps p.tables e below (T8a.setTop (mkF m 149 #[.val (.ref a1), .val (.ref x), .val (.int (Int32.ofNat ds.length)), .val (.int (0 : Int32)), .val (.ref ch), .val (.int (Int32.ofNat cs.length)), .val (.int (Int32.ofNat ds.length)), .unset] [(.int (Int32.ofNat cs.length)), (.ref a1)])) _
    refine XS.iload X8a.here hx rfl (hb hby d7_149) rfl ?_
    show Steps p.tables e below (T8a.setTop (mkF m 151 #[.val (.ref a1), .val (.ref x), .val (.int (Int32.ofNat ds.length)), .val (.int (0 : Int32)), .val (.ref ch), .val (.int (Int32.ofNat cs.length)), .val (.int (Int32.ofNat ds.length)), .unset] [(.int (Int32.ofNat ds.length)), (.int (Int32.ofNat cs.length)), (.ref a1)])) _
    refine XS.iadd X8a.here hx rfl (hb hby d7_151) rfl ?_
    show Steps p.tables e below (T8a.setTop (mkF m 152 #[.val (.ref a1), .val (.ref x), .val (.int (Int32.ofNat ds.length)), .val (.int (0 : Int32)), .val (.ref ch), .val (.int (Int32.ofNat cs.length)), .val (.int (Int32.ofNat ds.length)), .unset] [(.int ((Int32.ofNat cs.length) + (Int32.ofNat ds.length))), (.ref a1)])) _
    rw [own_add]
    show Steps p.tables e below (T8a.setTop (mkF m 152 #[.val (.ref a1), .val (.ref x), .val (.int (Int32.ofNat ds.length)), .val (.int (0 : Int32)), .val (.ref ch), .val (.int (Int32.ofNat cs.length)), .val (.int (Int32.ofNat ds.length)), .unset] [(.int (Int32.ofNat (cs.length + ds.length))), (.ref a1)])) _
    refine st8b _ ?_
    show Steps p.tables e below (T8b.setTop (mkF m 155 #[.val (.ref a1), .val (.ref x), .val (.int (Int32.ofNat ds.length)), .val (.int (0 : Int32)), .val (.ref ch), .val (.int (Int32.ofNat cs.length)), .val (.int (Int32.ofNat ds.length)), .unset] [])) _
    refine XS.iloadN X8b.here hx rfl (hb hby d7_155) rfl ?_
    show Steps p.tables e below (T8b.setTop (mkF m 156 #[.val (.ref a1), .val (.ref x), .val (.int (Int32.ofNat ds.length)), .val (.int (0 : Int32)), .val (.ref ch), .val (.int (Int32.ofNat cs.length)), .val (.int (Int32.ofNat ds.length)), .unset] [(.int (0 : Int32))])) _
    refine XS.iload X8b.here hx rfl (hb hby d7_156) rfl ?_
    show Steps p.tables e below (T8b.setTop (mkF m 158 #[.val (.ref a1), .val (.ref x), .val (.int (Int32.ofNat ds.length)), .val (.int (0 : Int32)), .val (.ref ch), .val (.int (Int32.ofNat cs.length)), .val (.int (Int32.ofNat ds.length)), .unset] [(.int (Int32.ofNat ds.length)), (.int (0 : Int32))])) _
    refine XS.iadd X8b.here hx rfl (hb hby d7_158) rfl ?_
    show Steps p.tables e below (T8b.setTop (mkF m 159 #[.val (.ref a1), .val (.ref x), .val (.int (Int32.ofNat ds.length)), .val (.int (0 : Int32)), .val (.ref ch), .val (.int (Int32.ofNat cs.length)), .val (.int (Int32.ofNat ds.length)), .unset] [(.int ((0 : Int32) + (Int32.ofNat ds.length)))])) _
    rw [Int32.zero_add]
    show Steps p.tables e below (T8b.setTop (mkF m 159 #[.val (.ref a1), .val (.ref x), .val (.int (Int32.ofNat ds.length)), .val (.int (0 : Int32)), .val (.ref ch), .val (.int (Int32.ofNat cs.length)), .val (.int (Int32.ofNat ds.length)), .unset] [(.int (Int32.ofNat ds.length))])) _
    refine XS.istoreN X8b.here hx rfl (hb hby d7_159) rfl (l' := #[.val (.ref a1), .val (.ref x), .val (.int (Int32.ofNat ds.length)), .val (.int (Int32.ofNat ds.length)), .val (.ref ch), .val (.int (Int32.ofNat cs.length)), .val (.int (Int32.ofNat ds.length)), .unset]) rfl ?_
    show Steps p.tables e below (T8b.setTop (mkF m 160 #[.val (.ref a1), .val (.ref x), .val (.int (Int32.ofNat ds.length)), .val (.int (Int32.ofNat ds.length)), .val (.ref ch), .val (.int (Int32.ofNat cs.length)), .val (.int (Int32.ofNat ds.length)), .unset] [])) _
    refine XS.goto X8b.here hx rfl (pc0 := 160) (pc' := 14) rfl (hb hby d7_160) (by decide) (by decide) ?_
    show Steps p.tables e below (T8b.setTop (mkF m 14 #[.val (.ref a1), .val (.ref x), .val (.int (Int32.ofNat ds.length)), .val (.int (Int32.ofNat ds.length)), .val (.ref ch), .val (.int (Int32.ofNat cs.length)), .val (.int (Int32.ofNat ds.length)), .unset] [])) _
    refine XS.iloadN X8b.here hx rfl (hb hby d7_14) rfl ?_
    show Steps p.tables e below (T8b.setTop (mkF m 15 #[.val (.ref a1), .val (.ref x), .val (.int (Int32.ofNat ds.length)), .val (.int (Int32.ofNat ds.length)), .val (.ref ch), .val (.int (Int32.ofNat cs.length)), .val (.int (Int32.ofNat ds.length)), .unset] [(.int (Int32.ofNat ds.length))])) _
    refine XS.iloadN X8b.here hx rfl (hb hby d7_15) rfl ?_
    show Steps p.tables e below (T8b.setTop (mkF m 16 #[.val (.ref a1), .val (.ref x), .val (.int (Int32.ofNat ds.length)), .val (.int (Int32.ofNat ds.length)), .val (.ref ch), .val (.int (Int32.ofNat cs.length)), .val (.int (Int32.ofNat ds.length)), .unset] [(.int (Int32.ofNat ds.length)), (.int (Int32.ofNat ds.length))])) _
    refine XS.icmpYes X8b.here hx rfl (pc0 := 16) (pc' := 163) rfl (hb hby d7_16) rfl (flt (Int32.lt_irrefl)).2.1 (by decide) (by decide) ?_
    show Steps p.tables e below (T8b.setTop (mkF m 163 #[.val (.ref a1), .val (.ref x), .val (.int (Int32.ofNat ds.length)), .val (.int (Int32.ofNat ds.length)), .val (.ref ch), .val (.int (Int32.ofNat cs.length)), .val (.int (Int32.ofNat ds.length)), .unset] [])) _
    refine XS.aloadN X8b.here hx rfl (hb hby d7_163) rfl rfl ?_
    show Steps p.tables e below (T8b.setTop (mkF m 164 #[.val (.ref a1), .val (.ref x), .val (.int (Int32.ofNat ds.length)), .val (.int (Int32.ofNat ds.length)), .val (.ref ch), .val (.int (Int32.ofNat cs.length)), .val (.int (Int32.ofNat ds.length)), .unset] [(.ref a1)])) _
    refine XS.dup X8b.here hx rfl (hb hby d7_164) rfl rfl ?_
    show Steps p.tables e below (T8b.setTop (mkF m 165 #[.val (.ref a1), .val (.ref x), .val (.int (Int32.ofNat ds.length)), .val (.int (Int32.ofNat ds.length)), .val (.ref ch), .val (.int (Int32.ofNat cs.length)), .val (.int (Int32.ofNat ds.length)), .unset] [(.ref a1), (.ref a1)])) _
    refine st9a _ ?_
    show Steps p.tables e below (T9a.setTop (mkF m 168 #[.val (.ref a1), .val (.ref x), .val (.int (Int32.ofNat ds.length)), .val (.int (Int32.ofNat ds.length)), .val (.ref ch), .val (.int (Int32.ofNat cs.length)), .val (.int (Int32.ofNat ds.length)), .unset] [(.int (Int32.ofNat ol)), (.ref a1)])) _
    refine XS.iloadN X9a.here hx rfl (hb hby d7_168) rfl ?_
    show Steps p.tables e below (T9a.setTop (mkF m 169 #[.val (.ref a1), .val (.ref x), .val (.int (Int32.ofNat ds.length)), .val (.int (Int32.ofNat ds.length)), .val (.ref ch), .val (.int (Int32.ofNat cs.length)), .val (.int (Int32.ofNat ds.length)), .unset] [(.int (Int32.ofNat ds.length)), (.int (Int32.ofNat ol)), (.ref a1)])) _
    refine XS.iadd X9a.here hx rfl (hb hby d7_169) rfl ?_
    show Steps p.tables e below (T9a.setTop (mkF m 170 #[.val (.ref a1), .val (.ref x), .val (.int (Int32.ofNat ds.length)), .val (.int (Int32.ofNat ds.length)), .val (.ref ch), .val (.int (Int32.ofNat cs.length)), .val (.int (Int32.ofNat ds.length)), .unset] [(.int ((Int32.ofNat ol) + (Int32.ofNat ds.length))), (.ref a1)])) _
    rw [own_add]
    show Steps p.tables e below (T9a.setTop (mkF m 170 #[.val (.ref a1), .val (.ref x), .val (.int (Int32.ofNat ds.length)), .val (.int (Int32.ofNat ds.length)), .val (.ref ch), .val (.int (Int32.ofNat cs.length)), .val (.int (Int32.ofNat ds.length)), .unset] [(.int (Int32.ofNat (ol + ds.length))), (.ref a1)])) _
    refine st9b _ ?_
    show Steps p.tables e below (T9b.setTop (mkF m 173 #[.val (.ref a1), .val (.ref x), .val (.int (Int32.ofNat ds.length)), .val (.int (Int32.ofNat ds.length)), .val (.ref ch), .val (.int (Int32.ofNat cs.length)), .val (.int (Int32.ofNat ds.length)), .unset] [])) _
    exact X9b.returnOut hx Bd.returns (hb hby d7_173) hr
  · show Q7 Z a1 x cs ds ol z fm h0 n0 _ T9b.heap _
    rw [e9b]
    exact ⟨rfl, N9b, K10, Or.inr ⟨q, kq, ch, kc, by rw [List.length_append]; exact F10, Vq10, gc3, V10⟩⟩
theorem pd_oapp : parseMethodDescriptor "(Ljava/lang/CharSequence;)V" = some ⟨[(.object "java/lang/CharSequence")], none⟩ := by decide +kernel
/-- append at any call: k slots pay the chunk where one must be made -/
theorem own_app {p : Program} {l : Launch} {e : Env} {R : Room} {s : State} {m : MethodId} {args : Array Value} {below : List Frame} {meth : Method} {c : Code} {T : State} {locs : List Loc} {cells slots : Nat} {Z : State} {a0 : Array Value} {h0 : Heap} {n0 : Nat}
    (X : Stand p l e R s m args below meth c T locs cells slots) (hx : p.tables.exec = Jvm.exec) (hZ : Z.Warmed39 s.vm) (hw : ∀ d ∈ tables_1, d.before a0 Z = true) {own : String} {index : Nat} (hown : s.vm.findClass own = some m.cls)
    (wl : (Jvm.Cond.methodLink own index (⟨"com/example/templum/templum/model/TextStore", "append", "(Ljava/lang/CharSequence;)V"⟩ : MethodName)).before a0 Z = true) (eT : T.heap = h0) (Z0 : n0 ≤ h0.size)
    (a1 x : Addr) (cs ds : List Int32) (ol : Nat) (z : Int32) (fm : Value) (hfm : fm.isRef = true) (SF : Sta Z Z.heap "jdk/internal/util/Preconditions" "SIOOBE_FORMATTER" "Ljava/util/function/BiFunction;" fm) (SC : Sta Z Z.heap "java/lang/String" "COMPACT_STRINGS" "Z" (.int z)) (hz : ¬ z = (0 : Int32)) (OO : Old Z n0 h0)
    (hn : ds.length ≤ 15) (hS : cs.length ≤ 15) (hp : ∀ c ∈ ds, ¬ c < 0 ∧ ¬ (255 : Int32) < c) (SX : own_S Z h0 x ds) (T0 : own_T Z h0 n0 a1 cs ol) (k : Nat) (hk : ds = [] ∨ cs ≠ [] ∨ 65536 ≤ k)
    {pc : Nat} {Ls : Array Slot} {rest : List Value} (hsize : Ls.size = c.maxLocals) (hd : decode c.code pc = .ok (.invokevirtual index, 3)) {W : Nat} (hW : 2 * (mkF m pc Ls (.ref x :: .ref a1 :: rest)).monitorRoom + (rest.map fun v => v.category).sum ≤ W) (hfr : 4 ≤ R.frames) (hlo : W + 68 ≤ R.locals) (hc : cells + 1 ≤ R.cells) (hs : slots + k ≤ R.slots) (N : Fr n0 locs) :
    ∃ (T' : State) (h' : Heap) (L' : List Loc), Stand p l e R s m args below meth c T' L' (cells + 1) (slots + k) ∧ T'.heap = h' ∧ Fr n0 L' ∧ own_K Z n0 h0 h' ∧ own_T Z h' n0 a1 (cs ++ ds) (ol + ds.length) ∧
      ∀ target, Steps p.tables e below (T'.setTop (mkF m (pc + 3) Ls rest)) target → Steps p.tables e below (T.setTop (mkF m pc Ls (.ref x :: .ref a1 :: rest))) target := by
  obtain ⟨q0, kq0, F0⟩ := T0.F
  obtain ⟨cq, kq, qa, qb, qc⟩ := isOf hZ eT F0.1
  have key : ∀ (kk : Nat) (ck : Nat), ck ≤ 1 → kk ≤ k → Back l R p e below s args (⟨"com/example/templum/templum/model/TextStore", "append", "(Ljava/lang/CharSequence;)V"⟩ : MethodName) 3 W (fun A a => a = #[.ref a1, .ref x] ∧ A.U.heap = h0 ∧ A.cells + ck ≤ R.cells ∧ A.slots + kk ≤ R.slots)
      (fun A _ v B => ∃ L, Q7 Z a1 x cs ds ol z fm h0 n0 v B.U.heap L ∧ B.locs = A.locs ++ L ∧ B.cells = A.cells + ck ∧ B.slots = A.slots + kk) →
      ∃ (T' : State) (h' : Heap) (L' : List Loc), Stand p l e R s m args below meth c T' L' (cells + 1) (slots + k) ∧ T'.heap = h' ∧ Fr n0 L' ∧ own_K Z n0 h0 h' ∧ own_T Z h' n0 a1 (cs ++ ds) (ol + ds.length) ∧
        ∀ target, Steps p.tables e below (T'.setTop (mkF m (pc + 3) Ls rest)) target → Steps p.tables e below (T.setTop (mkF m pc Ls (.ref x :: .ref a1 :: rest))) target := by
    intro kk ck h1 h2 HB
    obtain ⟨_, _, ⟨T1, L1, k1, n1⟩, -, X1, ⟨Lc1, hQ1, l1, y1, z1⟩, st1⟩ := X.virtualBack hx (y := (⟨"com/example/templum/templum/model/TextStore", "append", "(Ljava/lang/CharSequence;)V"⟩ : MethodName)) (z := (⟨"com/example/templum/templum/model/TextStore", "append", "(Ljava/lang/CharSequence;)V"⟩ : MethodName)) hown (mvT hZ wl) (mvT hZ (hw _ (List.mem_of_getElem? (i := 45) rfl))) (notFace_of_selects (args := #[]) (mvT hZ (hw _ (List.mem_of_getElem? (i := 47) rfl)))) (mvT hZ (hw _ (List.mem_of_getElem? (i := 47) rfl))) (mvT hZ (hw _ (List.mem_of_getElem? (i := 46) rfl))) (by decide) HB qa qc (g := (mkF m pc Ls (.ref x :: .ref a1 :: rest))) rfl hsize (Steps.refl _) (argsL := [(.ref x)]) (rest := rest) (lenOf pd_oapp rfl) rfl hW hd (fun _ _ => ⟨rfl, eT, by show cells + ck ≤ _; omega, by show slots + kk ≤ _; omega⟩)
    dsimp only [Pt.U, Pt.locs, Pt.cells, Pt.slots] at X1 l1 y1 z1 st1 hQ1
    subst l1 y1 z1
    obtain ⟨rfl, N1, K1, T1'⟩ := hQ1
    exact ⟨T1, _, _, X1.more (by omega) (by omega), rfl, Fr.app N N1, K1, T1', fun t kt => st1.trans kt⟩
  have wc := hw _ (List.mem_of_getElem? (i := 48) rfl)
  have wz := hw _ (List.mem_of_getElem? (i := 28) rfl)
  by_cases hd0 : ds = []
  · exact key 0 0 (by omega) (by omega) (backOf (W := W) (rm7E l Z a0 hw [] a1 x cs ds ol z fm h0 n0 Z0 hfm SF SC hz OO hn hS hp SX T0 hd0) hZ wc wz (by show 3 + 1 ≤ _; omega) (by show W + (8 + 11) + 49 ≤ _; omega))
  have hpos : 0 < ds.length := List.length_pos_iff.mpr hd0
  rcases T0 with ⟨rfl, q, kq, V⟩ | ⟨q, kq, ch, kc, U⟩
  · have hk' : 65536 ≤ k := by
      rcases hk with h | h | h
      · exact absurd h hd0
      · exact absurd rfl h
      · exact h
    exact key 65536 1 (by omega) hk' (backOf (W := W) (rm7A l Z a0 hw [] a1 x ds ol z fm q kq h0 n0 Z0 hfm SF SC hz OO hn hp SX V hpos) hZ wc wz (by show 3 + 1 ≤ _; omega) (by show W + (8 + 11) + 49 ≤ _; omega))
  · exact key 0 0 (by omega) (by omega) (backOf (W := W) (rm7B l Z a0 hw [] a1 x cs ds ol z fm q ch kq kc h0 n0 Z0 hfm SF SC hz OO hn hS hp SX U hpos) hZ wc wz (by show 3 + 1 ≤ _; omega) (by show W + (8 + 11) + 49 ≤ _; omega))
def Q6 (Z : State) (a1 x : Addr) (cs ds : List Int32) (z : Int32) (fm : Value) (k : Nat) (h0 : Heap) (n0 : Nat) (v : Option Value) (h : Heap) (L : List Loc) : Prop := v = some (.int (own_start (cs ++ ds) (0 + ds.length))) ∧ Fr n0 L ∧ own_K Z n0 h0 h ∧ own_T Z h n0 a1 (cs ++ ds) 0
theorem d6_0 : decode prog_84_method_2_code 0 = .ok (.aload_n 0, 1) := by decide +kernel
theorem d6_1 : decode prog_84_method_2_code 1 = .ok (.getfield 15, 3) := by decide +kernel
theorem d6_4 : decode prog_84_method_2_code 4 = .ok (.ifCond .le 13, 3) := by decide +kernel
theorem d6_17 : decode prog_84_method_2_code 17 = .ok (.aload_n 0, 1) := by decide +kernel
theorem d6_18 : decode prog_84_method_2_code 18 = .ok (.aload_n 1, 1) := by decide +kernel
theorem d6_19 : decode prog_84_method_2_code 19 = .ok (.invokevirtual 26, 3) := by decide +kernel
theorem d6_22 : decode prog_84_method_2_code 22 = .ok (.aload_n 0, 1) := by decide +kernel
theorem d6_23 : decode prog_84_method_2_code 23 = .ok (.invokevirtual 30, 3) := by decide +kernel
theorem d6_26 : decode prog_84_method_2_code 26 = .ok (.ireturn, 1) := by decide +kernel
theorem pn_6 : plainName "com/example/templum/templum/model/TextStore" = true := by first | (simp [plainName, overriddenIn]; done) | decide +kernel
theorem ef_6 (m : MethodId) (x0 : Addr) (x1 : Addr) : entryFrame m #[(.ref x0), (.ref x1)] 2 = mkF m 0 #[.val (.ref x0), .val (.ref x1)] [] := by first | (simp [entryFrame, mkF, argsToLocals, Value.category]; done) | rfl
set_option maxRecDepth 65536 in
set_option maxHeartbeats 40000000 in
theorem rm6 (l : Launch) (Z : State) (a0 : Array Value) (hw : ∀ d ∈ tables_1, d.before a0 Z = true) (ws : List Jvm.Cond) (a1 x : Addr) (cs ds : List Int32) (z : Int32) (fm : Value) (k : Nat) (h0 : Heap) (n0 : Nat) (Z0 : n0 ≤ h0.size) (hfm : fm.isRef = true) (SF : Sta Z Z.heap "jdk/internal/util/Preconditions" "SIOOBE_FORMATTER" "Ljava/util/function/BiFunction;" fm) (SC : Sta Z Z.heap "java/lang/String" "COMPACT_STRINGS" "Z" (.int z)) (hz : ¬ z = (0 : Int32)) (OO : Old Z n0 h0) (hn : ds.length ≤ 15) (hS : cs.length ≤ 15) (hp : ∀ c ∈ ds, ¬ c < 0 ∧ ¬ (255 : Int32) < c) (SX : own_S Z h0 x ds) (T0 : own_T Z h0 n0 a1 cs 0) (hk : ds = [] ∨ cs ≠ [] ∨ 65536 ≤ k) :
    MetFree l (⟨"com/example/templum/templum/model/TextStore", "add", "(Ljava/lang/String;)I"⟩ : MethodName) (head1 (Jvm.Cond.code (⟨"com/example/templum/templum/model/TextStore", "add", "(Ljava/lang/String;)I"⟩ : MethodName) prog_84_method_2_code 2 (some .int) :: ws) ({ frames := 4, cells := 1, slots := k, locals := 68 } : Room)) (fun a U => a = #[(.ref a1), (.ref x)] ∧ Z.Warmed39 U.vm ∧ U.heap = h0) (fun _ _ _ _ _ => True) (fun _ U o U' => ∃ v L, o = .returned v ∧ Q6 Z a1 x cs ds z fm k h0 n0 v U'.heap L ∧ FrameEnd U o U' L ({ frames := 4, cells := 1, slots := k, locals := 68 } : Room).cells ({ frames := 4, cells := 1, slots := k, locals := 68 } : Room).slots) := by
  refine MetFree.of_bodySF (plainFor_of_name pn_6) hisR ?_
  intro p e s m args below meth c s₁ Bd hml0 hP hK
  obtain ⟨rfl, hZ, hh⟩ := hP
  have hx := Bd.exec
  have hby := Bd.bytes
  have hml : c.maxLocals = 2 := hml0
  have hown : s.vm.findClass "com/example/templum/templum/model/TextStore" = some m.cls := findClass_of_methodNamed Bd.named
  have hnm := (name_of_methodNamed Bd.named Bd.method).1
  have X0 : Stand p l e ({ frames := 4, cells := 1, slots := k, locals := 68 } : Room) s m #[(.ref a1), (.ref x)] below meth c s₁ [] 0 0 := Stand.of_body Bd
  have e0 : s₁.heap = h0 := by rw [← hh, Bd.state]; rfl
  have N0 := Fr.nil n0
  have pre0 : ∀ t, Steps p.tables e below (s₁.setTop (mkF m 0 #[.val (.ref a1), .val (.ref x)] [])) t → Steps p.tables e below (s₁.setTop (entryFrame m #[(.ref a1), (.ref x)] 2)) t := fun t k => castTop (ef_6 m a1 x) k
  obtain ⟨q0, kq0, F0⟩ := T0.F
  obtain ⟨T1, X1, e1, st1⟩ := getF X0 hx hZ hown (host := "") (Or.inl (hw _ (List.mem_of_getElem? (i := 42) rfl))) Via.refl e0 F0.2.2.2.1 (g := (mkF m 1 #[.val (.ref a1), .val (.ref x)] [(.ref a1)])) rfl rfl (hb hby d6_1)
  obtain ⟨T2, h2, L2, X2, e2, N2, K2, T2', st2⟩ := own_app X1 hx hZ hw hown (hw _ (List.mem_of_getElem? (i := 44) rfl)) e1 Z0 a1 x cs ds 0 z fm hfm SF SC hz OO hn hS hp SX T0 k hk (pc := 19) (Ls := #[.val (.ref a1), .val (.ref x)]) (rest := []) (by rw [hml]; rfl) (hb hby d6_19) (W := 0) (by show 2 * 0 + _ ≤ _; exact Nat.le_of_eq rfl) (Nat.le_of_ble_eq_true rfl) (Nat.le_of_ble_eq_true rfl) (Nat.le_of_ble_eq_true rfl) (Nat.le_of_eq (Nat.zero_add k)) N0
  have Z2 : n0 ≤ h2.size := Nat.le_trans Z0 K2.size
  obtain ⟨q2, kq2, F2⟩ := T2'.F
  obtain ⟨cq3, kq3, qa3, qb3, qc3⟩ := isOf hZ e2 F2.1
  obtain ⟨_, _, ⟨T3, L3, k3, n3⟩, -, X3, ⟨Lc3, hQ3, l3, y3, z3⟩, st3⟩ := X2.virtualBack hx (y := (⟨"com/example/templum/templum/model/TextStore", "close", "()I"⟩ : MethodName)) (z := (⟨"com/example/templum/templum/model/TextStore", "close", "()I"⟩ : MethodName)) hown (mvT hZ (hw _ (List.mem_of_getElem? (i := 71) rfl))) (mvT hZ (hw _ (List.mem_of_getElem? (i := 72) rfl))) (notFace_of_selects (args := #[]) (mvT hZ (hw _ (List.mem_of_getElem? (i := 74) rfl)))) (mvT hZ (hw _ (List.mem_of_getElem? (i := 74) rfl))) (mvT hZ (hw _ (List.mem_of_getElem? (i := 73) rfl))) (by decide) (backOf (W := 0) (rm11 l Z a0 hw [] a1 (cs ++ ds) (0 + ds.length) h2 n0 Z2 T2') hZ (hw _ (List.mem_of_getElem? (i := 75) rfl)) (hw _ (List.mem_of_getElem? (i := 28) rfl)) (Nat.le_of_ble_eq_true rfl) (Nat.le_of_ble_eq_true rfl)) qa3 qc3 (g := (mkF m 23 #[.val (.ref a1), .val (.ref x)] [(.ref a1)])) rfl (by rw [hml]; rfl) (Steps.refl _) (argsL := []) (rest := []) (lenOf pd_olen rfl) rfl (by show 2 * 0 + _ ≤ _; exact Nat.le_of_eq rfl) (hb hby d6_23) (fun _ _ => ⟨rfl, e2, (Nat.le_of_ble_eq_true rfl), (Nat.le_of_eq (by show 0 + k + 0 = k; omega))⟩)
  dsimp only [Pt.U, Pt.locs, Pt.cells, Pt.slots] at X3 l3 y3 z3 st3 hQ3
  subst l3 y3 z3
  obtain ⟨rfl, N3, K3, T3'⟩ := hQ3
  obtain ⟨fs, hr, hrun, hended, hW, hsame⟩ := X3.leave (v := some (.int (own_start (cs ++ ds) (0 + ds.length)))) (fun h => by rw [Bd.returns] at h; cases h)
  refine ⟨_, _, pre0 _ ?_, hrun, hended, _, _, rfl, ?_, ⟨_, rfl⟩, hW, hsame.mono (Nat.le_of_ble_eq_true rfl) (Nat.le_of_eq (by show 0 + k + 0 = k; omega))⟩
  · show Steps p.tables e below (s₁.setTop (mkF m 0 #[.val (.ref a1), .val (.ref x)] [])) _
    refine XS.aloadN X0.here hx rfl (hb hby d6_0) rfl rfl ?_
    show Steps p.tables e below (s₁.setTop (mkF m 1 #[.val (.ref a1), .val (.ref x)] [(.ref a1)])) _
    refine st1 _ ?_
    show Steps p.tables e below (T1.setTop (mkF m 4 #[.val (.ref a1), .val (.ref x)] [(.int (Int32.ofNat 0))])) _
    refine XS.ifYes X1.here hx rfl (pc0 := 4) (pc' := 17) rfl (hb hby d6_4) rfl ((if0 _ _).trans (flt (by decide : ¬ ((0 : Int32) < Int32.ofNat 0))).2.2.2) (by decide) (by decide) ?_
    show Steps p.tables e below (T1.setTop (mkF m 17 #[.val (.ref a1), .val (.ref x)] [])) _
    refine XS.aloadN X1.here hx rfl (hb hby d6_17) rfl rfl ?_
    show Steps p.tables e below (T1.setTop (mkF m 18 #[.val (.ref a1), .val (.ref x)] [(.ref a1)])) _
    refine XS.aloadN X1.here hx rfl (hb hby d6_18) rfl rfl ?_
    show Steps p.tables e below (T1.setTop (mkF m 19 #[.val (.ref a1), .val (.ref x)] [(.ref x), (.ref a1)])) _
    refine st2 _ ?_
    show Steps p.tables e below (T2.setTop (mkF m 22 #[.val (.ref a1), .val (.ref x)] [])) _
    refine XS.aloadN X2.here hx rfl (hb hby d6_22) rfl rfl ?_
    show Steps p.tables e below (T2.setTop (mkF m 23 #[.val (.ref a1), .val (.ref x)] [(.ref a1)])) _
    refine st3.trans ?_
    show Steps p.tables e below (T3.setTop (mkF m 26 #[.val (.ref a1), .val (.ref x)] [(.int (own_start (cs ++ ds) (0 + ds.length)))])) _
    exact retI X3 hx Bd.returns (hb hby d6_26) hr
  · exact ⟨rfl, Fr.app N2 N3, K2.trans K3, T3'⟩
end Jvm.Pilot.@@N@@
namespace Jvm.Pilot.@@N@@.StrChars.Road
open Jvm Sem ClassFile Op Lib Jvm.Stand Jvm.Free Jvm.Free.XT
open Jvm.Lib.Cold (StaticIs)
/-- the words of the four-argument constructor (those of the pasted list that it asks) -/
theorem own_tab4 {a : Array Value} {s : State} (h : ∀ w ∈ words, w.before a s = true) : New4.tab.before a s = true := by
  have h5 : Cmp5.tab.before a s = true := unparts (wk h (.code Cmp5.yN Cmp5.yB 7 (some .int))) (wks h (.initialized Cmp5.yN.cls :: Cmp5.site))
  have hc : CodL.tab.before a s = true := unparts (wk h (.code CodL.yN CodL.yB 2 (some .byte))) (wks h (.initialized CodL.yN.cls :: CodL.site))
  have q5 : ∀ w ∈ Cmp5.tab :: words, w.before a s = true := fun w hw => (List.mem_cons.mp hw).elim (fun e => e ▸ h5) (h w)
  have h3 : Cmp3.tab.before a s = true := unparts (wk q5 (.code Cmp3.yN Cmp3.yB 6 (some (.array .byte)))) (wks q5 (.initialized Cmp3.yN.cls :: Cmp3.site))
  have q3 : ∀ w ∈ Cmp3.tab :: CodL.tab :: words, w.before a s = true := fun w hw => (List.mem_cons.mp hw).elim (fun e => e ▸ h3) fun hw => (List.mem_cons.mp hw).elim (fun e => e ▸ hc) (h w)
  exact unparts (wk q3 (.code New4.yN New4.yB 6 none)) (wks q3 (.initialized New4.yN.cls :: New4.site))
/-- what comes back: n bytes, those of the chars from o on -/
def Q4 (Z : State) (x : Addr) (cs : List Int32) (o n : Nat) (h : Heap) (v : Option Value) (h' : Heap) (L : List Loc) : Prop := v = none ∧ (∀ y ∈ L, y.base = x) ∧ RoadKit.Keep h h' [x] ∧ RoadKit.Exa Z h' x ST ∧ RoadKit.Fld Z h' x ST "coder" "B" (.int 0) ∧
  ∃ (t : Addr) (kb : ClassId), RoadKit.Fld Z h' x ST "value" "[B" (.ref t) ∧ RoadKit.Arv Z h' t kb .byte (Int32.ofNat n) (((cs.drop o).take n).map fun c => Value.int (lo8 c)) (.int 0)
/-- **the four-argument constructor at a call**: n chars from o on, of an array that begins with cs -/
theorem own_back4 {p : Program} {l : Launch} {e : Env} {R : Room} {s : State} {args : Array Value} {below : List Frame} {len W : Nat} {Z : State} {a0 : Array Value} {h : Heap} (hZ : Z.Warmed39 s.vm) (hw : ∀ d ∈ words, d.before a0 Z = true) {kI : Nat} (wi : (Jvm.Cond.instantiable ST kI).before a0 Z = true)
    {x b : Addr} {k : ClassId} {zn z : Int32} {cs : List Int32} {o n : Nat} {v0 c0 : Value} (E : RoadKit.Exa Z h x ST) (V : RoadKit.Fld Z h x ST "value" "[B" v0) (C : RoadKit.Fld Z h x ST "coder" "B" c0) (K : RoadKit.Arv Z h b k .char zn (cs.map Value.int) (.int 0)) (S : RoadKit.Sta Z h ST "COMPACT_STRINGS" "Z" (.int z)) (hz : ¬ z = 0)
    (l0 : 0 < n) (l1 : o + n ≤ cs.length) (l2 : cs.length ≤ zn.toNatClampNeg) (l3 : zn.toNatClampNeg ≤ 65536) (hp : ∀ c ∈ cs, ¬ 255 < c) (hfr : 3 ≤ R.frames) (hlo : W + 52 ≤ R.locals) :
    Back l R p e below s args New4.yN len W (fun P a => a = #[.ref x, .ref b, .int (Int32.ofNat o), .int (Int32.ofNat n), .null] ∧ P.U.heap = h ∧ P.cells + 1 ≤ R.cells ∧ P.slots + n ≤ R.slots)
      (fun P _ v B => ∃ L, Q4 Z x cs o n h v B.U.heap L ∧ B.locs = P.locs ++ L ∧ B.cells = P.cells + 1 ∧ B.slots = P.slots + n) := by
  obtain ⟨A, K1, K2, K3, K4, K5, K6⟩ := K
  have hat : ∀ (i : Nat) (hi : i < cs.length), A.slots[i]? = some (.int cs[i]) := fun i hi => by rw [K5 i (by omega)]; simp [List.getD_eq_getElem?_getD, hi]
  have hcv : ∀ (i : Nat) (hi : i < cs.length), cv A i = cs[i] := fun i hi => by unfold cv; rw [hat i hi]
  have hty : Typed .char A := fun i v hv => by
    have hi : i < A.slots.size := (Array.getElem?_eq_some_iff.mp hv).1
    have q := K5 i hi
    rw [hv] at q
    rw [Option.some.inj q]
    exact K6 i hi
  intro m meth c P g ig mk a X hg hsize hdg hW hn hp'
  obtain ⟨rfl, rfl, r1, r2⟩ := hp'
  have al : Z.vm.Alike P.U.vm := hZ.alike.trans X.warmed.alike
  obtain ⟨D, fV, fC, hB, F1, F2, g1, g2, s1, s2⟩ := strObj wi al E V C
  have hA : Ch b A P.U := ⟨⟨K1.1, State.isArrayOf_alike al K1.2.1, K1.2.2, by omega⟩, hty⟩
  obtain ⟨v, B, X', ⟨⟨hv, E', V', q1, q2, q3, q4, q5, q6, q7, q8, q9, q10, q11⟩, hl, hc, hs⟩, st⟩ := (New4.law l x D fV fC b A z o n).pays (own_tab4 (moved hZ hw)) (by omega) (by omega) m meth c P g ig mk _ X hg hsize hdg hW hn ⟨r1, r2, rfl, hB, F1, F2, hA, sta_is al S, hz, l0, by omega, by omega, fun i hi => by rw [hcv (o + i) (by omega)]; exact hp _ (List.getElem_mem _)⟩
  have al' : Z.vm.Alike B.U.vm := hZ.alike.trans X'.warmed.alike
  obtain ⟨D0, cfV, kV, iV, gV0, hD, gV, stV, knV, obV, asV, slV⟩ := id V
  obtain ⟨D1, cfC, kC, iC, gC0, hD1, gC, stC, -, -, asC, slC⟩ := id C
  cases hD.symm.trans hD1
  cases hD.symm.trans hB.1
  obtain ⟨D2, kD, e1, e2, e3, e4, e5⟩ := id E
  cases hD.symm.trans e1
  obtain ⟨c2, k2, i1, i2, i3, -⟩ := Cond.instantiable_spec wi
  cases e2.symm.trans i1
  cases e3.symm.trans i2
  have eV : gV0.slot = fV.slot := by rw [← s1]; simp [RoadKit.slotOf, gV]
  have eC : gC0.slot = fC.slot := by rw [← s2]; simp [RoadKit.slotOf, gC]
  have hsz : E'.slots.size = D.slots.size := by
    obtain ⟨-, -, -, kB, w1, w2, w3⟩ := q1
    obtain ⟨kB', y1, y2⟩ := al'.2.2 _ _ e3
    rw [q2.2.1] at w1
    cases w1.symm.trans y1
    rw [w3, e5 i3, y2]
  refine ⟨v, B, X', ⟨_, ⟨hv, ?_, ⟨by omega, fun y cy hy hn' => q10 y cy (by simpa using hn') hy, fun y cy hy => ?_⟩, ⟨E', _, q1.1, by rw [q2.2.1]; exact e2, by rw [q2.2.1]; exact e3, by rw [q2.1]; exact obV, fun _ => by rw [hsz]; exact e5 i3⟩,
    ⟨E', cfC, kC, iC, gC0, q1.1, gC, stC, by rw [q2.1]; exact knV, by rw [q2.1]; exact obV, by rw [q2.2.1]; exact asC, by rw [eC]; exact q4⟩, P.U.heap.size, V'.cls, ⟨E', cfV, kV, iV, gV0, q1.1, gV, stV, by rw [q2.1]; exact knV, by rw [q2.1]; exact obV, by rw [q2.2.1]; exact asV, by rw [eV]; exact q3⟩,
    V', ⟨q5.1, State.isArrayOf_alike al'.symm q5.2.1, q5.2.2.1⟩, rfl, ?_, ?_, fun i hi => ?_, fun i hi => ?_⟩, hl, hc, hs⟩, st⟩
  · intro y hy
    simp only [List.mem_cons, List.not_mem_nil, or_false] at hy
    rcases hy with rfl | rfl <;> rfl
  · by_cases q : y = x
    · subst q
      cases hD.symm.trans hy
      exact ⟨E', q1.1, q2.2.1, q2.1, hsz⟩
    · exact ⟨cy, q10 y cy q hy, rfl, rfl, rfl⟩
  · rw [q8]
    exact (n32 (by omega)).symm
  · rw [Int32.lt_iff_toInt_lt, Int32.toInt_ofNat_of_lt (by omega), show (0 : Int32).toInt = 0 from rfl]; omega
  · have hi' : i < n := by omega
    rw [q9 i hi', hcv (o + i) (by omega)]
    simp [List.getD_eq_getElem?_getD, List.getElem?_take, hi', show o + i < cs.length from by omega]
  · have hi' : i < n := by omega
    simp only [List.getD_eq_getElem?_getD, List.getElem?_map, List.getElem?_take, hi', if_true, List.getElem?_drop, List.getElem?_eq_getElem (show o + i < cs.length from by omega), Option.map_some, Option.getD_some]
    exact fits_lo8 _
end Jvm.Pilot.@@N@@.StrChars.Road
namespace Jvm.Pilot.@@N@@
open Jvm Jvm.ClassFile Sem Op Lib Jvm.Free Jvm.Stand Jvm.LawKit Jvm.RoadKit Bundle Jvm.Pilot.@@N@@.Jvm.D
theorem own_strW : ∀ d ∈ StrChars.Road.words, d ∈ tables_1 := by decide +kernel
theorem pd_o31 : parseMethodDescriptor "([CII)Ljava/lang/Void;" = some ⟨[(.array .char), .int, .int], some (.object "java/lang/Void")⟩ := by decide +kernel
theorem pd_o4 : parseMethodDescriptor "([CIILjava/lang/Void;)V" = some ⟨[(.array .char), .int, .int, (.object "java/lang/Void")], none⟩ := by decide +kernel
def Q31 (Z : State) (b : Addr) (kc : ClassId) (cs : List Int32) (po n : Nat) (fm : Value) (h0 : Heap) (n0 : Nat) (v : Option Value) (h : Heap) (L : List Loc) : Prop := v = some .null ∧ Fr n0 L ∧ h = h0
theorem d31_0 : decode jdk_42_method_5_code 0 = .ok (.iload_n 1, 1) := by decide +kernel
theorem d31_1 : decode jdk_42_method_5_code 1 = .ok (.iload_n 2, 1) := by decide +kernel
theorem d31_2 : decode jdk_42_method_5_code 2 = .ok (.aload_n 0, 1) := by decide +kernel
theorem d31_3 : decode jdk_42_method_5_code 3 = .ok (.arraylength, 1) := by decide +kernel
theorem d31_4 : decode jdk_42_method_5_code 4 = .ok (.invokestatic 34, 3) := by decide +kernel
theorem d31_7 : decode jdk_42_method_5_code 7 = .ok (.pop, 1) := by decide +kernel
theorem d31_8 : decode jdk_42_method_5_code 8 = .ok (.aconst_null, 1) := by decide +kernel
theorem d31_9 : decode jdk_42_method_5_code 9 = .ok (.areturn, 1) := by decide +kernel
theorem pn_31 : plainName "java/lang/String" = true := by first | (simp [plainName, overriddenIn]; done) | decide +kernel
theorem ef_31 (m : MethodId) (x0 : Addr) (x1 : Int32) (x2 : Int32) : entryFrame m #[(.ref x0), (.int x1), (.int x2)] 3 = mkF m 0 #[.val (.ref x0), .val (.int x1), .val (.int x2)] [] := by first | (simp [entryFrame, mkF, argsToLocals, Value.category]; done) | rfl
set_option maxRecDepth 65536 in
set_option maxHeartbeats 40000000 in
theorem rm31 (l : Launch) (Z : State) (a0 : Array Value) (hw : ∀ d ∈ tables_1, d.before a0 Z = true) (ws : List Jvm.Cond) (b : Addr) (kc : ClassId) (cs : List Int32) (po n : Nat) (fm : Value) (h0 : Heap) (n0 : Nat) (Z0 : n0 ≤ h0.size) (hfm : fm.isRef = true) (SF : Sta Z h0 "jdk/internal/util/Preconditions" "SIOOBE_FORMATTER" "Ljava/util/function/BiFunction;" fm) (ho : po ≤ 15) (hn : n ≤ 15) (VD : Arv Z h0 b kc .char (65536 : Int32) (cs.map Value.int) (.int (0 : Int32))) :
    MetFree l (⟨"java/lang/String", "rangeCheck", "([CII)Ljava/lang/Void;"⟩ : MethodName) (head1 (Jvm.Cond.code (⟨"java/lang/String", "rangeCheck", "([CII)Ljava/lang/Void;"⟩ : MethodName) jdk_42_method_5_code 3 (some (.object "java/lang/Void")) :: ws) ({ frames := 2, cells := 0, slots := 0, locals := 29 } : Room)) (fun a U => a = #[(.ref b), (.int (Int32.ofNat po)), (.int (Int32.ofNat n))] ∧ Z.Warmed39 U.vm ∧ U.heap = h0) (fun _ _ _ _ _ => True) (fun _ U o U' => ∃ v L, o = .returned v ∧ Q31 Z b kc cs po n fm h0 n0 v U'.heap L ∧ FrameEnd U o U' L ({ frames := 2, cells := 0, slots := 0, locals := 29 } : Room).cells ({ frames := 2, cells := 0, slots := 0, locals := 29 } : Room).slots) := by
  refine MetFree.of_bodySF (plainFor_of_name pn_31) hisR ?_
  intro p e s m args below meth c s₁ Bd hml0 hP hK
  obtain ⟨rfl, hZ, hh⟩ := hP
  have hx := Bd.exec
  have hby := Bd.bytes
  have hml : c.maxLocals = 3 := hml0
  have hown : s.vm.findClass "java/lang/String" = some m.cls := findClass_of_methodNamed Bd.named
  have hnm := (name_of_methodNamed Bd.named Bd.method).1
  have X0 : Stand p l e ({ frames := 2, cells := 0, slots := 0, locals := 29 } : Room) s m #[(.ref b), (.int (Int32.ofNat po)), (.int (Int32.ofNat n))] below meth c s₁ [] 0 0 := Stand.of_body Bd
  have e0 : s₁.heap = h0 := by rw [← hh, Bd.state]; rfl
  have N0 := Fr.nil n0
  have pre0 : ∀ t, Steps p.tables e below (s₁.setTop (mkF m 0 #[.val (.ref b), .val (.int (Int32.ofNat po)), .val (.int (Int32.ofNat n))] [])) t → Steps p.tables e below (s₁.setTop (entryFrame m #[(.ref b), (.int (Int32.ofNat po)), (.int (Int32.ofNat n))] 3)) t := fun t k => castTop (ef_31 m b (Int32.ofNat po) (Int32.ofNat n)) k
  obtain ⟨cl2, Ar2, qd2, Sd2, Nd2, Hd2, Gd2⟩ := id VD
  obtain ⟨_, _, ⟨T1, L1, k1, n1⟩, -, X1, ⟨Lc1, hQ1, l1, y1, z1⟩, st1⟩ := Jvm.LawKit.callS X0 hx (y := (⟨"java/lang/String", "checkBoundsOffCount", "(III)I"⟩ : MethodName)) hown (mvT hZ (hw _ (List.mem_of_getElem? (i := 137) rfl))) (mvT hZ (hw _ (List.mem_of_getElem? (i := 138) rfl))) (mvT hZ (hw _ (List.mem_of_getElem? (i := 6) rfl))) (mvT hZ (hw _ (List.mem_of_getElem? (i := 139) rfl))) (by decide) (backOf (W := 0) (rm24 l Z a0 hw [] (Int32.ofNat po) (Int32.ofNat n) (65536 : Int32) fm h0 n0 Z0 hfm SF (own_or ho hn) (own_fit ho hn)) hZ (hw _ (List.mem_of_getElem? (i := 139) rfl)) (hw _ (List.mem_of_getElem? (i := 6) rfl)) (Nat.le_of_ble_eq_true rfl) (Nat.le_of_ble_eq_true rfl)) (g := (mkF m 4 #[.val (.ref b), .val (.int (Int32.ofNat po)), .val (.int (Int32.ofNat n))] [(.int (65536 : Int32)), (.int (Int32.ofNat n)), (.int (Int32.ofNat po))])) rfl (by rw [hml]; rfl) (argsL := [(.int (Int32.ofNat po)), (.int (Int32.ofNat n)), (.int (65536 : Int32))]) (rest := []) (lenOf pd_o3i rfl) rfl (by show 2 * 0 + _ ≤ _; exact Nat.le_of_eq rfl) (hb hby d31_4) (fun _ _ => ⟨rfl, e0, (Nat.le_of_ble_eq_true rfl), (Nat.le_of_ble_eq_true rfl)⟩)
  dsimp only [Pt.U, Pt.locs, Pt.cells, Pt.slots] at X1 l1 y1 z1 st1 hQ1
  subst l1 y1 z1
  obtain ⟨rfl, N1, eh1⟩ := hQ1
  obtain ⟨fs, hr, hrun, hended, hW, hsame⟩ := X1.leave (v := some .null) (fun h => by rw [Bd.returns] at h; cases h)
  refine ⟨_, _, pre0 _ ?_, hrun, hended, _, _, rfl, ?_, ⟨_, rfl⟩, hW, hsame.mono (by decide) (by decide)⟩
  · show Steps p.tables e below (s₁.setTop (mkF m 0 #[.val (.ref b), .val (.int (Int32.ofNat po)), .val (.int (Int32.ofNat n))] [])) _
    refine XS.iloadN X0.here hx rfl (hb hby d31_0) rfl ?_
    show Steps p.tables e below (s₁.setTop (mkF m 1 #[.val (.ref b), .val (.int (Int32.ofNat po)), .val (.int (Int32.ofNat n))] [(.int (Int32.ofNat po))])) _
    refine XS.iloadN X0.here hx rfl (hb hby d31_1) rfl ?_
    show Steps p.tables e below (s₁.setTop (mkF m 2 #[.val (.ref b), .val (.int (Int32.ofNat po)), .val (.int (Int32.ofNat n))] [(.int (Int32.ofNat n)), (.int (Int32.ofNat po))])) _
    refine XS.aloadN X0.here hx rfl (hb hby d31_2) rfl rfl ?_
    show Steps p.tables e below (s₁.setTop (mkF m 3 #[.val (.ref b), .val (.int (Int32.ofNat po)), .val (.int (Int32.ofNat n))] [(.ref b), (.int (Int32.ofNat n)), (.int (Int32.ofNat po))])) _
    refine X0.arraylength hx (cell := cl2) (by rw [e0]; exact Ar2.1) (State.isArrayOf_alike hZ.alike Ar2.2.1) (g := (mkF m 3 #[.val (.ref b), .val (.int (Int32.ofNat po)), .val (.int (Int32.ofNat n))] [(.ref b), (.int (Int32.ofNat n)), (.int (Int32.ofNat po))])) rfl rfl (hb hby d31_3) _ ?_
    rw [len_of Sd2 Nd2]
    show Steps p.tables e below (s₁.setTop (mkF m 4 #[.val (.ref b), .val (.int (Int32.ofNat po)), .val (.int (Int32.ofNat n))] [(.int (65536 : Int32)), (.int (Int32.ofNat n)), (.int (Int32.ofNat po))])) _
    refine st1 _ ?_
    show Steps p.tables e below (T1.setTop (mkF m 7 #[.val (.ref b), .val (.int (Int32.ofNat po)), .val (.int (Int32.ofNat n))] [(.int (Int32.ofNat po))])) _
    refine XS.pop X1.here hx rfl (hb hby d31_7) rfl rfl ?_
    show Steps p.tables e below (T1.setTop (mkF m 8 #[.val (.ref b), .val (.int (Int32.ofNat po)), .val (.int (Int32.ofNat n))] [])) _
    refine XS.aconstNull X1.here hx rfl (hb hby d31_8) ?_
    show Steps p.tables e below (T1.setTop (mkF m 9 #[.val (.ref b), .val (.int (Int32.ofNat po)), .val (.int (Int32.ofNat n))] [.null])) _
    jvm_step X1.here [X1.here.top, hx, (hb hby d31_9), X1.method', Bd.returns, Value.isRef, FieldType.isReference]
    first | (intro acts; rw [hr _ acts rfl rfl rfl]) | rw [hr _ _ rfl rfl rfl]
    exact Steps.refl _
  · exact ⟨rfl, Fr.app N0 N1, eh1⟩
def Q30 (Z : State) (x b : Addr) (kc : ClassId) (cs : List Int32) (po n : Nat) (v0 c0 : Value) (z : Int32) (fm : Value) (h0 : Heap) (n0 : Nat) (v : Option Value) (h : Heap) (L : List Loc) : Prop := v = none ∧ Fr n0 L ∧ Keep h0 h [x] ∧ own_S Z h x ((cs.drop po).take n)
theorem d30_0 : decode jdk_42_method_4_code 0 = .ok (.aload_n 0, 1) := by decide +kernel
theorem d30_1 : decode jdk_42_method_4_code 1 = .ok (.aload_n 1, 1) := by decide +kernel
theorem d30_2 : decode jdk_42_method_4_code 2 = .ok (.iload_n 2, 1) := by decide +kernel
theorem d30_3 : decode jdk_42_method_4_code 3 = .ok (.iload_n 3, 1) := by decide +kernel
theorem d30_4 : decode jdk_42_method_4_code 4 = .ok (.aload_n 1, 1) := by decide +kernel
theorem d30_5 : decode jdk_42_method_4_code 5 = .ok (.iload_n 2, 1) := by decide +kernel
theorem d30_6 : decode jdk_42_method_4_code 6 = .ok (.iload_n 3, 1) := by decide +kernel
theorem d30_7 : decode jdk_42_method_4_code 7 = .ok (.invokestatic 30, 3) := by decide +kernel
theorem d30_10 : decode jdk_42_method_4_code 10 = .ok (.invokespecial 27, 3) := by decide +kernel
theorem d30_13 : decode jdk_42_method_4_code 13 = .ok (.return_, 1) := by decide +kernel
theorem pn_30 : plainName "java/lang/String" = true := by first | (simp [plainName, overriddenIn]; done) | decide +kernel
theorem ef_30 (m : MethodId) (x0 : Addr) (x1 : Addr) (x2 : Int32) (x3 : Int32) : entryFrame m #[(.ref x0), (.ref x1), (.int x2), (.int x3)] 4 = mkF m 0 #[.val (.ref x0), .val (.ref x1), .val (.int x2), .val (.int x3)] [] := by first | (simp [entryFrame, mkF, argsToLocals, Value.category]; done) | rfl
set_option maxRecDepth 65536 in
set_option maxHeartbeats 40000000 in
theorem rm30 (l : Launch) (Z : State) (a0 : Array Value) (hw : ∀ d ∈ tables_1, d.before a0 Z = true) (ws : List Jvm.Cond) (x b : Addr) (kc : ClassId) (cs : List Int32) (po n : Nat) (v0 c0 : Value) (z : Int32) (fm : Value) (h0 : Heap) (n0 : Nat) (Z0 : n0 ≤ h0.size) (hfm : fm.isRef = true) (SF : Sta Z h0 "jdk/internal/util/Preconditions" "SIOOBE_FORMATTER" "Ljava/util/function/BiFunction;" fm) (SC : Sta Z h0 "java/lang/String" "COMPACT_STRINGS" "Z" (.int z)) (hz : ¬ z = (0 : Int32)) (hS : cs.length ≤ 15) (hpos : 0 < n) (hlen : po + n ≤ cs.length) (hp : ∀ c ∈ cs, ¬ (255 : Int32) < c) (VD : Arv Z h0 b kc .char (65536 : Int32) (cs.map Value.int) (.int (0 : Int32))) (EX : Exa Z h0 x "java/lang/String") (FV : Fld Z h0 x "java/lang/String" "value" "[B" v0) (FC : Fld Z h0 x "java/lang/String" "coder" "B" c0) (gx : n0 ≤ x) :
    MetFree l (⟨"java/lang/String", "<init>", "([CII)V"⟩ : MethodName) (head1 (Jvm.Cond.code (⟨"java/lang/String", "<init>", "([CII)V"⟩ : MethodName) jdk_42_method_4_code 4 none :: ws) ({ frames := 3, cells := 1, slots := 15, locals := 52 } : Room)) (fun a U => a = #[(.ref x), (.ref b), (.int (Int32.ofNat po)), (.int (Int32.ofNat n))] ∧ Z.Warmed39 U.vm ∧ U.heap = h0) (fun _ _ _ _ _ => True) (fun _ U o U' => ∃ v L, o = .returned v ∧ Q30 Z x b kc cs po n v0 c0 z fm h0 n0 v U'.heap L ∧ FrameEnd U o U' L ({ frames := 3, cells := 1, slots := 15, locals := 52 } : Room).cells ({ frames := 3, cells := 1, slots := 15, locals := 52 } : Room).slots) := by
  refine MetFree.of_bodySF (plainFor_of_name pn_30) hisR ?_
  intro p e s m args below meth c s₁ Bd hml0 hP hK
  obtain ⟨rfl, hZ, hh⟩ := hP
  have hx := Bd.exec
  have hby := Bd.bytes
  have hml : c.maxLocals = 4 := hml0
  have hown : s.vm.findClass "java/lang/String" = some m.cls := findClass_of_methodNamed Bd.named
  have hnm := (name_of_methodNamed Bd.named Bd.method).1
  have X0 : Stand p l e ({ frames := 3, cells := 1, slots := 15, locals := 52 } : Room) s m #[(.ref x), (.ref b), (.int (Int32.ofNat po)), (.int (Int32.ofNat n))] below meth c s₁ [] 0 0 := Stand.of_body Bd
  have e0 : s₁.heap = h0 := by rw [← hh, Bd.state]; rfl
  have N0 := Fr.nil n0
  have pre0 : ∀ t, Steps p.tables e below (s₁.setTop (mkF m 0 #[.val (.ref x), .val (.ref b), .val (.int (Int32.ofNat po)), .val (.int (Int32.ofNat n))] [])) t → Steps p.tables e below (s₁.setTop (entryFrame m #[(.ref x), (.ref b), (.int (Int32.ofNat po)), (.int (Int32.ofNat n))] 4)) t := fun t k => castTop (ef_30 m x b (Int32.ofNat po) (Int32.ofNat n)) k
  obtain ⟨_, _, ⟨T1, L1, k1, n1⟩, -, X1, ⟨Lc1, hQ1, l1, y1, z1⟩, st1⟩ := Jvm.LawKit.callS X0 hx (y := (⟨"java/lang/String", "rangeCheck", "([CII)Ljava/lang/Void;"⟩ : MethodName)) hown (mvT hZ (hw _ (List.mem_of_getElem? (i := 160) rfl))) (mvT hZ (hw _ (List.mem_of_getElem? (i := 161) rfl))) (mvT hZ (hw _ (List.mem_of_getElem? (i := 6) rfl))) (mvT hZ (hw _ (List.mem_of_getElem? (i := 162) rfl))) (by decide) (backOf (W := 4) (rm31 l Z a0 hw [] b kc cs po n fm h0 n0 Z0 hfm SF (by omega) (by omega) VD) hZ (hw _ (List.mem_of_getElem? (i := 162) rfl)) (hw _ (List.mem_of_getElem? (i := 6) rfl)) (Nat.le_of_ble_eq_true rfl) (Nat.le_of_ble_eq_true rfl)) (g := (mkF m 7 #[.val (.ref x), .val (.ref b), .val (.int (Int32.ofNat po)), .val (.int (Int32.ofNat n))] [(.int (Int32.ofNat n)), (.int (Int32.ofNat po)), (.ref b), (.int (Int32.ofNat n)), (.int (Int32.ofNat po)), (.ref b), (.ref x)])) rfl (by rw [hml]; rfl) (argsL := [(.ref b), (.int (Int32.ofNat po)), (.int (Int32.ofNat n))]) (rest := [(.int (Int32.ofNat n)), (.int (Int32.ofNat po)), (.ref b), (.ref x)]) (lenOf pd_o31 rfl) rfl (by show 2 * 0 + _ ≤ _; exact Nat.le_of_eq rfl) (hb hby d30_7) (fun _ _ => ⟨rfl, e0, (Nat.le_of_ble_eq_true rfl), (Nat.le_of_ble_eq_true rfl)⟩)
  dsimp only [Pt.U, Pt.locs, Pt.cells, Pt.slots] at X1 l1 y1 z1 st1 hQ1
  subst l1 y1 z1
  obtain ⟨rfl, N1, eh1⟩ := hQ1
  have hws : ∀ d ∈ StrChars.Road.words, d.before a0 Z = true := fun d hd => hw d (own_strW d hd)
  obtain ⟨_, _, ⟨T2, L2, k2, n2⟩, -, X2, ⟨Lc2, hQ2, l2, y2, z2⟩, st2⟩ := X1.specialBack hx (y := StrChars.New4.yN) rfl hown (mvT hZ (hw _ (List.mem_of_getElem? (i := 11) rfl))) (mvT hZ (hw _ (List.mem_of_getElem? (i := 12) rfl))) (mvT hZ (hw _ (List.mem_of_getElem? (i := 14) rfl))) (by decide) (StrChars.Road.own_back4 (W := 0) hZ hws (kI := 4) (hw _ (List.mem_of_getElem? (i := 5) rfl)) EX FV FC VD SC hz hpos hlen (by show cs.length ≤ 65536; omega) (Nat.le_of_ble_eq_true rfl) hp (Nat.le_of_ble_eq_true rfl) (Nat.le_of_ble_eq_true rfl)) (g := (mkF m 10 #[.val (.ref x), .val (.ref b), .val (.int (Int32.ofNat po)), .val (.int (Int32.ofNat n))] [.null, (.int (Int32.ofNat n)), (.int (Int32.ofNat po)), (.ref b), (.ref x)])) rfl (by rw [hml]; rfl) (Steps.refl _) (a := x) (argsL := [(.ref b), (.int (Int32.ofNat po)), (.int (Int32.ofNat n)), .null]) (rest := []) (lenOf pd_o4 rfl) rfl (by show 2 * 0 + _ ≤ _; exact Nat.le_of_eq rfl) (hb hby d30_10) (fun _ _ => ⟨rfl, eh1, (Nat.le_of_ble_eq_true rfl), (by show 0 + 0 + n ≤ 15; omega)⟩)
  dsimp only [Pt.U, Pt.locs, Pt.cells, Pt.slots] at X2 l2 y2 z2 st2 hQ2
  subst l2 y2 z2
  obtain ⟨rfl, N2, K2, E2, C2, t2, kb2, V2, A2⟩ := hQ2
  have N2' : Fr n0 Lc2 := fun y hy => by rw [N2 y hy]; exact gx
  obtain ⟨fs, hr, hrun, hended, hW, hsame⟩ := X2.leave (v := none) (fun _ => rfl)
  refine ⟨_, _, pre0 _ ?_, hrun, hended, _, _, rfl, ?_, ⟨_, rfl⟩, hW, hsame.mono (Nat.le_of_ble_eq_true rfl) (by show 0 + 0 + n ≤ 15; omega)⟩
  · show Steps p.tables e below (s₁.setTop (mkF m 0 #[.val (.ref x), .val (.ref b), .val (.int (Int32.ofNat po)), .val (.int (Int32.ofNat n))] [])) _
    refine XS.aloadN X0.here hx rfl (hb hby d30_0) rfl rfl ?_
    show Steps p.tables e below (s₁.setTop (mkF m 1 #[.val (.ref x), .val (.ref b), .val (.int (Int32.ofNat po)), .val (.int (Int32.ofNat n))] [(.ref x)])) _
    refine XS.aloadN X0.here hx rfl (hb hby d30_1) rfl rfl ?_
    show Steps p.tables e below (s₁.setTop (mkF m 2 #[.val (.ref x), .val (.ref b), .val (.int (Int32.ofNat po)), .val (.int (Int32.ofNat n))] [(.ref b), (.ref x)])) _
    refine XS.iloadN X0.here hx rfl (hb hby d30_2) rfl ?_
    show Steps p.tables e below (s₁.setTop (mkF m 3 #[.val (.ref x), .val (.ref b), .val (.int (Int32.ofNat po)), .val (.int (Int32.ofNat n))] [(.int (Int32.ofNat po)), (.ref b), (.ref x)])) _
    refine XS.iloadN X0.here hx rfl (hb hby d30_3) rfl ?_
    show Steps p.tables e below (s₁.setTop (mkF m 4 #[.val (.ref x), .val (.ref b), .val (.int (Int32.ofNat po)), .val (.int (Int32.ofNat n))] [(.int (Int32.ofNat n)), (.int (Int32.ofNat po)), (.ref b), (.ref x)])) _
    refine XS.aloadN X0.here hx rfl (hb hby d30_4) rfl rfl ?_
    show Steps p.tables e below (s₁.setTop (mkF m 5 #[.val (.ref x), .val (.ref b), .val (.int (Int32.ofNat po)), .val (.int (Int32.ofNat n))] [(.ref b), (.int (Int32.ofNat n)), (.int (Int32.ofNat po)), (.ref b), (.ref x)])) _
    refine XS.iloadN X0.here hx rfl (hb hby d30_5) rfl ?_
    show Steps p.tables e below (s₁.setTop (mkF m 6 #[.val (.ref x), .val (.ref b), .val (.int (Int32.ofNat po)), .val (.int (Int32.ofNat n))] [(.int (Int32.ofNat po)), (.ref b), (.int (Int32.ofNat n)), (.int (Int32.ofNat po)), (.ref b), (.ref x)])) _
    refine XS.iloadN X0.here hx rfl (hb hby d30_6) rfl ?_
    show Steps p.tables e below (s₁.setTop (mkF m 7 #[.val (.ref x), .val (.ref b), .val (.int (Int32.ofNat po)), .val (.int (Int32.ofNat n))] [(.int (Int32.ofNat n)), (.int (Int32.ofNat po)), (.ref b), (.int (Int32.ofNat n)), (.int (Int32.ofNat po)), (.ref b), (.ref x)])) _
    refine st1 _ ?_
    show Steps p.tables e below (T1.setTop (mkF m 10 #[.val (.ref x), .val (.ref b), .val (.int (Int32.ofNat po)), .val (.int (Int32.ofNat n))] [.null, (.int (Int32.ofNat n)), (.int (Int32.ofNat po)), (.ref b), (.ref x)])) _
    refine st2.trans ?_
    show Steps p.tables e below (T2.setTop (mkF m 13 #[.val (.ref x), .val (.ref b), .val (.int (Int32.ofNat po)), .val (.int (Int32.ofNat n))] [])) _
    exact X2.returnOut hx Bd.returns (hb hby d30_13) hr
  · exact ⟨rfl, Fr.app (Fr.app N0 N1) N2', K2, E2, C2, t2, kb2, V2, by rw [show ((cs.drop po).take n).length = n from by simp; omega]; exact A2⟩
abbrev own_EL : List (String × Nat) := [("com/example/templum/templum/model/TextStore", 105), ("java/lang/String", 7)]
theorem own_since (s : State) : s.Since s.vm s.heap.size := (State.WarmedH.refl s).since _
theorem own_EW {Z : State} {a0 : Array Value} (hw : ∀ d ∈ tables_1, d.before a0 Z = true) : EW Z a0 own_EL :=
  EW.cons (text := "") (hw _ (List.mem_of_getElem? (i := 88) rfl)) (by decide) (EW.cons (text := "") (hw _ (List.mem_of_getElem? (i := 18) rfl)) (by decide) EW.nil)
theorem own_satoms : ∀ d ∈ Bundle.stringAtoms, d ∈ tables_1 := by decide +kernel
/-- a String whose value isn't laid yet is no literal -/
theorem own_safe {Z : State} {a0 : Array Value} {EL : List (String × Nat)} {vm : Vm} {h : Heap} {x : Addr} {kI : Nat} (wi : (Jvm.Cond.instantiable "java/lang/String" kI).before a0 Z = true) (hal : Z.vm.Alike vm) (E : Exa Z h x "java/lang/String") (F : Fld Z h x "java/lang/String" "value" "[B" .null) : Safe Z EL vm h x := fun B => by
  obtain ⟨p, -, u, a, -, q, -, G, hy⟩ := B
  obtain ⟨cS, ⟨⟨s1, s2, s3, ⟨cv, kv, iv, s4, s4'⟩, ⟨cc, kc, ic, s5, s5'⟩, s6, s7, s8, s9, s10, s11, s12, s13, s14, s15, s16⟩, hfS, hcS⟩, -⟩ := G
  rcases hy with rfl | rfl
  · obtain ⟨cell, cf, k, i, f, f1, f2, f3, f4, f5, f6, f7⟩ := F
    cases (show h[q.sa]? = some q.sC from s1).symm.trans f1
    obtain ⟨kv', z4⟩ := ff_back (U := Wst Z vm h) hal s4
    have e4 := z4.symm.trans f2
    simp only [Option.some.injEq, Prod.mk.injEq] at e4
    rw [← e4.2.2.2, s8] at f7
    simp at f7
  · exact ne_arr E wi (c := q.SA) (ty := .byte) ⟨s10, State.isArrayOf_alike (T := Z) hal.symm s11, s12⟩ rfl
def Q3 (Z : State) (x b : Addr) (c0 : Value) (h0 : Heap) (n0 : Nat) (v : Option Value) (h : Heap) (L : List Loc) : Prop := v = none ∧ Fr n0 L ∧ Keep h0 h [x] ∧ own_S Z h x []
theorem d3_0 : decode jdk_42_method_149_code 0 = .ok (.aload_n 0, 1) := by decide +kernel
theorem d3_1 : decode jdk_42_method_149_code 1 = .ok (.invokespecial 1, 3) := by decide +kernel
theorem d3_4 : decode jdk_42_method_149_code 4 = .ok (.iload_n 3, 1) := by decide +kernel
theorem d3_5 : decode jdk_42_method_149_code 5 = .ok (.ifCond .ne 22, 3) := by decide +kernel
theorem d3_8 : decode jdk_42_method_149_code 8 = .ok (.aload_n 0, 1) := by decide +kernel
theorem d3_9 : decode jdk_42_method_149_code 9 = .ok (.ldc 7, 2) := by decide +kernel
theorem d3_11 : decode jdk_42_method_149_code 11 = .ok (.getfield 9, 3) := by decide +kernel
theorem d3_14 : decode jdk_42_method_149_code 14 = .ok (.putfield 9, 3) := by decide +kernel
theorem d3_17 : decode jdk_42_method_149_code 17 = .ok (.aload_n 0, 1) := by decide +kernel
theorem d3_18 : decode jdk_42_method_149_code 18 = .ok (.ldc 7, 2) := by decide +kernel
theorem d3_20 : decode jdk_42_method_149_code 20 = .ok (.getfield 15, 3) := by decide +kernel
theorem d3_23 : decode jdk_42_method_149_code 23 = .ok (.putfield 15, 3) := by decide +kernel
theorem d3_26 : decode jdk_42_method_149_code 26 = .ok (.return_, 1) := by decide +kernel
theorem pn_3 : plainName "java/lang/String" = true := by first | (simp [plainName, overriddenIn]; done) | decide +kernel
theorem ef_3 (m : MethodId) (x0 : Addr) (x1 : Addr) (x2 : Int32) (x3 : Int32) : entryFrame m #[(.ref x0), (.ref x1), (.int x2), (.int x3), .null] 6 = mkF m 0 #[.val (.ref x0), .val (.ref x1), .val (.int x2), .val (.int x3), .val .null, .unset] [] := by first | (simp [entryFrame, mkF, argsToLocals, Value.category]; done) | rfl
set_option maxRecDepth 65536 in
set_option maxHeartbeats 40000000 in
theorem rm3 (l : Launch) (Z : State) (a0 : Array Value) (hw : ∀ d ∈ tables_1, d.before a0 Z = true) (ws : List Jvm.Cond) (x b : Addr) (c0 : Value) (h0 : Heap) (n0 : Nat) (Z0 : n0 ≤ h0.size) (EX : Exa Z h0 x "java/lang/String") (FV : Fld Z h0 x "java/lang/String" "value" "[B" .null) (FC : Fld Z h0 x "java/lang/String" "coder" "B" c0) (gx : n0 ≤ x) :
    MetFree l (⟨"java/lang/String", "<init>", "([CIILjava/lang/Void;)V"⟩ : MethodName) (head1 (Jvm.Cond.code (⟨"java/lang/String", "<init>", "([CIILjava/lang/Void;)V"⟩ : MethodName) jdk_42_method_149_code 6 none :: ws) ({ frames := 1, cells := 4, slots := 8, locals := 12 } : Room)) (fun a U => a = #[(.ref x), (.ref b), (.int (0 : Int32)), (.int (0 : Int32)), .null] ∧ Z.Warmed39 U.vm ∧ U.heap = h0 ∧ CHv Z own_EL U.vm h0) (fun _ _ _ _ _ => True) (fun _ U o U' => ∃ v L, o = .returned v ∧ Q3 Z x b c0 h0 n0 v U'.heap L ∧ CHr Z own_EL U.vm U.heap U'.vm U'.heap ∧ ReturnedEndW U o U' L ({ frames := 1, cells := 4, slots := 8, locals := 12 } : Room).cells ({ frames := 1, cells := 4, slots := 8, locals := 12 } : Room).slots) := by
  refine MetFree.of_bodySF (plainFor_of_name pn_3) hisR ?_
  intro p e s m args below meth c s₁ Bd hml0 hP hK
  obtain ⟨rfl, hZ, hh, H0⟩ := hP
  have hx := Bd.exec
  have hby := Bd.bytes
  have hml : c.maxLocals = 6 := hml0
  have hown : s.vm.findClass "java/lang/String" = some m.cls := findClass_of_methodNamed Bd.named
  have hnm := (name_of_methodNamed Bd.named Bd.method).1
  have X0 : Stand p l e ({ frames := 1, cells := 4, slots := 8, locals := 12 } : Room) (s.setVm s.vm) m #[(.ref x), (.ref b), (.int (0 : Int32)), (.int (0 : Int32)), .null] below meth c s₁ [] 0 0 := Stand.of_body Bd
  have hS0 : s.Since s.vm s.heap.size := own_since s
  have e0 : s₁.heap = h0 := by rw [← hh, Bd.state]; rfl
  have N0 := Fr.nil n0
  have pre0 : ∀ t, Steps p.tables e below (s₁.setTop (mkF m 0 #[.val (.ref x), .val (.ref b), .val (.int (0 : Int32)), .val (.int (0 : Int32)), .val .null, .unset] [])) t → Steps p.tables e below (s₁.setTop (entryFrame m #[(.ref x), (.ref b), (.int (0 : Int32)), (.int (0 : Int32)), .null] 6)) t := fun t k => castTop (ef_3 m x b (0 : Int32) (0 : Int32)) k
  have hEL := own_EW hw
  have wS : ∀ d ∈ Bundle.stringAtoms, d.before a0 Z = true := fun d hd => hw d (own_satoms d hd)
  have wi := (hw _ (List.mem_of_getElem? (i := 5) rfl))
  have C0 : CHr Z own_EL s.vm h0 s.vm h0 := CHr.refl H0
  have hk0 : s.heap.size ≤ h0.size := by rw [← hh]; exact Nat.le_refl _
  have S0 : Safe Z own_EL s.vm h0 x := own_safe wi hZ.alike EX FV
  obtain ⟨T1, X1, e1, st1⟩ := initO X0 hx hZ hown (hw _ (List.mem_of_getElem? (i := 15) rfl)) (hw _ (List.mem_of_getElem? (i := 16) rfl)) (hw _ (List.mem_of_getElem? (i := 17) rfl)) e0 (g := (mkF m 1 #[.val (.ref x), .val (.ref b), .val (.int (0 : Int32)), .val (.int (0 : Int32)), .val .null, .unset] [(.ref x)])) rfl (by rw [hml]; rfl) rfl (hb hby d3_1) (by decide) (W := 0) (by show 2 * 0 + _ ≤ _; exact Nat.le_of_eq rfl) (by decide)
  obtain ⟨la2, T2, h2, kk2, lb2, lk2, X2, e2, E2, hS2, hk2, hZ2, hown2, LE2, LC2, LV2, LA2, -, -, CR2, -, LS2, st2⟩ := ldcCH X1 hx hZ hown (hw _ (List.mem_of_getElem? (i := 18) rfl)) wS e1 hS0 hk0 hEL (by decide) C0.1 (vs := []) (z := 0) ⟨by decide, rfl⟩ (by decide) rfl (g := (mkF m 9 #[.val (.ref x), .val (.ref b), .val (.int (0 : Int32)), .val (.int (0 : Int32)), .val .null, .unset] [(.ref x)])) rfl (hb hby d3_9) (n := 0) (by decide) (by decide) (by decide : 0 + 2 ≤ _) (by decide : 0 + (0 + 4) ≤ _)
  have C2 := C0.trans CR2
  have S2 := CR2.safe EX.lt S0
  obtain ⟨nla2, nlb2⟩ := LS2 x S2
  obtain ⟨T3, X3, e3, st3⟩ := getF X2 hx hZ2 hown2 (host := "") (Or.inl (hw _ (List.mem_of_getElem? (i := 24) rfl))) Via.refl e2 LV2 (g := (mkF m 11 #[.val (.ref x), .val (.ref b), .val (.int (0 : Int32)), .val (.int (0 : Int32)), .val .null, .unset] [(.ref la2), (.ref x)])) rfl rfl (hb hby d3_11)
  obtain ⟨T4, h4, X4, e4, W4, st4⟩ := putF X3 hx hZ2 hown2 (host := "") (Or.inl (hw _ (List.mem_of_getElem? (i := 24) rfl))) Via.refl e3 (FV.ext E2) (EX.ext E2) (Or.inr ⟨(hw _ (List.mem_of_getElem? (i := 20) rfl)), rfl, hnm⟩) wi (ty := (.array .byte)) (by decide) rfl rfl (g := (mkF m 14 #[.val (.ref x), .val (.ref b), .val (.int (0 : Int32)), .val (.int (0 : Int32)), .val .null, .unset] [(.ref lb2), (.ref x)])) rfl rfl (hb hby d3_14)
  have N4 := Fr.snoc X4 N0 gx
  have K4 : Keep h0 h4 [x] := ((Keep.refl h0 [x]).ext E2).wr W4 (Or.inl (List.mem_of_getElem? (i := 0) rfl))
  have CW4 := CHr.wr W4 S2 C2.1
  have C4 := C2.trans CW4
  have S4 := Safe.wr W4 S2 C2.1 S2
  have EX4 := (EX.ext E2).wr W4
  have sv := slot_ne (Or.inr (hw _ (List.mem_of_getElem? (i := 21) rfl))) (Or.inr (hw _ (List.mem_of_getElem? (i := 20) rfl))) (by decide) (t := .byte) (t' := (.array .byte)) (by decide) (by decide)
  have FC4 := (FC.ext E2).other W4 (Or.inr sv)
  have FV4 := (FV.ext E2).same W4
  have LA4 := LA2.other W4 (Ne.symm nlb2)
  have hk4 : kk2 ≤ h4.size := by rw [W4.size]; exact hk2
  obtain ⟨la5, T5, h5, kk5, lb5, lk5, X5, e5, E5, hS5, hk5, hZ5, hown5, LE5, LC5, LV5, LA5, -, -, CR5, -, LS5, st5⟩ := ldcCH X4 hx hZ2 hown2 (hw _ (List.mem_of_getElem? (i := 18) rfl)) wS e4 hS2 hk4 hEL (by decide) C4.1 (vs := []) (z := 0) ⟨by decide, rfl⟩ (by decide) rfl (g := (mkF m 18 #[.val (.ref x), .val (.ref b), .val (.int (0 : Int32)), .val (.int (0 : Int32)), .val .null, .unset] [(.ref x)])) rfl (hb hby d3_18) (n := 0) (by decide) (by decide) (by decide : 0 + 2 + 2 ≤ _) (by decide : 0 + (0 + 4) + (0 + 4) ≤ _)
  have C5 := C4.trans CR5
  have S5 := CR5.safe EX4.lt S4
  obtain ⟨T6, X6, e6, st6⟩ := getF X5 hx hZ5 hown5 (host := "") (Or.inl (hw _ (List.mem_of_getElem? (i := 25) rfl))) Via.refl e5 LC5 (g := (mkF m 20 #[.val (.ref x), .val (.ref b), .val (.int (0 : Int32)), .val (.int (0 : Int32)), .val .null, .unset] [(.ref la5), (.ref x)])) rfl rfl (hb hby d3_20)
  obtain ⟨T7, h7, X7, e7, W7, st7⟩ := putFN X6 hx hZ5 hown5 (hw _ (List.mem_of_getElem? (i := 25) rfl)) Via.refl e6 (FC4.ext E5) (EX4.ext E5) (Or.inr ⟨(hw _ (List.mem_of_getElem? (i := 21) rfl)), rfl, hnm⟩) wi (ty := .byte) (v' := (.int (nar .byte 0))) (by decide) rfl (fits_nar_byte _) (g := (mkF m 23 #[.val (.ref x), .val (.ref b), .val (.int (0 : Int32)), .val (.int (0 : Int32)), .val .null, .unset] [(.int (0 : Int32)), (.ref x)])) rfl rfl (hb hby d3_23)
  have N7 := Fr.snoc X7 N4 gx
  have K7 : Keep h0 h7 [x] := (K4.ext E5).wr W7 (Or.inl (List.mem_of_getElem? (i := 0) rfl))
  have CW7 := CHr.wr W7 S5 C5.1
  have C7 := C5.trans CW7
  have hk7 : kk5 ≤ h7.size := by rw [W7.size]; exact hk5
  have sv7 := slot_ne (Or.inr (hw _ (List.mem_of_getElem? (i := 20) rfl))) (Or.inr (hw _ (List.mem_of_getElem? (i := 21) rfl))) (by decide) (t := (.array .byte)) (t' := .byte) (by decide) (by decide)
  have nlb5 : lb2 ≠ x := Ne.symm nlb2
  obtain ⟨fs, hr, hrun, hended, hEnd⟩ := X7.leaveW hS5 (show kk5 ≤ T7.heap.size from by rw [e7]; exact hk7) (v := none) (fun _ => rfl)
  refine ⟨_, _, pre0 _ ?_, hrun, hended, _, _, rfl, ?_, ?_, hEnd⟩
  · show Steps p.tables e below (s₁.setTop (mkF m 0 #[.val (.ref x), .val (.ref b), .val (.int (0 : Int32)), .val (.int (0 : Int32)), .val .null, .unset] [])) _
    refine XS.aloadN X0.here hx rfl (hb hby d3_0) rfl rfl ?_
    show Steps p.tables e below (s₁.setTop (mkF m 1 #[.val (.ref x), .val (.ref b), .val (.int (0 : Int32)), .val (.int (0 : Int32)), .val .null, .unset] [(.ref x)])) _
    refine st1 _ ?_
    show Steps p.tables e below (T1.setTop (mkF m 4 #[.val (.ref x), .val (.ref b), .val (.int (0 : Int32)), .val (.int (0 : Int32)), .val .null, .unset] [])) _
    refine XS.iloadN X1.here hx rfl (hb hby d3_4) rfl ?_
    show Steps p.tables e below (T1.setTop (mkF m 5 #[.val (.ref x), .val (.ref b), .val (.int (0 : Int32)), .val (.int (0 : Int32)), .val .null, .unset] [(.int (0 : Int32))])) _
    refine XS.ifNo X1.here hx rfl (hb hby d3_5) rfl ((if0 _ _).trans (teq (rfl : (0 : Int32) = 0)).2) ?_
    show Steps p.tables e below (T1.setTop (mkF m 8 #[.val (.ref x), .val (.ref b), .val (.int (0 : Int32)), .val (.int (0 : Int32)), .val .null, .unset] [])) _
    refine XS.aloadN X1.here hx rfl (hb hby d3_8) rfl rfl ?_
    show Steps p.tables e below (T1.setTop (mkF m 9 #[.val (.ref x), .val (.ref b), .val (.int (0 : Int32)), .val (.int (0 : Int32)), .val .null, .unset] [(.ref x)])) _
    refine st2 _ ?_
    show Steps p.tables e below (T2.setTop (mkF m 11 #[.val (.ref x), .val (.ref b), .val (.int (0 : Int32)), .val (.int (0 : Int32)), .val .null, .unset] [(.ref la2), (.ref x)])) _
    refine st3 _ ?_
    show Steps p.tables e below (T3.setTop (mkF m 14 #[.val (.ref x), .val (.ref b), .val (.int (0 : Int32)), .val (.int (0 : Int32)), .val .null, .unset] [(.ref lb2), (.ref x)])) _
    refine st4 _ ?_
    show Steps p.tables e below (T4.setTop (mkF m 17 #[.val (.ref x), .val (.ref b), .val (.int (0 : Int32)), .val (.int (0 : Int32)), .val .null, .unset] [])) _
    refine XS.aloadN X4.here hx rfl (hb hby d3_17) rfl rfl ?_
    show Steps p.tables e below (T4.setTop (mkF m 18 #[.val (.ref x), .val (.ref b), .val (.int (0 : Int32)), .val (.int (0 : Int32)), .val .null, .unset] [(.ref x)])) _
    refine st5 _ ?_
    show Steps p.tables e below (T5.setTop (mkF m 20 #[.val (.ref x), .val (.ref b), .val (.int (0 : Int32)), .val (.int (0 : Int32)), .val .null, .unset] [(.ref la5), (.ref x)])) _
    refine st6 _ ?_
    show Steps p.tables e below (T6.setTop (mkF m 23 #[.val (.ref x), .val (.ref b), .val (.int (0 : Int32)), .val (.int (0 : Int32)), .val .null, .unset] [(.int (0 : Int32)), (.ref x)])) _
    refine st7 _ ?_
    show Steps p.tables e below (T7.setTop (mkF m 26 #[.val (.ref x), .val (.ref b), .val (.int (0 : Int32)), .val (.int (0 : Int32)), .val .null, .unset] [])) _
    exact X7.returnOut hx Bd.returns (hb hby d3_26) hr
  · show Q3 Z x b c0 h0 n0 _ T7.heap _
    rw [e7]
    exact ⟨rfl, N7, K7, (EX4.ext E5).wr W7, (FC4.ext E5).same W7, lb2, lk2, (FV4.ext E5).other W7 (Or.inr sv7), (LA4.ext E5).other W7 nlb5⟩
  · show CHr Z own_EL s.vm s.heap T7.vm T7.heap
    rw [e7, hh]
    exact C7.trans (CHv.at X7 hZ5 hEL C7.1)
def Q2 (Z : State) (x b : Addr) (kc : ClassId) (c0 : Value) (h0 : Heap) (n0 : Nat) (v : Option Value) (h : Heap) (L : List Loc) : Prop := v = none ∧ Fr n0 L ∧ Keep h0 h [x] ∧ own_S Z h x []
theorem d2_0 : decode jdk_42_method_3_code 0 = .ok (.aload_n 0, 1) := by decide +kernel
theorem d2_1 : decode jdk_42_method_3_code 1 = .ok (.aload_n 1, 1) := by decide +kernel
theorem d2_2 : decode jdk_42_method_3_code 2 = .ok (.iconst 0, 1) := by decide +kernel
theorem d2_3 : decode jdk_42_method_3_code 3 = .ok (.aload_n 1, 1) := by decide +kernel
theorem d2_4 : decode jdk_42_method_3_code 4 = .ok (.arraylength, 1) := by decide +kernel
theorem d2_5 : decode jdk_42_method_3_code 5 = .ok (.aconst_null, 1) := by decide +kernel
theorem d2_6 : decode jdk_42_method_3_code 6 = .ok (.invokespecial 27, 3) := by decide +kernel
theorem d2_9 : decode jdk_42_method_3_code 9 = .ok (.return_, 1) := by decide +kernel
theorem pn_2 : plainName "java/lang/String" = true := by first | (simp [plainName, overriddenIn]; done) | decide +kernel
theorem ef_2 (m : MethodId) (x0 : Addr) (x1 : Addr) : entryFrame m #[(.ref x0), (.ref x1)] 2 = mkF m 0 #[.val (.ref x0), .val (.ref x1)] [] := by first | (simp [entryFrame, mkF, argsToLocals, Value.category]; done) | rfl
set_option maxRecDepth 65536 in
set_option maxHeartbeats 40000000 in
theorem rm2 (l : Launch) (Z : State) (a0 : Array Value) (hw : ∀ d ∈ tables_1, d.before a0 Z = true) (ws : List Jvm.Cond) (x b : Addr) (kc : ClassId) (c0 : Value) (h0 : Heap) (n0 : Nat) (Z0 : n0 ≤ h0.size) (EX : Exa Z h0 x "java/lang/String") (FV : Fld Z h0 x "java/lang/String" "value" "[B" .null) (FC : Fld Z h0 x "java/lang/String" "coder" "B" c0) (gx : n0 ≤ x) (VB : Arv Z h0 b kc .char (0 : Int32) [] (.int (0 : Int32))) :
    MetFree l (⟨"java/lang/String", "<init>", "([C)V"⟩ : MethodName) (head1 (Jvm.Cond.code (⟨"java/lang/String", "<init>", "([C)V"⟩ : MethodName) jdk_42_method_3_code 2 none :: ws) ({ frames := 2, cells := 4, slots := 8, locals := 29 } : Room)) (fun a U => a = #[(.ref x), (.ref b)] ∧ Z.Warmed39 U.vm ∧ U.heap = h0 ∧ CHv Z own_EL U.vm h0) (fun _ _ _ _ _ => True) (fun _ U o U' => ∃ v L, o = .returned v ∧ Q2 Z x b kc c0 h0 n0 v U'.heap L ∧ CHr Z own_EL U.vm U.heap U'.vm U'.heap ∧ ReturnedEndW U o U' L ({ frames := 2, cells := 4, slots := 8, locals := 29 } : Room).cells ({ frames := 2, cells := 4, slots := 8, locals := 29 } : Room).slots) := by
  refine MetFree.of_bodySF (plainFor_of_name pn_2) hisR ?_
  intro p e s m args below meth c s₁ Bd hml0 hP hK
  obtain ⟨rfl, hZ, hh, H0⟩ := hP
  have hx := Bd.exec
  have hby := Bd.bytes
  have hml : c.maxLocals = 2 := hml0
  have hown : s.vm.findClass "java/lang/String" = some m.cls := findClass_of_methodNamed Bd.named
  have hnm := (name_of_methodNamed Bd.named Bd.method).1
  have X0 : Stand p l e ({ frames := 2, cells := 4, slots := 8, locals := 29 } : Room) (s.setVm s.vm) m #[(.ref x), (.ref b)] below meth c s₁ [] 0 0 := Stand.of_body Bd
  have hS0 : s.Since s.vm s.heap.size := own_since s
  have e0 : s₁.heap = h0 := by rw [← hh, Bd.state]; rfl
  have N0 := Fr.nil n0
  have pre0 : ∀ t, Steps p.tables e below (s₁.setTop (mkF m 0 #[.val (.ref x), .val (.ref b)] [])) t → Steps p.tables e below (s₁.setTop (entryFrame m #[(.ref x), (.ref b)] 2)) t := fun t k => castTop (ef_2 m x b) k
  have hEL := own_EW hw
  have wS : ∀ d ∈ Bundle.stringAtoms, d.before a0 Z = true := fun d hd => hw d (own_satoms d hd)
  have wi := (hw _ (List.mem_of_getElem? (i := 5) rfl))
  have C0 : CHr Z own_EL s.vm h0 s.vm h0 := CHr.refl H0
  have hk0 : s.heap.size ≤ h0.size := by rw [← hh]; exact Nat.le_refl _
  obtain ⟨cl2, Ar2, qd2, Sd2, Nd2, Hd2, Gd2⟩ := id VB
  obtain ⟨_, _, ⟨T3, L3, k3, n3⟩, -, X3, hs3, hg3, ⟨Lc3, hQ3, l3, y3, z3, CR3⟩, st3⟩ := X0.specialBackS hx (y := (⟨"java/lang/String", "<init>", "([CIILjava/lang/Void;)V"⟩ : MethodName)) rfl hown (mvT hZ (hw _ (List.mem_of_getElem? (i := 11) rfl))) (mvT hZ (hw _ (List.mem_of_getElem? (i := 12) rfl))) (mvT hZ (hw _ (List.mem_of_getElem? (i := 14) rfl))) (by decide) (backOfSH (W := 0) (rm3 l Z a0 hw [] x b c0 h0 n0 Z0 EX FV FC gx) hZ (hw _ (List.mem_of_getElem? (i := 14) rfl)) (hw _ (List.mem_of_getElem? (i := 6) rfl)) (Nat.le_of_ble_eq_true rfl) (Nat.le_of_ble_eq_true rfl) hEL C0.1) (g := (mkF m 6 #[.val (.ref x), .val (.ref b)] [.null, (.int (0 : Int32)), (.int (0 : Int32)), (.ref b), (.ref x)])) rfl (by rw [hml]; rfl) (Steps.refl _) (a := x) (argsL := [(.ref b), (.int (0 : Int32)), (.int (0 : Int32)), .null]) (rest := []) (lenOf pd_o4 rfl) rfl (by show 2 * 0 + _ ≤ _; exact Nat.le_of_eq rfl) (hb hby d2_6) (fun _ _ => ⟨rfl, e0, (Nat.le_of_ble_eq_true rfl), (Nat.le_of_ble_eq_true rfl)⟩)
  dsimp only [Pt.U, Pt.locs, Pt.cells, Pt.slots] at X3 l3 y3 z3 st3 hQ3 hs3 hg3 CR3
  subst l3 y3 z3
  obtain ⟨rfl, N3, K3, S3⟩ := hQ3
  obtain ⟨X3, hS3, hZ3, hown3⟩ := rebS hS0 (show _ ≤ _ from by rw [e0]; exact hk0) X3 hs3 hg3 hZ hown
  have C3 := C0.trans CR3
  obtain ⟨fs, hr, hrun, hended, hEnd⟩ := X3.leaveW hS3 (Nat.le_refl _) (v := none) (fun _ => rfl)
  refine ⟨_, _, pre0 _ ?_, hrun, hended, _, _, rfl, ?_, ?_, hEnd⟩
  · show Steps p.tables e below (s₁.setTop (mkF m 0 #[.val (.ref x), .val (.ref b)] [])) _
    refine XS.aloadN X0.here hx rfl (hb hby d2_0) rfl rfl ?_
    show Steps p.tables e below (s₁.setTop (mkF m 1 #[.val (.ref x), .val (.ref b)] [(.ref x)])) _
    refine XS.aloadN X0.here hx rfl (hb hby d2_1) rfl rfl ?_
    show Steps p.tables e below (s₁.setTop (mkF m 2 #[.val (.ref x), .val (.ref b)] [(.ref b), (.ref x)])) _
    refine XS.iconst X0.here hx rfl (hb hby d2_2) ?_
    show Steps p.tables e below (s₁.setTop (mkF m 3 #[.val (.ref x), .val (.ref b)] [(.int (0 : Int32)), (.ref b), (.ref x)])) _
    refine XS.aloadN X0.here hx rfl (hb hby d2_3) rfl rfl ?_
    show Steps p.tables e below (s₁.setTop (mkF m 4 #[.val (.ref x), .val (.ref b)] [(.ref b), (.int (0 : Int32)), (.ref b), (.ref x)])) _
    refine X0.arraylength hx (cell := cl2) (by rw [e0]; exact Ar2.1) (State.isArrayOf_alike hZ.alike Ar2.2.1) (g := (mkF m 4 #[.val (.ref x), .val (.ref b)] [(.ref b), (.int (0 : Int32)), (.ref b), (.ref x)])) rfl rfl (hb hby d2_4) _ ?_
    rw [len_of Sd2 Nd2]
    show Steps p.tables e below (s₁.setTop (mkF m 5 #[.val (.ref x), .val (.ref b)] [(.int (0 : Int32)), (.int (0 : Int32)), (.ref b), (.ref x)])) _
    refine XS.aconstNull X0.here hx rfl (hb hby d2_5) ?_
    show Steps p.tables e below (s₁.setTop (mkF m 6 #[.val (.ref x), .val (.ref b)] [.null, (.int (0 : Int32)), (.int (0 : Int32)), (.ref b), (.ref x)])) _
    refine st3.trans ?_
    show Steps p.tables e below (T3.setTop (mkF m 9 #[.val (.ref x), .val (.ref b)] [])) _
    exact X3.returnOut hx Bd.returns (hb hby d2_9) hr
  · exact ⟨rfl, Fr.app N0 N3, K3, S3⟩
  · show CHr Z own_EL s.vm s.heap T3.vm T3.heap
    rw [hh]
    exact C3
def own_c0 (p2 : Int32) : Int32 := ((p2 &&& (255 : Int32)).toUInt32.toUInt16.toUInt32.toInt32)
def own_c1 (p2 : Int32) : Int32 := ((((p2.toUInt32 >>> ((8 : Int32) &&& 31).toUInt32).toInt32) &&& (255 : Int32)).toUInt32.toUInt16.toUInt32.toInt32)
def own_c2 (p2 : Int32) : Int32 := ((((p2.toUInt32 >>> ((16 : Int32) &&& 31).toUInt32).toInt32) &&& (255 : Int32)).toUInt32.toUInt16.toUInt32.toInt32)
/-- the chars of str(n, p) -/
def own_cs (n : Nat) (p : Int32) : List Int32 := [own_c0 p, own_c1 p, own_c2 p].take n
theorem own_255 (y : Int32) : ¬ ((y &&& (255 : Int32)).toUInt32.toUInt16.toUInt32.toInt32) < 0 ∧ ¬ (255 : Int32) < ((y &&& (255 : Int32)).toUInt32.toUInt16.toUInt32.toInt32) := by
  have e1 : (y &&& (255 : Int32)).toInt = y.toInt % 2 ^ 8 := Jvm.Kit.i32_mask y 255 (k := 8) (by decide) (by decide)
  generalize (y &&& (255 : Int32)) = w at *
  have H : ∀ k : Fin 256, ¬ ((Int32.ofInt (k.val : Int)).toUInt32.toUInt16.toUInt32.toInt32) < 0 ∧ ¬ (255 : Int32) < ((Int32.ofInt (k.val : Int)).toUInt32.toUInt16.toUInt32.toInt32) := by decide +kernel
  obtain ⟨n, hn⟩ := Int.eq_ofNat_of_zero_le (show 0 ≤ w.toInt by omega)
  have e : w = Int32.ofInt (n : Int) := by rw [← hn, Int32.ofInt_toInt]
  rw [e]; exact H ⟨n, by omega⟩
theorem own_cs_ok (n : Nat) (p : Int32) : ∀ c ∈ own_cs n p, ¬ c < 0 ∧ ¬ (255 : Int32) < c := fun c hc => by
  have hc := List.mem_of_mem_take hc
  simp only [List.mem_cons, List.not_mem_nil, or_false] at hc
  rcases hc with rfl | rfl | rfl
  · exact own_255 _
  · exact own_255 _
  · exact own_255 _
theorem own_cs_len {n : Nat} (h : n ≤ 3) (p : Int32) : (own_cs n p).length = n := by simp [own_cs]; omega
theorem own_mod16 (y : UInt32) : y % 65536 % 65536 = y % 65536 := by
  apply UInt32.toNat_inj.mp; simp
theorem own_narc (y : Int32) : nar .char (y.toUInt32.toUInt16.toUInt32.toInt32) = y.toUInt32.toUInt16.toUInt32.toInt32 := by simp [nar, own_mod16]
theorem own_extK {h h' : Heap} (K : Keep h h' []) : Ext h h' := ⟨K.1, fun a c q => K.2.1 a c q nin0⟩
/-- a callee that loads no literal, said of one that may -/
theorem own_toSH {l : Launch} {y : MethodName} {S : Spec} {as' : Array Value} {R : Room} {Q : Option Value → Heap → List Loc → Prop} {Z : State} {a0 : Array Value} {h0 : Heap} (hEL : EW Z a0 own_EL)
    (H : MetFree l y S (fun a U => a = as' ∧ Z.Warmed39 U.vm ∧ U.heap = h0) (fun _ _ _ _ _ => True) (fun _ U o U' => ∃ v L, o = .returned v ∧ Q v U'.heap L ∧ FrameEnd U o U' L R.cells R.slots)) (hQ : ∀ v h L, Q v h L → Ext h0 h) :
    MetFree l y S (fun a U => a = as' ∧ Z.Warmed39 U.vm ∧ U.heap = h0 ∧ CHv Z own_EL U.vm h0) (fun _ _ _ _ _ => True) (fun _ U o U' => ∃ v L, o = .returned v ∧ Q v U'.heap L ∧ CHr Z own_EL U.vm U.heap U'.vm U'.heap ∧ ReturnedEndW U o U' L R.cells R.slots) := by
  intro p e ha hc hk s m args below hf happ ⟨h1, h2, h3, h4⟩ hK
  obtain ⟨n, o, g1, g2, g3, v, L, rfl, q, f⟩ := H p e ha hc hk s m args below hf happ ⟨h1, h2, h3⟩ hK
  obtain ⟨f1, f2, f3⟩ := f
  refine ⟨n, _, g1, g2, g3, v, L, rfl, q, ?_, ReturnedEndW.of_narrow f1 f2 f3⟩
  rw [h3]
  have E := hQ _ _ _ q
  have B := CHv.later h2 (show (Wst Z s.vm h0).Warmed39 _ from f2.wide) hEL E (Or.inl f2.interned_eq) h4
  exact ⟨B.1, E.1, B.2⟩
theorem pd_oC1 : parseMethodDescriptor "([C)V" = some ⟨[(.array .char)], none⟩ := by decide +kernel
theorem d1_0 : decode method_2_code 0 = .ok (.iload_n 1, 1) := by decide +kernel
theorem d1_1 : decode method_2_code 1 = .ok (.sipush 255, 3) := by decide +kernel
theorem d1_4 : decode method_2_code 4 = .ok (.iand, 1) := by decide +kernel
theorem d1_5 : decode method_2_code 5 = .ok (.i2c, 1) := by decide +kernel
theorem d1_6 : decode method_2_code 6 = .ok (.istore_n 2, 1) := by decide +kernel
theorem d1_7 : decode method_2_code 7 = .ok (.iload_n 1, 1) := by decide +kernel
theorem d1_8 : decode method_2_code 8 = .ok (.bipush 8, 2) := by decide +kernel
theorem d1_10 : decode method_2_code 10 = .ok (.iushr, 1) := by decide +kernel
theorem d1_11 : decode method_2_code 11 = .ok (.sipush 255, 3) := by decide +kernel
theorem d1_14 : decode method_2_code 14 = .ok (.iand, 1) := by decide +kernel
theorem d1_15 : decode method_2_code 15 = .ok (.i2c, 1) := by decide +kernel
theorem d1_16 : decode method_2_code 16 = .ok (.istore_n 3, 1) := by decide +kernel
theorem d1_17 : decode method_2_code 17 = .ok (.iload_n 1, 1) := by decide +kernel
theorem d1_18 : decode method_2_code 18 = .ok (.bipush 16, 2) := by decide +kernel
theorem d1_20 : decode method_2_code 20 = .ok (.iushr, 1) := by decide +kernel
theorem d1_21 : decode method_2_code 21 = .ok (.sipush 255, 3) := by decide +kernel
theorem d1_24 : decode method_2_code 24 = .ok (.iand, 1) := by decide +kernel
theorem d1_25 : decode method_2_code 25 = .ok (.i2c, 1) := by decide +kernel
theorem d1_26 : decode method_2_code 26 = .ok (.istore 4, 2) := by decide +kernel
theorem d1_28 : decode method_2_code 28 = .ok (.iload_n 0, 1) := by decide +kernel
theorem d1_29 : decode method_2_code 29 = .ok (.ifCond .ne 14, 3) := by decide +kernel
theorem d1_43 : decode method_2_code 43 = .ok (.iload_n 0, 1) := by decide +kernel
theorem d1_44 : decode method_2_code 44 = .ok (.iconst 1, 1) := by decide +kernel
theorem d1_45 : decode method_2_code 45 = .ok (.if_icmp .ne 8, 3) := by decide +kernel
theorem d1_48 : decode method_2_code 48 = .ok (.iload_n 2, 1) := by decide +kernel
theorem d1_49 : decode method_2_code 49 = .ok (.invokestatic 12, 3) := by decide +kernel
theorem d1_52 : decode method_2_code 52 = .ok (.areturn, 1) := by decide +kernel
theorem pn_1 : plainName "com/example/templum/templum/model/TextStoreClosePinLaw" = true := by first | (simp [plainName, overriddenIn]; done) | decide +kernel
theorem pd_1_26 : parseMethodDescriptor "(C)Ljava/lang/String;" = some ⟨[.char], some (.object "java/lang/String")⟩ := by decide +kernel
theorem ef_1 (m : MethodId) (x0 : Int32) (x1 : Int32) : entryFrame m #[(.int x0), (.int x1)] 5 = mkF m 0 #[.val (.int x0), .val (.int x1), .unset, .unset, .unset] [] := by first | (simp [entryFrame, mkF, argsToLocals, Value.category]; done) | rfl
def Q1_1 (Z : State) (p1 : Int32) (p2 : Int32) (h0 : Heap) (n0 : Nat) (v : Option Value) (h : Heap) (L : List Loc) : Prop := ∃ r : Addr, v = some (.ref r) ∧ Fr n0 L ∧ Keep h0 h [] ∧ own_S Z h r (own_cs 1 p2)
set_option maxRecDepth 65536 in
set_option maxHeartbeats 40000000 in
theorem rm1_1 (l : Launch) (Z : State) (a0 : Array Value) (hw : ∀ d ∈ tables_1, d.before a0 Z = true) (ws : List Jvm.Cond) (p1 : Int32) (p2 : Int32) (z : Int32) (h0 : Heap) (n0 : Nat) (Z0 : n0 ≤ h0.size) (SC : Sta Z h0 "java/lang/String" "COMPACT_STRINGS" "Z" (.int z)) (hz : ¬ z = (0 : Int32)) (hc29 : ¬ (p1 = (0 : Int32))) (hc45 : p1 = (1 : Int32)) :
    MetFree l (⟨"com/example/templum/templum/model/TextStoreClosePinLaw", "str", "(II)Ljava/lang/String;"⟩ : MethodName) (head1 (Jvm.Cond.code (⟨"com/example/templum/templum/model/TextStoreClosePinLaw", "str", "(II)Ljava/lang/String;"⟩ : MethodName) method_2_code 5 (some (.object "java/lang/String")) :: ws) ({ frames := 4, cells := 6, slots := 12, locals := 66 } : Room)) (fun a U => a = #[(.int p1), (.int p2)] ∧ Z.Warmed39 U.vm ∧ U.heap = h0) (fun _ _ _ _ _ => True) (fun _ U o U' => ∃ v L, o = .returned v ∧ Q1_1 Z p1 p2 h0 n0 v U'.heap L ∧ FrameEnd U o U' L ({ frames := 4, cells := 6, slots := 12, locals := 66 } : Room).cells ({ frames := 4, cells := 6, slots := 12, locals := 66 } : Room).slots) := by
  refine MetFree.of_bodySF (plainFor_of_name pn_1) hisR ?_
  intro p e s m args below meth c s₁ Bd hml0 hP hK
  obtain ⟨rfl, hZ, hh⟩ := hP
  have hx := Bd.exec
  have hby := Bd.bytes
  have hml : c.maxLocals = 5 := hml0
  have hown : s.vm.findClass "com/example/templum/templum/model/TextStoreClosePinLaw" = some m.cls := findClass_of_methodNamed Bd.named
  have hnm := (name_of_methodNamed Bd.named Bd.method).1
  have X0 : Stand p l e ({ frames := 4, cells := 6, slots := 12, locals := 66 } : Room) s m #[(.int p1), (.int p2)] below meth c s₁ [] 0 0 := Stand.of_body Bd
  have e0 : s₁.heap = h0 := by rw [← hh, Bd.state]; rfl
  have N0 := Fr.nil n0
  have pre0 : ∀ t, Steps p.tables e below (s₁.setTop (mkF m 0 #[.val (.int p1), .val (.int p2), .unset, .unset, .unset] [])) t → Steps p.tables e below (s₁.setTop (entryFrame m #[(.int p1), (.int p2)] 5)) t := fun t k => castTop (ef_1 m p1 p2) k
  obtain ⟨_, _, ⟨T3, L3, k3, n3⟩, -, X3, ⟨Lc3, hQ3, l3, y3, z3⟩, st3⟩ := Jvm.LawKit.callS X0 hx (y := (⟨"java/lang/String", "valueOf", "(C)Ljava/lang/String;"⟩ : MethodName)) hown (mvT hZ (hw _ (List.mem_of_getElem? (i := 163) rfl))) (mvT hZ (hw _ (List.mem_of_getElem? (i := 164) rfl))) (mvT hZ (hw _ (List.mem_of_getElem? (i := 6) rfl))) (mvT hZ (hw _ (List.mem_of_getElem? (i := 165) rfl))) (by decide) (backOf (W := 0) (rm32 l Z a0 hw [] ((p2 &&& (255 : Int32)).toUInt32.toUInt16.toUInt32.toInt32) z h0 n0 Z0 SC hz (own_255 p2).2) hZ (hw _ (List.mem_of_getElem? (i := 165) rfl)) (hw _ (List.mem_of_getElem? (i := 6) rfl)) (by decide) (by decide)) (g := (mkF m 49 #[.val (.int p1), .val (.int p2), .val (.int ((p2 &&& (255 : Int32)).toUInt32.toUInt16.toUInt32.toInt32)), .val (.int ((((p2.toUInt32 >>> ((8 : Int32) &&& 31).toUInt32).toInt32) &&& (255 : Int32)).toUInt32.toUInt16.toUInt32.toInt32)), .val (.int ((((p2.toUInt32 >>> ((16 : Int32) &&& 31).toUInt32).toInt32) &&& (255 : Int32)).toUInt32.toUInt16.toUInt32.toInt32))] [(.int ((p2 &&& (255 : Int32)).toUInt32.toUInt16.toUInt32.toInt32))])) rfl (by rw [hml]; rfl) (argsL := [(.int ((p2 &&& (255 : Int32)).toUInt32.toUInt16.toUInt32.toInt32))]) (rest := []) (lenOf pd_1_26 rfl) rfl (by show 2 * 0 + _ ≤ _; exact Nat.le_of_eq rfl) (hb hby d1_49) (fun _ _ => ⟨rfl, e0, (by decide : 0 + 2 ≤ _), (by decide : 0 + 5 ≤ _)⟩)
  dsimp only [Pt.U, Pt.locs, Pt.cells, Pt.slots] at X3 l3 y3 z3 st3 hQ3
  subst l3 y3 z3
  obtain ⟨r3, rfl, N3q, K3, S3⟩ := hQ3
  have N3 := Fr.app N0 N3q
  obtain ⟨fs, hr, hrun, hended, hW, hsame⟩ := X3.leave (v := some (.ref r3)) (fun h => by rw [Bd.returns] at h; cases h)
  refine ⟨_, _, pre0 _ ?_, hrun, hended, _, _, rfl, ?_, ⟨_, rfl⟩, hW, hsame.mono (by decide) (by decide)⟩
  · show Steps p.tables e below (s₁.setTop (mkF m 0 #[.val (.int p1), .val (.int p2), .unset, .unset, .unset] [])) _
    refine XS.iloadN X0.here hx rfl (hb hby d1_0) rfl ?_
    show Steps p.tables e below (s₁.setTop (mkF m 1 #[.val (.int p1), .val (.int p2), .unset, .unset, .unset] [(.int p2)])) _
    refine XS.sipush X0.here hx rfl (hb hby d1_1) ?_
    show Steps p.tables e below (s₁.setTop (mkF m 4 #[.val (.int p1), .val (.int p2), .unset, .unset, .unset] [(.int (255 : Int32)), (.int p2)])) _
    refine XS.iand X0.here hx rfl (hb hby d1_4) rfl ?_
    show Steps p.tables e below (s₁.setTop (mkF m 5 #[.val (.int p1), .val (.int p2), .unset, .unset, .unset] [(.int (p2 &&& (255 : Int32)))])) _
    refine XS.i2c X0.here hx rfl (hb hby d1_5) rfl ?_
    show Steps p.tables e below (s₁.setTop (mkF m 6 #[.val (.int p1), .val (.int p2), .unset, .unset, .unset] [(.int ((p2 &&& (255 : Int32)).toUInt32.toUInt16.toUInt32.toInt32))])) _
    refine XS.istoreN X0.here hx rfl (hb hby d1_6) rfl (l' := #[.val (.int p1), .val (.int p2), .val (.int ((p2 &&& (255 : Int32)).toUInt32.toUInt16.toUInt32.toInt32)), .unset, .unset]) rfl ?_
    show Steps p.tables e below (s₁.setTop (mkF m 7 #[.val (.int p1), .val (.int p2), .val (.int ((p2 &&& (255 : Int32)).toUInt32.toUInt16.toUInt32.toInt32)), .unset, .unset] [])) _
    refine XS.iloadN X0.here hx rfl (hb hby d1_7) rfl ?_
    show Steps p.tables e below (s₁.setTop (mkF m 8 #[.val (.int p1), .val (.int p2), .val (.int ((p2 &&& (255 : Int32)).toUInt32.toUInt16.toUInt32.toInt32)), .unset, .unset] [(.int p2)])) _
    refine XS.bipush X0.here hx rfl (hb hby d1_8) ?_
    show Steps p.tables e below (s₁.setTop (mkF m 10 #[.val (.int p1), .val (.int p2), .val (.int ((p2 &&& (255 : Int32)).toUInt32.toUInt16.toUInt32.toInt32)), .unset, .unset] [(.int (8 : Int32)), (.int p2)])) _
    refine XS.iushr X0.here hx rfl (hb hby d1_10) rfl ?_
    show Steps p.tables e below (s₁.setTop (mkF m 11 #[.val (.int p1), .val (.int p2), .val (.int ((p2 &&& (255 : Int32)).toUInt32.toUInt16.toUInt32.toInt32)), .unset, .unset] [(.int ((p2.toUInt32 >>> ((8 : Int32) &&& 31).toUInt32).toInt32))])) _
    refine XS.sipush X0.here hx rfl (hb hby d1_11) ?_
    show Steps p.tables e below (s₁.setTop (mkF m 14 #[.val (.int p1), .val (.int p2), .val (.int ((p2 &&& (255 : Int32)).toUInt32.toUInt16.toUInt32.toInt32)), .unset, .unset] [(.int (255 : Int32)), (.int ((p2.toUInt32 >>> ((8 : Int32) &&& 31).toUInt32).toInt32))])) _
    refine XS.iand X0.here hx rfl (hb hby d1_14) rfl ?_
    show Steps p.tables e below (s₁.setTop (mkF m 15 #[.val (.int p1), .val (.int p2), .val (.int ((p2 &&& (255 : Int32)).toUInt32.toUInt16.toUInt32.toInt32)), .unset, .unset] [(.int (((p2.toUInt32 >>> ((8 : Int32) &&& 31).toUInt32).toInt32) &&& (255 : Int32)))])) _
    refine XS.i2c X0.here hx rfl (hb hby d1_15) rfl ?_
    show Steps p.tables e below (s₁.setTop (mkF m 16 #[.val (.int p1), .val (.int p2), .val (.int ((p2 &&& (255 : Int32)).toUInt32.toUInt16.toUInt32.toInt32)), .unset, .unset] [(.int ((((p2.toUInt32 >>> ((8 : Int32) &&& 31).toUInt32).toInt32) &&& (255 : Int32)).toUInt32.toUInt16.toUInt32.toInt32))])) _
    refine XS.istoreN X0.here hx rfl (hb hby d1_16) rfl (l' := #[.val (.int p1), .val (.int p2), .val (.int ((p2 &&& (255 : Int32)).toUInt32.toUInt16.toUInt32.toInt32)), .val (.int ((((p2.toUInt32 >>> ((8 : Int32) &&& 31).toUInt32).toInt32) &&& (255 : Int32)).toUInt32.toUInt16.toUInt32.toInt32)), .unset]) rfl ?_
    show Steps p.tables e below (s₁.setTop (mkF m 17 #[.val (.int p1), .val (.int p2), .val (.int ((p2 &&& (255 : Int32)).toUInt32.toUInt16.toUInt32.toInt32)), .val (.int ((((p2.toUInt32 >>> ((8 : Int32) &&& 31).toUInt32).toInt32) &&& (255 : Int32)).toUInt32.toUInt16.toUInt32.toInt32)), .unset] [])) _
    refine XS.iloadN X0.here hx rfl (hb hby d1_17) rfl ?_
    show Steps p.tables e below (s₁.setTop (mkF m 18 #[.val (.int p1), .val (.int p2), .val (.int ((p2 &&& (255 : Int32)).toUInt32.toUInt16.toUInt32.toInt32)), .val (.int ((((p2.toUInt32 >>> ((8 : Int32) &&& 31).toUInt32).toInt32) &&& (255 : Int32)).toUInt32.toUInt16.toUInt32.toInt32)), .unset] [(.int p2)])) _
    refine XS.bipush X0.here hx rfl (hb hby d1_18) ?_
    show Steps p.tables e below (s₁.setTop (mkF m 20 #[.val (.int p1), .val (.int p2), .val (.int ((p2 &&& (255 : Int32)).toUInt32.toUInt16.toUInt32.toInt32)), .val (.int ((((p2.toUInt32 >>> ((8 : Int32) &&& 31).toUInt32).toInt32) &&& (255 : Int32)).toUInt32.toUInt16.toUInt32.toInt32)), .unset] [(.int (16 : Int32)), (.int p2)])) _
    refine XS.iushr X0.here hx rfl (hb hby d1_20) rfl ?_
    show Steps p.tables e below (s₁.setTop (mkF m 21 #[.val (.int p1), .val (.int p2), .val (.int ((p2 &&& (255 : Int32)).toUInt32.toUInt16.toUInt32.toInt32)), .val (.int ((((p2.toUInt32 >>> ((8 : Int32) &&& 31).toUInt32).toInt32) &&& (255 : Int32)).toUInt32.toUInt16.toUInt32.toInt32)), .unset] [(.int ((p2.toUInt32 >>> ((16 : Int32) &&& 31).toUInt32).toInt32))])) _
    refine XS.sipush X0.here hx rfl (hb hby d1_21) ?_
    show Steps p.tables e below (s₁.setTop (mkF m 24 #[.val (.int p1), .val (.int p2), .val (.int ((p2 &&& (255 : Int32)).toUInt32.toUInt16.toUInt32.toInt32)), .val (.int ((((p2.toUInt32 >>> ((8 : Int32) &&& 31).toUInt32).toInt32) &&& (255 : Int32)).toUInt32.toUInt16.toUInt32.toInt32)), .unset] [(.int (255 : Int32)), (.int ((p2.toUInt32 >>> ((16 : Int32) &&& 31).toUInt32).toInt32))])) _
    refine XS.iand X0.here hx rfl (hb hby d1_24) rfl ?_
    show Steps p.tables e below (s₁.setTop (mkF m 25 #[.val (.int p1), .val (.int p2), .val (.int ((p2 &&& (255 : Int32)).toUInt32.toUInt16.toUInt32.toInt32)), .val (.int ((((p2.toUInt32 >>> ((8 : Int32) &&& 31).toUInt32).toInt32) &&& (255 : Int32)).toUInt32.toUInt16.toUInt32.toInt32)), .unset] [(.int (((p2.toUInt32 >>> ((16 : Int32) &&& 31).toUInt32).toInt32) &&& (255 : Int32)))])) _
    refine XS.i2c X0.here hx rfl (hb hby d1_25) rfl ?_
    show Steps p.tables e below (s₁.setTop (mkF m 26 #[.val (.int p1), .val (.int p2), .val (.int ((p2 &&& (255 : Int32)).toUInt32.toUInt16.toUInt32.toInt32)), .val (.int ((((p2.toUInt32 >>> ((8 : Int32) &&& 31).toUInt32).toInt32) &&& (255 : Int32)).toUInt32.toUInt16.toUInt32.toInt32)), .unset] [(.int ((((p2.toUInt32 >>> ((16 : Int32) &&& 31).toUInt32).toInt32) &&& (255 : Int32)).toUInt32.toUInt16.toUInt32.toInt32))])) _
    refine XS.istore X0.here hx rfl (hb hby d1_26) rfl (l' := #[.val (.int p1), .val (.int p2), .val (.int ((p2 &&& (255 : Int32)).toUInt32.toUInt16.toUInt32.toInt32)), .val (.int ((((p2.toUInt32 >>> ((8 : Int32) &&& 31).toUInt32).toInt32) &&& (255 : Int32)).toUInt32.toUInt16.toUInt32.toInt32)), .val (.int ((((p2.toUInt32 >>> ((16 : Int32) &&& 31).toUInt32).toInt32) &&& (255 : Int32)).toUInt32.toUInt16.toUInt32.toInt32))]) rfl ?_
    show Steps p.tables e below (s₁.setTop (mkF m 28 #[.val (.int p1), .val (.int p2), .val (.int ((p2 &&& (255 : Int32)).toUInt32.toUInt16.toUInt32.toInt32)), .val (.int ((((p2.toUInt32 >>> ((8 : Int32) &&& 31).toUInt32).toInt32) &&& (255 : Int32)).toUInt32.toUInt16.toUInt32.toInt32)), .val (.int ((((p2.toUInt32 >>> ((16 : Int32) &&& 31).toUInt32).toInt32) &&& (255 : Int32)).toUInt32.toUInt16.toUInt32.toInt32))] [])) _
    refine XS.iloadN X0.here hx rfl (hb hby d1_28) rfl ?_
    show Steps p.tables e below (s₁.setTop (mkF m 29 #[.val (.int p1), .val (.int p2), .val (.int ((p2 &&& (255 : Int32)).toUInt32.toUInt16.toUInt32.toInt32)), .val (.int ((((p2.toUInt32 >>> ((8 : Int32) &&& 31).toUInt32).toInt32) &&& (255 : Int32)).toUInt32.toUInt16.toUInt32.toInt32)), .val (.int ((((p2.toUInt32 >>> ((16 : Int32) &&& 31).toUInt32).toInt32) &&& (255 : Int32)).toUInt32.toUInt16.toUInt32.toInt32))] [(.int p1)])) _
    refine XS.ifYes X0.here hx rfl (pc0 := 29) (pc' := 43) rfl (hb hby d1_29) rfl ((if0 _ _).trans (feq hc29).2) (by decide) (by decide) ?_
    show Steps p.tables e below (s₁.setTop (mkF m 43 #[.val (.int p1), .val (.int p2), .val (.int ((p2 &&& (255 : Int32)).toUInt32.toUInt16.toUInt32.toInt32)), .val (.int ((((p2.toUInt32 >>> ((8 : Int32) &&& 31).toUInt32).toInt32) &&& (255 : Int32)).toUInt32.toUInt16.toUInt32.toInt32)), .val (.int ((((p2.toUInt32 >>> ((16 : Int32) &&& 31).toUInt32).toInt32) &&& (255 : Int32)).toUInt32.toUInt16.toUInt32.toInt32))] [])) _
    refine XS.iloadN X0.here hx rfl (hb hby d1_43) rfl ?_
    show Steps p.tables e below (s₁.setTop (mkF m 44 #[.val (.int p1), .val (.int p2), .val (.int ((p2 &&& (255 : Int32)).toUInt32.toUInt16.toUInt32.toInt32)), .val (.int ((((p2.toUInt32 >>> ((8 : Int32) &&& 31).toUInt32).toInt32) &&& (255 : Int32)).toUInt32.toUInt16.toUInt32.toInt32)), .val (.int ((((p2.toUInt32 >>> ((16 : Int32) &&& 31).toUInt32).toInt32) &&& (255 : Int32)).toUInt32.toUInt16.toUInt32.toInt32))] [(.int p1)])) _
    refine XS.iconst X0.here hx rfl (hb hby d1_44) ?_
    show Steps p.tables e below (s₁.setTop (mkF m 45 #[.val (.int p1), .val (.int p2), .val (.int ((p2 &&& (255 : Int32)).toUInt32.toUInt16.toUInt32.toInt32)), .val (.int ((((p2.toUInt32 >>> ((8 : Int32) &&& 31).toUInt32).toInt32) &&& (255 : Int32)).toUInt32.toUInt16.toUInt32.toInt32)), .val (.int ((((p2.toUInt32 >>> ((16 : Int32) &&& 31).toUInt32).toInt32) &&& (255 : Int32)).toUInt32.toUInt16.toUInt32.toInt32))] [(.int (1 : Int32)), (.int p1)])) _
    refine XS.icmpNo X0.here hx rfl (hb hby d1_45) rfl (teq hc45).2 ?_
    show Steps p.tables e below (s₁.setTop (mkF m 48 #[.val (.int p1), .val (.int p2), .val (.int ((p2 &&& (255 : Int32)).toUInt32.toUInt16.toUInt32.toInt32)), .val (.int ((((p2.toUInt32 >>> ((8 : Int32) &&& 31).toUInt32).toInt32) &&& (255 : Int32)).toUInt32.toUInt16.toUInt32.toInt32)), .val (.int ((((p2.toUInt32 >>> ((16 : Int32) &&& 31).toUInt32).toInt32) &&& (255 : Int32)).toUInt32.toUInt16.toUInt32.toInt32))] [])) _
    refine XS.iloadN X0.here hx rfl (hb hby d1_48) rfl ?_
    show Steps p.tables e below (s₁.setTop (mkF m 49 #[.val (.int p1), .val (.int p2), .val (.int ((p2 &&& (255 : Int32)).toUInt32.toUInt16.toUInt32.toInt32)), .val (.int ((((p2.toUInt32 >>> ((8 : Int32) &&& 31).toUInt32).toInt32) &&& (255 : Int32)).toUInt32.toUInt16.toUInt32.toInt32)), .val (.int ((((p2.toUInt32 >>> ((16 : Int32) &&& 31).toUInt32).toInt32) &&& (255 : Int32)).toUInt32.toUInt16.toUInt32.toInt32))] [(.int ((p2 &&& (255 : Int32)).toUInt32.toUInt16.toUInt32.toInt32))])) _
    refine st3 _ ?_
    show Steps p.tables e below (T3.setTop (mkF m 52 #[.val (.int p1), .val (.int p2), .val (.int ((p2 &&& (255 : Int32)).toUInt32.toUInt16.toUInt32.toInt32)), .val (.int ((((p2.toUInt32 >>> ((8 : Int32) &&& 31).toUInt32).toInt32) &&& (255 : Int32)).toUInt32.toUInt16.toUInt32.toInt32)), .val (.int ((((p2.toUInt32 >>> ((16 : Int32) &&& 31).toUInt32).toInt32) &&& (255 : Int32)).toUInt32.toUInt16.toUInt32.toInt32))] [(.ref r3)])) _
    jvm_step X3.here [X3.here.top, hx, (hb hby d1_52), X3.method', Bd.returns, Value.isRef, FieldType.isReference]
    first | (intro acts; rw [hr _ acts rfl rfl rfl]) | rw [hr _ _ rfl rfl rfl]
    exact Steps.refl _
  · show Q1_1 Z p1 p2 h0 n0 _ T3.heap _
    exact ⟨r3, rfl, N3, K3, S3⟩
theorem d1_53 : decode method_2_code 53 = .ok (.iload_n 0, 1) := by decide +kernel
theorem d1_54 : decode method_2_code 54 = .ok (.iconst 2, 1) := by decide +kernel
theorem d1_55 : decode method_2_code 55 = .ok (.if_icmp .ne 22, 3) := by decide +kernel
theorem d1_58 : decode method_2_code 58 = .ok (.new 7, 3) := by decide +kernel
theorem d1_61 : decode method_2_code 61 = .ok (.dup, 1) := by decide +kernel
theorem d1_62 : decode method_2_code 62 = .ok (.iconst 2, 1) := by decide +kernel
theorem d1_63 : decode method_2_code 63 = .ok (.newarray .char, 2) := by decide +kernel
theorem d1_65 : decode method_2_code 65 = .ok (.dup, 1) := by decide +kernel
theorem d1_66 : decode method_2_code 66 = .ok (.iconst 0, 1) := by decide +kernel
theorem d1_67 : decode method_2_code 67 = .ok (.iload_n 2, 1) := by decide +kernel
theorem d1_68 : decode method_2_code 68 = .ok (.castore, 1) := by decide +kernel
theorem d1_69 : decode method_2_code 69 = .ok (.dup, 1) := by decide +kernel
theorem d1_70 : decode method_2_code 70 = .ok (.iconst 1, 1) := by decide +kernel
theorem d1_71 : decode method_2_code 71 = .ok (.iload_n 3, 1) := by decide +kernel
theorem d1_72 : decode method_2_code 72 = .ok (.castore, 1) := by decide +kernel
theorem d1_73 : decode method_2_code 73 = .ok (.invokespecial 9, 3) := by decide +kernel
theorem d1_76 : decode method_2_code 76 = .ok (.areturn, 1) := by decide +kernel
theorem pd_1_1 : parseMethodDescriptor "([C)V" = some ⟨[(.array .char)], none⟩ := by decide +kernel
def Q1_2 (Z : State) (p1 : Int32) (p2 : Int32) (h0 : Heap) (n0 : Nat) (v : Option Value) (h : Heap) (L : List Loc) : Prop := ∃ r : Addr, v = some (.ref r) ∧ Fr n0 L ∧ Keep h0 h [] ∧ own_S Z h r (own_cs 2 p2)
set_option maxRecDepth 65536 in
set_option maxHeartbeats 40000000 in
theorem rm1_2 (l : Launch) (Z : State) (a0 : Array Value) (hw : ∀ d ∈ tables_1, d.before a0 Z = true) (ws : List Jvm.Cond) (p1 : Int32) (p2 : Int32) (z : Int32) (h0 : Heap) (n0 : Nat) (Z0 : n0 ≤ h0.size) (SC : Sta Z h0 "java/lang/String" "COMPACT_STRINGS" "Z" (.int z)) (hz : ¬ z = (0 : Int32)) (hc29 : ¬ (p1 = (0 : Int32))) (hc45 : ¬ (p1 = (1 : Int32))) (hc55 : p1 = (2 : Int32)) :
    MetFree l (⟨"com/example/templum/templum/model/TextStoreClosePinLaw", "str", "(II)Ljava/lang/String;"⟩ : MethodName) (head1 (Jvm.Cond.code (⟨"com/example/templum/templum/model/TextStoreClosePinLaw", "str", "(II)Ljava/lang/String;"⟩ : MethodName) method_2_code 5 (some (.object "java/lang/String")) :: ws) ({ frames := 4, cells := 6, slots := 12, locals := 66 } : Room)) (fun a U => a = #[(.int p1), (.int p2)] ∧ Z.Warmed39 U.vm ∧ U.heap = h0) (fun _ _ _ _ _ => True) (fun _ U o U' => ∃ v L, o = .returned v ∧ Q1_2 Z p1 p2 h0 n0 v U'.heap L ∧ FrameEnd U o U' L ({ frames := 4, cells := 6, slots := 12, locals := 66 } : Room).cells ({ frames := 4, cells := 6, slots := 12, locals := 66 } : Room).slots) := by
  refine MetFree.of_bodySF (plainFor_of_name pn_1) hisR ?_
  intro p e s m args below meth c s₁ Bd hml0 hP hK
  obtain ⟨rfl, hZ, hh⟩ := hP
  have hx := Bd.exec
  have hby := Bd.bytes
  have hml : c.maxLocals = 5 := hml0
  have hown : s.vm.findClass "com/example/templum/templum/model/TextStoreClosePinLaw" = some m.cls := findClass_of_methodNamed Bd.named
  have hnm := (name_of_methodNamed Bd.named Bd.method).1
  have X0 : Stand p l e ({ frames := 4, cells := 6, slots := 12, locals := 66 } : Room) s m #[(.int p1), (.int p2)] below meth c s₁ [] 0 0 := Stand.of_body Bd
  have e0 : s₁.heap = h0 := by rw [← hh, Bd.state]; rfl
  have N0 := Fr.nil n0
  have pre0 : ∀ t, Steps p.tables e below (s₁.setTop (mkF m 0 #[.val (.int p1), .val (.int p2), .unset, .unset, .unset] [])) t → Steps p.tables e below (s₁.setTop (entryFrame m #[(.int p1), (.int p2)] 5)) t := fun t k => castTop (ef_1 m p1 p2) k
  obtain ⟨T3, h3, X3, e3, E3, A3, D3, -, st3⟩ := newO X0 hx hZ hown (hw _ (List.mem_of_getElem? (i := 4) rfl)) (hw _ (List.mem_of_getElem? (i := 5) rfl)) (hw _ (List.mem_of_getElem? (i := 6) rfl)) e0 (g := (mkF m 58 #[.val (.int p1), .val (.int p2), .val (.int ((p2 &&& (255 : Int32)).toUInt32.toUInt16.toUInt32.toInt32)), .val (.int ((((p2.toUInt32 >>> ((8 : Int32) &&& 31).toUInt32).toInt32) &&& (255 : Int32)).toUInt32.toUInt16.toUInt32.toInt32)), .val (.int ((((p2.toUInt32 >>> ((16 : Int32) &&& 31).toUInt32).toInt32) &&& (255 : Int32)).toUInt32.toUInt16.toUInt32.toInt32))] [])) rfl (hb hby d1_58) (by decide) (by decide)
  obtain ⟨b3, g3⟩ : ∃ z, z = h0.size := ⟨_, rfl⟩
  rw [← g3] at A3 D3 st3
  have F_value_b3 : Fld Z h3 b3 "java/lang/String" "value" "[B" .null := D3 (Or.inr (hw _ (List.mem_of_getElem? (i := 20) rfl))) (ty := (.array .byte)) (by decide)
  have F_coder_b3 : Fld Z h3 b3 "java/lang/String" "coder" "B" (.int (0 : Int32)) := D3 (Or.inr (hw _ (List.mem_of_getElem? (i := 21) rfl))) (ty := .byte) (by decide)
  have E_b3 := A3
  have g_b3 : n0 ≤ b3 := Nat.le_trans Z0 (Nat.le_of_eq g3.symm)
  have sz_b3 : h0.size ≤ b3 := (Nat.le_trans (Keep.refl h0 []).1 (Nat.le_of_eq g3.symm))
  have K3 : Keep h0 h3 [] := (Keep.refl h0 []).ext E3
  obtain ⟨T4, h4, k4, X4, e4, E4, A4, st4⟩ := newP X3 hx hZ (hw _ (List.mem_of_getElem? (i := 7) rfl)) e3 (g := (mkF m 63 #[.val (.int p1), .val (.int p2), .val (.int ((p2 &&& (255 : Int32)).toUInt32.toUInt16.toUInt32.toInt32)), .val (.int ((((p2.toUInt32 >>> ((8 : Int32) &&& 31).toUInt32).toInt32) &&& (255 : Int32)).toUInt32.toUInt16.toUInt32.toInt32)), .val (.int ((((p2.toUInt32 >>> ((16 : Int32) &&& 31).toUInt32).toInt32) &&& (255 : Int32)).toUInt32.toUInt16.toUInt32.toInt32))] [(.int (2 : Int32)), (.ref b3), (.ref b3)])) rfl (hb hby d1_63) rfl (by decide) (cap := 2) (by decide) (by decide) (by decide) (by decide)
  obtain ⟨b4, g4⟩ : ∃ z, z = h3.size := ⟨_, rfl⟩
  rw [← g4] at A4 st4
  have V_b4 : Arv Z h4 b4 k4 .char (2 : Int32) [(.int (0 : Int32)), (.int (0 : Int32))] (.int (0 : Int32)) := (Arv.new A4 (by decide)).pad (pad_rep [] (.int (0 : Int32)) 2)
  have g_b4 : n0 ≤ b4 := Nat.le_trans (Nat.le_trans Z0 E3.1) (Nat.le_of_eq g4.symm)
  have sz_b4 : h0.size ≤ b4 := (Nat.le_trans K3.1 (Nat.le_of_eq g4.symm))
  have K4 : Keep h0 h4 [] := K3.ext E4
  obtain ⟨cl_b4_68, Ar_b4, q_b4, S_b4, N_b4, H_b4, G_b4⟩ := V_b4
  have hin68 : ¬ ((0 : Int32) < 0 ∨ cl_b4_68.slots.size ≤ ((0 : Int32)).toNatClampNeg) := inb_of S_b4 ⟨by decide, by decide⟩
  obtain ⟨T5, h5, X5, e5, W5, st5⟩ := stC X4 hx hZ e4 Ar_b4 (j := (0 : Int32)) hin68 (g := (mkF m 68 #[.val (.int p1), .val (.int p2), .val (.int ((p2 &&& (255 : Int32)).toUInt32.toUInt16.toUInt32.toInt32)), .val (.int ((((p2.toUInt32 >>> ((8 : Int32) &&& 31).toUInt32).toInt32) &&& (255 : Int32)).toUInt32.toUInt16.toUInt32.toInt32)), .val (.int ((((p2.toUInt32 >>> ((16 : Int32) &&& 31).toUInt32).toInt32) &&& (255 : Int32)).toUInt32.toUInt16.toUInt32.toInt32))] [(.int ((p2 &&& (255 : Int32)).toUInt32.toUInt16.toUInt32.toInt32)), (.int (0 : Int32)), (.ref b4), (.ref b4), (.ref b3), (.ref b3)])) rfl rfl (hb hby d1_68)
  have V_b4_5 := Arv.set Ar_b4 q_b4 S_b4 N_b4 H_b4 G_b4 (fits_nar_char _) W5 0 rfl (Nat.le_of_ble_eq_true rfl)
  have K5 : Keep h0 h5 [] := K4.wr W5 (Or.inr sz_b4)
  have N5 := Fr.snoc X5 N0 g_b4
  obtain ⟨cl_b4_72, Ar_b4, q_b4, S_b4, N_b4, H_b4, G_b4⟩ := V_b4_5
  have hin72 : ¬ ((1 : Int32) < 0 ∨ cl_b4_72.slots.size ≤ ((1 : Int32)).toNatClampNeg) := inb_of S_b4 ⟨by decide, by decide⟩
  obtain ⟨T6, h6, X6, e6, W6, st6⟩ := stC X5 hx hZ e5 Ar_b4 (j := (1 : Int32)) hin72 (g := (mkF m 72 #[.val (.int p1), .val (.int p2), .val (.int ((p2 &&& (255 : Int32)).toUInt32.toUInt16.toUInt32.toInt32)), .val (.int ((((p2.toUInt32 >>> ((8 : Int32) &&& 31).toUInt32).toInt32) &&& (255 : Int32)).toUInt32.toUInt16.toUInt32.toInt32)), .val (.int ((((p2.toUInt32 >>> ((16 : Int32) &&& 31).toUInt32).toInt32) &&& (255 : Int32)).toUInt32.toUInt16.toUInt32.toInt32))] [(.int ((((p2.toUInt32 >>> ((8 : Int32) &&& 31).toUInt32).toInt32) &&& (255 : Int32)).toUInt32.toUInt16.toUInt32.toInt32)), (.int (1 : Int32)), (.ref b4), (.ref b4), (.ref b3), (.ref b3)])) rfl rfl (hb hby d1_72)
  have V_b4_6 := Arv.set Ar_b4 q_b4 S_b4 N_b4 H_b4 G_b4 (fits_nar_char _) W6 1 rfl (Nat.le_of_ble_eq_true rfl)
  have K6 : Keep h0 h6 [] := K5.wr W6 (Or.inr sz_b4)
  have N6 := Fr.snoc X6 N5 g_b4
  have VC : Arv Z h6 b4 k4 .char (2 : Int32) ([((p2 &&& (255 : Int32)).toUInt32.toUInt16.toUInt32.toInt32), ((((p2.toUInt32 >>> ((8 : Int32) &&& 31).toUInt32).toInt32) &&& (255 : Int32)).toUInt32.toUInt16.toUInt32.toInt32)].map Value.int) (.int (0 : Int32)) := by
    have q := V_b4_6
    simp only [own_narc] at q
    exact q
  have s34 : h3.size ≤ b4 := Nat.le_of_eq g4.symm
  have K36 : Keep h3 h6 [] := (((Keep.refl h3 []).ext E4).wr W5 (Or.inr s34)).wr W6 (Or.inr s34)
  have hws : ∀ d ∈ StrChars.Road.words, d.before a0 Z = true := fun d hd => hw d (own_strW d hd)
  have hp : ∀ c ∈ [((p2 &&& (255 : Int32)).toUInt32.toUInt16.toUInt32.toInt32), ((((p2.toUInt32 >>> ((8 : Int32) &&& 31).toUInt32).toInt32) &&& (255 : Int32)).toUInt32.toUInt16.toUInt32.toInt32)], ¬ c < 0 ∧ ¬ (255 : Int32) < c := own_cs_ok 2 p2
  obtain ⟨_, _, ⟨T7, L7, k7, n7⟩, -, X7, ⟨Lc7, hQ7, l7, y7, z7⟩, st7⟩ := X6.specialBack hx (y := (⟨"java/lang/String", "<init>", "([C)V"⟩ : MethodName)) rfl hown (mvT hZ (hw _ (List.mem_of_getElem? (i := 8) rfl))) (mvT hZ (hw _ (List.mem_of_getElem? (i := 9) rfl))) (mvT hZ (hw _ (List.mem_of_getElem? (i := 10) rfl))) (by decide) (StrChars.Road.backV (W := 1) hZ hws (kI := 4) (hw _ (List.mem_of_getElem? (i := 5) rfl)) (cs := [((p2 &&& (255 : Int32)).toUInt32.toUInt16.toUInt32.toInt32), ((((p2.toUInt32 >>> ((8 : Int32) &&& 31).toUInt32).toInt32) &&& (255 : Int32)).toUInt32.toUInt16.toUInt32.toInt32)]) (bs := [((p2 &&& (255 : Int32)).toUInt32.toUInt16.toUInt32.toInt32), ((((p2.toUInt32 >>> ((8 : Int32) &&& 31).toUInt32).toInt32) &&& (255 : Int32)).toUInt32.toUInt16.toUInt32.toInt32)].map (fun c => c.toInt8.toInt32)) (n := 2) (n0 := n0) g_b3 (Nat.le_trans Z0 K6.1) (E_b3.keep K36) (F_value_b3.keep K36 nin0) (F_coder_b3.keep K36 nin0) VC (Sta.ext (own_extK K6) SC) hz rfl rfl (by decide) (by decide) hp rfl (Nat.le_of_ble_eq_true rfl) (Nat.le_of_ble_eq_true rfl)) (g := (mkF m 73 #[.val (.int p1), .val (.int p2), .val (.int ((p2 &&& (255 : Int32)).toUInt32.toUInt16.toUInt32.toInt32)), .val (.int ((((p2.toUInt32 >>> ((8 : Int32) &&& 31).toUInt32).toInt32) &&& (255 : Int32)).toUInt32.toUInt16.toUInt32.toInt32)), .val (.int ((((p2.toUInt32 >>> ((16 : Int32) &&& 31).toUInt32).toInt32) &&& (255 : Int32)).toUInt32.toUInt16.toUInt32.toInt32))] [(.ref b4), (.ref b3), (.ref b3)])) rfl (by rw [hml]; rfl) (Steps.refl _) (a := b3) (argsL := [(.ref b4)]) (rest := [(.ref b3)]) (lenOf pd_1_1 rfl) rfl (by show 2 * 0 + _ ≤ _; exact Nat.le_of_eq rfl) (hb hby d1_73) (fun _ _ => ⟨rfl, e6, (by decide : 2 + 1 ≤ _), (by decide : 6 + 2 ≤ _)⟩)
  dsimp only [Pt.U, Pt.locs, Pt.cells, Pt.slots] at X7 l7 y7 z7 st7 hQ7
  subst l7 y7 z7
  obtain ⟨rfl, N7q, KK, EE, CC, tt, kb, -, -, -, VV, AA⟩ := hQ7
  have N7 := Fr.app N6 N7q
  obtain ⟨fs, hr, hrun, hended, hW, hsame⟩ := X7.leave (v := some (.ref b3)) (fun h => by rw [Bd.returns] at h; cases h)
  refine ⟨_, _, pre0 _ ?_, hrun, hended, _, _, rfl, ?_, ⟨_, rfl⟩, hW, hsame.mono (by decide) (by decide)⟩
  · show Steps p.tables e below (s₁.setTop (mkF m 0 #[.val (.int p1), .val (.int p2), .unset, .unset, .unset] [])) _
    refine XS.iloadN X0.here hx rfl (hb hby d1_0) rfl ?_
    show Steps p.tables e below (s₁.setTop (mkF m 1 #[.val (.int p1), .val (.int p2), .unset, .unset, .unset] [(.int p2)])) _
    refine XS.sipush X0.here hx rfl (hb hby d1_1) ?_
    show Steps p.tables e below (s₁.setTop (mkF m 4 #[.val (.int p1), .val (.int p2), .unset, .unset, .unset] [(.int (255 : Int32)), (.int p2)])) _
    refine XS.iand X0.here hx rfl (hb hby d1_4) rfl ?_
    show Steps p.tables e below (s₁.setTop (mkF m 5 #[.val (.int p1), .val (.int p2), .unset, .unset, .unset] [(.int (p2 &&& (255 : Int32)))])) _
    refine XS.i2c X0.here hx rfl (hb hby d1_5) rfl ?_
    show Steps p.tables e below (s₁.setTop (mkF m 6 #[.val (.int p1), .val (.int p2), .unset, .unset, .unset] [(.int ((p2 &&& (255 : Int32)).toUInt32.toUInt16.toUInt32.toInt32))])) _
    refine XS.istoreN X0.here hx rfl (hb hby d1_6) rfl (l' := #[.val (.int p1), .val (.int p2), .val (.int ((p2 &&& (255 : Int32)).toUInt32.toUInt16.toUInt32.toInt32)), .unset, .unset]) rfl ?_
    show Steps p.tables e below (s₁.setTop (mkF m 7 #[.val (.int p1), .val (.int p2), .val (.int ((p2 &&& (255 : Int32)).toUInt32.toUInt16.toUInt32.toInt32)), .unset, .unset] [])) _
    refine XS.iloadN X0.here hx rfl (hb hby d1_7) rfl ?_
    show Steps p.tables e below (s₁.setTop (mkF m 8 #[.val (.int p1), .val (.int p2), .val (.int ((p2 &&& (255 : Int32)).toUInt32.toUInt16.toUInt32.toInt32)), .unset, .unset] [(.int p2)])) _
    refine XS.bipush X0.here hx rfl (hb hby d1_8) ?_
    show Steps p.tables e below (s₁.setTop (mkF m 10 #[.val (.int p1), .val (.int p2), .val (.int ((p2 &&& (255 : Int32)).toUInt32.toUInt16.toUInt32.toInt32)), .unset, .unset] [(.int (8 : Int32)), (.int p2)])) _
    refine XS.iushr X0.here hx rfl (hb hby d1_10) rfl ?_
    show Steps p.tables e below (s₁.setTop (mkF m 11 #[.val (.int p1), .val (.int p2), .val (.int ((p2 &&& (255 : Int32)).toUInt32.toUInt16.toUInt32.toInt32)), .unset, .unset] [(.int ((p2.toUInt32 >>> ((8 : Int32) &&& 31).toUInt32).toInt32))])) _
    refine XS.sipush X0.here hx rfl (hb hby d1_11) ?_
    show Steps p.tables e below (s₁.setTop (mkF m 14 #[.val (.int p1), .val (.int p2), .val (.int ((p2 &&& (255 : Int32)).toUInt32.toUInt16.toUInt32.toInt32)), .unset, .unset] [(.int (255 : Int32)), (.int ((p2.toUInt32 >>> ((8 : Int32) &&& 31).toUInt32).toInt32))])) _
    refine XS.iand X0.here hx rfl (hb hby d1_14) rfl ?_
    show Steps p.tables e below (s₁.setTop (mkF m 15 #[.val (.int p1), .val (.int p2), .val (.int ((p2 &&& (255 : Int32)).toUInt32.toUInt16.toUInt32.toInt32)), .unset, .unset] [(.int (((p2.toUInt32 >>> ((8 : Int32) &&& 31).toUInt32).toInt32) &&& (255 : Int32)))])) _
    refine XS.i2c X0.here hx rfl (hb hby d1_15) rfl ?_
    show Steps p.tables e below (s₁.setTop (mkF m 16 #[.val (.int p1), .val (.int p2), .val (.int ((p2 &&& (255 : Int32)).toUInt32.toUInt16.toUInt32.toInt32)), .unset, .unset] [(.int ((((p2.toUInt32 >>> ((8 : Int32) &&& 31).toUInt32).toInt32) &&& (255 : Int32)).toUInt32.toUInt16.toUInt32.toInt32))])) _
    refine XS.istoreN X0.here hx rfl (hb hby d1_16) rfl (l' := #[.val (.int p1), .val (.int p2), .val (.int ((p2 &&& (255 : Int32)).toUInt32.toUInt16.toUInt32.toInt32)), .val (.int ((((p2.toUInt32 >>> ((8 : Int32) &&& 31).toUInt32).toInt32) &&& (255 : Int32)).toUInt32.toUInt16.toUInt32.toInt32)), .unset]) rfl ?_
    show Steps p.tables e below (s₁.setTop (mkF m 17 #[.val (.int p1), .val (.int p2), .val (.int ((p2 &&& (255 : Int32)).toUInt32.toUInt16.toUInt32.toInt32)), .val (.int ((((p2.toUInt32 >>> ((8 : Int32) &&& 31).toUInt32).toInt32) &&& (255 : Int32)).toUInt32.toUInt16.toUInt32.toInt32)), .unset] [])) _
    refine XS.iloadN X0.here hx rfl (hb hby d1_17) rfl ?_
    show Steps p.tables e below (s₁.setTop (mkF m 18 #[.val (.int p1), .val (.int p2), .val (.int ((p2 &&& (255 : Int32)).toUInt32.toUInt16.toUInt32.toInt32)), .val (.int ((((p2.toUInt32 >>> ((8 : Int32) &&& 31).toUInt32).toInt32) &&& (255 : Int32)).toUInt32.toUInt16.toUInt32.toInt32)), .unset] [(.int p2)])) _
    refine XS.bipush X0.here hx rfl (hb hby d1_18) ?_
    show Steps p.tables e below (s₁.setTop (mkF m 20 #[.val (.int p1), .val (.int p2), .val (.int ((p2 &&& (255 : Int32)).toUInt32.toUInt16.toUInt32.toInt32)), .val (.int ((((p2.toUInt32 >>> ((8 : Int32) &&& 31).toUInt32).toInt32) &&& (255 : Int32)).toUInt32.toUInt16.toUInt32.toInt32)), .unset] [(.int (16 : Int32)), (.int p2)])) _
    refine XS.iushr X0.here hx rfl (hb hby d1_20) rfl ?_
    show Steps p.tables e below (s₁.setTop (mkF m 21 #[.val (.int p1), .val (.int p2), .val (.int ((p2 &&& (255 : Int32)).toUInt32.toUInt16.toUInt32.toInt32)), .val (.int ((((p2.toUInt32 >>> ((8 : Int32) &&& 31).toUInt32).toInt32) &&& (255 : Int32)).toUInt32.toUInt16.toUInt32.toInt32)), .unset] [(.int ((p2.toUInt32 >>> ((16 : Int32) &&& 31).toUInt32).toInt32))])) _
    refine XS.sipush X0.here hx rfl (hb hby d1_21) ?_
    show Steps p.tables e below (s₁.setTop (mkF m 24 #[.val (.int p1), .val (.int p2), .val (.int ((p2 &&& (255 : Int32)).toUInt32.toUInt16.toUInt32.toInt32)), .val (.int ((((p2.toUInt32 >>> ((8 : Int32) &&& 31).toUInt32).toInt32) &&& (255 : Int32)).toUInt32.toUInt16.toUInt32.toInt32)), .unset] [(.int (255 : Int32)), (.int ((p2.toUInt32 >>> ((16 : Int32) &&& 31).toUInt32).toInt32))])) _
    refine XS.iand X0.here hx rfl (hb hby d1_24) rfl ?_
    show Steps p.tables e below (s₁.setTop (mkF m 25 #[.val (.int p1), .val (.int p2), .val (.int ((p2 &&& (255 : Int32)).toUInt32.toUInt16.toUInt32.toInt32)), .val (.int ((((p2.toUInt32 >>> ((8 : Int32) &&& 31).toUInt32).toInt32) &&& (255 : Int32)).toUInt32.toUInt16.toUInt32.toInt32)), .unset] [(.int (((p2.toUInt32 >>> ((16 : Int32) &&& 31).toUInt32).toInt32) &&& (255 : Int32)))])) _
    refine XS.i2c X0.here hx rfl (hb hby d1_25) rfl ?_
    show Steps p.tables e below (s₁.setTop (mkF m 26 #[.val (.int p1), .val (.int p2), .val (.int ((p2 &&& (255 : Int32)).toUInt32.toUInt16.toUInt32.toInt32)), .val (.int ((((p2.toUInt32 >>> ((8 : Int32) &&& 31).toUInt32).toInt32) &&& (255 : Int32)).toUInt32.toUInt16.toUInt32.toInt32)), .unset] [(.int ((((p2.toUInt32 >>> ((16 : Int32) &&& 31).toUInt32).toInt32) &&& (255 : Int32)).toUInt32.toUInt16.toUInt32.toInt32))])) _
    refine XS.istore X0.here hx rfl (hb hby d1_26) rfl (l' := #[.val (.int p1), .val (.int p2), .val (.int ((p2 &&& (255 : Int32)).toUInt32.toUInt16.toUInt32.toInt32)), .val (.int ((((p2.toUInt32 >>> ((8 : Int32) &&& 31).toUInt32).toInt32) &&& (255 : Int32)).toUInt32.toUInt16.toUInt32.toInt32)), .val (.int ((((p2.toUInt32 >>> ((16 : Int32) &&& 31).toUInt32).toInt32) &&& (255 : Int32)).toUInt32.toUInt16.toUInt32.toInt32))]) rfl ?_
    show Steps p.tables e below (s₁.setTop (mkF m 28 #[.val (.int p1), .val (.int p2), .val (.int ((p2 &&& (255 : Int32)).toUInt32.toUInt16.toUInt32.toInt32)), .val (.int ((((p2.toUInt32 >>> ((8 : Int32) &&& 31).toUInt32).toInt32) &&& (255 : Int32)).toUInt32.toUInt16.toUInt32.toInt32)), .val (.int ((((p2.toUInt32 >>> ((16 : Int32) &&& 31).toUInt32).toInt32) &&& (255 : Int32)).toUInt32.toUInt16.toUInt32.toInt32))] [])) _
    refine XS.iloadN X0.here hx rfl (hb hby d1_28) rfl ?_
    show Steps p.tables e below (s₁.setTop (mkF m 29 #[.val (.int p1), .val (.int p2), .val (.int ((p2 &&& (255 : Int32)).toUInt32.toUInt16.toUInt32.toInt32)), .val (.int ((((p2.toUInt32 >>> ((8 : Int32) &&& 31).toUInt32).toInt32) &&& (255 : Int32)).toUInt32.toUInt16.toUInt32.toInt32)), .val (.int ((((p2.toUInt32 >>> ((16 : Int32) &&& 31).toUInt32).toInt32) &&& (255 : Int32)).toUInt32.toUInt16.toUInt32.toInt32))] [(.int p1)])) _
    refine XS.ifYes X0.here hx rfl (pc0 := 29) (pc' := 43) rfl (hb hby d1_29) rfl ((if0 _ _).trans (feq hc29).2) (by decide) (by decide) ?_
    show Steps p.tables e below (s₁.setTop (mkF m 43 #[.val (.int p1), .val (.int p2), .val (.int ((p2 &&& (255 : Int32)).toUInt32.toUInt16.toUInt32.toInt32)), .val (.int ((((p2.toUInt32 >>> ((8 : Int32) &&& 31).toUInt32).toInt32) &&& (255 : Int32)).toUInt32.toUInt16.toUInt32.toInt32)), .val (.int ((((p2.toUInt32 >>> ((16 : Int32) &&& 31).toUInt32).toInt32) &&& (255 : Int32)).toUInt32.toUInt16.toUInt32.toInt32))] [])) _
    refine XS.iloadN X0.here hx rfl (hb hby d1_43) rfl ?_
    show Steps p.tables e below (s₁.setTop (mkF m 44 #[.val (.int p1), .val (.int p2), .val (.int ((p2 &&& (255 : Int32)).toUInt32.toUInt16.toUInt32.toInt32)), .val (.int ((((p2.toUInt32 >>> ((8 : Int32) &&& 31).toUInt32).toInt32) &&& (255 : Int32)).toUInt32.toUInt16.toUInt32.toInt32)), .val (.int ((((p2.toUInt32 >>> ((16 : Int32) &&& 31).toUInt32).toInt32) &&& (255 : Int32)).toUInt32.toUInt16.toUInt32.toInt32))] [(.int p1)])) _
    refine XS.iconst X0.here hx rfl (hb hby d1_44) ?_
    show Steps p.tables e below (s₁.setTop (mkF m 45 #[.val (.int p1), .val (.int p2), .val (.int ((p2 &&& (255 : Int32)).toUInt32.toUInt16.toUInt32.toInt32)), .val (.int ((((p2.toUInt32 >>> ((8 : Int32) &&& 31).toUInt32).toInt32) &&& (255 : Int32)).toUInt32.toUInt16.toUInt32.toInt32)), .val (.int ((((p2.toUInt32 >>> ((16 : Int32) &&& 31).toUInt32).toInt32) &&& (255 : Int32)).toUInt32.toUInt16.toUInt32.toInt32))] [(.int (1 : Int32)), (.int p1)])) _
    refine XS.icmpYes X0.here hx rfl (pc0 := 45) (pc' := 53) rfl (hb hby d1_45) rfl (feq hc45).2 (by decide) (by decide) ?_
    show Steps p.tables e below (s₁.setTop (mkF m 53 #[.val (.int p1), .val (.int p2), .val (.int ((p2 &&& (255 : Int32)).toUInt32.toUInt16.toUInt32.toInt32)), .val (.int ((((p2.toUInt32 >>> ((8 : Int32) &&& 31).toUInt32).toInt32) &&& (255 : Int32)).toUInt32.toUInt16.toUInt32.toInt32)), .val (.int ((((p2.toUInt32 >>> ((16 : Int32) &&& 31).toUInt32).toInt32) &&& (255 : Int32)).toUInt32.toUInt16.toUInt32.toInt32))] [])) _
    refine XS.iloadN X0.here hx rfl (hb hby d1_53) rfl ?_
    show Steps p.tables e below (s₁.setTop (mkF m 54 #[.val (.int p1), .val (.int p2), .val (.int ((p2 &&& (255 : Int32)).toUInt32.toUInt16.toUInt32.toInt32)), .val (.int ((((p2.toUInt32 >>> ((8 : Int32) &&& 31).toUInt32).toInt32) &&& (255 : Int32)).toUInt32.toUInt16.toUInt32.toInt32)), .val (.int ((((p2.toUInt32 >>> ((16 : Int32) &&& 31).toUInt32).toInt32) &&& (255 : Int32)).toUInt32.toUInt16.toUInt32.toInt32))] [(.int p1)])) _
    refine XS.iconst X0.here hx rfl (hb hby d1_54) ?_
    show Steps p.tables e below (s₁.setTop (mkF m 55 #[.val (.int p1), .val (.int p2), .val (.int ((p2 &&& (255 : Int32)).toUInt32.toUInt16.toUInt32.toInt32)), .val (.int ((((p2.toUInt32 >>> ((8 : Int32) &&& 31).toUInt32).toInt32) &&& (255 : Int32)).toUInt32.toUInt16.toUInt32.toInt32)), .val (.int ((((p2.toUInt32 >>> ((16 : Int32) &&& 31).toUInt32).toInt32) &&& (255 : Int32)).toUInt32.toUInt16.toUInt32.toInt32))] [(.int (2 : Int32)), (.int p1)])) _
    refine XS.icmpNo X0.here hx rfl (hb hby d1_55) rfl (teq hc55).2 ?_
    show Steps p.tables e below (s₁.setTop (mkF m 58 #[.val (.int p1), .val (.int p2), .val (.int ((p2 &&& (255 : Int32)).toUInt32.toUInt16.toUInt32.toInt32)), .val (.int ((((p2.toUInt32 >>> ((8 : Int32) &&& 31).toUInt32).toInt32) &&& (255 : Int32)).toUInt32.toUInt16.toUInt32.toInt32)), .val (.int ((((p2.toUInt32 >>> ((16 : Int32) &&& 31).toUInt32).toInt32) &&& (255 : Int32)).toUInt32.toUInt16.toUInt32.toInt32))] [])) _
    refine st3 _ ?_
    show Steps p.tables e below (T3.setTop (mkF m 61 #[.val (.int p1), .val (.int p2), .val (.int ((p2 &&& (255 : Int32)).toUInt32.toUInt16.toUInt32.toInt32)), .val (.int ((((p2.toUInt32 >>> ((8 : Int32) &&& 31).toUInt32).toInt32) &&& (255 : Int32)).toUInt32.toUInt16.toUInt32.toInt32)), .val (.int ((((p2.toUInt32 >>> ((16 : Int32) &&& 31).toUInt32).toInt32) &&& (255 : Int32)).toUInt32.toUInt16.toUInt32.toInt32))] [(.ref b3)])) _
    refine XS.dup X3.here hx rfl (hb hby d1_61) rfl rfl ?_
    show Steps p.tables e below (T3.setTop (mkF m 62 #[.val (.int p1), .val (.int p2), .val (.int ((p2 &&& (255 : Int32)).toUInt32.toUInt16.toUInt32.toInt32)), .val (.int ((((p2.toUInt32 >>> ((8 : Int32) &&& 31).toUInt32).toInt32) &&& (255 : Int32)).toUInt32.toUInt16.toUInt32.toInt32)), .val (.int ((((p2.toUInt32 >>> ((16 : Int32) &&& 31).toUInt32).toInt32) &&& (255 : Int32)).toUInt32.toUInt16.toUInt32.toInt32))] [(.ref b3), (.ref b3)])) _
    refine XS.iconst X3.here hx rfl (hb hby d1_62) ?_
    show Steps p.tables e below (T3.setTop (mkF m 63 #[.val (.int p1), .val (.int p2), .val (.int ((p2 &&& (255 : Int32)).toUInt32.toUInt16.toUInt32.toInt32)), .val (.int ((((p2.toUInt32 >>> ((8 : Int32) &&& 31).toUInt32).toInt32) &&& (255 : Int32)).toUInt32.toUInt16.toUInt32.toInt32)), .val (.int ((((p2.toUInt32 >>> ((16 : Int32) &&& 31).toUInt32).toInt32) &&& (255 : Int32)).toUInt32.toUInt16.toUInt32.toInt32))] [(.int (2 : Int32)), (.ref b3), (.ref b3)])) _
    refine st4 _ ?_
    show Steps p.tables e below (T4.setTop (mkF m 65 #[.val (.int p1), .val (.int p2), .val (.int ((p2 &&& (255 : Int32)).toUInt32.toUInt16.toUInt32.toInt32)), .val (.int ((((p2.toUInt32 >>> ((8 : Int32) &&& 31).toUInt32).toInt32) &&& (255 : Int32)).toUInt32.toUInt16.toUInt32.toInt32)), .val (.int ((((p2.toUInt32 >>> ((16 : Int32) &&& 31).toUInt32).toInt32) &&& (255 : Int32)).toUInt32.toUInt16.toUInt32.toInt32))] [(.ref b4), (.ref b3), (.ref b3)])) _
    refine XS.dup X4.here hx rfl (hb hby d1_65) rfl rfl ?_
    show Steps p.tables e below (T4.setTop (mkF m 66 #[.val (.int p1), .val (.int p2), .val (.int ((p2 &&& (255 : Int32)).toUInt32.toUInt16.toUInt32.toInt32)), .val (.int ((((p2.toUInt32 >>> ((8 : Int32) &&& 31).toUInt32).toInt32) &&& (255 : Int32)).toUInt32.toUInt16.toUInt32.toInt32)), .val (.int ((((p2.toUInt32 >>> ((16 : Int32) &&& 31).toUInt32).toInt32) &&& (255 : Int32)).toUInt32.toUInt16.toUInt32.toInt32))] [(.ref b4), (.ref b4), (.ref b3), (.ref b3)])) _
    refine XS.iconst X4.here hx rfl (hb hby d1_66) ?_
    show Steps p.tables e below (T4.setTop (mkF m 67 #[.val (.int p1), .val (.int p2), .val (.int ((p2 &&& (255 : Int32)).toUInt32.toUInt16.toUInt32.toInt32)), .val (.int ((((p2.toUInt32 >>> ((8 : Int32) &&& 31).toUInt32).toInt32) &&& (255 : Int32)).toUInt32.toUInt16.toUInt32.toInt32)), .val (.int ((((p2.toUInt32 >>> ((16 : Int32) &&& 31).toUInt32).toInt32) &&& (255 : Int32)).toUInt32.toUInt16.toUInt32.toInt32))] [(.int (0 : Int32)), (.ref b4), (.ref b4), (.ref b3), (.ref b3)])) _
    refine XS.iloadN X4.here hx rfl (hb hby d1_67) rfl ?_
    show Steps p.tables e below (T4.setTop (mkF m 68 #[.val (.int p1), .val (.int p2), .val (.int ((p2 &&& (255 : Int32)).toUInt32.toUInt16.toUInt32.toInt32)), .val (.int ((((p2.toUInt32 >>> ((8 : Int32) &&& 31).toUInt32).toInt32) &&& (255 : Int32)).toUInt32.toUInt16.toUInt32.toInt32)), .val (.int ((((p2.toUInt32 >>> ((16 : Int32) &&& 31).toUInt32).toInt32) &&& (255 : Int32)).toUInt32.toUInt16.toUInt32.toInt32))] [(.int ((p2 &&& (255 : Int32)).toUInt32.toUInt16.toUInt32.toInt32)), (.int (0 : Int32)), (.ref b4), (.ref b4), (.ref b3), (.ref b3)])) _
    refine st5 _ ?_
    show Steps p.tables e below (T5.setTop (mkF m 69 #[.val (.int p1), .val (.int p2), .val (.int ((p2 &&& (255 : Int32)).toUInt32.toUInt16.toUInt32.toInt32)), .val (.int ((((p2.toUInt32 >>> ((8 : Int32) &&& 31).toUInt32).toInt32) &&& (255 : Int32)).toUInt32.toUInt16.toUInt32.toInt32)), .val (.int ((((p2.toUInt32 >>> ((16 : Int32) &&& 31).toUInt32).toInt32) &&& (255 : Int32)).toUInt32.toUInt16.toUInt32.toInt32))] [(.ref b4), (.ref b3), (.ref b3)])) _
    refine XS.dup X5.here hx rfl (hb hby d1_69) rfl rfl ?_
    show Steps p.tables e below (T5.setTop (mkF m 70 #[.val (.int p1), .val (.int p2), .val (.int ((p2 &&& (255 : Int32)).toUInt32.toUInt16.toUInt32.toInt32)), .val (.int ((((p2.toUInt32 >>> ((8 : Int32) &&& 31).toUInt32).toInt32) &&& (255 : Int32)).toUInt32.toUInt16.toUInt32.toInt32)), .val (.int ((((p2.toUInt32 >>> ((16 : Int32) &&& 31).toUInt32).toInt32) &&& (255 : Int32)).toUInt32.toUInt16.toUInt32.toInt32))] [(.ref b4), (.ref b4), (.ref b3), (.ref b3)])) _
    refine XS.iconst X5.here hx rfl (hb hby d1_70) ?_
    show Steps p.tables e below (T5.setTop (mkF m 71 #[.val (.int p1), .val (.int p2), .val (.int ((p2 &&& (255 : Int32)).toUInt32.toUInt16.toUInt32.toInt32)), .val (.int ((((p2.toUInt32 >>> ((8 : Int32) &&& 31).toUInt32).toInt32) &&& (255 : Int32)).toUInt32.toUInt16.toUInt32.toInt32)), .val (.int ((((p2.toUInt32 >>> ((16 : Int32) &&& 31).toUInt32).toInt32) &&& (255 : Int32)).toUInt32.toUInt16.toUInt32.toInt32))] [(.int (1 : Int32)), (.ref b4), (.ref b4), (.ref b3), (.ref b3)])) _
    refine XS.iloadN X5.here hx rfl (hb hby d1_71) rfl ?_
    show Steps p.tables e below (T5.setTop (mkF m 72 #[.val (.int p1), .val (.int p2), .val (.int ((p2 &&& (255 : Int32)).toUInt32.toUInt16.toUInt32.toInt32)), .val (.int ((((p2.toUInt32 >>> ((8 : Int32) &&& 31).toUInt32).toInt32) &&& (255 : Int32)).toUInt32.toUInt16.toUInt32.toInt32)), .val (.int ((((p2.toUInt32 >>> ((16 : Int32) &&& 31).toUInt32).toInt32) &&& (255 : Int32)).toUInt32.toUInt16.toUInt32.toInt32))] [(.int ((((p2.toUInt32 >>> ((8 : Int32) &&& 31).toUInt32).toInt32) &&& (255 : Int32)).toUInt32.toUInt16.toUInt32.toInt32)), (.int (1 : Int32)), (.ref b4), (.ref b4), (.ref b3), (.ref b3)])) _
    refine st6 _ ?_
    show Steps p.tables e below (T6.setTop (mkF m 73 #[.val (.int p1), .val (.int p2), .val (.int ((p2 &&& (255 : Int32)).toUInt32.toUInt16.toUInt32.toInt32)), .val (.int ((((p2.toUInt32 >>> ((8 : Int32) &&& 31).toUInt32).toInt32) &&& (255 : Int32)).toUInt32.toUInt16.toUInt32.toInt32)), .val (.int ((((p2.toUInt32 >>> ((16 : Int32) &&& 31).toUInt32).toInt32) &&& (255 : Int32)).toUInt32.toUInt16.toUInt32.toInt32))] [(.ref b4), (.ref b3), (.ref b3)])) _
    refine st7.trans ?_
    show Steps p.tables e below (T7.setTop (mkF m 76 #[.val (.int p1), .val (.int p2), .val (.int ((p2 &&& (255 : Int32)).toUInt32.toUInt16.toUInt32.toInt32)), .val (.int ((((p2.toUInt32 >>> ((8 : Int32) &&& 31).toUInt32).toInt32) &&& (255 : Int32)).toUInt32.toUInt16.toUInt32.toInt32)), .val (.int ((((p2.toUInt32 >>> ((16 : Int32) &&& 31).toUInt32).toInt32) &&& (255 : Int32)).toUInt32.toUInt16.toUInt32.toInt32))] [(.ref b3)])) _
    jvm_step X7.here [X7.here.top, hx, (hb hby d1_76), X7.method', Bd.returns, Value.isRef, FieldType.isReference]
    first | (intro acts; rw [hr _ acts rfl rfl rfl]) | rw [hr _ _ rfl rfl rfl]
    exact Steps.refl _
  · show Q1_2 Z p1 p2 h0 n0 _ T7.heap _
    exact ⟨b3, rfl, N7, K6.trans KK (allS (Or.inr sz_b3) all0), EE, CC, tt, kb, VV, AA⟩
theorem d1_77 : decode method_2_code 77 = .ok (.new 7, 3) := by decide +kernel
theorem d1_80 : decode method_2_code 80 = .ok (.dup, 1) := by decide +kernel
theorem d1_81 : decode method_2_code 81 = .ok (.iconst 3, 1) := by decide +kernel
theorem d1_82 : decode method_2_code 82 = .ok (.newarray .char, 2) := by decide +kernel
theorem d1_84 : decode method_2_code 84 = .ok (.dup, 1) := by decide +kernel
theorem d1_85 : decode method_2_code 85 = .ok (.iconst 0, 1) := by decide +kernel
theorem d1_86 : decode method_2_code 86 = .ok (.iload_n 2, 1) := by decide +kernel
theorem d1_87 : decode method_2_code 87 = .ok (.castore, 1) := by decide +kernel
theorem d1_88 : decode method_2_code 88 = .ok (.dup, 1) := by decide +kernel
theorem d1_89 : decode method_2_code 89 = .ok (.iconst 1, 1) := by decide +kernel
theorem d1_90 : decode method_2_code 90 = .ok (.iload_n 3, 1) := by decide +kernel
theorem d1_91 : decode method_2_code 91 = .ok (.castore, 1) := by decide +kernel
theorem d1_92 : decode method_2_code 92 = .ok (.dup, 1) := by decide +kernel
theorem d1_93 : decode method_2_code 93 = .ok (.iconst 2, 1) := by decide +kernel
theorem d1_94 : decode method_2_code 94 = .ok (.iload 4, 2) := by decide +kernel
theorem d1_96 : decode method_2_code 96 = .ok (.castore, 1) := by decide +kernel
theorem d1_97 : decode method_2_code 97 = .ok (.invokespecial 9, 3) := by decide +kernel
theorem d1_100 : decode method_2_code 100 = .ok (.areturn, 1) := by decide +kernel
def Q1_3 (Z : State) (p1 : Int32) (p2 : Int32) (h0 : Heap) (n0 : Nat) (v : Option Value) (h : Heap) (L : List Loc) : Prop := ∃ r : Addr, v = some (.ref r) ∧ Fr n0 L ∧ Keep h0 h [] ∧ own_S Z h r (own_cs 3 p2)
set_option maxRecDepth 65536 in
set_option maxHeartbeats 40000000 in
theorem rm1_3 (l : Launch) (Z : State) (a0 : Array Value) (hw : ∀ d ∈ tables_1, d.before a0 Z = true) (ws : List Jvm.Cond) (p1 : Int32) (p2 : Int32) (z : Int32) (h0 : Heap) (n0 : Nat) (Z0 : n0 ≤ h0.size) (SC : Sta Z h0 "java/lang/String" "COMPACT_STRINGS" "Z" (.int z)) (hz : ¬ z = (0 : Int32)) (hc29 : ¬ (p1 = (0 : Int32))) (hc45 : ¬ (p1 = (1 : Int32))) (hc55 : ¬ (p1 = (2 : Int32))) :
    MetFree l (⟨"com/example/templum/templum/model/TextStoreClosePinLaw", "str", "(II)Ljava/lang/String;"⟩ : MethodName) (head1 (Jvm.Cond.code (⟨"com/example/templum/templum/model/TextStoreClosePinLaw", "str", "(II)Ljava/lang/String;"⟩ : MethodName) method_2_code 5 (some (.object "java/lang/String")) :: ws) ({ frames := 4, cells := 6, slots := 12, locals := 66 } : Room)) (fun a U => a = #[(.int p1), (.int p2)] ∧ Z.Warmed39 U.vm ∧ U.heap = h0) (fun _ _ _ _ _ => True) (fun _ U o U' => ∃ v L, o = .returned v ∧ Q1_3 Z p1 p2 h0 n0 v U'.heap L ∧ FrameEnd U o U' L ({ frames := 4, cells := 6, slots := 12, locals := 66 } : Room).cells ({ frames := 4, cells := 6, slots := 12, locals := 66 } : Room).slots) := by
  refine MetFree.of_bodySF (plainFor_of_name pn_1) hisR ?_
  intro p e s m args below meth c s₁ Bd hml0 hP hK
  obtain ⟨rfl, hZ, hh⟩ := hP
  have hx := Bd.exec
  have hby := Bd.bytes
  have hml : c.maxLocals = 5 := hml0
  have hown : s.vm.findClass "com/example/templum/templum/model/TextStoreClosePinLaw" = some m.cls := findClass_of_methodNamed Bd.named
  have hnm := (name_of_methodNamed Bd.named Bd.method).1
  have X0 : Stand p l e ({ frames := 4, cells := 6, slots := 12, locals := 66 } : Room) s m #[(.int p1), (.int p2)] below meth c s₁ [] 0 0 := Stand.of_body Bd
  have e0 : s₁.heap = h0 := by rw [← hh, Bd.state]; rfl
  have N0 := Fr.nil n0
  have pre0 : ∀ t, Steps p.tables e below (s₁.setTop (mkF m 0 #[.val (.int p1), .val (.int p2), .unset, .unset, .unset] [])) t → Steps p.tables e below (s₁.setTop (entryFrame m #[(.int p1), (.int p2)] 5)) t := fun t k => castTop (ef_1 m p1 p2) k
  obtain ⟨T3, h3, X3, e3, E3, A3, D3, -, st3⟩ := newO X0 hx hZ hown (hw _ (List.mem_of_getElem? (i := 4) rfl)) (hw _ (List.mem_of_getElem? (i := 5) rfl)) (hw _ (List.mem_of_getElem? (i := 6) rfl)) e0 (g := (mkF m 77 #[.val (.int p1), .val (.int p2), .val (.int ((p2 &&& (255 : Int32)).toUInt32.toUInt16.toUInt32.toInt32)), .val (.int ((((p2.toUInt32 >>> ((8 : Int32) &&& 31).toUInt32).toInt32) &&& (255 : Int32)).toUInt32.toUInt16.toUInt32.toInt32)), .val (.int ((((p2.toUInt32 >>> ((16 : Int32) &&& 31).toUInt32).toInt32) &&& (255 : Int32)).toUInt32.toUInt16.toUInt32.toInt32))] [])) rfl (hb hby d1_77) (by decide) (by decide)
  obtain ⟨b3, g3⟩ : ∃ z, z = h0.size := ⟨_, rfl⟩
  rw [← g3] at A3 D3 st3
  have F_value_b3 : Fld Z h3 b3 "java/lang/String" "value" "[B" .null := D3 (Or.inr (hw _ (List.mem_of_getElem? (i := 20) rfl))) (ty := (.array .byte)) (by decide)
  have F_coder_b3 : Fld Z h3 b3 "java/lang/String" "coder" "B" (.int (0 : Int32)) := D3 (Or.inr (hw _ (List.mem_of_getElem? (i := 21) rfl))) (ty := .byte) (by decide)
  have E_b3 := A3
  have g_b3 : n0 ≤ b3 := Nat.le_trans Z0 (Nat.le_of_eq g3.symm)
  have sz_b3 : h0.size ≤ b3 := (Nat.le_trans (Keep.refl h0 []).1 (Nat.le_of_eq g3.symm))
  have K3 : Keep h0 h3 [] := (Keep.refl h0 []).ext E3
  obtain ⟨T4, h4, k4, X4, e4, E4, A4, st4⟩ := newP X3 hx hZ (hw _ (List.mem_of_getElem? (i := 7) rfl)) e3 (g := (mkF m 82 #[.val (.int p1), .val (.int p2), .val (.int ((p2 &&& (255 : Int32)).toUInt32.toUInt16.toUInt32.toInt32)), .val (.int ((((p2.toUInt32 >>> ((8 : Int32) &&& 31).toUInt32).toInt32) &&& (255 : Int32)).toUInt32.toUInt16.toUInt32.toInt32)), .val (.int ((((p2.toUInt32 >>> ((16 : Int32) &&& 31).toUInt32).toInt32) &&& (255 : Int32)).toUInt32.toUInt16.toUInt32.toInt32))] [(.int (3 : Int32)), (.ref b3), (.ref b3)])) rfl (hb hby d1_82) rfl (by decide) (cap := 3) (by decide) (by decide) (by decide) (by decide)
  obtain ⟨b4, g4⟩ : ∃ z, z = h3.size := ⟨_, rfl⟩
  rw [← g4] at A4 st4
  have V_b4 : Arv Z h4 b4 k4 .char (3 : Int32) [(.int (0 : Int32)), (.int (0 : Int32)), (.int (0 : Int32))] (.int (0 : Int32)) := (Arv.new A4 (by decide)).pad (pad_rep [] (.int (0 : Int32)) 3)
  have g_b4 : n0 ≤ b4 := Nat.le_trans (Nat.le_trans Z0 E3.1) (Nat.le_of_eq g4.symm)
  have sz_b4 : h0.size ≤ b4 := (Nat.le_trans K3.1 (Nat.le_of_eq g4.symm))
  have K4 : Keep h0 h4 [] := K3.ext E4
  obtain ⟨cl_b4_87, Ar_b4, q_b4, S_b4, N_b4, H_b4, G_b4⟩ := V_b4
  have hin87 : ¬ ((0 : Int32) < 0 ∨ cl_b4_87.slots.size ≤ ((0 : Int32)).toNatClampNeg) := inb_of S_b4 ⟨by decide, by decide⟩
  obtain ⟨T5, h5, X5, e5, W5, st5⟩ := stC X4 hx hZ e4 Ar_b4 (j := (0 : Int32)) hin87 (g := (mkF m 87 #[.val (.int p1), .val (.int p2), .val (.int ((p2 &&& (255 : Int32)).toUInt32.toUInt16.toUInt32.toInt32)), .val (.int ((((p2.toUInt32 >>> ((8 : Int32) &&& 31).toUInt32).toInt32) &&& (255 : Int32)).toUInt32.toUInt16.toUInt32.toInt32)), .val (.int ((((p2.toUInt32 >>> ((16 : Int32) &&& 31).toUInt32).toInt32) &&& (255 : Int32)).toUInt32.toUInt16.toUInt32.toInt32))] [(.int ((p2 &&& (255 : Int32)).toUInt32.toUInt16.toUInt32.toInt32)), (.int (0 : Int32)), (.ref b4), (.ref b4), (.ref b3), (.ref b3)])) rfl rfl (hb hby d1_87)
  have V_b4_5 := Arv.set Ar_b4 q_b4 S_b4 N_b4 H_b4 G_b4 (fits_nar_char _) W5 0 rfl (Nat.le_of_ble_eq_true rfl)
  have K5 : Keep h0 h5 [] := K4.wr W5 (Or.inr sz_b4)
  have N5 := Fr.snoc X5 N0 g_b4
  obtain ⟨cl_b4_91, Ar_b4, q_b4, S_b4, N_b4, H_b4, G_b4⟩ := V_b4_5
  have hin91 : ¬ ((1 : Int32) < 0 ∨ cl_b4_91.slots.size ≤ ((1 : Int32)).toNatClampNeg) := inb_of S_b4 ⟨by decide, by decide⟩
  obtain ⟨T6, h6, X6, e6, W6, st6⟩ := stC X5 hx hZ e5 Ar_b4 (j := (1 : Int32)) hin91 (g := (mkF m 91 #[.val (.int p1), .val (.int p2), .val (.int ((p2 &&& (255 : Int32)).toUInt32.toUInt16.toUInt32.toInt32)), .val (.int ((((p2.toUInt32 >>> ((8 : Int32) &&& 31).toUInt32).toInt32) &&& (255 : Int32)).toUInt32.toUInt16.toUInt32.toInt32)), .val (.int ((((p2.toUInt32 >>> ((16 : Int32) &&& 31).toUInt32).toInt32) &&& (255 : Int32)).toUInt32.toUInt16.toUInt32.toInt32))] [(.int ((((p2.toUInt32 >>> ((8 : Int32) &&& 31).toUInt32).toInt32) &&& (255 : Int32)).toUInt32.toUInt16.toUInt32.toInt32)), (.int (1 : Int32)), (.ref b4), (.ref b4), (.ref b3), (.ref b3)])) rfl rfl (hb hby d1_91)
  have V_b4_6 := Arv.set Ar_b4 q_b4 S_b4 N_b4 H_b4 G_b4 (fits_nar_char _) W6 1 rfl (Nat.le_of_ble_eq_true rfl)
  have K6 : Keep h0 h6 [] := K5.wr W6 (Or.inr sz_b4)
  have N6 := Fr.snoc X6 N5 g_b4
  obtain ⟨cl_b4_96, Ar_b4, q_b4, S_b4, N_b4, H_b4, G_b4⟩ := V_b4_6
  have hin96 : ¬ ((2 : Int32) < 0 ∨ cl_b4_96.slots.size ≤ ((2 : Int32)).toNatClampNeg) := inb_of S_b4 ⟨by decide, by decide⟩
  obtain ⟨T7, h7, X7, e7, W7, st7⟩ := stC X6 hx hZ e6 Ar_b4 (j := (2 : Int32)) hin96 (g := (mkF m 96 #[.val (.int p1), .val (.int p2), .val (.int ((p2 &&& (255 : Int32)).toUInt32.toUInt16.toUInt32.toInt32)), .val (.int ((((p2.toUInt32 >>> ((8 : Int32) &&& 31).toUInt32).toInt32) &&& (255 : Int32)).toUInt32.toUInt16.toUInt32.toInt32)), .val (.int ((((p2.toUInt32 >>> ((16 : Int32) &&& 31).toUInt32).toInt32) &&& (255 : Int32)).toUInt32.toUInt16.toUInt32.toInt32))] [(.int ((((p2.toUInt32 >>> ((16 : Int32) &&& 31).toUInt32).toInt32) &&& (255 : Int32)).toUInt32.toUInt16.toUInt32.toInt32)), (.int (2 : Int32)), (.ref b4), (.ref b4), (.ref b3), (.ref b3)])) rfl rfl (hb hby d1_96)
  have V_b4_7 := Arv.set Ar_b4 q_b4 S_b4 N_b4 H_b4 G_b4 (fits_nar_char _) W7 2 rfl (Nat.le_of_ble_eq_true rfl)
  have K7 : Keep h0 h7 [] := K6.wr W7 (Or.inr sz_b4)
  have N7 := Fr.snoc X7 N6 g_b4
  have VC : Arv Z h7 b4 k4 .char (3 : Int32) ([((p2 &&& (255 : Int32)).toUInt32.toUInt16.toUInt32.toInt32), ((((p2.toUInt32 >>> ((8 : Int32) &&& 31).toUInt32).toInt32) &&& (255 : Int32)).toUInt32.toUInt16.toUInt32.toInt32), ((((p2.toUInt32 >>> ((16 : Int32) &&& 31).toUInt32).toInt32) &&& (255 : Int32)).toUInt32.toUInt16.toUInt32.toInt32)].map Value.int) (.int (0 : Int32)) := by
    have q := V_b4_7
    simp only [own_narc] at q
    exact q
  have s34 : h3.size ≤ b4 := Nat.le_of_eq g4.symm
  have K36 : Keep h3 h7 [] := ((((Keep.refl h3 []).ext E4).wr W5 (Or.inr s34)).wr W6 (Or.inr s34)).wr W7 (Or.inr s34)
  have hws : ∀ d ∈ StrChars.Road.words, d.before a0 Z = true := fun d hd => hw d (own_strW d hd)
  have hp : ∀ c ∈ [((p2 &&& (255 : Int32)).toUInt32.toUInt16.toUInt32.toInt32), ((((p2.toUInt32 >>> ((8 : Int32) &&& 31).toUInt32).toInt32) &&& (255 : Int32)).toUInt32.toUInt16.toUInt32.toInt32), ((((p2.toUInt32 >>> ((16 : Int32) &&& 31).toUInt32).toInt32) &&& (255 : Int32)).toUInt32.toUInt16.toUInt32.toInt32)], ¬ c < 0 ∧ ¬ (255 : Int32) < c := own_cs_ok 3 p2
  obtain ⟨_, _, ⟨T8, L8, k8, n8⟩, -, X8, ⟨Lc8, hQ8, l8, y8, z8⟩, st8⟩ := X7.specialBack hx (y := (⟨"java/lang/String", "<init>", "([C)V"⟩ : MethodName)) rfl hown (mvT hZ (hw _ (List.mem_of_getElem? (i := 8) rfl))) (mvT hZ (hw _ (List.mem_of_getElem? (i := 9) rfl))) (mvT hZ (hw _ (List.mem_of_getElem? (i := 10) rfl))) (by decide) (StrChars.Road.backV (W := 1) hZ hws (kI := 4) (hw _ (List.mem_of_getElem? (i := 5) rfl)) (cs := [((p2 &&& (255 : Int32)).toUInt32.toUInt16.toUInt32.toInt32), ((((p2.toUInt32 >>> ((8 : Int32) &&& 31).toUInt32).toInt32) &&& (255 : Int32)).toUInt32.toUInt16.toUInt32.toInt32), ((((p2.toUInt32 >>> ((16 : Int32) &&& 31).toUInt32).toInt32) &&& (255 : Int32)).toUInt32.toUInt16.toUInt32.toInt32)]) (bs := [((p2 &&& (255 : Int32)).toUInt32.toUInt16.toUInt32.toInt32), ((((p2.toUInt32 >>> ((8 : Int32) &&& 31).toUInt32).toInt32) &&& (255 : Int32)).toUInt32.toUInt16.toUInt32.toInt32), ((((p2.toUInt32 >>> ((16 : Int32) &&& 31).toUInt32).toInt32) &&& (255 : Int32)).toUInt32.toUInt16.toUInt32.toInt32)].map (fun c => c.toInt8.toInt32)) (n := 3) (n0 := n0) g_b3 (Nat.le_trans Z0 K7.1) (E_b3.keep K36) (F_value_b3.keep K36 nin0) (F_coder_b3.keep K36 nin0) VC (Sta.ext (own_extK K7) SC) hz rfl rfl (by decide) (by decide) hp rfl (Nat.le_of_ble_eq_true rfl) (Nat.le_of_ble_eq_true rfl)) (g := (mkF m 97 #[.val (.int p1), .val (.int p2), .val (.int ((p2 &&& (255 : Int32)).toUInt32.toUInt16.toUInt32.toInt32)), .val (.int ((((p2.toUInt32 >>> ((8 : Int32) &&& 31).toUInt32).toInt32) &&& (255 : Int32)).toUInt32.toUInt16.toUInt32.toInt32)), .val (.int ((((p2.toUInt32 >>> ((16 : Int32) &&& 31).toUInt32).toInt32) &&& (255 : Int32)).toUInt32.toUInt16.toUInt32.toInt32))] [(.ref b4), (.ref b3), (.ref b3)])) rfl (by rw [hml]; rfl) (Steps.refl _) (a := b3) (argsL := [(.ref b4)]) (rest := [(.ref b3)]) (lenOf pd_1_1 rfl) rfl (by show 2 * 0 + _ ≤ _; exact Nat.le_of_eq rfl) (hb hby d1_97) (fun _ _ => ⟨rfl, e7, (by decide : 2 + 1 ≤ _), (by decide : 7 + 3 ≤ _)⟩)
  dsimp only [Pt.U, Pt.locs, Pt.cells, Pt.slots] at X8 l8 y8 z8 st8 hQ8
  subst l8 y8 z8
  obtain ⟨rfl, N8q, KK, EE, CC, tt, kb, -, -, -, VV, AA⟩ := hQ8
  have N8 := Fr.app N7 N8q
  obtain ⟨fs, hr, hrun, hended, hW, hsame⟩ := X8.leave (v := some (.ref b3)) (fun h => by rw [Bd.returns] at h; cases h)
  refine ⟨_, _, pre0 _ ?_, hrun, hended, _, _, rfl, ?_, ⟨_, rfl⟩, hW, hsame.mono (by decide) (by decide)⟩
  · show Steps p.tables e below (s₁.setTop (mkF m 0 #[.val (.int p1), .val (.int p2), .unset, .unset, .unset] [])) _
    refine XS.iloadN X0.here hx rfl (hb hby d1_0) rfl ?_
    show Steps p.tables e below (s₁.setTop (mkF m 1 #[.val (.int p1), .val (.int p2), .unset, .unset, .unset] [(.int p2)])) _
    refine XS.sipush X0.here hx rfl (hb hby d1_1) ?_
    show Steps p.tables e below (s₁.setTop (mkF m 4 #[.val (.int p1), .val (.int p2), .unset, .unset, .unset] [(.int (255 : Int32)), (.int p2)])) _
    refine XS.iand X0.here hx rfl (hb hby d1_4) rfl ?_
    show Steps p.tables e below (s₁.setTop (mkF m 5 #[.val (.int p1), .val (.int p2), .unset, .unset, .unset] [(.int (p2 &&& (255 : Int32)))])) _
    refine XS.i2c X0.here hx rfl (hb hby d1_5) rfl ?_
    show Steps p.tables e below (s₁.setTop (mkF m 6 #[.val (.int p1), .val (.int p2), .unset, .unset, .unset] [(.int ((p2 &&& (255 : Int32)).toUInt32.toUInt16.toUInt32.toInt32))])) _
    refine XS.istoreN X0.here hx rfl (hb hby d1_6) rfl (l' := #[.val (.int p1), .val (.int p2), .val (.int ((p2 &&& (255 : Int32)).toUInt32.toUInt16.toUInt32.toInt32)), .unset, .unset]) rfl ?_
    show Steps p.tables e below (s₁.setTop (mkF m 7 #[.val (.int p1), .val (.int p2), .val (.int ((p2 &&& (255 : Int32)).toUInt32.toUInt16.toUInt32.toInt32)), .unset, .unset] [])) _
    refine XS.iloadN X0.here hx rfl (hb hby d1_7) rfl ?_
    show Steps p.tables e below (s₁.setTop (mkF m 8 #[.val (.int p1), .val (.int p2), .val (.int ((p2 &&& (255 : Int32)).toUInt32.toUInt16.toUInt32.toInt32)), .unset, .unset] [(.int p2)])) _
    refine XS.bipush X0.here hx rfl (hb hby d1_8) ?_
    show Steps p.tables e below (s₁.setTop (mkF m 10 #[.val (.int p1), .val (.int p2), .val (.int ((p2 &&& (255 : Int32)).toUInt32.toUInt16.toUInt32.toInt32)), .unset, .unset] [(.int (8 : Int32)), (.int p2)])) _
    refine XS.iushr X0.here hx rfl (hb hby d1_10) rfl ?_
    show Steps p.tables e below (s₁.setTop (mkF m 11 #[.val (.int p1), .val (.int p2), .val (.int ((p2 &&& (255 : Int32)).toUInt32.toUInt16.toUInt32.toInt32)), .unset, .unset] [(.int ((p2.toUInt32 >>> ((8 : Int32) &&& 31).toUInt32).toInt32))])) _
    refine XS.sipush X0.here hx rfl (hb hby d1_11) ?_
    show Steps p.tables e below (s₁.setTop (mkF m 14 #[.val (.int p1), .val (.int p2), .val (.int ((p2 &&& (255 : Int32)).toUInt32.toUInt16.toUInt32.toInt32)), .unset, .unset] [(.int (255 : Int32)), (.int ((p2.toUInt32 >>> ((8 : Int32) &&& 31).toUInt32).toInt32))])) _
    refine XS.iand X0.here hx rfl (hb hby d1_14) rfl ?_
    show Steps p.tables e below (s₁.setTop (mkF m 15 #[.val (.int p1), .val (.int p2), .val (.int ((p2 &&& (255 : Int32)).toUInt32.toUInt16.toUInt32.toInt32)), .unset, .unset] [(.int (((p2.toUInt32 >>> ((8 : Int32) &&& 31).toUInt32).toInt32) &&& (255 : Int32)))])) _
    refine XS.i2c X0.here hx rfl (hb hby d1_15) rfl ?_
    show Steps p.tables e below (s₁.setTop (mkF m 16 #[.val (.int p1), .val (.int p2), .val (.int ((p2 &&& (255 : Int32)).toUInt32.toUInt16.toUInt32.toInt32)), .unset, .unset] [(.int ((((p2.toUInt32 >>> ((8 : Int32) &&& 31).toUInt32).toInt32) &&& (255 : Int32)).toUInt32.toUInt16.toUInt32.toInt32))])) _
    refine XS.istoreN X0.here hx rfl (hb hby d1_16) rfl (l' := #[.val (.int p1), .val (.int p2), .val (.int ((p2 &&& (255 : Int32)).toUInt32.toUInt16.toUInt32.toInt32)), .val (.int ((((p2.toUInt32 >>> ((8 : Int32) &&& 31).toUInt32).toInt32) &&& (255 : Int32)).toUInt32.toUInt16.toUInt32.toInt32)), .unset]) rfl ?_
    show Steps p.tables e below (s₁.setTop (mkF m 17 #[.val (.int p1), .val (.int p2), .val (.int ((p2 &&& (255 : Int32)).toUInt32.toUInt16.toUInt32.toInt32)), .val (.int ((((p2.toUInt32 >>> ((8 : Int32) &&& 31).toUInt32).toInt32) &&& (255 : Int32)).toUInt32.toUInt16.toUInt32.toInt32)), .unset] [])) _
    refine XS.iloadN X0.here hx rfl (hb hby d1_17) rfl ?_
    show Steps p.tables e below (s₁.setTop (mkF m 18 #[.val (.int p1), .val (.int p2), .val (.int ((p2 &&& (255 : Int32)).toUInt32.toUInt16.toUInt32.toInt32)), .val (.int ((((p2.toUInt32 >>> ((8 : Int32) &&& 31).toUInt32).toInt32) &&& (255 : Int32)).toUInt32.toUInt16.toUInt32.toInt32)), .unset] [(.int p2)])) _
    refine XS.bipush X0.here hx rfl (hb hby d1_18) ?_
    show Steps p.tables e below (s₁.setTop (mkF m 20 #[.val (.int p1), .val (.int p2), .val (.int ((p2 &&& (255 : Int32)).toUInt32.toUInt16.toUInt32.toInt32)), .val (.int ((((p2.toUInt32 >>> ((8 : Int32) &&& 31).toUInt32).toInt32) &&& (255 : Int32)).toUInt32.toUInt16.toUInt32.toInt32)), .unset] [(.int (16 : Int32)), (.int p2)])) _
    refine XS.iushr X0.here hx rfl (hb hby d1_20) rfl ?_
    show Steps p.tables e below (s₁.setTop (mkF m 21 #[.val (.int p1), .val (.int p2), .val (.int ((p2 &&& (255 : Int32)).toUInt32.toUInt16.toUInt32.toInt32)), .val (.int ((((p2.toUInt32 >>> ((8 : Int32) &&& 31).toUInt32).toInt32) &&& (255 : Int32)).toUInt32.toUInt16.toUInt32.toInt32)), .unset] [(.int ((p2.toUInt32 >>> ((16 : Int32) &&& 31).toUInt32).toInt32))])) _
    refine XS.sipush X0.here hx rfl (hb hby d1_21) ?_
    show Steps p.tables e below (s₁.setTop (mkF m 24 #[.val (.int p1), .val (.int p2), .val (.int ((p2 &&& (255 : Int32)).toUInt32.toUInt16.toUInt32.toInt32)), .val (.int ((((p2.toUInt32 >>> ((8 : Int32) &&& 31).toUInt32).toInt32) &&& (255 : Int32)).toUInt32.toUInt16.toUInt32.toInt32)), .unset] [(.int (255 : Int32)), (.int ((p2.toUInt32 >>> ((16 : Int32) &&& 31).toUInt32).toInt32))])) _
    refine XS.iand X0.here hx rfl (hb hby d1_24) rfl ?_
    show Steps p.tables e below (s₁.setTop (mkF m 25 #[.val (.int p1), .val (.int p2), .val (.int ((p2 &&& (255 : Int32)).toUInt32.toUInt16.toUInt32.toInt32)), .val (.int ((((p2.toUInt32 >>> ((8 : Int32) &&& 31).toUInt32).toInt32) &&& (255 : Int32)).toUInt32.toUInt16.toUInt32.toInt32)), .unset] [(.int (((p2.toUInt32 >>> ((16 : Int32) &&& 31).toUInt32).toInt32) &&& (255 : Int32)))])) _
    refine XS.i2c X0.here hx rfl (hb hby d1_25) rfl ?_
    show Steps p.tables e below (s₁.setTop (mkF m 26 #[.val (.int p1), .val (.int p2), .val (.int ((p2 &&& (255 : Int32)).toUInt32.toUInt16.toUInt32.toInt32)), .val (.int ((((p2.toUInt32 >>> ((8 : Int32) &&& 31).toUInt32).toInt32) &&& (255 : Int32)).toUInt32.toUInt16.toUInt32.toInt32)), .unset] [(.int ((((p2.toUInt32 >>> ((16 : Int32) &&& 31).toUInt32).toInt32) &&& (255 : Int32)).toUInt32.toUInt16.toUInt32.toInt32))])) _
    refine XS.istore X0.here hx rfl (hb hby d1_26) rfl (l' := #[.val (.int p1), .val (.int p2), .val (.int ((p2 &&& (255 : Int32)).toUInt32.toUInt16.toUInt32.toInt32)), .val (.int ((((p2.toUInt32 >>> ((8 : Int32) &&& 31).toUInt32).toInt32) &&& (255 : Int32)).toUInt32.toUInt16.toUInt32.toInt32)), .val (.int ((((p2.toUInt32 >>> ((16 : Int32) &&& 31).toUInt32).toInt32) &&& (255 : Int32)).toUInt32.toUInt16.toUInt32.toInt32))]) rfl ?_
    show Steps p.tables e below (s₁.setTop (mkF m 28 #[.val (.int p1), .val (.int p2), .val (.int ((p2 &&& (255 : Int32)).toUInt32.toUInt16.toUInt32.toInt32)), .val (.int ((((p2.toUInt32 >>> ((8 : Int32) &&& 31).toUInt32).toInt32) &&& (255 : Int32)).toUInt32.toUInt16.toUInt32.toInt32)), .val (.int ((((p2.toUInt32 >>> ((16 : Int32) &&& 31).toUInt32).toInt32) &&& (255 : Int32)).toUInt32.toUInt16.toUInt32.toInt32))] [])) _
    refine XS.iloadN X0.here hx rfl (hb hby d1_28) rfl ?_
    show Steps p.tables e below (s₁.setTop (mkF m 29 #[.val (.int p1), .val (.int p2), .val (.int ((p2 &&& (255 : Int32)).toUInt32.toUInt16.toUInt32.toInt32)), .val (.int ((((p2.toUInt32 >>> ((8 : Int32) &&& 31).toUInt32).toInt32) &&& (255 : Int32)).toUInt32.toUInt16.toUInt32.toInt32)), .val (.int ((((p2.toUInt32 >>> ((16 : Int32) &&& 31).toUInt32).toInt32) &&& (255 : Int32)).toUInt32.toUInt16.toUInt32.toInt32))] [(.int p1)])) _
    refine XS.ifYes X0.here hx rfl (pc0 := 29) (pc' := 43) rfl (hb hby d1_29) rfl ((if0 _ _).trans (feq hc29).2) (by decide) (by decide) ?_
    show Steps p.tables e below (s₁.setTop (mkF m 43 #[.val (.int p1), .val (.int p2), .val (.int ((p2 &&& (255 : Int32)).toUInt32.toUInt16.toUInt32.toInt32)), .val (.int ((((p2.toUInt32 >>> ((8 : Int32) &&& 31).toUInt32).toInt32) &&& (255 : Int32)).toUInt32.toUInt16.toUInt32.toInt32)), .val (.int ((((p2.toUInt32 >>> ((16 : Int32) &&& 31).toUInt32).toInt32) &&& (255 : Int32)).toUInt32.toUInt16.toUInt32.toInt32))] [])) _
    refine XS.iloadN X0.here hx rfl (hb hby d1_43) rfl ?_
    show Steps p.tables e below (s₁.setTop (mkF m 44 #[.val (.int p1), .val (.int p2), .val (.int ((p2 &&& (255 : Int32)).toUInt32.toUInt16.toUInt32.toInt32)), .val (.int ((((p2.toUInt32 >>> ((8 : Int32) &&& 31).toUInt32).toInt32) &&& (255 : Int32)).toUInt32.toUInt16.toUInt32.toInt32)), .val (.int ((((p2.toUInt32 >>> ((16 : Int32) &&& 31).toUInt32).toInt32) &&& (255 : Int32)).toUInt32.toUInt16.toUInt32.toInt32))] [(.int p1)])) _
    refine XS.iconst X0.here hx rfl (hb hby d1_44) ?_
    show Steps p.tables e below (s₁.setTop (mkF m 45 #[.val (.int p1), .val (.int p2), .val (.int ((p2 &&& (255 : Int32)).toUInt32.toUInt16.toUInt32.toInt32)), .val (.int ((((p2.toUInt32 >>> ((8 : Int32) &&& 31).toUInt32).toInt32) &&& (255 : Int32)).toUInt32.toUInt16.toUInt32.toInt32)), .val (.int ((((p2.toUInt32 >>> ((16 : Int32) &&& 31).toUInt32).toInt32) &&& (255 : Int32)).toUInt32.toUInt16.toUInt32.toInt32))] [(.int (1 : Int32)), (.int p1)])) _
    refine XS.icmpYes X0.here hx rfl (pc0 := 45) (pc' := 53) rfl (hb hby d1_45) rfl (feq hc45).2 (by decide) (by decide) ?_
    show Steps p.tables e below (s₁.setTop (mkF m 53 #[.val (.int p1), .val (.int p2), .val (.int ((p2 &&& (255 : Int32)).toUInt32.toUInt16.toUInt32.toInt32)), .val (.int ((((p2.toUInt32 >>> ((8 : Int32) &&& 31).toUInt32).toInt32) &&& (255 : Int32)).toUInt32.toUInt16.toUInt32.toInt32)), .val (.int ((((p2.toUInt32 >>> ((16 : Int32) &&& 31).toUInt32).toInt32) &&& (255 : Int32)).toUInt32.toUInt16.toUInt32.toInt32))] [])) _
    refine XS.iloadN X0.here hx rfl (hb hby d1_53) rfl ?_
    show Steps p.tables e below (s₁.setTop (mkF m 54 #[.val (.int p1), .val (.int p2), .val (.int ((p2 &&& (255 : Int32)).toUInt32.toUInt16.toUInt32.toInt32)), .val (.int ((((p2.toUInt32 >>> ((8 : Int32) &&& 31).toUInt32).toInt32) &&& (255 : Int32)).toUInt32.toUInt16.toUInt32.toInt32)), .val (.int ((((p2.toUInt32 >>> ((16 : Int32) &&& 31).toUInt32).toInt32) &&& (255 : Int32)).toUInt32.toUInt16.toUInt32.toInt32))] [(.int p1)])) _
    refine XS.iconst X0.here hx rfl (hb hby d1_54) ?_
    show Steps p.tables e below (s₁.setTop (mkF m 55 #[.val (.int p1), .val (.int p2), .val (.int ((p2 &&& (255 : Int32)).toUInt32.toUInt16.toUInt32.toInt32)), .val (.int ((((p2.toUInt32 >>> ((8 : Int32) &&& 31).toUInt32).toInt32) &&& (255 : Int32)).toUInt32.toUInt16.toUInt32.toInt32)), .val (.int ((((p2.toUInt32 >>> ((16 : Int32) &&& 31).toUInt32).toInt32) &&& (255 : Int32)).toUInt32.toUInt16.toUInt32.toInt32))] [(.int (2 : Int32)), (.int p1)])) _
    refine XS.icmpYes X0.here hx rfl (pc0 := 55) (pc' := 77) rfl (hb hby d1_55) rfl (feq hc55).2 (by decide) (by decide) ?_
    show Steps p.tables e below (s₁.setTop (mkF m 77 #[.val (.int p1), .val (.int p2), .val (.int ((p2 &&& (255 : Int32)).toUInt32.toUInt16.toUInt32.toInt32)), .val (.int ((((p2.toUInt32 >>> ((8 : Int32) &&& 31).toUInt32).toInt32) &&& (255 : Int32)).toUInt32.toUInt16.toUInt32.toInt32)), .val (.int ((((p2.toUInt32 >>> ((16 : Int32) &&& 31).toUInt32).toInt32) &&& (255 : Int32)).toUInt32.toUInt16.toUInt32.toInt32))] [])) _
    refine st3 _ ?_
    show Steps p.tables e below (T3.setTop (mkF m 80 #[.val (.int p1), .val (.int p2), .val (.int ((p2 &&& (255 : Int32)).toUInt32.toUInt16.toUInt32.toInt32)), .val (.int ((((p2.toUInt32 >>> ((8 : Int32) &&& 31).toUInt32).toInt32) &&& (255 : Int32)).toUInt32.toUInt16.toUInt32.toInt32)), .val (.int ((((p2.toUInt32 >>> ((16 : Int32) &&& 31).toUInt32).toInt32) &&& (255 : Int32)).toUInt32.toUInt16.toUInt32.toInt32))] [(.ref b3)])) _
    refine XS.dup X3.here hx rfl (hb hby d1_80) rfl rfl ?_
    show Steps p.tables e below (T3.setTop (mkF m 81 #[.val (.int p1), .val (.int p2), .val (.int ((p2 &&& (255 : Int32)).toUInt32.toUInt16.toUInt32.toInt32)), .val (.int ((((p2.toUInt32 >>> ((8 : Int32) &&& 31).toUInt32).toInt32) &&& (255 : Int32)).toUInt32.toUInt16.toUInt32.toInt32)), .val (.int ((((p2.toUInt32 >>> ((16 : Int32) &&& 31).toUInt32).toInt32) &&& (255 : Int32)).toUInt32.toUInt16.toUInt32.toInt32))] [(.ref b3), (.ref b3)])) _
    refine XS.iconst X3.here hx rfl (hb hby d1_81) ?_
    show Steps p.tables e below (T3.setTop (mkF m 82 #[.val (.int p1), .val (.int p2), .val (.int ((p2 &&& (255 : Int32)).toUInt32.toUInt16.toUInt32.toInt32)), .val (.int ((((p2.toUInt32 >>> ((8 : Int32) &&& 31).toUInt32).toInt32) &&& (255 : Int32)).toUInt32.toUInt16.toUInt32.toInt32)), .val (.int ((((p2.toUInt32 >>> ((16 : Int32) &&& 31).toUInt32).toInt32) &&& (255 : Int32)).toUInt32.toUInt16.toUInt32.toInt32))] [(.int (3 : Int32)), (.ref b3), (.ref b3)])) _
    refine st4 _ ?_
    show Steps p.tables e below (T4.setTop (mkF m 84 #[.val (.int p1), .val (.int p2), .val (.int ((p2 &&& (255 : Int32)).toUInt32.toUInt16.toUInt32.toInt32)), .val (.int ((((p2.toUInt32 >>> ((8 : Int32) &&& 31).toUInt32).toInt32) &&& (255 : Int32)).toUInt32.toUInt16.toUInt32.toInt32)), .val (.int ((((p2.toUInt32 >>> ((16 : Int32) &&& 31).toUInt32).toInt32) &&& (255 : Int32)).toUInt32.toUInt16.toUInt32.toInt32))] [(.ref b4), (.ref b3), (.ref b3)])) _
    refine XS.dup X4.here hx rfl (hb hby d1_84) rfl rfl ?_
    show Steps p.tables e below (T4.setTop (mkF m 85 #[.val (.int p1), .val (.int p2), .val (.int ((p2 &&& (255 : Int32)).toUInt32.toUInt16.toUInt32.toInt32)), .val (.int ((((p2.toUInt32 >>> ((8 : Int32) &&& 31).toUInt32).toInt32) &&& (255 : Int32)).toUInt32.toUInt16.toUInt32.toInt32)), .val (.int ((((p2.toUInt32 >>> ((16 : Int32) &&& 31).toUInt32).toInt32) &&& (255 : Int32)).toUInt32.toUInt16.toUInt32.toInt32))] [(.ref b4), (.ref b4), (.ref b3), (.ref b3)])) _
    refine XS.iconst X4.here hx rfl (hb hby d1_85) ?_
    show Steps p.tables e below (T4.setTop (mkF m 86 #[.val (.int p1), .val (.int p2), .val (.int ((p2 &&& (255 : Int32)).toUInt32.toUInt16.toUInt32.toInt32)), .val (.int ((((p2.toUInt32 >>> ((8 : Int32) &&& 31).toUInt32).toInt32) &&& (255 : Int32)).toUInt32.toUInt16.toUInt32.toInt32)), .val (.int ((((p2.toUInt32 >>> ((16 : Int32) &&& 31).toUInt32).toInt32) &&& (255 : Int32)).toUInt32.toUInt16.toUInt32.toInt32))] [(.int (0 : Int32)), (.ref b4), (.ref b4), (.ref b3), (.ref b3)])) _
    refine XS.iloadN X4.here hx rfl (hb hby d1_86) rfl ?_
    show Steps p.tables e below (T4.setTop (mkF m 87 #[.val (.int p1), .val (.int p2), .val (.int ((p2 &&& (255 : Int32)).toUInt32.toUInt16.toUInt32.toInt32)), .val (.int ((((p2.toUInt32 >>> ((8 : Int32) &&& 31).toUInt32).toInt32) &&& (255 : Int32)).toUInt32.toUInt16.toUInt32.toInt32)), .val (.int ((((p2.toUInt32 >>> ((16 : Int32) &&& 31).toUInt32).toInt32) &&& (255 : Int32)).toUInt32.toUInt16.toUInt32.toInt32))] [(.int ((p2 &&& (255 : Int32)).toUInt32.toUInt16.toUInt32.toInt32)), (.int (0 : Int32)), (.ref b4), (.ref b4), (.ref b3), (.ref b3)])) _
    refine st5 _ ?_
    show Steps p.tables e below (T5.setTop (mkF m 88 #[.val (.int p1), .val (.int p2), .val (.int ((p2 &&& (255 : Int32)).toUInt32.toUInt16.toUInt32.toInt32)), .val (.int ((((p2.toUInt32 >>> ((8 : Int32) &&& 31).toUInt32).toInt32) &&& (255 : Int32)).toUInt32.toUInt16.toUInt32.toInt32)), .val (.int ((((p2.toUInt32 >>> ((16 : Int32) &&& 31).toUInt32).toInt32) &&& (255 : Int32)).toUInt32.toUInt16.toUInt32.toInt32))] [(.ref b4), (.ref b3), (.ref b3)])) _
    refine XS.dup X5.here hx rfl (hb hby d1_88) rfl rfl ?_
    show Steps p.tables e below (T5.setTop (mkF m 89 #[.val (.int p1), .val (.int p2), .val (.int ((p2 &&& (255 : Int32)).toUInt32.toUInt16.toUInt32.toInt32)), .val (.int ((((p2.toUInt32 >>> ((8 : Int32) &&& 31).toUInt32).toInt32) &&& (255 : Int32)).toUInt32.toUInt16.toUInt32.toInt32)), .val (.int ((((p2.toUInt32 >>> ((16 : Int32) &&& 31).toUInt32).toInt32) &&& (255 : Int32)).toUInt32.toUInt16.toUInt32.toInt32))] [(.ref b4), (.ref b4), (.ref b3), (.ref b3)])) _
    refine XS.iconst X5.here hx rfl (hb hby d1_89) ?_
    show Steps p.tables e below (T5.setTop (mkF m 90 #[.val (.int p1), .val (.int p2), .val (.int ((p2 &&& (255 : Int32)).toUInt32.toUInt16.toUInt32.toInt32)), .val (.int ((((p2.toUInt32 >>> ((8 : Int32) &&& 31).toUInt32).toInt32) &&& (255 : Int32)).toUInt32.toUInt16.toUInt32.toInt32)), .val (.int ((((p2.toUInt32 >>> ((16 : Int32) &&& 31).toUInt32).toInt32) &&& (255 : Int32)).toUInt32.toUInt16.toUInt32.toInt32))] [(.int (1 : Int32)), (.ref b4), (.ref b4), (.ref b3), (.ref b3)])) _
    refine XS.iloadN X5.here hx rfl (hb hby d1_90) rfl ?_
    show Steps p.tables e below (T5.setTop (mkF m 91 #[.val (.int p1), .val (.int p2), .val (.int ((p2 &&& (255 : Int32)).toUInt32.toUInt16.toUInt32.toInt32)), .val (.int ((((p2.toUInt32 >>> ((8 : Int32) &&& 31).toUInt32).toInt32) &&& (255 : Int32)).toUInt32.toUInt16.toUInt32.toInt32)), .val (.int ((((p2.toUInt32 >>> ((16 : Int32) &&& 31).toUInt32).toInt32) &&& (255 : Int32)).toUInt32.toUInt16.toUInt32.toInt32))] [(.int ((((p2.toUInt32 >>> ((8 : Int32) &&& 31).toUInt32).toInt32) &&& (255 : Int32)).toUInt32.toUInt16.toUInt32.toInt32)), (.int (1 : Int32)), (.ref b4), (.ref b4), (.ref b3), (.ref b3)])) _
    refine st6 _ ?_
    show Steps p.tables e below (T6.setTop (mkF m 92 #[.val (.int p1), .val (.int p2), .val (.int ((p2 &&& (255 : Int32)).toUInt32.toUInt16.toUInt32.toInt32)), .val (.int ((((p2.toUInt32 >>> ((8 : Int32) &&& 31).toUInt32).toInt32) &&& (255 : Int32)).toUInt32.toUInt16.toUInt32.toInt32)), .val (.int ((((p2.toUInt32 >>> ((16 : Int32) &&& 31).toUInt32).toInt32) &&& (255 : Int32)).toUInt32.toUInt16.toUInt32.toInt32))] [(.ref b4), (.ref b3), (.ref b3)])) _
    refine XS.dup X6.here hx rfl (hb hby d1_92) rfl rfl ?_
    show Steps p.tables e below (T6.setTop (mkF m 93 #[.val (.int p1), .val (.int p2), .val (.int ((p2 &&& (255 : Int32)).toUInt32.toUInt16.toUInt32.toInt32)), .val (.int ((((p2.toUInt32 >>> ((8 : Int32) &&& 31).toUInt32).toInt32) &&& (255 : Int32)).toUInt32.toUInt16.toUInt32.toInt32)), .val (.int ((((p2.toUInt32 >>> ((16 : Int32) &&& 31).toUInt32).toInt32) &&& (255 : Int32)).toUInt32.toUInt16.toUInt32.toInt32))] [(.ref b4), (.ref b4), (.ref b3), (.ref b3)])) _
    refine XS.iconst X6.here hx rfl (hb hby d1_93) ?_
    show Steps p.tables e below (T6.setTop (mkF m 94 #[.val (.int p1), .val (.int p2), .val (.int ((p2 &&& (255 : Int32)).toUInt32.toUInt16.toUInt32.toInt32)), .val (.int ((((p2.toUInt32 >>> ((8 : Int32) &&& 31).toUInt32).toInt32) &&& (255 : Int32)).toUInt32.toUInt16.toUInt32.toInt32)), .val (.int ((((p2.toUInt32 >>> ((16 : Int32) &&& 31).toUInt32).toInt32) &&& (255 : Int32)).toUInt32.toUInt16.toUInt32.toInt32))] [(.int (2 : Int32)), (.ref b4), (.ref b4), (.ref b3), (.ref b3)])) _
    refine XS.iload X6.here hx rfl (hb hby d1_94) rfl ?_
    show Steps p.tables e below (T6.setTop (mkF m 96 #[.val (.int p1), .val (.int p2), .val (.int ((p2 &&& (255 : Int32)).toUInt32.toUInt16.toUInt32.toInt32)), .val (.int ((((p2.toUInt32 >>> ((8 : Int32) &&& 31).toUInt32).toInt32) &&& (255 : Int32)).toUInt32.toUInt16.toUInt32.toInt32)), .val (.int ((((p2.toUInt32 >>> ((16 : Int32) &&& 31).toUInt32).toInt32) &&& (255 : Int32)).toUInt32.toUInt16.toUInt32.toInt32))] [(.int ((((p2.toUInt32 >>> ((16 : Int32) &&& 31).toUInt32).toInt32) &&& (255 : Int32)).toUInt32.toUInt16.toUInt32.toInt32)), (.int (2 : Int32)), (.ref b4), (.ref b4), (.ref b3), (.ref b3)])) _
    refine st7 _ ?_
    show Steps p.tables e below (T7.setTop (mkF m 97 #[.val (.int p1), .val (.int p2), .val (.int ((p2 &&& (255 : Int32)).toUInt32.toUInt16.toUInt32.toInt32)), .val (.int ((((p2.toUInt32 >>> ((8 : Int32) &&& 31).toUInt32).toInt32) &&& (255 : Int32)).toUInt32.toUInt16.toUInt32.toInt32)), .val (.int ((((p2.toUInt32 >>> ((16 : Int32) &&& 31).toUInt32).toInt32) &&& (255 : Int32)).toUInt32.toUInt16.toUInt32.toInt32))] [(.ref b4), (.ref b3), (.ref b3)])) _
    refine st8.trans ?_
    show Steps p.tables e below (T8.setTop (mkF m 100 #[.val (.int p1), .val (.int p2), .val (.int ((p2 &&& (255 : Int32)).toUInt32.toUInt16.toUInt32.toInt32)), .val (.int ((((p2.toUInt32 >>> ((8 : Int32) &&& 31).toUInt32).toInt32) &&& (255 : Int32)).toUInt32.toUInt16.toUInt32.toInt32)), .val (.int ((((p2.toUInt32 >>> ((16 : Int32) &&& 31).toUInt32).toInt32) &&& (255 : Int32)).toUInt32.toUInt16.toUInt32.toInt32))] [(.ref b3)])) _
    jvm_step X8.here [X8.here.top, hx, (hb hby d1_100), X8.method', Bd.returns, Value.isRef, FieldType.isReference]
    first | (intro acts; rw [hr _ acts rfl rfl rfl]) | rw [hr _ _ rfl rfl rfl]
    exact Steps.refl _
  · show Q1_3 Z p1 p2 h0 n0 _ T8.heap _
    exact ⟨b3, rfl, N8, K7.trans KK (allS (Or.inr sz_b3) all0), EE, CC, tt, kb, VV, AA⟩
def Q1_0 (Z : State) (p1 : Int32) (p2 : Int32) (h0 : Heap) (n0 : Nat) (v : Option Value) (h : Heap) (L : List Loc) : Prop := ∃ r : Addr, v = some (.ref r) ∧ Fr n0 L ∧ Keep h0 h [] ∧ own_S Z h r (own_cs 0 p2)
theorem d1_32 : decode method_2_code 32 = .ok (.new 7, 3) := by decide +kernel
theorem d1_35 : decode method_2_code 35 = .ok (.dup, 1) := by decide +kernel
theorem d1_36 : decode method_2_code 36 = .ok (.iconst 0, 1) := by decide +kernel
theorem d1_37 : decode method_2_code 37 = .ok (.newarray .char, 2) := by decide +kernel
theorem d1_39 : decode method_2_code 39 = .ok (.invokespecial 9, 3) := by decide +kernel
theorem d1_42 : decode method_2_code 42 = .ok (.areturn, 1) := by decide +kernel
set_option maxRecDepth 65536 in
set_option maxHeartbeats 40000000 in
theorem rm1_0 (l : Launch) (Z : State) (a0 : Array Value) (hw : ∀ d ∈ tables_1, d.before a0 Z = true) (ws : List Jvm.Cond) (p2 : Int32) (h0 : Heap) (n0 : Nat) (Z0 : n0 ≤ h0.size)  :
    MetFree l (⟨"com/example/templum/templum/model/TextStoreClosePinLaw", "str", "(II)Ljava/lang/String;"⟩ : MethodName) (head1 (Jvm.Cond.code (⟨"com/example/templum/templum/model/TextStoreClosePinLaw", "str", "(II)Ljava/lang/String;"⟩ : MethodName) method_2_code 5 (some (.object "java/lang/String")) :: ws) ({ frames := 4, cells := 6, slots := 12, locals := 66 } : Room)) (fun a U => a = #[(.int (0 : Int32)), (.int p2)] ∧ Z.Warmed39 U.vm ∧ U.heap = h0 ∧ CHv Z own_EL U.vm h0) (fun _ _ _ _ _ => True) (fun _ U o U' => ∃ v L, o = .returned v ∧ Q1_0 Z (0 : Int32) p2 h0 n0 v U'.heap L ∧ CHr Z own_EL U.vm U.heap U'.vm U'.heap ∧ ReturnedEndW U o U' L ({ frames := 4, cells := 6, slots := 12, locals := 66 } : Room).cells ({ frames := 4, cells := 6, slots := 12, locals := 66 } : Room).slots) := by
  refine MetFree.of_bodySF (plainFor_of_name pn_1) hisR ?_
  intro p e s m args below meth c s₁ Bd hml0 hP hK
  obtain ⟨rfl, hZ, hh, H0⟩ := hP
  have hx := Bd.exec
  have hby := Bd.bytes
  have hml : c.maxLocals = 5 := hml0
  have hown : s.vm.findClass "com/example/templum/templum/model/TextStoreClosePinLaw" = some m.cls := findClass_of_methodNamed Bd.named
  have hnm := (name_of_methodNamed Bd.named Bd.method).1
  have X0 : Stand p l e ({ frames := 4, cells := 6, slots := 12, locals := 66 } : Room) (s.setVm s.vm) m #[(.int (0 : Int32)), (.int p2)] below meth c s₁ [] 0 0 := Stand.of_body Bd
  have hS0 : s.Since s.vm s.heap.size := own_since s
  have e0 : s₁.heap = h0 := by rw [← hh, Bd.state]; rfl
  have N0 := Fr.nil n0
  have pre0 : ∀ t, Steps p.tables e below (s₁.setTop (mkF m 0 #[.val (.int (0 : Int32)), .val (.int p2), .unset, .unset, .unset] [])) t → Steps p.tables e below (s₁.setTop (entryFrame m #[(.int (0 : Int32)), (.int p2)] 5)) t := fun t k => castTop (ef_1 m (0 : Int32) p2) k
  have hEL := own_EW hw
  have wS : ∀ d ∈ Bundle.stringAtoms, d.before a0 Z = true := fun d hd => hw d (own_satoms d hd)
  have wi := (hw _ (List.mem_of_getElem? (i := 5) rfl))
  have C0 : CHr Z own_EL s.vm h0 s.vm h0 := CHr.refl H0
  have hk0 : s.heap.size ≤ h0.size := by rw [← hh]; exact Nat.le_refl _
  obtain ⟨T3, h3, X3, e3, E3, A3, D3, -, st3⟩ := newO X0 hx hZ hown (hw _ (List.mem_of_getElem? (i := 4) rfl)) (hw _ (List.mem_of_getElem? (i := 5) rfl)) (hw _ (List.mem_of_getElem? (i := 6) rfl)) e0 (g := (mkF m 32 #[.val (.int (0 : Int32)), .val (.int p2), .val (.int ((p2 &&& (255 : Int32)).toUInt32.toUInt16.toUInt32.toInt32)), .val (.int ((((p2.toUInt32 >>> ((8 : Int32) &&& 31).toUInt32).toInt32) &&& (255 : Int32)).toUInt32.toUInt16.toUInt32.toInt32)), .val (.int ((((p2.toUInt32 >>> ((16 : Int32) &&& 31).toUInt32).toInt32) &&& (255 : Int32)).toUInt32.toUInt16.toUInt32.toInt32))] [])) rfl (hb hby d1_32) (by decide) (by decide)
  obtain ⟨b3, g3⟩ : ∃ z, z = h0.size := ⟨_, rfl⟩
  rw [← g3] at A3 D3 st3
  have F_value_b3 : Fld Z h3 b3 "java/lang/String" "value" "[B" .null := D3 (Or.inr (hw _ (List.mem_of_getElem? (i := 20) rfl))) (ty := (.array .byte)) (by decide)
  have F_coder_b3 : Fld Z h3 b3 "java/lang/String" "coder" "B" (.int (0 : Int32)) := D3 (Or.inr (hw _ (List.mem_of_getElem? (i := 21) rfl))) (ty := .byte) (by decide)
  have g_b3 : n0 ≤ b3 := Nat.le_trans Z0 (Nat.le_of_eq g3.symm)
  obtain ⟨T4, h4, k4, X4, e4, E4, A4, st4⟩ := newP X3 hx hZ (hw _ (List.mem_of_getElem? (i := 7) rfl)) e3 (g := (mkF m 37 #[.val (.int (0 : Int32)), .val (.int p2), .val (.int ((p2 &&& (255 : Int32)).toUInt32.toUInt16.toUInt32.toInt32)), .val (.int ((((p2.toUInt32 >>> ((8 : Int32) &&& 31).toUInt32).toInt32) &&& (255 : Int32)).toUInt32.toUInt16.toUInt32.toInt32)), .val (.int ((((p2.toUInt32 >>> ((16 : Int32) &&& 31).toUInt32).toInt32) &&& (255 : Int32)).toUInt32.toUInt16.toUInt32.toInt32))] [(.int (0 : Int32)), (.ref b3), (.ref b3)])) rfl (hb hby d1_37) rfl (by decide) (cap := 0) (by decide) (by decide) (by decide) (by decide)
  obtain ⟨b4, g4⟩ : ∃ z, z = h3.size := ⟨_, rfl⟩
  rw [← g4] at A4 st4
  have V4 : Arv Z h4 b4 k4 .char (0 : Int32) [] (.int (0 : Int32)) := Arv.new A4 (by decide)
  have K4 : Keep h0 h4 [] := ((Keep.refl h0 []).ext E3).ext E4
  have C4 := C0.trans (CHr.ext (own_extK K4) C0.1)
  have hk4 : s.heap.size ≤ h4.size := Nat.le_trans hk0 K4.1
  obtain ⟨_, _, ⟨T5, L5, k5, n5⟩, -, X5, hs5, hg5, ⟨Lc5, hQ5, l5, y5, z5, CR5⟩, st5⟩ := X4.specialBackS hx (y := (⟨"java/lang/String", "<init>", "([C)V"⟩ : MethodName)) rfl hown (mvT hZ (hw _ (List.mem_of_getElem? (i := 8) rfl))) (mvT hZ (hw _ (List.mem_of_getElem? (i := 9) rfl))) (mvT hZ (hw _ (List.mem_of_getElem? (i := 10) rfl))) (by decide) (backOfSH (W := 1) (rm2 l Z a0 hw [] b3 b4 k4 (.int (0 : Int32)) h4 n0 (Nat.le_trans Z0 K4.1) (A3.ext E4) (F_value_b3.ext E4) (F_coder_b3.ext E4) g_b3 V4) hZ (hw _ (List.mem_of_getElem? (i := 10) rfl)) (hw _ (List.mem_of_getElem? (i := 6) rfl)) (Nat.le_of_ble_eq_true rfl) (Nat.le_of_ble_eq_true rfl) hEL C4.1) (g := (mkF m 39 #[.val (.int (0 : Int32)), .val (.int p2), .val (.int ((p2 &&& (255 : Int32)).toUInt32.toUInt16.toUInt32.toInt32)), .val (.int ((((p2.toUInt32 >>> ((8 : Int32) &&& 31).toUInt32).toInt32) &&& (255 : Int32)).toUInt32.toUInt16.toUInt32.toInt32)), .val (.int ((((p2.toUInt32 >>> ((16 : Int32) &&& 31).toUInt32).toInt32) &&& (255 : Int32)).toUInt32.toUInt16.toUInt32.toInt32))] [(.ref b4), (.ref b3), (.ref b3)])) rfl (by rw [hml]; rfl) (Steps.refl _) (a := b3) (argsL := [(.ref b4)]) (rest := [(.ref b3)]) (lenOf pd_oC1 rfl) rfl (by show 2 * 0 + _ ≤ _; exact Nat.le_of_eq rfl) (hb hby d1_39) (fun _ _ => ⟨rfl, e4, (by decide : 0 + 1 + 1 + 4 ≤ _), (by decide : 0 + 4 + 0 + 8 ≤ _)⟩)
  dsimp only [Pt.U, Pt.locs, Pt.cells, Pt.slots] at X5 l5 y5 z5 st5 hQ5 hs5 hg5 CR5
  subst l5 y5 z5
  obtain ⟨rfl, N5, K5, S5⟩ := hQ5
  obtain ⟨X5, hS5, hZ5, hown5⟩ := rebS hS0 (show _ ≤ _ from by rw [e4]; exact hk4) X5 hs5 hg5 hZ hown
  have C5 := C4.trans CR5
  obtain ⟨fs, hr, hrun, hended, hEnd⟩ := X5.leaveW hS5 (Nat.le_refl _) (v := some (.ref b3)) (fun h => by rw [Bd.returns] at h; cases h)
  refine ⟨_, _, pre0 _ ?_, hrun, hended, _, _, rfl, ?_, ?_, hEnd⟩
  · show Steps p.tables e below (s₁.setTop (mkF m 0 #[.val (.int (0 : Int32)), .val (.int p2), .unset, .unset, .unset] [])) _
    refine XS.iloadN X0.here hx rfl (hb hby d1_0) rfl ?_
    show Steps p.tables e below (s₁.setTop (mkF m 1 #[.val (.int (0 : Int32)), .val (.int p2), .unset, .unset, .unset] [(.int p2)])) _
    refine XS.sipush X0.here hx rfl (hb hby d1_1) ?_
    show Steps p.tables e below (s₁.setTop (mkF m 4 #[.val (.int (0 : Int32)), .val (.int p2), .unset, .unset, .unset] [(.int (255 : Int32)), (.int p2)])) _
    refine XS.iand X0.here hx rfl (hb hby d1_4) rfl ?_
    show Steps p.tables e below (s₁.setTop (mkF m 5 #[.val (.int (0 : Int32)), .val (.int p2), .unset, .unset, .unset] [(.int (p2 &&& (255 : Int32)))])) _
    refine XS.i2c X0.here hx rfl (hb hby d1_5) rfl ?_
    show Steps p.tables e below (s₁.setTop (mkF m 6 #[.val (.int (0 : Int32)), .val (.int p2), .unset, .unset, .unset] [(.int ((p2 &&& (255 : Int32)).toUInt32.toUInt16.toUInt32.toInt32))])) _
    refine XS.istoreN X0.here hx rfl (hb hby d1_6) rfl (l' := #[.val (.int (0 : Int32)), .val (.int p2), .val (.int ((p2 &&& (255 : Int32)).toUInt32.toUInt16.toUInt32.toInt32)), .unset, .unset]) rfl ?_
    show Steps p.tables e below (s₁.setTop (mkF m 7 #[.val (.int (0 : Int32)), .val (.int p2), .val (.int ((p2 &&& (255 : Int32)).toUInt32.toUInt16.toUInt32.toInt32)), .unset, .unset] [])) _
    refine XS.iloadN X0.here hx rfl (hb hby d1_7) rfl ?_
    show Steps p.tables e below (s₁.setTop (mkF m 8 #[.val (.int (0 : Int32)), .val (.int p2), .val (.int ((p2 &&& (255 : Int32)).toUInt32.toUInt16.toUInt32.toInt32)), .unset, .unset] [(.int p2)])) _
    refine XS.bipush X0.here hx rfl (hb hby d1_8) ?_
    show Steps p.tables e below (s₁.setTop (mkF m 10 #[.val (.int (0 : Int32)), .val (.int p2), .val (.int ((p2 &&& (255 : Int32)).toUInt32.toUInt16.toUInt32.toInt32)), .unset, .unset] [(.int (8 : Int32)), (.int p2)])) _
    refine XS.iushr X0.here hx rfl (hb hby d1_10) rfl ?_
    show Steps p.tables e below (s₁.setTop (mkF m 11 #[.val (.int (0 : Int32)), .val (.int p2), .val (.int ((p2 &&& (255 : Int32)).toUInt32.toUInt16.toUInt32.toInt32)), .unset, .unset] [(.int ((p2.toUInt32 >>> ((8 : Int32) &&& 31).toUInt32).toInt32))])) _
    refine XS.sipush X0.here hx rfl (hb hby d1_11) ?_
    show Steps p.tables e below (s₁.setTop (mkF m 14 #[.val (.int (0 : Int32)), .val (.int p2), .val (.int ((p2 &&& (255 : Int32)).toUInt32.toUInt16.toUInt32.toInt32)), .unset, .unset] [(.int (255 : Int32)), (.int ((p2.toUInt32 >>> ((8 : Int32) &&& 31).toUInt32).toInt32))])) _
    refine XS.iand X0.here hx rfl (hb hby d1_14) rfl ?_
    show Steps p.tables e below (s₁.setTop (mkF m 15 #[.val (.int (0 : Int32)), .val (.int p2), .val (.int ((p2 &&& (255 : Int32)).toUInt32.toUInt16.toUInt32.toInt32)), .unset, .unset] [(.int (((p2.toUInt32 >>> ((8 : Int32) &&& 31).toUInt32).toInt32) &&& (255 : Int32)))])) _
    refine XS.i2c X0.here hx rfl (hb hby d1_15) rfl ?_
    show Steps p.tables e below (s₁.setTop (mkF m 16 #[.val (.int (0 : Int32)), .val (.int p2), .val (.int ((p2 &&& (255 : Int32)).toUInt32.toUInt16.toUInt32.toInt32)), .unset, .unset] [(.int ((((p2.toUInt32 >>> ((8 : Int32) &&& 31).toUInt32).toInt32) &&& (255 : Int32)).toUInt32.toUInt16.toUInt32.toInt32))])) _
    refine XS.istoreN X0.here hx rfl (hb hby d1_16) rfl (l' := #[.val (.int (0 : Int32)), .val (.int p2), .val (.int ((p2 &&& (255 : Int32)).toUInt32.toUInt16.toUInt32.toInt32)), .val (.int ((((p2.toUInt32 >>> ((8 : Int32) &&& 31).toUInt32).toInt32) &&& (255 : Int32)).toUInt32.toUInt16.toUInt32.toInt32)), .unset]) rfl ?_
    show Steps p.tables e below (s₁.setTop (mkF m 17 #[.val (.int (0 : Int32)), .val (.int p2), .val (.int ((p2 &&& (255 : Int32)).toUInt32.toUInt16.toUInt32.toInt32)), .val (.int ((((p2.toUInt32 >>> ((8 : Int32) &&& 31).toUInt32).toInt32) &&& (255 : Int32)).toUInt32.toUInt16.toUInt32.toInt32)), .unset] [])) _
    refine XS.iloadN X0.here hx rfl (hb hby d1_17) rfl ?_
    show Steps p.tables e below (s₁.setTop (mkF m 18 #[.val (.int (0 : Int32)), .val (.int p2), .val (.int ((p2 &&& (255 : Int32)).toUInt32.toUInt16.toUInt32.toInt32)), .val (.int ((((p2.toUInt32 >>> ((8 : Int32) &&& 31).toUInt32).toInt32) &&& (255 : Int32)).toUInt32.toUInt16.toUInt32.toInt32)), .unset] [(.int p2)])) _
    refine XS.bipush X0.here hx rfl (hb hby d1_18) ?_
    show Steps p.tables e below (s₁.setTop (mkF m 20 #[.val (.int (0 : Int32)), .val (.int p2), .val (.int ((p2 &&& (255 : Int32)).toUInt32.toUInt16.toUInt32.toInt32)), .val (.int ((((p2.toUInt32 >>> ((8 : Int32) &&& 31).toUInt32).toInt32) &&& (255 : Int32)).toUInt32.toUInt16.toUInt32.toInt32)), .unset] [(.int (16 : Int32)), (.int p2)])) _
    refine XS.iushr X0.here hx rfl (hb hby d1_20) rfl ?_
    show Steps p.tables e below (s₁.setTop (mkF m 21 #[.val (.int (0 : Int32)), .val (.int p2), .val (.int ((p2 &&& (255 : Int32)).toUInt32.toUInt16.toUInt32.toInt32)), .val (.int ((((p2.toUInt32 >>> ((8 : Int32) &&& 31).toUInt32).toInt32) &&& (255 : Int32)).toUInt32.toUInt16.toUInt32.toInt32)), .unset] [(.int ((p2.toUInt32 >>> ((16 : Int32) &&& 31).toUInt32).toInt32))])) _
    refine XS.sipush X0.here hx rfl (hb hby d1_21) ?_
    show Steps p.tables e below (s₁.setTop (mkF m 24 #[.val (.int (0 : Int32)), .val (.int p2), .val (.int ((p2 &&& (255 : Int32)).toUInt32.toUInt16.toUInt32.toInt32)), .val (.int ((((p2.toUInt32 >>> ((8 : Int32) &&& 31).toUInt32).toInt32) &&& (255 : Int32)).toUInt32.toUInt16.toUInt32.toInt32)), .unset] [(.int (255 : Int32)), (.int ((p2.toUInt32 >>> ((16 : Int32) &&& 31).toUInt32).toInt32))])) _
    refine XS.iand X0.here hx rfl (hb hby d1_24) rfl ?_
    show Steps p.tables e below (s₁.setTop (mkF m 25 #[.val (.int (0 : Int32)), .val (.int p2), .val (.int ((p2 &&& (255 : Int32)).toUInt32.toUInt16.toUInt32.toInt32)), .val (.int ((((p2.toUInt32 >>> ((8 : Int32) &&& 31).toUInt32).toInt32) &&& (255 : Int32)).toUInt32.toUInt16.toUInt32.toInt32)), .unset] [(.int (((p2.toUInt32 >>> ((16 : Int32) &&& 31).toUInt32).toInt32) &&& (255 : Int32)))])) _
    refine XS.i2c X0.here hx rfl (hb hby d1_25) rfl ?_
    show Steps p.tables e below (s₁.setTop (mkF m 26 #[.val (.int (0 : Int32)), .val (.int p2), .val (.int ((p2 &&& (255 : Int32)).toUInt32.toUInt16.toUInt32.toInt32)), .val (.int ((((p2.toUInt32 >>> ((8 : Int32) &&& 31).toUInt32).toInt32) &&& (255 : Int32)).toUInt32.toUInt16.toUInt32.toInt32)), .unset] [(.int ((((p2.toUInt32 >>> ((16 : Int32) &&& 31).toUInt32).toInt32) &&& (255 : Int32)).toUInt32.toUInt16.toUInt32.toInt32))])) _
    refine XS.istore X0.here hx rfl (hb hby d1_26) rfl (l' := #[.val (.int (0 : Int32)), .val (.int p2), .val (.int ((p2 &&& (255 : Int32)).toUInt32.toUInt16.toUInt32.toInt32)), .val (.int ((((p2.toUInt32 >>> ((8 : Int32) &&& 31).toUInt32).toInt32) &&& (255 : Int32)).toUInt32.toUInt16.toUInt32.toInt32)), .val (.int ((((p2.toUInt32 >>> ((16 : Int32) &&& 31).toUInt32).toInt32) &&& (255 : Int32)).toUInt32.toUInt16.toUInt32.toInt32))]) rfl ?_
    show Steps p.tables e below (s₁.setTop (mkF m 28 #[.val (.int (0 : Int32)), .val (.int p2), .val (.int ((p2 &&& (255 : Int32)).toUInt32.toUInt16.toUInt32.toInt32)), .val (.int ((((p2.toUInt32 >>> ((8 : Int32) &&& 31).toUInt32).toInt32) &&& (255 : Int32)).toUInt32.toUInt16.toUInt32.toInt32)), .val (.int ((((p2.toUInt32 >>> ((16 : Int32) &&& 31).toUInt32).toInt32) &&& (255 : Int32)).toUInt32.toUInt16.toUInt32.toInt32))] [])) _
    refine XS.iloadN X0.here hx rfl (hb hby d1_28) rfl ?_
    show Steps p.tables e below (s₁.setTop (mkF m 29 #[.val (.int (0 : Int32)), .val (.int p2), .val (.int ((p2 &&& (255 : Int32)).toUInt32.toUInt16.toUInt32.toInt32)), .val (.int ((((p2.toUInt32 >>> ((8 : Int32) &&& 31).toUInt32).toInt32) &&& (255 : Int32)).toUInt32.toUInt16.toUInt32.toInt32)), .val (.int ((((p2.toUInt32 >>> ((16 : Int32) &&& 31).toUInt32).toInt32) &&& (255 : Int32)).toUInt32.toUInt16.toUInt32.toInt32))] [(.int (0 : Int32))])) _
    refine XS.ifNo X0.here hx rfl (hb hby d1_29) rfl ((if0 _ _).trans (teq (rfl : (0 : Int32) = 0)).2) ?_
    show Steps p.tables e below (s₁.setTop (mkF m 32 #[.val (.int (0 : Int32)), .val (.int p2), .val (.int ((p2 &&& (255 : Int32)).toUInt32.toUInt16.toUInt32.toInt32)), .val (.int ((((p2.toUInt32 >>> ((8 : Int32) &&& 31).toUInt32).toInt32) &&& (255 : Int32)).toUInt32.toUInt16.toUInt32.toInt32)), .val (.int ((((p2.toUInt32 >>> ((16 : Int32) &&& 31).toUInt32).toInt32) &&& (255 : Int32)).toUInt32.toUInt16.toUInt32.toInt32))] [])) _
    refine st3 _ ?_
    show Steps p.tables e below (T3.setTop (mkF m 35 #[.val (.int (0 : Int32)), .val (.int p2), .val (.int ((p2 &&& (255 : Int32)).toUInt32.toUInt16.toUInt32.toInt32)), .val (.int ((((p2.toUInt32 >>> ((8 : Int32) &&& 31).toUInt32).toInt32) &&& (255 : Int32)).toUInt32.toUInt16.toUInt32.toInt32)), .val (.int ((((p2.toUInt32 >>> ((16 : Int32) &&& 31).toUInt32).toInt32) &&& (255 : Int32)).toUInt32.toUInt16.toUInt32.toInt32))] [(.ref b3)])) _
    refine XS.dup X3.here hx rfl (hb hby d1_35) rfl rfl ?_
    show Steps p.tables e below (T3.setTop (mkF m 36 #[.val (.int (0 : Int32)), .val (.int p2), .val (.int ((p2 &&& (255 : Int32)).toUInt32.toUInt16.toUInt32.toInt32)), .val (.int ((((p2.toUInt32 >>> ((8 : Int32) &&& 31).toUInt32).toInt32) &&& (255 : Int32)).toUInt32.toUInt16.toUInt32.toInt32)), .val (.int ((((p2.toUInt32 >>> ((16 : Int32) &&& 31).toUInt32).toInt32) &&& (255 : Int32)).toUInt32.toUInt16.toUInt32.toInt32))] [(.ref b3), (.ref b3)])) _
    refine XS.iconst X3.here hx rfl (hb hby d1_36) ?_
    show Steps p.tables e below (T3.setTop (mkF m 37 #[.val (.int (0 : Int32)), .val (.int p2), .val (.int ((p2 &&& (255 : Int32)).toUInt32.toUInt16.toUInt32.toInt32)), .val (.int ((((p2.toUInt32 >>> ((8 : Int32) &&& 31).toUInt32).toInt32) &&& (255 : Int32)).toUInt32.toUInt16.toUInt32.toInt32)), .val (.int ((((p2.toUInt32 >>> ((16 : Int32) &&& 31).toUInt32).toInt32) &&& (255 : Int32)).toUInt32.toUInt16.toUInt32.toInt32))] [(.int (0 : Int32)), (.ref b3), (.ref b3)])) _
    refine st4 _ ?_
    show Steps p.tables e below (T4.setTop (mkF m 39 #[.val (.int (0 : Int32)), .val (.int p2), .val (.int ((p2 &&& (255 : Int32)).toUInt32.toUInt16.toUInt32.toInt32)), .val (.int ((((p2.toUInt32 >>> ((8 : Int32) &&& 31).toUInt32).toInt32) &&& (255 : Int32)).toUInt32.toUInt16.toUInt32.toInt32)), .val (.int ((((p2.toUInt32 >>> ((16 : Int32) &&& 31).toUInt32).toInt32) &&& (255 : Int32)).toUInt32.toUInt16.toUInt32.toInt32))] [(.ref b4), (.ref b3), (.ref b3)])) _
    refine st5.trans ?_
    show Steps p.tables e below (T5.setTop (mkF m 42 #[.val (.int (0 : Int32)), .val (.int p2), .val (.int ((p2 &&& (255 : Int32)).toUInt32.toUInt16.toUInt32.toInt32)), .val (.int ((((p2.toUInt32 >>> ((8 : Int32) &&& 31).toUInt32).toInt32) &&& (255 : Int32)).toUInt32.toUInt16.toUInt32.toInt32)), .val (.int ((((p2.toUInt32 >>> ((16 : Int32) &&& 31).toUInt32).toInt32) &&& (255 : Int32)).toUInt32.toUInt16.toUInt32.toInt32))] [(.ref b3)])) _
    jvm_step X5.here [X5.here.top, hx, (hb hby d1_42), X5.method', Bd.returns, Value.isRef, FieldType.isReference]
    first | (intro acts; rw [hr _ acts rfl rfl rfl]) | rw [hr _ _ rfl rfl rfl]
    exact Steps.refl _
  · exact ⟨b3, rfl, Fr.app N0 N5, K4.trans K5 (allS (Or.inr (Nat.le_of_eq g3.symm)) all0), S5⟩
  · show CHr Z own_EL s.vm s.heap T5.vm T5.heap
    rw [hh]
    exact C5
def Q1 (Z : State) (n : Nat) (p2 : Int32) (h0 : Heap) (n0 : Nat) (v : Option Value) (h : Heap) (L : List Loc) : Prop := ∃ r : Addr, v = some (.ref r) ∧ Fr n0 L ∧ Keep h0 h [] ∧ own_S Z h r (own_cs n p2)
set_option maxRecDepth 65536 in
theorem rm1 (l : Launch) (Z : State) (a0 : Array Value) (hw : ∀ d ∈ tables_1, d.before a0 Z = true) (ws : List Jvm.Cond) (n : Nat) (hn : n ≤ 3) (p2 : Int32) (z : Int32) (h0 : Heap) (n0 : Nat) (Z0 : n0 ≤ h0.size) (SC : Sta Z h0 "java/lang/String" "COMPACT_STRINGS" "Z" (.int z)) (hz : ¬ z = (0 : Int32)) :
    MetFree l (⟨"com/example/templum/templum/model/TextStoreClosePinLaw", "str", "(II)Ljava/lang/String;"⟩ : MethodName) (head1 (Jvm.Cond.code (⟨"com/example/templum/templum/model/TextStoreClosePinLaw", "str", "(II)Ljava/lang/String;"⟩ : MethodName) method_2_code 5 (some (.object "java/lang/String")) :: ws) ({ frames := 4, cells := 6, slots := 12, locals := 66 } : Room)) (fun a U => a = #[(.int (Int32.ofNat n)), (.int p2)] ∧ Z.Warmed39 U.vm ∧ U.heap = h0 ∧ CHv Z own_EL U.vm h0) (fun _ _ _ _ _ => True) (fun _ U o U' => ∃ v L, o = .returned v ∧ Q1 Z n p2 h0 n0 v U'.heap L ∧ CHr Z own_EL U.vm U.heap U'.vm U'.heap ∧ ReturnedEndW U o U' L ({ frames := 4, cells := 6, slots := 12, locals := 66 } : Room).cells ({ frames := 4, cells := 6, slots := 12, locals := 66 } : Room).slots) := by
  have hn' : n = 0 ∨ n = 1 ∨ n = 2 ∨ n = 3 := by omega
  rcases hn' with rfl | rfl | rfl | rfl
  · exact rm1_0 l Z a0 hw ws p2 h0 n0 Z0
  · exact own_toSH (own_EW hw) (rm1_1 l Z a0 hw ws (1 : Int32) p2 z h0 n0 Z0 SC hz (by decide) rfl) fun v h L ⟨r, _, _, K, _⟩ => own_extK K
  · exact own_toSH (own_EW hw) (rm1_2 l Z a0 hw ws (2 : Int32) p2 z h0 n0 Z0 SC hz (by decide) (by decide) rfl) fun v h L ⟨r, _, _, K, _⟩ => own_extK K
  · exact own_toSH (own_EW hw) (rm1_3 l Z a0 hw ws (3 : Int32) p2 z h0 n0 Z0 SC hz (by decide) (by decide) (by decide)) fun v h L ⟨r, _, _, K, _⟩ => own_extK K
theorem own_nz {n : Nat} (h : 0 < n) (hn : n ≤ 15) : ¬ (Int32.ofNat n = (0 : Int32)) := fun e => by
  have q := own_ltN (i := 0) h (by omega)
  rw [e] at q
  exact Int32.lt_irrefl q
theorem own_chunk15 {i j : Nat} (hi : i ≤ 15) (hj : j ≤ 15) : ¬ ((65536 : Int32) < ((Int32.ofNat i &&& (65535 : Int32)) + Int32.ofNat j)) := by
  have H : ∀ a b : Fin 16, ¬ ((65536 : Int32) < ((Int32.ofNat a.val &&& (65535 : Int32)) + Int32.ofNat b.val)) := by decide +kernel
  exact H ⟨i, by omega⟩ ⟨j, by omega⟩
theorem pd_oIIZ : parseMethodDescriptor "(II)Z" = some ⟨[.int, .int], some .boolean⟩ := by decide +kernel
theorem pd_oCII : parseMethodDescriptor "([CII)V" = some ⟨[(.array .char), .int, .int], none⟩ := by decide +kernel
def Q13 (Z : State) (a1 : Addr) (cs : List Int32) (po n : Nat) (h0 : Heap) (n0 : Nat) (v : Option Value) (h : Heap) (L : List Loc) : Prop := ∃ r : Addr, v = some (.ref r) ∧ Fr n0 L ∧ Keep h0 h [] ∧ own_S Z h r ((cs.drop po).take n)
theorem d13_0 : decode prog_84_method_9_code 0 = .ok (.iload_n 2, 1) := by decide +kernel
theorem d13_1 : decode prog_84_method_9_code 1 = .ok (.ifCond .ne 9, 3) := by decide +kernel
theorem d13_4 : decode prog_84_method_9_code 4 = .ok (.ldc 105, 2) := by decide +kernel
theorem d13_6 : decode prog_84_method_9_code 6 = .ok (.astore_n 3, 1) := by decide +kernel
theorem d13_7 : decode prog_84_method_9_code 7 = .ok (.goto 60, 3) := by decide +kernel
theorem d13_67 : decode prog_84_method_9_code 67 = .ok (.aload_n 3, 1) := by decide +kernel
theorem d13_68 : decode prog_84_method_9_code 68 = .ok (.areturn, 1) := by decide +kernel
theorem pn_13 : plainName "com/example/templum/templum/model/TextStore" = true := by first | (simp [plainName, overriddenIn]; done) | decide +kernel
theorem ef_13 (m : MethodId) (x0 : Addr) (x1 : Int32) (x2 : Int32) : entryFrame m #[(.ref x0), (.int x1), (.int x2)] 5 = mkF m 0 #[.val (.ref x0), .val (.int x1), .val (.int x2), .unset, .unset] [] := by first | (simp [entryFrame, mkF, argsToLocals, Value.category]; done) | rfl
set_option maxRecDepth 65536 in
set_option maxHeartbeats 40000000 in
theorem rm13_0 (l : Launch) (Z : State) (a0 : Array Value) (hw : ∀ d ∈ tables_1, d.before a0 Z = true) (ws : List Jvm.Cond) (a1 : Addr) (cs : List Int32) (po : Nat) (h0 : Heap) (n0 : Nat) (Z0 : n0 ≤ h0.size)  :
    MetFree l (⟨"com/example/templum/templum/model/TextStore", "get", "(II)Ljava/lang/String;"⟩ : MethodName) (head1 (Jvm.Cond.code (⟨"com/example/templum/templum/model/TextStore", "get", "(II)Ljava/lang/String;"⟩ : MethodName) prog_84_method_9_code 5 (some (.object "java/lang/String")) :: ws) ({ frames := 4, cells := 2, slots := 19, locals := 68 } : Room)) (fun a U => a = #[(.ref a1), (.int (Int32.ofNat po)), (.int (0 : Int32))] ∧ Z.Warmed39 U.vm ∧ U.heap = h0 ∧ CHv Z own_EL U.vm h0) (fun _ _ _ _ _ => True) (fun _ U o U' => ∃ v L, o = .returned v ∧ Q13 Z a1 cs po 0 h0 n0 v U'.heap L ∧ CHr Z own_EL U.vm U.heap U'.vm U'.heap ∧ ReturnedEndW U o U' L ({ frames := 4, cells := 2, slots := 19, locals := 68 } : Room).cells ({ frames := 4, cells := 2, slots := 19, locals := 68 } : Room).slots) := by
  refine MetFree.of_bodySF (plainFor_of_name pn_13) hisR ?_
  intro p e s m args below meth c s₁ Bd hml0 hP hK
  obtain ⟨rfl, hZ, hh, H0⟩ := hP
  have hx := Bd.exec
  have hby := Bd.bytes
  have hml : c.maxLocals = 5 := hml0
  have hown : s.vm.findClass "com/example/templum/templum/model/TextStore" = some m.cls := findClass_of_methodNamed Bd.named
  have hnm := (name_of_methodNamed Bd.named Bd.method).1
  have X0 : Stand p l e ({ frames := 4, cells := 2, slots := 19, locals := 68 } : Room) (s.setVm s.vm) m #[(.ref a1), (.int (Int32.ofNat po)), (.int (0 : Int32))] below meth c s₁ [] 0 0 := Stand.of_body Bd
  have hS0 : s.Since s.vm s.heap.size := own_since s
  have e0 : s₁.heap = h0 := by rw [← hh, Bd.state]; rfl
  have N0 := Fr.nil n0
  have pre0 : ∀ t, Steps p.tables e below (s₁.setTop (mkF m 0 #[.val (.ref a1), .val (.int (Int32.ofNat po)), .val (.int (0 : Int32)), .unset, .unset] [])) t → Steps p.tables e below (s₁.setTop (entryFrame m #[(.ref a1), (.int (Int32.ofNat po)), (.int (0 : Int32))] 5)) t := fun t k => castTop (ef_13 m a1 (Int32.ofNat po) (0 : Int32)) k
  have hEL := own_EW hw
  have wS : ∀ d ∈ Bundle.stringAtoms, d.before a0 Z = true := fun d hd => hw d (own_satoms d hd)
  have wi := (hw _ (List.mem_of_getElem? (i := 5) rfl))
  have C0 : CHr Z own_EL s.vm h0 s.vm h0 := CHr.refl H0
  have hk0 : s.heap.size ≤ h0.size := by rw [← hh]; exact Nat.le_refl _
  obtain ⟨la2, T2, h2, kk2, lb2, lk2, X2, e2, E2, hS2, hk2, hZ2, hown2, LE2, LC2, LV2, LA2, -, -, CR2, -, LS2, st2⟩ := ldcCH X0 hx hZ hown (hw _ (List.mem_of_getElem? (i := 88) rfl)) wS e0 hS0 hk0 hEL (by decide) C0.1 (vs := []) (z := 0) ⟨by decide, rfl⟩ (by decide) rfl (g := (mkF m 4 #[.val (.ref a1), .val (.int (Int32.ofNat po)), .val (.int (0 : Int32)), .unset, .unset] [])) rfl (hb hby d13_4) (n := 0) (by decide) (by decide) (by decide : 0 + 2 ≤ _) (by decide : 0 + (0 + 4) ≤ _)
  have C2 := C0.trans CR2
  have Xf : Stand p l e ({ frames := 4, cells := 2, slots := 19, locals := 68 } : Room) (s.setVm T2.vm) m #[(.ref a1), (.int (Int32.ofNat po)), (.int (0 : Int32))] below meth c T2 [] 2 19 := X2.more (by decide) (by decide)
  obtain ⟨fs, hr, hrun, hended, hEnd⟩ := Xf.leaveW hS2 (show kk2 ≤ T2.heap.size from by rw [e2]; exact hk2) (v := some (.ref la2)) (fun h => by rw [Bd.returns] at h; cases h)
  refine ⟨_, _, pre0 _ ?_, hrun, hended, _, _, rfl, ?_, ?_, hEnd⟩
  · show Steps p.tables e below (s₁.setTop (mkF m 0 #[.val (.ref a1), .val (.int (Int32.ofNat po)), .val (.int (0 : Int32)), .unset, .unset] [])) _
    refine XS.iloadN X0.here hx rfl (hb hby d13_0) rfl ?_
    show Steps p.tables e below (s₁.setTop (mkF m 1 #[.val (.ref a1), .val (.int (Int32.ofNat po)), .val (.int (0 : Int32)), .unset, .unset] [(.int (0 : Int32))])) _
    refine XS.ifNo X0.here hx rfl (hb hby d13_1) rfl ((if0 _ _).trans (teq (rfl : (0 : Int32) = 0)).2) ?_
    show Steps p.tables e below (s₁.setTop (mkF m 4 #[.val (.ref a1), .val (.int (Int32.ofNat po)), .val (.int (0 : Int32)), .unset, .unset] [])) _
    refine st2 _ ?_
    show Steps p.tables e below (T2.setTop (mkF m 6 #[.val (.ref a1), .val (.int (Int32.ofNat po)), .val (.int (0 : Int32)), .unset, .unset] [(.ref la2)])) _
    refine XS.astoreN X2.here hx rfl (hb hby d13_6) rfl rfl (l' := #[.val (.ref a1), .val (.int (Int32.ofNat po)), .val (.int (0 : Int32)), .val (.ref la2), .unset]) rfl ?_
    show Steps p.tables e below (T2.setTop (mkF m 7 #[.val (.ref a1), .val (.int (Int32.ofNat po)), .val (.int (0 : Int32)), .val (.ref la2), .unset] [])) _
    refine XS.goto X2.here hx rfl (pc0 := 7) (pc' := 67) rfl (hb hby d13_7) (by decide) (by decide) ?_
    show Steps p.tables e below (T2.setTop (mkF m 67 #[.val (.ref a1), .val (.int (Int32.ofNat po)), .val (.int (0 : Int32)), .val (.ref la2), .unset] [])) _
    refine XS.aloadN X2.here hx rfl (hb hby d13_67) rfl rfl ?_
    show Steps p.tables e below (T2.setTop (mkF m 68 #[.val (.ref a1), .val (.int (Int32.ofNat po)), .val (.int (0 : Int32)), .val (.ref la2), .unset] [(.ref la2)])) _
    jvm_step Xf.here [Xf.here.top, hx, (hb hby d13_68), Xf.method', Bd.returns, Value.isRef, FieldType.isReference]
    first | (intro acts; rw [hr _ acts rfl rfl rfl]) | rw [hr _ _ rfl rfl rfl]
    exact Steps.refl _
  · show Q13 Z a1 cs po 0 h0 n0 _ T2.heap _
    rw [e2]
    exact ⟨la2, rfl, N0, (Keep.refl _ _).ext E2, LE2, LC2, lb2, lk2, LV2, LA2⟩
  · show CHr Z own_EL s.vm s.heap T2.vm T2.heap
    rw [hh, e2]
    exact C2
theorem d13_10 : decode prog_84_method_9_code 10 = .ok (.iload_n 1, 1) := by decide +kernel
theorem d13_11 : decode prog_84_method_9_code 11 = .ok (.iload_n 2, 1) := by decide +kernel
theorem d13_12 : decode prog_84_method_9_code 12 = .ok (.invokestatic 107, 3) := by decide +kernel
theorem d13_15 : decode prog_84_method_9_code 15 = .ok (.ifCond .eq 28, 3) := by decide +kernel
theorem d13_18 : decode prog_84_method_9_code 18 = .ok (.new 58, 3) := by decide +kernel
theorem d13_21 : decode prog_84_method_9_code 21 = .ok (.dup, 1) := by decide +kernel
theorem d13_22 : decode prog_84_method_9_code 22 = .ok (.aload_n 0, 1) := by decide +kernel
theorem d13_23 : decode prog_84_method_9_code 23 = .ok (.getfield 11, 3) := by decide +kernel
theorem d13_26 : decode prog_84_method_9_code 26 = .ok (.iload_n 1, 1) := by decide +kernel
theorem d13_27 : decode prog_84_method_9_code 27 = .ok (.bipush 16, 2) := by decide +kernel
theorem d13_29 : decode prog_84_method_9_code 29 = .ok (.iushr, 1) := by decide +kernel
theorem d13_30 : decode prog_84_method_9_code 30 = .ok (.aaload, 1) := by decide +kernel
theorem d13_31 : decode prog_84_method_9_code 31 = .ok (.iload_n 1, 1) := by decide +kernel
theorem d13_32 : decode prog_84_method_9_code 32 = .ok (.ldc 50, 2) := by decide +kernel
theorem d13_34 : decode prog_84_method_9_code 34 = .ok (.iand, 1) := by decide +kernel
theorem d13_35 : decode prog_84_method_9_code 35 = .ok (.iload_n 2, 1) := by decide +kernel
theorem d13_36 : decode prog_84_method_9_code 36 = .ok (.invokespecial 111, 3) := by decide +kernel
theorem d13_39 : decode prog_84_method_9_code 39 = .ok (.astore_n 3, 1) := by decide +kernel
theorem d13_40 : decode prog_84_method_9_code 40 = .ok (.goto 27, 3) := by decide +kernel
set_option maxRecDepth 65536 in
set_option maxHeartbeats 40000000 in
theorem rm13_1 (l : Launch) (Z : State) (a0 : Array Value) (hw : ∀ d ∈ tables_1, d.before a0 Z = true) (ws : List Jvm.Cond) (a1 : Addr) (cs : List Int32) (po n : Nat) (ol : Nat) (q ch : Addr) (kq kc : ClassId) (z : Int32) (fm : Value) (h0 : Heap) (n0 : Nat) (Z0 : n0 ≤ h0.size) (hfm : fm.isRef = true) (SF : Sta Z Z.heap "jdk/internal/util/Preconditions" "SIOOBE_FORMATTER" "Ljava/util/function/BiFunction;" fm) (SC : Sta Z Z.heap "java/lang/String" "COMPACT_STRINGS" "Z" (.int z)) (hz : ¬ z = (0 : Int32)) (OO : Old Z n0 h0) (hS : cs.length ≤ 15) (hpos : 0 < n) (hlen : po + n ≤ cs.length) (hp : ∀ c ∈ cs, ¬ (255 : Int32) < c) (U : own_U Z h0 n0 a1 cs ol q kq ch kc) :
    MetFree l (⟨"com/example/templum/templum/model/TextStore", "get", "(II)Ljava/lang/String;"⟩ : MethodName) (head1 (Jvm.Cond.code (⟨"com/example/templum/templum/model/TextStore", "get", "(II)Ljava/lang/String;"⟩ : MethodName) prog_84_method_9_code 5 (some (.object "java/lang/String")) :: ws) ({ frames := 4, cells := 2, slots := 19, locals := 68 } : Room)) (fun a U => a = #[(.ref a1), (.int (Int32.ofNat po)), (.int (Int32.ofNat n))] ∧ Z.Warmed39 U.vm ∧ U.heap = h0) (fun _ _ _ _ _ => True) (fun _ U o U' => ∃ v L, o = .returned v ∧ Q13 Z a1 cs po n h0 n0 v U'.heap L ∧ FrameEnd U o U' L ({ frames := 4, cells := 2, slots := 19, locals := 68 } : Room).cells ({ frames := 4, cells := 2, slots := 19, locals := 68 } : Room).slots) := by
  refine MetFree.of_bodySF (plainFor_of_name pn_13) hisR ?_
  intro p e s m args below meth c s₁ Bd hml0 hP hK
  obtain ⟨rfl, hZ, hh⟩ := hP
  have hx := Bd.exec
  have hby := Bd.bytes
  have hml : c.maxLocals = 5 := hml0
  have hown : s.vm.findClass "com/example/templum/templum/model/TextStore" = some m.cls := findClass_of_methodNamed Bd.named
  have hnm := (name_of_methodNamed Bd.named Bd.method).1
  have X0 : Stand p l e ({ frames := 4, cells := 2, slots := 19, locals := 68 } : Room) s m #[(.ref a1), (.int (Int32.ofNat po)), (.int (Int32.ofNat n))] below meth c s₁ [] 0 0 := Stand.of_body Bd
  have e0 : s₁.heap = h0 := by rw [← hh, Bd.state]; rfl
  have N0 := Fr.nil n0
  have pre0 : ∀ t, Steps p.tables e below (s₁.setTop (mkF m 0 #[.val (.ref a1), .val (.int (Int32.ofNat po)), .val (.int (Int32.ofNat n)), .unset, .unset] [])) t → Steps p.tables e below (s₁.setTop (entryFrame m #[(.ref a1), (.int (Int32.ofNat po)), (.int (Int32.ofNat n))] 5)) t := fun t k => castTop (ef_13 m a1 (Int32.ofNat po) (Int32.ofNat n)) k
  have wi := (hw _ (List.mem_of_getElem? (i := 5) rfl))
  have hne : ¬ ((Int32.ofNat n) = (0 : Int32)) := own_nz hpos (by omega)
  have hsh := own_shr (n := po) (by omega)
  obtain ⟨_, _, ⟨T1, L1, k1, n1⟩, -, X1, ⟨Lc1, hQ1, l1, y1, z1⟩, st1⟩ := Jvm.LawKit.callS X0 hx (y := (⟨"com/example/templum/templum/model/TextStore", "inOneChunk", "(II)Z"⟩ : MethodName)) hown (mvT hZ (hw _ (List.mem_of_getElem? (i := 154) rfl))) (mvT hZ (hw _ (List.mem_of_getElem? (i := 155) rfl))) (mvT hZ (hw _ (List.mem_of_getElem? (i := 28) rfl))) (mvT hZ (hw _ (List.mem_of_getElem? (i := 156) rfl))) (by decide) (backOf (W := 0) (rm29 l Z a0 hw [] (Int32.ofNat po) (Int32.ofNat n) h0 n0 Z0 (own_chunk15 (by omega) (by omega))) hZ (hw _ (List.mem_of_getElem? (i := 156) rfl)) (hw _ (List.mem_of_getElem? (i := 28) rfl)) (Nat.le_of_ble_eq_true rfl) (Nat.le_of_ble_eq_true rfl)) (g := (mkF m 12 #[.val (.ref a1), .val (.int (Int32.ofNat po)), .val (.int (Int32.ofNat n)), .unset, .unset] [(.int (Int32.ofNat n)), (.int (Int32.ofNat po))])) rfl (by rw [hml]; rfl) (argsL := [(.int (Int32.ofNat po)), (.int (Int32.ofNat n))]) (rest := []) (lenOf pd_oIIZ rfl) rfl (by show 2 * 0 + _ ≤ _; exact Nat.le_of_eq rfl) (hb hby d13_12) (fun _ _ => ⟨rfl, e0, (Nat.le_of_ble_eq_true rfl), (Nat.le_of_ble_eq_true rfl)⟩)
  dsimp only [Pt.U, Pt.locs, Pt.cells, Pt.slots] at X1 l1 y1 z1 st1 hQ1
  subst l1 y1 z1
  obtain ⟨rfl, N1, eh1⟩ := hQ1
  obtain ⟨T3, h3, X3, e3, E3, A3, D3, -, st3⟩ := newO X1 hx hZ hown (hw _ (List.mem_of_getElem? (i := 120) rfl)) (hw _ (List.mem_of_getElem? (i := 5) rfl)) (hw _ (List.mem_of_getElem? (i := 6) rfl)) eh1 (g := (mkF m 18 #[.val (.ref a1), .val (.int (Int32.ofNat po)), .val (.int (Int32.ofNat n)), .unset, .unset] [])) rfl (hb hby d13_18) (by decide) (by decide)
  obtain ⟨b3, g3⟩ : ∃ z, z = h0.size := ⟨_, rfl⟩
  rw [← g3] at A3 D3 st3
  have F_value_b3 : Fld Z h3 b3 "java/lang/String" "value" "[B" .null := D3 (Or.inr (hw _ (List.mem_of_getElem? (i := 20) rfl))) (ty := (.array .byte)) (by decide)
  have F_coder_b3 : Fld Z h3 b3 "java/lang/String" "coder" "B" (.int (0 : Int32)) := D3 (Or.inr (hw _ (List.mem_of_getElem? (i := 21) rfl))) (ty := .byte) (by decide)
  have g_b3 : n0 ≤ b3 := Nat.le_trans Z0 (Nat.le_of_eq g3.symm)
  obtain ⟨F3, Vq3, gc3, Vc3⟩ := U.ext E3
  obtain ⟨clq, Aq, qq, Sq, Nq, Hq, Gq⟩ := id Vq3
  have hin : ¬ ((0 : Int32) < 0 ∨ clq.slots.size ≤ ((0 : Int32)).toNatClampNeg) := inb_of Sq ⟨by decide, by decide⟩
  have hat : clq.slots[((0 : Int32)).toNatClampNeg]? = some (.ref ch) := Hq.at hin rfl
  have O3 : Ext Z.heap h3 := ⟨Nat.le_trans OO.2.1 E3.1, fun a c q => E3.2 a c (OO.2.2 a c q)⟩
  obtain ⟨T4, X4, e4, st4⟩ := getF X3 hx hZ hown (host := "") (Or.inl (hw _ (List.mem_of_getElem? (i := 35) rfl))) Via.refl e3 F3.2.2.2.2.1 (g := (mkF m 23 #[.val (.ref a1), .val (.int (Int32.ofNat po)), .val (.int (Int32.ofNat n)), .unset, .unset] [(.ref a1), (.ref b3), (.ref b3)])) rfl rfl (hb hby d13_23)
  obtain ⟨_, _, ⟨T5, L5, k5, n5⟩, -, X5, ⟨Lc5, hQ5, l5, y5, z5⟩, st5⟩ := X4.specialBack hx (y := (⟨"java/lang/String", "<init>", "([CII)V"⟩ : MethodName)) rfl hown (mvT hZ (hw _ (List.mem_of_getElem? (i := 157) rfl))) (mvT hZ (hw _ (List.mem_of_getElem? (i := 158) rfl))) (mvT hZ (hw _ (List.mem_of_getElem? (i := 159) rfl))) (by decide) (backOf (W := 1) (rm30 l Z a0 hw [] b3 ch kc cs po n .null (.int (0 : Int32)) z fm h3 n0 (Nat.le_trans Z0 E3.1) hfm (Sta.ext O3 SF) (Sta.ext O3 SC) hz hS hpos hlen hp Vc3 A3 F_value_b3 F_coder_b3 g_b3) hZ (hw _ (List.mem_of_getElem? (i := 159) rfl)) (hw _ (List.mem_of_getElem? (i := 6) rfl)) (Nat.le_of_ble_eq_true rfl) (Nat.le_of_ble_eq_true rfl)) (g := (mkF m 36 #[.val (.ref a1), .val (.int (Int32.ofNat po)), .val (.int (Int32.ofNat n)), .unset, .unset] [(.int (Int32.ofNat n)), (.int (Int32.ofNat po)), (.ref ch), (.ref b3), (.ref b3)])) rfl (by rw [hml]; rfl) (Steps.refl _) (a := b3) (argsL := [(.ref ch), (.int (Int32.ofNat po)), (.int (Int32.ofNat n))]) (rest := [(.ref b3)]) (lenOf pd_oCII rfl) rfl (by show 2 * 0 + _ ≤ _; exact Nat.le_of_eq rfl) (hb hby d13_36) (fun _ _ => ⟨rfl, e4, (Nat.le_of_ble_eq_true rfl), (Nat.le_of_ble_eq_true rfl)⟩)
  dsimp only [Pt.U, Pt.locs, Pt.cells, Pt.slots] at X5 l5 y5 z5 st5 hQ5
  subst l5 y5 z5
  obtain ⟨rfl, N5, K5, S5⟩ := hQ5
  obtain ⟨fs, hr, hrun, hended, hW, hsame⟩ := X5.leave (v := some (.ref b3)) (fun h => by rw [Bd.returns] at h; cases h)
  refine ⟨_, _, pre0 _ ?_, hrun, hended, _, _, rfl, ?_, ⟨_, rfl⟩, hW, hsame.mono (by decide) (by decide)⟩
  · show Steps p.tables e below (s₁.setTop (mkF m 0 #[.val (.ref a1), .val (.int (Int32.ofNat po)), .val (.int (Int32.ofNat n)), .unset, .unset] [])) _
    refine XS.iloadN X0.here hx rfl (hb hby d13_0) rfl ?_
    show Steps p.tables e below (s₁.setTop (mkF m 1 #[.val (.ref a1), .val (.int (Int32.ofNat po)), .val (.int (Int32.ofNat n)), .unset, .unset] [(.int (Int32.ofNat n))])) _
    refine XS.ifYes X0.here hx rfl (pc0 := 1) (pc' := 10) rfl (hb hby d13_1) rfl ((if0 _ _).trans (feq hne).2) (by decide) (by decide) ?_
    show Steps p.tables e below (s₁.setTop (mkF m 10 #[.val (.ref a1), .val (.int (Int32.ofNat po)), .val (.int (Int32.ofNat n)), .unset, .unset] [])) _
    refine XS.iloadN X0.here hx rfl (hb hby d13_10) rfl ?_
    show Steps p.tables e below (s₁.setTop (mkF m 11 #[.val (.ref a1), .val (.int (Int32.ofNat po)), .val (.int (Int32.ofNat n)), .unset, .unset] [(.int (Int32.ofNat po))])) _
    refine XS.iloadN X0.here hx rfl (hb hby d13_11) rfl ?_
    show Steps p.tables e below (s₁.setTop (mkF m 12 #[.val (.ref a1), .val (.int (Int32.ofNat po)), .val (.int (Int32.ofNat n)), .unset, .unset] [(.int (Int32.ofNat n)), (.int (Int32.ofNat po))])) _
    refine st1 _ ?_
    show Steps p.tables e below (T1.setTop (mkF m 15 #[.val (.ref a1), .val (.int (Int32.ofNat po)), .val (.int (Int32.ofNat n)), .unset, .unset] [(.int (1 : Int32))])) _
    refine XS.ifNo X1.here hx rfl (hb hby d13_15) rfl ((if0 _ _).trans (feq (by decide : ¬ ((1 : Int32) = 0))).1) ?_
    show Steps p.tables e below (T1.setTop (mkF m 18 #[.val (.ref a1), .val (.int (Int32.ofNat po)), .val (.int (Int32.ofNat n)), .unset, .unset] [])) _
    refine st3 _ ?_
    show Steps p.tables e below (T3.setTop (mkF m 21 #[.val (.ref a1), .val (.int (Int32.ofNat po)), .val (.int (Int32.ofNat n)), .unset, .unset] [(.ref b3)])) _
    refine XS.dup X3.here hx rfl (hb hby d13_21) rfl rfl ?_
    show Steps p.tables e below (T3.setTop (mkF m 22 #[.val (.ref a1), .val (.int (Int32.ofNat po)), .val (.int (Int32.ofNat n)), .unset, .unset] [(.ref b3), (.ref b3)])) _
    refine XS.aloadN X3.here hx rfl (hb hby d13_22) rfl rfl ?_
    show Steps p.tables e below (T3.setTop (mkF m 23 #[.val (.ref a1), .val (.int (Int32.ofNat po)), .val (.int (Int32.ofNat n)), .unset, .unset] [(.ref a1), (.ref b3), (.ref b3)])) _
    refine st4 _ ?_
    show Steps p.tables e below (T4.setTop (mkF m 26 #[.val (.ref a1), .val (.int (Int32.ofNat po)), .val (.int (Int32.ofNat n)), .unset, .unset] [(.ref q), (.ref b3), (.ref b3)])) _
    refine XS.iloadN X4.here hx rfl (hb hby d13_26) rfl ?_
    show Steps p.tables e below (T4.setTop (mkF m 27 #[.val (.ref a1), .val (.int (Int32.ofNat po)), .val (.int (Int32.ofNat n)), .unset, .unset] [(.int (Int32.ofNat po)), (.ref q), (.ref b3), (.ref b3)])) _
    refine XS.bipush X4.here hx rfl (hb hby d13_27) ?_
    show Steps p.tables e below (T4.setTop (mkF m 29 #[.val (.ref a1), .val (.int (Int32.ofNat po)), .val (.int (Int32.ofNat n)), .unset, .unset] [(.int (16 : Int32)), (.int (Int32.ofNat po)), (.ref q), (.ref b3), (.ref b3)])) _
    refine XS.iushr X4.here hx rfl (hb hby d13_29) rfl ?_
    show Steps p.tables e below (T4.setTop (mkF m 30 #[.val (.ref a1), .val (.int (Int32.ofNat po)), .val (.int (Int32.ofNat n)), .unset, .unset] [(.int (((Int32.ofNat po).toUInt32 >>> ((16 : Int32) &&& 31).toUInt32).toInt32)), (.ref q), (.ref b3), (.ref b3)])) _
    rw [hsh]
    show Steps p.tables e below (T4.setTop (mkF m 30 #[.val (.ref a1), .val (.int (Int32.ofNat po)), .val (.int (Int32.ofNat n)), .unset, .unset] [(.int (0 : Int32)), (.ref q), (.ref b3), (.ref b3)])) _
    refine X4.aaload hx (j := (0 : Int32)) (v := (.ref ch)) (by rw [e4]; exact Aq.1) (State.isArrayOf_alike hZ.alike Aq.2.1) rfl Aq.2.2 hin hat (g := (mkF m 30 #[.val (.ref a1), .val (.int (Int32.ofNat po)), .val (.int (Int32.ofNat n)), .unset, .unset] [(.int (0 : Int32)), (.ref q), (.ref b3), (.ref b3)])) rfl rfl (hb hby d13_30) _ ?_
    show Steps p.tables e below (T4.setTop (mkF m 31 #[.val (.ref a1), .val (.int (Int32.ofNat po)), .val (.int (Int32.ofNat n)), .unset, .unset] [(.ref ch), (.ref b3), (.ref b3)])) _
    refine XS.iloadN X4.here hx rfl (hb hby d13_31) rfl ?_
    show Steps p.tables e below (T4.setTop (mkF m 32 #[.val (.ref a1), .val (.int (Int32.ofNat po)), .val (.int (Int32.ofNat n)), .unset, .unset] [(.int (Int32.ofNat po)), (.ref ch), (.ref b3), (.ref b3)])) _
    refine X4.ldcInt hx hown (mvT hZ (hw _ (List.mem_of_getElem? (i := 115) rfl))) (g := (mkF m 32 #[.val (.ref a1), .val (.int (Int32.ofNat po)), .val (.int (Int32.ofNat n)), .unset, .unset] [(.int (Int32.ofNat po)), (.ref ch), (.ref b3), (.ref b3)])) rfl (hb hby d13_32) _ ?_
    show Steps p.tables e below (T4.setTop (mkF m 34 #[.val (.ref a1), .val (.int (Int32.ofNat po)), .val (.int (Int32.ofNat n)), .unset, .unset] [(.int (65535 : Int32)), (.int (Int32.ofNat po)), (.ref ch), (.ref b3), (.ref b3)])) _
    refine XS.iand X4.here hx rfl (hb hby d13_34) rfl ?_
    show Steps p.tables e below (T4.setTop (mkF m 35 #[.val (.ref a1), .val (.int (Int32.ofNat po)), .val (.int (Int32.ofNat n)), .unset, .unset] [(.int ((Int32.ofNat po) &&& (65535 : Int32))), (.ref ch), (.ref b3), (.ref b3)])) _
    rw [own_low (by omega : po ≤ 100)]
    show Steps p.tables e below (T4.setTop (mkF m 35 #[.val (.ref a1), .val (.int (Int32.ofNat po)), .val (.int (Int32.ofNat n)), .unset, .unset] [(.int (Int32.ofNat po)), (.ref ch), (.ref b3), (.ref b3)])) _
    refine XS.iloadN X4.here hx rfl (hb hby d13_35) rfl ?_
    show Steps p.tables e below (T4.setTop (mkF m 36 #[.val (.ref a1), .val (.int (Int32.ofNat po)), .val (.int (Int32.ofNat n)), .unset, .unset] [(.int (Int32.ofNat n)), (.int (Int32.ofNat po)), (.ref ch), (.ref b3), (.ref b3)])) _
    refine st5.trans ?_
    show Steps p.tables e below (T5.setTop (mkF m 39 #[.val (.ref a1), .val (.int (Int32.ofNat po)), .val (.int (Int32.ofNat n)), .unset, .unset] [(.ref b3)])) _
    refine XS.astoreN X5.here hx rfl (hb hby d13_39) rfl rfl (l' := #[.val (.ref a1), .val (.int (Int32.ofNat po)), .val (.int (Int32.ofNat n)), .val (.ref b3), .unset]) rfl ?_
    show Steps p.tables e below (T5.setTop (mkF m 40 #[.val (.ref a1), .val (.int (Int32.ofNat po)), .val (.int (Int32.ofNat n)), .val (.ref b3), .unset] [])) _
    refine XS.goto X5.here hx rfl (pc0 := 40) (pc' := 67) rfl (hb hby d13_40) (by decide) (by decide) ?_
    show Steps p.tables e below (T5.setTop (mkF m 67 #[.val (.ref a1), .val (.int (Int32.ofNat po)), .val (.int (Int32.ofNat n)), .val (.ref b3), .unset] [])) _
    refine XS.aloadN X5.here hx rfl (hb hby d13_67) rfl rfl ?_
    show Steps p.tables e below (T5.setTop (mkF m 68 #[.val (.ref a1), .val (.int (Int32.ofNat po)), .val (.int (Int32.ofNat n)), .val (.ref b3), .unset] [(.ref b3)])) _
    jvm_step X5.here [X5.here.top, hx, (hb hby d13_68), X5.method', Bd.returns, Value.isRef, FieldType.isReference]
    first | (intro acts; rw [hr _ acts rfl rfl rfl]) | rw [hr _ _ rfl rfl rfl]
    exact Steps.refl _
  · exact ⟨b3, rfl, Fr.app (Fr.app N0 N1) N5, ((Keep.refl h0 []).ext E3).trans K5 (allS (Or.inr (Nat.le_of_eq g3.symm)) all0), S5⟩
set_option maxRecDepth 65536 in
theorem rm13 (l : Launch) (Z : State) (a0 : Array Value) (hw : ∀ d ∈ tables_1, d.before a0 Z = true) (ws : List Jvm.Cond) (a1 : Addr) (cs : List Int32) (po n : Nat) (ol : Nat) (z : Int32) (fm : Value) (h0 : Heap) (n0 : Nat) (Z0 : n0 ≤ h0.size) (hfm : fm.isRef = true) (SF : Sta Z Z.heap "jdk/internal/util/Preconditions" "SIOOBE_FORMATTER" "Ljava/util/function/BiFunction;" fm) (SC : Sta Z Z.heap "java/lang/String" "COMPACT_STRINGS" "Z" (.int z)) (hz : ¬ z = (0 : Int32)) (OO : Old Z n0 h0) (hS : cs.length ≤ 15) (hlen : n = 0 ∨ po + n ≤ cs.length) (hp : ∀ c ∈ cs, ¬ (255 : Int32) < c) (T : own_T Z h0 n0 a1 cs ol) :
    MetFree l (⟨"com/example/templum/templum/model/TextStore", "get", "(II)Ljava/lang/String;"⟩ : MethodName) (head1 (Jvm.Cond.code (⟨"com/example/templum/templum/model/TextStore", "get", "(II)Ljava/lang/String;"⟩ : MethodName) prog_84_method_9_code 5 (some (.object "java/lang/String")) :: ws) ({ frames := 4, cells := 2, slots := 19, locals := 68 } : Room)) (fun a U => a = #[(.ref a1), (.int (Int32.ofNat po)), (.int (Int32.ofNat n))] ∧ Z.Warmed39 U.vm ∧ U.heap = h0 ∧ CHv Z own_EL U.vm h0) (fun _ _ _ _ _ => True) (fun _ U o U' => ∃ v L, o = .returned v ∧ Q13 Z a1 cs po n h0 n0 v U'.heap L ∧ CHr Z own_EL U.vm U.heap U'.vm U'.heap ∧ ReturnedEndW U o U' L ({ frames := 4, cells := 2, slots := 19, locals := 68 } : Room).cells ({ frames := 4, cells := 2, slots := 19, locals := 68 } : Room).slots) := by
  rcases Nat.eq_zero_or_pos n with rfl | hpos
  · exact rm13_0 l Z a0 hw ws a1 cs po h0 n0 Z0
  · have hlen' : po + n ≤ cs.length := by omega
    rcases T with ⟨rfl, q, kq, V⟩ | ⟨q, kq, ch, kc, U⟩
    · exact absurd hlen' (by simp; omega)
    · exact own_toSH (own_EW hw) (rm13_1 l Z a0 hw ws a1 cs po n ol q ch kq kc z fm h0 n0 Z0 hfm SF SC hz OO hS hpos hlen' hp U) fun v h L ⟨r, _, _, K, _⟩ => own_extK K
theorem own_hk {h h' : Heap} {k : Nat} (e : h' = h) (q : k ≤ h.size) : k ≤ h'.size := by rw [e]; exact q
theorem own_eqW : ∀ d ∈ StrChars.Road.wordsEq, d ∈ tables_1 := by decide +kernel
theorem own_and3 (x : Int32) : ∃ n : Nat, n ≤ 3 ∧ x &&& (3 : Int32) = Int32.ofNat n := by
  refine ⟨(x &&& (3 : Int32)).toBitVec.toNat, ?_, ?_⟩
  · rw [Int32.toBitVec_and, BitVec.toNat_and]
    exact Nat.and_le_right
  · apply Int32.toBitVec_inj.mp
    rw [Int32.toBitVec_ofNat', BitVec.ofNat_toNat, BitVec.setWidth_eq]
theorem own_ks (c1 c2 c3 : List Int32) : ∃ k1 k2 k3 : Nat, (c1 = [] ∨ ([] : List Int32) ≠ [] ∨ 65536 ≤ k1) ∧ (c2 = [] ∨ c1 ≠ [] ∨ 65536 ≤ k2) ∧ (c3 = [] ∨ c1 ++ c2 ≠ [] ∨ 65536 ≤ k3) ∧ k1 + k2 + k3 ≤ 65536 := by
  by_cases h1 : c1 = []
  · by_cases h2 : c2 = []
    · exact ⟨0, 0, 65536, Or.inl h1, Or.inl h2, Or.inr (Or.inr (Nat.le_refl _)), by omega⟩
    · exact ⟨0, 65536, 0, Or.inl h1, Or.inr (Or.inr (Nat.le_refl _)), Or.inr (Or.inl (by simp [h2])), by omega⟩
  · exact ⟨65536, 0, 0, Or.inr (Or.inr (Nat.le_refl _)), Or.inr (Or.inl h1), Or.inr (Or.inl (by simp [h1])), by omega⟩
theorem own_start0 (cs : List Int32) : own_start cs 0 = (0 : Int32) := if_pos rfl
theorem own_subN {i j k : Nat} (h : i = k + j) : Int32.ofNat i - Int32.ofNat j = Int32.ofNat k := by
  subst h
  rw [← own_add, Int32.add_sub_cancel]
theorem own_start1 (c1 : List Int32) (h : c1.length ≤ 3) : own_start c1 (0 + c1.length) = (0 : Int32) := by
  unfold own_start
  by_cases q : Int32.ofNat (0 + c1.length) = 0
  · rw [if_pos q]
  · rw [if_neg q, own_subN (i := c1.length) (j := 0 + c1.length) (k := 0) (by omega)]; rfl
theorem own_start3 {u1 u2 u3 : Nat} (c1 c2 c3 : List Int32) (h1 : c1.length = u1) (h2 : c2.length = u2) (h3 : c3.length = u3) (g2 : u2 ≤ 3) (g3 : u3 ≤ 3) : own_start (c1 ++ c2 ++ c3) (0 + c2.length + c3.length) = Int32.ofNat (if u2 + u3 = 0 then 0 else u1) := by
  unfold own_start
  by_cases q : u2 + u3 = 0
  · have e : 0 + c2.length + c3.length = 0 := by omega
    rw [e, if_pos (show Int32.ofNat 0 = (0 : Int32) from rfl), if_pos q]; rfl
  · have hne : ¬ Int32.ofNat (0 + c2.length + c3.length) = 0 := own_nz (by omega) (by omega)
    rw [if_neg hne, if_neg q, own_subN (k := u1) (by simp; omega)]
theorem own_get2 {u1 u2 u3 : Nat} (c1 c2 c3 : List Int32) (h1 : c1.length = u1) (h2 : c2.length = u2) (h3 : c3.length = u3) : ((c1 ++ c2 ++ c3).drop (if u2 + u3 = 0 then 0 else u1)).take u2 = c2 := by
  by_cases q : u2 + u3 = 0
  · have e : u2 = 0 := by omega
    have e2 : c2 = [] := List.eq_nil_of_length_eq_zero (by omega)
    rw [e, e2]; simp
  · rw [if_neg q, List.append_assoc, ← h1, List.drop_left, ← h2, List.take_left]
theorem own_get3 {u1 u2 u3 : Nat} (c1 c2 c3 : List Int32) (h1 : c1.length = u1) (h2 : c2.length = u2) (h3 : c3.length = u3) : ((c1 ++ c2 ++ c3).drop ((if u2 + u3 = 0 then 0 else u1) + u2)).take u3 = c3 := by
  by_cases q : u2 + u3 = 0
  · have e : u3 = 0 := by omega
    have e2 : c3 = [] := List.eq_nil_of_length_eq_zero (by omega)
    rw [e, e2]; simp
  · rw [if_neg q, show u1 + u2 = (c1 ++ c2).length from by simp; omega, List.drop_left, ← h3, List.take_length]
theorem own_codA {ds : List Int32} (hp : ∀ c ∈ ds, ¬ c < 0 ∧ ¬ (255 : Int32) < c) : StrChars.Road.CodA ds 0 (Int32.ofNat ds.length) (ds.map fun c => Value.int (StrChars.lo8 c)) := Or.inl ⟨rfl, rfl, rfl, fun c hc => (hp c hc).2⟩
theorem pd_ostr : parseMethodDescriptor "(II)Ljava/lang/String;" = some ⟨[.int, .int], some (.object "java/lang/String")⟩ := by decide +kernel
theorem pd_oV : parseMethodDescriptor "()V" = some ⟨[], none⟩ := by decide +kernel
theorem pd_oadd : parseMethodDescriptor "(Ljava/lang/String;)I" = some ⟨[(.object "java/lang/String")], some .int⟩ := by decide +kernel
theorem pd_oget : parseMethodDescriptor "(II)Ljava/lang/String;" = some ⟨[.int, .int], some (.object "java/lang/String")⟩ := by decide +kernel
theorem pd_oeq : parseMethodDescriptor "(Ljava/lang/Object;)Z" = some ⟨[(.object "java/lang/Object")], some .boolean⟩ := by decide +kernel
def Q0 (Z : State) (p1 p2 p3 p4 : Int32) (z : Int32) (fm : Value) (h0 : Heap) (n0 : Nat) (v : Option Value) (h : Heap) (L : List Loc) : Prop := v = some (.int (1 : Int32)) ∧ Fr n0 L
theorem pn_0 : plainName "com/example/templum/templum/model/TextStoreClosePinLaw" = true := by first | (simp [plainName, overriddenIn]; done) | decide +kernel
theorem ef_0 (m : MethodId) (x0 : Int32) (x1 : Int32) (x2 : Int32) (x3 : Int32) : entryFrame m #[(.int x0), (.int x1), (.int x2), (.int x3)] maxLocals = mkF m 0 #[.val (.int x0), .val (.int x1), .val (.int x2), .val (.int x3), .unset, .unset, .unset, .unset, .unset, .unset, .unset, .unset, .unset, .unset, .unset] [] := by first | (simp [entryFrame, mkF, argsToLocals, Value.category, maxLocals]; done) | rfl
set_option maxRecDepth 65536 in
set_option maxHeartbeats 40000000 in
theorem rm0 (l : Launch) (Z : State) (a0 : Array Value) (hw : ∀ d ∈ tables_1, d.before a0 Z = true) (ws : List Jvm.Cond) (p1 p2 p3 p4 : Int32) (z : Int32) (fm : Value) (h0 : Heap) (n0 : Nat) (Z0 : n0 ≤ h0.size) (hfm : fm.isRef = true) (SF : Sta Z Z.heap "jdk/internal/util/Preconditions" "SIOOBE_FORMATTER" "Ljava/util/function/BiFunction;" fm) (SC : Sta Z Z.heap "java/lang/String" "COMPACT_STRINGS" "Z" (.int z)) (hz : ¬ z = (0 : Int32)) (OO : Old Z n0 h0) :
    MetFree l x (head1 (Jvm.Cond.code x code maxLocals ret :: ws) room_1) (fun a U => a = #[(.int p1), (.int p2), (.int p3), (.int p4)] ∧ Z.Warmed39 U.vm ∧ U.heap = h0 ∧ CHv Z own_EL U.vm h0) (fun _ _ _ _ _ => True) (fun _ U o U' => ∃ v L, o = .returned v ∧ Q0 Z p1 p2 p3 p4 z fm h0 n0 v U'.heap L ∧ CHr Z own_EL U.vm U.heap U'.vm U'.heap ∧ ReturnedEndW U o U' L room_1.cells room_1.slots) := by
  refine MetFree.of_bodySF (plainFor_of_name pn_0) hisR ?_
  intro p e s m args below meth c s₁ Bd hml0 hP hK
  obtain ⟨rfl, hZ, hh, H0⟩ := hP
  have hx := Bd.exec
  have hby := Bd.bytes
  have hml : c.maxLocals = 15 := hml0
  have hown : s.vm.findClass "com/example/templum/templum/model/TextStoreClosePinLaw" = some m.cls := findClass_of_methodNamed Bd.named
  have hnm := (name_of_methodNamed Bd.named Bd.method).1
  have X0 : Stand p l e room_1 (s.setVm s.vm) m #[(.int p1), (.int p2), (.int p3), (.int p4)] below meth c s₁ [] 0 0 := Stand.of_body Bd
  have hS0 : s.Since s.vm s.heap.size := own_since s
  have e0 : s₁.heap = h0 := by rw [← hh, Bd.state]; rfl
  have N0 := Fr.nil n0
  have pre0 : ∀ t, Steps p.tables e below (s₁.setTop (mkF m 0 #[.val (.int p1), .val (.int p2), .val (.int p3), .val (.int p4), .unset, .unset, .unset, .unset, .unset, .unset, .unset, .unset, .unset, .unset, .unset] [])) t → Steps p.tables e below (s₁.setTop (entryFrame m #[(.int p1), (.int p2), (.int p3), (.int p4)] maxLocals)) t := fun t k => castTop (ef_0 m p1 p2 p3 p4) k
  have hEL := own_EW hw
  have wS : ∀ d ∈ Bundle.stringAtoms, d.before a0 Z = true := fun d hd => hw d (own_satoms d hd)
  have wi := (hw _ (List.mem_of_getElem? (i := 5) rfl))
  have C0 : CHr Z own_EL s.vm h0 s.vm h0 := CHr.refl H0
  have hk0 : s.heap.size ≤ h0.size := by rw [← hh]; exact Nat.le_refl _
  have wt := (hw _ (List.mem_of_getElem? (i := 27) rfl))
  obtain ⟨u1, hu1, q1⟩ := own_and3 p1
  obtain ⟨u2, hu2, q2⟩ := own_and3 ((p1.toUInt32 >>> ((2 : Int32) &&& 31).toUInt32).toInt32)
  obtain ⟨u3, hu3, q3⟩ := own_and3 ((p1.toUInt32 >>> ((4 : Int32) &&& 31).toUInt32).toInt32)
  obtain ⟨c1, hc1⟩ : ∃ z, z = own_cs u1 p2 := ⟨_, rfl⟩
  have hl1 : c1.length = u1 := by rw [hc1]; exact own_cs_len hu1 p2
  have ok1 : ∀ c ∈ c1, ¬ c < 0 ∧ ¬ (255 : Int32) < c := by rw [hc1]; exact own_cs_ok u1 p2
  have wd1 : ∀ c ∈ c1, ¬ c < 0 ∧ ¬ (65535 : Int32) < c := fun c hc => ⟨(ok1 c hc).1, own_wide (ok1 c hc).2⟩
  obtain ⟨c2, hc2⟩ : ∃ z, z = own_cs u2 p3 := ⟨_, rfl⟩
  have hl2 : c2.length = u2 := by rw [hc2]; exact own_cs_len hu2 p3
  have ok2 : ∀ c ∈ c2, ¬ c < 0 ∧ ¬ (255 : Int32) < c := by rw [hc2]; exact own_cs_ok u2 p3
  have wd2 : ∀ c ∈ c2, ¬ c < 0 ∧ ¬ (65535 : Int32) < c := fun c hc => ⟨(ok2 c hc).1, own_wide (ok2 c hc).2⟩
  obtain ⟨c3, hc3⟩ : ∃ z, z = own_cs u3 p4 := ⟨_, rfl⟩
  have hl3 : c3.length = u3 := by rw [hc3]; exact own_cs_len hu3 p4
  have ok3 : ∀ c ∈ c3, ¬ c < 0 ∧ ¬ (255 : Int32) < c := by rw [hc3]; exact own_cs_ok u3 p4
  have wd3 : ∀ c ∈ c3, ¬ c < 0 ∧ ¬ (65535 : Int32) < c := fun c hc => ⟨(ok3 c hc).1, own_wide (ok3 c hc).2⟩
  obtain ⟨k1, k2, k3, hk1, hk2, hk3, hks⟩ := own_ks c1 c2 c3
  obtain ⟨rr, hrr⟩ : ∃ z, z = (if u2 + u3 = 0 then 0 else u1) := ⟨_, rfl⟩
  obtain ⟨vI, hvI⟩ : ∃ z : Int32, z = Int32.ofNat rr := ⟨_, rfl⟩
  have hrr3 : rr ≤ 3 := by rw [hrr]; split <;> omega
  have hall : ∀ c ∈ c1 ++ c2 ++ c3, ¬ (255 : Int32) < c := fun c hc => by
    rcases List.mem_append.mp hc with q | q
    · rcases List.mem_append.mp q with q | q
      · exact (ok1 c q).2
      · exact (ok2 c q).2
    · exact (ok3 c q).2
  have hlen : (c1 ++ c2 ++ c3).length = u1 + u2 + u3 := by rw [List.length_append, List.length_append, hl1, hl2, hl3]
  obtain ⟨_, _, ⟨Tsa, Lsa, ksa, nsa⟩, -, Xsa, hssa, hgsa, ⟨Lcsa, hQsa, lsa, ysa, zsa, CRsa⟩, stsa⟩ := Jvm.RoadKit.callSS X0 hx (y := (⟨"com/example/templum/templum/model/TextStoreClosePinLaw", "str", "(II)Ljava/lang/String;"⟩ : MethodName)) hown (mvT hZ (hw _ (List.mem_of_getElem? (i := 0) rfl))) (mvT hZ (hw _ (List.mem_of_getElem? (i := 1) rfl))) (mvT hZ (hw _ (List.mem_of_getElem? (i := 2) rfl))) (mvT hZ (hw _ (List.mem_of_getElem? (i := 3) rfl))) (by decide) (backOfSH (W := 0) (rm1 l Z a0 hw [] u1 hu1 p2 z h0 n0 Z0 (Sta.ext OO.2 SC) hz) hZ (hw _ (List.mem_of_getElem? (i := 3) rfl)) (hw _ (List.mem_of_getElem? (i := 2) rfl)) (Nat.le_of_ble_eq_true rfl) (Nat.le_of_ble_eq_true rfl) hEL C0.1) (g := (mkF m 22 #[.val (.int p1), .val (.int p2), .val (.int p3), .val (.int p4), .val (.int (Int32.ofNat u1)), .val (.int (Int32.ofNat u2)), .val (.int (Int32.ofNat u3)), .unset, .unset, .unset, .unset, .unset, .unset, .unset, .unset] [(.int p2), (.int (Int32.ofNat u1))])) rfl (by rw [hml]; rfl) (argsL := [(.int (Int32.ofNat u1)), (.int p2)]) (rest := []) (lenOf pd_ostr rfl) rfl (by show 2 * 0 + _ ≤ _; exact Nat.le_of_eq rfl) (hb hby at_22) (fun _ _ => ⟨rfl, e0, (Nat.le_of_ble_eq_true rfl), (Nat.le_of_ble_eq_true rfl)⟩)
  dsimp only [Pt.U, Pt.locs, Pt.cells, Pt.slots] at Xsa lsa ysa zsa stsa hQsa hssa hgsa CRsa
  subst lsa ysa zsa
  obtain ⟨x1, rfl, Nsa, Ksa, Ssa⟩ := hQsa
  obtain ⟨Xsa, hSsa, hZsa, hownsa⟩ := rebS hS0 (own_hk e0 hk0) Xsa hssa hgsa hZ hown
  have Csa := C0.trans CRsa
  have KKsa : own_K Z n0 h0 Tsa.heap := own_K.ofExt (own_extK Ksa)
  have OOsa := KKsa.old OO
  have Zsa : n0 ≤ Tsa.heap.size := Nat.le_trans Z0 KKsa.size
  rw [← hc1] at Ssa
  have A1 := Ssa
  obtain ⟨_, _, ⟨Tsb, Lsb, ksb, nsb⟩, -, Xsb, hssb, hgsb, ⟨Lcsb, hQsb, lsb, ysb, zsb, CRsb⟩, stsb⟩ := Jvm.RoadKit.callSS Xsa hx (y := (⟨"com/example/templum/templum/model/TextStoreClosePinLaw", "str", "(II)Ljava/lang/String;"⟩ : MethodName)) hownsa (mvT hZsa (hw _ (List.mem_of_getElem? (i := 0) rfl))) (mvT hZsa (hw _ (List.mem_of_getElem? (i := 1) rfl))) (mvT hZsa (hw _ (List.mem_of_getElem? (i := 2) rfl))) (mvT hZsa (hw _ (List.mem_of_getElem? (i := 3) rfl))) (by decide) (backOfSH (W := 0) (rm1 l Z a0 hw [] u2 hu2 p3 z Tsa.heap n0 Zsa (Sta.ext OOsa.2 SC) hz) hZsa (hw _ (List.mem_of_getElem? (i := 3) rfl)) (hw _ (List.mem_of_getElem? (i := 2) rfl)) (Nat.le_of_ble_eq_true rfl) (Nat.le_of_ble_eq_true rfl) hEL Csa.1) (g := (mkF m 30 #[.val (.int p1), .val (.int p2), .val (.int p3), .val (.int p4), .val (.int (Int32.ofNat u1)), .val (.int (Int32.ofNat u2)), .val (.int (Int32.ofNat u3)), .val (.ref x1), .unset, .unset, .unset, .unset, .unset, .unset, .unset] [(.int p3), (.int (Int32.ofNat u2))])) rfl (by rw [hml]; rfl) (argsL := [(.int (Int32.ofNat u2)), (.int p3)]) (rest := []) (lenOf pd_ostr rfl) rfl (by show 2 * 0 + _ ≤ _; exact Nat.le_of_eq rfl) (hb hby at_30) (fun _ _ => ⟨rfl, (Eq.refl Tsa.heap), (Nat.le_of_ble_eq_true rfl), (Nat.le_of_ble_eq_true rfl)⟩)
  dsimp only [Pt.U, Pt.locs, Pt.cells, Pt.slots] at Xsb lsb ysb zsb stsb hQsb hssb hgsb CRsb
  subst lsb ysb zsb
  obtain ⟨x2, rfl, Nsb, Ksb, Ssb⟩ := hQsb
  obtain ⟨Xsb, hSsb, hZsb, hownsb⟩ := rebS hSsa (own_hk (Eq.refl Tsa.heap) (Nat.le_refl _)) Xsb hssb hgsb hZsa hownsa
  have Csb := Csa.trans CRsb
  have KKsb : own_K Z n0 Tsa.heap Tsb.heap := own_K.ofExt (own_extK Ksb)
  have OOsb := KKsb.old OOsa
  have Zsb : n0 ≤ Tsb.heap.size := Nat.le_trans Zsa KKsb.size
  rw [← hc2] at Ssb
  have A1 := A1.keep0 Ksb
  have A2 := Ssb
  obtain ⟨_, _, ⟨Tsc, Lsc, ksc, nsc⟩, -, Xsc, hssc, hgsc, ⟨Lcsc, hQsc, lsc, ysc, zsc, CRsc⟩, stsc⟩ := Jvm.RoadKit.callSS Xsb hx (y := (⟨"com/example/templum/templum/model/TextStoreClosePinLaw", "str", "(II)Ljava/lang/String;"⟩ : MethodName)) hownsb (mvT hZsb (hw _ (List.mem_of_getElem? (i := 0) rfl))) (mvT hZsb (hw _ (List.mem_of_getElem? (i := 1) rfl))) (mvT hZsb (hw _ (List.mem_of_getElem? (i := 2) rfl))) (mvT hZsb (hw _ (List.mem_of_getElem? (i := 3) rfl))) (by decide) (backOfSH (W := 0) (rm1 l Z a0 hw [] u3 hu3 p4 z Tsb.heap n0 Zsb (Sta.ext OOsb.2 SC) hz) hZsb (hw _ (List.mem_of_getElem? (i := 3) rfl)) (hw _ (List.mem_of_getElem? (i := 2) rfl)) (Nat.le_of_ble_eq_true rfl) (Nat.le_of_ble_eq_true rfl) hEL Csb.1) (g := (mkF m 38 #[.val (.int p1), .val (.int p2), .val (.int p3), .val (.int p4), .val (.int (Int32.ofNat u1)), .val (.int (Int32.ofNat u2)), .val (.int (Int32.ofNat u3)), .val (.ref x1), .val (.ref x2), .unset, .unset, .unset, .unset, .unset, .unset] [(.int p4), (.int (Int32.ofNat u3))])) rfl (by rw [hml]; rfl) (argsL := [(.int (Int32.ofNat u3)), (.int p4)]) (rest := []) (lenOf pd_ostr rfl) rfl (by show 2 * 0 + _ ≤ _; exact Nat.le_of_eq rfl) (hb hby at_38) (fun _ _ => ⟨rfl, (Eq.refl Tsb.heap), (Nat.le_of_ble_eq_true rfl), (Nat.le_of_ble_eq_true rfl)⟩)
  dsimp only [Pt.U, Pt.locs, Pt.cells, Pt.slots] at Xsc lsc ysc zsc stsc hQsc hssc hgsc CRsc
  subst lsc ysc zsc
  obtain ⟨x3, rfl, Nsc, Ksc, Ssc⟩ := hQsc
  obtain ⟨Xsc, hSsc, hZsc, hownsc⟩ := rebS hSsb (own_hk (Eq.refl Tsb.heap) (Nat.le_refl _)) Xsc hssc hgsc hZsb hownsb
  have Csc := Csb.trans CRsc
  have KKsc : own_K Z n0 Tsb.heap Tsc.heap := own_K.ofExt (own_extK Ksc)
  have OOsc := KKsc.old OOsb
  have Zsc : n0 ≤ Tsc.heap.size := Nat.le_trans Zsb KKsc.size
  rw [← hc3] at Ssc
  have A1 := A1.keep0 Ksc
  have A2 := A2.keep0 Ksc
  have A3 := Ssc
  obtain ⟨Tn, hn, Xn, en, En, An, Dn, -, stn⟩ := newO Xsc hx hZsc hownsc (hw _ (List.mem_of_getElem? (i := 26) rfl)) (hw _ (List.mem_of_getElem? (i := 27) rfl)) (hw _ (List.mem_of_getElem? (i := 28) rfl)) (Eq.refl Tsc.heap) (g := (mkF m 43 #[.val (.int p1), .val (.int p2), .val (.int p3), .val (.int p4), .val (.int (Int32.ofNat u1)), .val (.int (Int32.ofNat u2)), .val (.int (Int32.ofNat u3)), .val (.ref x1), .val (.ref x2), .val (.ref x3), .unset, .unset, .unset, .unset, .unset] [])) rfl (hb hby at_43) (by decide) (by decide)
  obtain ⟨b, gn⟩ : ∃ z, z = Tsc.heap.size := ⟨_, rfl⟩
  rw [← gn] at An Dn stn
  have F_size : Fld Z hn b "com/example/templum/templum/model/TextStore" "size" "I" (.int (0 : Int32)) := Dn (Or.inl (hw _ (List.mem_of_getElem? (i := 70) rfl))) (ty := .int) (by decide)
  have F_openLength : Fld Z hn b "com/example/templum/templum/model/TextStore" "openLength" "I" (.int (0 : Int32)) := Dn (Or.inl (hw _ (List.mem_of_getElem? (i := 43) rfl))) (ty := .int) (by decide)
  have F_chunks : Fld Z hn b "com/example/templum/templum/model/TextStore" "chunks" "[[C" .null := Dn (Or.inl (hw _ (List.mem_of_getElem? (i := 36) rfl))) (ty := (.array (.array .char))) (by decide)
  have gb : n0 ≤ b := Nat.le_trans Zsc (Nat.le_of_eq gn.symm)
  have KKn : own_K Z n0 Tsc.heap hn := own_K.ofExt En
  have OOn := KKn.old OOsc
  have Zn : n0 ≤ hn.size := Nat.le_trans Zsc KKn.size
  have A1 := A1.ext En
  have A2 := A2.ext En
  have A3 := A3.ext En
  have Cn := Csc.trans (own_K.chr hZsc.alike KKn Csc.1)
  obtain ⟨_, _, ⟨Ti, Li, ki, ni⟩, -, Xi, ⟨Lci, hQi, li, yi, zi⟩, sti⟩ := Xn.specialBack hx (y := (⟨"com/example/templum/templum/model/TextStore", "<init>", "()V"⟩ : MethodName)) rfl hownsc (mvT hZsc (hw _ (List.mem_of_getElem? (i := 29) rfl))) (mvT hZsc (hw _ (List.mem_of_getElem? (i := 30) rfl))) (mvT hZsc (hw _ (List.mem_of_getElem? (i := 31) rfl))) (by decide) (backOf (W := 1) (rm5 l Z a0 hw [] b hn n0 Zn An gb F_size F_openLength F_chunks) hZsc (hw _ (List.mem_of_getElem? (i := 31) rfl)) (hw _ (List.mem_of_getElem? (i := 28) rfl)) (Nat.le_of_ble_eq_true rfl) (Nat.le_of_ble_eq_true rfl)) (g := (mkF m 47 #[.val (.int p1), .val (.int p2), .val (.int p3), .val (.int p4), .val (.int (Int32.ofNat u1)), .val (.int (Int32.ofNat u2)), .val (.int (Int32.ofNat u3)), .val (.ref x1), .val (.ref x2), .val (.ref x3), .unset, .unset, .unset, .unset, .unset] [(.ref b), (.ref b)])) rfl (by rw [hml]; rfl) (Steps.refl _) (a := b) (argsL := []) (rest := [(.ref b)]) (lenOf pd_oV rfl) rfl (by show 2 * 0 + _ ≤ _; exact Nat.le_of_eq rfl) (hb hby at_47) (fun _ _ => ⟨rfl, en, (Nat.le_of_ble_eq_true rfl), (Nat.le_of_ble_eq_true rfl)⟩)
  dsimp only [Pt.U, Pt.locs, Pt.cells, Pt.slots] at Xi li yi zi sti hQi
  subst li yi zi
  obtain ⟨rfl, Ni, Ki, Di⟩ := hQi
  have KKi : own_K Z n0 hn Ti.heap := ⟨[b], Ki, fun y hy => by cases List.mem_singleton.mp hy; exact ⟨gb, Or.inr An⟩⟩
  have OOi := KKi.old OOn
  have Zi : n0 ≤ Ti.heap.size := Nat.le_trans Zn KKi.size
  have Ci := Cn.trans (own_K.chr hZsc.alike KKi Cn.1)
  have A1 := A1.keep wi wt KKi
  have A2 := A2.keep wi wt KKi
  have A3 := A3.keep wi wt KKi
  have NNi := Fr.app (Fr.app (Fr.app (Fr.app N0 Nsa) Nsb) Nsc) Ni
  have Yi : Stand p l e room_1 (s.setVm Tsc.vm) m #[(.int p1), (.int p2), (.int p3), (.int p4)] below meth c Ti _ 20 (60) := Xi.more (by decide) (by decide)
  obtain ⟨cqad, kqad, qaad, qbad, qcad⟩ := isOf hZsc (Eq.refl Ti.heap) (KKi.exa An)
  obtain ⟨_, _, ⟨Tad, Lad, kad, nad⟩, -, Xad, ⟨Lcad, hQad, lad, yad, zad⟩, stad⟩ := Yi.virtualBack hx (y := (⟨"com/example/templum/templum/model/TextStore", "add", "(Ljava/lang/String;)I"⟩ : MethodName)) (z := (⟨"com/example/templum/templum/model/TextStore", "add", "(Ljava/lang/String;)I"⟩ : MethodName)) hownsc (mvT hZsc (hw _ (List.mem_of_getElem? (i := 37) rfl))) (mvT hZsc (hw _ (List.mem_of_getElem? (i := 38) rfl))) (notFace_of_selects (args := #[]) (mvT hZsc (hw _ (List.mem_of_getElem? (i := 40) rfl)))) (mvT hZsc (hw _ (List.mem_of_getElem? (i := 40) rfl))) (mvT hZsc (hw _ (List.mem_of_getElem? (i := 39) rfl))) (by decide) (backOf (W := 0) (rm6 l Z a0 hw [] b x1 [] c1 z fm k1 Ti.heap n0 Zi hfm SF SC hz OOi (by omega) (by decide) ok1 A1 Di hk1) hZsc (hw _ (List.mem_of_getElem? (i := 41) rfl)) (hw _ (List.mem_of_getElem? (i := 28) rfl)) (Nat.le_of_ble_eq_true rfl) (Nat.le_of_ble_eq_true rfl)) qaad qcad (g := (mkF m 56 #[.val (.int p1), .val (.int p2), .val (.int p3), .val (.int p4), .val (.int (Int32.ofNat u1)), .val (.int (Int32.ofNat u2)), .val (.int (Int32.ofNat u3)), .val (.ref x1), .val (.ref x2), .val (.ref x3), .val (.ref b), .unset, .unset, .unset, .unset] [(.ref x1), (.ref b)])) rfl (by rw [hml]; rfl) (Steps.refl _) (argsL := [(.ref x1)]) (rest := []) (lenOf pd_oadd rfl) rfl (by show 2 * 0 + _ ≤ _; exact Nat.le_of_eq rfl) (hb hby at_56) (fun _ _ => ⟨rfl, (Eq.refl Ti.heap), (Nat.le_of_ble_eq_true rfl), (by show 60 + k1 ≤ 133312; omega)⟩)
  dsimp only [Pt.U, Pt.locs, Pt.cells, Pt.slots] at Xad lad yad zad stad hQad
  subst lad yad zad
  obtain ⟨rfl, Nad, KKad, Dad⟩ := hQad
  have OOad := KKad.old OOi
  have Zad : n0 ≤ Tad.heap.size := Nat.le_trans Zi KKad.size
  have Cad := Ci.trans (own_K.chr hZsc.alike KKad Ci.1)
  have A1 := A1.keep wi wt KKad
  have A2 := A2.keep wi wt KKad
  have A3 := A3.keep wi wt KKad
  have Dad : own_T Z Tad.heap n0 b c1 0 := Dad
  have NNad := Fr.app NNi Nad
  have Yad : Stand p l e room_1 (s.setVm Tsc.vm) m #[(.int p1), (.int p2), (.int p3), (.int p4)] below meth c Tad _ 21 (60 + k1) := Xad.more (Nat.le_refl _) (Nat.le_refl _)
  obtain ⟨Tpa, hpa, Lpa, Xpa, epa, NNpa, KKpa, Dpa, stpa⟩ := own_app Yad hx hZsc hw hownsc (hw _ (List.mem_of_getElem? (i := 76) rfl)) (Eq.refl Tad.heap) Zad b x2 (c1) c2 (0) z fm hfm SF SC hz OOad (by omega) (by first | omega | (simp; omega)) ok2 A2 Dad k2 hk2 (pc := 65) (Ls := #[.val (.int p1), .val (.int p2), .val (.int p3), .val (.int p4), .val (.int (Int32.ofNat u1)), .val (.int (Int32.ofNat u2)), .val (.int (Int32.ofNat u3)), .val (.ref x1), .val (.ref x2), .val (.ref x3), .val (.ref b), .val (.int (0 : Int32)), .unset, .unset, .unset]) (rest := []) (by rw [hml]; rfl) (hb hby at_65) (W := 0) (by show 2 * 0 + _ ≤ _; exact Nat.le_of_eq rfl) (Nat.le_of_ble_eq_true rfl) (Nat.le_of_ble_eq_true rfl) (Nat.le_of_ble_eq_true rfl) (by show 60 + k1 + k2 ≤ 133312; omega) NNad
  have OOpa := KKpa.old OOad
  have Zpa : n0 ≤ hpa.size := Nat.le_trans Zad KKpa.size
  have Cpa := Cad.trans (own_K.chr hZsc.alike KKpa Cad.1)
  have A1 := A1.keep wi wt KKpa
  have A2 := A2.keep wi wt KKpa
  have A3 := A3.keep wi wt KKpa
  obtain ⟨Tpb, hpb, Lpb, Xpb, epb, NNpb, KKpb, Dpb, stpb⟩ := own_app Xpa hx hZsc hw hownsc (hw _ (List.mem_of_getElem? (i := 76) rfl)) epa Zpa b x3 (c1 ++ c2) c3 (0 + c2.length) z fm hfm SF SC hz OOpa (by omega) (by first | omega | (simp; omega)) ok3 A3 Dpa k3 hk3 (pc := 72) (Ls := #[.val (.int p1), .val (.int p2), .val (.int p3), .val (.int p4), .val (.int (Int32.ofNat u1)), .val (.int (Int32.ofNat u2)), .val (.int (Int32.ofNat u3)), .val (.ref x1), .val (.ref x2), .val (.ref x3), .val (.ref b), .val (.int (0 : Int32)), .unset, .unset, .unset]) (rest := []) (by rw [hml]; rfl) (hb hby at_72) (W := 0) (by show 2 * 0 + _ ≤ _; exact Nat.le_of_eq rfl) (Nat.le_of_ble_eq_true rfl) (Nat.le_of_ble_eq_true rfl) (Nat.le_of_ble_eq_true rfl) (by show 60 + k1 + k2 + k3 ≤ 133312; omega) NNpa
  have OOpb := KKpb.old OOpa
  have Zpb : n0 ≤ hpb.size := Nat.le_trans Zpa KKpb.size
  have Cpb := Cpa.trans (own_K.chr hZsc.alike KKpb Cpa.1)
  have A1 := A1.keep wi wt KKpb
  have A2 := A2.keep wi wt KKpb
  have A3 := A3.keep wi wt KKpb
  obtain ⟨qF, kF, Fpb⟩ := Dpb.F
  obtain ⟨cqcl, kqcl, qacl, qbcl, qccl⟩ := isOf hZsc epb Fpb.1
  obtain ⟨_, _, ⟨Tcl, Lcl, kcl, ncl⟩, -, Xcl, ⟨Lccl, hQcl, lcl, ycl, zcl⟩, stcl⟩ := Xpb.virtualBack hx (y := (⟨"com/example/templum/templum/model/TextStore", "close", "()I"⟩ : MethodName)) (z := (⟨"com/example/templum/templum/model/TextStore", "close", "()I"⟩ : MethodName)) hownsc (mvT hZsc (hw _ (List.mem_of_getElem? (i := 77) rfl))) (mvT hZsc (hw _ (List.mem_of_getElem? (i := 72) rfl))) (notFace_of_selects (args := #[]) (mvT hZsc (hw _ (List.mem_of_getElem? (i := 74) rfl)))) (mvT hZsc (hw _ (List.mem_of_getElem? (i := 74) rfl))) (mvT hZsc (hw _ (List.mem_of_getElem? (i := 73) rfl))) (by decide) (backOf (W := 0) (rm11 l Z a0 hw [] b (c1 ++ c2 ++ c3) (0 + c2.length + c3.length) hpb n0 Zpb Dpb) hZsc (hw _ (List.mem_of_getElem? (i := 75) rfl)) (hw _ (List.mem_of_getElem? (i := 28) rfl)) (Nat.le_of_ble_eq_true rfl) (Nat.le_of_ble_eq_true rfl)) qacl qccl (g := (mkF m 77 #[.val (.int p1), .val (.int p2), .val (.int p3), .val (.int p4), .val (.int (Int32.ofNat u1)), .val (.int (Int32.ofNat u2)), .val (.int (Int32.ofNat u3)), .val (.ref x1), .val (.ref x2), .val (.ref x3), .val (.ref b), .val (.int (0 : Int32)), .unset, .unset, .unset] [(.ref b)])) rfl (by rw [hml]; rfl) (Steps.refl _) (argsL := []) (rest := []) (lenOf pd_olen rfl) rfl (by show 2 * 0 + _ ≤ _; exact Nat.le_of_eq rfl) (hb hby at_77) (fun _ _ => ⟨rfl, epb, (by show 23 + 0 ≤ 48; omega), (by show 60 + k1 + k2 + k3 + 0 ≤ 133312; omega)⟩)
  dsimp only [Pt.U, Pt.locs, Pt.cells, Pt.slots] at Xcl lcl ycl zcl stcl hQcl
  subst lcl ycl zcl
  obtain ⟨rfl, Ncl, KKcl, Dcl⟩ := hQcl
  have OOcl := KKcl.old OOpb
  have Zcl : n0 ≤ Tcl.heap.size := Nat.le_trans Zpb KKcl.size
  have Ccl := Cpb.trans (own_K.chr hZsc.alike KKcl Cpb.1)
  have A1 := A1.keep wi wt KKcl
  have A2 := A2.keep wi wt KKcl
  have A3 := A3.keep wi wt KKcl
  have NNcl := Fr.app NNpb Ncl
  have Ycl : Stand p l e room_1 (s.setVm Tsc.vm) m #[(.int p1), (.int p2), (.int p3), (.int p4)] below meth c Tcl _ 24 (66000) := Xcl.more (by show 23 + 0 ≤ 24; omega) (by show 60 + k1 + k2 + k3 + 0 ≤ 66000; omega)
  have key87 : ∀ t, Steps p.tables e below (Tcl.setTop (mkF m 96 #[.val (.int p1), .val (.int p2), .val (.int p3), .val (.int p4), .val (.int (Int32.ofNat u1)), .val (.int (Int32.ofNat u2)), .val (.int (Int32.ofNat u3)), .val (.ref x1), .val (.ref x2), .val (.ref x3), .val (.ref b), .val (.int (0 : Int32)), .val (.int (Int32.ofNat rr)), .unset, .unset] [(.int vI)])) t → Steps p.tables e below (Tcl.setTop (mkF m 87 #[.val (.int p1), .val (.int p2), .val (.int p3), .val (.int p4), .val (.int (Int32.ofNat u1)), .val (.int (Int32.ofNat u2)), .val (.int (Int32.ofNat u3)), .val (.ref x1), .val (.ref x2), .val (.ref x3), .val (.ref b), .val (.int (0 : Int32)), .val (.int (Int32.ofNat rr)), .unset, .unset] [(.int (Int32.ofNat (u2 + u3)))])) t := fun t kt => by
    by_cases hz2 : u2 + u3 = 0
    · have e1 : Int32.ofNat (u2 + u3) = (0 : Int32) := by rw [hz2]; rfl
      have e2 : vI = (0 : Int32) := by rw [hvI, hrr, if_pos hz2]; rfl
      rw [e2] at kt
      refine XS.ifNo Ycl.here hx rfl (hb hby at_87) rfl ((if0 _ _).trans (teq e1).2) ?_
      show Steps p.tables e below (Tcl.setTop (mkF m 90 #[.val (.int p1), .val (.int p2), .val (.int p3), .val (.int p4), .val (.int (Int32.ofNat u1)), .val (.int (Int32.ofNat u2)), .val (.int (Int32.ofNat u3)), .val (.ref x1), .val (.ref x2), .val (.ref x3), .val (.ref b), .val (.int (0 : Int32)), .val (.int (Int32.ofNat rr)), .unset, .unset] [])) _
      refine XS.iconst Ycl.here hx rfl (hb hby at_90) ?_
      show Steps p.tables e below (Tcl.setTop (mkF m 91 #[.val (.int p1), .val (.int p2), .val (.int p3), .val (.int p4), .val (.int (Int32.ofNat u1)), .val (.int (Int32.ofNat u2)), .val (.int (Int32.ofNat u3)), .val (.ref x1), .val (.ref x2), .val (.ref x3), .val (.ref b), .val (.int (0 : Int32)), .val (.int (Int32.ofNat rr)), .unset, .unset] [(.int (0 : Int32))])) _
      refine XS.goto Ycl.here hx rfl (pc0 := 91) (pc' := 96) rfl (hb hby at_91) (by decide) (by decide) ?_
      exact kt
    · have e1 : ¬ (Int32.ofNat (u2 + u3) = (0 : Int32)) := own_nz (by omega) (by omega)
      have e2 : vI = Int32.ofNat u1 := by rw [hvI, hrr, if_neg hz2]
      rw [e2] at kt
      refine XS.ifYes Ycl.here hx rfl (pc0 := 87) (pc' := 94) rfl (hb hby at_87) rfl ((if0 _ _).trans (feq e1).2) (by decide) (by decide) ?_
      show Steps p.tables e below (Tcl.setTop (mkF m 94 #[.val (.int p1), .val (.int p2), .val (.int p3), .val (.int p4), .val (.int (Int32.ofNat u1)), .val (.int (Int32.ofNat u2)), .val (.int (Int32.ofNat u3)), .val (.ref x1), .val (.ref x2), .val (.ref x3), .val (.ref b), .val (.int (0 : Int32)), .val (.int (Int32.ofNat rr)), .unset, .unset] [])) _
      refine XS.iload Ycl.here hx rfl (hb hby at_94) rfl ?_
      exact kt
  obtain ⟨qF2, kF2, Fcl⟩ := Dcl.F
  obtain ⟨cqop, kqop, qaop, qbop, qcop⟩ := isOf hZsc (Eq.refl Tcl.heap) Fcl.1
  obtain ⟨_, _, ⟨Top, Lop, kop, nop⟩, -, Xop, ⟨Lcop, hQop, lop, yop, zop⟩, stop⟩ := Ycl.virtualBack hx (y := (⟨"com/example/templum/templum/model/TextStore", "openLength", "()I"⟩ : MethodName)) (z := (⟨"com/example/templum/templum/model/TextStore", "openLength", "()I"⟩ : MethodName)) hownsc (mvT hZsc (hw _ (List.mem_of_getElem? (i := 78) rfl))) (mvT hZsc (hw _ (List.mem_of_getElem? (i := 79) rfl))) (notFace_of_selects (args := #[]) (mvT hZsc (hw _ (List.mem_of_getElem? (i := 81) rfl)))) (mvT hZsc (hw _ (List.mem_of_getElem? (i := 81) rfl))) (mvT hZsc (hw _ (List.mem_of_getElem? (i := 80) rfl))) (by decide) (backOf (W := 0) (rm12 l Z a0 hw [] b (Int32.ofNat 0) Tcl.heap n0 Zcl Fcl.2.2.2.1) hZsc (hw _ (List.mem_of_getElem? (i := 82) rfl)) (hw _ (List.mem_of_getElem? (i := 28) rfl)) (Nat.le_of_ble_eq_true rfl) (Nat.le_of_ble_eq_true rfl)) qaop qcop (g := (mkF m 124 #[.val (.int p1), .val (.int p2), .val (.int p3), .val (.int p4), .val (.int (Int32.ofNat u1)), .val (.int (Int32.ofNat u2)), .val (.int (Int32.ofNat u3)), .val (.ref x1), .val (.ref x2), .val (.ref x3), .val (.ref b), .val (.int (0 : Int32)), .val (.int (Int32.ofNat rr)), .val (.int vI), .val (.int (1 : Int32))] [(.ref b)])) rfl (by rw [hml]; rfl) (Steps.refl _) (argsL := []) (rest := []) (lenOf pd_olen rfl) rfl (by show 2 * 0 + _ ≤ _; exact Nat.le_of_eq rfl) (hb hby at_124) (fun _ _ => ⟨rfl, (Eq.refl Tcl.heap), (Nat.le_of_ble_eq_true rfl), (Nat.le_of_ble_eq_true rfl)⟩)
  dsimp only [Pt.U, Pt.locs, Pt.cells, Pt.slots] at Xop lop yop zop stop hQop
  subst lop yop zop
  obtain ⟨rfl, Nop, ehop⟩ := hQop
  have NNop := Fr.app NNcl Nop
  obtain ⟨cqcm, kqcm, qacm, qbcm, qccm⟩ := isOf hZsc ehop Fcl.1
  obtain ⟨_, _, ⟨Tcm, Lcm, kcm, ncm⟩, -, Xcm, ⟨Lccm, hQcm, lcm, ycm, zcm⟩, stcm⟩ := Xop.virtualBack hx (y := (⟨"com/example/templum/templum/model/TextStore", "close", "()I"⟩ : MethodName)) (z := (⟨"com/example/templum/templum/model/TextStore", "close", "()I"⟩ : MethodName)) hownsc (mvT hZsc (hw _ (List.mem_of_getElem? (i := 77) rfl))) (mvT hZsc (hw _ (List.mem_of_getElem? (i := 72) rfl))) (notFace_of_selects (args := #[]) (mvT hZsc (hw _ (List.mem_of_getElem? (i := 74) rfl)))) (mvT hZsc (hw _ (List.mem_of_getElem? (i := 74) rfl))) (mvT hZsc (hw _ (List.mem_of_getElem? (i := 73) rfl))) (by decide) (backOf (W := 0) (rm11 l Z a0 hw [] b (c1 ++ c2 ++ c3) 0 Tcl.heap n0 Zcl Dcl) hZsc (hw _ (List.mem_of_getElem? (i := 75) rfl)) (hw _ (List.mem_of_getElem? (i := 28) rfl)) (Nat.le_of_ble_eq_true rfl) (Nat.le_of_ble_eq_true rfl)) qacm qccm (g := (mkF m 144 #[.val (.int p1), .val (.int p2), .val (.int p3), .val (.int p4), .val (.int (Int32.ofNat u1)), .val (.int (Int32.ofNat u2)), .val (.int (Int32.ofNat u3)), .val (.ref x1), .val (.ref x2), .val (.ref x3), .val (.ref b), .val (.int (0 : Int32)), .val (.int (Int32.ofNat rr)), .val (.int vI), .val (.int (1 : Int32))] [(.ref b)])) rfl (by rw [hml]; rfl) (Steps.refl _) (argsL := []) (rest := []) (lenOf pd_olen rfl) rfl (by show 2 * 0 + _ ≤ _; exact Nat.le_of_eq rfl) (hb hby at_144) (fun _ _ => ⟨rfl, ehop, (Nat.le_of_ble_eq_true rfl), (Nat.le_of_ble_eq_true rfl)⟩)
  dsimp only [Pt.U, Pt.locs, Pt.cells, Pt.slots] at Xcm lcm ycm zcm stcm hQcm
  subst lcm ycm zcm
  obtain ⟨rfl, Ncm, KKcm, Dcm⟩ := hQcm
  have OOcm := KKcm.old OOcl
  have Zcm : n0 ≤ Tcm.heap.size := Nat.le_trans Zcl KKcm.size
  have Ccm := Ccl.trans (own_K.chr hZsc.alike KKcm Ccl.1)
  have A1 := A1.keep wi wt KKcm
  have A2 := A2.keep wi wt KKcm
  have A3 := A3.keep wi wt KKcm
  have NNcm := Fr.app NNop Ncm
  obtain ⟨qF3, kF3, Fcm⟩ := Dcm.F
  have hkcm : Tsc.heap.size ≤ Tcm.heap.size := Nat.le_trans KKn.size (Nat.le_trans KKi.size (Nat.le_trans KKad.size (Nat.le_trans KKpa.size (Nat.le_trans KKpb.size (Nat.le_trans KKcl.size KKcm.size)))))
  have Ycm : Stand p l e room_1 (s.setVm Tsc.vm) m #[(.int p1), (.int p2), (.int p3), (.int p4)] below meth c Tcm _ 24 (66000) := Xcm.more (by decide) (by decide)
  obtain ⟨cqga, kqga, qaga, qbga, qcga⟩ := isOf hZsc (Eq.refl Tcm.heap) Fcm.1
  obtain ⟨_, _, ⟨Tga, Lga, kga, nga⟩, -, Xga, hsga, hgga, ⟨Lcga, hQga, lga, yga, zga, CRga⟩, stga⟩ := Ycm.virtualBackS hx (y := (⟨"com/example/templum/templum/model/TextStore", "get", "(II)Ljava/lang/String;"⟩ : MethodName)) (z := (⟨"com/example/templum/templum/model/TextStore", "get", "(II)Ljava/lang/String;"⟩ : MethodName)) hownsc (mvT hZsc (hw _ (List.mem_of_getElem? (i := 83) rfl))) (mvT hZsc (hw _ (List.mem_of_getElem? (i := 84) rfl))) (notFace_of_selects (args := #[]) (mvT hZsc (hw _ (List.mem_of_getElem? (i := 86) rfl)))) (mvT hZsc (hw _ (List.mem_of_getElem? (i := 86) rfl))) (mvT hZsc (hw _ (List.mem_of_getElem? (i := 85) rfl))) (by decide) (backOfSH (W := 0) (rm13 l Z a0 hw [] b (c1 ++ c2 ++ c3) (rr) u2 0 z fm Tcm.heap n0 Zcm hfm SF SC hz OOcm (by omega) (by rw [hlen]; have hr2 := hrr; split at hr2 <;> omega) hall Dcm) hZsc (hw _ (List.mem_of_getElem? (i := 87) rfl)) (hw _ (List.mem_of_getElem? (i := 28) rfl)) (Nat.le_of_ble_eq_true rfl) (Nat.le_of_ble_eq_true rfl) hEL Ccm.1) qaga qcga (g := (mkF m 168 #[.val (.int p1), .val (.int p2), .val (.int p3), .val (.int p4), .val (.int (Int32.ofNat u1)), .val (.int (Int32.ofNat u2)), .val (.int (Int32.ofNat u3)), .val (.ref x1), .val (.ref x2), .val (.ref x3), .val (.ref b), .val (.int (0 : Int32)), .val (.int (Int32.ofNat rr)), .val (.int vI), .val (.int (1 : Int32))] [(.int (Int32.ofNat u2)), (.int (Int32.ofNat rr)), (.ref b)])) rfl (by rw [hml]; rfl) (Steps.refl _) (argsL := [(.int (Int32.ofNat rr)), (.int (Int32.ofNat u2))]) (rest := []) (lenOf pd_oget rfl) rfl (by show 2 * 0 + _ ≤ _; exact Nat.le_of_eq rfl) (hb hby at_168) (fun _ _ => ⟨rfl, (Eq.refl Tcm.heap), (Nat.le_of_ble_eq_true rfl), (Nat.le_of_ble_eq_true rfl)⟩)
  dsimp only [Pt.U, Pt.locs, Pt.cells, Pt.slots] at Xga lga yga zga stga hQga hsga hgga CRga
  subst lga yga zga
  obtain ⟨gga, rfl, Nga, Kga, Sga⟩ := hQga
  obtain ⟨Xga, hSga, hZga, hownga⟩ := rebS hSsc (own_hk (Eq.refl Tcm.heap) hkcm) Xga hsga hgga hZsc hownsc
  have Cga := Ccm.trans CRga
  have KKga : own_K Z n0 Tcm.heap Tga.heap := own_K.ofExt (own_extK Kga)
  have OOga := KKga.old OOcm
  have Zga : n0 ≤ Tga.heap.size := Nat.le_trans Zcm KKga.size
  rw [hrr, own_get2 c1 c2 c3 hl1 hl2 hl3] at Sga
  have A2 := A2.keep0 Kga
  have A3 := A3.keep0 Kga
  have Dga := Dcm.ext (own_extK Kga)
  obtain ⟨qFga, kFga, Fga⟩ := Dga.F
  have NNga := Fr.app NNcm Nga
  obtain ⟨e1ga, e2ga, t1ga, k1ga, e3ga, e4ga⟩ := id Sga
  obtain ⟨f1ga, f2ga, t2ga, k2ga, f3ga, f4ga⟩ := id A2
  have hwega : ∀ d ∈ StrChars.Road.wordsEq, d.before a0 Z = true := fun d hd => hw d (own_eqW d hd)
  obtain ⟨cqea, kqea, qaea, qbea, qcea⟩ := isOf hZga (Eq.refl Tga.heap) e1ga
  obtain ⟨_, _, ⟨Tea, Lea, kea, nea⟩, -, Xea, ⟨Lcea, hQea, lea, yea, zea⟩, stea⟩ := Xga.virtualBack hx (y := (⟨"java/lang/String", "equals", "(Ljava/lang/Object;)Z"⟩ : MethodName)) (z := (⟨"java/lang/String", "equals", "(Ljava/lang/Object;)Z"⟩ : MethodName)) hownga (mvT hZga (hw _ (List.mem_of_getElem? (i := 89) rfl))) (mvT hZga (hw _ (List.mem_of_getElem? (i := 90) rfl))) (notFace_of_selects (args := #[]) (mvT hZga (hw _ (List.mem_of_getElem? (i := 92) rfl)))) (mvT hZga (hw _ (List.mem_of_getElem? (i := 92) rfl))) (mvT hZga (hw _ (List.mem_of_getElem? (i := 91) rfl))) (by decide) (StrChars.Road.eqW (W := 0) hZga hwega (kI := 4) wi e1ga e3ga e2ga e4ga (own_codA ok2) wd2 (by omega) f1ga f3ga f2ga f4ga (own_codA ok2) wd2 (by omega) (Sta.ext OOga.2 SC) hz (Nat.le_of_ble_eq_true rfl) (Nat.le_of_ble_eq_true rfl)) qaea qcea (g := (mkF m 173 #[.val (.int p1), .val (.int p2), .val (.int p3), .val (.int p4), .val (.int (Int32.ofNat u1)), .val (.int (Int32.ofNat u2)), .val (.int (Int32.ofNat u3)), .val (.ref x1), .val (.ref x2), .val (.ref x3), .val (.ref b), .val (.int (0 : Int32)), .val (.int (Int32.ofNat rr)), .val (.int vI), .val (.int (1 : Int32))] [(.ref x2), (.ref gga)])) rfl (by rw [hml]; rfl) (Steps.refl _) (argsL := [(.ref x2)]) (rest := []) (lenOf pd_oeq rfl) rfl (by show 2 * 0 + _ ≤ _; exact Nat.le_of_eq rfl) (hb hby at_173) (fun _ _ => ⟨rfl, (Eq.refl Tga.heap), (Nat.le_of_ble_eq_true rfl), (Nat.le_of_ble_eq_true rfl)⟩)
  dsimp only [Pt.U, Pt.locs, Pt.cells, Pt.slots] at Xea lea yea zea stea hQea
  subst lea yea zea
  obtain ⟨hvea, rfl, ehea⟩ := hQea
  obtain ⟨rfl, -⟩ | ⟨-, neea⟩ := hvea
  rotate_left
  · exact absurd rfl neea
  obtain ⟨cqgb, kqgb, qagb, qbgb, qcgb⟩ := isOf hZga ehea Fga.1
  obtain ⟨_, _, ⟨Tgb, Lgb, kgb, ngb⟩, -, Xgb, hsgb, hggb, ⟨Lcgb, hQgb, lgb, ygb, zgb, CRgb⟩, stgb⟩ := Xea.virtualBackS hx (y := (⟨"com/example/templum/templum/model/TextStore", "get", "(II)Ljava/lang/String;"⟩ : MethodName)) (z := (⟨"com/example/templum/templum/model/TextStore", "get", "(II)Ljava/lang/String;"⟩ : MethodName)) hownga (mvT hZga (hw _ (List.mem_of_getElem? (i := 83) rfl))) (mvT hZga (hw _ (List.mem_of_getElem? (i := 84) rfl))) (notFace_of_selects (args := #[]) (mvT hZga (hw _ (List.mem_of_getElem? (i := 86) rfl)))) (mvT hZga (hw _ (List.mem_of_getElem? (i := 86) rfl))) (mvT hZga (hw _ (List.mem_of_getElem? (i := 85) rfl))) (by decide) (backOfSH (W := 0) (rm13 l Z a0 hw [] b (c1 ++ c2 ++ c3) (rr + u2) u3 0 z fm Tga.heap n0 Zga hfm SF SC hz OOga (by omega) (by rw [hlen]; have hr2 := hrr; split at hr2 <;> omega) hall Dga) hZga (hw _ (List.mem_of_getElem? (i := 87) rfl)) (hw _ (List.mem_of_getElem? (i := 28) rfl)) (Nat.le_of_ble_eq_true rfl) (Nat.le_of_ble_eq_true rfl) hEL Cga.1) qagb qcgb (g := (mkF m 200 #[.val (.int p1), .val (.int p2), .val (.int p3), .val (.int p4), .val (.int (Int32.ofNat u1)), .val (.int (Int32.ofNat u2)), .val (.int (Int32.ofNat u3)), .val (.ref x1), .val (.ref x2), .val (.ref x3), .val (.ref b), .val (.int (0 : Int32)), .val (.int (Int32.ofNat rr)), .val (.int vI), .val (.int (1 : Int32))] [(.int (Int32.ofNat u3)), (.int (Int32.ofNat (rr + u2))), (.ref b)])) rfl (by rw [hml]; rfl) (Steps.refl _) (argsL := [(.int (Int32.ofNat (rr + u2))), (.int (Int32.ofNat u3))]) (rest := []) (lenOf pd_oget rfl) rfl (by show 2 * 0 + _ ≤ _; exact Nat.le_of_eq rfl) (hb hby at_200) (fun _ _ => ⟨rfl, ehea, (Nat.le_of_ble_eq_true rfl), (Nat.le_of_ble_eq_true rfl)⟩)
  dsimp only [Pt.U, Pt.locs, Pt.cells, Pt.slots] at Xgb lgb ygb zgb stgb hQgb hsgb hggb CRgb
  subst lgb ygb zgb
  obtain ⟨ggb, rfl, Ngb, Kgb, Sgb⟩ := hQgb
  obtain ⟨Xgb, hSgb, hZgb, howngb⟩ := rebS hSga (own_hk ehea (Nat.le_refl _)) Xgb hsgb hggb hZga hownga
  have Cgb := Cga.trans CRgb
  have KKgb : own_K Z n0 Tga.heap Tgb.heap := own_K.ofExt (own_extK Kgb)
  have OOgb := KKgb.old OOga
  have Zgb : n0 ≤ Tgb.heap.size := Nat.le_trans Zga KKgb.size
  rw [hrr, own_get3 c1 c2 c3 hl1 hl2 hl3] at Sgb
  have A2 := A2.keep0 Kgb
  have A3 := A3.keep0 Kgb
  have Dgb := Dga.ext (own_extK Kgb)
  obtain ⟨qFgb, kFgb, Fgb⟩ := Dgb.F
  have NNgb := Fr.app (Fr.app NNga (Fr.nil _)) Ngb
  obtain ⟨e1gb, e2gb, t1gb, k1gb, e3gb, e4gb⟩ := id Sgb
  obtain ⟨f1gb, f2gb, t2gb, k2gb, f3gb, f4gb⟩ := id A3
  have hwegb : ∀ d ∈ StrChars.Road.wordsEq, d.before a0 Z = true := fun d hd => hw d (own_eqW d hd)
  obtain ⟨cqeb, kqeb, qaeb, qbeb, qceb⟩ := isOf hZgb (Eq.refl Tgb.heap) e1gb
  obtain ⟨_, _, ⟨Teb, Leb, keb, neb⟩, -, Xeb, ⟨Lceb, hQeb, leb, yeb, zeb⟩, steb⟩ := Xgb.virtualBack hx (y := (⟨"java/lang/String", "equals", "(Ljava/lang/Object;)Z"⟩ : MethodName)) (z := (⟨"java/lang/String", "equals", "(Ljava/lang/Object;)Z"⟩ : MethodName)) howngb (mvT hZgb (hw _ (List.mem_of_getElem? (i := 89) rfl))) (mvT hZgb (hw _ (List.mem_of_getElem? (i := 90) rfl))) (notFace_of_selects (args := #[]) (mvT hZgb (hw _ (List.mem_of_getElem? (i := 92) rfl)))) (mvT hZgb (hw _ (List.mem_of_getElem? (i := 92) rfl))) (mvT hZgb (hw _ (List.mem_of_getElem? (i := 91) rfl))) (by decide) (StrChars.Road.eqW (W := 0) hZgb hwegb (kI := 4) wi e1gb e3gb e2gb e4gb (own_codA ok3) wd3 (by omega) f1gb f3gb f2gb f4gb (own_codA ok3) wd3 (by omega) (Sta.ext OOgb.2 SC) hz (Nat.le_of_ble_eq_true rfl) (Nat.le_of_ble_eq_true rfl)) qaeb qceb (g := (mkF m 205 #[.val (.int p1), .val (.int p2), .val (.int p3), .val (.int p4), .val (.int (Int32.ofNat u1)), .val (.int (Int32.ofNat u2)), .val (.int (Int32.ofNat u3)), .val (.ref x1), .val (.ref x2), .val (.ref x3), .val (.ref b), .val (.int (0 : Int32)), .val (.int (Int32.ofNat rr)), .val (.int vI), .val (.int (1 : Int32))] [(.ref x3), (.ref ggb)])) rfl (by rw [hml]; rfl) (Steps.refl _) (argsL := [(.ref x3)]) (rest := []) (lenOf pd_oeq rfl) rfl (by show 2 * 0 + _ ≤ _; exact Nat.le_of_eq rfl) (hb hby at_205) (fun _ _ => ⟨rfl, (Eq.refl Tgb.heap), (Nat.le_of_ble_eq_true rfl), (Nat.le_of_ble_eq_true rfl)⟩)
  dsimp only [Pt.U, Pt.locs, Pt.cells, Pt.slots] at Xeb leb yeb zeb steb hQeb
  subst leb yeb zeb
  obtain ⟨hveb, rfl, eheb⟩ := hQeb
  obtain ⟨rfl, -⟩ | ⟨-, neeb⟩ := hveb
  rotate_left
  · exact absurd rfl neeb
  have Yeb : Stand p l e room_1 (s.setVm Tgb.vm) m #[(.int p1), (.int p2), (.int p3), (.int p4)] below meth c Teb _ 48 (133312) := Xeb.more (by decide) (by decide)
  obtain ⟨fs, hr, hrun, hended, hEnd⟩ := Yeb.leaveW hSgb (own_hk eheb (Nat.le_refl _)) (v := some (.int (1 : Int32))) (fun h => by rw [Bd.returns] at h; cases h)
  refine ⟨_, _, pre0 _ ?_, hrun, hended, _, _, rfl, ?_, ?_, hEnd⟩
  · show Steps p.tables e below (s₁.setTop (mkF m 0 #[.val (.int p1), .val (.int p2), .val (.int p3), .val (.int p4), .unset, .unset, .unset, .unset, .unset, .unset, .unset, .unset, .unset, .unset, .unset] [])) _
    refine XS.iloadN X0.here hx rfl (hb hby at_0) rfl ?_
    show Steps p.tables e below (s₁.setTop (mkF m 1 #[.val (.int p1), .val (.int p2), .val (.int p3), .val (.int p4), .unset, .unset, .unset, .unset, .unset, .unset, .unset, .unset, .unset, .unset, .unset] [(.int p1)])) _
    refine XS.iconst X0.here hx rfl (hb hby at_1) ?_
    show Steps p.tables e below (s₁.setTop (mkF m 2 #[.val (.int p1), .val (.int p2), .val (.int p3), .val (.int p4), .unset, .unset, .unset, .unset, .unset, .unset, .unset, .unset, .unset, .unset, .unset] [(.int (3 : Int32)), (.int p1)])) _
    refine XS.iand X0.here hx rfl (hb hby at_2) rfl ?_
    show Steps p.tables e below (s₁.setTop (mkF m 3 #[.val (.int p1), .val (.int p2), .val (.int p3), .val (.int p4), .unset, .unset, .unset, .unset, .unset, .unset, .unset, .unset, .unset, .unset, .unset] [(.int (p1 &&& (3 : Int32)))])) _
    rw [q1]
    show Steps p.tables e below (s₁.setTop (mkF m 3 #[.val (.int p1), .val (.int p2), .val (.int p3), .val (.int p4), .unset, .unset, .unset, .unset, .unset, .unset, .unset, .unset, .unset, .unset, .unset] [(.int (Int32.ofNat u1))])) _
    refine XS.istore X0.here hx rfl (hb hby at_3) rfl (l' := #[.val (.int p1), .val (.int p2), .val (.int p3), .val (.int p4), .val (.int (Int32.ofNat u1)), .unset, .unset, .unset, .unset, .unset, .unset, .unset, .unset, .unset, .unset]) rfl ?_
    show Steps p.tables e below (s₁.setTop (mkF m 5 #[.val (.int p1), .val (.int p2), .val (.int p3), .val (.int p4), .val (.int (Int32.ofNat u1)), .unset, .unset, .unset, .unset, .unset, .unset, .unset, .unset, .unset, .unset] [])) _
    refine XS.iloadN X0.here hx rfl (hb hby at_5) rfl ?_
    show Steps p.tables e below (s₁.setTop (mkF m 6 #[.val (.int p1), .val (.int p2), .val (.int p3), .val (.int p4), .val (.int (Int32.ofNat u1)), .unset, .unset, .unset, .unset, .unset, .unset, .unset, .unset, .unset, .unset] [(.int p1)])) _
    refine XS.iconst X0.here hx rfl (hb hby at_6) ?_
    show Steps p.tables e below (s₁.setTop (mkF m 7 #[.val (.int p1), .val (.int p2), .val (.int p3), .val (.int p4), .val (.int (Int32.ofNat u1)), .unset, .unset, .unset, .unset, .unset, .unset, .unset, .unset, .unset, .unset] [(.int (2 : Int32)), (.int p1)])) _
    refine XS.iushr X0.here hx rfl (hb hby at_7) rfl ?_
    show Steps p.tables e below (s₁.setTop (mkF m 8 #[.val (.int p1), .val (.int p2), .val (.int p3), .val (.int p4), .val (.int (Int32.ofNat u1)), .unset, .unset, .unset, .unset, .unset, .unset, .unset, .unset, .unset, .unset] [(.int ((p1.toUInt32 >>> ((2 : Int32) &&& 31).toUInt32).toInt32))])) _
    refine XS.iconst X0.here hx rfl (hb hby at_8) ?_
    show Steps p.tables e below (s₁.setTop (mkF m 9 #[.val (.int p1), .val (.int p2), .val (.int p3), .val (.int p4), .val (.int (Int32.ofNat u1)), .unset, .unset, .unset, .unset, .unset, .unset, .unset, .unset, .unset, .unset] [(.int (3 : Int32)), (.int ((p1.toUInt32 >>> ((2 : Int32) &&& 31).toUInt32).toInt32))])) _
    refine XS.iand X0.here hx rfl (hb hby at_9) rfl ?_
    show Steps p.tables e below (s₁.setTop (mkF m 10 #[.val (.int p1), .val (.int p2), .val (.int p3), .val (.int p4), .val (.int (Int32.ofNat u1)), .unset, .unset, .unset, .unset, .unset, .unset, .unset, .unset, .unset, .unset] [(.int (((p1.toUInt32 >>> ((2 : Int32) &&& 31).toUInt32).toInt32) &&& (3 : Int32)))])) _
    rw [q2]
    show Steps p.tables e below (s₁.setTop (mkF m 10 #[.val (.int p1), .val (.int p2), .val (.int p3), .val (.int p4), .val (.int (Int32.ofNat u1)), .unset, .unset, .unset, .unset, .unset, .unset, .unset, .unset, .unset, .unset] [(.int (Int32.ofNat u2))])) _
    refine XS.istore X0.here hx rfl (hb hby at_10) rfl (l' := #[.val (.int p1), .val (.int p2), .val (.int p3), .val (.int p4), .val (.int (Int32.ofNat u1)), .val (.int (Int32.ofNat u2)), .unset, .unset, .unset, .unset, .unset, .unset, .unset, .unset, .unset]) rfl ?_
    show Steps p.tables e below (s₁.setTop (mkF m 12 #[.val (.int p1), .val (.int p2), .val (.int p3), .val (.int p4), .val (.int (Int32.ofNat u1)), .val (.int (Int32.ofNat u2)), .unset, .unset, .unset, .unset, .unset, .unset, .unset, .unset, .unset] [])) _
    refine XS.iloadN X0.here hx rfl (hb hby at_12) rfl ?_
    show Steps p.tables e below (s₁.setTop (mkF m 13 #[.val (.int p1), .val (.int p2), .val (.int p3), .val (.int p4), .val (.int (Int32.ofNat u1)), .val (.int (Int32.ofNat u2)), .unset, .unset, .unset, .unset, .unset, .unset, .unset, .unset, .unset] [(.int p1)])) _
    refine XS.iconst X0.here hx rfl (hb hby at_13) ?_
    show Steps p.tables e below (s₁.setTop (mkF m 14 #[.val (.int p1), .val (.int p2), .val (.int p3), .val (.int p4), .val (.int (Int32.ofNat u1)), .val (.int (Int32.ofNat u2)), .unset, .unset, .unset, .unset, .unset, .unset, .unset, .unset, .unset] [(.int (4 : Int32)), (.int p1)])) _
    refine XS.iushr X0.here hx rfl (hb hby at_14) rfl ?_
    show Steps p.tables e below (s₁.setTop (mkF m 15 #[.val (.int p1), .val (.int p2), .val (.int p3), .val (.int p4), .val (.int (Int32.ofNat u1)), .val (.int (Int32.ofNat u2)), .unset, .unset, .unset, .unset, .unset, .unset, .unset, .unset, .unset] [(.int ((p1.toUInt32 >>> ((4 : Int32) &&& 31).toUInt32).toInt32))])) _
    refine XS.iconst X0.here hx rfl (hb hby at_15) ?_
    show Steps p.tables e below (s₁.setTop (mkF m 16 #[.val (.int p1), .val (.int p2), .val (.int p3), .val (.int p4), .val (.int (Int32.ofNat u1)), .val (.int (Int32.ofNat u2)), .unset, .unset, .unset, .unset, .unset, .unset, .unset, .unset, .unset] [(.int (3 : Int32)), (.int ((p1.toUInt32 >>> ((4 : Int32) &&& 31).toUInt32).toInt32))])) _
    refine XS.iand X0.here hx rfl (hb hby at_16) rfl ?_
    show Steps p.tables e below (s₁.setTop (mkF m 17 #[.val (.int p1), .val (.int p2), .val (.int p3), .val (.int p4), .val (.int (Int32.ofNat u1)), .val (.int (Int32.ofNat u2)), .unset, .unset, .unset, .unset, .unset, .unset, .unset, .unset, .unset] [(.int (((p1.toUInt32 >>> ((4 : Int32) &&& 31).toUInt32).toInt32) &&& (3 : Int32)))])) _
    rw [q3]
    show Steps p.tables e below (s₁.setTop (mkF m 17 #[.val (.int p1), .val (.int p2), .val (.int p3), .val (.int p4), .val (.int (Int32.ofNat u1)), .val (.int (Int32.ofNat u2)), .unset, .unset, .unset, .unset, .unset, .unset, .unset, .unset, .unset] [(.int (Int32.ofNat u3))])) _
    refine XS.istore X0.here hx rfl (hb hby at_17) rfl (l' := #[.val (.int p1), .val (.int p2), .val (.int p3), .val (.int p4), .val (.int (Int32.ofNat u1)), .val (.int (Int32.ofNat u2)), .val (.int (Int32.ofNat u3)), .unset, .unset, .unset, .unset, .unset, .unset, .unset, .unset]) rfl ?_
    show Steps p.tables e below (s₁.setTop (mkF m 19 #[.val (.int p1), .val (.int p2), .val (.int p3), .val (.int p4), .val (.int (Int32.ofNat u1)), .val (.int (Int32.ofNat u2)), .val (.int (Int32.ofNat u3)), .unset, .unset, .unset, .unset, .unset, .unset, .unset, .unset] [])) _
    refine XS.iload X0.here hx rfl (hb hby at_19) rfl ?_
    show Steps p.tables e below (s₁.setTop (mkF m 21 #[.val (.int p1), .val (.int p2), .val (.int p3), .val (.int p4), .val (.int (Int32.ofNat u1)), .val (.int (Int32.ofNat u2)), .val (.int (Int32.ofNat u3)), .unset, .unset, .unset, .unset, .unset, .unset, .unset, .unset] [(.int (Int32.ofNat u1))])) _
    refine XS.iloadN X0.here hx rfl (hb hby at_21) rfl ?_
    show Steps p.tables e below (s₁.setTop (mkF m 22 #[.val (.int p1), .val (.int p2), .val (.int p3), .val (.int p4), .val (.int (Int32.ofNat u1)), .val (.int (Int32.ofNat u2)), .val (.int (Int32.ofNat u3)), .unset, .unset, .unset, .unset, .unset, .unset, .unset, .unset] [(.int p2), (.int (Int32.ofNat u1))])) _
    refine stsa.trans ?_
    show Steps p.tables e below (Tsa.setTop (mkF m 25 #[.val (.int p1), .val (.int p2), .val (.int p3), .val (.int p4), .val (.int (Int32.ofNat u1)), .val (.int (Int32.ofNat u2)), .val (.int (Int32.ofNat u3)), .unset, .unset, .unset, .unset, .unset, .unset, .unset, .unset] [(.ref x1)])) _
    refine XS.astore Xsa.here hx rfl (hb hby at_25) rfl rfl (l' := #[.val (.int p1), .val (.int p2), .val (.int p3), .val (.int p4), .val (.int (Int32.ofNat u1)), .val (.int (Int32.ofNat u2)), .val (.int (Int32.ofNat u3)), .val (.ref x1), .unset, .unset, .unset, .unset, .unset, .unset, .unset]) rfl ?_
    show Steps p.tables e below (Tsa.setTop (mkF m 27 #[.val (.int p1), .val (.int p2), .val (.int p3), .val (.int p4), .val (.int (Int32.ofNat u1)), .val (.int (Int32.ofNat u2)), .val (.int (Int32.ofNat u3)), .val (.ref x1), .unset, .unset, .unset, .unset, .unset, .unset, .unset] [])) _
    refine XS.iload Xsa.here hx rfl (hb hby at_27) rfl ?_
    show Steps p.tables e below (Tsa.setTop (mkF m 29 #[.val (.int p1), .val (.int p2), .val (.int p3), .val (.int p4), .val (.int (Int32.ofNat u1)), .val (.int (Int32.ofNat u2)), .val (.int (Int32.ofNat u3)), .val (.ref x1), .unset, .unset, .unset, .unset, .unset, .unset, .unset] [(.int (Int32.ofNat u2))])) _
    refine XS.iloadN Xsa.here hx rfl (hb hby at_29) rfl ?_
    show Steps p.tables e below (Tsa.setTop (mkF m 30 #[.val (.int p1), .val (.int p2), .val (.int p3), .val (.int p4), .val (.int (Int32.ofNat u1)), .val (.int (Int32.ofNat u2)), .val (.int (Int32.ofNat u3)), .val (.ref x1), .unset, .unset, .unset, .unset, .unset, .unset, .unset] [(.int p3), (.int (Int32.ofNat u2))])) _
    refine stsb.trans ?_
    show Steps p.tables e below (Tsb.setTop (mkF m 33 #[.val (.int p1), .val (.int p2), .val (.int p3), .val (.int p4), .val (.int (Int32.ofNat u1)), .val (.int (Int32.ofNat u2)), .val (.int (Int32.ofNat u3)), .val (.ref x1), .unset, .unset, .unset, .unset, .unset, .unset, .unset] [(.ref x2)])) _
    refine XS.astore Xsb.here hx rfl (hb hby at_33) rfl rfl (l' := #[.val (.int p1), .val (.int p2), .val (.int p3), .val (.int p4), .val (.int (Int32.ofNat u1)), .val (.int (Int32.ofNat u2)), .val (.int (Int32.ofNat u3)), .val (.ref x1), .val (.ref x2), .unset, .unset, .unset, .unset, .unset, .unset]) rfl ?_
    show Steps p.tables e below (Tsb.setTop (mkF m 35 #[.val (.int p1), .val (.int p2), .val (.int p3), .val (.int p4), .val (.int (Int32.ofNat u1)), .val (.int (Int32.ofNat u2)), .val (.int (Int32.ofNat u3)), .val (.ref x1), .val (.ref x2), .unset, .unset, .unset, .unset, .unset, .unset] [])) _
    refine XS.iload Xsb.here hx rfl (hb hby at_35) rfl ?_
    show Steps p.tables e below (Tsb.setTop (mkF m 37 #[.val (.int p1), .val (.int p2), .val (.int p3), .val (.int p4), .val (.int (Int32.ofNat u1)), .val (.int (Int32.ofNat u2)), .val (.int (Int32.ofNat u3)), .val (.ref x1), .val (.ref x2), .unset, .unset, .unset, .unset, .unset, .unset] [(.int (Int32.ofNat u3))])) _
    refine XS.iloadN Xsb.here hx rfl (hb hby at_37) rfl ?_
    show Steps p.tables e below (Tsb.setTop (mkF m 38 #[.val (.int p1), .val (.int p2), .val (.int p3), .val (.int p4), .val (.int (Int32.ofNat u1)), .val (.int (Int32.ofNat u2)), .val (.int (Int32.ofNat u3)), .val (.ref x1), .val (.ref x2), .unset, .unset, .unset, .unset, .unset, .unset] [(.int p4), (.int (Int32.ofNat u3))])) _
    refine stsc.trans ?_
    show Steps p.tables e below (Tsc.setTop (mkF m 41 #[.val (.int p1), .val (.int p2), .val (.int p3), .val (.int p4), .val (.int (Int32.ofNat u1)), .val (.int (Int32.ofNat u2)), .val (.int (Int32.ofNat u3)), .val (.ref x1), .val (.ref x2), .unset, .unset, .unset, .unset, .unset, .unset] [(.ref x3)])) _
    refine XS.astore Xsc.here hx rfl (hb hby at_41) rfl rfl (l' := #[.val (.int p1), .val (.int p2), .val (.int p3), .val (.int p4), .val (.int (Int32.ofNat u1)), .val (.int (Int32.ofNat u2)), .val (.int (Int32.ofNat u3)), .val (.ref x1), .val (.ref x2), .val (.ref x3), .unset, .unset, .unset, .unset, .unset]) rfl ?_
    show Steps p.tables e below (Tsc.setTop (mkF m 43 #[.val (.int p1), .val (.int p2), .val (.int p3), .val (.int p4), .val (.int (Int32.ofNat u1)), .val (.int (Int32.ofNat u2)), .val (.int (Int32.ofNat u3)), .val (.ref x1), .val (.ref x2), .val (.ref x3), .unset, .unset, .unset, .unset, .unset] [])) _
    refine stn _ ?_
    show Steps p.tables e below (Tn.setTop (mkF m 46 #[.val (.int p1), .val (.int p2), .val (.int p3), .val (.int p4), .val (.int (Int32.ofNat u1)), .val (.int (Int32.ofNat u2)), .val (.int (Int32.ofNat u3)), .val (.ref x1), .val (.ref x2), .val (.ref x3), .unset, .unset, .unset, .unset, .unset] [(.ref b)])) _
    refine XS.dup Xn.here hx rfl (hb hby at_46) rfl rfl ?_
    show Steps p.tables e below (Tn.setTop (mkF m 47 #[.val (.int p1), .val (.int p2), .val (.int p3), .val (.int p4), .val (.int (Int32.ofNat u1)), .val (.int (Int32.ofNat u2)), .val (.int (Int32.ofNat u3)), .val (.ref x1), .val (.ref x2), .val (.ref x3), .unset, .unset, .unset, .unset, .unset] [(.ref b), (.ref b)])) _
    refine sti.trans ?_
    show Steps p.tables e below (Ti.setTop (mkF m 50 #[.val (.int p1), .val (.int p2), .val (.int p3), .val (.int p4), .val (.int (Int32.ofNat u1)), .val (.int (Int32.ofNat u2)), .val (.int (Int32.ofNat u3)), .val (.ref x1), .val (.ref x2), .val (.ref x3), .unset, .unset, .unset, .unset, .unset] [(.ref b)])) _
    refine XS.astore Yi.here hx rfl (hb hby at_50) rfl rfl (l' := #[.val (.int p1), .val (.int p2), .val (.int p3), .val (.int p4), .val (.int (Int32.ofNat u1)), .val (.int (Int32.ofNat u2)), .val (.int (Int32.ofNat u3)), .val (.ref x1), .val (.ref x2), .val (.ref x3), .val (.ref b), .unset, .unset, .unset, .unset]) rfl ?_
    show Steps p.tables e below (Ti.setTop (mkF m 52 #[.val (.int p1), .val (.int p2), .val (.int p3), .val (.int p4), .val (.int (Int32.ofNat u1)), .val (.int (Int32.ofNat u2)), .val (.int (Int32.ofNat u3)), .val (.ref x1), .val (.ref x2), .val (.ref x3), .val (.ref b), .unset, .unset, .unset, .unset] [])) _
    refine XS.aload Yi.here hx rfl (hb hby at_52) rfl rfl ?_
    show Steps p.tables e below (Ti.setTop (mkF m 54 #[.val (.int p1), .val (.int p2), .val (.int p3), .val (.int p4), .val (.int (Int32.ofNat u1)), .val (.int (Int32.ofNat u2)), .val (.int (Int32.ofNat u3)), .val (.ref x1), .val (.ref x2), .val (.ref x3), .val (.ref b), .unset, .unset, .unset, .unset] [(.ref b)])) _
    refine XS.aload Yi.here hx rfl (hb hby at_54) rfl rfl ?_
    show Steps p.tables e below (Ti.setTop (mkF m 56 #[.val (.int p1), .val (.int p2), .val (.int p3), .val (.int p4), .val (.int (Int32.ofNat u1)), .val (.int (Int32.ofNat u2)), .val (.int (Int32.ofNat u3)), .val (.ref x1), .val (.ref x2), .val (.ref x3), .val (.ref b), .unset, .unset, .unset, .unset] [(.ref x1), (.ref b)])) _
    refine stad.trans ?_
    show Steps p.tables e below (Tad.setTop (mkF m 59 #[.val (.int p1), .val (.int p2), .val (.int p3), .val (.int p4), .val (.int (Int32.ofNat u1)), .val (.int (Int32.ofNat u2)), .val (.int (Int32.ofNat u3)), .val (.ref x1), .val (.ref x2), .val (.ref x3), .val (.ref b), .unset, .unset, .unset, .unset] [(.int (own_start ([] ++ c1) (0 + c1.length)))])) _
    rw [show own_start ([] ++ c1) (0 + c1.length) = (0 : Int32) from own_start1 c1 (by omega)]
    show Steps p.tables e below (Tad.setTop (mkF m 59 #[.val (.int p1), .val (.int p2), .val (.int p3), .val (.int p4), .val (.int (Int32.ofNat u1)), .val (.int (Int32.ofNat u2)), .val (.int (Int32.ofNat u3)), .val (.ref x1), .val (.ref x2), .val (.ref x3), .val (.ref b), .unset, .unset, .unset, .unset] [(.int (0 : Int32))])) _
    refine XS.istore Yad.here hx rfl (hb hby at_59) rfl (l' := #[.val (.int p1), .val (.int p2), .val (.int p3), .val (.int p4), .val (.int (Int32.ofNat u1)), .val (.int (Int32.ofNat u2)), .val (.int (Int32.ofNat u3)), .val (.ref x1), .val (.ref x2), .val (.ref x3), .val (.ref b), .val (.int (0 : Int32)), .unset, .unset, .unset]) rfl ?_
    show Steps p.tables e below (Tad.setTop (mkF m 61 #[.val (.int p1), .val (.int p2), .val (.int p3), .val (.int p4), .val (.int (Int32.ofNat u1)), .val (.int (Int32.ofNat u2)), .val (.int (Int32.ofNat u3)), .val (.ref x1), .val (.ref x2), .val (.ref x3), .val (.ref b), .val (.int (0 : Int32)), .unset, .unset, .unset] [])) _
    refine XS.aload Yad.here hx rfl (hb hby at_61) rfl rfl ?_
    show Steps p.tables e below (Tad.setTop (mkF m 63 #[.val (.int p1), .val (.int p2), .val (.int p3), .val (.int p4), .val (.int (Int32.ofNat u1)), .val (.int (Int32.ofNat u2)), .val (.int (Int32.ofNat u3)), .val (.ref x1), .val (.ref x2), .val (.ref x3), .val (.ref b), .val (.int (0 : Int32)), .unset, .unset, .unset] [(.ref b)])) _
    refine XS.aload Yad.here hx rfl (hb hby at_63) rfl rfl ?_
    show Steps p.tables e below (Tad.setTop (mkF m 65 #[.val (.int p1), .val (.int p2), .val (.int p3), .val (.int p4), .val (.int (Int32.ofNat u1)), .val (.int (Int32.ofNat u2)), .val (.int (Int32.ofNat u3)), .val (.ref x1), .val (.ref x2), .val (.ref x3), .val (.ref b), .val (.int (0 : Int32)), .unset, .unset, .unset] [(.ref x2), (.ref b)])) _
    refine stpa _ ?_
    show Steps p.tables e below (Tpa.setTop (mkF m 68 #[.val (.int p1), .val (.int p2), .val (.int p3), .val (.int p4), .val (.int (Int32.ofNat u1)), .val (.int (Int32.ofNat u2)), .val (.int (Int32.ofNat u3)), .val (.ref x1), .val (.ref x2), .val (.ref x3), .val (.ref b), .val (.int (0 : Int32)), .unset, .unset, .unset] [])) _
    refine XS.aload Xpa.here hx rfl (hb hby at_68) rfl rfl ?_
    show Steps p.tables e below (Tpa.setTop (mkF m 70 #[.val (.int p1), .val (.int p2), .val (.int p3), .val (.int p4), .val (.int (Int32.ofNat u1)), .val (.int (Int32.ofNat u2)), .val (.int (Int32.ofNat u3)), .val (.ref x1), .val (.ref x2), .val (.ref x3), .val (.ref b), .val (.int (0 : Int32)), .unset, .unset, .unset] [(.ref b)])) _
    refine XS.aload Xpa.here hx rfl (hb hby at_70) rfl rfl ?_
    show Steps p.tables e below (Tpa.setTop (mkF m 72 #[.val (.int p1), .val (.int p2), .val (.int p3), .val (.int p4), .val (.int (Int32.ofNat u1)), .val (.int (Int32.ofNat u2)), .val (.int (Int32.ofNat u3)), .val (.ref x1), .val (.ref x2), .val (.ref x3), .val (.ref b), .val (.int (0 : Int32)), .unset, .unset, .unset] [(.ref x3), (.ref b)])) _
    refine stpb _ ?_
    show Steps p.tables e below (Tpb.setTop (mkF m 75 #[.val (.int p1), .val (.int p2), .val (.int p3), .val (.int p4), .val (.int (Int32.ofNat u1)), .val (.int (Int32.ofNat u2)), .val (.int (Int32.ofNat u3)), .val (.ref x1), .val (.ref x2), .val (.ref x3), .val (.ref b), .val (.int (0 : Int32)), .unset, .unset, .unset] [])) _
    refine XS.aload Xpb.here hx rfl (hb hby at_75) rfl rfl ?_
    show Steps p.tables e below (Tpb.setTop (mkF m 77 #[.val (.int p1), .val (.int p2), .val (.int p3), .val (.int p4), .val (.int (Int32.ofNat u1)), .val (.int (Int32.ofNat u2)), .val (.int (Int32.ofNat u3)), .val (.ref x1), .val (.ref x2), .val (.ref x3), .val (.ref b), .val (.int (0 : Int32)), .unset, .unset, .unset] [(.ref b)])) _
    refine stcl.trans ?_
    show Steps p.tables e below (Tcl.setTop (mkF m 80 #[.val (.int p1), .val (.int p2), .val (.int p3), .val (.int p4), .val (.int (Int32.ofNat u1)), .val (.int (Int32.ofNat u2)), .val (.int (Int32.ofNat u3)), .val (.ref x1), .val (.ref x2), .val (.ref x3), .val (.ref b), .val (.int (0 : Int32)), .unset, .unset, .unset] [(.int (own_start (c1 ++ c2 ++ c3) (0 + c2.length + c3.length)))])) _
    rw [own_start3 c1 c2 c3 hl1 hl2 hl3 hu2 hu3, ← hrr]
    show Steps p.tables e below (Tcl.setTop (mkF m 80 #[.val (.int p1), .val (.int p2), .val (.int p3), .val (.int p4), .val (.int (Int32.ofNat u1)), .val (.int (Int32.ofNat u2)), .val (.int (Int32.ofNat u3)), .val (.ref x1), .val (.ref x2), .val (.ref x3), .val (.ref b), .val (.int (0 : Int32)), .unset, .unset, .unset] [(.int (Int32.ofNat rr))])) _
    refine XS.istore Ycl.here hx rfl (hb hby at_80) rfl (l' := #[.val (.int p1), .val (.int p2), .val (.int p3), .val (.int p4), .val (.int (Int32.ofNat u1)), .val (.int (Int32.ofNat u2)), .val (.int (Int32.ofNat u3)), .val (.ref x1), .val (.ref x2), .val (.ref x3), .val (.ref b), .val (.int (0 : Int32)), .val (.int (Int32.ofNat rr)), .unset, .unset]) rfl ?_
    show Steps p.tables e below (Tcl.setTop (mkF m 82 #[.val (.int p1), .val (.int p2), .val (.int p3), .val (.int p4), .val (.int (Int32.ofNat u1)), .val (.int (Int32.ofNat u2)), .val (.int (Int32.ofNat u3)), .val (.ref x1), .val (.ref x2), .val (.ref x3), .val (.ref b), .val (.int (0 : Int32)), .val (.int (Int32.ofNat rr)), .unset, .unset] [])) _
    refine XS.iload Ycl.here hx rfl (hb hby at_82) rfl ?_
    show Steps p.tables e below (Tcl.setTop (mkF m 84 #[.val (.int p1), .val (.int p2), .val (.int p3), .val (.int p4), .val (.int (Int32.ofNat u1)), .val (.int (Int32.ofNat u2)), .val (.int (Int32.ofNat u3)), .val (.ref x1), .val (.ref x2), .val (.ref x3), .val (.ref b), .val (.int (0 : Int32)), .val (.int (Int32.ofNat rr)), .unset, .unset] [(.int (Int32.ofNat u2))])) _
    refine XS.iload Ycl.here hx rfl (hb hby at_84) rfl ?_
    show Steps p.tables e below (Tcl.setTop (mkF m 86 #[.val (.int p1), .val (.int p2), .val (.int p3), .val (.int p4), .val (.int (Int32.ofNat u1)), .val (.int (Int32.ofNat u2)), .val (.int (Int32.ofNat u3)), .val (.ref x1), .val (.ref x2), .val (.ref x3), .val (.ref b), .val (.int (0 : Int32)), .val (.int (Int32.ofNat rr)), .unset, .unset] [(.int (Int32.ofNat u3)), (.int (Int32.ofNat u2))])) _
    refine XS.iadd Ycl.here hx rfl (hb hby at_86) rfl ?_
    show Steps p.tables e below (Tcl.setTop (mkF m 87 #[.val (.int p1), .val (.int p2), .val (.int p3), .val (.int p4), .val (.int (Int32.ofNat u1)), .val (.int (Int32.ofNat u2)), .val (.int (Int32.ofNat u3)), .val (.ref x1), .val (.ref x2), .val (.ref x3), .val (.ref b), .val (.int (0 : Int32)), .val (.int (Int32.ofNat rr)), .unset, .unset] [(.int ((Int32.ofNat u2) + (Int32.ofNat u3)))])) _
    rw [own_add]
    show Steps p.tables e below (Tcl.setTop (mkF m 87 #[.val (.int p1), .val (.int p2), .val (.int p3), .val (.int p4), .val (.int (Int32.ofNat u1)), .val (.int (Int32.ofNat u2)), .val (.int (Int32.ofNat u3)), .val (.ref x1), .val (.ref x2), .val (.ref x3), .val (.ref b), .val (.int (0 : Int32)), .val (.int (Int32.ofNat rr)), .unset, .unset] [(.int (Int32.ofNat (u2 + u3)))])) _
    refine key87 _ ?_
    show Steps p.tables e below (Tcl.setTop (mkF m 96 #[.val (.int p1), .val (.int p2), .val (.int p3), .val (.int p4), .val (.int (Int32.ofNat u1)), .val (.int (Int32.ofNat u2)), .val (.int (Int32.ofNat u3)), .val (.ref x1), .val (.ref x2), .val (.ref x3), .val (.ref b), .val (.int (0 : Int32)), .val (.int (Int32.ofNat rr)), .unset, .unset] [(.int vI)])) _
    refine XS.istore Ycl.here hx rfl (hb hby at_96) rfl (l' := #[.val (.int p1), .val (.int p2), .val (.int p3), .val (.int p4), .val (.int (Int32.ofNat u1)), .val (.int (Int32.ofNat u2)), .val (.int (Int32.ofNat u3)), .val (.ref x1), .val (.ref x2), .val (.ref x3), .val (.ref b), .val (.int (0 : Int32)), .val (.int (Int32.ofNat rr)), .val (.int vI), .unset]) rfl ?_
    show Steps p.tables e below (Tcl.setTop (mkF m 98 #[.val (.int p1), .val (.int p2), .val (.int p3), .val (.int p4), .val (.int (Int32.ofNat u1)), .val (.int (Int32.ofNat u2)), .val (.int (Int32.ofNat u3)), .val (.ref x1), .val (.ref x2), .val (.ref x3), .val (.ref b), .val (.int (0 : Int32)), .val (.int (Int32.ofNat rr)), .val (.int vI), .unset] [])) _
    refine XS.iload Ycl.here hx rfl (hb hby at_98) rfl ?_
    show Steps p.tables e below (Tcl.setTop (mkF m 100 #[.val (.int p1), .val (.int p2), .val (.int p3), .val (.int p4), .val (.int (Int32.ofNat u1)), .val (.int (Int32.ofNat u2)), .val (.int (Int32.ofNat u3)), .val (.ref x1), .val (.ref x2), .val (.ref x3), .val (.ref b), .val (.int (0 : Int32)), .val (.int (Int32.ofNat rr)), .val (.int vI), .unset] [(.int (0 : Int32))])) _
    refine XS.ifNo Ycl.here hx rfl (hb hby at_100) rfl ((if0 _ _).trans (teq (rfl : (0 : Int32) = 0)).2) ?_
    show Steps p.tables e below (Tcl.setTop (mkF m 103 #[.val (.int p1), .val (.int p2), .val (.int p3), .val (.int p4), .val (.int (Int32.ofNat u1)), .val (.int (Int32.ofNat u2)), .val (.int (Int32.ofNat u3)), .val (.ref x1), .val (.ref x2), .val (.ref x3), .val (.ref b), .val (.int (0 : Int32)), .val (.int (Int32.ofNat rr)), .val (.int vI), .unset] [])) _
    refine XS.iload Ycl.here hx rfl (hb hby at_103) rfl ?_
    show Steps p.tables e below (Tcl.setTop (mkF m 105 #[.val (.int p1), .val (.int p2), .val (.int p3), .val (.int p4), .val (.int (Int32.ofNat u1)), .val (.int (Int32.ofNat u2)), .val (.int (Int32.ofNat u3)), .val (.ref x1), .val (.ref x2), .val (.ref x3), .val (.ref b), .val (.int (0 : Int32)), .val (.int (Int32.ofNat rr)), .val (.int vI), .unset] [(.int (Int32.ofNat rr))])) _
    refine XS.iload Ycl.here hx rfl (hb hby at_105) rfl ?_
    show Steps p.tables e below (Tcl.setTop (mkF m 107 #[.val (.int p1), .val (.int p2), .val (.int p3), .val (.int p4), .val (.int (Int32.ofNat u1)), .val (.int (Int32.ofNat u2)), .val (.int (Int32.ofNat u3)), .val (.ref x1), .val (.ref x2), .val (.ref x3), .val (.ref b), .val (.int (0 : Int32)), .val (.int (Int32.ofNat rr)), .val (.int vI), .unset] [(.int vI), (.int (Int32.ofNat rr))])) _
    refine XS.icmpNo Ycl.here hx rfl (hb hby at_107) rfl (teq hvI.symm).2 ?_
    show Steps p.tables e below (Tcl.setTop (mkF m 110 #[.val (.int p1), .val (.int p2), .val (.int p3), .val (.int p4), .val (.int (Int32.ofNat u1)), .val (.int (Int32.ofNat u2)), .val (.int (Int32.ofNat u3)), .val (.ref x1), .val (.ref x2), .val (.ref x3), .val (.ref b), .val (.int (0 : Int32)), .val (.int (Int32.ofNat rr)), .val (.int vI), .unset] [])) _
    refine XS.iconst Ycl.here hx rfl (hb hby at_110) ?_
    show Steps p.tables e below (Tcl.setTop (mkF m 111 #[.val (.int p1), .val (.int p2), .val (.int p3), .val (.int p4), .val (.int (Int32.ofNat u1)), .val (.int (Int32.ofNat u2)), .val (.int (Int32.ofNat u3)), .val (.ref x1), .val (.ref x2), .val (.ref x3), .val (.ref b), .val (.int (0 : Int32)), .val (.int (Int32.ofNat rr)), .val (.int vI), .unset] [(.int (1 : Int32))])) _
    refine XS.goto Ycl.here hx rfl (pc0 := 111) (pc' := 115) rfl (hb hby at_111) (by decide) (by decide) ?_
    show Steps p.tables e below (Tcl.setTop (mkF m 115 #[.val (.int p1), .val (.int p2), .val (.int p3), .val (.int p4), .val (.int (Int32.ofNat u1)), .val (.int (Int32.ofNat u2)), .val (.int (Int32.ofNat u3)), .val (.ref x1), .val (.ref x2), .val (.ref x3), .val (.ref b), .val (.int (0 : Int32)), .val (.int (Int32.ofNat rr)), .val (.int vI), .unset] [(.int (1 : Int32))])) _
    refine XS.istore Ycl.here hx rfl (hb hby at_115) rfl (l' := #[.val (.int p1), .val (.int p2), .val (.int p3), .val (.int p4), .val (.int (Int32.ofNat u1)), .val (.int (Int32.ofNat u2)), .val (.int (Int32.ofNat u3)), .val (.ref x1), .val (.ref x2), .val (.ref x3), .val (.ref b), .val (.int (0 : Int32)), .val (.int (Int32.ofNat rr)), .val (.int vI), .val (.int (1 : Int32))]) rfl ?_
    show Steps p.tables e below (Tcl.setTop (mkF m 117 #[.val (.int p1), .val (.int p2), .val (.int p3), .val (.int p4), .val (.int (Int32.ofNat u1)), .val (.int (Int32.ofNat u2)), .val (.int (Int32.ofNat u3)), .val (.ref x1), .val (.ref x2), .val (.ref x3), .val (.ref b), .val (.int (0 : Int32)), .val (.int (Int32.ofNat rr)), .val (.int vI), .val (.int (1 : Int32))] [])) _
    refine XS.iload Ycl.here hx rfl (hb hby at_117) rfl ?_
    show Steps p.tables e below (Tcl.setTop (mkF m 119 #[.val (.int p1), .val (.int p2), .val (.int p3), .val (.int p4), .val (.int (Int32.ofNat u1)), .val (.int (Int32.ofNat u2)), .val (.int (Int32.ofNat u3)), .val (.ref x1), .val (.ref x2), .val (.ref x3), .val (.ref b), .val (.int (0 : Int32)), .val (.int (Int32.ofNat rr)), .val (.int vI), .val (.int (1 : Int32))] [(.int (1 : Int32))])) _
    refine XS.ifNo Ycl.here hx rfl (hb hby at_119) rfl ((if0 _ _).trans (feq (by decide : ¬ ((1 : Int32) = 0))).1) ?_
    show Steps p.tables e below (Tcl.setTop (mkF m 122 #[.val (.int p1), .val (.int p2), .val (.int p3), .val (.int p4), .val (.int (Int32.ofNat u1)), .val (.int (Int32.ofNat u2)), .val (.int (Int32.ofNat u3)), .val (.ref x1), .val (.ref x2), .val (.ref x3), .val (.ref b), .val (.int (0 : Int32)), .val (.int (Int32.ofNat rr)), .val (.int vI), .val (.int (1 : Int32))] [])) _
    refine XS.aload Ycl.here hx rfl (hb hby at_122) rfl rfl ?_
    show Steps p.tables e below (Tcl.setTop (mkF m 124 #[.val (.int p1), .val (.int p2), .val (.int p3), .val (.int p4), .val (.int (Int32.ofNat u1)), .val (.int (Int32.ofNat u2)), .val (.int (Int32.ofNat u3)), .val (.ref x1), .val (.ref x2), .val (.ref x3), .val (.ref b), .val (.int (0 : Int32)), .val (.int (Int32.ofNat rr)), .val (.int vI), .val (.int (1 : Int32))] [(.ref b)])) _
    refine stop.trans ?_
    show Steps p.tables e below (Top.setTop (mkF m 127 #[.val (.int p1), .val (.int p2), .val (.int p3), .val (.int p4), .val (.int (Int32.ofNat u1)), .val (.int (Int32.ofNat u2)), .val (.int (Int32.ofNat u3)), .val (.ref x1), .val (.ref x2), .val (.ref x3), .val (.ref b), .val (.int (0 : Int32)), .val (.int (Int32.ofNat rr)), .val (.int vI), .val (.int (1 : Int32))] [(.int (Int32.ofNat 0))])) _
    refine XS.ifNo Xop.here hx rfl (hb hby at_127) rfl ((if0 _ _).trans (teq (rfl : Int32.ofNat 0 = (0 : Int32))).2) ?_
    show Steps p.tables e below (Top.setTop (mkF m 130 #[.val (.int p1), .val (.int p2), .val (.int p3), .val (.int p4), .val (.int (Int32.ofNat u1)), .val (.int (Int32.ofNat u2)), .val (.int (Int32.ofNat u3)), .val (.ref x1), .val (.ref x2), .val (.ref x3), .val (.ref b), .val (.int (0 : Int32)), .val (.int (Int32.ofNat rr)), .val (.int vI), .val (.int (1 : Int32))] [])) _
    refine XS.iconst Xop.here hx rfl (hb hby at_130) ?_
    show Steps p.tables e below (Top.setTop (mkF m 131 #[.val (.int p1), .val (.int p2), .val (.int p3), .val (.int p4), .val (.int (Int32.ofNat u1)), .val (.int (Int32.ofNat u2)), .val (.int (Int32.ofNat u3)), .val (.ref x1), .val (.ref x2), .val (.ref x3), .val (.ref b), .val (.int (0 : Int32)), .val (.int (Int32.ofNat rr)), .val (.int vI), .val (.int (1 : Int32))] [(.int (1 : Int32))])) _
    refine XS.goto Xop.here hx rfl (pc0 := 131) (pc' := 135) rfl (hb hby at_131) (by decide) (by decide) ?_
    show Steps p.tables e below (Top.setTop (mkF m 135 #[.val (.int p1), .val (.int p2), .val (.int p3), .val (.int p4), .val (.int (Int32.ofNat u1)), .val (.int (Int32.ofNat u2)), .val (.int (Int32.ofNat u3)), .val (.ref x1), .val (.ref x2), .val (.ref x3), .val (.ref b), .val (.int (0 : Int32)), .val (.int (Int32.ofNat rr)), .val (.int vI), .val (.int (1 : Int32))] [(.int (1 : Int32))])) _
    refine XS.istore Xop.here hx rfl (hb hby at_135) rfl (l' := #[.val (.int p1), .val (.int p2), .val (.int p3), .val (.int p4), .val (.int (Int32.ofNat u1)), .val (.int (Int32.ofNat u2)), .val (.int (Int32.ofNat u3)), .val (.ref x1), .val (.ref x2), .val (.ref x3), .val (.ref b), .val (.int (0 : Int32)), .val (.int (Int32.ofNat rr)), .val (.int vI), .val (.int (1 : Int32))]) rfl ?_
    show Steps p.tables e below (Top.setTop (mkF m 137 #[.val (.int p1), .val (.int p2), .val (.int p3), .val (.int p4), .val (.int (Int32.ofNat u1)), .val (.int (Int32.ofNat u2)), .val (.int (Int32.ofNat u3)), .val (.ref x1), .val (.ref x2), .val (.ref x3), .val (.ref b), .val (.int (0 : Int32)), .val (.int (Int32.ofNat rr)), .val (.int vI), .val (.int (1 : Int32))] [])) _
    refine XS.iload Xop.here hx rfl (hb hby at_137) rfl ?_
    show Steps p.tables e below (Top.setTop (mkF m 139 #[.val (.int p1), .val (.int p2), .val (.int p3), .val (.int p4), .val (.int (Int32.ofNat u1)), .val (.int (Int32.ofNat u2)), .val (.int (Int32.ofNat u3)), .val (.ref x1), .val (.ref x2), .val (.ref x3), .val (.ref b), .val (.int (0 : Int32)), .val (.int (Int32.ofNat rr)), .val (.int vI), .val (.int (1 : Int32))] [(.int (1 : Int32))])) _
    refine XS.ifNo Xop.here hx rfl (hb hby at_139) rfl ((if0 _ _).trans (feq (by decide : ¬ ((1 : Int32) = 0))).1) ?_
    show Steps p.tables e below (Top.setTop (mkF m 142 #[.val (.int p1), .val (.int p2), .val (.int p3), .val (.int p4), .val (.int (Int32.ofNat u1)), .val (.int (Int32.ofNat u2)), .val (.int (Int32.ofNat u3)), .val (.ref x1), .val (.ref x2), .val (.ref x3), .val (.ref b), .val (.int (0 : Int32)), .val (.int (Int32.ofNat rr)), .val (.int vI), .val (.int (1 : Int32))] [])) _
    refine XS.aload Xop.here hx rfl (hb hby at_142) rfl rfl ?_
    show Steps p.tables e below (Top.setTop (mkF m 144 #[.val (.int p1), .val (.int p2), .val (.int p3), .val (.int p4), .val (.int (Int32.ofNat u1)), .val (.int (Int32.ofNat u2)), .val (.int (Int32.ofNat u3)), .val (.ref x1), .val (.ref x2), .val (.ref x3), .val (.ref b), .val (.int (0 : Int32)), .val (.int (Int32.ofNat rr)), .val (.int vI), .val (.int (1 : Int32))] [(.ref b)])) _
    refine stcm.trans ?_
    show Steps p.tables e below (Tcm.setTop (mkF m 147 #[.val (.int p1), .val (.int p2), .val (.int p3), .val (.int p4), .val (.int (Int32.ofNat u1)), .val (.int (Int32.ofNat u2)), .val (.int (Int32.ofNat u3)), .val (.ref x1), .val (.ref x2), .val (.ref x3), .val (.ref b), .val (.int (0 : Int32)), .val (.int (Int32.ofNat rr)), .val (.int vI), .val (.int (1 : Int32))] [(.int (own_start (c1 ++ c2 ++ c3) 0))])) _
    rw [own_start0]
    show Steps p.tables e below (Tcm.setTop (mkF m 147 #[.val (.int p1), .val (.int p2), .val (.int p3), .val (.int p4), .val (.int (Int32.ofNat u1)), .val (.int (Int32.ofNat u2)), .val (.int (Int32.ofNat u3)), .val (.ref x1), .val (.ref x2), .val (.ref x3), .val (.ref b), .val (.int (0 : Int32)), .val (.int (Int32.ofNat rr)), .val (.int vI), .val (.int (1 : Int32))] [(.int (0 : Int32))])) _
    refine XS.ifNo Ycm.here hx rfl (hb hby at_147) rfl ((if0 _ _).trans (teq (rfl : (0 : Int32) = 0)).2) ?_
    show Steps p.tables e below (Tcm.setTop (mkF m 150 #[.val (.int p1), .val (.int p2), .val (.int p3), .val (.int p4), .val (.int (Int32.ofNat u1)), .val (.int (Int32.ofNat u2)), .val (.int (Int32.ofNat u3)), .val (.ref x1), .val (.ref x2), .val (.ref x3), .val (.ref b), .val (.int (0 : Int32)), .val (.int (Int32.ofNat rr)), .val (.int vI), .val (.int (1 : Int32))] [])) _
    refine XS.iconst Ycm.here hx rfl (hb hby at_150) ?_
    show Steps p.tables e below (Tcm.setTop (mkF m 151 #[.val (.int p1), .val (.int p2), .val (.int p3), .val (.int p4), .val (.int (Int32.ofNat u1)), .val (.int (Int32.ofNat u2)), .val (.int (Int32.ofNat u3)), .val (.ref x1), .val (.ref x2), .val (.ref x3), .val (.ref b), .val (.int (0 : Int32)), .val (.int (Int32.ofNat rr)), .val (.int vI), .val (.int (1 : Int32))] [(.int (1 : Int32))])) _
    refine XS.goto Ycm.here hx rfl (pc0 := 151) (pc' := 155) rfl (hb hby at_151) (by decide) (by decide) ?_
    show Steps p.tables e below (Tcm.setTop (mkF m 155 #[.val (.int p1), .val (.int p2), .val (.int p3), .val (.int p4), .val (.int (Int32.ofNat u1)), .val (.int (Int32.ofNat u2)), .val (.int (Int32.ofNat u3)), .val (.ref x1), .val (.ref x2), .val (.ref x3), .val (.ref b), .val (.int (0 : Int32)), .val (.int (Int32.ofNat rr)), .val (.int vI), .val (.int (1 : Int32))] [(.int (1 : Int32))])) _
    refine XS.istore Ycm.here hx rfl (hb hby at_155) rfl (l' := #[.val (.int p1), .val (.int p2), .val (.int p3), .val (.int p4), .val (.int (Int32.ofNat u1)), .val (.int (Int32.ofNat u2)), .val (.int (Int32.ofNat u3)), .val (.ref x1), .val (.ref x2), .val (.ref x3), .val (.ref b), .val (.int (0 : Int32)), .val (.int (Int32.ofNat rr)), .val (.int vI), .val (.int (1 : Int32))]) rfl ?_
    show Steps p.tables e below (Tcm.setTop (mkF m 157 #[.val (.int p1), .val (.int p2), .val (.int p3), .val (.int p4), .val (.int (Int32.ofNat u1)), .val (.int (Int32.ofNat u2)), .val (.int (Int32.ofNat u3)), .val (.ref x1), .val (.ref x2), .val (.ref x3), .val (.ref b), .val (.int (0 : Int32)), .val (.int (Int32.ofNat rr)), .val (.int vI), .val (.int (1 : Int32))] [])) _
    refine XS.iload Ycm.here hx rfl (hb hby at_157) rfl ?_
    show Steps p.tables e below (Tcm.setTop (mkF m 159 #[.val (.int p1), .val (.int p2), .val (.int p3), .val (.int p4), .val (.int (Int32.ofNat u1)), .val (.int (Int32.ofNat u2)), .val (.int (Int32.ofNat u3)), .val (.ref x1), .val (.ref x2), .val (.ref x3), .val (.ref b), .val (.int (0 : Int32)), .val (.int (Int32.ofNat rr)), .val (.int vI), .val (.int (1 : Int32))] [(.int (1 : Int32))])) _
    refine XS.ifNo Ycm.here hx rfl (hb hby at_159) rfl ((if0 _ _).trans (feq (by decide : ¬ ((1 : Int32) = 0))).1) ?_
    show Steps p.tables e below (Tcm.setTop (mkF m 162 #[.val (.int p1), .val (.int p2), .val (.int p3), .val (.int p4), .val (.int (Int32.ofNat u1)), .val (.int (Int32.ofNat u2)), .val (.int (Int32.ofNat u3)), .val (.ref x1), .val (.ref x2), .val (.ref x3), .val (.ref b), .val (.int (0 : Int32)), .val (.int (Int32.ofNat rr)), .val (.int vI), .val (.int (1 : Int32))] [])) _
    refine XS.aload Ycm.here hx rfl (hb hby at_162) rfl rfl ?_
    show Steps p.tables e below (Tcm.setTop (mkF m 164 #[.val (.int p1), .val (.int p2), .val (.int p3), .val (.int p4), .val (.int (Int32.ofNat u1)), .val (.int (Int32.ofNat u2)), .val (.int (Int32.ofNat u3)), .val (.ref x1), .val (.ref x2), .val (.ref x3), .val (.ref b), .val (.int (0 : Int32)), .val (.int (Int32.ofNat rr)), .val (.int vI), .val (.int (1 : Int32))] [(.ref b)])) _
    refine XS.iload Ycm.here hx rfl (hb hby at_164) rfl ?_
    show Steps p.tables e below (Tcm.setTop (mkF m 166 #[.val (.int p1), .val (.int p2), .val (.int p3), .val (.int p4), .val (.int (Int32.ofNat u1)), .val (.int (Int32.ofNat u2)), .val (.int (Int32.ofNat u3)), .val (.ref x1), .val (.ref x2), .val (.ref x3), .val (.ref b), .val (.int (0 : Int32)), .val (.int (Int32.ofNat rr)), .val (.int vI), .val (.int (1 : Int32))] [(.int (Int32.ofNat rr)), (.ref b)])) _
    refine XS.iload Ycm.here hx rfl (hb hby at_166) rfl ?_
    show Steps p.tables e below (Tcm.setTop (mkF m 168 #[.val (.int p1), .val (.int p2), .val (.int p3), .val (.int p4), .val (.int (Int32.ofNat u1)), .val (.int (Int32.ofNat u2)), .val (.int (Int32.ofNat u3)), .val (.ref x1), .val (.ref x2), .val (.ref x3), .val (.ref b), .val (.int (0 : Int32)), .val (.int (Int32.ofNat rr)), .val (.int vI), .val (.int (1 : Int32))] [(.int (Int32.ofNat u2)), (.int (Int32.ofNat rr)), (.ref b)])) _
    refine stga.trans ?_
    show Steps p.tables e below (Tga.setTop (mkF m 171 #[.val (.int p1), .val (.int p2), .val (.int p3), .val (.int p4), .val (.int (Int32.ofNat u1)), .val (.int (Int32.ofNat u2)), .val (.int (Int32.ofNat u3)), .val (.ref x1), .val (.ref x2), .val (.ref x3), .val (.ref b), .val (.int (0 : Int32)), .val (.int (Int32.ofNat rr)), .val (.int vI), .val (.int (1 : Int32))] [(.ref gga)])) _
    refine XS.aload Xga.here hx rfl (hb hby at_171) rfl rfl ?_
    show Steps p.tables e below (Tga.setTop (mkF m 173 #[.val (.int p1), .val (.int p2), .val (.int p3), .val (.int p4), .val (.int (Int32.ofNat u1)), .val (.int (Int32.ofNat u2)), .val (.int (Int32.ofNat u3)), .val (.ref x1), .val (.ref x2), .val (.ref x3), .val (.ref b), .val (.int (0 : Int32)), .val (.int (Int32.ofNat rr)), .val (.int vI), .val (.int (1 : Int32))] [(.ref x2), (.ref gga)])) _
    refine stea.trans ?_
    show Steps p.tables e below (Tea.setTop (mkF m 176 #[.val (.int p1), .val (.int p2), .val (.int p3), .val (.int p4), .val (.int (Int32.ofNat u1)), .val (.int (Int32.ofNat u2)), .val (.int (Int32.ofNat u3)), .val (.ref x1), .val (.ref x2), .val (.ref x3), .val (.ref b), .val (.int (0 : Int32)), .val (.int (Int32.ofNat rr)), .val (.int vI), .val (.int (1 : Int32))] [(.int (1 : Int32))])) _
    refine XS.ifNo Xea.here hx rfl (hb hby at_176) rfl ((if0 _ _).trans (feq (by decide : ¬ ((1 : Int32) = 0))).1) ?_
    show Steps p.tables e below (Tea.setTop (mkF m 179 #[.val (.int p1), .val (.int p2), .val (.int p3), .val (.int p4), .val (.int (Int32.ofNat u1)), .val (.int (Int32.ofNat u2)), .val (.int (Int32.ofNat u3)), .val (.ref x1), .val (.ref x2), .val (.ref x3), .val (.ref b), .val (.int (0 : Int32)), .val (.int (Int32.ofNat rr)), .val (.int vI), .val (.int (1 : Int32))] [])) _
    refine XS.iconst Xea.here hx rfl (hb hby at_179) ?_
    show Steps p.tables e below (Tea.setTop (mkF m 180 #[.val (.int p1), .val (.int p2), .val (.int p3), .val (.int p4), .val (.int (Int32.ofNat u1)), .val (.int (Int32.ofNat u2)), .val (.int (Int32.ofNat u3)), .val (.ref x1), .val (.ref x2), .val (.ref x3), .val (.ref b), .val (.int (0 : Int32)), .val (.int (Int32.ofNat rr)), .val (.int vI), .val (.int (1 : Int32))] [(.int (1 : Int32))])) _
    refine XS.goto Xea.here hx rfl (pc0 := 180) (pc' := 184) rfl (hb hby at_180) (by decide) (by decide) ?_
    show Steps p.tables e below (Tea.setTop (mkF m 184 #[.val (.int p1), .val (.int p2), .val (.int p3), .val (.int p4), .val (.int (Int32.ofNat u1)), .val (.int (Int32.ofNat u2)), .val (.int (Int32.ofNat u3)), .val (.ref x1), .val (.ref x2), .val (.ref x3), .val (.ref b), .val (.int (0 : Int32)), .val (.int (Int32.ofNat rr)), .val (.int vI), .val (.int (1 : Int32))] [(.int (1 : Int32))])) _
    refine XS.istore Xea.here hx rfl (hb hby at_184) rfl (l' := #[.val (.int p1), .val (.int p2), .val (.int p3), .val (.int p4), .val (.int (Int32.ofNat u1)), .val (.int (Int32.ofNat u2)), .val (.int (Int32.ofNat u3)), .val (.ref x1), .val (.ref x2), .val (.ref x3), .val (.ref b), .val (.int (0 : Int32)), .val (.int (Int32.ofNat rr)), .val (.int vI), .val (.int (1 : Int32))]) rfl ?_
    show Steps p.tables e below (Tea.setTop (mkF m 186 #[.val (.int p1), .val (.int p2), .val (.int p3), .val (.int p4), .val (.int (Int32.ofNat u1)), .val (.int (Int32.ofNat u2)), .val (.int (Int32.ofNat u3)), .val (.ref x1), .val (.ref x2), .val (.ref x3), .val (.ref b), .val (.int (0 : Int32)), .val (.int (Int32.ofNat rr)), .val (.int vI), .val (.int (1 : Int32))] [])) _
    refine XS.iload Xea.here hx rfl (hb hby at_186) rfl ?_
    show Steps p.tables e below (Tea.setTop (mkF m 188 #[.val (.int p1), .val (.int p2), .val (.int p3), .val (.int p4), .val (.int (Int32.ofNat u1)), .val (.int (Int32.ofNat u2)), .val (.int (Int32.ofNat u3)), .val (.ref x1), .val (.ref x2), .val (.ref x3), .val (.ref b), .val (.int (0 : Int32)), .val (.int (Int32.ofNat rr)), .val (.int vI), .val (.int (1 : Int32))] [(.int (1 : Int32))])) _
    refine XS.ifNo Xea.here hx rfl (hb hby at_188) rfl ((if0 _ _).trans (feq (by decide : ¬ ((1 : Int32) = 0))).1) ?_
    show Steps p.tables e below (Tea.setTop (mkF m 191 #[.val (.int p1), .val (.int p2), .val (.int p3), .val (.int p4), .val (.int (Int32.ofNat u1)), .val (.int (Int32.ofNat u2)), .val (.int (Int32.ofNat u3)), .val (.ref x1), .val (.ref x2), .val (.ref x3), .val (.ref b), .val (.int (0 : Int32)), .val (.int (Int32.ofNat rr)), .val (.int vI), .val (.int (1 : Int32))] [])) _
    refine XS.aload Xea.here hx rfl (hb hby at_191) rfl rfl ?_
    show Steps p.tables e below (Tea.setTop (mkF m 193 #[.val (.int p1), .val (.int p2), .val (.int p3), .val (.int p4), .val (.int (Int32.ofNat u1)), .val (.int (Int32.ofNat u2)), .val (.int (Int32.ofNat u3)), .val (.ref x1), .val (.ref x2), .val (.ref x3), .val (.ref b), .val (.int (0 : Int32)), .val (.int (Int32.ofNat rr)), .val (.int vI), .val (.int (1 : Int32))] [(.ref b)])) _
    refine XS.iload Xea.here hx rfl (hb hby at_193) rfl ?_
    show Steps p.tables e below (Tea.setTop (mkF m 195 #[.val (.int p1), .val (.int p2), .val (.int p3), .val (.int p4), .val (.int (Int32.ofNat u1)), .val (.int (Int32.ofNat u2)), .val (.int (Int32.ofNat u3)), .val (.ref x1), .val (.ref x2), .val (.ref x3), .val (.ref b), .val (.int (0 : Int32)), .val (.int (Int32.ofNat rr)), .val (.int vI), .val (.int (1 : Int32))] [(.int (Int32.ofNat rr)), (.ref b)])) _
    refine XS.iload Xea.here hx rfl (hb hby at_195) rfl ?_
    show Steps p.tables e below (Tea.setTop (mkF m 197 #[.val (.int p1), .val (.int p2), .val (.int p3), .val (.int p4), .val (.int (Int32.ofNat u1)), .val (.int (Int32.ofNat u2)), .val (.int (Int32.ofNat u3)), .val (.ref x1), .val (.ref x2), .val (.ref x3), .val (.ref b), .val (.int (0 : Int32)), .val (.int (Int32.ofNat rr)), .val (.int vI), .val (.int (1 : Int32))] [(.int (Int32.ofNat u2)), (.int (Int32.ofNat rr)), (.ref b)])) _
    refine XS.iadd Xea.here hx rfl (hb hby at_197) rfl ?_
    show Steps p.tables e below (Tea.setTop (mkF m 198 #[.val (.int p1), .val (.int p2), .val (.int p3), .val (.int p4), .val (.int (Int32.ofNat u1)), .val (.int (Int32.ofNat u2)), .val (.int (Int32.ofNat u3)), .val (.ref x1), .val (.ref x2), .val (.ref x3), .val (.ref b), .val (.int (0 : Int32)), .val (.int (Int32.ofNat rr)), .val (.int vI), .val (.int (1 : Int32))] [(.int ((Int32.ofNat rr) + (Int32.ofNat u2))), (.ref b)])) _
    rw [own_add]
    show Steps p.tables e below (Tea.setTop (mkF m 198 #[.val (.int p1), .val (.int p2), .val (.int p3), .val (.int p4), .val (.int (Int32.ofNat u1)), .val (.int (Int32.ofNat u2)), .val (.int (Int32.ofNat u3)), .val (.ref x1), .val (.ref x2), .val (.ref x3), .val (.ref b), .val (.int (0 : Int32)), .val (.int (Int32.ofNat rr)), .val (.int vI), .val (.int (1 : Int32))] [(.int (Int32.ofNat (rr + u2))), (.ref b)])) _
    refine XS.iload Xea.here hx rfl (hb hby at_198) rfl ?_
    show Steps p.tables e below (Tea.setTop (mkF m 200 #[.val (.int p1), .val (.int p2), .val (.int p3), .val (.int p4), .val (.int (Int32.ofNat u1)), .val (.int (Int32.ofNat u2)), .val (.int (Int32.ofNat u3)), .val (.ref x1), .val (.ref x2), .val (.ref x3), .val (.ref b), .val (.int (0 : Int32)), .val (.int (Int32.ofNat rr)), .val (.int vI), .val (.int (1 : Int32))] [(.int (Int32.ofNat u3)), (.int (Int32.ofNat (rr + u2))), (.ref b)])) _
    refine stgb.trans ?_
    show Steps p.tables e below (Tgb.setTop (mkF m 203 #[.val (.int p1), .val (.int p2), .val (.int p3), .val (.int p4), .val (.int (Int32.ofNat u1)), .val (.int (Int32.ofNat u2)), .val (.int (Int32.ofNat u3)), .val (.ref x1), .val (.ref x2), .val (.ref x3), .val (.ref b), .val (.int (0 : Int32)), .val (.int (Int32.ofNat rr)), .val (.int vI), .val (.int (1 : Int32))] [(.ref ggb)])) _
    refine XS.aload Xgb.here hx rfl (hb hby at_203) rfl rfl ?_
    show Steps p.tables e below (Tgb.setTop (mkF m 205 #[.val (.int p1), .val (.int p2), .val (.int p3), .val (.int p4), .val (.int (Int32.ofNat u1)), .val (.int (Int32.ofNat u2)), .val (.int (Int32.ofNat u3)), .val (.ref x1), .val (.ref x2), .val (.ref x3), .val (.ref b), .val (.int (0 : Int32)), .val (.int (Int32.ofNat rr)), .val (.int vI), .val (.int (1 : Int32))] [(.ref x3), (.ref ggb)])) _
    refine steb.trans ?_
    show Steps p.tables e below (Teb.setTop (mkF m 208 #[.val (.int p1), .val (.int p2), .val (.int p3), .val (.int p4), .val (.int (Int32.ofNat u1)), .val (.int (Int32.ofNat u2)), .val (.int (Int32.ofNat u3)), .val (.ref x1), .val (.ref x2), .val (.ref x3), .val (.ref b), .val (.int (0 : Int32)), .val (.int (Int32.ofNat rr)), .val (.int vI), .val (.int (1 : Int32))] [(.int (1 : Int32))])) _
    refine XS.ifNo Xeb.here hx rfl (hb hby at_208) rfl ((if0 _ _).trans (feq (by decide : ¬ ((1 : Int32) = 0))).1) ?_
    show Steps p.tables e below (Teb.setTop (mkF m 211 #[.val (.int p1), .val (.int p2), .val (.int p3), .val (.int p4), .val (.int (Int32.ofNat u1)), .val (.int (Int32.ofNat u2)), .val (.int (Int32.ofNat u3)), .val (.ref x1), .val (.ref x2), .val (.ref x3), .val (.ref b), .val (.int (0 : Int32)), .val (.int (Int32.ofNat rr)), .val (.int vI), .val (.int (1 : Int32))] [])) _
    refine XS.iconst Xeb.here hx rfl (hb hby at_211) ?_
    show Steps p.tables e below (Teb.setTop (mkF m 212 #[.val (.int p1), .val (.int p2), .val (.int p3), .val (.int p4), .val (.int (Int32.ofNat u1)), .val (.int (Int32.ofNat u2)), .val (.int (Int32.ofNat u3)), .val (.ref x1), .val (.ref x2), .val (.ref x3), .val (.ref b), .val (.int (0 : Int32)), .val (.int (Int32.ofNat rr)), .val (.int vI), .val (.int (1 : Int32))] [(.int (1 : Int32))])) _
    refine XS.goto Xeb.here hx rfl (pc0 := 212) (pc' := 216) rfl (hb hby at_212) (by decide) (by decide) ?_
    show Steps p.tables e below (Teb.setTop (mkF m 216 #[.val (.int p1), .val (.int p2), .val (.int p3), .val (.int p4), .val (.int (Int32.ofNat u1)), .val (.int (Int32.ofNat u2)), .val (.int (Int32.ofNat u3)), .val (.ref x1), .val (.ref x2), .val (.ref x3), .val (.ref b), .val (.int (0 : Int32)), .val (.int (Int32.ofNat rr)), .val (.int vI), .val (.int (1 : Int32))] [(.int (1 : Int32))])) _
    refine XS.istore Xeb.here hx rfl (hb hby at_216) rfl (l' := #[.val (.int p1), .val (.int p2), .val (.int p3), .val (.int p4), .val (.int (Int32.ofNat u1)), .val (.int (Int32.ofNat u2)), .val (.int (Int32.ofNat u3)), .val (.ref x1), .val (.ref x2), .val (.ref x3), .val (.ref b), .val (.int (0 : Int32)), .val (.int (Int32.ofNat rr)), .val (.int vI), .val (.int (1 : Int32))]) rfl ?_
    show Steps p.tables e below (Teb.setTop (mkF m 218 #[.val (.int p1), .val (.int p2), .val (.int p3), .val (.int p4), .val (.int (Int32.ofNat u1)), .val (.int (Int32.ofNat u2)), .val (.int (Int32.ofNat u3)), .val (.ref x1), .val (.ref x2), .val (.ref x3), .val (.ref b), .val (.int (0 : Int32)), .val (.int (Int32.ofNat rr)), .val (.int vI), .val (.int (1 : Int32))] [])) _
    refine XS.iload Xeb.here hx rfl (hb hby at_218) rfl ?_
    show Steps p.tables e below (Teb.setTop (mkF m 220 #[.val (.int p1), .val (.int p2), .val (.int p3), .val (.int p4), .val (.int (Int32.ofNat u1)), .val (.int (Int32.ofNat u2)), .val (.int (Int32.ofNat u3)), .val (.ref x1), .val (.ref x2), .val (.ref x3), .val (.ref b), .val (.int (0 : Int32)), .val (.int (Int32.ofNat rr)), .val (.int vI), .val (.int (1 : Int32))] [(.int (1 : Int32))])) _
    exact retN Yeb hx (t := .boolean) Bd.returns (by simp) (hb hby at_220) hr
  · exact ⟨rfl, Fr.app NNgb (Fr.nil _)⟩
  · show CHr Z own_EL s.vm s.heap Teb.vm Teb.heap
    rw [hh, eheb]
    exact Cgb.trans (CHv.at Yeb hZgb hEL Cgb.1)
set_option maxRecDepth 65536 in
set_option maxHeartbeats 40000000 in
theorem comes_1 {Post : Tables → Env → Array Value → State → Outcome → State → Prop} (hpost : ∀ tb e args s v u, (limb_1_1.after args s (.returned v) u = true ∧ limb_1_2.after args s (.returned v) u = true ∧ True) → Jvm.D.FramedW s (.returned v) u (Jvm.fieldLocs frame_1_writes args s ++ Jvm.arrayLocs frame_1_arrays args s ++ Jvm.staticLocs frame_1_statics s) 48 133312 → Post tb e args s (.returned v) u) :
    ArmFor flags0 classFile x code maxLocals ret World_1 tables_1 room_1 Calls_1 rest_1 Pre_1 Post := by
  intro l hfl _ _ p e ha hc hk s m args below hf hA hF happ hP
  obtain ⟨hcalls, hrest, hpre⟩ := hP
  obtain ⟨-, -, -, hnamed, -, -, -, hat⟩ := (Spec.applies_iff hf).mp happ
  obtain ⟨hg, hn⟩ := and_e (Cond.before_iff.mp (show (Jvm.Cond.and given_1 narrow_1).before args s = true from hpre))
  obtain ⟨g0, g⟩ := and_e hg
  obtain ⟨g1, g⟩ := and_e g
  obtain ⟨g2, g⟩ := and_e g
  obtain ⟨g3, g4⟩ := and_e g
  obtain ⟨w0, w1, w2, w3, rfl⟩ : ∃ w0 w1 w2 w3 : Value, args = #[w0, w1, w2, w3] := by
    have hs : args.size = 4 := by simpa [Cond.value, given_1] using g0
    obtain ⟨L⟩ := args
    match L, hs with
    | [w0, w1, w2, w3], _ => exact ⟨w0, w1, w2, w3, rfl⟩
  have hw := fun d (hd : d ∈ tables_1) => atoms_spec (ws := Jvm.Cond.code x code maxLocals ret :: tables_1) hat d (List.mem_cons_of_mem _ hd)
  obtain ⟨hsets, -⟩ := atoms_of _ (rest_1_c_eq ▸ (show rest_1_c.before _ s = true from hrest))
  have n3 := not_v (Cond.before_iff.mp (hsets _ (List.mem_of_getElem? (i := 2) rfl)))
  obtain ⟨i0, ei0⟩ := is_v g1
  obtain rfl : w0 = (.int i0) := Option.some.inj ei0
  obtain ⟨i1, ei1⟩ := is_v g2
  obtain rfl : w1 = (.int i1) := Option.some.inj ei1
  obtain ⟨i2, ei2⟩ := is_v g3
  obtain rfl : w2 = (.int i2) := Option.some.inj ei2
  obtain ⟨i3, ei3⟩ := is_v g4
  obtain rfl : w3 = (.int i3) := Option.some.inj ei3
  obtain ⟨i7, e6⟩ := is_v (Cond.before_iff.mp (hsets _ (List.mem_of_getElem? (i := 1) rfl)))
  have S8 : Sta s s.heap "java/lang/String" "COMPACT_STRINGS" "Z" (.int i7) := Sta.start e6 (Or.inl (hsets _ (List.mem_of_getElem? (i := 0) rfl)))
  obtain ⟨v9, e10, r11⟩ := isR_v (Cond.before_iff.mp (hsets _ (List.mem_of_getElem? (i := 8) rfl)))
  have S12 : Sta s s.heap "jdk/internal/util/Preconditions" "SIOOBE_FORMATTER" "Ljava/util/function/BiFunction;" v9 := Sta.start e10 (Or.inl (hsets _ (List.mem_of_getElem? (i := 7) rfl)))
  have c13 : ¬ (i7 = (0 : Int32)) := gotF (Cond.eq_ints e6 (Term.int_eval (0))) n3
  have hheld : ∀ p ∈ own_EL, Jvm.Lit.constHeld s p.1 p.2 := hcalls.1
  have H0 : CHv s own_EL s.vm s.heap := CHv.start (own_EW hw) hheld (hsets _ (List.mem_of_getElem? (i := 2) rfl)) (hw _ (List.mem_of_getElem? (i := 19) rfl)) (hw _ (List.mem_of_getElem? (i := 5) rfl))
  obtain ⟨n, o, h1, h2, h3, _, L, rfl, ⟨rfl, N⟩, -, hq⟩ := rm0 l s _ hw tables_1 i0 i1 i2 i3 i7 v9 s.heap s.heap.size (Nat.le_refl _) r11 S12 S8 c13 (Old.start s) p e ha hc hk s m _ below hf ((Spec.applies_iff_loose hf).mp happ).1 ⟨rfl, State.Warmed39.refl s, rfl, H0⟩ trivial
  refine ⟨n, _, h1, h2, h3, hpost _ _ _ _ _ _ ⟨Cond.after_iff.mpr rfl, Cond.after_iff.mpr (eq_i res_at (Term.int_eval (1)) rfl), trivial⟩ ⟨hq.1, hq.2.1, hq.2.2.1, (hq.2.2.2.sift fun y hy => Or.inr (N y hy)).mono (by decide) (by decide)⟩⟩
theorem main_1_1 : Claimed_1_1 := comes_1 fun _ _ _ _ _ _ h hF => ⟨h.1, hF⟩
theorem main_1_2 : Claimed_1_2 := comes_1 fun _ _ _ _ _ _ h hF => ⟨h.2.1, hF⟩
end Jvm.Pilot.@@N@@
namespace Jvm.Pilot.@@N@@
open Jvm Jvm.ClassFile Sem Op Lib Jvm.Free Jvm.Stand Jvm.Pilot.@@N@@.Jvm.D
/-! MADE BY PROGRAM (witnessworld.py) out of the Statement's table words and the real class files: 21 classes; the members and pool entries that the words name. The judged class is class 1, her method 2. -/
namespace start1
open Jvm.ClassFile
def u (s : String) : CpInfo := .utf8 (stringToUtf16 s)
/-- a pool by its gaps: so many unusable entries, then the entry; so many at the end -/
def gap : Nat → List CpInfo → List CpInfo
  | 0, r => r
  | n + 1, r => .unusable :: gap n r
def poolList (es : List (Nat × CpInfo)) (last : Nat) : List CpInfo := es.foldr (fun e r => gap e.1 (e.2 :: r)) (gap last [])
def pool (es : List (Nat × CpInfo)) (last : Nat) : Array CpInfo := ⟨poolList es last⟩
def fileOf (pool : Array CpInfo) (this : Nat) (attrs : Array Attribute := #[]) (ms : Array MethodInfo := #[]) (fl : Nat := 33) (sup : Nat := 0) (ifs : Array Nat := #[]) (fds : Array FieldInfo := #[]) : ClassFile where
  minorVersion := 0
  majorVersion := 65
  constantPool := pool
  accessFlags := fl
  thisClass := this
  superClass := sup
  interfaces := ifs
  fields := fds
  methods := ms
  attributes := attrs
def plain (name : String) (sup : Option ClassId) : Class where
  name := name
  kind := .ordinary
  loader := none
  accessFlags := 33
  super := sup
  interfaces := #[]
  cf := none
  fields := #[]
  methods := #[]
  instanceTypes := #[]
  staticTypes := #[]
  resolved := #[]
  callSites := []
  init := .initialized
  statics := none
  mirror := none

def pool0 : Array CpInfo := pool [(5, u "<init>"), (0, u "()V"), (1, .class_ 10), (1, u "java/lang/Object")] 113

def k0c0 : Code := { maxStack := 0, maxLocals := 1, code := object_method_1_code, exceptionTable := #[], attributes := #[] }
def k0m0 : Method := { name := "<init>", desc := "()V", sig := { parameters := [], returnType := none }, accessFlags := 1, code := some k0c0 }
/-- java/lang/Object -/
def k0 : Class := { plain "java/lang/Object" none with
  accessFlags := 33
  interfaces := #[]
  cf := some (fileOf pool0 8 #[] #[{ accessFlags := 1, nameIndex := 5, descriptorIndex := 6, attributes := #[] }] 33 0 #[] #[])
  fields := #[]
  methods := #[k0m0]
  instanceTypes := #[]
  staticTypes := #[]
  resolved := Array.replicate 124 none
  statics := none }

def pool1 : Array CpInfo := pool [(2, .class_ 4), (0, .nameAndType 5 6), (0, u "java/lang/Object"), (0, u "<init>"), (0, u "()V"), (0, .class_ 8), (0, u "java/lang/String"), (0, .methodref 7 10), (0, .nameAndType 5 11), (0, u "([C)V"), (0, .methodref 7 13), (0, .nameAndType 14 15), (0, u "valueOf"), (0, u "(C)Ljava/lang/String;"), (0, .methodref 17 18), (0, .class_ 19), (0, .nameAndType 20 21), (0, u "com/example/templum/templum/model/TextStoreClosePinLaw"), (0, u "str"), (0, u "(II)Ljava/lang/String;"), (0, .class_ 23), (0, u "com/example/templum/templum/model/TextStore"), (0, .methodref 22 3), (0, .methodref 22 26), (0, .nameAndType 27 28), (0, u "add"), (0, u "(Ljava/lang/String;)I"), (0, .methodref 22 30), (0, .nameAndType 31 32), (0, u "append"), (0, u "(Ljava/lang/CharSequence;)V"), (0, .methodref 22 34), (0, .nameAndType 35 36), (0, u "close"), (0, u "()I"), (0, .methodref 22 38), (0, .nameAndType 39 36), (0, u "openLength"), (0, .methodref 22 41), (0, .nameAndType 42 21), (0, u "get"), (0, .methodref 7 44), (0, .nameAndType 45 46), (0, u "equals"), (0, u "(Ljava/lang/Object;)Z"), (3, u "law"), (0, u "(IIII)Z")] 2

def k1m0 : Method := { name := "<init>", desc := "()V", sig := { parameters := [], returnType := none }, accessFlags := 2, code := none }
def k1c1 : Code := { maxStack := 6, maxLocals := 5, code := method_2_code, exceptionTable := #[], attributes := #[] }
def k1m1 : Method := { name := "str", desc := "(II)Ljava/lang/String;", sig := { parameters := [.int, .int], returnType := some (.object "java/lang/String") }, accessFlags := 10, code := some k1c1 }
def k1c2 : Code := { maxStack := 3, maxLocals := 15, code := code, exceptionTable := #[], attributes := #[] }
def k1m2 : Method := { name := "law", desc := "(IIII)Z", sig := { parameters := [.int, .int, .int, .int], returnType := some .boolean }, accessFlags := 9, code := some k1c2 }
/-- com/example/templum/templum/model/TextStoreClosePinLaw -/
def k1 : Class := { plain "com/example/templum/templum/model/TextStoreClosePinLaw" (some 0) with
  accessFlags := 49
  interfaces := #[]
  cf := some (fileOf pool1 17 #[] #[{ accessFlags := 2, nameIndex := 5, descriptorIndex := 6, attributes := #[] }, { accessFlags := 10, nameIndex := 20, descriptorIndex := 21, attributes := #[] }, { accessFlags := 9, nameIndex := 50, descriptorIndex := 51, attributes := #[] }] 49 2 #[] #[])
  fields := #[]
  methods := #[k1m0, k1m1, k1m2]
  instanceTypes := #[]
  staticTypes := #[]
  resolved := Array.replicate 54 none
  statics := none }

def pool2 : Array CpInfo := pool [(1, .class_ 2), (0, u "java/io/Serializable"), (0, .class_ 4), (0, u "java/lang/Object")] 2

/-- java/io/Serializable -/
def k2 : Class := { plain "java/io/Serializable" (some 0) with
  accessFlags := 1537
  interfaces := #[]
  cf := some (fileOf pool2 1 #[] #[] 1537 3 #[] #[])
  fields := #[]
  methods := #[]
  instanceTypes := #[]
  staticTypes := #[]
  resolved := Array.replicate 7 none
  statics := none }

def pool3 : Array CpInfo := pool [(1, .class_ 2), (0, u "java/lang/Comparable"), (0, .class_ 4), (0, u "java/lang/Object")] 7

/-- java/lang/Comparable -/
def k3 : Class := { plain "java/lang/Comparable" (some 0) with
  accessFlags := 1537
  interfaces := #[]
  cf := some (fileOf pool3 1 #[] #[] 1537 3 #[] #[])
  fields := #[]
  methods := #[]
  instanceTypes := #[]
  staticTypes := #[]
  resolved := Array.replicate 12 none
  statics := none }

def pool4 : Array CpInfo := pool [(2, .class_ 4), (1, u "java/lang/CharSequence"), (0, u "length"), (0, u "()I"), (40, .class_ 48), (0, u "java/lang/CharSequence$1CodePointIterator"), (10, .class_ 60), (0, u "java/lang/CharSequence$1CharIterator"), (5, .class_ 67), (0, u "java/lang/Object")] 63

def k4m0 : Method := { name := "length", desc := "()I", sig := { parameters := [], returnType := some .int }, accessFlags := 1025, code := none }
/-- java/lang/CharSequence -/
def k4 : Class := { plain "java/lang/CharSequence" (some 0) with
  accessFlags := 1537
  interfaces := #[]
  cf := some (fileOf pool4 2 #[.nestMembers #[47, 59]] #[{ accessFlags := 1025, nameIndex := 5, descriptorIndex := 6, attributes := #[] }] 1537 66 #[] #[])
  fields := #[]
  methods := #[k4m0]
  instanceTypes := #[]
  staticTypes := #[]
  resolved := Array.replicate 131 none
  statics := none }

def pool5 : Array CpInfo := pool [(1, .class_ 2), (0, u "java/lang/constant/Constable"), (0, .class_ 4), (0, u "java/lang/Object")] 6

/-- java/lang/constant/Constable -/
def k5 : Class := { plain "java/lang/constant/Constable" (some 0) with
  accessFlags := 1537
  interfaces := #[]
  cf := some (fileOf pool5 1 #[] #[] 1537 3 #[] #[])
  fields := #[]
  methods := #[]
  instanceTypes := #[]
  staticTypes := #[]
  resolved := Array.replicate 11 none
  statics := none }

def pool6 : Array CpInfo := pool [(1, .class_ 2), (0, u "java/lang/constant/ConstantDesc"), (0, .class_ 4), (0, u "java/lang/Object")] 32

/-- java/lang/constant/ConstantDesc -/
def k6 : Class := { plain "java/lang/constant/ConstantDesc" (some 0) with
  accessFlags := 1537
  interfaces := #[]
  cf := some (fileOf pool6 1 #[] #[] 1537 3 #[] #[])
  fields := #[]
  methods := #[]
  instanceTypes := #[]
  staticTypes := #[]
  resolved := Array.replicate 37 none
  statics := none }

def pool7 : Array CpInfo := pool [(1, .methodref 2 3), (0, .class_ 4), (0, .nameAndType 5 6), (0, u "java/lang/Object"), (0, u "<init>"), (0, u "()V"), (0, .string 8), (0, u ""), (0, .fieldref 10 11), (0, .class_ 12), (0, .nameAndType 13 14), (0, u "java/lang/String"), (0, u "value"), (0, u "[B"), (0, .fieldref 10 16), (0, .nameAndType 17 18), (0, u "coder"), (0, u "B"), (2, u "hash"), (0, u "I"), (2, u "hashIsZero"), (0, u "Z"), (0, .methodref 10 28), (0, .nameAndType 5 29), (0, u "([CIILjava/lang/Void;)V"), (0, .methodref 10 31), (0, .nameAndType 32 33), (0, u "rangeCheck"), (0, u "([CII)Ljava/lang/Void;"), (0, .methodref 10 35), (0, .nameAndType 36 37), (0, u "checkBoundsOffCount"), (0, u "(III)I"), (0, .fieldref 10 39), (0, .nameAndType 40 26), (0, u "COMPACT_STRINGS"), (1, .class_ 44), (1, u "java/lang/StringUTF16"), (0, u "compress"), (1, .methodref 42 48), (0, .nameAndType 49 50), (0, u "coderFromArrayLen"), (0, u "([BI)B"), (2, u "toBytes"), (53, .class_ 109), (1, u "java/lang/StringLatin1"), (32, u "()Z"), (34, .methodref 42 178), (0, .nameAndType 45 179), (0, u "([CII)[B"), (29, .methodref 10 210), (0, .nameAndType 5 211), (0, u "([BB)V"), (122, u "()I"), (0, .methodref 10 336), (0, .nameAndType 17 337), (0, u "()B"), (31, u "(C)Z"), (122, .methodref 10 493), (0, .nameAndType 494 142), (0, u "isLatin1"), (10, .methodref 10 506), (0, .nameAndType 507 334), (0, u "length"), (5, u "checkFromToIndex"), (7, .methodref 10 522), (0, .nameAndType 523 524), (0, u "checkBoundsBeginEnd"), (0, u "(III)V"), (0, .methodref 107 526), (0, .nameAndType 527 528), (0, u "getChars"), (0, u "([BII[CI)V"), (12, .methodref 107 542), (0, .nameAndType 543 544), (0, u "equals"), (0, u "([B[B)Z"), (28, u "(Ljava/lang/Object;)Z"), (1, .class_ 576), (0, u "java/lang/CharSequence"), (22, u "CASE_INSENSITIVE_ORDER"), (0, u "Ljava/util/Comparator;"), (181, u "valueOf"), (0, u "(C)Ljava/lang/String;"), (188, u "([CII)V"), (37, u "([C)V"), (4, .methodref 107 1016), (0, .nameAndType 1017 369), (0, u "canEncode"), (0, .methodref 107 1019), (0, .nameAndType 53 1020), (0, u "(C)[B"), (32, .fieldref 1054 1055), (0, .class_ 1056), (0, .nameAndType 1057 1058), (0, u "jdk/internal/util/Preconditions"), (0, u "SIOOBE_FORMATTER"), (0, u "Ljava/util/function/BiFunction;"), (3, .methodref 1054 1063), (0, .nameAndType 513 1064), (0, u "(IIILjava/util/function/BiFunction;)I"), (0, .methodref 1054 1066), (0, .nameAndType 1067 1064), (0, u "checkFromIndexSize"), (33, u "serialPersistentFields"), (0, u "[Ljava/io/ObjectStreamField;"), (0, .class_ 1104), (0, u "java/lang/String$CaseInsensitiveComparator"), (1, .class_ 1107), (0, u "java/io/Serializable"), (0, .class_ 1109), (0, u "java/lang/Comparable"), (0, .class_ 1111), (0, u "java/lang/constant/Constable"), (0, .class_ 1113), (0, u "java/lang/constant/ConstantDesc"), (2, u "serialVersionUID"), (0, u "J"), (3, u "REPL"), (0, u "C"), (2, u "LATIN1"), (1, u "UTF16"), (112, u "(II[CI)V")] 210

def k7m0 : Method := { name := "<init>", desc := "()V", sig := { parameters := [], returnType := none }, accessFlags := 1, code := none }
def k7c1 : Code := { maxStack := 5, maxLocals := 2, code := jdk_42_method_3_code, exceptionTable := #[], attributes := #[] }
def k7m1 : Method := { name := "<init>", desc := "([C)V", sig := { parameters := [(.array .char)], returnType := none }, accessFlags := 1, code := some k7c1 }
def k7c2 : Code := { maxStack := 7, maxLocals := 4, code := jdk_42_method_4_code, exceptionTable := #[], attributes := #[] }
def k7m2 : Method := { name := "<init>", desc := "([CII)V", sig := { parameters := [(.array .char), .int, .int], returnType := none }, accessFlags := 1, code := some k7c2 }
def k7c3 : Code := { maxStack := 3, maxLocals := 3, code := jdk_42_method_5_code, exceptionTable := #[], attributes := #[] }
def k7m3 : Method := { name := "rangeCheck", desc := "([CII)Ljava/lang/Void;", sig := { parameters := [(.array .char), .int, .int], returnType := some (.object "java/lang/Void") }, accessFlags := 10, code := some k7c3 }
def k7c4 : Code := { maxStack := 2, maxLocals := 1, code := jdk_42_method_54_code, exceptionTable := #[], attributes := #[] }
def k7m4 : Method := { name := "length", desc := "()I", sig := { parameters := [], returnType := some .int }, accessFlags := 1, code := some k7c4 }
def k7c5 : Code := { maxStack := 5, maxLocals := 5, code := jdk_42_method_61_code, exceptionTable := #[], attributes := #[] }
def k7m5 : Method := { name := "getChars", desc := "(II[CI)V", sig := { parameters := [.int, .int, (.array .char), .int], returnType := none }, accessFlags := 1, code := some k7c5 }
def k7c6 : Code := { maxStack := 2, maxLocals := 3, code := jdk_42_method_66_code, exceptionTable := #[], attributes := #[] }
def k7m6 : Method := { name := "equals", desc := "(Ljava/lang/Object;)Z", sig := { parameters := [(.object "java/lang/Object")], returnType := some .boolean }, accessFlags := 1, code := some k7c6 }
def k7c7 : Code := { maxStack := 4, maxLocals := 1, code := jdk_42_method_139_code, exceptionTable := #[], attributes := #[] }
def k7m7 : Method := { name := "valueOf", desc := "(C)Ljava/lang/String;", sig := { parameters := [.char], returnType := some (.object "java/lang/String") }, accessFlags := 9, code := some k7c7 }
def k7c8 : Code := { maxStack := 4, maxLocals := 6, code := jdk_42_method_149_code, exceptionTable := #[], attributes := #[] }
def k7m8 : Method := { name := "<init>", desc := "([CIILjava/lang/Void;)V", sig := { parameters := [(.array .char), .int, .int, (.object "java/lang/Void")], returnType := none }, accessFlags := 2, code := some k7c8 }
def k7c9 : Code := { maxStack := 2, maxLocals := 3, code := jdk_42_method_151_code, exceptionTable := #[], attributes := #[] }
def k7m9 : Method := { name := "<init>", desc := "([BB)V", sig := { parameters := [(.array .byte), .byte], returnType := none }, accessFlags := 0, code := some k7c9 }
def k7c10 : Code := { maxStack := 1, maxLocals := 1, code := jdk_42_method_152_code, exceptionTable := #[], attributes := #[] }
def k7m10 : Method := { name := "coder", desc := "()B", sig := { parameters := [], returnType := some .byte }, accessFlags := 0, code := some k7c10 }
def k7c11 : Code := { maxStack := 1, maxLocals := 1, code := jdk_42_method_154_code, exceptionTable := #[], attributes := #[] }
def k7m11 : Method := { name := "isLatin1", desc := "()Z", sig := { parameters := [], returnType := some .boolean }, accessFlags := 0, code := some k7c11 }
def k7c12 : Code := { maxStack := 4, maxLocals := 3, code := jdk_42_method_157_code, exceptionTable := #[], attributes := #[] }
def k7m12 : Method := { name := "checkBoundsOffCount", desc := "(III)I", sig := { parameters := [.int, .int, .int], returnType := some .int }, accessFlags := 8, code := some k7c12 }
def k7c13 : Code := { maxStack := 4, maxLocals := 3, code := jdk_42_method_158_code, exceptionTable := #[], attributes := #[] }
def k7m13 : Method := { name := "checkBoundsBeginEnd", desc := "(III)V", sig := { parameters := [.int, .int, .int], returnType := none }, accessFlags := 8, code := some k7c13 }
/-- java/lang/String -/
def k7 : Class := { plain "java/lang/String" (some 0) with
  accessFlags := 49
  interfaces := #[2, 3, 4, 5, 6]
  cf := some (fileOf pool7 10 #[.nestMembers #[1103]] #[{ accessFlags := 1, nameIndex := 5, descriptorIndex := 6, attributes := #[] }, { accessFlags := 1, nameIndex := 5, descriptorIndex := 1010, attributes := #[] }, { accessFlags := 1, nameIndex := 5, descriptorIndex := 972, attributes := #[] }, { accessFlags := 10, nameIndex := 32, descriptorIndex := 33, attributes := #[] }, { accessFlags := 1, nameIndex := 507, descriptorIndex := 334, attributes := #[] }, { accessFlags := 1, nameIndex := 527, descriptorIndex := 1240, attributes := #[] }, { accessFlags := 1, nameIndex := 543, descriptorIndex := 573, attributes := #[] }, { accessFlags := 9, nameIndex := 782, descriptorIndex := 783, attributes := #[] }, { accessFlags := 2, nameIndex := 5, descriptorIndex := 29, attributes := #[] }, { accessFlags := 0, nameIndex := 5, descriptorIndex := 211, attributes := #[] }, { accessFlags := 0, nameIndex := 17, descriptorIndex := 337, attributes := #[] }, { accessFlags := 0, nameIndex := 494, descriptorIndex := 142, attributes := #[] }, { accessFlags := 8, nameIndex := 36, descriptorIndex := 37, attributes := #[] }, { accessFlags := 8, nameIndex := 523, descriptorIndex := 524, attributes := #[] }] 49 2 #[1106, 1108, 575, 1110, 1112] #[{ accessFlags := 18, nameIndex := 13, descriptorIndex := 14, attributes := #[] }, { accessFlags := 18, nameIndex := 17, descriptorIndex := 18, attributes := #[] }, { accessFlags := 2, nameIndex := 21, descriptorIndex := 22, attributes := #[] }, { accessFlags := 2, nameIndex := 25, descriptorIndex := 26, attributes := #[] }, { accessFlags := 26, nameIndex := 1116, descriptorIndex := 1117, attributes := #[] }, { accessFlags := 24, nameIndex := 40, descriptorIndex := 26, attributes := #[] }, { accessFlags := 26, nameIndex := 1101, descriptorIndex := 1102, attributes := #[] }, { accessFlags := 26, nameIndex := 1121, descriptorIndex := 1122, attributes := #[] }, { accessFlags := 25, nameIndex := 599, descriptorIndex := 600, attributes := #[] }, { accessFlags := 24, nameIndex := 1125, descriptorIndex := 18, attributes := #[] }, { accessFlags := 24, nameIndex := 1127, descriptorIndex := 18, attributes := #[] }])
  fields := #[{ name := "value", type := (.array .byte), accessFlags := 18, slot := 0, constantValue := 0 }, { name := "coder", type := .byte, accessFlags := 18, slot := 1, constantValue := 0 }, { name := "hash", type := .int, accessFlags := 2, slot := 2, constantValue := 0 }, { name := "hashIsZero", type := .boolean, accessFlags := 2, slot := 3, constantValue := 0 }, { name := "serialVersionUID", type := .long, accessFlags := 26, slot := 0, constantValue := 0 }, { name := "COMPACT_STRINGS", type := .boolean, accessFlags := 24, slot := 1, constantValue := 0 }, { name := "serialPersistentFields", type := (.array (.object "java/io/ObjectStreamField")), accessFlags := 26, slot := 2, constantValue := 0 }, { name := "REPL", type := .char, accessFlags := 26, slot := 3, constantValue := 0 }, { name := "CASE_INSENSITIVE_ORDER", type := (.object "java/util/Comparator"), accessFlags := 25, slot := 4, constantValue := 0 }, { name := "LATIN1", type := .byte, accessFlags := 24, slot := 5, constantValue := 0 }, { name := "UTF16", type := .byte, accessFlags := 24, slot := 6, constantValue := 0 }]
  methods := #[k7m0, k7m1, k7m2, k7m3, k7m4, k7m5, k7m6, k7m7, k7m8, k7m9, k7m10, k7m11, k7m12, k7m13]
  instanceTypes := #[(.array .byte), .byte, .int, .boolean]
  staticTypes := #[.long, .boolean, (.array (.object "java/io/ObjectStreamField")), .char, (.object "java/util/Comparator"), .byte, .byte]
  resolved := Array.replicate 1451 none
  statics := some 0 }

def pool8 : Array CpInfo := pool [(1, .class_ 2), (0, u "com/example/templum/templum/model/TextStore"), (0, .methodref 4 5), (0, .class_ 6), (0, .nameAndType 7 8), (0, u "java/lang/Object"), (0, u "<init>"), (0, u "()V"), (0, .class_ 10), (0, u "[C"), (0, .fieldref 1 12), (0, .nameAndType 13 14), (0, u "chunks"), (0, u "[[C"), (0, .fieldref 1 16), (0, .nameAndType 17 18), (0, u "openLength"), (0, u "I"), (7, .methodref 1 27), (0, .nameAndType 28 29), (0, u "append"), (0, u "(Ljava/lang/CharSequence;)V"), (0, .methodref 1 31), (0, .nameAndType 32 33), (0, u "close"), (0, u "()I"), (0, .interfaceMethodref 35 36), (0, .class_ 37), (0, .nameAndType 38 33), (0, u "java/lang/CharSequence"), (0, u "length"), (0, .methodref 1 40), (0, .nameAndType 41 42), (0, u "reserve"), (0, u "(I)V"), (0, .methodref 1 44), (0, .nameAndType 45 46), (0, u "chunkWithRoom"), (0, u "()[C"), (0, .fieldref 1 48), (0, .nameAndType 49 18), (0, u "size"), (0, .integer 65535), (0, .integer 65536), (0, .methodref 53 54), (0, .class_ 55), (0, .nameAndType 56 57), (0, u "java/lang/Math"), (0, u "min"), (0, u "(II)I"), (0, .class_ 59), (0, u "java/lang/String"), (0, .methodref 58 61), (0, .nameAndType 62 63), (0, u "getChars"), (0, u "(II[CI)V"), (0, .class_ 65), (0, u "com/example/templum/templum/model/TextStore$Characters"), (18, .integer 2147483647), (20, .string 106), (0, u ""), (0, .methodref 1 108), (0, .nameAndType 109 110), (0, u "inOneChunk"), (0, u "(II)Z"), (0, .methodref 58 112), (0, .nameAndType 7 113), (0, u "([CII)V"), (14, u "get"), (0, u "(II)Ljava/lang/String;"), (4, u "SHIFT"), (2, u "CHUNK"), (0, u "MASK"), (2, u "add"), (0, u "(Ljava/lang/String;)I")] 8

def k8c0 : Code := { maxStack := 2, maxLocals := 1, code := prog_84_method_1_code, exceptionTable := #[], attributes := #[] }
def k8m0 : Method := { name := "<init>", desc := "()V", sig := { parameters := [], returnType := none }, accessFlags := 0, code := some k8c0 }
def k8c1 : Code := { maxStack := 3, maxLocals := 2, code := prog_84_method_2_code, exceptionTable := #[], attributes := #[] }
def k8m1 : Method := { name := "add", desc := "(Ljava/lang/String;)I", sig := { parameters := [(.object "java/lang/String")], returnType := some .int }, accessFlags := 0, code := some k8c1 }
def k8c2 : Code := { maxStack := 5, maxLocals := 8, code := prog_84_method_3_code, exceptionTable := #[], attributes := #[] }
def k8m2 : Method := { name := "append", desc := "(Ljava/lang/CharSequence;)V", sig := { parameters := [(.object "java/lang/CharSequence")], returnType := none }, accessFlags := 0, code := some k8c2 }
def k8c3 : Code := { maxStack := 4, maxLocals := 2, code := prog_84_method_5_code, exceptionTable := #[], attributes := #[] }
def k8m3 : Method := { name := "reserve", desc := "(I)V", sig := { parameters := [.int], returnType := none }, accessFlags := 2, code := some k8c3 }
def k8c4 : Code := { maxStack := 4, maxLocals := 2, code := prog_84_method_6_code, exceptionTable := #[], attributes := #[] }
def k8m4 : Method := { name := "chunkWithRoom", desc := "()[C", sig := { parameters := [], returnType := some (.array .char) }, accessFlags := 2, code := some k8c4 }
def k8c5 : Code := { maxStack := 1, maxLocals := 1, code := prog_84_method_7_code, exceptionTable := #[], attributes := #[] }
def k8m5 : Method := { name := "openLength", desc := "()I", sig := { parameters := [], returnType := some .int }, accessFlags := 0, code := some k8c5 }
def k8c6 : Code := { maxStack := 2, maxLocals := 2, code := prog_84_method_8_code, exceptionTable := #[], attributes := #[] }
def k8m6 : Method := { name := "close", desc := "()I", sig := { parameters := [], returnType := some .int }, accessFlags := 0, code := some k8c6 }
def k8c7 : Code := { maxStack := 5, maxLocals := 5, code := prog_84_method_9_code, exceptionTable := #[], attributes := #[] }
def k8m7 : Method := { name := "get", desc := "(II)Ljava/lang/String;", sig := { parameters := [.int, .int], returnType := some (.object "java/lang/String") }, accessFlags := 0, code := some k8c7 }
def k8c8 : Code := { maxStack := 2, maxLocals := 2, code := prog_84_method_12_code, exceptionTable := #[], attributes := #[] }
def k8m8 : Method := { name := "inOneChunk", desc := "(II)Z", sig := { parameters := [.int, .int], returnType := some .boolean }, accessFlags := 10, code := some k8c8 }
/-- com/example/templum/templum/model/TextStore -/
def k8 : Class := { plain "com/example/templum/templum/model/TextStore" (some 0) with
  accessFlags := 48
  interfaces := #[]
  cf := some (fileOf pool8 1 #[.nestMembers #[64]] #[{ accessFlags := 0, nameIndex := 7, descriptorIndex := 8, attributes := #[] }, { accessFlags := 0, nameIndex := 141, descriptorIndex := 142, attributes := #[] }, { accessFlags := 0, nameIndex := 28, descriptorIndex := 29, attributes := #[] }, { accessFlags := 2, nameIndex := 41, descriptorIndex := 42, attributes := #[] }, { accessFlags := 2, nameIndex := 45, descriptorIndex := 46, attributes := #[] }, { accessFlags := 0, nameIndex := 17, descriptorIndex := 33, attributes := #[] }, { accessFlags := 0, nameIndex := 32, descriptorIndex := 33, attributes := #[] }, { accessFlags := 0, nameIndex := 128, descriptorIndex := 129, attributes := #[] }, { accessFlags := 10, nameIndex := 109, descriptorIndex := 110, attributes := #[] }] 48 4 #[] #[{ accessFlags := 26, nameIndex := 134, descriptorIndex := 18, attributes := #[] }, { accessFlags := 26, nameIndex := 137, descriptorIndex := 18, attributes := #[] }, { accessFlags := 26, nameIndex := 138, descriptorIndex := 18, attributes := #[] }, { accessFlags := 2, nameIndex := 13, descriptorIndex := 14, attributes := #[] }, { accessFlags := 2, nameIndex := 49, descriptorIndex := 18, attributes := #[] }, { accessFlags := 2, nameIndex := 17, descriptorIndex := 18, attributes := #[] }])
  fields := #[{ name := "SHIFT", type := .int, accessFlags := 26, slot := 0, constantValue := 0 }, { name := "CHUNK", type := .int, accessFlags := 26, slot := 1, constantValue := 0 }, { name := "MASK", type := .int, accessFlags := 26, slot := 2, constantValue := 0 }, { name := "chunks", type := (.array (.array .char)), accessFlags := 2, slot := 0, constantValue := 0 }, { name := "size", type := .int, accessFlags := 2, slot := 1, constantValue := 0 }, { name := "openLength", type := .int, accessFlags := 2, slot := 2, constantValue := 0 }]
  methods := #[k8m0, k8m1, k8m2, k8m3, k8m4, k8m5, k8m6, k8m7, k8m8]
  instanceTypes := #[(.array (.array .char)), .int, .int]
  staticTypes := #[.int, .int, .int]
  resolved := Array.replicate 151 none
  statics := none }

def pool9 : Array CpInfo := pool [(4, .class_ 6), (1, u "java/lang/Object"), (0, u "<init>"), (0, u "()V"), (4, .methodref 14 15), (0, .class_ 16), (0, .nameAndType 17 18), (0, u "java/lang/StringLatin1"), (0, u "inflate"), (0, u "([BI[CII)V"), (71, u "canEncode"), (14, u "(C)Z"), (15, u "$assertionsDisabled"), (0, u "Z"), (98, .class_ 223), (1, u "java/lang/StringLatin1$LinesSpliterator"), (50, u "getChars"), (0, u "([BII[CI)V"), (5, u "equals"), (0, u "([B[B)Z"), (97, u "toBytes"), (1, u "(C)[B"), (7, .class_ 391), (0, u "java/lang/StringLatin1$CharsSpliterator")] 3

def k9m0 : Method := { name := "<init>", desc := "()V", sig := { parameters := [], returnType := none }, accessFlags := 0, code := none }
def k9c1 : Code := { maxStack := 2, maxLocals := 1, code := jdk_43_method_3_code, exceptionTable := #[], attributes := #[] }
def k9m1 : Method := { name := "canEncode", desc := "(C)Z", sig := { parameters := [.char], returnType := some .boolean }, accessFlags := 9, code := some k9c1 }
def k9c2 : Code := { maxStack := 6, maxLocals := 5, code := jdk_43_method_11_code, exceptionTable := #[], attributes := #[] }
def k9m2 : Method := { name := "getChars", desc := "([BII[CI)V", sig := { parameters := [(.array .byte), .int, .int, (.array .char), .int], returnType := none }, accessFlags := 9, code := some k9c2 }
def k9c3 : Code := { maxStack := 3, maxLocals := 3, code := jdk_43_method_13_code, exceptionTable := #[], attributes := #[] }
def k9m3 : Method := { name := "equals", desc := "([B[B)Z", sig := { parameters := [(.array .byte), (.array .byte)], returnType := some .boolean }, accessFlags := 9, code := some k9c3 }
def k9c4 : Code := { maxStack := 4, maxLocals := 1, code := jdk_43_method_46_code, exceptionTable := #[], attributes := #[] }
def k9m4 : Method := { name := "toBytes", desc := "(C)[B", sig := { parameters := [.char], returnType := some (.array .byte) }, accessFlags := 9, code := some k9c4 }
def k9c5 : Code := { maxStack := 4, maxLocals := 6, code := jdk_43_method_49_code, exceptionTable := #[], attributes := #[] }
def k9m5 : Method := { name := "inflate", desc := "([BI[CII)V", sig := { parameters := [(.array .byte), .int, (.array .char), .int, .int], returnType := none }, accessFlags := 9, code := some k9c5 }
/-- java/lang/StringLatin1 -/
def k9 : Class := { plain "java/lang/StringLatin1" (some 0) with
  accessFlags := 48
  interfaces := #[]
  cf := some (fileOf pool9 14 #[.nestMembers #[390, 221]] #[{ accessFlags := 0, nameIndex := 7, descriptorIndex := 8, attributes := #[] }, { accessFlags := 9, nameIndex := 90, descriptorIndex := 105, attributes := #[] }, { accessFlags := 9, nameIndex := 274, descriptorIndex := 275, attributes := #[] }, { accessFlags := 9, nameIndex := 281, descriptorIndex := 282, attributes := #[] }, { accessFlags := 9, nameIndex := 380, descriptorIndex := 382, attributes := #[] }, { accessFlags := 9, nameIndex := 17, descriptorIndex := 18, attributes := #[] }] 48 4 #[] #[{ accessFlags := 4120, nameIndex := 121, descriptorIndex := 122, attributes := #[] }])
  fields := #[{ name := "$assertionsDisabled", type := .boolean, accessFlags := 4120, slot := 0, constantValue := 0 }]
  methods := #[k9m0, k9m1, k9m2, k9m3, k9m4, k9m5]
  instanceTypes := #[]
  staticTypes := #[.boolean]
  resolved := Array.replicate 395 none
  statics := none }

def pool10 : Array CpInfo := pool [(6, .class_ 8), (1, u "java/lang/Object"), (0, u "<init>"), (0, u "()V"), (1, .class_ 14), (1, u "java/lang/StringUTF16"), (31, u "$assertionsDisabled"), (0, u "Z"), (13, u "HI_BYTE_SHIFT"), (0, u "I"), (2, u "LO_BYTE_SHIFT"), (49, .methodref 12 116), (0, .nameAndType 117 118), (0, u "compress"), (0, u "([CI[BII)I"), (3, u "([CII)[B"), (138, u "coderFromArrayLen"), (0, u "([BI)B"), (106, .class_ 371), (1, u "java/lang/StringUTF16$LinesSpliterator"), (58, u "MAX_LENGTH"), (196, .class_ 628), (0, u "java/lang/StringUTF16$CodePointsSpliterator"), (0, .class_ 630), (0, u "java/lang/StringUTF16$CharsSpliterator")] 4

def k10m0 : Method := { name := "<init>", desc := "()V", sig := { parameters := [], returnType := none }, accessFlags := 0, code := none }
def k10c1 : Code := { maxStack := 2, maxLocals := 2, code := jdk_52_method_15_code, exceptionTable := #[], attributes := #[] }
def k10m1 : Method := { name := "coderFromArrayLen", desc := "([BI)B", sig := { parameters := [(.array .byte), .int], returnType := some .byte }, accessFlags := 8, code := some k10c1 }
def k10c2 : Code := { maxStack := 5, maxLocals := 6, code := jdk_52_method_16_code, exceptionTable := #[], attributes := #[] }
def k10m2 : Method := { name := "compress", desc := "([CII)[B", sig := { parameters := [(.array .char), .int, .int], returnType := some (.array .byte) }, accessFlags := 9, code := some k10c2 }
def k10c3 : Code := { maxStack := 3, maxLocals := 7, code := jdk_52_method_21_code, exceptionTable := #[], attributes := #[] }
def k10m3 : Method := { name := "compress", desc := "([CI[BII)I", sig := { parameters := [(.array .char), .int, (.array .byte), .int, .int], returnType := some .int }, accessFlags := 9, code := some k10c3 }
/-- java/lang/StringUTF16 -/
def k10 : Class := { plain "java/lang/StringUTF16" (some 0) with
  accessFlags := 48
  interfaces := #[]
  cf := some (fileOf pool10 12 #[.nestMembers #[627, 629, 369]] #[{ accessFlags := 0, nameIndex := 9, descriptorIndex := 10, attributes := #[] }, { accessFlags := 8, nameIndex := 261, descriptorIndex := 262, attributes := #[] }, { accessFlags := 9, nameIndex := 117, descriptorIndex := 122, attributes := #[] }, { accessFlags := 9, nameIndex := 117, descriptorIndex := 118, attributes := #[] }] 48 6 #[] #[{ accessFlags := 26, nameIndex := 61, descriptorIndex := 62, attributes := #[] }, { accessFlags := 26, nameIndex := 65, descriptorIndex := 62, attributes := #[] }, { accessFlags := 24, nameIndex := 430, descriptorIndex := 62, attributes := #[] }, { accessFlags := 4120, nameIndex := 46, descriptorIndex := 47, attributes := #[] }])
  fields := #[{ name := "HI_BYTE_SHIFT", type := .int, accessFlags := 26, slot := 0, constantValue := 0 }, { name := "LO_BYTE_SHIFT", type := .int, accessFlags := 26, slot := 1, constantValue := 0 }, { name := "MAX_LENGTH", type := .int, accessFlags := 24, slot := 2, constantValue := 0 }, { name := "$assertionsDisabled", type := .boolean, accessFlags := 4120, slot := 3, constantValue := 0 }]
  methods := #[k10m0, k10m1, k10m2, k10m3]
  instanceTypes := #[]
  staticTypes := #[.int, .int, .int, .boolean]
  resolved := Array.replicate 635 none
  statics := none }

def pool11 : Array CpInfo := pool [(1, .class_ 2), (0, u "java/lang/Math"), (1, .class_ 6), (1, u "java/lang/Object"), (0, u "<init>"), (0, u "()V"), (89, .class_ 100), (1, u "java/lang/Math$RandomNumberGeneratorHolder"), (71, u "negativeZeroFloatBits"), (0, u "J"), (2, u "negativeZeroDoubleBits"), (24, u "min"), (43, u "$assertionsDisabled"), (0, u "Z"), (88, u "(II)I"), (2, u "twoToTheDoubleScaleDown"), (0, u "D"), (4, u "twoToTheDoubleScaleUp"), (9, u "E"), (3, u "PI"), (2, u "TAU"), (2, u "DEGREES_TO_RADIANS"), (0, u "RADIANS_TO_DEGREES")] 94

def k11m0 : Method := { name := "<init>", desc := "()V", sig := { parameters := [], returnType := none }, accessFlags := 2, code := none }
def k11c1 : Code := { maxStack := 2, maxLocals := 2, code := jdk_29_method_69_code, exceptionTable := #[], attributes := #[] }
def k11m1 : Method := { name := "min", desc := "(II)I", sig := { parameters := [.int, .int], returnType := some .int }, accessFlags := 9, code := some k11c1 }
/-- java/lang/Math -/
def k11 : Class := { plain "java/lang/Math" (some 0) with
  accessFlags := 49
  interfaces := #[]
  cf := some (fileOf pool11 1 #[.nestMembers #[98]] #[{ accessFlags := 2, nameIndex := 7, descriptorIndex := 8, attributes := #[] }, { accessFlags := 9, nameIndex := 201, descriptorIndex := 335, attributes := #[] }] 49 4 #[] #[{ accessFlags := 25, nameIndex := 354, descriptorIndex := 339, attributes := #[] }, { accessFlags := 25, nameIndex := 358, descriptorIndex := 339, attributes := #[] }, { accessFlags := 25, nameIndex := 361, descriptorIndex := 339, attributes := #[] }, { accessFlags := 26, nameIndex := 364, descriptorIndex := 339, attributes := #[] }, { accessFlags := 26, nameIndex := 365, descriptorIndex := 339, attributes := #[] }, { accessFlags := 26, nameIndex := 172, descriptorIndex := 173, attributes := #[] }, { accessFlags := 26, nameIndex := 176, descriptorIndex := 173, attributes := #[] }, { accessFlags := 8, nameIndex := 344, descriptorIndex := 339, attributes := #[] }, { accessFlags := 8, nameIndex := 338, descriptorIndex := 339, attributes := #[] }, { accessFlags := 4120, nameIndex := 245, descriptorIndex := 246, attributes := #[] }])
  fields := #[{ name := "E", type := .double, accessFlags := 25, slot := 0, constantValue := 0 }, { name := "PI", type := .double, accessFlags := 25, slot := 1, constantValue := 0 }, { name := "TAU", type := .double, accessFlags := 25, slot := 2, constantValue := 0 }, { name := "DEGREES_TO_RADIANS", type := .double, accessFlags := 26, slot := 3, constantValue := 0 }, { name := "RADIANS_TO_DEGREES", type := .double, accessFlags := 26, slot := 4, constantValue := 0 }, { name := "negativeZeroFloatBits", type := .long, accessFlags := 26, slot := 5, constantValue := 0 }, { name := "negativeZeroDoubleBits", type := .long, accessFlags := 26, slot := 6, constantValue := 0 }, { name := "twoToTheDoubleScaleUp", type := .double, accessFlags := 8, slot := 7, constantValue := 0 }, { name := "twoToTheDoubleScaleDown", type := .double, accessFlags := 8, slot := 8, constantValue := 0 }, { name := "$assertionsDisabled", type := .boolean, accessFlags := 4120, slot := 9, constantValue := 0 }]
  methods := #[k11m0, k11m1]
  instanceTypes := #[]
  staticTypes := #[.double, .double, .double, .double, .double, .long, .long, .double, .double, .boolean]
  resolved := Array.replicate 460 none
  statics := none }

def pool12 : Array CpInfo := pool [(2, .class_ 4), (1, u "java/lang/Object"), (0, u "<init>"), (0, u "()V"), (17, .class_ 26), (1, u "jdk/internal/util/Preconditions"), (20, u "checkFromToIndex"), (1, u "checkFromIndexSize"), (5, .class_ 56), (0, u "jdk/internal/util/Preconditions$4"), (57, .class_ 115), (0, u "jdk/internal/util/Preconditions$1"), (7, u "SIOOBE_FORMATTER"), (0, u "Ljava/util/function/BiFunction;"), (0, .class_ 126), (0, u "jdk/internal/util/Preconditions$2"), (3, u "AIOOBE_FORMATTER"), (0, .class_ 132), (0, u "jdk/internal/util/Preconditions$3"), (3, u "IOOBE_FORMATTER"), (46, u "(IIILjava/util/function/BiFunction;)I")] 10

def k12m0 : Method := { name := "<init>", desc := "()V", sig := { parameters := [], returnType := none }, accessFlags := 1, code := none }
def k12c1 : Code := { maxStack := 4, maxLocals := 4, code := jdk_41_method_12_code, exceptionTable := #[], attributes := #[] }
def k12m1 : Method := { name := "checkFromToIndex", desc := "(IIILjava/util/function/BiFunction;)I", sig := { parameters := [.int, .int, .int, (.object "java/util/function/BiFunction")], returnType := some .int }, accessFlags := 9, code := some k12c1 }
def k12c2 : Code := { maxStack := 4, maxLocals := 4, code := jdk_41_method_13_code, exceptionTable := #[], attributes := #[] }
def k12m2 : Method := { name := "checkFromIndexSize", desc := "(IIILjava/util/function/BiFunction;)I", sig := { parameters := [.int, .int, .int, (.object "java/util/function/BiFunction")], returnType := some .int }, accessFlags := 9, code := some k12c2 }
/-- jdk/internal/util/Preconditions -/
def k12 : Class := { plain "jdk/internal/util/Preconditions" (some 0) with
  accessFlags := 33
  interfaces := #[]
  cf := some (fileOf pool12 24 #[.nestMembers #[55, 131, 125, 114]] #[{ accessFlags := 1, nameIndex := 5, descriptorIndex := 6, attributes := #[] }, { accessFlags := 9, nameIndex := 47, descriptorIndex := 183, attributes := #[] }, { accessFlags := 9, nameIndex := 49, descriptorIndex := 183, attributes := #[] }] 33 2 #[] #[{ accessFlags := 25, nameIndex := 123, descriptorIndex := 124, attributes := #[] }, { accessFlags := 25, nameIndex := 130, descriptorIndex := 124, attributes := #[] }, { accessFlags := 25, nameIndex := 136, descriptorIndex := 124, attributes := #[] }])
  fields := #[{ name := "SIOOBE_FORMATTER", type := (.object "java/util/function/BiFunction"), accessFlags := 25, slot := 0, constantValue := 0 }, { name := "AIOOBE_FORMATTER", type := (.object "java/util/function/BiFunction"), accessFlags := 25, slot := 1, constantValue := 0 }, { name := "IOOBE_FORMATTER", type := (.object "java/util/function/BiFunction"), accessFlags := 25, slot := 2, constantValue := 0 }]
  methods := #[k12m0, k12m1, k12m2]
  instanceTypes := #[]
  staticTypes := #[(.object "java/util/function/BiFunction"), (.object "java/util/function/BiFunction"), (.object "java/util/function/BiFunction")]
  resolved := Array.replicate 194 none
  statics := some 1 }

def pool13 : Array CpInfo := pool [(9, u "<init>"), (6, .class_ 18), (1, u "java/lang/Object"), (0, u "()V"), (1, .class_ 23), (1, u "jdk/internal/util/ArraysSupport"), (0, u "LOG2_ARRAY_LONG_INDEX_SCALE"), (0, u "I"), (2, u "U"), (0, u "Ljdk/internal/misc/Unsafe;"), (8, u "BIG_ENDIAN"), (0, u "Z"), (8, u "LOG2_BYTE_BIT_SIZE"), (4, u "LOG2_ARRAY_INT_INDEX_SCALE"), (54, u "JLA"), (0, u "Ljdk/internal/access/JavaLangAccess;"), (11, u "LOG2_ARRAY_BOOLEAN_INDEX_SCALE"), (9, u "LOG2_ARRAY_BYTE_INDEX_SCALE"), (5, u "LOG2_ARRAY_CHAR_INDEX_SCALE"), (5, u "LOG2_ARRAY_SHORT_INDEX_SCALE"), (18, u "LOG2_ARRAY_FLOAT_INDEX_SCALE"), (24, u "LOG2_ARRAY_DOUBLE_INDEX_SCALE"), (89, u "T_BOOLEAN"), (2, u "T_CHAR"), (1, u "T_FLOAT"), (1, u "T_DOUBLE"), (1, u "T_BYTE"), (1, u "T_SHORT"), (1, u "T_INT"), (1, u "T_LONG"), (1, u "SOFT_MAX_ARRAY_LENGTH")] 83

def k13m0 : Method := { name := "<init>", desc := "()V", sig := { parameters := [], returnType := none }, accessFlags := 2, code := none }
/-- jdk/internal/util/ArraysSupport -/
def k13 : Class := { plain "jdk/internal/util/ArraysSupport" (some 0) with
  accessFlags := 33
  interfaces := #[]
  cf := some (fileOf pool13 21 #[] #[{ accessFlags := 2, nameIndex := 9, descriptorIndex := 19, attributes := #[] }] 33 16 #[] #[{ accessFlags := 24, nameIndex := 28, descriptorIndex := 29, attributes := #[] }, { accessFlags := 26, nameIndex := 38, descriptorIndex := 39, attributes := #[] }, { accessFlags := 25, nameIndex := 121, descriptorIndex := 25, attributes := #[] }, { accessFlags := 25, nameIndex := 131, descriptorIndex := 25, attributes := #[] }, { accessFlags := 25, nameIndex := 137, descriptorIndex := 25, attributes := #[] }, { accessFlags := 25, nameIndex := 143, descriptorIndex := 25, attributes := #[] }, { accessFlags := 25, nameIndex := 53, descriptorIndex := 25, attributes := #[] }, { accessFlags := 25, nameIndex := 24, descriptorIndex := 25, attributes := #[] }, { accessFlags := 25, nameIndex := 162, descriptorIndex := 25, attributes := #[] }, { accessFlags := 25, nameIndex := 187, descriptorIndex := 25, attributes := #[] }, { accessFlags := 26, nameIndex := 48, descriptorIndex := 25, attributes := #[] }, { accessFlags := 25, nameIndex := 277, descriptorIndex := 25, attributes := #[] }, { accessFlags := 25, nameIndex := 280, descriptorIndex := 25, attributes := #[] }, { accessFlags := 25, nameIndex := 282, descriptorIndex := 25, attributes := #[] }, { accessFlags := 25, nameIndex := 284, descriptorIndex := 25, attributes := #[] }, { accessFlags := 25, nameIndex := 286, descriptorIndex := 25, attributes := #[] }, { accessFlags := 25, nameIndex := 288, descriptorIndex := 25, attributes := #[] }, { accessFlags := 25, nameIndex := 290, descriptorIndex := 25, attributes := #[] }, { accessFlags := 25, nameIndex := 292, descriptorIndex := 25, attributes := #[] }, { accessFlags := 26, nameIndex := 108, descriptorIndex := 109, attributes := #[] }, { accessFlags := 25, nameIndex := 294, descriptorIndex := 25, attributes := #[] }])
  fields := #[{ name := "U", type := (.object "jdk/internal/misc/Unsafe"), accessFlags := 24, slot := 0, constantValue := 0 }, { name := "BIG_ENDIAN", type := .boolean, accessFlags := 26, slot := 1, constantValue := 0 }, { name := "LOG2_ARRAY_BOOLEAN_INDEX_SCALE", type := .int, accessFlags := 25, slot := 2, constantValue := 0 }, { name := "LOG2_ARRAY_BYTE_INDEX_SCALE", type := .int, accessFlags := 25, slot := 3, constantValue := 0 }, { name := "LOG2_ARRAY_CHAR_INDEX_SCALE", type := .int, accessFlags := 25, slot := 4, constantValue := 0 }, { name := "LOG2_ARRAY_SHORT_INDEX_SCALE", type := .int, accessFlags := 25, slot := 5, constantValue := 0 }, { name := "LOG2_ARRAY_INT_INDEX_SCALE", type := .int, accessFlags := 25, slot := 6, constantValue := 0 }, { name := "LOG2_ARRAY_LONG_INDEX_SCALE", type := .int, accessFlags := 25, slot := 7, constantValue := 0 }, { name := "LOG2_ARRAY_FLOAT_INDEX_SCALE", type := .int, accessFlags := 25, slot := 8, constantValue := 0 }, { name := "LOG2_ARRAY_DOUBLE_INDEX_SCALE", type := .int, accessFlags := 25, slot := 9, constantValue := 0 }, { name := "LOG2_BYTE_BIT_SIZE", type := .int, accessFlags := 26, slot := 10, constantValue := 0 }, { name := "T_BOOLEAN", type := .int, accessFlags := 25, slot := 11, constantValue := 0 }, { name := "T_CHAR", type := .int, accessFlags := 25, slot := 12, constantValue := 0 }, { name := "T_FLOAT", type := .int, accessFlags := 25, slot := 13, constantValue := 0 }, { name := "T_DOUBLE", type := .int, accessFlags := 25, slot := 14, constantValue := 0 }, { name := "T_BYTE", type := .int, accessFlags := 25, slot := 15, constantValue := 0 }, { name := "T_SHORT", type := .int, accessFlags := 25, slot := 16, constantValue := 0 }, { name := "T_INT", type := .int, accessFlags := 25, slot := 17, constantValue := 0 }, { name := "T_LONG", type := .int, accessFlags := 25, slot := 18, constantValue := 0 }, { name := "JLA", type := (.object "jdk/internal/access/JavaLangAccess"), accessFlags := 26, slot := 19, constantValue := 0 }, { name := "SOFT_MAX_ARRAY_LENGTH", type := .int, accessFlags := 25, slot := 20, constantValue := 0 }]
  methods := #[k13m0]
  instanceTypes := #[]
  staticTypes := #[(.object "jdk/internal/misc/Unsafe"), .boolean, .int, .int, .int, .int, .int, .int, .int, .int, .int, .int, .int, .int, .int, .int, .int, .int, .int, (.object "jdk/internal/access/JavaLangAccess"), .int]
  resolved := Array.replicate 378 none
  statics := none }

def pool14 : Array CpInfo := pool [(1, u "java/lang/Cloneable"), (0, .class_ 1), (0, u "java/lang/Object"), (0, .class_ 3)] 3

/-- java/lang/Cloneable -/
def k14 : Class := { plain "java/lang/Cloneable" (some 0) with
  accessFlags := 1537
  interfaces := #[]
  cf := some (fileOf pool14 2 #[] #[] 1537 4 #[] #[])
  fields := #[]
  methods := #[]
  instanceTypes := #[]
  staticTypes := #[]
  resolved := Array.replicate 8 none
  statics := none }

/-- the primitive byte -/
def k15 : Class := { plain "byte" none with kind := .primitive 'B', accessFlags := 0x411 }
/-- [B -/
def k16 : Class := { plain "[B" (some 0) with kind := .array 15 .byte, interfaces := #[14, 2], accessFlags := 1041 }

/-- the primitive char -/
def k17 : Class := { plain "char" none with kind := .primitive 'C', accessFlags := 0x411 }
/-- [C -/
def k18 : Class := { plain "[C" (some 0) with kind := .array 17 .char, interfaces := #[14, 2], accessFlags := 1041 }

/-- the primitive int -/
def k19 : Class := { plain "int" none with kind := .primitive 'I', accessFlags := 0x411 }
/-- [I -/
def k20 : Class := { plain "[I" (some 0) with kind := .array 19 .int, interfaces := #[14, 2], accessFlags := 1041 }

/-- [[C -/
def k21 : Class := { plain "[[C" (some 0) with kind := .array 18 (.array .char), interfaces := #[14, 2], accessFlags := 1041 }

def heap : Heap := #[{ cls := 7, slots := #[.long 0, .int 1, .null, .int 0, .null, .int 0, .int 0], vm := .statics 7 },
  { cls := 12, slots := #[.null, .null, .null], vm := .statics 12 }]
def classes : Array Class := #[k0, k1, k2, k3, k4, k5, k6, k7, k8, k9, k10, k11, k12, k13, k14, k15, k16, k17, k18, k19, k20, k21]
def interned : List (Array UInt16 × Addr) := []
def slotsUsed : Nat := 10
def theMethod : MethodId := ⟨1, 2⟩
def args0 : Array Value := #[.int 5, .int 5, .int 5, .int 5]
def aboutOver (below : List Frame) : State where
  vm := { classes := classes, interned := interned.toArray }
  heap := heap
  slotsUsed := slotsUsed
  threads := #[{ frames := .invoking theMethod args0 :: below }]
def below0 : List Frame := [.native { method := ⟨0, 0⟩, args := #[] }]
def about1 : State := aboutOver below0
def p0 : Program := .bare "" "" ""
def e0 : Env := launch0.env 0 0 0
theorem w_frames : about1.frames = Frame.invoking theMethod args0 :: below0 := rfl
set_option maxRecDepth 65536 in
theorem w_args : argsFit about1.vm theMethod args0 = true := by decide +kernel
set_option maxRecDepth 65536 in
theorem w_heap : heapFits about1 = true := by decide +kernel
set_option maxRecDepth 65536 in
theorem w_runnable : about1.curStatus? = some .runnable := by decide +kernel
set_option maxRecDepth 65536 in
theorem w_alone : about1.alone = true := by decide +kernel
set_option maxRecDepth 65536 in
theorem w_named : about1.methodNamed? x = some theMethod := by decide +kernel
set_option maxRecDepth 65536 in
theorem w_hears : about1.hears theMethod below0 = true := by decide +kernel
set_option maxRecDepth 65536 in
theorem w_ripe : about1.ripe theMethod args0 below0 = true := by decide +kernel
theorem w_running : about1.status = .running := rfl
set_option maxRecDepth 65536 in
theorem w_room : about1.hasRoom e0.platform room_1 = true :=
  launch0.hasRoom_least _ room_1 (by decide +kernel) (by decide +kernel) (by decide +kernel) (by decide +kernel) (by decide +kernel) (by decide +kernel)
theorem allAtoms_all (ts : List Jvm.Cond) (a : Array Jvm.Value) (st : Jvm.State) : (allAtoms ts).before a st = ts.all (fun c => c.before a st) := by
  induction ts with
  | nil => rfl
  | cons c t ih =>
    show (Jvm.Cond.and c (allAtoms t)).before a st = _
    rw [Jvm.Cond.before_and, ih, List.all_cons]
def words1 : List Jvm.Cond := Jvm.Cond.code x code maxLocals ret :: tables_1
/-- a 'code' word, met by the world's own term for the bytes: nothing is compared byte by byte -/
theorem code_word {y : MethodName} {bytes : ByteArray} {mx : Nat} {rt : Option FieldType} {a : Array Value} {s : State} {m : MethodId} {meth : Method} {c : Code} (h1 : s.methodNamed? y = some m) (h2 : s.vm.method? m = some meth) (h3 : meth.code = some c) (h4 : c.code = bytes)
    (h5 : (c.maxLocals == mx && c.exceptionTable.isEmpty && decide (c.maxStack ≤ mostOperands) && decide (meth.sig.returnType = rt) && !meth.locks && decide (parseMethodDescriptor y.desc = some meth.sig)) = true) : (Jvm.Cond.code y bytes mx rt).before a s = true := by
  simp only [Bool.and_eq_true, beq_iff_eq, Bool.not_eq_true', decide_eq_true_eq] at h5
  obtain ⟨⟨⟨⟨⟨g1, g2⟩, g3⟩, g4⟩, g5⟩, g6⟩ := h5
  simp [Cond.before, Cond.holds, Cond.value, h1, h2, h3, h4, g1, g2, g3, g4, g5, g6]
def isCode : Jvm.Cond → Bool
  | .code _ _ _ _ => true
  | _ => false
theorem all_split {L : List Jvm.Cond} {P : Jvm.Cond → Bool} (h1 : L.all (fun c => isCode c || P c) = true) (h2 : ∀ c ∈ L.filter isCode, P c = true) : L.all P = true := by
  refine List.all_eq_true.mpr fun c hc => ?_
  have h := List.all_eq_true.mp h1 c hc
  rcases Bool.eq_false_or_eq_true (isCode c) with hi | hi
  · exact h2 c (List.mem_filter.mpr ⟨hc, hi⟩)
  · simpa [hi] using h
set_option maxRecDepth 65536 in
theorem w_c0 : (Jvm.Cond.code x code maxLocals ret).before args0 about1 = true := code_word (m := ⟨1, 2⟩) (meth := k1m2) (c := k1c2) (by decide +kernel) rfl rfl rfl (by decide +kernel)
set_option maxRecDepth 65536 in
theorem w_c1 : (Jvm.Cond.code ({ cls := "com/example/templum/templum/model/TextStoreClosePinLaw", name := "str", desc := "(II)Ljava/lang/String;" } : Jvm.MethodName) method_2_code (5 : Nat) (Option.some (Jvm.ClassFile.FieldType.object "java/lang/String"))).before args0 about1 = true := code_word (m := ⟨1, 1⟩) (meth := k1m1) (c := k1c1) (by decide +kernel) rfl rfl rfl (by decide +kernel)
set_option maxRecDepth 65536 in
theorem w_c2 : (Jvm.Cond.code ({ cls := "java/lang/String", name := "<init>", desc := "([C)V" } : Jvm.MethodName) jdk_42_method_3_code (2 : Nat) (Option.none : Option Jvm.ClassFile.FieldType)).before args0 about1 = true := code_word (m := ⟨7, 1⟩) (meth := k7m1) (c := k7c1) (by decide +kernel) rfl rfl rfl (by decide +kernel)
set_option maxRecDepth 65536 in
theorem w_c3 : (Jvm.Cond.code ({ cls := "java/lang/String", name := "<init>", desc := "([CIILjava/lang/Void;)V" } : Jvm.MethodName) jdk_42_method_149_code (6 : Nat) (Option.none : Option Jvm.ClassFile.FieldType)).before args0 about1 = true := code_word (m := ⟨7, 8⟩) (meth := k7m8) (c := k7c8) (by decide +kernel) rfl rfl rfl (by decide +kernel)
set_option maxRecDepth 65536 in
theorem w_c4 : (Jvm.Cond.code ({ cls := "java/lang/Object", name := "<init>", desc := "()V" } : Jvm.MethodName) object_method_1_code (1 : Nat) (Option.none : Option Jvm.ClassFile.FieldType)).before args0 about1 = true := code_word (m := ⟨0, 0⟩) (meth := k0m0) (c := k0c0) (by decide +kernel) rfl rfl rfl (by decide +kernel)
set_option maxRecDepth 65536 in
theorem w_c5 : (Jvm.Cond.code ({ cls := "com/example/templum/templum/model/TextStore", name := "<init>", desc := "()V" } : Jvm.MethodName) prog_84_method_1_code (1 : Nat) (Option.none : Option Jvm.ClassFile.FieldType)).before args0 about1 = true := code_word (m := ⟨8, 0⟩) (meth := k8m0) (c := k8c0) (by decide +kernel) rfl rfl rfl (by decide +kernel)
set_option maxRecDepth 65536 in
theorem w_c6 : (Jvm.Cond.code ({ cls := "com/example/templum/templum/model/TextStore", name := "add", desc := "(Ljava/lang/String;)I" } : Jvm.MethodName) prog_84_method_2_code (2 : Nat) (Option.some Jvm.ClassFile.FieldType.int)).before args0 about1 = true := code_word (m := ⟨8, 1⟩) (meth := k8m1) (c := k8c1) (by decide +kernel) rfl rfl rfl (by decide +kernel)
set_option maxRecDepth 65536 in
theorem w_c7 : (Jvm.Cond.code ({ cls := "com/example/templum/templum/model/TextStore", name := "append", desc := "(Ljava/lang/CharSequence;)V" } : Jvm.MethodName) prog_84_method_3_code (8 : Nat) (Option.none : Option Jvm.ClassFile.FieldType)).before args0 about1 = true := code_word (m := ⟨8, 2⟩) (meth := k8m2) (c := k8c2) (by decide +kernel) rfl rfl rfl (by decide +kernel)
set_option maxRecDepth 65536 in
theorem w_c8 : (Jvm.Cond.code ({ cls := "java/lang/String", name := "length", desc := "()I" } : Jvm.MethodName) jdk_42_method_54_code (1 : Nat) (Option.some Jvm.ClassFile.FieldType.int)).before args0 about1 = true := code_word (m := ⟨7, 4⟩) (meth := k7m4) (c := k7c4) (by decide +kernel) rfl rfl rfl (by decide +kernel)
set_option maxRecDepth 65536 in
theorem w_c9 : (Jvm.Cond.code ({ cls := "java/lang/String", name := "coder", desc := "()B" } : Jvm.MethodName) jdk_42_method_152_code (1 : Nat) (Option.some Jvm.ClassFile.FieldType.byte)).before args0 about1 = true := code_word (m := ⟨7, 10⟩) (meth := k7m10) (c := k7c10) (by decide +kernel) rfl rfl rfl (by decide +kernel)
set_option maxRecDepth 65536 in
theorem w_c10 : (Jvm.Cond.code ({ cls := "com/example/templum/templum/model/TextStore", name := "reserve", desc := "(I)V" } : Jvm.MethodName) prog_84_method_5_code (2 : Nat) (Option.none : Option Jvm.ClassFile.FieldType)).before args0 about1 = true := code_word (m := ⟨8, 3⟩) (meth := k8m3) (c := k8c3) (by decide +kernel) rfl rfl rfl (by decide +kernel)
set_option maxRecDepth 65536 in
theorem w_c11 : (Jvm.Cond.code ({ cls := "com/example/templum/templum/model/TextStore", name := "close", desc := "()I" } : Jvm.MethodName) prog_84_method_8_code (2 : Nat) (Option.some Jvm.ClassFile.FieldType.int)).before args0 about1 = true := code_word (m := ⟨8, 6⟩) (meth := k8m6) (c := k8c6) (by decide +kernel) rfl rfl rfl (by decide +kernel)
set_option maxRecDepth 65536 in
theorem w_c12 : (Jvm.Cond.code ({ cls := "com/example/templum/templum/model/TextStore", name := "openLength", desc := "()I" } : Jvm.MethodName) prog_84_method_7_code (1 : Nat) (Option.some Jvm.ClassFile.FieldType.int)).before args0 about1 = true := code_word (m := ⟨8, 5⟩) (meth := k8m5) (c := k8c5) (by decide +kernel) rfl rfl rfl (by decide +kernel)
set_option maxRecDepth 65536 in
theorem w_c13 : (Jvm.Cond.code ({ cls := "com/example/templum/templum/model/TextStore", name := "get", desc := "(II)Ljava/lang/String;" } : Jvm.MethodName) prog_84_method_9_code (5 : Nat) (Option.some (Jvm.ClassFile.FieldType.object "java/lang/String"))).before args0 about1 = true := code_word (m := ⟨8, 7⟩) (meth := k8m7) (c := k8c7) (by decide +kernel) rfl rfl rfl (by decide +kernel)
set_option maxRecDepth 65536 in
theorem w_c14 : (Jvm.Cond.code ({ cls := "java/lang/String", name := "equals", desc := "(Ljava/lang/Object;)Z" } : Jvm.MethodName) jdk_42_method_66_code (3 : Nat) (Option.some Jvm.ClassFile.FieldType.boolean)).before args0 about1 = true := code_word (m := ⟨7, 6⟩) (meth := k7m6) (c := k7c6) (by decide +kernel) rfl rfl rfl (by decide +kernel)
set_option maxRecDepth 65536 in
theorem w_c15 : (Jvm.Cond.code ({ cls := "java/lang/StringLatin1", name := "equals", desc := "([B[B)Z" } : Jvm.MethodName) jdk_43_method_13_code (3 : Nat) (Option.some Jvm.ClassFile.FieldType.boolean)).before args0 about1 = true := code_word (m := ⟨9, 3⟩) (meth := k9m3) (c := k9c3) (by decide +kernel) rfl rfl rfl (by decide +kernel)
set_option maxRecDepth 65536 in
theorem w_c16 : (Jvm.Cond.code ({ cls := "java/lang/StringUTF16", name := "compress", desc := "([CII)[B" } : Jvm.MethodName) jdk_52_method_16_code (6 : Nat) (Option.some (Jvm.ClassFile.FieldType.array Jvm.ClassFile.FieldType.byte))).before args0 about1 = true := code_word (m := ⟨10, 2⟩) (meth := k10m2) (c := k10c2) (by decide +kernel) rfl rfl rfl (by decide +kernel)
set_option maxRecDepth 65536 in
theorem w_c17 : (Jvm.Cond.code ({ cls := "java/lang/StringUTF16", name := "compress", desc := "([CI[BII)I" } : Jvm.MethodName) jdk_52_method_21_code (7 : Nat) (Option.some Jvm.ClassFile.FieldType.int)).before args0 about1 = true := code_word (m := ⟨10, 3⟩) (meth := k10m3) (c := k10c3) (by decide +kernel) rfl rfl rfl (by decide +kernel)
set_option maxRecDepth 65536 in
theorem w_c18 : (Jvm.Cond.code ({ cls := "java/lang/StringUTF16", name := "coderFromArrayLen", desc := "([BI)B" } : Jvm.MethodName) jdk_52_method_15_code (2 : Nat) (Option.some Jvm.ClassFile.FieldType.byte)).before args0 about1 = true := code_word (m := ⟨10, 1⟩) (meth := k10m1) (c := k10c1) (by decide +kernel) rfl rfl rfl (by decide +kernel)
set_option maxRecDepth 65536 in
theorem w_c19 : (Jvm.Cond.code ({ cls := "com/example/templum/templum/model/TextStore", name := "chunkWithRoom", desc := "()[C" } : Jvm.MethodName) prog_84_method_6_code (2 : Nat) (Option.some (Jvm.ClassFile.FieldType.array Jvm.ClassFile.FieldType.char))).before args0 about1 = true := code_word (m := ⟨8, 4⟩) (meth := k8m4) (c := k8c4) (by decide +kernel) rfl rfl rfl (by decide +kernel)
set_option maxRecDepth 65536 in
theorem w_c20 : (Jvm.Cond.code ({ cls := "java/lang/Math", name := "min", desc := "(II)I" } : Jvm.MethodName) jdk_29_method_69_code (2 : Nat) (Option.some Jvm.ClassFile.FieldType.int)).before args0 about1 = true := code_word (m := ⟨11, 1⟩) (meth := k11m1) (c := k11c1) (by decide +kernel) rfl rfl rfl (by decide +kernel)
set_option maxRecDepth 65536 in
theorem w_c21 : (Jvm.Cond.code ({ cls := "java/lang/String", name := "getChars", desc := "(II[CI)V" } : Jvm.MethodName) jdk_42_method_61_code (5 : Nat) (Option.none : Option Jvm.ClassFile.FieldType)).before args0 about1 = true := code_word (m := ⟨7, 5⟩) (meth := k7m5) (c := k7c5) (by decide +kernel) rfl rfl rfl (by decide +kernel)
set_option maxRecDepth 65536 in
theorem w_c22 : (Jvm.Cond.code ({ cls := "java/lang/String", name := "checkBoundsBeginEnd", desc := "(III)V" } : Jvm.MethodName) jdk_42_method_158_code (3 : Nat) (Option.none : Option Jvm.ClassFile.FieldType)).before args0 about1 = true := code_word (m := ⟨7, 13⟩) (meth := k7m13) (c := k7c13) (by decide +kernel) rfl rfl rfl (by decide +kernel)
set_option maxRecDepth 65536 in
theorem w_c23 : (Jvm.Cond.code ({ cls := "jdk/internal/util/Preconditions", name := "checkFromToIndex", desc := "(IIILjava/util/function/BiFunction;)I" } : Jvm.MethodName) jdk_41_method_12_code (4 : Nat) (Option.some Jvm.ClassFile.FieldType.int)).before args0 about1 = true := code_word (m := ⟨12, 1⟩) (meth := k12m1) (c := k12c1) (by decide +kernel) rfl rfl rfl (by decide +kernel)
set_option maxRecDepth 65536 in
theorem w_c24 : (Jvm.Cond.code ({ cls := "java/lang/String", name := "checkBoundsOffCount", desc := "(III)I" } : Jvm.MethodName) jdk_42_method_157_code (3 : Nat) (Option.some Jvm.ClassFile.FieldType.int)).before args0 about1 = true := code_word (m := ⟨7, 12⟩) (meth := k7m12) (c := k7c12) (by decide +kernel) rfl rfl rfl (by decide +kernel)
set_option maxRecDepth 65536 in
theorem w_c25 : (Jvm.Cond.code ({ cls := "jdk/internal/util/Preconditions", name := "checkFromIndexSize", desc := "(IIILjava/util/function/BiFunction;)I" } : Jvm.MethodName) jdk_41_method_13_code (4 : Nat) (Option.some Jvm.ClassFile.FieldType.int)).before args0 about1 = true := code_word (m := ⟨12, 2⟩) (meth := k12m2) (c := k12c2) (by decide +kernel) rfl rfl rfl (by decide +kernel)
set_option maxRecDepth 65536 in
theorem w_c26 : (Jvm.Cond.code ({ cls := "java/lang/String", name := "isLatin1", desc := "()Z" } : Jvm.MethodName) jdk_42_method_154_code (1 : Nat) (Option.some Jvm.ClassFile.FieldType.boolean)).before args0 about1 = true := code_word (m := ⟨7, 11⟩) (meth := k7m11) (c := k7c11) (by decide +kernel) rfl rfl rfl (by decide +kernel)
set_option maxRecDepth 65536 in
theorem w_c27 : (Jvm.Cond.code ({ cls := "java/lang/StringLatin1", name := "getChars", desc := "([BII[CI)V" } : Jvm.MethodName) jdk_43_method_11_code (5 : Nat) (Option.none : Option Jvm.ClassFile.FieldType)).before args0 about1 = true := code_word (m := ⟨9, 2⟩) (meth := k9m2) (c := k9c2) (by decide +kernel) rfl rfl rfl (by decide +kernel)
set_option maxRecDepth 65536 in
theorem w_c28 : (Jvm.Cond.code ({ cls := "java/lang/StringLatin1", name := "inflate", desc := "([BI[CII)V" } : Jvm.MethodName) jdk_43_method_49_code (6 : Nat) (Option.none : Option Jvm.ClassFile.FieldType)).before args0 about1 = true := code_word (m := ⟨9, 5⟩) (meth := k9m5) (c := k9c5) (by decide +kernel) rfl rfl rfl (by decide +kernel)
set_option maxRecDepth 65536 in
theorem w_c29 : (Jvm.Cond.code ({ cls := "com/example/templum/templum/model/TextStore", name := "inOneChunk", desc := "(II)Z" } : Jvm.MethodName) prog_84_method_12_code (2 : Nat) (Option.some Jvm.ClassFile.FieldType.boolean)).before args0 about1 = true := code_word (m := ⟨8, 8⟩) (meth := k8m8) (c := k8c8) (by decide +kernel) rfl rfl rfl (by decide +kernel)
set_option maxRecDepth 65536 in
theorem w_c30 : (Jvm.Cond.code ({ cls := "java/lang/String", name := "<init>", desc := "([CII)V" } : Jvm.MethodName) jdk_42_method_4_code (4 : Nat) (Option.none : Option Jvm.ClassFile.FieldType)).before args0 about1 = true := code_word (m := ⟨7, 2⟩) (meth := k7m2) (c := k7c2) (by decide +kernel) rfl rfl rfl (by decide +kernel)
set_option maxRecDepth 65536 in
theorem w_c31 : (Jvm.Cond.code ({ cls := "java/lang/String", name := "rangeCheck", desc := "([CII)Ljava/lang/Void;" } : Jvm.MethodName) jdk_42_method_5_code (3 : Nat) (Option.some (Jvm.ClassFile.FieldType.object "java/lang/Void"))).before args0 about1 = true := code_word (m := ⟨7, 3⟩) (meth := k7m3) (c := k7c3) (by decide +kernel) rfl rfl rfl (by decide +kernel)
set_option maxRecDepth 65536 in
theorem w_c32 : (Jvm.Cond.code ({ cls := "java/lang/String", name := "valueOf", desc := "(C)Ljava/lang/String;" } : Jvm.MethodName) jdk_42_method_139_code (1 : Nat) (Option.some (Jvm.ClassFile.FieldType.object "java/lang/String"))).before args0 about1 = true := code_word (m := ⟨7, 7⟩) (meth := k7m7) (c := k7c7) (by decide +kernel) rfl rfl rfl (by decide +kernel)
set_option maxRecDepth 65536 in
theorem w_c33 : (Jvm.Cond.code ({ cls := "java/lang/StringLatin1", name := "canEncode", desc := "(C)Z" } : Jvm.MethodName) jdk_43_method_3_code (1 : Nat) (Option.some Jvm.ClassFile.FieldType.boolean)).before args0 about1 = true := code_word (m := ⟨9, 1⟩) (meth := k9m1) (c := k9c1) (by decide +kernel) rfl rfl rfl (by decide +kernel)
set_option maxRecDepth 65536 in
theorem w_c34 : (Jvm.Cond.code ({ cls := "java/lang/StringLatin1", name := "toBytes", desc := "(C)[B" } : Jvm.MethodName) jdk_43_method_46_code (1 : Nat) (Option.some (Jvm.ClassFile.FieldType.array Jvm.ClassFile.FieldType.byte))).before args0 about1 = true := code_word (m := ⟨9, 4⟩) (meth := k9m4) (c := k9c4) (by decide +kernel) rfl rfl rfl (by decide +kernel)
set_option maxRecDepth 65536 in
theorem w_c35 : (Jvm.Cond.code ({ cls := "java/lang/String", name := "<init>", desc := "([BB)V" } : Jvm.MethodName) jdk_42_method_151_code (3 : Nat) (Option.none : Option Jvm.ClassFile.FieldType)).before args0 about1 = true := code_word (m := ⟨7, 9⟩) (meth := k7m9) (c := k7c9) (by decide +kernel) rfl rfl rfl (by decide +kernel)
def codes1 : List Jvm.Cond := [Jvm.Cond.code x code maxLocals ret, Jvm.Cond.code ({ cls := "com/example/templum/templum/model/TextStoreClosePinLaw", name := "str", desc := "(II)Ljava/lang/String;" } : Jvm.MethodName) method_2_code (5 : Nat) (Option.some (Jvm.ClassFile.FieldType.object "java/lang/String")), Jvm.Cond.code ({ cls := "java/lang/String", name := "<init>", desc := "([C)V" } : Jvm.MethodName) jdk_42_method_3_code (2 : Nat) (Option.none : Option Jvm.ClassFile.FieldType), Jvm.Cond.code ({ cls := "java/lang/String", name := "<init>", desc := "([CIILjava/lang/Void;)V" } : Jvm.MethodName) jdk_42_method_149_code (6 : Nat) (Option.none : Option Jvm.ClassFile.FieldType), Jvm.Cond.code ({ cls := "java/lang/Object", name := "<init>", desc := "()V" } : Jvm.MethodName) object_method_1_code (1 : Nat) (Option.none : Option Jvm.ClassFile.FieldType), Jvm.Cond.code ({ cls := "com/example/templum/templum/model/TextStore", name := "<init>", desc := "()V" } : Jvm.MethodName) prog_84_method_1_code (1 : Nat) (Option.none : Option Jvm.ClassFile.FieldType), Jvm.Cond.code ({ cls := "com/example/templum/templum/model/TextStore", name := "add", desc := "(Ljava/lang/String;)I" } : Jvm.MethodName) prog_84_method_2_code (2 : Nat) (Option.some Jvm.ClassFile.FieldType.int), Jvm.Cond.code ({ cls := "com/example/templum/templum/model/TextStore", name := "append", desc := "(Ljava/lang/CharSequence;)V" } : Jvm.MethodName) prog_84_method_3_code (8 : Nat) (Option.none : Option Jvm.ClassFile.FieldType), Jvm.Cond.code ({ cls := "java/lang/String", name := "length", desc := "()I" } : Jvm.MethodName) jdk_42_method_54_code (1 : Nat) (Option.some Jvm.ClassFile.FieldType.int), Jvm.Cond.code ({ cls := "java/lang/String", name := "coder", desc := "()B" } : Jvm.MethodName) jdk_42_method_152_code (1 : Nat) (Option.some Jvm.ClassFile.FieldType.byte), Jvm.Cond.code ({ cls := "com/example/templum/templum/model/TextStore", name := "reserve", desc := "(I)V" } : Jvm.MethodName) prog_84_method_5_code (2 : Nat) (Option.none : Option Jvm.ClassFile.FieldType), Jvm.Cond.code ({ cls := "com/example/templum/templum/model/TextStore", name := "close", desc := "()I" } : Jvm.MethodName) prog_84_method_8_code (2 : Nat) (Option.some Jvm.ClassFile.FieldType.int), Jvm.Cond.code ({ cls := "com/example/templum/templum/model/TextStore", name := "openLength", desc := "()I" } : Jvm.MethodName) prog_84_method_7_code (1 : Nat) (Option.some Jvm.ClassFile.FieldType.int), Jvm.Cond.code ({ cls := "com/example/templum/templum/model/TextStore", name := "get", desc := "(II)Ljava/lang/String;" } : Jvm.MethodName) prog_84_method_9_code (5 : Nat) (Option.some (Jvm.ClassFile.FieldType.object "java/lang/String")), Jvm.Cond.code ({ cls := "java/lang/String", name := "equals", desc := "(Ljava/lang/Object;)Z" } : Jvm.MethodName) jdk_42_method_66_code (3 : Nat) (Option.some Jvm.ClassFile.FieldType.boolean), Jvm.Cond.code ({ cls := "java/lang/StringLatin1", name := "equals", desc := "([B[B)Z" } : Jvm.MethodName) jdk_43_method_13_code (3 : Nat) (Option.some Jvm.ClassFile.FieldType.boolean), Jvm.Cond.code ({ cls := "java/lang/StringUTF16", name := "compress", desc := "([CII)[B" } : Jvm.MethodName) jdk_52_method_16_code (6 : Nat) (Option.some (Jvm.ClassFile.FieldType.array Jvm.ClassFile.FieldType.byte)), Jvm.Cond.code ({ cls := "java/lang/StringUTF16", name := "compress", desc := "([CI[BII)I" } : Jvm.MethodName) jdk_52_method_21_code (7 : Nat) (Option.some Jvm.ClassFile.FieldType.int), Jvm.Cond.code ({ cls := "java/lang/StringUTF16", name := "coderFromArrayLen", desc := "([BI)B" } : Jvm.MethodName) jdk_52_method_15_code (2 : Nat) (Option.some Jvm.ClassFile.FieldType.byte), Jvm.Cond.code ({ cls := "com/example/templum/templum/model/TextStore", name := "chunkWithRoom", desc := "()[C" } : Jvm.MethodName) prog_84_method_6_code (2 : Nat) (Option.some (Jvm.ClassFile.FieldType.array Jvm.ClassFile.FieldType.char)), Jvm.Cond.code ({ cls := "java/lang/Math", name := "min", desc := "(II)I" } : Jvm.MethodName) jdk_29_method_69_code (2 : Nat) (Option.some Jvm.ClassFile.FieldType.int), Jvm.Cond.code ({ cls := "java/lang/String", name := "getChars", desc := "(II[CI)V" } : Jvm.MethodName) jdk_42_method_61_code (5 : Nat) (Option.none : Option Jvm.ClassFile.FieldType), Jvm.Cond.code ({ cls := "java/lang/String", name := "checkBoundsBeginEnd", desc := "(III)V" } : Jvm.MethodName) jdk_42_method_158_code (3 : Nat) (Option.none : Option Jvm.ClassFile.FieldType), Jvm.Cond.code ({ cls := "jdk/internal/util/Preconditions", name := "checkFromToIndex", desc := "(IIILjava/util/function/BiFunction;)I" } : Jvm.MethodName) jdk_41_method_12_code (4 : Nat) (Option.some Jvm.ClassFile.FieldType.int), Jvm.Cond.code ({ cls := "java/lang/String", name := "checkBoundsOffCount", desc := "(III)I" } : Jvm.MethodName) jdk_42_method_157_code (3 : Nat) (Option.some Jvm.ClassFile.FieldType.int), Jvm.Cond.code ({ cls := "jdk/internal/util/Preconditions", name := "checkFromIndexSize", desc := "(IIILjava/util/function/BiFunction;)I" } : Jvm.MethodName) jdk_41_method_13_code (4 : Nat) (Option.some Jvm.ClassFile.FieldType.int), Jvm.Cond.code ({ cls := "java/lang/String", name := "isLatin1", desc := "()Z" } : Jvm.MethodName) jdk_42_method_154_code (1 : Nat) (Option.some Jvm.ClassFile.FieldType.boolean), Jvm.Cond.code ({ cls := "java/lang/StringLatin1", name := "getChars", desc := "([BII[CI)V" } : Jvm.MethodName) jdk_43_method_11_code (5 : Nat) (Option.none : Option Jvm.ClassFile.FieldType), Jvm.Cond.code ({ cls := "java/lang/StringLatin1", name := "inflate", desc := "([BI[CII)V" } : Jvm.MethodName) jdk_43_method_49_code (6 : Nat) (Option.none : Option Jvm.ClassFile.FieldType), Jvm.Cond.code ({ cls := "com/example/templum/templum/model/TextStore", name := "inOneChunk", desc := "(II)Z" } : Jvm.MethodName) prog_84_method_12_code (2 : Nat) (Option.some Jvm.ClassFile.FieldType.boolean), Jvm.Cond.code ({ cls := "java/lang/String", name := "<init>", desc := "([CII)V" } : Jvm.MethodName) jdk_42_method_4_code (4 : Nat) (Option.none : Option Jvm.ClassFile.FieldType), Jvm.Cond.code ({ cls := "java/lang/String", name := "rangeCheck", desc := "([CII)Ljava/lang/Void;" } : Jvm.MethodName) jdk_42_method_5_code (3 : Nat) (Option.some (Jvm.ClassFile.FieldType.object "java/lang/Void")), Jvm.Cond.code ({ cls := "java/lang/String", name := "valueOf", desc := "(C)Ljava/lang/String;" } : Jvm.MethodName) jdk_42_method_139_code (1 : Nat) (Option.some (Jvm.ClassFile.FieldType.object "java/lang/String")), Jvm.Cond.code ({ cls := "java/lang/StringLatin1", name := "canEncode", desc := "(C)Z" } : Jvm.MethodName) jdk_43_method_3_code (1 : Nat) (Option.some Jvm.ClassFile.FieldType.boolean), Jvm.Cond.code ({ cls := "java/lang/StringLatin1", name := "toBytes", desc := "(C)[B" } : Jvm.MethodName) jdk_43_method_46_code (1 : Nat) (Option.some (Jvm.ClassFile.FieldType.array Jvm.ClassFile.FieldType.byte)), Jvm.Cond.code ({ cls := "java/lang/String", name := "<init>", desc := "([BB)V" } : Jvm.MethodName) jdk_42_method_151_code (3 : Nat) (Option.none : Option Jvm.ClassFile.FieldType)]
set_option maxRecDepth 65536 in
theorem codes_eq : words1.filter isCode = codes1 := rfl
theorem w_codes : ∀ c ∈ words1.filter isCode, c.before args0 about1 = true := by
  rw [codes_eq]
  intro c hc
  simp only [codes1, List.mem_cons, List.not_mem_nil, or_false] at hc
  rcases hc with rfl | rfl | rfl | rfl | rfl | rfl | rfl | rfl | rfl | rfl | rfl | rfl | rfl | rfl | rfl | rfl | rfl | rfl | rfl | rfl | rfl | rfl | rfl | rfl | rfl | rfl | rfl | rfl | rfl | rfl | rfl | rfl | rfl | rfl | rfl | rfl
  · exact w_c0
  · exact w_c1
  · exact w_c2
  · exact w_c3
  · exact w_c4
  · exact w_c5
  · exact w_c6
  · exact w_c7
  · exact w_c8
  · exact w_c9
  · exact w_c10
  · exact w_c11
  · exact w_c12
  · exact w_c13
  · exact w_c14
  · exact w_c15
  · exact w_c16
  · exact w_c17
  · exact w_c18
  · exact w_c19
  · exact w_c20
  · exact w_c21
  · exact w_c22
  · exact w_c23
  · exact w_c24
  · exact w_c25
  · exact w_c26
  · exact w_c27
  · exact w_c28
  · exact w_c29
  · exact w_c30
  · exact w_c31
  · exact w_c32
  · exact w_c33
  · exact w_c34
  · exact w_c35
set_option maxRecDepth 65536 in
theorem w_t1 : (words1.take 24).all (fun c => isCode c || c.before args0 about1) = true := by decide +kernel
set_option maxRecDepth 65536 in
theorem w_t2 : ((words1.drop 24).take 24).all (fun c => isCode c || c.before args0 about1) = true := by decide +kernel
set_option maxRecDepth 65536 in
theorem w_t3 : (((words1.drop 24).drop 24).take 24).all (fun c => isCode c || c.before args0 about1) = true := by decide +kernel
set_option maxRecDepth 65536 in
theorem w_t4 : ((((words1.drop 24).drop 24).drop 24).take 24).all (fun c => isCode c || c.before args0 about1) = true := by decide +kernel
set_option maxRecDepth 65536 in
theorem w_t5 : (((((words1.drop 24).drop 24).drop 24).drop 24).take 24).all (fun c => isCode c || c.before args0 about1) = true := by decide +kernel
set_option maxRecDepth 65536 in
theorem w_t6 : ((((((words1.drop 24).drop 24).drop 24).drop 24).drop 24).take 24).all (fun c => isCode c || c.before args0 about1) = true := by decide +kernel
set_option maxRecDepth 65536 in
theorem w_t7 : (((((((words1.drop 24).drop 24).drop 24).drop 24).drop 24).drop 24).take 24).all (fun c => isCode c || c.before args0 about1) = true := by decide +kernel
set_option maxRecDepth 65536 in
theorem w_t8 : (((((((words1.drop 24).drop 24).drop 24).drop 24).drop 24).drop 24).drop 24).all (fun c => isCode c || c.before args0 about1) = true := by decide +kernel
theorem w_tables : (allAtoms (Jvm.Cond.code x code maxLocals ret :: tables_1)).before args0 about1 = true := by
  rw [allAtoms_all]
  show words1.all (fun c => c.before args0 about1) = true
  refine all_split ?_ w_codes
  rw [← List.take_append_drop 24 words1, List.all_append, w_t1, ← List.take_append_drop 24 (words1.drop 24), List.all_append, w_t2, ← List.take_append_drop 24 ((words1.drop 24).drop 24), List.all_append, w_t3, ← List.take_append_drop 24 (((words1.drop 24).drop 24).drop 24), List.all_append, w_t4, ← List.take_append_drop 24 ((((words1.drop 24).drop 24).drop 24).drop 24), List.all_append, w_t5, ← List.take_append_drop 24 (((((words1.drop 24).drop 24).drop 24).drop 24).drop 24), List.all_append, w_t6, ← List.take_append_drop 24 ((((((words1.drop 24).drop 24).drop 24).drop 24).drop 24).drop 24), List.all_append, w_t7, w_t8]
  rfl
set_option maxRecDepth 65536 in
theorem w_rest : rest_1_c.before args0 about1 = true := by decide +kernel
set_option maxRecDepth 65536 in
theorem w_case : (Jvm.Cond.and given_1 narrow_1).before args0 about1 = true := by decide +kernel
set_option maxRecDepth 65536 in
theorem w_consts : constsHeld consts_1 about1 := Jvm.Lit.constsHeldB_iff.mp (by decide +kernel)
theorem w_applies : (headSpec (Jvm.Cond.code x code maxLocals ret :: tables_1) room_1).applies x e0.platform about1 = true :=
  (Spec.applies_iff w_frames).mpr ⟨w_running, w_runnable, w_alone, w_named, w_hears, w_ripe, w_room, w_tables⟩
theorem atStart : AtStart classFile x code maxLocals ret World_1 tables_1 room_1 Calls_1 rest_1 Pre_1 launch0 p0 e0 about1 theMethod args0 below0 :=
  ⟨lists_1, trivial, launch0.admits_env _ _ _, launch0.least_env, fairChoices_fair.cas, fairChoices_fair.clock, w_frames, w_args, w_heap, w_applies, ⟨w_consts, trivial⟩, w_rest, w_case⟩
end start1
theorem witness_1 : WitnessClaimed_1 := ⟨start1.p0, start1.e0, start1.about1, start1.theMethod, start1.args0, start1.below0, start1.atStart⟩
end Jvm.Pilot.@@N@@

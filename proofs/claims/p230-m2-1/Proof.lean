import JvmDerived
import JvmDerived.Pilot.@@N@@Statement
import JvmDerived.Pilot.@@N@@Code
set_option linter.unusedVariables false
set_option linter.unusedSimpArgs false
/- laws to paste: Road.backV, Road.eqW, Road.chN (cut by pick.py; bodies as the Statement names them) -/
namespace Jvm.Pilot.@@N@@
namespace StrChars
open Jvm Sem ClassFile Op Lib Jvm.Stand Jvm.Free.XT Jvm.Free.ALB Jvm.Free.JM Jvm.Free
open Jvm.Lib.Cold (StaticIs)
/-- a char array whose places are chars -/
def Ch (a : Addr) (A : Cell) (U : State) : Prop := Arr .char a A U ∧ Typed .char A
theorem Ch.mv {a : Addr} {A : Cell} {U U' : State} (h : Ch a A U) (hal : U.vm.Alike U'.vm) (hh : U'.heap = U.heap) : Ch a A U' := ⟨h.1.mv hal hh, h.2⟩
theorem Ch.keep {a : Addr} {A : Cell} {U U' : State} (h : Ch a A U) (hal : U.vm.Alike U'.vm) (hk : U'.heap[a]? = some A) : Ch a A U' := ⟨h.1.keep hal hk, h.2⟩
/-- what place i of a char[]'s cell holds -/
def cv (A : Cell) (i : Nat) : Int32 := match A.slots[i]? with | some (.int x) => x | _ => 0
theorem Ch.get {a : Addr} {A : Cell} {U : State} (h : Ch a A U) {i : Nat} (hi : i < A.slots.size) : A.slots[i]? = some (.int (cv A i)) := by
  have e := Array.getElem?_eq_getElem hi
  have f := h.2 i _ e
  unfold cv; rw [e]
  generalize A.slots[i] = v at f
  cases v <;> simp [fits] at f ⊢
/-- the byte that i2b leaves of a char -/
def lo8 (x : Int32) : Int32 := x.toInt8.toInt32
theorem fits_lo8 (y : Int32) : fits .byte (.int (lo8 y)) = true := by
  have h1 := y.toInt8.le_toInt
  have h2 := y.toInt8.toInt_lt
  simp only [lo8, fits, Bool.and_eq_true, decide_eq_true_eq, Int32.le_iff_toInt_le, Int8.toInt_toInt32, show (-128 : Int32).toInt = -128 from by decide, show (127 : Int32).toInt = 127 from by decide]
  omega
/-- A' is A but that each place j of lo .. hi - 1 holds f j -/
def Laid (A A' : Cell) (lo hi : Nat) (f : Nat → Value) : Prop := A'.cls = A.cls ∧ A'.vm = A.vm ∧ A'.slots.size = A.slots.size ∧ ∀ i, A'.slots[i]? = if lo ≤ i ∧ i < hi then some (f i) else A.slots[i]?
theorem Laid.zero (A : Cell) (lo : Nat) (f : Nat → Value) : Laid A A lo (lo + 0) f := ⟨rfl, rfl, rfl, fun i => by rw [if_neg (by omega)]⟩
theorem Laid.step {A Ak : Cell} {lo k : Nat} {f : Nat → Value} {v : Value} (h : Laid A Ak lo k f) (hlo : lo ≤ k) (hk : k < Ak.slots.size) (hv : v = f k) : Laid A (Ak.setSlot k v) lo (k + 1) f := by
  refine ⟨h.1, h.2.1, by simpa [Cell.setSlot] using h.2.2.1, fun i => ?_⟩
  by_cases e : k = i
  · subst e; rw [Cell.slots_setSlot_self v hk, if_pos (by omega), hv]
  · rw [Cell.slots_setSlot_ne v e, h.2.2.2 i]
    by_cases q : lo ≤ i ∧ i < k
    · rw [if_pos q, if_pos (by omega)]
    · rw [if_neg q, if_neg (by omega)]
def U16 : String := "java/lang/StringUTF16"
namespace Cmp5
def yN : MethodName := ⟨"java/lang/StringUTF16", "compress", "([CI[BII)I"⟩
abbrev yB : ByteArray := jdk_52_method_21_code
theorem d0 : decode yB 0 = .ok (.iconst 0, 1) := by decide +kernel
theorem d1 : decode yB 1 = .ok (.istore 5, 2) := by decide +kernel
theorem d3 : decode yB 3 = .ok (.iload 5, 2) := by decide +kernel
theorem d5 : decode yB 5 = .ok (.iload 4, 2) := by decide +kernel
theorem d7 : decode yB 7 = .ok (.if_icmp (.ge) 37, 3) := by decide +kernel
theorem d10 : decode yB 10 = .ok (.aload_n 0, 1) := by decide +kernel
theorem d11 : decode yB 11 = .ok (.iload_n 1, 1) := by decide +kernel
theorem d12 : decode yB 12 = .ok (.caload, 1) := by decide +kernel
theorem d13 : decode yB 13 = .ok (.istore 6, 2) := by decide +kernel
theorem d15 : decode yB 15 = .ok (.iload 6, 2) := by decide +kernel
theorem d17 : decode yB 17 = .ok (.sipush 255, 3) := by decide +kernel
theorem d20 : decode yB 20 = .ok (.if_icmp (.le) 6, 3) := by decide +kernel
theorem d26 : decode yB 26 = .ok (.aload_n 2, 1) := by decide +kernel
theorem d27 : decode yB 27 = .ok (.iload_n 3, 1) := by decide +kernel
theorem d28 : decode yB 28 = .ok (.iload 6, 2) := by decide +kernel
theorem d30 : decode yB 30 = .ok (.i2b, 1) := by decide +kernel
theorem d31 : decode yB 31 = .ok (.bastore, 1) := by decide +kernel
theorem d32 : decode yB 32 = .ok (.iinc 1 1, 3) := by decide +kernel
theorem d35 : decode yB 35 = .ok (.iinc 3 1, 3) := by decide +kernel
theorem d38 : decode yB 38 = .ok (.iinc 5 1, 3) := by decide +kernel
theorem d41 : decode yB 41 = .ok (.goto (-38), 3) := by decide +kernel
theorem d44 : decode yB 44 = .ok (.iload 4, 2) := by decide +kernel
theorem d46 : decode yB 46 = .ok (.ireturn, 1) := by decide +kernel
def site : List Cond := []
def tab : Cond := tabOf yN yB 7 (some .int) site
def P (b : Addr) (A : Cell) (d : Addr) (B : Cell) (o q len : Nat) (args : Array Value) (s : State) : Prop := args = #[.ref b, .int (Int32.ofNat o), .ref d, .int (Int32.ofNat q), .int (Int32.ofNat len)] ∧ Ch b A s ∧ Arr .byte d B s ∧ b ≠ d ∧ o + len ≤ A.slots.size ∧ q + len ≤ B.slots.size ∧ ∀ i, i < len → ¬ 255 < cv A (o + i)
def E (b : Addr) (A : Cell) (d : Addr) (B : Cell) (o q len : Nat) (r : Option Value) (s u : State) : Prop := r = some (.int (Int32.ofNat len)) ∧ ∃ B', Put d B' s u ∧ Laid B B' q (q + len) (fun j => Value.int (lo8 (cv A (o + (j - q)))))
/-- no char of the range above 255: len; the places written hold each char's low byte -/
theorem law (l : Launch) (b : Addr) (A : Cell) (d : Addr) (B : Cell) (o q len : Nat) : Law l yN 5 5 0 0 yB 7 (some .int) site (P b A d B o q len) (E b A d B o q len) (copyLocs d q len) 0 0 := by
  refine Law.of_walk (plainFor_of_name (by decide +kernel)) (by decide +kernel) (by decide +kernel) (by decide) (fun _ _ h => by rw [h.1]; rfl) (fun _ U U' hal hh h => ⟨h.1, h.2.1.mv hal hh, h.2.2.1.mv hal hh, h.2.2.2⟩) (fun r U U' V V' h1 hal h2 h => ⟨h.1, h.2.elim fun B' q => ⟨B', q.1.mv h1 h2, q.2⟩⟩) ?_
  intro p e s m args below meth c s₁ X0 hexec hbytes hml hret hlk hnm hown hh0 W hP
  obtain ⟨rfl, hA, hB, hne, l1, l2, hp⟩ := hP
  have c1 : Steps p.tables e below (s₁.setTop (entryFrame m #[.ref b, .int (Int32.ofNat o), .ref d, .int (Int32.ofNat q), .int (Int32.ofNat len)] 7)) (s₁.setTop (mkF m 0 #[.val (.ref b), .val (.int (Int32.ofNat o)), .val (.ref d), .val (.int (Int32.ofNat q)), .val (.int (Int32.ofNat len)), .unset, .unset] [])) := entry rfl
  have hA0 := hA.1.mv X0.warmed.alike hh0
  have hB0 := hB.mv X0.warmed.alike hh0
  have a31 := hA.1.2.2.2
  have c2 : Steps p.tables e below (s₁.setTop (entryFrame m #[.ref b, .int (Int32.ofNat o), .ref d, .int (Int32.ofNat q), .int (Int32.ofNat len)] 7)) (s₁.setTop (mkF m 3 #[.val (.ref b), .val (.int (Int32.ofNat o)), .val (.ref d), .val (.int (Int32.ofNat q)), .val (.int (Int32.ofNat len)), .val (.int 0), .unset] [])) := c1.trans (by
    refine iconstV X0.here hexec rfl 0 (hb hbytes d0) (by decide) ?_
    refine XS.istore X0.here hexec rfl (hb hbytes d1) rfl rfl ?_
    exact Steps.refl _)
  have loop : ∀ (r i : Nat), i + r = len → ∀ (z : Slot), (z = .unset ∨ ∃ w, z = .val w ∧ w.category = 1) → ∀ (Tl : State) (Bk : Cell), Stand p l e { frames := 0, locals := 0, cells := 0, slots := 0 } s m #[.ref b, .int (Int32.ofNat o), .ref d, .int (Int32.ofNat q), .int (Int32.ofNat len)] below meth c Tl ([] ++ copyLocs d q i) 0 0 → Put d Bk s₁ Tl → Laid B Bk q (q + i) (fun j => Value.int (lo8 (cv A (o + (j - q))))) →
      Steps p.tables e below (s₁.setTop (entryFrame m #[.ref b, .int (Int32.ofNat o), .ref d, .int (Int32.ofNat q), .int (Int32.ofNat len)] 7)) (Tl.setTop (mkF m 3 #[.val (.ref b), .val (.int (Int32.ofNat (o + i))), .val (.ref d), .val (.int (Int32.ofNat (q + i))), .val (.int (Int32.ofNat len)), .val (.int (Int32.ofNat i)), z] [])) → ∃ (T' : State) (B' : Cell) (z' : Slot), Stand p l e { frames := 0, locals := 0, cells := 0, slots := 0 } s m #[.ref b, .int (Int32.ofNat o), .ref d, .int (Int32.ofNat q), .int (Int32.ofNat len)] below meth c T' ([] ++ copyLocs d q len) 0 0 ∧ Put d B' s₁ T' ∧ Laid B B' q (q + len) (fun j => Value.int (lo8 (cv A (o + (j - q))))) ∧
      Steps p.tables e below (s₁.setTop (entryFrame m #[.ref b, .int (Int32.ofNat o), .ref d, .int (Int32.ofNat q), .int (Int32.ofNat len)] 7)) (T'.setTop (mkF m 3 #[.val (.ref b), .val (.int (Int32.ofNat (o + len))), .val (.ref d), .val (.int (Int32.ofNat (q + len))), .val (.int (Int32.ofNat len)), .val (.int (Int32.ofNat len)), z'] [])) := by
    intro r
    induction r with
    | zero =>
      intro i hi z hz Tl Bk Xl pl fl cl
      have hil : i = len := by omega
      rw [hil] at Xl fl cl
      exact ⟨Tl, Bk, z, Xl, pl, fl, cl⟩
    | succ r ih =>
      intro i hi z hz Tl Bk Xl pl fl cl
      have all := X0.warmed.alike.symm.trans Xl.warmed.alike
      have hAl := hA0.keep all (pl.other hne hA0.1)
      have hBk := hB0.like all pl.1 fl.1 fl.2.1 fl.2.2.1
      have hlt : q + i < Bk.slots.size := by rw [fl.2.2.1]; omega
      have c3 : Steps p.tables e below (s₁.setTop (entryFrame m #[.ref b, .int (Int32.ofNat o), .ref d, .int (Int32.ofNat q), .int (Int32.ofNat len)] 7)) (Tl.setTop (mkF m 12 #[.val (.ref b), .val (.int (Int32.ofNat (o + i))), .val (.ref d), .val (.int (Int32.ofNat (q + i))), .val (.int (Int32.ofNat len)), .val (.int (Int32.ofNat i)), z] [.int (Int32.ofNat (o + i)), .ref b])) := cl.trans (by
        refine XS.iload Xl.here hexec rfl (hb hbytes d3) rfl ?_
        refine XS.iload Xl.here hexec rfl (hb hbytes d5) rfl ?_
        refine XS.icmpNo Xl.here hexec rfl (hb hbytes d7) rfl (ii_ge_f (lt32 (by omega) (by omega))) ?_
        refine XS.aloadN Xl.here hexec rfl (hb hbytes d10) rfl rfl ?_
        refine XS.iloadN Xl.here hexec rfl (hb hbytes d11) rfl ?_
        exact Steps.refl _)
      have c4 : Steps p.tables e below (s₁.setTop (entryFrame m #[.ref b, .int (Int32.ofNat o), .ref d, .int (Int32.ofNat q), .int (Int32.ofNat len)] 7)) (Tl.setTop (mkF m 13 #[.val (.ref b), .val (.int (Int32.ofNat (o + i))), .val (.ref d), .val (.int (Int32.ofNat (q + i))), .val (.int (Int32.ofNat len)), .val (.int (Int32.ofNat i)), z] [.int (cv A (o + i))])) := c3.trans (by
        refine Xl.aget hexec hAl rfl (hA.get (i := o + i) (by omega)) rfl rfl (hb hbytes d12) ?_
        exact Steps.refl _)
      have c5 : Steps p.tables e below (s₁.setTop (entryFrame m #[.ref b, .int (Int32.ofNat o), .ref d, .int (Int32.ofNat q), .int (Int32.ofNat len)] 7)) (Tl.setTop (mkF m 15 #[.val (.ref b), .val (.int (Int32.ofNat (o + i))), .val (.ref d), .val (.int (Int32.ofNat (q + i))), .val (.int (Int32.ofNat len)), .val (.int (Int32.ofNat i)), .val (.int (cv A (o + i)))] [])) := c4.trans (by
        refine XS.istoreS Xl.here hexec rfl (hb hbytes d13) rfl rfl hz ?_
        exact Steps.refl _)
      have c6 : Steps p.tables e below (s₁.setTop (entryFrame m #[.ref b, .int (Int32.ofNat o), .ref d, .int (Int32.ofNat q), .int (Int32.ofNat len)] 7)) (Tl.setTop (mkF m 31 #[.val (.ref b), .val (.int (Int32.ofNat (o + i))), .val (.ref d), .val (.int (Int32.ofNat (q + i))), .val (.int (Int32.ofNat len)), .val (.int (Int32.ofNat i)), .val (.int (cv A (o + i)))] [.int (lo8 (cv A (o + i))), .int (Int32.ofNat (q + i)), .ref d])) := c5.trans (by
        refine XS.iload Xl.here hexec rfl (hb hbytes d15) rfl ?_
        refine sipushV Xl.here hexec rfl 255 (hb hbytes d17) (by decide) ?_
        refine XS.icmpYes Xl.here hexec rfl (pc0 := 20) rfl (hb hbytes d20) rfl (ii_le_t (hp i (by omega))) (by decide) rfl ?_
        refine XS.aloadN Xl.here hexec rfl (hb hbytes d26) rfl rfl ?_
        refine XS.iloadN Xl.here hexec rfl (hb hbytes d27) rfl ?_
        refine XS.iload Xl.here hexec rfl (hb hbytes d28) rfl ?_
        refine i2b Xl.here hexec rfl (hb hbytes d30) rfl ?_
        exact Steps.refl _)
      obtain ⟨T7, X7, p7, st7⟩ := Xl.aput hexec hBk rfl hlt rfl (fits_lo8 (cv A (o + i))) (g := (mkF m 31 #[.val (.ref b), .val (.int (Int32.ofNat (o + i))), .val (.ref d), .val (.int (Int32.ofNat (q + i))), .val (.int (Int32.ofNat len)), .val (.int (Int32.ofNat i)), .val (.int (cv A (o + i)))] [.int (lo8 (cv A (o + i))), .int (Int32.ofNat (q + i)), .ref d])) rfl (rest := []) rfl (hb hbytes d31)
      have c8 : Steps p.tables e below (s₁.setTop (entryFrame m #[.ref b, .int (Int32.ofNat o), .ref d, .int (Int32.ofNat q), .int (Int32.ofNat len)] 7)) (T7.setTop (mkF m 32 #[.val (.ref b), .val (.int (Int32.ofNat (o + i))), .val (.ref d), .val (.int (Int32.ofNat (q + i))), .val (.int (Int32.ofNat len)), .val (.int (Int32.ofNat i)), .val (.int (cv A (o + i)))] [])) := c6.trans (st7 _ (Steps.refl _))
      have c9 : Steps p.tables e below (s₁.setTop (entryFrame m #[.ref b, .int (Int32.ofNat o), .ref d, .int (Int32.ofNat q), .int (Int32.ofNat len)] 7)) (T7.setTop (mkF m 3 #[.val (.ref b), .val (.int (Int32.ofNat (o + i) + 1)), .val (.ref d), .val (.int (Int32.ofNat (q + i) + 1)), .val (.int (Int32.ofNat len)), .val (.int (Int32.ofNat i + 1)), .val (.int (cv A (o + i)))] [])) := c8.trans (by
        refine iincV X7.here hexec rfl 1 (hb hbytes d32) (by decide) rfl rfl ?_
        refine iincV X7.here hexec rfl 1 (hb hbytes d35) (by decide) rfl rfl ?_
        refine iincV X7.here hexec rfl 1 (hb hbytes d38) (by decide) rfl rfl ?_
        refine XS.goto X7.here hexec rfl (pc0 := 41) rfl (hb hbytes d41) (by decide) rfl ?_
        exact Steps.refl _)
      have c10 : Steps p.tables e below (s₁.setTop (entryFrame m #[.ref b, .int (Int32.ofNat o), .ref d, .int (Int32.ofNat q), .int (Int32.ofNat len)] 7)) (T7.setTop (mkF m 3 #[.val (.ref b), .val (.int (Int32.ofNat (o + (i + 1)))), .val (.ref d), .val (.int (Int32.ofNat (q + (i + 1)))), .val (.int (Int32.ofNat len)), .val (.int (Int32.ofNat (i + 1))), .val (.int (cv A (o + i)))] [])) := by
        have := c9
        rw [succ32, succ32, succ32] at this
        exact this
      exact ih (i + 1) (by omega) _ (Or.inr ⟨_, rfl, rfl⟩) T7 _ (by rw [copyLocs_step, ← List.append_assoc]; exact X7) (pl.trans p7) (fl.step (by omega) hlt (by simp)) c10
  obtain ⟨T9, B9, z9, X9, p9, f9, g9⟩ := loop len 0 (by omega) .unset (Or.inl rfl) s₁ B (by simpa [copyLocs] using X0) ⟨hB0.1, fun _ _ => rfl, rfl⟩ (Laid.zero _ _ _) c2
  have c11 : Steps p.tables e below (s₁.setTop (entryFrame m #[.ref b, .int (Int32.ofNat o), .ref d, .int (Int32.ofNat q), .int (Int32.ofNat len)] 7)) (T9.setTop (mkF m 46 #[.val (.ref b), .val (.int (Int32.ofNat (o + len))), .val (.ref d), .val (.int (Int32.ofNat (q + len))), .val (.int (Int32.ofNat len)), .val (.int (Int32.ofNat len)), z9] [.int (Int32.ofNat len)])) := g9.trans (by
    refine XS.iload X9.here hexec rfl (hb hbytes d3) rfl ?_
    refine XS.iload X9.here hexec rfl (hb hbytes d5) rfl ?_
    refine XS.icmpYes X9.here hexec rfl (pc0 := 7) rfl (hb hbytes d7) rfl (ii_ge_t (nlt32 (by omega) (Nat.le_refl _))) (by decide) rfl ?_
    refine XS.iload X9.here hexec rfl (hb hbytes d44) rfl ?_
    exact Steps.refl _)
  exact ⟨T9, some (.int (Int32.ofNat len)), _, _, _, X9, by simp, rfl, rfl, (fun h => by cases h), ⟨rfl, B9, p9.from hh0, f9⟩, fun fs hl => c11.trans (X9.ireturnOut hexec hret rfl (Or.inl rfl) (hb hbytes d46) hl)⟩
end Cmp5
namespace Cmp3
def yN : MethodName := ⟨"java/lang/StringUTF16", "compress", "([CII)[B"⟩
abbrev yB : ByteArray := jdk_52_method_16_code
theorem d0 : decode yB 0 = .ok (.iload_n 2, 1) := by decide +kernel
theorem d1 : decode yB 1 = .ok (.newarray .byte, 2) := by decide +kernel
theorem d3 : decode yB 3 = .ok (.astore_n 3, 1) := by decide +kernel
theorem d4 : decode yB 4 = .ok (.aload_n 0, 1) := by decide +kernel
theorem d5 : decode yB 5 = .ok (.iload_n 1, 1) := by decide +kernel
theorem d6 : decode yB 6 = .ok (.aload_n 3, 1) := by decide +kernel
theorem d7 : decode yB 7 = .ok (.iconst 0, 1) := by decide +kernel
theorem d8 : decode yB 8 = .ok (.iload_n 2, 1) := by decide +kernel
theorem d9 : decode yB 9 = .ok (.invokestatic 115, 3) := by decide +kernel
theorem d12 : decode yB 12 = .ok (.istore 4, 2) := by decide +kernel
theorem d14 : decode yB 14 = .ok (.iload 4, 2) := by decide +kernel
theorem d16 : decode yB 16 = .ok (.iload_n 2, 1) := by decide +kernel
theorem d17 : decode yB 17 = .ok (.if_icmp (.eq) 40, 3) := by decide +kernel
theorem d57 : decode yB 57 = .ok (.aload_n 3, 1) := by decide +kernel
theorem d58 : decode yB 58 = .ok (.areturn, 1) := by decide +kernel
def site : List Cond := [.arrayClass .byte, Cmp5.tab] ++ staticW U16 115 Cmp5.yN
def tab : Cond := tabOf yN yB 6 (some (.array .byte)) site
def P (b : Addr) (A : Cell) (o len : Nat) (args : Array Value) (s : State) : Prop := args = #[.ref b, .int (Int32.ofNat o), .int (Int32.ofNat len)] ∧ Ch b A s ∧ o + len ≤ A.slots.size ∧ len ≤ 536870912 ∧ ∀ i, i < len → ¬ 255 < cv A (o + i)
def E (b : Addr) (A : Cell) (o len : Nat) (r : Option Value) (s u : State) : Prop := NewArr .byte "[B" len (fun j => .int (lo8 (cv A (o + j)))) r s u ∧ u.heap.size = s.heap.size + 1
/-- no char of the range above 255: a new byte[] of their low bytes -/
theorem law (l : Launch) (b : Addr) (A : Cell) (o len : Nat) : Law l yN 3 3 1 18 yB 6 (some (.array .byte)) site (P b A o len) (E b A o len) [] 1 len := by
  refine Law.of_walk (plainFor_of_name (by decide +kernel)) (by decide +kernel) (by decide +kernel) (by decide) (fun _ _ h => by rw [h.1]; rfl) (fun _ U U' hal hh h => ⟨h.1, h.2.1.mv hal hh, h.2.2⟩) (fun r U U' V V' h1 hal h2 h => ⟨NewArr.mv r U U' V V' h1 hal h2 h.1, by rw [h1, h2]; exact h.2⟩) ?_
  intro p e s m args below meth c s₁ X0 hexec hbytes hml hret hlk hnm hown hh0 W hP
  obtain ⟨rfl, hA, l1, l2, hp⟩ := hP
  have a31 := hA.1.2.2.2
  have c1 : Steps p.tables e below (s₁.setTop (entryFrame m #[.ref b, .int (Int32.ofNat o), .int (Int32.ofNat len)] 6)) (s₁.setTop (mkF m 0 #[.val (.ref b), .val (.int (Int32.ofNat o)), .val (.int (Int32.ofNat len)), .unset, .unset, .unset] [])) := entry rfl
  have c2 : Steps p.tables e below (s₁.setTop (entryFrame m #[.ref b, .int (Int32.ofNat o), .int (Int32.ofNat len)] 6)) (s₁.setTop (mkF m 1 #[.val (.ref b), .val (.int (Int32.ofNat o)), .val (.int (Int32.ofNat len)), .unset, .unset, .unset] [.int (Int32.ofNat len)])) := c1.trans (by
    refine XS.iloadN X0.here hexec rfl (hb hbytes d0) rfl ?_
    exact Steps.refl _)
  obtain ⟨T3, B3, X3, ba3, bs3, bv3, bh3, bf3, st3⟩ := X0.anew hexec (atype := .byte) (wk W (.arrayClass .byte)) rfl (by show len * 1 ≤ _; omega) (by omega) (g := (mkF m 1 #[.val (.ref b), .val (.int (Int32.ofNat o)), .val (.int (Int32.ofNat len)), .unset, .unset, .unset] [.int (Int32.ofNat len)])) rfl (hb hbytes d1) (rest := []) rfl (Nat.le_refl _) (by show 0 + len ≤ len; omega)
  rw [hh0] at ba3 st3
  have kp3 : XT.Kept s T3 := (XT.Kept.of_eq hh0).push bh3
  have hA3 := hA.keep X3.warmed.alike (kp3 _ _ hA.1.1)
  have hne : b ≠ s.heap.size := hA.1.ne
  have c4 : Steps p.tables e below (s₁.setTop (entryFrame m #[.ref b, .int (Int32.ofNat o), .int (Int32.ofNat len)] 6)) (T3.setTop (mkF m 3 #[.val (.ref b), .val (.int (Int32.ofNat o)), .val (.int (Int32.ofNat len)), .unset, .unset, .unset] [.ref s.heap.size])) := c2.trans (st3 _ (Steps.refl _))
  have c5 : Steps p.tables e below (s₁.setTop (entryFrame m #[.ref b, .int (Int32.ofNat o), .int (Int32.ofNat len)] 6)) (T3.setTop (mkF m 9 #[.val (.ref b), .val (.int (Int32.ofNat o)), .val (.int (Int32.ofNat len)), .val (.ref s.heap.size), .unset, .unset] [.int (Int32.ofNat len), .int 0, .ref s.heap.size, .int (Int32.ofNat o), .ref b])) := c4.trans (by
    refine XS.astoreN X3.here hexec rfl (hb hbytes d3) rfl rfl rfl ?_
    refine XS.aloadN X3.here hexec rfl (hb hbytes d4) rfl rfl ?_
    refine XS.iloadN X3.here hexec rfl (hb hbytes d5) rfl ?_
    refine XS.aloadN X3.here hexec rfl (hb hbytes d6) rfl rfl ?_
    refine iconstV X3.here hexec rfl 0 (hb hbytes d7) (by decide) ?_
    refine XS.iloadN X3.here hexec rfl (hb hbytes d8) rfl ?_
    exact Steps.refl _)
  obtain ⟨v6, T6, X6, E6, g6⟩ := X3.callS hexec (Cmp5.law l b A s.heap.size B3 o 0 len) hown (wks W (staticW U16 115 Cmp5.yN)) (wk W Cmp5.tab) (W := 0) (Nat.le_of_ble_eq_true rfl) (Nat.le_of_ble_eq_true rfl) (Nat.le_refl _) (by show 0 + len + 0 ≤ len; omega) (g := (mkF m 9 #[.val (.ref b), .val (.int (Int32.ofNat o)), .val (.int (Int32.ofNat len)), .val (.ref s.heap.size), .unset, .unset] [.int (Int32.ofNat len), .int (Int32.ofNat 0), .ref s.heap.size, .int (Int32.ofNat o), .ref b])) rfl (by rw [hml]; rfl) c5 (argsL := [.ref b, .int (Int32.ofNat o), .ref s.heap.size, .int (Int32.ofNat 0), .int (Int32.ofNat len)]) (rest := []) rfl rfl (by show 2 * 0 + 0 ≤ _; decide) (hb hbytes d9) (⟨rfl, hA3, ba3, hne, l1, by rw [bs3]; simp, hp⟩)
  obtain ⟨rfl, B6, p6, f6⟩ := E6
  have c7 : Steps p.tables e below (s₁.setTop (entryFrame m #[.ref b, .int (Int32.ofNat o), .int (Int32.ofNat len)] 6)) (T6.setTop (mkF m 12 #[.val (.ref b), .val (.int (Int32.ofNat o)), .val (.int (Int32.ofNat len)), .val (.ref s.heap.size), .unset, .unset] [.int (Int32.ofNat len)])) := g6
  have c8 : Steps p.tables e below (s₁.setTop (entryFrame m #[.ref b, .int (Int32.ofNat o), .int (Int32.ofNat len)] 6)) (T6.setTop (mkF m 58 #[.val (.ref b), .val (.int (Int32.ofNat o)), .val (.int (Int32.ofNat len)), .val (.ref s.heap.size), .val (.int (Int32.ofNat len)), .unset] [.ref s.heap.size])) := c7.trans (by
    refine XS.istore X6.here hexec rfl (hb hbytes d12) rfl rfl ?_
    refine XS.iload X6.here hexec rfl (hb hbytes d14) rfl ?_
    refine XS.iloadN X6.here hexec rfl (hb hbytes d16) rfl ?_
    refine XS.icmpYes X6.here hexec rfl (pc0 := 17) rfl (hb hbytes d17) rfl (ii_eq_t rfl) (by decide) rfl ?_
    refine XS.aloadN X6.here hexec rfl (hb hbytes d57) rfl rfl ?_
    exact Steps.refl _)
  have X8 := X6.wide (L' := []) (cells' := 1) (slots' := len) (fun x hx hlt => by
    simp only [List.nil_append, copyLocs, List.mem_map, List.mem_range] at hx
    obtain ⟨i, -, rfl⟩ := hx
    exact absurd hlt (Nat.lt_irrefl _)) (Nat.le_refl _) (by omega)
  exact ⟨T6, some (.ref s.heap.size), _, _, _, X8, rfl, rfl, rfl, (fun h => by cases h), ⟨⟨rfl, B6, ba3.like (X3.warmed.alike.symm.trans X6.warmed.alike) p6.1 f6.1 f6.2.1 f6.2.2.1, f6.2.1.trans bv3, by rw [X6.warmed.alike.findClass, f6.1]; exact bf3, by rw [f6.2.2.1, bs3]; simp, fun j hj => by rw [f6.2.2.2 j, if_pos (by omega)]; rfl, kp3.put p6 (Nat.le_refl _)⟩, by rw [p6.2.2, bh3, hh0]; simp⟩, fun fs hl => c8.trans (X8.areturnOut hexec rfl hret rfl (hb hbytes d58) hl)⟩
end Cmp3
namespace CodL
def yN : MethodName := ⟨"java/lang/StringUTF16", "coderFromArrayLen", "([BI)B"⟩
abbrev yB : ByteArray := jdk_52_method_15_code
theorem d0 : decode yB 0 = .ok (.iload_n 1, 1) := by decide +kernel
theorem d1 : decode yB 1 = .ok (.aload_n 0, 1) := by decide +kernel
theorem d2 : decode yB 2 = .ok (.arraylength, 1) := by decide +kernel
theorem d3 : decode yB 3 = .ok (.isub, 1) := by decide +kernel
theorem d4 : decode yB 4 = .ok (.bipush 31, 2) := by decide +kernel
theorem d6 : decode yB 6 = .ok (.iushr, 1) := by decide +kernel
theorem d7 : decode yB 7 = .ok (.i2b, 1) := by decide +kernel
theorem d8 : decode yB 8 = .ok (.ireturn, 1) := by decide +kernel
def site : List Cond := []
def tab : Cond := tabOf yN yB 2 (some .byte) site
def P (d : Addr) (B : Cell) (args : Array Value) (s : State) : Prop := args = #[.ref d, .int (Int32.ofNat B.slots.size)] ∧ Arr .byte d B s
def E (r : Option Value) (s u : State) : Prop := XT.PureE (some (.int 0)) r s u
/-- an array as long as the number of chars: LATIN1 -/
theorem law (l : Launch) (d : Addr) (B : Cell) : Law l yN 2 2 0 0 yB 2 (some .byte) site (P d B) E [] 0 0 := by
  refine Law.of_walk (plainFor_of_name (by decide +kernel)) (by decide +kernel) (by decide +kernel) (by decide) (fun _ _ h => by rw [h.1]; rfl) (fun _ U U' hal hh h => ⟨h.1, h.2.mv hal hh⟩) (fun r U U' V V' h1 hal h2 h => XT.PureE.mv r U U' V V' h1 hal h2 h) ?_
  intro p e s m args below meth c s₁ X0 hexec hbytes hml hret hlk hnm hown hh0 W hP
  obtain ⟨rfl, hB⟩ := hP
  have hB0 := hB.mv X0.warmed.alike hh0
  have c1 : Steps p.tables e below (s₁.setTop (entryFrame m #[.ref d, .int (Int32.ofNat B.slots.size)] 2)) (s₁.setTop (mkF m 0 #[.val (.ref d), .val (.int (Int32.ofNat B.slots.size))] [])) := entry rfl
  have c2 : Steps p.tables e below (s₁.setTop (entryFrame m #[.ref d, .int (Int32.ofNat B.slots.size)] 2)) (s₁.setTop (mkF m 2 #[.val (.ref d), .val (.int (Int32.ofNat B.slots.size))] [.ref d, .int (Int32.ofNat B.slots.size)])) := c1.trans (by
    refine XS.iloadN X0.here hexec rfl (hb hbytes d0) rfl ?_
    refine XS.aloadN X0.here hexec rfl (hb hbytes d1) rfl rfl ?_
    exact Steps.refl _)
  have c3 : Steps p.tables e below (s₁.setTop (entryFrame m #[.ref d, .int (Int32.ofNat B.slots.size)] 2)) (s₁.setTop (mkF m 8 #[.val (.ref d), .val (.int (Int32.ofNat B.slots.size))] [.int (lo8 (ushr (Int32.ofNat B.slots.size - Int32.ofNat B.slots.size) 31))])) := c2.trans (by
    refine X0.alen hexec hB0 rfl rfl (hb hbytes d2) ?_
    refine XS.isub X0.here hexec rfl (hb hbytes d3) rfl ?_
    refine bipushV X0.here hexec rfl 31 (hb hbytes d4) (by decide) ?_
    refine iushr X0.here hexec rfl (hb hbytes d6) rfl ?_
    refine i2b X0.here hexec rfl (hb hbytes d7) rfl ?_
    exact Steps.refl _)
  have e0 : lo8 (ushr (Int32.ofNat B.slots.size - Int32.ofNat B.slots.size) 31) = 0 := by rw [Int32.sub_self]; decide
  rw [e0] at c3
  exact ⟨s₁, some (.int 0), _, _, _, X0, rfl, rfl, rfl, (fun h => by cases h), ⟨rfl, hh0⟩, fun fs hl => c3.trans (X0.ireturnOut hexec hret rfl (Or.inr (Or.inr (Or.inl rfl))) (hb hbytes d8) hl)⟩
end CodL
/-- the String at a is Latin-1 over a new byte[] (the heap's one new cell): the low bytes of the len chars of A from o on; every cell but a is kept -/
def Got (a : Addr) (D : Cell) (fV fC : Field) (A : Cell) (o len : Nat) (r : Option Value) (s u : State) : Prop := r = none ∧ ∃ D' V : Cell, Blank "java/lang/String" a D' u ∧ Same D D' [fV.slot, fC.slot] ∧ D'.slots[fV.slot]? = some (.ref s.heap.size) ∧ D'.slots[fC.slot]? = some (.int 0) ∧ Arr .byte s.heap.size V u ∧ V.vm = .none ∧ u.vm.findClass "[B" = some V.cls ∧ V.slots.size = len ∧ (∀ j, j < len → V.slots[j]? = some (.int (lo8 (cv A (o + j))))) ∧ (∀ (y : Addr) (c : Cell), y ≠ a → s.heap[y]? = some c → u.heap[y]? = some c) ∧ u.heap.size = s.heap.size + 1
theorem Got.mv {a : Addr} {D A : Cell} {fV fC : Field} {o len : Nat} : ∀ r (U U' V V' : State), U'.heap = U.heap → V.vm.Alike V'.vm → V'.heap = V.heap → Got a D fV fC A o len r U V → Got a D fV fC A o len r U' V' :=
  fun r U U' V V' h1 hal h2 ⟨e0, D', X, a1, a2, a3, a4, a5, a6, a7, a8, a9, a10, a11⟩ => ⟨e0, D', X, a1.mv hal h2, a2, by rw [h1]; exact a3, a4, by rw [h1]; exact a5.mv hal h2, a6, by rw [hal.findClass]; exact a7, a8, a9, by rw [h1, h2]; exact a10, by rw [h1, h2]; exact a11⟩
namespace New4
def yN : MethodName := ⟨"java/lang/String", "<init>", "([CIILjava/lang/Void;)V"⟩
abbrev yB : ByteArray := jdk_42_method_149_code
theorem d0 : decode yB 0 = .ok (.aload_n 0, 1) := by decide +kernel
theorem d1 : decode yB 1 = .ok (.invokespecial 1, 3) := by decide +kernel
theorem d4 : decode yB 4 = .ok (.iload_n 3, 1) := by decide +kernel
theorem d5 : decode yB 5 = .ok (.ifCond (.ne) 22, 3) := by decide +kernel
theorem d27 : decode yB 27 = .ok (.getstatic 38, 3) := by decide +kernel
theorem d30 : decode yB 30 = .ok (.ifCond (.eq) 28, 3) := by decide +kernel
theorem d33 : decode yB 33 = .ok (.aload_n 1, 1) := by decide +kernel
theorem d34 : decode yB 34 = .ok (.iload_n 2, 1) := by decide +kernel
theorem d35 : decode yB 35 = .ok (.iload_n 3, 1) := by decide +kernel
theorem d36 : decode yB 36 = .ok (.invokestatic 177, 3) := by decide +kernel
theorem d39 : decode yB 39 = .ok (.astore 5, 2) := by decide +kernel
theorem d41 : decode yB 41 = .ok (.aload_n 0, 1) := by decide +kernel
theorem d42 : decode yB 42 = .ok (.aload 5, 2) := by decide +kernel
theorem d44 : decode yB 44 = .ok (.iload_n 3, 1) := by decide +kernel
theorem d45 : decode yB 45 = .ok (.invokestatic 47, 3) := by decide +kernel
theorem d48 : decode yB 48 = .ok (.putfield 15, 3) := by decide +kernel
theorem d51 : decode yB 51 = .ok (.aload_n 0, 1) := by decide +kernel
theorem d52 : decode yB 52 = .ok (.aload 5, 2) := by decide +kernel
theorem d54 : decode yB 54 = .ok (.putfield 9, 3) := by decide +kernel
theorem d57 : decode yB 57 = .ok (.return_, 1) := by decide +kernel
def site : List Cond := [.fieldLink "java/lang/String" 38 "java/lang/String" "COMPACT_STRINGS" "Z", Cmp3.tab, CodL.tab, .laysFinal "java/lang/String" "java/lang/String" "value" "[B", .fieldLink "java/lang/String" 9 "java/lang/String" "value" "[B", .laysFinal "java/lang/String" "java/lang/String" "coder" "B", .fieldLink "java/lang/String" 15 "java/lang/String" "coder" "B"] ++ objW "java/lang/String" 1 ++ staticW "java/lang/String" 177 Cmp3.yN ++ staticW "java/lang/String" 47 CodL.yN
def tab : Cond := tabOf yN yB 6 none site
def P (a : Addr) (D : Cell) (fV fC : Field) (b : Addr) (A : Cell) (z : Int32) (o len : Nat) (args : Array Value) (s : State) : Prop := args = #[.ref a, .ref b, .int (Int32.ofNat o), .int (Int32.ofNat len), .null] ∧ Blank "java/lang/String" a D s ∧ Found "java/lang/String" "value" "[B" fV s ∧ Found "java/lang/String" "coder" "B" fC s ∧ Ch b A s ∧ StaticIs s "java/lang/String" "COMPACT_STRINGS" "Z" (.int z) ∧ ¬ z = 0 ∧ 0 < len ∧ o + len ≤ A.slots.size ∧ len ≤ 536870912 ∧ ∀ i, i < len → ¬ 255 < cv A (o + i)
def E (a : Addr) (D : Cell) (fV fC : Field) (A : Cell) (o len : Nat) (r : Option Value) (s u : State) : Prop := Got a D fV fC A o len r s u
/-- len > 0, no char of the range above 255: a Latin-1 String of their low bytes -/
theorem law (l : Launch) (a : Addr) (D : Cell) (fV fC : Field) (b : Addr) (A : Cell) (z : Int32) (o len : Nat) : Law l yN 5 4 2 35 yB 6 none site (P a D fV fC b A z o len) (E a D fV fC A o len) [⟨a, fC.slot⟩, ⟨a, fV.slot⟩] 1 len := by
  refine Law.of_walk (plainFor_of_name (by decide +kernel)) (by decide +kernel) (by decide +kernel) (by decide) (fun _ _ h => by rw [h.1]; rfl) (fun _ U U' hal hh h => ⟨h.1, h.2.1.mv hal hh, h.2.2.1.al hal, h.2.2.2.1.al hal, h.2.2.2.2.1.mv hal hh, h.2.2.2.2.2.1.there hal hh, h.2.2.2.2.2.2⟩) (fun r U U' V V' h1 hal h2 h => Got.mv r U U' V V' h1 hal h2 h) ?_
  intro p e s m args below meth c s₁ X0 hexec hbytes hml hret hlk hnm hown hh0 W hP
  obtain ⟨rfl, hB, f1, f2, hA, s1, hz, l0, l1, l2, hp⟩ := hP
  have a31 := hA.1.2.2.2
  have c1 : Steps p.tables e below (s₁.setTop (entryFrame m #[.ref a, .ref b, .int (Int32.ofNat o), .int (Int32.ofNat len), .null] 6)) (s₁.setTop (mkF m 0 #[.val (.ref a), .val (.ref b), .val (.int (Int32.ofNat o)), .val (.int (Int32.ofNat len)), .val .null, .unset] [])) := entry rfl
  have c2 : Steps p.tables e below (s₁.setTop (entryFrame m #[.ref a, .ref b, .int (Int32.ofNat o), .int (Int32.ofNat len), .null] 6)) (s₁.setTop (mkF m 1 #[.val (.ref a), .val (.ref b), .val (.int (Int32.ofNat o)), .val (.int (Int32.ofNat len)), .val .null, .unset] [.ref a])) := c1.trans (by
    refine XS.aloadN X0.here hexec rfl (hb hbytes d0) rfl rfl ?_
    exact Steps.refl _)
  obtain ⟨T3, X3, q3, st3⟩ := X0.oinit hexec hown (wks W (objW "java/lang/String" 1)) (g := (mkF m 1 #[.val (.ref a), .val (.ref b), .val (.int (Int32.ofNat o)), .val (.int (Int32.ofNat len)), .val .null, .unset] [.ref a])) rfl (by rw [hml]; rfl) (rest := []) rfl (hb hbytes d1) (W := 0) (by show 2 * 0 + 0 ≤ _; decide) (Nat.le_of_ble_eq_true rfl) (Nat.le_of_ble_eq_true rfl)
  have hh3 := q3.trans hh0
  have c4 : Steps p.tables e below (s₁.setTop (entryFrame m #[.ref a, .ref b, .int (Int32.ofNat o), .int (Int32.ofNat len), .null] 6)) (T3.setTop (mkF m 27 #[.val (.ref a), .val (.ref b), .val (.int (Int32.ofNat o)), .val (.int (Int32.ofNat len)), .val .null, .unset] [])) := (c2.trans (st3 _ (Steps.refl _))).trans (by
    refine XS.iloadN X3.here hexec rfl (hb hbytes d4) rfl ?_
    refine XS.ifYes X3.here hexec rfl (pc0 := 5) rfl (hb hbytes d5) rfl (i0_ne_t (nz32 (by omega) l0)) (by decide) rfl ?_
    exact Steps.refl _)
  obtain ⟨T5, X5, q5, st5⟩ := X3.sget hexec hown (wk W (.fieldLink "java/lang/String" 38 "java/lang/String" "COMPACT_STRINGS" "Z")) s1 (fun _ _ h => by rw [hh3]; exact h) (g := (mkF m 27 #[.val (.ref a), .val (.ref b), .val (.int (Int32.ofNat o)), .val (.int (Int32.ofNat len)), .val .null, .unset] [])) rfl (hb hbytes d27)
  have hh5 := q5.trans hh3
  have c6 : Steps p.tables e below (s₁.setTop (entryFrame m #[.ref a, .ref b, .int (Int32.ofNat o), .int (Int32.ofNat len), .null] 6)) (T5.setTop (mkF m 30 #[.val (.ref a), .val (.ref b), .val (.int (Int32.ofNat o)), .val (.int (Int32.ofNat len)), .val .null, .unset] [.int z])) := c4.trans (st5 _ (Steps.refl _))
  have c7 : Steps p.tables e below (s₁.setTop (entryFrame m #[.ref a, .ref b, .int (Int32.ofNat o), .int (Int32.ofNat len), .null] 6)) (T5.setTop (mkF m 36 #[.val (.ref a), .val (.ref b), .val (.int (Int32.ofNat o)), .val (.int (Int32.ofNat len)), .val .null, .unset] [.int (Int32.ofNat len), .int (Int32.ofNat o), .ref b])) := c6.trans (by
    refine XS.ifNo X5.here hexec rfl (hb hbytes d30) rfl (i0_eq_f hz) ?_
    refine XS.aloadN X5.here hexec rfl (hb hbytes d33) rfl rfl ?_
    refine XS.iloadN X5.here hexec rfl (hb hbytes d34) rfl ?_
    refine XS.iloadN X5.here hexec rfl (hb hbytes d35) rfl ?_
    exact Steps.refl _)
  obtain ⟨v8, T8, X8, E8, g8⟩ := X5.callS hexec (Cmp3.law l b A o len) hown (wks W (staticW "java/lang/String" 177 Cmp3.yN)) (wk W Cmp3.tab) (W := 0) (Nat.le_of_ble_eq_true rfl) (Nat.le_of_ble_eq_true rfl) (Nat.le_refl _) (by show 0 + len ≤ len; omega) (g := (mkF m 36 #[.val (.ref a), .val (.ref b), .val (.int (Int32.ofNat o)), .val (.int (Int32.ofNat len)), .val .null, .unset] [.int (Int32.ofNat len), .int (Int32.ofNat o), .ref b])) rfl (by rw [hml]; rfl) c7 (argsL := [.ref b, .int (Int32.ofNat o), .int (Int32.ofNat len)]) (rest := []) rfl rfl (by show 2 * 0 + 0 ≤ _; decide) (hb hbytes d36) (⟨rfl, hA.mv X5.warmed.alike hh5, l1, l2, hp⟩)
  obtain ⟨e8, z8⟩ := E8
  obtain ⟨rfl, N, n1, n2, n3, n4, n5, n6⟩ := NewArr.mv _ T5 s _ _ hh5.symm (Vm.Alike.refl _) rfl e8
  rw [hh5] at z8
  have hB1 := hB.keep X8.warmed.alike (n6 _ _ hB.1)
  have hne : s.heap.size ≠ a := (Nat.ne_of_lt (Array.getElem?_eq_some_iff.mp hB.1).1).symm
  have c9 : Steps p.tables e below (s₁.setTop (entryFrame m #[.ref a, .ref b, .int (Int32.ofNat o), .int (Int32.ofNat len), .null] 6)) (T8.setTop (mkF m 39 #[.val (.ref a), .val (.ref b), .val (.int (Int32.ofNat o)), .val (.int (Int32.ofNat len)), .val .null, .unset] [.ref s.heap.size])) := g8
  have c10 : Steps p.tables e below (s₁.setTop (entryFrame m #[.ref a, .ref b, .int (Int32.ofNat o), .int (Int32.ofNat len), .null] 6)) (T8.setTop (mkF m 45 #[.val (.ref a), .val (.ref b), .val (.int (Int32.ofNat o)), .val (.int (Int32.ofNat len)), .val .null, .val (.ref s.heap.size)] [.int (Int32.ofNat N.slots.size), .ref s.heap.size, .ref a])) := by
    have hc : Steps p.tables e below (s₁.setTop (entryFrame m #[.ref a, .ref b, .int (Int32.ofNat o), .int (Int32.ofNat len), .null] 6)) (T8.setTop (mkF m 45 #[.val (.ref a), .val (.ref b), .val (.int (Int32.ofNat o)), .val (.int (Int32.ofNat len)), .val .null, .val (.ref s.heap.size)] [.int (Int32.ofNat len), .ref s.heap.size, .ref a])) := c9.trans (by
      refine XS.astore X8.here hexec rfl (hb hbytes d39) rfl rfl rfl ?_
      refine XS.aloadN X8.here hexec rfl (hb hbytes d41) rfl rfl ?_
      refine XS.aload X8.here hexec rfl (hb hbytes d42) rfl rfl ?_
      refine XS.iloadN X8.here hexec rfl (hb hbytes d44) rfl ?_
      exact Steps.refl _)
    rw [n4]; exact hc
  obtain ⟨v11, T11, X11, E11, g11⟩ := X8.callS hexec (CodL.law l s.heap.size N) hown (wks W (staticW "java/lang/String" 47 CodL.yN)) (wk W CodL.tab) (W := 1) (Nat.le_of_ble_eq_true rfl) (Nat.le_of_ble_eq_true rfl) (Nat.le_refl _) (by show 0 + len + 0 ≤ len; omega) (g := (mkF m 45 #[.val (.ref a), .val (.ref b), .val (.int (Int32.ofNat o)), .val (.int (Int32.ofNat len)), .val .null, .val (.ref s.heap.size)] [.int (Int32.ofNat N.slots.size), .ref s.heap.size, .ref a])) rfl (by rw [hml]; rfl) c10 (argsL := [.ref s.heap.size, .int (Int32.ofNat N.slots.size)]) (rest := [.ref a]) rfl rfl (by show 2 * 0 + (1 + 0) ≤ _; decide) (hb hbytes d45) (⟨rfl, n1⟩)
  obtain ⟨rfl, q11⟩ := E11
  have hB11 := hB1.mv (X8.warmed.alike.symm.trans X11.warmed.alike) q11
  have c12 : Steps p.tables e below (s₁.setTop (entryFrame m #[.ref a, .ref b, .int (Int32.ofNat o), .int (Int32.ofNat len), .null] 6)) (T11.setTop (mkF m 48 #[.val (.ref a), .val (.ref b), .val (.int (Int32.ofNat o)), .val (.int (Int32.ofNat len)), .val .null, .val (.ref s.heap.size)] [.int 0, .ref a])) := g11
  obtain ⟨T13, X13, p13, bl13, sl13, st13⟩ := X11.finit hexec hown (wk W (.fieldLink "java/lang/String" 15 "java/lang/String" "coder" "B")) (Or.inr ⟨_, (wk W (.laysFinal "java/lang/String" "java/lang/String" "coder" "B"))⟩) (Or.inl ⟨rfl, hnm⟩) f2 (Or.inl rfl) hB11 (t := .byte) (by decide +kernel) rfl (g := (mkF m 48 #[.val (.ref a), .val (.ref b), .val (.int (Int32.ofNat o)), .val (.int (Int32.ofNat len)), .val .null, .val (.ref s.heap.size)] [.int 0, .ref a])) rfl (rest := []) rfl (hb hbytes d48)
  have c14 : Steps p.tables e below (s₁.setTop (entryFrame m #[.ref a, .ref b, .int (Int32.ofNat o), .int (Int32.ofNat len), .null] 6)) (T13.setTop (mkF m 54 #[.val (.ref a), .val (.ref b), .val (.int (Int32.ofNat o)), .val (.int (Int32.ofNat len)), .val .null, .val (.ref s.heap.size)] [.ref s.heap.size, .ref a])) := (c12.trans (st13 _ (Steps.refl _))).trans (by
    refine XS.aloadN X13.here hexec rfl (hb hbytes d51) rfl rfl ?_
    refine XS.aload X13.here hexec rfl (hb hbytes d52) rfl rfl ?_
    exact Steps.refl _)
  obtain ⟨T15, X15, p15, bl15, sl15, st15⟩ := X13.finit hexec hown (wk W (.fieldLink "java/lang/String" 9 "java/lang/String" "value" "[B")) (Or.inr ⟨_, (wk W (.laysFinal "java/lang/String" "java/lang/String" "value" "[B"))⟩) (Or.inl ⟨rfl, hnm⟩) f1 (Or.inl rfl) bl13 (t := (.array .byte)) (by decide +kernel) rfl (g := (mkF m 54 #[.val (.ref a), .val (.ref b), .val (.int (Int32.ofNat o)), .val (.int (Int32.ofNat len)), .val .null, .val (.ref s.heap.size)] [.ref s.heap.size, .ref a])) rfl (rest := []) rfl (hb hbytes d54)
  have c16 : Steps p.tables e below (s₁.setTop (entryFrame m #[.ref a, .ref b, .int (Int32.ofNat o), .int (Int32.ofNat len), .null] 6)) (T15.setTop (mkF m 57 #[.val (.ref a), .val (.ref b), .val (.int (Int32.ofNat o)), .val (.int (Int32.ofNat len)), .val .null, .val (.ref s.heap.size)] [])) := c14.trans (st15 _ (Steps.refl _))
  have ap := apart (Or.inr ⟨_, (wk W (.laysFinal "java/lang/String" "java/lang/String" "value" "[B"))⟩) (Or.inr ⟨_, (wk W (.laysFinal "java/lang/String" "java/lang/String" "coder" "B"))⟩) f1 f2 (t₁ := .array .byte) (t₂ := .byte) (by decide +kernel) (by decide +kernel) (by decide)
  have al := X8.warmed.alike.symm.trans X15.warmed.alike
  have n7 : T11.heap[s.heap.size]? = some N := by rw [q11]; exact n1.1
  exact ⟨T15, none, _, _, _, X15, by simp, rfl, by omega, (fun _ => rfl), ⟨rfl, _, N, bl15, ((Same.refl D _).set _ (by simp)).set _ (by simp), sl15, (Cell.slots_setSlot_ne _ ap).trans sl13, n1.keep al (p15.other hne (p13.other hne n7)), n2, by rw [al.findClass]; exact n3, n4, n5, fun y c h1 h2 => p15.other h1 (p13.other h1 (by rw [q11]; exact n6 y c h2)), by rw [p15.2.2, p13.2.2, q11]; exact z8⟩, fun fs hl => c16.trans (X15.returnOut hexec hret (hb hbytes d57) hl)⟩
end New4
namespace New1
def yN : MethodName := ⟨"java/lang/String", "<init>", "([C)V"⟩
abbrev yB : ByteArray := jdk_42_method_3_code
theorem d0 : decode yB 0 = .ok (.aload_n 0, 1) := by decide +kernel
theorem d1 : decode yB 1 = .ok (.aload_n 1, 1) := by decide +kernel
theorem d2 : decode yB 2 = .ok (.iconst 0, 1) := by decide +kernel
theorem d3 : decode yB 3 = .ok (.aload_n 1, 1) := by decide +kernel
theorem d4 : decode yB 4 = .ok (.arraylength, 1) := by decide +kernel
theorem d5 : decode yB 5 = .ok (.aconst_null, 1) := by decide +kernel
theorem d6 : decode yB 6 = .ok (.invokespecial 27, 3) := by decide +kernel
theorem d9 : decode yB 9 = .ok (.return_, 1) := by decide +kernel
def site : List Cond := [New4.tab] ++ initW "java/lang/String" 27 New4.yN
def tab : Cond := tabOf yN yB 2 none site
def P (a : Addr) (D : Cell) (fV fC : Field) (b : Addr) (A : Cell) (z : Int32) (args : Array Value) (s : State) : Prop := args = #[.ref a, .ref b] ∧ Blank "java/lang/String" a D s ∧ Found "java/lang/String" "value" "[B" fV s ∧ Found "java/lang/String" "coder" "B" fC s ∧ Ch b A s ∧ StaticIs s "java/lang/String" "COMPACT_STRINGS" "Z" (.int z) ∧ ¬ z = 0 ∧ 0 < A.slots.size ∧ A.slots.size ≤ 536870912 ∧ ∀ i, i < A.slots.size → ¬ 255 < cv A i
def E (a : Addr) (D : Cell) (fV fC : Field) (A : Cell) (r : Option Value) (s u : State) : Prop := Got a D fV fC A 0 A.slots.size r s u
/-- new String(chars), not empty, no char above 255: a Latin-1 String of their low bytes -/
theorem law (l : Launch) (a : Addr) (D : Cell) (fV fC : Field) (b : Addr) (A : Cell) (z : Int32) : Law l yN 2 1 3 52 yB 2 none site (P a D fV fC b A z) (E a D fV fC A) [⟨a, fC.slot⟩, ⟨a, fV.slot⟩] 1 A.slots.size := by
  refine Law.of_walk (plainFor_of_name (by decide +kernel)) (by decide +kernel) (by decide +kernel) (by decide) (fun _ _ h => by rw [h.1]; rfl) (fun _ U U' hal hh h => ⟨h.1, h.2.1.mv hal hh, h.2.2.1.al hal, h.2.2.2.1.al hal, h.2.2.2.2.1.mv hal hh, h.2.2.2.2.2.1.there hal hh, h.2.2.2.2.2.2⟩) (fun r U U' V V' h1 hal h2 h => Got.mv r U U' V V' h1 hal h2 h) ?_
  intro p e s m args below meth c s₁ X0 hexec hbytes hml hret hlk hnm hown hh0 W hP
  obtain ⟨rfl, hB, f1, f2, hA, s1, hz, l0, l2, hp⟩ := hP
  have c1 : Steps p.tables e below (s₁.setTop (entryFrame m #[.ref a, .ref b] 2)) (s₁.setTop (mkF m 0 #[.val (.ref a), .val (.ref b)] [])) := entry rfl
  have c2 : Steps p.tables e below (s₁.setTop (entryFrame m #[.ref a, .ref b] 2)) (s₁.setTop (mkF m 6 #[.val (.ref a), .val (.ref b)] [.null, .int (Int32.ofNat A.slots.size), .int 0, .ref b, .ref a])) := c1.trans (by
    refine XS.aloadN X0.here hexec rfl (hb hbytes d0) rfl rfl ?_
    refine XS.aloadN X0.here hexec rfl (hb hbytes d1) rfl rfl ?_
    refine iconstV X0.here hexec rfl 0 (hb hbytes d2) (by decide) ?_
    refine XS.aloadN X0.here hexec rfl (hb hbytes d3) rfl rfl ?_
    refine X0.alen hexec (hA.1.mv X0.warmed.alike hh0) rfl rfl (hb hbytes d4) ?_
    refine XS.aconstNull X0.here hexec rfl (hb hbytes d5) ?_
    exact Steps.refl _)
  obtain ⟨v3, T3, X3, E3, g3⟩ := X0.callN hexec (New4.law l a D fV fC b A z 0 A.slots.size) rfl hown (wks W (initW "java/lang/String" 27 New4.yN)) (W New4.tab (by simp only [site, List.mem_cons, List.mem_append, true_or, or_true])) (W := 0) (Nat.le_of_ble_eq_true rfl) (Nat.le_of_ble_eq_true rfl) (Nat.le_refl _) (by show 0 + A.slots.size ≤ A.slots.size; omega) (g := (mkF m 6 #[.val (.ref a), .val (.ref b)] [.null, .int (Int32.ofNat A.slots.size), .int (Int32.ofNat 0), .ref b, .ref a])) rfl (by rw [hml]; rfl) c2 (argsL := [.ref b, .int (Int32.ofNat 0), .int (Int32.ofNat A.slots.size), .null]) (rest := []) rfl rfl (by show 2 * 0 + 0 ≤ _; decide) (hb hbytes d6) (⟨rfl, hB.mv X0.warmed.alike hh0, f1.al X0.warmed.alike, f2.al X0.warmed.alike, hA.mv X0.warmed.alike hh0, s1.there X0.warmed.alike hh0, hz, l0, by omega, l2, fun i hi => by rw [Nat.zero_add]; exact hp i hi⟩)
  have e0 := Got.mv _ s₁ s _ _ hh0.symm (Vm.Alike.refl _) rfl E3
  obtain rfl := e0.1
  have c4 : Steps p.tables e below (s₁.setTop (entryFrame m #[.ref a, .ref b] 2)) (T3.setTop (mkF m 9 #[.val (.ref a), .val (.ref b)] [])) := g3
  exact ⟨T3, none, _, _, _, X3, by simp, rfl, by omega, (fun _ => rfl), e0, fun fs hl => c4.trans (X3.returnOut hexec hret (hb hbytes d9) hl)⟩
theorem pays {l : Launch} {R : Room} {p : Program} {e : Env} {below : List Frame} {s : State} {sargs : Array Value} {len W : Nat} (a : Addr) (D : Cell) (fV fC : Field) (b : Addr) (A : Cell) (z : Int32) (htab : tab.before sargs s = true) (hfr : 4 ≤ R.frames) (hlo : W + 65 ≤ R.locals) :
    Back l R p e below s sargs yN len W (fun A₁ a₁ => A₁.cells + 1 ≤ R.cells ∧ A₁.slots + A.slots.size ≤ R.slots ∧ P a D fV fC b A z a₁ A₁.U) (fun A₁ _ v₁ B₁ => E a D fV fC A v₁ A₁.U B₁.U ∧ B₁.locs = A₁.locs ++ [⟨a, fC.slot⟩, ⟨a, fV.slot⟩] ∧ B₁.cells = A₁.cells + 1 ∧ B₁.slots = A₁.slots + A.slots.size) :=
  (law l a D fV fC b A z).pays htab hfr (by omega)
end New1
/-- the byte, read back as charAt reads it, is the char -/
theorem lo8_mask {x : Int32} (h0 : ¬ x < 0) (h1 : ¬ 255 < x) : lo8 x &&& 255 = x := by
  have t : ∀ k : Fin 256, lo8 (Int32.ofNat k.val) &&& 255 = Int32.ofNat k.val := by decide +kernel
  rw [Int32.lt_iff_toInt_lt] at h0 h1
  have e0 : (0 : Int32).toInt = 0 := rfl
  have e1 : (255 : Int32).toInt = 255 := rfl
  obtain ⟨k, hk⟩ : ∃ k : Nat, x.toInt = k := ⟨x.toInt.toNat, by omega⟩
  have hx : x = Int32.ofNat k := Int32.toInt_inj.mp (by rw [hk, Int32.toInt_ofNat_small (by omega)])
  rw [hx]
  exact t ⟨k, by omega⟩
end StrChars
namespace StrChars.Road
open Jvm Sem ClassFile Op Lib Jvm.Stand Jvm.Free Jvm.Free.XT
open Jvm.Lib.Cold (StaticIs)
abbrev ST : String := "java/lang/String"
/-- every table word that New1's law asks, flat -/
abbrev words : List Jvm.Cond := [.code New1.yN New1.yB 2 none, .initialized ST, .methodLink ST 27 New4.yN, .instanceMethod New4.yN,
  .code New4.yN New4.yB 6 none, .fieldLink ST 38 ST "COMPACT_STRINGS" "Z", .laysFinal ST ST "value" "[B", .fieldLink ST 9 ST "value" "[B", .laysFinal ST ST "coder" "B", .fieldLink ST 15 ST "coder" "B",
  .methodLink ST 1 Lib.objectInit, .instanceMethod Lib.objectInit, .code Lib.objectInit ⟨#[0xb1]⟩ 1 none, .methodLink ST 177 Cmp3.yN, .static Cmp3.yN, .methodLink ST 47 CodL.yN, .static CodL.yN,
  .code Cmp3.yN Cmp3.yB 6 (some (.array .byte)), .initialized U16, .arrayClass .byte, .methodLink U16 115 Cmp5.yN, .static Cmp5.yN, .code Cmp5.yN Cmp5.yB 7 (some .int), .code CodL.yN CodL.yB 2 (some .byte)]
theorem tab_of {a : Array Value} {s : State} (h : ∀ w ∈ words, w.before a s = true) : New1.tab.before a s = true := by
  have h5 : Cmp5.tab.before a s = true := unparts (wk h (.code Cmp5.yN Cmp5.yB 7 (some .int))) (wks h (.initialized Cmp5.yN.cls :: Cmp5.site))
  have hc : CodL.tab.before a s = true := unparts (wk h (.code CodL.yN CodL.yB 2 (some .byte))) (wks h (.initialized CodL.yN.cls :: CodL.site))
  have q5 : ∀ w ∈ Cmp5.tab :: words, w.before a s = true := fun w hw => (List.mem_cons.mp hw).elim (fun e => e ▸ h5) (h w)
  have h3 : Cmp3.tab.before a s = true := unparts (wk q5 (.code Cmp3.yN Cmp3.yB 6 (some (.array .byte)))) (wks q5 (.initialized Cmp3.yN.cls :: Cmp3.site))
  have q3 : ∀ w ∈ Cmp3.tab :: CodL.tab :: words, w.before a s = true := fun w hw => (List.mem_cons.mp hw).elim (fun e => e ▸ h3) fun hw => (List.mem_cons.mp hw).elim (fun e => e ▸ hc) (h w)
  have h4 : New4.tab.before a s = true := unparts (wk q3 (.code New4.yN New4.yB 6 none)) (wks q3 (.initialized New4.yN.cls :: New4.site))
  have q4 : ∀ w ∈ New4.tab :: words, w.before a s = true := fun w hw => (List.mem_cons.mp hw).elim (fun e => e ▸ h4) (h w)
  exact unparts (wk q4 (.code New1.yN New1.yB 2 none)) (wks q4 (.initialized New1.yN.cls :: New1.site))
/-- the words ride from the start Z to the walk's own state -/
theorem moved {Z s : State} {a0 args : Array Value} (hZ : Z.Warmed39 s.vm) (hw : ∀ d ∈ words, d.before a0 Z = true) : ∀ d ∈ words, d.before args s = true := fun d hd => by
  have q := hw d hd
  have t : ∀ d ∈ words, d = .arrayClass .byte ∨ (d.onTables && d.keepsFace) = true := by decide +kernel
  rcases t d hd with rfl | t
  · exact RoadKit.mvA hZ q
  · exact RoadKit.mv hZ q t
/-- WHAT COMES BACK, over the tables of the start Z: h the heap at the call, h' behind it -/
def Q (Z : State) (x : Addr) (A : Cell) (h : Heap) (v : Option Value) (h' : Heap) (L : List Loc) : Prop := v = none ∧ (∀ y ∈ L, y.base = x) ∧ RoadKit.Keep h h' [x] ∧ h'.size = h.size + 1 ∧ RoadKit.Exa Z h' x ST ∧ RoadKit.Fld Z h' x ST "value" "[B" (.ref h.size) ∧ RoadKit.Fld Z h' x ST "coder" "B" (.int 0) ∧
  (∃ V : Cell, RoadKit.Arr Z h' h.size V .byte ∧ V.vm = .none ∧ Z.vm.findClass "[B" = some V.cls ∧ V.slots.size = A.slots.size ∧ ∀ j, j < A.slots.size → V.slots[j]? = some (.int (lo8 (cv A j)))) ∧
  ∀ (O n d : String) (w : Value), RoadKit.Fld Z h x O n d w → RoadKit.slotOf Z O n d ≠ RoadKit.slotOf Z ST "value" "[B" → RoadKit.slotOf Z O n d ≠ RoadKit.slotOf Z ST "coder" "B" → RoadKit.Fld Z h' x O n d w
/-- **new String(chars) AT A CALL, IN THE ROAD'S FORM**: for specialBack behind newO: x the fresh String, b the char[] with the cell A -/
theorem back {p : Program} {l : Launch} {e : Env} {R : Room} {s : State} {args : Array Value} {below : List Frame} {len W : Nat} {Z : State} {a0 : Array Value} {h : Heap} (hZ : Z.Warmed39 s.vm) (hw : ∀ d ∈ words, d.before a0 Z = true) {kI : Nat} (wi : (Jvm.Cond.instantiable ST kI).before a0 Z = true)
    {x b : Addr} {A : Cell} {z : Int32} {v0 c0 : Value} (E : RoadKit.Exa Z h x ST) (V : RoadKit.Fld Z h x ST "value" "[B" v0) (C : RoadKit.Fld Z h x ST "coder" "B" c0) (K : RoadKit.Arr Z h b A .char) (hty : Typed .char A) (S : RoadKit.Sta Z h ST "COMPACT_STRINGS" "Z" (.int z)) (hz : ¬ z = 0)
    (l0 : 0 < A.slots.size) (l2 : A.slots.size ≤ 536870912) (hp : ∀ i, i < A.slots.size → ¬ 255 < cv A i) (hfr : 4 ≤ R.frames) (hlo : W + 65 ≤ R.locals) :
    Back l R p e below s args New1.yN len W (fun P a => a = #[.ref x, .ref b] ∧ P.U.heap = h ∧ P.cells + 1 ≤ R.cells ∧ P.slots + A.slots.size ≤ R.slots)
      (fun P _ v B => ∃ L, Q Z x A h v B.U.heap L ∧ B.locs = P.locs ++ L ∧ B.cells = P.cells + 1 ∧ B.slots = P.slots + A.slots.size) := by
  intro m meth c P g ig mk a X hg hsize hdg hW hn hp'
  obtain ⟨rfl, rfl, r1, r2⟩ := hp'
  have al : Z.vm.Alike P.U.vm := hZ.alike.trans X.warmed.alike
  obtain ⟨D, cfV, kV, iV, fV, hD, gV, stV, knV, obV, asV, slV⟩ := id V
  obtain ⟨D', cfC, kC, iC, fC, hD', gC, stC, -, -, asC, slC⟩ := id C
  cases hD.symm.trans hD'
  obtain ⟨D2, kD, e1, e2, e3, e4, e5⟩ := id E
  cases hD.symm.trans e1
  obtain ⟨c2, k2, i1, i2, i3, -⟩ := Cond.instantiable_spec wi
  cases e2.symm.trans i1
  cases e3.symm.trans i2
  obtain ⟨kU, u1, u2⟩ := al.2.2 _ _ e3
  have hB : Blank ST x D P.U := ⟨hD, ⟨knV, fun q hq => by rw [hq] at obV; cases obV⟩, by rw [al.findClass]; exact e2, kU, u1, by rw [u2]; exact i3, by rw [u2]; exact e5 i3⟩
  have F1 : Found ST "value" "[B" fV P.U := ⟨SBG.found_only al ⟨cfV, kV, iV, gV⟩, stV⟩
  have F2 : Found ST "coder" "B" fC P.U := ⟨SBG.found_only al ⟨cfC, kC, iC, gC⟩, stC⟩
  have hA : Ch b A P.U := ⟨⟨K.1, State.isArrayOf_alike al K.2.1, K.2.2, by omega⟩, hty⟩
  have hS : StaticIs P.U ST "COMPACT_STRINGS" "Z" (.int z) := by
    obtain ⟨cfS, iS, kS, fS, st, cS, t1, t2, t3, t4, t5, t6, t7⟩ := S
    exact StaticIs.there (s := { Z with heap := P.U.heap }) ⟨cfS, iS, kS, fS, st, cS, t1, t2, t3, t4, t5, (fun q => by rw [q] at t6; cases t6), t7⟩ al rfl
  obtain ⟨v, B, X', ⟨⟨hv, E', V', q1, q2, q3, q4, q5, q6, q7, q8, q9, q10, q11⟩, hl, hc, hs⟩, st⟩ := New1.pays x D fV fC b A z (tab_of (moved hZ hw)) hfr hlo m meth c P g ig mk _ X hg hsize hdg hW hn ⟨r1, r2, rfl, hB, F1, F2, hA, hS, hz, l0, l2, hp⟩
  have al' : Z.vm.Alike B.U.vm := hZ.alike.trans X'.warmed.alike
  have hsz : E'.slots.size = D.slots.size := by
    obtain ⟨-, -, -, kB, w1, w2, w3⟩ := q1
    obtain ⟨kB', y1, y2⟩ := al'.2.2 _ _ e3
    rw [q2.2.1] at w1
    cases w1.symm.trans y1
    rw [w3, e5 i3, y2]
  refine ⟨v, B, X', ⟨_, ⟨hv, ?_, ⟨by omega, fun y cy hy hn' => q10 y cy (by simpa using hn') hy, fun y cy hy => ?_⟩, q11, ⟨E', _, q1.1, by rw [q2.2.1]; exact e2, by rw [q2.2.1]; exact e3, by rw [q2.1]; exact obV, fun _ => by rw [hsz]; exact e5 i3⟩,
    ⟨E', cfV, kV, iV, fV, q1.1, gV, stV, by rw [q2.1]; exact knV, by rw [q2.1]; exact obV, by rw [q2.2.1]; exact asV, q3⟩, ⟨E', cfC, kC, iC, fC, q1.1, gC, stC, by rw [q2.1]; exact knV, by rw [q2.1]; exact obV, by rw [q2.2.1]; exact asC, q4⟩,
    ⟨V', ⟨q5.1, State.isArrayOf_alike al'.symm q5.2.1, q5.2.2.1⟩, q6, by rw [← al'.findClass]; exact q7, q8, fun j hj => by have := q9 j hj; rwa [Nat.zero_add] at this⟩, fun O n d w F n1 n2 => ?_⟩, hl, hc, hs⟩, st⟩
  · intro y hy
    simp only [List.mem_cons, List.not_mem_nil, or_false] at hy
    rcases hy with rfl | rfl <;> rfl
  · by_cases q : y = x
    · subst q
      cases hD.symm.trans hy
      exact ⟨E', q1.1, q2.2.1, q2.1, hsz⟩
    · exact ⟨cy, q10 y cy q hy, rfl, rfl, rfl⟩
  · obtain ⟨D3, cf, k, i, f, g1, g2, g3, g4, g5, g6, g7⟩ := F
    cases hD.symm.trans g1
    simp only [RoadKit.slotOf, g2, gV, gC, Option.map_some, Option.getD_some] at n1 n2
    exact ⟨E', cf, k, i, f, q1.1, g2, g3, by rw [q2.1]; exact g4, by rw [q2.1]; exact g5, by rw [q2.2.1]; exact g6, by rw [q2.2.2 f.slot (by simp [n1, n2])]; exact g7⟩
end StrChars.Road
namespace StrChars.Road
open Jvm Sem ClassFile Op Lib Jvm.Stand Jvm.Free Jvm.Free.XT
/-- WHAT COMES BACK, the byte[] as a list of values -/
def QA (Z : State) (x : Addr) (zn : Int32) (cs : List Int32) (h : Heap) (v : Option Value) (h' : Heap) (L : List Loc) : Prop := v = none ∧ (∀ y ∈ L, y.base = x) ∧ RoadKit.Keep h h' [x] ∧ h'.size = h.size + 1 ∧ RoadKit.Exa Z h' x ST ∧ RoadKit.Fld Z h' x ST "value" "[B" (.ref h.size) ∧ RoadKit.Fld Z h' x ST "coder" "B" (.int 0) ∧
  (∃ kb, Z.vm.findClass "[B" = some kb ∧ RoadKit.Arv Z h' h.size kb .byte zn (cs.map fun c => .int (lo8 c)) (.int 0)) ∧
  ∀ (O n d : String) (w : Value), RoadKit.Fld Z h x O n d w → RoadKit.slotOf Z O n d ≠ RoadKit.slotOf Z ST "value" "[B" → RoadKit.slotOf Z O n d ≠ RoadKit.slotOf Z ST "coder" "B" → RoadKit.Fld Z h' x O n d w
/-- **new String(chars) AT A CALL, THE ARRAYS AS LISTS**: the char[] at b holds cs, not empty, no char above 255 -/
theorem backArv {p : Program} {l : Launch} {e : Env} {R : Room} {s : State} {args : Array Value} {below : List Frame} {len W : Nat} {Z : State} {a0 : Array Value} {h : Heap} (hZ : Z.Warmed39 s.vm) (hw : ∀ d ∈ words, d.before a0 Z = true) {kI : Nat} (wi : (Jvm.Cond.instantiable ST kI).before a0 Z = true)
    {x b : Addr} {k : ClassId} {zn z : Int32} {cs : List Int32} {dv v0 c0 : Value} (E : RoadKit.Exa Z h x ST) (V : RoadKit.Fld Z h x ST "value" "[B" v0) (C : RoadKit.Fld Z h x ST "coder" "B" c0) (K : RoadKit.Arv Z h b k .char zn (cs.map Value.int) dv) (S : RoadKit.Sta Z h ST "COMPACT_STRINGS" "Z" (.int z)) (hz : ¬ z = 0)
    (hlen : zn.toNatClampNeg = cs.length) (h0 : 0 < cs.length) (hbig : cs.length ≤ 536870912) (hall : ∀ c ∈ cs, ¬ 255 < c) (hfr : 4 ≤ R.frames) (hlo : W + 65 ≤ R.locals) :
    Back l R p e below s args New1.yN len W (fun P a => a = #[.ref x, .ref b] ∧ P.U.heap = h ∧ P.cells + 1 ≤ R.cells ∧ P.slots + cs.length ≤ R.slots)
      (fun P _ v B => ∃ L, QA Z x zn cs h v B.U.heap L ∧ B.locs = P.locs ++ L ∧ B.cells = P.cells + 1 ∧ B.slots = P.slots + cs.length) := by
  obtain ⟨A, K1, K2, K3, K4, K5, K6⟩ := K
  have e : A.slots.size = cs.length := K3.trans hlen
  have hat : ∀ (i : Nat) (hi : i < cs.length), A.slots[i]? = some (.int cs[i]) := fun i hi => by rw [K5 i (by omega)]; simp [List.getD_eq_getElem?_getD, hi]
  have hcv : ∀ (i : Nat) (hi : i < cs.length), cv A i = cs[i] := fun i hi => by unfold cv; rw [hat i hi]
  have hty : Typed .char A := fun i v hv => by
    have hi : i < A.slots.size := (Array.getElem?_eq_some_iff.mp hv).1
    have q := K5 i hi
    rw [hv] at q
    rw [Option.some.inj q]
    exact K6 i hi
  refine Back.mono (back hZ hw wi E V C K1 hty S hz (by omega) (by omega) (fun i hi => by rw [hcv i (by omega)]; exact hall _ (List.getElem_mem _)) hfr hlo) (fun P a hp => ⟨hp.1, hp.2.1, hp.2.2.1, by rw [e]; exact hp.2.2.2⟩) (fun P a v B hp hq => ?_)
  obtain ⟨L, ⟨q1, q2, q3, q4, q5, q6, q7, ⟨V', v1, v2, v3, v4, v5⟩, q9⟩, hl, hc, hs⟩ := hq
  refine ⟨L, ⟨q1, q2, q3, q4, q5, q6, q7, ⟨V'.cls, v3, V', v1, rfl, by rw [v4, e, hlen], K4, fun i hi => ?_, fun i hi => ?_⟩, q9⟩, hl, hc, by rw [hs, e]⟩
  · have hi' : i < cs.length := by omega
    rw [v5 i (by omega), hcv i hi']; simp [List.getD_eq_getElem?_getD, hi']
  · have hi' : i < cs.length := by omega
    simp only [List.getD_eq_getElem?_getD, List.getElem?_map, List.getElem?_eq_getElem hi', Option.map_some, Option.getD_some]
    exact fits_lo8 _
end StrChars.Road
namespace StrChars.Road
open Jvm Sem ClassFile Op Lib Jvm.Stand Jvm.Free Jvm.Free.XT
/-- WHAT COMES BACK, in the writer's own shape -/
def QV (Z : State) (x : Addr) (N : Int32) (bs : List Int32) (h : Heap) (n0 : Nat) (v : Option Value) (h' : Heap) (L : List Loc) : Prop := v = none ∧ RoadKit.Fr n0 L ∧ RoadKit.Keep h h' [x] ∧ RoadKit.Exa Z h' x ST ∧ RoadKit.Fld Z h' x ST "coder" "B" (.int 0) ∧
  ∃ (t : Addr) (kb : ClassId), n0 ≤ t ∧ h.size ≤ t ∧ ¬ t = x ∧ RoadKit.Fld Z h' x ST "value" "[B" (.ref t) ∧ RoadKit.Arv Z h' t kb .byte N (bs.map Value.int) (.int 0)
/-- **new String(chars) AT A CALL, FOR THE WRITER**: a char[] of n known ints, each 0 to 255 -/
theorem backV {p : Program} {l : Launch} {e : Env} {R : Room} {s : State} {args : Array Value} {below : List Frame} {len W : Nat} {Z : State} {a0 : Array Value} {h : Heap} (hZ : Z.Warmed39 s.vm) (hw : ∀ d ∈ words, d.before a0 Z = true) {kI : Nat} (wi : (Jvm.Cond.instantiable ST kI).before a0 Z = true)
    {x b : Addr} {kC : ClassId} {cs bs : List Int32} {d v0 c0 : Value} {z N : Int32} {n n0 : Nat} (hx0 : n0 ≤ x) (hh0 : n0 ≤ h.size) (E : RoadKit.Exa Z h x ST) (V : RoadKit.Fld Z h x ST "value" "[B" v0) (C : RoadKit.Fld Z h x ST "coder" "B" c0) (K : RoadKit.Arv Z h b kC .char N (cs.map Value.int) d) (S : RoadKit.Sta Z h ST "COMPACT_STRINGS" "Z" (.int z)) (hz : ¬ z = 0)
    (hn : cs.length = n) (hN : N = Int32.ofNat n) (l0 : 0 < n) (l2 : n ≤ 4000) (hp : ∀ c ∈ cs, ¬ c < 0 ∧ ¬ (255 : Int32) < c) (hb : bs = cs.map (fun c => c.toInt8.toInt32)) (hfr : 4 ≤ R.frames) (hlo : W + 65 ≤ R.locals) :
    Back l R p e below s args (⟨"java/lang/String", "<init>", "([C)V"⟩ : MethodName) len W (fun P a => a = #[.ref x, .ref b] ∧ P.U.heap = h ∧ P.cells + 1 ≤ R.cells ∧ P.slots + n ≤ R.slots)
      (fun P _ v B => ∃ L, QV Z x N bs h n0 v B.U.heap L ∧ B.locs = P.locs ++ L ∧ B.cells = P.cells + 1 ∧ B.slots = P.slots + n) := by
  subst hn hN hb
  refine Back.mono (backArv hZ hw wi E V C K S hz (n32 (by omega)) l0 (by omega) (fun c hc => (hp c hc).2) hfr hlo) (fun P a hp => hp) (fun P a v B hp hq => ?_)
  obtain ⟨L, ⟨q1, q2, q3, q4, q5, q6, q7, ⟨kb, v1, v2⟩, q9⟩, hl, hc, hs⟩ := hq
  exact ⟨L, ⟨q1, fun y hy => by rw [q2 y hy]; exact hx0, q3, q5, q7, h.size, kb, hh0, Nat.le_refl _, Nat.ne_of_gt E.lt, q6, by rw [List.map_map]; exact v2⟩, hl, hc, hs⟩
end StrChars.Road
namespace StrChars
open Jvm Sem ClassFile Op Lib Jvm.Stand Jvm.Free.XT Jvm.Free.ALB Jvm.Free.JM Jvm.Free
open Jvm.Lib.Cold (StaticIs)
def hi8 (x : Int32) : Int32 := lo8 (x >>> ((8 : Int32) &&& 31))
/-- what StringUTF16.getChar makes of two bytes -/
def pairCh (u v : Int32) : Int32 := (((u &&& 255) <<< ((0 : Int32) &&& 31)) ||| ((v &&& 255) <<< ((8 : Int32) &&& 31))).toUInt32.toUInt16.toUInt32.toInt32
theorem lo8_and (x : Int32) : (lo8 x &&& 255).toBitVec.toNat = x.toBitVec.toNat % 256 := by
  have h : (lo8 x).toBitVec = (x.toBitVec.signExtend 8).signExtend 32 := by rw [lo8, Int8.toBitVec_toInt32, Int32.toBitVec_toInt8]
  rw [Int32.toBitVec_and, BitVec.toNat_and, h]
  have e : ((x.toBitVec.signExtend 8).signExtend 32).toNat % 256 = x.toBitVec.toNat % 256 := by
    rw [BitVec.toNat_signExtend]
    have hlt := x.toBitVec.isLt
    simp only [BitVec.toNat_setWidth, BitVec.toNat_signExtend]
    split <;> split <;> omega
  rw [← e]
  exact Nat.and_two_pow_sub_one_eq_mod _ 8
theorem pair_says {c : Int32} (h0 : ¬ c < 0) (h1 : ¬ 65535 < c) : pairCh (lo8 c) (hi8 c) = c := by
  rw [Int32.lt_iff_toInt_lt] at h0 h1
  have e0 : (0 : Int32).toInt = 0 := rfl
  have e1 : (65535 : Int32).toInt = 65535 := rfl
  have hc : c.toInt = c.toBitVec.toNat := by
    have := c.toBitVec.isLt
    have e : c.toInt = c.toBitVec.toInt := rfl
    rw [e] at h0 h1
    rw [e]
    rw [BitVec.toInt_eq_toNat_cond] at h0 h1 ⊢
    split at h0 <;> split <;> omega
  have hn : c.toBitVec.toNat < 65536 := by omega
  have a1 := lo8_and c
  have a2 : (hi8 c &&& 255).toBitVec.toNat = c.toBitVec.toNat / 256 := by
    rw [hi8, lo8_and]
    have e : ((8 : Int32) &&& 31) = 8 := by decide
    rw [e, Int32.toBitVec_shiftRight]
    have e2 : ((8 : Int32).toBitVec.smod 32) = 8#32 := by decide
    rw [e2, BitVec.sshiftRight_eq', BitVec.toNat_sshiftRight_of_msb_false (by rw [BitVec.msb_eq_false_iff_two_mul_lt]; omega)]
    show c.toBitVec.toNat >>> 8 % 256 = _
    rw [Nat.shiftRight_eq_div_pow]
    omega
  unfold pairCh
  apply Int32.toBitVec_inj.mp
  apply BitVec.eq_of_toNat_eq
  have f0 : ((0 : Int32) &&& 31) = 0 := by decide
  have f8 : ((8 : Int32) &&& 31) = 8 := by decide
  rw [f0, f8]
  have g : (((lo8 c &&& 255) <<< (0 : Int32)) ||| ((hi8 c &&& 255) <<< (8 : Int32))).toBitVec.toNat = c.toBitVec.toNat := by
    rw [Int32.toBitVec_or, Int32.toBitVec_shiftLeft, Int32.toBitVec_shiftLeft]
    have s0 : ((0 : Int32).toBitVec.smod 32) = 0#32 := by decide
    have s8 : ((8 : Int32).toBitVec.smod 32) = 8#32 := by decide
    rw [s0, s8, BitVec.toNat_or]
    simp only [BitVec.shiftLeft_eq', BitVec.toNat_shiftLeft, a1, a2]
    show (c.toBitVec.toNat % 256) <<< 0 % 2 ^ 32 ||| (c.toBitVec.toNat / 256) <<< 8 % 2 ^ 32 = _
    rw [Nat.shiftLeft_zero, Nat.mod_eq_of_lt (show c.toBitVec.toNat % 256 < 2 ^ 32 by omega), Nat.mod_eq_of_lt (show (c.toBitVec.toNat / 256) <<< 8 < 2 ^ 32 by rw [Nat.shiftLeft_eq]; omega), Nat.or_comm, ← Nat.shiftLeft_add_eq_or_of_lt (by omega), Nat.shiftLeft_eq]
    omega
  show BitVec.toNat (((((lo8 c &&& 255) <<< (0 : Int32)) ||| ((hi8 c &&& 255) <<< (8 : Int32))).toBitVec.setWidth 16).setWidth 32) = _
  rw [BitVec.toNat_setWidth, BitVec.toNat_setWidth, g]
  omega
end StrChars
namespace StrChars
open Jvm Sem ClassFile Op Lib Jvm.Stand Jvm.Free.XT Jvm.Free.ALB Jvm.Free.JM Jvm.Free
open Jvm.Lib.Cold (StaticIs)
/-- charAt's cast of a byte read back -/
def chr8 (u : Int32) : Int32 := (u &&& 255).toUInt32.toUInt16.toUInt32.toInt32
theorem chr8_lo8 {c : Int32} (h0 : ¬ c < 0) (h1 : ¬ 255 < c) : chr8 (lo8 c) = c := by
  have t : ∀ k : Fin 256, (Int32.ofNat k.val).toUInt32.toUInt16.toUInt32.toInt32 = Int32.ofNat k.val := by decide +kernel
  unfold chr8
  rw [lo8_mask h0 h1]
  rw [Int32.lt_iff_toInt_lt] at h0 h1
  have e0 : (0 : Int32).toInt = 0 := rfl
  have e1 : (255 : Int32).toInt = 255 := rfl
  obtain ⟨k, hk⟩ : ∃ k : Nat, c.toInt = k := ⟨c.toInt.toNat, by omega⟩
  have hx : c = Int32.ofNat k := Int32.toInt_inj.mp (by rw [hk, Int32.toInt_ofNat_small (by omega)])
  rw [hx]
  exact t ⟨k, by omega⟩
theorem narrow_ch {c : Int32} (h0 : ¬ c < 0) (h1 : ¬ 65535 < c) : narrow .char (.int c) = .int c := by
  have q : narrow .char (.int (pairCh (lo8 c) (hi8 c))) = .int (pairCh (lo8 c) (hi8 c)) := narrow_c _
  rwa [pair_says h0 h1] at q
/-- the array's cell V codes the n chars f 0 .. f (n - 1) by the coder cd, as the JDK does: coder 1 just where some char is above 255 -/
def Cod (cd : Int32) (n : Nat) (f : Nat → Int32) (V : Cell) : Prop := (cd = 0 ∧ V.slots.size = n ∧ ∀ j, j < n → V.slots[j]? = some (.int (lo8 (f j))) ∧ ¬ 255 < f j) ∨ (cd = 1 ∧ V.slots.size = 2 * n ∧ (∀ j, j < n → V.slots[2 * j]? = some (.int (lo8 (f j))) ∧ V.slots[2 * j + 1]? = some (.int (hi8 (f j)))) ∧ ∃ j, j < n ∧ 255 < f j)
theorem Cod.cd {cd : Int32} {n : Nat} {f : Nat → Int32} {V : Cell} (h : Cod cd n f V) : cd = 0 ∨ cd = 1 := h.imp (fun q => q.1) fun q => q.1
/-- **x is a String of the n chars f 0 .. f (n - 1)**, Latin-1 or UTF-16; its array at t has the cell V -/
def Txt (x t : Addr) (V : Cell) (cd : Int32) (n : Nat) (f : Nat → Int32) (U : State) : Prop := Exact "java/lang/String" x U ∧ Has x "java/lang/String" "value" "[B" (.ref t) U ∧ Has x "java/lang/String" "coder" "B" (.int cd) U ∧ XT.Arr .byte t V U ∧ Cod cd n f V ∧ ∀ j, j < n → ¬ f j < 0 ∧ ¬ 65535 < f j
theorem Txt.mv {x t : Addr} {V : Cell} {cd : Int32} {n : Nat} {f : Nat → Int32} {U U' : State} (h : Txt x t V cd n f U) (hal : U.vm.Alike U'.vm) (hh : U'.heap = U.heap) : Txt x t V cd n f U' := ⟨h.1.mv hal hh, h.2.1.mv hal hh, h.2.2.1.mv hal hh, h.2.2.2.1.mv hal hh, h.2.2.2.2⟩
namespace IsL
def yN : MethodName := ⟨"java/lang/String", "isLatin1", "()Z"⟩
abbrev yB : ByteArray := jdk_42_method_154_code
theorem d0 : decode yB 0 = .ok (.getstatic 38, 3) := by decide +kernel
theorem d3 : decode yB 3 = .ok (.ifCond (.eq) 14, 3) := by decide +kernel
theorem d6 : decode yB 6 = .ok (.aload_n 0, 1) := by decide +kernel
theorem d7 : decode yB 7 = .ok (.getfield 15, 3) := by decide +kernel
theorem d10 : decode yB 10 = .ok (.ifCond (.ne) 7, 3) := by decide +kernel
theorem d13 : decode yB 13 = .ok (.iconst 1, 1) := by decide +kernel
theorem d14 : decode yB 14 = .ok (.goto 4, 3) := by decide +kernel
theorem d17 : decode yB 17 = .ok (.iconst 0, 1) := by decide +kernel
theorem d18 : decode yB 18 = .ok (.ireturn, 1) := by decide +kernel
def site : List Cond := [.fieldLink "java/lang/String" 38 "java/lang/String" "COMPACT_STRINGS" "Z", .fieldLink "java/lang/String" 15 "java/lang/String" "coder" "B"]
def tab : Cond := tabOf yN yB 1 (some .boolean) site
def P (x : Addr) (cd z : Int32) (args : Array Value) (s : State) : Prop := args = #[.ref x] ∧ Has x "java/lang/String" "coder" "B" (.int cd) s ∧ (cd = 0 ∨ cd = 1) ∧ StaticIs s "java/lang/String" "COMPACT_STRINGS" "Z" (.int z) ∧ ¬ z = 0
def E (cd : Int32) (r : Option Value) (s u : State) : Prop := XT.PureE (some (.int (1 - cd))) r s u
theorem law (l : Launch) (x : Addr) (cd z : Int32) : Law l yN 1 0 0 0 yB 1 (some .boolean) site (P x cd z) (E cd) [] 0 0 := by
  refine Law.of_walk (plainFor_of_name (by decide +kernel)) (by decide +kernel) (by decide +kernel) (by decide) (fun _ _ h => by rw [h.1]; rfl) (fun _ U U' hal hh h => ⟨h.1, h.2.1.mv hal hh, h.2.2.1, h.2.2.2.1.there hal hh, h.2.2.2.2⟩) (fun r U U' V V' h1 hal h2 h => XT.PureE.mv r U U' V V' h1 hal h2 h) ?_
  intro p e s m args below meth c s₁ X0 hexec hbytes hml hret hlk hnm hown hh0 W hP
  obtain ⟨rfl, hx, hc, s1, hz⟩ := hP
  have c1 : Steps p.tables e below (s₁.setTop (entryFrame m #[.ref x] 1)) (s₁.setTop (mkF m 0 #[.val (.ref x)] [])) := entry rfl
  obtain ⟨T2, X2, q2, st2⟩ := X0.sget hexec hown (wk W (.fieldLink "java/lang/String" 38 "java/lang/String" "COMPACT_STRINGS" "Z")) s1 (fun _ _ h => by rw [hh0]; exact h) (g := (mkF m 0 #[.val (.ref x)] [])) rfl (hb hbytes d0)
  have hh2 := q2.trans hh0
  have c3 : Steps p.tables e below (s₁.setTop (entryFrame m #[.ref x] 1)) (T2.setTop (mkF m 7 #[.val (.ref x)] [.ref x])) := (c1.trans (st2 _ (Steps.refl _))).trans (by
    refine XS.ifNo X2.here hexec rfl (hb hbytes d3) rfl (i0_eq_f hz) ?_
    refine XS.aloadN X2.here hexec rfl (hb hbytes d6) rfl rfl ?_
    exact Steps.refl _)
  obtain ⟨T4, X4, q4, st4⟩ := X2.hget hexec hown (wk W (.fieldLink "java/lang/String" 15 "java/lang/String" "coder" "B")) (hx.mv X2.warmed.alike hh2) (g := (mkF m 7 #[.val (.ref x)] [.ref x])) rfl (rest := []) rfl (hb hbytes d7)
  have c5 : Steps p.tables e below (s₁.setTop (entryFrame m #[.ref x] 1)) (T4.setTop (mkF m 10 #[.val (.ref x)] [.int cd])) := c3.trans (st4 _ (Steps.refl _))
  have c6 : Steps p.tables e below (s₁.setTop (entryFrame m #[.ref x] 1)) (T4.setTop (mkF m 18 #[.val (.ref x)] [.int (1 - cd)])) := by
    rcases hc with rfl | rfl
    · exact c5.trans (by
        refine XS.ifNo X4.here hexec rfl (hb hbytes d10) rfl (i0_ne_f rfl) ?_
        refine iconstV X4.here hexec rfl 1 (hb hbytes d13) (by decide) ?_
        refine XS.goto X4.here hexec rfl (pc0 := 14) rfl (hb hbytes d14) (by decide) rfl ?_
        exact Steps.refl _)
    · exact c5.trans (by
        refine XS.ifYes X4.here hexec rfl (pc0 := 10) rfl (hb hbytes d10) rfl (i0_ne_t (by decide)) (by decide) rfl ?_
        refine iconstV X4.here hexec rfl 0 (hb hbytes d17) (by decide) ?_
        exact Steps.refl _)
  exact ⟨T4, some (.int (1 - cd)), _, _, _, X4, rfl, rfl, rfl, (fun h => by cases h), ⟨rfl, q4.trans hh2⟩, fun fs hl => c6.trans (X4.ireturnOut hexec hret (by rcases hc with rfl | rfl <;> rfl) (Or.inr (Or.inl rfl)) (hb hbytes d18) hl)⟩
end IsL
namespace LChA
def yN : MethodName := ⟨"java/lang/StringLatin1", "charAt", "([BI)C"⟩
abbrev yB : ByteArray := jdk_43_method_2_code
theorem d0 : decode yB 0 = .ok (.iload_n 1, 1) := by decide +kernel
theorem d1 : decode yB 1 = .ok (.aload_n 0, 1) := by decide +kernel
theorem d2 : decode yB 2 = .ok (.arraylength, 1) := by decide +kernel
theorem d3 : decode yB 3 = .ok (.invokestatic 9, 3) := by decide +kernel
theorem d6 : decode yB 6 = .ok (.aload_n 0, 1) := by decide +kernel
theorem d7 : decode yB 7 = .ok (.iload_n 1, 1) := by decide +kernel
theorem d8 : decode yB 8 = .ok (.baload, 1) := by decide +kernel
theorem d9 : decode yB 9 = .ok (.sipush 255, 3) := by decide +kernel
theorem d12 : decode yB 12 = .ok (.iand, 1) := by decide +kernel
theorem d13 : decode yB 13 = .ok (.i2c, 1) := by decide +kernel
theorem d14 : decode yB 14 = .ok (.ireturn, 1) := by decide +kernel
def site : List Cond := [JO.Str_checkIndex.tab] ++ staticW "java/lang/StringLatin1" 9 JO.Str_checkIndex.yN
def tab : Cond := tabOf yN yB 2 (some .char) site
def P (t : Addr) (V : Cell) (i : Nat) (u : Int32) (fm : Value) (args : Array Value) (s : State) : Prop := args = #[.ref t, .int (Int32.ofNat i)] ∧ XT.Arr .byte t V s ∧ V.slots[i]? = some (.int u) ∧ (StaticIs s "jdk/internal/util/Preconditions" "SIOOBE_FORMATTER" "Ljava/util/function/BiFunction;" fm ∧ fm.isRef = true)
def E (u : Int32) (r : Option Value) (s w : State) : Prop := XT.PureE (some (.int (chr8 u))) r s w
theorem law (l : Launch) (t : Addr) (V : Cell) (i : Nat) (u : Int32) (fm : Value) : Law l yN 2 2 2 27 yB 2 (some .char) site (P t V i u fm) (E u) [] 0 0 := by
  refine Law.of_walk (plainFor_of_name (by decide +kernel)) (by decide +kernel) (by decide +kernel) (by decide) (fun _ _ h => by rw [h.1]; rfl) (fun _ U U' hal hh h => ⟨h.1, h.2.1.mv hal hh, h.2.2.1, h.2.2.2.1.there hal hh, h.2.2.2.2⟩) (fun r U U' V V' h1 hal h2 h => XT.PureE.mv r U U' V V' h1 hal h2 h) ?_
  intro p e s m args below meth c s₁ X0 hexec hbytes hml hret hlk hnm hown hh0 W hP
  obtain ⟨rfl, hV, hu, s1, rf⟩ := hP
  have v31 := hV.2.2.2
  have hi : i < V.slots.size := (Array.getElem?_eq_some_iff.mp hu).1
  have c1 : Steps p.tables e below (s₁.setTop (entryFrame m #[.ref t, .int (Int32.ofNat i)] 2)) (s₁.setTop (mkF m 0 #[.val (.ref t), .val (.int (Int32.ofNat i))] [])) := entry rfl
  have c2 : Steps p.tables e below (s₁.setTop (entryFrame m #[.ref t, .int (Int32.ofNat i)] 2)) (s₁.setTop (mkF m 3 #[.val (.ref t), .val (.int (Int32.ofNat i))] [.int (Int32.ofNat V.slots.size), .int (Int32.ofNat i)])) := c1.trans (by
    refine XS.iloadN X0.here hexec rfl (hb hbytes d0) rfl ?_
    refine XS.aloadN X0.here hexec rfl (hb hbytes d1) rfl rfl ?_
    refine X0.alen hexec (hV.mv X0.warmed.alike hh0) rfl rfl (hb hbytes d2) ?_
    exact Steps.refl _)
  obtain ⟨v3, T3, X3, E3, g3⟩ := X0.callS hexec (JO.Str_checkIndex.law l (Int32.ofNat i) (Int32.ofNat V.slots.size) fm) hown (wks W (staticW "java/lang/StringLatin1" 9 JO.Str_checkIndex.yN)) (wk W JO.Str_checkIndex.tab) (W := 0) (Nat.le_of_ble_eq_true rfl) (Nat.le_of_ble_eq_true rfl) (Nat.le_refl _) (Nat.le_refl _) (g := (mkF m 3 #[.val (.ref t), .val (.int (Int32.ofNat i))] [.int (Int32.ofNat V.slots.size), .int (Int32.ofNat i)])) rfl (by rw [hml]; rfl) c2 (argsL := [.int (Int32.ofNat i), .int (Int32.ofNat V.slots.size)]) (rest := []) rfl rfl (by show 2 * 0 + 0 ≤ _; decide) (hb hbytes d3) (⟨rfl, rf, s1.there X0.warmed.alike hh0, Int32.ofNat_not_neg (by omega), lt32 v31 hi⟩)
  obtain ⟨rfl, q3⟩ := E3
  have hh3 := q3.trans hh0
  have c4 : Steps p.tables e below (s₁.setTop (entryFrame m #[.ref t, .int (Int32.ofNat i)] 2)) (T3.setTop (mkF m 14 #[.val (.ref t), .val (.int (Int32.ofNat i))] [.int (chr8 u)])) := Steps.trans g3 (by
    refine XS.aloadN X3.here hexec rfl (hb hbytes d6) rfl rfl ?_
    refine XS.iloadN X3.here hexec rfl (hb hbytes d7) rfl ?_
    refine X3.aget hexec (hV.mv X3.warmed.alike hh3) rfl hu rfl rfl (hb hbytes d8) ?_
    refine sipushV X3.here hexec rfl 255 (hb hbytes d9) (by decide) ?_
    refine XS.iand X3.here hexec rfl (hb hbytes d12) rfl ?_
    refine i2c X3.here hexec rfl (hb hbytes d13) rfl ?_
    exact Steps.refl _)
  exact ⟨T3, some (.int (chr8 u)), _, _, _, X3, rfl, rfl, rfl, (fun h => by cases h), ⟨rfl, hh3⟩, fun fs hl => c4.trans (X3.ireturnOut hexec hret (narrow_c _) (Or.inr (Or.inr (Or.inr (Or.inl rfl)))) (hb hbytes d14) hl)⟩
end LChA
end StrChars
namespace StrChars.Road
open Jvm Sem ClassFile Op Lib Jvm.Stand Jvm.Free Jvm.Free.XT
open Jvm.Lib.Cold (StaticIs)
theorem consq {a : Array Value} {s : State} {c : Jvm.Cond} {L : List Jvm.Cond} (h0 : c.before a s = true) (h : ∀ w ∈ L, w.before a s = true) : ∀ w ∈ c :: L, w.before a s = true := fun w hw => (List.mem_cons.mp hw).elim (fun e => e ▸ h0) (h w)
/-- the bytes of the chars cs, low before high -/
def wideBytes : List Int32 → List Value
  | [] => []
  | c :: cs => .int (lo8 c) :: .int (hi8 c) :: wideBytes cs
theorem wide_lo (d : Value) : ∀ (cs : List Int32) (j : Nat), j < cs.length → (wideBytes cs).getD (2 * j) d = .int (lo8 (cs.getD j 0))
  | [], j, h => absurd h (Nat.not_lt_zero j)
  | c :: cs, 0, _ => rfl
  | c :: cs, j + 1, h => by
    have q := wide_lo d cs j (by simpa using h)
    rw [show 2 * (j + 1) = 2 * j + 1 + 1 from by omega]
    simpa [wideBytes] using q
theorem wide_hi (d : Value) : ∀ (cs : List Int32) (j : Nat), j < cs.length → (wideBytes cs).getD (2 * j + 1) d = .int (hi8 (cs.getD j 0))
  | [], j, h => absurd h (Nat.not_lt_zero j)
  | c :: cs, 0, _ => rfl
  | c :: cs, j + 1, h => by
    have q := wide_hi d cs j (by simpa using h)
    rw [show 2 * (j + 1) + 1 = 2 * j + 1 + 1 + 1 from by omega]
    simpa [wideBytes] using q
theorem low_at (d : Value) (cs : List Int32) (j : Nat) (h : j < cs.length) : (cs.map fun c => Value.int (lo8 c)).getD j d = .int (lo8 (cs.getD j 0)) := by
  simp [List.getD_eq_getElem?_getD, h]
/-- an array of N2 bytes vs codes the chars cs by the coder cd -/
def CodA (cs : List Int32) (cd N2 : Int32) (vs : List Value) : Prop := (cd = 0 ∧ N2 = Int32.ofNat cs.length ∧ vs = (cs.map fun c => Value.int (lo8 c)) ∧ ∀ c ∈ cs, ¬ 255 < c) ∨ (cd = 1 ∧ N2 = Int32.ofNat (2 * cs.length) ∧ vs = wideBytes cs ∧ ∃ c ∈ cs, 255 < c)
theorem CodA.cod {cs : List Int32} {cd N2 : Int32} {vs : List Value} {V : Cell} (h : CodA cs cd N2 vs) (hn : 2 * cs.length < 2 ^ 31) (hs : V.slots.size = N2.toNatClampNeg) (hv : RoadKit.Has V vs (.int 0)) : Cod cd cs.length (fun j => cs.getD j 0) V := by
  rcases h with ⟨rfl, rfl, rfl, h⟩ | ⟨rfl, rfl, rfl, c, hc, hw⟩
  · rw [n32 (by omega)] at hs
    exact Or.inl ⟨rfl, hs, fun j hj => ⟨by rw [hv j (by omega), low_at _ _ _ hj], by
      have e : cs.getD j 0 = cs[j] := by simp [List.getD_eq_getElem?_getD, hj]
      show ¬ 255 < cs.getD j 0
      rw [e]; exact h _ (List.getElem_mem _)⟩⟩
  · rw [n32 (by omega)] at hs
    obtain ⟨j, hj, rfl⟩ := List.getElem_of_mem hc
    exact Or.inr ⟨rfl, hs, fun j hj => ⟨by rw [hv _ (by omega), wide_lo _ _ _ hj], by rw [hv _ (by omega), wide_hi _ _ _ hj]⟩, j, hj, by
      have e : cs.getD j 0 = cs[j] := by simp [List.getD_eq_getElem?_getD, hj]
      show 255 < cs.getD j 0
      rw [e]; exact hw⟩
/-- an object of exactly java/lang/String, its two fields found: as the laws ask it -/
theorem strObj {Z U : State} {a0 : Array Value} {kI : Nat} (wi : (Jvm.Cond.instantiable ST kI).before a0 Z = true) (al : Z.vm.Alike U.vm) {x : Addr} {v0 c0 : Value} (E : RoadKit.Exa Z U.heap x ST) (V : RoadKit.Fld Z U.heap x ST "value" "[B" v0) (C : RoadKit.Fld Z U.heap x ST "coder" "B" c0) :
    ∃ (D : Cell) (fV fC : Field), Blank ST x D U ∧ Found ST "value" "[B" fV U ∧ Found ST "coder" "B" fC U ∧ D.slots[fV.slot]? = some v0 ∧ D.slots[fC.slot]? = some c0 ∧ RoadKit.slotOf Z ST "value" "[B" = fV.slot ∧ RoadKit.slotOf Z ST "coder" "B" = fC.slot := by
  obtain ⟨D, cfV, kV, iV, fV, hD, gV, stV, knV, obV, asV, slV⟩ := V
  obtain ⟨D', cfC, kC, iC, fC, hD', gC, stC, -, -, asC, slC⟩ := C
  cases hD.symm.trans hD'
  obtain ⟨D2, kD, e1, e2, e3, e4, e5⟩ := E
  cases hD.symm.trans e1
  obtain ⟨c2, k2, i1, i2, i3, -⟩ := Cond.instantiable_spec wi
  cases e2.symm.trans i1
  cases e3.symm.trans i2
  obtain ⟨kU, u1, u2⟩ := al.2.2 _ _ e3
  exact ⟨D, fV, fC, ⟨hD, ⟨knV, fun q hq => by rw [hq] at obV; cases obV⟩, by rw [al.findClass]; exact e2, kU, u1, by rw [u2]; exact i3, by rw [u2]; exact e5 i3⟩, ⟨SBG.found_only al ⟨cfV, kV, iV, gV⟩, stV⟩, ⟨SBG.found_only al ⟨cfC, kC, iC, gC⟩, stC⟩, slV, slC, by simp [RoadKit.slotOf, gV], by simp [RoadKit.slotOf, gC]⟩
theorem sta_is {Z U : State} (al : Z.vm.Alike U.vm) {C n d : String} {v : Value} (S : RoadKit.Sta Z U.heap C n d v) : StaticIs U C n d v := by
  obtain ⟨cfS, iS, kS, fS, st, cS, t1, t2, t3, t4, t5, t6, t7⟩ := S
  exact StaticIs.there (s := { Z with heap := U.heap }) ⟨cfS, iS, kS, fS, st, cS, t1, t2, t3, t4, t5, (fun q => by rw [q] at t6; cases t6), t7⟩ al rfl
end StrChars.Road
namespace StrChars
open Jvm Sem ClassFile Op Lib Jvm.Stand Jvm.Free.XT Jvm.Free.ALB Jvm.Free.JM Jvm.Free
open Jvm.Lib.Cold (StaticIs)
/-- what place i of a byte[]'s cell holds -/
def yv (A : Cell) (i : Nat) : Int32 := match A.slots[i]? with | some (.int x) => x | _ => 0
theorem yv_get {a : Addr} {A : Cell} {U : State} (h : XT.Arr .byte a A U) (ht : Typed .byte A) {i : Nat} (hi : i < A.slots.size) : A.slots[i]? = some (.int (yv A i)) := by
  have e := Array.getElem?_eq_getElem hi
  have f := ht i _ e
  unfold yv; rw [e]
  generalize A.slots[i] = v at f
  cases v <;> simp [fits] at f ⊢
/-- the two arrays are equal, place for place -/
def EqC (A B : Cell) : Prop := A.slots.size = B.slots.size ∧ ∀ i, i < A.slots.size → yv A i = yv B i
/-- a boolean that says whether p -/
def Says01 (q : Prop) (r : Option Value) (s u : State) : Prop := ∃ v : Int32, r = some (.int v) ∧ u.heap = s.heap ∧ ((v = 1 ∧ q) ∨ (v = 0 ∧ ¬ q))
theorem Says01.mv {q : Prop} : ∀ r (U U' V V' : State), U'.heap = U.heap → V.vm.Alike V'.vm → V'.heap = V.heap → Says01 q r U V → Says01 q r U' V' :=
  fun r U U' V V' h1 _ h2 ⟨v, a, b, c⟩ => ⟨v, a, by rw [h1, h2]; exact b, c⟩
namespace LEq
def yN : MethodName := ⟨"java/lang/StringLatin1", "equals", "([B[B)Z"⟩
abbrev yB : ByteArray := jdk_43_method_13_code
theorem d0 : decode yB 0 = .ok (.aload_n 0, 1) := by decide +kernel
theorem d1 : decode yB 1 = .ok (.arraylength, 1) := by decide +kernel
theorem d2 : decode yB 2 = .ok (.aload_n 1, 1) := by decide +kernel
theorem d3 : decode yB 3 = .ok (.arraylength, 1) := by decide +kernel
theorem d4 : decode yB 4 = .ok (.if_icmp (.ne) 30, 3) := by decide +kernel
theorem d7 : decode yB 7 = .ok (.iconst 0, 1) := by decide +kernel
theorem d8 : decode yB 8 = .ok (.istore_n 2, 1) := by decide +kernel
theorem d9 : decode yB 9 = .ok (.iload_n 2, 1) := by decide +kernel
theorem d10 : decode yB 10 = .ok (.aload_n 0, 1) := by decide +kernel
theorem d11 : decode yB 11 = .ok (.arraylength, 1) := by decide +kernel
theorem d12 : decode yB 12 = .ok (.if_icmp (.ge) 20, 3) := by decide +kernel
theorem d15 : decode yB 15 = .ok (.aload_n 0, 1) := by decide +kernel
theorem d16 : decode yB 16 = .ok (.iload_n 2, 1) := by decide +kernel
theorem d17 : decode yB 17 = .ok (.baload, 1) := by decide +kernel
theorem d18 : decode yB 18 = .ok (.aload_n 1, 1) := by decide +kernel
theorem d19 : decode yB 19 = .ok (.iload_n 2, 1) := by decide +kernel
theorem d20 : decode yB 20 = .ok (.baload, 1) := by decide +kernel
theorem d21 : decode yB 21 = .ok (.if_icmp (.eq) 5, 3) := by decide +kernel
theorem d24 : decode yB 24 = .ok (.iconst 0, 1) := by decide +kernel
theorem d25 : decode yB 25 = .ok (.ireturn, 1) := by decide +kernel
theorem d26 : decode yB 26 = .ok (.iinc 2 1, 3) := by decide +kernel
theorem d29 : decode yB 29 = .ok (.goto (-20), 3) := by decide +kernel
theorem d32 : decode yB 32 = .ok (.iconst 1, 1) := by decide +kernel
theorem d33 : decode yB 33 = .ok (.ireturn, 1) := by decide +kernel
theorem d34 : decode yB 34 = .ok (.iconst 0, 1) := by decide +kernel
theorem d35 : decode yB 35 = .ok (.ireturn, 1) := by decide +kernel
def site : List Cond := []
def tab : Cond := tabOf yN yB 3 (some .boolean) site
def P (a : Addr) (A : Cell) (b : Addr) (B : Cell) (args : Array Value) (s : State) : Prop := args = #[.ref a, .ref b] ∧ XT.Arr .byte a A s ∧ Typed .byte A ∧ XT.Arr .byte b B s ∧ Typed .byte B
/-- whether two byte[] are equal, place for place -/
theorem law (l : Launch) (a : Addr) (A : Cell) (b : Addr) (B : Cell) : Law l yN 2 2 0 0 yB 3 (some .boolean) site (P a A b B) (Says01 (EqC A B)) [] 0 0 := by
  refine Law.of_walk (plainFor_of_name (by decide +kernel)) (by decide +kernel) (by decide +kernel) (by decide) (fun _ _ h => by rw [h.1]; rfl) (fun _ U U' hal hh h => ⟨h.1, h.2.1.mv hal hh, h.2.2.1, h.2.2.2.1.mv hal hh, h.2.2.2.2⟩) (fun r U U' V V' h1 hal h2 h => Says01.mv r U U' V V' h1 hal h2 h) ?_
  intro p e s m args below meth c s₁ X0 hexec hbytes hml hret hlk hnm hown hh0 W hP
  obtain ⟨rfl, hA, tA, hB, tB⟩ := hP
  have a31 := hA.2.2.2
  have b31 := hB.2.2.2
  have hA0 := hA.mv X0.warmed.alike hh0
  have hB0 := hB.mv X0.warmed.alike hh0
  have c1 : Steps p.tables e below (s₁.setTop (entryFrame m #[.ref a, .ref b] 3)) (s₁.setTop (mkF m 0 #[.val (.ref a), .val (.ref b), .unset] [])) := entry rfl
  have c2 : Steps p.tables e below (s₁.setTop (entryFrame m #[.ref a, .ref b] 3)) (s₁.setTop (mkF m 4 #[.val (.ref a), .val (.ref b), .unset] [.int (Int32.ofNat B.slots.size), .int (Int32.ofNat A.slots.size)])) := c1.trans (by
    refine XS.aloadN X0.here hexec rfl (hb hbytes d0) rfl rfl ?_
    refine X0.alen hexec hA0 rfl rfl (hb hbytes d1) ?_
    refine XS.aloadN X0.here hexec rfl (hb hbytes d2) rfl rfl ?_
    refine X0.alen hexec hB0 rfl rfl (hb hbytes d3) ?_
    exact Steps.refl _)
  by_cases hs : A.slots.size = B.slots.size
  · have c3 : Steps p.tables e below (s₁.setTop (entryFrame m #[.ref a, .ref b] 3)) (s₁.setTop (mkF m 9 #[.val (.ref a), .val (.ref b), .val (.int 0)] [])) := c2.trans (by
      refine XS.icmpNo X0.here hexec rfl (hb hbytes d4) rfl (ii_ne_f (by rw [hs])) ?_
      refine iconstV X0.here hexec rfl 0 (hb hbytes d7) (by decide) ?_
      refine XS.istoreN X0.here hexec rfl (hb hbytes d8) rfl rfl ?_
      exact Steps.refl _)
    have loop : ∀ (r i : Nat), i + r = A.slots.size → (∀ j, j < i → yv A j = yv B j) → Steps p.tables e below (s₁.setTop (entryFrame m #[.ref a, .ref b] 3)) (s₁.setTop (mkF m 9 #[.val (.ref a), .val (.ref b), .val (.int (Int32.ofNat i))] [])) → ∃ (pc : Nat) (Ls : Array Slot) (v : Int32), (pc = 25 ∨ pc = 33) ∧ ((v = 1 ∧ EqC A B) ∨ (v = 0 ∧ ¬ EqC A B)) ∧ Steps p.tables e below (s₁.setTop (entryFrame m #[.ref a, .ref b] 3)) (s₁.setTop (mkF m pc Ls [.int v])) := by
      intro r
      induction r with
      | zero =>
        intro i hi he cl
        exact ⟨33, _, 1, Or.inr rfl, Or.inl ⟨rfl, hs, fun j hj => he j (by omega)⟩, cl.trans (by
          refine XS.iloadN X0.here hexec rfl (hb hbytes d9) rfl ?_
          refine XS.aloadN X0.here hexec rfl (hb hbytes d10) rfl rfl ?_
          refine X0.alen hexec hA0 rfl rfl (hb hbytes d11) ?_
          refine XS.icmpYes X0.here hexec rfl (pc0 := 12) rfl (hb hbytes d12) rfl (ii_ge_t (nlt32 (by omega) (by omega))) (by decide) rfl ?_
          refine iconstV X0.here hexec rfl 1 (hb hbytes d32) (by decide) ?_
          exact Steps.refl _)⟩
      | succ r ih =>
        intro i hi he cl
        have c4 : Steps p.tables e below (s₁.setTop (entryFrame m #[.ref a, .ref b] 3)) (s₁.setTop (mkF m 21 #[.val (.ref a), .val (.ref b), .val (.int (Int32.ofNat i))] [.int (yv B i), .int (yv A i)])) := cl.trans (by
          refine XS.iloadN X0.here hexec rfl (hb hbytes d9) rfl ?_
          refine XS.aloadN X0.here hexec rfl (hb hbytes d10) rfl rfl ?_
          refine X0.alen hexec hA0 rfl rfl (hb hbytes d11) ?_
          refine XS.icmpNo X0.here hexec rfl (hb hbytes d12) rfl (ii_ge_f (lt32 (by omega) (by omega))) ?_
          refine XS.aloadN X0.here hexec rfl (hb hbytes d15) rfl rfl ?_
          refine XS.iloadN X0.here hexec rfl (hb hbytes d16) rfl ?_
          refine X0.aget hexec hA0 rfl (yv_get hA tA (i := i) (by omega)) rfl rfl (hb hbytes d17) ?_
          refine XS.aloadN X0.here hexec rfl (hb hbytes d18) rfl rfl ?_
          refine XS.iloadN X0.here hexec rfl (hb hbytes d19) rfl ?_
          refine X0.aget hexec hB0 rfl (yv_get hB tB (i := i) (by omega)) rfl rfl (hb hbytes d20) ?_
          exact Steps.refl _)
        by_cases hv : yv A i = yv B i
        · have c5 : Steps p.tables e below (s₁.setTop (entryFrame m #[.ref a, .ref b] 3)) (s₁.setTop (mkF m 9 #[.val (.ref a), .val (.ref b), .val (.int (Int32.ofNat i + 1))] [])) := c4.trans (by
            refine XS.icmpYes X0.here hexec rfl (pc0 := 21) rfl (hb hbytes d21) rfl (ii_eq_t hv) (by decide) rfl ?_
            refine iincV X0.here hexec rfl 1 (hb hbytes d26) (by decide) rfl rfl ?_
            refine XS.goto X0.here hexec rfl (pc0 := 29) rfl (hb hbytes d29) (by decide) rfl ?_
            exact Steps.refl _)
          rw [succ32] at c5
          exact ih (i + 1) (by omega) (fun j hj => by
            by_cases e : j = i
            · rw [e]; exact hv
            · exact he j (by omega)) c5
        · exact ⟨25, _, 0, Or.inl rfl, Or.inr ⟨rfl, fun q => hv (q.2 i (by omega))⟩, c4.trans (by
            refine XS.icmpNo X0.here hexec rfl (hb hbytes d21) rfl (ii_eq_f hv) ?_
            refine iconstV X0.here hexec rfl 0 (hb hbytes d24) (by decide) ?_
            exact Steps.refl _)⟩
    obtain ⟨pc, Ls, v, hpc, hv, cz⟩ := loop A.slots.size 0 (by omega) (fun j hj => absurd hj (Nat.not_lt_zero j)) c3
    have nv : narrow .boolean (.int v) = .int v := by rcases hv with ⟨rfl, -⟩ | ⟨rfl, -⟩ <;> rfl
    rcases hpc with rfl | rfl
    · exact ⟨s₁, some (.int v), _, _, _, X0, rfl, rfl, rfl, (fun h => by cases h), ⟨v, rfl, hh0, hv⟩, fun fs hl => cz.trans (X0.ireturnOut hexec hret nv (Or.inr (Or.inl rfl)) (hb hbytes d25) hl)⟩
    · exact ⟨s₁, some (.int v), _, _, _, X0, rfl, rfl, rfl, (fun h => by cases h), ⟨v, rfl, hh0, hv⟩, fun fs hl => cz.trans (X0.ireturnOut hexec hret nv (Or.inr (Or.inl rfl)) (hb hbytes d33) hl)⟩
  · have c3 : Steps p.tables e below (s₁.setTop (entryFrame m #[.ref a, .ref b] 3)) (s₁.setTop (mkF m 35 #[.val (.ref a), .val (.ref b), .unset] [.int 0])) := c2.trans (by
      refine XS.icmpYes X0.here hexec rfl (pc0 := 4) rfl (hb hbytes d4) rfl (ii_ne_t (ne32 a31 b31 hs)) (by decide) rfl ?_
      refine iconstV X0.here hexec rfl 0 (hb hbytes d34) (by decide) ?_
      exact Steps.refl _)
    exact ⟨s₁, some (.int 0), _, _, _, X0, rfl, rfl, rfl, (fun h => by cases h), ⟨0, rfl, hh0, Or.inr ⟨rfl, fun q => hs q.1⟩⟩, fun fs hl => c3.trans (X0.ireturnOut hexec hret rfl (Or.inr (Or.inl rfl)) (hb hbytes d35) hl)⟩
end LEq
theorem Cod.ty {cd : Int32} {n : Nat} {f : Nat → Int32} {V : Cell} (h : Cod cd n f V) : Typed .byte V := fun i v hv => by
  have hi : i < V.slots.size := (Array.getElem?_eq_some_iff.mp hv).1
  rcases h with ⟨-, k1, k2⟩ | ⟨-, k1, k2, -⟩
  · rw [(k2 i (by omega)).1] at hv; cases hv; exact fits_lo8 _
  · rcases Nat.mod_two_eq_zero_or_one i with e | e
    · obtain ⟨j, rfl⟩ : ∃ j, i = 2 * j := ⟨i / 2, by omega⟩
      rw [(k2 j (by omega)).1] at hv; cases hv; exact fits_lo8 _
    · obtain ⟨j, rfl⟩ : ∃ j, i = 2 * j + 1 := ⟨i / 2, by omega⟩
      rw [(k2 j (by omega)).2] at hv; cases hv; exact fits_lo8 _
/-- the same text -/
def SameT (n : Nat) (f : Nat → Int32) (k : Nat) (g : Nat → Int32) : Prop := n = k ∧ ∀ j, j < n → f j = g j
theorem lo8_inj {x y : Int32} (h0 : ¬ x < 0) (h1 : ¬ 255 < x) (k0 : ¬ y < 0) (k1 : ¬ 255 < y) (h : lo8 x = lo8 y) : x = y := by
  rw [← lo8_mask h0 h1, ← lo8_mask k0 k1, h]
/-- arrays coded by one coder are equal just where the texts are -/
theorem Cod.eqv {cd : Int32} {n k : Nat} {f g : Nat → Int32} {V V' : Cell} (h : Cod cd n f V) (h' : Cod cd k g V') (hf : ∀ j, j < n → ¬ f j < 0 ∧ ¬ 65535 < f j) (hg : ∀ j, j < k → ¬ g j < 0 ∧ ¬ 65535 < g j) : EqC V V' ↔ SameT n f k g := by
  have yvv : ∀ {W : Cell} {i : Nat} {x : Int32}, W.slots[i]? = some (.int x) → yv W i = x := fun q => by unfold yv; rw [q]
  rcases h with ⟨rfl, k1, k2⟩ | ⟨rfl, k1, k2, -⟩
  · rcases h' with ⟨-, m1, m2⟩ | ⟨e, -⟩
    · constructor
      · rintro ⟨e1, e2⟩
        refine ⟨by omega, fun j hj => ?_⟩
        have q := e2 j (by omega)
        rw [yvv (k2 j hj).1, yvv (m2 j (by omega)).1] at q
        exact lo8_inj (hf j hj).1 (k2 j hj).2 (hg j (by omega)).1 (m2 j (by omega)).2 q
      · rintro ⟨rfl, e2⟩
        refine ⟨by omega, fun j hj => ?_⟩
        rw [yvv (k2 j (by omega)).1, yvv (m2 j (by omega)).1, e2 j (by omega)]
    · exact absurd e (by decide)
  · rcases h' with ⟨e, -⟩ | ⟨-, m1, m2, -⟩
    · exact absurd e (by decide)
    · constructor
      · rintro ⟨e1, e2⟩
        refine ⟨by omega, fun j hj => ?_⟩
        have q1 := e2 (2 * j) (by omega)
        have q2 := e2 (2 * j + 1) (by omega)
        rw [yvv (k2 j hj).1, yvv (m2 j (by omega)).1] at q1
        rw [yvv (k2 j hj).2, yvv (m2 j (by omega)).2] at q2
        rw [← pair_says (hf j hj).1 (hf j hj).2, ← pair_says (hg j (by omega)).1 (hg j (by omega)).2, q1, q2]
      · rintro ⟨rfl, e2⟩
        refine ⟨by omega, fun i hi => ?_⟩
        rcases Nat.mod_two_eq_zero_or_one i with e | e
        · obtain ⟨j, rfl⟩ : ∃ j, i = 2 * j := ⟨i / 2, by omega⟩
          rw [yvv (k2 j (by omega)).1, yvv (m2 j (by omega)).1, e2 j (by omega)]
        · obtain ⟨j, rfl⟩ : ∃ j, i = 2 * j + 1 := ⟨i / 2, by omega⟩
          rw [yvv (k2 j (by omega)).2, yvv (m2 j (by omega)).2, e2 j (by omega)]
/-- two codings differ: so do the texts -/
theorem Cod.dif {cd cd' : Int32} {n k : Nat} {f g : Nat → Int32} {V V' : Cell} (h : Cod cd n f V) (h' : Cod cd' k g V') (hne : ¬ cd = cd') : ¬ SameT n f k g := by
  rintro ⟨rfl, e⟩
  rcases h with ⟨rfl, -, k2⟩ | ⟨rfl, -, -, j, hj, hw⟩
  · rcases h' with ⟨rfl, -⟩ | ⟨-, -, -, j, hj, hw⟩
    · exact hne rfl
    · exact (k2 j hj).2 (by rw [e j hj]; exact hw)
  · rcases h' with ⟨-, -, m2⟩ | ⟨rfl, -⟩
    · exact (m2 j hj).2 (by rw [← e j hj]; exact hw)
    · exact hne rfl
/-- an object of exactly C is an instance of C -/
theorem cinst {p : Program} {l : Launch} {e : Env} {R : Room} {s : State} {m : MethodId} {args : Array Value} {below : List Frame} {meth : Method} {c : Code} {T : State} {locs : List Loc} {cells slots : Nat} (X : Stand p l e R s m args below meth c T locs cells slots) (hexec : p.tables.exec = Jvm.exec) {own C : String} {index : Nat} (hown : s.vm.findClass own = some m.cls) (hlink : (Cond.classLink own index C).before args s = true) {a : Addr} (hE : Exact C a T)
    {g : JFrame} (hg : g.method = m) {rest : List Value} (hstack : g.stack = .ref a :: rest) (hdg : decode c.code g.pc = .ok (.instanceof index, 3)) :
    ∃ T', Stand p l e R s m args below meth c T' locs cells slots ∧ T'.heap = T.heap ∧ ∀ target, Steps p.tables e below (T'.setTop { g with pc := g.pc + 3, stack := .int 1 :: rest }) target → Steps p.tables e below (T.setTop g) target := by
  obtain ⟨cB, h1, D, h2, h3, h4⟩ := hE
  have h1' : s.vm.findClass C = some cB := by rw [← X.warmed.alike.findClass]; exact h1
  obtain ⟨vm', X', st⟩ := X.instanceofYes hexec hown hlink h2 h4 h1' (by rw [h3]; exact Jvm.Free.SB.assignable_self _ _) hg hstack hdg
  exact ⟨_, X', rfl, st⟩
theorem cself {p : Program} {l : Launch} {e : Env} {R : Room} {s : State} {m : MethodId} {args : Array Value} {below : List Frame} {meth : Method} {c : Code} {T : State} {locs : List Loc} {cells slots : Nat} (X : Stand p l e R s m args below meth c T locs cells slots) (hexec : p.tables.exec = Jvm.exec) {own C : String} {index : Nat} (hown : s.vm.findClass own = some m.cls) (hlink : (Cond.classLink own index C).before args s = true) {a : Addr} (hE : Exact C a T)
    {g : JFrame} (hg : g.method = m) {rest : List Value} (hstack : g.stack = .ref a :: rest) (hdg : decode c.code g.pc = .ok (.checkcast index, 3)) :
    ∃ T', Stand p l e R s m args below meth c T' locs cells slots ∧ T'.heap = T.heap ∧ ∀ target, Steps p.tables e below (T'.setTop { g with pc := g.pc + 3, stack := .ref a :: rest }) target → Steps p.tables e below (T.setTop g) target := by
  obtain ⟨cB, h1, D, h2, h3, h4⟩ := hE
  have h1' : s.vm.findClass C = some cB := by rw [← X.warmed.alike.findClass]; exact h1
  obtain ⟨vm', X', st⟩ := X.checkcastYes hexec hown hlink h2 h4 h1' (by rw [h3]; exact Jvm.Free.SB.assignable_self _ _) hg hstack hdg
  exact ⟨_, X', rfl, fun t h => st t (by rw [← hstack] at h; exact h)⟩
namespace SEq
def yN : MethodName := ⟨"java/lang/String", "equals", "(Ljava/lang/Object;)Z"⟩
abbrev yB : ByteArray := jdk_42_method_66_code
theorem d0 : decode yB 0 = .ok (.aload_n 0, 1) := by decide +kernel
theorem d1 : decode yB 1 = .ok (.aload_n 1, 1) := by decide +kernel
theorem d2 : decode yB 2 = .ok (.if_acmp (.ne) 5, 3) := by decide +kernel
theorem d5 : decode yB 5 = .ok (.iconst 1, 1) := by decide +kernel
theorem d6 : decode yB 6 = .ok (.ireturn, 1) := by decide +kernel
theorem d7 : decode yB 7 = .ok (.aload_n 1, 1) := by decide +kernel
theorem d8 : decode yB 8 = .ok (.instanceof 10, 3) := by decide +kernel
theorem d11 : decode yB 11 = .ok (.ifCond (.eq) 43, 3) := by decide +kernel
theorem d14 : decode yB 14 = .ok (.aload_n 1, 1) := by decide +kernel
theorem d15 : decode yB 15 = .ok (.checkcast 10, 3) := by decide +kernel
theorem d18 : decode yB 18 = .ok (.astore_n 2, 1) := by decide +kernel
theorem d19 : decode yB 19 = .ok (.getstatic 38, 3) := by decide +kernel
theorem d22 : decode yB 22 = .ok (.ifCond (.eq) 14, 3) := by decide +kernel
theorem d25 : decode yB 25 = .ok (.aload_n 0, 1) := by decide +kernel
theorem d26 : decode yB 26 = .ok (.getfield 15, 3) := by decide +kernel
theorem d29 : decode yB 29 = .ok (.aload_n 2, 1) := by decide +kernel
theorem d30 : decode yB 30 = .ok (.getfield 15, 3) := by decide +kernel
theorem d33 : decode yB 33 = .ok (.if_icmp (.ne) 21, 3) := by decide +kernel
theorem d36 : decode yB 36 = .ok (.aload_n 0, 1) := by decide +kernel
theorem d37 : decode yB 37 = .ok (.getfield 9, 3) := by decide +kernel
theorem d40 : decode yB 40 = .ok (.aload_n 2, 1) := by decide +kernel
theorem d41 : decode yB 41 = .ok (.getfield 9, 3) := by decide +kernel
theorem d44 : decode yB 44 = .ok (.invokestatic 541, 3) := by decide +kernel
theorem d47 : decode yB 47 = .ok (.ifCond (.eq) 7, 3) := by decide +kernel
theorem d50 : decode yB 50 = .ok (.iconst 1, 1) := by decide +kernel
theorem d51 : decode yB 51 = .ok (.goto 4, 3) := by decide +kernel
theorem d54 : decode yB 54 = .ok (.iconst 0, 1) := by decide +kernel
theorem d55 : decode yB 55 = .ok (.ireturn, 1) := by decide +kernel
def site : List Cond := [.classLink "java/lang/String" 10 "java/lang/String", .fieldLink "java/lang/String" 38 "java/lang/String" "COMPACT_STRINGS" "Z", .fieldLink "java/lang/String" 15 "java/lang/String" "coder" "B", .fieldLink "java/lang/String" 9 "java/lang/String" "value" "[B", LEq.tab] ++ staticW "java/lang/String" 541 LEq.yN
def tab : Cond := tabOf yN yB 3 (some .boolean) site
def P (x t : Addr) (V : Cell) (cd : Int32) (n : Nat) (f : Nat → Int32) (y t' : Addr) (V' : Cell) (cd' : Int32) (k : Nat) (g : Nat → Int32) (z : Int32) (args : Array Value) (s : State) : Prop := args = #[.ref x, .ref y] ∧ Txt x t V cd n f s ∧ Txt y t' V' cd' k g s ∧ StaticIs s "java/lang/String" "COMPACT_STRINGS" "Z" (.int z) ∧ ¬ z = 0
/-- equals(Object) of two Strings: whether the texts are the same -/
theorem law (l : Launch) (x t : Addr) (V : Cell) (cd : Int32) (n : Nat) (f : Nat → Int32) (y t' : Addr) (V' : Cell) (cd' : Int32) (k : Nat) (g : Nat → Int32) (z : Int32) : Law l yN 2 1 1 14 yB 3 (some .boolean) site (P x t V cd n f y t' V' cd' k g z) (Says01 (SameT n f k g)) [] 0 0 := by
  refine Law.of_walk (plainFor_of_name (by decide +kernel)) (by decide +kernel) (by decide +kernel) (by decide) (fun _ _ h => by rw [h.1]; rfl) (fun _ U U' hal hh h => ⟨h.1, h.2.1.mv hal hh, h.2.2.1.mv hal hh, h.2.2.2.1.there hal hh, h.2.2.2.2⟩) (fun r U U' V V' h1 hal h2 h => Says01.mv r U U' V V' h1 hal h2 h) ?_
  intro p e s m args below meth c s₁ X0 hexec hbytes hml hret hlk hnm hown hh0 W hP
  obtain ⟨rfl, hx, hy, s1, hz⟩ := hP
  have c1 : Steps p.tables e below (s₁.setTop (entryFrame m #[.ref x, .ref y] 3)) (s₁.setTop (mkF m 2 #[.val (.ref x), .val (.ref y), .unset] [.ref y, .ref x])) := Steps.trans (entry rfl) (by
    show Steps p.tables e below (s₁.setTop (mkF m 0 #[.val (.ref x), .val (.ref y), .unset] [])) _
    refine XS.aloadN X0.here hexec rfl (hb hbytes d0) rfl rfl ?_
    refine XS.aloadN X0.here hexec rfl (hb hbytes d1) rfl rfl ?_
    exact Steps.refl _)
  by_cases hxy : x = y
  · have c2 : Steps p.tables e below (s₁.setTop (entryFrame m #[.ref x, .ref y] 3)) (s₁.setTop (mkF m 6 #[.val (.ref x), .val (.ref y), .unset] [.int 1])) := c1.trans (by
      refine acmpNo X0.here hexec rfl (hb hbytes d2) rfl rfl rfl (by simp [acmp, hxy]) ?_
      refine iconstV X0.here hexec rfl 1 (hb hbytes d5) (by decide) ?_
      exact Steps.refl _)
    subst hxy
    have ec : cd = cd' := by
      obtain ⟨D, fd, a1, a2, a3⟩ := hx.2.2.1
      obtain ⟨D', fd', b1, b2, b3⟩ := hy.2.2.1
      cases a1.symm.trans b1
      obtain ⟨q1, q2, q3, q4⟩ := a2.1
      obtain ⟨r1, r2, r3, r4⟩ := b2.1
      cases q4.symm.trans r4
      cases a3.symm.trans b3; rfl
    have et : t = t' := by
      obtain ⟨D, fd, a1, a2, a3⟩ := hx.2.1
      obtain ⟨D', fd', b1, b2, b3⟩ := hy.2.1
      cases a1.symm.trans b1
      obtain ⟨q1, q2, q3, q4⟩ := a2.1
      obtain ⟨r1, r2, r3, r4⟩ := b2.1
      cases q4.symm.trans r4
      cases a3.symm.trans b3; rfl
    subst ec et
    have ev : V = V' := by cases hx.2.2.2.1.1.symm.trans hy.2.2.2.1.1; rfl
    subst ev
    have hs : SameT n f k g := (Cod.eqv hx.2.2.2.2.1 hy.2.2.2.2.1 hx.2.2.2.2.2 hy.2.2.2.2.2).mp ⟨rfl, fun _ _ => rfl⟩
    exact ⟨s₁, some (.int 1), _, _, _, X0, rfl, rfl, rfl, (fun h => by cases h), ⟨1, rfl, hh0, Or.inl ⟨rfl, hs⟩⟩, fun fs hl => c2.trans (X0.ireturnOut hexec hret rfl (Or.inr (Or.inl rfl)) (hb hbytes d6) hl)⟩
  · have c2 : Steps p.tables e below (s₁.setTop (entryFrame m #[.ref x, .ref y] 3)) (s₁.setTop (mkF m 8 #[.val (.ref x), .val (.ref y), .unset] [.ref y])) := c1.trans (by
      refine acmpYes X0.here hexec rfl (pc0 := 2) rfl (hb hbytes d2) rfl rfl rfl (by simp [acmp, hxy]) (by decide) rfl ?_
      refine XS.aloadN X0.here hexec rfl (hb hbytes d7) rfl rfl ?_
      exact Steps.refl _)
    obtain ⟨T3, X3, q3, st3⟩ := cinst X0 hexec hown (wk W (.classLink "java/lang/String" 10 "java/lang/String")) (hy.mv X0.warmed.alike hh0).1 (g := (mkF m 8 #[.val (.ref x), .val (.ref y), .unset] [.ref y])) rfl (rest := []) rfl (hb hbytes d8)
    have hh3 := q3.trans hh0
    have c4 : Steps p.tables e below (s₁.setTop (entryFrame m #[.ref x, .ref y] 3)) (T3.setTop (mkF m 15 #[.val (.ref x), .val (.ref y), .unset] [.ref y])) := (c2.trans (st3 _ (Steps.refl _))).trans (by
      refine XS.ifNo X3.here hexec rfl (hb hbytes d11) rfl (i0_eq_f (by decide)) ?_
      refine XS.aloadN X3.here hexec rfl (hb hbytes d14) rfl rfl ?_
      exact Steps.refl _)
    obtain ⟨T5, X5, q5, st5⟩ := cself X3 hexec hown (wk W (.classLink "java/lang/String" 10 "java/lang/String")) (hy.mv X3.warmed.alike hh3).1 (g := (mkF m 15 #[.val (.ref x), .val (.ref y), .unset] [.ref y])) rfl (rest := []) rfl (hb hbytes d15)
    have hh5 := q5.trans hh3
    have c6 : Steps p.tables e below (s₁.setTop (entryFrame m #[.ref x, .ref y] 3)) (T5.setTop (mkF m 19 #[.val (.ref x), .val (.ref y), .val (.ref y)] [])) := (c4.trans (st5 _ (Steps.refl _))).trans (by
      refine XS.astoreN X5.here hexec rfl (hb hbytes d18) rfl rfl rfl ?_
      exact Steps.refl _)
    obtain ⟨T7, X7, q7, st7⟩ := X5.sget hexec hown (wk W (.fieldLink "java/lang/String" 38 "java/lang/String" "COMPACT_STRINGS" "Z")) s1 (fun _ _ h => by rw [hh5]; exact h) (g := (mkF m 19 #[.val (.ref x), .val (.ref y), .val (.ref y)] [])) rfl (hb hbytes d19)
    have hh7 := q7.trans hh5
    have c8 : Steps p.tables e below (s₁.setTop (entryFrame m #[.ref x, .ref y] 3)) (T7.setTop (mkF m 26 #[.val (.ref x), .val (.ref y), .val (.ref y)] [.ref x])) := (c6.trans (st7 _ (Steps.refl _))).trans (by
      refine XS.ifNo X7.here hexec rfl (hb hbytes d22) rfl (i0_eq_f hz) ?_
      refine XS.aloadN X7.here hexec rfl (hb hbytes d25) rfl rfl ?_
      exact Steps.refl _)
    obtain ⟨T9, X9, q9, st9⟩ := X7.hget hexec hown (wk W (.fieldLink "java/lang/String" 15 "java/lang/String" "coder" "B")) (hx.mv X7.warmed.alike hh7).2.2.1 (g := (mkF m 26 #[.val (.ref x), .val (.ref y), .val (.ref y)] [.ref x])) rfl (rest := []) rfl (hb hbytes d26)
    have hh9 := q9.trans hh7
    have c10 : Steps p.tables e below (s₁.setTop (entryFrame m #[.ref x, .ref y] 3)) (T9.setTop (mkF m 30 #[.val (.ref x), .val (.ref y), .val (.ref y)] [.ref y, .int cd])) := (c8.trans (st9 _ (Steps.refl _))).trans (by
      refine XS.aloadN X9.here hexec rfl (hb hbytes d29) rfl rfl ?_
      exact Steps.refl _)
    obtain ⟨T11, X11, q11, st11⟩ := X9.hget hexec hown (wk W (.fieldLink "java/lang/String" 15 "java/lang/String" "coder" "B")) (hy.mv X9.warmed.alike hh9).2.2.1 (g := (mkF m 30 #[.val (.ref x), .val (.ref y), .val (.ref y)] [.ref y, .int cd])) rfl (rest := [.int cd]) rfl (hb hbytes d30)
    have hh11 := q11.trans hh9
    have c12 : Steps p.tables e below (s₁.setTop (entryFrame m #[.ref x, .ref y] 3)) (T11.setTop (mkF m 33 #[.val (.ref x), .val (.ref y), .val (.ref y)] [.int cd', .int cd])) := c10.trans (st11 _ (Steps.refl _))
    by_cases hcd : cd = cd'
    · subst hcd
      have c13 : Steps p.tables e below (s₁.setTop (entryFrame m #[.ref x, .ref y] 3)) (T11.setTop (mkF m 37 #[.val (.ref x), .val (.ref y), .val (.ref y)] [.ref x])) := c12.trans (by
        refine XS.icmpNo X11.here hexec rfl (hb hbytes d33) rfl (ii_ne_f rfl) ?_
        refine XS.aloadN X11.here hexec rfl (hb hbytes d36) rfl rfl ?_
        exact Steps.refl _)
      obtain ⟨T14, X14, q14, st14⟩ := X11.hget hexec hown (wk W (.fieldLink "java/lang/String" 9 "java/lang/String" "value" "[B")) (hx.mv X11.warmed.alike hh11).2.1 (g := (mkF m 37 #[.val (.ref x), .val (.ref y), .val (.ref y)] [.ref x])) rfl (rest := []) rfl (hb hbytes d37)
      have hh14 := q14.trans hh11
      have c15 : Steps p.tables e below (s₁.setTop (entryFrame m #[.ref x, .ref y] 3)) (T14.setTop (mkF m 41 #[.val (.ref x), .val (.ref y), .val (.ref y)] [.ref y, .ref t])) := (c13.trans (st14 _ (Steps.refl _))).trans (by
        refine XS.aloadN X14.here hexec rfl (hb hbytes d40) rfl rfl ?_
        exact Steps.refl _)
      obtain ⟨T16, X16, q16, st16⟩ := X14.hget hexec hown (wk W (.fieldLink "java/lang/String" 9 "java/lang/String" "value" "[B")) (hy.mv X14.warmed.alike hh14).2.1 (g := (mkF m 41 #[.val (.ref x), .val (.ref y), .val (.ref y)] [.ref y, .ref t])) rfl (rest := [.ref t]) rfl (hb hbytes d41)
      have hh16 := q16.trans hh14
      have c17 : Steps p.tables e below (s₁.setTop (entryFrame m #[.ref x, .ref y] 3)) (T16.setTop (mkF m 44 #[.val (.ref x), .val (.ref y), .val (.ref y)] [.ref t', .ref t])) := c15.trans (st16 _ (Steps.refl _))
      obtain ⟨v18, T18, X18, E18, g18⟩ := X16.callS hexec (LEq.law l t V t' V') hown (wks W (staticW "java/lang/String" 541 LEq.yN)) (wk W LEq.tab) (W := 0) (Nat.le_of_ble_eq_true rfl) (Nat.le_of_ble_eq_true rfl) (Nat.le_refl _) (Nat.le_refl _) (g := (mkF m 44 #[.val (.ref x), .val (.ref y), .val (.ref y)] [.ref t', .ref t])) rfl (by rw [hml]; rfl) c17 (argsL := [.ref t, .ref t']) (rest := []) rfl rfl (by show 2 * 0 + 0 ≤ _; decide) (hb hbytes d44) (⟨rfl, hx.2.2.2.1.mv X16.warmed.alike hh16, hx.2.2.2.2.1.ty, hy.2.2.2.1.mv X16.warmed.alike hh16, hy.2.2.2.2.1.ty⟩)
      obtain ⟨v, rfl, q18, hv⟩ := E18
      have iff := Cod.eqv hx.2.2.2.2.1 hy.2.2.2.2.1 hx.2.2.2.2.2 hy.2.2.2.2.2
      rcases hv with ⟨rfl, he⟩ | ⟨rfl, he⟩
      · have c19 : Steps p.tables e below (s₁.setTop (entryFrame m #[.ref x, .ref y] 3)) (T18.setTop (mkF m 55 #[.val (.ref x), .val (.ref y), .val (.ref y)] [.int 1])) := Steps.trans g18 (by
          refine XS.ifNo X18.here hexec rfl (hb hbytes d47) rfl (i0_eq_f (by decide)) ?_
          refine iconstV X18.here hexec rfl 1 (hb hbytes d50) (by decide) ?_
          refine XS.goto X18.here hexec rfl (pc0 := 51) rfl (hb hbytes d51) (by decide) rfl ?_
          exact Steps.refl _)
        exact ⟨T18, some (.int 1), _, _, _, X18, rfl, rfl, rfl, (fun h => by cases h), ⟨1, rfl, q18.trans hh16, Or.inl ⟨rfl, iff.mp he⟩⟩, fun fs hl => c19.trans (X18.ireturnOut hexec hret rfl (Or.inr (Or.inl rfl)) (hb hbytes d55) hl)⟩
      · have c19 : Steps p.tables e below (s₁.setTop (entryFrame m #[.ref x, .ref y] 3)) (T18.setTop (mkF m 55 #[.val (.ref x), .val (.ref y), .val (.ref y)] [.int 0])) := Steps.trans g18 (by
          refine XS.ifYes X18.here hexec rfl (pc0 := 47) rfl (hb hbytes d47) rfl (i0_eq_t rfl) (by decide) rfl ?_
          refine iconstV X18.here hexec rfl 0 (hb hbytes d54) (by decide) ?_
          exact Steps.refl _)
        exact ⟨T18, some (.int 0), _, _, _, X18, rfl, rfl, rfl, (fun h => by cases h), ⟨0, rfl, q18.trans hh16, Or.inr ⟨rfl, fun q => he (iff.mpr q)⟩⟩, fun fs hl => c19.trans (X18.ireturnOut hexec hret rfl (Or.inr (Or.inl rfl)) (hb hbytes d55) hl)⟩
    · have c13 : Steps p.tables e below (s₁.setTop (entryFrame m #[.ref x, .ref y] 3)) (T11.setTop (mkF m 55 #[.val (.ref x), .val (.ref y), .val (.ref y)] [.int 0])) := c12.trans (by
        refine XS.icmpYes X11.here hexec rfl (pc0 := 33) rfl (hb hbytes d33) rfl (ii_ne_t hcd) (by decide) rfl ?_
        refine iconstV X11.here hexec rfl 0 (hb hbytes d54) (by decide) ?_
        exact Steps.refl _)
      exact ⟨T11, some (.int 0), _, _, _, X11, rfl, rfl, rfl, (fun h => by cases h), ⟨0, rfl, hh11, Or.inr ⟨rfl, Cod.dif hx.2.2.2.2.1 hy.2.2.2.2.1 hcd⟩⟩, fun fs hl => c13.trans (X11.ireturnOut hexec hret rfl (Or.inr (Or.inl rfl)) (hb hbytes d55) hl)⟩
theorem pays {l : Launch} {R : Room} {p : Program} {e : Env} {below : List Frame} {s : State} {sargs : Array Value} {len W : Nat} (x t : Addr) (V : Cell) (cd : Int32) (n : Nat) (f : Nat → Int32) (y t' : Addr) (V' : Cell) (cd' : Int32) (k : Nat) (g : Nat → Int32) (z : Int32) (htab : tab.before sargs s = true) (hfr : 2 ≤ R.frames) (hlo : W + 28 ≤ R.locals) :
    Back l R p e below s sargs yN len W (fun A₁ a₁ => A₁.cells + 0 ≤ R.cells ∧ A₁.slots + 0 ≤ R.slots ∧ P x t V cd n f y t' V' cd' k g z a₁ A₁.U) (fun A₁ _ v₁ B₁ => Says01 (SameT n f k g) v₁ A₁.U B₁.U ∧ B₁.locs = A₁.locs ++ [] ∧ B₁.cells = A₁.cells + 0 ∧ B₁.slots = A₁.slots + 0) :=
  (law l x t V cd n f y t' V' cd' k g z).pays htab hfr (by omega)
end SEq
end StrChars
namespace StrChars.Road
open Jvm Sem ClassFile Op Lib Jvm.Stand Jvm.Free Jvm.Free.XT
open Jvm.Lib.Cold (StaticIs)
/-- the words of String.equals(Object) -/
abbrev wordsEq : List Jvm.Cond := [.code SEq.yN SEq.yB 3 (some .boolean), .initialized ST, .classLink ST 10 ST, .fieldLink ST 38 ST "COMPACT_STRINGS" "Z", .fieldLink ST 15 ST "coder" "B", .fieldLink ST 9 ST "value" "[B", .methodLink ST 541 LEq.yN, .static LEq.yN, .code LEq.yN LEq.yB 3 (some .boolean), .initialized "java/lang/StringLatin1"]
theorem tabEq_of {a : Array Value} {s : State} (h : ∀ w ∈ wordsEq, w.before a s = true) : SEq.tab.before a s = true := by
  have hl : LEq.tab.before a s = true := unparts (wk h (.code LEq.yN LEq.yB 3 (some .boolean))) (wks h (.initialized LEq.yN.cls :: LEq.site))
  have q := consq hl h
  exact unparts (wk q (.code SEq.yN SEq.yB 3 (some .boolean))) (wks q (.initialized SEq.yN.cls :: SEq.site))
theorem movedEq {Z s : State} {a0 args : Array Value} (hZ : Z.Warmed39 s.vm) (hw : ∀ d ∈ wordsEq, d.before a0 Z = true) : ∀ d ∈ wordsEq, d.before args s = true := fun d hd => by
  have t : ∀ d ∈ wordsEq, (d.onTables && d.keepsFace) = true := by decide +kernel
  exact RoadKit.mv hZ (hw d hd) (t d hd)
/-- the road's facts of a String, as the laws ask it -/
theorem txt_of {Z U : State} {a0 : Array Value} {kI : Nat} (wi : (Jvm.Cond.instantiable ST kI).before a0 Z = true) (al : Z.vm.Alike U.vm) {x t : Addr} {kb : ClassId} {cs : List Int32} {cd N2 : Int32} {vs : List Value} (E : RoadKit.Exa Z U.heap x ST) (V : RoadKit.Fld Z U.heap x ST "value" "[B" (.ref t)) (C : RoadKit.Fld Z U.heap x ST "coder" "B" (.int cd)) (K : RoadKit.Arv Z U.heap t kb .byte N2 vs (.int 0)) (hc : CodA cs cd N2 vs) (hb : ∀ c ∈ cs, ¬ c < 0 ∧ ¬ (65535 : Int32) < c) (l2 : cs.length ≤ 4000) :
    ∃ A, Txt x t A cd cs.length (fun j => cs.getD j 0) U := by
  obtain ⟨A, K1, K2, K3, K4, K5, K6⟩ := K
  have hcod := hc.cod (by omega) K3 K5
  obtain ⟨D, fV, fC, hB, F1, F2, g1, g2, -, -⟩ := strObj wi al E V C
  exact ⟨A, ⟨_, hB.2.2.1, D, hB.1, rfl, by cases q : D.vm <;> first | rfl | exact absurd q (hB.2.1.2 _)⟩, Has.of hB F1 g1, Has.of hB F2 g2, ⟨K1.1, State.isArrayOf_alike al K1.2.1, K1.2.2, by rcases hcod with ⟨-, q, -⟩ | ⟨-, q, -⟩ <;> omega⟩, hcod, fun j hj => by
    have e : cs.getD j 0 = cs[j] := by simp [List.getD_eq_getElem?_getD, hj]
    show ¬ cs.getD j 0 < 0 ∧ ¬ 65535 < cs.getD j 0
    rw [e]; exact hb _ (List.getElem_mem _)⟩
theorem same_list (cs ds : List Int32) : SameT cs.length (fun j => cs.getD j 0) ds.length (fun j => ds.getD j 0) ↔ cs = ds := by
  constructor
  · rintro ⟨e, q⟩
    refine List.ext_getElem e fun j h1 h2 => ?_
    have := q j h1
    simpa [List.getD_eq_getElem?_getD, h1, h2] using this
  · rintro rfl
    exact ⟨rfl, fun _ _ => rfl⟩
/-- **equals(Object) OF TWO SUCH STRINGS**: 1 just where the chars are the same -/
theorem eqW {p : Program} {l : Launch} {e : Env} {R : Room} {s : State} {args : Array Value} {below : List Frame} {len W : Nat} {Z : State} {a0 : Array Value} {h : Heap} (hZ : Z.Warmed39 s.vm) (hw : ∀ d ∈ wordsEq, d.before a0 Z = true) {kI : Nat} (wi : (Jvm.Cond.instantiable ST kI).before a0 Z = true)
    {x t : Addr} {kb : ClassId} {cs : List Int32} {cd N2 : Int32} {vs : List Value} (E : RoadKit.Exa Z h x ST) (V : RoadKit.Fld Z h x ST "value" "[B" (.ref t)) (C : RoadKit.Fld Z h x ST "coder" "B" (.int cd)) (K : RoadKit.Arv Z h t kb .byte N2 vs (.int 0)) (hc : CodA cs cd N2 vs) (hb : ∀ c ∈ cs, ¬ c < 0 ∧ ¬ (65535 : Int32) < c) (l2 : cs.length ≤ 4000)
    {y t' : Addr} {kb' : ClassId} {ds : List Int32} {cd' N2' : Int32} {vs' : List Value} (E' : RoadKit.Exa Z h y ST) (V' : RoadKit.Fld Z h y ST "value" "[B" (.ref t')) (C' : RoadKit.Fld Z h y ST "coder" "B" (.int cd')) (K' : RoadKit.Arv Z h t' kb' .byte N2' vs' (.int 0)) (hc' : CodA ds cd' N2' vs') (hb' : ∀ c ∈ ds, ¬ c < 0 ∧ ¬ (65535 : Int32) < c) (l2' : ds.length ≤ 4000)
    {z : Int32} (S : RoadKit.Sta Z h ST "COMPACT_STRINGS" "Z" (.int z)) (hz : ¬ z = 0) (hfr : 2 ≤ R.frames) (hlo : W + 28 ≤ R.locals) :
    Back l R p e below s args (⟨"java/lang/String", "equals", "(Ljava/lang/Object;)Z"⟩ : MethodName) len W (fun P a => a = #[.ref x, .ref y] ∧ P.U.heap = h ∧ P.cells + 0 ≤ R.cells ∧ P.slots + 0 ≤ R.slots)
      (fun P _ v B => ∃ L, (((v = some (.int 1) ∧ cs = ds) ∨ (v = some (.int 0) ∧ ¬ cs = ds)) ∧ L = [] ∧ B.U.heap = h) ∧ B.locs = P.locs ++ L ∧ B.cells = P.cells + 0 ∧ B.slots = P.slots + 0) := by
  intro m meth c P g ig mk a X hg hsize hdg hW hn hp'
  obtain ⟨rfl, rfl, r1, r2⟩ := hp'
  have al : Z.vm.Alike P.U.vm := hZ.alike.trans X.warmed.alike
  obtain ⟨A, hx⟩ := txt_of wi al E V C K hc hb l2
  obtain ⟨A', hy⟩ := txt_of wi al E' V' C' K' hc' hb' l2'
  obtain ⟨v, B, X', ⟨⟨w, hv, hh, hq⟩, hl, hk, hs⟩, st⟩ := SEq.pays x t A cd cs.length (fun j => cs.getD j 0) y t' A' cd' ds.length (fun j => ds.getD j 0) z (tabEq_of (movedEq hZ hw)) hfr hlo m meth c P g ig mk _ X hg hsize hdg hW hn ⟨r1, r2, rfl, hx, hy, sta_is al S, hz⟩
  refine ⟨v, B, X', ⟨[], ⟨?_, rfl, hh⟩, hl, hk, hs⟩, st⟩
  rcases hq with ⟨rfl, q⟩ | ⟨rfl, q⟩
  · exact Or.inl ⟨hv, (same_list cs ds).mp q⟩
  · exact Or.inr ⟨hv, fun e => q ((same_list cs ds).mpr e)⟩
end StrChars.Road
namespace StrChars
open Jvm Sem ClassFile Op Lib Jvm.Stand Jvm.Free.XT Jvm.Free.ALB Jvm.Free.JM Jvm.Free
open Jvm.Lib.Cold (StaticIs)
namespace ChN
def yN : MethodName := ⟨"java/lang/String", "charAt", "(I)C"⟩
abbrev yB : ByteArray := jdk_42_method_56_code
theorem d0 : decode yB 0 = .ok (.aload_n 0, 1) := by decide +kernel
theorem d1 : decode yB 1 = .ok (.invokevirtual 492, 3) := by decide +kernel
theorem d4 : decode yB 4 = .ok (.ifCond (.eq) 12, 3) := by decide +kernel
theorem d7 : decode yB 7 = .ok (.aload_n 0, 1) := by decide +kernel
theorem d8 : decode yB 8 = .ok (.getfield 9, 3) := by decide +kernel
theorem d11 : decode yB 11 = .ok (.iload_n 1, 1) := by decide +kernel
theorem d12 : decode yB 12 = .ok (.invokestatic 495, 3) := by decide +kernel
theorem d15 : decode yB 15 = .ok (.ireturn, 1) := by decide +kernel
def site : List Cond := [.fieldLink "java/lang/String" 9 "java/lang/String" "value" "[B", IsL.tab, LChA.tab] ++ virtW "java/lang/String" 492 "java/lang/String" IsL.yN IsL.yN ++ staticW "java/lang/String" 495 LChA.yN
def tab : Cond := tabOf yN yB 2 (some .char) site
def P (x t : Addr) (V : Cell) (n : Nat) (f : Nat → Int32) (z : Int32) (fm : Value) (i : Nat) (args : Array Value) (s : State) : Prop := args = #[.ref x, .int (Int32.ofNat i)] ∧ Txt x t V 0 n f s ∧ i < n ∧ StaticIs s "java/lang/String" "COMPACT_STRINGS" "Z" (.int z) ∧ ¬ z = 0 ∧ StaticIs s "jdk/internal/util/Preconditions" "SIOOBE_FORMATTER" "Ljava/util/function/BiFunction;" fm ∧ fm.isRef = true
def E (f : Nat → Int32) (i : Nat) (r : Option Value) (s u : State) : Prop := XT.PureE (some (.int (f i))) r s u
/-- charAt(i) of a Latin-1 String of n chars, i < n: f i -/
theorem law (l : Launch) (x t : Addr) (V : Cell) (n : Nat) (f : Nat → Int32) (z : Int32) (fm : Value) (i : Nat) : Law l yN 2 1 3 40 yB 2 (some .char) site (P x t V n f z fm i) (E f i) [] 0 0 := by
  refine Law.of_walk (plainFor_of_name (by decide +kernel)) (by decide +kernel) (by decide +kernel) (by decide) (fun _ _ h => by rw [h.1]; rfl) (fun _ U U' hal hh h => ⟨h.1, h.2.1.mv hal hh, h.2.2.1, h.2.2.2.1.there hal hh, h.2.2.2.2.1, h.2.2.2.2.2.1.there hal hh, h.2.2.2.2.2.2⟩) (fun r U U' V V' h1 hal h2 h => XT.PureE.mv r U U' V V' h1 hal h2 h) ?_
  intro p e s m args below meth c s₁ X0 hexec hbytes hml hret hlk hnm hown hh0 W hP
  obtain ⟨rfl, hx, hi, s1, hz, s3, rf⟩ := hP
  have v31 := hx.2.2.2.1.2.2.2
  have hr := hx.2.2.2.2.2 i hi
  have hx0 := hx.mv X0.warmed.alike hh0
  have c1 : Steps p.tables e below (s₁.setTop (entryFrame m #[.ref x, .int (Int32.ofNat i)] 2)) (s₁.setTop (mkF m 1 #[.val (.ref x), .val (.int (Int32.ofNat i))] [.ref x])) := Steps.trans (entry rfl) (by
    show Steps p.tables e below (s₁.setTop (mkF m 0 #[.val (.ref x), .val (.int (Int32.ofNat i))] [])) _
    refine XS.aloadN X0.here hexec rfl (hb hbytes d0) rfl rfl ?_
    exact Steps.refl _)
  obtain ⟨v2, T2, X2, E2, g2⟩ := X0.callV hexec (IsL.law l x 0 z) hown (wks W (virtW "java/lang/String" 492 "java/lang/String" IsL.yN IsL.yN)) rfl (by decide) (wk W IsL.tab) (W := 0) (Nat.le_of_ble_eq_true rfl) (Nat.le_of_ble_eq_true rfl) (Nat.le_refl _) (Nat.le_refl _) (hx0.1.fc X0.warmed.alike) hx0.1.is (g := (mkF m 1 #[.val (.ref x), .val (.int (Int32.ofNat i))] [.ref x])) rfl (by rw [hml]; rfl) c1 (argsL := []) (rest := []) rfl rfl (by show 2 * 0 + 0 ≤ _; decide) (hb hbytes d1) (⟨rfl, hx0.2.2.1, hx.2.2.2.2.1.cd, s1.there X0.warmed.alike hh0, hz⟩)
  obtain ⟨rfl, q2⟩ := E2
  have hh2 := q2.trans hh0
  have hx2 := hx.mv X2.warmed.alike hh2
  obtain ⟨-, k1, k2⟩ | ⟨k0, -⟩ := hx.2.2.2.2.1
  · have c3 : Steps p.tables e below (s₁.setTop (entryFrame m #[.ref x, .int (Int32.ofNat i)] 2)) (T2.setTop (mkF m 8 #[.val (.ref x), .val (.int (Int32.ofNat i))] [.ref x])) := Steps.trans g2 (by
      refine XS.ifNo X2.here hexec rfl (hb hbytes d4) rfl (i0_eq_f (by decide)) ?_
      refine XS.aloadN X2.here hexec rfl (hb hbytes d7) rfl rfl ?_
      exact Steps.refl _)
    obtain ⟨T4, X4, q4, st4⟩ := X2.hget hexec hown (wk W (.fieldLink "java/lang/String" 9 "java/lang/String" "value" "[B")) hx2.2.1 (g := (mkF m 8 #[.val (.ref x), .val (.int (Int32.ofNat i))] [.ref x])) rfl (rest := []) rfl (hb hbytes d8)
    have hh4 := q4.trans hh2
    have c5 : Steps p.tables e below (s₁.setTop (entryFrame m #[.ref x, .int (Int32.ofNat i)] 2)) (T4.setTop (mkF m 12 #[.val (.ref x), .val (.int (Int32.ofNat i))] [.int (Int32.ofNat i), .ref t])) := (c3.trans (st4 _ (Steps.refl _))).trans (by
      refine XS.iloadN X4.here hexec rfl (hb hbytes d11) rfl ?_
      exact Steps.refl _)
    obtain ⟨v6, T6, X6, E6, g6⟩ := X4.callS hexec (LChA.law l t V i (lo8 (f i)) fm) hown (wks W (staticW "java/lang/String" 495 LChA.yN)) (wk W LChA.tab) (W := 0) (Nat.le_of_ble_eq_true rfl) (Nat.le_of_ble_eq_true rfl) (Nat.le_refl _) (Nat.le_refl _) (g := (mkF m 12 #[.val (.ref x), .val (.int (Int32.ofNat i))] [.int (Int32.ofNat i), .ref t])) rfl (by rw [hml]; rfl) c5 (argsL := [.ref t, .int (Int32.ofNat i)]) (rest := []) rfl rfl (by show 2 * 0 + 0 ≤ _; decide) (hb hbytes d12) (⟨rfl, hx.2.2.2.1.mv X4.warmed.alike hh4, (k2 i hi).1, s3.there X4.warmed.alike hh4, rf⟩)
    obtain ⟨rfl, q6⟩ := E6
    rw [chr8_lo8 hr.1 (k2 i hi).2] at g6
    exact ⟨T6, some (.int (f i)), _, _, _, X6, rfl, rfl, rfl, (fun h => by cases h), ⟨rfl, q6.trans hh4⟩, fun fs hl => Steps.trans g6 (X6.ireturnOut hexec hret (narrow_ch hr.1 hr.2) (Or.inr (Or.inr (Or.inr (Or.inl rfl)))) (hb hbytes d15) hl)⟩
  · exact absurd k0 (by decide)
theorem pays {l : Launch} {R : Room} {p : Program} {e : Env} {below : List Frame} {s : State} {sargs : Array Value} {len W : Nat} (x t : Addr) (V : Cell) (n : Nat) (f : Nat → Int32) (z : Int32) (fm : Value) (i : Nat) (htab : tab.before sargs s = true) (hfr : 4 ≤ R.frames) (hlo : W + 53 ≤ R.locals) :
    Back l R p e below s sargs yN len W (fun A₁ a₁ => A₁.cells + 0 ≤ R.cells ∧ A₁.slots + 0 ≤ R.slots ∧ P x t V n f z fm i a₁ A₁.U) (fun A₁ _ v₁ B₁ => E f i v₁ A₁.U B₁.U ∧ B₁.locs = A₁.locs ++ [] ∧ B₁.cells = A₁.cells + 0 ∧ B₁.slots = A₁.slots + 0) :=
  (law l x t V n f z fm i).pays htab hfr (by omega)
end ChN
end StrChars
namespace StrChars.Road
open Jvm Sem ClassFile Op Lib Jvm.Stand Jvm.Free Jvm.Free.XT
open Jvm.Lib.Cold (StaticIs)
/-- the words of String.charAt(int), the Latin-1 road alone -/
abbrev wordsChN : List Jvm.Cond := [.code ChN.yN ChN.yB 2 (some .char), .initialized ST, .fieldLink ST 9 ST "value" "[B", .fieldLink ST 38 ST "COMPACT_STRINGS" "Z", .fieldLink ST 15 ST "coder" "B", .code IsL.yN IsL.yB 1 (some .boolean), .methodLink ST 492 IsL.yN, .declares IsL.yN, .selects ST IsL.yN IsL.yN, .instanceMethod IsL.yN,
  .methodLink ST 495 LChA.yN, .static LChA.yN, .code LChA.yN LChA.yB 2 (some .char), .initialized "java/lang/StringLatin1", .methodLink "java/lang/StringLatin1" 9 JO.Str_checkIndex.yN, .static JO.Str_checkIndex.yN, .code JO.Str_checkIndex.yN JO.Str_checkIndex.yB 2 none,
  .fieldLink ST 1053 "jdk/internal/util/Preconditions" "SIOOBE_FORMATTER" "Ljava/util/function/BiFunction;", .methodLink ST 1059 JC.PreCheck.yN, .static JC.PreCheck.yN, .code JC.PreCheck.yN JC.PreCheck.yB 3 (some .int), .initialized "jdk/internal/util/Preconditions"]
theorem tabChN_of {a : Array Value} {s : State} (h : ∀ w ∈ wordsChN, w.before a s = true) : ChN.tab.before a s = true := by
  have hp : JC.PreCheck.tab.before a s = true := unparts (wk h (.code JC.PreCheck.yN JC.PreCheck.yB 3 (some .int))) (wks h (.initialized JC.PreCheck.yN.cls :: JC.PreCheck.site))
  have qk := consq hp h
  have hk : JO.Str_checkIndex.tab.before a s = true := unparts (wk qk (.code JO.Str_checkIndex.yN JO.Str_checkIndex.yB 2 none)) (wks qk (.initialized JO.Str_checkIndex.yN.cls :: JO.Str_checkIndex.site))
  have ql := consq hk h
  have hl : LChA.tab.before a s = true := unparts (wk ql (.code LChA.yN LChA.yB 2 (some .char))) (wks ql (.initialized LChA.yN.cls :: LChA.site))
  have hi : IsL.tab.before a s = true := unparts (wk h (.code IsL.yN IsL.yB 1 (some .boolean))) (wks h (.initialized IsL.yN.cls :: IsL.site))
  have q := consq hi (consq hl h)
  exact unparts (wk q (.code ChN.yN ChN.yB 2 (some .char))) (wks q (.initialized ChN.yN.cls :: ChN.site))
theorem movedChN {Z s : State} {a0 args : Array Value} (hZ : Z.Warmed39 s.vm) (hw : ∀ d ∈ wordsChN, d.before a0 Z = true) : ∀ d ∈ wordsChN, d.before args s = true := fun d hd => by
  have t : ∀ d ∈ wordsChN, (d.onTables && d.keepsFace) = true := by decide +kernel
  exact RoadKit.mv hZ (hw d hd) (t d hd)
/-- **charAt(i) OF A LATIN-1 STRING**, i < n: the char -/
theorem chN {p : Program} {l : Launch} {e : Env} {R : Room} {s : State} {args : Array Value} {below : List Frame} {len W : Nat} {Z : State} {a0 : Array Value} {h : Heap} (hZ : Z.Warmed39 s.vm) (hw : ∀ d ∈ wordsChN, d.before a0 Z = true) {kI : Nat} (wi : (Jvm.Cond.instantiable ST kI).before a0 Z = true)
    {x t : Addr} {kb : ClassId} {cs : List Int32} {N2 z : Int32} {vs : List Value} {fm : Value} {i : Nat} {j : Int32} (E : RoadKit.Exa Z h x ST) (V : RoadKit.Fld Z h x ST "value" "[B" (.ref t)) (C : RoadKit.Fld Z h x ST "coder" "B" (.int 0)) (K : RoadKit.Arv Z h t kb .byte N2 vs (.int 0)) (hc : CodA cs 0 N2 vs) (hb : ∀ c ∈ cs, ¬ c < 0 ∧ ¬ (65535 : Int32) < c)
    (S : RoadKit.Sta Z h ST "COMPACT_STRINGS" "Z" (.int z)) (hz : ¬ z = 0) (F : RoadKit.Sta Z h "jdk/internal/util/Preconditions" "SIOOBE_FORMATTER" "Ljava/util/function/BiFunction;" fm) (rf : fm.isRef = true) (l2 : cs.length ≤ 4000) (hi : i < cs.length) (hj : j = Int32.ofNat i) (hfr : 4 ≤ R.frames) (hlo : W + 53 ≤ R.locals) :
    Back l R p e below s args (⟨"java/lang/String", "charAt", "(I)C"⟩ : MethodName) len W (fun P a => a = #[.ref x, .int j] ∧ P.U.heap = h ∧ P.cells + 0 ≤ R.cells ∧ P.slots + 0 ≤ R.slots)
      (fun P _ v B => ∃ L, (v = some (.int (cs.getD i 0)) ∧ L = [] ∧ B.U.heap = h) ∧ B.locs = P.locs ++ L ∧ B.cells = P.cells + 0 ∧ B.slots = P.slots + 0) := by
  subst hj
  intro m meth c P g ig mk a X hg hsize hdg hW hn hp'
  obtain ⟨rfl, rfl, r1, r2⟩ := hp'
  have al : Z.vm.Alike P.U.vm := hZ.alike.trans X.warmed.alike
  obtain ⟨A, hx⟩ := txt_of wi al E V C K hc hb l2
  obtain ⟨v, B, X', ⟨⟨hv, hh⟩, hl, hk, hs⟩, st⟩ := ChN.pays x t A cs.length (fun j => cs.getD j 0) z fm i (tabChN_of (movedChN hZ hw)) hfr hlo m meth c P g ig mk _ X hg hsize hdg hW hn ⟨r1, r2, rfl, hx, hi, sta_is al S, hz, sta_is al F, rf⟩
  exact ⟨v, B, X', ⟨[], ⟨hv, rfl, hh⟩, hl, hk, hs⟩, st⟩
end StrChars.Road
end Jvm.Pilot.@@N@@
namespace Jvm.Pilot.@@N@@
open Jvm Jvm.ClassFile Sem Op Lib Jvm.Free Jvm.Stand Jvm.LawKit Jvm.RoadKit Bundle Jvm.Pilot.@@N@@.Jvm.D
abbrev Gets (p : Program) (e : Env) (below : List Frame) (S0 S : State) : Prop := ∀ t, Steps p.tables e below S t → Steps p.tables e below S0 t
section Own
variable {p : Program} {e : Env} {below : List Frame} {S0 T : State} {m : MethodId} {c : Code} {pc q : Nat} {Ls : Array Slot} {st : List Value}
theorem o_isub {x y v : Int32} (G : Gets p e below S0 (T.setTop (mkF m pc Ls (.int y :: .int x :: st)))) (h : At T m c below) (hx : p.tables.exec = Jvm.exec) (hd : decode c.code pc = .ok (.isub, 1)) (hv : x - y = v) (hq : pc + 1 = q) : Gets p e below S0 (T.setTop (mkF m q Ls (.int v :: st))) := by
  subst hv hq; exact fun t k => G t (XS.isub h hx rfl hd rfl k)
theorem o_iand {x y v : Int32} (G : Gets p e below S0 (T.setTop (mkF m pc Ls (.int y :: .int x :: st)))) (h : At T m c below) (hx : p.tables.exec = Jvm.exec) (hd : decode c.code pc = .ok (.iand, 1)) (hv : x &&& y = v) (hq : pc + 1 = q) : Gets p e below S0 (T.setTop (mkF m q Ls (.int v :: st))) := by
  subst hv hq; exact fun t k => G t (XS.iand h hx rfl hd rfl k)
theorem o_ior {x y v : Int32} (G : Gets p e below S0 (T.setTop (mkF m pc Ls (.int y :: .int x :: st)))) (h : At T m c below) (hx : p.tables.exec = Jvm.exec) (hd : decode c.code pc = .ok (.ior, 1)) (hv : x ||| y = v) (hq : pc + 1 = q) : Gets p e below S0 (T.setTop (mkF m q Ls (.int v :: st))) := by
  subst hv hq; exact fun t k => G t (XS.ior h hx rfl hd rfl k)
theorem o_ishl {x y v : Int32} (G : Gets p e below S0 (T.setTop (mkF m pc Ls (.int y :: .int x :: st)))) (h : At T m c below) (hx : p.tables.exec = Jvm.exec) (hd : decode c.code pc = .ok (.ishl, 1)) (hv : (x <<< (y &&& 31)) = v) (hq : pc + 1 = q) : Gets p e below S0 (T.setTop (mkF m q Ls (.int v :: st))) := by
  subst hv hq; exact fun t k => G t (XS.ishl h hx rfl hd rfl k)
theorem o_ishr {x y v : Int32} (G : Gets p e below S0 (T.setTop (mkF m pc Ls (.int y :: .int x :: st)))) (h : At T m c below) (hx : p.tables.exec = Jvm.exec) (hd : decode c.code pc = .ok (.ishr, 1)) (hv : (x >>> (y &&& 31)) = v) (hq : pc + 1 = q) : Gets p e below S0 (T.setTop (mkF m q Ls (.int v :: st))) := by
  subst hv hq; exact fun t k => G t (XS.ishr h hx rfl hd rfl k)
theorem o_iushr {x y v : Int32} (G : Gets p e below S0 (T.setTop (mkF m pc Ls (.int y :: .int x :: st)))) (h : At T m c below) (hx : p.tables.exec = Jvm.exec) (hd : decode c.code pc = .ok (.iushr, 1)) (hv : ((x.toUInt32 >>> (y &&& 31).toUInt32).toInt32) = v) (hq : pc + 1 = q) : Gets p e below S0 (T.setTop (mkF m q Ls (.int v :: st))) := by
  subst hv hq; exact fun t k => G t (XS.iushr h hx rfl hd rfl k)
theorem o_irem {x y v : Int32} (G : Gets p e below S0 (T.setTop (mkF m pc Ls (.int y :: .int x :: st)))) (h : At T m c below) (hx : p.tables.exec = Jvm.exec) (hd : decode c.code pc = .ok (.irem, 1)) (hy : y ≠ 0) (hv : x % y = v) (hq : pc + 1 = q) : Gets p e below S0 (T.setTop (mkF m q Ls (.int v :: st))) := by
  subst hv hq; exact fun t k => G t (XS.irem h hx rfl hd rfl hy (by rw [Jvm.irem_eq_mod]; exact k))
theorem o_i2b {x : Int32} {v : Int32} (G : Gets p e below S0 (T.setTop (mkF m pc Ls (.int x :: st)))) (h : At T m c below) (hx : p.tables.exec = Jvm.exec) (hd : decode c.code pc = .ok (.i2b, 1)) (hv : (x.toInt8.toInt32) = v) (hq : pc + 1 = q) : Gets p e below S0 (T.setTop (mkF m q Ls (.int v :: st))) := by
  subst hv hq; exact fun t k => G t (XS.i2b h hx rfl hd rfl k)
theorem o_i2c {x : Int32} {v : Int32} (G : Gets p e below S0 (T.setTop (mkF m pc Ls (.int x :: st)))) (h : At T m c below) (hx : p.tables.exec = Jvm.exec) (hd : decode c.code pc = .ok (.i2c, 1)) (hv : (x.toUInt32.toUInt16.toUInt32.toInt32) = v) (hq : pc + 1 = q) : Gets p e below S0 (T.setTop (mkF m q Ls (.int v :: st))) := by
  subst hv hq; exact fun t k => G t (XS.i2c h hx rfl hd rfl k)
theorem o_iconst {i : Int} {v : Int32} (G : Gets p e below S0 (T.setTop (mkF m pc Ls st))) (h : At T m c below) (hx : p.tables.exec = Jvm.exec) (hd : decode c.code pc = .ok (.iconst i, 1)) (hv : Int32.ofInt i = v) (hq : pc + 1 = q) : Gets p e below S0 (T.setTop (mkF m q Ls (.int v :: st))) := by
  subst hv hq; exact fun t k => G t (XS.iconst h hx rfl hd k)
theorem o_bipush {i : Int} {v : Int32} (G : Gets p e below S0 (T.setTop (mkF m pc Ls st))) (h : At T m c below) (hx : p.tables.exec = Jvm.exec) (hd : decode c.code pc = .ok (.bipush i, 2)) (hv : (Int8.ofInt i).toInt32 = v) (hq : pc + 2 = q) : Gets p e below S0 (T.setTop (mkF m q Ls (.int v :: st))) := by
  subst hv hq; exact fun t k => G t (XS.bipush h hx rfl hd k)
theorem o_sipush {i : Int} {v : Int32} (G : Gets p e below S0 (T.setTop (mkF m pc Ls st))) (h : At T m c below) (hx : p.tables.exec = Jvm.exec) (hd : decode c.code pc = .ok (.sipush i, 3)) (hv : (Int16.ofInt i).toInt32 = v) (hq : pc + 3 = q) : Gets p e below S0 (T.setTop (mkF m q Ls (.int v :: st))) := by
  subst hv hq; exact fun t k => G t (XS.sipush h hx rfl hd k)
theorem o_aconst_null  (G : Gets p e below S0 (T.setTop (mkF m pc Ls st))) (h : At T m c below) (hx : p.tables.exec = Jvm.exec) (hd : decode c.code pc = .ok (.aconst_null, 1))  (hq : pc + 1 = q) : Gets p e below S0 (T.setTop (mkF m q Ls (.null :: st))) := by
  subst hq; exact fun t k => G t (XS.aconstNull h hx rfl hd k)
theorem o_iload {i : Nat} {v : Int32} (G : Gets p e below S0 (T.setTop (mkF m pc Ls st))) (h : At T m c below) (hx : p.tables.exec = Jvm.exec) (hd : decode c.code pc = .ok (.iload i, 2)) (hl : Ls[i]? = some (.val (.int v))) (hq : pc + 2 = q) : Gets p e below S0 (T.setTop (mkF m q Ls (.int v :: st))) := by
  subst hq; exact fun t k => G t (XS.iload h hx rfl hd hl k)
theorem o_iloadN {i : Fin 4} {v : Int32} (G : Gets p e below S0 (T.setTop (mkF m pc Ls st))) (h : At T m c below) (hx : p.tables.exec = Jvm.exec) (hd : decode c.code pc = .ok (.iload_n i, 1)) (hl : Ls[i.val]? = some (.val (.int v))) (hq : pc + 1 = q) : Gets p e below S0 (T.setTop (mkF m q Ls (.int v :: st))) := by
  subst hq; exact fun t k => G t (XS.iloadN h hx rfl hd hl k)
theorem o_aload {i : Nat} {v : Value} (G : Gets p e below S0 (T.setTop (mkF m pc Ls st))) (h : At T m c below) (hx : p.tables.exec = Jvm.exec) (hd : decode c.code pc = .ok (.aload i, 2)) (hl : Ls[i]? = some (.val v)) (hv : v.isRef = true) (hq : pc + 2 = q) : Gets p e below S0 (T.setTop (mkF m q Ls (v :: st))) := by
  subst hq; exact fun t k => G t (XS.aload h hx rfl hd hl hv k)
theorem o_aloadN {i : Fin 4} {v : Value} (G : Gets p e below S0 (T.setTop (mkF m pc Ls st))) (h : At T m c below) (hx : p.tables.exec = Jvm.exec) (hd : decode c.code pc = .ok (.aload_n i, 1)) (hl : Ls[i.val]? = some (.val v)) (hv : v.isRef = true) (hq : pc + 1 = q) : Gets p e below S0 (T.setTop (mkF m q Ls (v :: st))) := by
  subst hq; exact fun t k => G t (XS.aloadN h hx rfl hd hl hv k)
theorem o_istore {i : Nat} {v : Int32} {l' : Array Slot} (G : Gets p e below S0 (T.setTop (mkF m pc Ls (.int v :: st)))) (h : At T m c below) (hx : p.tables.exec = Jvm.exec) (hd : decode c.code pc = .ok (.istore i, 2)) (hl : storeLocals Ls i (.int v) = some l') (hq : pc + 2 = q) : Gets p e below S0 (T.setTop (mkF m q l' st)) := by
  subst hq; exact fun t k => G t (XS.istore h hx rfl hd rfl hl k)
theorem o_istoreN {i : Fin 4} {v : Int32} {l' : Array Slot} (G : Gets p e below S0 (T.setTop (mkF m pc Ls (.int v :: st)))) (h : At T m c below) (hx : p.tables.exec = Jvm.exec) (hd : decode c.code pc = .ok (.istore_n i, 1)) (hl : storeLocals Ls i.val (.int v) = some l') (hq : pc + 1 = q) : Gets p e below S0 (T.setTop (mkF m q l' st)) := by
  subst hq; exact fun t k => G t (XS.istoreN h hx rfl hd rfl hl k)
theorem o_astore {i : Nat} {v : Value} {l' : Array Slot} (G : Gets p e below S0 (T.setTop (mkF m pc Ls (v :: st)))) (h : At T m c below) (hx : p.tables.exec = Jvm.exec) (hd : decode c.code pc = .ok (.astore i, 2)) (hv : v.isRef = true) (hl : storeLocals Ls i v = some l') (hq : pc + 2 = q) : Gets p e below S0 (T.setTop (mkF m q l' st)) := by
  subst hq; exact fun t k => G t (XS.astore h hx rfl hd rfl hv hl k)
theorem o_astoreN {i : Fin 4} {v : Value} {l' : Array Slot} (G : Gets p e below S0 (T.setTop (mkF m pc Ls (v :: st)))) (h : At T m c below) (hx : p.tables.exec = Jvm.exec) (hd : decode c.code pc = .ok (.astore_n i, 1)) (hv : v.isRef = true) (hl : storeLocals Ls i.val v = some l') (hq : pc + 1 = q) : Gets p e below S0 (T.setTop (mkF m q l' st)) := by
  subst hq; exact fun t k => G t (XS.astoreN h hx rfl hd rfl hv hl k)
theorem o_iinc {i : Nat} {d : Int} {x w v : Int32} {l' : Array Slot} (G : Gets p e below S0 (T.setTop (mkF m pc Ls st))) (h : At T m c below) (hx : p.tables.exec = Jvm.exec) (hd : decode c.code pc = .ok (.iinc i d, 3)) (hw : Int32.ofInt d = w) (hl : Ls[i]? = some (.val (.int x))) (hv : x + w = v) (hl' : storeLocals Ls i (.int v) = some l') (hq : pc + 3 = q) : Gets p e below S0 (T.setTop (mkF m q l' st)) := by
  subst hw hv hq; exact fun t k => G t (XS.iinc h hx rfl hd hl hl' k)
theorem o_dup {x : Value} (G : Gets p e below S0 (T.setTop (mkF m pc Ls (x :: st)))) (h : At T m c below) (hx : p.tables.exec = Jvm.exec) (hd : decode c.code pc = .ok (.dup, 1)) (hc : x.category = 1) (hq : pc + 1 = q) : Gets p e below S0 (T.setTop (mkF m q Ls (x :: x :: st))) := by
  subst hq; exact fun t k => G t (XS.dup h hx rfl hd rfl hc k)
theorem o_goto {o : Int} (G : Gets p e below S0 (T.setTop (mkF m pc Ls st))) (h : At T m c below) (hx : p.tables.exec = Jvm.exec) (hd : decode c.code pc = .ok (.goto o, 3))  (ho : 0 ≤ (pc : Int) + o) (hp : ((pc : Int) + o).toNat = q) : Gets p e below S0 (T.setTop (mkF m q Ls st)) := by
  exact fun t k => G t (XS.goto h hx rfl rfl hd ho hp k)
theorem o_ifYes {cd : ClassFile.Cond} {o : Int} {x : Int32} (G : Gets p e below S0 (T.setTop (mkF m pc Ls (.int x :: st)))) (h : At T m c below) (hx : p.tables.exec = Jvm.exec) (hd : decode c.code pc = .ok (.ifCond cd o, 3)) (hc : ifCond.holds cd x = true) (ho : 0 ≤ (pc : Int) + o) (hp : ((pc : Int) + o).toNat = q) : Gets p e below S0 (T.setTop (mkF m q Ls st)) := by
  exact fun t k => G t (XS.ifYes h hx rfl rfl hd rfl hc ho hp k)
theorem o_ifNo {cd : ClassFile.Cond} {o : Int} {x : Int32} (G : Gets p e below S0 (T.setTop (mkF m pc Ls (.int x :: st)))) (h : At T m c below) (hx : p.tables.exec = Jvm.exec) (hd : decode c.code pc = .ok (.ifCond cd o, 3)) (hc : ifCond.holds cd x = false) (hq : pc + 3 = q) : Gets p e below S0 (T.setTop (mkF m q Ls st)) := by
  subst hq; exact fun t k => G t (XS.ifNo h hx rfl hd rfl hc k)
theorem o_icmpYes {cd : ClassFile.Cond} {o : Int} {x y : Int32} (G : Gets p e below S0 (T.setTop (mkF m pc Ls (.int y :: .int x :: st)))) (h : At T m c below) (hx : p.tables.exec = Jvm.exec) (hd : decode c.code pc = .ok (.if_icmp cd o, 3)) (hc : if_icmp.holds cd x y = true) (ho : 0 ≤ (pc : Int) + o) (hp : ((pc : Int) + o).toNat = q) : Gets p e below S0 (T.setTop (mkF m q Ls st)) := by
  exact fun t k => G t (XS.icmpYes h hx rfl rfl hd rfl hc ho hp k)
theorem o_icmpNo {cd : ClassFile.Cond} {o : Int} {x y : Int32} (G : Gets p e below S0 (T.setTop (mkF m pc Ls (.int y :: .int x :: st)))) (h : At T m c below) (hx : p.tables.exec = Jvm.exec) (hd : decode c.code pc = .ok (.if_icmp cd o, 3)) (hc : if_icmp.holds cd x y = false) (hq : pc + 3 = q) : Gets p e below S0 (T.setTop (mkF m q Ls st)) := by
  subst hq; exact fun t k => G t (XS.icmpNo h hx rfl hd rfl hc k)
theorem o_w {a0 : Array Value} {Z : State} (hw : ∀ d ∈ tables_1, d.before a0 Z = true) (i : Nat) {d : Jvm.Cond} (h : tables_1[i]? = some d) : d.before a0 Z = true := hw _ (List.mem_of_getElem? h)
theorem o_nxs {T' : State} {st0 : List Value} {g' : JFrame} (G : Gets p e below S0 (T.setTop (mkF m pc Ls st0))) (s : ∀ t, Steps p.tables e below (T'.setTop g') t → Steps p.tables e below (T.setTop (mkF m pc Ls st0)) t) (hg : g' = mkF m q Ls st) : Gets p e below S0 (T'.setTop (mkF m q Ls st)) := by
  subst hg; exact fun t k => G t (s t k)
theorem o_backW {l : Launch} {R : Room} {s : State} {args : Array Value} {Z : State} {a0 : Array Value} {h : Heap} {y : MethodName} {bytes : ByteArray} {maxL : Nat} {ret : Option FieldType} {rm : Room} {len W : Nat} {as' : Array Value} {Q : Option Value → Heap → List Loc → Vm → Prop} {V : Vm → Prop}
    (hM : MetFree l y (head1 [Cond.code y bytes maxL ret] rm) (fun a U => a = as' ∧ Z.Warmed39 U.vm ∧ U.heap = h ∧ V U.vm) (fun _ _ _ _ _ => True) (fun _ U o U' => ∃ v L, o = .returned v ∧ Q v U'.heap L U'.vm ∧ ReturnedEndW U o U' L rm.cells rm.slots))
    (hZ : Z.Warmed39 s.vm) (wc : (Cond.code y bytes maxL ret).before a0 Z = true) (wz : (Cond.initialized y.cls).before a0 Z = true) (hf : rm.frames + 1 ≤ R.frames) (hl : W + (maxL + 11) + rm.locals ≤ R.locals) :
    BackS l R p e below s args y len W (fun A a => a = as' ∧ A.U.heap = h ∧ A.cells + rm.cells ≤ R.cells ∧ A.slots + rm.slots ≤ R.slots ∧ V A.U.vm)
      (fun A _ v B => ∃ L, Q v B.U.heap L B.U.vm ∧ B.locs = A.locs ++ L ∧ B.cells = A.cells + rm.cells ∧ B.slots = A.slots + rm.slots) :=
  BackS.of_freeW (bytes := bytes) (maxL := maxL) (ret := ret) (E := fun _ _ o t L k n => k = rm.cells ∧ n = rm.slots ∧ ∃ v, o = .returned v ∧ Q v t.heap L t.vm) hM hf hl
    (fun m meth c A a Y hp => have hU : Z.Warmed39 A.U.vm := wtrans hZ Y.warmed
      ⟨by show (Cond.and _ .tt).before a A.U = true; rw [Cond.before_and, mv hU wc]; rfl, mv hU wc, mv hU wz, hp.2.2.1, hp.2.2.2.1⟩)
    (fun m meth c A a g mk Y hp => ⟨hp.1, wtrans hZ Y.warmed, hp.2.1, hp.2.2.2.2⟩) (fun _ _ _ _ _ _ _ _ _ => trivial)
    (fun _ _ _ _ ⟨v, L, h1, h2, h3⟩ => ⟨L, _, _, h3, rfl, rfl, v, h1, h2⟩)
    (fun m meth c A a g mk v t L k n Y hp _ _ ⟨e1, e2, v', e3, e4⟩ => by cases e3; subst e1 e2; exact ⟨L, e4, rfl, rfl, rfl⟩)
theorem o_fne {Z : State} {h : Heap} {a b : Addr} {C n d : String} {v w : Value} (F : Fld Z h a C n d v) (G : Fld Z h b C n d w) (hvw : v ≠ w) : a ≠ b := fun q => by
  subst q
  obtain ⟨c1, cf1, k1, i1, f1, a1, a2, -, -, -, -, a7⟩ := F
  obtain ⟨c2, cf2, k2, i2, f2, b1, b2, -, -, -, -, b7⟩ := G
  cases a1.symm.trans b1
  cases a2.symm.trans b2
  exact hvw (Option.some.inj (a7.symm.trans b7))
theorem o_re {st0 : List Value} (G : Gets p e below S0 (T.setTop (mkF m pc Ls st0))) (hg : st0 = st) : Gets p e below S0 (T.setTop (mkF m pc Ls st)) := by
  subst hg; exact G
theorem o_vb {l : Launch} {R : Room} {s : State} {args : Array Value} {meth : Method} {locs : List Loc} {cells slots : Nat} {Z : State} {a0 : Array Value} {h : Heap} {rest : List Value} {own C : String} {index : Nat} {y : MethodName} {bytes : ByteArray} {maxL : Nat} {ret : Option FieldType} {rm : Room} {Q : Option Value → Heap → List Loc → Prop} {W : Nat} {b : Addr} {argsL : List Value}
    (G : Gets p e below S0 (T.setTop (mkF m pc Ls st))) (X : Stand p l e R s m args below meth c T locs cells slots) (hx : p.tables.exec = Jvm.exec) (hZ : Z.Warmed39 s.vm) (hown : s.vm.findClass own = some m.cls) (hml : Ls.size = c.maxLocals)
    (w : (Cond.methodLink own index y).before a0 Z = true ∧ (Cond.declares y).before a0 Z = true ∧ (Cond.selects C y y).before a0 Z = true ∧ (Cond.instanceMethod y).before a0 Z = true ∧ (Cond.code y bytes maxL ret).before a0 Z = true ∧ (Cond.initialized y.cls).before a0 Z = true)
    (hy : y.cls ≠ "java/lang/invoke/MethodHandle" ∧ y.cls ≠ "java/lang/invoke/VarHandle") (eT : T.heap = h) (F : Exa Z h b C)
    (hM : MetFree l y (head1 [Cond.code y bytes maxL ret] rm) (fun a U => a = (.ref b :: argsL).toArray ∧ Z.Warmed39 U.vm ∧ U.heap = h) (fun _ _ _ _ _ => True) (fun _ U o U' => ∃ v L, o = .returned v ∧ Q v U'.heap L ∧ FrameEnd U o U' L rm.cells rm.slots))
    (hlen : ∀ sig, parseMethodDescriptor y.desc = some sig → argsL.length = sig.parameters.length) (hstack : st = argsL.reverse ++ .ref b :: rest) (hW : (rest.map fun v => v.category).sum ≤ W)
    (hd : decode c.code pc = .ok (.invokevirtual index, 3)) (hq : pc + 3 = q) (hf : rm.frames + 1 ≤ R.frames) (hl : W + (maxL + 11) + rm.locals ≤ R.locals) (hc : cells + rm.cells ≤ R.cells) (hs : slots + rm.slots ≤ R.slots) :
    ∃ T' v L, Stand p l e R s m args below meth c T' (locs ++ L) (cells + rm.cells) (slots + rm.slots) ∧ Q v T'.heap L ∧ Gets p e below S0 (T'.setTop (mkF m q Ls (v.toList ++ rest))) := by
  obtain ⟨cq, kq, qa, qb, qc⟩ := isOf hZ eT F
  obtain ⟨v, _, ⟨T', L', kk, nn⟩, -, X', ⟨Lc, hQ, l1, y1, z1⟩, s1⟩ := X.virtualBack hx (y := y) (z := y) hown (mvT hZ w.1) (mvT hZ w.2.1) (notFace_of_selects (args := #[]) (mvT hZ w.2.2.1)) (mvT hZ w.2.2.1) (mvT hZ w.2.2.2.1) hy (backOf (W := W) hM hZ w.2.2.2.2.1 w.2.2.2.2.2 hf hl) qa qc (g := mkF m pc Ls st) rfl hml (Steps.refl _) (argsL := argsL) (rest := rest) hlen hstack (by show 2 * 0 + _ ≤ _; omega) hd (fun _ _ => ⟨rfl, eT, hc, hs⟩)
  dsimp only [Pt.U, Pt.locs, Pt.cells, Pt.slots] at X' l1 y1 z1 s1 hQ
  subst l1 y1 z1 hq
  exact ⟨T', v, Lc, X', hQ, fun t k => G t (s1.trans k)⟩
theorem o_nxv {T' : State} {st0 : List Value} {g' : JFrame} (G : Gets p e below S0 (T.setTop (mkF m pc Ls st0))) (s : Steps p.tables e below (T.setTop (mkF m pc Ls st0)) (T'.setTop g')) (hg : g' = mkF m q Ls st) : Gets p e below S0 (T'.setTop (mkF m q Ls st)) := by
  subst hg; exact fun t k => G t (s.trans k)
end Own
abbrev o_n0 : String := "java/lang/String"
abbrev o_g {p : Program} {e : Env} {below : List Frame} {S0 T : State} {g : JFrame} (_ : Gets p e below S0 (T.setTop g)) : JFrame := g
theorem o_lt32 {x y : Int32} : x < y ↔ x.toInt < y.toInt := Int32.lt_iff_toInt_lt
theorem o_rem {i u : Int32} (d : Int32) (k : Int) (hk : d.toInt = k) (h0 : 0 < k) (h : (u &&& 2147483647) % d = i) : 0 ≤ i.toInt ∧ i.toInt < k := by
  have a1 := c_mask u 2147483647 31 (by decide) (by decide)
  have a2 := (c_irem (u &&& 2147483647) d k hk).1 (by omega)
  rw [h] at a2
  have m2 := Int.emod_nonneg (u &&& 2147483647).toInt (show k ≠ 0 by omega)
  have m3 := Int.emod_lt_of_pos (u &&& 2147483647).toInt h0
  omega
theorem o_num {i : Int32} (k : Int32) (h : i.toInt = k.toInt) : i = k := Int32.toInt_inj.mp h
theorem o_cases4 {i : Int32} (h : 0 ≤ i.toInt ∧ i.toInt < 4) : i = 0 ∨ i = 1 ∨ i = 2 ∨ i = 3 := by
  have e0 : (0 : Int32).toInt = 0 := rfl
  have e1 : (1 : Int32).toInt = 1 := rfl
  have e2 : (2 : Int32).toInt = 2 := rfl
  have e3 : (3 : Int32).toInt = 3 := rfl
  have q : i.toInt = 0 ∨ i.toInt = 1 ∨ i.toInt = 2 ∨ i.toInt = 3 := by omega
  rcases q with q | q | q | q
  · exact Or.inl (o_num 0 q)
  · exact Or.inr (Or.inl (o_num 1 q))
  · exact Or.inr (Or.inr (Or.inl (o_num 2 q)))
  · exact Or.inr (Or.inr (Or.inr ((o_num 3 q))))
theorem o_since (s : State) : s.Since s.vm s.heap.size := ⟨State.Warmed39.refl s, fun j p hj hp => by
  have := (Array.getElem?_eq_some_iff.mp hp).1
  omega⟩
theorem o_strs : ∀ d ∈ Bundle.stringAtoms, d ∈ tables_1 := by decide +kernel
theorem o_tn {x : Int32} (h : 0 ≤ x.toInt) : x.toInt = (x.toBitVec.toNat : Int) := by
  have e : x.toInt = x.toBitVec.toInt := rfl
  rw [e] at h ⊢
  have hl := x.toBitVec.isLt
  have hc := BitVec.toInt_eq_toNat_cond x.toBitVec
  by_cases hh : 2 * x.toBitVec.toNat < 2 ^ 32
  · rw [if_pos hh] at hc; exact hc
  · rw [if_neg hh] at hc; omega
theorem o_or {a b : Int32} (ha : 0 ≤ a.toInt ∧ a.toInt < 65536) (hb : 0 ≤ b.toInt ∧ b.toInt < 65536) : b.toInt ≤ (a ||| b).toInt ∧ (a ||| b).toInt < 65536 := by
  have ea := o_tn ha.1
  have eb := o_tn hb.1
  have e : (a ||| b).toBitVec.toNat = a.toBitVec.toNat ||| b.toBitVec.toNat := by rw [Int32.toBitVec_or, BitVec.toNat_or]
  have l1 : b.toBitVec.toNat ≤ a.toBitVec.toNat ||| b.toBitVec.toNat := Nat.right_le_or
  have l2 : a.toBitVec.toNat ||| b.toBitVec.toNat < 2 ^ 16 := Nat.or_lt_two_pow (by omega) (by omega)
  have hc := BitVec.toInt_eq_toNat_cond (a ||| b).toBitVec
  rw [if_pos (by omega), e] at hc
  have e3 : (a ||| b).toInt = (a ||| b).toBitVec.toInt := rfl
  omega
theorem o_nr (x : Int32) : 0 ≤ (nar .char x).toInt ∧ (nar .char x).toInt < 65536 := by
  have h := c_i2c x
  show 0 ≤ (x.toUInt32.toUInt16.toUInt32.toInt32).toInt ∧ (x.toUInt32.toUInt16.toUInt32.toInt32).toInt < 65536
  omega
theorem o_gc {c : Int32} (h0 : 0 ≤ c.toInt ∧ c.toInt < 65536) (hg : (255 : Int32) < c) : (255 : Int32) < ((((nar .byte ((c >>> ((0 : Int32) &&& 31)).toInt8.toInt32)) &&& (255 : Int32)) <<< ((0 : Int32) &&& 31)) ||| (((nar .byte ((c >>> ((8 : Int32) &&& 31)).toInt8.toInt32)) &&& (255 : Int32)) <<< ((8 : Int32) &&& 31))).toUInt32.toUInt16.toUInt32.toInt32 := by
  rw [Int32.lt_iff_toInt_lt, show (255 : Int32).toInt = 255 from rfl] at hg ⊢
  generalize hA : ((nar .byte ((c >>> ((0 : Int32) &&& 31)).toInt8.toInt32)) &&& (255 : Int32)) <<< ((0 : Int32) &&& 31) = A
  generalize hB : ((nar .byte ((c >>> ((8 : Int32) &&& 31)).toInt8.toInt32)) &&& (255 : Int32)) <<< ((8 : Int32) &&& 31) = B
  have a3 := c_ishl ((nar .byte ((c >>> ((0 : Int32) &&& 31)).toInt8.toInt32)) &&& (255 : Int32)) 0 0 (by decide)
  have a2 := c_mask (nar .byte ((c >>> ((0 : Int32) &&& 31)).toInt8.toInt32)) 255 8 (by decide) (by decide)
  rw [hA] at a3
  have b3 := c_ishl ((nar .byte ((c >>> ((8 : Int32) &&& 31)).toInt8.toInt32)) &&& (255 : Int32)) 8 8 (by decide)
  have b2 := c_mask (nar .byte ((c >>> ((8 : Int32) &&& 31)).toInt8.toInt32)) 255 8 (by decide) (by decide)
  have b1 := c_i2b ((c >>> ((8 : Int32) &&& 31)).toInt8.toInt32)
  have b0 := c_i2b (c >>> ((8 : Int32) &&& 31))
  have bs := c_ishr c 8 8 (by decide)
  rw [hB] at b3
  have b1' : (nar .byte ((c >>> ((8 : Int32) &&& 31)).toInt8.toInt32)).toInt = ((c >>> ((8 : Int32) &&& 31)).toInt8.toInt32.toInt8.toInt32).toInt := rfl
  have rA := rng32 A
  have rB := rng32 B
  have hA2 : 0 ≤ A.toInt ∧ A.toInt < 65536 := by omega
  have hB2 : 256 ≤ B.toInt ∧ B.toInt < 65536 := by omega
  have hor := o_or hA2 ⟨by omega, hB2.2⟩
  have hi := c_i2c (A ||| B)
  omega
theorem o_eqs {args : Array Value} {s : State} {t : Term} {k : Int32} (h : (Jvm.Cond.eq t (.int k)).value args s none s [] = some true) : t.eval args s none [] s = some (.int k) := by
  have e2 : (Term.int k).eval args s none [] s = some (.int k) := Term.int_eval k
  cases ht : t.eval args s none [] s with
  | none => simp [Cond.value, ht] at h
  | some v =>
    cases v <;> simp [Cond.value, ht, e2] at h
    subst h; rfl
theorem o_nar (x : Int32) : nar .char x.toUInt32.toUInt16.toUInt32.toInt32 = x.toUInt32.toUInt16.toUInt32.toInt32 := by
  show x.toUInt32.toUInt16.toUInt32.toInt32.toUInt32.toUInt16.toUInt32.toInt32 = _
  simp only [UInt32.toUInt32_toInt32, UInt16.toUInt16_toUInt32]
theorem o_nc (x : Int32) : narrow FieldType.char (.int x.toUInt32.toUInt16.toUInt32.toInt32) = .int x.toUInt32.toUInt16.toUInt32.toInt32 := by
  show Value.int x.toUInt32.toUInt16.toUInt32.toInt32.toUInt32.toUInt16.toUInt32.toInt32 = _
  exact congrArg Value.int (o_nar x)
theorem o_nb {cc : Int32} (h : cc = 0 ∨ cc = 1) : narrow FieldType.byte (.int cc) = .int cc := by
  rcases h with rfl | rfl <;> rfl
theorem o_m3 {x i : Int32} (h : (x &&& 3) = i) : 0 ≤ i.toInt ∧ i.toInt < 4 := by
  have a := c_mask x 3 2 (by decide) (by decide)
  rw [h] at a; omega
theorem o_i1 {i : Int32} (h0 : 0 ≤ i.toInt) (h1 : i.toInt < 4000) : (i + (1 : Int32)).toInt = i.toInt + 1 := by
  have a := c_iadd i 1
  rw [show (1 : Int32).toInt = 1 from rfl] at a
  have r := rng32 (i + 1)
  omega
theorem o_cn {i : Int32} (h0 : 0 ≤ i.toInt) : (i.toNatClampNeg : Int) = i.toInt := by
  simp only [Int32.toNatClampNeg]; omega
theorem o_ib {i n : Int32} (h0 : 0 ≤ i.toInt) (h1 : i.toInt < n.toInt) : ¬ i < 0 ∧ i < n := by
  rw [Int32.lt_iff_toInt_lt, Int32.lt_iff_toInt_lt, show (0 : Int32).toInt = 0 from rfl]; omega
theorem o_cfl {nz : Int32} (h : 1 ≤ nz.toInt ∧ nz.toInt ≤ 54) : ((((nz - (nz <<< ((1 : Int32) &&& 31))).toUInt32 >>> ((31 : Int32) &&& 31).toUInt32).toInt32).toInt8.toInt32) = (1 : Int32) := by
  have a := c_ishl nz 1 1 (by decide)
  have ra := rng32 (nz <<< ((1 : Int32) &&& 31))
  have b := c_isub nz (nz <<< ((1 : Int32) &&& 31))
  have rb := rng32 (nz - (nz <<< ((1 : Int32) &&& 31)))
  have e := c_iushr (nz - (nz <<< ((1 : Int32) &&& 31))) 31 31 (by decide) (by decide)
  have g : ((nz - (nz <<< ((1 : Int32) &&& 31))).toUInt32 >>> ((31 : Int32) &&& 31).toUInt32).toInt32 = 1 := Int32.toInt_inj.mp (by rw [show (1 : Int32).toInt = 1 from rfl]; omega)
  rw [g]; decide
theorem d6_0 : decode jdk_52_method_21_code 0 = .ok (.iconst 0, 1) := by decide +kernel
theorem d6_1 : decode jdk_52_method_21_code 1 = .ok (.istore 5, 2) := by decide +kernel
theorem d6_3 : decode jdk_52_method_21_code 3 = .ok (.iload 5, 2) := by decide +kernel
theorem d6_5 : decode jdk_52_method_21_code 5 = .ok (.iload 4, 2) := by decide +kernel
theorem d6_7 : decode jdk_52_method_21_code 7 = .ok (.if_icmp .ge 37, 3) := by decide +kernel
theorem d6_10 : decode jdk_52_method_21_code 10 = .ok (.aload_n 0, 1) := by decide +kernel
theorem d6_11 : decode jdk_52_method_21_code 11 = .ok (.iload_n 1, 1) := by decide +kernel
theorem d6_12 : decode jdk_52_method_21_code 12 = .ok (.caload, 1) := by decide +kernel
theorem d6_13 : decode jdk_52_method_21_code 13 = .ok (.istore 6, 2) := by decide +kernel
theorem d6_15 : decode jdk_52_method_21_code 15 = .ok (.iload 6, 2) := by decide +kernel
theorem d6_17 : decode jdk_52_method_21_code 17 = .ok (.sipush 255, 3) := by decide +kernel
theorem d6_20 : decode jdk_52_method_21_code 20 = .ok (.if_icmp .le 6, 3) := by decide +kernel
theorem d6_23 : decode jdk_52_method_21_code 23 = .ok (.iload 5, 2) := by decide +kernel
theorem d6_25 : decode jdk_52_method_21_code 25 = .ok (.ireturn, 1) := by decide +kernel
theorem d6_26 : decode jdk_52_method_21_code 26 = .ok (.aload_n 2, 1) := by decide +kernel
theorem d6_27 : decode jdk_52_method_21_code 27 = .ok (.iload_n 3, 1) := by decide +kernel
theorem d6_28 : decode jdk_52_method_21_code 28 = .ok (.iload 6, 2) := by decide +kernel
theorem d6_30 : decode jdk_52_method_21_code 30 = .ok (.i2b, 1) := by decide +kernel
theorem d6_31 : decode jdk_52_method_21_code 31 = .ok (.bastore, 1) := by decide +kernel
theorem d6_32 : decode jdk_52_method_21_code 32 = .ok (.iinc 1 1, 3) := by decide +kernel
theorem d6_35 : decode jdk_52_method_21_code 35 = .ok (.iinc 3 1, 3) := by decide +kernel
theorem d6_38 : decode jdk_52_method_21_code 38 = .ok (.iinc 5 1, 3) := by decide +kernel
theorem d6_41 : decode jdk_52_method_21_code 41 = .ok (.goto (-38), 3) := by decide +kernel
theorem pn_java_lang_StringUTF16 : plainName "java/lang/StringUTF16" = true := by first | (simp [plainName, overriddenIn]; done) | decide +kernel
theorem ef_6u (m : MethodId) (x0 : Addr) (x2 : Addr) (x4 : Int32) : entryFrame m #[(.ref x0), (.int 0), (.ref x2), (.int 0), (.int x4)] 7 = mkF m 0 #[.val (.ref x0), .val (.int 0), .val (.ref x2), .val (.int 0), .val (.int x4), .unset, .unset] [] := by first | (simp [entryFrame, mkF, argsToLocals, Value.category]; done) | rfl
def Q6u (Z : State) (a : Addr) (d : Addr) (nz : Int32) (ks : ClassId) (kd : ClassId) (ys0 : List Value) (f : Int32 → Int32) (cs : List Value) (k : Int32) (h0 : Heap) (n0 : Nat) (v : Option Value) (h : Heap) (L : List Loc) : Prop := ∃ (yz : List Value), v = some (.int k) ∧ Fr n0 L ∧ Keep h0 h [d] ∧ (Arv Z h d kd .byte nz yz (.int 0))
set_option maxRecDepth 65536 in
set_option maxHeartbeats 40000000 in
theorem rm6u (l : Launch) (Z : State) (a0 : Array Value) (hw : ∀ d ∈ tables_1, d.before a0 Z = true) (ws : List Jvm.Cond) (a : Addr) (d : Addr) (nz : Int32) (ks : ClassId) (kd : ClassId) (ys0 : List Value) (f : Int32 → Int32) (cs : List Value) (k : Int32) (h0 : Heap) (n0 : Nat) (Z0 : n0 ≤ h0.size) (P0 : Arv Z h0 a ks .char nz cs (.int 0)) (P1 : Arv Z h0 d kd .byte nz ys0 (.int 0)) (P2 : n0 ≤ d) (P3 : a ≠ d) (hyl : nz.toNatClampNeg ≤ ys0.length) (hf : ∀ i : Int32, 0 ≤ i.toInt → i.toInt < nz.toInt → cs.getD i.toNatClampNeg (.int 0) = .int (f i)) (hk : 0 ≤ k.toInt ∧ k.toInt < nz.toInt ∧ nz.toInt ≤ 4000) (hlat : ∀ i : Int32, 0 ≤ i.toInt → i.toInt < k.toInt → ¬ ((255 : Int32) < f i)) (hbig : (255 : Int32) < f k) :
    MetFree l (⟨"java/lang/StringUTF16", "compress", "([CI[BII)I"⟩ : MethodName) (head1 (Jvm.Cond.code (⟨"java/lang/StringUTF16", "compress", "([CI[BII)I"⟩ : MethodName) jdk_52_method_21_code 7 (some .int) :: ws) ({ frames := 0, cells := 0, slots := 0, locals := 0 } : Room)) (fun argz U => argz = #[(.ref a), (.int 0), (.ref d), (.int 0), (.int nz)] ∧ Z.Warmed39 U.vm ∧ U.heap = h0) (fun _ _ _ _ _ => True) (fun _ U o U' => ∃ v L, o = .returned v ∧ Q6u Z a d nz ks kd ys0 f cs k h0 n0 v U'.heap L ∧ FrameEnd U o U' L ({ frames := 0, cells := 0, slots := 0, locals := 0 } : Room).cells ({ frames := 0, cells := 0, slots := 0, locals := 0 } : Room).slots) := by
  refine MetFree.of_bodySF (plainFor_of_name pn_java_lang_StringUTF16) hisR ?_
  intro p e s m args below meth c s₁ Bd hml0 hP hK
  obtain ⟨rfl, hZ, hh⟩ := hP
  have hx := Bd.exec
  have hby := Bd.bytes
  have hml : c.maxLocals = 7 := hml0
  have hown : s.vm.findClass "java/lang/StringUTF16" = some m.cls := findClass_of_methodNamed Bd.named
  have hnm := (name_of_methodNamed Bd.named Bd.method).1
  have X0 : Stand p l e ({ frames := 0, cells := 0, slots := 0, locals := 0 } : Room) s m #[(.ref a), (.int 0), (.ref d), (.int 0), (.int nz)] below meth c s₁ [] 0 0 := Stand.of_body Bd
  have e0 : s₁.heap = h0 := by rw [← hh, Bd.state]; rfl
  have N0 := Fr.nil n0
  have K0 : Keep h0 h0 [d] := Keep.refl _ _
  have G : Gets p e below (s₁.setTop (entryFrame m #[(.ref a), (.int 0), (.ref d), (.int 0), (.int nz)] 7)) (s₁.setTop (mkF m 0 #[.val (.ref a), .val (.int 0), .val (.ref d), .val (.int 0), .val (.int nz), .unset, .unset] [])) := fun tq kq => castTop (ef_6u m a d nz) kq
  replace G := o_iconst (q := 1) G X0.here hx (hb hby d6_0) (v := (0 : Int32)) (by decide) rfl
  replace G := o_istore (q := 3) (l' := #[.val (.ref a), .val (.int 0), .val (.ref d), .val (.int 0), .val (.int nz), .val (.int 0), .unset]) G X0.here hx (hb hby d6_1) rfl rfl
  replace G := o_iload (q := 5) G X0.here hx (hb hby d6_3) rfl rfl
  replace G := o_iload (q := 7) G X0.here hx (hb hby d6_5) rfl rfl
  have hc7_1 : (0 : Int32) < nz := (o_ib (by decide) (by rw [show (0 : Int32).toInt = 0 from rfl]; omega)).2
  replace G := o_icmpNo (q := 10) G X0.here hx (hb hby d6_7) (tlt hc7_1).2.1 rfl
  replace G := o_aloadN (q := 11) G X0.here hx (hb hby d6_10) rfl rfl rfl
  replace G := o_iloadN (q := 12) G X0.here hx (hb hby d6_11) rfl rfl
  obtain ⟨c2, Ar2, -, S2, -, H2, -⟩ := id P0
  have hin2 : ¬ ((0 : Int32) < 0 ∨ c2.slots.size ≤ ((0 : Int32)).toNatClampNeg) := inb_of S2 (o_ib (by decide) (by rw [show (0 : Int32).toInt = 0 from rfl]; omega))
  replace G := o_nxs (q := 13) (st := [(.int (f (0 : Int32)))]) G (X0.caload hx (j := (0 : Int32)) (v := (.int (f (0 : Int32)))) (by rw [e0]; exact Ar2.1) (State.isArrayOf_alike hZ.alike Ar2.2.1) Ar2.2.2 hin2 (Has.at H2 hin2 (hf 0 (by decide) (by rw [show (0 : Int32).toInt = 0 from rfl]; omega))) (g := o_g G) rfl rfl (hb hby d6_12)) rfl
  replace G := o_istore (q := 15) (l' := #[.val (.ref a), .val (.int 0), .val (.ref d), .val (.int 0), .val (.int nz), .val (.int 0), .val (.int (f (0 : Int32)))]) G X0.here hx (hb hby d6_13) rfl rfl
  obtain ⟨dn, hd0⟩ : ∃ dn : Nat, k.toInt - (0 : Int32).toInt = (dn : Int) := ⟨(k.toInt).toNat, by rw [show (0 : Int32).toInt = 0 from rfl]; omega⟩
  obtain ⟨Tl, hl_, lsl, ys, i, Xl, el_, Nl, Zl, Kl, Fl0, Fl1, hi, hyl, hd, G⟩ : ∃ (Tl : State) (hl_ : Heap) (lsl : List Loc) (ys : List Value) (i : Int32), Stand p l e ({ frames := 0, cells := 0, slots := 0, locals := 0 } : Room) s m #[(.ref a), (.int 0), (.ref d), (.int 0), (.int nz)] below meth c Tl lsl 0 0 ∧ Tl.heap = hl_ ∧ Fr n0 lsl ∧ n0 ≤ hl_.size ∧ Keep h0 hl_ [d] ∧ Arv Z hl_ a ks .char nz cs (.int 0) ∧ Arv Z hl_ d kd .byte nz ys (.int 0) ∧ (0 ≤ i.toInt ∧ i.toInt ≤ k.toInt) ∧ (nz.toNatClampNeg ≤ ys.length) ∧ (k.toInt - i.toInt = (dn : Int)) ∧ Gets p e below (s₁.setTop (entryFrame m #[(.ref a), (.int 0), (.ref d), (.int 0), (.int nz)] 7)) (Tl.setTop (mkF m 15 #[.val (.ref a), .val (.int i), .val (.ref d), .val (.int i), .val (.int nz), .val (.int i), .val (.int (f i))] [])) := ⟨_, _, _, ys0, (0 : Int32), X0, e0, N0, Z0, K0, P0, P1, ⟨by decide, hk.1⟩, hyl, hd0, G⟩
  clear hd0
  induction dn generalizing Tl hl_ lsl ys i
  have hik : i = k := Int32.toInt_inj.mp (by omega)
  replace G := o_iload (q := 17) G Xl.here hx (hb hby d6_15) rfl rfl
  replace G := o_sipush (q := 20) G Xl.here hx (hb hby d6_17) (v := (255 : Int32)) (by decide) rfl
  have hc20_3 : (255 : Int32) < (f i) := hik ▸ hbig
  replace G := o_icmpNo (q := 23) G Xl.here hx (hb hby d6_20) (tlt hc20_3).2.2.2 rfl
  replace G := o_iload (q := 25) G Xl.here hx (hb hby d6_23) rfl rfl
  obtain ⟨fs, hr, hrun, hended, hW, hsame⟩ := Xl.leave (v := some (.int i)) (fun h => by rw [Bd.returns] at h; cases h)
  refine ⟨_, _, G _ (retOut Xl hx Bd.returns rfl (Or.inl ⟨rfl, Or.inl rfl, _, rfl⟩) (hb hby d6_25) hr), hrun, hended, _, _, rfl, ?_, ⟨_, rfl⟩, hW, hsame.mono (by decide) (by decide)⟩
  show Q6u Z a d nz ks kd ys0 f cs k h0 n0 _ Tl.heap _
  rw [el_]
  exact ⟨ys, (congrArg (fun z => some (Value.int z)) (hik)), Nl, Kl, Fl1⟩
  rename_i dn ih
  have hlt : i.toInt < k.toInt := by omega
  replace G := o_iload (q := 17) G Xl.here hx (hb hby d6_15) rfl rfl
  replace G := o_sipush (q := 20) G Xl.here hx (hb hby d6_17) (v := (255 : Int32)) (by decide) rfl
  have hc20_4 : ¬ ((255 : Int32) < (f i)) := hlat i hi.1 hlt
  replace G := o_icmpYes (q := 26) G Xl.here hx (hb hby d6_20) (flt hc20_4).2.2.2 (by decide) (by decide)
  replace G := o_aloadN (q := 27) G Xl.here hx (hb hby d6_26) rfl rfl rfl
  replace G := o_iloadN (q := 28) G Xl.here hx (hb hby d6_27) rfl rfl
  replace G := o_iload (q := 30) G Xl.here hx (hb hby d6_28) rfl rfl
  replace G := o_i2b (q := 31) G Xl.here hx (hb hby d6_30) rfl rfl
  obtain ⟨c5, Ar5, q5, S5, N5', H5, G5'⟩ := id Fl1
  have hin5 : ¬ (i < 0 ∨ c5.slots.size ≤ (i).toNatClampNeg) := inb_of S5 (o_ib hi.1 (by omega))
  obtain ⟨T5, h5, X5, e5, W5, st5⟩ := stB Xl hx hZ el_ Ar5 (j := i) hin5 (g := o_g G) rfl rfl (hb hby d6_31)
  have N5 := Fr.snoc X5 Nl P2
  have Z5 : n0 ≤ h5.size := Nat.le_trans Zl (Keep.of_wr W5).1
  have K5 : Keep h0 h5 [d] := Kl.wr W5 (Or.inl (List.mem_of_getElem? (i := 0) rfl))
  have V5 : Arv Z h5 d kd .byte nz (ys.set i.toNatClampNeg (.int (nar .byte ((f i).toInt8.toInt32)))) (.int 0) := Arv.set Ar5 q5 S5 N5' H5 G5' (fits_nar_byte _) W5 i.toNatClampNeg rfl (by have := o_cn hi.1; have := o_cn (i := nz) (by omega); omega)
  replace G := o_nxs (q := 32) (st := []) G st5 rfl
  replace G := o_iinc (q := 35) (l' := #[.val (.ref a), .val (.int (i + (1 : Int32))), .val (.ref d), .val (.int i), .val (.int nz), .val (.int i), .val (.int (f i))]) (w := (1 : Int32)) G X5.here hx (hb hby d6_32) (by decide) rfl rfl rfl rfl
  replace G := o_iinc (q := 38) (l' := #[.val (.ref a), .val (.int (i + (1 : Int32))), .val (.ref d), .val (.int (i + (1 : Int32))), .val (.int nz), .val (.int i), .val (.int (f i))]) (w := (1 : Int32)) G X5.here hx (hb hby d6_35) (by decide) rfl rfl rfl rfl
  replace G := o_iinc (q := 41) (l' := #[.val (.ref a), .val (.int (i + (1 : Int32))), .val (.ref d), .val (.int (i + (1 : Int32))), .val (.int nz), .val (.int (i + (1 : Int32))), .val (.int (f i))]) (w := (1 : Int32)) G X5.here hx (hb hby d6_38) (by decide) rfl rfl rfl rfl
  replace G := o_goto (q := 3) G X5.here hx (hb hby d6_41) (by decide) (by decide)
  replace G := o_iload (q := 5) G X5.here hx (hb hby d6_3) rfl rfl
  replace G := o_iload (q := 7) G X5.here hx (hb hby d6_5) rfl rfl
  have hc7_6 : (i + (1 : Int32)) < nz := (o_ib (by rw [o_i1 hi.1 (by omega)]; omega) (by rw [o_i1 hi.1 (by omega)]; omega)).2
  replace G := o_icmpNo (q := 10) G X5.here hx (hb hby d6_7) (tlt hc7_6).2.1 rfl
  replace G := o_aloadN (q := 11) G X5.here hx (hb hby d6_10) rfl rfl rfl
  replace G := o_iloadN (q := 12) G X5.here hx (hb hby d6_11) rfl rfl
  have F7 := (Fl0.other W5 P3)
  obtain ⟨c8, Ar8, -, S8, -, H8, -⟩ := id F7
  have hin8 : ¬ ((i + (1 : Int32)) < 0 ∨ c8.slots.size ≤ ((i + (1 : Int32))).toNatClampNeg) := inb_of S8 (o_ib (by rw [o_i1 hi.1 (by omega)]; omega) (by rw [o_i1 hi.1 (by omega)]; omega))
  replace G := o_nxs (q := 13) (st := [(.int (f (i + (1 : Int32))))]) G (X5.caload hx (j := (i + (1 : Int32))) (v := (.int (f (i + (1 : Int32))))) (by rw [e5]; exact Ar8.1) (State.isArrayOf_alike hZ.alike Ar8.2.1) Ar8.2.2 hin8 (Has.at H8 hin8 (hf (i + 1) (by rw [o_i1 hi.1 (by omega)]; omega) (by rw [o_i1 hi.1 (by omega)]; omega))) (g := o_g G) rfl rfl (hb hby d6_12)) rfl
  replace G := o_istore (q := 15) (l' := #[.val (.ref a), .val (.int (i + (1 : Int32))), .val (.ref d), .val (.int (i + (1 : Int32))), .val (.int nz), .val (.int (i + (1 : Int32))), .val (.int (f (i + (1 : Int32))))]) G X5.here hx (hb hby d6_13) rfl rfl
  exact ih _ _ _ _ _ X5 e5 N5 Z5 K5 F7 V5 (by rw [o_i1 hi.1 (by omega)]; omega) (by rw [List.length_set]; exact hyl) (by rw [o_i1 hi.1 (by omega)]; omega) G
theorem o_sh {i : Int32} (h0 : 0 ≤ i.toInt) (h1 : i.toInt < 4000) : (i <<< ((1 : Int32) &&& 31)).toInt = 2 * i.toInt := by
  have a := c_ishl i 1 1 (by decide)
  have r := rng32 (i <<< ((1 : Int32) &&& 31))
  omega
theorem d19_0 : decode jdk_52_method_4_code 0 = .ok (.getstatic 44, 3) := by decide +kernel
theorem d19_3 : decode jdk_52_method_4_code 3 = .ok (.ifCond .ne 25, 3) := by decide +kernel
theorem d19_28 : decode jdk_52_method_4_code 28 = .ok (.iload_n 1, 1) := by decide +kernel
theorem d19_29 : decode jdk_52_method_4_code 29 = .ok (.iconst 1, 1) := by decide +kernel
theorem d19_30 : decode jdk_52_method_4_code 30 = .ok (.ishl, 1) := by decide +kernel
theorem d19_31 : decode jdk_52_method_4_code 31 = .ok (.istore_n 1, 1) := by decide +kernel
theorem d19_32 : decode jdk_52_method_4_code 32 = .ok (.aload_n 0, 1) := by decide +kernel
theorem d19_33 : decode jdk_52_method_4_code 33 = .ok (.iload_n 1, 1) := by decide +kernel
theorem d19_34 : decode jdk_52_method_4_code 34 = .ok (.iinc 1 1, 3) := by decide +kernel
theorem d19_37 : decode jdk_52_method_4_code 37 = .ok (.iload_n 2, 1) := by decide +kernel
theorem d19_38 : decode jdk_52_method_4_code 38 = .ok (.getstatic 59, 3) := by decide +kernel
theorem d19_41 : decode jdk_52_method_4_code 41 = .ok (.ishr, 1) := by decide +kernel
theorem d19_42 : decode jdk_52_method_4_code 42 = .ok (.i2b, 1) := by decide +kernel
theorem d19_43 : decode jdk_52_method_4_code 43 = .ok (.bastore, 1) := by decide +kernel
theorem d19_44 : decode jdk_52_method_4_code 44 = .ok (.aload_n 0, 1) := by decide +kernel
theorem d19_45 : decode jdk_52_method_4_code 45 = .ok (.iload_n 1, 1) := by decide +kernel
theorem d19_46 : decode jdk_52_method_4_code 46 = .ok (.iload_n 2, 1) := by decide +kernel
theorem d19_47 : decode jdk_52_method_4_code 47 = .ok (.getstatic 63, 3) := by decide +kernel
theorem d19_50 : decode jdk_52_method_4_code 50 = .ok (.ishr, 1) := by decide +kernel
theorem d19_51 : decode jdk_52_method_4_code 51 = .ok (.i2b, 1) := by decide +kernel
theorem d19_52 : decode jdk_52_method_4_code 52 = .ok (.bastore, 1) := by decide +kernel
theorem d19_53 : decode jdk_52_method_4_code 53 = .ok (.return_, 1) := by decide +kernel
theorem ef_19u (m : MethodId) (x0 : Addr) (x1 : Int32) (x2 : Int32) : entryFrame m #[(.ref x0), (.int x1), (.int x2)] 3 = mkF m 0 #[.val (.ref x0), .val (.int x1), .val (.int x2)] [] := by first | (simp [entryFrame, mkF, argsToLocals, Value.category]; done) | rfl
def Q19u (Z : State) (d : Addr) (i : Int32) (ch : Int32) (kd : ClassId) (mz : Int32) (ys : List Value) (h0 : Heap) (n0 : Nat) (v : Option Value) (h : Heap) (L : List Loc) : Prop := ∃ (yz : List Value), v = none ∧ Fr n0 L ∧ Keep h0 h [d] ∧ (Arv Z h d kd .byte mz yz (.int 0)) ∧ (yz = (ys.set (i <<< ((1 : Int32) &&& 31)).toNatClampNeg (.int (nar .byte ((ch >>> ((0 : Int32) &&& 31)).toInt8.toInt32)))).set ((i <<< ((1 : Int32) &&& 31)) + (1 : Int32)).toNatClampNeg (.int (nar .byte ((ch >>> ((8 : Int32) &&& 31)).toInt8.toInt32))))
set_option maxRecDepth 65536 in
set_option maxHeartbeats 40000000 in
theorem rm19u (l : Launch) (Z : State) (a0 : Array Value) (hw : ∀ d ∈ tables_1, d.before a0 Z = true) (ws : List Jvm.Cond) (d : Addr) (i : Int32) (ch : Int32) (kd : ClassId) (mz : Int32) (ys : List Value) (h0 : Heap) (n0 : Nat) (Z0 : n0 ≤ h0.size) (P0 : Old Z n0 h0) (P1 : Sta Z Z.heap "java/lang/StringUTF16" "$assertionsDisabled" "Z" (.int 1)) (P2 : Sta Z Z.heap "java/lang/StringUTF16" "HI_BYTE_SHIFT" "I" (.int 0)) (P3 : Sta Z Z.heap "java/lang/StringUTF16" "LO_BYTE_SHIFT" "I" (.int 8)) (P4 : Arv Z h0 d kd .byte mz ys (.int 0)) (P5 : n0 ≤ d) (hi : 0 ≤ i.toInt ∧ 2 * i.toInt + 1 < mz.toInt ∧ mz.toInt ≤ 8000) (hyl : mz.toNatClampNeg ≤ ys.length) :
    MetFree l (⟨"java/lang/StringUTF16", "putChar", "([BII)V"⟩ : MethodName) (head1 (Jvm.Cond.code (⟨"java/lang/StringUTF16", "putChar", "([BII)V"⟩ : MethodName) jdk_52_method_4_code 3 none :: ws) ({ frames := 0, cells := 0, slots := 0, locals := 0 } : Room)) (fun argz U => argz = #[(.ref d), (.int i), (.int ch)] ∧ Z.Warmed39 U.vm ∧ U.heap = h0) (fun _ _ _ _ _ => True) (fun _ U o U' => ∃ v L, o = .returned v ∧ Q19u Z d i ch kd mz ys h0 n0 v U'.heap L ∧ FrameEnd U o U' L ({ frames := 0, cells := 0, slots := 0, locals := 0 } : Room).cells ({ frames := 0, cells := 0, slots := 0, locals := 0 } : Room).slots) := by
  refine MetFree.of_bodySF (plainFor_of_name pn_java_lang_StringUTF16) hisR ?_
  intro p e s m args below meth c s₁ Bd hml0 hP hK
  obtain ⟨rfl, hZ, hh⟩ := hP
  have hx := Bd.exec
  have hby := Bd.bytes
  have hml : c.maxLocals = 3 := hml0
  have hown : s.vm.findClass "java/lang/StringUTF16" = some m.cls := findClass_of_methodNamed Bd.named
  have hnm := (name_of_methodNamed Bd.named Bd.method).1
  have X0 : Stand p l e ({ frames := 0, cells := 0, slots := 0, locals := 0 } : Room) s m #[(.ref d), (.int i), (.int ch)] below meth c s₁ [] 0 0 := Stand.of_body Bd
  have e0 : s₁.heap = h0 := by rw [← hh, Bd.state]; rfl
  have N0 := Fr.nil n0
  have K0 : Keep h0 h0 [d] := Keep.refl _ _
  have G : Gets p e below (s₁.setTop (entryFrame m #[(.ref d), (.int i), (.int ch)] 3)) (s₁.setTop (mkF m 0 #[.val (.ref d), .val (.int i), .val (.int ch)] [])) := fun tq kq => castTop (ef_19u m d i ch) kq
  have F1 : Sta Z h0 "java/lang/StringUTF16" "$assertionsDisabled" "Z" (.int 1) := P1.ext P0.2
  obtain ⟨T2, X2, e2, st2⟩ := getS2 X0 hx hZ hown (host := "") (Or.inl (o_w hw 91 rfl)) Via.refl e0 F1 (g := o_g G) rfl (hb hby d19_0)
  replace G := o_nxs (q := 3) (st := [(.int 1)]) G st2 rfl
  replace G := o_ifYes (q := 28) G X2.here hx (hb hby d19_3) (by decide) (by decide) (by decide)
  replace G := o_iloadN (q := 29) G X2.here hx (hb hby d19_28) rfl rfl
  replace G := o_iconst (q := 30) G X2.here hx (hb hby d19_29) (v := (1 : Int32)) (by decide) rfl
  obtain ⟨j, hn_j⟩ : ∃ z : Int32, (i <<< ((1 : Int32) &&& 31)) = z := ⟨_, rfl⟩
  replace G := o_ishl (q := 31) G X2.here hx (hb hby d19_30) hn_j rfl
  have hj : j.toInt = 2 * i.toInt := by rw [← hn_j]; exact o_sh hi.1 (by omega)
  replace G := o_istoreN (q := 32) (l' := #[.val (.ref d), .val (.int j), .val (.int ch)]) G X2.here hx (hb hby d19_31) rfl rfl
  replace G := o_aloadN (q := 33) G X2.here hx (hb hby d19_32) rfl rfl rfl
  replace G := o_iloadN (q := 34) G X2.here hx (hb hby d19_33) rfl rfl
  obtain ⟨j1, hn_j1⟩ : ∃ z : Int32, (j + (1 : Int32)) = z := ⟨_, rfl⟩
  replace G := o_iinc (q := 37) (l' := #[.val (.ref d), .val (.int j1), .val (.int ch)]) (w := (1 : Int32)) G X2.here hx (hb hby d19_34) (by decide) rfl hn_j1 rfl rfl
  have hj1 : j1.toInt = j.toInt + 1 := by
    rw [← hn_j1]
    have a := c_iadd j 1
    rw [show (1 : Int32).toInt = 1 from rfl] at a
    have r := rng32 (j + 1)
    omega
  replace G := o_iloadN (q := 38) G X2.here hx (hb hby d19_37) rfl rfl
  have F4 : Sta Z h0 "java/lang/StringUTF16" "HI_BYTE_SHIFT" "I" (.int 0) := P2.ext P0.2
  obtain ⟨T5, X5, e5, st5⟩ := getS2 X2 hx hZ hown (host := "") (Or.inl (o_w hw 92 rfl)) Via.refl e2 F4 (g := o_g G) rfl (hb hby d19_38)
  replace G := o_nxs (q := 41) (st := [(.int 0), (.int ch), (.int j), (.ref d)]) G st5 rfl
  replace G := o_ishr (q := 42) G X5.here hx (hb hby d19_41) rfl rfl
  replace G := o_i2b (q := 43) G X5.here hx (hb hby d19_42) rfl rfl
  obtain ⟨c6, Ar6, q6, S6, N6', H6, G6'⟩ := id P4
  have hin6 : ¬ (j < 0 ∨ c6.slots.size ≤ (j).toNatClampNeg) := inb_of S6 (o_ib (by omega) (by omega))
  obtain ⟨T6, h6, X6, e6, W6, st6⟩ := stB X5 hx hZ e5 Ar6 (j := j) hin6 (g := o_g G) rfl rfl (hb hby d19_43)
  have N6 := Fr.snoc X6 N0 P5
  have Z6 : n0 ≤ h6.size := Nat.le_trans Z0 (Keep.of_wr W6).1
  have K6 : Keep h0 h6 [d] := K0.wr W6 (Or.inl (List.mem_of_getElem? (i := 0) rfl))
  have V6 : Arv Z h6 d kd .byte mz (ys.set j.toNatClampNeg (.int (nar .byte ((ch >>> ((0 : Int32) &&& 31)).toInt8.toInt32)))) (.int 0) := Arv.set Ar6 q6 S6 N6' H6 G6' (fits_nar_byte _) W6 j.toNatClampNeg rfl (by (try simp only [List.length_set]); have := o_cn (i := j) (by omega); have := o_cn (i := mz) (by omega); omega)
  replace G := o_nxs (q := 44) (st := []) G st6 rfl
  replace G := o_aloadN (q := 45) G X6.here hx (hb hby d19_44) rfl rfl rfl
  replace G := o_iloadN (q := 46) G X6.here hx (hb hby d19_45) rfl rfl
  replace G := o_iloadN (q := 47) G X6.here hx (hb hby d19_46) rfl rfl
  have F7 := (P0.wr W6 P5)
  have F8 : Sta Z h6 "java/lang/StringUTF16" "LO_BYTE_SHIFT" "I" (.int 8) := P3.ext F7.2
  obtain ⟨T9, X9, e9, st9⟩ := getS2 X6 hx hZ hown (host := "") (Or.inl (o_w hw 93 rfl)) Via.refl e6 F8 (g := o_g G) rfl (hb hby d19_47)
  replace G := o_nxs (q := 50) (st := [(.int 8), (.int ch), (.int j1), (.ref d)]) G st9 rfl
  replace G := o_ishr (q := 51) G X9.here hx (hb hby d19_50) rfl rfl
  replace G := o_i2b (q := 52) G X9.here hx (hb hby d19_51) rfl rfl
  obtain ⟨c10, Ar10, q10, S10, N10', H10, G10'⟩ := id V6
  have hin10 : ¬ (j1 < 0 ∨ c10.slots.size ≤ (j1).toNatClampNeg) := inb_of S10 (o_ib (by omega) (by omega))
  obtain ⟨T10, h10, X10, e10, W10, st10⟩ := stB X9 hx hZ e9 Ar10 (j := j1) hin10 (g := o_g G) rfl rfl (hb hby d19_52)
  have N10 := Fr.snoc X10 N6 P5
  have Z10 : n0 ≤ h10.size := Nat.le_trans Z6 (Keep.of_wr W10).1
  have K10 : Keep h0 h10 [d] := K6.wr W10 (Or.inl (List.mem_of_getElem? (i := 0) rfl))
  have V10 : Arv Z h10 d kd .byte mz ((ys.set j.toNatClampNeg (.int (nar .byte ((ch >>> ((0 : Int32) &&& 31)).toInt8.toInt32)))).set j1.toNatClampNeg (.int (nar .byte ((ch >>> ((8 : Int32) &&& 31)).toInt8.toInt32)))) (.int 0) := Arv.set Ar10 q10 S10 N10' H10 G10' (fits_nar_byte _) W10 j1.toNatClampNeg rfl (by (try simp only [List.length_set]); have := o_cn (i := j1) (by omega); have := o_cn (i := mz) (by omega); omega)
  replace G := o_nxs (q := 53) (st := []) G st10 rfl
  obtain ⟨fs, hr, hrun, hended, hW, hsame⟩ := X10.leave (v := none) (fun _ => rfl)
  refine ⟨_, _, G _ (X10.returnOut hx Bd.returns (hb hby d19_53) hr), hrun, hended, _, _, rfl, ?_, ⟨_, rfl⟩, hW, hsame.mono (by decide) (by decide)⟩
  show Q19u Z d i ch kd mz ys h0 n0 _ T10.heap _
  rw [e10]
  exact ⟨((ys.set j.toNatClampNeg (.int (nar .byte ((ch >>> ((0 : Int32) &&& 31)).toInt8.toInt32)))).set j1.toNatClampNeg (.int (nar .byte ((ch >>> ((8 : Int32) &&& 31)).toInt8.toInt32)))), rfl, N10, K10, V10, (by rw [hn_j, hn_j1])⟩
theorem o_put {ys yz : List Value} {i k nz : Int32} {x y u w : Value} (h : yz = (ys.set (i <<< ((1 : Int32) &&& 31)).toNatClampNeg x).set ((i <<< ((1 : Int32) &&& 31)) + (1 : Int32)).toNatClampNeg y) (hi : 0 ≤ i.toInt ∧ i.toInt < 4000) (hk : 0 ≤ k.toInt ∧ k.toInt < 4000) (hl : 2 * i.toInt + 1 < (ys.length : Int))
    (hb : k.toInt < i.toInt → ys.getD (k <<< ((1 : Int32) &&& 31)).toNatClampNeg (.int 0) = u ∧ ys.getD ((k <<< ((1 : Int32) &&& 31)) + (1 : Int32)).toNatClampNeg (.int 0) = w) (hx : i = k → x = u ∧ y = w) :
    k.toInt < i.toInt + 1 → yz.getD (k <<< ((1 : Int32) &&& 31)).toNatClampNeg (.int 0) = u ∧ yz.getD ((k <<< ((1 : Int32) &&& 31)) + (1 : Int32)).toNatClampNeg (.int 0) = w := by
  intro hki
  have a1 := o_sh hi.1 hi.2
  have a2 := o_sh hk.1 hk.2
  have b1 := c_iadd (i <<< ((1 : Int32) &&& 31)) 1
  have b2 := c_iadd (k <<< ((1 : Int32) &&& 31)) 1
  rw [show (1 : Int32).toInt = 1 from rfl] at b1 b2
  have r1 := rng32 ((i <<< ((1 : Int32) &&& 31)) + 1)
  have r2 := rng32 ((k <<< ((1 : Int32) &&& 31)) + 1)
  have e1 := o_cn (i := i <<< ((1 : Int32) &&& 31)) (by omega)
  have e2 := o_cn (i := k <<< ((1 : Int32) &&& 31)) (by omega)
  have e3 := o_cn (i := (i <<< ((1 : Int32) &&& 31)) + 1) (by omega)
  have e4 := o_cn (i := (k <<< ((1 : Int32) &&& 31)) + 1) (by omega)
  by_cases q : i = k
  · subst q
    obtain ⟨rfl, rfl⟩ := hx rfl
    rw [h]
    simp only [List.getD_eq_getElem?_getD]
    generalize (i <<< ((1 : Int32) &&& 31)).toNatClampNeg = A at *
    generalize ((i <<< ((1 : Int32) &&& 31)) + (1 : Int32)).toNatClampNeg = B at *
    refine ⟨?_, ?_⟩
    · rw [List.getElem?_set_ne (by omega), List.getElem?_set_self (by omega)]; rfl
    · rw [List.getElem?_set_self (by rw [List.length_set]; omega)]; rfl
  · have hne : i.toInt ≠ k.toInt := fun z => q (Int32.toInt_inj.mp z)
    obtain ⟨h1, h2⟩ := hb (by omega)
    rw [h]
    simp only [List.getD_eq_getElem?_getD] at h1 h2 ⊢
    generalize (i <<< ((1 : Int32) &&& 31)).toNatClampNeg = A at *
    generalize ((i <<< ((1 : Int32) &&& 31)) + (1 : Int32)).toNatClampNeg = B at *
    generalize (k <<< ((1 : Int32) &&& 31)).toNatClampNeg = C at *
    generalize ((k <<< ((1 : Int32) &&& 31)) + (1 : Int32)).toNatClampNeg = D at *
    rw [List.getElem?_set_ne (by omega), List.getElem?_set_ne (by omega), List.getElem?_set_ne (by omega), List.getElem?_set_ne (by omega)]
    exact ⟨h1, h2⟩
theorem d18_0 : decode jdk_52_method_3_code 0 = .ok (.iload_n 0, 1) := by decide +kernel
theorem d18_1 : decode jdk_52_method_3_code 1 = .ok (.ifCond .ge 11, 3) := by decide +kernel
theorem d18_12 : decode jdk_52_method_3_code 12 = .ok (.iload_n 0, 1) := by decide +kernel
theorem d18_13 : decode jdk_52_method_3_code 13 = .ok (.ldc 20, 2) := by decide +kernel
theorem d18_15 : decode jdk_52_method_3_code 15 = .ok (.if_icmp .lt 40, 3) := by decide +kernel
theorem d18_55 : decode jdk_52_method_3_code 55 = .ok (.iload_n 0, 1) := by decide +kernel
theorem d18_56 : decode jdk_52_method_3_code 56 = .ok (.iconst 1, 1) := by decide +kernel
theorem d18_57 : decode jdk_52_method_3_code 57 = .ok (.ishl, 1) := by decide +kernel
theorem d18_58 : decode jdk_52_method_3_code 58 = .ok (.ireturn, 1) := by decide +kernel
theorem ef_18u (m : MethodId) (x0 : Int32) : entryFrame m #[(.int x0)] 1 = mkF m 0 #[.val (.int x0)] [] := by first | (simp [entryFrame, mkF, argsToLocals, Value.category]; done) | rfl
def Q18u (Z : State) (nz : Int32) (h0 : Heap) (n0 : Nat) (v : Option Value) (h : Heap) (L : List Loc) : Prop := v = some (.int (nz <<< ((1 : Int32) &&& 31))) ∧ Fr n0 L ∧ h = h0
set_option maxRecDepth 65536 in
set_option maxHeartbeats 40000000 in
theorem rm18u (l : Launch) (Z : State) (a0 : Array Value) (hw : ∀ d ∈ tables_1, d.before a0 Z = true) (ws : List Jvm.Cond) (nz : Int32) (h0 : Heap) (n0 : Nat) (Z0 : n0 ≤ h0.size) (hn : 0 ≤ nz.toInt ∧ nz.toInt ≤ 54) :
    MetFree l (⟨"java/lang/StringUTF16", "newBytesLength", "(I)I"⟩ : MethodName) (head1 (Jvm.Cond.code (⟨"java/lang/StringUTF16", "newBytesLength", "(I)I"⟩ : MethodName) jdk_52_method_3_code 1 (some .int) :: ws) ({ frames := 0, cells := 0, slots := 0, locals := 0 } : Room)) (fun argz U => argz = #[(.int nz)] ∧ Z.Warmed39 U.vm ∧ U.heap = h0) (fun _ _ _ _ _ => True) (fun _ U o U' => ∃ v L, o = .returned v ∧ Q18u Z nz h0 n0 v U'.heap L ∧ FrameEnd U o U' L ({ frames := 0, cells := 0, slots := 0, locals := 0 } : Room).cells ({ frames := 0, cells := 0, slots := 0, locals := 0 } : Room).slots) := by
  refine MetFree.of_bodySF (plainFor_of_name pn_java_lang_StringUTF16) hisR ?_
  intro p e s m args below meth c s₁ Bd hml0 hP hK
  obtain ⟨rfl, hZ, hh⟩ := hP
  have hx := Bd.exec
  have hby := Bd.bytes
  have hml : c.maxLocals = 1 := hml0
  have hown : s.vm.findClass "java/lang/StringUTF16" = some m.cls := findClass_of_methodNamed Bd.named
  have hnm := (name_of_methodNamed Bd.named Bd.method).1
  have X0 : Stand p l e ({ frames := 0, cells := 0, slots := 0, locals := 0 } : Room) s m #[(.int nz)] below meth c s₁ [] 0 0 := Stand.of_body Bd
  have e0 : s₁.heap = h0 := by rw [← hh, Bd.state]; rfl
  have N0 := Fr.nil n0
  have G : Gets p e below (s₁.setTop (entryFrame m #[(.int nz)] 1)) (s₁.setTop (mkF m 0 #[.val (.int nz)] [])) := fun tq kq => castTop (ef_18u m nz) kq
  replace G := o_iloadN (q := 1) G X0.here hx (hb hby d18_0) rfl rfl
  have hc1_1 : ¬ (nz < (0 : Int32)) := (by rw [Int32.lt_iff_toInt_lt, show (0 : Int32).toInt = 0 from rfl]; omega)
  replace G := o_ifYes (q := 12) G X0.here hx (hb hby d18_1) ((if0 _ _).trans (flt hc1_1).2.1) (by decide) (by decide)
  replace G := o_iloadN (q := 13) G X0.here hx (hb hby d18_12) rfl rfl
  replace G := o_nxs (q := 15) (st := [(.int 1073741823), (.int nz)]) G (X0.ldcInt hx hown (mvT hZ (o_w hw 87 rfl)) (g := o_g G) rfl (hb hby d18_13)) rfl
  have hc15_2 : nz < (1073741823 : Int32) := (by rw [Int32.lt_iff_toInt_lt, show (1073741823 : Int32).toInt = 1073741823 from rfl]; omega)
  replace G := o_icmpYes (q := 55) G X0.here hx (hb hby d18_15) (tlt hc15_2).1 (by decide) (by decide)
  replace G := o_iloadN (q := 56) G X0.here hx (hb hby d18_55) rfl rfl
  replace G := o_iconst (q := 57) G X0.here hx (hb hby d18_56) (v := (1 : Int32)) (by decide) rfl
  replace G := o_ishl (q := 58) G X0.here hx (hb hby d18_57) rfl rfl
  obtain ⟨fs, hr, hrun, hended, hW, hsame⟩ := X0.leave (v := some (.int (nz <<< ((1 : Int32) &&& 31)))) (fun h => by rw [Bd.returns] at h; cases h)
  refine ⟨_, _, G _ (retOut X0 hx Bd.returns rfl (Or.inl ⟨rfl, Or.inl rfl, _, rfl⟩) (hb hby d18_58) hr), hrun, hended, _, _, rfl, ?_, ⟨_, rfl⟩, hW, hsame.mono (by decide) (by decide)⟩
  show Q18u Z nz h0 n0 _ s₁.heap _
  rw [e0]
  exact ⟨rfl, N0, rfl⟩
theorem pd_0 : parseMethodDescriptor "(I)I" = some ⟨[.int], some .int⟩ := by decide +kernel
theorem d17_0 : decode jdk_52_method_2_code 0 = .ok (.iload_n 0, 1) := by decide +kernel
theorem d17_1 : decode jdk_52_method_2_code 1 = .ok (.invokestatic 11, 3) := by decide +kernel
theorem d17_4 : decode jdk_52_method_2_code 4 = .ok (.newarray .byte, 2) := by decide +kernel
theorem d17_6 : decode jdk_52_method_2_code 6 = .ok (.areturn, 1) := by decide +kernel
theorem ef_17u (m : MethodId) (x0 : Int32) : entryFrame m #[(.int x0)] 1 = mkF m 0 #[.val (.int x0)] [] := by first | (simp [entryFrame, mkF, argsToLocals, Value.category]; done) | rfl
def Q17u (Z : State) (nz : Int32) (h0 : Heap) (n0 : Nat) (v : Option Value) (h : Heap) (L : List Loc) : Prop := ∃ (b : Addr) (kb : ClassId), v = some (.ref b) ∧ Fr n0 L ∧ Keep h0 h [] ∧ h0.size ≤ b ∧ (Arv Z h b kb .byte (nz <<< ((1 : Int32) &&& 31)) [(.int 0), (.int 0), (.int 0), (.int 0), (.int 0), (.int 0), (.int 0), (.int 0), (.int 0), (.int 0), (.int 0), (.int 0), (.int 0), (.int 0), (.int 0), (.int 0), (.int 0), (.int 0), (.int 0), (.int 0), (.int 0), (.int 0), (.int 0), (.int 0), (.int 0), (.int 0), (.int 0), (.int 0), (.int 0), (.int 0), (.int 0), (.int 0), (.int 0), (.int 0), (.int 0), (.int 0), (.int 0), (.int 0), (.int 0), (.int 0), (.int 0), (.int 0), (.int 0), (.int 0), (.int 0), (.int 0), (.int 0), (.int 0), (.int 0), (.int 0), (.int 0), (.int 0), (.int 0), (.int 0), (.int 0), (.int 0), (.int 0), (.int 0), (.int 0), (.int 0), (.int 0), (.int 0), (.int 0), (.int 0), (.int 0), (.int 0), (.int 0), (.int 0), (.int 0), (.int 0), (.int 0), (.int 0), (.int 0), (.int 0), (.int 0), (.int 0), (.int 0), (.int 0), (.int 0), (.int 0), (.int 0), (.int 0), (.int 0), (.int 0), (.int 0), (.int 0), (.int 0), (.int 0), (.int 0), (.int 0), (.int 0), (.int 0), (.int 0), (.int 0), (.int 0), (.int 0), (.int 0), (.int 0), (.int 0), (.int 0), (.int 0), (.int 0), (.int 0), (.int 0), (.int 0), (.int 0), (.int 0), (.int 0)] (.int 0))
set_option maxRecDepth 65536 in
set_option maxHeartbeats 40000000 in
theorem rm17u (l : Launch) (Z : State) (a0 : Array Value) (hw : ∀ d ∈ tables_1, d.before a0 Z = true) (ws : List Jvm.Cond) (nz : Int32) (h0 : Heap) (n0 : Nat) (Z0 : n0 ≤ h0.size) (hn : 0 ≤ nz.toInt ∧ nz.toInt ≤ 54) :
    MetFree l (⟨"java/lang/StringUTF16", "newBytesFor", "(I)[B"⟩ : MethodName) (head1 (Jvm.Cond.code (⟨"java/lang/StringUTF16", "newBytesFor", "(I)[B"⟩ : MethodName) jdk_52_method_2_code 1 (some (.array .byte)) :: ws) ({ frames := 1, cells := 1, slots := 108, locals := 12 } : Room)) (fun argz U => argz = #[(.int nz)] ∧ Z.Warmed39 U.vm ∧ U.heap = h0) (fun _ _ _ _ _ => True) (fun _ U o U' => ∃ v L, o = .returned v ∧ Q17u Z nz h0 n0 v U'.heap L ∧ FrameEnd U o U' L ({ frames := 1, cells := 1, slots := 108, locals := 12 } : Room).cells ({ frames := 1, cells := 1, slots := 108, locals := 12 } : Room).slots) := by
  refine MetFree.of_bodySF (plainFor_of_name pn_java_lang_StringUTF16) hisR ?_
  intro p e s m args below meth c s₁ Bd hml0 hP hK
  obtain ⟨rfl, hZ, hh⟩ := hP
  have hx := Bd.exec
  have hby := Bd.bytes
  have hml : c.maxLocals = 1 := hml0
  have hown : s.vm.findClass "java/lang/StringUTF16" = some m.cls := findClass_of_methodNamed Bd.named
  have hnm := (name_of_methodNamed Bd.named Bd.method).1
  have X0 : Stand p l e ({ frames := 1, cells := 1, slots := 108, locals := 12 } : Room) s m #[(.int nz)] below meth c s₁ [] 0 0 := Stand.of_body Bd
  have e0 : s₁.heap = h0 := by rw [← hh, Bd.state]; rfl
  have N0 := Fr.nil n0
  have K0 : Keep h0 h0 [] := Keep.refl _ _
  have G : Gets p e below (s₁.setTop (entryFrame m #[(.int nz)] 1)) (s₁.setTop (mkF m 0 #[.val (.int nz)] [])) := fun tq kq => castTop (ef_17u m nz) kq
  replace G := o_iloadN (q := 1) G X0.here hx (hb hby d17_0) rfl rfl
  obtain ⟨_, _, ⟨T1, L1, kk1, nn1⟩, -, X1, ⟨Lc1, hQ1, l1, y1, z1⟩, st1⟩ := Jvm.LawKit.callS X0 hx (y := (⟨"java/lang/StringUTF16", "newBytesLength", "(I)I"⟩ : MethodName)) hown (mvT hZ (o_w hw 84 rfl)) (mvT hZ (o_w hw 85 rfl)) (mvT hZ (o_w hw 23 rfl)) (mvT hZ (o_w hw 86 rfl)) (by decide) (backOf (W := 0) (rm18u l Z a0 hw [] nz h0 n0 Z0 hn) hZ (o_w hw 86 rfl) (o_w hw 23 rfl) (by decide) (by decide)) (g := o_g G) rfl (by rw [hml]; rfl) (argsL := [(.int nz)]) (rest := []) (lenOf pd_0 rfl) rfl (by show 2 * 0 + _ ≤ _; exact Nat.le_of_eq rfl) (hb hby d17_1) (fun _ _ => ⟨rfl, e0, (by decide : 0 + 0 ≤ _), (by decide : 0 + 0 ≤ _)⟩)
  dsimp only [Pt.U, Pt.locs, Pt.cells, Pt.slots] at X1 l1 y1 z1 st1 hQ1
  subst l1 y1 z1
  obtain ⟨rfl, N1q, e1⟩ := hQ1
  have N1 := Fr.app N0 N1q
  replace G := o_nxs (q := 4) (st := [(.int (nz <<< ((1 : Int32) &&& 31)))]) G st1 rfl
  have hm := o_sh hn.1 (by omega)
  have hc108 := o_cn (i := (nz <<< ((1 : Int32) &&& 31))) (by omega)
  obtain ⟨T2, h2, k2, X2, e2, E2, A2, st2⟩ := newP X1 hx hZ (o_w hw 25 rfl) e1 (g := o_g G) rfl (hb hby d17_4) rfl (by rw [Int32.lt_iff_toInt_lt, show (0 : Int32).toInt = 0 from rfl]; omega) (cap := 108) (by omega) (by decide) (by decide) (by decide)
  obtain ⟨b2, g2⟩ : ∃ z, z = h0.size := ⟨_, rfl⟩
  rw [← g2] at A2 st2
  have ge_b2 : n0 ≤ b2 := Nat.le_trans Z0 (Nat.le_of_eq g2.symm)
  have sz_b2 : h0.size ≤ b2 := Nat.le_trans K0.1 (Nat.le_of_eq g2.symm)
  have Z2 : n0 ≤ h2.size := Nat.le_trans Z0 E2.1
  have K2 : Keep h0 h2 [] := K0.ext E2
  have V2 : Arv Z h2 b2 k2 .byte (nz <<< ((1 : Int32) &&& 31)) [(.int 0), (.int 0), (.int 0), (.int 0), (.int 0), (.int 0), (.int 0), (.int 0), (.int 0), (.int 0), (.int 0), (.int 0), (.int 0), (.int 0), (.int 0), (.int 0), (.int 0), (.int 0), (.int 0), (.int 0), (.int 0), (.int 0), (.int 0), (.int 0), (.int 0), (.int 0), (.int 0), (.int 0), (.int 0), (.int 0), (.int 0), (.int 0), (.int 0), (.int 0), (.int 0), (.int 0), (.int 0), (.int 0), (.int 0), (.int 0), (.int 0), (.int 0), (.int 0), (.int 0), (.int 0), (.int 0), (.int 0), (.int 0), (.int 0), (.int 0), (.int 0), (.int 0), (.int 0), (.int 0), (.int 0), (.int 0), (.int 0), (.int 0), (.int 0), (.int 0), (.int 0), (.int 0), (.int 0), (.int 0), (.int 0), (.int 0), (.int 0), (.int 0), (.int 0), (.int 0), (.int 0), (.int 0), (.int 0), (.int 0), (.int 0), (.int 0), (.int 0), (.int 0), (.int 0), (.int 0), (.int 0), (.int 0), (.int 0), (.int 0), (.int 0), (.int 0), (.int 0), (.int 0), (.int 0), (.int 0), (.int 0), (.int 0), (.int 0), (.int 0), (.int 0), (.int 0), (.int 0), (.int 0), (.int 0), (.int 0), (.int 0), (.int 0), (.int 0), (.int 0), (.int 0), (.int 0), (.int 0), (.int 0)] (.int 0) := (Arv.new A2 (by rw [Int32.lt_iff_toInt_lt, show (0 : Int32).toInt = 0 from rfl]; omega)).pad (pad_rep [] (.int 0) 108)
  replace G := o_nxs (q := 6) (st := [(.ref b2)]) G st2 rfl
  obtain ⟨fs, hr, hrun, hended, hW, hsame⟩ := X2.leave (v := some (.ref b2)) (fun h => by rw [Bd.returns] at h; cases h)
  refine ⟨_, _, G _ (retOut X2 hx Bd.returns rfl (Or.inr (Or.inr (Or.inr (Or.inr ⟨rfl, rfl, rfl⟩)))) (hb hby d17_6) hr), hrun, hended, _, _, rfl, ?_, ⟨_, rfl⟩, hW, hsame.mono (by decide) (by decide)⟩
  show Q17u Z nz h0 n0 _ T2.heap _
  rw [e2]
  exact ⟨b2, k2, rfl, N1, K2, sz_b2, V2⟩
theorem pd_1 : parseMethodDescriptor "(I)[B" = some ⟨[.int], some (.array .byte)⟩ := by decide +kernel
theorem pd_2 : parseMethodDescriptor "([BII)V" = some ⟨[(.array .byte), .int, .int], none⟩ := by decide +kernel
theorem d16_0 : decode jdk_52_method_14_code 0 = .ok (.iload_n 2, 1) := by decide +kernel
theorem d16_1 : decode jdk_52_method_14_code 1 = .ok (.invokestatic 107, 3) := by decide +kernel
theorem d16_4 : decode jdk_52_method_14_code 4 = .ok (.astore_n 3, 1) := by decide +kernel
theorem d16_5 : decode jdk_52_method_14_code 5 = .ok (.iconst 0, 1) := by decide +kernel
theorem d16_6 : decode jdk_52_method_14_code 6 = .ok (.istore 4, 2) := by decide +kernel
theorem d16_8 : decode jdk_52_method_14_code 8 = .ok (.iload 4, 2) := by decide +kernel
theorem d16_10 : decode jdk_52_method_14_code 10 = .ok (.iload_n 2, 1) := by decide +kernel
theorem d16_11 : decode jdk_52_method_14_code 11 = .ok (.if_icmp .ge 21, 3) := by decide +kernel
theorem d16_14 : decode jdk_52_method_14_code 14 = .ok (.aload_n 3, 1) := by decide +kernel
theorem d16_15 : decode jdk_52_method_14_code 15 = .ok (.iload 4, 2) := by decide +kernel
theorem d16_17 : decode jdk_52_method_14_code 17 = .ok (.aload_n 0, 1) := by decide +kernel
theorem d16_18 : decode jdk_52_method_14_code 18 = .ok (.iload_n 1, 1) := by decide +kernel
theorem d16_19 : decode jdk_52_method_14_code 19 = .ok (.caload, 1) := by decide +kernel
theorem d16_20 : decode jdk_52_method_14_code 20 = .ok (.invokestatic 111, 3) := by decide +kernel
theorem d16_23 : decode jdk_52_method_14_code 23 = .ok (.iinc 1 1, 3) := by decide +kernel
theorem d16_26 : decode jdk_52_method_14_code 26 = .ok (.iinc 4 1, 3) := by decide +kernel
theorem d16_29 : decode jdk_52_method_14_code 29 = .ok (.goto (-21), 3) := by decide +kernel
theorem d16_32 : decode jdk_52_method_14_code 32 = .ok (.aload_n 3, 1) := by decide +kernel
theorem d16_33 : decode jdk_52_method_14_code 33 = .ok (.areturn, 1) := by decide +kernel
theorem ef_16u (m : MethodId) (x0 : Addr) (x2 : Int32) : entryFrame m #[(.ref x0), (.int 0), (.int x2)] 5 = mkF m 0 #[.val (.ref x0), .val (.int 0), .val (.int x2), .unset, .unset] [] := by first | (simp [entryFrame, mkF, argsToLocals, Value.category]; done) | rfl
def Q16u (Z : State) (a : Addr) (nz : Int32) (ks : ClassId) (f : Int32 → Int32) (cs : List Value) (k : Int32) (h0 : Heap) (n0 : Nat) (v : Option Value) (h : Heap) (L : List Loc) : Prop := ∃ (b : Addr) (kb : ClassId) (yz : List Value), v = some (.ref b) ∧ Fr n0 L ∧ Keep h0 h [] ∧ h0.size ≤ b ∧ (Arv Z h b kb .byte (nz <<< ((1 : Int32) &&& 31)) yz (.int 0)) ∧ ((nz <<< ((1 : Int32) &&& 31)).toNatClampNeg ≤ yz.length) ∧ (yz.getD (k <<< ((1 : Int32) &&& 31)).toNatClampNeg (.int 0) = .int (nar .byte (((f k) >>> ((0 : Int32) &&& 31)).toInt8.toInt32)) ∧ yz.getD ((k <<< ((1 : Int32) &&& 31)) + (1 : Int32)).toNatClampNeg (.int 0) = .int (nar .byte (((f k) >>> ((8 : Int32) &&& 31)).toInt8.toInt32)))
set_option maxRecDepth 65536 in
set_option maxHeartbeats 40000000 in
theorem rm16u (l : Launch) (Z : State) (a0 : Array Value) (hw : ∀ d ∈ tables_1, d.before a0 Z = true) (ws : List Jvm.Cond) (a : Addr) (nz : Int32) (ks : ClassId) (f : Int32 → Int32) (cs : List Value) (k : Int32) (h0 : Heap) (n0 : Nat) (Z0 : n0 ≤ h0.size) (P0 : Old Z n0 h0) (P1 : Sta Z Z.heap "java/lang/StringUTF16" "$assertionsDisabled" "Z" (.int 1)) (P2 : Sta Z Z.heap "java/lang/StringUTF16" "HI_BYTE_SHIFT" "I" (.int 0)) (P3 : Sta Z Z.heap "java/lang/StringUTF16" "LO_BYTE_SHIFT" "I" (.int 8)) (P4 : Arv Z h0 a ks .char nz cs (.int 0)) (hf : ∀ i : Int32, 0 ≤ i.toInt → i.toInt < nz.toInt → cs.getD i.toNatClampNeg (.int 0) = .int (f i)) (hk : 0 ≤ k.toInt ∧ k.toInt < nz.toInt ∧ nz.toInt ≤ 54) :
    MetFree l (⟨"java/lang/StringUTF16", "toBytes", "([CII)[B"⟩ : MethodName) (head1 (Jvm.Cond.code (⟨"java/lang/StringUTF16", "toBytes", "([CII)[B"⟩ : MethodName) jdk_52_method_14_code 5 (some (.array .byte)) :: ws) ({ frames := 2, cells := 1, slots := 108, locals := 24 } : Room)) (fun argz U => argz = #[(.ref a), (.int 0), (.int nz)] ∧ Z.Warmed39 U.vm ∧ U.heap = h0) (fun _ _ _ _ _ => True) (fun _ U o U' => ∃ v L, o = .returned v ∧ Q16u Z a nz ks f cs k h0 n0 v U'.heap L ∧ FrameEnd U o U' L ({ frames := 2, cells := 1, slots := 108, locals := 24 } : Room).cells ({ frames := 2, cells := 1, slots := 108, locals := 24 } : Room).slots) := by
  refine MetFree.of_bodySF (plainFor_of_name pn_java_lang_StringUTF16) hisR ?_
  intro p e s m args below meth c s₁ Bd hml0 hP hK
  obtain ⟨rfl, hZ, hh⟩ := hP
  have hx := Bd.exec
  have hby := Bd.bytes
  have hml : c.maxLocals = 5 := hml0
  have hown : s.vm.findClass "java/lang/StringUTF16" = some m.cls := findClass_of_methodNamed Bd.named
  have hnm := (name_of_methodNamed Bd.named Bd.method).1
  have X0 : Stand p l e ({ frames := 2, cells := 1, slots := 108, locals := 24 } : Room) s m #[(.ref a), (.int 0), (.int nz)] below meth c s₁ [] 0 0 := Stand.of_body Bd
  have e0 : s₁.heap = h0 := by rw [← hh, Bd.state]; rfl
  have N0 := Fr.nil n0
  have K0 : Keep h0 h0 [] := Keep.refl _ _
  have G : Gets p e below (s₁.setTop (entryFrame m #[(.ref a), (.int 0), (.int nz)] 5)) (s₁.setTop (mkF m 0 #[.val (.ref a), .val (.int 0), .val (.int nz), .unset, .unset] [])) := fun tq kq => castTop (ef_16u m a nz) kq
  replace G := o_iloadN (q := 1) G X0.here hx (hb hby d16_0) rfl rfl
  obtain ⟨_, _, ⟨T1, L1, kk1, nn1⟩, -, X1, ⟨Lc1, hQ1, l1, y1, z1⟩, st1⟩ := Jvm.LawKit.callS X0 hx (y := (⟨"java/lang/StringUTF16", "newBytesFor", "(I)[B"⟩ : MethodName)) hown (mvT hZ (o_w hw 81 rfl)) (mvT hZ (o_w hw 82 rfl)) (mvT hZ (o_w hw 23 rfl)) (mvT hZ (o_w hw 83 rfl)) (by decide) (backOf (W := 0) (rm17u l Z a0 hw [] nz h0 n0 Z0 ⟨by omega, hk.2.2⟩) hZ (o_w hw 83 rfl) (o_w hw 23 rfl) (by decide) (by decide)) (g := o_g G) rfl (by rw [hml]; rfl) (argsL := [(.int nz)]) (rest := []) (lenOf pd_1 rfl) rfl (by show 2 * 0 + _ ≤ _; exact Nat.le_of_eq rfl) (hb hby d16_1) (fun _ _ => ⟨rfl, e0, (by decide : 0 + 1 ≤ _), (by decide : 0 + 108 ≤ _)⟩)
  dsimp only [Pt.U, Pt.locs, Pt.cells, Pt.slots] at X1 l1 y1 z1 st1 hQ1
  subst l1 y1 z1
  obtain ⟨b_1, kb_1, rfl, N1q, K1q, B1_0, B1_1⟩ := hQ1
  have ne2 : a ≠ b_1 := Nat.ne_of_lt (Nat.lt_of_lt_of_le P4.lt B1_0)
  have ge_b_1 : n0 ≤ b_1 := Nat.le_trans Z0 B1_0
  have sz_b_1 : h0.size ≤ b_1 := Nat.le_trans K0.1 B1_0
  have Z1 : n0 ≤ T1.heap.size := Nat.le_trans Z0 K1q.1
  have K1 : Keep h0 T1.heap [] := K0.trans K1q all0
  have N1 := Fr.app N0 N1q
  replace G := o_nxs (q := 4) (st := [(.ref b_1)]) G st1 rfl
  replace G := o_astoreN (q := 5) (l' := #[.val (.ref a), .val (.int 0), .val (.int nz), .val (.ref b_1), .unset]) G X1.here hx (hb hby d16_4) rfl rfl rfl
  replace G := o_iconst (q := 6) G X1.here hx (hb hby d16_5) (v := (0 : Int32)) (by decide) rfl
  replace G := o_istore (q := 8) (l' := #[.val (.ref a), .val (.int 0), .val (.int nz), .val (.ref b_1), .val (.int 0)]) G X1.here hx (hb hby d16_6) rfl rfl
  have F3 := (P0.keep K1q all0)
  have F4 : Sta Z T1.heap "java/lang/StringUTF16" "$assertionsDisabled" "Z" (.int 1) := P1.ext F3.2
  have F5 : Sta Z T1.heap "java/lang/StringUTF16" "HI_BYTE_SHIFT" "I" (.int 0) := P2.ext F3.2
  have F6 : Sta Z T1.heap "java/lang/StringUTF16" "LO_BYTE_SHIFT" "I" (.int 8) := P3.ext F3.2
  have F7 := (P4.keep K1q nin0)
  obtain ⟨dn, hd0⟩ : ∃ dn : Nat, nz.toInt - (0 : Int32).toInt = (dn : Int) := ⟨(nz.toInt).toNat, by rw [show (0 : Int32).toInt = 0 from rfl]; omega⟩
  obtain ⟨Tl, hl_, lsl, ys, i, Xl, el_, Nl, Zl, Kl, Fl0, Fl1, Fl2, hi, hyl, hg, hd, G⟩ : ∃ (Tl : State) (hl_ : Heap) (lsl : List Loc) (ys : List Value) (i : Int32), Stand p l e ({ frames := 2, cells := 1, slots := 108, locals := 24 } : Room) s m #[(.ref a), (.int 0), (.int nz)] below meth c Tl lsl 1 108 ∧ Tl.heap = hl_ ∧ Fr n0 lsl ∧ n0 ≤ hl_.size ∧ Keep h0 hl_ [] ∧ Arv Z hl_ b_1 kb_1 .byte (nz <<< ((1 : Int32) &&& 31)) ys (.int 0) ∧ Old Z n0 hl_ ∧ Arv Z hl_ a ks .char nz cs (.int 0) ∧ (0 ≤ i.toInt ∧ i.toInt ≤ nz.toInt) ∧ ((nz <<< ((1 : Int32) &&& 31)).toNatClampNeg ≤ ys.length) ∧ (k.toInt < i.toInt → ys.getD (k <<< ((1 : Int32) &&& 31)).toNatClampNeg (.int 0) = .int (nar .byte (((f k) >>> ((0 : Int32) &&& 31)).toInt8.toInt32)) ∧ ys.getD ((k <<< ((1 : Int32) &&& 31)) + (1 : Int32)).toNatClampNeg (.int 0) = .int (nar .byte (((f k) >>> ((8 : Int32) &&& 31)).toInt8.toInt32))) ∧ (nz.toInt - i.toInt = (dn : Int)) ∧ Gets p e below (s₁.setTop (entryFrame m #[(.ref a), (.int 0), (.int nz)] 5)) (Tl.setTop (mkF m 8 #[.val (.ref a), .val (.int i), .val (.int nz), .val (.ref b_1), .val (.int i)] [])) := ⟨_, _, _, [(.int 0), (.int 0), (.int 0), (.int 0), (.int 0), (.int 0), (.int 0), (.int 0), (.int 0), (.int 0), (.int 0), (.int 0), (.int 0), (.int 0), (.int 0), (.int 0), (.int 0), (.int 0), (.int 0), (.int 0), (.int 0), (.int 0), (.int 0), (.int 0), (.int 0), (.int 0), (.int 0), (.int 0), (.int 0), (.int 0), (.int 0), (.int 0), (.int 0), (.int 0), (.int 0), (.int 0), (.int 0), (.int 0), (.int 0), (.int 0), (.int 0), (.int 0), (.int 0), (.int 0), (.int 0), (.int 0), (.int 0), (.int 0), (.int 0), (.int 0), (.int 0), (.int 0), (.int 0), (.int 0), (.int 0), (.int 0), (.int 0), (.int 0), (.int 0), (.int 0), (.int 0), (.int 0), (.int 0), (.int 0), (.int 0), (.int 0), (.int 0), (.int 0), (.int 0), (.int 0), (.int 0), (.int 0), (.int 0), (.int 0), (.int 0), (.int 0), (.int 0), (.int 0), (.int 0), (.int 0), (.int 0), (.int 0), (.int 0), (.int 0), (.int 0), (.int 0), (.int 0), (.int 0), (.int 0), (.int 0), (.int 0), (.int 0), (.int 0), (.int 0), (.int 0), (.int 0), (.int 0), (.int 0), (.int 0), (.int 0), (.int 0), (.int 0), (.int 0), (.int 0), (.int 0), (.int 0), (.int 0), (.int 0)], (0 : Int32), X1, rfl, N1, Z1, K1, B1_1, F3, F7, ⟨by decide, by rw [show (0 : Int32).toInt = 0 from rfl]; omega⟩, (by have := o_sh (i := nz) (by omega) (by omega); have := o_cn (i := (nz <<< ((1 : Int32) &&& 31))) (by omega); show _ ≤ 108; omega), (fun z => by rw [show (0 : Int32).toInt = 0 from rfl] at z; omega), hd0, G⟩
  clear hd0
  induction dn generalizing Tl hl_ lsl ys i
  have hmz := o_sh (i := nz) (by omega) (by omega)
  have hmc := o_cn (i := (nz <<< ((1 : Int32) &&& 31))) (by omega)
  replace G := o_iload (q := 10) G Xl.here hx (hb hby d16_8) rfl rfl
  replace G := o_iloadN (q := 11) G Xl.here hx (hb hby d16_10) rfl rfl
  have hc11_8 : ¬ (i < nz) := (by rw [Int32.lt_iff_toInt_lt]; omega)
  replace G := o_icmpYes (q := 32) G Xl.here hx (hb hby d16_11) (flt hc11_8).2.1 (by decide) (by decide)
  replace G := o_aloadN (q := 33) G Xl.here hx (hb hby d16_32) rfl rfl rfl
  obtain ⟨fs, hr, hrun, hended, hW, hsame⟩ := Xl.leave (v := some (.ref b_1)) (fun h => by rw [Bd.returns] at h; cases h)
  refine ⟨_, _, G _ (retOut Xl hx Bd.returns rfl (Or.inr (Or.inr (Or.inr (Or.inr ⟨rfl, rfl, rfl⟩)))) (hb hby d16_33) hr), hrun, hended, _, _, rfl, ?_, ⟨_, rfl⟩, hW, hsame.mono (by decide) (by decide)⟩
  show Q16u Z a nz ks f cs k h0 n0 _ Tl.heap _
  rw [el_]
  exact ⟨b_1, kb_1, ys, rfl, Nl, Kl, sz_b_1, Fl0, hyl, (hg (by omega))⟩
  rename_i dn ih
  have hlt : i.toInt < nz.toInt := by omega
  have hmz := o_sh (i := nz) (by omega) (by omega)
  have hmc := o_cn (i := (nz <<< ((1 : Int32) &&& 31))) (by omega)
  replace G := o_iload (q := 10) G Xl.here hx (hb hby d16_8) rfl rfl
  replace G := o_iloadN (q := 11) G Xl.here hx (hb hby d16_10) rfl rfl
  have hc11_9 : i < nz := (o_ib hi.1 hlt).2
  replace G := o_icmpNo (q := 14) G Xl.here hx (hb hby d16_11) (tlt hc11_9).2.1 rfl
  replace G := o_aloadN (q := 15) G Xl.here hx (hb hby d16_14) rfl rfl rfl
  replace G := o_iload (q := 17) G Xl.here hx (hb hby d16_15) rfl rfl
  replace G := o_aloadN (q := 18) G Xl.here hx (hb hby d16_17) rfl rfl rfl
  replace G := o_iloadN (q := 19) G Xl.here hx (hb hby d16_18) rfl rfl
  obtain ⟨c10, Ar10, -, S10, -, H10, -⟩ := id Fl2
  have hin10 : ¬ (i < 0 ∨ c10.slots.size ≤ (i).toNatClampNeg) := inb_of S10 (o_ib hi.1 hlt)
  replace G := o_nxs (q := 20) (st := [(.int (f i)), (.int i), (.ref b_1)]) G (Xl.caload hx (j := i) (v := (.int (f i))) (by rw [el_]; exact Ar10.1) (State.isArrayOf_alike hZ.alike Ar10.2.1) Ar10.2.2 hin10 (Has.at H10 hin10 (hf i hi.1 hlt)) (g := o_g G) rfl rfl (hb hby d16_19)) rfl
  obtain ⟨_, _, ⟨T11, L11, kk11, nn11⟩, -, X11, ⟨Lc11, hQ11, l11, y11, z11⟩, st11⟩ := Jvm.LawKit.callS Xl hx (y := (⟨"java/lang/StringUTF16", "putChar", "([BII)V"⟩ : MethodName)) hown (mvT hZ (o_w hw 88 rfl)) (mvT hZ (o_w hw 89 rfl)) (mvT hZ (o_w hw 23 rfl)) (mvT hZ (o_w hw 90 rfl)) (by decide) (backOf (W := 0) (rm19u l Z a0 hw [] b_1 i (f i) kb_1 (nz <<< ((1 : Int32) &&& 31)) ys hl_ n0 Zl Fl1 P1 P2 P3 Fl0 ge_b_1 ⟨hi.1, by omega, by omega⟩ hyl) hZ (o_w hw 90 rfl) (o_w hw 23 rfl) (by decide) (by decide)) (g := o_g G) rfl (by rw [hml]; rfl) (argsL := [(.ref b_1), (.int i), (.int (f i))]) (rest := []) (lenOf pd_2 rfl) rfl (by show 2 * 0 + _ ≤ _; exact Nat.le_of_eq rfl) (hb hby d16_20) (fun _ _ => ⟨rfl, el_, (by decide : 1 + 0 ≤ _), (by decide : 108 + 0 ≤ _)⟩)
  dsimp only [Pt.U, Pt.locs, Pt.cells, Pt.slots] at X11 l11 y11 z11 st11 hQ11
  subst l11 y11 z11
  obtain ⟨yz_11, rfl, N11q, K11q, B11_0, B11_1⟩ := hQ11
  have Z11 : n0 ≤ T11.heap.size := Nat.le_trans Zl K11q.1
  have K11 : Keep h0 T11.heap [] := Kl.trans K11q (allS (Or.inr sz_b_1) all0)
  have N11 := Fr.app Nl N11q
  replace G := o_nxs (q := 23) (st := []) G st11 rfl
  replace G := o_iinc (q := 26) (l' := #[.val (.ref a), .val (.int (i + (1 : Int32))), .val (.int nz), .val (.ref b_1), .val (.int i)]) (w := (1 : Int32)) G X11.here hx (hb hby d16_23) (by decide) rfl rfl rfl rfl
  replace G := o_iinc (q := 29) (l' := #[.val (.ref a), .val (.int (i + (1 : Int32))), .val (.int nz), .val (.ref b_1), .val (.int (i + (1 : Int32)))]) (w := (1 : Int32)) G X11.here hx (hb hby d16_26) (by decide) rfl rfl rfl rfl
  replace G := o_goto (q := 8) G X11.here hx (hb hby d16_29) (by decide) (by decide)
  have F12 := (Fl1.keep K11q (allS ge_b_1 all0))
  have F13 := (Fl2.keep K11q (ninS ne2 nin0))
  exact ih _ _ _ _ _ X11 rfl N11 Z11 K11 B11_0 F12 F13 (by rw [o_i1 hi.1 (by omega)]; omega) (by rw [B11_1, List.length_set, List.length_set]; exact hyl) (by rw [o_i1 hi.1 (by omega)]; exact o_put (nz := nz) B11_1 ⟨hi.1, by omega⟩ ⟨hk.1, by omega⟩ (by omega) hg (fun z => by rw [z]; exact ⟨rfl, rfl⟩)) (by rw [o_i1 hi.1 (by omega)]; omega) G
theorem d20_0 : decode jdk_52_method_5_code 0 = .ok (.getstatic 44, 3) := by decide +kernel
theorem d20_3 : decode jdk_52_method_5_code 3 = .ok (.ifCond .ne 25, 3) := by decide +kernel
theorem d20_28 : decode jdk_52_method_5_code 28 = .ok (.iload_n 1, 1) := by decide +kernel
theorem d20_29 : decode jdk_52_method_5_code 29 = .ok (.iconst 1, 1) := by decide +kernel
theorem d20_30 : decode jdk_52_method_5_code 30 = .ok (.ishl, 1) := by decide +kernel
theorem d20_31 : decode jdk_52_method_5_code 31 = .ok (.istore_n 1, 1) := by decide +kernel
theorem d20_32 : decode jdk_52_method_5_code 32 = .ok (.aload_n 0, 1) := by decide +kernel
theorem d20_33 : decode jdk_52_method_5_code 33 = .ok (.iload_n 1, 1) := by decide +kernel
theorem d20_34 : decode jdk_52_method_5_code 34 = .ok (.iinc 1 1, 3) := by decide +kernel
theorem d20_37 : decode jdk_52_method_5_code 37 = .ok (.baload, 1) := by decide +kernel
theorem d20_38 : decode jdk_52_method_5_code 38 = .ok (.sipush 255, 3) := by decide +kernel
theorem d20_41 : decode jdk_52_method_5_code 41 = .ok (.iand, 1) := by decide +kernel
theorem d20_42 : decode jdk_52_method_5_code 42 = .ok (.getstatic 59, 3) := by decide +kernel
theorem d20_45 : decode jdk_52_method_5_code 45 = .ok (.ishl, 1) := by decide +kernel
theorem d20_46 : decode jdk_52_method_5_code 46 = .ok (.aload_n 0, 1) := by decide +kernel
theorem d20_47 : decode jdk_52_method_5_code 47 = .ok (.iload_n 1, 1) := by decide +kernel
theorem d20_48 : decode jdk_52_method_5_code 48 = .ok (.baload, 1) := by decide +kernel
theorem d20_49 : decode jdk_52_method_5_code 49 = .ok (.sipush 255, 3) := by decide +kernel
theorem d20_52 : decode jdk_52_method_5_code 52 = .ok (.iand, 1) := by decide +kernel
theorem d20_53 : decode jdk_52_method_5_code 53 = .ok (.getstatic 63, 3) := by decide +kernel
theorem d20_56 : decode jdk_52_method_5_code 56 = .ok (.ishl, 1) := by decide +kernel
theorem d20_57 : decode jdk_52_method_5_code 57 = .ok (.ior, 1) := by decide +kernel
theorem d20_58 : decode jdk_52_method_5_code 58 = .ok (.i2c, 1) := by decide +kernel
theorem d20_59 : decode jdk_52_method_5_code 59 = .ok (.ireturn, 1) := by decide +kernel
theorem ef_20u (m : MethodId) (x0 : Addr) (x1 : Int32) : entryFrame m #[(.ref x0), (.int x1)] 2 = mkF m 0 #[.val (.ref x0), .val (.int x1)] [] := by first | (simp [entryFrame, mkF, argsToLocals, Value.category]; done) | rfl
def Q20u (Z : State) (d : Addr) (k : Int32) (kd : ClassId) (mz : Int32) (vs : List Value) (u0 : Int32) (u1 : Int32) (h0 : Heap) (n0 : Nat) (v : Option Value) (h : Heap) (L : List Loc) : Prop := v = some (.int ((((u0 &&& (255 : Int32)) <<< ((0 : Int32) &&& 31)) ||| ((u1 &&& (255 : Int32)) <<< ((8 : Int32) &&& 31))).toUInt32.toUInt16.toUInt32.toInt32)) ∧ Fr n0 L ∧ h = h0
set_option maxRecDepth 65536 in
set_option maxHeartbeats 40000000 in
theorem rm20u (l : Launch) (Z : State) (a0 : Array Value) (hw : ∀ d ∈ tables_1, d.before a0 Z = true) (ws : List Jvm.Cond) (d : Addr) (k : Int32) (kd : ClassId) (mz : Int32) (vs : List Value) (u0 : Int32) (u1 : Int32) (h0 : Heap) (n0 : Nat) (Z0 : n0 ≤ h0.size) (P0 : Old Z n0 h0) (P1 : Sta Z Z.heap "java/lang/StringUTF16" "$assertionsDisabled" "Z" (.int 1)) (P2 : Sta Z Z.heap "java/lang/StringUTF16" "HI_BYTE_SHIFT" "I" (.int 0)) (P3 : Sta Z Z.heap "java/lang/StringUTF16" "LO_BYTE_SHIFT" "I" (.int 8)) (P4 : Arv Z h0 d kd .byte mz vs (.int 0)) (hk : 0 ≤ k.toInt ∧ 2 * k.toInt + 1 < mz.toInt ∧ mz.toInt ≤ 8000) (hy0 : vs.getD (k <<< ((1 : Int32) &&& 31)).toNatClampNeg (.int 0) = .int u0) (hy1 : vs.getD ((k <<< ((1 : Int32) &&& 31)) + (1 : Int32)).toNatClampNeg (.int 0) = .int u1) :
    MetFree l (⟨"java/lang/StringUTF16", "getChar", "([BI)C"⟩ : MethodName) (head1 (Jvm.Cond.code (⟨"java/lang/StringUTF16", "getChar", "([BI)C"⟩ : MethodName) jdk_52_method_5_code 2 (some .char) :: ws) ({ frames := 0, cells := 0, slots := 0, locals := 0 } : Room)) (fun argz U => argz = #[(.ref d), (.int k)] ∧ Z.Warmed39 U.vm ∧ U.heap = h0) (fun _ _ _ _ _ => True) (fun _ U o U' => ∃ v L, o = .returned v ∧ Q20u Z d k kd mz vs u0 u1 h0 n0 v U'.heap L ∧ FrameEnd U o U' L ({ frames := 0, cells := 0, slots := 0, locals := 0 } : Room).cells ({ frames := 0, cells := 0, slots := 0, locals := 0 } : Room).slots) := by
  refine MetFree.of_bodySF (plainFor_of_name pn_java_lang_StringUTF16) hisR ?_
  intro p e s m args below meth c s₁ Bd hml0 hP hK
  obtain ⟨rfl, hZ, hh⟩ := hP
  have hx := Bd.exec
  have hby := Bd.bytes
  have hml : c.maxLocals = 2 := hml0
  have hown : s.vm.findClass "java/lang/StringUTF16" = some m.cls := findClass_of_methodNamed Bd.named
  have hnm := (name_of_methodNamed Bd.named Bd.method).1
  have X0 : Stand p l e ({ frames := 0, cells := 0, slots := 0, locals := 0 } : Room) s m #[(.ref d), (.int k)] below meth c s₁ [] 0 0 := Stand.of_body Bd
  have e0 : s₁.heap = h0 := by rw [← hh, Bd.state]; rfl
  have N0 := Fr.nil n0
  have G : Gets p e below (s₁.setTop (entryFrame m #[(.ref d), (.int k)] 2)) (s₁.setTop (mkF m 0 #[.val (.ref d), .val (.int k)] [])) := fun tq kq => castTop (ef_20u m d k) kq
  have F1 : Sta Z h0 "java/lang/StringUTF16" "$assertionsDisabled" "Z" (.int 1) := P1.ext P0.2
  obtain ⟨T2, X2, e2, st2⟩ := getS2 X0 hx hZ hown (host := "") (Or.inl (o_w hw 91 rfl)) Via.refl e0 F1 (g := o_g G) rfl (hb hby d20_0)
  replace G := o_nxs (q := 3) (st := [(.int 1)]) G st2 rfl
  replace G := o_ifYes (q := 28) G X2.here hx (hb hby d20_3) (by decide) (by decide) (by decide)
  replace G := o_iloadN (q := 29) G X2.here hx (hb hby d20_28) rfl rfl
  replace G := o_iconst (q := 30) G X2.here hx (hb hby d20_29) (v := (1 : Int32)) (by decide) rfl
  obtain ⟨j, hn_j⟩ : ∃ z : Int32, (k <<< ((1 : Int32) &&& 31)) = z := ⟨_, rfl⟩
  replace G := o_ishl (q := 31) G X2.here hx (hb hby d20_30) hn_j rfl
  have hj : j.toInt = 2 * k.toInt := by rw [← hn_j]; exact o_sh hk.1 (by omega)
  replace G := o_istoreN (q := 32) (l' := #[.val (.ref d), .val (.int j)]) G X2.here hx (hb hby d20_31) rfl rfl
  replace G := o_aloadN (q := 33) G X2.here hx (hb hby d20_32) rfl rfl rfl
  replace G := o_iloadN (q := 34) G X2.here hx (hb hby d20_33) rfl rfl
  obtain ⟨j1, hn_j1⟩ : ∃ z : Int32, (j + (1 : Int32)) = z := ⟨_, rfl⟩
  replace G := o_iinc (q := 37) (l' := #[.val (.ref d), .val (.int j1)]) (w := (1 : Int32)) G X2.here hx (hb hby d20_34) (by decide) rfl hn_j1 rfl rfl
  have hj1 : j1.toInt = j.toInt + 1 := by
    rw [← hn_j1]
    have a := c_iadd j 1
    rw [show (1 : Int32).toInt = 1 from rfl] at a
    have r := rng32 (j + 1)
    omega
  rw [hn_j] at hy0 hy1
  rw [hn_j1] at hy1
  obtain ⟨c4, Ar4, -, S4, -, H4, -⟩ := id P4
  have hin4 : ¬ (j < 0 ∨ c4.slots.size ≤ (j).toNatClampNeg) := inb_of S4 (o_ib (by omega) (by omega))
  replace G := o_nxs (q := 38) (st := [(.int u0)]) G (X2.baloadBytes hx (j := j) (v := (.int u0)) (by rw [e2]; exact Ar4.1) (State.isArrayOf_alike hZ.alike Ar4.2.1) Ar4.2.2 hin4 (Has.at H4 hin4 hy0) (g := o_g G) rfl rfl (hb hby d20_37)) rfl
  replace G := o_sipush (q := 41) G X2.here hx (hb hby d20_38) (v := (255 : Int32)) (by decide) rfl
  replace G := o_iand (q := 42) G X2.here hx (hb hby d20_41) rfl rfl
  have F5 : Sta Z h0 "java/lang/StringUTF16" "HI_BYTE_SHIFT" "I" (.int 0) := P2.ext P0.2
  obtain ⟨T6, X6, e6, st6⟩ := getS2 X2 hx hZ hown (host := "") (Or.inl (o_w hw 92 rfl)) Via.refl e2 F5 (g := o_g G) rfl (hb hby d20_42)
  replace G := o_nxs (q := 45) (st := [(.int 0), (.int (u0 &&& (255 : Int32)))]) G st6 rfl
  replace G := o_ishl (q := 46) G X6.here hx (hb hby d20_45) rfl rfl
  replace G := o_aloadN (q := 47) G X6.here hx (hb hby d20_46) rfl rfl rfl
  replace G := o_iloadN (q := 48) G X6.here hx (hb hby d20_47) rfl rfl
  obtain ⟨c7, Ar7, -, S7, -, H7, -⟩ := id P4
  have hin7 : ¬ (j1 < 0 ∨ c7.slots.size ≤ (j1).toNatClampNeg) := inb_of S7 (o_ib (by omega) (by omega))
  replace G := o_nxs (q := 49) (st := [(.int u1), (.int ((u0 &&& (255 : Int32)) <<< ((0 : Int32) &&& 31)))]) G (X6.baloadBytes hx (j := j1) (v := (.int u1)) (by rw [e6]; exact Ar7.1) (State.isArrayOf_alike hZ.alike Ar7.2.1) Ar7.2.2 hin7 (Has.at H7 hin7 hy1) (g := o_g G) rfl rfl (hb hby d20_48)) rfl
  replace G := o_sipush (q := 52) G X6.here hx (hb hby d20_49) (v := (255 : Int32)) (by decide) rfl
  replace G := o_iand (q := 53) G X6.here hx (hb hby d20_52) rfl rfl
  have F8 : Sta Z h0 "java/lang/StringUTF16" "LO_BYTE_SHIFT" "I" (.int 8) := P3.ext P0.2
  obtain ⟨T9, X9, e9, st9⟩ := getS2 X6 hx hZ hown (host := "") (Or.inl (o_w hw 93 rfl)) Via.refl e6 F8 (g := o_g G) rfl (hb hby d20_53)
  replace G := o_nxs (q := 56) (st := [(.int 8), (.int (u1 &&& (255 : Int32))), (.int ((u0 &&& (255 : Int32)) <<< ((0 : Int32) &&& 31)))]) G st9 rfl
  replace G := o_ishl (q := 57) G X9.here hx (hb hby d20_56) rfl rfl
  replace G := o_ior (q := 58) G X9.here hx (hb hby d20_57) rfl rfl
  replace G := o_i2c (q := 59) G X9.here hx (hb hby d20_58) rfl rfl
  obtain ⟨fs, hr, hrun, hended, hW, hsame⟩ := X9.leave (v := some (.int ((((u0 &&& (255 : Int32)) <<< ((0 : Int32) &&& 31)) ||| ((u1 &&& (255 : Int32)) <<< ((8 : Int32) &&& 31))).toUInt32.toUInt16.toUInt32.toInt32))) (fun h => by rw [Bd.returns] at h; cases h)
  refine ⟨_, _, G _ (retOut X9 hx Bd.returns (o_nc _) (Or.inl ⟨rfl, Or.inr (Or.inr (Or.inr (Or.inl rfl))), _, rfl⟩) (hb hby d20_59) hr), hrun, hended, _, _, rfl, ?_, ⟨_, rfl⟩, hW, hsame.mono (by decide) (by decide)⟩
  show Q20u Z d k kd mz vs u0 u1 h0 n0 _ T9.heap _
  rw [e9]
  exact ⟨rfl, N0, rfl⟩
theorem pd_3 : parseMethodDescriptor "([CI[BII)I" = some ⟨[(.array .char), .int, (.array .byte), .int, .int], some .int⟩ := by decide +kernel
theorem pd_4 : parseMethodDescriptor "([CII)[B" = some ⟨[(.array .char), .int, .int], some (.array .byte)⟩ := by decide +kernel
theorem pd_5 : parseMethodDescriptor "([BI)C" = some ⟨[(.array .byte), .int], some .char⟩ := by decide +kernel
theorem d5_0 : decode jdk_52_method_16_code 0 = .ok (.iload_n 2, 1) := by decide +kernel
theorem d5_1 : decode jdk_52_method_16_code 1 = .ok (.newarray .byte, 2) := by decide +kernel
theorem d5_3 : decode jdk_52_method_16_code 3 = .ok (.astore_n 3, 1) := by decide +kernel
theorem d5_4 : decode jdk_52_method_16_code 4 = .ok (.aload_n 0, 1) := by decide +kernel
theorem d5_5 : decode jdk_52_method_16_code 5 = .ok (.iload_n 1, 1) := by decide +kernel
theorem d5_6 : decode jdk_52_method_16_code 6 = .ok (.aload_n 3, 1) := by decide +kernel
theorem d5_7 : decode jdk_52_method_16_code 7 = .ok (.iconst 0, 1) := by decide +kernel
theorem d5_8 : decode jdk_52_method_16_code 8 = .ok (.iload_n 2, 1) := by decide +kernel
theorem d5_9 : decode jdk_52_method_16_code 9 = .ok (.invokestatic 115, 3) := by decide +kernel
theorem d5_12 : decode jdk_52_method_16_code 12 = .ok (.istore 4, 2) := by decide +kernel
theorem d5_14 : decode jdk_52_method_16_code 14 = .ok (.iload 4, 2) := by decide +kernel
theorem d5_16 : decode jdk_52_method_16_code 16 = .ok (.iload_n 2, 1) := by decide +kernel
theorem d5_17 : decode jdk_52_method_16_code 17 = .ok (.if_icmp .eq 40, 3) := by decide +kernel
theorem d5_20 : decode jdk_52_method_16_code 20 = .ok (.aload_n 0, 1) := by decide +kernel
theorem d5_21 : decode jdk_52_method_16_code 21 = .ok (.iload_n 1, 1) := by decide +kernel
theorem d5_22 : decode jdk_52_method_16_code 22 = .ok (.iload_n 2, 1) := by decide +kernel
theorem d5_23 : decode jdk_52_method_16_code 23 = .ok (.invokestatic 119, 3) := by decide +kernel
theorem d5_26 : decode jdk_52_method_16_code 26 = .ok (.astore 5, 2) := by decide +kernel
theorem d5_28 : decode jdk_52_method_16_code 28 = .ok (.aload 5, 2) := by decide +kernel
theorem d5_30 : decode jdk_52_method_16_code 30 = .ok (.iload 4, 2) := by decide +kernel
theorem d5_32 : decode jdk_52_method_16_code 32 = .ok (.invokestatic 71, 3) := by decide +kernel
theorem d5_35 : decode jdk_52_method_16_code 35 = .ok (.sipush 255, 3) := by decide +kernel
theorem d5_38 : decode jdk_52_method_16_code 38 = .ok (.if_icmp .gt 16, 3) := by decide +kernel
theorem d5_54 : decode jdk_52_method_16_code 54 = .ok (.aload 5, 2) := by decide +kernel
theorem d5_56 : decode jdk_52_method_16_code 56 = .ok (.areturn, 1) := by decide +kernel
theorem ef_5u (m : MethodId) (x0 : Addr) (x2 : Int32) : entryFrame m #[(.ref x0), (.int 0), (.int x2)] 6 = mkF m 0 #[.val (.ref x0), .val (.int 0), .val (.int x2), .unset, .unset, .unset] [] := by first | (simp [entryFrame, mkF, argsToLocals, Value.category]; done) | rfl
def Q5u (Z : State) (a : Addr) (nz : Int32) (ks : ClassId) (f : Int32 → Int32) (cs : List Value) (k : Int32) (h0 : Heap) (n0 : Nat) (v : Option Value) (h : Heap) (L : List Loc) : Prop := ∃ (b : Addr) (kb : ClassId) (yz : List Value), v = some (.ref b) ∧ Fr n0 L ∧ Keep h0 h [] ∧ h0.size ≤ b ∧ (Arv Z h b kb .byte (nz <<< ((1 : Int32) &&& 31)) yz (.int 0))
set_option maxRecDepth 65536 in
set_option maxHeartbeats 40000000 in
theorem rm5u (l : Launch) (Z : State) (a0 : Array Value) (hw : ∀ d ∈ tables_1, d.before a0 Z = true) (ws : List Jvm.Cond) (a : Addr) (nz : Int32) (ks : ClassId) (f : Int32 → Int32) (cs : List Value) (k : Int32) (h0 : Heap) (n0 : Nat) (Z0 : n0 ≤ h0.size) (P0 : Old Z n0 h0) (P1 : Sta Z Z.heap "java/lang/StringUTF16" "$assertionsDisabled" "Z" (.int 1)) (P2 : Sta Z Z.heap "java/lang/StringUTF16" "HI_BYTE_SHIFT" "I" (.int 0)) (P3 : Sta Z Z.heap "java/lang/StringUTF16" "LO_BYTE_SHIFT" "I" (.int 8)) (P4 : Arv Z h0 a ks .char nz cs (.int 0)) (hf : ∀ i : Int32, 0 ≤ i.toInt → i.toInt < nz.toInt → cs.getD i.toNatClampNeg (.int 0) = .int (f i)) (hk : 0 ≤ k.toInt ∧ k.toInt < nz.toInt ∧ nz.toInt ≤ 54) (hlat : ∀ i : Int32, 0 ≤ i.toInt → i.toInt < k.toInt → ¬ ((255 : Int32) < f i)) (hbig : (255 : Int32) < f k) (hr : 0 ≤ (f k).toInt ∧ (f k).toInt < 65536) :
    MetFree l (⟨"java/lang/StringUTF16", "compress", "([CII)[B"⟩ : MethodName) (head1 (Jvm.Cond.code (⟨"java/lang/StringUTF16", "compress", "([CII)[B"⟩ : MethodName) jdk_52_method_16_code 6 (some (.array .byte)) :: ws) ({ frames := 3, cells := 2, slots := 162, locals := 40 } : Room)) (fun argz U => argz = #[(.ref a), (.int 0), (.int nz)] ∧ Z.Warmed39 U.vm ∧ U.heap = h0) (fun _ _ _ _ _ => True) (fun _ U o U' => ∃ v L, o = .returned v ∧ Q5u Z a nz ks f cs k h0 n0 v U'.heap L ∧ FrameEnd U o U' L ({ frames := 3, cells := 2, slots := 162, locals := 40 } : Room).cells ({ frames := 3, cells := 2, slots := 162, locals := 40 } : Room).slots) := by
  refine MetFree.of_bodySF (plainFor_of_name pn_java_lang_StringUTF16) hisR ?_
  intro p e s m args below meth c s₁ Bd hml0 hP hK
  obtain ⟨rfl, hZ, hh⟩ := hP
  have hx := Bd.exec
  have hby := Bd.bytes
  have hml : c.maxLocals = 6 := hml0
  have hown : s.vm.findClass "java/lang/StringUTF16" = some m.cls := findClass_of_methodNamed Bd.named
  have hnm := (name_of_methodNamed Bd.named Bd.method).1
  have X0 : Stand p l e ({ frames := 3, cells := 2, slots := 162, locals := 40 } : Room) s m #[(.ref a), (.int 0), (.int nz)] below meth c s₁ [] 0 0 := Stand.of_body Bd
  have e0 : s₁.heap = h0 := by rw [← hh, Bd.state]; rfl
  have N0 := Fr.nil n0
  have K0 : Keep h0 h0 [] := Keep.refl _ _
  have G : Gets p e below (s₁.setTop (entryFrame m #[(.ref a), (.int 0), (.int nz)] 6)) (s₁.setTop (mkF m 0 #[.val (.ref a), .val (.int 0), .val (.int nz), .unset, .unset, .unset] [])) := fun tq kq => castTop (ef_5u m a nz) kq
  replace G := o_iloadN (q := 1) G X0.here hx (hb hby d5_0) rfl rfl
  have hnz := o_cn (i := nz) (by omega)
  obtain ⟨T1, h1, k1, X1, e1, E1, A1, st1⟩ := newP X0 hx hZ (o_w hw 25 rfl) e0 (g := o_g G) rfl (hb hby d5_1) rfl (by rw [Int32.lt_iff_toInt_lt, show (0 : Int32).toInt = 0 from rfl]; omega) (cap := 54) (by omega) (by decide) (by decide) (by decide)
  obtain ⟨b1, g1⟩ : ∃ z, z = h0.size := ⟨_, rfl⟩
  rw [← g1] at A1 st1
  have ne2 : a ≠ b1 := Nat.ne_of_lt (Nat.lt_of_lt_of_le P4.lt (Nat.le_of_eq g1.symm))
  have ge_b1 : n0 ≤ b1 := Nat.le_trans Z0 (Nat.le_of_eq g1.symm)
  have sz_b1 : h0.size ≤ b1 := Nat.le_trans K0.1 (Nat.le_of_eq g1.symm)
  have Z1 : n0 ≤ h1.size := Nat.le_trans Z0 E1.1
  have K1 : Keep h0 h1 [] := K0.ext E1
  have V1 : Arv Z h1 b1 k1 .byte nz [(.int 0), (.int 0), (.int 0), (.int 0), (.int 0), (.int 0), (.int 0), (.int 0), (.int 0), (.int 0), (.int 0), (.int 0), (.int 0), (.int 0), (.int 0), (.int 0), (.int 0), (.int 0), (.int 0), (.int 0), (.int 0), (.int 0), (.int 0), (.int 0), (.int 0), (.int 0), (.int 0), (.int 0), (.int 0), (.int 0), (.int 0), (.int 0), (.int 0), (.int 0), (.int 0), (.int 0), (.int 0), (.int 0), (.int 0), (.int 0), (.int 0), (.int 0), (.int 0), (.int 0), (.int 0), (.int 0), (.int 0), (.int 0), (.int 0), (.int 0), (.int 0), (.int 0), (.int 0), (.int 0)] (.int 0) := (Arv.new A1 (by rw [Int32.lt_iff_toInt_lt, show (0 : Int32).toInt = 0 from rfl]; omega)).pad (pad_rep [] (.int 0) 54)
  replace G := o_nxs (q := 3) (st := [(.ref b1)]) G st1 rfl
  replace G := o_astoreN (q := 4) (l' := #[.val (.ref a), .val (.int 0), .val (.int nz), .val (.ref b1), .unset, .unset]) G X1.here hx (hb hby d5_3) rfl rfl rfl
  replace G := o_aloadN (q := 5) G X1.here hx (hb hby d5_4) rfl rfl rfl
  replace G := o_iloadN (q := 6) G X1.here hx (hb hby d5_5) rfl rfl
  replace G := o_aloadN (q := 7) G X1.here hx (hb hby d5_6) rfl rfl rfl
  replace G := o_iconst (q := 8) G X1.here hx (hb hby d5_7) (v := (0 : Int32)) (by decide) rfl
  replace G := o_iloadN (q := 9) G X1.here hx (hb hby d5_8) rfl rfl
  have F4 := (P4.ext E1)
  obtain ⟨_, _, ⟨T3, L3, kk3, nn3⟩, -, X3, ⟨Lc3, hQ3, l3, y3, z3⟩, st3⟩ := Jvm.LawKit.callS X1 hx (y := (⟨"java/lang/StringUTF16", "compress", "([CI[BII)I"⟩ : MethodName)) hown (mvT hZ (o_w hw 26 rfl)) (mvT hZ (o_w hw 27 rfl)) (mvT hZ (o_w hw 23 rfl)) (mvT hZ (o_w hw 28 rfl)) (by decide) (backOf (W := 0) (rm6u l Z a0 hw [] a b1 nz ks k1 [(.int 0), (.int 0), (.int 0), (.int 0), (.int 0), (.int 0), (.int 0), (.int 0), (.int 0), (.int 0), (.int 0), (.int 0), (.int 0), (.int 0), (.int 0), (.int 0), (.int 0), (.int 0), (.int 0), (.int 0), (.int 0), (.int 0), (.int 0), (.int 0), (.int 0), (.int 0), (.int 0), (.int 0), (.int 0), (.int 0), (.int 0), (.int 0), (.int 0), (.int 0), (.int 0), (.int 0), (.int 0), (.int 0), (.int 0), (.int 0), (.int 0), (.int 0), (.int 0), (.int 0), (.int 0), (.int 0), (.int 0), (.int 0), (.int 0), (.int 0), (.int 0), (.int 0), (.int 0), (.int 0)] f cs k h1 n0 Z1 F4 V1 ge_b1 ne2 (by show _ ≤ 54; omega) hf ⟨hk.1, hk.2.1, by omega⟩ hlat hbig) hZ (o_w hw 28 rfl) (o_w hw 23 rfl) (by decide) (by decide)) (g := o_g G) rfl (by rw [hml]; rfl) (argsL := [(.ref a), (.int 0), (.ref b1), (.int 0), (.int nz)]) (rest := []) (lenOf pd_3 rfl) rfl (by show 2 * 0 + _ ≤ _; exact Nat.le_of_eq rfl) (hb hby d5_9) (fun _ _ => ⟨rfl, e1, (by decide : 1 + 0 ≤ _), (by decide : 54 + 0 ≤ _)⟩)
  dsimp only [Pt.U, Pt.locs, Pt.cells, Pt.slots] at X3 l3 y3 z3 st3 hQ3
  subst l3 y3 z3
  obtain ⟨yz_3, rfl, N3q, K3q, B3_0⟩ := hQ3
  have Z3 : n0 ≤ T3.heap.size := Nat.le_trans Z1 K3q.1
  have K3 : Keep h0 T3.heap [] := K1.trans K3q (allS (Or.inr sz_b1) all0)
  have N3 := Fr.app N0 N3q
  replace G := o_nxs (q := 12) (st := [(.int k)]) G st3 rfl
  replace G := o_istore (q := 14) (l' := #[.val (.ref a), .val (.int 0), .val (.int nz), .val (.ref b1), .val (.int k), .unset]) G X3.here hx (hb hby d5_12) rfl rfl
  replace G := o_iload (q := 16) G X3.here hx (hb hby d5_14) rfl rfl
  replace G := o_iloadN (q := 17) G X3.here hx (hb hby d5_16) rfl rfl
  have hc17_5 : ¬ (k = nz) := fun z => by have := congrArg Int32.toInt z; omega
  replace G := o_icmpNo (q := 20) G X3.here hx (hb hby d5_17) (feq hc17_5).1 rfl
  replace G := o_aloadN (q := 21) G X3.here hx (hb hby d5_20) rfl rfl rfl
  replace G := o_iloadN (q := 22) G X3.here hx (hb hby d5_21) rfl rfl
  replace G := o_iloadN (q := 23) G X3.here hx (hb hby d5_22) rfl rfl
  have F7 := ((P0.ext E1).keep K3q (allS ge_b1 all0))
  have F8 := (F4.keep K3q (ninS ne2 nin0))
  obtain ⟨_, _, ⟨T6, L6, kk6, nn6⟩, -, X6, ⟨Lc6, hQ6, l6, y6, z6⟩, st6⟩ := Jvm.LawKit.callS X3 hx (y := (⟨"java/lang/StringUTF16", "toBytes", "([CII)[B"⟩ : MethodName)) hown (mvT hZ (o_w hw 78 rfl)) (mvT hZ (o_w hw 79 rfl)) (mvT hZ (o_w hw 23 rfl)) (mvT hZ (o_w hw 80 rfl)) (by decide) (backOf (W := 0) (rm16u l Z a0 hw [] a nz ks f cs k T3.heap n0 Z3 F7 P1 P2 P3 F8 hf hk) hZ (o_w hw 80 rfl) (o_w hw 23 rfl) (by decide) (by decide)) (g := o_g G) rfl (by rw [hml]; rfl) (argsL := [(.ref a), (.int 0), (.int nz)]) (rest := []) (lenOf pd_4 rfl) rfl (by show 2 * 0 + _ ≤ _; exact Nat.le_of_eq rfl) (hb hby d5_23) (fun _ _ => ⟨rfl, rfl, (by decide : 1 + 1 ≤ _), (by decide : 54 + 108 ≤ _)⟩)
  dsimp only [Pt.U, Pt.locs, Pt.cells, Pt.slots] at X6 l6 y6 z6 st6 hQ6
  subst l6 y6 z6
  obtain ⟨b_6, kb_6, yz_6, rfl, N6q, K6q, B6_0, B6_1, B6_2, B6_3⟩ := hQ6
  have ne9 : b1 ≠ b_6 := Nat.ne_of_lt (Nat.lt_of_lt_of_le B3_0.lt B6_0)
  have ne10 : a ≠ b_6 := Nat.ne_of_lt (Nat.lt_of_lt_of_le F8.lt B6_0)
  have ge_b_6 : n0 ≤ b_6 := Nat.le_trans Z3 B6_0
  have sz_b_6 : h0.size ≤ b_6 := Nat.le_trans K3.1 B6_0
  have Z6 : n0 ≤ T6.heap.size := Nat.le_trans Z3 K6q.1
  have K6 : Keep h0 T6.heap [] := K3.trans K6q all0
  have N6 := Fr.app N3 N6q
  replace G := o_nxs (q := 26) (st := [(.ref b_6)]) G st6 rfl
  replace G := o_astore (q := 28) (l' := #[.val (.ref a), .val (.int 0), .val (.int nz), .val (.ref b1), .val (.int k), .val (.ref b_6)]) G X6.here hx (hb hby d5_26) rfl rfl rfl
  replace G := o_aload (q := 30) G X6.here hx (hb hby d5_28) rfl rfl rfl
  replace G := o_iload (q := 32) G X6.here hx (hb hby d5_30) rfl rfl
  have F12 := (F7.keep K6q all0)
  obtain ⟨_, _, ⟨T11, L11, kk11, nn11⟩, -, X11, ⟨Lc11, hQ11, l11, y11, z11⟩, st11⟩ := Jvm.LawKit.callS X6 hx (y := (⟨"java/lang/StringUTF16", "getChar", "([BI)C"⟩ : MethodName)) hown (mvT hZ (o_w hw 94 rfl)) (mvT hZ (o_w hw 95 rfl)) (mvT hZ (o_w hw 23 rfl)) (mvT hZ (o_w hw 96 rfl)) (by decide) (backOf (W := 0) (rm20u l Z a0 hw [] b_6 k kb_6 (nz <<< ((1 : Int32) &&& 31)) yz_6 (nar .byte (((f k) >>> ((0 : Int32) &&& 31)).toInt8.toInt32)) (nar .byte (((f k) >>> ((8 : Int32) &&& 31)).toInt8.toInt32)) T6.heap n0 Z6 F12 P1 P2 P3 B6_1 (by have := o_sh (i := nz) (by omega) (by omega); omega) B6_3.1 B6_3.2) hZ (o_w hw 96 rfl) (o_w hw 23 rfl) (by decide) (by decide)) (g := o_g G) rfl (by rw [hml]; rfl) (argsL := [(.ref b_6), (.int k)]) (rest := []) (lenOf pd_5 rfl) rfl (by show 2 * 0 + _ ≤ _; exact Nat.le_of_eq rfl) (hb hby d5_32) (fun _ _ => ⟨rfl, rfl, (by decide : 2 + 0 ≤ _), (by decide : 162 + 0 ≤ _)⟩)
  dsimp only [Pt.U, Pt.locs, Pt.cells, Pt.slots] at X11 l11 y11 z11 st11 hQ11
  subst l11 y11 z11
  obtain ⟨rfl, N11q, e11⟩ := hQ11
  have N11 := Fr.app N6 N11q
  replace G := o_nxs (q := 35) (st := [(.int (((((nar .byte (((f k) >>> ((0 : Int32) &&& 31)).toInt8.toInt32)) &&& (255 : Int32)) <<< ((0 : Int32) &&& 31)) ||| (((nar .byte (((f k) >>> ((8 : Int32) &&& 31)).toInt8.toInt32)) &&& (255 : Int32)) <<< ((8 : Int32) &&& 31))).toUInt32.toUInt16.toUInt32.toInt32))]) G st11 rfl
  replace G := o_sipush (q := 38) G X11.here hx (hb hby d5_35) (v := (255 : Int32)) (by decide) rfl
  have hc38_13 : (255 : Int32) < (((((nar .byte (((f k) >>> ((0 : Int32) &&& 31)).toInt8.toInt32)) &&& (255 : Int32)) <<< ((0 : Int32) &&& 31)) ||| (((nar .byte (((f k) >>> ((8 : Int32) &&& 31)).toInt8.toInt32)) &&& (255 : Int32)) <<< ((8 : Int32) &&& 31))).toUInt32.toUInt16.toUInt32.toInt32) := o_gc hr hbig
  replace G := o_icmpYes (q := 54) G X11.here hx (hb hby d5_38) (tlt hc38_13).2.2.1 (by decide) (by decide)
  replace G := o_aload (q := 56) G X11.here hx (hb hby d5_54) rfl rfl rfl
  obtain ⟨fs, hr, hrun, hended, hW, hsame⟩ := X11.leave (v := some (.ref b_6)) (fun h => by rw [Bd.returns] at h; cases h)
  refine ⟨_, _, G _ (retOut X11 hx Bd.returns rfl (Or.inr (Or.inr (Or.inr (Or.inr ⟨rfl, rfl, rfl⟩)))) (hb hby d5_56) hr), hrun, hended, _, _, rfl, ?_, ⟨_, rfl⟩, hW, hsame.mono (by decide) (by decide)⟩
  show Q5u Z a nz ks f cs k h0 n0 _ T11.heap _
  rw [e11]
  exact ⟨b_6, kb_6, yz_6, rfl, N11, K6, sz_b_6, B6_1⟩
theorem d7_0 : decode jdk_52_method_15_code 0 = .ok (.iload_n 1, 1) := by decide +kernel
theorem d7_1 : decode jdk_52_method_15_code 1 = .ok (.aload_n 0, 1) := by decide +kernel
theorem d7_2 : decode jdk_52_method_15_code 2 = .ok (.arraylength, 1) := by decide +kernel
theorem d7_3 : decode jdk_52_method_15_code 3 = .ok (.isub, 1) := by decide +kernel
theorem d7_4 : decode jdk_52_method_15_code 4 = .ok (.bipush 31, 2) := by decide +kernel
theorem d7_6 : decode jdk_52_method_15_code 6 = .ok (.iushr, 1) := by decide +kernel
theorem d7_7 : decode jdk_52_method_15_code 7 = .ok (.i2b, 1) := by decide +kernel
theorem d7_8 : decode jdk_52_method_15_code 8 = .ok (.ireturn, 1) := by decide +kernel
theorem ef_7u (m : MethodId) (x0 : Addr) (x1 : Int32) : entryFrame m #[(.ref x0), (.int x1)] 2 = mkF m 0 #[.val (.ref x0), .val (.int x1)] [] := by first | (simp [entryFrame, mkF, argsToLocals, Value.category]; done) | rfl
def Q7u (Z : State) (d : Addr) (nz : Int32) (kd : ClassId) (vs : List Value) (h0 : Heap) (n0 : Nat) (v : Option Value) (h : Heap) (L : List Loc) : Prop := v = some (.int 1) ∧ Fr n0 L ∧ h = h0
set_option maxRecDepth 65536 in
set_option maxHeartbeats 40000000 in
theorem rm7u (l : Launch) (Z : State) (a0 : Array Value) (hw : ∀ d ∈ tables_1, d.before a0 Z = true) (ws : List Jvm.Cond) (d : Addr) (nz : Int32) (kd : ClassId) (vs : List Value) (h0 : Heap) (n0 : Nat) (Z0 : n0 ≤ h0.size) (P0 : Arv Z h0 d kd .byte (nz <<< ((1 : Int32) &&& 31)) vs (.int 0)) (hn : 1 ≤ nz.toInt ∧ nz.toInt ≤ 54) :
    MetFree l (⟨"java/lang/StringUTF16", "coderFromArrayLen", "([BI)B"⟩ : MethodName) (head1 (Jvm.Cond.code (⟨"java/lang/StringUTF16", "coderFromArrayLen", "([BI)B"⟩ : MethodName) jdk_52_method_15_code 2 (some .byte) :: ws) ({ frames := 0, cells := 0, slots := 0, locals := 0 } : Room)) (fun argz U => argz = #[(.ref d), (.int nz)] ∧ Z.Warmed39 U.vm ∧ U.heap = h0) (fun _ _ _ _ _ => True) (fun _ U o U' => ∃ v L, o = .returned v ∧ Q7u Z d nz kd vs h0 n0 v U'.heap L ∧ FrameEnd U o U' L ({ frames := 0, cells := 0, slots := 0, locals := 0 } : Room).cells ({ frames := 0, cells := 0, slots := 0, locals := 0 } : Room).slots) := by
  refine MetFree.of_bodySF (plainFor_of_name pn_java_lang_StringUTF16) hisR ?_
  intro p e s m args below meth c s₁ Bd hml0 hP hK
  obtain ⟨rfl, hZ, hh⟩ := hP
  have hx := Bd.exec
  have hby := Bd.bytes
  have hml : c.maxLocals = 2 := hml0
  have hown : s.vm.findClass "java/lang/StringUTF16" = some m.cls := findClass_of_methodNamed Bd.named
  have hnm := (name_of_methodNamed Bd.named Bd.method).1
  have X0 : Stand p l e ({ frames := 0, cells := 0, slots := 0, locals := 0 } : Room) s m #[(.ref d), (.int nz)] below meth c s₁ [] 0 0 := Stand.of_body Bd
  have e0 : s₁.heap = h0 := by rw [← hh, Bd.state]; rfl
  have N0 := Fr.nil n0
  have G : Gets p e below (s₁.setTop (entryFrame m #[(.ref d), (.int nz)] 2)) (s₁.setTop (mkF m 0 #[.val (.ref d), .val (.int nz)] [])) := fun tq kq => castTop (ef_7u m d nz) kq
  replace G := o_iloadN (q := 1) G X0.here hx (hb hby d7_0) rfl rfl
  replace G := o_aloadN (q := 2) G X0.here hx (hb hby d7_1) rfl rfl rfl
  obtain ⟨c1, Ar1, -, S1, N1', -, -⟩ := id P0
  replace G : Gets p e below _ (s₁.setTop (mkF m 3 #[.val (.ref d), .val (.int nz)] [(.int (nz <<< ((1 : Int32) &&& 31))), (.int nz)])) := fun t k => G t (X0.arraylength hx (by rw [e0]; exact Ar1.1) (State.isArrayOf_alike hZ.alike Ar1.2.1) (g := o_g G) rfl rfl (hb hby d7_2) t (by rw [len_of S1 N1']; exact k))
  replace G := o_isub (q := 4) G X0.here hx (hb hby d7_3) rfl rfl
  replace G := o_bipush (q := 6) G X0.here hx (hb hby d7_4) (v := (31 : Int32)) (by decide) rfl
  replace G := o_iushr (q := 7) G X0.here hx (hb hby d7_6) rfl rfl
  replace G := o_i2b (q := 8) G X0.here hx (hb hby d7_7) rfl rfl
  obtain ⟨fs, hr, hrun, hended, hW, hsame⟩ := X0.leave (v := some (.int ((((nz - (nz <<< ((1 : Int32) &&& 31))).toUInt32 >>> ((31 : Int32) &&& 31).toUInt32).toInt32).toInt8.toInt32))) (fun h => by rw [Bd.returns] at h; cases h)
  refine ⟨_, _, G _ (retOut X0 hx Bd.returns (o_nb (Or.inr (o_cfl hn))) (Or.inl ⟨rfl, Or.inr (Or.inr (Or.inl rfl)), _, rfl⟩) (hb hby d7_8) hr), hrun, hended, _, _, rfl, ?_, ⟨_, rfl⟩, hW, hsame.mono (by decide) (by decide)⟩
  show Q7u Z d nz kd vs h0 n0 _ s₁.heap _
  rw [e0]
  exact ⟨(congrArg (fun z => some (Value.int z)) (o_cfl hn)), N0, rfl⟩
theorem pd_6 : parseMethodDescriptor "([BI)B" = some ⟨[(.array .byte), .int], some .byte⟩ := by decide +kernel
theorem d3_0 : decode jdk_42_method_149_code 0 = .ok (.aload_n 0, 1) := by decide +kernel
theorem d3_1 : decode jdk_42_method_149_code 1 = .ok (.invokespecial 1, 3) := by decide +kernel
theorem d3_4 : decode jdk_42_method_149_code 4 = .ok (.iload_n 3, 1) := by decide +kernel
theorem d3_5 : decode jdk_42_method_149_code 5 = .ok (.ifCond .ne 22, 3) := by decide +kernel
theorem d3_27 : decode jdk_42_method_149_code 27 = .ok (.getstatic 38, 3) := by decide +kernel
theorem d3_30 : decode jdk_42_method_149_code 30 = .ok (.ifCond .eq 28, 3) := by decide +kernel
theorem d3_33 : decode jdk_42_method_149_code 33 = .ok (.aload_n 1, 1) := by decide +kernel
theorem d3_34 : decode jdk_42_method_149_code 34 = .ok (.iload_n 2, 1) := by decide +kernel
theorem d3_35 : decode jdk_42_method_149_code 35 = .ok (.iload_n 3, 1) := by decide +kernel
theorem d3_36 : decode jdk_42_method_149_code 36 = .ok (.invokestatic 177, 3) := by decide +kernel
theorem d3_39 : decode jdk_42_method_149_code 39 = .ok (.astore 5, 2) := by decide +kernel
theorem d3_41 : decode jdk_42_method_149_code 41 = .ok (.aload_n 0, 1) := by decide +kernel
theorem d3_42 : decode jdk_42_method_149_code 42 = .ok (.aload 5, 2) := by decide +kernel
theorem d3_44 : decode jdk_42_method_149_code 44 = .ok (.iload_n 3, 1) := by decide +kernel
theorem d3_45 : decode jdk_42_method_149_code 45 = .ok (.invokestatic 47, 3) := by decide +kernel
theorem d3_48 : decode jdk_42_method_149_code 48 = .ok (.putfield 15, 3) := by decide +kernel
theorem d3_51 : decode jdk_42_method_149_code 51 = .ok (.aload_n 0, 1) := by decide +kernel
theorem d3_52 : decode jdk_42_method_149_code 52 = .ok (.aload 5, 2) := by decide +kernel
theorem d3_54 : decode jdk_42_method_149_code 54 = .ok (.putfield 9, 3) := by decide +kernel
theorem d3_57 : decode jdk_42_method_149_code 57 = .ok (.return_, 1) := by decide +kernel
theorem pn_java_lang_String : plainName o_n0 = true := by first | (simp [plainName, overriddenIn]; done) | decide +kernel
theorem ef_3u (m : MethodId) (x0 : Addr) (x1 : Addr) (x3 : Int32) : entryFrame m #[(.ref x0), (.ref x1), (.int 0), (.int x3), .null] 6 = mkF m 0 #[.val (.ref x0), .val (.ref x1), .val (.int 0), .val (.int x3), .val .null, .unset] [] := by first | (simp [entryFrame, mkF, argsToLocals, Value.category]; done) | rfl
def Q3u (Z : State) (tt : Addr) (a : Addr) (nz : Int32) (ks : ClassId) (f : Int32 → Int32) (cs : List Value) (k : Int32) (cw : Int32) (h0 : Heap) (n0 : Nat) (v : Option Value) (h : Heap) (L : List Loc) : Prop := ∃ (b : Addr), v = none ∧ Fr n0 L ∧ Keep h0 h [tt] ∧ (Fld Z h tt o_n0 "value" "[B" (.ref b)) ∧ (Fld Z h tt o_n0 "coder" "B" (.int 1))
set_option maxRecDepth 65536 in
set_option maxHeartbeats 40000000 in
theorem rm3u (l : Launch) (Z : State) (a0 : Array Value) (hw : ∀ d ∈ tables_1, d.before a0 Z = true) (ws : List Jvm.Cond) (tt : Addr) (a : Addr) (nz : Int32) (ks : ClassId) (f : Int32 → Int32) (cs : List Value) (k : Int32) (cw : Int32) (h0 : Heap) (n0 : Nat) (Z0 : n0 ≤ h0.size) (P0 : Old Z n0 h0) (P1 : Sta Z Z.heap "java/lang/StringUTF16" "$assertionsDisabled" "Z" (.int 1)) (P2 : Sta Z Z.heap "java/lang/StringUTF16" "HI_BYTE_SHIFT" "I" (.int 0)) (P3 : Sta Z Z.heap "java/lang/StringUTF16" "LO_BYTE_SHIFT" "I" (.int 8)) (P4 : Sta Z Z.heap o_n0 "COMPACT_STRINGS" "Z" (.int cw)) (P5 : Fld Z h0 tt o_n0 "value" "[B" .null) (P6 : Fld Z h0 tt o_n0 "coder" "B" (.int 0)) (P7 : Exa Z h0 tt o_n0) (P8 : n0 ≤ tt) (P9 : Arv Z h0 a ks .char nz cs (.int 0)) (hcw : ¬ cw = (0 : Int32)) (hf : ∀ i : Int32, 0 ≤ i.toInt → i.toInt < nz.toInt → cs.getD i.toNatClampNeg (.int 0) = .int (f i)) (hk : 0 ≤ k.toInt ∧ k.toInt < nz.toInt ∧ nz.toInt ≤ 54) (hlat : ∀ i : Int32, 0 ≤ i.toInt → i.toInt < k.toInt → ¬ ((255 : Int32) < f i)) (hbig : (255 : Int32) < f k) (hr : 0 ≤ (f k).toInt ∧ (f k).toInt < 65536) :
    MetFree l (⟨o_n0, "<init>", "([CIILjava/lang/Void;)V"⟩ : MethodName) (head1 (Jvm.Cond.code (⟨o_n0, "<init>", "([CIILjava/lang/Void;)V"⟩ : MethodName) jdk_42_method_149_code 6 none :: ws) ({ frames := 4, cells := 2, slots := 162, locals := 57 } : Room)) (fun argz U => argz = #[(.ref tt), (.ref a), (.int 0), (.int nz), .null] ∧ Z.Warmed39 U.vm ∧ U.heap = h0) (fun _ _ _ _ _ => True) (fun _ U o U' => ∃ v L, o = .returned v ∧ Q3u Z tt a nz ks f cs k cw h0 n0 v U'.heap L ∧ FrameEnd U o U' L ({ frames := 4, cells := 2, slots := 162, locals := 57 } : Room).cells ({ frames := 4, cells := 2, slots := 162, locals := 57 } : Room).slots) := by
  refine MetFree.of_bodySF (plainFor_of_name pn_java_lang_String) hisR ?_
  intro p e s m args below meth c s₁ Bd hml0 hP hK
  obtain ⟨rfl, hZ, hh⟩ := hP
  have hx := Bd.exec
  have hby := Bd.bytes
  have hml : c.maxLocals = 6 := hml0
  have hown : s.vm.findClass o_n0 = some m.cls := findClass_of_methodNamed Bd.named
  have hnm := (name_of_methodNamed Bd.named Bd.method).1
  have X0 : Stand p l e ({ frames := 4, cells := 2, slots := 162, locals := 57 } : Room) s m #[(.ref tt), (.ref a), (.int 0), (.int nz), .null] below meth c s₁ [] 0 0 := Stand.of_body Bd
  have e0 : s₁.heap = h0 := by rw [← hh, Bd.state]; rfl
  have N0 := Fr.nil n0
  have K0 : Keep h0 h0 [tt] := Keep.refl _ _
  have G : Gets p e below (s₁.setTop (entryFrame m #[(.ref tt), (.ref a), (.int 0), (.int nz), .null] 6)) (s₁.setTop (mkF m 0 #[.val (.ref tt), .val (.ref a), .val (.int 0), .val (.int nz), .val .null, .unset] [])) := fun tq kq => castTop (ef_3u m tt a nz) kq
  replace G := o_aloadN (q := 1) G X0.here hx (hb hby d3_0) rfl rfl rfl
  obtain ⟨T1, X1, e1, st1⟩ := initO X0 hx hZ hown (o_w hw 17 rfl) (o_w hw 18 rfl) (o_w hw 19 rfl) e0 (g := o_g G) rfl (by rw [hml]; rfl) rfl (hb hby d3_1) (by decide) (W := 0) (by show 2 * 0 + _ ≤ _; exact Nat.le_of_eq rfl) (by decide)
  replace G := o_nxs (q := 4) (st := []) G st1 rfl
  replace G := o_iloadN (q := 5) G X1.here hx (hb hby d3_4) rfl rfl
  have hc5_2 : ¬ (nz = (0 : Int32)) := fun z => by have := congrArg Int32.toInt z; rw [show (0 : Int32).toInt = 0 from rfl] at this; omega
  replace G := o_ifYes (q := 27) G X1.here hx (hb hby d3_5) ((if0 _ _).trans (feq hc5_2).2) (by decide) (by decide)
  have F3 : Sta Z h0 o_n0 "COMPACT_STRINGS" "Z" (.int cw) := P4.ext P0.2
  obtain ⟨T4, X4, e4, st4⟩ := getS2 X1 hx hZ hown (host := "") (Or.inl (o_w hw 20 rfl)) Via.refl e1 F3 (g := o_g G) rfl (hb hby d3_27)
  replace G := o_nxs (q := 30) (st := [(.int cw)]) G st4 rfl
  have hc30_5 : ¬ (cw = (0 : Int32)) := hcw
  replace G := o_ifNo (q := 33) G X4.here hx (hb hby d3_30) ((if0 _ _).trans (feq hc30_5).1) rfl
  replace G := o_aloadN (q := 34) G X4.here hx (hb hby d3_33) rfl rfl rfl
  replace G := o_iloadN (q := 35) G X4.here hx (hb hby d3_34) rfl rfl
  replace G := o_iloadN (q := 36) G X4.here hx (hb hby d3_35) rfl rfl
  obtain ⟨_, _, ⟨T6, L6, kk6, nn6⟩, -, X6, ⟨Lc6, hQ6, l6, y6, z6⟩, st6⟩ := Jvm.LawKit.callS X4 hx (y := (⟨"java/lang/StringUTF16", "compress", "([CII)[B"⟩ : MethodName)) hown (mvT hZ (o_w hw 21 rfl)) (mvT hZ (o_w hw 22 rfl)) (mvT hZ (o_w hw 23 rfl)) (mvT hZ (o_w hw 24 rfl)) (by decide) (backOf (W := 0) (rm5u l Z a0 hw [] a nz ks f cs k h0 n0 Z0 P0 P1 P2 P3 P9 hf hk hlat hbig hr) hZ (o_w hw 24 rfl) (o_w hw 23 rfl) (by decide) (by decide)) (g := o_g G) rfl (by rw [hml]; rfl) (argsL := [(.ref a), (.int 0), (.int nz)]) (rest := []) (lenOf pd_4 rfl) rfl (by show 2 * 0 + _ ≤ _; exact Nat.le_of_eq rfl) (hb hby d3_36) (fun _ _ => ⟨rfl, e4, (by decide : 0 + 2 ≤ _), (by decide : 0 + 162 ≤ _)⟩)
  dsimp only [Pt.U, Pt.locs, Pt.cells, Pt.slots] at X6 l6 y6 z6 st6 hQ6
  subst l6 y6 z6
  obtain ⟨b_6, kb_6, yz_6, rfl, N6q, K6q, B6_0, B6_1⟩ := hQ6
  have ne7 : tt ≠ b_6 := Nat.ne_of_lt (Nat.lt_of_lt_of_le P5.lt B6_0)
  have ne8 : a ≠ b_6 := Nat.ne_of_lt (Nat.lt_of_lt_of_le P9.lt B6_0)
  have ge_b_6 : n0 ≤ b_6 := Nat.le_trans Z0 B6_0
  have sz_b_6 : h0.size ≤ b_6 := Nat.le_trans K0.1 B6_0
  have Z6 : n0 ≤ T6.heap.size := Nat.le_trans Z0 K6q.1
  have K6 : Keep h0 T6.heap [tt] := K0.trans K6q all0
  have N6 := Fr.app N0 N6q
  replace G := o_nxs (q := 39) (st := [(.ref b_6)]) G st6 rfl
  replace G := o_astore (q := 41) (l' := #[.val (.ref tt), .val (.ref a), .val (.int 0), .val (.int nz), .val .null, .val (.ref b_6)]) G X6.here hx (hb hby d3_39) rfl rfl rfl
  replace G := o_aloadN (q := 42) G X6.here hx (hb hby d3_41) rfl rfl rfl
  replace G := o_aload (q := 44) G X6.here hx (hb hby d3_42) rfl rfl rfl
  replace G := o_iloadN (q := 45) G X6.here hx (hb hby d3_44) rfl rfl
  obtain ⟨_, _, ⟨T9, L9, kk9, nn9⟩, -, X9, ⟨Lc9, hQ9, l9, y9, z9⟩, st9⟩ := Jvm.LawKit.callS X6 hx (y := (⟨"java/lang/StringUTF16", "coderFromArrayLen", "([BI)B"⟩ : MethodName)) hown (mvT hZ (o_w hw 29 rfl)) (mvT hZ (o_w hw 30 rfl)) (mvT hZ (o_w hw 23 rfl)) (mvT hZ (o_w hw 31 rfl)) (by decide) (backOf (W := 1) (rm7u l Z a0 hw [] b_6 nz kb_6 yz_6 T6.heap n0 Z6 B6_1 ⟨by omega, hk.2.2⟩) hZ (o_w hw 31 rfl) (o_w hw 23 rfl) (by decide) (by decide)) (g := o_g G) rfl (by rw [hml]; rfl) (argsL := [(.ref b_6), (.int nz)]) (rest := [(.ref tt)]) (lenOf pd_6 rfl) rfl (by show 2 * 0 + _ ≤ _; exact Nat.le_of_eq rfl) (hb hby d3_45) (fun _ _ => ⟨rfl, rfl, (by decide : 2 + 0 ≤ _), (by decide : 162 + 0 ≤ _)⟩)
  dsimp only [Pt.U, Pt.locs, Pt.cells, Pt.slots] at X9 l9 y9 z9 st9 hQ9
  subst l9 y9 z9
  obtain ⟨rfl, N9q, e9⟩ := hQ9
  have N9 := Fr.app N6 N9q
  replace G := o_nxs (q := 48) (st := [(.int 1), (.ref tt)]) G st9 rfl
  have F10 := (P7.keep K6q)
  have F11 := (P6.keep K6q nin0)
  obtain ⟨T12, h12, X12, e12, W12, st12⟩ := putFN X9 hx hZ hown (o_w hw 32 rfl) Via.refl e9 F11 F10 (Or.inr ⟨(o_w hw 33 rfl), rfl, hnm⟩) (o_w hw 8 rfl) (ty := .byte) (v' := (.int 1)) (by decide) rfl (by first | rfl | decide) (g := o_g G) rfl rfl (hb hby d3_48)
  have N12 := Fr.snoc X12 N9 P8
  have Z12 : n0 ≤ h12.size := Nat.le_trans Z6 (Keep.of_wr W12).1
  have K12 : Keep h0 h12 [tt] := K6.wr W12 (Or.inl (List.mem_of_getElem? (i := 0) rfl))
  have F12 : Fld Z h12 tt o_n0 "coder" "B" (.int 1) := F11.same W12
  replace G := o_nxs (q := 51) (st := []) G st12 rfl
  replace G := o_aloadN (q := 52) G X12.here hx (hb hby d3_51) rfl rfl rfl
  replace G := o_aload (q := 54) G X12.here hx (hb hby d3_52) rfl rfl rfl
  have F13 := (F10.wr W12)
  have F14 := ((P5.keep K6q nin0).other W12 (Or.inr (slot_ne (Or.inr (o_w hw 35 rfl)) (Or.inr (o_w hw 33 rfl)) (by decide) (t := (.array .byte)) (t' := .byte) (by decide) (by decide))))
  obtain ⟨T15, h15, X15, e15, W15, st15⟩ := putF X12 hx hZ hown (host := "") (Or.inl (o_w hw 34 rfl)) Via.refl e12 F14 F13 (Or.inr ⟨(o_w hw 35 rfl), rfl, hnm⟩) (o_w hw 8 rfl) (ty := (.array .byte)) (by decide) rfl rfl (g := o_g G) rfl rfl (hb hby d3_54)
  have N15 := Fr.snoc X15 N12 P8
  have Z15 : n0 ≤ h15.size := Nat.le_trans Z12 (Keep.of_wr W15).1
  have K15 : Keep h0 h15 [tt] := K12.wr W15 (Or.inl (List.mem_of_getElem? (i := 0) rfl))
  have F15 : Fld Z h15 tt o_n0 "value" "[B" (.ref b_6) := F14.same W15
  replace G := o_nxs (q := 57) (st := []) G st15 rfl
  obtain ⟨fs, hr, hrun, hended, hW, hsame⟩ := X15.leave (v := none) (fun _ => rfl)
  refine ⟨_, _, G _ (X15.returnOut hx Bd.returns (hb hby d3_57) hr), hrun, hended, _, _, rfl, ?_, ⟨_, rfl⟩, hW, hsame.mono (by decide) (by decide)⟩
  have F16 := (F12.other W15 (Or.inr (slot_ne (Or.inr (o_w hw 33 rfl)) (Or.inr (o_w hw 35 rfl)) (by decide) (t := .byte) (t' := (.array .byte)) (by decide) (by decide))))
  show Q3u Z tt a nz ks f cs k cw h0 n0 _ T15.heap _
  rw [e15]
  exact ⟨b_6, rfl, N15, K15, F15, F16⟩
theorem pd_7 : parseMethodDescriptor "([CIILjava/lang/Void;)V" = some ⟨[(.array .char), .int, .int, (.object "java/lang/Void")], none⟩ := by decide +kernel
theorem d2_0 : decode jdk_42_method_3_code 0 = .ok (.aload_n 0, 1) := by decide +kernel
theorem d2_1 : decode jdk_42_method_3_code 1 = .ok (.aload_n 1, 1) := by decide +kernel
theorem d2_2 : decode jdk_42_method_3_code 2 = .ok (.iconst 0, 1) := by decide +kernel
theorem d2_3 : decode jdk_42_method_3_code 3 = .ok (.aload_n 1, 1) := by decide +kernel
theorem d2_4 : decode jdk_42_method_3_code 4 = .ok (.arraylength, 1) := by decide +kernel
theorem d2_5 : decode jdk_42_method_3_code 5 = .ok (.aconst_null, 1) := by decide +kernel
theorem d2_6 : decode jdk_42_method_3_code 6 = .ok (.invokespecial 27, 3) := by decide +kernel
theorem d2_9 : decode jdk_42_method_3_code 9 = .ok (.return_, 1) := by decide +kernel
theorem ef_2u (m : MethodId) (x0 : Addr) (x1 : Addr) : entryFrame m #[(.ref x0), (.ref x1)] 2 = mkF m 0 #[.val (.ref x0), .val (.ref x1)] [] := by first | (simp [entryFrame, mkF, argsToLocals, Value.category]; done) | rfl
def Q2u (Z : State) (tt : Addr) (a : Addr) (ks : ClassId) (f : Int32 → Int32) (cs : List Value) (k : Int32) (nz : Int32) (cw : Int32) (h0 : Heap) (n0 : Nat) (v : Option Value) (h : Heap) (L : List Loc) : Prop := ∃ (b : Addr), v = none ∧ Fr n0 L ∧ Keep h0 h [tt] ∧ (Fld Z h tt o_n0 "value" "[B" (.ref b)) ∧ (Fld Z h tt o_n0 "coder" "B" (.int 1))
set_option maxRecDepth 65536 in
set_option maxHeartbeats 40000000 in
theorem rm2u (l : Launch) (Z : State) (a0 : Array Value) (hw : ∀ d ∈ tables_1, d.before a0 Z = true) (ws : List Jvm.Cond) (tt : Addr) (a : Addr) (ks : ClassId) (f : Int32 → Int32) (cs : List Value) (k : Int32) (nz : Int32) (cw : Int32) (h0 : Heap) (n0 : Nat) (Z0 : n0 ≤ h0.size) (P0 : Old Z n0 h0) (P1 : Sta Z Z.heap "java/lang/StringUTF16" "$assertionsDisabled" "Z" (.int 1)) (P2 : Sta Z Z.heap "java/lang/StringUTF16" "HI_BYTE_SHIFT" "I" (.int 0)) (P3 : Sta Z Z.heap "java/lang/StringUTF16" "LO_BYTE_SHIFT" "I" (.int 8)) (P4 : Sta Z Z.heap o_n0 "COMPACT_STRINGS" "Z" (.int cw)) (P5 : Fld Z h0 tt o_n0 "value" "[B" .null) (P6 : Fld Z h0 tt o_n0 "coder" "B" (.int 0)) (P7 : Exa Z h0 tt o_n0) (P8 : n0 ≤ tt) (P9 : Arv Z h0 a ks .char nz cs (.int 0)) (hcw : ¬ cw = (0 : Int32)) (hf : ∀ i : Int32, 0 ≤ i.toInt → i.toInt < nz.toInt → cs.getD i.toNatClampNeg (.int 0) = .int (f i)) (hk : 0 ≤ k.toInt ∧ k.toInt < nz.toInt ∧ nz.toInt ≤ 54) (hlat : ∀ i : Int32, 0 ≤ i.toInt → i.toInt < k.toInt → ¬ ((255 : Int32) < f i)) (hbig : (255 : Int32) < f k) (hr : 0 ≤ (f k).toInt ∧ (f k).toInt < 65536) :
    MetFree l (⟨o_n0, "<init>", "([C)V"⟩ : MethodName) (head1 (Jvm.Cond.code (⟨o_n0, "<init>", "([C)V"⟩ : MethodName) jdk_42_method_3_code 2 none :: ws) ({ frames := 5, cells := 2, slots := 162, locals := 74 } : Room)) (fun argz U => argz = #[(.ref tt), (.ref a)] ∧ Z.Warmed39 U.vm ∧ U.heap = h0) (fun _ _ _ _ _ => True) (fun _ U o U' => ∃ v L, o = .returned v ∧ Q2u Z tt a ks f cs k nz cw h0 n0 v U'.heap L ∧ FrameEnd U o U' L ({ frames := 5, cells := 2, slots := 162, locals := 74 } : Room).cells ({ frames := 5, cells := 2, slots := 162, locals := 74 } : Room).slots) := by
  refine MetFree.of_bodySF (plainFor_of_name pn_java_lang_String) hisR ?_
  intro p e s m args below meth c s₁ Bd hml0 hP hK
  obtain ⟨rfl, hZ, hh⟩ := hP
  have hx := Bd.exec
  have hby := Bd.bytes
  have hml : c.maxLocals = 2 := hml0
  have hown : s.vm.findClass o_n0 = some m.cls := findClass_of_methodNamed Bd.named
  have hnm := (name_of_methodNamed Bd.named Bd.method).1
  have X0 : Stand p l e ({ frames := 5, cells := 2, slots := 162, locals := 74 } : Room) s m #[(.ref tt), (.ref a)] below meth c s₁ [] 0 0 := Stand.of_body Bd
  have e0 : s₁.heap = h0 := by rw [← hh, Bd.state]; rfl
  have N0 := Fr.nil n0
  have K0 : Keep h0 h0 [tt] := Keep.refl _ _
  have G : Gets p e below (s₁.setTop (entryFrame m #[(.ref tt), (.ref a)] 2)) (s₁.setTop (mkF m 0 #[.val (.ref tt), .val (.ref a)] [])) := fun tq kq => castTop (ef_2u m tt a) kq
  replace G := o_aloadN (q := 1) G X0.here hx (hb hby d2_0) rfl rfl rfl
  replace G := o_aloadN (q := 2) G X0.here hx (hb hby d2_1) rfl rfl rfl
  replace G := o_iconst (q := 3) G X0.here hx (hb hby d2_2) (v := (0 : Int32)) (by decide) rfl
  replace G := o_aloadN (q := 4) G X0.here hx (hb hby d2_3) rfl rfl rfl
  obtain ⟨c1, Ar1, -, S1, N1', -, -⟩ := id P9
  replace G : Gets p e below _ (s₁.setTop (mkF m 5 #[.val (.ref tt), .val (.ref a)] [(.int nz), (.int 0), (.ref a), (.ref tt)])) := fun t k => G t (X0.arraylength hx (by rw [e0]; exact Ar1.1) (State.isArrayOf_alike hZ.alike Ar1.2.1) (g := o_g G) rfl rfl (hb hby d2_4) t (by rw [len_of S1 N1']; exact k))
  replace G := o_aconst_null (q := 6) G X0.here hx (hb hby d2_5) rfl
  obtain ⟨_, _, ⟨T2, L2, kk2, nn2⟩, -, X2, ⟨Lc2, hQ2, l2, y2, z2⟩, st2⟩ := X0.specialBack hx (y := (⟨o_n0, "<init>", "([CIILjava/lang/Void;)V"⟩ : MethodName)) rfl hown (mvT hZ (o_w hw 13 rfl)) (mvT hZ (o_w hw 14 rfl)) (mvT hZ (o_w hw 16 rfl)) (by decide) (backOf (W := 0) (rm3u l Z a0 hw [] tt a nz ks f cs k cw h0 n0 Z0 P0 P1 P2 P3 P4 P5 P6 P7 P8 P9 hcw hf hk hlat hbig hr) hZ (o_w hw 16 rfl) (o_w hw 9 rfl) (by decide) (by decide)) (g := o_g G) rfl (by rw [hml]; rfl) (Steps.refl _) (a := tt) (argsL := [(.ref a), (.int 0), (.int nz), .null]) (rest := []) (lenOf pd_7 rfl) rfl (by show 2 * 0 + _ ≤ _; exact Nat.le_of_eq rfl) (hb hby d2_6) (fun _ _ => ⟨rfl, e0, (by decide : 0 + 2 ≤ _), (by decide : 0 + 162 ≤ _)⟩)
  dsimp only [Pt.U, Pt.locs, Pt.cells, Pt.slots] at X2 l2 y2 z2 st2 hQ2
  subst l2 y2 z2
  obtain ⟨b_2, rfl, N2q, K2q, B2_0, B2_1⟩ := hQ2
  have Z2 : n0 ≤ T2.heap.size := Nat.le_trans Z0 K2q.1
  have K2 : Keep h0 T2.heap [tt] := K0.trans K2q (allS (Or.inl (List.mem_of_getElem? (i := 0) rfl)) all0)
  have N2 := Fr.app N0 N2q
  replace G := o_nxv (q := 9) (st := []) G st2 rfl
  obtain ⟨fs, hr, hrun, hended, hW, hsame⟩ := X2.leave (v := none) (fun _ => rfl)
  refine ⟨_, _, G _ (X2.returnOut hx Bd.returns (hb hby d2_9) hr), hrun, hended, _, _, rfl, ?_, ⟨_, rfl⟩, hW, hsame.mono (by decide) (by decide)⟩
  show Q2u Z tt a ks f cs k nz cw h0 n0 _ T2.heap _
  exact ⟨b_2, rfl, N2, K2, B2_0, B2_1⟩
def o_EL : List (String × Nat) := [("com/example/assertgate/assertgate/saml/NameIdFormats", 9), ("com/example/assertgate/assertgate/saml/NameIdFormats", 17), ("com/example/assertgate/assertgate/saml/NameIdFormatsIsAcceptedPinLaw", 26), ("com/example/assertgate/assertgate/saml/NameIdFormatsIsAcceptedPinLaw", 35), ("com/example/assertgate/assertgate/saml/NameIdFormatsIsAcceptedPinLaw", 41), (o_n0, 7)]
theorem o_EW {a0 : Array Value} {Z : State} (hw : ∀ d ∈ tables_1, d.before a0 Z = true) : EW Z a0 o_EL := (EW.cons (o_w hw 40 rfl) (by decide) (EW.cons (o_w hw 53 rfl) (by decide) (EW.cons (o_w hw 54 rfl) (by decide) (EW.cons (o_w hw 77 rfl) (by decide) (EW.cons (o_w hw 76 rfl) (by decide) (EW.cons (o_w hw 97 rfl) (by decide) EW.nil))))))
theorem o_chw {s Z : State} {a0 : Array Value} {EL : List (String × Nat)} {vm0 vm1 : Vm} {h : Heap} (hZ : Z.Warmed39 vm0) (w : EW Z a0 EL) (H : CHv Z EL vm0 h) (hv : (s.setVm vm0).WarmedH vm1) : CHv Z EL vm1 h :=
  (CHv.later (h' := h) hZ (hW := (show (Wst Z vm0 h).Warmed39 vm1 from hv.wide)) w ⟨Nat.le_refl _, fun _ _ q => q⟩ (Or.inl hv.interned_eq) H).1
theorem o_sfw {s Z : State} {a0 : Array Value} {EL : List (String × Nat)} {vm0 vm1 : Vm} {h : Heap} {x : Addr} (hZ : Z.Warmed39 vm0) (w : EW Z a0 EL) (H : CHv Z EL vm0 h) (hv : (s.setVm vm0).WarmedH vm1) (hx : x < h.size) (S : Safe Z EL vm0 h x) : Safe Z EL vm1 h x := by
  have q := CHv.later (h' := h) hZ (hW := (show (Wst Z vm0 h).Warmed39 vm1 from hv.wide)) w ⟨Nat.le_refl _, fun _ _ q => q⟩ (Or.inl hv.interned_eq) H
  exact CHr.safe (show CHr Z EL vm0 h vm1 h from ⟨q.1, Nat.le_refl _, q.2⟩) hx S
theorem d3_8 : decode jdk_42_method_149_code 8 = .ok (.aload_n 0, 1) := by decide +kernel
theorem d3_9 : decode jdk_42_method_149_code 9 = .ok (.ldc 7, 2) := by decide +kernel
theorem d3_11 : decode jdk_42_method_149_code 11 = .ok (.getfield 9, 3) := by decide +kernel
theorem d3_14 : decode jdk_42_method_149_code 14 = .ok (.putfield 9, 3) := by decide +kernel
theorem d3_17 : decode jdk_42_method_149_code 17 = .ok (.aload_n 0, 1) := by decide +kernel
theorem d3_18 : decode jdk_42_method_149_code 18 = .ok (.ldc 7, 2) := by decide +kernel
theorem d3_20 : decode jdk_42_method_149_code 20 = .ok (.getfield 15, 3) := by decide +kernel
theorem d3_23 : decode jdk_42_method_149_code 23 = .ok (.putfield 15, 3) := by decide +kernel
theorem d3_26 : decode jdk_42_method_149_code 26 = .ok (.return_, 1) := by decide +kernel
theorem ef_3z (m : MethodId) (x0 : Addr) (x1 : Addr) : entryFrame m #[(.ref x0), (.ref x1), (.int 0), (.int 0), .null] 6 = mkF m 0 #[.val (.ref x0), .val (.ref x1), .val (.int 0), .val (.int 0), .val .null, .unset] [] := by first | (simp [entryFrame, mkF, argsToLocals, Value.category]; done) | rfl
def Q3z (Z : State) (tt : Addr) (a : Addr) (h0 : Heap) (n0 : Nat) (v : Option Value) (h : Heap) (L : List Loc) (vm : Vm) : Prop := ∃ (b : Addr) (kb : ClassId), v = none ∧ Fr n0 L ∧ Keep h0 h [tt] ∧ (Fld Z h tt o_n0 "value" "[B" (.ref b)) ∧ (Fld Z h tt o_n0 "coder" "B" (.int 0)) ∧ (Arv Z h b kb .byte (0 : Int32) [] (.int 0)) ∧ CHv Z o_EL vm h
set_option maxRecDepth 65536 in
set_option maxHeartbeats 40000000 in
theorem rm3z (l : Launch) (Z : State) (a0 : Array Value) (hw : ∀ d ∈ tables_1, d.before a0 Z = true) (ws : List Jvm.Cond) (tt : Addr) (a : Addr) (h0 : Heap) (n0 : Nat) (Z0 : n0 ≤ h0.size) (P0 : Old Z n0 h0) (P1 : Fld Z h0 tt o_n0 "value" "[B" .null) (P2 : Fld Z h0 tt o_n0 "coder" "B" (.int 0)) (P3 : Exa Z h0 tt o_n0) (P4 : n0 ≤ tt) :
    MetFree l (⟨o_n0, "<init>", "([CIILjava/lang/Void;)V"⟩ : MethodName) (head1 (Jvm.Cond.code (⟨o_n0, "<init>", "([CIILjava/lang/Void;)V"⟩ : MethodName) jdk_42_method_149_code 6 none :: ws) ({ frames := 1, cells := 4, slots := 8, locals := 12 } : Room)) (fun argz U => argz = #[(.ref tt), (.ref a), (.int 0), (.int 0), .null] ∧ Z.Warmed39 U.vm ∧ U.heap = h0 ∧ (CHv Z o_EL U.vm h0 ∧ Safe Z o_EL U.vm h0 tt)) (fun _ _ _ _ _ => True) (fun _ U o U' => ∃ v L, o = .returned v ∧ Q3z Z tt a h0 n0 v U'.heap L U'.vm ∧ ReturnedEndW U o U' L ({ frames := 1, cells := 4, slots := 8, locals := 12 } : Room).cells ({ frames := 1, cells := 4, slots := 8, locals := 12 } : Room).slots) := by
  refine MetFree.of_bodySF (plainFor_of_name pn_java_lang_String) hisR ?_
  intro p e s m args below meth c s₁ Bd hml0 hP hK
  obtain ⟨rfl, hZ, hh, hV⟩ := hP
  have hx := Bd.exec
  have hby := Bd.bytes
  have hml : c.maxLocals = 6 := hml0
  have hown : s.vm.findClass o_n0 = some m.cls := findClass_of_methodNamed Bd.named
  have hnm := (name_of_methodNamed Bd.named Bd.method).1
  have X0 : Stand p l e ({ frames := 1, cells := 4, slots := 8, locals := 12 } : Room) s m #[(.ref tt), (.ref a), (.int 0), (.int 0), .null] below meth c s₁ [] 0 0 := Stand.of_body Bd
  have e0 : s₁.heap = h0 := by rw [← hh, Bd.state]; rfl
  have N0 := Fr.nil n0
  have K0 : Keep h0 h0 [tt] := Keep.refl _ _
  have G : Gets p e below (s₁.setTop (entryFrame m #[(.ref tt), (.ref a), (.int 0), (.int 0), .null] 6)) (s₁.setTop (mkF m 0 #[.val (.ref tt), .val (.ref a), .val (.int 0), .val (.int 0), .val .null, .unset] [])) := fun tq kq => castTop (ef_3z m tt a) kq
  replace G := o_aloadN (q := 1) G X0.here hx (hb hby d3_0) rfl rfl rfl
  obtain ⟨T1, X1, e1, st1⟩ := initO X0 hx hZ hown (o_w hw 17 rfl) (o_w hw 18 rfl) (o_w hw 19 rfl) e0 (g := o_g G) rfl (by rw [hml]; rfl) rfl (hb hby d3_1) (by decide) (W := 0) (by show 2 * 0 + _ ≤ _; exact Nat.le_of_eq rfl) (by decide)
  replace G := o_nxs (q := 4) (st := []) G st1 rfl
  replace G := o_iloadN (q := 5) G X1.here hx (hb hby d3_4) rfl rfl
  replace G := o_ifNo (q := 8) G X1.here hx (hb hby d3_5) (by decide) rfl
  replace G := o_aloadN (q := 9) G X1.here hx (hb hby d3_8) rfl rfl rfl
  have o_size : s.heap.size ≤ h0.size := by rw [hh]; exact Nat.le_refl _
  obtain ⟨b3, T3, h3, k13, v3, kv3, X3, e3, E3, S3, hk3, hZ3, hown3, A3, C3, V3, R3, -, -, J3, -, SS3, st3⟩ := ldcCH (s := s) (vm0 := s.vm) (EL := o_EL) X1 hx hZ hown (o_w hw 97 rfl) (fun d hd => hw d (o_strs d hd)) e1 (o_since s) o_size (o_EW hw) (by decide) hV.1 (vs := []) (z := (0 : Int32)) (by constructor <;> decide) (by decide) rfl (g := o_g G) rfl (hb hby d3_9) (n := 0) (by decide) (by decide) (by decide) (by decide)
  have Z3 : n0 ≤ h3.size := Nat.le_trans Z0 E3.1
  have K3 : Keep h0 h3 [tt] := K0.ext E3
  have ne4 := SS3 tt (J3.safe P3.lt hV.2)
  replace G := o_nxs (q := 11) (st := [(.ref b3), (.ref tt)]) G st3 rfl
  obtain ⟨T5, X5, e5, st5⟩ := getF X3 hx hZ3 hown3 (host := "") (Or.inl (o_w hw 34 rfl)) Via.refl e3 V3 (g := o_g G) rfl rfl (hb hby d3_11)
  replace G := o_nxs (q := 14) (st := [(.ref v3), (.ref tt)]) G st5 rfl
  have F6 := (P3.ext E3)
  have F7 := (P1.ext E3)
  obtain ⟨T8, h8, X8, e8, W8, st8⟩ := putF X5 hx hZ3 hown3 (host := "") (Or.inl (o_w hw 34 rfl)) Via.refl e5 F7 F6 (Or.inr ⟨(o_w hw 35 rfl), rfl, hnm⟩) (o_w hw 8 rfl) (ty := (.array .byte)) (by decide) rfl rfl (g := o_g G) rfl rfl (hb hby d3_14)
  have hk9 := Nat.le_trans hk3 (Keep.of_wr W8).1
  have N8 := Fr.snoc X8 N0 P4
  have Z8 : n0 ≤ h8.size := Nat.le_trans Z3 (Keep.of_wr W8).1
  have K8 : Keep h0 h8 [tt] := K3.wr W8 (Or.inl (List.mem_of_getElem? (i := 0) rfl))
  have F8 : Fld Z h8 tt o_n0 "value" "[B" (.ref v3) := F7.same W8
  replace G := o_nxs (q := 17) (st := []) G st8 rfl
  replace G := o_aloadN (q := 18) G X8.here hx (hb hby d3_17) rfl rfl rfl
  have CH10 := CHv.wr W8 (J3.safe P3.lt hV.2) J3.1
  have SF11 := Safe.wr W8 (J3.safe P3.lt hV.2) J3.1 (J3.safe P3.lt hV.2)
  have F12 := (F6.wr W8)
  obtain ⟨b13, T13, h13, k113, v13, kv13, X13, e13, E13, S13, hk13, hZ13, hown13, A13, C13, V13, R13, -, -, J13, -, SS13, st13⟩ := ldcCH (s := s) (vm0 := T3.vm) (EL := o_EL) X8 hx hZ3 hown3 (o_w hw 97 rfl) (fun d hd => hw d (o_strs d hd)) e8 S3 hk9 (o_EW hw) (by decide) CH10 (vs := []) (z := (0 : Int32)) (by constructor <;> decide) (by decide) rfl (g := o_g G) rfl (hb hby d3_18) (n := 0) (by decide) (by decide) (by decide) (by decide)
  have Z13 : n0 ≤ h13.size := Nat.le_trans Z8 E13.1
  have K13 : Keep h0 h13 [tt] := K8.ext E13
  have ne14 := SS13 tt (J13.safe F12.lt SF11)
  replace G := o_nxs (q := 20) (st := [(.ref b13), (.ref tt)]) G st13 rfl
  obtain ⟨T15, X15, e15, st15⟩ := getF X13 hx hZ13 hown13 (host := "") (Or.inl (o_w hw 32 rfl)) Via.refl e13 C13 (g := o_g G) rfl rfl (hb hby d3_20)
  replace G := o_nxs (q := 23) (st := [(.int 0), (.ref tt)]) G st15 rfl
  have F16 := (F12.ext E13)
  have F17 := (((P2.ext E3).other W8 (Or.inr (slot_ne (Or.inr (o_w hw 33 rfl)) (Or.inr (o_w hw 35 rfl)) (by decide) (t := .byte) (t' := (.array .byte)) (by decide) (by decide)))).ext E13)
  obtain ⟨T18, h18, X18, e18, W18, st18⟩ := putFN X15 hx hZ13 hown13 (o_w hw 32 rfl) Via.refl e15 F17 F16 (Or.inr ⟨(o_w hw 33 rfl), rfl, hnm⟩) (o_w hw 8 rfl) (ty := .byte) (v' := (.int 0)) (by decide) rfl (by first | rfl | decide) (g := o_g G) rfl rfl (hb hby d3_23)
  have hk19 := Nat.le_trans hk13 (Keep.of_wr W18).1
  have N18 := Fr.snoc X18 N8 P4
  have Z18 : n0 ≤ h18.size := Nat.le_trans Z13 (Keep.of_wr W18).1
  have K18 : Keep h0 h18 [tt] := K13.wr W18 (Or.inl (List.mem_of_getElem? (i := 0) rfl))
  have F18 : Fld Z h18 tt o_n0 "coder" "B" (.int 0) := F17.same W18
  replace G := o_nxs (q := 26) (st := []) G st18 rfl
  obtain ⟨fs, hr, hrun, hended, -, hW, hBk, hsame⟩ := X18.leaveW S13 (by rw [e18]; exact hk19) (v := none) (fun _ => rfl)
  refine ⟨_, _, G _ (X18.returnOut hx Bd.returns (hb hby d3_26) hr), hrun, hended, _, _, rfl, ?_, ⟨_, rfl⟩, hW, hBk, hsame.mono (by decide) (by decide)⟩
  have F20 := ((F8.ext E13).other W18 (Or.inr (slot_ne (Or.inr (o_w hw 35 rfl)) (Or.inr (o_w hw 33 rfl)) (by decide) (t := (.array .byte)) (t' := .byte) (by decide) (by decide))))
  have F21 := (((R3.other W8 (Ne.symm ne4.2)).ext E13).other W18 (Ne.symm ne4.2))
  have CH22 := CHv.wr W18 (J13.safe F12.lt SF11) J13.1
  have SF23 := Safe.wr W18 (J13.safe F12.lt SF11) J13.1 (J13.safe F12.lt SF11)
  show Q3z Z tt a h0 n0 _ T18.heap _ T18.vm
  rw [e18]
  exact ⟨v3, kv3, rfl, N18, K18, F20, F18, F21, (o_chw (s := s) hZ13 (o_EW hw) CH22 X18.warmed)⟩
theorem ef_2z (m : MethodId) (x0 : Addr) (x1 : Addr) : entryFrame m #[(.ref x0), (.ref x1)] 2 = mkF m 0 #[.val (.ref x0), .val (.ref x1)] [] := by first | (simp [entryFrame, mkF, argsToLocals, Value.category]; done) | rfl
def Q2z (Z : State) (tt : Addr) (a : Addr) (ks : ClassId) (h0 : Heap) (n0 : Nat) (v : Option Value) (h : Heap) (L : List Loc) (vm : Vm) : Prop := ∃ (b : Addr) (kb : ClassId), v = none ∧ Fr n0 L ∧ Keep h0 h [tt] ∧ (Fld Z h tt o_n0 "value" "[B" (.ref b)) ∧ (Fld Z h tt o_n0 "coder" "B" (.int 0)) ∧ (Arv Z h b kb .byte (0 : Int32) [] (.int 0)) ∧ CHv Z o_EL vm h
set_option maxRecDepth 65536 in
set_option maxHeartbeats 40000000 in
theorem rm2z (l : Launch) (Z : State) (a0 : Array Value) (hw : ∀ d ∈ tables_1, d.before a0 Z = true) (ws : List Jvm.Cond) (tt : Addr) (a : Addr) (ks : ClassId) (h0 : Heap) (n0 : Nat) (Z0 : n0 ≤ h0.size) (P0 : Old Z n0 h0) (P1 : Fld Z h0 tt o_n0 "value" "[B" .null) (P2 : Fld Z h0 tt o_n0 "coder" "B" (.int 0)) (P3 : Exa Z h0 tt o_n0) (P4 : n0 ≤ tt) (P5 : Arv Z h0 a ks .char (0 : Int32) [] (.int 0)) :
    MetFree l (⟨o_n0, "<init>", "([C)V"⟩ : MethodName) (head1 (Jvm.Cond.code (⟨o_n0, "<init>", "([C)V"⟩ : MethodName) jdk_42_method_3_code 2 none :: ws) ({ frames := 2, cells := 4, slots := 8, locals := 29 } : Room)) (fun argz U => argz = #[(.ref tt), (.ref a)] ∧ Z.Warmed39 U.vm ∧ U.heap = h0 ∧ (CHv Z o_EL U.vm h0 ∧ Safe Z o_EL U.vm h0 tt)) (fun _ _ _ _ _ => True) (fun _ U o U' => ∃ v L, o = .returned v ∧ Q2z Z tt a ks h0 n0 v U'.heap L U'.vm ∧ ReturnedEndW U o U' L ({ frames := 2, cells := 4, slots := 8, locals := 29 } : Room).cells ({ frames := 2, cells := 4, slots := 8, locals := 29 } : Room).slots) := by
  refine MetFree.of_bodySF (plainFor_of_name pn_java_lang_String) hisR ?_
  intro p e s m args below meth c s₁ Bd hml0 hP hK
  obtain ⟨rfl, hZ, hh, hV⟩ := hP
  have hx := Bd.exec
  have hby := Bd.bytes
  have hml : c.maxLocals = 2 := hml0
  have hown : s.vm.findClass o_n0 = some m.cls := findClass_of_methodNamed Bd.named
  have hnm := (name_of_methodNamed Bd.named Bd.method).1
  have X0 : Stand p l e ({ frames := 2, cells := 4, slots := 8, locals := 29 } : Room) s m #[(.ref tt), (.ref a)] below meth c s₁ [] 0 0 := Stand.of_body Bd
  have e0 : s₁.heap = h0 := by rw [← hh, Bd.state]; rfl
  have N0 := Fr.nil n0
  have K0 : Keep h0 h0 [tt] := Keep.refl _ _
  have G : Gets p e below (s₁.setTop (entryFrame m #[(.ref tt), (.ref a)] 2)) (s₁.setTop (mkF m 0 #[.val (.ref tt), .val (.ref a)] [])) := fun tq kq => castTop (ef_2z m tt a) kq
  replace G := o_aloadN (q := 1) G X0.here hx (hb hby d2_0) rfl rfl rfl
  replace G := o_aloadN (q := 2) G X0.here hx (hb hby d2_1) rfl rfl rfl
  replace G := o_iconst (q := 3) G X0.here hx (hb hby d2_2) (v := (0 : Int32)) (by decide) rfl
  replace G := o_aloadN (q := 4) G X0.here hx (hb hby d2_3) rfl rfl rfl
  obtain ⟨c1, Ar1, -, S1, N1', -, -⟩ := id P5
  replace G : Gets p e below _ (s₁.setTop (mkF m 5 #[.val (.ref tt), .val (.ref a)] [(.int 0), (.int 0), (.ref a), (.ref tt)])) := fun t k => G t (X0.arraylength hx (by rw [e0]; exact Ar1.1) (State.isArrayOf_alike hZ.alike Ar1.2.1) (g := o_g G) rfl rfl (hb hby d2_4) t (by rw [len_of S1 N1']; exact k))
  replace G := o_aconst_null (q := 6) G X0.here hx (hb hby d2_5) rfl
  obtain ⟨_, _, ⟨T2, L2, kk2, nn2⟩, -, X2, S2', g2', ⟨Lc2, hQ2, l2, y2, z2⟩, st2⟩ := X0.specialBackS hx (y := (⟨o_n0, "<init>", "([CIILjava/lang/Void;)V"⟩ : MethodName)) rfl hown (mvT hZ (o_w hw 13 rfl)) (mvT hZ (o_w hw 14 rfl)) (mvT hZ (o_w hw 16 rfl)) (by decide) (o_backW (V := fun vm => (CHv Z o_EL vm h0 ∧ Safe Z o_EL vm h0 tt)) (W := 0) (rm3z l Z a0 hw [] tt a h0 n0 Z0 P0 P1 P2 P3 P4) hZ (o_w hw 16 rfl) (o_w hw 9 rfl) (by decide) (by decide)) (g := o_g G) rfl (by rw [hml]; rfl) (Steps.refl _) (a := tt) (argsL := [(.ref a), (.int 0), (.int 0), .null]) (rest := []) (lenOf pd_7 rfl) rfl (by show 2 * 0 + _ ≤ _; exact Nat.le_of_eq rfl) (hb hby d2_6) (fun _ hvm => ⟨rfl, e0, (by decide : 0 + 4 ≤ _), (by decide : 0 + 8 ≤ _), o_chw (s := s) hZ (o_EW hw) hV.1 hvm, o_sfw (s := s) hZ (o_EW hw) hV.1 hvm P3.lt hV.2⟩)
  dsimp only [Pt.U, Pt.locs, Pt.cells, Pt.slots] at X2 l2 y2 z2 st2 hQ2 S2' g2'
  subst l2 y2 z2
  have S2 := S2'
  have hZ2 : Z.Warmed39 (s.setVm T2.vm).vm := State.Warmed39.trans hZ S2.1
  have hown2 := (S2.1.alike.findClass _ _).trans hown
  obtain ⟨b_2, kb_2, rfl, N2q, K2q, B2_0, B2_1, B2_2, hL2⟩ := hQ2
  have Z2 : n0 ≤ T2.heap.size := Nat.le_trans Z0 K2q.1
  have K2 : Keep h0 T2.heap [tt] := K0.trans K2q (allS (Or.inl (List.mem_of_getElem? (i := 0) rfl)) all0)
  have N2 := Fr.app N0 N2q
  replace G := o_nxv (q := 9) (st := []) G st2 rfl
  obtain ⟨fs, hr, hrun, hended, -, hW, hBk, hsame⟩ := X2.leaveW S2 (Nat.le_refl _) (v := none) (fun _ => rfl)
  refine ⟨_, _, G _ (X2.returnOut hx Bd.returns (hb hby d2_9) hr), hrun, hended, _, _, rfl, ?_, ⟨_, rfl⟩, hW, hBk, hsame.mono (by decide) (by decide)⟩
  show Q2z Z tt a ks h0 n0 _ T2.heap _ T2.vm
  exact ⟨b_2, kb_2, rfl, N2, K2, B2_0, B2_1, B2_2, (o_chw (s := s) hZ2 (o_EW hw) hL2 X2.warmed)⟩
theorem d9_0 : decode jdk_42_method_66_code 0 = .ok (.aload_n 0, 1) := by decide +kernel
theorem d9_1 : decode jdk_42_method_66_code 1 = .ok (.aload_n 1, 1) := by decide +kernel
theorem d9_2 : decode jdk_42_method_66_code 2 = .ok (.if_acmp .ne 5, 3) := by decide +kernel
theorem d9_7 : decode jdk_42_method_66_code 7 = .ok (.aload_n 1, 1) := by decide +kernel
theorem d9_8 : decode jdk_42_method_66_code 8 = .ok (.instanceof 10, 3) := by decide +kernel
theorem d9_11 : decode jdk_42_method_66_code 11 = .ok (.ifCond .eq 43, 3) := by decide +kernel
theorem d9_14 : decode jdk_42_method_66_code 14 = .ok (.aload_n 1, 1) := by decide +kernel
theorem d9_15 : decode jdk_42_method_66_code 15 = .ok (.checkcast 10, 3) := by decide +kernel
theorem d9_18 : decode jdk_42_method_66_code 18 = .ok (.astore_n 2, 1) := by decide +kernel
theorem d9_19 : decode jdk_42_method_66_code 19 = .ok (.getstatic 38, 3) := by decide +kernel
theorem d9_22 : decode jdk_42_method_66_code 22 = .ok (.ifCond .eq 14, 3) := by decide +kernel
theorem d9_25 : decode jdk_42_method_66_code 25 = .ok (.aload_n 0, 1) := by decide +kernel
theorem d9_26 : decode jdk_42_method_66_code 26 = .ok (.getfield 15, 3) := by decide +kernel
theorem d9_29 : decode jdk_42_method_66_code 29 = .ok (.aload_n 2, 1) := by decide +kernel
theorem d9_30 : decode jdk_42_method_66_code 30 = .ok (.getfield 15, 3) := by decide +kernel
theorem d9_33 : decode jdk_42_method_66_code 33 = .ok (.if_icmp .ne 21, 3) := by decide +kernel
theorem d9_54 : decode jdk_42_method_66_code 54 = .ok (.iconst 0, 1) := by decide +kernel
theorem d9_55 : decode jdk_42_method_66_code 55 = .ok (.ireturn, 1) := by decide +kernel
theorem ef_9u (m : MethodId) (x0 : Addr) (x1 : Addr) : entryFrame m #[(.ref x0), (.ref x1)] 3 = mkF m 0 #[.val (.ref x0), .val (.ref x1), .unset] [] := by first | (simp [entryFrame, mkF, argsToLocals, Value.category]; done) | rfl
def Q9u (Z : State) (a : Addr) (u : Addr) (cw : Int32) (h0 : Heap) (n0 : Nat) (v : Option Value) (h : Heap) (L : List Loc) : Prop := v = some (.int 0) ∧ Fr n0 L ∧ h = h0
set_option maxRecDepth 65536 in
set_option maxHeartbeats 40000000 in
theorem rm9u (l : Launch) (Z : State) (a0 : Array Value) (hw : ∀ d ∈ tables_1, d.before a0 Z = true) (ws : List Jvm.Cond) (a : Addr) (u : Addr) (cw : Int32) (h0 : Heap) (n0 : Nat) (Z0 : n0 ≤ h0.size) (P0 : Sta Z h0 o_n0 "COMPACT_STRINGS" "Z" (.int cw)) (hcw : ¬ cw = (0 : Int32)) (P2 : Exa Z h0 a o_n0) (P3 : Exa Z h0 u o_n0) (P4 : Fld Z h0 a o_n0 "coder" "B" (.int 0)) (P5 : Fld Z h0 u o_n0 "coder" "B" (.int 1)) (P6 : a ≠ u) :
    MetFree l (⟨o_n0, "equals", "(Ljava/lang/Object;)Z"⟩ : MethodName) (head1 (Jvm.Cond.code (⟨o_n0, "equals", "(Ljava/lang/Object;)Z"⟩ : MethodName) jdk_42_method_66_code 3 (some .boolean) :: ws) ({ frames := 0, cells := 0, slots := 0, locals := 0 } : Room)) (fun argz U => argz = #[(.ref a), (.ref u)] ∧ Z.Warmed39 U.vm ∧ U.heap = h0) (fun _ _ _ _ _ => True) (fun _ U o U' => ∃ v L, o = .returned v ∧ Q9u Z a u cw h0 n0 v U'.heap L ∧ FrameEnd U o U' L ({ frames := 0, cells := 0, slots := 0, locals := 0 } : Room).cells ({ frames := 0, cells := 0, slots := 0, locals := 0 } : Room).slots) := by
  refine MetFree.of_bodySF (plainFor_of_name pn_java_lang_String) hisR ?_
  intro p e s m args below meth c s₁ Bd hml0 hP hK
  obtain ⟨rfl, hZ, hh⟩ := hP
  have hx := Bd.exec
  have hby := Bd.bytes
  have hml : c.maxLocals = 3 := hml0
  have hown : s.vm.findClass o_n0 = some m.cls := findClass_of_methodNamed Bd.named
  have hnm := (name_of_methodNamed Bd.named Bd.method).1
  have X0 : Stand p l e ({ frames := 0, cells := 0, slots := 0, locals := 0 } : Room) s m #[(.ref a), (.ref u)] below meth c s₁ [] 0 0 := Stand.of_body Bd
  have e0 : s₁.heap = h0 := by rw [← hh, Bd.state]; rfl
  have N0 := Fr.nil n0
  have G : Gets p e below (s₁.setTop (entryFrame m #[(.ref a), (.ref u)] 3)) (s₁.setTop (mkF m 0 #[.val (.ref a), .val (.ref u), .unset] [])) := fun tq kq => castTop (ef_9u m a u) kq
  replace G := o_aloadN (q := 1) G X0.here hx (hb hby d9_0) rfl rfl rfl
  replace G := o_aloadN (q := 2) G X0.here hx (hb hby d9_1) rfl rfl rfl
  replace G : Gets p e below _ (s₁.setTop (mkF m 7 #[.val (.ref a), .val (.ref u), .unset] [])) := fun t k => G t (Jvm.RoadKit.acmp (g := o_g G) X0 hx rfl rfl rfl (pc0 := 2) (pc' := 7) (same := false) rfl (hb hby d9_2) rfl (decide_eq_false fun q => P6 (Value.ref.inj q)) (by decide) (by decide) k)
  replace G := o_aloadN (q := 8) G X0.here hx (hb hby d9_7) rfl rfl rfl
  obtain ⟨T1, X1, e1, st1⟩ := instY X0 hx hZ hown (o_w hw 48 rfl) e0 (Ins.self P3) (g := o_g G) rfl rfl (hb hby d9_8)
  replace G := o_nxs (q := 11) (st := [(.int 1)]) G st1 rfl
  replace G := o_ifNo (q := 14) G X1.here hx (hb hby d9_11) (by decide) rfl
  replace G := o_aloadN (q := 15) G X1.here hx (hb hby d9_14) rfl rfl rfl
  obtain ⟨T3, X3, e3, st3⟩ := castY X1 hx hZ hown (o_w hw 48 rfl) e1 (Ins.self P3) (g := o_g G) rfl rfl (hb hby d9_15)
  replace G := o_nxs (q := 18) (st := [(.ref u)]) G st3 rfl
  replace G := o_astoreN (q := 19) (l' := #[.val (.ref a), .val (.ref u), .val (.ref u)]) G X3.here hx (hb hby d9_18) rfl rfl rfl
  obtain ⟨T4, X4, e4, st4⟩ := getS2 X3 hx hZ hown (host := "") (Or.inl (o_w hw 20 rfl)) Via.refl e3 P0 (g := o_g G) rfl (hb hby d9_19)
  replace G := o_nxs (q := 22) (st := [(.int cw)]) G st4 rfl
  have hc22_5 : ¬ (cw = (0 : Int32)) := hcw
  replace G := o_ifNo (q := 25) G X4.here hx (hb hby d9_22) ((if0 _ _).trans (feq hc22_5).1) rfl
  replace G := o_aloadN (q := 26) G X4.here hx (hb hby d9_25) rfl rfl rfl
  obtain ⟨T6, X6, e6, st6⟩ := getF X4 hx hZ hown (host := "") (Or.inl (o_w hw 32 rfl)) Via.refl e4 P4 (g := o_g G) rfl rfl (hb hby d9_26)
  replace G := o_nxs (q := 29) (st := [(.int 0)]) G st6 rfl
  replace G := o_aloadN (q := 30) G X6.here hx (hb hby d9_29) rfl rfl rfl
  obtain ⟨T7, X7, e7, st7⟩ := getF X6 hx hZ hown (host := "") (Or.inl (o_w hw 32 rfl)) Via.refl e6 P5 (g := o_g G) rfl rfl (hb hby d9_30)
  replace G := o_nxs (q := 33) (st := [(.int 1), (.int 0)]) G st7 rfl
  replace G := o_icmpYes (q := 54) G X7.here hx (hb hby d9_33) (by decide) (by decide) (by decide)
  replace G := o_iconst (q := 55) G X7.here hx (hb hby d9_54) (v := (0 : Int32)) (by decide) rfl
  obtain ⟨fs, hr, hrun, hended, hW, hsame⟩ := X7.leave (v := some (.int 0)) (fun h => by rw [Bd.returns] at h; cases h)
  refine ⟨_, _, G _ (retOut X7 hx Bd.returns rfl (Or.inl ⟨rfl, Or.inr (Or.inl rfl), _, rfl⟩) (hb hby d9_55) hr), hrun, hended, _, _, rfl, ?_, ⟨_, rfl⟩, hW, hsame.mono (by decide) (by decide)⟩
  show Q9u Z a u cw h0 n0 _ T7.heap _
  rw [e7]
  exact ⟨rfl, N0, rfl⟩
theorem pd_8 : parseMethodDescriptor "(Ljava/lang/Object;)Z" = some ⟨[(.object "java/lang/Object")], some .boolean⟩ := by decide +kernel
theorem d8_0 : decode prog_22_method_2_code 0 = .ok (.ldc 9, 2) := by decide +kernel
theorem d8_2 : decode prog_22_method_2_code 2 = .ok (.aload_n 0, 1) := by decide +kernel
theorem d8_3 : decode prog_22_method_2_code 3 = .ok (.invokevirtual 11, 3) := by decide +kernel
theorem d8_6 : decode prog_22_method_2_code 6 = .ok (.ifCond .ne 12, 3) := by decide +kernel
theorem d8_9 : decode prog_22_method_2_code 9 = .ok (.ldc 17, 2) := by decide +kernel
theorem d8_11 : decode prog_22_method_2_code 11 = .ok (.aload_n 0, 1) := by decide +kernel
theorem d8_12 : decode prog_22_method_2_code 12 = .ok (.invokevirtual 11, 3) := by decide +kernel
theorem d8_15 : decode prog_22_method_2_code 15 = .ok (.ifCond .eq 7, 3) := by decide +kernel
theorem d8_22 : decode prog_22_method_2_code 22 = .ok (.iconst 0, 1) := by decide +kernel
theorem d8_23 : decode prog_22_method_2_code 23 = .ok (.ireturn, 1) := by decide +kernel
theorem pn_com_example_assertgate_assertgate_saml_NameIdFormats : plainName "com/example/assertgate/assertgate/saml/NameIdFormats" = true := by first | (simp [plainName, overriddenIn]; done) | decide +kernel
theorem ef_8u (m : MethodId) (x0 : Addr) : entryFrame m #[(.ref x0)] 1 = mkF m 0 #[.val (.ref x0)] [] := by first | (simp [entryFrame, mkF, argsToLocals, Value.category]; done) | rfl
def Q8u (Z : State) (u : Addr) (cw : Int32) (h0 : Heap) (n0 : Nat) (v : Option Value) (h : Heap) (L : List Loc) (vm : Vm) : Prop := v = some (.int 0) ∧ Fr n0 L ∧ Keep h0 h [] ∧ CHv Z o_EL vm h
set_option maxRecDepth 65536 in
set_option maxHeartbeats 40000000 in
theorem rm8u (l : Launch) (Z : State) (a0 : Array Value) (hw : ∀ d ∈ tables_1, d.before a0 Z = true) (ws : List Jvm.Cond) (u : Addr) (cw : Int32) (h0 : Heap) (n0 : Nat) (Z0 : n0 ≤ h0.size) (P0 : Old Z n0 h0) (P1 : Sta Z Z.heap o_n0 "COMPACT_STRINGS" "Z" (.int cw)) (hcw : ¬ cw = (0 : Int32)) (P3 : Exa Z h0 u o_n0) (P4 : Fld Z h0 u o_n0 "coder" "B" (.int 1)) :
    MetFree l (⟨"com/example/assertgate/assertgate/saml/NameIdFormats", "isAccepted", "(Ljava/lang/String;)Z"⟩ : MethodName) (head1 (Jvm.Cond.code (⟨"com/example/assertgate/assertgate/saml/NameIdFormats", "isAccepted", "(Ljava/lang/String;)Z"⟩ : MethodName) prog_22_method_2_code 1 (some .boolean) :: ws) ({ frames := 1, cells := 4, slots := 432, locals := 14 } : Room)) (fun argz U => argz = #[(.ref u)] ∧ Z.Warmed39 U.vm ∧ U.heap = h0 ∧ CHv Z o_EL U.vm h0) (fun _ _ _ _ _ => True) (fun _ U o U' => ∃ v L, o = .returned v ∧ Q8u Z u cw h0 n0 v U'.heap L U'.vm ∧ ReturnedEndW U o U' L ({ frames := 1, cells := 4, slots := 432, locals := 14 } : Room).cells ({ frames := 1, cells := 4, slots := 432, locals := 14 } : Room).slots) := by
  refine MetFree.of_bodySF (plainFor_of_name pn_com_example_assertgate_assertgate_saml_NameIdFormats) hisR ?_
  intro p e s m args below meth c s₁ Bd hml0 hP hK
  obtain ⟨rfl, hZ, hh, hV⟩ := hP
  have hx := Bd.exec
  have hby := Bd.bytes
  have hml : c.maxLocals = 1 := hml0
  have hown : s.vm.findClass "com/example/assertgate/assertgate/saml/NameIdFormats" = some m.cls := findClass_of_methodNamed Bd.named
  have hnm := (name_of_methodNamed Bd.named Bd.method).1
  have X0 : Stand p l e ({ frames := 1, cells := 4, slots := 432, locals := 14 } : Room) s m #[(.ref u)] below meth c s₁ [] 0 0 := Stand.of_body Bd
  have e0 : s₁.heap = h0 := by rw [← hh, Bd.state]; rfl
  have N0 := Fr.nil n0
  have K0 : Keep h0 h0 [] := Keep.refl _ _
  have G : Gets p e below (s₁.setTop (entryFrame m #[(.ref u)] 1)) (s₁.setTop (mkF m 0 #[.val (.ref u)] [])) := fun tq kq => castTop (ef_8u m u) kq
  have o_size : s.heap.size ≤ h0.size := by rw [hh]; exact Nat.le_refl _
  obtain ⟨b1, T1, h1, k11, v1, kv1, X1, e1, E1, S1, hk1, hZ1, hown1, A1, C1, V1, R1, -, -, J1, -, SS1, st1⟩ := ldcCH (s := s) (vm0 := s.vm) (EL := o_EL) X0 hx hZ hown (o_w hw 40 rfl) (fun d hd => hw d (o_strs d hd)) e0 (o_since s) o_size (o_EW hw) (by decide) hV (vs := [(.int 117), (.int 114), (.int 110), (.int 58), (.int 111), (.int 97), (.int 115), (.int 105), (.int 115), (.int 58), (.int 110), (.int 97), (.int 109), (.int 101), (.int 115), (.int 58), (.int 116), (.int 99), (.int 58), (.int 83), (.int 65), (.int 77), (.int 76), (.int 58), (.int 50), (.int 46), (.int 48), (.int 58), (.int 110), (.int 97), (.int 109), (.int 101), (.int 105), (.int 100), (.int 45), (.int 102), (.int 111), (.int 114), (.int 109), (.int 97), (.int 116), (.int 58), (.int 112), (.int 101), (.int 114), (.int 115), (.int 105), (.int 115), (.int 116), (.int 101), (.int 110), (.int 116)]) (z := (52 : Int32)) (by constructor <;> decide) (by decide) rfl (g := o_g G) rfl (hb hby d8_0) (n := 208) (by decide) (by decide) (by decide) (by decide)
  have Z1 : n0 ≤ h1.size := Nat.le_trans Z0 E1.1
  have K1 : Keep h0 h1 [] := K0.ext E1
  have F2 := (P4.ext E1)
  have ne3 : u ≠ b1 := o_fne F2 C1 (fun z => absurd (Value.int.inj z) (by decide))
  replace G := o_nxs (q := 2) (st := [(.ref b1)]) G st1 rfl
  replace G := o_aloadN (q := 3) G X1.here hx (hb hby d8_2) rfl rfl rfl
  have F5 := (P0.ext E1)
  have F6 : Sta Z h1 o_n0 "COMPACT_STRINGS" "Z" (.int cw) := P1.ext F5.2
  have F7 := (P3.ext E1)
  obtain ⟨T4, _, Lc4, X4, hQ4, G⟩ := o_vb (q := 6) (W := 0) (argsL := [(.ref u)]) (rest := []) (y := (⟨o_n0, "equals", "(Ljava/lang/Object;)Z"⟩ : MethodName)) G X1 hx hZ1 hown1 (by rw [hml]; rfl) ⟨(o_w hw 43 rfl), (o_w hw 44 rfl), (o_w hw 46 rfl), (o_w hw 45 rfl), (o_w hw 47 rfl), (o_w hw 9 rfl)⟩ (by decide) e1 A1 (rm9u l Z a0 hw [] b1 u cw h1 n0 Z1 F6 hcw A1 F7 C1 F2 (Ne.symm ne3)) (lenOf pd_8 rfl) rfl (Nat.le_of_eq rfl) (hb hby d8_3) rfl (by decide) (by decide) (by decide) (by decide)
  obtain ⟨rfl, N4q, e4⟩ := hQ4
  have N4 := Fr.app N0 N4q
  replace G := o_re (st := [(.int 0)]) G rfl
  replace G := o_ifNo (q := 9) G X4.here hx (hb hby d8_6) (by decide) rfl
  obtain ⟨b9, T9, h9, k19, v9, kv9, X9, e9, E9, S9, hk9, hZ9, hown9, A9, C9, V9, R9, -, -, J9, -, SS9, st9⟩ := ldcCH (s := s) (vm0 := T1.vm) (EL := o_EL) X4 hx hZ1 hown1 (o_w hw 53 rfl) (fun d hd => hw d (o_strs d hd)) e4 S1 hk1 (o_EW hw) (by decide) J1.1 (vs := [(.int 117), (.int 114), (.int 110), (.int 58), (.int 111), (.int 97), (.int 115), (.int 105), (.int 115), (.int 58), (.int 110), (.int 97), (.int 109), (.int 101), (.int 115), (.int 58), (.int 116), (.int 99), (.int 58), (.int 83), (.int 65), (.int 77), (.int 76), (.int 58), (.int 49), (.int 46), (.int 49), (.int 58), (.int 110), (.int 97), (.int 109), (.int 101), (.int 105), (.int 100), (.int 45), (.int 102), (.int 111), (.int 114), (.int 109), (.int 97), (.int 116), (.int 58), (.int 101), (.int 109), (.int 97), (.int 105), (.int 108), (.int 65), (.int 100), (.int 100), (.int 114), (.int 101), (.int 115), (.int 115)]) (z := (54 : Int32)) (by constructor <;> decide) (by decide) rfl (g := o_g G) rfl (hb hby d8_9) (n := 216) (by decide) (by decide) (by decide) (by decide)
  have Z9 : n0 ≤ h9.size := Nat.le_trans Z1 E9.1
  have K9 : Keep h0 h9 [] := K1.ext E9
  have F10 := (F2.ext E9)
  have ne11 : u ≠ b9 := o_fne F10 C9 (fun z => absurd (Value.int.inj z) (by decide))
  replace G := o_nxs (q := 11) (st := [(.ref b9)]) G st9 rfl
  replace G := o_aloadN (q := 12) G X9.here hx (hb hby d8_11) rfl rfl rfl
  have F13 := (F5.ext E9)
  have F14 : Sta Z h9 o_n0 "COMPACT_STRINGS" "Z" (.int cw) := P1.ext F13.2
  have F15 := (F7.ext E9)
  obtain ⟨T12, _, Lc12, X12, hQ12, G⟩ := o_vb (q := 15) (W := 0) (argsL := [(.ref u)]) (rest := []) (y := (⟨o_n0, "equals", "(Ljava/lang/Object;)Z"⟩ : MethodName)) G X9 hx hZ9 hown9 (by rw [hml]; rfl) ⟨(o_w hw 43 rfl), (o_w hw 44 rfl), (o_w hw 46 rfl), (o_w hw 45 rfl), (o_w hw 47 rfl), (o_w hw 9 rfl)⟩ (by decide) e9 A9 (rm9u l Z a0 hw [] b9 u cw h9 n0 Z9 F14 hcw A9 F15 C9 F10 (Ne.symm ne11)) (lenOf pd_8 rfl) rfl (Nat.le_of_eq rfl) (hb hby d8_12) rfl (by decide) (by decide) (by decide) (by decide)
  obtain ⟨rfl, N12q, e12⟩ := hQ12
  have N12 := Fr.app N4 N12q
  replace G := o_re (st := [(.int 0)]) G rfl
  replace G := o_ifYes (q := 22) G X12.here hx (hb hby d8_15) (by decide) (by decide) (by decide)
  replace G := o_iconst (q := 23) G X12.here hx (hb hby d8_22) (v := (0 : Int32)) (by decide) rfl
  obtain ⟨fs, hr, hrun, hended, -, hW, hBk, hsame⟩ := X12.leaveW S9 (by rw [e12]; exact hk9) (v := some (.int 0)) (fun h => by rw [Bd.returns] at h; cases h)
  refine ⟨_, _, G _ (retOut X12 hx Bd.returns rfl (Or.inl ⟨rfl, Or.inr (Or.inl rfl), _, rfl⟩) (hb hby d8_23) hr), hrun, hended, _, _, rfl, ?_, ⟨_, rfl⟩, hW, hBk, hsame.mono (by decide) (by decide)⟩
  show Q8u Z u cw h0 n0 _ T12.heap _ T12.vm
  rw [e12]
  exact ⟨rfl, N12, K9, (o_chw (s := s) hZ9 (o_EW hw) J9.1 X12.warmed)⟩
def o_P : List Int32 := [117, 114, 110, 58, 111, 97, 115, 105, 115, 58, 110, 97, 109, 101, 115, 58, 116, 99, 58, 83, 65, 77, 76, 58, 50, 46, 48, 58, 110, 97, 109, 101, 105, 100, 45, 102, 111, 114, 109, 97, 116, 58, 112, 101, 114, 115, 105, 115, 116, 101, 110, 116]
theorem o_codP : StrChars.Road.CodA o_P 0 (52 : Int32) [(.int 117), (.int 114), (.int 110), (.int 58), (.int 111), (.int 97), (.int 115), (.int 105), (.int 115), (.int 58), (.int 110), (.int 97), (.int 109), (.int 101), (.int 115), (.int 58), (.int 116), (.int 99), (.int 58), (.int 83), (.int 65), (.int 77), (.int 76), (.int 58), (.int 50), (.int 46), (.int 48), (.int 58), (.int 110), (.int 97), (.int 109), (.int 101), (.int 105), (.int 100), (.int 45), (.int 102), (.int 111), (.int 114), (.int 109), (.int 97), (.int 116), (.int 58), (.int 112), (.int 101), (.int 114), (.int 115), (.int 105), (.int 115), (.int 116), (.int 101), (.int 110), (.int 116)] := Or.inl ⟨rfl, rfl, by rfl, by decide⟩
theorem o_bdP : ∀ c ∈ o_P, ¬ c < 0 ∧ ¬ (65535 : Int32) < c := by decide
def o_E : List Int32 := [117, 114, 110, 58, 111, 97, 115, 105, 115, 58, 110, 97, 109, 101, 115, 58, 116, 99, 58, 83, 65, 77, 76, 58, 49, 46, 49, 58, 110, 97, 109, 101, 105, 100, 45, 102, 111, 114, 109, 97, 116, 58, 101, 109, 97, 105, 108, 65, 100, 100, 114, 101, 115, 115]
theorem o_codE : StrChars.Road.CodA o_E 0 (54 : Int32) [(.int 117), (.int 114), (.int 110), (.int 58), (.int 111), (.int 97), (.int 115), (.int 105), (.int 115), (.int 58), (.int 110), (.int 97), (.int 109), (.int 101), (.int 115), (.int 58), (.int 116), (.int 99), (.int 58), (.int 83), (.int 65), (.int 77), (.int 76), (.int 58), (.int 49), (.int 46), (.int 49), (.int 58), (.int 110), (.int 97), (.int 109), (.int 101), (.int 105), (.int 100), (.int 45), (.int 102), (.int 111), (.int 114), (.int 109), (.int 97), (.int 116), (.int 58), (.int 101), (.int 109), (.int 97), (.int 105), (.int 108), (.int 65), (.int 100), (.int 100), (.int 114), (.int 101), (.int 115), (.int 115)] := Or.inl ⟨rfl, rfl, by rfl, by decide⟩
theorem o_bdE : ∀ c ∈ o_E, ¬ c < 0 ∧ ¬ (65535 : Int32) < c := by decide
def o_A : List Int32 := [117, 114, 110, 58, 111, 97, 115, 105, 115, 58, 110, 97, 109, 101, 115, 58, 116, 99, 58, 83, 65, 77, 76, 58, 50, 46, 48, 58, 110, 97, 109, 101, 105, 100, 45, 102, 111, 114, 109, 97, 116, 58, 112, 101, 114, 115, 105, 115, 116, 101, 110, 116, 32, 111, 114, 32, 117, 114, 110, 58, 111, 97, 115, 105, 115, 58, 110, 97, 109, 101, 115, 58, 116, 99, 58, 83, 65, 77, 76, 58, 49, 46, 49, 58, 110, 97, 109, 101, 105, 100, 45, 102, 111, 114, 109, 97, 116, 58, 101, 109, 97, 105, 108, 65, 100, 100, 114, 101, 115, 115]
theorem o_codA : StrChars.Road.CodA o_A 0 (110 : Int32) [(.int 117), (.int 114), (.int 110), (.int 58), (.int 111), (.int 97), (.int 115), (.int 105), (.int 115), (.int 58), (.int 110), (.int 97), (.int 109), (.int 101), (.int 115), (.int 58), (.int 116), (.int 99), (.int 58), (.int 83), (.int 65), (.int 77), (.int 76), (.int 58), (.int 50), (.int 46), (.int 48), (.int 58), (.int 110), (.int 97), (.int 109), (.int 101), (.int 105), (.int 100), (.int 45), (.int 102), (.int 111), (.int 114), (.int 109), (.int 97), (.int 116), (.int 58), (.int 112), (.int 101), (.int 114), (.int 115), (.int 105), (.int 115), (.int 116), (.int 101), (.int 110), (.int 116), (.int 32), (.int 111), (.int 114), (.int 32), (.int 117), (.int 114), (.int 110), (.int 58), (.int 111), (.int 97), (.int 115), (.int 105), (.int 115), (.int 58), (.int 110), (.int 97), (.int 109), (.int 101), (.int 115), (.int 58), (.int 116), (.int 99), (.int 58), (.int 83), (.int 65), (.int 77), (.int 76), (.int 58), (.int 49), (.int 46), (.int 49), (.int 58), (.int 110), (.int 97), (.int 109), (.int 101), (.int 105), (.int 100), (.int 45), (.int 102), (.int 111), (.int 114), (.int 109), (.int 97), (.int 116), (.int 58), (.int 101), (.int 109), (.int 97), (.int 105), (.int 108), (.int 65), (.int 100), (.int 100), (.int 114), (.int 101), (.int 115), (.int 115)] := Or.inl ⟨rfl, rfl, by rfl, by decide⟩
theorem o_bdA : ∀ c ∈ o_A, ¬ c < 0 ∧ ¬ (65535 : Int32) < c := by decide
theorem o_weq : ∀ d ∈ StrChars.Road.wordsEq, d ∈ tables_1 := by decide +kernel
def o_acc (us : List Int32) : Int32 := if o_P = us then 1 else if o_E = us then 1 else 0
theorem o_acn {us : List Int32} {w : Int32} (h : (w = 1 ∧ o_P = us) ∨ (w = 0 ∧ ¬ o_P = us)) (q : ¬ w = (0 : Int32)) : (1 : Int32) = o_acc us := by
  rcases h with ⟨z1, z2⟩ | ⟨z1, z2⟩
  · exact (if_pos z2).symm
  · exact absurd z1 q
theorem o_acpp {us : List Int32} {w v : Int32} (h : (w = 1 ∧ o_P = us) ∨ (w = 0 ∧ ¬ o_P = us)) (q : w = (0 : Int32)) (h2 : (v = 1 ∧ o_E = us) ∨ (v = 0 ∧ ¬ o_E = us)) (q2 : v = (0 : Int32)) : (0 : Int32) = o_acc us := by
  rcases h with ⟨z1, z2⟩ | ⟨z1, z2⟩
  · rw [z1] at q; exact absurd q (by decide)
  · rcases h2 with ⟨y1, y2⟩ | ⟨y1, y2⟩
    · rw [y1] at q2; exact absurd q2 (by decide)
    · exact ((if_neg z2).trans (if_neg y2)).symm
theorem o_acpn {us : List Int32} {w v : Int32} (h : (w = 1 ∧ o_P = us) ∨ (w = 0 ∧ ¬ o_P = us)) (q : w = (0 : Int32)) (h2 : (v = 1 ∧ o_E = us) ∨ (v = 0 ∧ ¬ o_E = us)) (q2 : ¬ v = (0 : Int32)) : (1 : Int32) = o_acc us := by
  rcases h with ⟨z1, z2⟩ | ⟨z1, z2⟩
  · rw [z1] at q; exact absurd q (by decide)
  · rcases h2 with ⟨y1, y2⟩ | ⟨y1, y2⟩
    · exact ((if_neg z2).trans (if_pos y2)).symm
    · exact absurd y1 q2
theorem d8_18 : decode prog_22_method_2_code 18 = .ok (.iconst 1, 1) := by decide +kernel
theorem d8_19 : decode prog_22_method_2_code 19 = .ok (.goto 4, 3) := by decide +kernel
theorem ef_8s (m : MethodId) (x0 : Addr) : entryFrame m #[(.ref x0)] 1 = mkF m 0 #[.val (.ref x0)] [] := by first | (simp [entryFrame, mkF, argsToLocals, Value.category]; done) | rfl
def Q8s (Z : State) (u : Addr) (cw : Int32) (us : List Int32) (cd : Int32) (nu : Int32) (uv : List Value) (b : Addr) (kb : ClassId) (h0 : Heap) (n0 : Nat) (v : Option Value) (h : Heap) (L : List Loc) (vm : Vm) : Prop := v = some (.int (o_acc us)) ∧ Fr n0 L ∧ Keep h0 h [] ∧ CHv Z o_EL vm h
set_option maxRecDepth 65536 in
set_option maxHeartbeats 40000000 in
theorem rm8s (l : Launch) (Z : State) (a0 : Array Value) (hw : ∀ d ∈ tables_1, d.before a0 Z = true) (ws : List Jvm.Cond) (u : Addr) (cw : Int32) (us : List Int32) (cd : Int32) (nu : Int32) (uv : List Value) (b : Addr) (kb : ClassId) (h0 : Heap) (n0 : Nat) (Z0 : n0 ≤ h0.size) (P0 : Old Z n0 h0) (P1 : Sta Z Z.heap o_n0 "COMPACT_STRINGS" "Z" (.int cw)) (hcw : ¬ cw = (0 : Int32)) (P3 : Exa Z h0 u o_n0) (P4 : Fld Z h0 u o_n0 "value" "[B" (.ref b)) (P5 : Fld Z h0 u o_n0 "coder" "B" (.int cd)) (P6 : Arv Z h0 b kb .byte nu uv (.int 0)) (hc : StrChars.Road.CodA us cd nu uv) (hbu : ∀ c ∈ us, ¬ c < 0 ∧ ¬ (65535 : Int32) < c) (hlu : us.length ≤ 4000) :
    MetFree l (⟨"com/example/assertgate/assertgate/saml/NameIdFormats", "isAccepted", "(Ljava/lang/String;)Z"⟩ : MethodName) (head1 (Jvm.Cond.code (⟨"com/example/assertgate/assertgate/saml/NameIdFormats", "isAccepted", "(Ljava/lang/String;)Z"⟩ : MethodName) prog_22_method_2_code 1 (some .boolean) :: ws) ({ frames := 2, cells := 4, slots := 432, locals := 28 } : Room)) (fun argz U => argz = #[(.ref u)] ∧ Z.Warmed39 U.vm ∧ U.heap = h0 ∧ CHv Z o_EL U.vm h0) (fun _ _ _ _ _ => True) (fun _ U o U' => ∃ v L, o = .returned v ∧ Q8s Z u cw us cd nu uv b kb h0 n0 v U'.heap L U'.vm ∧ ReturnedEndW U o U' L ({ frames := 2, cells := 4, slots := 432, locals := 28 } : Room).cells ({ frames := 2, cells := 4, slots := 432, locals := 28 } : Room).slots) := by
  refine MetFree.of_bodySF (plainFor_of_name pn_com_example_assertgate_assertgate_saml_NameIdFormats) hisR ?_
  intro p e s m args below meth c s₁ Bd hml0 hP hK
  obtain ⟨rfl, hZ, hh, hV⟩ := hP
  have hx := Bd.exec
  have hby := Bd.bytes
  have hml : c.maxLocals = 1 := hml0
  have hown : s.vm.findClass "com/example/assertgate/assertgate/saml/NameIdFormats" = some m.cls := findClass_of_methodNamed Bd.named
  have hnm := (name_of_methodNamed Bd.named Bd.method).1
  have X0 : Stand p l e ({ frames := 2, cells := 4, slots := 432, locals := 28 } : Room) s m #[(.ref u)] below meth c s₁ [] 0 0 := Stand.of_body Bd
  have e0 : s₁.heap = h0 := by rw [← hh, Bd.state]; rfl
  have N0 := Fr.nil n0
  have K0 : Keep h0 h0 [] := Keep.refl _ _
  have G : Gets p e below (s₁.setTop (entryFrame m #[(.ref u)] 1)) (s₁.setTop (mkF m 0 #[.val (.ref u)] [])) := fun tq kq => castTop (ef_8s m u) kq
  have o_size : s.heap.size ≤ h0.size := by rw [hh]; exact Nat.le_refl _
  obtain ⟨b1, T1, h1, k11, v1, kv1, X1, e1, E1, S1, hk1, hZ1, hown1, A1, C1, V1, R1, -, -, J1, -, SS1, st1⟩ := ldcCH (s := s) (vm0 := s.vm) (EL := o_EL) X0 hx hZ hown (o_w hw 40 rfl) (fun d hd => hw d (o_strs d hd)) e0 (o_since s) o_size (o_EW hw) (by decide) hV (vs := [(.int 117), (.int 114), (.int 110), (.int 58), (.int 111), (.int 97), (.int 115), (.int 105), (.int 115), (.int 58), (.int 110), (.int 97), (.int 109), (.int 101), (.int 115), (.int 58), (.int 116), (.int 99), (.int 58), (.int 83), (.int 65), (.int 77), (.int 76), (.int 58), (.int 50), (.int 46), (.int 48), (.int 58), (.int 110), (.int 97), (.int 109), (.int 101), (.int 105), (.int 100), (.int 45), (.int 102), (.int 111), (.int 114), (.int 109), (.int 97), (.int 116), (.int 58), (.int 112), (.int 101), (.int 114), (.int 115), (.int 105), (.int 115), (.int 116), (.int 101), (.int 110), (.int 116)]) (z := (52 : Int32)) (by constructor <;> decide) (by decide) rfl (g := o_g G) rfl (hb hby d8_0) (n := 208) (by decide) (by decide) (by decide) (by decide)
  have Z1 : n0 ≤ h1.size := Nat.le_trans Z0 E1.1
  have K1 : Keep h0 h1 [] := K0.ext E1
  replace G := o_nxs (q := 2) (st := [(.ref b1)]) G st1 rfl
  replace G := o_aloadN (q := 3) G X1.here hx (hb hby d8_2) rfl rfl rfl
  have F3 := (P0.ext E1)
  have F4 : Sta Z h1 o_n0 "COMPACT_STRINGS" "Z" (.int cw) := P1.ext F3.2
  have F5 := (P3.ext E1)
  have F6 := (P4.ext E1)
  have F7 := (P5.ext E1)
  have F8 := (P6.ext E1)
  obtain ⟨cq2, kq2, q2a, q2b, q2c⟩ := isOf hZ1 e1 A1
  obtain ⟨vv2, _, ⟨T2, L2, kk2, nn2⟩, -, X2, ⟨Lc2, hQ2, l2, y2, z2⟩, st2⟩ := X1.virtualBack hx (y := (⟨o_n0, "equals", "(Ljava/lang/Object;)Z"⟩ : MethodName)) (z := (⟨o_n0, "equals", "(Ljava/lang/Object;)Z"⟩ : MethodName)) hown1 (mvT hZ1 (o_w hw 43 rfl)) (mvT hZ1 (o_w hw 44 rfl)) (notFace_of_selects (args := #[]) (mvT hZ1 (o_w hw 46 rfl))) (mvT hZ1 (o_w hw 46 rfl)) (mvT hZ1 (o_w hw 45 rfl)) (by decide) (StrChars.Road.eqW (W := 0) hZ1 (fun d hd => hw d (o_weq d hd)) (kI := 4) (o_w hw 8 rfl) (cs := o_P) A1 V1 C1 R1 o_codP o_bdP (by decide) (ds := us) F5 F6 F7 F8 hc hbu hlu F4 hcw (by decide) (by decide)) q2a q2c (g := o_g G) rfl (by rw [hml]; rfl) (Steps.refl _) (argsL := [(.ref u)]) (rest := []) (lenOf pd_8 rfl) rfl (by show 2 * 0 + _ ≤ _; exact Nat.le_of_eq rfl) (hb hby d8_3) (fun _ _ => ⟨rfl, e1, (by decide : 2 + 0 ≤ _), (by decide : 212 + 0 ≤ _)⟩)
  dsimp only [Pt.U, Pt.locs, Pt.cells, Pt.slots] at X2 l2 y2 z2 st2 hQ2
  subst l2 y2 z2
  obtain ⟨hq2, hl2, e2⟩ := hQ2
  subst hl2
  obtain ⟨w2, hv2, hw2⟩ : ∃ w : Int32, vv2 = some (.int w) ∧ ((w = 1 ∧ o_P = us) ∨ (w = 0 ∧ ¬ o_P = us)) := by
    rcases hq2 with ⟨z1, z2⟩ | ⟨z1, z2⟩
    · exact ⟨1, z1, Or.inl ⟨rfl, z2⟩⟩
    · exact ⟨0, z1, Or.inr ⟨rfl, z2⟩⟩
  subst hv2
  have N2 := Fr.app N0 (Fr.nil n0)
  replace G := o_nxv (q := 6) (st := [(.int w2)]) G st2 rfl
  by_cases hc6_9 : w2 = (0 : Int32)
  replace G := o_ifNo (q := 9) G X2.here hx (hb hby d8_6) ((if0 _ _).trans (teq hc6_9).2) rfl
  obtain ⟨b10, T10, h10, k110, v10, kv10, X10, e10, E10, S10, hk10, hZ10, hown10, A10, C10, V10, R10, -, -, J10, -, SS10, st10⟩ := ldcCH (s := s) (vm0 := T1.vm) (EL := o_EL) X2 hx hZ1 hown1 (o_w hw 53 rfl) (fun d hd => hw d (o_strs d hd)) e2 S1 hk1 (o_EW hw) (by decide) J1.1 (vs := [(.int 117), (.int 114), (.int 110), (.int 58), (.int 111), (.int 97), (.int 115), (.int 105), (.int 115), (.int 58), (.int 110), (.int 97), (.int 109), (.int 101), (.int 115), (.int 58), (.int 116), (.int 99), (.int 58), (.int 83), (.int 65), (.int 77), (.int 76), (.int 58), (.int 49), (.int 46), (.int 49), (.int 58), (.int 110), (.int 97), (.int 109), (.int 101), (.int 105), (.int 100), (.int 45), (.int 102), (.int 111), (.int 114), (.int 109), (.int 97), (.int 116), (.int 58), (.int 101), (.int 109), (.int 97), (.int 105), (.int 108), (.int 65), (.int 100), (.int 100), (.int 114), (.int 101), (.int 115), (.int 115)]) (z := (54 : Int32)) (by constructor <;> decide) (by decide) rfl (g := o_g G) rfl (hb hby d8_9) (n := 216) (by decide) (by decide) (by decide) (by decide)
  have Z10 : n0 ≤ h10.size := Nat.le_trans Z1 E10.1
  have K10 : Keep h0 h10 [] := K1.ext E10
  replace G := o_nxs (q := 11) (st := [(.ref b10)]) G st10 rfl
  replace G := o_aloadN (q := 12) G X10.here hx (hb hby d8_11) rfl rfl rfl
  have F12 := (F3.ext E10)
  have F13 : Sta Z h10 o_n0 "COMPACT_STRINGS" "Z" (.int cw) := P1.ext F12.2
  have F14 := (F5.ext E10)
  have F15 := (F6.ext E10)
  have F16 := (F7.ext E10)
  have F17 := (F8.ext E10)
  obtain ⟨cq11, kq11, q11a, q11b, q11c⟩ := isOf hZ10 e10 A10
  obtain ⟨vv11, _, ⟨T11, L11, kk11, nn11⟩, -, X11, ⟨Lc11, hQ11, l11, y11, z11⟩, st11⟩ := X10.virtualBack hx (y := (⟨o_n0, "equals", "(Ljava/lang/Object;)Z"⟩ : MethodName)) (z := (⟨o_n0, "equals", "(Ljava/lang/Object;)Z"⟩ : MethodName)) hown10 (mvT hZ10 (o_w hw 43 rfl)) (mvT hZ10 (o_w hw 44 rfl)) (notFace_of_selects (args := #[]) (mvT hZ10 (o_w hw 46 rfl))) (mvT hZ10 (o_w hw 46 rfl)) (mvT hZ10 (o_w hw 45 rfl)) (by decide) (StrChars.Road.eqW (W := 0) hZ10 (fun d hd => hw d (o_weq d hd)) (kI := 4) (o_w hw 8 rfl) (cs := o_E) A10 V10 C10 R10 o_codE o_bdE (by decide) (ds := us) F14 F15 F16 F17 hc hbu hlu F13 hcw (by decide) (by decide)) q11a q11c (g := o_g G) rfl (by rw [hml]; rfl) (Steps.refl _) (argsL := [(.ref u)]) (rest := []) (lenOf pd_8 rfl) rfl (by show 2 * 0 + _ ≤ _; exact Nat.le_of_eq rfl) (hb hby d8_12) (fun _ _ => ⟨rfl, e10, (by decide : 4 + 0 ≤ _), (by decide : 432 + 0 ≤ _)⟩)
  dsimp only [Pt.U, Pt.locs, Pt.cells, Pt.slots] at X11 l11 y11 z11 st11 hQ11
  subst l11 y11 z11
  obtain ⟨hq11, hl11, e11⟩ := hQ11
  subst hl11
  obtain ⟨w11, hv11, hw11⟩ : ∃ w : Int32, vv11 = some (.int w) ∧ ((w = 1 ∧ o_E = us) ∨ (w = 0 ∧ ¬ o_E = us)) := by
    rcases hq11 with ⟨z1, z2⟩ | ⟨z1, z2⟩
    · exact ⟨1, z1, Or.inl ⟨rfl, z2⟩⟩
    · exact ⟨0, z1, Or.inr ⟨rfl, z2⟩⟩
  subst hv11
  have N11 := Fr.app N2 (Fr.nil n0)
  replace G := o_nxv (q := 15) (st := [(.int w11)]) G st11 rfl
  by_cases hc15_18 : w11 = (0 : Int32)
  replace G := o_ifYes (q := 22) G X11.here hx (hb hby d8_15) ((if0 _ _).trans (teq hc15_18).1) (by decide) (by decide)
  replace G := o_iconst (q := 23) G X11.here hx (hb hby d8_22) (v := (0 : Int32)) (by decide) rfl
  obtain ⟨fs, hr, hrun, hended, -, hW, hBk, hsame⟩ := X11.leaveW S10 (by rw [e11]; exact hk10) (v := some (.int 0)) (fun h => by rw [Bd.returns] at h; cases h)
  refine ⟨_, _, G _ (retOut X11 hx Bd.returns rfl (Or.inl ⟨rfl, Or.inr (Or.inl rfl), _, rfl⟩) (hb hby d8_23) hr), hrun, hended, _, _, rfl, ?_, ⟨_, rfl⟩, hW, hBk, hsame.mono (by decide) (by decide)⟩
  show Q8s Z u cw us cd nu uv b kb h0 n0 _ T11.heap _ T11.vm
  rw [e11]
  exact ⟨(congrArg (fun z => some (Value.int z)) (o_acpp hw2 hc6_9 hw11 hc15_18)), N11, K10, (o_chw (s := s) hZ10 (o_EW hw) J10.1 X11.warmed)⟩
  replace G := o_ifNo (q := 18) G X11.here hx (hb hby d8_15) ((if0 _ _).trans (feq hc15_18).1) rfl
  replace G := o_iconst (q := 19) G X11.here hx (hb hby d8_18) (v := (1 : Int32)) (by decide) rfl
  replace G := o_goto (q := 23) G X11.here hx (hb hby d8_19) (by decide) (by decide)
  obtain ⟨fs, hr, hrun, hended, -, hW, hBk, hsame⟩ := X11.leaveW S10 (by rw [e11]; exact hk10) (v := some (.int 1)) (fun h => by rw [Bd.returns] at h; cases h)
  refine ⟨_, _, G _ (retOut X11 hx Bd.returns rfl (Or.inl ⟨rfl, Or.inr (Or.inl rfl), _, rfl⟩) (hb hby d8_23) hr), hrun, hended, _, _, rfl, ?_, ⟨_, rfl⟩, hW, hBk, hsame.mono (by decide) (by decide)⟩
  show Q8s Z u cw us cd nu uv b kb h0 n0 _ T11.heap _ T11.vm
  rw [e11]
  exact ⟨(congrArg (fun z => some (Value.int z)) (o_acpn hw2 hc6_9 hw11 hc15_18)), N11, K10, (o_chw (s := s) hZ10 (o_EW hw) J10.1 X11.warmed)⟩
  replace G := o_ifYes (q := 18) G X2.here hx (hb hby d8_6) ((if0 _ _).trans (feq hc6_9).2) (by decide) (by decide)
  replace G := o_iconst (q := 19) G X2.here hx (hb hby d8_18) (v := (1 : Int32)) (by decide) rfl
  replace G := o_goto (q := 23) G X2.here hx (hb hby d8_19) (by decide) (by decide)
  obtain ⟨fs, hr, hrun, hended, -, hW, hBk, hsame⟩ := X2.leaveW S1 (by rw [e2]; exact hk1) (v := some (.int 1)) (fun h => by rw [Bd.returns] at h; cases h)
  refine ⟨_, _, G _ (retOut X2 hx Bd.returns rfl (Or.inl ⟨rfl, Or.inr (Or.inl rfl), _, rfl⟩) (hb hby d8_23) hr), hrun, hended, _, _, rfl, ?_, ⟨_, rfl⟩, hW, hBk, hsame.mono (by decide) (by decide)⟩
  show Q8s Z u cw us cd nu uv b kb h0 n0 _ T2.heap _ T2.vm
  rw [e2]
  exact ⟨(congrArg (fun z => some (Value.int z)) (o_acn hw2 hc6_9)), N2, K1, (o_chw (s := s) hZ1 (o_EW hw) J1.1 X2.warmed)⟩
theorem ef_9z (m : MethodId) (x0 : Addr) : entryFrame m #[(.ref x0), .null] 3 = mkF m 0 #[.val (.ref x0), .val .null, .unset] [] := by first | (simp [entryFrame, mkF, argsToLocals, Value.category]; done) | rfl
def Q9z (Z : State) (a : Addr) (h0 : Heap) (n0 : Nat) (v : Option Value) (h : Heap) (L : List Loc) : Prop := v = some (.int 0) ∧ Fr n0 L ∧ h = h0
set_option maxRecDepth 65536 in
set_option maxHeartbeats 40000000 in
theorem rm9z (l : Launch) (Z : State) (a0 : Array Value) (hw : ∀ d ∈ tables_1, d.before a0 Z = true) (ws : List Jvm.Cond) (a : Addr) (h0 : Heap) (n0 : Nat) (Z0 : n0 ≤ h0.size)  :
    MetFree l (⟨o_n0, "equals", "(Ljava/lang/Object;)Z"⟩ : MethodName) (head1 (Jvm.Cond.code (⟨o_n0, "equals", "(Ljava/lang/Object;)Z"⟩ : MethodName) jdk_42_method_66_code 3 (some .boolean) :: ws) ({ frames := 0, cells := 0, slots := 0, locals := 0 } : Room)) (fun argz U => argz = #[(.ref a), .null] ∧ Z.Warmed39 U.vm ∧ U.heap = h0) (fun _ _ _ _ _ => True) (fun _ U o U' => ∃ v L, o = .returned v ∧ Q9z Z a h0 n0 v U'.heap L ∧ FrameEnd U o U' L ({ frames := 0, cells := 0, slots := 0, locals := 0 } : Room).cells ({ frames := 0, cells := 0, slots := 0, locals := 0 } : Room).slots) := by
  refine MetFree.of_bodySF (plainFor_of_name pn_java_lang_String) hisR ?_
  intro p e s m args below meth c s₁ Bd hml0 hP hK
  obtain ⟨rfl, hZ, hh⟩ := hP
  have hx := Bd.exec
  have hby := Bd.bytes
  have hml : c.maxLocals = 3 := hml0
  have hown : s.vm.findClass o_n0 = some m.cls := findClass_of_methodNamed Bd.named
  have hnm := (name_of_methodNamed Bd.named Bd.method).1
  have X0 : Stand p l e ({ frames := 0, cells := 0, slots := 0, locals := 0 } : Room) s m #[(.ref a), .null] below meth c s₁ [] 0 0 := Stand.of_body Bd
  have e0 : s₁.heap = h0 := by rw [← hh, Bd.state]; rfl
  have N0 := Fr.nil n0
  have G : Gets p e below (s₁.setTop (entryFrame m #[(.ref a), .null] 3)) (s₁.setTop (mkF m 0 #[.val (.ref a), .val .null, .unset] [])) := fun tq kq => castTop (ef_9z m a) kq
  replace G := o_aloadN (q := 1) G X0.here hx (hb hby d9_0) rfl rfl rfl
  replace G := o_aloadN (q := 2) G X0.here hx (hb hby d9_1) rfl rfl rfl
  replace G : Gets p e below _ (s₁.setTop (mkF m 7 #[.val (.ref a), .val .null, .unset] [])) := fun t k => G t (Jvm.RoadKit.acmp (g := o_g G) X0 hx rfl rfl rfl (pc0 := 2) (pc' := 7) (same := false) rfl (hb hby d9_2) rfl (decide_eq_false nofun) (by decide) (by decide) k)
  replace G := o_aloadN (q := 8) G X0.here hx (hb hby d9_7) rfl rfl rfl
  replace G := o_nxs (q := 11) (st := [(.int 0)]) G (X0.instanceofNull hx (g := o_g G) rfl rfl (hb hby d9_8)) rfl
  replace G := o_ifYes (q := 54) G X0.here hx (hb hby d9_11) (by decide) (by decide) (by decide)
  replace G := o_iconst (q := 55) G X0.here hx (hb hby d9_54) (v := (0 : Int32)) (by decide) rfl
  obtain ⟨fs, hr, hrun, hended, hW, hsame⟩ := X0.leave (v := some (.int 0)) (fun h => by rw [Bd.returns] at h; cases h)
  refine ⟨_, _, G _ (retOut X0 hx Bd.returns rfl (Or.inl ⟨rfl, Or.inr (Or.inl rfl), _, rfl⟩) (hb hby d9_55) hr), hrun, hended, _, _, rfl, ?_, ⟨_, rfl⟩, hW, hsame.mono (by decide) (by decide)⟩
  show Q9z Z a h0 n0 _ s₁.heap _
  rw [e0]
  exact ⟨rfl, N0, rfl⟩
theorem ef_8z (m : MethodId)  : entryFrame m #[.null] 1 = mkF m 0 #[.val .null] [] := by first | (simp [entryFrame, mkF, argsToLocals, Value.category]; done) | rfl
def Q8z (Z : State)  (h0 : Heap) (n0 : Nat) (v : Option Value) (h : Heap) (L : List Loc) (vm : Vm) : Prop := v = some (.int 0) ∧ Fr n0 L ∧ Keep h0 h [] ∧ CHv Z o_EL vm h
set_option maxRecDepth 65536 in
set_option maxHeartbeats 40000000 in
theorem rm8z (l : Launch) (Z : State) (a0 : Array Value) (hw : ∀ d ∈ tables_1, d.before a0 Z = true) (ws : List Jvm.Cond)  (h0 : Heap) (n0 : Nat) (Z0 : n0 ≤ h0.size) (P0 : Old Z n0 h0) :
    MetFree l (⟨"com/example/assertgate/assertgate/saml/NameIdFormats", "isAccepted", "(Ljava/lang/String;)Z"⟩ : MethodName) (head1 (Jvm.Cond.code (⟨"com/example/assertgate/assertgate/saml/NameIdFormats", "isAccepted", "(Ljava/lang/String;)Z"⟩ : MethodName) prog_22_method_2_code 1 (some .boolean) :: ws) ({ frames := 1, cells := 4, slots := 432, locals := 14 } : Room)) (fun argz U => argz = #[.null] ∧ Z.Warmed39 U.vm ∧ U.heap = h0 ∧ CHv Z o_EL U.vm h0) (fun _ _ _ _ _ => True) (fun _ U o U' => ∃ v L, o = .returned v ∧ Q8z Z  h0 n0 v U'.heap L U'.vm ∧ ReturnedEndW U o U' L ({ frames := 1, cells := 4, slots := 432, locals := 14 } : Room).cells ({ frames := 1, cells := 4, slots := 432, locals := 14 } : Room).slots) := by
  refine MetFree.of_bodySF (plainFor_of_name pn_com_example_assertgate_assertgate_saml_NameIdFormats) hisR ?_
  intro p e s m args below meth c s₁ Bd hml0 hP hK
  obtain ⟨rfl, hZ, hh, hV⟩ := hP
  have hx := Bd.exec
  have hby := Bd.bytes
  have hml : c.maxLocals = 1 := hml0
  have hown : s.vm.findClass "com/example/assertgate/assertgate/saml/NameIdFormats" = some m.cls := findClass_of_methodNamed Bd.named
  have hnm := (name_of_methodNamed Bd.named Bd.method).1
  have X0 : Stand p l e ({ frames := 1, cells := 4, slots := 432, locals := 14 } : Room) s m #[.null] below meth c s₁ [] 0 0 := Stand.of_body Bd
  have e0 : s₁.heap = h0 := by rw [← hh, Bd.state]; rfl
  have N0 := Fr.nil n0
  have K0 : Keep h0 h0 [] := Keep.refl _ _
  have G : Gets p e below (s₁.setTop (entryFrame m #[.null] 1)) (s₁.setTop (mkF m 0 #[.val .null] [])) := fun tq kq => castTop (ef_8z m ) kq
  have o_size : s.heap.size ≤ h0.size := by rw [hh]; exact Nat.le_refl _
  obtain ⟨b1, T1, h1, k11, v1, kv1, X1, e1, E1, S1, hk1, hZ1, hown1, A1, C1, V1, R1, -, -, J1, -, SS1, st1⟩ := ldcCH (s := s) (vm0 := s.vm) (EL := o_EL) X0 hx hZ hown (o_w hw 40 rfl) (fun d hd => hw d (o_strs d hd)) e0 (o_since s) o_size (o_EW hw) (by decide) hV (vs := [(.int 117), (.int 114), (.int 110), (.int 58), (.int 111), (.int 97), (.int 115), (.int 105), (.int 115), (.int 58), (.int 110), (.int 97), (.int 109), (.int 101), (.int 115), (.int 58), (.int 116), (.int 99), (.int 58), (.int 83), (.int 65), (.int 77), (.int 76), (.int 58), (.int 50), (.int 46), (.int 48), (.int 58), (.int 110), (.int 97), (.int 109), (.int 101), (.int 105), (.int 100), (.int 45), (.int 102), (.int 111), (.int 114), (.int 109), (.int 97), (.int 116), (.int 58), (.int 112), (.int 101), (.int 114), (.int 115), (.int 105), (.int 115), (.int 116), (.int 101), (.int 110), (.int 116)]) (z := (52 : Int32)) (by constructor <;> decide) (by decide) rfl (g := o_g G) rfl (hb hby d8_0) (n := 208) (by decide) (by decide) (by decide) (by decide)
  have Z1 : n0 ≤ h1.size := Nat.le_trans Z0 E1.1
  have K1 : Keep h0 h1 [] := K0.ext E1
  replace G := o_nxs (q := 2) (st := [(.ref b1)]) G st1 rfl
  replace G := o_aloadN (q := 3) G X1.here hx (hb hby d8_2) rfl rfl rfl
  obtain ⟨T2, _, Lc2, X2, hQ2, G⟩ := o_vb (q := 6) (W := 0) (argsL := [.null]) (rest := []) (y := (⟨o_n0, "equals", "(Ljava/lang/Object;)Z"⟩ : MethodName)) G X1 hx hZ1 hown1 (by rw [hml]; rfl) ⟨(o_w hw 43 rfl), (o_w hw 44 rfl), (o_w hw 46 rfl), (o_w hw 45 rfl), (o_w hw 47 rfl), (o_w hw 9 rfl)⟩ (by decide) e1 A1 (rm9z l Z a0 hw [] b1 h1 n0 Z1 ) (lenOf pd_8 rfl) rfl (Nat.le_of_eq rfl) (hb hby d8_3) rfl (by decide) (by decide) (by decide) (by decide)
  obtain ⟨rfl, N2q, e2⟩ := hQ2
  have N2 := Fr.app N0 N2q
  replace G := o_re (st := [(.int 0)]) G rfl
  replace G := o_ifNo (q := 9) G X2.here hx (hb hby d8_6) (by decide) rfl
  obtain ⟨b4, T4, h4, k14, v4, kv4, X4, e4, E4, S4, hk4, hZ4, hown4, A4, C4, V4, R4, -, -, J4, -, SS4, st4⟩ := ldcCH (s := s) (vm0 := T1.vm) (EL := o_EL) X2 hx hZ1 hown1 (o_w hw 53 rfl) (fun d hd => hw d (o_strs d hd)) e2 S1 hk1 (o_EW hw) (by decide) J1.1 (vs := [(.int 117), (.int 114), (.int 110), (.int 58), (.int 111), (.int 97), (.int 115), (.int 105), (.int 115), (.int 58), (.int 110), (.int 97), (.int 109), (.int 101), (.int 115), (.int 58), (.int 116), (.int 99), (.int 58), (.int 83), (.int 65), (.int 77), (.int 76), (.int 58), (.int 49), (.int 46), (.int 49), (.int 58), (.int 110), (.int 97), (.int 109), (.int 101), (.int 105), (.int 100), (.int 45), (.int 102), (.int 111), (.int 114), (.int 109), (.int 97), (.int 116), (.int 58), (.int 101), (.int 109), (.int 97), (.int 105), (.int 108), (.int 65), (.int 100), (.int 100), (.int 114), (.int 101), (.int 115), (.int 115)]) (z := (54 : Int32)) (by constructor <;> decide) (by decide) rfl (g := o_g G) rfl (hb hby d8_9) (n := 216) (by decide) (by decide) (by decide) (by decide)
  have Z4 : n0 ≤ h4.size := Nat.le_trans Z1 E4.1
  have K4 : Keep h0 h4 [] := K1.ext E4
  replace G := o_nxs (q := 11) (st := [(.ref b4)]) G st4 rfl
  replace G := o_aloadN (q := 12) G X4.here hx (hb hby d8_11) rfl rfl rfl
  obtain ⟨T5, _, Lc5, X5, hQ5, G⟩ := o_vb (q := 15) (W := 0) (argsL := [.null]) (rest := []) (y := (⟨o_n0, "equals", "(Ljava/lang/Object;)Z"⟩ : MethodName)) G X4 hx hZ4 hown4 (by rw [hml]; rfl) ⟨(o_w hw 43 rfl), (o_w hw 44 rfl), (o_w hw 46 rfl), (o_w hw 45 rfl), (o_w hw 47 rfl), (o_w hw 9 rfl)⟩ (by decide) e4 A4 (rm9z l Z a0 hw [] b4 h4 n0 Z4 ) (lenOf pd_8 rfl) rfl (Nat.le_of_eq rfl) (hb hby d8_12) rfl (by decide) (by decide) (by decide) (by decide)
  obtain ⟨rfl, N5q, e5⟩ := hQ5
  have N5 := Fr.app N2 N5q
  replace G := o_re (st := [(.int 0)]) G rfl
  replace G := o_ifYes (q := 22) G X5.here hx (hb hby d8_15) (by decide) (by decide) (by decide)
  replace G := o_iconst (q := 23) G X5.here hx (hb hby d8_22) (v := (0 : Int32)) (by decide) rfl
  obtain ⟨fs, hr, hrun, hended, -, hW, hBk, hsame⟩ := X5.leaveW S4 (by rw [e5]; exact hk4) (v := some (.int 0)) (fun h => by rw [Bd.returns] at h; cases h)
  refine ⟨_, _, G _ (retOut X5 hx Bd.returns rfl (Or.inl ⟨rfl, Or.inr (Or.inl rfl), _, rfl⟩) (hb hby d8_23) hr), hrun, hended, _, _, rfl, ?_, ⟨_, rfl⟩, hW, hBk, hsame.mono (by decide) (by decide)⟩
  show Q8z Z  h0 n0 _ T5.heap _ T5.vm
  rw [e5]
  exact ⟨rfl, N5, K4, (o_chw (s := s) hZ4 (o_EW hw) J4.1 X5.warmed)⟩
theorem d1_0 : decode method_2_code 0 = .ok (.bipush 52, 2) := by decide +kernel
theorem d1_2 : decode method_2_code 2 = .ok (.newarray .char, 2) := by decide +kernel
theorem d1_4 : decode method_2_code 4 = .ok (.dup, 1) := by decide +kernel
theorem d1_5 : decode method_2_code 5 = .ok (.iconst 0, 1) := by decide +kernel
theorem d1_6 : decode method_2_code 6 = .ok (.bipush 117, 2) := by decide +kernel
theorem d1_8 : decode method_2_code 8 = .ok (.castore, 1) := by decide +kernel
theorem d1_9 : decode method_2_code 9 = .ok (.dup, 1) := by decide +kernel
theorem d1_10 : decode method_2_code 10 = .ok (.iconst 1, 1) := by decide +kernel
theorem d1_11 : decode method_2_code 11 = .ok (.bipush 114, 2) := by decide +kernel
theorem d1_13 : decode method_2_code 13 = .ok (.castore, 1) := by decide +kernel
theorem d1_14 : decode method_2_code 14 = .ok (.dup, 1) := by decide +kernel
theorem d1_15 : decode method_2_code 15 = .ok (.iconst 2, 1) := by decide +kernel
theorem d1_16 : decode method_2_code 16 = .ok (.bipush 110, 2) := by decide +kernel
theorem d1_18 : decode method_2_code 18 = .ok (.castore, 1) := by decide +kernel
theorem d1_19 : decode method_2_code 19 = .ok (.dup, 1) := by decide +kernel
theorem d1_20 : decode method_2_code 20 = .ok (.iconst 3, 1) := by decide +kernel
theorem d1_21 : decode method_2_code 21 = .ok (.bipush 58, 2) := by decide +kernel
theorem d1_23 : decode method_2_code 23 = .ok (.castore, 1) := by decide +kernel
theorem d1_24 : decode method_2_code 24 = .ok (.dup, 1) := by decide +kernel
theorem d1_25 : decode method_2_code 25 = .ok (.iconst 4, 1) := by decide +kernel
theorem d1_26 : decode method_2_code 26 = .ok (.bipush 111, 2) := by decide +kernel
theorem d1_28 : decode method_2_code 28 = .ok (.castore, 1) := by decide +kernel
theorem d1_29 : decode method_2_code 29 = .ok (.dup, 1) := by decide +kernel
theorem d1_30 : decode method_2_code 30 = .ok (.iconst 5, 1) := by decide +kernel
theorem d1_31 : decode method_2_code 31 = .ok (.bipush 97, 2) := by decide +kernel
theorem d1_33 : decode method_2_code 33 = .ok (.castore, 1) := by decide +kernel
theorem d1_34 : decode method_2_code 34 = .ok (.dup, 1) := by decide +kernel
theorem d1_35 : decode method_2_code 35 = .ok (.bipush 6, 2) := by decide +kernel
theorem d1_37 : decode method_2_code 37 = .ok (.bipush 115, 2) := by decide +kernel
theorem d1_39 : decode method_2_code 39 = .ok (.castore, 1) := by decide +kernel
theorem d1_40 : decode method_2_code 40 = .ok (.dup, 1) := by decide +kernel
theorem d1_41 : decode method_2_code 41 = .ok (.bipush 7, 2) := by decide +kernel
theorem d1_43 : decode method_2_code 43 = .ok (.bipush 105, 2) := by decide +kernel
theorem d1_45 : decode method_2_code 45 = .ok (.castore, 1) := by decide +kernel
theorem d1_46 : decode method_2_code 46 = .ok (.dup, 1) := by decide +kernel
theorem d1_47 : decode method_2_code 47 = .ok (.bipush 8, 2) := by decide +kernel
theorem d1_49 : decode method_2_code 49 = .ok (.bipush 115, 2) := by decide +kernel
theorem d1_51 : decode method_2_code 51 = .ok (.castore, 1) := by decide +kernel
theorem d1_52 : decode method_2_code 52 = .ok (.dup, 1) := by decide +kernel
theorem d1_53 : decode method_2_code 53 = .ok (.bipush 9, 2) := by decide +kernel
theorem d1_55 : decode method_2_code 55 = .ok (.bipush 58, 2) := by decide +kernel
theorem d1_57 : decode method_2_code 57 = .ok (.castore, 1) := by decide +kernel
theorem d1_58 : decode method_2_code 58 = .ok (.dup, 1) := by decide +kernel
theorem d1_59 : decode method_2_code 59 = .ok (.bipush 10, 2) := by decide +kernel
theorem d1_61 : decode method_2_code 61 = .ok (.bipush 110, 2) := by decide +kernel
theorem d1_63 : decode method_2_code 63 = .ok (.castore, 1) := by decide +kernel
theorem d1_64 : decode method_2_code 64 = .ok (.dup, 1) := by decide +kernel
theorem d1_65 : decode method_2_code 65 = .ok (.bipush 11, 2) := by decide +kernel
theorem d1_67 : decode method_2_code 67 = .ok (.bipush 97, 2) := by decide +kernel
theorem d1_69 : decode method_2_code 69 = .ok (.castore, 1) := by decide +kernel
theorem d1_70 : decode method_2_code 70 = .ok (.dup, 1) := by decide +kernel
theorem d1_71 : decode method_2_code 71 = .ok (.bipush 12, 2) := by decide +kernel
theorem d1_73 : decode method_2_code 73 = .ok (.bipush 109, 2) := by decide +kernel
theorem d1_75 : decode method_2_code 75 = .ok (.castore, 1) := by decide +kernel
theorem d1_76 : decode method_2_code 76 = .ok (.dup, 1) := by decide +kernel
theorem d1_77 : decode method_2_code 77 = .ok (.bipush 13, 2) := by decide +kernel
theorem d1_79 : decode method_2_code 79 = .ok (.bipush 101, 2) := by decide +kernel
theorem d1_81 : decode method_2_code 81 = .ok (.castore, 1) := by decide +kernel
theorem d1_82 : decode method_2_code 82 = .ok (.dup, 1) := by decide +kernel
theorem d1_83 : decode method_2_code 83 = .ok (.bipush 14, 2) := by decide +kernel
theorem d1_85 : decode method_2_code 85 = .ok (.bipush 115, 2) := by decide +kernel
theorem d1_87 : decode method_2_code 87 = .ok (.castore, 1) := by decide +kernel
theorem d1_88 : decode method_2_code 88 = .ok (.dup, 1) := by decide +kernel
theorem d1_89 : decode method_2_code 89 = .ok (.bipush 15, 2) := by decide +kernel
theorem d1_91 : decode method_2_code 91 = .ok (.bipush 58, 2) := by decide +kernel
theorem d1_93 : decode method_2_code 93 = .ok (.castore, 1) := by decide +kernel
theorem d1_94 : decode method_2_code 94 = .ok (.dup, 1) := by decide +kernel
theorem d1_95 : decode method_2_code 95 = .ok (.bipush 16, 2) := by decide +kernel
theorem d1_97 : decode method_2_code 97 = .ok (.bipush 116, 2) := by decide +kernel
theorem d1_99 : decode method_2_code 99 = .ok (.castore, 1) := by decide +kernel
theorem d1_100 : decode method_2_code 100 = .ok (.dup, 1) := by decide +kernel
theorem d1_101 : decode method_2_code 101 = .ok (.bipush 17, 2) := by decide +kernel
theorem d1_103 : decode method_2_code 103 = .ok (.bipush 99, 2) := by decide +kernel
theorem d1_105 : decode method_2_code 105 = .ok (.castore, 1) := by decide +kernel
theorem d1_106 : decode method_2_code 106 = .ok (.dup, 1) := by decide +kernel
theorem d1_107 : decode method_2_code 107 = .ok (.bipush 18, 2) := by decide +kernel
theorem d1_109 : decode method_2_code 109 = .ok (.bipush 58, 2) := by decide +kernel
theorem d1_111 : decode method_2_code 111 = .ok (.castore, 1) := by decide +kernel
theorem d1_112 : decode method_2_code 112 = .ok (.dup, 1) := by decide +kernel
theorem d1_113 : decode method_2_code 113 = .ok (.bipush 19, 2) := by decide +kernel
theorem d1_115 : decode method_2_code 115 = .ok (.bipush 83, 2) := by decide +kernel
theorem d1_117 : decode method_2_code 117 = .ok (.castore, 1) := by decide +kernel
theorem d1_118 : decode method_2_code 118 = .ok (.dup, 1) := by decide +kernel
theorem d1_119 : decode method_2_code 119 = .ok (.bipush 20, 2) := by decide +kernel
theorem d1_121 : decode method_2_code 121 = .ok (.bipush 65, 2) := by decide +kernel
theorem d1_123 : decode method_2_code 123 = .ok (.castore, 1) := by decide +kernel
theorem d1_124 : decode method_2_code 124 = .ok (.dup, 1) := by decide +kernel
theorem d1_125 : decode method_2_code 125 = .ok (.bipush 21, 2) := by decide +kernel
theorem d1_127 : decode method_2_code 127 = .ok (.bipush 77, 2) := by decide +kernel
theorem d1_129 : decode method_2_code 129 = .ok (.castore, 1) := by decide +kernel
theorem d1_130 : decode method_2_code 130 = .ok (.dup, 1) := by decide +kernel
theorem d1_131 : decode method_2_code 131 = .ok (.bipush 22, 2) := by decide +kernel
theorem d1_133 : decode method_2_code 133 = .ok (.bipush 76, 2) := by decide +kernel
theorem d1_135 : decode method_2_code 135 = .ok (.castore, 1) := by decide +kernel
theorem d1_136 : decode method_2_code 136 = .ok (.dup, 1) := by decide +kernel
theorem d1_137 : decode method_2_code 137 = .ok (.bipush 23, 2) := by decide +kernel
theorem d1_139 : decode method_2_code 139 = .ok (.bipush 58, 2) := by decide +kernel
theorem d1_141 : decode method_2_code 141 = .ok (.castore, 1) := by decide +kernel
theorem d1_142 : decode method_2_code 142 = .ok (.dup, 1) := by decide +kernel
theorem d1_143 : decode method_2_code 143 = .ok (.bipush 24, 2) := by decide +kernel
theorem d1_145 : decode method_2_code 145 = .ok (.bipush 50, 2) := by decide +kernel
theorem d1_147 : decode method_2_code 147 = .ok (.castore, 1) := by decide +kernel
theorem d1_148 : decode method_2_code 148 = .ok (.dup, 1) := by decide +kernel
theorem d1_149 : decode method_2_code 149 = .ok (.bipush 25, 2) := by decide +kernel
theorem d1_151 : decode method_2_code 151 = .ok (.bipush 46, 2) := by decide +kernel
theorem d1_153 : decode method_2_code 153 = .ok (.castore, 1) := by decide +kernel
theorem d1_154 : decode method_2_code 154 = .ok (.dup, 1) := by decide +kernel
theorem d1_155 : decode method_2_code 155 = .ok (.bipush 26, 2) := by decide +kernel
theorem d1_157 : decode method_2_code 157 = .ok (.bipush 48, 2) := by decide +kernel
theorem d1_159 : decode method_2_code 159 = .ok (.castore, 1) := by decide +kernel
theorem d1_160 : decode method_2_code 160 = .ok (.dup, 1) := by decide +kernel
theorem d1_161 : decode method_2_code 161 = .ok (.bipush 27, 2) := by decide +kernel
theorem d1_163 : decode method_2_code 163 = .ok (.bipush 58, 2) := by decide +kernel
theorem d1_165 : decode method_2_code 165 = .ok (.castore, 1) := by decide +kernel
theorem d1_166 : decode method_2_code 166 = .ok (.dup, 1) := by decide +kernel
theorem d1_167 : decode method_2_code 167 = .ok (.bipush 28, 2) := by decide +kernel
theorem d1_169 : decode method_2_code 169 = .ok (.bipush 110, 2) := by decide +kernel
theorem d1_171 : decode method_2_code 171 = .ok (.castore, 1) := by decide +kernel
theorem d1_172 : decode method_2_code 172 = .ok (.dup, 1) := by decide +kernel
theorem d1_173 : decode method_2_code 173 = .ok (.bipush 29, 2) := by decide +kernel
theorem d1_175 : decode method_2_code 175 = .ok (.bipush 97, 2) := by decide +kernel
theorem d1_177 : decode method_2_code 177 = .ok (.castore, 1) := by decide +kernel
theorem d1_178 : decode method_2_code 178 = .ok (.dup, 1) := by decide +kernel
theorem d1_179 : decode method_2_code 179 = .ok (.bipush 30, 2) := by decide +kernel
theorem d1_181 : decode method_2_code 181 = .ok (.bipush 109, 2) := by decide +kernel
theorem d1_183 : decode method_2_code 183 = .ok (.castore, 1) := by decide +kernel
theorem d1_184 : decode method_2_code 184 = .ok (.dup, 1) := by decide +kernel
theorem d1_185 : decode method_2_code 185 = .ok (.bipush 31, 2) := by decide +kernel
theorem d1_187 : decode method_2_code 187 = .ok (.bipush 101, 2) := by decide +kernel
theorem d1_189 : decode method_2_code 189 = .ok (.castore, 1) := by decide +kernel
theorem d1_190 : decode method_2_code 190 = .ok (.dup, 1) := by decide +kernel
theorem d1_191 : decode method_2_code 191 = .ok (.bipush 32, 2) := by decide +kernel
theorem d1_193 : decode method_2_code 193 = .ok (.bipush 105, 2) := by decide +kernel
theorem d1_195 : decode method_2_code 195 = .ok (.castore, 1) := by decide +kernel
theorem d1_196 : decode method_2_code 196 = .ok (.dup, 1) := by decide +kernel
theorem d1_197 : decode method_2_code 197 = .ok (.bipush 33, 2) := by decide +kernel
theorem d1_199 : decode method_2_code 199 = .ok (.bipush 100, 2) := by decide +kernel
theorem d1_201 : decode method_2_code 201 = .ok (.castore, 1) := by decide +kernel
theorem d1_202 : decode method_2_code 202 = .ok (.dup, 1) := by decide +kernel
theorem d1_203 : decode method_2_code 203 = .ok (.bipush 34, 2) := by decide +kernel
theorem d1_205 : decode method_2_code 205 = .ok (.bipush 45, 2) := by decide +kernel
theorem d1_207 : decode method_2_code 207 = .ok (.castore, 1) := by decide +kernel
theorem d1_208 : decode method_2_code 208 = .ok (.dup, 1) := by decide +kernel
theorem d1_209 : decode method_2_code 209 = .ok (.bipush 35, 2) := by decide +kernel
theorem d1_211 : decode method_2_code 211 = .ok (.bipush 102, 2) := by decide +kernel
theorem d1_213 : decode method_2_code 213 = .ok (.castore, 1) := by decide +kernel
theorem d1_214 : decode method_2_code 214 = .ok (.dup, 1) := by decide +kernel
theorem d1_215 : decode method_2_code 215 = .ok (.bipush 36, 2) := by decide +kernel
theorem d1_217 : decode method_2_code 217 = .ok (.bipush 111, 2) := by decide +kernel
theorem d1_219 : decode method_2_code 219 = .ok (.castore, 1) := by decide +kernel
theorem d1_220 : decode method_2_code 220 = .ok (.dup, 1) := by decide +kernel
theorem d1_221 : decode method_2_code 221 = .ok (.bipush 37, 2) := by decide +kernel
theorem d1_223 : decode method_2_code 223 = .ok (.bipush 114, 2) := by decide +kernel
theorem d1_225 : decode method_2_code 225 = .ok (.castore, 1) := by decide +kernel
theorem d1_226 : decode method_2_code 226 = .ok (.dup, 1) := by decide +kernel
theorem d1_227 : decode method_2_code 227 = .ok (.bipush 38, 2) := by decide +kernel
theorem d1_229 : decode method_2_code 229 = .ok (.bipush 109, 2) := by decide +kernel
theorem d1_231 : decode method_2_code 231 = .ok (.castore, 1) := by decide +kernel
theorem d1_232 : decode method_2_code 232 = .ok (.dup, 1) := by decide +kernel
theorem d1_233 : decode method_2_code 233 = .ok (.bipush 39, 2) := by decide +kernel
theorem d1_235 : decode method_2_code 235 = .ok (.bipush 97, 2) := by decide +kernel
theorem d1_237 : decode method_2_code 237 = .ok (.castore, 1) := by decide +kernel
theorem d1_238 : decode method_2_code 238 = .ok (.dup, 1) := by decide +kernel
theorem d1_239 : decode method_2_code 239 = .ok (.bipush 40, 2) := by decide +kernel
theorem d1_241 : decode method_2_code 241 = .ok (.bipush 116, 2) := by decide +kernel
theorem d1_243 : decode method_2_code 243 = .ok (.castore, 1) := by decide +kernel
theorem d1_244 : decode method_2_code 244 = .ok (.dup, 1) := by decide +kernel
theorem d1_245 : decode method_2_code 245 = .ok (.bipush 41, 2) := by decide +kernel
theorem d1_247 : decode method_2_code 247 = .ok (.bipush 58, 2) := by decide +kernel
theorem d1_249 : decode method_2_code 249 = .ok (.castore, 1) := by decide +kernel
theorem d1_250 : decode method_2_code 250 = .ok (.dup, 1) := by decide +kernel
theorem d1_251 : decode method_2_code 251 = .ok (.bipush 42, 2) := by decide +kernel
theorem d1_253 : decode method_2_code 253 = .ok (.bipush 112, 2) := by decide +kernel
theorem d1_255 : decode method_2_code 255 = .ok (.castore, 1) := by decide +kernel
theorem d1_256 : decode method_2_code 256 = .ok (.dup, 1) := by decide +kernel
theorem d1_257 : decode method_2_code 257 = .ok (.bipush 43, 2) := by decide +kernel
theorem d1_259 : decode method_2_code 259 = .ok (.bipush 101, 2) := by decide +kernel
theorem d1_261 : decode method_2_code 261 = .ok (.castore, 1) := by decide +kernel
theorem d1_262 : decode method_2_code 262 = .ok (.dup, 1) := by decide +kernel
theorem d1_263 : decode method_2_code 263 = .ok (.bipush 44, 2) := by decide +kernel
theorem d1_265 : decode method_2_code 265 = .ok (.bipush 114, 2) := by decide +kernel
theorem d1_267 : decode method_2_code 267 = .ok (.castore, 1) := by decide +kernel
theorem d1_268 : decode method_2_code 268 = .ok (.dup, 1) := by decide +kernel
theorem d1_269 : decode method_2_code 269 = .ok (.bipush 45, 2) := by decide +kernel
theorem d1_271 : decode method_2_code 271 = .ok (.bipush 115, 2) := by decide +kernel
theorem d1_273 : decode method_2_code 273 = .ok (.castore, 1) := by decide +kernel
theorem d1_274 : decode method_2_code 274 = .ok (.dup, 1) := by decide +kernel
theorem d1_275 : decode method_2_code 275 = .ok (.bipush 46, 2) := by decide +kernel
theorem d1_277 : decode method_2_code 277 = .ok (.bipush 105, 2) := by decide +kernel
theorem d1_279 : decode method_2_code 279 = .ok (.castore, 1) := by decide +kernel
theorem d1_280 : decode method_2_code 280 = .ok (.dup, 1) := by decide +kernel
theorem d1_281 : decode method_2_code 281 = .ok (.bipush 47, 2) := by decide +kernel
theorem d1_283 : decode method_2_code 283 = .ok (.bipush 115, 2) := by decide +kernel
theorem d1_285 : decode method_2_code 285 = .ok (.castore, 1) := by decide +kernel
theorem d1_286 : decode method_2_code 286 = .ok (.dup, 1) := by decide +kernel
theorem d1_287 : decode method_2_code 287 = .ok (.bipush 48, 2) := by decide +kernel
theorem d1_289 : decode method_2_code 289 = .ok (.bipush 116, 2) := by decide +kernel
theorem d1_291 : decode method_2_code 291 = .ok (.castore, 1) := by decide +kernel
theorem d1_292 : decode method_2_code 292 = .ok (.dup, 1) := by decide +kernel
theorem d1_293 : decode method_2_code 293 = .ok (.bipush 49, 2) := by decide +kernel
theorem d1_295 : decode method_2_code 295 = .ok (.bipush 101, 2) := by decide +kernel
theorem d1_297 : decode method_2_code 297 = .ok (.castore, 1) := by decide +kernel
theorem d1_298 : decode method_2_code 298 = .ok (.dup, 1) := by decide +kernel
theorem d1_299 : decode method_2_code 299 = .ok (.bipush 50, 2) := by decide +kernel
theorem d1_301 : decode method_2_code 301 = .ok (.bipush 110, 2) := by decide +kernel
theorem d1_303 : decode method_2_code 303 = .ok (.castore, 1) := by decide +kernel
theorem d1_304 : decode method_2_code 304 = .ok (.dup, 1) := by decide +kernel
theorem d1_305 : decode method_2_code 305 = .ok (.bipush 51, 2) := by decide +kernel
theorem d1_307 : decode method_2_code 307 = .ok (.bipush 116, 2) := by decide +kernel
theorem d1_309 : decode method_2_code 309 = .ok (.castore, 1) := by decide +kernel
theorem d1_310 : decode method_2_code 310 = .ok (.areturn, 1) := by decide +kernel
theorem pn_com_example_assertgate_assertgate_saml_NameIdFormatsIsAcceptedPinLaw : plainName "com/example/assertgate/assertgate/saml/NameIdFormatsIsAcceptedPinLaw" = true := by first | (simp [plainName, overriddenIn]; done) | decide +kernel
theorem ef_1 (m : MethodId)  : entryFrame m #[] 0 = mkF m 0 #[] [] := by first | (simp [entryFrame, mkF, argsToLocals, Value.category]; done) | rfl
def Q1 (Z : State)  (h0 : Heap) (n0 : Nat) (v : Option Value) (h : Heap) (L : List Loc) : Prop := ∃ (b : Addr) (kb : ClassId), v = some (.ref b) ∧ Fr n0 L ∧ Keep h0 h [] ∧ h0.size ≤ b ∧ (Arv Z h b kb .char (52 : Int32) [(.int 117), (.int 114), (.int 110), (.int 58), (.int 111), (.int 97), (.int 115), (.int 105), (.int 115), (.int 58), (.int 110), (.int 97), (.int 109), (.int 101), (.int 115), (.int 58), (.int 116), (.int 99), (.int 58), (.int 83), (.int 65), (.int 77), (.int 76), (.int 58), (.int 50), (.int 46), (.int 48), (.int 58), (.int 110), (.int 97), (.int 109), (.int 101), (.int 105), (.int 100), (.int 45), (.int 102), (.int 111), (.int 114), (.int 109), (.int 97), (.int 116), (.int 58), (.int 112), (.int 101), (.int 114), (.int 115), (.int 105), (.int 115), (.int 116), (.int 101), (.int 110), (.int 116)] (.int 0))
set_option maxRecDepth 65536 in
set_option maxHeartbeats 40000000 in
theorem rm1 (l : Launch) (Z : State) (a0 : Array Value) (hw : ∀ d ∈ tables_1, d.before a0 Z = true) (ws : List Jvm.Cond)  (h0 : Heap) (n0 : Nat) (Z0 : n0 ≤ h0.size)  :
    MetFree l (⟨"com/example/assertgate/assertgate/saml/NameIdFormatsIsAcceptedPinLaw", "persistentChars", "()[C"⟩ : MethodName) (head1 (Jvm.Cond.code (⟨"com/example/assertgate/assertgate/saml/NameIdFormatsIsAcceptedPinLaw", "persistentChars", "()[C"⟩ : MethodName) method_2_code 0 (some (.array .char)) :: ws) ({ frames := 0, cells := 1, slots := 52, locals := 0 } : Room)) (fun argz U => argz = #[] ∧ Z.Warmed39 U.vm ∧ U.heap = h0) (fun _ _ _ _ _ => True) (fun _ U o U' => ∃ v L, o = .returned v ∧ Q1 Z  h0 n0 v U'.heap L ∧ FrameEnd U o U' L ({ frames := 0, cells := 1, slots := 52, locals := 0 } : Room).cells ({ frames := 0, cells := 1, slots := 52, locals := 0 } : Room).slots) := by
  refine MetFree.of_bodySF (plainFor_of_name pn_com_example_assertgate_assertgate_saml_NameIdFormatsIsAcceptedPinLaw) hisR ?_
  intro p e s m args below meth c s₁ Bd hml0 hP hK
  obtain ⟨rfl, hZ, hh⟩ := hP
  have hx := Bd.exec
  have hby := Bd.bytes
  have hml : c.maxLocals = 0 := hml0
  have hown : s.vm.findClass "com/example/assertgate/assertgate/saml/NameIdFormatsIsAcceptedPinLaw" = some m.cls := findClass_of_methodNamed Bd.named
  have hnm := (name_of_methodNamed Bd.named Bd.method).1
  have X0 : Stand p l e ({ frames := 0, cells := 1, slots := 52, locals := 0 } : Room) s m #[] below meth c s₁ [] 0 0 := Stand.of_body Bd
  have e0 : s₁.heap = h0 := by rw [← hh, Bd.state]; rfl
  have N0 := Fr.nil n0
  have K0 : Keep h0 h0 [] := Keep.refl _ _
  have G : Gets p e below (s₁.setTop (entryFrame m #[] 0)) (s₁.setTop (mkF m 0 #[] [])) := fun tq kq => castTop (ef_1 m ) kq
  replace G := o_bipush (q := 2) G X0.here hx (hb hby d1_0) (v := (52 : Int32)) (by decide) rfl
  obtain ⟨T1, h1, k1, X1, e1, E1, A1, st1⟩ := newP X0 hx hZ (o_w hw 5 rfl) e0 (g := o_g G) rfl (hb hby d1_2) rfl (by decide) (cap := 52) (by decide) (by decide) (by decide) (by decide)
  obtain ⟨b1, g1⟩ : ∃ z, z = h0.size := ⟨_, rfl⟩
  rw [← g1] at A1 st1
  have ge_b1 : n0 ≤ b1 := Nat.le_trans Z0 (Nat.le_of_eq g1.symm)
  have sz_b1 : h0.size ≤ b1 := Nat.le_trans K0.1 (Nat.le_of_eq g1.symm)
  have Z1 : n0 ≤ h1.size := Nat.le_trans Z0 E1.1
  have K1 : Keep h0 h1 [] := K0.ext E1
  have V1 : Arv Z h1 b1 k1 .char (52 : Int32) [(.int 0), (.int 0), (.int 0), (.int 0), (.int 0), (.int 0), (.int 0), (.int 0), (.int 0), (.int 0), (.int 0), (.int 0), (.int 0), (.int 0), (.int 0), (.int 0), (.int 0), (.int 0), (.int 0), (.int 0), (.int 0), (.int 0), (.int 0), (.int 0), (.int 0), (.int 0), (.int 0), (.int 0), (.int 0), (.int 0), (.int 0), (.int 0), (.int 0), (.int 0), (.int 0), (.int 0), (.int 0), (.int 0), (.int 0), (.int 0), (.int 0), (.int 0), (.int 0), (.int 0), (.int 0), (.int 0), (.int 0), (.int 0), (.int 0), (.int 0), (.int 0), (.int 0)] (.int 0) := (Arv.new A1 (by decide)).pad (pad_rep [] (.int 0) 52)
  replace G := o_nxs (q := 4) (st := [(.ref b1)]) G st1 rfl
  replace G := o_dup (q := 5) G X1.here hx (hb hby d1_4) rfl rfl
  replace G := o_iconst (q := 6) G X1.here hx (hb hby d1_5) (v := (0 : Int32)) (by decide) rfl
  replace G := o_bipush (q := 8) G X1.here hx (hb hby d1_6) (v := (117 : Int32)) (by decide) rfl
  obtain ⟨c2, Ar2, q2, S2, N2', H2, G2'⟩ := id V1
  have hin2 : ¬ ((0 : Int32) < 0 ∨ c2.slots.size ≤ ((0 : Int32)).toNatClampNeg) := inb_of S2 ⟨by decide, by decide⟩
  obtain ⟨T2, h2, X2, e2, W2, st2⟩ := stC X1 hx hZ e1 Ar2 (j := (0 : Int32)) hin2 (g := o_g G) rfl rfl (hb hby d1_8)
  have N2 := Fr.snoc X2 N0 ge_b1
  have Z2 : n0 ≤ h2.size := Nat.le_trans Z1 (Keep.of_wr W2).1
  have K2 : Keep h0 h2 [] := K1.wr W2 (Or.inr sz_b1)
  have V2 : Arv Z h2 b1 k1 .char (52 : Int32) [(.int 117), (.int 0), (.int 0), (.int 0), (.int 0), (.int 0), (.int 0), (.int 0), (.int 0), (.int 0), (.int 0), (.int 0), (.int 0), (.int 0), (.int 0), (.int 0), (.int 0), (.int 0), (.int 0), (.int 0), (.int 0), (.int 0), (.int 0), (.int 0), (.int 0), (.int 0), (.int 0), (.int 0), (.int 0), (.int 0), (.int 0), (.int 0), (.int 0), (.int 0), (.int 0), (.int 0), (.int 0), (.int 0), (.int 0), (.int 0), (.int 0), (.int 0), (.int 0), (.int 0), (.int 0), (.int 0), (.int 0), (.int 0), (.int 0), (.int 0), (.int 0), (.int 0)] (.int 0) := Arv.set Ar2 q2 S2 N2' H2 G2' (fits_nar_char _) W2 0 rfl (Nat.le_of_ble_eq_true rfl)
  replace G := o_nxs (q := 9) (st := [(.ref b1)]) G st2 rfl
  replace G := o_dup (q := 10) G X2.here hx (hb hby d1_9) rfl rfl
  replace G := o_iconst (q := 11) G X2.here hx (hb hby d1_10) (v := (1 : Int32)) (by decide) rfl
  replace G := o_bipush (q := 13) G X2.here hx (hb hby d1_11) (v := (114 : Int32)) (by decide) rfl
  obtain ⟨c3, Ar3, q3, S3, N3', H3, G3'⟩ := id V2
  have hin3 : ¬ ((1 : Int32) < 0 ∨ c3.slots.size ≤ ((1 : Int32)).toNatClampNeg) := inb_of S3 ⟨by decide, by decide⟩
  obtain ⟨T3, h3, X3, e3, W3, st3⟩ := stC X2 hx hZ e2 Ar3 (j := (1 : Int32)) hin3 (g := o_g G) rfl rfl (hb hby d1_13)
  have N3 := Fr.snoc X3 N2 ge_b1
  have Z3 : n0 ≤ h3.size := Nat.le_trans Z2 (Keep.of_wr W3).1
  have K3 : Keep h0 h3 [] := K2.wr W3 (Or.inr sz_b1)
  have V3 : Arv Z h3 b1 k1 .char (52 : Int32) [(.int 117), (.int 114), (.int 0), (.int 0), (.int 0), (.int 0), (.int 0), (.int 0), (.int 0), (.int 0), (.int 0), (.int 0), (.int 0), (.int 0), (.int 0), (.int 0), (.int 0), (.int 0), (.int 0), (.int 0), (.int 0), (.int 0), (.int 0), (.int 0), (.int 0), (.int 0), (.int 0), (.int 0), (.int 0), (.int 0), (.int 0), (.int 0), (.int 0), (.int 0), (.int 0), (.int 0), (.int 0), (.int 0), (.int 0), (.int 0), (.int 0), (.int 0), (.int 0), (.int 0), (.int 0), (.int 0), (.int 0), (.int 0), (.int 0), (.int 0), (.int 0), (.int 0)] (.int 0) := Arv.set Ar3 q3 S3 N3' H3 G3' (fits_nar_char _) W3 1 rfl (Nat.le_of_ble_eq_true rfl)
  replace G := o_nxs (q := 14) (st := [(.ref b1)]) G st3 rfl
  replace G := o_dup (q := 15) G X3.here hx (hb hby d1_14) rfl rfl
  replace G := o_iconst (q := 16) G X3.here hx (hb hby d1_15) (v := (2 : Int32)) (by decide) rfl
  replace G := o_bipush (q := 18) G X3.here hx (hb hby d1_16) (v := (110 : Int32)) (by decide) rfl
  obtain ⟨c4, Ar4, q4, S4, N4', H4, G4'⟩ := id V3
  have hin4 : ¬ ((2 : Int32) < 0 ∨ c4.slots.size ≤ ((2 : Int32)).toNatClampNeg) := inb_of S4 ⟨by decide, by decide⟩
  obtain ⟨T4, h4, X4, e4, W4, st4⟩ := stC X3 hx hZ e3 Ar4 (j := (2 : Int32)) hin4 (g := o_g G) rfl rfl (hb hby d1_18)
  have N4 := Fr.snoc X4 N3 ge_b1
  have Z4 : n0 ≤ h4.size := Nat.le_trans Z3 (Keep.of_wr W4).1
  have K4 : Keep h0 h4 [] := K3.wr W4 (Or.inr sz_b1)
  have V4 : Arv Z h4 b1 k1 .char (52 : Int32) [(.int 117), (.int 114), (.int 110), (.int 0), (.int 0), (.int 0), (.int 0), (.int 0), (.int 0), (.int 0), (.int 0), (.int 0), (.int 0), (.int 0), (.int 0), (.int 0), (.int 0), (.int 0), (.int 0), (.int 0), (.int 0), (.int 0), (.int 0), (.int 0), (.int 0), (.int 0), (.int 0), (.int 0), (.int 0), (.int 0), (.int 0), (.int 0), (.int 0), (.int 0), (.int 0), (.int 0), (.int 0), (.int 0), (.int 0), (.int 0), (.int 0), (.int 0), (.int 0), (.int 0), (.int 0), (.int 0), (.int 0), (.int 0), (.int 0), (.int 0), (.int 0), (.int 0)] (.int 0) := Arv.set Ar4 q4 S4 N4' H4 G4' (fits_nar_char _) W4 2 rfl (Nat.le_of_ble_eq_true rfl)
  replace G := o_nxs (q := 19) (st := [(.ref b1)]) G st4 rfl
  replace G := o_dup (q := 20) G X4.here hx (hb hby d1_19) rfl rfl
  replace G := o_iconst (q := 21) G X4.here hx (hb hby d1_20) (v := (3 : Int32)) (by decide) rfl
  replace G := o_bipush (q := 23) G X4.here hx (hb hby d1_21) (v := (58 : Int32)) (by decide) rfl
  obtain ⟨c5, Ar5, q5, S5, N5', H5, G5'⟩ := id V4
  have hin5 : ¬ ((3 : Int32) < 0 ∨ c5.slots.size ≤ ((3 : Int32)).toNatClampNeg) := inb_of S5 ⟨by decide, by decide⟩
  obtain ⟨T5, h5, X5, e5, W5, st5⟩ := stC X4 hx hZ e4 Ar5 (j := (3 : Int32)) hin5 (g := o_g G) rfl rfl (hb hby d1_23)
  have N5 := Fr.snoc X5 N4 ge_b1
  have Z5 : n0 ≤ h5.size := Nat.le_trans Z4 (Keep.of_wr W5).1
  have K5 : Keep h0 h5 [] := K4.wr W5 (Or.inr sz_b1)
  have V5 : Arv Z h5 b1 k1 .char (52 : Int32) [(.int 117), (.int 114), (.int 110), (.int 58), (.int 0), (.int 0), (.int 0), (.int 0), (.int 0), (.int 0), (.int 0), (.int 0), (.int 0), (.int 0), (.int 0), (.int 0), (.int 0), (.int 0), (.int 0), (.int 0), (.int 0), (.int 0), (.int 0), (.int 0), (.int 0), (.int 0), (.int 0), (.int 0), (.int 0), (.int 0), (.int 0), (.int 0), (.int 0), (.int 0), (.int 0), (.int 0), (.int 0), (.int 0), (.int 0), (.int 0), (.int 0), (.int 0), (.int 0), (.int 0), (.int 0), (.int 0), (.int 0), (.int 0), (.int 0), (.int 0), (.int 0), (.int 0)] (.int 0) := Arv.set Ar5 q5 S5 N5' H5 G5' (fits_nar_char _) W5 3 rfl (Nat.le_of_ble_eq_true rfl)
  replace G := o_nxs (q := 24) (st := [(.ref b1)]) G st5 rfl
  replace G := o_dup (q := 25) G X5.here hx (hb hby d1_24) rfl rfl
  replace G := o_iconst (q := 26) G X5.here hx (hb hby d1_25) (v := (4 : Int32)) (by decide) rfl
  replace G := o_bipush (q := 28) G X5.here hx (hb hby d1_26) (v := (111 : Int32)) (by decide) rfl
  obtain ⟨c6, Ar6, q6, S6, N6', H6, G6'⟩ := id V5
  have hin6 : ¬ ((4 : Int32) < 0 ∨ c6.slots.size ≤ ((4 : Int32)).toNatClampNeg) := inb_of S6 ⟨by decide, by decide⟩
  obtain ⟨T6, h6, X6, e6, W6, st6⟩ := stC X5 hx hZ e5 Ar6 (j := (4 : Int32)) hin6 (g := o_g G) rfl rfl (hb hby d1_28)
  have N6 := Fr.snoc X6 N5 ge_b1
  have Z6 : n0 ≤ h6.size := Nat.le_trans Z5 (Keep.of_wr W6).1
  have K6 : Keep h0 h6 [] := K5.wr W6 (Or.inr sz_b1)
  have V6 : Arv Z h6 b1 k1 .char (52 : Int32) [(.int 117), (.int 114), (.int 110), (.int 58), (.int 111), (.int 0), (.int 0), (.int 0), (.int 0), (.int 0), (.int 0), (.int 0), (.int 0), (.int 0), (.int 0), (.int 0), (.int 0), (.int 0), (.int 0), (.int 0), (.int 0), (.int 0), (.int 0), (.int 0), (.int 0), (.int 0), (.int 0), (.int 0), (.int 0), (.int 0), (.int 0), (.int 0), (.int 0), (.int 0), (.int 0), (.int 0), (.int 0), (.int 0), (.int 0), (.int 0), (.int 0), (.int 0), (.int 0), (.int 0), (.int 0), (.int 0), (.int 0), (.int 0), (.int 0), (.int 0), (.int 0), (.int 0)] (.int 0) := Arv.set Ar6 q6 S6 N6' H6 G6' (fits_nar_char _) W6 4 rfl (Nat.le_of_ble_eq_true rfl)
  replace G := o_nxs (q := 29) (st := [(.ref b1)]) G st6 rfl
  replace G := o_dup (q := 30) G X6.here hx (hb hby d1_29) rfl rfl
  replace G := o_iconst (q := 31) G X6.here hx (hb hby d1_30) (v := (5 : Int32)) (by decide) rfl
  replace G := o_bipush (q := 33) G X6.here hx (hb hby d1_31) (v := (97 : Int32)) (by decide) rfl
  obtain ⟨c7, Ar7, q7, S7, N7', H7, G7'⟩ := id V6
  have hin7 : ¬ ((5 : Int32) < 0 ∨ c7.slots.size ≤ ((5 : Int32)).toNatClampNeg) := inb_of S7 ⟨by decide, by decide⟩
  obtain ⟨T7, h7, X7, e7, W7, st7⟩ := stC X6 hx hZ e6 Ar7 (j := (5 : Int32)) hin7 (g := o_g G) rfl rfl (hb hby d1_33)
  have N7 := Fr.snoc X7 N6 ge_b1
  have Z7 : n0 ≤ h7.size := Nat.le_trans Z6 (Keep.of_wr W7).1
  have K7 : Keep h0 h7 [] := K6.wr W7 (Or.inr sz_b1)
  have V7 : Arv Z h7 b1 k1 .char (52 : Int32) [(.int 117), (.int 114), (.int 110), (.int 58), (.int 111), (.int 97), (.int 0), (.int 0), (.int 0), (.int 0), (.int 0), (.int 0), (.int 0), (.int 0), (.int 0), (.int 0), (.int 0), (.int 0), (.int 0), (.int 0), (.int 0), (.int 0), (.int 0), (.int 0), (.int 0), (.int 0), (.int 0), (.int 0), (.int 0), (.int 0), (.int 0), (.int 0), (.int 0), (.int 0), (.int 0), (.int 0), (.int 0), (.int 0), (.int 0), (.int 0), (.int 0), (.int 0), (.int 0), (.int 0), (.int 0), (.int 0), (.int 0), (.int 0), (.int 0), (.int 0), (.int 0), (.int 0)] (.int 0) := Arv.set Ar7 q7 S7 N7' H7 G7' (fits_nar_char _) W7 5 rfl (Nat.le_of_ble_eq_true rfl)
  replace G := o_nxs (q := 34) (st := [(.ref b1)]) G st7 rfl
  replace G := o_dup (q := 35) G X7.here hx (hb hby d1_34) rfl rfl
  replace G := o_bipush (q := 37) G X7.here hx (hb hby d1_35) (v := (6 : Int32)) (by decide) rfl
  replace G := o_bipush (q := 39) G X7.here hx (hb hby d1_37) (v := (115 : Int32)) (by decide) rfl
  obtain ⟨c8, Ar8, q8, S8, N8', H8, G8'⟩ := id V7
  have hin8 : ¬ ((6 : Int32) < 0 ∨ c8.slots.size ≤ ((6 : Int32)).toNatClampNeg) := inb_of S8 ⟨by decide, by decide⟩
  obtain ⟨T8, h8, X8, e8, W8, st8⟩ := stC X7 hx hZ e7 Ar8 (j := (6 : Int32)) hin8 (g := o_g G) rfl rfl (hb hby d1_39)
  have N8 := Fr.snoc X8 N7 ge_b1
  have Z8 : n0 ≤ h8.size := Nat.le_trans Z7 (Keep.of_wr W8).1
  have K8 : Keep h0 h8 [] := K7.wr W8 (Or.inr sz_b1)
  have V8 : Arv Z h8 b1 k1 .char (52 : Int32) [(.int 117), (.int 114), (.int 110), (.int 58), (.int 111), (.int 97), (.int 115), (.int 0), (.int 0), (.int 0), (.int 0), (.int 0), (.int 0), (.int 0), (.int 0), (.int 0), (.int 0), (.int 0), (.int 0), (.int 0), (.int 0), (.int 0), (.int 0), (.int 0), (.int 0), (.int 0), (.int 0), (.int 0), (.int 0), (.int 0), (.int 0), (.int 0), (.int 0), (.int 0), (.int 0), (.int 0), (.int 0), (.int 0), (.int 0), (.int 0), (.int 0), (.int 0), (.int 0), (.int 0), (.int 0), (.int 0), (.int 0), (.int 0), (.int 0), (.int 0), (.int 0), (.int 0)] (.int 0) := Arv.set Ar8 q8 S8 N8' H8 G8' (fits_nar_char _) W8 6 rfl (Nat.le_of_ble_eq_true rfl)
  replace G := o_nxs (q := 40) (st := [(.ref b1)]) G st8 rfl
  replace G := o_dup (q := 41) G X8.here hx (hb hby d1_40) rfl rfl
  replace G := o_bipush (q := 43) G X8.here hx (hb hby d1_41) (v := (7 : Int32)) (by decide) rfl
  replace G := o_bipush (q := 45) G X8.here hx (hb hby d1_43) (v := (105 : Int32)) (by decide) rfl
  obtain ⟨c9, Ar9, q9, S9, N9', H9, G9'⟩ := id V8
  have hin9 : ¬ ((7 : Int32) < 0 ∨ c9.slots.size ≤ ((7 : Int32)).toNatClampNeg) := inb_of S9 ⟨by decide, by decide⟩
  obtain ⟨T9, h9, X9, e9, W9, st9⟩ := stC X8 hx hZ e8 Ar9 (j := (7 : Int32)) hin9 (g := o_g G) rfl rfl (hb hby d1_45)
  have N9 := Fr.snoc X9 N8 ge_b1
  have Z9 : n0 ≤ h9.size := Nat.le_trans Z8 (Keep.of_wr W9).1
  have K9 : Keep h0 h9 [] := K8.wr W9 (Or.inr sz_b1)
  have V9 : Arv Z h9 b1 k1 .char (52 : Int32) [(.int 117), (.int 114), (.int 110), (.int 58), (.int 111), (.int 97), (.int 115), (.int 105), (.int 0), (.int 0), (.int 0), (.int 0), (.int 0), (.int 0), (.int 0), (.int 0), (.int 0), (.int 0), (.int 0), (.int 0), (.int 0), (.int 0), (.int 0), (.int 0), (.int 0), (.int 0), (.int 0), (.int 0), (.int 0), (.int 0), (.int 0), (.int 0), (.int 0), (.int 0), (.int 0), (.int 0), (.int 0), (.int 0), (.int 0), (.int 0), (.int 0), (.int 0), (.int 0), (.int 0), (.int 0), (.int 0), (.int 0), (.int 0), (.int 0), (.int 0), (.int 0), (.int 0)] (.int 0) := Arv.set Ar9 q9 S9 N9' H9 G9' (fits_nar_char _) W9 7 rfl (Nat.le_of_ble_eq_true rfl)
  replace G := o_nxs (q := 46) (st := [(.ref b1)]) G st9 rfl
  replace G := o_dup (q := 47) G X9.here hx (hb hby d1_46) rfl rfl
  replace G := o_bipush (q := 49) G X9.here hx (hb hby d1_47) (v := (8 : Int32)) (by decide) rfl
  replace G := o_bipush (q := 51) G X9.here hx (hb hby d1_49) (v := (115 : Int32)) (by decide) rfl
  obtain ⟨c10, Ar10, q10, S10, N10', H10, G10'⟩ := id V9
  have hin10 : ¬ ((8 : Int32) < 0 ∨ c10.slots.size ≤ ((8 : Int32)).toNatClampNeg) := inb_of S10 ⟨by decide, by decide⟩
  obtain ⟨T10, h10, X10, e10, W10, st10⟩ := stC X9 hx hZ e9 Ar10 (j := (8 : Int32)) hin10 (g := o_g G) rfl rfl (hb hby d1_51)
  have N10 := Fr.snoc X10 N9 ge_b1
  have Z10 : n0 ≤ h10.size := Nat.le_trans Z9 (Keep.of_wr W10).1
  have K10 : Keep h0 h10 [] := K9.wr W10 (Or.inr sz_b1)
  have V10 : Arv Z h10 b1 k1 .char (52 : Int32) [(.int 117), (.int 114), (.int 110), (.int 58), (.int 111), (.int 97), (.int 115), (.int 105), (.int 115), (.int 0), (.int 0), (.int 0), (.int 0), (.int 0), (.int 0), (.int 0), (.int 0), (.int 0), (.int 0), (.int 0), (.int 0), (.int 0), (.int 0), (.int 0), (.int 0), (.int 0), (.int 0), (.int 0), (.int 0), (.int 0), (.int 0), (.int 0), (.int 0), (.int 0), (.int 0), (.int 0), (.int 0), (.int 0), (.int 0), (.int 0), (.int 0), (.int 0), (.int 0), (.int 0), (.int 0), (.int 0), (.int 0), (.int 0), (.int 0), (.int 0), (.int 0), (.int 0)] (.int 0) := Arv.set Ar10 q10 S10 N10' H10 G10' (fits_nar_char _) W10 8 rfl (Nat.le_of_ble_eq_true rfl)
  replace G := o_nxs (q := 52) (st := [(.ref b1)]) G st10 rfl
  replace G := o_dup (q := 53) G X10.here hx (hb hby d1_52) rfl rfl
  replace G := o_bipush (q := 55) G X10.here hx (hb hby d1_53) (v := (9 : Int32)) (by decide) rfl
  replace G := o_bipush (q := 57) G X10.here hx (hb hby d1_55) (v := (58 : Int32)) (by decide) rfl
  obtain ⟨c11, Ar11, q11, S11, N11', H11, G11'⟩ := id V10
  have hin11 : ¬ ((9 : Int32) < 0 ∨ c11.slots.size ≤ ((9 : Int32)).toNatClampNeg) := inb_of S11 ⟨by decide, by decide⟩
  obtain ⟨T11, h11, X11, e11, W11, st11⟩ := stC X10 hx hZ e10 Ar11 (j := (9 : Int32)) hin11 (g := o_g G) rfl rfl (hb hby d1_57)
  have N11 := Fr.snoc X11 N10 ge_b1
  have Z11 : n0 ≤ h11.size := Nat.le_trans Z10 (Keep.of_wr W11).1
  have K11 : Keep h0 h11 [] := K10.wr W11 (Or.inr sz_b1)
  have V11 : Arv Z h11 b1 k1 .char (52 : Int32) [(.int 117), (.int 114), (.int 110), (.int 58), (.int 111), (.int 97), (.int 115), (.int 105), (.int 115), (.int 58), (.int 0), (.int 0), (.int 0), (.int 0), (.int 0), (.int 0), (.int 0), (.int 0), (.int 0), (.int 0), (.int 0), (.int 0), (.int 0), (.int 0), (.int 0), (.int 0), (.int 0), (.int 0), (.int 0), (.int 0), (.int 0), (.int 0), (.int 0), (.int 0), (.int 0), (.int 0), (.int 0), (.int 0), (.int 0), (.int 0), (.int 0), (.int 0), (.int 0), (.int 0), (.int 0), (.int 0), (.int 0), (.int 0), (.int 0), (.int 0), (.int 0), (.int 0)] (.int 0) := Arv.set Ar11 q11 S11 N11' H11 G11' (fits_nar_char _) W11 9 rfl (Nat.le_of_ble_eq_true rfl)
  replace G := o_nxs (q := 58) (st := [(.ref b1)]) G st11 rfl
  replace G := o_dup (q := 59) G X11.here hx (hb hby d1_58) rfl rfl
  replace G := o_bipush (q := 61) G X11.here hx (hb hby d1_59) (v := (10 : Int32)) (by decide) rfl
  replace G := o_bipush (q := 63) G X11.here hx (hb hby d1_61) (v := (110 : Int32)) (by decide) rfl
  obtain ⟨c12, Ar12, q12, S12, N12', H12, G12'⟩ := id V11
  have hin12 : ¬ ((10 : Int32) < 0 ∨ c12.slots.size ≤ ((10 : Int32)).toNatClampNeg) := inb_of S12 ⟨by decide, by decide⟩
  obtain ⟨T12, h12, X12, e12, W12, st12⟩ := stC X11 hx hZ e11 Ar12 (j := (10 : Int32)) hin12 (g := o_g G) rfl rfl (hb hby d1_63)
  have N12 := Fr.snoc X12 N11 ge_b1
  have Z12 : n0 ≤ h12.size := Nat.le_trans Z11 (Keep.of_wr W12).1
  have K12 : Keep h0 h12 [] := K11.wr W12 (Or.inr sz_b1)
  have V12 : Arv Z h12 b1 k1 .char (52 : Int32) [(.int 117), (.int 114), (.int 110), (.int 58), (.int 111), (.int 97), (.int 115), (.int 105), (.int 115), (.int 58), (.int 110), (.int 0), (.int 0), (.int 0), (.int 0), (.int 0), (.int 0), (.int 0), (.int 0), (.int 0), (.int 0), (.int 0), (.int 0), (.int 0), (.int 0), (.int 0), (.int 0), (.int 0), (.int 0), (.int 0), (.int 0), (.int 0), (.int 0), (.int 0), (.int 0), (.int 0), (.int 0), (.int 0), (.int 0), (.int 0), (.int 0), (.int 0), (.int 0), (.int 0), (.int 0), (.int 0), (.int 0), (.int 0), (.int 0), (.int 0), (.int 0), (.int 0)] (.int 0) := Arv.set Ar12 q12 S12 N12' H12 G12' (fits_nar_char _) W12 10 rfl (Nat.le_of_ble_eq_true rfl)
  replace G := o_nxs (q := 64) (st := [(.ref b1)]) G st12 rfl
  replace G := o_dup (q := 65) G X12.here hx (hb hby d1_64) rfl rfl
  replace G := o_bipush (q := 67) G X12.here hx (hb hby d1_65) (v := (11 : Int32)) (by decide) rfl
  replace G := o_bipush (q := 69) G X12.here hx (hb hby d1_67) (v := (97 : Int32)) (by decide) rfl
  obtain ⟨c13, Ar13, q13, S13, N13', H13, G13'⟩ := id V12
  have hin13 : ¬ ((11 : Int32) < 0 ∨ c13.slots.size ≤ ((11 : Int32)).toNatClampNeg) := inb_of S13 ⟨by decide, by decide⟩
  obtain ⟨T13, h13, X13, e13, W13, st13⟩ := stC X12 hx hZ e12 Ar13 (j := (11 : Int32)) hin13 (g := o_g G) rfl rfl (hb hby d1_69)
  have N13 := Fr.snoc X13 N12 ge_b1
  have Z13 : n0 ≤ h13.size := Nat.le_trans Z12 (Keep.of_wr W13).1
  have K13 : Keep h0 h13 [] := K12.wr W13 (Or.inr sz_b1)
  have V13 : Arv Z h13 b1 k1 .char (52 : Int32) [(.int 117), (.int 114), (.int 110), (.int 58), (.int 111), (.int 97), (.int 115), (.int 105), (.int 115), (.int 58), (.int 110), (.int 97), (.int 0), (.int 0), (.int 0), (.int 0), (.int 0), (.int 0), (.int 0), (.int 0), (.int 0), (.int 0), (.int 0), (.int 0), (.int 0), (.int 0), (.int 0), (.int 0), (.int 0), (.int 0), (.int 0), (.int 0), (.int 0), (.int 0), (.int 0), (.int 0), (.int 0), (.int 0), (.int 0), (.int 0), (.int 0), (.int 0), (.int 0), (.int 0), (.int 0), (.int 0), (.int 0), (.int 0), (.int 0), (.int 0), (.int 0), (.int 0)] (.int 0) := Arv.set Ar13 q13 S13 N13' H13 G13' (fits_nar_char _) W13 11 rfl (Nat.le_of_ble_eq_true rfl)
  replace G := o_nxs (q := 70) (st := [(.ref b1)]) G st13 rfl
  replace G := o_dup (q := 71) G X13.here hx (hb hby d1_70) rfl rfl
  replace G := o_bipush (q := 73) G X13.here hx (hb hby d1_71) (v := (12 : Int32)) (by decide) rfl
  replace G := o_bipush (q := 75) G X13.here hx (hb hby d1_73) (v := (109 : Int32)) (by decide) rfl
  obtain ⟨c14, Ar14, q14, S14, N14', H14, G14'⟩ := id V13
  have hin14 : ¬ ((12 : Int32) < 0 ∨ c14.slots.size ≤ ((12 : Int32)).toNatClampNeg) := inb_of S14 ⟨by decide, by decide⟩
  obtain ⟨T14, h14, X14, e14, W14, st14⟩ := stC X13 hx hZ e13 Ar14 (j := (12 : Int32)) hin14 (g := o_g G) rfl rfl (hb hby d1_75)
  have N14 := Fr.snoc X14 N13 ge_b1
  have Z14 : n0 ≤ h14.size := Nat.le_trans Z13 (Keep.of_wr W14).1
  have K14 : Keep h0 h14 [] := K13.wr W14 (Or.inr sz_b1)
  have V14 : Arv Z h14 b1 k1 .char (52 : Int32) [(.int 117), (.int 114), (.int 110), (.int 58), (.int 111), (.int 97), (.int 115), (.int 105), (.int 115), (.int 58), (.int 110), (.int 97), (.int 109), (.int 0), (.int 0), (.int 0), (.int 0), (.int 0), (.int 0), (.int 0), (.int 0), (.int 0), (.int 0), (.int 0), (.int 0), (.int 0), (.int 0), (.int 0), (.int 0), (.int 0), (.int 0), (.int 0), (.int 0), (.int 0), (.int 0), (.int 0), (.int 0), (.int 0), (.int 0), (.int 0), (.int 0), (.int 0), (.int 0), (.int 0), (.int 0), (.int 0), (.int 0), (.int 0), (.int 0), (.int 0), (.int 0), (.int 0)] (.int 0) := Arv.set Ar14 q14 S14 N14' H14 G14' (fits_nar_char _) W14 12 rfl (Nat.le_of_ble_eq_true rfl)
  replace G := o_nxs (q := 76) (st := [(.ref b1)]) G st14 rfl
  replace G := o_dup (q := 77) G X14.here hx (hb hby d1_76) rfl rfl
  replace G := o_bipush (q := 79) G X14.here hx (hb hby d1_77) (v := (13 : Int32)) (by decide) rfl
  replace G := o_bipush (q := 81) G X14.here hx (hb hby d1_79) (v := (101 : Int32)) (by decide) rfl
  obtain ⟨c15, Ar15, q15, S15, N15', H15, G15'⟩ := id V14
  have hin15 : ¬ ((13 : Int32) < 0 ∨ c15.slots.size ≤ ((13 : Int32)).toNatClampNeg) := inb_of S15 ⟨by decide, by decide⟩
  obtain ⟨T15, h15, X15, e15, W15, st15⟩ := stC X14 hx hZ e14 Ar15 (j := (13 : Int32)) hin15 (g := o_g G) rfl rfl (hb hby d1_81)
  have N15 := Fr.snoc X15 N14 ge_b1
  have Z15 : n0 ≤ h15.size := Nat.le_trans Z14 (Keep.of_wr W15).1
  have K15 : Keep h0 h15 [] := K14.wr W15 (Or.inr sz_b1)
  have V15 : Arv Z h15 b1 k1 .char (52 : Int32) [(.int 117), (.int 114), (.int 110), (.int 58), (.int 111), (.int 97), (.int 115), (.int 105), (.int 115), (.int 58), (.int 110), (.int 97), (.int 109), (.int 101), (.int 0), (.int 0), (.int 0), (.int 0), (.int 0), (.int 0), (.int 0), (.int 0), (.int 0), (.int 0), (.int 0), (.int 0), (.int 0), (.int 0), (.int 0), (.int 0), (.int 0), (.int 0), (.int 0), (.int 0), (.int 0), (.int 0), (.int 0), (.int 0), (.int 0), (.int 0), (.int 0), (.int 0), (.int 0), (.int 0), (.int 0), (.int 0), (.int 0), (.int 0), (.int 0), (.int 0), (.int 0), (.int 0)] (.int 0) := Arv.set Ar15 q15 S15 N15' H15 G15' (fits_nar_char _) W15 13 rfl (Nat.le_of_ble_eq_true rfl)
  replace G := o_nxs (q := 82) (st := [(.ref b1)]) G st15 rfl
  replace G := o_dup (q := 83) G X15.here hx (hb hby d1_82) rfl rfl
  replace G := o_bipush (q := 85) G X15.here hx (hb hby d1_83) (v := (14 : Int32)) (by decide) rfl
  replace G := o_bipush (q := 87) G X15.here hx (hb hby d1_85) (v := (115 : Int32)) (by decide) rfl
  obtain ⟨c16, Ar16, q16, S16, N16', H16, G16'⟩ := id V15
  have hin16 : ¬ ((14 : Int32) < 0 ∨ c16.slots.size ≤ ((14 : Int32)).toNatClampNeg) := inb_of S16 ⟨by decide, by decide⟩
  obtain ⟨T16, h16, X16, e16, W16, st16⟩ := stC X15 hx hZ e15 Ar16 (j := (14 : Int32)) hin16 (g := o_g G) rfl rfl (hb hby d1_87)
  have N16 := Fr.snoc X16 N15 ge_b1
  have Z16 : n0 ≤ h16.size := Nat.le_trans Z15 (Keep.of_wr W16).1
  have K16 : Keep h0 h16 [] := K15.wr W16 (Or.inr sz_b1)
  have V16 : Arv Z h16 b1 k1 .char (52 : Int32) [(.int 117), (.int 114), (.int 110), (.int 58), (.int 111), (.int 97), (.int 115), (.int 105), (.int 115), (.int 58), (.int 110), (.int 97), (.int 109), (.int 101), (.int 115), (.int 0), (.int 0), (.int 0), (.int 0), (.int 0), (.int 0), (.int 0), (.int 0), (.int 0), (.int 0), (.int 0), (.int 0), (.int 0), (.int 0), (.int 0), (.int 0), (.int 0), (.int 0), (.int 0), (.int 0), (.int 0), (.int 0), (.int 0), (.int 0), (.int 0), (.int 0), (.int 0), (.int 0), (.int 0), (.int 0), (.int 0), (.int 0), (.int 0), (.int 0), (.int 0), (.int 0), (.int 0)] (.int 0) := Arv.set Ar16 q16 S16 N16' H16 G16' (fits_nar_char _) W16 14 rfl (Nat.le_of_ble_eq_true rfl)
  replace G := o_nxs (q := 88) (st := [(.ref b1)]) G st16 rfl
  replace G := o_dup (q := 89) G X16.here hx (hb hby d1_88) rfl rfl
  replace G := o_bipush (q := 91) G X16.here hx (hb hby d1_89) (v := (15 : Int32)) (by decide) rfl
  replace G := o_bipush (q := 93) G X16.here hx (hb hby d1_91) (v := (58 : Int32)) (by decide) rfl
  obtain ⟨c17, Ar17, q17, S17, N17', H17, G17'⟩ := id V16
  have hin17 : ¬ ((15 : Int32) < 0 ∨ c17.slots.size ≤ ((15 : Int32)).toNatClampNeg) := inb_of S17 ⟨by decide, by decide⟩
  obtain ⟨T17, h17, X17, e17, W17, st17⟩ := stC X16 hx hZ e16 Ar17 (j := (15 : Int32)) hin17 (g := o_g G) rfl rfl (hb hby d1_93)
  have N17 := Fr.snoc X17 N16 ge_b1
  have Z17 : n0 ≤ h17.size := Nat.le_trans Z16 (Keep.of_wr W17).1
  have K17 : Keep h0 h17 [] := K16.wr W17 (Or.inr sz_b1)
  have V17 : Arv Z h17 b1 k1 .char (52 : Int32) [(.int 117), (.int 114), (.int 110), (.int 58), (.int 111), (.int 97), (.int 115), (.int 105), (.int 115), (.int 58), (.int 110), (.int 97), (.int 109), (.int 101), (.int 115), (.int 58), (.int 0), (.int 0), (.int 0), (.int 0), (.int 0), (.int 0), (.int 0), (.int 0), (.int 0), (.int 0), (.int 0), (.int 0), (.int 0), (.int 0), (.int 0), (.int 0), (.int 0), (.int 0), (.int 0), (.int 0), (.int 0), (.int 0), (.int 0), (.int 0), (.int 0), (.int 0), (.int 0), (.int 0), (.int 0), (.int 0), (.int 0), (.int 0), (.int 0), (.int 0), (.int 0), (.int 0)] (.int 0) := Arv.set Ar17 q17 S17 N17' H17 G17' (fits_nar_char _) W17 15 rfl (Nat.le_of_ble_eq_true rfl)
  replace G := o_nxs (q := 94) (st := [(.ref b1)]) G st17 rfl
  replace G := o_dup (q := 95) G X17.here hx (hb hby d1_94) rfl rfl
  replace G := o_bipush (q := 97) G X17.here hx (hb hby d1_95) (v := (16 : Int32)) (by decide) rfl
  replace G := o_bipush (q := 99) G X17.here hx (hb hby d1_97) (v := (116 : Int32)) (by decide) rfl
  obtain ⟨c18, Ar18, q18, S18, N18', H18, G18'⟩ := id V17
  have hin18 : ¬ ((16 : Int32) < 0 ∨ c18.slots.size ≤ ((16 : Int32)).toNatClampNeg) := inb_of S18 ⟨by decide, by decide⟩
  obtain ⟨T18, h18, X18, e18, W18, st18⟩ := stC X17 hx hZ e17 Ar18 (j := (16 : Int32)) hin18 (g := o_g G) rfl rfl (hb hby d1_99)
  have N18 := Fr.snoc X18 N17 ge_b1
  have Z18 : n0 ≤ h18.size := Nat.le_trans Z17 (Keep.of_wr W18).1
  have K18 : Keep h0 h18 [] := K17.wr W18 (Or.inr sz_b1)
  have V18 : Arv Z h18 b1 k1 .char (52 : Int32) [(.int 117), (.int 114), (.int 110), (.int 58), (.int 111), (.int 97), (.int 115), (.int 105), (.int 115), (.int 58), (.int 110), (.int 97), (.int 109), (.int 101), (.int 115), (.int 58), (.int 116), (.int 0), (.int 0), (.int 0), (.int 0), (.int 0), (.int 0), (.int 0), (.int 0), (.int 0), (.int 0), (.int 0), (.int 0), (.int 0), (.int 0), (.int 0), (.int 0), (.int 0), (.int 0), (.int 0), (.int 0), (.int 0), (.int 0), (.int 0), (.int 0), (.int 0), (.int 0), (.int 0), (.int 0), (.int 0), (.int 0), (.int 0), (.int 0), (.int 0), (.int 0), (.int 0)] (.int 0) := Arv.set Ar18 q18 S18 N18' H18 G18' (fits_nar_char _) W18 16 rfl (Nat.le_of_ble_eq_true rfl)
  replace G := o_nxs (q := 100) (st := [(.ref b1)]) G st18 rfl
  replace G := o_dup (q := 101) G X18.here hx (hb hby d1_100) rfl rfl
  replace G := o_bipush (q := 103) G X18.here hx (hb hby d1_101) (v := (17 : Int32)) (by decide) rfl
  replace G := o_bipush (q := 105) G X18.here hx (hb hby d1_103) (v := (99 : Int32)) (by decide) rfl
  obtain ⟨c19, Ar19, q19, S19, N19', H19, G19'⟩ := id V18
  have hin19 : ¬ ((17 : Int32) < 0 ∨ c19.slots.size ≤ ((17 : Int32)).toNatClampNeg) := inb_of S19 ⟨by decide, by decide⟩
  obtain ⟨T19, h19, X19, e19, W19, st19⟩ := stC X18 hx hZ e18 Ar19 (j := (17 : Int32)) hin19 (g := o_g G) rfl rfl (hb hby d1_105)
  have N19 := Fr.snoc X19 N18 ge_b1
  have Z19 : n0 ≤ h19.size := Nat.le_trans Z18 (Keep.of_wr W19).1
  have K19 : Keep h0 h19 [] := K18.wr W19 (Or.inr sz_b1)
  have V19 : Arv Z h19 b1 k1 .char (52 : Int32) [(.int 117), (.int 114), (.int 110), (.int 58), (.int 111), (.int 97), (.int 115), (.int 105), (.int 115), (.int 58), (.int 110), (.int 97), (.int 109), (.int 101), (.int 115), (.int 58), (.int 116), (.int 99), (.int 0), (.int 0), (.int 0), (.int 0), (.int 0), (.int 0), (.int 0), (.int 0), (.int 0), (.int 0), (.int 0), (.int 0), (.int 0), (.int 0), (.int 0), (.int 0), (.int 0), (.int 0), (.int 0), (.int 0), (.int 0), (.int 0), (.int 0), (.int 0), (.int 0), (.int 0), (.int 0), (.int 0), (.int 0), (.int 0), (.int 0), (.int 0), (.int 0), (.int 0)] (.int 0) := Arv.set Ar19 q19 S19 N19' H19 G19' (fits_nar_char _) W19 17 rfl (Nat.le_of_ble_eq_true rfl)
  replace G := o_nxs (q := 106) (st := [(.ref b1)]) G st19 rfl
  replace G := o_dup (q := 107) G X19.here hx (hb hby d1_106) rfl rfl
  replace G := o_bipush (q := 109) G X19.here hx (hb hby d1_107) (v := (18 : Int32)) (by decide) rfl
  replace G := o_bipush (q := 111) G X19.here hx (hb hby d1_109) (v := (58 : Int32)) (by decide) rfl
  obtain ⟨c20, Ar20, q20, S20, N20', H20, G20'⟩ := id V19
  have hin20 : ¬ ((18 : Int32) < 0 ∨ c20.slots.size ≤ ((18 : Int32)).toNatClampNeg) := inb_of S20 ⟨by decide, by decide⟩
  obtain ⟨T20, h20, X20, e20, W20, st20⟩ := stC X19 hx hZ e19 Ar20 (j := (18 : Int32)) hin20 (g := o_g G) rfl rfl (hb hby d1_111)
  have N20 := Fr.snoc X20 N19 ge_b1
  have Z20 : n0 ≤ h20.size := Nat.le_trans Z19 (Keep.of_wr W20).1
  have K20 : Keep h0 h20 [] := K19.wr W20 (Or.inr sz_b1)
  have V20 : Arv Z h20 b1 k1 .char (52 : Int32) [(.int 117), (.int 114), (.int 110), (.int 58), (.int 111), (.int 97), (.int 115), (.int 105), (.int 115), (.int 58), (.int 110), (.int 97), (.int 109), (.int 101), (.int 115), (.int 58), (.int 116), (.int 99), (.int 58), (.int 0), (.int 0), (.int 0), (.int 0), (.int 0), (.int 0), (.int 0), (.int 0), (.int 0), (.int 0), (.int 0), (.int 0), (.int 0), (.int 0), (.int 0), (.int 0), (.int 0), (.int 0), (.int 0), (.int 0), (.int 0), (.int 0), (.int 0), (.int 0), (.int 0), (.int 0), (.int 0), (.int 0), (.int 0), (.int 0), (.int 0), (.int 0), (.int 0)] (.int 0) := Arv.set Ar20 q20 S20 N20' H20 G20' (fits_nar_char _) W20 18 rfl (Nat.le_of_ble_eq_true rfl)
  replace G := o_nxs (q := 112) (st := [(.ref b1)]) G st20 rfl
  replace G := o_dup (q := 113) G X20.here hx (hb hby d1_112) rfl rfl
  replace G := o_bipush (q := 115) G X20.here hx (hb hby d1_113) (v := (19 : Int32)) (by decide) rfl
  replace G := o_bipush (q := 117) G X20.here hx (hb hby d1_115) (v := (83 : Int32)) (by decide) rfl
  obtain ⟨c21, Ar21, q21, S21, N21', H21, G21'⟩ := id V20
  have hin21 : ¬ ((19 : Int32) < 0 ∨ c21.slots.size ≤ ((19 : Int32)).toNatClampNeg) := inb_of S21 ⟨by decide, by decide⟩
  obtain ⟨T21, h21, X21, e21, W21, st21⟩ := stC X20 hx hZ e20 Ar21 (j := (19 : Int32)) hin21 (g := o_g G) rfl rfl (hb hby d1_117)
  have N21 := Fr.snoc X21 N20 ge_b1
  have Z21 : n0 ≤ h21.size := Nat.le_trans Z20 (Keep.of_wr W21).1
  have K21 : Keep h0 h21 [] := K20.wr W21 (Or.inr sz_b1)
  have V21 : Arv Z h21 b1 k1 .char (52 : Int32) [(.int 117), (.int 114), (.int 110), (.int 58), (.int 111), (.int 97), (.int 115), (.int 105), (.int 115), (.int 58), (.int 110), (.int 97), (.int 109), (.int 101), (.int 115), (.int 58), (.int 116), (.int 99), (.int 58), (.int 83), (.int 0), (.int 0), (.int 0), (.int 0), (.int 0), (.int 0), (.int 0), (.int 0), (.int 0), (.int 0), (.int 0), (.int 0), (.int 0), (.int 0), (.int 0), (.int 0), (.int 0), (.int 0), (.int 0), (.int 0), (.int 0), (.int 0), (.int 0), (.int 0), (.int 0), (.int 0), (.int 0), (.int 0), (.int 0), (.int 0), (.int 0), (.int 0)] (.int 0) := Arv.set Ar21 q21 S21 N21' H21 G21' (fits_nar_char _) W21 19 rfl (Nat.le_of_ble_eq_true rfl)
  replace G := o_nxs (q := 118) (st := [(.ref b1)]) G st21 rfl
  replace G := o_dup (q := 119) G X21.here hx (hb hby d1_118) rfl rfl
  replace G := o_bipush (q := 121) G X21.here hx (hb hby d1_119) (v := (20 : Int32)) (by decide) rfl
  replace G := o_bipush (q := 123) G X21.here hx (hb hby d1_121) (v := (65 : Int32)) (by decide) rfl
  obtain ⟨c22, Ar22, q22, S22, N22', H22, G22'⟩ := id V21
  have hin22 : ¬ ((20 : Int32) < 0 ∨ c22.slots.size ≤ ((20 : Int32)).toNatClampNeg) := inb_of S22 ⟨by decide, by decide⟩
  obtain ⟨T22, h22, X22, e22, W22, st22⟩ := stC X21 hx hZ e21 Ar22 (j := (20 : Int32)) hin22 (g := o_g G) rfl rfl (hb hby d1_123)
  have N22 := Fr.snoc X22 N21 ge_b1
  have Z22 : n0 ≤ h22.size := Nat.le_trans Z21 (Keep.of_wr W22).1
  have K22 : Keep h0 h22 [] := K21.wr W22 (Or.inr sz_b1)
  have V22 : Arv Z h22 b1 k1 .char (52 : Int32) [(.int 117), (.int 114), (.int 110), (.int 58), (.int 111), (.int 97), (.int 115), (.int 105), (.int 115), (.int 58), (.int 110), (.int 97), (.int 109), (.int 101), (.int 115), (.int 58), (.int 116), (.int 99), (.int 58), (.int 83), (.int 65), (.int 0), (.int 0), (.int 0), (.int 0), (.int 0), (.int 0), (.int 0), (.int 0), (.int 0), (.int 0), (.int 0), (.int 0), (.int 0), (.int 0), (.int 0), (.int 0), (.int 0), (.int 0), (.int 0), (.int 0), (.int 0), (.int 0), (.int 0), (.int 0), (.int 0), (.int 0), (.int 0), (.int 0), (.int 0), (.int 0), (.int 0)] (.int 0) := Arv.set Ar22 q22 S22 N22' H22 G22' (fits_nar_char _) W22 20 rfl (Nat.le_of_ble_eq_true rfl)
  replace G := o_nxs (q := 124) (st := [(.ref b1)]) G st22 rfl
  replace G := o_dup (q := 125) G X22.here hx (hb hby d1_124) rfl rfl
  replace G := o_bipush (q := 127) G X22.here hx (hb hby d1_125) (v := (21 : Int32)) (by decide) rfl
  replace G := o_bipush (q := 129) G X22.here hx (hb hby d1_127) (v := (77 : Int32)) (by decide) rfl
  obtain ⟨c23, Ar23, q23, S23, N23', H23, G23'⟩ := id V22
  have hin23 : ¬ ((21 : Int32) < 0 ∨ c23.slots.size ≤ ((21 : Int32)).toNatClampNeg) := inb_of S23 ⟨by decide, by decide⟩
  obtain ⟨T23, h23, X23, e23, W23, st23⟩ := stC X22 hx hZ e22 Ar23 (j := (21 : Int32)) hin23 (g := o_g G) rfl rfl (hb hby d1_129)
  have N23 := Fr.snoc X23 N22 ge_b1
  have Z23 : n0 ≤ h23.size := Nat.le_trans Z22 (Keep.of_wr W23).1
  have K23 : Keep h0 h23 [] := K22.wr W23 (Or.inr sz_b1)
  have V23 : Arv Z h23 b1 k1 .char (52 : Int32) [(.int 117), (.int 114), (.int 110), (.int 58), (.int 111), (.int 97), (.int 115), (.int 105), (.int 115), (.int 58), (.int 110), (.int 97), (.int 109), (.int 101), (.int 115), (.int 58), (.int 116), (.int 99), (.int 58), (.int 83), (.int 65), (.int 77), (.int 0), (.int 0), (.int 0), (.int 0), (.int 0), (.int 0), (.int 0), (.int 0), (.int 0), (.int 0), (.int 0), (.int 0), (.int 0), (.int 0), (.int 0), (.int 0), (.int 0), (.int 0), (.int 0), (.int 0), (.int 0), (.int 0), (.int 0), (.int 0), (.int 0), (.int 0), (.int 0), (.int 0), (.int 0), (.int 0)] (.int 0) := Arv.set Ar23 q23 S23 N23' H23 G23' (fits_nar_char _) W23 21 rfl (Nat.le_of_ble_eq_true rfl)
  replace G := o_nxs (q := 130) (st := [(.ref b1)]) G st23 rfl
  replace G := o_dup (q := 131) G X23.here hx (hb hby d1_130) rfl rfl
  replace G := o_bipush (q := 133) G X23.here hx (hb hby d1_131) (v := (22 : Int32)) (by decide) rfl
  replace G := o_bipush (q := 135) G X23.here hx (hb hby d1_133) (v := (76 : Int32)) (by decide) rfl
  obtain ⟨c24, Ar24, q24, S24, N24', H24, G24'⟩ := id V23
  have hin24 : ¬ ((22 : Int32) < 0 ∨ c24.slots.size ≤ ((22 : Int32)).toNatClampNeg) := inb_of S24 ⟨by decide, by decide⟩
  obtain ⟨T24, h24, X24, e24, W24, st24⟩ := stC X23 hx hZ e23 Ar24 (j := (22 : Int32)) hin24 (g := o_g G) rfl rfl (hb hby d1_135)
  have N24 := Fr.snoc X24 N23 ge_b1
  have Z24 : n0 ≤ h24.size := Nat.le_trans Z23 (Keep.of_wr W24).1
  have K24 : Keep h0 h24 [] := K23.wr W24 (Or.inr sz_b1)
  have V24 : Arv Z h24 b1 k1 .char (52 : Int32) [(.int 117), (.int 114), (.int 110), (.int 58), (.int 111), (.int 97), (.int 115), (.int 105), (.int 115), (.int 58), (.int 110), (.int 97), (.int 109), (.int 101), (.int 115), (.int 58), (.int 116), (.int 99), (.int 58), (.int 83), (.int 65), (.int 77), (.int 76), (.int 0), (.int 0), (.int 0), (.int 0), (.int 0), (.int 0), (.int 0), (.int 0), (.int 0), (.int 0), (.int 0), (.int 0), (.int 0), (.int 0), (.int 0), (.int 0), (.int 0), (.int 0), (.int 0), (.int 0), (.int 0), (.int 0), (.int 0), (.int 0), (.int 0), (.int 0), (.int 0), (.int 0), (.int 0)] (.int 0) := Arv.set Ar24 q24 S24 N24' H24 G24' (fits_nar_char _) W24 22 rfl (Nat.le_of_ble_eq_true rfl)
  replace G := o_nxs (q := 136) (st := [(.ref b1)]) G st24 rfl
  replace G := o_dup (q := 137) G X24.here hx (hb hby d1_136) rfl rfl
  replace G := o_bipush (q := 139) G X24.here hx (hb hby d1_137) (v := (23 : Int32)) (by decide) rfl
  replace G := o_bipush (q := 141) G X24.here hx (hb hby d1_139) (v := (58 : Int32)) (by decide) rfl
  obtain ⟨c25, Ar25, q25, S25, N25', H25, G25'⟩ := id V24
  have hin25 : ¬ ((23 : Int32) < 0 ∨ c25.slots.size ≤ ((23 : Int32)).toNatClampNeg) := inb_of S25 ⟨by decide, by decide⟩
  obtain ⟨T25, h25, X25, e25, W25, st25⟩ := stC X24 hx hZ e24 Ar25 (j := (23 : Int32)) hin25 (g := o_g G) rfl rfl (hb hby d1_141)
  have N25 := Fr.snoc X25 N24 ge_b1
  have Z25 : n0 ≤ h25.size := Nat.le_trans Z24 (Keep.of_wr W25).1
  have K25 : Keep h0 h25 [] := K24.wr W25 (Or.inr sz_b1)
  have V25 : Arv Z h25 b1 k1 .char (52 : Int32) [(.int 117), (.int 114), (.int 110), (.int 58), (.int 111), (.int 97), (.int 115), (.int 105), (.int 115), (.int 58), (.int 110), (.int 97), (.int 109), (.int 101), (.int 115), (.int 58), (.int 116), (.int 99), (.int 58), (.int 83), (.int 65), (.int 77), (.int 76), (.int 58), (.int 0), (.int 0), (.int 0), (.int 0), (.int 0), (.int 0), (.int 0), (.int 0), (.int 0), (.int 0), (.int 0), (.int 0), (.int 0), (.int 0), (.int 0), (.int 0), (.int 0), (.int 0), (.int 0), (.int 0), (.int 0), (.int 0), (.int 0), (.int 0), (.int 0), (.int 0), (.int 0), (.int 0)] (.int 0) := Arv.set Ar25 q25 S25 N25' H25 G25' (fits_nar_char _) W25 23 rfl (Nat.le_of_ble_eq_true rfl)
  replace G := o_nxs (q := 142) (st := [(.ref b1)]) G st25 rfl
  replace G := o_dup (q := 143) G X25.here hx (hb hby d1_142) rfl rfl
  replace G := o_bipush (q := 145) G X25.here hx (hb hby d1_143) (v := (24 : Int32)) (by decide) rfl
  replace G := o_bipush (q := 147) G X25.here hx (hb hby d1_145) (v := (50 : Int32)) (by decide) rfl
  obtain ⟨c26, Ar26, q26, S26, N26', H26, G26'⟩ := id V25
  have hin26 : ¬ ((24 : Int32) < 0 ∨ c26.slots.size ≤ ((24 : Int32)).toNatClampNeg) := inb_of S26 ⟨by decide, by decide⟩
  obtain ⟨T26, h26, X26, e26, W26, st26⟩ := stC X25 hx hZ e25 Ar26 (j := (24 : Int32)) hin26 (g := o_g G) rfl rfl (hb hby d1_147)
  have N26 := Fr.snoc X26 N25 ge_b1
  have Z26 : n0 ≤ h26.size := Nat.le_trans Z25 (Keep.of_wr W26).1
  have K26 : Keep h0 h26 [] := K25.wr W26 (Or.inr sz_b1)
  have V26 : Arv Z h26 b1 k1 .char (52 : Int32) [(.int 117), (.int 114), (.int 110), (.int 58), (.int 111), (.int 97), (.int 115), (.int 105), (.int 115), (.int 58), (.int 110), (.int 97), (.int 109), (.int 101), (.int 115), (.int 58), (.int 116), (.int 99), (.int 58), (.int 83), (.int 65), (.int 77), (.int 76), (.int 58), (.int 50), (.int 0), (.int 0), (.int 0), (.int 0), (.int 0), (.int 0), (.int 0), (.int 0), (.int 0), (.int 0), (.int 0), (.int 0), (.int 0), (.int 0), (.int 0), (.int 0), (.int 0), (.int 0), (.int 0), (.int 0), (.int 0), (.int 0), (.int 0), (.int 0), (.int 0), (.int 0), (.int 0)] (.int 0) := Arv.set Ar26 q26 S26 N26' H26 G26' (fits_nar_char _) W26 24 rfl (Nat.le_of_ble_eq_true rfl)
  replace G := o_nxs (q := 148) (st := [(.ref b1)]) G st26 rfl
  replace G := o_dup (q := 149) G X26.here hx (hb hby d1_148) rfl rfl
  replace G := o_bipush (q := 151) G X26.here hx (hb hby d1_149) (v := (25 : Int32)) (by decide) rfl
  replace G := o_bipush (q := 153) G X26.here hx (hb hby d1_151) (v := (46 : Int32)) (by decide) rfl
  obtain ⟨c27, Ar27, q27, S27, N27', H27, G27'⟩ := id V26
  have hin27 : ¬ ((25 : Int32) < 0 ∨ c27.slots.size ≤ ((25 : Int32)).toNatClampNeg) := inb_of S27 ⟨by decide, by decide⟩
  obtain ⟨T27, h27, X27, e27, W27, st27⟩ := stC X26 hx hZ e26 Ar27 (j := (25 : Int32)) hin27 (g := o_g G) rfl rfl (hb hby d1_153)
  have N27 := Fr.snoc X27 N26 ge_b1
  have Z27 : n0 ≤ h27.size := Nat.le_trans Z26 (Keep.of_wr W27).1
  have K27 : Keep h0 h27 [] := K26.wr W27 (Or.inr sz_b1)
  have V27 : Arv Z h27 b1 k1 .char (52 : Int32) [(.int 117), (.int 114), (.int 110), (.int 58), (.int 111), (.int 97), (.int 115), (.int 105), (.int 115), (.int 58), (.int 110), (.int 97), (.int 109), (.int 101), (.int 115), (.int 58), (.int 116), (.int 99), (.int 58), (.int 83), (.int 65), (.int 77), (.int 76), (.int 58), (.int 50), (.int 46), (.int 0), (.int 0), (.int 0), (.int 0), (.int 0), (.int 0), (.int 0), (.int 0), (.int 0), (.int 0), (.int 0), (.int 0), (.int 0), (.int 0), (.int 0), (.int 0), (.int 0), (.int 0), (.int 0), (.int 0), (.int 0), (.int 0), (.int 0), (.int 0), (.int 0), (.int 0)] (.int 0) := Arv.set Ar27 q27 S27 N27' H27 G27' (fits_nar_char _) W27 25 rfl (Nat.le_of_ble_eq_true rfl)
  replace G := o_nxs (q := 154) (st := [(.ref b1)]) G st27 rfl
  replace G := o_dup (q := 155) G X27.here hx (hb hby d1_154) rfl rfl
  replace G := o_bipush (q := 157) G X27.here hx (hb hby d1_155) (v := (26 : Int32)) (by decide) rfl
  replace G := o_bipush (q := 159) G X27.here hx (hb hby d1_157) (v := (48 : Int32)) (by decide) rfl
  obtain ⟨c28, Ar28, q28, S28, N28', H28, G28'⟩ := id V27
  have hin28 : ¬ ((26 : Int32) < 0 ∨ c28.slots.size ≤ ((26 : Int32)).toNatClampNeg) := inb_of S28 ⟨by decide, by decide⟩
  obtain ⟨T28, h28, X28, e28, W28, st28⟩ := stC X27 hx hZ e27 Ar28 (j := (26 : Int32)) hin28 (g := o_g G) rfl rfl (hb hby d1_159)
  have N28 := Fr.snoc X28 N27 ge_b1
  have Z28 : n0 ≤ h28.size := Nat.le_trans Z27 (Keep.of_wr W28).1
  have K28 : Keep h0 h28 [] := K27.wr W28 (Or.inr sz_b1)
  have V28 : Arv Z h28 b1 k1 .char (52 : Int32) [(.int 117), (.int 114), (.int 110), (.int 58), (.int 111), (.int 97), (.int 115), (.int 105), (.int 115), (.int 58), (.int 110), (.int 97), (.int 109), (.int 101), (.int 115), (.int 58), (.int 116), (.int 99), (.int 58), (.int 83), (.int 65), (.int 77), (.int 76), (.int 58), (.int 50), (.int 46), (.int 48), (.int 0), (.int 0), (.int 0), (.int 0), (.int 0), (.int 0), (.int 0), (.int 0), (.int 0), (.int 0), (.int 0), (.int 0), (.int 0), (.int 0), (.int 0), (.int 0), (.int 0), (.int 0), (.int 0), (.int 0), (.int 0), (.int 0), (.int 0), (.int 0), (.int 0)] (.int 0) := Arv.set Ar28 q28 S28 N28' H28 G28' (fits_nar_char _) W28 26 rfl (Nat.le_of_ble_eq_true rfl)
  replace G := o_nxs (q := 160) (st := [(.ref b1)]) G st28 rfl
  replace G := o_dup (q := 161) G X28.here hx (hb hby d1_160) rfl rfl
  replace G := o_bipush (q := 163) G X28.here hx (hb hby d1_161) (v := (27 : Int32)) (by decide) rfl
  replace G := o_bipush (q := 165) G X28.here hx (hb hby d1_163) (v := (58 : Int32)) (by decide) rfl
  obtain ⟨c29, Ar29, q29, S29, N29', H29, G29'⟩ := id V28
  have hin29 : ¬ ((27 : Int32) < 0 ∨ c29.slots.size ≤ ((27 : Int32)).toNatClampNeg) := inb_of S29 ⟨by decide, by decide⟩
  obtain ⟨T29, h29, X29, e29, W29, st29⟩ := stC X28 hx hZ e28 Ar29 (j := (27 : Int32)) hin29 (g := o_g G) rfl rfl (hb hby d1_165)
  have N29 := Fr.snoc X29 N28 ge_b1
  have Z29 : n0 ≤ h29.size := Nat.le_trans Z28 (Keep.of_wr W29).1
  have K29 : Keep h0 h29 [] := K28.wr W29 (Or.inr sz_b1)
  have V29 : Arv Z h29 b1 k1 .char (52 : Int32) [(.int 117), (.int 114), (.int 110), (.int 58), (.int 111), (.int 97), (.int 115), (.int 105), (.int 115), (.int 58), (.int 110), (.int 97), (.int 109), (.int 101), (.int 115), (.int 58), (.int 116), (.int 99), (.int 58), (.int 83), (.int 65), (.int 77), (.int 76), (.int 58), (.int 50), (.int 46), (.int 48), (.int 58), (.int 0), (.int 0), (.int 0), (.int 0), (.int 0), (.int 0), (.int 0), (.int 0), (.int 0), (.int 0), (.int 0), (.int 0), (.int 0), (.int 0), (.int 0), (.int 0), (.int 0), (.int 0), (.int 0), (.int 0), (.int 0), (.int 0), (.int 0), (.int 0)] (.int 0) := Arv.set Ar29 q29 S29 N29' H29 G29' (fits_nar_char _) W29 27 rfl (Nat.le_of_ble_eq_true rfl)
  replace G := o_nxs (q := 166) (st := [(.ref b1)]) G st29 rfl
  replace G := o_dup (q := 167) G X29.here hx (hb hby d1_166) rfl rfl
  replace G := o_bipush (q := 169) G X29.here hx (hb hby d1_167) (v := (28 : Int32)) (by decide) rfl
  replace G := o_bipush (q := 171) G X29.here hx (hb hby d1_169) (v := (110 : Int32)) (by decide) rfl
  obtain ⟨c30, Ar30, q30, S30, N30', H30, G30'⟩ := id V29
  have hin30 : ¬ ((28 : Int32) < 0 ∨ c30.slots.size ≤ ((28 : Int32)).toNatClampNeg) := inb_of S30 ⟨by decide, by decide⟩
  obtain ⟨T30, h30, X30, e30, W30, st30⟩ := stC X29 hx hZ e29 Ar30 (j := (28 : Int32)) hin30 (g := o_g G) rfl rfl (hb hby d1_171)
  have N30 := Fr.snoc X30 N29 ge_b1
  have Z30 : n0 ≤ h30.size := Nat.le_trans Z29 (Keep.of_wr W30).1
  have K30 : Keep h0 h30 [] := K29.wr W30 (Or.inr sz_b1)
  have V30 : Arv Z h30 b1 k1 .char (52 : Int32) [(.int 117), (.int 114), (.int 110), (.int 58), (.int 111), (.int 97), (.int 115), (.int 105), (.int 115), (.int 58), (.int 110), (.int 97), (.int 109), (.int 101), (.int 115), (.int 58), (.int 116), (.int 99), (.int 58), (.int 83), (.int 65), (.int 77), (.int 76), (.int 58), (.int 50), (.int 46), (.int 48), (.int 58), (.int 110), (.int 0), (.int 0), (.int 0), (.int 0), (.int 0), (.int 0), (.int 0), (.int 0), (.int 0), (.int 0), (.int 0), (.int 0), (.int 0), (.int 0), (.int 0), (.int 0), (.int 0), (.int 0), (.int 0), (.int 0), (.int 0), (.int 0), (.int 0)] (.int 0) := Arv.set Ar30 q30 S30 N30' H30 G30' (fits_nar_char _) W30 28 rfl (Nat.le_of_ble_eq_true rfl)
  replace G := o_nxs (q := 172) (st := [(.ref b1)]) G st30 rfl
  replace G := o_dup (q := 173) G X30.here hx (hb hby d1_172) rfl rfl
  replace G := o_bipush (q := 175) G X30.here hx (hb hby d1_173) (v := (29 : Int32)) (by decide) rfl
  replace G := o_bipush (q := 177) G X30.here hx (hb hby d1_175) (v := (97 : Int32)) (by decide) rfl
  obtain ⟨c31, Ar31, q31, S31, N31', H31, G31'⟩ := id V30
  have hin31 : ¬ ((29 : Int32) < 0 ∨ c31.slots.size ≤ ((29 : Int32)).toNatClampNeg) := inb_of S31 ⟨by decide, by decide⟩
  obtain ⟨T31, h31, X31, e31, W31, st31⟩ := stC X30 hx hZ e30 Ar31 (j := (29 : Int32)) hin31 (g := o_g G) rfl rfl (hb hby d1_177)
  have N31 := Fr.snoc X31 N30 ge_b1
  have Z31 : n0 ≤ h31.size := Nat.le_trans Z30 (Keep.of_wr W31).1
  have K31 : Keep h0 h31 [] := K30.wr W31 (Or.inr sz_b1)
  have V31 : Arv Z h31 b1 k1 .char (52 : Int32) [(.int 117), (.int 114), (.int 110), (.int 58), (.int 111), (.int 97), (.int 115), (.int 105), (.int 115), (.int 58), (.int 110), (.int 97), (.int 109), (.int 101), (.int 115), (.int 58), (.int 116), (.int 99), (.int 58), (.int 83), (.int 65), (.int 77), (.int 76), (.int 58), (.int 50), (.int 46), (.int 48), (.int 58), (.int 110), (.int 97), (.int 0), (.int 0), (.int 0), (.int 0), (.int 0), (.int 0), (.int 0), (.int 0), (.int 0), (.int 0), (.int 0), (.int 0), (.int 0), (.int 0), (.int 0), (.int 0), (.int 0), (.int 0), (.int 0), (.int 0), (.int 0), (.int 0)] (.int 0) := Arv.set Ar31 q31 S31 N31' H31 G31' (fits_nar_char _) W31 29 rfl (Nat.le_of_ble_eq_true rfl)
  replace G := o_nxs (q := 178) (st := [(.ref b1)]) G st31 rfl
  replace G := o_dup (q := 179) G X31.here hx (hb hby d1_178) rfl rfl
  replace G := o_bipush (q := 181) G X31.here hx (hb hby d1_179) (v := (30 : Int32)) (by decide) rfl
  replace G := o_bipush (q := 183) G X31.here hx (hb hby d1_181) (v := (109 : Int32)) (by decide) rfl
  obtain ⟨c32, Ar32, q32, S32, N32', H32, G32'⟩ := id V31
  have hin32 : ¬ ((30 : Int32) < 0 ∨ c32.slots.size ≤ ((30 : Int32)).toNatClampNeg) := inb_of S32 ⟨by decide, by decide⟩
  obtain ⟨T32, h32, X32, e32, W32, st32⟩ := stC X31 hx hZ e31 Ar32 (j := (30 : Int32)) hin32 (g := o_g G) rfl rfl (hb hby d1_183)
  have N32 := Fr.snoc X32 N31 ge_b1
  have Z32 : n0 ≤ h32.size := Nat.le_trans Z31 (Keep.of_wr W32).1
  have K32 : Keep h0 h32 [] := K31.wr W32 (Or.inr sz_b1)
  have V32 : Arv Z h32 b1 k1 .char (52 : Int32) [(.int 117), (.int 114), (.int 110), (.int 58), (.int 111), (.int 97), (.int 115), (.int 105), (.int 115), (.int 58), (.int 110), (.int 97), (.int 109), (.int 101), (.int 115), (.int 58), (.int 116), (.int 99), (.int 58), (.int 83), (.int 65), (.int 77), (.int 76), (.int 58), (.int 50), (.int 46), (.int 48), (.int 58), (.int 110), (.int 97), (.int 109), (.int 0), (.int 0), (.int 0), (.int 0), (.int 0), (.int 0), (.int 0), (.int 0), (.int 0), (.int 0), (.int 0), (.int 0), (.int 0), (.int 0), (.int 0), (.int 0), (.int 0), (.int 0), (.int 0), (.int 0), (.int 0)] (.int 0) := Arv.set Ar32 q32 S32 N32' H32 G32' (fits_nar_char _) W32 30 rfl (Nat.le_of_ble_eq_true rfl)
  replace G := o_nxs (q := 184) (st := [(.ref b1)]) G st32 rfl
  replace G := o_dup (q := 185) G X32.here hx (hb hby d1_184) rfl rfl
  replace G := o_bipush (q := 187) G X32.here hx (hb hby d1_185) (v := (31 : Int32)) (by decide) rfl
  replace G := o_bipush (q := 189) G X32.here hx (hb hby d1_187) (v := (101 : Int32)) (by decide) rfl
  obtain ⟨c33, Ar33, q33, S33, N33', H33, G33'⟩ := id V32
  have hin33 : ¬ ((31 : Int32) < 0 ∨ c33.slots.size ≤ ((31 : Int32)).toNatClampNeg) := inb_of S33 ⟨by decide, by decide⟩
  obtain ⟨T33, h33, X33, e33, W33, st33⟩ := stC X32 hx hZ e32 Ar33 (j := (31 : Int32)) hin33 (g := o_g G) rfl rfl (hb hby d1_189)
  have N33 := Fr.snoc X33 N32 ge_b1
  have Z33 : n0 ≤ h33.size := Nat.le_trans Z32 (Keep.of_wr W33).1
  have K33 : Keep h0 h33 [] := K32.wr W33 (Or.inr sz_b1)
  have V33 : Arv Z h33 b1 k1 .char (52 : Int32) [(.int 117), (.int 114), (.int 110), (.int 58), (.int 111), (.int 97), (.int 115), (.int 105), (.int 115), (.int 58), (.int 110), (.int 97), (.int 109), (.int 101), (.int 115), (.int 58), (.int 116), (.int 99), (.int 58), (.int 83), (.int 65), (.int 77), (.int 76), (.int 58), (.int 50), (.int 46), (.int 48), (.int 58), (.int 110), (.int 97), (.int 109), (.int 101), (.int 0), (.int 0), (.int 0), (.int 0), (.int 0), (.int 0), (.int 0), (.int 0), (.int 0), (.int 0), (.int 0), (.int 0), (.int 0), (.int 0), (.int 0), (.int 0), (.int 0), (.int 0), (.int 0), (.int 0)] (.int 0) := Arv.set Ar33 q33 S33 N33' H33 G33' (fits_nar_char _) W33 31 rfl (Nat.le_of_ble_eq_true rfl)
  replace G := o_nxs (q := 190) (st := [(.ref b1)]) G st33 rfl
  replace G := o_dup (q := 191) G X33.here hx (hb hby d1_190) rfl rfl
  replace G := o_bipush (q := 193) G X33.here hx (hb hby d1_191) (v := (32 : Int32)) (by decide) rfl
  replace G := o_bipush (q := 195) G X33.here hx (hb hby d1_193) (v := (105 : Int32)) (by decide) rfl
  obtain ⟨c34, Ar34, q34, S34, N34', H34, G34'⟩ := id V33
  have hin34 : ¬ ((32 : Int32) < 0 ∨ c34.slots.size ≤ ((32 : Int32)).toNatClampNeg) := inb_of S34 ⟨by decide, by decide⟩
  obtain ⟨T34, h34, X34, e34, W34, st34⟩ := stC X33 hx hZ e33 Ar34 (j := (32 : Int32)) hin34 (g := o_g G) rfl rfl (hb hby d1_195)
  have N34 := Fr.snoc X34 N33 ge_b1
  have Z34 : n0 ≤ h34.size := Nat.le_trans Z33 (Keep.of_wr W34).1
  have K34 : Keep h0 h34 [] := K33.wr W34 (Or.inr sz_b1)
  have V34 : Arv Z h34 b1 k1 .char (52 : Int32) [(.int 117), (.int 114), (.int 110), (.int 58), (.int 111), (.int 97), (.int 115), (.int 105), (.int 115), (.int 58), (.int 110), (.int 97), (.int 109), (.int 101), (.int 115), (.int 58), (.int 116), (.int 99), (.int 58), (.int 83), (.int 65), (.int 77), (.int 76), (.int 58), (.int 50), (.int 46), (.int 48), (.int 58), (.int 110), (.int 97), (.int 109), (.int 101), (.int 105), (.int 0), (.int 0), (.int 0), (.int 0), (.int 0), (.int 0), (.int 0), (.int 0), (.int 0), (.int 0), (.int 0), (.int 0), (.int 0), (.int 0), (.int 0), (.int 0), (.int 0), (.int 0), (.int 0)] (.int 0) := Arv.set Ar34 q34 S34 N34' H34 G34' (fits_nar_char _) W34 32 rfl (Nat.le_of_ble_eq_true rfl)
  replace G := o_nxs (q := 196) (st := [(.ref b1)]) G st34 rfl
  replace G := o_dup (q := 197) G X34.here hx (hb hby d1_196) rfl rfl
  replace G := o_bipush (q := 199) G X34.here hx (hb hby d1_197) (v := (33 : Int32)) (by decide) rfl
  replace G := o_bipush (q := 201) G X34.here hx (hb hby d1_199) (v := (100 : Int32)) (by decide) rfl
  obtain ⟨c35, Ar35, q35, S35, N35', H35, G35'⟩ := id V34
  have hin35 : ¬ ((33 : Int32) < 0 ∨ c35.slots.size ≤ ((33 : Int32)).toNatClampNeg) := inb_of S35 ⟨by decide, by decide⟩
  obtain ⟨T35, h35, X35, e35, W35, st35⟩ := stC X34 hx hZ e34 Ar35 (j := (33 : Int32)) hin35 (g := o_g G) rfl rfl (hb hby d1_201)
  have N35 := Fr.snoc X35 N34 ge_b1
  have Z35 : n0 ≤ h35.size := Nat.le_trans Z34 (Keep.of_wr W35).1
  have K35 : Keep h0 h35 [] := K34.wr W35 (Or.inr sz_b1)
  have V35 : Arv Z h35 b1 k1 .char (52 : Int32) [(.int 117), (.int 114), (.int 110), (.int 58), (.int 111), (.int 97), (.int 115), (.int 105), (.int 115), (.int 58), (.int 110), (.int 97), (.int 109), (.int 101), (.int 115), (.int 58), (.int 116), (.int 99), (.int 58), (.int 83), (.int 65), (.int 77), (.int 76), (.int 58), (.int 50), (.int 46), (.int 48), (.int 58), (.int 110), (.int 97), (.int 109), (.int 101), (.int 105), (.int 100), (.int 0), (.int 0), (.int 0), (.int 0), (.int 0), (.int 0), (.int 0), (.int 0), (.int 0), (.int 0), (.int 0), (.int 0), (.int 0), (.int 0), (.int 0), (.int 0), (.int 0), (.int 0)] (.int 0) := Arv.set Ar35 q35 S35 N35' H35 G35' (fits_nar_char _) W35 33 rfl (Nat.le_of_ble_eq_true rfl)
  replace G := o_nxs (q := 202) (st := [(.ref b1)]) G st35 rfl
  replace G := o_dup (q := 203) G X35.here hx (hb hby d1_202) rfl rfl
  replace G := o_bipush (q := 205) G X35.here hx (hb hby d1_203) (v := (34 : Int32)) (by decide) rfl
  replace G := o_bipush (q := 207) G X35.here hx (hb hby d1_205) (v := (45 : Int32)) (by decide) rfl
  obtain ⟨c36, Ar36, q36, S36, N36', H36, G36'⟩ := id V35
  have hin36 : ¬ ((34 : Int32) < 0 ∨ c36.slots.size ≤ ((34 : Int32)).toNatClampNeg) := inb_of S36 ⟨by decide, by decide⟩
  obtain ⟨T36, h36, X36, e36, W36, st36⟩ := stC X35 hx hZ e35 Ar36 (j := (34 : Int32)) hin36 (g := o_g G) rfl rfl (hb hby d1_207)
  have N36 := Fr.snoc X36 N35 ge_b1
  have Z36 : n0 ≤ h36.size := Nat.le_trans Z35 (Keep.of_wr W36).1
  have K36 : Keep h0 h36 [] := K35.wr W36 (Or.inr sz_b1)
  have V36 : Arv Z h36 b1 k1 .char (52 : Int32) [(.int 117), (.int 114), (.int 110), (.int 58), (.int 111), (.int 97), (.int 115), (.int 105), (.int 115), (.int 58), (.int 110), (.int 97), (.int 109), (.int 101), (.int 115), (.int 58), (.int 116), (.int 99), (.int 58), (.int 83), (.int 65), (.int 77), (.int 76), (.int 58), (.int 50), (.int 46), (.int 48), (.int 58), (.int 110), (.int 97), (.int 109), (.int 101), (.int 105), (.int 100), (.int 45), (.int 0), (.int 0), (.int 0), (.int 0), (.int 0), (.int 0), (.int 0), (.int 0), (.int 0), (.int 0), (.int 0), (.int 0), (.int 0), (.int 0), (.int 0), (.int 0), (.int 0)] (.int 0) := Arv.set Ar36 q36 S36 N36' H36 G36' (fits_nar_char _) W36 34 rfl (Nat.le_of_ble_eq_true rfl)
  replace G := o_nxs (q := 208) (st := [(.ref b1)]) G st36 rfl
  replace G := o_dup (q := 209) G X36.here hx (hb hby d1_208) rfl rfl
  replace G := o_bipush (q := 211) G X36.here hx (hb hby d1_209) (v := (35 : Int32)) (by decide) rfl
  replace G := o_bipush (q := 213) G X36.here hx (hb hby d1_211) (v := (102 : Int32)) (by decide) rfl
  obtain ⟨c37, Ar37, q37, S37, N37', H37, G37'⟩ := id V36
  have hin37 : ¬ ((35 : Int32) < 0 ∨ c37.slots.size ≤ ((35 : Int32)).toNatClampNeg) := inb_of S37 ⟨by decide, by decide⟩
  obtain ⟨T37, h37, X37, e37, W37, st37⟩ := stC X36 hx hZ e36 Ar37 (j := (35 : Int32)) hin37 (g := o_g G) rfl rfl (hb hby d1_213)
  have N37 := Fr.snoc X37 N36 ge_b1
  have Z37 : n0 ≤ h37.size := Nat.le_trans Z36 (Keep.of_wr W37).1
  have K37 : Keep h0 h37 [] := K36.wr W37 (Or.inr sz_b1)
  have V37 : Arv Z h37 b1 k1 .char (52 : Int32) [(.int 117), (.int 114), (.int 110), (.int 58), (.int 111), (.int 97), (.int 115), (.int 105), (.int 115), (.int 58), (.int 110), (.int 97), (.int 109), (.int 101), (.int 115), (.int 58), (.int 116), (.int 99), (.int 58), (.int 83), (.int 65), (.int 77), (.int 76), (.int 58), (.int 50), (.int 46), (.int 48), (.int 58), (.int 110), (.int 97), (.int 109), (.int 101), (.int 105), (.int 100), (.int 45), (.int 102), (.int 0), (.int 0), (.int 0), (.int 0), (.int 0), (.int 0), (.int 0), (.int 0), (.int 0), (.int 0), (.int 0), (.int 0), (.int 0), (.int 0), (.int 0), (.int 0)] (.int 0) := Arv.set Ar37 q37 S37 N37' H37 G37' (fits_nar_char _) W37 35 rfl (Nat.le_of_ble_eq_true rfl)
  replace G := o_nxs (q := 214) (st := [(.ref b1)]) G st37 rfl
  replace G := o_dup (q := 215) G X37.here hx (hb hby d1_214) rfl rfl
  replace G := o_bipush (q := 217) G X37.here hx (hb hby d1_215) (v := (36 : Int32)) (by decide) rfl
  replace G := o_bipush (q := 219) G X37.here hx (hb hby d1_217) (v := (111 : Int32)) (by decide) rfl
  obtain ⟨c38, Ar38, q38, S38, N38', H38, G38'⟩ := id V37
  have hin38 : ¬ ((36 : Int32) < 0 ∨ c38.slots.size ≤ ((36 : Int32)).toNatClampNeg) := inb_of S38 ⟨by decide, by decide⟩
  obtain ⟨T38, h38, X38, e38, W38, st38⟩ := stC X37 hx hZ e37 Ar38 (j := (36 : Int32)) hin38 (g := o_g G) rfl rfl (hb hby d1_219)
  have N38 := Fr.snoc X38 N37 ge_b1
  have Z38 : n0 ≤ h38.size := Nat.le_trans Z37 (Keep.of_wr W38).1
  have K38 : Keep h0 h38 [] := K37.wr W38 (Or.inr sz_b1)
  have V38 : Arv Z h38 b1 k1 .char (52 : Int32) [(.int 117), (.int 114), (.int 110), (.int 58), (.int 111), (.int 97), (.int 115), (.int 105), (.int 115), (.int 58), (.int 110), (.int 97), (.int 109), (.int 101), (.int 115), (.int 58), (.int 116), (.int 99), (.int 58), (.int 83), (.int 65), (.int 77), (.int 76), (.int 58), (.int 50), (.int 46), (.int 48), (.int 58), (.int 110), (.int 97), (.int 109), (.int 101), (.int 105), (.int 100), (.int 45), (.int 102), (.int 111), (.int 0), (.int 0), (.int 0), (.int 0), (.int 0), (.int 0), (.int 0), (.int 0), (.int 0), (.int 0), (.int 0), (.int 0), (.int 0), (.int 0), (.int 0)] (.int 0) := Arv.set Ar38 q38 S38 N38' H38 G38' (fits_nar_char _) W38 36 rfl (Nat.le_of_ble_eq_true rfl)
  replace G := o_nxs (q := 220) (st := [(.ref b1)]) G st38 rfl
  replace G := o_dup (q := 221) G X38.here hx (hb hby d1_220) rfl rfl
  replace G := o_bipush (q := 223) G X38.here hx (hb hby d1_221) (v := (37 : Int32)) (by decide) rfl
  replace G := o_bipush (q := 225) G X38.here hx (hb hby d1_223) (v := (114 : Int32)) (by decide) rfl
  obtain ⟨c39, Ar39, q39, S39, N39', H39, G39'⟩ := id V38
  have hin39 : ¬ ((37 : Int32) < 0 ∨ c39.slots.size ≤ ((37 : Int32)).toNatClampNeg) := inb_of S39 ⟨by decide, by decide⟩
  obtain ⟨T39, h39, X39, e39, W39, st39⟩ := stC X38 hx hZ e38 Ar39 (j := (37 : Int32)) hin39 (g := o_g G) rfl rfl (hb hby d1_225)
  have N39 := Fr.snoc X39 N38 ge_b1
  have Z39 : n0 ≤ h39.size := Nat.le_trans Z38 (Keep.of_wr W39).1
  have K39 : Keep h0 h39 [] := K38.wr W39 (Or.inr sz_b1)
  have V39 : Arv Z h39 b1 k1 .char (52 : Int32) [(.int 117), (.int 114), (.int 110), (.int 58), (.int 111), (.int 97), (.int 115), (.int 105), (.int 115), (.int 58), (.int 110), (.int 97), (.int 109), (.int 101), (.int 115), (.int 58), (.int 116), (.int 99), (.int 58), (.int 83), (.int 65), (.int 77), (.int 76), (.int 58), (.int 50), (.int 46), (.int 48), (.int 58), (.int 110), (.int 97), (.int 109), (.int 101), (.int 105), (.int 100), (.int 45), (.int 102), (.int 111), (.int 114), (.int 0), (.int 0), (.int 0), (.int 0), (.int 0), (.int 0), (.int 0), (.int 0), (.int 0), (.int 0), (.int 0), (.int 0), (.int 0), (.int 0)] (.int 0) := Arv.set Ar39 q39 S39 N39' H39 G39' (fits_nar_char _) W39 37 rfl (Nat.le_of_ble_eq_true rfl)
  replace G := o_nxs (q := 226) (st := [(.ref b1)]) G st39 rfl
  replace G := o_dup (q := 227) G X39.here hx (hb hby d1_226) rfl rfl
  replace G := o_bipush (q := 229) G X39.here hx (hb hby d1_227) (v := (38 : Int32)) (by decide) rfl
  replace G := o_bipush (q := 231) G X39.here hx (hb hby d1_229) (v := (109 : Int32)) (by decide) rfl
  obtain ⟨c40, Ar40, q40, S40, N40', H40, G40'⟩ := id V39
  have hin40 : ¬ ((38 : Int32) < 0 ∨ c40.slots.size ≤ ((38 : Int32)).toNatClampNeg) := inb_of S40 ⟨by decide, by decide⟩
  obtain ⟨T40, h40, X40, e40, W40, st40⟩ := stC X39 hx hZ e39 Ar40 (j := (38 : Int32)) hin40 (g := o_g G) rfl rfl (hb hby d1_231)
  have N40 := Fr.snoc X40 N39 ge_b1
  have Z40 : n0 ≤ h40.size := Nat.le_trans Z39 (Keep.of_wr W40).1
  have K40 : Keep h0 h40 [] := K39.wr W40 (Or.inr sz_b1)
  have V40 : Arv Z h40 b1 k1 .char (52 : Int32) [(.int 117), (.int 114), (.int 110), (.int 58), (.int 111), (.int 97), (.int 115), (.int 105), (.int 115), (.int 58), (.int 110), (.int 97), (.int 109), (.int 101), (.int 115), (.int 58), (.int 116), (.int 99), (.int 58), (.int 83), (.int 65), (.int 77), (.int 76), (.int 58), (.int 50), (.int 46), (.int 48), (.int 58), (.int 110), (.int 97), (.int 109), (.int 101), (.int 105), (.int 100), (.int 45), (.int 102), (.int 111), (.int 114), (.int 109), (.int 0), (.int 0), (.int 0), (.int 0), (.int 0), (.int 0), (.int 0), (.int 0), (.int 0), (.int 0), (.int 0), (.int 0), (.int 0)] (.int 0) := Arv.set Ar40 q40 S40 N40' H40 G40' (fits_nar_char _) W40 38 rfl (Nat.le_of_ble_eq_true rfl)
  replace G := o_nxs (q := 232) (st := [(.ref b1)]) G st40 rfl
  replace G := o_dup (q := 233) G X40.here hx (hb hby d1_232) rfl rfl
  replace G := o_bipush (q := 235) G X40.here hx (hb hby d1_233) (v := (39 : Int32)) (by decide) rfl
  replace G := o_bipush (q := 237) G X40.here hx (hb hby d1_235) (v := (97 : Int32)) (by decide) rfl
  obtain ⟨c41, Ar41, q41, S41, N41', H41, G41'⟩ := id V40
  have hin41 : ¬ ((39 : Int32) < 0 ∨ c41.slots.size ≤ ((39 : Int32)).toNatClampNeg) := inb_of S41 ⟨by decide, by decide⟩
  obtain ⟨T41, h41, X41, e41, W41, st41⟩ := stC X40 hx hZ e40 Ar41 (j := (39 : Int32)) hin41 (g := o_g G) rfl rfl (hb hby d1_237)
  have N41 := Fr.snoc X41 N40 ge_b1
  have Z41 : n0 ≤ h41.size := Nat.le_trans Z40 (Keep.of_wr W41).1
  have K41 : Keep h0 h41 [] := K40.wr W41 (Or.inr sz_b1)
  have V41 : Arv Z h41 b1 k1 .char (52 : Int32) [(.int 117), (.int 114), (.int 110), (.int 58), (.int 111), (.int 97), (.int 115), (.int 105), (.int 115), (.int 58), (.int 110), (.int 97), (.int 109), (.int 101), (.int 115), (.int 58), (.int 116), (.int 99), (.int 58), (.int 83), (.int 65), (.int 77), (.int 76), (.int 58), (.int 50), (.int 46), (.int 48), (.int 58), (.int 110), (.int 97), (.int 109), (.int 101), (.int 105), (.int 100), (.int 45), (.int 102), (.int 111), (.int 114), (.int 109), (.int 97), (.int 0), (.int 0), (.int 0), (.int 0), (.int 0), (.int 0), (.int 0), (.int 0), (.int 0), (.int 0), (.int 0), (.int 0)] (.int 0) := Arv.set Ar41 q41 S41 N41' H41 G41' (fits_nar_char _) W41 39 rfl (Nat.le_of_ble_eq_true rfl)
  replace G := o_nxs (q := 238) (st := [(.ref b1)]) G st41 rfl
  replace G := o_dup (q := 239) G X41.here hx (hb hby d1_238) rfl rfl
  replace G := o_bipush (q := 241) G X41.here hx (hb hby d1_239) (v := (40 : Int32)) (by decide) rfl
  replace G := o_bipush (q := 243) G X41.here hx (hb hby d1_241) (v := (116 : Int32)) (by decide) rfl
  obtain ⟨c42, Ar42, q42, S42, N42', H42, G42'⟩ := id V41
  have hin42 : ¬ ((40 : Int32) < 0 ∨ c42.slots.size ≤ ((40 : Int32)).toNatClampNeg) := inb_of S42 ⟨by decide, by decide⟩
  obtain ⟨T42, h42, X42, e42, W42, st42⟩ := stC X41 hx hZ e41 Ar42 (j := (40 : Int32)) hin42 (g := o_g G) rfl rfl (hb hby d1_243)
  have N42 := Fr.snoc X42 N41 ge_b1
  have Z42 : n0 ≤ h42.size := Nat.le_trans Z41 (Keep.of_wr W42).1
  have K42 : Keep h0 h42 [] := K41.wr W42 (Or.inr sz_b1)
  have V42 : Arv Z h42 b1 k1 .char (52 : Int32) [(.int 117), (.int 114), (.int 110), (.int 58), (.int 111), (.int 97), (.int 115), (.int 105), (.int 115), (.int 58), (.int 110), (.int 97), (.int 109), (.int 101), (.int 115), (.int 58), (.int 116), (.int 99), (.int 58), (.int 83), (.int 65), (.int 77), (.int 76), (.int 58), (.int 50), (.int 46), (.int 48), (.int 58), (.int 110), (.int 97), (.int 109), (.int 101), (.int 105), (.int 100), (.int 45), (.int 102), (.int 111), (.int 114), (.int 109), (.int 97), (.int 116), (.int 0), (.int 0), (.int 0), (.int 0), (.int 0), (.int 0), (.int 0), (.int 0), (.int 0), (.int 0), (.int 0)] (.int 0) := Arv.set Ar42 q42 S42 N42' H42 G42' (fits_nar_char _) W42 40 rfl (Nat.le_of_ble_eq_true rfl)
  replace G := o_nxs (q := 244) (st := [(.ref b1)]) G st42 rfl
  replace G := o_dup (q := 245) G X42.here hx (hb hby d1_244) rfl rfl
  replace G := o_bipush (q := 247) G X42.here hx (hb hby d1_245) (v := (41 : Int32)) (by decide) rfl
  replace G := o_bipush (q := 249) G X42.here hx (hb hby d1_247) (v := (58 : Int32)) (by decide) rfl
  obtain ⟨c43, Ar43, q43, S43, N43', H43, G43'⟩ := id V42
  have hin43 : ¬ ((41 : Int32) < 0 ∨ c43.slots.size ≤ ((41 : Int32)).toNatClampNeg) := inb_of S43 ⟨by decide, by decide⟩
  obtain ⟨T43, h43, X43, e43, W43, st43⟩ := stC X42 hx hZ e42 Ar43 (j := (41 : Int32)) hin43 (g := o_g G) rfl rfl (hb hby d1_249)
  have N43 := Fr.snoc X43 N42 ge_b1
  have Z43 : n0 ≤ h43.size := Nat.le_trans Z42 (Keep.of_wr W43).1
  have K43 : Keep h0 h43 [] := K42.wr W43 (Or.inr sz_b1)
  have V43 : Arv Z h43 b1 k1 .char (52 : Int32) [(.int 117), (.int 114), (.int 110), (.int 58), (.int 111), (.int 97), (.int 115), (.int 105), (.int 115), (.int 58), (.int 110), (.int 97), (.int 109), (.int 101), (.int 115), (.int 58), (.int 116), (.int 99), (.int 58), (.int 83), (.int 65), (.int 77), (.int 76), (.int 58), (.int 50), (.int 46), (.int 48), (.int 58), (.int 110), (.int 97), (.int 109), (.int 101), (.int 105), (.int 100), (.int 45), (.int 102), (.int 111), (.int 114), (.int 109), (.int 97), (.int 116), (.int 58), (.int 0), (.int 0), (.int 0), (.int 0), (.int 0), (.int 0), (.int 0), (.int 0), (.int 0), (.int 0)] (.int 0) := Arv.set Ar43 q43 S43 N43' H43 G43' (fits_nar_char _) W43 41 rfl (Nat.le_of_ble_eq_true rfl)
  replace G := o_nxs (q := 250) (st := [(.ref b1)]) G st43 rfl
  replace G := o_dup (q := 251) G X43.here hx (hb hby d1_250) rfl rfl
  replace G := o_bipush (q := 253) G X43.here hx (hb hby d1_251) (v := (42 : Int32)) (by decide) rfl
  replace G := o_bipush (q := 255) G X43.here hx (hb hby d1_253) (v := (112 : Int32)) (by decide) rfl
  obtain ⟨c44, Ar44, q44, S44, N44', H44, G44'⟩ := id V43
  have hin44 : ¬ ((42 : Int32) < 0 ∨ c44.slots.size ≤ ((42 : Int32)).toNatClampNeg) := inb_of S44 ⟨by decide, by decide⟩
  obtain ⟨T44, h44, X44, e44, W44, st44⟩ := stC X43 hx hZ e43 Ar44 (j := (42 : Int32)) hin44 (g := o_g G) rfl rfl (hb hby d1_255)
  have N44 := Fr.snoc X44 N43 ge_b1
  have Z44 : n0 ≤ h44.size := Nat.le_trans Z43 (Keep.of_wr W44).1
  have K44 : Keep h0 h44 [] := K43.wr W44 (Or.inr sz_b1)
  have V44 : Arv Z h44 b1 k1 .char (52 : Int32) [(.int 117), (.int 114), (.int 110), (.int 58), (.int 111), (.int 97), (.int 115), (.int 105), (.int 115), (.int 58), (.int 110), (.int 97), (.int 109), (.int 101), (.int 115), (.int 58), (.int 116), (.int 99), (.int 58), (.int 83), (.int 65), (.int 77), (.int 76), (.int 58), (.int 50), (.int 46), (.int 48), (.int 58), (.int 110), (.int 97), (.int 109), (.int 101), (.int 105), (.int 100), (.int 45), (.int 102), (.int 111), (.int 114), (.int 109), (.int 97), (.int 116), (.int 58), (.int 112), (.int 0), (.int 0), (.int 0), (.int 0), (.int 0), (.int 0), (.int 0), (.int 0), (.int 0)] (.int 0) := Arv.set Ar44 q44 S44 N44' H44 G44' (fits_nar_char _) W44 42 rfl (Nat.le_of_ble_eq_true rfl)
  replace G := o_nxs (q := 256) (st := [(.ref b1)]) G st44 rfl
  replace G := o_dup (q := 257) G X44.here hx (hb hby d1_256) rfl rfl
  replace G := o_bipush (q := 259) G X44.here hx (hb hby d1_257) (v := (43 : Int32)) (by decide) rfl
  replace G := o_bipush (q := 261) G X44.here hx (hb hby d1_259) (v := (101 : Int32)) (by decide) rfl
  obtain ⟨c45, Ar45, q45, S45, N45', H45, G45'⟩ := id V44
  have hin45 : ¬ ((43 : Int32) < 0 ∨ c45.slots.size ≤ ((43 : Int32)).toNatClampNeg) := inb_of S45 ⟨by decide, by decide⟩
  obtain ⟨T45, h45, X45, e45, W45, st45⟩ := stC X44 hx hZ e44 Ar45 (j := (43 : Int32)) hin45 (g := o_g G) rfl rfl (hb hby d1_261)
  have N45 := Fr.snoc X45 N44 ge_b1
  have Z45 : n0 ≤ h45.size := Nat.le_trans Z44 (Keep.of_wr W45).1
  have K45 : Keep h0 h45 [] := K44.wr W45 (Or.inr sz_b1)
  have V45 : Arv Z h45 b1 k1 .char (52 : Int32) [(.int 117), (.int 114), (.int 110), (.int 58), (.int 111), (.int 97), (.int 115), (.int 105), (.int 115), (.int 58), (.int 110), (.int 97), (.int 109), (.int 101), (.int 115), (.int 58), (.int 116), (.int 99), (.int 58), (.int 83), (.int 65), (.int 77), (.int 76), (.int 58), (.int 50), (.int 46), (.int 48), (.int 58), (.int 110), (.int 97), (.int 109), (.int 101), (.int 105), (.int 100), (.int 45), (.int 102), (.int 111), (.int 114), (.int 109), (.int 97), (.int 116), (.int 58), (.int 112), (.int 101), (.int 0), (.int 0), (.int 0), (.int 0), (.int 0), (.int 0), (.int 0), (.int 0)] (.int 0) := Arv.set Ar45 q45 S45 N45' H45 G45' (fits_nar_char _) W45 43 rfl (Nat.le_of_ble_eq_true rfl)
  replace G := o_nxs (q := 262) (st := [(.ref b1)]) G st45 rfl
  replace G := o_dup (q := 263) G X45.here hx (hb hby d1_262) rfl rfl
  replace G := o_bipush (q := 265) G X45.here hx (hb hby d1_263) (v := (44 : Int32)) (by decide) rfl
  replace G := o_bipush (q := 267) G X45.here hx (hb hby d1_265) (v := (114 : Int32)) (by decide) rfl
  obtain ⟨c46, Ar46, q46, S46, N46', H46, G46'⟩ := id V45
  have hin46 : ¬ ((44 : Int32) < 0 ∨ c46.slots.size ≤ ((44 : Int32)).toNatClampNeg) := inb_of S46 ⟨by decide, by decide⟩
  obtain ⟨T46, h46, X46, e46, W46, st46⟩ := stC X45 hx hZ e45 Ar46 (j := (44 : Int32)) hin46 (g := o_g G) rfl rfl (hb hby d1_267)
  have N46 := Fr.snoc X46 N45 ge_b1
  have Z46 : n0 ≤ h46.size := Nat.le_trans Z45 (Keep.of_wr W46).1
  have K46 : Keep h0 h46 [] := K45.wr W46 (Or.inr sz_b1)
  have V46 : Arv Z h46 b1 k1 .char (52 : Int32) [(.int 117), (.int 114), (.int 110), (.int 58), (.int 111), (.int 97), (.int 115), (.int 105), (.int 115), (.int 58), (.int 110), (.int 97), (.int 109), (.int 101), (.int 115), (.int 58), (.int 116), (.int 99), (.int 58), (.int 83), (.int 65), (.int 77), (.int 76), (.int 58), (.int 50), (.int 46), (.int 48), (.int 58), (.int 110), (.int 97), (.int 109), (.int 101), (.int 105), (.int 100), (.int 45), (.int 102), (.int 111), (.int 114), (.int 109), (.int 97), (.int 116), (.int 58), (.int 112), (.int 101), (.int 114), (.int 0), (.int 0), (.int 0), (.int 0), (.int 0), (.int 0), (.int 0)] (.int 0) := Arv.set Ar46 q46 S46 N46' H46 G46' (fits_nar_char _) W46 44 rfl (Nat.le_of_ble_eq_true rfl)
  replace G := o_nxs (q := 268) (st := [(.ref b1)]) G st46 rfl
  replace G := o_dup (q := 269) G X46.here hx (hb hby d1_268) rfl rfl
  replace G := o_bipush (q := 271) G X46.here hx (hb hby d1_269) (v := (45 : Int32)) (by decide) rfl
  replace G := o_bipush (q := 273) G X46.here hx (hb hby d1_271) (v := (115 : Int32)) (by decide) rfl
  obtain ⟨c47, Ar47, q47, S47, N47', H47, G47'⟩ := id V46
  have hin47 : ¬ ((45 : Int32) < 0 ∨ c47.slots.size ≤ ((45 : Int32)).toNatClampNeg) := inb_of S47 ⟨by decide, by decide⟩
  obtain ⟨T47, h47, X47, e47, W47, st47⟩ := stC X46 hx hZ e46 Ar47 (j := (45 : Int32)) hin47 (g := o_g G) rfl rfl (hb hby d1_273)
  have N47 := Fr.snoc X47 N46 ge_b1
  have Z47 : n0 ≤ h47.size := Nat.le_trans Z46 (Keep.of_wr W47).1
  have K47 : Keep h0 h47 [] := K46.wr W47 (Or.inr sz_b1)
  have V47 : Arv Z h47 b1 k1 .char (52 : Int32) [(.int 117), (.int 114), (.int 110), (.int 58), (.int 111), (.int 97), (.int 115), (.int 105), (.int 115), (.int 58), (.int 110), (.int 97), (.int 109), (.int 101), (.int 115), (.int 58), (.int 116), (.int 99), (.int 58), (.int 83), (.int 65), (.int 77), (.int 76), (.int 58), (.int 50), (.int 46), (.int 48), (.int 58), (.int 110), (.int 97), (.int 109), (.int 101), (.int 105), (.int 100), (.int 45), (.int 102), (.int 111), (.int 114), (.int 109), (.int 97), (.int 116), (.int 58), (.int 112), (.int 101), (.int 114), (.int 115), (.int 0), (.int 0), (.int 0), (.int 0), (.int 0), (.int 0)] (.int 0) := Arv.set Ar47 q47 S47 N47' H47 G47' (fits_nar_char _) W47 45 rfl (Nat.le_of_ble_eq_true rfl)
  replace G := o_nxs (q := 274) (st := [(.ref b1)]) G st47 rfl
  replace G := o_dup (q := 275) G X47.here hx (hb hby d1_274) rfl rfl
  replace G := o_bipush (q := 277) G X47.here hx (hb hby d1_275) (v := (46 : Int32)) (by decide) rfl
  replace G := o_bipush (q := 279) G X47.here hx (hb hby d1_277) (v := (105 : Int32)) (by decide) rfl
  obtain ⟨c48, Ar48, q48, S48, N48', H48, G48'⟩ := id V47
  have hin48 : ¬ ((46 : Int32) < 0 ∨ c48.slots.size ≤ ((46 : Int32)).toNatClampNeg) := inb_of S48 ⟨by decide, by decide⟩
  obtain ⟨T48, h48, X48, e48, W48, st48⟩ := stC X47 hx hZ e47 Ar48 (j := (46 : Int32)) hin48 (g := o_g G) rfl rfl (hb hby d1_279)
  have N48 := Fr.snoc X48 N47 ge_b1
  have Z48 : n0 ≤ h48.size := Nat.le_trans Z47 (Keep.of_wr W48).1
  have K48 : Keep h0 h48 [] := K47.wr W48 (Or.inr sz_b1)
  have V48 : Arv Z h48 b1 k1 .char (52 : Int32) [(.int 117), (.int 114), (.int 110), (.int 58), (.int 111), (.int 97), (.int 115), (.int 105), (.int 115), (.int 58), (.int 110), (.int 97), (.int 109), (.int 101), (.int 115), (.int 58), (.int 116), (.int 99), (.int 58), (.int 83), (.int 65), (.int 77), (.int 76), (.int 58), (.int 50), (.int 46), (.int 48), (.int 58), (.int 110), (.int 97), (.int 109), (.int 101), (.int 105), (.int 100), (.int 45), (.int 102), (.int 111), (.int 114), (.int 109), (.int 97), (.int 116), (.int 58), (.int 112), (.int 101), (.int 114), (.int 115), (.int 105), (.int 0), (.int 0), (.int 0), (.int 0), (.int 0)] (.int 0) := Arv.set Ar48 q48 S48 N48' H48 G48' (fits_nar_char _) W48 46 rfl (Nat.le_of_ble_eq_true rfl)
  replace G := o_nxs (q := 280) (st := [(.ref b1)]) G st48 rfl
  replace G := o_dup (q := 281) G X48.here hx (hb hby d1_280) rfl rfl
  replace G := o_bipush (q := 283) G X48.here hx (hb hby d1_281) (v := (47 : Int32)) (by decide) rfl
  replace G := o_bipush (q := 285) G X48.here hx (hb hby d1_283) (v := (115 : Int32)) (by decide) rfl
  obtain ⟨c49, Ar49, q49, S49, N49', H49, G49'⟩ := id V48
  have hin49 : ¬ ((47 : Int32) < 0 ∨ c49.slots.size ≤ ((47 : Int32)).toNatClampNeg) := inb_of S49 ⟨by decide, by decide⟩
  obtain ⟨T49, h49, X49, e49, W49, st49⟩ := stC X48 hx hZ e48 Ar49 (j := (47 : Int32)) hin49 (g := o_g G) rfl rfl (hb hby d1_285)
  have N49 := Fr.snoc X49 N48 ge_b1
  have Z49 : n0 ≤ h49.size := Nat.le_trans Z48 (Keep.of_wr W49).1
  have K49 : Keep h0 h49 [] := K48.wr W49 (Or.inr sz_b1)
  have V49 : Arv Z h49 b1 k1 .char (52 : Int32) [(.int 117), (.int 114), (.int 110), (.int 58), (.int 111), (.int 97), (.int 115), (.int 105), (.int 115), (.int 58), (.int 110), (.int 97), (.int 109), (.int 101), (.int 115), (.int 58), (.int 116), (.int 99), (.int 58), (.int 83), (.int 65), (.int 77), (.int 76), (.int 58), (.int 50), (.int 46), (.int 48), (.int 58), (.int 110), (.int 97), (.int 109), (.int 101), (.int 105), (.int 100), (.int 45), (.int 102), (.int 111), (.int 114), (.int 109), (.int 97), (.int 116), (.int 58), (.int 112), (.int 101), (.int 114), (.int 115), (.int 105), (.int 115), (.int 0), (.int 0), (.int 0), (.int 0)] (.int 0) := Arv.set Ar49 q49 S49 N49' H49 G49' (fits_nar_char _) W49 47 rfl (Nat.le_of_ble_eq_true rfl)
  replace G := o_nxs (q := 286) (st := [(.ref b1)]) G st49 rfl
  replace G := o_dup (q := 287) G X49.here hx (hb hby d1_286) rfl rfl
  replace G := o_bipush (q := 289) G X49.here hx (hb hby d1_287) (v := (48 : Int32)) (by decide) rfl
  replace G := o_bipush (q := 291) G X49.here hx (hb hby d1_289) (v := (116 : Int32)) (by decide) rfl
  obtain ⟨c50, Ar50, q50, S50, N50', H50, G50'⟩ := id V49
  have hin50 : ¬ ((48 : Int32) < 0 ∨ c50.slots.size ≤ ((48 : Int32)).toNatClampNeg) := inb_of S50 ⟨by decide, by decide⟩
  obtain ⟨T50, h50, X50, e50, W50, st50⟩ := stC X49 hx hZ e49 Ar50 (j := (48 : Int32)) hin50 (g := o_g G) rfl rfl (hb hby d1_291)
  have N50 := Fr.snoc X50 N49 ge_b1
  have Z50 : n0 ≤ h50.size := Nat.le_trans Z49 (Keep.of_wr W50).1
  have K50 : Keep h0 h50 [] := K49.wr W50 (Or.inr sz_b1)
  have V50 : Arv Z h50 b1 k1 .char (52 : Int32) [(.int 117), (.int 114), (.int 110), (.int 58), (.int 111), (.int 97), (.int 115), (.int 105), (.int 115), (.int 58), (.int 110), (.int 97), (.int 109), (.int 101), (.int 115), (.int 58), (.int 116), (.int 99), (.int 58), (.int 83), (.int 65), (.int 77), (.int 76), (.int 58), (.int 50), (.int 46), (.int 48), (.int 58), (.int 110), (.int 97), (.int 109), (.int 101), (.int 105), (.int 100), (.int 45), (.int 102), (.int 111), (.int 114), (.int 109), (.int 97), (.int 116), (.int 58), (.int 112), (.int 101), (.int 114), (.int 115), (.int 105), (.int 115), (.int 116), (.int 0), (.int 0), (.int 0)] (.int 0) := Arv.set Ar50 q50 S50 N50' H50 G50' (fits_nar_char _) W50 48 rfl (Nat.le_of_ble_eq_true rfl)
  replace G := o_nxs (q := 292) (st := [(.ref b1)]) G st50 rfl
  replace G := o_dup (q := 293) G X50.here hx (hb hby d1_292) rfl rfl
  replace G := o_bipush (q := 295) G X50.here hx (hb hby d1_293) (v := (49 : Int32)) (by decide) rfl
  replace G := o_bipush (q := 297) G X50.here hx (hb hby d1_295) (v := (101 : Int32)) (by decide) rfl
  obtain ⟨c51, Ar51, q51, S51, N51', H51, G51'⟩ := id V50
  have hin51 : ¬ ((49 : Int32) < 0 ∨ c51.slots.size ≤ ((49 : Int32)).toNatClampNeg) := inb_of S51 ⟨by decide, by decide⟩
  obtain ⟨T51, h51, X51, e51, W51, st51⟩ := stC X50 hx hZ e50 Ar51 (j := (49 : Int32)) hin51 (g := o_g G) rfl rfl (hb hby d1_297)
  have N51 := Fr.snoc X51 N50 ge_b1
  have Z51 : n0 ≤ h51.size := Nat.le_trans Z50 (Keep.of_wr W51).1
  have K51 : Keep h0 h51 [] := K50.wr W51 (Or.inr sz_b1)
  have V51 : Arv Z h51 b1 k1 .char (52 : Int32) [(.int 117), (.int 114), (.int 110), (.int 58), (.int 111), (.int 97), (.int 115), (.int 105), (.int 115), (.int 58), (.int 110), (.int 97), (.int 109), (.int 101), (.int 115), (.int 58), (.int 116), (.int 99), (.int 58), (.int 83), (.int 65), (.int 77), (.int 76), (.int 58), (.int 50), (.int 46), (.int 48), (.int 58), (.int 110), (.int 97), (.int 109), (.int 101), (.int 105), (.int 100), (.int 45), (.int 102), (.int 111), (.int 114), (.int 109), (.int 97), (.int 116), (.int 58), (.int 112), (.int 101), (.int 114), (.int 115), (.int 105), (.int 115), (.int 116), (.int 101), (.int 0), (.int 0)] (.int 0) := Arv.set Ar51 q51 S51 N51' H51 G51' (fits_nar_char _) W51 49 rfl (Nat.le_of_ble_eq_true rfl)
  replace G := o_nxs (q := 298) (st := [(.ref b1)]) G st51 rfl
  replace G := o_dup (q := 299) G X51.here hx (hb hby d1_298) rfl rfl
  replace G := o_bipush (q := 301) G X51.here hx (hb hby d1_299) (v := (50 : Int32)) (by decide) rfl
  replace G := o_bipush (q := 303) G X51.here hx (hb hby d1_301) (v := (110 : Int32)) (by decide) rfl
  obtain ⟨c52, Ar52, q52, S52, N52', H52, G52'⟩ := id V51
  have hin52 : ¬ ((50 : Int32) < 0 ∨ c52.slots.size ≤ ((50 : Int32)).toNatClampNeg) := inb_of S52 ⟨by decide, by decide⟩
  obtain ⟨T52, h52, X52, e52, W52, st52⟩ := stC X51 hx hZ e51 Ar52 (j := (50 : Int32)) hin52 (g := o_g G) rfl rfl (hb hby d1_303)
  have N52 := Fr.snoc X52 N51 ge_b1
  have Z52 : n0 ≤ h52.size := Nat.le_trans Z51 (Keep.of_wr W52).1
  have K52 : Keep h0 h52 [] := K51.wr W52 (Or.inr sz_b1)
  have V52 : Arv Z h52 b1 k1 .char (52 : Int32) [(.int 117), (.int 114), (.int 110), (.int 58), (.int 111), (.int 97), (.int 115), (.int 105), (.int 115), (.int 58), (.int 110), (.int 97), (.int 109), (.int 101), (.int 115), (.int 58), (.int 116), (.int 99), (.int 58), (.int 83), (.int 65), (.int 77), (.int 76), (.int 58), (.int 50), (.int 46), (.int 48), (.int 58), (.int 110), (.int 97), (.int 109), (.int 101), (.int 105), (.int 100), (.int 45), (.int 102), (.int 111), (.int 114), (.int 109), (.int 97), (.int 116), (.int 58), (.int 112), (.int 101), (.int 114), (.int 115), (.int 105), (.int 115), (.int 116), (.int 101), (.int 110), (.int 0)] (.int 0) := Arv.set Ar52 q52 S52 N52' H52 G52' (fits_nar_char _) W52 50 rfl (Nat.le_of_ble_eq_true rfl)
  replace G := o_nxs (q := 304) (st := [(.ref b1)]) G st52 rfl
  replace G := o_dup (q := 305) G X52.here hx (hb hby d1_304) rfl rfl
  replace G := o_bipush (q := 307) G X52.here hx (hb hby d1_305) (v := (51 : Int32)) (by decide) rfl
  replace G := o_bipush (q := 309) G X52.here hx (hb hby d1_307) (v := (116 : Int32)) (by decide) rfl
  obtain ⟨c53, Ar53, q53, S53, N53', H53, G53'⟩ := id V52
  have hin53 : ¬ ((51 : Int32) < 0 ∨ c53.slots.size ≤ ((51 : Int32)).toNatClampNeg) := inb_of S53 ⟨by decide, by decide⟩
  obtain ⟨T53, h53, X53, e53, W53, st53⟩ := stC X52 hx hZ e52 Ar53 (j := (51 : Int32)) hin53 (g := o_g G) rfl rfl (hb hby d1_309)
  have N53 := Fr.snoc X53 N52 ge_b1
  have Z53 : n0 ≤ h53.size := Nat.le_trans Z52 (Keep.of_wr W53).1
  have K53 : Keep h0 h53 [] := K52.wr W53 (Or.inr sz_b1)
  have V53 : Arv Z h53 b1 k1 .char (52 : Int32) [(.int 117), (.int 114), (.int 110), (.int 58), (.int 111), (.int 97), (.int 115), (.int 105), (.int 115), (.int 58), (.int 110), (.int 97), (.int 109), (.int 101), (.int 115), (.int 58), (.int 116), (.int 99), (.int 58), (.int 83), (.int 65), (.int 77), (.int 76), (.int 58), (.int 50), (.int 46), (.int 48), (.int 58), (.int 110), (.int 97), (.int 109), (.int 101), (.int 105), (.int 100), (.int 45), (.int 102), (.int 111), (.int 114), (.int 109), (.int 97), (.int 116), (.int 58), (.int 112), (.int 101), (.int 114), (.int 115), (.int 105), (.int 115), (.int 116), (.int 101), (.int 110), (.int 116)] (.int 0) := Arv.set Ar53 q53 S53 N53' H53 G53' (fits_nar_char _) W53 51 rfl (Nat.le_of_ble_eq_true rfl)
  replace G := o_nxs (q := 310) (st := [(.ref b1)]) G st53 rfl
  obtain ⟨fs, hr, hrun, hended, hW, hsame⟩ := X53.leave (v := some (.ref b1)) (fun h => by rw [Bd.returns] at h; cases h)
  refine ⟨_, _, G _ (retOut X53 hx Bd.returns rfl (Or.inr (Or.inr (Or.inr (Or.inr ⟨rfl, rfl, rfl⟩)))) (hb hby d1_310) hr), hrun, hended, _, _, rfl, ?_, ⟨_, rfl⟩, hW, hsame.mono (by decide) (by decide)⟩
  show Q1 Z  h0 n0 _ T53.heap _
  rw [e53]
  exact ⟨b1, k1, rfl, N53, K53, sz_b1, V53⟩
theorem d21_0 : decode method_3_code 0 = .ok (.bipush 54, 2) := by decide +kernel
theorem d21_2 : decode method_3_code 2 = .ok (.newarray .char, 2) := by decide +kernel
theorem d21_4 : decode method_3_code 4 = .ok (.dup, 1) := by decide +kernel
theorem d21_5 : decode method_3_code 5 = .ok (.iconst 0, 1) := by decide +kernel
theorem d21_6 : decode method_3_code 6 = .ok (.bipush 117, 2) := by decide +kernel
theorem d21_8 : decode method_3_code 8 = .ok (.castore, 1) := by decide +kernel
theorem d21_9 : decode method_3_code 9 = .ok (.dup, 1) := by decide +kernel
theorem d21_10 : decode method_3_code 10 = .ok (.iconst 1, 1) := by decide +kernel
theorem d21_11 : decode method_3_code 11 = .ok (.bipush 114, 2) := by decide +kernel
theorem d21_13 : decode method_3_code 13 = .ok (.castore, 1) := by decide +kernel
theorem d21_14 : decode method_3_code 14 = .ok (.dup, 1) := by decide +kernel
theorem d21_15 : decode method_3_code 15 = .ok (.iconst 2, 1) := by decide +kernel
theorem d21_16 : decode method_3_code 16 = .ok (.bipush 110, 2) := by decide +kernel
theorem d21_18 : decode method_3_code 18 = .ok (.castore, 1) := by decide +kernel
theorem d21_19 : decode method_3_code 19 = .ok (.dup, 1) := by decide +kernel
theorem d21_20 : decode method_3_code 20 = .ok (.iconst 3, 1) := by decide +kernel
theorem d21_21 : decode method_3_code 21 = .ok (.bipush 58, 2) := by decide +kernel
theorem d21_23 : decode method_3_code 23 = .ok (.castore, 1) := by decide +kernel
theorem d21_24 : decode method_3_code 24 = .ok (.dup, 1) := by decide +kernel
theorem d21_25 : decode method_3_code 25 = .ok (.iconst 4, 1) := by decide +kernel
theorem d21_26 : decode method_3_code 26 = .ok (.bipush 111, 2) := by decide +kernel
theorem d21_28 : decode method_3_code 28 = .ok (.castore, 1) := by decide +kernel
theorem d21_29 : decode method_3_code 29 = .ok (.dup, 1) := by decide +kernel
theorem d21_30 : decode method_3_code 30 = .ok (.iconst 5, 1) := by decide +kernel
theorem d21_31 : decode method_3_code 31 = .ok (.bipush 97, 2) := by decide +kernel
theorem d21_33 : decode method_3_code 33 = .ok (.castore, 1) := by decide +kernel
theorem d21_34 : decode method_3_code 34 = .ok (.dup, 1) := by decide +kernel
theorem d21_35 : decode method_3_code 35 = .ok (.bipush 6, 2) := by decide +kernel
theorem d21_37 : decode method_3_code 37 = .ok (.bipush 115, 2) := by decide +kernel
theorem d21_39 : decode method_3_code 39 = .ok (.castore, 1) := by decide +kernel
theorem d21_40 : decode method_3_code 40 = .ok (.dup, 1) := by decide +kernel
theorem d21_41 : decode method_3_code 41 = .ok (.bipush 7, 2) := by decide +kernel
theorem d21_43 : decode method_3_code 43 = .ok (.bipush 105, 2) := by decide +kernel
theorem d21_45 : decode method_3_code 45 = .ok (.castore, 1) := by decide +kernel
theorem d21_46 : decode method_3_code 46 = .ok (.dup, 1) := by decide +kernel
theorem d21_47 : decode method_3_code 47 = .ok (.bipush 8, 2) := by decide +kernel
theorem d21_49 : decode method_3_code 49 = .ok (.bipush 115, 2) := by decide +kernel
theorem d21_51 : decode method_3_code 51 = .ok (.castore, 1) := by decide +kernel
theorem d21_52 : decode method_3_code 52 = .ok (.dup, 1) := by decide +kernel
theorem d21_53 : decode method_3_code 53 = .ok (.bipush 9, 2) := by decide +kernel
theorem d21_55 : decode method_3_code 55 = .ok (.bipush 58, 2) := by decide +kernel
theorem d21_57 : decode method_3_code 57 = .ok (.castore, 1) := by decide +kernel
theorem d21_58 : decode method_3_code 58 = .ok (.dup, 1) := by decide +kernel
theorem d21_59 : decode method_3_code 59 = .ok (.bipush 10, 2) := by decide +kernel
theorem d21_61 : decode method_3_code 61 = .ok (.bipush 110, 2) := by decide +kernel
theorem d21_63 : decode method_3_code 63 = .ok (.castore, 1) := by decide +kernel
theorem d21_64 : decode method_3_code 64 = .ok (.dup, 1) := by decide +kernel
theorem d21_65 : decode method_3_code 65 = .ok (.bipush 11, 2) := by decide +kernel
theorem d21_67 : decode method_3_code 67 = .ok (.bipush 97, 2) := by decide +kernel
theorem d21_69 : decode method_3_code 69 = .ok (.castore, 1) := by decide +kernel
theorem d21_70 : decode method_3_code 70 = .ok (.dup, 1) := by decide +kernel
theorem d21_71 : decode method_3_code 71 = .ok (.bipush 12, 2) := by decide +kernel
theorem d21_73 : decode method_3_code 73 = .ok (.bipush 109, 2) := by decide +kernel
theorem d21_75 : decode method_3_code 75 = .ok (.castore, 1) := by decide +kernel
theorem d21_76 : decode method_3_code 76 = .ok (.dup, 1) := by decide +kernel
theorem d21_77 : decode method_3_code 77 = .ok (.bipush 13, 2) := by decide +kernel
theorem d21_79 : decode method_3_code 79 = .ok (.bipush 101, 2) := by decide +kernel
theorem d21_81 : decode method_3_code 81 = .ok (.castore, 1) := by decide +kernel
theorem d21_82 : decode method_3_code 82 = .ok (.dup, 1) := by decide +kernel
theorem d21_83 : decode method_3_code 83 = .ok (.bipush 14, 2) := by decide +kernel
theorem d21_85 : decode method_3_code 85 = .ok (.bipush 115, 2) := by decide +kernel
theorem d21_87 : decode method_3_code 87 = .ok (.castore, 1) := by decide +kernel
theorem d21_88 : decode method_3_code 88 = .ok (.dup, 1) := by decide +kernel
theorem d21_89 : decode method_3_code 89 = .ok (.bipush 15, 2) := by decide +kernel
theorem d21_91 : decode method_3_code 91 = .ok (.bipush 58, 2) := by decide +kernel
theorem d21_93 : decode method_3_code 93 = .ok (.castore, 1) := by decide +kernel
theorem d21_94 : decode method_3_code 94 = .ok (.dup, 1) := by decide +kernel
theorem d21_95 : decode method_3_code 95 = .ok (.bipush 16, 2) := by decide +kernel
theorem d21_97 : decode method_3_code 97 = .ok (.bipush 116, 2) := by decide +kernel
theorem d21_99 : decode method_3_code 99 = .ok (.castore, 1) := by decide +kernel
theorem d21_100 : decode method_3_code 100 = .ok (.dup, 1) := by decide +kernel
theorem d21_101 : decode method_3_code 101 = .ok (.bipush 17, 2) := by decide +kernel
theorem d21_103 : decode method_3_code 103 = .ok (.bipush 99, 2) := by decide +kernel
theorem d21_105 : decode method_3_code 105 = .ok (.castore, 1) := by decide +kernel
theorem d21_106 : decode method_3_code 106 = .ok (.dup, 1) := by decide +kernel
theorem d21_107 : decode method_3_code 107 = .ok (.bipush 18, 2) := by decide +kernel
theorem d21_109 : decode method_3_code 109 = .ok (.bipush 58, 2) := by decide +kernel
theorem d21_111 : decode method_3_code 111 = .ok (.castore, 1) := by decide +kernel
theorem d21_112 : decode method_3_code 112 = .ok (.dup, 1) := by decide +kernel
theorem d21_113 : decode method_3_code 113 = .ok (.bipush 19, 2) := by decide +kernel
theorem d21_115 : decode method_3_code 115 = .ok (.bipush 83, 2) := by decide +kernel
theorem d21_117 : decode method_3_code 117 = .ok (.castore, 1) := by decide +kernel
theorem d21_118 : decode method_3_code 118 = .ok (.dup, 1) := by decide +kernel
theorem d21_119 : decode method_3_code 119 = .ok (.bipush 20, 2) := by decide +kernel
theorem d21_121 : decode method_3_code 121 = .ok (.bipush 65, 2) := by decide +kernel
theorem d21_123 : decode method_3_code 123 = .ok (.castore, 1) := by decide +kernel
theorem d21_124 : decode method_3_code 124 = .ok (.dup, 1) := by decide +kernel
theorem d21_125 : decode method_3_code 125 = .ok (.bipush 21, 2) := by decide +kernel
theorem d21_127 : decode method_3_code 127 = .ok (.bipush 77, 2) := by decide +kernel
theorem d21_129 : decode method_3_code 129 = .ok (.castore, 1) := by decide +kernel
theorem d21_130 : decode method_3_code 130 = .ok (.dup, 1) := by decide +kernel
theorem d21_131 : decode method_3_code 131 = .ok (.bipush 22, 2) := by decide +kernel
theorem d21_133 : decode method_3_code 133 = .ok (.bipush 76, 2) := by decide +kernel
theorem d21_135 : decode method_3_code 135 = .ok (.castore, 1) := by decide +kernel
theorem d21_136 : decode method_3_code 136 = .ok (.dup, 1) := by decide +kernel
theorem d21_137 : decode method_3_code 137 = .ok (.bipush 23, 2) := by decide +kernel
theorem d21_139 : decode method_3_code 139 = .ok (.bipush 58, 2) := by decide +kernel
theorem d21_141 : decode method_3_code 141 = .ok (.castore, 1) := by decide +kernel
theorem d21_142 : decode method_3_code 142 = .ok (.dup, 1) := by decide +kernel
theorem d21_143 : decode method_3_code 143 = .ok (.bipush 24, 2) := by decide +kernel
theorem d21_145 : decode method_3_code 145 = .ok (.bipush 49, 2) := by decide +kernel
theorem d21_147 : decode method_3_code 147 = .ok (.castore, 1) := by decide +kernel
theorem d21_148 : decode method_3_code 148 = .ok (.dup, 1) := by decide +kernel
theorem d21_149 : decode method_3_code 149 = .ok (.bipush 25, 2) := by decide +kernel
theorem d21_151 : decode method_3_code 151 = .ok (.bipush 46, 2) := by decide +kernel
theorem d21_153 : decode method_3_code 153 = .ok (.castore, 1) := by decide +kernel
theorem d21_154 : decode method_3_code 154 = .ok (.dup, 1) := by decide +kernel
theorem d21_155 : decode method_3_code 155 = .ok (.bipush 26, 2) := by decide +kernel
theorem d21_157 : decode method_3_code 157 = .ok (.bipush 49, 2) := by decide +kernel
theorem d21_159 : decode method_3_code 159 = .ok (.castore, 1) := by decide +kernel
theorem d21_160 : decode method_3_code 160 = .ok (.dup, 1) := by decide +kernel
theorem d21_161 : decode method_3_code 161 = .ok (.bipush 27, 2) := by decide +kernel
theorem d21_163 : decode method_3_code 163 = .ok (.bipush 58, 2) := by decide +kernel
theorem d21_165 : decode method_3_code 165 = .ok (.castore, 1) := by decide +kernel
theorem d21_166 : decode method_3_code 166 = .ok (.dup, 1) := by decide +kernel
theorem d21_167 : decode method_3_code 167 = .ok (.bipush 28, 2) := by decide +kernel
theorem d21_169 : decode method_3_code 169 = .ok (.bipush 110, 2) := by decide +kernel
theorem d21_171 : decode method_3_code 171 = .ok (.castore, 1) := by decide +kernel
theorem d21_172 : decode method_3_code 172 = .ok (.dup, 1) := by decide +kernel
theorem d21_173 : decode method_3_code 173 = .ok (.bipush 29, 2) := by decide +kernel
theorem d21_175 : decode method_3_code 175 = .ok (.bipush 97, 2) := by decide +kernel
theorem d21_177 : decode method_3_code 177 = .ok (.castore, 1) := by decide +kernel
theorem d21_178 : decode method_3_code 178 = .ok (.dup, 1) := by decide +kernel
theorem d21_179 : decode method_3_code 179 = .ok (.bipush 30, 2) := by decide +kernel
theorem d21_181 : decode method_3_code 181 = .ok (.bipush 109, 2) := by decide +kernel
theorem d21_183 : decode method_3_code 183 = .ok (.castore, 1) := by decide +kernel
theorem d21_184 : decode method_3_code 184 = .ok (.dup, 1) := by decide +kernel
theorem d21_185 : decode method_3_code 185 = .ok (.bipush 31, 2) := by decide +kernel
theorem d21_187 : decode method_3_code 187 = .ok (.bipush 101, 2) := by decide +kernel
theorem d21_189 : decode method_3_code 189 = .ok (.castore, 1) := by decide +kernel
theorem d21_190 : decode method_3_code 190 = .ok (.dup, 1) := by decide +kernel
theorem d21_191 : decode method_3_code 191 = .ok (.bipush 32, 2) := by decide +kernel
theorem d21_193 : decode method_3_code 193 = .ok (.bipush 105, 2) := by decide +kernel
theorem d21_195 : decode method_3_code 195 = .ok (.castore, 1) := by decide +kernel
theorem d21_196 : decode method_3_code 196 = .ok (.dup, 1) := by decide +kernel
theorem d21_197 : decode method_3_code 197 = .ok (.bipush 33, 2) := by decide +kernel
theorem d21_199 : decode method_3_code 199 = .ok (.bipush 100, 2) := by decide +kernel
theorem d21_201 : decode method_3_code 201 = .ok (.castore, 1) := by decide +kernel
theorem d21_202 : decode method_3_code 202 = .ok (.dup, 1) := by decide +kernel
theorem d21_203 : decode method_3_code 203 = .ok (.bipush 34, 2) := by decide +kernel
theorem d21_205 : decode method_3_code 205 = .ok (.bipush 45, 2) := by decide +kernel
theorem d21_207 : decode method_3_code 207 = .ok (.castore, 1) := by decide +kernel
theorem d21_208 : decode method_3_code 208 = .ok (.dup, 1) := by decide +kernel
theorem d21_209 : decode method_3_code 209 = .ok (.bipush 35, 2) := by decide +kernel
theorem d21_211 : decode method_3_code 211 = .ok (.bipush 102, 2) := by decide +kernel
theorem d21_213 : decode method_3_code 213 = .ok (.castore, 1) := by decide +kernel
theorem d21_214 : decode method_3_code 214 = .ok (.dup, 1) := by decide +kernel
theorem d21_215 : decode method_3_code 215 = .ok (.bipush 36, 2) := by decide +kernel
theorem d21_217 : decode method_3_code 217 = .ok (.bipush 111, 2) := by decide +kernel
theorem d21_219 : decode method_3_code 219 = .ok (.castore, 1) := by decide +kernel
theorem d21_220 : decode method_3_code 220 = .ok (.dup, 1) := by decide +kernel
theorem d21_221 : decode method_3_code 221 = .ok (.bipush 37, 2) := by decide +kernel
theorem d21_223 : decode method_3_code 223 = .ok (.bipush 114, 2) := by decide +kernel
theorem d21_225 : decode method_3_code 225 = .ok (.castore, 1) := by decide +kernel
theorem d21_226 : decode method_3_code 226 = .ok (.dup, 1) := by decide +kernel
theorem d21_227 : decode method_3_code 227 = .ok (.bipush 38, 2) := by decide +kernel
theorem d21_229 : decode method_3_code 229 = .ok (.bipush 109, 2) := by decide +kernel
theorem d21_231 : decode method_3_code 231 = .ok (.castore, 1) := by decide +kernel
theorem d21_232 : decode method_3_code 232 = .ok (.dup, 1) := by decide +kernel
theorem d21_233 : decode method_3_code 233 = .ok (.bipush 39, 2) := by decide +kernel
theorem d21_235 : decode method_3_code 235 = .ok (.bipush 97, 2) := by decide +kernel
theorem d21_237 : decode method_3_code 237 = .ok (.castore, 1) := by decide +kernel
theorem d21_238 : decode method_3_code 238 = .ok (.dup, 1) := by decide +kernel
theorem d21_239 : decode method_3_code 239 = .ok (.bipush 40, 2) := by decide +kernel
theorem d21_241 : decode method_3_code 241 = .ok (.bipush 116, 2) := by decide +kernel
theorem d21_243 : decode method_3_code 243 = .ok (.castore, 1) := by decide +kernel
theorem d21_244 : decode method_3_code 244 = .ok (.dup, 1) := by decide +kernel
theorem d21_245 : decode method_3_code 245 = .ok (.bipush 41, 2) := by decide +kernel
theorem d21_247 : decode method_3_code 247 = .ok (.bipush 58, 2) := by decide +kernel
theorem d21_249 : decode method_3_code 249 = .ok (.castore, 1) := by decide +kernel
theorem d21_250 : decode method_3_code 250 = .ok (.dup, 1) := by decide +kernel
theorem d21_251 : decode method_3_code 251 = .ok (.bipush 42, 2) := by decide +kernel
theorem d21_253 : decode method_3_code 253 = .ok (.bipush 101, 2) := by decide +kernel
theorem d21_255 : decode method_3_code 255 = .ok (.castore, 1) := by decide +kernel
theorem d21_256 : decode method_3_code 256 = .ok (.dup, 1) := by decide +kernel
theorem d21_257 : decode method_3_code 257 = .ok (.bipush 43, 2) := by decide +kernel
theorem d21_259 : decode method_3_code 259 = .ok (.bipush 109, 2) := by decide +kernel
theorem d21_261 : decode method_3_code 261 = .ok (.castore, 1) := by decide +kernel
theorem d21_262 : decode method_3_code 262 = .ok (.dup, 1) := by decide +kernel
theorem d21_263 : decode method_3_code 263 = .ok (.bipush 44, 2) := by decide +kernel
theorem d21_265 : decode method_3_code 265 = .ok (.bipush 97, 2) := by decide +kernel
theorem d21_267 : decode method_3_code 267 = .ok (.castore, 1) := by decide +kernel
theorem d21_268 : decode method_3_code 268 = .ok (.dup, 1) := by decide +kernel
theorem d21_269 : decode method_3_code 269 = .ok (.bipush 45, 2) := by decide +kernel
theorem d21_271 : decode method_3_code 271 = .ok (.bipush 105, 2) := by decide +kernel
theorem d21_273 : decode method_3_code 273 = .ok (.castore, 1) := by decide +kernel
theorem d21_274 : decode method_3_code 274 = .ok (.dup, 1) := by decide +kernel
theorem d21_275 : decode method_3_code 275 = .ok (.bipush 46, 2) := by decide +kernel
theorem d21_277 : decode method_3_code 277 = .ok (.bipush 108, 2) := by decide +kernel
theorem d21_279 : decode method_3_code 279 = .ok (.castore, 1) := by decide +kernel
theorem d21_280 : decode method_3_code 280 = .ok (.dup, 1) := by decide +kernel
theorem d21_281 : decode method_3_code 281 = .ok (.bipush 47, 2) := by decide +kernel
theorem d21_283 : decode method_3_code 283 = .ok (.bipush 65, 2) := by decide +kernel
theorem d21_285 : decode method_3_code 285 = .ok (.castore, 1) := by decide +kernel
theorem d21_286 : decode method_3_code 286 = .ok (.dup, 1) := by decide +kernel
theorem d21_287 : decode method_3_code 287 = .ok (.bipush 48, 2) := by decide +kernel
theorem d21_289 : decode method_3_code 289 = .ok (.bipush 100, 2) := by decide +kernel
theorem d21_291 : decode method_3_code 291 = .ok (.castore, 1) := by decide +kernel
theorem d21_292 : decode method_3_code 292 = .ok (.dup, 1) := by decide +kernel
theorem d21_293 : decode method_3_code 293 = .ok (.bipush 49, 2) := by decide +kernel
theorem d21_295 : decode method_3_code 295 = .ok (.bipush 100, 2) := by decide +kernel
theorem d21_297 : decode method_3_code 297 = .ok (.castore, 1) := by decide +kernel
theorem d21_298 : decode method_3_code 298 = .ok (.dup, 1) := by decide +kernel
theorem d21_299 : decode method_3_code 299 = .ok (.bipush 50, 2) := by decide +kernel
theorem d21_301 : decode method_3_code 301 = .ok (.bipush 114, 2) := by decide +kernel
theorem d21_303 : decode method_3_code 303 = .ok (.castore, 1) := by decide +kernel
theorem d21_304 : decode method_3_code 304 = .ok (.dup, 1) := by decide +kernel
theorem d21_305 : decode method_3_code 305 = .ok (.bipush 51, 2) := by decide +kernel
theorem d21_307 : decode method_3_code 307 = .ok (.bipush 101, 2) := by decide +kernel
theorem d21_309 : decode method_3_code 309 = .ok (.castore, 1) := by decide +kernel
theorem d21_310 : decode method_3_code 310 = .ok (.dup, 1) := by decide +kernel
theorem d21_311 : decode method_3_code 311 = .ok (.bipush 52, 2) := by decide +kernel
theorem d21_313 : decode method_3_code 313 = .ok (.bipush 115, 2) := by decide +kernel
theorem d21_315 : decode method_3_code 315 = .ok (.castore, 1) := by decide +kernel
theorem d21_316 : decode method_3_code 316 = .ok (.dup, 1) := by decide +kernel
theorem d21_317 : decode method_3_code 317 = .ok (.bipush 53, 2) := by decide +kernel
theorem d21_319 : decode method_3_code 319 = .ok (.bipush 115, 2) := by decide +kernel
theorem d21_321 : decode method_3_code 321 = .ok (.castore, 1) := by decide +kernel
theorem d21_322 : decode method_3_code 322 = .ok (.areturn, 1) := by decide +kernel
theorem ef_21 (m : MethodId)  : entryFrame m #[] 0 = mkF m 0 #[] [] := by first | (simp [entryFrame, mkF, argsToLocals, Value.category]; done) | rfl
def Q21 (Z : State)  (h0 : Heap) (n0 : Nat) (v : Option Value) (h : Heap) (L : List Loc) : Prop := ∃ (b : Addr) (kb : ClassId), v = some (.ref b) ∧ Fr n0 L ∧ Keep h0 h [] ∧ h0.size ≤ b ∧ (Arv Z h b kb .char (54 : Int32) [(.int 117), (.int 114), (.int 110), (.int 58), (.int 111), (.int 97), (.int 115), (.int 105), (.int 115), (.int 58), (.int 110), (.int 97), (.int 109), (.int 101), (.int 115), (.int 58), (.int 116), (.int 99), (.int 58), (.int 83), (.int 65), (.int 77), (.int 76), (.int 58), (.int 49), (.int 46), (.int 49), (.int 58), (.int 110), (.int 97), (.int 109), (.int 101), (.int 105), (.int 100), (.int 45), (.int 102), (.int 111), (.int 114), (.int 109), (.int 97), (.int 116), (.int 58), (.int 101), (.int 109), (.int 97), (.int 105), (.int 108), (.int 65), (.int 100), (.int 100), (.int 114), (.int 101), (.int 115), (.int 115)] (.int 0))
set_option maxRecDepth 65536 in
set_option maxHeartbeats 40000000 in
theorem rm21 (l : Launch) (Z : State) (a0 : Array Value) (hw : ∀ d ∈ tables_1, d.before a0 Z = true) (ws : List Jvm.Cond)  (h0 : Heap) (n0 : Nat) (Z0 : n0 ≤ h0.size)  :
    MetFree l (⟨"com/example/assertgate/assertgate/saml/NameIdFormatsIsAcceptedPinLaw", "emailChars", "()[C"⟩ : MethodName) (head1 (Jvm.Cond.code (⟨"com/example/assertgate/assertgate/saml/NameIdFormatsIsAcceptedPinLaw", "emailChars", "()[C"⟩ : MethodName) method_3_code 0 (some (.array .char)) :: ws) ({ frames := 0, cells := 1, slots := 54, locals := 0 } : Room)) (fun argz U => argz = #[] ∧ Z.Warmed39 U.vm ∧ U.heap = h0) (fun _ _ _ _ _ => True) (fun _ U o U' => ∃ v L, o = .returned v ∧ Q21 Z  h0 n0 v U'.heap L ∧ FrameEnd U o U' L ({ frames := 0, cells := 1, slots := 54, locals := 0 } : Room).cells ({ frames := 0, cells := 1, slots := 54, locals := 0 } : Room).slots) := by
  refine MetFree.of_bodySF (plainFor_of_name pn_com_example_assertgate_assertgate_saml_NameIdFormatsIsAcceptedPinLaw) hisR ?_
  intro p e s m args below meth c s₁ Bd hml0 hP hK
  obtain ⟨rfl, hZ, hh⟩ := hP
  have hx := Bd.exec
  have hby := Bd.bytes
  have hml : c.maxLocals = 0 := hml0
  have hown : s.vm.findClass "com/example/assertgate/assertgate/saml/NameIdFormatsIsAcceptedPinLaw" = some m.cls := findClass_of_methodNamed Bd.named
  have hnm := (name_of_methodNamed Bd.named Bd.method).1
  have X0 : Stand p l e ({ frames := 0, cells := 1, slots := 54, locals := 0 } : Room) s m #[] below meth c s₁ [] 0 0 := Stand.of_body Bd
  have e0 : s₁.heap = h0 := by rw [← hh, Bd.state]; rfl
  have N0 := Fr.nil n0
  have K0 : Keep h0 h0 [] := Keep.refl _ _
  have G : Gets p e below (s₁.setTop (entryFrame m #[] 0)) (s₁.setTop (mkF m 0 #[] [])) := fun tq kq => castTop (ef_21 m ) kq
  replace G := o_bipush (q := 2) G X0.here hx (hb hby d21_0) (v := (54 : Int32)) (by decide) rfl
  obtain ⟨T1, h1, k1, X1, e1, E1, A1, st1⟩ := newP X0 hx hZ (o_w hw 5 rfl) e0 (g := o_g G) rfl (hb hby d21_2) rfl (by decide) (cap := 54) (by decide) (by decide) (by decide) (by decide)
  obtain ⟨b1, g1⟩ : ∃ z, z = h0.size := ⟨_, rfl⟩
  rw [← g1] at A1 st1
  have ge_b1 : n0 ≤ b1 := Nat.le_trans Z0 (Nat.le_of_eq g1.symm)
  have sz_b1 : h0.size ≤ b1 := Nat.le_trans K0.1 (Nat.le_of_eq g1.symm)
  have Z1 : n0 ≤ h1.size := Nat.le_trans Z0 E1.1
  have K1 : Keep h0 h1 [] := K0.ext E1
  have V1 : Arv Z h1 b1 k1 .char (54 : Int32) [(.int 0), (.int 0), (.int 0), (.int 0), (.int 0), (.int 0), (.int 0), (.int 0), (.int 0), (.int 0), (.int 0), (.int 0), (.int 0), (.int 0), (.int 0), (.int 0), (.int 0), (.int 0), (.int 0), (.int 0), (.int 0), (.int 0), (.int 0), (.int 0), (.int 0), (.int 0), (.int 0), (.int 0), (.int 0), (.int 0), (.int 0), (.int 0), (.int 0), (.int 0), (.int 0), (.int 0), (.int 0), (.int 0), (.int 0), (.int 0), (.int 0), (.int 0), (.int 0), (.int 0), (.int 0), (.int 0), (.int 0), (.int 0), (.int 0), (.int 0), (.int 0), (.int 0), (.int 0), (.int 0)] (.int 0) := (Arv.new A1 (by decide)).pad (pad_rep [] (.int 0) 54)
  replace G := o_nxs (q := 4) (st := [(.ref b1)]) G st1 rfl
  replace G := o_dup (q := 5) G X1.here hx (hb hby d21_4) rfl rfl
  replace G := o_iconst (q := 6) G X1.here hx (hb hby d21_5) (v := (0 : Int32)) (by decide) rfl
  replace G := o_bipush (q := 8) G X1.here hx (hb hby d21_6) (v := (117 : Int32)) (by decide) rfl
  obtain ⟨c2, Ar2, q2, S2, N2', H2, G2'⟩ := id V1
  have hin2 : ¬ ((0 : Int32) < 0 ∨ c2.slots.size ≤ ((0 : Int32)).toNatClampNeg) := inb_of S2 ⟨by decide, by decide⟩
  obtain ⟨T2, h2, X2, e2, W2, st2⟩ := stC X1 hx hZ e1 Ar2 (j := (0 : Int32)) hin2 (g := o_g G) rfl rfl (hb hby d21_8)
  have N2 := Fr.snoc X2 N0 ge_b1
  have Z2 : n0 ≤ h2.size := Nat.le_trans Z1 (Keep.of_wr W2).1
  have K2 : Keep h0 h2 [] := K1.wr W2 (Or.inr sz_b1)
  have V2 : Arv Z h2 b1 k1 .char (54 : Int32) [(.int 117), (.int 0), (.int 0), (.int 0), (.int 0), (.int 0), (.int 0), (.int 0), (.int 0), (.int 0), (.int 0), (.int 0), (.int 0), (.int 0), (.int 0), (.int 0), (.int 0), (.int 0), (.int 0), (.int 0), (.int 0), (.int 0), (.int 0), (.int 0), (.int 0), (.int 0), (.int 0), (.int 0), (.int 0), (.int 0), (.int 0), (.int 0), (.int 0), (.int 0), (.int 0), (.int 0), (.int 0), (.int 0), (.int 0), (.int 0), (.int 0), (.int 0), (.int 0), (.int 0), (.int 0), (.int 0), (.int 0), (.int 0), (.int 0), (.int 0), (.int 0), (.int 0), (.int 0), (.int 0)] (.int 0) := Arv.set Ar2 q2 S2 N2' H2 G2' (fits_nar_char _) W2 0 rfl (Nat.le_of_ble_eq_true rfl)
  replace G := o_nxs (q := 9) (st := [(.ref b1)]) G st2 rfl
  replace G := o_dup (q := 10) G X2.here hx (hb hby d21_9) rfl rfl
  replace G := o_iconst (q := 11) G X2.here hx (hb hby d21_10) (v := (1 : Int32)) (by decide) rfl
  replace G := o_bipush (q := 13) G X2.here hx (hb hby d21_11) (v := (114 : Int32)) (by decide) rfl
  obtain ⟨c3, Ar3, q3, S3, N3', H3, G3'⟩ := id V2
  have hin3 : ¬ ((1 : Int32) < 0 ∨ c3.slots.size ≤ ((1 : Int32)).toNatClampNeg) := inb_of S3 ⟨by decide, by decide⟩
  obtain ⟨T3, h3, X3, e3, W3, st3⟩ := stC X2 hx hZ e2 Ar3 (j := (1 : Int32)) hin3 (g := o_g G) rfl rfl (hb hby d21_13)
  have N3 := Fr.snoc X3 N2 ge_b1
  have Z3 : n0 ≤ h3.size := Nat.le_trans Z2 (Keep.of_wr W3).1
  have K3 : Keep h0 h3 [] := K2.wr W3 (Or.inr sz_b1)
  have V3 : Arv Z h3 b1 k1 .char (54 : Int32) [(.int 117), (.int 114), (.int 0), (.int 0), (.int 0), (.int 0), (.int 0), (.int 0), (.int 0), (.int 0), (.int 0), (.int 0), (.int 0), (.int 0), (.int 0), (.int 0), (.int 0), (.int 0), (.int 0), (.int 0), (.int 0), (.int 0), (.int 0), (.int 0), (.int 0), (.int 0), (.int 0), (.int 0), (.int 0), (.int 0), (.int 0), (.int 0), (.int 0), (.int 0), (.int 0), (.int 0), (.int 0), (.int 0), (.int 0), (.int 0), (.int 0), (.int 0), (.int 0), (.int 0), (.int 0), (.int 0), (.int 0), (.int 0), (.int 0), (.int 0), (.int 0), (.int 0), (.int 0), (.int 0)] (.int 0) := Arv.set Ar3 q3 S3 N3' H3 G3' (fits_nar_char _) W3 1 rfl (Nat.le_of_ble_eq_true rfl)
  replace G := o_nxs (q := 14) (st := [(.ref b1)]) G st3 rfl
  replace G := o_dup (q := 15) G X3.here hx (hb hby d21_14) rfl rfl
  replace G := o_iconst (q := 16) G X3.here hx (hb hby d21_15) (v := (2 : Int32)) (by decide) rfl
  replace G := o_bipush (q := 18) G X3.here hx (hb hby d21_16) (v := (110 : Int32)) (by decide) rfl
  obtain ⟨c4, Ar4, q4, S4, N4', H4, G4'⟩ := id V3
  have hin4 : ¬ ((2 : Int32) < 0 ∨ c4.slots.size ≤ ((2 : Int32)).toNatClampNeg) := inb_of S4 ⟨by decide, by decide⟩
  obtain ⟨T4, h4, X4, e4, W4, st4⟩ := stC X3 hx hZ e3 Ar4 (j := (2 : Int32)) hin4 (g := o_g G) rfl rfl (hb hby d21_18)
  have N4 := Fr.snoc X4 N3 ge_b1
  have Z4 : n0 ≤ h4.size := Nat.le_trans Z3 (Keep.of_wr W4).1
  have K4 : Keep h0 h4 [] := K3.wr W4 (Or.inr sz_b1)
  have V4 : Arv Z h4 b1 k1 .char (54 : Int32) [(.int 117), (.int 114), (.int 110), (.int 0), (.int 0), (.int 0), (.int 0), (.int 0), (.int 0), (.int 0), (.int 0), (.int 0), (.int 0), (.int 0), (.int 0), (.int 0), (.int 0), (.int 0), (.int 0), (.int 0), (.int 0), (.int 0), (.int 0), (.int 0), (.int 0), (.int 0), (.int 0), (.int 0), (.int 0), (.int 0), (.int 0), (.int 0), (.int 0), (.int 0), (.int 0), (.int 0), (.int 0), (.int 0), (.int 0), (.int 0), (.int 0), (.int 0), (.int 0), (.int 0), (.int 0), (.int 0), (.int 0), (.int 0), (.int 0), (.int 0), (.int 0), (.int 0), (.int 0), (.int 0)] (.int 0) := Arv.set Ar4 q4 S4 N4' H4 G4' (fits_nar_char _) W4 2 rfl (Nat.le_of_ble_eq_true rfl)
  replace G := o_nxs (q := 19) (st := [(.ref b1)]) G st4 rfl
  replace G := o_dup (q := 20) G X4.here hx (hb hby d21_19) rfl rfl
  replace G := o_iconst (q := 21) G X4.here hx (hb hby d21_20) (v := (3 : Int32)) (by decide) rfl
  replace G := o_bipush (q := 23) G X4.here hx (hb hby d21_21) (v := (58 : Int32)) (by decide) rfl
  obtain ⟨c5, Ar5, q5, S5, N5', H5, G5'⟩ := id V4
  have hin5 : ¬ ((3 : Int32) < 0 ∨ c5.slots.size ≤ ((3 : Int32)).toNatClampNeg) := inb_of S5 ⟨by decide, by decide⟩
  obtain ⟨T5, h5, X5, e5, W5, st5⟩ := stC X4 hx hZ e4 Ar5 (j := (3 : Int32)) hin5 (g := o_g G) rfl rfl (hb hby d21_23)
  have N5 := Fr.snoc X5 N4 ge_b1
  have Z5 : n0 ≤ h5.size := Nat.le_trans Z4 (Keep.of_wr W5).1
  have K5 : Keep h0 h5 [] := K4.wr W5 (Or.inr sz_b1)
  have V5 : Arv Z h5 b1 k1 .char (54 : Int32) [(.int 117), (.int 114), (.int 110), (.int 58), (.int 0), (.int 0), (.int 0), (.int 0), (.int 0), (.int 0), (.int 0), (.int 0), (.int 0), (.int 0), (.int 0), (.int 0), (.int 0), (.int 0), (.int 0), (.int 0), (.int 0), (.int 0), (.int 0), (.int 0), (.int 0), (.int 0), (.int 0), (.int 0), (.int 0), (.int 0), (.int 0), (.int 0), (.int 0), (.int 0), (.int 0), (.int 0), (.int 0), (.int 0), (.int 0), (.int 0), (.int 0), (.int 0), (.int 0), (.int 0), (.int 0), (.int 0), (.int 0), (.int 0), (.int 0), (.int 0), (.int 0), (.int 0), (.int 0), (.int 0)] (.int 0) := Arv.set Ar5 q5 S5 N5' H5 G5' (fits_nar_char _) W5 3 rfl (Nat.le_of_ble_eq_true rfl)
  replace G := o_nxs (q := 24) (st := [(.ref b1)]) G st5 rfl
  replace G := o_dup (q := 25) G X5.here hx (hb hby d21_24) rfl rfl
  replace G := o_iconst (q := 26) G X5.here hx (hb hby d21_25) (v := (4 : Int32)) (by decide) rfl
  replace G := o_bipush (q := 28) G X5.here hx (hb hby d21_26) (v := (111 : Int32)) (by decide) rfl
  obtain ⟨c6, Ar6, q6, S6, N6', H6, G6'⟩ := id V5
  have hin6 : ¬ ((4 : Int32) < 0 ∨ c6.slots.size ≤ ((4 : Int32)).toNatClampNeg) := inb_of S6 ⟨by decide, by decide⟩
  obtain ⟨T6, h6, X6, e6, W6, st6⟩ := stC X5 hx hZ e5 Ar6 (j := (4 : Int32)) hin6 (g := o_g G) rfl rfl (hb hby d21_28)
  have N6 := Fr.snoc X6 N5 ge_b1
  have Z6 : n0 ≤ h6.size := Nat.le_trans Z5 (Keep.of_wr W6).1
  have K6 : Keep h0 h6 [] := K5.wr W6 (Or.inr sz_b1)
  have V6 : Arv Z h6 b1 k1 .char (54 : Int32) [(.int 117), (.int 114), (.int 110), (.int 58), (.int 111), (.int 0), (.int 0), (.int 0), (.int 0), (.int 0), (.int 0), (.int 0), (.int 0), (.int 0), (.int 0), (.int 0), (.int 0), (.int 0), (.int 0), (.int 0), (.int 0), (.int 0), (.int 0), (.int 0), (.int 0), (.int 0), (.int 0), (.int 0), (.int 0), (.int 0), (.int 0), (.int 0), (.int 0), (.int 0), (.int 0), (.int 0), (.int 0), (.int 0), (.int 0), (.int 0), (.int 0), (.int 0), (.int 0), (.int 0), (.int 0), (.int 0), (.int 0), (.int 0), (.int 0), (.int 0), (.int 0), (.int 0), (.int 0), (.int 0)] (.int 0) := Arv.set Ar6 q6 S6 N6' H6 G6' (fits_nar_char _) W6 4 rfl (Nat.le_of_ble_eq_true rfl)
  replace G := o_nxs (q := 29) (st := [(.ref b1)]) G st6 rfl
  replace G := o_dup (q := 30) G X6.here hx (hb hby d21_29) rfl rfl
  replace G := o_iconst (q := 31) G X6.here hx (hb hby d21_30) (v := (5 : Int32)) (by decide) rfl
  replace G := o_bipush (q := 33) G X6.here hx (hb hby d21_31) (v := (97 : Int32)) (by decide) rfl
  obtain ⟨c7, Ar7, q7, S7, N7', H7, G7'⟩ := id V6
  have hin7 : ¬ ((5 : Int32) < 0 ∨ c7.slots.size ≤ ((5 : Int32)).toNatClampNeg) := inb_of S7 ⟨by decide, by decide⟩
  obtain ⟨T7, h7, X7, e7, W7, st7⟩ := stC X6 hx hZ e6 Ar7 (j := (5 : Int32)) hin7 (g := o_g G) rfl rfl (hb hby d21_33)
  have N7 := Fr.snoc X7 N6 ge_b1
  have Z7 : n0 ≤ h7.size := Nat.le_trans Z6 (Keep.of_wr W7).1
  have K7 : Keep h0 h7 [] := K6.wr W7 (Or.inr sz_b1)
  have V7 : Arv Z h7 b1 k1 .char (54 : Int32) [(.int 117), (.int 114), (.int 110), (.int 58), (.int 111), (.int 97), (.int 0), (.int 0), (.int 0), (.int 0), (.int 0), (.int 0), (.int 0), (.int 0), (.int 0), (.int 0), (.int 0), (.int 0), (.int 0), (.int 0), (.int 0), (.int 0), (.int 0), (.int 0), (.int 0), (.int 0), (.int 0), (.int 0), (.int 0), (.int 0), (.int 0), (.int 0), (.int 0), (.int 0), (.int 0), (.int 0), (.int 0), (.int 0), (.int 0), (.int 0), (.int 0), (.int 0), (.int 0), (.int 0), (.int 0), (.int 0), (.int 0), (.int 0), (.int 0), (.int 0), (.int 0), (.int 0), (.int 0), (.int 0)] (.int 0) := Arv.set Ar7 q7 S7 N7' H7 G7' (fits_nar_char _) W7 5 rfl (Nat.le_of_ble_eq_true rfl)
  replace G := o_nxs (q := 34) (st := [(.ref b1)]) G st7 rfl
  replace G := o_dup (q := 35) G X7.here hx (hb hby d21_34) rfl rfl
  replace G := o_bipush (q := 37) G X7.here hx (hb hby d21_35) (v := (6 : Int32)) (by decide) rfl
  replace G := o_bipush (q := 39) G X7.here hx (hb hby d21_37) (v := (115 : Int32)) (by decide) rfl
  obtain ⟨c8, Ar8, q8, S8, N8', H8, G8'⟩ := id V7
  have hin8 : ¬ ((6 : Int32) < 0 ∨ c8.slots.size ≤ ((6 : Int32)).toNatClampNeg) := inb_of S8 ⟨by decide, by decide⟩
  obtain ⟨T8, h8, X8, e8, W8, st8⟩ := stC X7 hx hZ e7 Ar8 (j := (6 : Int32)) hin8 (g := o_g G) rfl rfl (hb hby d21_39)
  have N8 := Fr.snoc X8 N7 ge_b1
  have Z8 : n0 ≤ h8.size := Nat.le_trans Z7 (Keep.of_wr W8).1
  have K8 : Keep h0 h8 [] := K7.wr W8 (Or.inr sz_b1)
  have V8 : Arv Z h8 b1 k1 .char (54 : Int32) [(.int 117), (.int 114), (.int 110), (.int 58), (.int 111), (.int 97), (.int 115), (.int 0), (.int 0), (.int 0), (.int 0), (.int 0), (.int 0), (.int 0), (.int 0), (.int 0), (.int 0), (.int 0), (.int 0), (.int 0), (.int 0), (.int 0), (.int 0), (.int 0), (.int 0), (.int 0), (.int 0), (.int 0), (.int 0), (.int 0), (.int 0), (.int 0), (.int 0), (.int 0), (.int 0), (.int 0), (.int 0), (.int 0), (.int 0), (.int 0), (.int 0), (.int 0), (.int 0), (.int 0), (.int 0), (.int 0), (.int 0), (.int 0), (.int 0), (.int 0), (.int 0), (.int 0), (.int 0), (.int 0)] (.int 0) := Arv.set Ar8 q8 S8 N8' H8 G8' (fits_nar_char _) W8 6 rfl (Nat.le_of_ble_eq_true rfl)
  replace G := o_nxs (q := 40) (st := [(.ref b1)]) G st8 rfl
  replace G := o_dup (q := 41) G X8.here hx (hb hby d21_40) rfl rfl
  replace G := o_bipush (q := 43) G X8.here hx (hb hby d21_41) (v := (7 : Int32)) (by decide) rfl
  replace G := o_bipush (q := 45) G X8.here hx (hb hby d21_43) (v := (105 : Int32)) (by decide) rfl
  obtain ⟨c9, Ar9, q9, S9, N9', H9, G9'⟩ := id V8
  have hin9 : ¬ ((7 : Int32) < 0 ∨ c9.slots.size ≤ ((7 : Int32)).toNatClampNeg) := inb_of S9 ⟨by decide, by decide⟩
  obtain ⟨T9, h9, X9, e9, W9, st9⟩ := stC X8 hx hZ e8 Ar9 (j := (7 : Int32)) hin9 (g := o_g G) rfl rfl (hb hby d21_45)
  have N9 := Fr.snoc X9 N8 ge_b1
  have Z9 : n0 ≤ h9.size := Nat.le_trans Z8 (Keep.of_wr W9).1
  have K9 : Keep h0 h9 [] := K8.wr W9 (Or.inr sz_b1)
  have V9 : Arv Z h9 b1 k1 .char (54 : Int32) [(.int 117), (.int 114), (.int 110), (.int 58), (.int 111), (.int 97), (.int 115), (.int 105), (.int 0), (.int 0), (.int 0), (.int 0), (.int 0), (.int 0), (.int 0), (.int 0), (.int 0), (.int 0), (.int 0), (.int 0), (.int 0), (.int 0), (.int 0), (.int 0), (.int 0), (.int 0), (.int 0), (.int 0), (.int 0), (.int 0), (.int 0), (.int 0), (.int 0), (.int 0), (.int 0), (.int 0), (.int 0), (.int 0), (.int 0), (.int 0), (.int 0), (.int 0), (.int 0), (.int 0), (.int 0), (.int 0), (.int 0), (.int 0), (.int 0), (.int 0), (.int 0), (.int 0), (.int 0), (.int 0)] (.int 0) := Arv.set Ar9 q9 S9 N9' H9 G9' (fits_nar_char _) W9 7 rfl (Nat.le_of_ble_eq_true rfl)
  replace G := o_nxs (q := 46) (st := [(.ref b1)]) G st9 rfl
  replace G := o_dup (q := 47) G X9.here hx (hb hby d21_46) rfl rfl
  replace G := o_bipush (q := 49) G X9.here hx (hb hby d21_47) (v := (8 : Int32)) (by decide) rfl
  replace G := o_bipush (q := 51) G X9.here hx (hb hby d21_49) (v := (115 : Int32)) (by decide) rfl
  obtain ⟨c10, Ar10, q10, S10, N10', H10, G10'⟩ := id V9
  have hin10 : ¬ ((8 : Int32) < 0 ∨ c10.slots.size ≤ ((8 : Int32)).toNatClampNeg) := inb_of S10 ⟨by decide, by decide⟩
  obtain ⟨T10, h10, X10, e10, W10, st10⟩ := stC X9 hx hZ e9 Ar10 (j := (8 : Int32)) hin10 (g := o_g G) rfl rfl (hb hby d21_51)
  have N10 := Fr.snoc X10 N9 ge_b1
  have Z10 : n0 ≤ h10.size := Nat.le_trans Z9 (Keep.of_wr W10).1
  have K10 : Keep h0 h10 [] := K9.wr W10 (Or.inr sz_b1)
  have V10 : Arv Z h10 b1 k1 .char (54 : Int32) [(.int 117), (.int 114), (.int 110), (.int 58), (.int 111), (.int 97), (.int 115), (.int 105), (.int 115), (.int 0), (.int 0), (.int 0), (.int 0), (.int 0), (.int 0), (.int 0), (.int 0), (.int 0), (.int 0), (.int 0), (.int 0), (.int 0), (.int 0), (.int 0), (.int 0), (.int 0), (.int 0), (.int 0), (.int 0), (.int 0), (.int 0), (.int 0), (.int 0), (.int 0), (.int 0), (.int 0), (.int 0), (.int 0), (.int 0), (.int 0), (.int 0), (.int 0), (.int 0), (.int 0), (.int 0), (.int 0), (.int 0), (.int 0), (.int 0), (.int 0), (.int 0), (.int 0), (.int 0), (.int 0)] (.int 0) := Arv.set Ar10 q10 S10 N10' H10 G10' (fits_nar_char _) W10 8 rfl (Nat.le_of_ble_eq_true rfl)
  replace G := o_nxs (q := 52) (st := [(.ref b1)]) G st10 rfl
  replace G := o_dup (q := 53) G X10.here hx (hb hby d21_52) rfl rfl
  replace G := o_bipush (q := 55) G X10.here hx (hb hby d21_53) (v := (9 : Int32)) (by decide) rfl
  replace G := o_bipush (q := 57) G X10.here hx (hb hby d21_55) (v := (58 : Int32)) (by decide) rfl
  obtain ⟨c11, Ar11, q11, S11, N11', H11, G11'⟩ := id V10
  have hin11 : ¬ ((9 : Int32) < 0 ∨ c11.slots.size ≤ ((9 : Int32)).toNatClampNeg) := inb_of S11 ⟨by decide, by decide⟩
  obtain ⟨T11, h11, X11, e11, W11, st11⟩ := stC X10 hx hZ e10 Ar11 (j := (9 : Int32)) hin11 (g := o_g G) rfl rfl (hb hby d21_57)
  have N11 := Fr.snoc X11 N10 ge_b1
  have Z11 : n0 ≤ h11.size := Nat.le_trans Z10 (Keep.of_wr W11).1
  have K11 : Keep h0 h11 [] := K10.wr W11 (Or.inr sz_b1)
  have V11 : Arv Z h11 b1 k1 .char (54 : Int32) [(.int 117), (.int 114), (.int 110), (.int 58), (.int 111), (.int 97), (.int 115), (.int 105), (.int 115), (.int 58), (.int 0), (.int 0), (.int 0), (.int 0), (.int 0), (.int 0), (.int 0), (.int 0), (.int 0), (.int 0), (.int 0), (.int 0), (.int 0), (.int 0), (.int 0), (.int 0), (.int 0), (.int 0), (.int 0), (.int 0), (.int 0), (.int 0), (.int 0), (.int 0), (.int 0), (.int 0), (.int 0), (.int 0), (.int 0), (.int 0), (.int 0), (.int 0), (.int 0), (.int 0), (.int 0), (.int 0), (.int 0), (.int 0), (.int 0), (.int 0), (.int 0), (.int 0), (.int 0), (.int 0)] (.int 0) := Arv.set Ar11 q11 S11 N11' H11 G11' (fits_nar_char _) W11 9 rfl (Nat.le_of_ble_eq_true rfl)
  replace G := o_nxs (q := 58) (st := [(.ref b1)]) G st11 rfl
  replace G := o_dup (q := 59) G X11.here hx (hb hby d21_58) rfl rfl
  replace G := o_bipush (q := 61) G X11.here hx (hb hby d21_59) (v := (10 : Int32)) (by decide) rfl
  replace G := o_bipush (q := 63) G X11.here hx (hb hby d21_61) (v := (110 : Int32)) (by decide) rfl
  obtain ⟨c12, Ar12, q12, S12, N12', H12, G12'⟩ := id V11
  have hin12 : ¬ ((10 : Int32) < 0 ∨ c12.slots.size ≤ ((10 : Int32)).toNatClampNeg) := inb_of S12 ⟨by decide, by decide⟩
  obtain ⟨T12, h12, X12, e12, W12, st12⟩ := stC X11 hx hZ e11 Ar12 (j := (10 : Int32)) hin12 (g := o_g G) rfl rfl (hb hby d21_63)
  have N12 := Fr.snoc X12 N11 ge_b1
  have Z12 : n0 ≤ h12.size := Nat.le_trans Z11 (Keep.of_wr W12).1
  have K12 : Keep h0 h12 [] := K11.wr W12 (Or.inr sz_b1)
  have V12 : Arv Z h12 b1 k1 .char (54 : Int32) [(.int 117), (.int 114), (.int 110), (.int 58), (.int 111), (.int 97), (.int 115), (.int 105), (.int 115), (.int 58), (.int 110), (.int 0), (.int 0), (.int 0), (.int 0), (.int 0), (.int 0), (.int 0), (.int 0), (.int 0), (.int 0), (.int 0), (.int 0), (.int 0), (.int 0), (.int 0), (.int 0), (.int 0), (.int 0), (.int 0), (.int 0), (.int 0), (.int 0), (.int 0), (.int 0), (.int 0), (.int 0), (.int 0), (.int 0), (.int 0), (.int 0), (.int 0), (.int 0), (.int 0), (.int 0), (.int 0), (.int 0), (.int 0), (.int 0), (.int 0), (.int 0), (.int 0), (.int 0), (.int 0)] (.int 0) := Arv.set Ar12 q12 S12 N12' H12 G12' (fits_nar_char _) W12 10 rfl (Nat.le_of_ble_eq_true rfl)
  replace G := o_nxs (q := 64) (st := [(.ref b1)]) G st12 rfl
  replace G := o_dup (q := 65) G X12.here hx (hb hby d21_64) rfl rfl
  replace G := o_bipush (q := 67) G X12.here hx (hb hby d21_65) (v := (11 : Int32)) (by decide) rfl
  replace G := o_bipush (q := 69) G X12.here hx (hb hby d21_67) (v := (97 : Int32)) (by decide) rfl
  obtain ⟨c13, Ar13, q13, S13, N13', H13, G13'⟩ := id V12
  have hin13 : ¬ ((11 : Int32) < 0 ∨ c13.slots.size ≤ ((11 : Int32)).toNatClampNeg) := inb_of S13 ⟨by decide, by decide⟩
  obtain ⟨T13, h13, X13, e13, W13, st13⟩ := stC X12 hx hZ e12 Ar13 (j := (11 : Int32)) hin13 (g := o_g G) rfl rfl (hb hby d21_69)
  have N13 := Fr.snoc X13 N12 ge_b1
  have Z13 : n0 ≤ h13.size := Nat.le_trans Z12 (Keep.of_wr W13).1
  have K13 : Keep h0 h13 [] := K12.wr W13 (Or.inr sz_b1)
  have V13 : Arv Z h13 b1 k1 .char (54 : Int32) [(.int 117), (.int 114), (.int 110), (.int 58), (.int 111), (.int 97), (.int 115), (.int 105), (.int 115), (.int 58), (.int 110), (.int 97), (.int 0), (.int 0), (.int 0), (.int 0), (.int 0), (.int 0), (.int 0), (.int 0), (.int 0), (.int 0), (.int 0), (.int 0), (.int 0), (.int 0), (.int 0), (.int 0), (.int 0), (.int 0), (.int 0), (.int 0), (.int 0), (.int 0), (.int 0), (.int 0), (.int 0), (.int 0), (.int 0), (.int 0), (.int 0), (.int 0), (.int 0), (.int 0), (.int 0), (.int 0), (.int 0), (.int 0), (.int 0), (.int 0), (.int 0), (.int 0), (.int 0), (.int 0)] (.int 0) := Arv.set Ar13 q13 S13 N13' H13 G13' (fits_nar_char _) W13 11 rfl (Nat.le_of_ble_eq_true rfl)
  replace G := o_nxs (q := 70) (st := [(.ref b1)]) G st13 rfl
  replace G := o_dup (q := 71) G X13.here hx (hb hby d21_70) rfl rfl
  replace G := o_bipush (q := 73) G X13.here hx (hb hby d21_71) (v := (12 : Int32)) (by decide) rfl
  replace G := o_bipush (q := 75) G X13.here hx (hb hby d21_73) (v := (109 : Int32)) (by decide) rfl
  obtain ⟨c14, Ar14, q14, S14, N14', H14, G14'⟩ := id V13
  have hin14 : ¬ ((12 : Int32) < 0 ∨ c14.slots.size ≤ ((12 : Int32)).toNatClampNeg) := inb_of S14 ⟨by decide, by decide⟩
  obtain ⟨T14, h14, X14, e14, W14, st14⟩ := stC X13 hx hZ e13 Ar14 (j := (12 : Int32)) hin14 (g := o_g G) rfl rfl (hb hby d21_75)
  have N14 := Fr.snoc X14 N13 ge_b1
  have Z14 : n0 ≤ h14.size := Nat.le_trans Z13 (Keep.of_wr W14).1
  have K14 : Keep h0 h14 [] := K13.wr W14 (Or.inr sz_b1)
  have V14 : Arv Z h14 b1 k1 .char (54 : Int32) [(.int 117), (.int 114), (.int 110), (.int 58), (.int 111), (.int 97), (.int 115), (.int 105), (.int 115), (.int 58), (.int 110), (.int 97), (.int 109), (.int 0), (.int 0), (.int 0), (.int 0), (.int 0), (.int 0), (.int 0), (.int 0), (.int 0), (.int 0), (.int 0), (.int 0), (.int 0), (.int 0), (.int 0), (.int 0), (.int 0), (.int 0), (.int 0), (.int 0), (.int 0), (.int 0), (.int 0), (.int 0), (.int 0), (.int 0), (.int 0), (.int 0), (.int 0), (.int 0), (.int 0), (.int 0), (.int 0), (.int 0), (.int 0), (.int 0), (.int 0), (.int 0), (.int 0), (.int 0), (.int 0)] (.int 0) := Arv.set Ar14 q14 S14 N14' H14 G14' (fits_nar_char _) W14 12 rfl (Nat.le_of_ble_eq_true rfl)
  replace G := o_nxs (q := 76) (st := [(.ref b1)]) G st14 rfl
  replace G := o_dup (q := 77) G X14.here hx (hb hby d21_76) rfl rfl
  replace G := o_bipush (q := 79) G X14.here hx (hb hby d21_77) (v := (13 : Int32)) (by decide) rfl
  replace G := o_bipush (q := 81) G X14.here hx (hb hby d21_79) (v := (101 : Int32)) (by decide) rfl
  obtain ⟨c15, Ar15, q15, S15, N15', H15, G15'⟩ := id V14
  have hin15 : ¬ ((13 : Int32) < 0 ∨ c15.slots.size ≤ ((13 : Int32)).toNatClampNeg) := inb_of S15 ⟨by decide, by decide⟩
  obtain ⟨T15, h15, X15, e15, W15, st15⟩ := stC X14 hx hZ e14 Ar15 (j := (13 : Int32)) hin15 (g := o_g G) rfl rfl (hb hby d21_81)
  have N15 := Fr.snoc X15 N14 ge_b1
  have Z15 : n0 ≤ h15.size := Nat.le_trans Z14 (Keep.of_wr W15).1
  have K15 : Keep h0 h15 [] := K14.wr W15 (Or.inr sz_b1)
  have V15 : Arv Z h15 b1 k1 .char (54 : Int32) [(.int 117), (.int 114), (.int 110), (.int 58), (.int 111), (.int 97), (.int 115), (.int 105), (.int 115), (.int 58), (.int 110), (.int 97), (.int 109), (.int 101), (.int 0), (.int 0), (.int 0), (.int 0), (.int 0), (.int 0), (.int 0), (.int 0), (.int 0), (.int 0), (.int 0), (.int 0), (.int 0), (.int 0), (.int 0), (.int 0), (.int 0), (.int 0), (.int 0), (.int 0), (.int 0), (.int 0), (.int 0), (.int 0), (.int 0), (.int 0), (.int 0), (.int 0), (.int 0), (.int 0), (.int 0), (.int 0), (.int 0), (.int 0), (.int 0), (.int 0), (.int 0), (.int 0), (.int 0), (.int 0)] (.int 0) := Arv.set Ar15 q15 S15 N15' H15 G15' (fits_nar_char _) W15 13 rfl (Nat.le_of_ble_eq_true rfl)
  replace G := o_nxs (q := 82) (st := [(.ref b1)]) G st15 rfl
  replace G := o_dup (q := 83) G X15.here hx (hb hby d21_82) rfl rfl
  replace G := o_bipush (q := 85) G X15.here hx (hb hby d21_83) (v := (14 : Int32)) (by decide) rfl
  replace G := o_bipush (q := 87) G X15.here hx (hb hby d21_85) (v := (115 : Int32)) (by decide) rfl
  obtain ⟨c16, Ar16, q16, S16, N16', H16, G16'⟩ := id V15
  have hin16 : ¬ ((14 : Int32) < 0 ∨ c16.slots.size ≤ ((14 : Int32)).toNatClampNeg) := inb_of S16 ⟨by decide, by decide⟩
  obtain ⟨T16, h16, X16, e16, W16, st16⟩ := stC X15 hx hZ e15 Ar16 (j := (14 : Int32)) hin16 (g := o_g G) rfl rfl (hb hby d21_87)
  have N16 := Fr.snoc X16 N15 ge_b1
  have Z16 : n0 ≤ h16.size := Nat.le_trans Z15 (Keep.of_wr W16).1
  have K16 : Keep h0 h16 [] := K15.wr W16 (Or.inr sz_b1)
  have V16 : Arv Z h16 b1 k1 .char (54 : Int32) [(.int 117), (.int 114), (.int 110), (.int 58), (.int 111), (.int 97), (.int 115), (.int 105), (.int 115), (.int 58), (.int 110), (.int 97), (.int 109), (.int 101), (.int 115), (.int 0), (.int 0), (.int 0), (.int 0), (.int 0), (.int 0), (.int 0), (.int 0), (.int 0), (.int 0), (.int 0), (.int 0), (.int 0), (.int 0), (.int 0), (.int 0), (.int 0), (.int 0), (.int 0), (.int 0), (.int 0), (.int 0), (.int 0), (.int 0), (.int 0), (.int 0), (.int 0), (.int 0), (.int 0), (.int 0), (.int 0), (.int 0), (.int 0), (.int 0), (.int 0), (.int 0), (.int 0), (.int 0), (.int 0)] (.int 0) := Arv.set Ar16 q16 S16 N16' H16 G16' (fits_nar_char _) W16 14 rfl (Nat.le_of_ble_eq_true rfl)
  replace G := o_nxs (q := 88) (st := [(.ref b1)]) G st16 rfl
  replace G := o_dup (q := 89) G X16.here hx (hb hby d21_88) rfl rfl
  replace G := o_bipush (q := 91) G X16.here hx (hb hby d21_89) (v := (15 : Int32)) (by decide) rfl
  replace G := o_bipush (q := 93) G X16.here hx (hb hby d21_91) (v := (58 : Int32)) (by decide) rfl
  obtain ⟨c17, Ar17, q17, S17, N17', H17, G17'⟩ := id V16
  have hin17 : ¬ ((15 : Int32) < 0 ∨ c17.slots.size ≤ ((15 : Int32)).toNatClampNeg) := inb_of S17 ⟨by decide, by decide⟩
  obtain ⟨T17, h17, X17, e17, W17, st17⟩ := stC X16 hx hZ e16 Ar17 (j := (15 : Int32)) hin17 (g := o_g G) rfl rfl (hb hby d21_93)
  have N17 := Fr.snoc X17 N16 ge_b1
  have Z17 : n0 ≤ h17.size := Nat.le_trans Z16 (Keep.of_wr W17).1
  have K17 : Keep h0 h17 [] := K16.wr W17 (Or.inr sz_b1)
  have V17 : Arv Z h17 b1 k1 .char (54 : Int32) [(.int 117), (.int 114), (.int 110), (.int 58), (.int 111), (.int 97), (.int 115), (.int 105), (.int 115), (.int 58), (.int 110), (.int 97), (.int 109), (.int 101), (.int 115), (.int 58), (.int 0), (.int 0), (.int 0), (.int 0), (.int 0), (.int 0), (.int 0), (.int 0), (.int 0), (.int 0), (.int 0), (.int 0), (.int 0), (.int 0), (.int 0), (.int 0), (.int 0), (.int 0), (.int 0), (.int 0), (.int 0), (.int 0), (.int 0), (.int 0), (.int 0), (.int 0), (.int 0), (.int 0), (.int 0), (.int 0), (.int 0), (.int 0), (.int 0), (.int 0), (.int 0), (.int 0), (.int 0), (.int 0)] (.int 0) := Arv.set Ar17 q17 S17 N17' H17 G17' (fits_nar_char _) W17 15 rfl (Nat.le_of_ble_eq_true rfl)
  replace G := o_nxs (q := 94) (st := [(.ref b1)]) G st17 rfl
  replace G := o_dup (q := 95) G X17.here hx (hb hby d21_94) rfl rfl
  replace G := o_bipush (q := 97) G X17.here hx (hb hby d21_95) (v := (16 : Int32)) (by decide) rfl
  replace G := o_bipush (q := 99) G X17.here hx (hb hby d21_97) (v := (116 : Int32)) (by decide) rfl
  obtain ⟨c18, Ar18, q18, S18, N18', H18, G18'⟩ := id V17
  have hin18 : ¬ ((16 : Int32) < 0 ∨ c18.slots.size ≤ ((16 : Int32)).toNatClampNeg) := inb_of S18 ⟨by decide, by decide⟩
  obtain ⟨T18, h18, X18, e18, W18, st18⟩ := stC X17 hx hZ e17 Ar18 (j := (16 : Int32)) hin18 (g := o_g G) rfl rfl (hb hby d21_99)
  have N18 := Fr.snoc X18 N17 ge_b1
  have Z18 : n0 ≤ h18.size := Nat.le_trans Z17 (Keep.of_wr W18).1
  have K18 : Keep h0 h18 [] := K17.wr W18 (Or.inr sz_b1)
  have V18 : Arv Z h18 b1 k1 .char (54 : Int32) [(.int 117), (.int 114), (.int 110), (.int 58), (.int 111), (.int 97), (.int 115), (.int 105), (.int 115), (.int 58), (.int 110), (.int 97), (.int 109), (.int 101), (.int 115), (.int 58), (.int 116), (.int 0), (.int 0), (.int 0), (.int 0), (.int 0), (.int 0), (.int 0), (.int 0), (.int 0), (.int 0), (.int 0), (.int 0), (.int 0), (.int 0), (.int 0), (.int 0), (.int 0), (.int 0), (.int 0), (.int 0), (.int 0), (.int 0), (.int 0), (.int 0), (.int 0), (.int 0), (.int 0), (.int 0), (.int 0), (.int 0), (.int 0), (.int 0), (.int 0), (.int 0), (.int 0), (.int 0), (.int 0)] (.int 0) := Arv.set Ar18 q18 S18 N18' H18 G18' (fits_nar_char _) W18 16 rfl (Nat.le_of_ble_eq_true rfl)
  replace G := o_nxs (q := 100) (st := [(.ref b1)]) G st18 rfl
  replace G := o_dup (q := 101) G X18.here hx (hb hby d21_100) rfl rfl
  replace G := o_bipush (q := 103) G X18.here hx (hb hby d21_101) (v := (17 : Int32)) (by decide) rfl
  replace G := o_bipush (q := 105) G X18.here hx (hb hby d21_103) (v := (99 : Int32)) (by decide) rfl
  obtain ⟨c19, Ar19, q19, S19, N19', H19, G19'⟩ := id V18
  have hin19 : ¬ ((17 : Int32) < 0 ∨ c19.slots.size ≤ ((17 : Int32)).toNatClampNeg) := inb_of S19 ⟨by decide, by decide⟩
  obtain ⟨T19, h19, X19, e19, W19, st19⟩ := stC X18 hx hZ e18 Ar19 (j := (17 : Int32)) hin19 (g := o_g G) rfl rfl (hb hby d21_105)
  have N19 := Fr.snoc X19 N18 ge_b1
  have Z19 : n0 ≤ h19.size := Nat.le_trans Z18 (Keep.of_wr W19).1
  have K19 : Keep h0 h19 [] := K18.wr W19 (Or.inr sz_b1)
  have V19 : Arv Z h19 b1 k1 .char (54 : Int32) [(.int 117), (.int 114), (.int 110), (.int 58), (.int 111), (.int 97), (.int 115), (.int 105), (.int 115), (.int 58), (.int 110), (.int 97), (.int 109), (.int 101), (.int 115), (.int 58), (.int 116), (.int 99), (.int 0), (.int 0), (.int 0), (.int 0), (.int 0), (.int 0), (.int 0), (.int 0), (.int 0), (.int 0), (.int 0), (.int 0), (.int 0), (.int 0), (.int 0), (.int 0), (.int 0), (.int 0), (.int 0), (.int 0), (.int 0), (.int 0), (.int 0), (.int 0), (.int 0), (.int 0), (.int 0), (.int 0), (.int 0), (.int 0), (.int 0), (.int 0), (.int 0), (.int 0), (.int 0), (.int 0)] (.int 0) := Arv.set Ar19 q19 S19 N19' H19 G19' (fits_nar_char _) W19 17 rfl (Nat.le_of_ble_eq_true rfl)
  replace G := o_nxs (q := 106) (st := [(.ref b1)]) G st19 rfl
  replace G := o_dup (q := 107) G X19.here hx (hb hby d21_106) rfl rfl
  replace G := o_bipush (q := 109) G X19.here hx (hb hby d21_107) (v := (18 : Int32)) (by decide) rfl
  replace G := o_bipush (q := 111) G X19.here hx (hb hby d21_109) (v := (58 : Int32)) (by decide) rfl
  obtain ⟨c20, Ar20, q20, S20, N20', H20, G20'⟩ := id V19
  have hin20 : ¬ ((18 : Int32) < 0 ∨ c20.slots.size ≤ ((18 : Int32)).toNatClampNeg) := inb_of S20 ⟨by decide, by decide⟩
  obtain ⟨T20, h20, X20, e20, W20, st20⟩ := stC X19 hx hZ e19 Ar20 (j := (18 : Int32)) hin20 (g := o_g G) rfl rfl (hb hby d21_111)
  have N20 := Fr.snoc X20 N19 ge_b1
  have Z20 : n0 ≤ h20.size := Nat.le_trans Z19 (Keep.of_wr W20).1
  have K20 : Keep h0 h20 [] := K19.wr W20 (Or.inr sz_b1)
  have V20 : Arv Z h20 b1 k1 .char (54 : Int32) [(.int 117), (.int 114), (.int 110), (.int 58), (.int 111), (.int 97), (.int 115), (.int 105), (.int 115), (.int 58), (.int 110), (.int 97), (.int 109), (.int 101), (.int 115), (.int 58), (.int 116), (.int 99), (.int 58), (.int 0), (.int 0), (.int 0), (.int 0), (.int 0), (.int 0), (.int 0), (.int 0), (.int 0), (.int 0), (.int 0), (.int 0), (.int 0), (.int 0), (.int 0), (.int 0), (.int 0), (.int 0), (.int 0), (.int 0), (.int 0), (.int 0), (.int 0), (.int 0), (.int 0), (.int 0), (.int 0), (.int 0), (.int 0), (.int 0), (.int 0), (.int 0), (.int 0), (.int 0), (.int 0)] (.int 0) := Arv.set Ar20 q20 S20 N20' H20 G20' (fits_nar_char _) W20 18 rfl (Nat.le_of_ble_eq_true rfl)
  replace G := o_nxs (q := 112) (st := [(.ref b1)]) G st20 rfl
  replace G := o_dup (q := 113) G X20.here hx (hb hby d21_112) rfl rfl
  replace G := o_bipush (q := 115) G X20.here hx (hb hby d21_113) (v := (19 : Int32)) (by decide) rfl
  replace G := o_bipush (q := 117) G X20.here hx (hb hby d21_115) (v := (83 : Int32)) (by decide) rfl
  obtain ⟨c21, Ar21, q21, S21, N21', H21, G21'⟩ := id V20
  have hin21 : ¬ ((19 : Int32) < 0 ∨ c21.slots.size ≤ ((19 : Int32)).toNatClampNeg) := inb_of S21 ⟨by decide, by decide⟩
  obtain ⟨T21, h21, X21, e21, W21, st21⟩ := stC X20 hx hZ e20 Ar21 (j := (19 : Int32)) hin21 (g := o_g G) rfl rfl (hb hby d21_117)
  have N21 := Fr.snoc X21 N20 ge_b1
  have Z21 : n0 ≤ h21.size := Nat.le_trans Z20 (Keep.of_wr W21).1
  have K21 : Keep h0 h21 [] := K20.wr W21 (Or.inr sz_b1)
  have V21 : Arv Z h21 b1 k1 .char (54 : Int32) [(.int 117), (.int 114), (.int 110), (.int 58), (.int 111), (.int 97), (.int 115), (.int 105), (.int 115), (.int 58), (.int 110), (.int 97), (.int 109), (.int 101), (.int 115), (.int 58), (.int 116), (.int 99), (.int 58), (.int 83), (.int 0), (.int 0), (.int 0), (.int 0), (.int 0), (.int 0), (.int 0), (.int 0), (.int 0), (.int 0), (.int 0), (.int 0), (.int 0), (.int 0), (.int 0), (.int 0), (.int 0), (.int 0), (.int 0), (.int 0), (.int 0), (.int 0), (.int 0), (.int 0), (.int 0), (.int 0), (.int 0), (.int 0), (.int 0), (.int 0), (.int 0), (.int 0), (.int 0), (.int 0)] (.int 0) := Arv.set Ar21 q21 S21 N21' H21 G21' (fits_nar_char _) W21 19 rfl (Nat.le_of_ble_eq_true rfl)
  replace G := o_nxs (q := 118) (st := [(.ref b1)]) G st21 rfl
  replace G := o_dup (q := 119) G X21.here hx (hb hby d21_118) rfl rfl
  replace G := o_bipush (q := 121) G X21.here hx (hb hby d21_119) (v := (20 : Int32)) (by decide) rfl
  replace G := o_bipush (q := 123) G X21.here hx (hb hby d21_121) (v := (65 : Int32)) (by decide) rfl
  obtain ⟨c22, Ar22, q22, S22, N22', H22, G22'⟩ := id V21
  have hin22 : ¬ ((20 : Int32) < 0 ∨ c22.slots.size ≤ ((20 : Int32)).toNatClampNeg) := inb_of S22 ⟨by decide, by decide⟩
  obtain ⟨T22, h22, X22, e22, W22, st22⟩ := stC X21 hx hZ e21 Ar22 (j := (20 : Int32)) hin22 (g := o_g G) rfl rfl (hb hby d21_123)
  have N22 := Fr.snoc X22 N21 ge_b1
  have Z22 : n0 ≤ h22.size := Nat.le_trans Z21 (Keep.of_wr W22).1
  have K22 : Keep h0 h22 [] := K21.wr W22 (Or.inr sz_b1)
  have V22 : Arv Z h22 b1 k1 .char (54 : Int32) [(.int 117), (.int 114), (.int 110), (.int 58), (.int 111), (.int 97), (.int 115), (.int 105), (.int 115), (.int 58), (.int 110), (.int 97), (.int 109), (.int 101), (.int 115), (.int 58), (.int 116), (.int 99), (.int 58), (.int 83), (.int 65), (.int 0), (.int 0), (.int 0), (.int 0), (.int 0), (.int 0), (.int 0), (.int 0), (.int 0), (.int 0), (.int 0), (.int 0), (.int 0), (.int 0), (.int 0), (.int 0), (.int 0), (.int 0), (.int 0), (.int 0), (.int 0), (.int 0), (.int 0), (.int 0), (.int 0), (.int 0), (.int 0), (.int 0), (.int 0), (.int 0), (.int 0), (.int 0), (.int 0)] (.int 0) := Arv.set Ar22 q22 S22 N22' H22 G22' (fits_nar_char _) W22 20 rfl (Nat.le_of_ble_eq_true rfl)
  replace G := o_nxs (q := 124) (st := [(.ref b1)]) G st22 rfl
  replace G := o_dup (q := 125) G X22.here hx (hb hby d21_124) rfl rfl
  replace G := o_bipush (q := 127) G X22.here hx (hb hby d21_125) (v := (21 : Int32)) (by decide) rfl
  replace G := o_bipush (q := 129) G X22.here hx (hb hby d21_127) (v := (77 : Int32)) (by decide) rfl
  obtain ⟨c23, Ar23, q23, S23, N23', H23, G23'⟩ := id V22
  have hin23 : ¬ ((21 : Int32) < 0 ∨ c23.slots.size ≤ ((21 : Int32)).toNatClampNeg) := inb_of S23 ⟨by decide, by decide⟩
  obtain ⟨T23, h23, X23, e23, W23, st23⟩ := stC X22 hx hZ e22 Ar23 (j := (21 : Int32)) hin23 (g := o_g G) rfl rfl (hb hby d21_129)
  have N23 := Fr.snoc X23 N22 ge_b1
  have Z23 : n0 ≤ h23.size := Nat.le_trans Z22 (Keep.of_wr W23).1
  have K23 : Keep h0 h23 [] := K22.wr W23 (Or.inr sz_b1)
  have V23 : Arv Z h23 b1 k1 .char (54 : Int32) [(.int 117), (.int 114), (.int 110), (.int 58), (.int 111), (.int 97), (.int 115), (.int 105), (.int 115), (.int 58), (.int 110), (.int 97), (.int 109), (.int 101), (.int 115), (.int 58), (.int 116), (.int 99), (.int 58), (.int 83), (.int 65), (.int 77), (.int 0), (.int 0), (.int 0), (.int 0), (.int 0), (.int 0), (.int 0), (.int 0), (.int 0), (.int 0), (.int 0), (.int 0), (.int 0), (.int 0), (.int 0), (.int 0), (.int 0), (.int 0), (.int 0), (.int 0), (.int 0), (.int 0), (.int 0), (.int 0), (.int 0), (.int 0), (.int 0), (.int 0), (.int 0), (.int 0), (.int 0), (.int 0)] (.int 0) := Arv.set Ar23 q23 S23 N23' H23 G23' (fits_nar_char _) W23 21 rfl (Nat.le_of_ble_eq_true rfl)
  replace G := o_nxs (q := 130) (st := [(.ref b1)]) G st23 rfl
  replace G := o_dup (q := 131) G X23.here hx (hb hby d21_130) rfl rfl
  replace G := o_bipush (q := 133) G X23.here hx (hb hby d21_131) (v := (22 : Int32)) (by decide) rfl
  replace G := o_bipush (q := 135) G X23.here hx (hb hby d21_133) (v := (76 : Int32)) (by decide) rfl
  obtain ⟨c24, Ar24, q24, S24, N24', H24, G24'⟩ := id V23
  have hin24 : ¬ ((22 : Int32) < 0 ∨ c24.slots.size ≤ ((22 : Int32)).toNatClampNeg) := inb_of S24 ⟨by decide, by decide⟩
  obtain ⟨T24, h24, X24, e24, W24, st24⟩ := stC X23 hx hZ e23 Ar24 (j := (22 : Int32)) hin24 (g := o_g G) rfl rfl (hb hby d21_135)
  have N24 := Fr.snoc X24 N23 ge_b1
  have Z24 : n0 ≤ h24.size := Nat.le_trans Z23 (Keep.of_wr W24).1
  have K24 : Keep h0 h24 [] := K23.wr W24 (Or.inr sz_b1)
  have V24 : Arv Z h24 b1 k1 .char (54 : Int32) [(.int 117), (.int 114), (.int 110), (.int 58), (.int 111), (.int 97), (.int 115), (.int 105), (.int 115), (.int 58), (.int 110), (.int 97), (.int 109), (.int 101), (.int 115), (.int 58), (.int 116), (.int 99), (.int 58), (.int 83), (.int 65), (.int 77), (.int 76), (.int 0), (.int 0), (.int 0), (.int 0), (.int 0), (.int 0), (.int 0), (.int 0), (.int 0), (.int 0), (.int 0), (.int 0), (.int 0), (.int 0), (.int 0), (.int 0), (.int 0), (.int 0), (.int 0), (.int 0), (.int 0), (.int 0), (.int 0), (.int 0), (.int 0), (.int 0), (.int 0), (.int 0), (.int 0), (.int 0), (.int 0)] (.int 0) := Arv.set Ar24 q24 S24 N24' H24 G24' (fits_nar_char _) W24 22 rfl (Nat.le_of_ble_eq_true rfl)
  replace G := o_nxs (q := 136) (st := [(.ref b1)]) G st24 rfl
  replace G := o_dup (q := 137) G X24.here hx (hb hby d21_136) rfl rfl
  replace G := o_bipush (q := 139) G X24.here hx (hb hby d21_137) (v := (23 : Int32)) (by decide) rfl
  replace G := o_bipush (q := 141) G X24.here hx (hb hby d21_139) (v := (58 : Int32)) (by decide) rfl
  obtain ⟨c25, Ar25, q25, S25, N25', H25, G25'⟩ := id V24
  have hin25 : ¬ ((23 : Int32) < 0 ∨ c25.slots.size ≤ ((23 : Int32)).toNatClampNeg) := inb_of S25 ⟨by decide, by decide⟩
  obtain ⟨T25, h25, X25, e25, W25, st25⟩ := stC X24 hx hZ e24 Ar25 (j := (23 : Int32)) hin25 (g := o_g G) rfl rfl (hb hby d21_141)
  have N25 := Fr.snoc X25 N24 ge_b1
  have Z25 : n0 ≤ h25.size := Nat.le_trans Z24 (Keep.of_wr W25).1
  have K25 : Keep h0 h25 [] := K24.wr W25 (Or.inr sz_b1)
  have V25 : Arv Z h25 b1 k1 .char (54 : Int32) [(.int 117), (.int 114), (.int 110), (.int 58), (.int 111), (.int 97), (.int 115), (.int 105), (.int 115), (.int 58), (.int 110), (.int 97), (.int 109), (.int 101), (.int 115), (.int 58), (.int 116), (.int 99), (.int 58), (.int 83), (.int 65), (.int 77), (.int 76), (.int 58), (.int 0), (.int 0), (.int 0), (.int 0), (.int 0), (.int 0), (.int 0), (.int 0), (.int 0), (.int 0), (.int 0), (.int 0), (.int 0), (.int 0), (.int 0), (.int 0), (.int 0), (.int 0), (.int 0), (.int 0), (.int 0), (.int 0), (.int 0), (.int 0), (.int 0), (.int 0), (.int 0), (.int 0), (.int 0), (.int 0)] (.int 0) := Arv.set Ar25 q25 S25 N25' H25 G25' (fits_nar_char _) W25 23 rfl (Nat.le_of_ble_eq_true rfl)
  replace G := o_nxs (q := 142) (st := [(.ref b1)]) G st25 rfl
  replace G := o_dup (q := 143) G X25.here hx (hb hby d21_142) rfl rfl
  replace G := o_bipush (q := 145) G X25.here hx (hb hby d21_143) (v := (24 : Int32)) (by decide) rfl
  replace G := o_bipush (q := 147) G X25.here hx (hb hby d21_145) (v := (49 : Int32)) (by decide) rfl
  obtain ⟨c26, Ar26, q26, S26, N26', H26, G26'⟩ := id V25
  have hin26 : ¬ ((24 : Int32) < 0 ∨ c26.slots.size ≤ ((24 : Int32)).toNatClampNeg) := inb_of S26 ⟨by decide, by decide⟩
  obtain ⟨T26, h26, X26, e26, W26, st26⟩ := stC X25 hx hZ e25 Ar26 (j := (24 : Int32)) hin26 (g := o_g G) rfl rfl (hb hby d21_147)
  have N26 := Fr.snoc X26 N25 ge_b1
  have Z26 : n0 ≤ h26.size := Nat.le_trans Z25 (Keep.of_wr W26).1
  have K26 : Keep h0 h26 [] := K25.wr W26 (Or.inr sz_b1)
  have V26 : Arv Z h26 b1 k1 .char (54 : Int32) [(.int 117), (.int 114), (.int 110), (.int 58), (.int 111), (.int 97), (.int 115), (.int 105), (.int 115), (.int 58), (.int 110), (.int 97), (.int 109), (.int 101), (.int 115), (.int 58), (.int 116), (.int 99), (.int 58), (.int 83), (.int 65), (.int 77), (.int 76), (.int 58), (.int 49), (.int 0), (.int 0), (.int 0), (.int 0), (.int 0), (.int 0), (.int 0), (.int 0), (.int 0), (.int 0), (.int 0), (.int 0), (.int 0), (.int 0), (.int 0), (.int 0), (.int 0), (.int 0), (.int 0), (.int 0), (.int 0), (.int 0), (.int 0), (.int 0), (.int 0), (.int 0), (.int 0), (.int 0), (.int 0)] (.int 0) := Arv.set Ar26 q26 S26 N26' H26 G26' (fits_nar_char _) W26 24 rfl (Nat.le_of_ble_eq_true rfl)
  replace G := o_nxs (q := 148) (st := [(.ref b1)]) G st26 rfl
  replace G := o_dup (q := 149) G X26.here hx (hb hby d21_148) rfl rfl
  replace G := o_bipush (q := 151) G X26.here hx (hb hby d21_149) (v := (25 : Int32)) (by decide) rfl
  replace G := o_bipush (q := 153) G X26.here hx (hb hby d21_151) (v := (46 : Int32)) (by decide) rfl
  obtain ⟨c27, Ar27, q27, S27, N27', H27, G27'⟩ := id V26
  have hin27 : ¬ ((25 : Int32) < 0 ∨ c27.slots.size ≤ ((25 : Int32)).toNatClampNeg) := inb_of S27 ⟨by decide, by decide⟩
  obtain ⟨T27, h27, X27, e27, W27, st27⟩ := stC X26 hx hZ e26 Ar27 (j := (25 : Int32)) hin27 (g := o_g G) rfl rfl (hb hby d21_153)
  have N27 := Fr.snoc X27 N26 ge_b1
  have Z27 : n0 ≤ h27.size := Nat.le_trans Z26 (Keep.of_wr W27).1
  have K27 : Keep h0 h27 [] := K26.wr W27 (Or.inr sz_b1)
  have V27 : Arv Z h27 b1 k1 .char (54 : Int32) [(.int 117), (.int 114), (.int 110), (.int 58), (.int 111), (.int 97), (.int 115), (.int 105), (.int 115), (.int 58), (.int 110), (.int 97), (.int 109), (.int 101), (.int 115), (.int 58), (.int 116), (.int 99), (.int 58), (.int 83), (.int 65), (.int 77), (.int 76), (.int 58), (.int 49), (.int 46), (.int 0), (.int 0), (.int 0), (.int 0), (.int 0), (.int 0), (.int 0), (.int 0), (.int 0), (.int 0), (.int 0), (.int 0), (.int 0), (.int 0), (.int 0), (.int 0), (.int 0), (.int 0), (.int 0), (.int 0), (.int 0), (.int 0), (.int 0), (.int 0), (.int 0), (.int 0), (.int 0), (.int 0)] (.int 0) := Arv.set Ar27 q27 S27 N27' H27 G27' (fits_nar_char _) W27 25 rfl (Nat.le_of_ble_eq_true rfl)
  replace G := o_nxs (q := 154) (st := [(.ref b1)]) G st27 rfl
  replace G := o_dup (q := 155) G X27.here hx (hb hby d21_154) rfl rfl
  replace G := o_bipush (q := 157) G X27.here hx (hb hby d21_155) (v := (26 : Int32)) (by decide) rfl
  replace G := o_bipush (q := 159) G X27.here hx (hb hby d21_157) (v := (49 : Int32)) (by decide) rfl
  obtain ⟨c28, Ar28, q28, S28, N28', H28, G28'⟩ := id V27
  have hin28 : ¬ ((26 : Int32) < 0 ∨ c28.slots.size ≤ ((26 : Int32)).toNatClampNeg) := inb_of S28 ⟨by decide, by decide⟩
  obtain ⟨T28, h28, X28, e28, W28, st28⟩ := stC X27 hx hZ e27 Ar28 (j := (26 : Int32)) hin28 (g := o_g G) rfl rfl (hb hby d21_159)
  have N28 := Fr.snoc X28 N27 ge_b1
  have Z28 : n0 ≤ h28.size := Nat.le_trans Z27 (Keep.of_wr W28).1
  have K28 : Keep h0 h28 [] := K27.wr W28 (Or.inr sz_b1)
  have V28 : Arv Z h28 b1 k1 .char (54 : Int32) [(.int 117), (.int 114), (.int 110), (.int 58), (.int 111), (.int 97), (.int 115), (.int 105), (.int 115), (.int 58), (.int 110), (.int 97), (.int 109), (.int 101), (.int 115), (.int 58), (.int 116), (.int 99), (.int 58), (.int 83), (.int 65), (.int 77), (.int 76), (.int 58), (.int 49), (.int 46), (.int 49), (.int 0), (.int 0), (.int 0), (.int 0), (.int 0), (.int 0), (.int 0), (.int 0), (.int 0), (.int 0), (.int 0), (.int 0), (.int 0), (.int 0), (.int 0), (.int 0), (.int 0), (.int 0), (.int 0), (.int 0), (.int 0), (.int 0), (.int 0), (.int 0), (.int 0), (.int 0), (.int 0)] (.int 0) := Arv.set Ar28 q28 S28 N28' H28 G28' (fits_nar_char _) W28 26 rfl (Nat.le_of_ble_eq_true rfl)
  replace G := o_nxs (q := 160) (st := [(.ref b1)]) G st28 rfl
  replace G := o_dup (q := 161) G X28.here hx (hb hby d21_160) rfl rfl
  replace G := o_bipush (q := 163) G X28.here hx (hb hby d21_161) (v := (27 : Int32)) (by decide) rfl
  replace G := o_bipush (q := 165) G X28.here hx (hb hby d21_163) (v := (58 : Int32)) (by decide) rfl
  obtain ⟨c29, Ar29, q29, S29, N29', H29, G29'⟩ := id V28
  have hin29 : ¬ ((27 : Int32) < 0 ∨ c29.slots.size ≤ ((27 : Int32)).toNatClampNeg) := inb_of S29 ⟨by decide, by decide⟩
  obtain ⟨T29, h29, X29, e29, W29, st29⟩ := stC X28 hx hZ e28 Ar29 (j := (27 : Int32)) hin29 (g := o_g G) rfl rfl (hb hby d21_165)
  have N29 := Fr.snoc X29 N28 ge_b1
  have Z29 : n0 ≤ h29.size := Nat.le_trans Z28 (Keep.of_wr W29).1
  have K29 : Keep h0 h29 [] := K28.wr W29 (Or.inr sz_b1)
  have V29 : Arv Z h29 b1 k1 .char (54 : Int32) [(.int 117), (.int 114), (.int 110), (.int 58), (.int 111), (.int 97), (.int 115), (.int 105), (.int 115), (.int 58), (.int 110), (.int 97), (.int 109), (.int 101), (.int 115), (.int 58), (.int 116), (.int 99), (.int 58), (.int 83), (.int 65), (.int 77), (.int 76), (.int 58), (.int 49), (.int 46), (.int 49), (.int 58), (.int 0), (.int 0), (.int 0), (.int 0), (.int 0), (.int 0), (.int 0), (.int 0), (.int 0), (.int 0), (.int 0), (.int 0), (.int 0), (.int 0), (.int 0), (.int 0), (.int 0), (.int 0), (.int 0), (.int 0), (.int 0), (.int 0), (.int 0), (.int 0), (.int 0), (.int 0)] (.int 0) := Arv.set Ar29 q29 S29 N29' H29 G29' (fits_nar_char _) W29 27 rfl (Nat.le_of_ble_eq_true rfl)
  replace G := o_nxs (q := 166) (st := [(.ref b1)]) G st29 rfl
  replace G := o_dup (q := 167) G X29.here hx (hb hby d21_166) rfl rfl
  replace G := o_bipush (q := 169) G X29.here hx (hb hby d21_167) (v := (28 : Int32)) (by decide) rfl
  replace G := o_bipush (q := 171) G X29.here hx (hb hby d21_169) (v := (110 : Int32)) (by decide) rfl
  obtain ⟨c30, Ar30, q30, S30, N30', H30, G30'⟩ := id V29
  have hin30 : ¬ ((28 : Int32) < 0 ∨ c30.slots.size ≤ ((28 : Int32)).toNatClampNeg) := inb_of S30 ⟨by decide, by decide⟩
  obtain ⟨T30, h30, X30, e30, W30, st30⟩ := stC X29 hx hZ e29 Ar30 (j := (28 : Int32)) hin30 (g := o_g G) rfl rfl (hb hby d21_171)
  have N30 := Fr.snoc X30 N29 ge_b1
  have Z30 : n0 ≤ h30.size := Nat.le_trans Z29 (Keep.of_wr W30).1
  have K30 : Keep h0 h30 [] := K29.wr W30 (Or.inr sz_b1)
  have V30 : Arv Z h30 b1 k1 .char (54 : Int32) [(.int 117), (.int 114), (.int 110), (.int 58), (.int 111), (.int 97), (.int 115), (.int 105), (.int 115), (.int 58), (.int 110), (.int 97), (.int 109), (.int 101), (.int 115), (.int 58), (.int 116), (.int 99), (.int 58), (.int 83), (.int 65), (.int 77), (.int 76), (.int 58), (.int 49), (.int 46), (.int 49), (.int 58), (.int 110), (.int 0), (.int 0), (.int 0), (.int 0), (.int 0), (.int 0), (.int 0), (.int 0), (.int 0), (.int 0), (.int 0), (.int 0), (.int 0), (.int 0), (.int 0), (.int 0), (.int 0), (.int 0), (.int 0), (.int 0), (.int 0), (.int 0), (.int 0), (.int 0), (.int 0)] (.int 0) := Arv.set Ar30 q30 S30 N30' H30 G30' (fits_nar_char _) W30 28 rfl (Nat.le_of_ble_eq_true rfl)
  replace G := o_nxs (q := 172) (st := [(.ref b1)]) G st30 rfl
  replace G := o_dup (q := 173) G X30.here hx (hb hby d21_172) rfl rfl
  replace G := o_bipush (q := 175) G X30.here hx (hb hby d21_173) (v := (29 : Int32)) (by decide) rfl
  replace G := o_bipush (q := 177) G X30.here hx (hb hby d21_175) (v := (97 : Int32)) (by decide) rfl
  obtain ⟨c31, Ar31, q31, S31, N31', H31, G31'⟩ := id V30
  have hin31 : ¬ ((29 : Int32) < 0 ∨ c31.slots.size ≤ ((29 : Int32)).toNatClampNeg) := inb_of S31 ⟨by decide, by decide⟩
  obtain ⟨T31, h31, X31, e31, W31, st31⟩ := stC X30 hx hZ e30 Ar31 (j := (29 : Int32)) hin31 (g := o_g G) rfl rfl (hb hby d21_177)
  have N31 := Fr.snoc X31 N30 ge_b1
  have Z31 : n0 ≤ h31.size := Nat.le_trans Z30 (Keep.of_wr W31).1
  have K31 : Keep h0 h31 [] := K30.wr W31 (Or.inr sz_b1)
  have V31 : Arv Z h31 b1 k1 .char (54 : Int32) [(.int 117), (.int 114), (.int 110), (.int 58), (.int 111), (.int 97), (.int 115), (.int 105), (.int 115), (.int 58), (.int 110), (.int 97), (.int 109), (.int 101), (.int 115), (.int 58), (.int 116), (.int 99), (.int 58), (.int 83), (.int 65), (.int 77), (.int 76), (.int 58), (.int 49), (.int 46), (.int 49), (.int 58), (.int 110), (.int 97), (.int 0), (.int 0), (.int 0), (.int 0), (.int 0), (.int 0), (.int 0), (.int 0), (.int 0), (.int 0), (.int 0), (.int 0), (.int 0), (.int 0), (.int 0), (.int 0), (.int 0), (.int 0), (.int 0), (.int 0), (.int 0), (.int 0), (.int 0), (.int 0)] (.int 0) := Arv.set Ar31 q31 S31 N31' H31 G31' (fits_nar_char _) W31 29 rfl (Nat.le_of_ble_eq_true rfl)
  replace G := o_nxs (q := 178) (st := [(.ref b1)]) G st31 rfl
  replace G := o_dup (q := 179) G X31.here hx (hb hby d21_178) rfl rfl
  replace G := o_bipush (q := 181) G X31.here hx (hb hby d21_179) (v := (30 : Int32)) (by decide) rfl
  replace G := o_bipush (q := 183) G X31.here hx (hb hby d21_181) (v := (109 : Int32)) (by decide) rfl
  obtain ⟨c32, Ar32, q32, S32, N32', H32, G32'⟩ := id V31
  have hin32 : ¬ ((30 : Int32) < 0 ∨ c32.slots.size ≤ ((30 : Int32)).toNatClampNeg) := inb_of S32 ⟨by decide, by decide⟩
  obtain ⟨T32, h32, X32, e32, W32, st32⟩ := stC X31 hx hZ e31 Ar32 (j := (30 : Int32)) hin32 (g := o_g G) rfl rfl (hb hby d21_183)
  have N32 := Fr.snoc X32 N31 ge_b1
  have Z32 : n0 ≤ h32.size := Nat.le_trans Z31 (Keep.of_wr W32).1
  have K32 : Keep h0 h32 [] := K31.wr W32 (Or.inr sz_b1)
  have V32 : Arv Z h32 b1 k1 .char (54 : Int32) [(.int 117), (.int 114), (.int 110), (.int 58), (.int 111), (.int 97), (.int 115), (.int 105), (.int 115), (.int 58), (.int 110), (.int 97), (.int 109), (.int 101), (.int 115), (.int 58), (.int 116), (.int 99), (.int 58), (.int 83), (.int 65), (.int 77), (.int 76), (.int 58), (.int 49), (.int 46), (.int 49), (.int 58), (.int 110), (.int 97), (.int 109), (.int 0), (.int 0), (.int 0), (.int 0), (.int 0), (.int 0), (.int 0), (.int 0), (.int 0), (.int 0), (.int 0), (.int 0), (.int 0), (.int 0), (.int 0), (.int 0), (.int 0), (.int 0), (.int 0), (.int 0), (.int 0), (.int 0), (.int 0)] (.int 0) := Arv.set Ar32 q32 S32 N32' H32 G32' (fits_nar_char _) W32 30 rfl (Nat.le_of_ble_eq_true rfl)
  replace G := o_nxs (q := 184) (st := [(.ref b1)]) G st32 rfl
  replace G := o_dup (q := 185) G X32.here hx (hb hby d21_184) rfl rfl
  replace G := o_bipush (q := 187) G X32.here hx (hb hby d21_185) (v := (31 : Int32)) (by decide) rfl
  replace G := o_bipush (q := 189) G X32.here hx (hb hby d21_187) (v := (101 : Int32)) (by decide) rfl
  obtain ⟨c33, Ar33, q33, S33, N33', H33, G33'⟩ := id V32
  have hin33 : ¬ ((31 : Int32) < 0 ∨ c33.slots.size ≤ ((31 : Int32)).toNatClampNeg) := inb_of S33 ⟨by decide, by decide⟩
  obtain ⟨T33, h33, X33, e33, W33, st33⟩ := stC X32 hx hZ e32 Ar33 (j := (31 : Int32)) hin33 (g := o_g G) rfl rfl (hb hby d21_189)
  have N33 := Fr.snoc X33 N32 ge_b1
  have Z33 : n0 ≤ h33.size := Nat.le_trans Z32 (Keep.of_wr W33).1
  have K33 : Keep h0 h33 [] := K32.wr W33 (Or.inr sz_b1)
  have V33 : Arv Z h33 b1 k1 .char (54 : Int32) [(.int 117), (.int 114), (.int 110), (.int 58), (.int 111), (.int 97), (.int 115), (.int 105), (.int 115), (.int 58), (.int 110), (.int 97), (.int 109), (.int 101), (.int 115), (.int 58), (.int 116), (.int 99), (.int 58), (.int 83), (.int 65), (.int 77), (.int 76), (.int 58), (.int 49), (.int 46), (.int 49), (.int 58), (.int 110), (.int 97), (.int 109), (.int 101), (.int 0), (.int 0), (.int 0), (.int 0), (.int 0), (.int 0), (.int 0), (.int 0), (.int 0), (.int 0), (.int 0), (.int 0), (.int 0), (.int 0), (.int 0), (.int 0), (.int 0), (.int 0), (.int 0), (.int 0), (.int 0), (.int 0)] (.int 0) := Arv.set Ar33 q33 S33 N33' H33 G33' (fits_nar_char _) W33 31 rfl (Nat.le_of_ble_eq_true rfl)
  replace G := o_nxs (q := 190) (st := [(.ref b1)]) G st33 rfl
  replace G := o_dup (q := 191) G X33.here hx (hb hby d21_190) rfl rfl
  replace G := o_bipush (q := 193) G X33.here hx (hb hby d21_191) (v := (32 : Int32)) (by decide) rfl
  replace G := o_bipush (q := 195) G X33.here hx (hb hby d21_193) (v := (105 : Int32)) (by decide) rfl
  obtain ⟨c34, Ar34, q34, S34, N34', H34, G34'⟩ := id V33
  have hin34 : ¬ ((32 : Int32) < 0 ∨ c34.slots.size ≤ ((32 : Int32)).toNatClampNeg) := inb_of S34 ⟨by decide, by decide⟩
  obtain ⟨T34, h34, X34, e34, W34, st34⟩ := stC X33 hx hZ e33 Ar34 (j := (32 : Int32)) hin34 (g := o_g G) rfl rfl (hb hby d21_195)
  have N34 := Fr.snoc X34 N33 ge_b1
  have Z34 : n0 ≤ h34.size := Nat.le_trans Z33 (Keep.of_wr W34).1
  have K34 : Keep h0 h34 [] := K33.wr W34 (Or.inr sz_b1)
  have V34 : Arv Z h34 b1 k1 .char (54 : Int32) [(.int 117), (.int 114), (.int 110), (.int 58), (.int 111), (.int 97), (.int 115), (.int 105), (.int 115), (.int 58), (.int 110), (.int 97), (.int 109), (.int 101), (.int 115), (.int 58), (.int 116), (.int 99), (.int 58), (.int 83), (.int 65), (.int 77), (.int 76), (.int 58), (.int 49), (.int 46), (.int 49), (.int 58), (.int 110), (.int 97), (.int 109), (.int 101), (.int 105), (.int 0), (.int 0), (.int 0), (.int 0), (.int 0), (.int 0), (.int 0), (.int 0), (.int 0), (.int 0), (.int 0), (.int 0), (.int 0), (.int 0), (.int 0), (.int 0), (.int 0), (.int 0), (.int 0), (.int 0), (.int 0)] (.int 0) := Arv.set Ar34 q34 S34 N34' H34 G34' (fits_nar_char _) W34 32 rfl (Nat.le_of_ble_eq_true rfl)
  replace G := o_nxs (q := 196) (st := [(.ref b1)]) G st34 rfl
  replace G := o_dup (q := 197) G X34.here hx (hb hby d21_196) rfl rfl
  replace G := o_bipush (q := 199) G X34.here hx (hb hby d21_197) (v := (33 : Int32)) (by decide) rfl
  replace G := o_bipush (q := 201) G X34.here hx (hb hby d21_199) (v := (100 : Int32)) (by decide) rfl
  obtain ⟨c35, Ar35, q35, S35, N35', H35, G35'⟩ := id V34
  have hin35 : ¬ ((33 : Int32) < 0 ∨ c35.slots.size ≤ ((33 : Int32)).toNatClampNeg) := inb_of S35 ⟨by decide, by decide⟩
  obtain ⟨T35, h35, X35, e35, W35, st35⟩ := stC X34 hx hZ e34 Ar35 (j := (33 : Int32)) hin35 (g := o_g G) rfl rfl (hb hby d21_201)
  have N35 := Fr.snoc X35 N34 ge_b1
  have Z35 : n0 ≤ h35.size := Nat.le_trans Z34 (Keep.of_wr W35).1
  have K35 : Keep h0 h35 [] := K34.wr W35 (Or.inr sz_b1)
  have V35 : Arv Z h35 b1 k1 .char (54 : Int32) [(.int 117), (.int 114), (.int 110), (.int 58), (.int 111), (.int 97), (.int 115), (.int 105), (.int 115), (.int 58), (.int 110), (.int 97), (.int 109), (.int 101), (.int 115), (.int 58), (.int 116), (.int 99), (.int 58), (.int 83), (.int 65), (.int 77), (.int 76), (.int 58), (.int 49), (.int 46), (.int 49), (.int 58), (.int 110), (.int 97), (.int 109), (.int 101), (.int 105), (.int 100), (.int 0), (.int 0), (.int 0), (.int 0), (.int 0), (.int 0), (.int 0), (.int 0), (.int 0), (.int 0), (.int 0), (.int 0), (.int 0), (.int 0), (.int 0), (.int 0), (.int 0), (.int 0), (.int 0), (.int 0)] (.int 0) := Arv.set Ar35 q35 S35 N35' H35 G35' (fits_nar_char _) W35 33 rfl (Nat.le_of_ble_eq_true rfl)
  replace G := o_nxs (q := 202) (st := [(.ref b1)]) G st35 rfl
  replace G := o_dup (q := 203) G X35.here hx (hb hby d21_202) rfl rfl
  replace G := o_bipush (q := 205) G X35.here hx (hb hby d21_203) (v := (34 : Int32)) (by decide) rfl
  replace G := o_bipush (q := 207) G X35.here hx (hb hby d21_205) (v := (45 : Int32)) (by decide) rfl
  obtain ⟨c36, Ar36, q36, S36, N36', H36, G36'⟩ := id V35
  have hin36 : ¬ ((34 : Int32) < 0 ∨ c36.slots.size ≤ ((34 : Int32)).toNatClampNeg) := inb_of S36 ⟨by decide, by decide⟩
  obtain ⟨T36, h36, X36, e36, W36, st36⟩ := stC X35 hx hZ e35 Ar36 (j := (34 : Int32)) hin36 (g := o_g G) rfl rfl (hb hby d21_207)
  have N36 := Fr.snoc X36 N35 ge_b1
  have Z36 : n0 ≤ h36.size := Nat.le_trans Z35 (Keep.of_wr W36).1
  have K36 : Keep h0 h36 [] := K35.wr W36 (Or.inr sz_b1)
  have V36 : Arv Z h36 b1 k1 .char (54 : Int32) [(.int 117), (.int 114), (.int 110), (.int 58), (.int 111), (.int 97), (.int 115), (.int 105), (.int 115), (.int 58), (.int 110), (.int 97), (.int 109), (.int 101), (.int 115), (.int 58), (.int 116), (.int 99), (.int 58), (.int 83), (.int 65), (.int 77), (.int 76), (.int 58), (.int 49), (.int 46), (.int 49), (.int 58), (.int 110), (.int 97), (.int 109), (.int 101), (.int 105), (.int 100), (.int 45), (.int 0), (.int 0), (.int 0), (.int 0), (.int 0), (.int 0), (.int 0), (.int 0), (.int 0), (.int 0), (.int 0), (.int 0), (.int 0), (.int 0), (.int 0), (.int 0), (.int 0), (.int 0), (.int 0)] (.int 0) := Arv.set Ar36 q36 S36 N36' H36 G36' (fits_nar_char _) W36 34 rfl (Nat.le_of_ble_eq_true rfl)
  replace G := o_nxs (q := 208) (st := [(.ref b1)]) G st36 rfl
  replace G := o_dup (q := 209) G X36.here hx (hb hby d21_208) rfl rfl
  replace G := o_bipush (q := 211) G X36.here hx (hb hby d21_209) (v := (35 : Int32)) (by decide) rfl
  replace G := o_bipush (q := 213) G X36.here hx (hb hby d21_211) (v := (102 : Int32)) (by decide) rfl
  obtain ⟨c37, Ar37, q37, S37, N37', H37, G37'⟩ := id V36
  have hin37 : ¬ ((35 : Int32) < 0 ∨ c37.slots.size ≤ ((35 : Int32)).toNatClampNeg) := inb_of S37 ⟨by decide, by decide⟩
  obtain ⟨T37, h37, X37, e37, W37, st37⟩ := stC X36 hx hZ e36 Ar37 (j := (35 : Int32)) hin37 (g := o_g G) rfl rfl (hb hby d21_213)
  have N37 := Fr.snoc X37 N36 ge_b1
  have Z37 : n0 ≤ h37.size := Nat.le_trans Z36 (Keep.of_wr W37).1
  have K37 : Keep h0 h37 [] := K36.wr W37 (Or.inr sz_b1)
  have V37 : Arv Z h37 b1 k1 .char (54 : Int32) [(.int 117), (.int 114), (.int 110), (.int 58), (.int 111), (.int 97), (.int 115), (.int 105), (.int 115), (.int 58), (.int 110), (.int 97), (.int 109), (.int 101), (.int 115), (.int 58), (.int 116), (.int 99), (.int 58), (.int 83), (.int 65), (.int 77), (.int 76), (.int 58), (.int 49), (.int 46), (.int 49), (.int 58), (.int 110), (.int 97), (.int 109), (.int 101), (.int 105), (.int 100), (.int 45), (.int 102), (.int 0), (.int 0), (.int 0), (.int 0), (.int 0), (.int 0), (.int 0), (.int 0), (.int 0), (.int 0), (.int 0), (.int 0), (.int 0), (.int 0), (.int 0), (.int 0), (.int 0), (.int 0)] (.int 0) := Arv.set Ar37 q37 S37 N37' H37 G37' (fits_nar_char _) W37 35 rfl (Nat.le_of_ble_eq_true rfl)
  replace G := o_nxs (q := 214) (st := [(.ref b1)]) G st37 rfl
  replace G := o_dup (q := 215) G X37.here hx (hb hby d21_214) rfl rfl
  replace G := o_bipush (q := 217) G X37.here hx (hb hby d21_215) (v := (36 : Int32)) (by decide) rfl
  replace G := o_bipush (q := 219) G X37.here hx (hb hby d21_217) (v := (111 : Int32)) (by decide) rfl
  obtain ⟨c38, Ar38, q38, S38, N38', H38, G38'⟩ := id V37
  have hin38 : ¬ ((36 : Int32) < 0 ∨ c38.slots.size ≤ ((36 : Int32)).toNatClampNeg) := inb_of S38 ⟨by decide, by decide⟩
  obtain ⟨T38, h38, X38, e38, W38, st38⟩ := stC X37 hx hZ e37 Ar38 (j := (36 : Int32)) hin38 (g := o_g G) rfl rfl (hb hby d21_219)
  have N38 := Fr.snoc X38 N37 ge_b1
  have Z38 : n0 ≤ h38.size := Nat.le_trans Z37 (Keep.of_wr W38).1
  have K38 : Keep h0 h38 [] := K37.wr W38 (Or.inr sz_b1)
  have V38 : Arv Z h38 b1 k1 .char (54 : Int32) [(.int 117), (.int 114), (.int 110), (.int 58), (.int 111), (.int 97), (.int 115), (.int 105), (.int 115), (.int 58), (.int 110), (.int 97), (.int 109), (.int 101), (.int 115), (.int 58), (.int 116), (.int 99), (.int 58), (.int 83), (.int 65), (.int 77), (.int 76), (.int 58), (.int 49), (.int 46), (.int 49), (.int 58), (.int 110), (.int 97), (.int 109), (.int 101), (.int 105), (.int 100), (.int 45), (.int 102), (.int 111), (.int 0), (.int 0), (.int 0), (.int 0), (.int 0), (.int 0), (.int 0), (.int 0), (.int 0), (.int 0), (.int 0), (.int 0), (.int 0), (.int 0), (.int 0), (.int 0), (.int 0)] (.int 0) := Arv.set Ar38 q38 S38 N38' H38 G38' (fits_nar_char _) W38 36 rfl (Nat.le_of_ble_eq_true rfl)
  replace G := o_nxs (q := 220) (st := [(.ref b1)]) G st38 rfl
  replace G := o_dup (q := 221) G X38.here hx (hb hby d21_220) rfl rfl
  replace G := o_bipush (q := 223) G X38.here hx (hb hby d21_221) (v := (37 : Int32)) (by decide) rfl
  replace G := o_bipush (q := 225) G X38.here hx (hb hby d21_223) (v := (114 : Int32)) (by decide) rfl
  obtain ⟨c39, Ar39, q39, S39, N39', H39, G39'⟩ := id V38
  have hin39 : ¬ ((37 : Int32) < 0 ∨ c39.slots.size ≤ ((37 : Int32)).toNatClampNeg) := inb_of S39 ⟨by decide, by decide⟩
  obtain ⟨T39, h39, X39, e39, W39, st39⟩ := stC X38 hx hZ e38 Ar39 (j := (37 : Int32)) hin39 (g := o_g G) rfl rfl (hb hby d21_225)
  have N39 := Fr.snoc X39 N38 ge_b1
  have Z39 : n0 ≤ h39.size := Nat.le_trans Z38 (Keep.of_wr W39).1
  have K39 : Keep h0 h39 [] := K38.wr W39 (Or.inr sz_b1)
  have V39 : Arv Z h39 b1 k1 .char (54 : Int32) [(.int 117), (.int 114), (.int 110), (.int 58), (.int 111), (.int 97), (.int 115), (.int 105), (.int 115), (.int 58), (.int 110), (.int 97), (.int 109), (.int 101), (.int 115), (.int 58), (.int 116), (.int 99), (.int 58), (.int 83), (.int 65), (.int 77), (.int 76), (.int 58), (.int 49), (.int 46), (.int 49), (.int 58), (.int 110), (.int 97), (.int 109), (.int 101), (.int 105), (.int 100), (.int 45), (.int 102), (.int 111), (.int 114), (.int 0), (.int 0), (.int 0), (.int 0), (.int 0), (.int 0), (.int 0), (.int 0), (.int 0), (.int 0), (.int 0), (.int 0), (.int 0), (.int 0), (.int 0), (.int 0)] (.int 0) := Arv.set Ar39 q39 S39 N39' H39 G39' (fits_nar_char _) W39 37 rfl (Nat.le_of_ble_eq_true rfl)
  replace G := o_nxs (q := 226) (st := [(.ref b1)]) G st39 rfl
  replace G := o_dup (q := 227) G X39.here hx (hb hby d21_226) rfl rfl
  replace G := o_bipush (q := 229) G X39.here hx (hb hby d21_227) (v := (38 : Int32)) (by decide) rfl
  replace G := o_bipush (q := 231) G X39.here hx (hb hby d21_229) (v := (109 : Int32)) (by decide) rfl
  obtain ⟨c40, Ar40, q40, S40, N40', H40, G40'⟩ := id V39
  have hin40 : ¬ ((38 : Int32) < 0 ∨ c40.slots.size ≤ ((38 : Int32)).toNatClampNeg) := inb_of S40 ⟨by decide, by decide⟩
  obtain ⟨T40, h40, X40, e40, W40, st40⟩ := stC X39 hx hZ e39 Ar40 (j := (38 : Int32)) hin40 (g := o_g G) rfl rfl (hb hby d21_231)
  have N40 := Fr.snoc X40 N39 ge_b1
  have Z40 : n0 ≤ h40.size := Nat.le_trans Z39 (Keep.of_wr W40).1
  have K40 : Keep h0 h40 [] := K39.wr W40 (Or.inr sz_b1)
  have V40 : Arv Z h40 b1 k1 .char (54 : Int32) [(.int 117), (.int 114), (.int 110), (.int 58), (.int 111), (.int 97), (.int 115), (.int 105), (.int 115), (.int 58), (.int 110), (.int 97), (.int 109), (.int 101), (.int 115), (.int 58), (.int 116), (.int 99), (.int 58), (.int 83), (.int 65), (.int 77), (.int 76), (.int 58), (.int 49), (.int 46), (.int 49), (.int 58), (.int 110), (.int 97), (.int 109), (.int 101), (.int 105), (.int 100), (.int 45), (.int 102), (.int 111), (.int 114), (.int 109), (.int 0), (.int 0), (.int 0), (.int 0), (.int 0), (.int 0), (.int 0), (.int 0), (.int 0), (.int 0), (.int 0), (.int 0), (.int 0), (.int 0), (.int 0)] (.int 0) := Arv.set Ar40 q40 S40 N40' H40 G40' (fits_nar_char _) W40 38 rfl (Nat.le_of_ble_eq_true rfl)
  replace G := o_nxs (q := 232) (st := [(.ref b1)]) G st40 rfl
  replace G := o_dup (q := 233) G X40.here hx (hb hby d21_232) rfl rfl
  replace G := o_bipush (q := 235) G X40.here hx (hb hby d21_233) (v := (39 : Int32)) (by decide) rfl
  replace G := o_bipush (q := 237) G X40.here hx (hb hby d21_235) (v := (97 : Int32)) (by decide) rfl
  obtain ⟨c41, Ar41, q41, S41, N41', H41, G41'⟩ := id V40
  have hin41 : ¬ ((39 : Int32) < 0 ∨ c41.slots.size ≤ ((39 : Int32)).toNatClampNeg) := inb_of S41 ⟨by decide, by decide⟩
  obtain ⟨T41, h41, X41, e41, W41, st41⟩ := stC X40 hx hZ e40 Ar41 (j := (39 : Int32)) hin41 (g := o_g G) rfl rfl (hb hby d21_237)
  have N41 := Fr.snoc X41 N40 ge_b1
  have Z41 : n0 ≤ h41.size := Nat.le_trans Z40 (Keep.of_wr W41).1
  have K41 : Keep h0 h41 [] := K40.wr W41 (Or.inr sz_b1)
  have V41 : Arv Z h41 b1 k1 .char (54 : Int32) [(.int 117), (.int 114), (.int 110), (.int 58), (.int 111), (.int 97), (.int 115), (.int 105), (.int 115), (.int 58), (.int 110), (.int 97), (.int 109), (.int 101), (.int 115), (.int 58), (.int 116), (.int 99), (.int 58), (.int 83), (.int 65), (.int 77), (.int 76), (.int 58), (.int 49), (.int 46), (.int 49), (.int 58), (.int 110), (.int 97), (.int 109), (.int 101), (.int 105), (.int 100), (.int 45), (.int 102), (.int 111), (.int 114), (.int 109), (.int 97), (.int 0), (.int 0), (.int 0), (.int 0), (.int 0), (.int 0), (.int 0), (.int 0), (.int 0), (.int 0), (.int 0), (.int 0), (.int 0), (.int 0)] (.int 0) := Arv.set Ar41 q41 S41 N41' H41 G41' (fits_nar_char _) W41 39 rfl (Nat.le_of_ble_eq_true rfl)
  replace G := o_nxs (q := 238) (st := [(.ref b1)]) G st41 rfl
  replace G := o_dup (q := 239) G X41.here hx (hb hby d21_238) rfl rfl
  replace G := o_bipush (q := 241) G X41.here hx (hb hby d21_239) (v := (40 : Int32)) (by decide) rfl
  replace G := o_bipush (q := 243) G X41.here hx (hb hby d21_241) (v := (116 : Int32)) (by decide) rfl
  obtain ⟨c42, Ar42, q42, S42, N42', H42, G42'⟩ := id V41
  have hin42 : ¬ ((40 : Int32) < 0 ∨ c42.slots.size ≤ ((40 : Int32)).toNatClampNeg) := inb_of S42 ⟨by decide, by decide⟩
  obtain ⟨T42, h42, X42, e42, W42, st42⟩ := stC X41 hx hZ e41 Ar42 (j := (40 : Int32)) hin42 (g := o_g G) rfl rfl (hb hby d21_243)
  have N42 := Fr.snoc X42 N41 ge_b1
  have Z42 : n0 ≤ h42.size := Nat.le_trans Z41 (Keep.of_wr W42).1
  have K42 : Keep h0 h42 [] := K41.wr W42 (Or.inr sz_b1)
  have V42 : Arv Z h42 b1 k1 .char (54 : Int32) [(.int 117), (.int 114), (.int 110), (.int 58), (.int 111), (.int 97), (.int 115), (.int 105), (.int 115), (.int 58), (.int 110), (.int 97), (.int 109), (.int 101), (.int 115), (.int 58), (.int 116), (.int 99), (.int 58), (.int 83), (.int 65), (.int 77), (.int 76), (.int 58), (.int 49), (.int 46), (.int 49), (.int 58), (.int 110), (.int 97), (.int 109), (.int 101), (.int 105), (.int 100), (.int 45), (.int 102), (.int 111), (.int 114), (.int 109), (.int 97), (.int 116), (.int 0), (.int 0), (.int 0), (.int 0), (.int 0), (.int 0), (.int 0), (.int 0), (.int 0), (.int 0), (.int 0), (.int 0), (.int 0)] (.int 0) := Arv.set Ar42 q42 S42 N42' H42 G42' (fits_nar_char _) W42 40 rfl (Nat.le_of_ble_eq_true rfl)
  replace G := o_nxs (q := 244) (st := [(.ref b1)]) G st42 rfl
  replace G := o_dup (q := 245) G X42.here hx (hb hby d21_244) rfl rfl
  replace G := o_bipush (q := 247) G X42.here hx (hb hby d21_245) (v := (41 : Int32)) (by decide) rfl
  replace G := o_bipush (q := 249) G X42.here hx (hb hby d21_247) (v := (58 : Int32)) (by decide) rfl
  obtain ⟨c43, Ar43, q43, S43, N43', H43, G43'⟩ := id V42
  have hin43 : ¬ ((41 : Int32) < 0 ∨ c43.slots.size ≤ ((41 : Int32)).toNatClampNeg) := inb_of S43 ⟨by decide, by decide⟩
  obtain ⟨T43, h43, X43, e43, W43, st43⟩ := stC X42 hx hZ e42 Ar43 (j := (41 : Int32)) hin43 (g := o_g G) rfl rfl (hb hby d21_249)
  have N43 := Fr.snoc X43 N42 ge_b1
  have Z43 : n0 ≤ h43.size := Nat.le_trans Z42 (Keep.of_wr W43).1
  have K43 : Keep h0 h43 [] := K42.wr W43 (Or.inr sz_b1)
  have V43 : Arv Z h43 b1 k1 .char (54 : Int32) [(.int 117), (.int 114), (.int 110), (.int 58), (.int 111), (.int 97), (.int 115), (.int 105), (.int 115), (.int 58), (.int 110), (.int 97), (.int 109), (.int 101), (.int 115), (.int 58), (.int 116), (.int 99), (.int 58), (.int 83), (.int 65), (.int 77), (.int 76), (.int 58), (.int 49), (.int 46), (.int 49), (.int 58), (.int 110), (.int 97), (.int 109), (.int 101), (.int 105), (.int 100), (.int 45), (.int 102), (.int 111), (.int 114), (.int 109), (.int 97), (.int 116), (.int 58), (.int 0), (.int 0), (.int 0), (.int 0), (.int 0), (.int 0), (.int 0), (.int 0), (.int 0), (.int 0), (.int 0), (.int 0)] (.int 0) := Arv.set Ar43 q43 S43 N43' H43 G43' (fits_nar_char _) W43 41 rfl (Nat.le_of_ble_eq_true rfl)
  replace G := o_nxs (q := 250) (st := [(.ref b1)]) G st43 rfl
  replace G := o_dup (q := 251) G X43.here hx (hb hby d21_250) rfl rfl
  replace G := o_bipush (q := 253) G X43.here hx (hb hby d21_251) (v := (42 : Int32)) (by decide) rfl
  replace G := o_bipush (q := 255) G X43.here hx (hb hby d21_253) (v := (101 : Int32)) (by decide) rfl
  obtain ⟨c44, Ar44, q44, S44, N44', H44, G44'⟩ := id V43
  have hin44 : ¬ ((42 : Int32) < 0 ∨ c44.slots.size ≤ ((42 : Int32)).toNatClampNeg) := inb_of S44 ⟨by decide, by decide⟩
  obtain ⟨T44, h44, X44, e44, W44, st44⟩ := stC X43 hx hZ e43 Ar44 (j := (42 : Int32)) hin44 (g := o_g G) rfl rfl (hb hby d21_255)
  have N44 := Fr.snoc X44 N43 ge_b1
  have Z44 : n0 ≤ h44.size := Nat.le_trans Z43 (Keep.of_wr W44).1
  have K44 : Keep h0 h44 [] := K43.wr W44 (Or.inr sz_b1)
  have V44 : Arv Z h44 b1 k1 .char (54 : Int32) [(.int 117), (.int 114), (.int 110), (.int 58), (.int 111), (.int 97), (.int 115), (.int 105), (.int 115), (.int 58), (.int 110), (.int 97), (.int 109), (.int 101), (.int 115), (.int 58), (.int 116), (.int 99), (.int 58), (.int 83), (.int 65), (.int 77), (.int 76), (.int 58), (.int 49), (.int 46), (.int 49), (.int 58), (.int 110), (.int 97), (.int 109), (.int 101), (.int 105), (.int 100), (.int 45), (.int 102), (.int 111), (.int 114), (.int 109), (.int 97), (.int 116), (.int 58), (.int 101), (.int 0), (.int 0), (.int 0), (.int 0), (.int 0), (.int 0), (.int 0), (.int 0), (.int 0), (.int 0), (.int 0)] (.int 0) := Arv.set Ar44 q44 S44 N44' H44 G44' (fits_nar_char _) W44 42 rfl (Nat.le_of_ble_eq_true rfl)
  replace G := o_nxs (q := 256) (st := [(.ref b1)]) G st44 rfl
  replace G := o_dup (q := 257) G X44.here hx (hb hby d21_256) rfl rfl
  replace G := o_bipush (q := 259) G X44.here hx (hb hby d21_257) (v := (43 : Int32)) (by decide) rfl
  replace G := o_bipush (q := 261) G X44.here hx (hb hby d21_259) (v := (109 : Int32)) (by decide) rfl
  obtain ⟨c45, Ar45, q45, S45, N45', H45, G45'⟩ := id V44
  have hin45 : ¬ ((43 : Int32) < 0 ∨ c45.slots.size ≤ ((43 : Int32)).toNatClampNeg) := inb_of S45 ⟨by decide, by decide⟩
  obtain ⟨T45, h45, X45, e45, W45, st45⟩ := stC X44 hx hZ e44 Ar45 (j := (43 : Int32)) hin45 (g := o_g G) rfl rfl (hb hby d21_261)
  have N45 := Fr.snoc X45 N44 ge_b1
  have Z45 : n0 ≤ h45.size := Nat.le_trans Z44 (Keep.of_wr W45).1
  have K45 : Keep h0 h45 [] := K44.wr W45 (Or.inr sz_b1)
  have V45 : Arv Z h45 b1 k1 .char (54 : Int32) [(.int 117), (.int 114), (.int 110), (.int 58), (.int 111), (.int 97), (.int 115), (.int 105), (.int 115), (.int 58), (.int 110), (.int 97), (.int 109), (.int 101), (.int 115), (.int 58), (.int 116), (.int 99), (.int 58), (.int 83), (.int 65), (.int 77), (.int 76), (.int 58), (.int 49), (.int 46), (.int 49), (.int 58), (.int 110), (.int 97), (.int 109), (.int 101), (.int 105), (.int 100), (.int 45), (.int 102), (.int 111), (.int 114), (.int 109), (.int 97), (.int 116), (.int 58), (.int 101), (.int 109), (.int 0), (.int 0), (.int 0), (.int 0), (.int 0), (.int 0), (.int 0), (.int 0), (.int 0), (.int 0)] (.int 0) := Arv.set Ar45 q45 S45 N45' H45 G45' (fits_nar_char _) W45 43 rfl (Nat.le_of_ble_eq_true rfl)
  replace G := o_nxs (q := 262) (st := [(.ref b1)]) G st45 rfl
  replace G := o_dup (q := 263) G X45.here hx (hb hby d21_262) rfl rfl
  replace G := o_bipush (q := 265) G X45.here hx (hb hby d21_263) (v := (44 : Int32)) (by decide) rfl
  replace G := o_bipush (q := 267) G X45.here hx (hb hby d21_265) (v := (97 : Int32)) (by decide) rfl
  obtain ⟨c46, Ar46, q46, S46, N46', H46, G46'⟩ := id V45
  have hin46 : ¬ ((44 : Int32) < 0 ∨ c46.slots.size ≤ ((44 : Int32)).toNatClampNeg) := inb_of S46 ⟨by decide, by decide⟩
  obtain ⟨T46, h46, X46, e46, W46, st46⟩ := stC X45 hx hZ e45 Ar46 (j := (44 : Int32)) hin46 (g := o_g G) rfl rfl (hb hby d21_267)
  have N46 := Fr.snoc X46 N45 ge_b1
  have Z46 : n0 ≤ h46.size := Nat.le_trans Z45 (Keep.of_wr W46).1
  have K46 : Keep h0 h46 [] := K45.wr W46 (Or.inr sz_b1)
  have V46 : Arv Z h46 b1 k1 .char (54 : Int32) [(.int 117), (.int 114), (.int 110), (.int 58), (.int 111), (.int 97), (.int 115), (.int 105), (.int 115), (.int 58), (.int 110), (.int 97), (.int 109), (.int 101), (.int 115), (.int 58), (.int 116), (.int 99), (.int 58), (.int 83), (.int 65), (.int 77), (.int 76), (.int 58), (.int 49), (.int 46), (.int 49), (.int 58), (.int 110), (.int 97), (.int 109), (.int 101), (.int 105), (.int 100), (.int 45), (.int 102), (.int 111), (.int 114), (.int 109), (.int 97), (.int 116), (.int 58), (.int 101), (.int 109), (.int 97), (.int 0), (.int 0), (.int 0), (.int 0), (.int 0), (.int 0), (.int 0), (.int 0), (.int 0)] (.int 0) := Arv.set Ar46 q46 S46 N46' H46 G46' (fits_nar_char _) W46 44 rfl (Nat.le_of_ble_eq_true rfl)
  replace G := o_nxs (q := 268) (st := [(.ref b1)]) G st46 rfl
  replace G := o_dup (q := 269) G X46.here hx (hb hby d21_268) rfl rfl
  replace G := o_bipush (q := 271) G X46.here hx (hb hby d21_269) (v := (45 : Int32)) (by decide) rfl
  replace G := o_bipush (q := 273) G X46.here hx (hb hby d21_271) (v := (105 : Int32)) (by decide) rfl
  obtain ⟨c47, Ar47, q47, S47, N47', H47, G47'⟩ := id V46
  have hin47 : ¬ ((45 : Int32) < 0 ∨ c47.slots.size ≤ ((45 : Int32)).toNatClampNeg) := inb_of S47 ⟨by decide, by decide⟩
  obtain ⟨T47, h47, X47, e47, W47, st47⟩ := stC X46 hx hZ e46 Ar47 (j := (45 : Int32)) hin47 (g := o_g G) rfl rfl (hb hby d21_273)
  have N47 := Fr.snoc X47 N46 ge_b1
  have Z47 : n0 ≤ h47.size := Nat.le_trans Z46 (Keep.of_wr W47).1
  have K47 : Keep h0 h47 [] := K46.wr W47 (Or.inr sz_b1)
  have V47 : Arv Z h47 b1 k1 .char (54 : Int32) [(.int 117), (.int 114), (.int 110), (.int 58), (.int 111), (.int 97), (.int 115), (.int 105), (.int 115), (.int 58), (.int 110), (.int 97), (.int 109), (.int 101), (.int 115), (.int 58), (.int 116), (.int 99), (.int 58), (.int 83), (.int 65), (.int 77), (.int 76), (.int 58), (.int 49), (.int 46), (.int 49), (.int 58), (.int 110), (.int 97), (.int 109), (.int 101), (.int 105), (.int 100), (.int 45), (.int 102), (.int 111), (.int 114), (.int 109), (.int 97), (.int 116), (.int 58), (.int 101), (.int 109), (.int 97), (.int 105), (.int 0), (.int 0), (.int 0), (.int 0), (.int 0), (.int 0), (.int 0), (.int 0)] (.int 0) := Arv.set Ar47 q47 S47 N47' H47 G47' (fits_nar_char _) W47 45 rfl (Nat.le_of_ble_eq_true rfl)
  replace G := o_nxs (q := 274) (st := [(.ref b1)]) G st47 rfl
  replace G := o_dup (q := 275) G X47.here hx (hb hby d21_274) rfl rfl
  replace G := o_bipush (q := 277) G X47.here hx (hb hby d21_275) (v := (46 : Int32)) (by decide) rfl
  replace G := o_bipush (q := 279) G X47.here hx (hb hby d21_277) (v := (108 : Int32)) (by decide) rfl
  obtain ⟨c48, Ar48, q48, S48, N48', H48, G48'⟩ := id V47
  have hin48 : ¬ ((46 : Int32) < 0 ∨ c48.slots.size ≤ ((46 : Int32)).toNatClampNeg) := inb_of S48 ⟨by decide, by decide⟩
  obtain ⟨T48, h48, X48, e48, W48, st48⟩ := stC X47 hx hZ e47 Ar48 (j := (46 : Int32)) hin48 (g := o_g G) rfl rfl (hb hby d21_279)
  have N48 := Fr.snoc X48 N47 ge_b1
  have Z48 : n0 ≤ h48.size := Nat.le_trans Z47 (Keep.of_wr W48).1
  have K48 : Keep h0 h48 [] := K47.wr W48 (Or.inr sz_b1)
  have V48 : Arv Z h48 b1 k1 .char (54 : Int32) [(.int 117), (.int 114), (.int 110), (.int 58), (.int 111), (.int 97), (.int 115), (.int 105), (.int 115), (.int 58), (.int 110), (.int 97), (.int 109), (.int 101), (.int 115), (.int 58), (.int 116), (.int 99), (.int 58), (.int 83), (.int 65), (.int 77), (.int 76), (.int 58), (.int 49), (.int 46), (.int 49), (.int 58), (.int 110), (.int 97), (.int 109), (.int 101), (.int 105), (.int 100), (.int 45), (.int 102), (.int 111), (.int 114), (.int 109), (.int 97), (.int 116), (.int 58), (.int 101), (.int 109), (.int 97), (.int 105), (.int 108), (.int 0), (.int 0), (.int 0), (.int 0), (.int 0), (.int 0), (.int 0)] (.int 0) := Arv.set Ar48 q48 S48 N48' H48 G48' (fits_nar_char _) W48 46 rfl (Nat.le_of_ble_eq_true rfl)
  replace G := o_nxs (q := 280) (st := [(.ref b1)]) G st48 rfl
  replace G := o_dup (q := 281) G X48.here hx (hb hby d21_280) rfl rfl
  replace G := o_bipush (q := 283) G X48.here hx (hb hby d21_281) (v := (47 : Int32)) (by decide) rfl
  replace G := o_bipush (q := 285) G X48.here hx (hb hby d21_283) (v := (65 : Int32)) (by decide) rfl
  obtain ⟨c49, Ar49, q49, S49, N49', H49, G49'⟩ := id V48
  have hin49 : ¬ ((47 : Int32) < 0 ∨ c49.slots.size ≤ ((47 : Int32)).toNatClampNeg) := inb_of S49 ⟨by decide, by decide⟩
  obtain ⟨T49, h49, X49, e49, W49, st49⟩ := stC X48 hx hZ e48 Ar49 (j := (47 : Int32)) hin49 (g := o_g G) rfl rfl (hb hby d21_285)
  have N49 := Fr.snoc X49 N48 ge_b1
  have Z49 : n0 ≤ h49.size := Nat.le_trans Z48 (Keep.of_wr W49).1
  have K49 : Keep h0 h49 [] := K48.wr W49 (Or.inr sz_b1)
  have V49 : Arv Z h49 b1 k1 .char (54 : Int32) [(.int 117), (.int 114), (.int 110), (.int 58), (.int 111), (.int 97), (.int 115), (.int 105), (.int 115), (.int 58), (.int 110), (.int 97), (.int 109), (.int 101), (.int 115), (.int 58), (.int 116), (.int 99), (.int 58), (.int 83), (.int 65), (.int 77), (.int 76), (.int 58), (.int 49), (.int 46), (.int 49), (.int 58), (.int 110), (.int 97), (.int 109), (.int 101), (.int 105), (.int 100), (.int 45), (.int 102), (.int 111), (.int 114), (.int 109), (.int 97), (.int 116), (.int 58), (.int 101), (.int 109), (.int 97), (.int 105), (.int 108), (.int 65), (.int 0), (.int 0), (.int 0), (.int 0), (.int 0), (.int 0)] (.int 0) := Arv.set Ar49 q49 S49 N49' H49 G49' (fits_nar_char _) W49 47 rfl (Nat.le_of_ble_eq_true rfl)
  replace G := o_nxs (q := 286) (st := [(.ref b1)]) G st49 rfl
  replace G := o_dup (q := 287) G X49.here hx (hb hby d21_286) rfl rfl
  replace G := o_bipush (q := 289) G X49.here hx (hb hby d21_287) (v := (48 : Int32)) (by decide) rfl
  replace G := o_bipush (q := 291) G X49.here hx (hb hby d21_289) (v := (100 : Int32)) (by decide) rfl
  obtain ⟨c50, Ar50, q50, S50, N50', H50, G50'⟩ := id V49
  have hin50 : ¬ ((48 : Int32) < 0 ∨ c50.slots.size ≤ ((48 : Int32)).toNatClampNeg) := inb_of S50 ⟨by decide, by decide⟩
  obtain ⟨T50, h50, X50, e50, W50, st50⟩ := stC X49 hx hZ e49 Ar50 (j := (48 : Int32)) hin50 (g := o_g G) rfl rfl (hb hby d21_291)
  have N50 := Fr.snoc X50 N49 ge_b1
  have Z50 : n0 ≤ h50.size := Nat.le_trans Z49 (Keep.of_wr W50).1
  have K50 : Keep h0 h50 [] := K49.wr W50 (Or.inr sz_b1)
  have V50 : Arv Z h50 b1 k1 .char (54 : Int32) [(.int 117), (.int 114), (.int 110), (.int 58), (.int 111), (.int 97), (.int 115), (.int 105), (.int 115), (.int 58), (.int 110), (.int 97), (.int 109), (.int 101), (.int 115), (.int 58), (.int 116), (.int 99), (.int 58), (.int 83), (.int 65), (.int 77), (.int 76), (.int 58), (.int 49), (.int 46), (.int 49), (.int 58), (.int 110), (.int 97), (.int 109), (.int 101), (.int 105), (.int 100), (.int 45), (.int 102), (.int 111), (.int 114), (.int 109), (.int 97), (.int 116), (.int 58), (.int 101), (.int 109), (.int 97), (.int 105), (.int 108), (.int 65), (.int 100), (.int 0), (.int 0), (.int 0), (.int 0), (.int 0)] (.int 0) := Arv.set Ar50 q50 S50 N50' H50 G50' (fits_nar_char _) W50 48 rfl (Nat.le_of_ble_eq_true rfl)
  replace G := o_nxs (q := 292) (st := [(.ref b1)]) G st50 rfl
  replace G := o_dup (q := 293) G X50.here hx (hb hby d21_292) rfl rfl
  replace G := o_bipush (q := 295) G X50.here hx (hb hby d21_293) (v := (49 : Int32)) (by decide) rfl
  replace G := o_bipush (q := 297) G X50.here hx (hb hby d21_295) (v := (100 : Int32)) (by decide) rfl
  obtain ⟨c51, Ar51, q51, S51, N51', H51, G51'⟩ := id V50
  have hin51 : ¬ ((49 : Int32) < 0 ∨ c51.slots.size ≤ ((49 : Int32)).toNatClampNeg) := inb_of S51 ⟨by decide, by decide⟩
  obtain ⟨T51, h51, X51, e51, W51, st51⟩ := stC X50 hx hZ e50 Ar51 (j := (49 : Int32)) hin51 (g := o_g G) rfl rfl (hb hby d21_297)
  have N51 := Fr.snoc X51 N50 ge_b1
  have Z51 : n0 ≤ h51.size := Nat.le_trans Z50 (Keep.of_wr W51).1
  have K51 : Keep h0 h51 [] := K50.wr W51 (Or.inr sz_b1)
  have V51 : Arv Z h51 b1 k1 .char (54 : Int32) [(.int 117), (.int 114), (.int 110), (.int 58), (.int 111), (.int 97), (.int 115), (.int 105), (.int 115), (.int 58), (.int 110), (.int 97), (.int 109), (.int 101), (.int 115), (.int 58), (.int 116), (.int 99), (.int 58), (.int 83), (.int 65), (.int 77), (.int 76), (.int 58), (.int 49), (.int 46), (.int 49), (.int 58), (.int 110), (.int 97), (.int 109), (.int 101), (.int 105), (.int 100), (.int 45), (.int 102), (.int 111), (.int 114), (.int 109), (.int 97), (.int 116), (.int 58), (.int 101), (.int 109), (.int 97), (.int 105), (.int 108), (.int 65), (.int 100), (.int 100), (.int 0), (.int 0), (.int 0), (.int 0)] (.int 0) := Arv.set Ar51 q51 S51 N51' H51 G51' (fits_nar_char _) W51 49 rfl (Nat.le_of_ble_eq_true rfl)
  replace G := o_nxs (q := 298) (st := [(.ref b1)]) G st51 rfl
  replace G := o_dup (q := 299) G X51.here hx (hb hby d21_298) rfl rfl
  replace G := o_bipush (q := 301) G X51.here hx (hb hby d21_299) (v := (50 : Int32)) (by decide) rfl
  replace G := o_bipush (q := 303) G X51.here hx (hb hby d21_301) (v := (114 : Int32)) (by decide) rfl
  obtain ⟨c52, Ar52, q52, S52, N52', H52, G52'⟩ := id V51
  have hin52 : ¬ ((50 : Int32) < 0 ∨ c52.slots.size ≤ ((50 : Int32)).toNatClampNeg) := inb_of S52 ⟨by decide, by decide⟩
  obtain ⟨T52, h52, X52, e52, W52, st52⟩ := stC X51 hx hZ e51 Ar52 (j := (50 : Int32)) hin52 (g := o_g G) rfl rfl (hb hby d21_303)
  have N52 := Fr.snoc X52 N51 ge_b1
  have Z52 : n0 ≤ h52.size := Nat.le_trans Z51 (Keep.of_wr W52).1
  have K52 : Keep h0 h52 [] := K51.wr W52 (Or.inr sz_b1)
  have V52 : Arv Z h52 b1 k1 .char (54 : Int32) [(.int 117), (.int 114), (.int 110), (.int 58), (.int 111), (.int 97), (.int 115), (.int 105), (.int 115), (.int 58), (.int 110), (.int 97), (.int 109), (.int 101), (.int 115), (.int 58), (.int 116), (.int 99), (.int 58), (.int 83), (.int 65), (.int 77), (.int 76), (.int 58), (.int 49), (.int 46), (.int 49), (.int 58), (.int 110), (.int 97), (.int 109), (.int 101), (.int 105), (.int 100), (.int 45), (.int 102), (.int 111), (.int 114), (.int 109), (.int 97), (.int 116), (.int 58), (.int 101), (.int 109), (.int 97), (.int 105), (.int 108), (.int 65), (.int 100), (.int 100), (.int 114), (.int 0), (.int 0), (.int 0)] (.int 0) := Arv.set Ar52 q52 S52 N52' H52 G52' (fits_nar_char _) W52 50 rfl (Nat.le_of_ble_eq_true rfl)
  replace G := o_nxs (q := 304) (st := [(.ref b1)]) G st52 rfl
  replace G := o_dup (q := 305) G X52.here hx (hb hby d21_304) rfl rfl
  replace G := o_bipush (q := 307) G X52.here hx (hb hby d21_305) (v := (51 : Int32)) (by decide) rfl
  replace G := o_bipush (q := 309) G X52.here hx (hb hby d21_307) (v := (101 : Int32)) (by decide) rfl
  obtain ⟨c53, Ar53, q53, S53, N53', H53, G53'⟩ := id V52
  have hin53 : ¬ ((51 : Int32) < 0 ∨ c53.slots.size ≤ ((51 : Int32)).toNatClampNeg) := inb_of S53 ⟨by decide, by decide⟩
  obtain ⟨T53, h53, X53, e53, W53, st53⟩ := stC X52 hx hZ e52 Ar53 (j := (51 : Int32)) hin53 (g := o_g G) rfl rfl (hb hby d21_309)
  have N53 := Fr.snoc X53 N52 ge_b1
  have Z53 : n0 ≤ h53.size := Nat.le_trans Z52 (Keep.of_wr W53).1
  have K53 : Keep h0 h53 [] := K52.wr W53 (Or.inr sz_b1)
  have V53 : Arv Z h53 b1 k1 .char (54 : Int32) [(.int 117), (.int 114), (.int 110), (.int 58), (.int 111), (.int 97), (.int 115), (.int 105), (.int 115), (.int 58), (.int 110), (.int 97), (.int 109), (.int 101), (.int 115), (.int 58), (.int 116), (.int 99), (.int 58), (.int 83), (.int 65), (.int 77), (.int 76), (.int 58), (.int 49), (.int 46), (.int 49), (.int 58), (.int 110), (.int 97), (.int 109), (.int 101), (.int 105), (.int 100), (.int 45), (.int 102), (.int 111), (.int 114), (.int 109), (.int 97), (.int 116), (.int 58), (.int 101), (.int 109), (.int 97), (.int 105), (.int 108), (.int 65), (.int 100), (.int 100), (.int 114), (.int 101), (.int 0), (.int 0)] (.int 0) := Arv.set Ar53 q53 S53 N53' H53 G53' (fits_nar_char _) W53 51 rfl (Nat.le_of_ble_eq_true rfl)
  replace G := o_nxs (q := 310) (st := [(.ref b1)]) G st53 rfl
  replace G := o_dup (q := 311) G X53.here hx (hb hby d21_310) rfl rfl
  replace G := o_bipush (q := 313) G X53.here hx (hb hby d21_311) (v := (52 : Int32)) (by decide) rfl
  replace G := o_bipush (q := 315) G X53.here hx (hb hby d21_313) (v := (115 : Int32)) (by decide) rfl
  obtain ⟨c54, Ar54, q54, S54, N54', H54, G54'⟩ := id V53
  have hin54 : ¬ ((52 : Int32) < 0 ∨ c54.slots.size ≤ ((52 : Int32)).toNatClampNeg) := inb_of S54 ⟨by decide, by decide⟩
  obtain ⟨T54, h54, X54, e54, W54, st54⟩ := stC X53 hx hZ e53 Ar54 (j := (52 : Int32)) hin54 (g := o_g G) rfl rfl (hb hby d21_315)
  have N54 := Fr.snoc X54 N53 ge_b1
  have Z54 : n0 ≤ h54.size := Nat.le_trans Z53 (Keep.of_wr W54).1
  have K54 : Keep h0 h54 [] := K53.wr W54 (Or.inr sz_b1)
  have V54 : Arv Z h54 b1 k1 .char (54 : Int32) [(.int 117), (.int 114), (.int 110), (.int 58), (.int 111), (.int 97), (.int 115), (.int 105), (.int 115), (.int 58), (.int 110), (.int 97), (.int 109), (.int 101), (.int 115), (.int 58), (.int 116), (.int 99), (.int 58), (.int 83), (.int 65), (.int 77), (.int 76), (.int 58), (.int 49), (.int 46), (.int 49), (.int 58), (.int 110), (.int 97), (.int 109), (.int 101), (.int 105), (.int 100), (.int 45), (.int 102), (.int 111), (.int 114), (.int 109), (.int 97), (.int 116), (.int 58), (.int 101), (.int 109), (.int 97), (.int 105), (.int 108), (.int 65), (.int 100), (.int 100), (.int 114), (.int 101), (.int 115), (.int 0)] (.int 0) := Arv.set Ar54 q54 S54 N54' H54 G54' (fits_nar_char _) W54 52 rfl (Nat.le_of_ble_eq_true rfl)
  replace G := o_nxs (q := 316) (st := [(.ref b1)]) G st54 rfl
  replace G := o_dup (q := 317) G X54.here hx (hb hby d21_316) rfl rfl
  replace G := o_bipush (q := 319) G X54.here hx (hb hby d21_317) (v := (53 : Int32)) (by decide) rfl
  replace G := o_bipush (q := 321) G X54.here hx (hb hby d21_319) (v := (115 : Int32)) (by decide) rfl
  obtain ⟨c55, Ar55, q55, S55, N55', H55, G55'⟩ := id V54
  have hin55 : ¬ ((53 : Int32) < 0 ∨ c55.slots.size ≤ ((53 : Int32)).toNatClampNeg) := inb_of S55 ⟨by decide, by decide⟩
  obtain ⟨T55, h55, X55, e55, W55, st55⟩ := stC X54 hx hZ e54 Ar55 (j := (53 : Int32)) hin55 (g := o_g G) rfl rfl (hb hby d21_321)
  have N55 := Fr.snoc X55 N54 ge_b1
  have Z55 : n0 ≤ h55.size := Nat.le_trans Z54 (Keep.of_wr W55).1
  have K55 : Keep h0 h55 [] := K54.wr W55 (Or.inr sz_b1)
  have V55 : Arv Z h55 b1 k1 .char (54 : Int32) [(.int 117), (.int 114), (.int 110), (.int 58), (.int 111), (.int 97), (.int 115), (.int 105), (.int 115), (.int 58), (.int 110), (.int 97), (.int 109), (.int 101), (.int 115), (.int 58), (.int 116), (.int 99), (.int 58), (.int 83), (.int 65), (.int 77), (.int 76), (.int 58), (.int 49), (.int 46), (.int 49), (.int 58), (.int 110), (.int 97), (.int 109), (.int 101), (.int 105), (.int 100), (.int 45), (.int 102), (.int 111), (.int 114), (.int 109), (.int 97), (.int 116), (.int 58), (.int 101), (.int 109), (.int 97), (.int 105), (.int 108), (.int 65), (.int 100), (.int 100), (.int 114), (.int 101), (.int 115), (.int 115)] (.int 0) := Arv.set Ar55 q55 S55 N55' H55 G55' (fits_nar_char _) W55 53 rfl (Nat.le_of_ble_eq_true rfl)
  replace G := o_nxs (q := 322) (st := [(.ref b1)]) G st55 rfl
  obtain ⟨fs, hr, hrun, hended, hW, hsame⟩ := X55.leave (v := some (.ref b1)) (fun h => by rw [Bd.returns] at h; cases h)
  refine ⟨_, _, G _ (retOut X55 hx Bd.returns rfl (Or.inr (Or.inr (Or.inr (Or.inr ⟨rfl, rfl, rfl⟩)))) (hb hby d21_322) hr), hrun, hended, _, _, rfl, ?_, ⟨_, rfl⟩, hW, hsame.mono (by decide) (by decide)⟩
  show Q21 Z  h0 n0 _ T55.heap _
  rw [e55]
  exact ⟨b1, k1, rfl, N55, K55, sz_b1, V55⟩
theorem d23_0 : decode jdk_43_method_3_code 0 = .ok (.iload_n 0, 1) := by decide +kernel
theorem d23_1 : decode jdk_43_method_3_code 1 = .ok (.sipush 255, 3) := by decide +kernel
theorem d23_4 : decode jdk_43_method_3_code 4 = .ok (.if_icmp .gt 7, 3) := by decide +kernel
theorem d23_7 : decode jdk_43_method_3_code 7 = .ok (.iconst 1, 1) := by decide +kernel
theorem d23_8 : decode jdk_43_method_3_code 8 = .ok (.goto 4, 3) := by decide +kernel
theorem d23_12 : decode jdk_43_method_3_code 12 = .ok (.ireturn, 1) := by decide +kernel
theorem pn_java_lang_StringLatin1 : plainName "java/lang/StringLatin1" = true := by first | (simp [plainName, overriddenIn]; done) | decide +kernel
theorem ef_23 (m : MethodId) (x0 : Int32) : entryFrame m #[(.int x0)] 1 = mkF m 0 #[.val (.int x0)] [] := by first | (simp [entryFrame, mkF, argsToLocals, Value.category]; done) | rfl
def Q23 (Z : State) (ch : Int32) (h0 : Heap) (n0 : Nat) (v : Option Value) (h : Heap) (L : List Loc) : Prop := v = some (.int 1) ∧ Fr n0 L ∧ h = h0
set_option maxRecDepth 65536 in
set_option maxHeartbeats 40000000 in
theorem rm23 (l : Launch) (Z : State) (a0 : Array Value) (hw : ∀ d ∈ tables_1, d.before a0 Z = true) (ws : List Jvm.Cond) (ch : Int32) (h0 : Heap) (n0 : Nat) (Z0 : n0 ≤ h0.size) (hc255 : ¬ ((255 : Int32) < ch)) :
    MetFree l (⟨"java/lang/StringLatin1", "canEncode", "(C)Z"⟩ : MethodName) (head1 (Jvm.Cond.code (⟨"java/lang/StringLatin1", "canEncode", "(C)Z"⟩ : MethodName) jdk_43_method_3_code 1 (some .boolean) :: ws) ({ frames := 0, cells := 0, slots := 0, locals := 0 } : Room)) (fun argz U => argz = #[(.int ch)] ∧ Z.Warmed39 U.vm ∧ U.heap = h0) (fun _ _ _ _ _ => True) (fun _ U o U' => ∃ v L, o = .returned v ∧ Q23 Z ch h0 n0 v U'.heap L ∧ FrameEnd U o U' L ({ frames := 0, cells := 0, slots := 0, locals := 0 } : Room).cells ({ frames := 0, cells := 0, slots := 0, locals := 0 } : Room).slots) := by
  refine MetFree.of_bodySF (plainFor_of_name pn_java_lang_StringLatin1) hisR ?_
  intro p e s m args below meth c s₁ Bd hml0 hP hK
  obtain ⟨rfl, hZ, hh⟩ := hP
  have hx := Bd.exec
  have hby := Bd.bytes
  have hml : c.maxLocals = 1 := hml0
  have hown : s.vm.findClass "java/lang/StringLatin1" = some m.cls := findClass_of_methodNamed Bd.named
  have hnm := (name_of_methodNamed Bd.named Bd.method).1
  have X0 : Stand p l e ({ frames := 0, cells := 0, slots := 0, locals := 0 } : Room) s m #[(.int ch)] below meth c s₁ [] 0 0 := Stand.of_body Bd
  have e0 : s₁.heap = h0 := by rw [← hh, Bd.state]; rfl
  have N0 := Fr.nil n0
  have G : Gets p e below (s₁.setTop (entryFrame m #[(.int ch)] 1)) (s₁.setTop (mkF m 0 #[.val (.int ch)] [])) := fun tq kq => castTop (ef_23 m ch) kq
  replace G := o_iloadN (q := 1) G X0.here hx (hb hby d23_0) rfl rfl
  replace G := o_sipush (q := 4) G X0.here hx (hb hby d23_1) (v := (255 : Int32)) (by decide) rfl
  have hc4_1 : ¬ ((255 : Int32) < ch) := hc255
  replace G := o_icmpNo (q := 7) G X0.here hx (hb hby d23_4) (flt hc4_1).2.2.1 rfl
  replace G := o_iconst (q := 8) G X0.here hx (hb hby d23_7) (v := (1 : Int32)) (by decide) rfl
  replace G := o_goto (q := 12) G X0.here hx (hb hby d23_8) (by decide) (by decide)
  obtain ⟨fs, hr, hrun, hended, hW, hsame⟩ := X0.leave (v := some (.int 1)) (fun h => by rw [Bd.returns] at h; cases h)
  refine ⟨_, _, G _ (retOut X0 hx Bd.returns rfl (Or.inl ⟨rfl, Or.inr (Or.inl rfl), _, rfl⟩) (hb hby d23_12) hr), hrun, hended, _, _, rfl, ?_, ⟨_, rfl⟩, hW, hsame.mono (by decide) (by decide)⟩
  show Q23 Z ch h0 n0 _ s₁.heap _
  rw [e0]
  exact ⟨rfl, N0, rfl⟩
theorem d24_0 : decode jdk_43_method_46_code 0 = .ok (.iconst 1, 1) := by decide +kernel
theorem d24_1 : decode jdk_43_method_46_code 1 = .ok (.newarray .byte, 2) := by decide +kernel
theorem d24_3 : decode jdk_43_method_46_code 3 = .ok (.dup, 1) := by decide +kernel
theorem d24_4 : decode jdk_43_method_46_code 4 = .ok (.iconst 0, 1) := by decide +kernel
theorem d24_5 : decode jdk_43_method_46_code 5 = .ok (.iload_n 0, 1) := by decide +kernel
theorem d24_6 : decode jdk_43_method_46_code 6 = .ok (.i2b, 1) := by decide +kernel
theorem d24_7 : decode jdk_43_method_46_code 7 = .ok (.bastore, 1) := by decide +kernel
theorem d24_8 : decode jdk_43_method_46_code 8 = .ok (.areturn, 1) := by decide +kernel
theorem ef_24 (m : MethodId) (x0 : Int32) : entryFrame m #[(.int x0)] 1 = mkF m 0 #[.val (.int x0)] [] := by first | (simp [entryFrame, mkF, argsToLocals, Value.category]; done) | rfl
def Q24 (Z : State) (ch : Int32) (h0 : Heap) (n0 : Nat) (v : Option Value) (h : Heap) (L : List Loc) : Prop := ∃ (b : Addr) (kb : ClassId), v = some (.ref b) ∧ Fr n0 L ∧ Keep h0 h [] ∧ h0.size ≤ b ∧ (Arv Z h b kb .byte (1 : Int32) [(.int (nar .byte (ch.toInt8.toInt32)))] (.int 0))
set_option maxRecDepth 65536 in
set_option maxHeartbeats 40000000 in
theorem rm24 (l : Launch) (Z : State) (a0 : Array Value) (hw : ∀ d ∈ tables_1, d.before a0 Z = true) (ws : List Jvm.Cond) (ch : Int32) (h0 : Heap) (n0 : Nat) (Z0 : n0 ≤ h0.size)  :
    MetFree l (⟨"java/lang/StringLatin1", "toBytes", "(C)[B"⟩ : MethodName) (head1 (Jvm.Cond.code (⟨"java/lang/StringLatin1", "toBytes", "(C)[B"⟩ : MethodName) jdk_43_method_46_code 1 (some (.array .byte)) :: ws) ({ frames := 0, cells := 1, slots := 1, locals := 0 } : Room)) (fun argz U => argz = #[(.int ch)] ∧ Z.Warmed39 U.vm ∧ U.heap = h0) (fun _ _ _ _ _ => True) (fun _ U o U' => ∃ v L, o = .returned v ∧ Q24 Z ch h0 n0 v U'.heap L ∧ FrameEnd U o U' L ({ frames := 0, cells := 1, slots := 1, locals := 0 } : Room).cells ({ frames := 0, cells := 1, slots := 1, locals := 0 } : Room).slots) := by
  refine MetFree.of_bodySF (plainFor_of_name pn_java_lang_StringLatin1) hisR ?_
  intro p e s m args below meth c s₁ Bd hml0 hP hK
  obtain ⟨rfl, hZ, hh⟩ := hP
  have hx := Bd.exec
  have hby := Bd.bytes
  have hml : c.maxLocals = 1 := hml0
  have hown : s.vm.findClass "java/lang/StringLatin1" = some m.cls := findClass_of_methodNamed Bd.named
  have hnm := (name_of_methodNamed Bd.named Bd.method).1
  have X0 : Stand p l e ({ frames := 0, cells := 1, slots := 1, locals := 0 } : Room) s m #[(.int ch)] below meth c s₁ [] 0 0 := Stand.of_body Bd
  have e0 : s₁.heap = h0 := by rw [← hh, Bd.state]; rfl
  have N0 := Fr.nil n0
  have K0 : Keep h0 h0 [] := Keep.refl _ _
  have G : Gets p e below (s₁.setTop (entryFrame m #[(.int ch)] 1)) (s₁.setTop (mkF m 0 #[.val (.int ch)] [])) := fun tq kq => castTop (ef_24 m ch) kq
  replace G := o_iconst (q := 1) G X0.here hx (hb hby d24_0) (v := (1 : Int32)) (by decide) rfl
  obtain ⟨T1, h1, k1, X1, e1, E1, A1, st1⟩ := newP X0 hx hZ (o_w hw 25 rfl) e0 (g := o_g G) rfl (hb hby d24_1) rfl (by decide) (cap := 1) (by decide) (by decide) (by decide) (by decide)
  obtain ⟨b1, g1⟩ : ∃ z, z = h0.size := ⟨_, rfl⟩
  rw [← g1] at A1 st1
  have ge_b1 : n0 ≤ b1 := Nat.le_trans Z0 (Nat.le_of_eq g1.symm)
  have sz_b1 : h0.size ≤ b1 := Nat.le_trans K0.1 (Nat.le_of_eq g1.symm)
  have Z1 : n0 ≤ h1.size := Nat.le_trans Z0 E1.1
  have K1 : Keep h0 h1 [] := K0.ext E1
  have V1 : Arv Z h1 b1 k1 .byte (1 : Int32) [(.int 0)] (.int 0) := (Arv.new A1 (by decide)).pad (pad_rep [] (.int 0) 1)
  replace G := o_nxs (q := 3) (st := [(.ref b1)]) G st1 rfl
  replace G := o_dup (q := 4) G X1.here hx (hb hby d24_3) rfl rfl
  replace G := o_iconst (q := 5) G X1.here hx (hb hby d24_4) (v := (0 : Int32)) (by decide) rfl
  replace G := o_iloadN (q := 6) G X1.here hx (hb hby d24_5) rfl rfl
  replace G := o_i2b (q := 7) G X1.here hx (hb hby d24_6) rfl rfl
  obtain ⟨c2, Ar2, q2, S2, N2', H2, G2'⟩ := id V1
  have hin2 : ¬ ((0 : Int32) < 0 ∨ c2.slots.size ≤ ((0 : Int32)).toNatClampNeg) := inb_of S2 ⟨by decide, by decide⟩
  obtain ⟨T2, h2, X2, e2, W2, st2⟩ := stB X1 hx hZ e1 Ar2 (j := (0 : Int32)) hin2 (g := o_g G) rfl rfl (hb hby d24_7)
  have N2 := Fr.snoc X2 N0 ge_b1
  have Z2 : n0 ≤ h2.size := Nat.le_trans Z1 (Keep.of_wr W2).1
  have K2 : Keep h0 h2 [] := K1.wr W2 (Or.inr sz_b1)
  have V2 : Arv Z h2 b1 k1 .byte (1 : Int32) [(.int (nar .byte (ch.toInt8.toInt32)))] (.int 0) := Arv.set Ar2 q2 S2 N2' H2 G2' (fits_nar_byte _) W2 0 rfl (Nat.le_of_ble_eq_true rfl)
  replace G := o_nxs (q := 8) (st := [(.ref b1)]) G st2 rfl
  obtain ⟨fs, hr, hrun, hended, hW, hsame⟩ := X2.leave (v := some (.ref b1)) (fun h => by rw [Bd.returns] at h; cases h)
  refine ⟨_, _, G _ (retOut X2 hx Bd.returns rfl (Or.inr (Or.inr (Or.inr (Or.inr ⟨rfl, rfl, rfl⟩)))) (hb hby d24_8) hr), hrun, hended, _, _, rfl, ?_, ⟨_, rfl⟩, hW, hsame.mono (by decide) (by decide)⟩
  show Q24 Z ch h0 n0 _ T2.heap _
  rw [e2]
  exact ⟨b1, k1, rfl, N2, K2, sz_b1, V2⟩
theorem d25_0 : decode jdk_42_method_151_code 0 = .ok (.aload_n 0, 1) := by decide +kernel
theorem d25_1 : decode jdk_42_method_151_code 1 = .ok (.invokespecial 1, 3) := by decide +kernel
theorem d25_4 : decode jdk_42_method_151_code 4 = .ok (.aload_n 0, 1) := by decide +kernel
theorem d25_5 : decode jdk_42_method_151_code 5 = .ok (.aload_n 1, 1) := by decide +kernel
theorem d25_6 : decode jdk_42_method_151_code 6 = .ok (.putfield 9, 3) := by decide +kernel
theorem d25_9 : decode jdk_42_method_151_code 9 = .ok (.aload_n 0, 1) := by decide +kernel
theorem d25_10 : decode jdk_42_method_151_code 10 = .ok (.iload_n 2, 1) := by decide +kernel
theorem d25_11 : decode jdk_42_method_151_code 11 = .ok (.putfield 15, 3) := by decide +kernel
theorem d25_14 : decode jdk_42_method_151_code 14 = .ok (.return_, 1) := by decide +kernel
theorem ef_25 (m : MethodId) (x0 : Addr) (x1 : Addr) : entryFrame m #[(.ref x0), (.ref x1), (.int 0)] 3 = mkF m 0 #[.val (.ref x0), .val (.ref x1), .val (.int 0)] [] := by first | (simp [entryFrame, mkF, argsToLocals, Value.category]; done) | rfl
def Q25 (Z : State) (tt : Addr) (b : Addr) (h0 : Heap) (n0 : Nat) (v : Option Value) (h : Heap) (L : List Loc) : Prop := v = none ∧ Fr n0 L ∧ Keep h0 h [tt] ∧ (Fld Z h tt o_n0 "value" "[B" (.ref b)) ∧ (Fld Z h tt o_n0 "coder" "B" (.int 0))
set_option maxRecDepth 65536 in
set_option maxHeartbeats 40000000 in
theorem rm25 (l : Launch) (Z : State) (a0 : Array Value) (hw : ∀ d ∈ tables_1, d.before a0 Z = true) (ws : List Jvm.Cond) (tt : Addr) (b : Addr) (h0 : Heap) (n0 : Nat) (Z0 : n0 ≤ h0.size) (P0 : Fld Z h0 tt o_n0 "value" "[B" .null) (P1 : Fld Z h0 tt o_n0 "coder" "B" (.int 0)) (P2 : Exa Z h0 tt o_n0) (P3 : n0 ≤ tt) :
    MetFree l (⟨o_n0, "<init>", "([BB)V"⟩ : MethodName) (head1 (Jvm.Cond.code (⟨o_n0, "<init>", "([BB)V"⟩ : MethodName) jdk_42_method_151_code 3 none :: ws) ({ frames := 1, cells := 0, slots := 0, locals := 12 } : Room)) (fun argz U => argz = #[(.ref tt), (.ref b), (.int 0)] ∧ Z.Warmed39 U.vm ∧ U.heap = h0) (fun _ _ _ _ _ => True) (fun _ U o U' => ∃ v L, o = .returned v ∧ Q25 Z tt b h0 n0 v U'.heap L ∧ FrameEnd U o U' L ({ frames := 1, cells := 0, slots := 0, locals := 12 } : Room).cells ({ frames := 1, cells := 0, slots := 0, locals := 12 } : Room).slots) := by
  refine MetFree.of_bodySF (plainFor_of_name pn_java_lang_String) hisR ?_
  intro p e s m args below meth c s₁ Bd hml0 hP hK
  obtain ⟨rfl, hZ, hh⟩ := hP
  have hx := Bd.exec
  have hby := Bd.bytes
  have hml : c.maxLocals = 3 := hml0
  have hown : s.vm.findClass o_n0 = some m.cls := findClass_of_methodNamed Bd.named
  have hnm := (name_of_methodNamed Bd.named Bd.method).1
  have X0 : Stand p l e ({ frames := 1, cells := 0, slots := 0, locals := 12 } : Room) s m #[(.ref tt), (.ref b), (.int 0)] below meth c s₁ [] 0 0 := Stand.of_body Bd
  have e0 : s₁.heap = h0 := by rw [← hh, Bd.state]; rfl
  have N0 := Fr.nil n0
  have K0 : Keep h0 h0 [tt] := Keep.refl _ _
  have G : Gets p e below (s₁.setTop (entryFrame m #[(.ref tt), (.ref b), (.int 0)] 3)) (s₁.setTop (mkF m 0 #[.val (.ref tt), .val (.ref b), .val (.int 0)] [])) := fun tq kq => castTop (ef_25 m tt b) kq
  replace G := o_aloadN (q := 1) G X0.here hx (hb hby d25_0) rfl rfl rfl
  obtain ⟨T1, X1, e1, st1⟩ := initO X0 hx hZ hown (o_w hw 17 rfl) (o_w hw 18 rfl) (o_w hw 19 rfl) e0 (g := o_g G) rfl (by rw [hml]; rfl) rfl (hb hby d25_1) (by decide) (W := 0) (by show 2 * 0 + _ ≤ _; exact Nat.le_of_eq rfl) (by decide)
  replace G := o_nxs (q := 4) (st := []) G st1 rfl
  replace G := o_aloadN (q := 5) G X1.here hx (hb hby d25_4) rfl rfl rfl
  replace G := o_aloadN (q := 6) G X1.here hx (hb hby d25_5) rfl rfl rfl
  obtain ⟨T2, h2, X2, e2, W2, st2⟩ := putF X1 hx hZ hown (host := "") (Or.inl (o_w hw 34 rfl)) Via.refl e1 P0 P2 (Or.inr ⟨(o_w hw 35 rfl), rfl, hnm⟩) (o_w hw 8 rfl) (ty := (.array .byte)) (by decide) rfl rfl (g := o_g G) rfl rfl (hb hby d25_6)
  have N2 := Fr.snoc X2 N0 P3
  have Z2 : n0 ≤ h2.size := Nat.le_trans Z0 (Keep.of_wr W2).1
  have K2 : Keep h0 h2 [tt] := K0.wr W2 (Or.inl (List.mem_of_getElem? (i := 0) rfl))
  have F2 : Fld Z h2 tt o_n0 "value" "[B" (.ref b) := P0.same W2
  replace G := o_nxs (q := 9) (st := []) G st2 rfl
  replace G := o_aloadN (q := 10) G X2.here hx (hb hby d25_9) rfl rfl rfl
  replace G := o_iloadN (q := 11) G X2.here hx (hb hby d25_10) rfl rfl
  have F3 := (P2.wr W2)
  have F4 := (P1.other W2 (Or.inr (slot_ne (Or.inr (o_w hw 33 rfl)) (Or.inr (o_w hw 35 rfl)) (by decide) (t := .byte) (t' := (.array .byte)) (by decide) (by decide))))
  obtain ⟨T5, h5, X5, e5, W5, st5⟩ := putFN X2 hx hZ hown (o_w hw 32 rfl) Via.refl e2 F4 F3 (Or.inr ⟨(o_w hw 33 rfl), rfl, hnm⟩) (o_w hw 8 rfl) (ty := .byte) (v' := (.int 0)) (by decide) rfl (by first | rfl | decide) (g := o_g G) rfl rfl (hb hby d25_11)
  have N5 := Fr.snoc X5 N2 P3
  have Z5 : n0 ≤ h5.size := Nat.le_trans Z2 (Keep.of_wr W5).1
  have K5 : Keep h0 h5 [tt] := K2.wr W5 (Or.inl (List.mem_of_getElem? (i := 0) rfl))
  have F5 : Fld Z h5 tt o_n0 "coder" "B" (.int 0) := F4.same W5
  replace G := o_nxs (q := 14) (st := []) G st5 rfl
  obtain ⟨fs, hr, hrun, hended, hW, hsame⟩ := X5.leave (v := none) (fun _ => rfl)
  refine ⟨_, _, G _ (X5.returnOut hx Bd.returns (hb hby d25_14) hr), hrun, hended, _, _, rfl, ?_, ⟨_, rfl⟩, hW, hsame.mono (by decide) (by decide)⟩
  have F6 := (F2.other W5 (Or.inr (slot_ne (Or.inr (o_w hw 35 rfl)) (Or.inr (o_w hw 33 rfl)) (by decide) (t := (.array .byte)) (t' := .byte) (by decide) (by decide))))
  show Q25 Z tt b h0 n0 _ T5.heap _
  rw [e5]
  exact ⟨rfl, N5, K5, F6, F5⟩
theorem pd_9 : parseMethodDescriptor "(C)Z" = some ⟨[.char], some .boolean⟩ := by decide +kernel
theorem pd_10 : parseMethodDescriptor "(C)[B" = some ⟨[.char], some (.array .byte)⟩ := by decide +kernel
theorem pd_11 : parseMethodDescriptor "([BB)V" = some ⟨[(.array .byte), .byte], none⟩ := by decide +kernel
theorem d22_0 : decode jdk_42_method_139_code 0 = .ok (.getstatic 38, 3) := by decide +kernel
theorem d22_3 : decode jdk_42_method_139_code 3 = .ok (.ifCond .eq 23, 3) := by decide +kernel
theorem d22_6 : decode jdk_42_method_139_code 6 = .ok (.iload_n 0, 1) := by decide +kernel
theorem d22_7 : decode jdk_42_method_139_code 7 = .ok (.invokestatic 1015, 3) := by decide +kernel
theorem d22_10 : decode jdk_42_method_139_code 10 = .ok (.ifCond .eq 16, 3) := by decide +kernel
theorem d22_13 : decode jdk_42_method_139_code 13 = .ok (.new 10, 3) := by decide +kernel
theorem d22_16 : decode jdk_42_method_139_code 16 = .ok (.dup, 1) := by decide +kernel
theorem d22_17 : decode jdk_42_method_139_code 17 = .ok (.iload_n 0, 1) := by decide +kernel
theorem d22_18 : decode jdk_42_method_139_code 18 = .ok (.invokestatic 1018, 3) := by decide +kernel
theorem d22_21 : decode jdk_42_method_139_code 21 = .ok (.iconst 0, 1) := by decide +kernel
theorem d22_22 : decode jdk_42_method_139_code 22 = .ok (.invokespecial 209, 3) := by decide +kernel
theorem d22_25 : decode jdk_42_method_139_code 25 = .ok (.areturn, 1) := by decide +kernel
theorem ef_22 (m : MethodId) (x0 : Int32) : entryFrame m #[(.int x0)] 1 = mkF m 0 #[.val (.int x0)] [] := by first | (simp [entryFrame, mkF, argsToLocals, Value.category]; done) | rfl
def Q22 (Z : State) (ch : Int32) (cw : Int32) (h0 : Heap) (n0 : Nat) (v : Option Value) (h : Heap) (L : List Loc) : Prop := ∃ (t : Addr) (b : Addr) (kb : ClassId), v = some (.ref t) ∧ Fr n0 L ∧ Keep h0 h [] ∧ h0.size ≤ t ∧ (Exa Z h t o_n0) ∧ (Fld Z h t o_n0 "value" "[B" (.ref b)) ∧ (Fld Z h t o_n0 "coder" "B" (.int 0)) ∧ (Arv Z h b kb .byte (1 : Int32) [(.int (nar .byte (ch.toInt8.toInt32)))] (.int 0))
set_option maxRecDepth 65536 in
set_option maxHeartbeats 40000000 in
theorem rm22 (l : Launch) (Z : State) (a0 : Array Value) (hw : ∀ d ∈ tables_1, d.before a0 Z = true) (ws : List Jvm.Cond) (ch : Int32) (cw : Int32) (h0 : Heap) (n0 : Nat) (Z0 : n0 ≤ h0.size) (P0 : Sta Z h0 o_n0 "COMPACT_STRINGS" "Z" (.int cw)) (hcw : ¬ cw = (0 : Int32)) (hc255 : ¬ ((255 : Int32) < ch)) :
    MetFree l (⟨o_n0, "valueOf", "(C)Ljava/lang/String;"⟩ : MethodName) (head1 (Jvm.Cond.code (⟨o_n0, "valueOf", "(C)Ljava/lang/String;"⟩ : MethodName) jdk_42_method_139_code 1 (some (.object o_n0)) :: ws) ({ frames := 2, cells := 2, slots := 5, locals := 27 } : Room)) (fun argz U => argz = #[(.int ch)] ∧ Z.Warmed39 U.vm ∧ U.heap = h0) (fun _ _ _ _ _ => True) (fun _ U o U' => ∃ v L, o = .returned v ∧ Q22 Z ch cw h0 n0 v U'.heap L ∧ FrameEnd U o U' L ({ frames := 2, cells := 2, slots := 5, locals := 27 } : Room).cells ({ frames := 2, cells := 2, slots := 5, locals := 27 } : Room).slots) := by
  refine MetFree.of_bodySF (plainFor_of_name pn_java_lang_String) hisR ?_
  intro p e s m args below meth c s₁ Bd hml0 hP hK
  obtain ⟨rfl, hZ, hh⟩ := hP
  have hx := Bd.exec
  have hby := Bd.bytes
  have hml : c.maxLocals = 1 := hml0
  have hown : s.vm.findClass o_n0 = some m.cls := findClass_of_methodNamed Bd.named
  have hnm := (name_of_methodNamed Bd.named Bd.method).1
  have X0 : Stand p l e ({ frames := 2, cells := 2, slots := 5, locals := 27 } : Room) s m #[(.int ch)] below meth c s₁ [] 0 0 := Stand.of_body Bd
  have e0 : s₁.heap = h0 := by rw [← hh, Bd.state]; rfl
  have N0 := Fr.nil n0
  have K0 : Keep h0 h0 [] := Keep.refl _ _
  have G : Gets p e below (s₁.setTop (entryFrame m #[(.int ch)] 1)) (s₁.setTop (mkF m 0 #[.val (.int ch)] [])) := fun tq kq => castTop (ef_22 m ch) kq
  obtain ⟨T1, X1, e1, st1⟩ := getS2 X0 hx hZ hown (host := "") (Or.inl (o_w hw 20 rfl)) Via.refl e0 P0 (g := o_g G) rfl (hb hby d22_0)
  replace G := o_nxs (q := 3) (st := [(.int cw)]) G st1 rfl
  have hc3_2 : ¬ (cw = (0 : Int32)) := hcw
  replace G := o_ifNo (q := 6) G X1.here hx (hb hby d22_3) ((if0 _ _).trans (feq hc3_2).1) rfl
  replace G := o_iloadN (q := 7) G X1.here hx (hb hby d22_6) rfl rfl
  obtain ⟨_, _, ⟨T3, L3, kk3, nn3⟩, -, X3, ⟨Lc3, hQ3, l3, y3, z3⟩, st3⟩ := Jvm.LawKit.callS X1 hx (y := (⟨"java/lang/StringLatin1", "canEncode", "(C)Z"⟩ : MethodName)) hown (mvT hZ (o_w hw 104 rfl)) (mvT hZ (o_w hw 105 rfl)) (mvT hZ (o_w hw 51 rfl)) (mvT hZ (o_w hw 106 rfl)) (by decide) (backOf (W := 0) (rm23 l Z a0 hw [] ch h0 n0 Z0 hc255) hZ (o_w hw 106 rfl) (o_w hw 51 rfl) (by decide) (by decide)) (g := o_g G) rfl (by rw [hml]; rfl) (argsL := [(.int ch)]) (rest := []) (lenOf pd_9 rfl) rfl (by show 2 * 0 + _ ≤ _; exact Nat.le_of_eq rfl) (hb hby d22_7) (fun _ _ => ⟨rfl, e1, (by decide : 0 + 0 ≤ _), (by decide : 0 + 0 ≤ _)⟩)
  dsimp only [Pt.U, Pt.locs, Pt.cells, Pt.slots] at X3 l3 y3 z3 st3 hQ3
  subst l3 y3 z3
  obtain ⟨rfl, N3q, e3⟩ := hQ3
  have N3 := Fr.app N0 N3q
  replace G := o_nxs (q := 10) (st := [(.int 1)]) G st3 rfl
  replace G := o_ifNo (q := 13) G X3.here hx (hb hby d22_10) (by decide) rfl
  obtain ⟨T5, h5, X5, e5, E5, A5, D5, -, st5⟩ := newO X3 hx hZ hown (o_w hw 48 rfl) (o_w hw 8 rfl) (o_w hw 9 rfl) e3 (g := o_g G) rfl (hb hby d22_13) (by decide) (by decide)
  obtain ⟨b5, g5⟩ : ∃ z, z = h0.size := ⟨_, rfl⟩
  rw [← g5] at A5 D5 st5
  have ge_b5 : n0 ≤ b5 := Nat.le_trans Z0 (Nat.le_of_eq g5.symm)
  have sz_b5 : h0.size ≤ b5 := Nat.le_trans K0.1 (Nat.le_of_eq g5.symm)
  have Z5 : n0 ≤ h5.size := Nat.le_trans Z0 E5.1
  have K5 : Keep h0 h5 [] := K0.ext E5
  have F5_coder : Fld Z h5 b5 o_n0 "coder" "B" (.int 0) := D5 (Or.inr (o_w hw 33 rfl)) (ty := .byte) (by decide)
  have F5_value : Fld Z h5 b5 o_n0 "value" "[B" .null := D5 (Or.inr (o_w hw 35 rfl)) (ty := (.array .byte)) (by decide)
  replace G := o_nxs (q := 16) (st := [(.ref b5)]) G st5 rfl
  replace G := o_dup (q := 17) G X5.here hx (hb hby d22_16) rfl rfl
  replace G := o_iloadN (q := 18) G X5.here hx (hb hby d22_17) rfl rfl
  obtain ⟨_, _, ⟨T6, L6, kk6, nn6⟩, -, X6, ⟨Lc6, hQ6, l6, y6, z6⟩, st6⟩ := Jvm.LawKit.callS X5 hx (y := (⟨"java/lang/StringLatin1", "toBytes", "(C)[B"⟩ : MethodName)) hown (mvT hZ (o_w hw 107 rfl)) (mvT hZ (o_w hw 108 rfl)) (mvT hZ (o_w hw 51 rfl)) (mvT hZ (o_w hw 109 rfl)) (by decide) (backOf (W := 2) (rm24 l Z a0 hw [] ch h5 n0 Z5 ) hZ (o_w hw 109 rfl) (o_w hw 51 rfl) (by decide) (by decide)) (g := o_g G) rfl (by rw [hml]; rfl) (argsL := [(.int ch)]) (rest := [(.ref b5), (.ref b5)]) (lenOf pd_10 rfl) rfl (by show 2 * 0 + _ ≤ _; exact Nat.le_of_eq rfl) (hb hby d22_18) (fun _ _ => ⟨rfl, e5, (by decide : 1 + 1 ≤ _), (by decide : 4 + 1 ≤ _)⟩)
  dsimp only [Pt.U, Pt.locs, Pt.cells, Pt.slots] at X6 l6 y6 z6 st6 hQ6
  subst l6 y6 z6
  obtain ⟨b_6, kb_6, rfl, N6q, K6q, B6_0, B6_1⟩ := hQ6
  have ne7 : b5 ≠ b_6 := Nat.ne_of_lt (Nat.lt_of_lt_of_le F5_value.lt B6_0)
  have ge_b_6 : n0 ≤ b_6 := Nat.le_trans Z5 B6_0
  have sz_b_6 : h0.size ≤ b_6 := Nat.le_trans K5.1 B6_0
  have Z6 : n0 ≤ T6.heap.size := Nat.le_trans Z5 K6q.1
  have K6 : Keep h0 T6.heap [] := K5.trans K6q all0
  have N6 := Fr.app N3 N6q
  replace G := o_nxs (q := 21) (st := [(.ref b_6), (.ref b5), (.ref b5)]) G st6 rfl
  replace G := o_iconst (q := 22) G X6.here hx (hb hby d22_21) (v := (0 : Int32)) (by decide) rfl
  have F9 := (F5_value.keep K6q nin0)
  have F10 := (F5_coder.keep K6q nin0)
  have F11 := (A5.keep K6q)
  obtain ⟨_, _, ⟨T8, L8, kk8, nn8⟩, -, X8, ⟨Lc8, hQ8, l8, y8, z8⟩, st8⟩ := X6.specialBack hx (y := (⟨o_n0, "<init>", "([BB)V"⟩ : MethodName)) rfl hown (mvT hZ (o_w hw 110 rfl)) (mvT hZ (o_w hw 111 rfl)) (mvT hZ (o_w hw 112 rfl)) (by decide) (backOf (W := 1) (rm25 l Z a0 hw [] b5 b_6 T6.heap n0 Z6 F9 F10 F11 ge_b5) hZ (o_w hw 112 rfl) (o_w hw 9 rfl) (by decide) (by decide)) (g := o_g G) rfl (by rw [hml]; rfl) (Steps.refl _) (a := b5) (argsL := [(.ref b_6), (.int 0)]) (rest := [(.ref b5)]) (lenOf pd_11 rfl) rfl (by show 2 * 0 + _ ≤ _; exact Nat.le_of_eq rfl) (hb hby d22_22) (fun _ _ => ⟨rfl, rfl, (by decide : 2 + 0 ≤ _), (by decide : 5 + 0 ≤ _)⟩)
  dsimp only [Pt.U, Pt.locs, Pt.cells, Pt.slots] at X8 l8 y8 z8 st8 hQ8
  subst l8 y8 z8
  obtain ⟨rfl, N8q, K8q, B8_0, B8_1⟩ := hQ8
  have Z8 : n0 ≤ T8.heap.size := Nat.le_trans Z6 K8q.1
  have K8 : Keep h0 T8.heap [] := K6.trans K8q (allS (Or.inr sz_b5) all0)
  have N8 := Fr.app N6 N8q
  replace G := o_nxv (q := 25) (st := [(.ref b5)]) G st8 rfl
  obtain ⟨fs, hr, hrun, hended, hW, hsame⟩ := X8.leave (v := some (.ref b5)) (fun h => by rw [Bd.returns] at h; cases h)
  refine ⟨_, _, G _ (retOut X8 hx Bd.returns rfl (Or.inr (Or.inr (Or.inr (Or.inr ⟨rfl, rfl, rfl⟩)))) (hb hby d22_25) hr), hrun, hended, _, _, rfl, ?_, ⟨_, rfl⟩, hW, hsame.mono (by decide) (by decide)⟩
  have F12 := (F11.keep K8q)
  have F13 := (B6_1.keep K8q (ninS (Ne.symm ne7) nin0))
  show Q22 Z ch cw h0 n0 _ T8.heap _
  exact ⟨b5, b_6, kb_6, rfl, N8, K8, sz_b5, F12, B8_0, B8_1, F13⟩
theorem o_set {l : List Int32} {i : Nat} (hi : i < l.length) (c : Int32) : l.set i c = l ↔ c = l.getD i 0 := by
  have e : l.getD i 0 = l[i] := by rw [List.getD_eq_getElem?_getD, List.getElem?_eq_getElem hi]; rfl
  rw [e]
  constructor
  · intro h
    have q : (l.set i c)[i]? = l[i]? := by rw [h]
    rw [List.getElem?_set_self hi, List.getElem?_eq_getElem hi] at q
    exact Option.some.inj q
  · intro h; subst h; exact List.set_getElem_self hi
theorem o_accP {i : Nat} (hi : i < o_P.length) (c : Int32) : o_acc (o_P.set i c) = if c = o_P.getD i 0 then 1 else 0 := by
  have h2 : ¬ o_E = o_P.set i c := fun q => by
    have := congrArg List.length q
    rw [List.length_set] at this
    exact absurd this (by decide)
  by_cases q : c = o_P.getD i 0
  · rw [if_pos q]; exact if_pos ((o_set hi c).mpr q).symm
  · rw [if_neg q]; exact (if_neg fun z => q ((o_set hi c).mp z.symm)).trans (if_neg h2)
theorem o_accE {i : Nat} (hi : i < o_E.length) (c : Int32) : o_acc (o_E.set i c) = if c = o_E.getD i 0 then 1 else 0 := by
  have h2 : ¬ o_P = o_E.set i c := fun q => by
    have := congrArg List.length q
    rw [List.length_set] at this
    exact absurd this (by decide)
  by_cases q : c = o_E.getD i 0
  · rw [if_pos q]; exact (if_neg h2).trans (if_pos ((o_set hi c).mpr q).symm)
  · rw [if_neg q]; exact (if_neg h2).trans (if_neg fun z => q ((o_set hi c).mp z.symm))
theorem o_accS {us : List Int32} (h : us.length < 52) : o_acc us = 0 := by
  have h1 : ¬ o_P = us := fun q => by rw [← q] at h; exact absurd h (by decide)
  have h2 : ¬ o_E = us := fun q => by rw [← q] at h; exact absurd h (by decide)
  exact (if_neg h1).trans (if_neg h2)
theorem o_mapD (l : List Int32) (n : Nat) : (l.map Value.int).getD n (.int 0) = .int (l.getD n 0) := by
  simp only [List.getD_eq_getElem?_getD, List.getElem?_map]
  cases l[n]? <;> rfl
theorem o_chr {x i : Int32} (h : x.toUInt32.toUInt16.toUInt32.toInt32 = i) : nar .char i = i ∧ 0 ≤ i.toInt ∧ i.toInt < 65536 := by
  have q : 0 ≤ (x.toUInt32.toUInt16.toUInt32.toInt32).toInt ∧ (x.toUInt32.toUInt16.toUInt32.toInt32).toInt < 65536 := o_nr x
  have e : nar .char x.toUInt32.toUInt16.toUInt32.toInt32 = x.toUInt32.toUInt16.toUInt32.toInt32 := o_nar x
  rw [h] at q e
  exact ⟨e, q⟩
theorem o_chb {x i : Int32} (h : (x &&& 255).toUInt32.toUInt16.toUInt32.toInt32 = i) : (¬ nar .char i < 0 ∧ ¬ (255 : Int32) < nar .char i) ∧ ¬ i < 0 ∧ ¬ (255 : Int32) < i := by
  rw [Jvm.RoadKit.i2c_mask] at h
  have e : nar .char i = i := by rw [← h]; exact Jvm.RoadKit.i2c_mask x
  have a := c_mask x 255 8 (by decide) (by decide)
  rw [h] at a
  have q : ¬ i < 0 ∧ ¬ (255 : Int32) < i := by
    rw [Int32.lt_iff_toInt_lt, Int32.lt_iff_toInt_lt, show (0 : Int32).toInt = 0 from rfl, show (255 : Int32).toInt = 255 from rfl]; omega
  exact ⟨by rw [e]; exact q, q⟩
theorem o_on {i : Int32} (h : 0 ≤ i.toInt) : i = Int32.ofNat i.toNatClampNeg :=
  (Int32.ofNat_toNatClampNeg i (Int32.le_iff_toInt_le.mpr (by rw [show (0 : Int32).toInt = 0 from rfl]; exact h))).symm
theorem o_nng {i : Int32} (h : 0 ≤ i.toInt) : ¬ i < 0 := by
  rw [Int32.lt_iff_toInt_lt, show (0 : Int32).toInt = 0 from rfl]; omega
theorem o_setm {l : List Int32} {vs : List Value} {n : Nat} {c d : Int32} (hl : vs = l.map Value.int) (hd : d = c) : vs.set n (.int d) = (l.set n c).map Value.int := by
  subst hl hd; exact List.map_set.symm
theorem o_lat {l : List Int32} (hl : ∀ c ∈ l, ¬ c < 0 ∧ ¬ (255 : Int32) < c) {n j : Nat} {c : Int32} (h : j ≠ n) : ¬ (255 : Int32) < (l.set n c).getD j 0 := by
  rw [List.getD_eq_getElem?_getD, List.getElem?_set_ne (Ne.symm h)]
  cases q : l[j]? with
  | none => exact by decide
  | some v => exact (hl v (List.mem_of_getElem? q)).2
theorem o_gk {l : List Int32} {n : Nat} {c : Int32} (h : n < l.length) : (l.set n c).getD n 0 = c := by
  rw [List.getD_eq_getElem?_getD, List.getElem?_set_self h]; rfl
theorem o_gkl {l : List Int32} {n : Nat} {c : Int32} (h : n < l.length) (hb : (255 : Int32) < c) : (255 : Int32) < (l.set n c).getD n 0 := by
  rw [o_gk h]; exact hb
theorem o_gkr {l : List Int32} {n : Nat} {c : Int32} (h : n < l.length) (hb : 0 ≤ c.toInt ∧ c.toInt < 65536) : 0 ≤ ((l.set n c).getD n 0).toInt ∧ ((l.set n c).getD n 0).toInt < 65536 := by
  rw [o_gk h]; exact hb
theorem o_ngt {l : List Int32} (hl : ∀ c ∈ l, ¬ c < 0 ∧ ¬ (255 : Int32) < c) {n : Nat} {c : Int32} (hb : (255 : Int32) < c) : ¬ c = l.getD n 0 := by
  have h : ¬ (255 : Int32) < l.getD n 0 := by
    rw [List.getD_eq_getElem?_getD]
    cases q : l[n]? with
    | none => exact by decide
    | some v => exact (hl v (List.mem_of_getElem? q)).2
  intro q; rw [q] at hb; exact h hb
theorem o_hps {l : List Int32} (hl : ∀ c ∈ l, ¬ c < 0 ∧ ¬ (255 : Int32) < c) {n : Nat} {c : Int32} (hc : ¬ c < 0 ∧ ¬ (255 : Int32) < c) : ∀ z ∈ l.set n c, ¬ z < 0 ∧ ¬ (255 : Int32) < z := fun z hz => by
  rcases List.mem_or_eq_of_mem_set hz with q | q
  · exact hl z q
  · rw [q]; exact hc
theorem o_bu {l : List Int32} (ha : ∀ c ∈ l, ¬ c < 0 ∧ ¬ (255 : Int32) < c) : ∀ c ∈ l, ¬ c < 0 ∧ ¬ (65535 : Int32) < c := fun c hc => ⟨(ha c hc).1, fun q => (ha c hc).2 (by
  rw [Int32.lt_iff_toInt_lt, show (65535 : Int32).toInt = 65535 from rfl] at q
  rw [Int32.lt_iff_toInt_lt, show (255 : Int32).toInt = 255 from rfl]
  omega)⟩
theorem o_codS {l : List Int32} {n : Nat} {N : Int32} (hl : l.length = n) (hN : N = Int32.ofNat n) (ha : ∀ c ∈ l, ¬ c < 0 ∧ ¬ (255 : Int32) < c) : StrChars.Road.CodA l 0 N ((l.map fun c => c.toInt8.toInt32).map Value.int) :=
  Or.inl ⟨rfl, by rw [hl]; exact hN, by rw [List.map_map] <;> rfl, fun c hc => (ha c hc).2⟩
theorem o_cod1 {c : Int32} (h : ¬ c < 0 ∧ ¬ (255 : Int32) < c) : StrChars.Road.CodA [c] 0 (1 : Int32) [(.int (nar .byte (c.toInt8.toInt32)))] := by
  have e : nar .byte c.toInt8.toInt32 = StrChars.lo8 c := by
    show c.toInt8.toInt32.toInt8.toInt32 = c.toInt8.toInt32
    rw [Int8.toInt8_toInt32]
  refine Or.inl ⟨rfl, rfl, ?_, List.forall_mem_cons.mpr ⟨h.2, fun z hz => by cases hz⟩⟩
  rw [e] <;> rfl
theorem o_al1 {a : Int32} (ha : ¬ a < 0 ∧ ¬ (255 : Int32) < a) : ∀ c ∈ [a], ¬ c < 0 ∧ ¬ (255 : Int32) < c := List.forall_mem_cons.mpr ⟨ha, fun z hz => by cases hz⟩
theorem o_al2 {a b : Int32} (ha : ¬ a < 0 ∧ ¬ (255 : Int32) < a) (hb : ¬ b < 0 ∧ ¬ (255 : Int32) < b) : ∀ c ∈ [a, b], ¬ c < 0 ∧ ¬ (255 : Int32) < c := List.forall_mem_cons.mpr ⟨ha, o_al1 hb⟩
theorem o_al3 {a b d : Int32} (ha : ¬ a < 0 ∧ ¬ (255 : Int32) < a) (hb : ¬ b < 0 ∧ ¬ (255 : Int32) < b) (hd : ¬ d < 0 ∧ ¬ (255 : Int32) < d) : ∀ c ∈ [a, b, d], ¬ c < 0 ∧ ¬ (255 : Int32) < c := List.forall_mem_cons.mpr ⟨ha, o_al2 hb hd⟩
theorem o_baP : ∀ c ∈ o_P, ¬ c < 0 ∧ ¬ (255 : Int32) < c := by decide
theorem o_baE : ∀ c ∈ o_E, ¬ c < 0 ∧ ¬ (255 : Int32) < c := by decide
theorem o_wch : ∀ d ∈ StrChars.Road.wordsChN, d ∈ tables_1 := by decide +kernel
theorem o_wst : ∀ d ∈ StrChars.Road.words, d ∈ tables_1 := by decide +kernel
theorem o_acA : o_acc o_A = 0 := by decide +kernel
theorem o_nzP : ¬ o_acc o_P = 0 := by decide +kernel
theorem o_nzE : ¬ o_acc o_E = 0 := by decide +kernel
theorem pd_12 : parseMethodDescriptor "()[C" = some ⟨[], some (.array .char)⟩ := by decide +kernel
theorem pd_13 : parseMethodDescriptor "([C)V" = some ⟨[(.array .char)], none⟩ := by decide +kernel
theorem pd_14 : parseMethodDescriptor "(Ljava/lang/String;)Z" = some ⟨[(.object o_n0)], some .boolean⟩ := by decide +kernel
theorem pd_15 : parseMethodDescriptor "(I)C" = some ⟨[.int], some .char⟩ := by decide +kernel
theorem pd_16 : parseMethodDescriptor "(C)Ljava/lang/String;" = some ⟨[.char], some (.object o_n0)⟩ := by decide +kernel
theorem ef_0 (m : MethodId) (x0 : Int32) (x1 : Int32) (x2 : Int32) (x3 : Int32) (x4 : Int32) : entryFrame m #[(.int x0), (.int x1), (.int x2), (.int x3), (.int x4)] maxLocals = mkF m 0 #[.val (.int x0), .val (.int x1), .val (.int x2), .val (.int x3), .val (.int x4), .unset, .unset, .unset, .unset, .unset, .unset, .unset, .unset] [] := by first | (simp [entryFrame, mkF, argsToLocals, Value.category, maxLocals]; done) | rfl
def Q0 (Z : State) (i0 : Int32) (i1 : Int32) (i2 : Int32) (i3 : Int32) (i4 : Int32) (cw : Int32) (fm : Value) (h0 : Heap) (n0 : Nat) (v : Option Value) (h : Heap) (L : List Loc) : Prop := v = some (.int 1) ∧ Fr n0 L
set_option maxRecDepth 65536 in
set_option maxHeartbeats 40000000 in
theorem rm0 (l : Launch) (Z : State) (a0 : Array Value) (hw : ∀ d ∈ tables_1, d.before a0 Z = true) (ws : List Jvm.Cond) (i0 : Int32) (i1 : Int32) (i2 : Int32) (i3 : Int32) (i4 : Int32) (cw : Int32) (fm : Value) (h0 : Heap) (n0 : Nat) (Z0 : n0 ≤ h0.size) (P0 : Old Z n0 h0) (P1 : Sta Z Z.heap "java/lang/StringUTF16" "$assertionsDisabled" "Z" (.int 1)) (P2 : Sta Z Z.heap "java/lang/StringUTF16" "HI_BYTE_SHIFT" "I" (.int 0)) (P3 : Sta Z Z.heap "java/lang/StringUTF16" "LO_BYTE_SHIFT" "I" (.int 8)) (P4 : Sta Z Z.heap o_n0 "COMPACT_STRINGS" "Z" (.int cw)) (hcw : ¬ cw = (0 : Int32)) (P6 : Sta Z Z.heap "jdk/internal/util/Preconditions" "SIOOBE_FORMATTER" "Ljava/util/function/BiFunction;" fm) (hfm : fm.isRef = true) :
    MetFree l x (head1 (Jvm.Cond.code x code maxLocals ret :: ws) room_1) (fun argz U => argz = #[(.int i0), (.int i1), (.int i2), (.int i3), (.int i4)] ∧ Z.Warmed39 U.vm ∧ U.heap = h0 ∧ CHv Z o_EL U.vm h0) (fun _ _ _ _ _ => True) (fun _ U o U' => ∃ v L, o = .returned v ∧ Q0 Z i0 i1 i2 i3 i4 cw fm h0 n0 v U'.heap L ∧ ReturnedEndW U o U' L room_1.cells room_1.slots) := by
  refine MetFree.of_bodySF (plainFor_of_name pn_com_example_assertgate_assertgate_saml_NameIdFormatsIsAcceptedPinLaw) hisR ?_
  intro p e s m args below meth c s₁ Bd hml0 hP hK
  obtain ⟨rfl, hZ, hh, hV⟩ := hP
  have hx := Bd.exec
  have hby := Bd.bytes
  have hml : c.maxLocals = 13 := hml0
  have hown : s.vm.findClass "com/example/assertgate/assertgate/saml/NameIdFormatsIsAcceptedPinLaw" = some m.cls := findClass_of_methodNamed Bd.named
  have hnm := (name_of_methodNamed Bd.named Bd.method).1
  have X0 : Stand p l e room_1 s m #[(.int i0), (.int i1), (.int i2), (.int i3), (.int i4)] below meth c s₁ [] 0 0 := Stand.of_body Bd
  have e0 : s₁.heap = h0 := by rw [← hh, Bd.state]; rfl
  have N0 := Fr.nil n0
  have G : Gets p e below (s₁.setTop (entryFrame m #[(.int i0), (.int i1), (.int i2), (.int i3), (.int i4)] maxLocals)) (s₁.setTop (mkF m 0 #[.val (.int i0), .val (.int i1), .val (.int i2), .val (.int i3), .val (.int i4), .unset, .unset, .unset, .unset, .unset, .unset, .unset, .unset] [])) := fun tq kq => castTop (ef_0 m i0 i1 i2 i3 i4) kq
  replace G := o_iloadN (q := 1) G X0.here hx (hb hby at_0) rfl rfl
  replace G := o_iconst (q := 2) G X0.here hx (hb hby at_1) (v := (3 : Int32)) (by decide) rfl
  obtain ⟨kk, hn_kk⟩ : ∃ z : Int32, (i0 &&& (3 : Int32)) = z := ⟨_, rfl⟩
  replace G := o_iand (q := 3) G X0.here hx (hb hby at_2) hn_kk rfl
  rcases o_cases4 (o_m3 hn_kk) with rfl | rfl | rfl | rfl
  replace G := o_istore (q := 5) (l' := #[.val (.int i0), .val (.int i1), .val (.int i2), .val (.int i3), .val (.int i4), .val (.int 0), .unset, .unset, .unset, .unset, .unset, .unset, .unset]) G X0.here hx (hb hby at_3) rfl rfl
  replace G := o_iloadN (q := 6) G X0.here hx (hb hby at_5) rfl rfl
  replace G := o_nxs (q := 8) (st := [(.int 65535), (.int i2)]) G (X0.ldcInt hx hown (mvT hZ (o_w hw 0 rfl)) (g := o_g G) rfl (hb hby at_6)) rfl
  replace G := o_iand (q := 9) G X0.here hx (hb hby at_8) rfl rfl
  obtain ⟨cc, hn_cc⟩ : ∃ z : Int32, ((i2 &&& (65535 : Int32)).toUInt32.toUInt16.toUInt32.toInt32) = z := ⟨_, rfl⟩
  replace G := o_i2c (q := 10) G X0.here hx (hb hby at_9) hn_cc rfl
  have hcr := o_chr hn_cc
  replace G := o_istore (q := 12) (l' := #[.val (.int i0), .val (.int i1), .val (.int i2), .val (.int i3), .val (.int i4), .val (.int 0), .val (.int cc), .unset, .unset, .unset, .unset, .unset, .unset]) G X0.here hx (hb hby at_10) rfl rfl
  replace G := o_iload (q := 14) G X0.here hx (hb hby at_12) rfl rfl
  replace G := o_ifNo (q := 17) G X0.here hx (hb hby at_14) (by decide) rfl
  obtain ⟨_, _, ⟨T2, L2, kk2, nn2⟩, -, X2, ⟨Lc2, hQ2, l2, y2, z2⟩, st2⟩ := Jvm.LawKit.callS X0 hx (y := (⟨"com/example/assertgate/assertgate/saml/NameIdFormatsIsAcceptedPinLaw", "persistentChars", "()[C"⟩ : MethodName)) hown (mvT hZ (o_w hw 1 rfl)) (mvT hZ (o_w hw 2 rfl)) (mvT hZ (o_w hw 3 rfl)) (mvT hZ (o_w hw 4 rfl)) (by decide) (backOf (W := 0) (rm1 l Z a0 hw []  h0 n0 Z0 ) hZ (o_w hw 4 rfl) (o_w hw 3 rfl) (by decide) (by decide)) (g := o_g G) rfl (by rw [hml]; rfl) (argsL := []) (rest := []) (lenOf pd_12 rfl) rfl (by show 2 * 0 + _ ≤ _; exact Nat.le_of_eq rfl) (hb hby at_17) (fun _ _ => ⟨rfl, e0, (by decide : 0 + 1 ≤ _), (by decide : 0 + 52 ≤ _)⟩)
  dsimp only [Pt.U, Pt.locs, Pt.cells, Pt.slots] at X2 l2 y2 z2 st2 hQ2
  subst l2 y2 z2
  obtain ⟨b_2, kb_2, rfl, N2q, K2q, B2_0, B2_1⟩ := hQ2
  have ge_b_2 : n0 ≤ b_2 := Nat.le_trans Z0 B2_0
  have Z2 : n0 ≤ T2.heap.size := Nat.le_trans Z0 K2q.1
  have N2 := Fr.app N0 N2q
  replace G := o_nxs (q := 20) (st := [(.ref b_2)]) G st2 rfl
  replace G := o_astore (q := 22) (l' := #[.val (.int i0), .val (.int i1), .val (.int i2), .val (.int i3), .val (.int i4), .val (.int 0), .val (.int cc), .val (.ref b_2), .unset, .unset, .unset, .unset, .unset]) G X2.here hx (hb hby at_20) rfl rfl rfl
  replace G := o_iloadN (q := 23) G X2.here hx (hb hby at_22) rfl rfl
  replace G := o_nxs (q := 25) (st := [(.int 2147483647), (.int i1)]) G (X2.ldcInt hx hown (mvT hZ (o_w hw 6 rfl)) (g := o_g G) rfl (hb hby at_23)) rfl
  replace G := o_iand (q := 26) G X2.here hx (hb hby at_25) rfl rfl
  replace G := o_bipush (q := 28) G X2.here hx (hb hby at_26) (v := (52 : Int32)) (by decide) rfl
  obtain ⟨pk, hn_pk⟩ : ∃ z : Int32, ((i1 &&& (2147483647 : Int32)) % (52 : Int32)) = z := ⟨_, rfl⟩
  replace G := o_irem (q := 29) G X2.here hx (hb hby at_28) (by decide) hn_pk rfl
  have hpk := o_rem 52 52 rfl (by decide) hn_pk
  have hpc := o_cn hpk.1
  have hpl : pk.toNatClampNeg < o_P.length := by
    show _ < 52
    omega
  have hpj := o_on hpk.1
  have hsl : (o_P.set pk.toNatClampNeg cc).length = 52 := by
    rw [List.length_set] <;> rfl
  replace G := o_istore (q := 31) (l' := #[.val (.int i0), .val (.int i1), .val (.int i2), .val (.int i3), .val (.int i4), .val (.int 0), .val (.int cc), .val (.ref b_2), .val (.int pk), .unset, .unset, .unset, .unset]) G X2.here hx (hb hby at_29) rfl rfl
  replace G := o_aload (q := 33) G X2.here hx (hb hby at_31) rfl rfl rfl
  replace G := o_iload (q := 35) G X2.here hx (hb hby at_33) rfl rfl
  replace G := o_iload (q := 37) G X2.here hx (hb hby at_35) rfl rfl
  obtain ⟨c3, Ar3, q3, S3, N3', H3, G3'⟩ := id B2_1
  have hin3 : ¬ (pk < 0 ∨ c3.slots.size ≤ (pk).toNatClampNeg) := inb_of S3 (o_ib hpk.1 (by rw [show (52 : Int32).toInt = 52 from rfl]; exact hpk.2))
  obtain ⟨T3, h3, X3, e3, W3, st3⟩ := stC X2 hx hZ rfl Ar3 (j := pk) hin3 (g := o_g G) rfl rfl (hb hby at_37)
  have N3 := Fr.snoc X3 N2 ge_b_2
  have Z3 : n0 ≤ h3.size := Nat.le_trans Z2 (Keep.of_wr W3).1
  have V3 : Arv Z h3 b_2 kb_2 .char (52 : Int32) ([(.int 117), (.int 114), (.int 110), (.int 58), (.int 111), (.int 97), (.int 115), (.int 105), (.int 115), (.int 58), (.int 110), (.int 97), (.int 109), (.int 101), (.int 115), (.int 58), (.int 116), (.int 99), (.int 58), (.int 83), (.int 65), (.int 77), (.int 76), (.int 58), (.int 50), (.int 46), (.int 48), (.int 58), (.int 110), (.int 97), (.int 109), (.int 101), (.int 105), (.int 100), (.int 45), (.int 102), (.int 111), (.int 114), (.int 109), (.int 97), (.int 116), (.int 58), (.int 112), (.int 101), (.int 114), (.int 115), (.int 105), (.int 115), (.int 116), (.int 101), (.int 110), (.int 116)].set pk.toNatClampNeg (.int (nar .char cc))) (.int 0) := Arv.set Ar3 q3 S3 N3' H3 G3' (fits_nar_char _) W3 pk.toNatClampNeg rfl (by show _ < 52; omega)
  replace G := o_nxs (q := 38) (st := []) G st3 rfl
  have VP : Arv Z h3 b_2 kb_2 .char (52 : Int32) ((o_P.set pk.toNatClampNeg cc).map Value.int) (.int 0) := by
    rw [← o_setm (l := o_P) rfl hcr.1]
    exact V3
  obtain ⟨T4, h4, X4, e4, E4, A4, D4, -, st4⟩ := newO X3 hx hZ hown (o_w hw 7 rfl) (o_w hw 8 rfl) (o_w hw 9 rfl) e3 (g := o_g G) rfl (hb hby at_38) (by decide) (by decide)
  obtain ⟨b4, g4⟩ : ∃ z, z = h3.size := ⟨_, rfl⟩
  rw [← g4] at A4 D4 st4
  have ne5 : b_2 ≠ b4 := Nat.ne_of_lt (Nat.lt_of_lt_of_le VP.lt (Nat.le_of_eq g4.symm))
  have ge_b4 : n0 ≤ b4 := Nat.le_trans Z3 (Nat.le_of_eq g4.symm)
  have Z4 : n0 ≤ h4.size := Nat.le_trans Z3 E4.1
  have F4_coder : Fld Z h4 b4 o_n0 "coder" "B" (.int 0) := D4 (Or.inr (o_w hw 33 rfl)) (ty := .byte) (by decide)
  have F4_value : Fld Z h4 b4 o_n0 "value" "[B" .null := D4 (Or.inr (o_w hw 35 rfl)) (ty := (.array .byte)) (by decide)
  replace G := o_nxs (q := 41) (st := [(.ref b4)]) G st4 rfl
  replace G := o_dup (q := 42) G X4.here hx (hb hby at_41) rfl rfl
  replace G := o_aload (q := 44) G X4.here hx (hb hby at_42) rfl rfl rfl
  by_cases hbig : (255 : Int32) < cc
  have F7 := (((P0.keep K2q all0).wr W3 ge_b_2).ext E4)
  have F8 : Arv Z h4 b_2 kb_2 .char (52 : Int32) ((o_P.set pk.toNatClampNeg cc).map Value.int) (.int 0) := (VP.ext E4)
  obtain ⟨_, _, ⟨T6, L6, kk6, nn6⟩, -, X6, ⟨Lc6, hQ6, l6, y6, z6⟩, st6⟩ := X4.specialBack hx (y := (⟨o_n0, "<init>", "([C)V"⟩ : MethodName)) rfl hown (mvT hZ (o_w hw 10 rfl)) (mvT hZ (o_w hw 11 rfl)) (mvT hZ (o_w hw 12 rfl)) (by decide) (backOf (W := 1) (rm2u l Z a0 hw [] b4 b_2 kb_2 (fun i => (o_P.set pk.toNatClampNeg cc).getD i.toNatClampNeg 0) ((o_P.set pk.toNatClampNeg cc).map Value.int) pk (52 : Int32) cw h4 n0 Z4 F7 P1 P2 P3 P4 F4_value F4_coder A4 ge_b4 F8 hcw (fun i _ _ => o_mapD _ _) ⟨hpk.1, (by rw [show (52 : Int32).toInt = 52 from rfl]; exact hpk.2), (by decide)⟩ (fun i h0 h1 => o_lat o_baP (by have := o_cn h0; omega)) (o_gkl hpl hbig) (o_gkr hpl hcr.2)) hZ (o_w hw 12 rfl) (o_w hw 9 rfl) (by decide) (by decide)) (g := o_g G) rfl (by rw [hml]; rfl) (Steps.refl _) (a := b4) (argsL := [(.ref b_2)]) (rest := [(.ref b4)]) (lenOf pd_13 rfl) rfl (by show 2 * 0 + _ ≤ _; exact Nat.le_of_eq rfl) (hb hby at_44) (fun _ _ => ⟨rfl, e4, (by decide : 2 + 2 ≤ _), (by decide : 56 + 162 ≤ _)⟩)
  dsimp only [Pt.U, Pt.locs, Pt.cells, Pt.slots] at X6 l6 y6 z6 st6 hQ6
  subst l6 y6 z6
  obtain ⟨b_6, rfl, N6q, K6q, B6_0, B6_1⟩ := hQ6
  have Z6 : n0 ≤ T6.heap.size := Nat.le_trans Z4 K6q.1
  have N6 := Fr.app N3 N6q
  replace G := o_nxv (q := 47) (st := [(.ref b4)]) G st6 rfl
  have F10 := (F7.keep K6q (allS ge_b4 all0))
  have F11 := (A4.keep K6q)
  have CH12 := CHv.keep K2q (fun x hx => by cases hx) hV
  have CH13 := CHv.wr W3 (Safe.arr hZ.alike Ar3 (by decide)) CH12
  have CH14 := CHv.ext E4 CH13
  have SF15 := Safe.ext E4 CH13 (Safe.new (Nat.le_of_eq g4.symm))
  have CH16 := CHv.keep K6q (List.forall_mem_cons.mpr ⟨SF15, fun x hx => by cases hx⟩) CH14
  have SF17 := Safe.keep K6q (List.forall_mem_cons.mpr ⟨SF15, fun x hx => by cases hx⟩) CH14 SF15
  obtain ⟨_, _, ⟨T9, L9, kk9, nn9⟩, -, X9, S9', g9', ⟨Lc9, hQ9, l9, y9, z9⟩, st9⟩ := callSS X6 hx (y := (⟨"com/example/assertgate/assertgate/saml/NameIdFormats", "isAccepted", "(Ljava/lang/String;)Z"⟩ : MethodName)) hown (mvT hZ (o_w hw 36 rfl)) (mvT hZ (o_w hw 37 rfl)) (mvT hZ (o_w hw 38 rfl)) (mvT hZ (o_w hw 39 rfl)) (by decide) (o_backW (V := fun vm => CHv Z o_EL vm T6.heap) (W := 0) (rm8u l Z a0 hw [] b4 cw T6.heap n0 Z6 F10 P4 hcw F11 B6_1) hZ (o_w hw 39 rfl) (o_w hw 38 rfl) (by decide) (by decide)) (g := o_g G) rfl (by rw [hml]; rfl) (argsL := [(.ref b4)]) (rest := []) (lenOf pd_14 rfl) rfl (by show 2 * 0 + _ ≤ _; exact Nat.le_of_eq rfl) (hb hby at_47) (fun _ hvm => ⟨rfl, rfl, (by decide : 4 + 4 ≤ _), (by decide : 218 + 432 ≤ _), o_chw (s := s) hZ (o_EW hw) CH16 hvm⟩)
  dsimp only [Pt.U, Pt.locs, Pt.cells, Pt.slots] at X9 l9 y9 z9 st9 hQ9 S9' g9'
  subst l9 y9 z9
  have S9 := S9'
  have hZ9 : Z.Warmed39 (s.setVm T9.vm).vm := State.Warmed39.trans hZ S9.1
  have hown9 := (S9.1.alike.findClass _ _).trans hown
  obtain ⟨rfl, N9q, K9q, hL9⟩ := hQ9
  have Z9 : n0 ≤ T9.heap.size := Nat.le_trans Z6 K9q.1
  have N9 := Fr.app N6 N9q
  replace G := o_nxv (q := 50) (st := [(.int 0)]) G st9 rfl
  replace G := o_istore (q := 52) (l' := #[.val (.int i0), .val (.int i1), .val (.int i2), .val (.int i3), .val (.int i4), .val (.int 0), .val (.int cc), .val (.ref b_2), .val (.int pk), .val (.int 0), .unset, .unset, .unset]) G X9.here hx (hb hby at_50) rfl rfl
  replace G := o_iload (q := 54) G X9.here hx (hb hby at_52) rfl rfl
  replace G := o_iload (q := 56) G X9.here hx (hb hby at_54) rfl rfl
  obtain ⟨b18, T18, h18, k118, v18, kv18, X18, e18, E18, S18, hk18, hZ18, hown18, A18, C18, V18, R18, -, -, J18, -, SS18, st18⟩ := ldcCH (s := s) (vm0 := T9.vm) (EL := o_EL) X9 hx hZ9 hown9 (o_w hw 54 rfl) (fun d hd => hw d (o_strs d hd)) rfl S9 (Nat.le_refl _) (o_EW hw) (by decide) hL9 (vs := [(.int 117), (.int 114), (.int 110), (.int 58), (.int 111), (.int 97), (.int 115), (.int 105), (.int 115), (.int 58), (.int 110), (.int 97), (.int 109), (.int 101), (.int 115), (.int 58), (.int 116), (.int 99), (.int 58), (.int 83), (.int 65), (.int 77), (.int 76), (.int 58), (.int 50), (.int 46), (.int 48), (.int 58), (.int 110), (.int 97), (.int 109), (.int 101), (.int 105), (.int 100), (.int 45), (.int 102), (.int 111), (.int 114), (.int 109), (.int 97), (.int 116), (.int 58), (.int 112), (.int 101), (.int 114), (.int 115), (.int 105), (.int 115), (.int 116), (.int 101), (.int 110), (.int 116)]) (z := (52 : Int32)) (by constructor <;> decide) (by decide) rfl (g := o_g G) rfl (hb hby at_56) (n := 208) (by decide) (by decide) (by decide) (by decide)
  have Z18 : n0 ≤ h18.size := Nat.le_trans Z9 E18.1
  have F19 := ((B6_1.keep K9q nin0).ext E18)
  have ne20 : b4 ≠ b18 := o_fne F19 C18 (fun z => absurd (Value.int.inj z) (by decide))
  replace G := o_nxs (q := 58) (st := [(.ref b18), (.int cc), (.int 0)]) G st18 rfl
  replace G := o_iload (q := 60) G X18.here hx (hb hby at_58) rfl rfl
  have F22 := ((F10.keep K9q all0).ext E18)
  have F23 : Sta Z h18 o_n0 "COMPACT_STRINGS" "Z" (.int cw) := P4.ext F22.2
  have F24 : Sta Z h18 "jdk/internal/util/Preconditions" "SIOOBE_FORMATTER" "Ljava/util/function/BiFunction;" fm := P6.ext F22.2
  obtain ⟨cq21, kq21, q21a, q21b, q21c⟩ := isOf hZ18 e18 A18
  obtain ⟨vv21, _, ⟨T21, L21, kk21, nn21⟩, -, X21, ⟨Lc21, hQ21, l21, y21, z21⟩, st21⟩ := X18.virtualBack hx (y := (⟨o_n0, "charAt", "(I)C"⟩ : MethodName)) (z := (⟨o_n0, "charAt", "(I)C"⟩ : MethodName)) hown18 (mvT hZ18 (o_w hw 55 rfl)) (mvT hZ18 (o_w hw 56 rfl)) (notFace_of_selects (args := #[]) (mvT hZ18 (o_w hw 58 rfl))) (mvT hZ18 (o_w hw 58 rfl)) (mvT hZ18 (o_w hw 57 rfl)) (by decide) (StrChars.Road.chN (W := 2) hZ18 (fun d hd => hw d (o_wch d hd)) (kI := 4) (o_w hw 8 rfl) (cs := o_P) (i := pk.toNatClampNeg) A18 V18 C18 R18 o_codP o_bdP F23 hcw F24 hfm (by decide) hpl hpj (by decide) (by decide)) q21a q21c (g := o_g G) rfl (by rw [hml]; rfl) (Steps.refl _) (argsL := [(.int pk)]) (rest := [(.int cc), (.int 0)]) (lenOf pd_15 rfl) rfl (by show 2 * 0 + _ ≤ _; exact Nat.le_of_eq rfl) (hb hby at_60) (fun _ _ => ⟨rfl, e18, (by decide : 10 + 0 ≤ _), (by decide : 862 + 0 ≤ _)⟩)
  dsimp only [Pt.U, Pt.locs, Pt.cells, Pt.slots] at X21 l21 y21 z21 st21 hQ21
  subst l21 y21 z21
  obtain ⟨hv21, hl21, e21⟩ := hQ21
  subst hl21 hv21
  have N21 := Fr.app N9 (Fr.nil n0)
  replace G := o_nxv (q := 63) (st := [(.int (o_P.getD pk.toNatClampNeg 0)), (.int cc), (.int 0)]) G st21 rfl
  have hc63_25 : ¬ (cc = (o_P.getD pk.toNatClampNeg 0)) := o_ngt o_baP hbig
  replace G := o_icmpYes (q := 70) G X21.here hx (hb hby at_63) (feq hc63_25).2 (by decide) (by decide)
  replace G := o_iconst (q := 71) G X21.here hx (hb hby at_70) (v := (0 : Int32)) (by decide) rfl
  replace G := o_icmpNo (q := 74) G X21.here hx (hb hby at_71) (by decide) rfl
  replace G := o_iconst (q := 75) G X21.here hx (hb hby at_74) (v := (1 : Int32)) (by decide) rfl
  replace G := o_goto (q := 79) G X21.here hx (hb hby at_75) (by decide) (by decide)
  obtain ⟨fs, hr, hrun, hended, -, hW, hBk, hsame⟩ := X21.leaveW S18 (by rw [e21]; exact hk18) (v := some (.int 1)) (fun h => by rw [Bd.returns] at h; cases h)
  refine ⟨_, _, G _ (retOut X21 hx Bd.returns rfl (Or.inl ⟨rfl, Or.inr (Or.inl rfl), _, rfl⟩) (hb hby at_79) hr), hrun, hended, _, _, rfl, ?_, ⟨_, rfl⟩, hW, hBk, hsame.mono (by decide) (by decide)⟩
  show Q0 Z i0 i1 i2 i3 i4 cw fm h0 n0 _ T21.heap _
  rw [e21]
  exact ⟨rfl, N21⟩
  have hpa := o_hps o_baP (n := pk.toNatClampNeg) ⟨o_nng hcr.2.1, hbig⟩
  have F28 : Arv Z h4 b_2 kb_2 .char (52 : Int32) ((o_P.set pk.toNatClampNeg cc).map Value.int) (.int 0) := (VP.ext E4)
  have F29 := (((P0.keep K2q all0).wr W3 ge_b_2).ext E4)
  have F30 : Sta Z h4 o_n0 "COMPACT_STRINGS" "Z" (.int cw) := P4.ext F29.2
  obtain ⟨vv27, _, ⟨T27, L27, kk27, nn27⟩, -, X27, ⟨Lc27, hQ27, l27, y27, z27⟩, st27⟩ := X4.specialBack hx (y := (⟨o_n0, "<init>", "([C)V"⟩ : MethodName)) rfl hown (mvT hZ (o_w hw 10 rfl)) (mvT hZ (o_w hw 11 rfl)) (mvT hZ (o_w hw 12 rfl)) (by decide) (StrChars.Road.backV (W := 1) hZ (fun d hd => hw d (o_wst d hd)) (kI := 4) (o_w hw 8 rfl) (cs := (o_P.set pk.toNatClampNeg cc)) (n := 52) (n0 := n0) ge_b4 Z4 A4 F4_value F4_coder F28 F30 hcw hsl (by decide) (by decide) (by decide) hpa rfl (by decide) (by decide)) (g := o_g G) rfl (by rw [hml]; rfl) (Steps.refl _) (a := b4) (argsL := [(.ref b_2)]) (rest := [(.ref b4)]) (lenOf pd_13 rfl) rfl (by show 2 * 0 + _ ≤ _; exact Nat.le_of_eq rfl) (hb hby at_44) (fun _ _ => ⟨rfl, e4, (by decide : 2 + 1 ≤ _), (by decide : 56 + 52 ≤ _)⟩)
  dsimp only [Pt.U, Pt.locs, Pt.cells, Pt.slots] at X27 l27 y27 z27 st27 hQ27
  subst l27 y27 z27
  obtain ⟨rfl, N27q, K27q, B27_0, B27_1, t_27, kt_27, ge_t_27, sz_t_27, -, B27_2, B27_3⟩ := hQ27
  have ne31 : b4 ≠ t_27 := Nat.ne_of_lt (Nat.lt_of_lt_of_le F4_value.lt sz_t_27)
  have ne32 : b_2 ≠ t_27 := Nat.ne_of_lt (Nat.lt_of_lt_of_le F28.lt sz_t_27)
  have Z27 : n0 ≤ T27.heap.size := Nat.le_trans Z4 K27q.1
  have N27 := Fr.app N3 N27q
  replace G := o_nxv (q := 47) (st := [(.ref b4)]) G st27 rfl
  have F34 := (F29.keep K27q (allS ge_b4 all0))
  have CH35 := CHv.keep K2q (fun x hx => by cases hx) hV
  have CH36 := CHv.wr W3 (Safe.arr hZ.alike Ar3 (by decide)) CH35
  have CH37 := CHv.ext E4 CH36
  have SF38 := Safe.ext E4 CH36 (Safe.new (Nat.le_of_eq g4.symm))
  have CH39 := CHv.keep K27q (List.forall_mem_cons.mpr ⟨SF38, fun x hx => by cases hx⟩) CH37
  have SF40 := Safe.keep K27q (List.forall_mem_cons.mpr ⟨SF38, fun x hx => by cases hx⟩) CH37 SF38
  obtain ⟨_, _, ⟨T33, L33, kk33, nn33⟩, -, X33, S33', g33', ⟨Lc33, hQ33, l33, y33, z33⟩, st33⟩ := callSS X27 hx (y := (⟨"com/example/assertgate/assertgate/saml/NameIdFormats", "isAccepted", "(Ljava/lang/String;)Z"⟩ : MethodName)) hown (mvT hZ (o_w hw 36 rfl)) (mvT hZ (o_w hw 37 rfl)) (mvT hZ (o_w hw 38 rfl)) (mvT hZ (o_w hw 39 rfl)) (by decide) (o_backW (V := fun vm => CHv Z o_EL vm T27.heap) (W := 0) (rm8s l Z a0 hw [] b4 cw (o_P.set pk.toNatClampNeg cc) (0 : Int32) (52 : Int32) (((o_P.set pk.toNatClampNeg cc).map fun c => c.toInt8.toInt32).map Value.int) t_27 kt_27 T27.heap n0 Z27 F34 P4 hcw B27_0 B27_2 B27_1 B27_3 (o_codS hsl (by decide) hpa) (o_bu hpa) (by rw [hsl] <;> decide)) hZ (o_w hw 39 rfl) (o_w hw 38 rfl) (by decide) (by decide)) (g := o_g G) rfl (by rw [hml]; rfl) (argsL := [(.ref b4)]) (rest := []) (lenOf pd_14 rfl) rfl (by show 2 * 0 + _ ≤ _; exact Nat.le_of_eq rfl) (hb hby at_47) (fun _ hvm => ⟨rfl, rfl, (by decide : 3 + 4 ≤ _), (by decide : 108 + 432 ≤ _), o_chw (s := s) hZ (o_EW hw) CH39 hvm⟩)
  dsimp only [Pt.U, Pt.locs, Pt.cells, Pt.slots] at X33 l33 y33 z33 st33 hQ33 S33' g33'
  subst l33 y33 z33
  have S33 := S33'
  have hZ33 : Z.Warmed39 (s.setVm T33.vm).vm := State.Warmed39.trans hZ S33.1
  have hown33 := (S33.1.alike.findClass _ _).trans hown
  obtain ⟨rfl, N33q, K33q, hL33⟩ := hQ33
  have Z33 : n0 ≤ T33.heap.size := Nat.le_trans Z27 K33q.1
  have N33 := Fr.app N27 N33q
  replace G := o_nxv (q := 50) (st := [(.int (o_acc (o_P.set pk.toNatClampNeg cc)))]) G st33 rfl
  replace G := o_istore (q := 52) (l' := #[.val (.int i0), .val (.int i1), .val (.int i2), .val (.int i3), .val (.int i4), .val (.int 0), .val (.int cc), .val (.ref b_2), .val (.int pk), .val (.int (o_acc (o_P.set pk.toNatClampNeg cc))), .unset, .unset, .unset]) G X33.here hx (hb hby at_50) rfl rfl
  replace G := o_iload (q := 54) G X33.here hx (hb hby at_52) rfl rfl
  replace G := o_iload (q := 56) G X33.here hx (hb hby at_54) rfl rfl
  obtain ⟨b41, T41, h41, k141, v41, kv41, X41, e41, E41, S41, hk41, hZ41, hown41, A41, C41, V41, R41, -, -, J41, -, SS41, st41⟩ := ldcCH (s := s) (vm0 := T33.vm) (EL := o_EL) X33 hx hZ33 hown33 (o_w hw 54 rfl) (fun d hd => hw d (o_strs d hd)) rfl S33 (Nat.le_refl _) (o_EW hw) (by decide) hL33 (vs := [(.int 117), (.int 114), (.int 110), (.int 58), (.int 111), (.int 97), (.int 115), (.int 105), (.int 115), (.int 58), (.int 110), (.int 97), (.int 109), (.int 101), (.int 115), (.int 58), (.int 116), (.int 99), (.int 58), (.int 83), (.int 65), (.int 77), (.int 76), (.int 58), (.int 50), (.int 46), (.int 48), (.int 58), (.int 110), (.int 97), (.int 109), (.int 101), (.int 105), (.int 100), (.int 45), (.int 102), (.int 111), (.int 114), (.int 109), (.int 97), (.int 116), (.int 58), (.int 112), (.int 101), (.int 114), (.int 115), (.int 105), (.int 115), (.int 116), (.int 101), (.int 110), (.int 116)]) (z := (52 : Int32)) (by constructor <;> decide) (by decide) rfl (g := o_g G) rfl (hb hby at_56) (n := 208) (by decide) (by decide) (by decide) (by decide)
  have Z41 : n0 ≤ h41.size := Nat.le_trans Z33 E41.1
  replace G := o_nxs (q := 58) (st := [(.ref b41), (.int cc), (.int (o_acc (o_P.set pk.toNatClampNeg cc)))]) G st41 rfl
  replace G := o_iload (q := 60) G X41.here hx (hb hby at_58) rfl rfl
  have F43 := ((F34.keep K33q all0).ext E41)
  have F44 : Sta Z h41 o_n0 "COMPACT_STRINGS" "Z" (.int cw) := P4.ext F43.2
  have F45 : Sta Z h41 "jdk/internal/util/Preconditions" "SIOOBE_FORMATTER" "Ljava/util/function/BiFunction;" fm := P6.ext F43.2
  obtain ⟨cq42, kq42, q42a, q42b, q42c⟩ := isOf hZ41 e41 A41
  obtain ⟨vv42, _, ⟨T42, L42, kk42, nn42⟩, -, X42, ⟨Lc42, hQ42, l42, y42, z42⟩, st42⟩ := X41.virtualBack hx (y := (⟨o_n0, "charAt", "(I)C"⟩ : MethodName)) (z := (⟨o_n0, "charAt", "(I)C"⟩ : MethodName)) hown41 (mvT hZ41 (o_w hw 55 rfl)) (mvT hZ41 (o_w hw 56 rfl)) (notFace_of_selects (args := #[]) (mvT hZ41 (o_w hw 58 rfl))) (mvT hZ41 (o_w hw 58 rfl)) (mvT hZ41 (o_w hw 57 rfl)) (by decide) (StrChars.Road.chN (W := 2) hZ41 (fun d hd => hw d (o_wch d hd)) (kI := 4) (o_w hw 8 rfl) (cs := o_P) (i := pk.toNatClampNeg) A41 V41 C41 R41 o_codP o_bdP F44 hcw F45 hfm (by decide) hpl hpj (by decide) (by decide)) q42a q42c (g := o_g G) rfl (by rw [hml]; rfl) (Steps.refl _) (argsL := [(.int pk)]) (rest := [(.int cc), (.int (o_acc (o_P.set pk.toNatClampNeg cc)))]) (lenOf pd_15 rfl) rfl (by show 2 * 0 + _ ≤ _; exact Nat.le_of_eq rfl) (hb hby at_60) (fun _ _ => ⟨rfl, e41, (by decide : 9 + 0 ≤ _), (by decide : 752 + 0 ≤ _)⟩)
  dsimp only [Pt.U, Pt.locs, Pt.cells, Pt.slots] at X42 l42 y42 z42 st42 hQ42
  subst l42 y42 z42
  obtain ⟨hv42, hl42, e42⟩ := hQ42
  subst hl42 hv42
  have N42 := Fr.app N33 (Fr.nil n0)
  replace G := o_nxv (q := 63) (st := [(.int (o_P.getD pk.toNatClampNeg 0)), (.int cc), (.int (o_acc (o_P.set pk.toNatClampNeg cc)))]) G st42 rfl
  by_cases hc63_46 : cc = (o_P.getD pk.toNatClampNeg 0)
  replace G := o_icmpNo (q := 66) G X42.here hx (hb hby at_63) (teq hc63_46).2 rfl
  replace G := o_iconst (q := 67) G X42.here hx (hb hby at_66) (v := (1 : Int32)) (by decide) rfl
  replace G := o_goto (q := 71) G X42.here hx (hb hby at_67) (by decide) (by decide)
  have hc71_47 : (o_acc (o_P.set pk.toNatClampNeg cc)) = (1 : Int32) := (o_accP hpl _).trans (if_pos hc63_46)
  replace G := o_icmpNo (q := 74) G X42.here hx (hb hby at_71) (teq hc71_47).2 rfl
  replace G := o_iconst (q := 75) G X42.here hx (hb hby at_74) (v := (1 : Int32)) (by decide) rfl
  replace G := o_goto (q := 79) G X42.here hx (hb hby at_75) (by decide) (by decide)
  obtain ⟨fs, hr, hrun, hended, -, hW, hBk, hsame⟩ := X42.leaveW S41 (by rw [e42]; exact hk41) (v := some (.int 1)) (fun h => by rw [Bd.returns] at h; cases h)
  refine ⟨_, _, G _ (retOut X42 hx Bd.returns rfl (Or.inl ⟨rfl, Or.inr (Or.inl rfl), _, rfl⟩) (hb hby at_79) hr), hrun, hended, _, _, rfl, ?_, ⟨_, rfl⟩, hW, hBk, hsame.mono (by decide) (by decide)⟩
  show Q0 Z i0 i1 i2 i3 i4 cw fm h0 n0 _ T42.heap _
  rw [e42]
  exact ⟨rfl, N42⟩
  replace G := o_icmpYes (q := 70) G X42.here hx (hb hby at_63) (feq hc63_46).2 (by decide) (by decide)
  replace G := o_iconst (q := 71) G X42.here hx (hb hby at_70) (v := (0 : Int32)) (by decide) rfl
  have hc71_48 : (o_acc (o_P.set pk.toNatClampNeg cc)) = (0 : Int32) := (o_accP hpl _).trans (if_neg hc63_46)
  replace G := o_icmpNo (q := 74) G X42.here hx (hb hby at_71) (teq hc71_48).2 rfl
  replace G := o_iconst (q := 75) G X42.here hx (hb hby at_74) (v := (1 : Int32)) (by decide) rfl
  replace G := o_goto (q := 79) G X42.here hx (hb hby at_75) (by decide) (by decide)
  obtain ⟨fs, hr, hrun, hended, -, hW, hBk, hsame⟩ := X42.leaveW S41 (by rw [e42]; exact hk41) (v := some (.int 1)) (fun h => by rw [Bd.returns] at h; cases h)
  refine ⟨_, _, G _ (retOut X42 hx Bd.returns rfl (Or.inl ⟨rfl, Or.inr (Or.inl rfl), _, rfl⟩) (hb hby at_79) hr), hrun, hended, _, _, rfl, ?_, ⟨_, rfl⟩, hW, hBk, hsame.mono (by decide) (by decide)⟩
  show Q0 Z i0 i1 i2 i3 i4 cw fm h0 n0 _ T42.heap _
  rw [e42]
  exact ⟨rfl, N42⟩
  replace G := o_istore (q := 5) (l' := #[.val (.int i0), .val (.int i1), .val (.int i2), .val (.int i3), .val (.int i4), .val (.int 1), .unset, .unset, .unset, .unset, .unset, .unset, .unset]) G X0.here hx (hb hby at_3) rfl rfl
  replace G := o_iloadN (q := 6) G X0.here hx (hb hby at_5) rfl rfl
  replace G := o_nxs (q := 8) (st := [(.int 65535), (.int i2)]) G (X0.ldcInt hx hown (mvT hZ (o_w hw 0 rfl)) (g := o_g G) rfl (hb hby at_6)) rfl
  replace G := o_iand (q := 9) G X0.here hx (hb hby at_8) rfl rfl
  obtain ⟨cc, hn_cc⟩ : ∃ z : Int32, ((i2 &&& (65535 : Int32)).toUInt32.toUInt16.toUInt32.toInt32) = z := ⟨_, rfl⟩
  replace G := o_i2c (q := 10) G X0.here hx (hb hby at_9) hn_cc rfl
  have hcr := o_chr hn_cc
  replace G := o_istore (q := 12) (l' := #[.val (.int i0), .val (.int i1), .val (.int i2), .val (.int i3), .val (.int i4), .val (.int 1), .val (.int cc), .unset, .unset, .unset, .unset, .unset, .unset]) G X0.here hx (hb hby at_10) rfl rfl
  replace G := o_iload (q := 14) G X0.here hx (hb hby at_12) rfl rfl
  replace G := o_ifYes (q := 80) G X0.here hx (hb hby at_14) (by decide) (by decide) (by decide)
  replace G := o_iload (q := 82) G X0.here hx (hb hby at_80) rfl rfl
  replace G := o_iconst (q := 83) G X0.here hx (hb hby at_82) (v := (1 : Int32)) (by decide) rfl
  replace G := o_icmpNo (q := 86) G X0.here hx (hb hby at_83) (by decide) rfl
  obtain ⟨_, _, ⟨T51, L51, kk51, nn51⟩, -, X51, ⟨Lc51, hQ51, l51, y51, z51⟩, st51⟩ := Jvm.LawKit.callS X0 hx (y := (⟨"com/example/assertgate/assertgate/saml/NameIdFormatsIsAcceptedPinLaw", "emailChars", "()[C"⟩ : MethodName)) hown (mvT hZ (o_w hw 98 rfl)) (mvT hZ (o_w hw 99 rfl)) (mvT hZ (o_w hw 3 rfl)) (mvT hZ (o_w hw 100 rfl)) (by decide) (backOf (W := 0) (rm21 l Z a0 hw []  h0 n0 Z0 ) hZ (o_w hw 100 rfl) (o_w hw 3 rfl) (by decide) (by decide)) (g := o_g G) rfl (by rw [hml]; rfl) (argsL := []) (rest := []) (lenOf pd_12 rfl) rfl (by show 2 * 0 + _ ≤ _; exact Nat.le_of_eq rfl) (hb hby at_86) (fun _ _ => ⟨rfl, e0, (by decide : 0 + 1 ≤ _), (by decide : 0 + 54 ≤ _)⟩)
  dsimp only [Pt.U, Pt.locs, Pt.cells, Pt.slots] at X51 l51 y51 z51 st51 hQ51
  subst l51 y51 z51
  obtain ⟨b_51, kb_51, rfl, N51q, K51q, B51_0, B51_1⟩ := hQ51
  have ge_b_51 : n0 ≤ b_51 := Nat.le_trans Z0 B51_0
  have Z51 : n0 ≤ T51.heap.size := Nat.le_trans Z0 K51q.1
  have N51 := Fr.app N0 N51q
  replace G := o_nxs (q := 89) (st := [(.ref b_51)]) G st51 rfl
  replace G := o_astore (q := 91) (l' := #[.val (.int i0), .val (.int i1), .val (.int i2), .val (.int i3), .val (.int i4), .val (.int 1), .val (.int cc), .val (.ref b_51), .unset, .unset, .unset, .unset, .unset]) G X51.here hx (hb hby at_89) rfl rfl rfl
  replace G := o_iloadN (q := 92) G X51.here hx (hb hby at_91) rfl rfl
  replace G := o_nxs (q := 94) (st := [(.int 2147483647), (.int i1)]) G (X51.ldcInt hx hown (mvT hZ (o_w hw 6 rfl)) (g := o_g G) rfl (hb hby at_92)) rfl
  replace G := o_iand (q := 95) G X51.here hx (hb hby at_94) rfl rfl
  replace G := o_bipush (q := 97) G X51.here hx (hb hby at_95) (v := (54 : Int32)) (by decide) rfl
  obtain ⟨pk, hn_pk⟩ : ∃ z : Int32, ((i1 &&& (2147483647 : Int32)) % (54 : Int32)) = z := ⟨_, rfl⟩
  replace G := o_irem (q := 98) G X51.here hx (hb hby at_97) (by decide) hn_pk rfl
  have hpk := o_rem 54 54 rfl (by decide) hn_pk
  have hpc := o_cn hpk.1
  have hpl : pk.toNatClampNeg < o_E.length := by
    show _ < 54
    omega
  have hpj := o_on hpk.1
  have hsl : (o_E.set pk.toNatClampNeg cc).length = 54 := by
    rw [List.length_set] <;> rfl
  replace G := o_istore (q := 100) (l' := #[.val (.int i0), .val (.int i1), .val (.int i2), .val (.int i3), .val (.int i4), .val (.int 1), .val (.int cc), .val (.ref b_51), .val (.int pk), .unset, .unset, .unset, .unset]) G X51.here hx (hb hby at_98) rfl rfl
  replace G := o_aload (q := 102) G X51.here hx (hb hby at_100) rfl rfl rfl
  replace G := o_iload (q := 104) G X51.here hx (hb hby at_102) rfl rfl
  replace G := o_iload (q := 106) G X51.here hx (hb hby at_104) rfl rfl
  obtain ⟨c52, Ar52, q52, S52, N52', H52, G52'⟩ := id B51_1
  have hin52 : ¬ (pk < 0 ∨ c52.slots.size ≤ (pk).toNatClampNeg) := inb_of S52 (o_ib hpk.1 (by rw [show (54 : Int32).toInt = 54 from rfl]; exact hpk.2))
  obtain ⟨T52, h52, X52, e52, W52, st52⟩ := stC X51 hx hZ rfl Ar52 (j := pk) hin52 (g := o_g G) rfl rfl (hb hby at_106)
  have N52 := Fr.snoc X52 N51 ge_b_51
  have Z52 : n0 ≤ h52.size := Nat.le_trans Z51 (Keep.of_wr W52).1
  have V52 : Arv Z h52 b_51 kb_51 .char (54 : Int32) ([(.int 117), (.int 114), (.int 110), (.int 58), (.int 111), (.int 97), (.int 115), (.int 105), (.int 115), (.int 58), (.int 110), (.int 97), (.int 109), (.int 101), (.int 115), (.int 58), (.int 116), (.int 99), (.int 58), (.int 83), (.int 65), (.int 77), (.int 76), (.int 58), (.int 49), (.int 46), (.int 49), (.int 58), (.int 110), (.int 97), (.int 109), (.int 101), (.int 105), (.int 100), (.int 45), (.int 102), (.int 111), (.int 114), (.int 109), (.int 97), (.int 116), (.int 58), (.int 101), (.int 109), (.int 97), (.int 105), (.int 108), (.int 65), (.int 100), (.int 100), (.int 114), (.int 101), (.int 115), (.int 115)].set pk.toNatClampNeg (.int (nar .char cc))) (.int 0) := Arv.set Ar52 q52 S52 N52' H52 G52' (fits_nar_char _) W52 pk.toNatClampNeg rfl (by show _ < 54; omega)
  replace G := o_nxs (q := 107) (st := []) G st52 rfl
  have VP : Arv Z h52 b_51 kb_51 .char (54 : Int32) ((o_E.set pk.toNatClampNeg cc).map Value.int) (.int 0) := by
    rw [← o_setm (l := o_E) rfl hcr.1]
    exact V52
  obtain ⟨T53, h53, X53, e53, E53, A53, D53, -, st53⟩ := newO X52 hx hZ hown (o_w hw 7 rfl) (o_w hw 8 rfl) (o_w hw 9 rfl) e52 (g := o_g G) rfl (hb hby at_107) (by decide) (by decide)
  obtain ⟨b53, g53⟩ : ∃ z, z = h52.size := ⟨_, rfl⟩
  rw [← g53] at A53 D53 st53
  have ne54 : b_51 ≠ b53 := Nat.ne_of_lt (Nat.lt_of_lt_of_le VP.lt (Nat.le_of_eq g53.symm))
  have ge_b53 : n0 ≤ b53 := Nat.le_trans Z52 (Nat.le_of_eq g53.symm)
  have Z53 : n0 ≤ h53.size := Nat.le_trans Z52 E53.1
  have F53_coder : Fld Z h53 b53 o_n0 "coder" "B" (.int 0) := D53 (Or.inr (o_w hw 33 rfl)) (ty := .byte) (by decide)
  have F53_value : Fld Z h53 b53 o_n0 "value" "[B" .null := D53 (Or.inr (o_w hw 35 rfl)) (ty := (.array .byte)) (by decide)
  replace G := o_nxs (q := 110) (st := [(.ref b53)]) G st53 rfl
  replace G := o_dup (q := 111) G X53.here hx (hb hby at_110) rfl rfl
  replace G := o_aload (q := 113) G X53.here hx (hb hby at_111) rfl rfl rfl
  by_cases hbig : (255 : Int32) < cc
  have F56 := (((P0.keep K51q all0).wr W52 ge_b_51).ext E53)
  have F57 : Arv Z h53 b_51 kb_51 .char (54 : Int32) ((o_E.set pk.toNatClampNeg cc).map Value.int) (.int 0) := (VP.ext E53)
  obtain ⟨_, _, ⟨T55, L55, kk55, nn55⟩, -, X55, ⟨Lc55, hQ55, l55, y55, z55⟩, st55⟩ := X53.specialBack hx (y := (⟨o_n0, "<init>", "([C)V"⟩ : MethodName)) rfl hown (mvT hZ (o_w hw 10 rfl)) (mvT hZ (o_w hw 11 rfl)) (mvT hZ (o_w hw 12 rfl)) (by decide) (backOf (W := 1) (rm2u l Z a0 hw [] b53 b_51 kb_51 (fun i => (o_E.set pk.toNatClampNeg cc).getD i.toNatClampNeg 0) ((o_E.set pk.toNatClampNeg cc).map Value.int) pk (54 : Int32) cw h53 n0 Z53 F56 P1 P2 P3 P4 F53_value F53_coder A53 ge_b53 F57 hcw (fun i _ _ => o_mapD _ _) ⟨hpk.1, (by rw [show (54 : Int32).toInt = 54 from rfl]; exact hpk.2), (by decide)⟩ (fun i h0 h1 => o_lat o_baE (by have := o_cn h0; omega)) (o_gkl hpl hbig) (o_gkr hpl hcr.2)) hZ (o_w hw 12 rfl) (o_w hw 9 rfl) (by decide) (by decide)) (g := o_g G) rfl (by rw [hml]; rfl) (Steps.refl _) (a := b53) (argsL := [(.ref b_51)]) (rest := [(.ref b53)]) (lenOf pd_13 rfl) rfl (by show 2 * 0 + _ ≤ _; exact Nat.le_of_eq rfl) (hb hby at_113) (fun _ _ => ⟨rfl, e53, (by decide : 2 + 2 ≤ _), (by decide : 58 + 162 ≤ _)⟩)
  dsimp only [Pt.U, Pt.locs, Pt.cells, Pt.slots] at X55 l55 y55 z55 st55 hQ55
  subst l55 y55 z55
  obtain ⟨b_55, rfl, N55q, K55q, B55_0, B55_1⟩ := hQ55
  have Z55 : n0 ≤ T55.heap.size := Nat.le_trans Z53 K55q.1
  have N55 := Fr.app N52 N55q
  replace G := o_nxv (q := 116) (st := [(.ref b53)]) G st55 rfl
  have F59 := (F56.keep K55q (allS ge_b53 all0))
  have F60 := (A53.keep K55q)
  have CH61 := CHv.keep K51q (fun x hx => by cases hx) hV
  have CH62 := CHv.wr W52 (Safe.arr hZ.alike Ar52 (by decide)) CH61
  have CH63 := CHv.ext E53 CH62
  have SF64 := Safe.ext E53 CH62 (Safe.new (Nat.le_of_eq g53.symm))
  have CH65 := CHv.keep K55q (List.forall_mem_cons.mpr ⟨SF64, fun x hx => by cases hx⟩) CH63
  have SF66 := Safe.keep K55q (List.forall_mem_cons.mpr ⟨SF64, fun x hx => by cases hx⟩) CH63 SF64
  obtain ⟨_, _, ⟨T58, L58, kk58, nn58⟩, -, X58, S58', g58', ⟨Lc58, hQ58, l58, y58, z58⟩, st58⟩ := callSS X55 hx (y := (⟨"com/example/assertgate/assertgate/saml/NameIdFormats", "isAccepted", "(Ljava/lang/String;)Z"⟩ : MethodName)) hown (mvT hZ (o_w hw 36 rfl)) (mvT hZ (o_w hw 37 rfl)) (mvT hZ (o_w hw 38 rfl)) (mvT hZ (o_w hw 39 rfl)) (by decide) (o_backW (V := fun vm => CHv Z o_EL vm T55.heap) (W := 0) (rm8u l Z a0 hw [] b53 cw T55.heap n0 Z55 F59 P4 hcw F60 B55_1) hZ (o_w hw 39 rfl) (o_w hw 38 rfl) (by decide) (by decide)) (g := o_g G) rfl (by rw [hml]; rfl) (argsL := [(.ref b53)]) (rest := []) (lenOf pd_14 rfl) rfl (by show 2 * 0 + _ ≤ _; exact Nat.le_of_eq rfl) (hb hby at_116) (fun _ hvm => ⟨rfl, rfl, (by decide : 4 + 4 ≤ _), (by decide : 220 + 432 ≤ _), o_chw (s := s) hZ (o_EW hw) CH65 hvm⟩)
  dsimp only [Pt.U, Pt.locs, Pt.cells, Pt.slots] at X58 l58 y58 z58 st58 hQ58 S58' g58'
  subst l58 y58 z58
  have S58 := S58'
  have hZ58 : Z.Warmed39 (s.setVm T58.vm).vm := State.Warmed39.trans hZ S58.1
  have hown58 := (S58.1.alike.findClass _ _).trans hown
  obtain ⟨rfl, N58q, K58q, hL58⟩ := hQ58
  have Z58 : n0 ≤ T58.heap.size := Nat.le_trans Z55 K58q.1
  have N58 := Fr.app N55 N58q
  replace G := o_nxv (q := 119) (st := [(.int 0)]) G st58 rfl
  replace G := o_istore (q := 121) (l' := #[.val (.int i0), .val (.int i1), .val (.int i2), .val (.int i3), .val (.int i4), .val (.int 1), .val (.int cc), .val (.ref b_51), .val (.int pk), .val (.int 0), .unset, .unset, .unset]) G X58.here hx (hb hby at_119) rfl rfl
  replace G := o_iload (q := 123) G X58.here hx (hb hby at_121) rfl rfl
  replace G := o_iload (q := 125) G X58.here hx (hb hby at_123) rfl rfl
  obtain ⟨b67, T67, h67, k167, v67, kv67, X67, e67, E67, S67, hk67, hZ67, hown67, A67, C67, V67, R67, -, -, J67, -, SS67, st67⟩ := ldcCH (s := s) (vm0 := T58.vm) (EL := o_EL) X58 hx hZ58 hown58 (o_w hw 77 rfl) (fun d hd => hw d (o_strs d hd)) rfl S58 (Nat.le_refl _) (o_EW hw) (by decide) hL58 (vs := [(.int 117), (.int 114), (.int 110), (.int 58), (.int 111), (.int 97), (.int 115), (.int 105), (.int 115), (.int 58), (.int 110), (.int 97), (.int 109), (.int 101), (.int 115), (.int 58), (.int 116), (.int 99), (.int 58), (.int 83), (.int 65), (.int 77), (.int 76), (.int 58), (.int 49), (.int 46), (.int 49), (.int 58), (.int 110), (.int 97), (.int 109), (.int 101), (.int 105), (.int 100), (.int 45), (.int 102), (.int 111), (.int 114), (.int 109), (.int 97), (.int 116), (.int 58), (.int 101), (.int 109), (.int 97), (.int 105), (.int 108), (.int 65), (.int 100), (.int 100), (.int 114), (.int 101), (.int 115), (.int 115)]) (z := (54 : Int32)) (by constructor <;> decide) (by decide) rfl (g := o_g G) rfl (hb hby at_125) (n := 216) (by decide) (by decide) (by decide) (by decide)
  have Z67 : n0 ≤ h67.size := Nat.le_trans Z58 E67.1
  have F68 := ((B55_1.keep K58q nin0).ext E67)
  have ne69 : b53 ≠ b67 := o_fne F68 C67 (fun z => absurd (Value.int.inj z) (by decide))
  replace G := o_nxs (q := 127) (st := [(.ref b67), (.int cc), (.int 0)]) G st67 rfl
  replace G := o_iload (q := 129) G X67.here hx (hb hby at_127) rfl rfl
  have F71 := ((F59.keep K58q all0).ext E67)
  have F72 : Sta Z h67 o_n0 "COMPACT_STRINGS" "Z" (.int cw) := P4.ext F71.2
  have F73 : Sta Z h67 "jdk/internal/util/Preconditions" "SIOOBE_FORMATTER" "Ljava/util/function/BiFunction;" fm := P6.ext F71.2
  obtain ⟨cq70, kq70, q70a, q70b, q70c⟩ := isOf hZ67 e67 A67
  obtain ⟨vv70, _, ⟨T70, L70, kk70, nn70⟩, -, X70, ⟨Lc70, hQ70, l70, y70, z70⟩, st70⟩ := X67.virtualBack hx (y := (⟨o_n0, "charAt", "(I)C"⟩ : MethodName)) (z := (⟨o_n0, "charAt", "(I)C"⟩ : MethodName)) hown67 (mvT hZ67 (o_w hw 55 rfl)) (mvT hZ67 (o_w hw 56 rfl)) (notFace_of_selects (args := #[]) (mvT hZ67 (o_w hw 58 rfl))) (mvT hZ67 (o_w hw 58 rfl)) (mvT hZ67 (o_w hw 57 rfl)) (by decide) (StrChars.Road.chN (W := 2) hZ67 (fun d hd => hw d (o_wch d hd)) (kI := 4) (o_w hw 8 rfl) (cs := o_E) (i := pk.toNatClampNeg) A67 V67 C67 R67 o_codE o_bdE F72 hcw F73 hfm (by decide) hpl hpj (by decide) (by decide)) q70a q70c (g := o_g G) rfl (by rw [hml]; rfl) (Steps.refl _) (argsL := [(.int pk)]) (rest := [(.int cc), (.int 0)]) (lenOf pd_15 rfl) rfl (by show 2 * 0 + _ ≤ _; exact Nat.le_of_eq rfl) (hb hby at_129) (fun _ _ => ⟨rfl, e67, (by decide : 10 + 0 ≤ _), (by decide : 872 + 0 ≤ _)⟩)
  dsimp only [Pt.U, Pt.locs, Pt.cells, Pt.slots] at X70 l70 y70 z70 st70 hQ70
  subst l70 y70 z70
  obtain ⟨hv70, hl70, e70⟩ := hQ70
  subst hl70 hv70
  have N70 := Fr.app N58 (Fr.nil n0)
  replace G := o_nxv (q := 132) (st := [(.int (o_E.getD pk.toNatClampNeg 0)), (.int cc), (.int 0)]) G st70 rfl
  have hc132_74 : ¬ (cc = (o_E.getD pk.toNatClampNeg 0)) := o_ngt o_baE hbig
  replace G := o_icmpYes (q := 139) G X70.here hx (hb hby at_132) (feq hc132_74).2 (by decide) (by decide)
  replace G := o_iconst (q := 140) G X70.here hx (hb hby at_139) (v := (0 : Int32)) (by decide) rfl
  replace G := o_icmpNo (q := 143) G X70.here hx (hb hby at_140) (by decide) rfl
  replace G := o_iconst (q := 144) G X70.here hx (hb hby at_143) (v := (1 : Int32)) (by decide) rfl
  replace G := o_goto (q := 148) G X70.here hx (hb hby at_144) (by decide) (by decide)
  obtain ⟨fs, hr, hrun, hended, -, hW, hBk, hsame⟩ := X70.leaveW S67 (by rw [e70]; exact hk67) (v := some (.int 1)) (fun h => by rw [Bd.returns] at h; cases h)
  refine ⟨_, _, G _ (retOut X70 hx Bd.returns rfl (Or.inl ⟨rfl, Or.inr (Or.inl rfl), _, rfl⟩) (hb hby at_148) hr), hrun, hended, _, _, rfl, ?_, ⟨_, rfl⟩, hW, hBk, hsame.mono (by decide) (by decide)⟩
  show Q0 Z i0 i1 i2 i3 i4 cw fm h0 n0 _ T70.heap _
  rw [e70]
  exact ⟨rfl, N70⟩
  have hpa := o_hps o_baE (n := pk.toNatClampNeg) ⟨o_nng hcr.2.1, hbig⟩
  have F77 : Arv Z h53 b_51 kb_51 .char (54 : Int32) ((o_E.set pk.toNatClampNeg cc).map Value.int) (.int 0) := (VP.ext E53)
  have F78 := (((P0.keep K51q all0).wr W52 ge_b_51).ext E53)
  have F79 : Sta Z h53 o_n0 "COMPACT_STRINGS" "Z" (.int cw) := P4.ext F78.2
  obtain ⟨vv76, _, ⟨T76, L76, kk76, nn76⟩, -, X76, ⟨Lc76, hQ76, l76, y76, z76⟩, st76⟩ := X53.specialBack hx (y := (⟨o_n0, "<init>", "([C)V"⟩ : MethodName)) rfl hown (mvT hZ (o_w hw 10 rfl)) (mvT hZ (o_w hw 11 rfl)) (mvT hZ (o_w hw 12 rfl)) (by decide) (StrChars.Road.backV (W := 1) hZ (fun d hd => hw d (o_wst d hd)) (kI := 4) (o_w hw 8 rfl) (cs := (o_E.set pk.toNatClampNeg cc)) (n := 54) (n0 := n0) ge_b53 Z53 A53 F53_value F53_coder F77 F79 hcw hsl (by decide) (by decide) (by decide) hpa rfl (by decide) (by decide)) (g := o_g G) rfl (by rw [hml]; rfl) (Steps.refl _) (a := b53) (argsL := [(.ref b_51)]) (rest := [(.ref b53)]) (lenOf pd_13 rfl) rfl (by show 2 * 0 + _ ≤ _; exact Nat.le_of_eq rfl) (hb hby at_113) (fun _ _ => ⟨rfl, e53, (by decide : 2 + 1 ≤ _), (by decide : 58 + 54 ≤ _)⟩)
  dsimp only [Pt.U, Pt.locs, Pt.cells, Pt.slots] at X76 l76 y76 z76 st76 hQ76
  subst l76 y76 z76
  obtain ⟨rfl, N76q, K76q, B76_0, B76_1, t_76, kt_76, ge_t_76, sz_t_76, -, B76_2, B76_3⟩ := hQ76
  have ne80 : b53 ≠ t_76 := Nat.ne_of_lt (Nat.lt_of_lt_of_le F53_value.lt sz_t_76)
  have ne81 : b_51 ≠ t_76 := Nat.ne_of_lt (Nat.lt_of_lt_of_le F77.lt sz_t_76)
  have Z76 : n0 ≤ T76.heap.size := Nat.le_trans Z53 K76q.1
  have N76 := Fr.app N52 N76q
  replace G := o_nxv (q := 116) (st := [(.ref b53)]) G st76 rfl
  have F83 := (F78.keep K76q (allS ge_b53 all0))
  have CH84 := CHv.keep K51q (fun x hx => by cases hx) hV
  have CH85 := CHv.wr W52 (Safe.arr hZ.alike Ar52 (by decide)) CH84
  have CH86 := CHv.ext E53 CH85
  have SF87 := Safe.ext E53 CH85 (Safe.new (Nat.le_of_eq g53.symm))
  have CH88 := CHv.keep K76q (List.forall_mem_cons.mpr ⟨SF87, fun x hx => by cases hx⟩) CH86
  have SF89 := Safe.keep K76q (List.forall_mem_cons.mpr ⟨SF87, fun x hx => by cases hx⟩) CH86 SF87
  obtain ⟨_, _, ⟨T82, L82, kk82, nn82⟩, -, X82, S82', g82', ⟨Lc82, hQ82, l82, y82, z82⟩, st82⟩ := callSS X76 hx (y := (⟨"com/example/assertgate/assertgate/saml/NameIdFormats", "isAccepted", "(Ljava/lang/String;)Z"⟩ : MethodName)) hown (mvT hZ (o_w hw 36 rfl)) (mvT hZ (o_w hw 37 rfl)) (mvT hZ (o_w hw 38 rfl)) (mvT hZ (o_w hw 39 rfl)) (by decide) (o_backW (V := fun vm => CHv Z o_EL vm T76.heap) (W := 0) (rm8s l Z a0 hw [] b53 cw (o_E.set pk.toNatClampNeg cc) (0 : Int32) (54 : Int32) (((o_E.set pk.toNatClampNeg cc).map fun c => c.toInt8.toInt32).map Value.int) t_76 kt_76 T76.heap n0 Z76 F83 P4 hcw B76_0 B76_2 B76_1 B76_3 (o_codS hsl (by decide) hpa) (o_bu hpa) (by rw [hsl] <;> decide)) hZ (o_w hw 39 rfl) (o_w hw 38 rfl) (by decide) (by decide)) (g := o_g G) rfl (by rw [hml]; rfl) (argsL := [(.ref b53)]) (rest := []) (lenOf pd_14 rfl) rfl (by show 2 * 0 + _ ≤ _; exact Nat.le_of_eq rfl) (hb hby at_116) (fun _ hvm => ⟨rfl, rfl, (by decide : 3 + 4 ≤ _), (by decide : 112 + 432 ≤ _), o_chw (s := s) hZ (o_EW hw) CH88 hvm⟩)
  dsimp only [Pt.U, Pt.locs, Pt.cells, Pt.slots] at X82 l82 y82 z82 st82 hQ82 S82' g82'
  subst l82 y82 z82
  have S82 := S82'
  have hZ82 : Z.Warmed39 (s.setVm T82.vm).vm := State.Warmed39.trans hZ S82.1
  have hown82 := (S82.1.alike.findClass _ _).trans hown
  obtain ⟨rfl, N82q, K82q, hL82⟩ := hQ82
  have Z82 : n0 ≤ T82.heap.size := Nat.le_trans Z76 K82q.1
  have N82 := Fr.app N76 N82q
  replace G := o_nxv (q := 119) (st := [(.int (o_acc (o_E.set pk.toNatClampNeg cc)))]) G st82 rfl
  replace G := o_istore (q := 121) (l' := #[.val (.int i0), .val (.int i1), .val (.int i2), .val (.int i3), .val (.int i4), .val (.int 1), .val (.int cc), .val (.ref b_51), .val (.int pk), .val (.int (o_acc (o_E.set pk.toNatClampNeg cc))), .unset, .unset, .unset]) G X82.here hx (hb hby at_119) rfl rfl
  replace G := o_iload (q := 123) G X82.here hx (hb hby at_121) rfl rfl
  replace G := o_iload (q := 125) G X82.here hx (hb hby at_123) rfl rfl
  obtain ⟨b90, T90, h90, k190, v90, kv90, X90, e90, E90, S90, hk90, hZ90, hown90, A90, C90, V90, R90, -, -, J90, -, SS90, st90⟩ := ldcCH (s := s) (vm0 := T82.vm) (EL := o_EL) X82 hx hZ82 hown82 (o_w hw 77 rfl) (fun d hd => hw d (o_strs d hd)) rfl S82 (Nat.le_refl _) (o_EW hw) (by decide) hL82 (vs := [(.int 117), (.int 114), (.int 110), (.int 58), (.int 111), (.int 97), (.int 115), (.int 105), (.int 115), (.int 58), (.int 110), (.int 97), (.int 109), (.int 101), (.int 115), (.int 58), (.int 116), (.int 99), (.int 58), (.int 83), (.int 65), (.int 77), (.int 76), (.int 58), (.int 49), (.int 46), (.int 49), (.int 58), (.int 110), (.int 97), (.int 109), (.int 101), (.int 105), (.int 100), (.int 45), (.int 102), (.int 111), (.int 114), (.int 109), (.int 97), (.int 116), (.int 58), (.int 101), (.int 109), (.int 97), (.int 105), (.int 108), (.int 65), (.int 100), (.int 100), (.int 114), (.int 101), (.int 115), (.int 115)]) (z := (54 : Int32)) (by constructor <;> decide) (by decide) rfl (g := o_g G) rfl (hb hby at_125) (n := 216) (by decide) (by decide) (by decide) (by decide)
  have Z90 : n0 ≤ h90.size := Nat.le_trans Z82 E90.1
  replace G := o_nxs (q := 127) (st := [(.ref b90), (.int cc), (.int (o_acc (o_E.set pk.toNatClampNeg cc)))]) G st90 rfl
  replace G := o_iload (q := 129) G X90.here hx (hb hby at_127) rfl rfl
  have F92 := ((F83.keep K82q all0).ext E90)
  have F93 : Sta Z h90 o_n0 "COMPACT_STRINGS" "Z" (.int cw) := P4.ext F92.2
  have F94 : Sta Z h90 "jdk/internal/util/Preconditions" "SIOOBE_FORMATTER" "Ljava/util/function/BiFunction;" fm := P6.ext F92.2
  obtain ⟨cq91, kq91, q91a, q91b, q91c⟩ := isOf hZ90 e90 A90
  obtain ⟨vv91, _, ⟨T91, L91, kk91, nn91⟩, -, X91, ⟨Lc91, hQ91, l91, y91, z91⟩, st91⟩ := X90.virtualBack hx (y := (⟨o_n0, "charAt", "(I)C"⟩ : MethodName)) (z := (⟨o_n0, "charAt", "(I)C"⟩ : MethodName)) hown90 (mvT hZ90 (o_w hw 55 rfl)) (mvT hZ90 (o_w hw 56 rfl)) (notFace_of_selects (args := #[]) (mvT hZ90 (o_w hw 58 rfl))) (mvT hZ90 (o_w hw 58 rfl)) (mvT hZ90 (o_w hw 57 rfl)) (by decide) (StrChars.Road.chN (W := 2) hZ90 (fun d hd => hw d (o_wch d hd)) (kI := 4) (o_w hw 8 rfl) (cs := o_E) (i := pk.toNatClampNeg) A90 V90 C90 R90 o_codE o_bdE F93 hcw F94 hfm (by decide) hpl hpj (by decide) (by decide)) q91a q91c (g := o_g G) rfl (by rw [hml]; rfl) (Steps.refl _) (argsL := [(.int pk)]) (rest := [(.int cc), (.int (o_acc (o_E.set pk.toNatClampNeg cc)))]) (lenOf pd_15 rfl) rfl (by show 2 * 0 + _ ≤ _; exact Nat.le_of_eq rfl) (hb hby at_129) (fun _ _ => ⟨rfl, e90, (by decide : 9 + 0 ≤ _), (by decide : 764 + 0 ≤ _)⟩)
  dsimp only [Pt.U, Pt.locs, Pt.cells, Pt.slots] at X91 l91 y91 z91 st91 hQ91
  subst l91 y91 z91
  obtain ⟨hv91, hl91, e91⟩ := hQ91
  subst hl91 hv91
  have N91 := Fr.app N82 (Fr.nil n0)
  replace G := o_nxv (q := 132) (st := [(.int (o_E.getD pk.toNatClampNeg 0)), (.int cc), (.int (o_acc (o_E.set pk.toNatClampNeg cc)))]) G st91 rfl
  by_cases hc132_95 : cc = (o_E.getD pk.toNatClampNeg 0)
  replace G := o_icmpNo (q := 135) G X91.here hx (hb hby at_132) (teq hc132_95).2 rfl
  replace G := o_iconst (q := 136) G X91.here hx (hb hby at_135) (v := (1 : Int32)) (by decide) rfl
  replace G := o_goto (q := 140) G X91.here hx (hb hby at_136) (by decide) (by decide)
  have hc140_96 : (o_acc (o_E.set pk.toNatClampNeg cc)) = (1 : Int32) := (o_accE hpl _).trans (if_pos hc132_95)
  replace G := o_icmpNo (q := 143) G X91.here hx (hb hby at_140) (teq hc140_96).2 rfl
  replace G := o_iconst (q := 144) G X91.here hx (hb hby at_143) (v := (1 : Int32)) (by decide) rfl
  replace G := o_goto (q := 148) G X91.here hx (hb hby at_144) (by decide) (by decide)
  obtain ⟨fs, hr, hrun, hended, -, hW, hBk, hsame⟩ := X91.leaveW S90 (by rw [e91]; exact hk90) (v := some (.int 1)) (fun h => by rw [Bd.returns] at h; cases h)
  refine ⟨_, _, G _ (retOut X91 hx Bd.returns rfl (Or.inl ⟨rfl, Or.inr (Or.inl rfl), _, rfl⟩) (hb hby at_148) hr), hrun, hended, _, _, rfl, ?_, ⟨_, rfl⟩, hW, hBk, hsame.mono (by decide) (by decide)⟩
  show Q0 Z i0 i1 i2 i3 i4 cw fm h0 n0 _ T91.heap _
  rw [e91]
  exact ⟨rfl, N91⟩
  replace G := o_icmpYes (q := 139) G X91.here hx (hb hby at_132) (feq hc132_95).2 (by decide) (by decide)
  replace G := o_iconst (q := 140) G X91.here hx (hb hby at_139) (v := (0 : Int32)) (by decide) rfl
  have hc140_97 : (o_acc (o_E.set pk.toNatClampNeg cc)) = (0 : Int32) := (o_accE hpl _).trans (if_neg hc132_95)
  replace G := o_icmpNo (q := 143) G X91.here hx (hb hby at_140) (teq hc140_97).2 rfl
  replace G := o_iconst (q := 144) G X91.here hx (hb hby at_143) (v := (1 : Int32)) (by decide) rfl
  replace G := o_goto (q := 148) G X91.here hx (hb hby at_144) (by decide) (by decide)
  obtain ⟨fs, hr, hrun, hended, -, hW, hBk, hsame⟩ := X91.leaveW S90 (by rw [e91]; exact hk90) (v := some (.int 1)) (fun h => by rw [Bd.returns] at h; cases h)
  refine ⟨_, _, G _ (retOut X91 hx Bd.returns rfl (Or.inl ⟨rfl, Or.inr (Or.inl rfl), _, rfl⟩) (hb hby at_148) hr), hrun, hended, _, _, rfl, ?_, ⟨_, rfl⟩, hW, hBk, hsame.mono (by decide) (by decide)⟩
  show Q0 Z i0 i1 i2 i3 i4 cw fm h0 n0 _ T91.heap _
  rw [e91]
  exact ⟨rfl, N91⟩
  replace G := o_istore (q := 5) (l' := #[.val (.int i0), .val (.int i1), .val (.int i2), .val (.int i3), .val (.int i4), .val (.int 2), .unset, .unset, .unset, .unset, .unset, .unset, .unset]) G X0.here hx (hb hby at_3) rfl rfl
  replace G := o_iloadN (q := 6) G X0.here hx (hb hby at_5) rfl rfl
  replace G := o_nxs (q := 8) (st := [(.int 65535), (.int i2)]) G (X0.ldcInt hx hown (mvT hZ (o_w hw 0 rfl)) (g := o_g G) rfl (hb hby at_6)) rfl
  replace G := o_iand (q := 9) G X0.here hx (hb hby at_8) rfl rfl
  obtain ⟨cc, hn_cc⟩ : ∃ z : Int32, ((i2 &&& (65535 : Int32)).toUInt32.toUInt16.toUInt32.toInt32) = z := ⟨_, rfl⟩
  replace G := o_i2c (q := 10) G X0.here hx (hb hby at_9) hn_cc rfl
  have hcr := o_chr hn_cc
  replace G := o_istore (q := 12) (l' := #[.val (.int i0), .val (.int i1), .val (.int i2), .val (.int i3), .val (.int i4), .val (.int 2), .val (.int cc), .unset, .unset, .unset, .unset, .unset, .unset]) G X0.here hx (hb hby at_10) rfl rfl
  replace G := o_iload (q := 14) G X0.here hx (hb hby at_12) rfl rfl
  replace G := o_ifYes (q := 80) G X0.here hx (hb hby at_14) (by decide) (by decide) (by decide)
  replace G := o_iload (q := 82) G X0.here hx (hb hby at_80) rfl rfl
  replace G := o_iconst (q := 83) G X0.here hx (hb hby at_82) (v := (1 : Int32)) (by decide) rfl
  replace G := o_icmpYes (q := 149) G X0.here hx (hb hby at_83) (by decide) (by decide) (by decide)
  replace G := o_iload (q := 151) G X0.here hx (hb hby at_149) rfl rfl
  replace G := o_iconst (q := 152) G X0.here hx (hb hby at_151) (v := (2 : Int32)) (by decide) rfl
  replace G := o_icmpNo (q := 155) G X0.here hx (hb hby at_152) (by decide) rfl
  replace G := o_iloadN (q := 156) G X0.here hx (hb hby at_155) rfl rfl
  replace G := o_iconst (q := 157) G X0.here hx (hb hby at_156) (v := (3 : Int32)) (by decide) rfl
  obtain ⟨ln, hn_ln⟩ : ∃ z : Int32, (i3 &&& (3 : Int32)) = z := ⟨_, rfl⟩
  replace G := o_iand (q := 158) G X0.here hx (hb hby at_157) hn_ln rfl
  replace G := o_istore (q := 160) (l' := #[.val (.int i0), .val (.int i1), .val (.int i2), .val (.int i3), .val (.int i4), .val (.int 2), .val (.int cc), .val (.int ln), .unset, .unset, .unset, .unset, .unset]) G X0.here hx (hb hby at_158) rfl rfl
  replace G := o_iload (q := 162) G X0.here hx (hb hby at_160) rfl rfl
  replace G := o_sipush (q := 165) G X0.here hx (hb hby at_162) (v := (255 : Int32)) (by decide) rfl
  replace G := o_iand (q := 166) G X0.here hx (hb hby at_165) rfl rfl
  obtain ⟨ya, hn_ya⟩ : ∃ z : Int32, ((i4 &&& (255 : Int32)).toUInt32.toUInt16.toUInt32.toInt32) = z := ⟨_, rfl⟩
  replace G := o_i2c (q := 167) G X0.here hx (hb hby at_166) hn_ya rfl
  replace G := o_istore (q := 169) (l' := #[.val (.int i0), .val (.int i1), .val (.int i2), .val (.int i3), .val (.int i4), .val (.int 2), .val (.int cc), .val (.int ln), .val (.int ya), .unset, .unset, .unset, .unset]) G X0.here hx (hb hby at_167) rfl rfl
  replace G := o_iload (q := 171) G X0.here hx (hb hby at_169) rfl rfl
  replace G := o_bipush (q := 173) G X0.here hx (hb hby at_171) (v := (8 : Int32)) (by decide) rfl
  replace G := o_iushr (q := 174) G X0.here hx (hb hby at_173) rfl rfl
  replace G := o_sipush (q := 177) G X0.here hx (hb hby at_174) (v := (255 : Int32)) (by decide) rfl
  replace G := o_iand (q := 178) G X0.here hx (hb hby at_177) rfl rfl
  obtain ⟨yb, hn_yb⟩ : ∃ z : Int32, ((((i4.toUInt32 >>> ((8 : Int32) &&& 31).toUInt32).toInt32) &&& (255 : Int32)).toUInt32.toUInt16.toUInt32.toInt32) = z := ⟨_, rfl⟩
  replace G := o_i2c (q := 179) G X0.here hx (hb hby at_178) hn_yb rfl
  replace G := o_istore (q := 181) (l' := #[.val (.int i0), .val (.int i1), .val (.int i2), .val (.int i3), .val (.int i4), .val (.int 2), .val (.int cc), .val (.int ln), .val (.int ya), .val (.int yb), .unset, .unset, .unset]) G X0.here hx (hb hby at_179) rfl rfl
  replace G := o_iload (q := 183) G X0.here hx (hb hby at_181) rfl rfl
  replace G := o_bipush (q := 185) G X0.here hx (hb hby at_183) (v := (16 : Int32)) (by decide) rfl
  replace G := o_iushr (q := 186) G X0.here hx (hb hby at_185) rfl rfl
  replace G := o_sipush (q := 189) G X0.here hx (hb hby at_186) (v := (255 : Int32)) (by decide) rfl
  replace G := o_iand (q := 190) G X0.here hx (hb hby at_189) rfl rfl
  obtain ⟨yc, hn_yc⟩ : ∃ z : Int32, ((((i4.toUInt32 >>> ((16 : Int32) &&& 31).toUInt32).toInt32) &&& (255 : Int32)).toUInt32.toUInt16.toUInt32.toInt32) = z := ⟨_, rfl⟩
  replace G := o_i2c (q := 191) G X0.here hx (hb hby at_190) hn_yc rfl
  replace G := o_istore (q := 193) (l' := #[.val (.int i0), .val (.int i1), .val (.int i2), .val (.int i3), .val (.int i4), .val (.int 2), .val (.int cc), .val (.int ln), .val (.int ya), .val (.int yb), .val (.int yc), .unset, .unset]) G X0.here hx (hb hby at_191) rfl rfl
  have hya := o_chb hn_ya
  have hyb := o_chb hn_yb
  have hyc := o_chb hn_yc
  rcases o_cases4 (o_m3 hn_ln) with rfl | rfl | rfl | rfl
  replace G := o_iload (q := 195) G X0.here hx (hb hby at_193) rfl rfl
  replace G := o_ifNo (q := 198) G X0.here hx (hb hby at_195) (by decide) rfl
  obtain ⟨T102, h102, X102, e102, E102, A102, D102, -, st102⟩ := newO X0 hx hZ hown (o_w hw 7 rfl) (o_w hw 8 rfl) (o_w hw 9 rfl) e0 (g := o_g G) rfl (hb hby at_198) (by decide) (by decide)
  obtain ⟨b102, g102⟩ : ∃ z, z = h0.size := ⟨_, rfl⟩
  rw [← g102] at A102 D102 st102
  have ge_b102 : n0 ≤ b102 := Nat.le_trans Z0 (Nat.le_of_eq g102.symm)
  have Z102 : n0 ≤ h102.size := Nat.le_trans Z0 E102.1
  have F102_coder : Fld Z h102 b102 o_n0 "coder" "B" (.int 0) := D102 (Or.inr (o_w hw 33 rfl)) (ty := .byte) (by decide)
  have F102_value : Fld Z h102 b102 o_n0 "value" "[B" .null := D102 (Or.inr (o_w hw 35 rfl)) (ty := (.array .byte)) (by decide)
  replace G := o_nxs (q := 201) (st := [(.ref b102)]) G st102 rfl
  replace G := o_dup (q := 202) G X102.here hx (hb hby at_201) rfl rfl
  replace G := o_iconst (q := 203) G X102.here hx (hb hby at_202) (v := (0 : Int32)) (by decide) rfl
  obtain ⟨T103, h103, k103, X103, e103, E103, A103, st103⟩ := newP X102 hx hZ (o_w hw 5 rfl) e102 (g := o_g G) rfl (hb hby at_203) rfl (by decide) (cap := 0) (by decide) (by decide) (by decide) (by decide)
  obtain ⟨b103, g103⟩ : ∃ z, z = h102.size := ⟨_, rfl⟩
  rw [← g103] at A103 st103
  have ne104 : b102 ≠ b103 := Nat.ne_of_lt (Nat.lt_of_lt_of_le F102_value.lt (Nat.le_of_eq g103.symm))
  have ge_b103 : n0 ≤ b103 := Nat.le_trans Z102 (Nat.le_of_eq g103.symm)
  have Z103 : n0 ≤ h103.size := Nat.le_trans Z102 E103.1
  have V103 : Arv Z h103 b103 k103 .char (0 : Int32) [] (.int 0) := (Arv.new A103 (by decide)).pad (pad_rep [] (.int 0) 0)
  replace G := o_nxs (q := 205) (st := [(.ref b103), (.ref b102), (.ref b102)]) G st103 rfl
  have F106 := ((P0.ext E102).ext E103)
  have F107 := (F102_value.ext E103)
  have F108 := (F102_coder.ext E103)
  have F109 := (A102.ext E103)
  have CH110 := CHv.ext E102 hV
  have SF111 := Safe.ext E102 hV (Safe.new (Nat.le_of_eq g102.symm))
  have CH112 := CHv.ext E103 CH110
  have SF113 := Safe.ext E103 CH110 SF111
  obtain ⟨_, _, ⟨T105, L105, kk105, nn105⟩, -, X105, S105', g105', ⟨Lc105, hQ105, l105, y105, z105⟩, st105⟩ := X103.specialBackS hx (y := (⟨o_n0, "<init>", "([C)V"⟩ : MethodName)) rfl hown (mvT hZ (o_w hw 10 rfl)) (mvT hZ (o_w hw 11 rfl)) (mvT hZ (o_w hw 12 rfl)) (by decide) (o_backW (V := fun vm => (CHv Z o_EL vm h103 ∧ Safe Z o_EL vm h103 b102)) (W := 1) (rm2z l Z a0 hw [] b102 b103 k103 h103 n0 Z103 F106 F107 F108 F109 ge_b102 V103) hZ (o_w hw 12 rfl) (o_w hw 9 rfl) (by decide) (by decide)) (g := o_g G) rfl (by rw [hml]; rfl) (Steps.refl _) (a := b102) (argsL := [(.ref b103)]) (rest := [(.ref b102)]) (lenOf pd_13 rfl) rfl (by show 2 * 0 + _ ≤ _; exact Nat.le_of_eq rfl) (hb hby at_205) (fun _ hvm => ⟨rfl, e103, (by decide : 2 + 4 ≤ _), (by decide : 4 + 8 ≤ _), o_chw (s := s) hZ (o_EW hw) CH112 hvm, o_sfw (s := s) hZ (o_EW hw) CH112 hvm F109.lt SF113⟩)
  dsimp only [Pt.U, Pt.locs, Pt.cells, Pt.slots] at X105 l105 y105 z105 st105 hQ105 S105' g105'
  subst l105 y105 z105
  have S105 := S105'
  have hZ105 : Z.Warmed39 (s.setVm T105.vm).vm := State.Warmed39.trans hZ S105.1
  have hown105 := (S105.1.alike.findClass _ _).trans hown
  obtain ⟨b_105, kb_105, rfl, N105q, K105q, B105_0, B105_1, B105_2, hL105⟩ := hQ105
  have Z105 : n0 ≤ T105.heap.size := Nat.le_trans Z103 K105q.1
  have N105 := Fr.app N0 N105q
  replace G := o_nxv (q := 208) (st := [(.ref b102)]) G st105 rfl
  replace G := o_astore (q := 210) (l' := #[.val (.int i0), .val (.int i1), .val (.int i2), .val (.int i3), .val (.int i4), .val (.int 2), .val (.int cc), .val (.int 0), .val (.int ya), .val (.int yb), .val (.int yc), .val (.ref b102), .unset]) G X105.here hx (hb hby at_208) rfl rfl rfl
  replace G := o_goto (q := 300) G X105.here hx (hb hby at_210) (by decide) (by decide)
  replace G := o_aload (q := 302) G X105.here hx (hb hby at_300) rfl rfl rfl
  have F115 := (F106.keep K105q (allS ge_b102 all0))
  have F116 := (F109.keep K105q)
  obtain ⟨_, _, ⟨T114, L114, kk114, nn114⟩, -, X114, S114', g114', ⟨Lc114, hQ114, l114, y114, z114⟩, st114⟩ := callSS X105 hx (y := (⟨"com/example/assertgate/assertgate/saml/NameIdFormats", "isAccepted", "(Ljava/lang/String;)Z"⟩ : MethodName)) hown105 (mvT hZ105 (o_w hw 36 rfl)) (mvT hZ105 (o_w hw 37 rfl)) (mvT hZ105 (o_w hw 38 rfl)) (mvT hZ105 (o_w hw 39 rfl)) (by decide) (o_backW (V := fun vm => CHv Z o_EL vm T105.heap) (W := 0) (rm8s l Z a0 hw [] b102 cw [] (0 : Int32) (0 : Int32) [] b_105 kb_105 T105.heap n0 Z105 F115 P4 hcw F116 B105_0 B105_1 B105_2 (Or.inl ⟨rfl, rfl, rfl, fun c hc => by cases hc⟩) (fun c hc => by cases hc) (Nat.le_of_ble_eq_true rfl)) hZ105 (o_w hw 39 rfl) (o_w hw 38 rfl) (by decide) (by decide)) (g := o_g G) rfl (by rw [hml]; rfl) (argsL := [(.ref b102)]) (rest := []) (lenOf pd_14 rfl) rfl (by show 2 * 0 + _ ≤ _; exact Nat.le_of_eq rfl) (hb hby at_302) (fun _ hvm => ⟨rfl, rfl, (by decide : 6 + 4 ≤ _), (by decide : 12 + 432 ≤ _), o_chw (s := s) hZ105 (o_EW hw) hL105 hvm⟩)
  dsimp only [Pt.U, Pt.locs, Pt.cells, Pt.slots] at X114 l114 y114 z114 st114 hQ114 S114' g114'
  subst l114 y114 z114
  obtain ⟨X114, S114, hZ114, hown114⟩ := rebS S105 (Nat.le_refl _) X114 S114' g114' hZ105 hown105
  obtain ⟨rfl, N114q, K114q, hL114⟩ := hQ114
  have Z114 : n0 ≤ T114.heap.size := Nat.le_trans Z105 K114q.1
  have N114 := Fr.app N105 N114q
  replace G : Gets p e below _ (T114.setTop (mkF m 305 #[.val (.int i0), .val (.int i1), .val (.int i2), .val (.int i3), .val (.int i4), .val (.int 2), .val (.int cc), .val (.int 0), .val (.int ya), .val (.int yb), .val (.int yc), .val (.ref b102), .unset] [(.int (o_acc []))])) := fun t k => G t (st114.trans k)
  have hc305_117 : (o_acc []) = (0 : Int32) := o_accS (Nat.le_of_ble_eq_true rfl)
  replace G := o_ifNo (q := 308) G X114.here hx (hb hby at_305) ((if0 _ _).trans (teq hc305_117).2) rfl
  replace G := o_iconst (q := 309) G X114.here hx (hb hby at_308) (v := (1 : Int32)) (by decide) rfl
  replace G := o_goto (q := 313) G X114.here hx (hb hby at_309) (by decide) (by decide)
  obtain ⟨fs, hr, hrun, hended, -, hW, hBk, hsame⟩ := X114.leaveW S114 (Nat.le_refl _) (v := some (.int 1)) (fun h => by rw [Bd.returns] at h; cases h)
  refine ⟨_, _, G _ (retOut X114 hx Bd.returns rfl (Or.inl ⟨rfl, Or.inr (Or.inl rfl), _, rfl⟩) (hb hby at_313) hr), hrun, hended, _, _, rfl, ?_, ⟨_, rfl⟩, hW, hBk, hsame.mono (by decide) (by decide)⟩
  show Q0 Z i0 i1 i2 i3 i4 cw fm h0 n0 _ T114.heap _
  exact ⟨rfl, N114⟩
  replace G := o_iload (q := 195) G X0.here hx (hb hby at_193) rfl rfl
  replace G := o_ifYes (q := 213) G X0.here hx (hb hby at_195) (by decide) (by decide) (by decide)
  replace G := o_iload (q := 215) G X0.here hx (hb hby at_213) rfl rfl
  replace G := o_iconst (q := 216) G X0.here hx (hb hby at_215) (v := (1 : Int32)) (by decide) rfl
  replace G := o_icmpNo (q := 219) G X0.here hx (hb hby at_216) (by decide) rfl
  replace G := o_iload (q := 221) G X0.here hx (hb hby at_219) rfl rfl
  have F121 : Sta Z h0 o_n0 "COMPACT_STRINGS" "Z" (.int cw) := P4.ext P0.2
  obtain ⟨_, _, ⟨T120, L120, kk120, nn120⟩, -, X120, ⟨Lc120, hQ120, l120, y120, z120⟩, st120⟩ := Jvm.LawKit.callS X0 hx (y := (⟨o_n0, "valueOf", "(C)Ljava/lang/String;"⟩ : MethodName)) hown (mvT hZ (o_w hw 101 rfl)) (mvT hZ (o_w hw 102 rfl)) (mvT hZ (o_w hw 9 rfl)) (mvT hZ (o_w hw 103 rfl)) (by decide) (backOf (W := 0) (rm22 l Z a0 hw [] ya cw h0 n0 Z0 F121 hcw hya.2.2) hZ (o_w hw 103 rfl) (o_w hw 9 rfl) (by decide) (by decide)) (g := o_g G) rfl (by rw [hml]; rfl) (argsL := [(.int ya)]) (rest := []) (lenOf pd_16 rfl) rfl (by show 2 * 0 + _ ≤ _; exact Nat.le_of_eq rfl) (hb hby at_221) (fun _ _ => ⟨rfl, e0, (by decide : 0 + 2 ≤ _), (by decide : 0 + 5 ≤ _)⟩)
  dsimp only [Pt.U, Pt.locs, Pt.cells, Pt.slots] at X120 l120 y120 z120 st120 hQ120
  subst l120 y120 z120
  obtain ⟨t_120, b_120, kb_120, rfl, N120q, K120q, B120_0, B120_1, B120_2, B120_3, B120_4⟩ := hQ120
  have ge_t_120 : n0 ≤ t_120 := Nat.le_trans Z0 B120_0
  have Z120 : n0 ≤ T120.heap.size := Nat.le_trans Z0 K120q.1
  have N120 := Fr.app N0 N120q
  replace G := o_nxs (q := 224) (st := [(.ref t_120)]) G st120 rfl
  replace G := o_astore (q := 226) (l' := #[.val (.int i0), .val (.int i1), .val (.int i2), .val (.int i3), .val (.int i4), .val (.int 2), .val (.int cc), .val (.int 1), .val (.int ya), .val (.int yb), .val (.int yc), .val (.ref t_120), .unset]) G X120.here hx (hb hby at_224) rfl rfl rfl
  replace G := o_goto (q := 300) G X120.here hx (hb hby at_226) (by decide) (by decide)
  replace G := o_aload (q := 302) G X120.here hx (hb hby at_300) rfl rfl rfl
  have F123 := (P0.keep K120q all0)
  have CH124 := CHv.keep K120q (fun x hx => by cases hx) hV
  obtain ⟨_, _, ⟨T122, L122, kk122, nn122⟩, -, X122, S122', g122', ⟨Lc122, hQ122, l122, y122, z122⟩, st122⟩ := callSS X120 hx (y := (⟨"com/example/assertgate/assertgate/saml/NameIdFormats", "isAccepted", "(Ljava/lang/String;)Z"⟩ : MethodName)) hown (mvT hZ (o_w hw 36 rfl)) (mvT hZ (o_w hw 37 rfl)) (mvT hZ (o_w hw 38 rfl)) (mvT hZ (o_w hw 39 rfl)) (by decide) (o_backW (V := fun vm => CHv Z o_EL vm T120.heap) (W := 0) (rm8s l Z a0 hw [] t_120 cw [ya] (0 : Int32) (1 : Int32) [(.int (nar .byte (ya.toInt8.toInt32)))] b_120 kb_120 T120.heap n0 Z120 F123 P4 hcw B120_1 B120_2 B120_3 B120_4 (o_cod1 hya.2) (o_bu (o_al1 hya.2)) (Nat.le_of_ble_eq_true rfl)) hZ (o_w hw 39 rfl) (o_w hw 38 rfl) (by decide) (by decide)) (g := o_g G) rfl (by rw [hml]; rfl) (argsL := [(.ref t_120)]) (rest := []) (lenOf pd_14 rfl) rfl (by show 2 * 0 + _ ≤ _; exact Nat.le_of_eq rfl) (hb hby at_302) (fun _ hvm => ⟨rfl, rfl, (by decide : 2 + 4 ≤ _), (by decide : 5 + 432 ≤ _), o_chw (s := s) hZ (o_EW hw) CH124 hvm⟩)
  dsimp only [Pt.U, Pt.locs, Pt.cells, Pt.slots] at X122 l122 y122 z122 st122 hQ122 S122' g122'
  subst l122 y122 z122
  have S122 := S122'
  have hZ122 : Z.Warmed39 (s.setVm T122.vm).vm := State.Warmed39.trans hZ S122.1
  have hown122 := (S122.1.alike.findClass _ _).trans hown
  obtain ⟨rfl, N122q, K122q, hL122⟩ := hQ122
  have Z122 : n0 ≤ T122.heap.size := Nat.le_trans Z120 K122q.1
  have N122 := Fr.app N120 N122q
  replace G : Gets p e below _ (T122.setTop (mkF m 305 #[.val (.int i0), .val (.int i1), .val (.int i2), .val (.int i3), .val (.int i4), .val (.int 2), .val (.int cc), .val (.int 1), .val (.int ya), .val (.int yb), .val (.int yc), .val (.ref t_120), .unset] [(.int (o_acc [ya]))])) := fun t k => G t (st122.trans k)
  have hc305_125 : (o_acc [ya]) = (0 : Int32) := o_accS (Nat.le_of_ble_eq_true rfl)
  replace G := o_ifNo (q := 308) G X122.here hx (hb hby at_305) ((if0 _ _).trans (teq hc305_125).2) rfl
  replace G := o_iconst (q := 309) G X122.here hx (hb hby at_308) (v := (1 : Int32)) (by decide) rfl
  replace G := o_goto (q := 313) G X122.here hx (hb hby at_309) (by decide) (by decide)
  obtain ⟨fs, hr, hrun, hended, -, hW, hBk, hsame⟩ := X122.leaveW S122 (Nat.le_refl _) (v := some (.int 1)) (fun h => by rw [Bd.returns] at h; cases h)
  refine ⟨_, _, G _ (retOut X122 hx Bd.returns rfl (Or.inl ⟨rfl, Or.inr (Or.inl rfl), _, rfl⟩) (hb hby at_313) hr), hrun, hended, _, _, rfl, ?_, ⟨_, rfl⟩, hW, hBk, hsame.mono (by decide) (by decide)⟩
  show Q0 Z i0 i1 i2 i3 i4 cw fm h0 n0 _ T122.heap _
  exact ⟨rfl, N122⟩
  replace G := o_iload (q := 195) G X0.here hx (hb hby at_193) rfl rfl
  replace G := o_ifYes (q := 213) G X0.here hx (hb hby at_195) (by decide) (by decide) (by decide)
  replace G := o_iload (q := 215) G X0.here hx (hb hby at_213) rfl rfl
  replace G := o_iconst (q := 216) G X0.here hx (hb hby at_215) (v := (1 : Int32)) (by decide) rfl
  replace G := o_icmpYes (q := 229) G X0.here hx (hb hby at_216) (by decide) (by decide) (by decide)
  replace G := o_iload (q := 231) G X0.here hx (hb hby at_229) rfl rfl
  replace G := o_iconst (q := 232) G X0.here hx (hb hby at_231) (v := (2 : Int32)) (by decide) rfl
  replace G := o_icmpNo (q := 235) G X0.here hx (hb hby at_232) (by decide) rfl
  replace G := o_iconst (q := 236) G X0.here hx (hb hby at_235) (v := (2 : Int32)) (by decide) rfl
  obtain ⟨T129, h129, k129, X129, e129, E129, A129, st129⟩ := newP X0 hx hZ (o_w hw 5 rfl) e0 (g := o_g G) rfl (hb hby at_236) rfl (by decide) (cap := 2) (by decide) (by decide) (by decide) (by decide)
  obtain ⟨b129, g129⟩ : ∃ z, z = h0.size := ⟨_, rfl⟩
  rw [← g129] at A129 st129
  have ge_b129 : n0 ≤ b129 := Nat.le_trans Z0 (Nat.le_of_eq g129.symm)
  have Z129 : n0 ≤ h129.size := Nat.le_trans Z0 E129.1
  have V129 : Arv Z h129 b129 k129 .char (2 : Int32) [(.int 0), (.int 0)] (.int 0) := (Arv.new A129 (by decide)).pad (pad_rep [] (.int 0) 2)
  replace G := o_nxs (q := 238) (st := [(.ref b129)]) G st129 rfl
  replace G := o_astore (q := 240) (l' := #[.val (.int i0), .val (.int i1), .val (.int i2), .val (.int i3), .val (.int i4), .val (.int 2), .val (.int cc), .val (.int 2), .val (.int ya), .val (.int yb), .val (.int yc), .unset, .val (.ref b129)]) G X129.here hx (hb hby at_238) rfl rfl rfl
  replace G := o_aload (q := 242) G X129.here hx (hb hby at_240) rfl rfl rfl
  replace G := o_iconst (q := 243) G X129.here hx (hb hby at_242) (v := (0 : Int32)) (by decide) rfl
  replace G := o_iload (q := 245) G X129.here hx (hb hby at_243) rfl rfl
  obtain ⟨c130, Ar130, q130, S130, N130', H130, G130'⟩ := id V129
  have hin130 : ¬ ((0 : Int32) < 0 ∨ c130.slots.size ≤ ((0 : Int32)).toNatClampNeg) := inb_of S130 ⟨by decide, by decide⟩
  obtain ⟨T130, h130, X130, e130, W130, st130⟩ := stC X129 hx hZ e129 Ar130 (j := (0 : Int32)) hin130 (g := o_g G) rfl rfl (hb hby at_245)
  have N130 := Fr.snoc X130 N0 ge_b129
  have Z130 : n0 ≤ h130.size := Nat.le_trans Z129 (Keep.of_wr W130).1
  have V130 : Arv Z h130 b129 k129 .char (2 : Int32) [(.int (nar .char ya)), (.int 0)] (.int 0) := Arv.set Ar130 q130 S130 N130' H130 G130' (fits_nar_char _) W130 0 rfl (Nat.le_of_ble_eq_true rfl)
  replace G := o_nxs (q := 246) (st := []) G st130 rfl
  replace G := o_aload (q := 248) G X130.here hx (hb hby at_246) rfl rfl rfl
  replace G := o_iconst (q := 249) G X130.here hx (hb hby at_248) (v := (1 : Int32)) (by decide) rfl
  replace G := o_iload (q := 251) G X130.here hx (hb hby at_249) rfl rfl
  obtain ⟨c131, Ar131, q131, S131, N131', H131, G131'⟩ := id V130
  have hin131 : ¬ ((1 : Int32) < 0 ∨ c131.slots.size ≤ ((1 : Int32)).toNatClampNeg) := inb_of S131 ⟨by decide, by decide⟩
  obtain ⟨T131, h131, X131, e131, W131, st131⟩ := stC X130 hx hZ e130 Ar131 (j := (1 : Int32)) hin131 (g := o_g G) rfl rfl (hb hby at_251)
  have N131 := Fr.snoc X131 N130 ge_b129
  have Z131 : n0 ≤ h131.size := Nat.le_trans Z130 (Keep.of_wr W131).1
  have V131 : Arv Z h131 b129 k129 .char (2 : Int32) [(.int (nar .char ya)), (.int (nar .char yb))] (.int 0) := Arv.set Ar131 q131 S131 N131' H131 G131' (fits_nar_char _) W131 1 rfl (Nat.le_of_ble_eq_true rfl)
  replace G := o_nxs (q := 252) (st := []) G st131 rfl
  obtain ⟨T132, h132, X132, e132, E132, A132, D132, -, st132⟩ := newO X131 hx hZ hown (o_w hw 7 rfl) (o_w hw 8 rfl) (o_w hw 9 rfl) e131 (g := o_g G) rfl (hb hby at_252) (by decide) (by decide)
  obtain ⟨b132, g132⟩ : ∃ z, z = h131.size := ⟨_, rfl⟩
  rw [← g132] at A132 D132 st132
  have ne133 : b129 ≠ b132 := Nat.ne_of_lt (Nat.lt_of_lt_of_le V131.lt (Nat.le_of_eq g132.symm))
  have ge_b132 : n0 ≤ b132 := Nat.le_trans Z131 (Nat.le_of_eq g132.symm)
  have Z132 : n0 ≤ h132.size := Nat.le_trans Z131 E132.1
  have F132_coder : Fld Z h132 b132 o_n0 "coder" "B" (.int 0) := D132 (Or.inr (o_w hw 33 rfl)) (ty := .byte) (by decide)
  have F132_value : Fld Z h132 b132 o_n0 "value" "[B" .null := D132 (Or.inr (o_w hw 35 rfl)) (ty := (.array .byte)) (by decide)
  replace G := o_nxs (q := 255) (st := [(.ref b132)]) G st132 rfl
  replace G := o_dup (q := 256) G X132.here hx (hb hby at_255) rfl rfl
  replace G := o_aload (q := 258) G X132.here hx (hb hby at_256) rfl rfl rfl
  have F135 := (V131.ext E132)
  have F136 := ((((P0.ext E129).wr W130 ge_b129).wr W131 ge_b129).ext E132)
  have F137 : Sta Z h132 o_n0 "COMPACT_STRINGS" "Z" (.int cw) := P4.ext F136.2
  obtain ⟨vv134, _, ⟨T134, L134, kk134, nn134⟩, -, X134, ⟨Lc134, hQ134, l134, y134, z134⟩, st134⟩ := X132.specialBack hx (y := (⟨o_n0, "<init>", "([C)V"⟩ : MethodName)) rfl hown (mvT hZ (o_w hw 10 rfl)) (mvT hZ (o_w hw 11 rfl)) (mvT hZ (o_w hw 12 rfl)) (by decide) (StrChars.Road.backV (W := 1) hZ (fun d hd => hw d (o_wst d hd)) (kI := 4) (o_w hw 8 rfl) (cs := [(nar .char ya), (nar .char yb)]) (n := 2) (n0 := n0) ge_b132 Z132 A132 F132_value F132_coder F135 F137 hcw rfl (by decide) (by decide) (by decide) (o_al2 hya.1 hyb.1) rfl (by decide) (by decide)) (g := o_g G) rfl (by rw [hml]; rfl) (Steps.refl _) (a := b132) (argsL := [(.ref b129)]) (rest := [(.ref b132)]) (lenOf pd_13 rfl) rfl (by show 2 * 0 + _ ≤ _; exact Nat.le_of_eq rfl) (hb hby at_258) (fun _ _ => ⟨rfl, e132, (by decide : 2 + 1 ≤ _), (by decide : 6 + 2 ≤ _)⟩)
  dsimp only [Pt.U, Pt.locs, Pt.cells, Pt.slots] at X134 l134 y134 z134 st134 hQ134
  subst l134 y134 z134
  obtain ⟨rfl, N134q, K134q, B134_0, B134_1, t_134, kt_134, ge_t_134, sz_t_134, -, B134_2, B134_3⟩ := hQ134
  have ne138 : b132 ≠ t_134 := Nat.ne_of_lt (Nat.lt_of_lt_of_le F132_value.lt sz_t_134)
  have ne139 : b129 ≠ t_134 := Nat.ne_of_lt (Nat.lt_of_lt_of_le F135.lt sz_t_134)
  have Z134 : n0 ≤ T134.heap.size := Nat.le_trans Z132 K134q.1
  have N134 := Fr.app N131 N134q
  replace G := o_nxv (q := 261) (st := [(.ref b132)]) G st134 rfl
  replace G := o_astore (q := 263) (l' := #[.val (.int i0), .val (.int i1), .val (.int i2), .val (.int i3), .val (.int i4), .val (.int 2), .val (.int cc), .val (.int 2), .val (.int ya), .val (.int yb), .val (.int yc), .val (.ref b132), .val (.ref b129)]) G X134.here hx (hb hby at_261) rfl rfl rfl
  replace G := o_goto (q := 300) G X134.here hx (hb hby at_263) (by decide) (by decide)
  replace G := o_aload (q := 302) G X134.here hx (hb hby at_300) rfl rfl rfl
  have F141 := (F136.keep K134q (allS ge_b132 all0))
  have CH142 := CHv.ext E129 hV
  have CH143 := CHv.wr W130 (Safe.arr hZ.alike Ar130 (by decide)) CH142
  have CH144 := CHv.wr W131 (Safe.arr hZ.alike Ar131 (by decide)) CH143
  have CH145 := CHv.ext E132 CH144
  have SF146 := Safe.ext E132 CH144 (Safe.new (Nat.le_of_eq g132.symm))
  have CH147 := CHv.keep K134q (List.forall_mem_cons.mpr ⟨SF146, fun x hx => by cases hx⟩) CH145
  have SF148 := Safe.keep K134q (List.forall_mem_cons.mpr ⟨SF146, fun x hx => by cases hx⟩) CH145 SF146
  obtain ⟨_, _, ⟨T140, L140, kk140, nn140⟩, -, X140, S140', g140', ⟨Lc140, hQ140, l140, y140, z140⟩, st140⟩ := callSS X134 hx (y := (⟨"com/example/assertgate/assertgate/saml/NameIdFormats", "isAccepted", "(Ljava/lang/String;)Z"⟩ : MethodName)) hown (mvT hZ (o_w hw 36 rfl)) (mvT hZ (o_w hw 37 rfl)) (mvT hZ (o_w hw 38 rfl)) (mvT hZ (o_w hw 39 rfl)) (by decide) (o_backW (V := fun vm => CHv Z o_EL vm T134.heap) (W := 0) (rm8s l Z a0 hw [] b132 cw [(nar .char ya), (nar .char yb)] (0 : Int32) (2 : Int32) (([(nar .char ya), (nar .char yb)].map fun c => c.toInt8.toInt32).map Value.int) t_134 kt_134 T134.heap n0 Z134 F141 P4 hcw B134_0 B134_2 B134_1 B134_3 (o_codS (n := 2) rfl (by decide) (o_al2 hya.1 hyb.1)) (o_bu (o_al2 hya.1 hyb.1)) (Nat.le_of_ble_eq_true rfl)) hZ (o_w hw 39 rfl) (o_w hw 38 rfl) (by decide) (by decide)) (g := o_g G) rfl (by rw [hml]; rfl) (argsL := [(.ref b132)]) (rest := []) (lenOf pd_14 rfl) rfl (by show 2 * 0 + _ ≤ _; exact Nat.le_of_eq rfl) (hb hby at_302) (fun _ hvm => ⟨rfl, rfl, (by decide : 3 + 4 ≤ _), (by decide : 8 + 432 ≤ _), o_chw (s := s) hZ (o_EW hw) CH147 hvm⟩)
  dsimp only [Pt.U, Pt.locs, Pt.cells, Pt.slots] at X140 l140 y140 z140 st140 hQ140 S140' g140'
  subst l140 y140 z140
  have S140 := S140'
  have hZ140 : Z.Warmed39 (s.setVm T140.vm).vm := State.Warmed39.trans hZ S140.1
  have hown140 := (S140.1.alike.findClass _ _).trans hown
  obtain ⟨rfl, N140q, K140q, hL140⟩ := hQ140
  have Z140 : n0 ≤ T140.heap.size := Nat.le_trans Z134 K140q.1
  have N140 := Fr.app N134 N140q
  replace G : Gets p e below _ (T140.setTop (mkF m 305 #[.val (.int i0), .val (.int i1), .val (.int i2), .val (.int i3), .val (.int i4), .val (.int 2), .val (.int cc), .val (.int 2), .val (.int ya), .val (.int yb), .val (.int yc), .val (.ref b132), .val (.ref b129)] [(.int (o_acc [(nar .char ya), (nar .char yb)]))])) := fun t k => G t (st140.trans k)
  have hc305_149 : (o_acc [(nar .char ya), (nar .char yb)]) = (0 : Int32) := o_accS (Nat.le_of_ble_eq_true rfl)
  replace G := o_ifNo (q := 308) G X140.here hx (hb hby at_305) ((if0 _ _).trans (teq hc305_149).2) rfl
  replace G := o_iconst (q := 309) G X140.here hx (hb hby at_308) (v := (1 : Int32)) (by decide) rfl
  replace G := o_goto (q := 313) G X140.here hx (hb hby at_309) (by decide) (by decide)
  obtain ⟨fs, hr, hrun, hended, -, hW, hBk, hsame⟩ := X140.leaveW S140 (Nat.le_refl _) (v := some (.int 1)) (fun h => by rw [Bd.returns] at h; cases h)
  refine ⟨_, _, G _ (retOut X140 hx Bd.returns rfl (Or.inl ⟨rfl, Or.inr (Or.inl rfl), _, rfl⟩) (hb hby at_313) hr), hrun, hended, _, _, rfl, ?_, ⟨_, rfl⟩, hW, hBk, hsame.mono (by decide) (by decide)⟩
  show Q0 Z i0 i1 i2 i3 i4 cw fm h0 n0 _ T140.heap _
  exact ⟨rfl, N140⟩
  replace G := o_iload (q := 195) G X0.here hx (hb hby at_193) rfl rfl
  replace G := o_ifYes (q := 213) G X0.here hx (hb hby at_195) (by decide) (by decide) (by decide)
  replace G := o_iload (q := 215) G X0.here hx (hb hby at_213) rfl rfl
  replace G := o_iconst (q := 216) G X0.here hx (hb hby at_215) (v := (1 : Int32)) (by decide) rfl
  replace G := o_icmpYes (q := 229) G X0.here hx (hb hby at_216) (by decide) (by decide) (by decide)
  replace G := o_iload (q := 231) G X0.here hx (hb hby at_229) rfl rfl
  replace G := o_iconst (q := 232) G X0.here hx (hb hby at_231) (v := (2 : Int32)) (by decide) rfl
  replace G := o_icmpYes (q := 266) G X0.here hx (hb hby at_232) (by decide) (by decide) (by decide)
  replace G := o_iconst (q := 267) G X0.here hx (hb hby at_266) (v := (3 : Int32)) (by decide) rfl
  obtain ⟨T153, h153, k153, X153, e153, E153, A153, st153⟩ := newP X0 hx hZ (o_w hw 5 rfl) e0 (g := o_g G) rfl (hb hby at_267) rfl (by decide) (cap := 3) (by decide) (by decide) (by decide) (by decide)
  obtain ⟨b153, g153⟩ : ∃ z, z = h0.size := ⟨_, rfl⟩
  rw [← g153] at A153 st153
  have ge_b153 : n0 ≤ b153 := Nat.le_trans Z0 (Nat.le_of_eq g153.symm)
  have Z153 : n0 ≤ h153.size := Nat.le_trans Z0 E153.1
  have V153 : Arv Z h153 b153 k153 .char (3 : Int32) [(.int 0), (.int 0), (.int 0)] (.int 0) := (Arv.new A153 (by decide)).pad (pad_rep [] (.int 0) 3)
  replace G := o_nxs (q := 269) (st := [(.ref b153)]) G st153 rfl
  replace G := o_astore (q := 271) (l' := #[.val (.int i0), .val (.int i1), .val (.int i2), .val (.int i3), .val (.int i4), .val (.int 2), .val (.int cc), .val (.int 3), .val (.int ya), .val (.int yb), .val (.int yc), .unset, .val (.ref b153)]) G X153.here hx (hb hby at_269) rfl rfl rfl
  replace G := o_aload (q := 273) G X153.here hx (hb hby at_271) rfl rfl rfl
  replace G := o_iconst (q := 274) G X153.here hx (hb hby at_273) (v := (0 : Int32)) (by decide) rfl
  replace G := o_iload (q := 276) G X153.here hx (hb hby at_274) rfl rfl
  obtain ⟨c154, Ar154, q154, S154, N154', H154, G154'⟩ := id V153
  have hin154 : ¬ ((0 : Int32) < 0 ∨ c154.slots.size ≤ ((0 : Int32)).toNatClampNeg) := inb_of S154 ⟨by decide, by decide⟩
  obtain ⟨T154, h154, X154, e154, W154, st154⟩ := stC X153 hx hZ e153 Ar154 (j := (0 : Int32)) hin154 (g := o_g G) rfl rfl (hb hby at_276)
  have N154 := Fr.snoc X154 N0 ge_b153
  have Z154 : n0 ≤ h154.size := Nat.le_trans Z153 (Keep.of_wr W154).1
  have V154 : Arv Z h154 b153 k153 .char (3 : Int32) [(.int (nar .char ya)), (.int 0), (.int 0)] (.int 0) := Arv.set Ar154 q154 S154 N154' H154 G154' (fits_nar_char _) W154 0 rfl (Nat.le_of_ble_eq_true rfl)
  replace G := o_nxs (q := 277) (st := []) G st154 rfl
  replace G := o_aload (q := 279) G X154.here hx (hb hby at_277) rfl rfl rfl
  replace G := o_iconst (q := 280) G X154.here hx (hb hby at_279) (v := (1 : Int32)) (by decide) rfl
  replace G := o_iload (q := 282) G X154.here hx (hb hby at_280) rfl rfl
  obtain ⟨c155, Ar155, q155, S155, N155', H155, G155'⟩ := id V154
  have hin155 : ¬ ((1 : Int32) < 0 ∨ c155.slots.size ≤ ((1 : Int32)).toNatClampNeg) := inb_of S155 ⟨by decide, by decide⟩
  obtain ⟨T155, h155, X155, e155, W155, st155⟩ := stC X154 hx hZ e154 Ar155 (j := (1 : Int32)) hin155 (g := o_g G) rfl rfl (hb hby at_282)
  have N155 := Fr.snoc X155 N154 ge_b153
  have Z155 : n0 ≤ h155.size := Nat.le_trans Z154 (Keep.of_wr W155).1
  have V155 : Arv Z h155 b153 k153 .char (3 : Int32) [(.int (nar .char ya)), (.int (nar .char yb)), (.int 0)] (.int 0) := Arv.set Ar155 q155 S155 N155' H155 G155' (fits_nar_char _) W155 1 rfl (Nat.le_of_ble_eq_true rfl)
  replace G := o_nxs (q := 283) (st := []) G st155 rfl
  replace G := o_aload (q := 285) G X155.here hx (hb hby at_283) rfl rfl rfl
  replace G := o_iconst (q := 286) G X155.here hx (hb hby at_285) (v := (2 : Int32)) (by decide) rfl
  replace G := o_iload (q := 288) G X155.here hx (hb hby at_286) rfl rfl
  obtain ⟨c156, Ar156, q156, S156, N156', H156, G156'⟩ := id V155
  have hin156 : ¬ ((2 : Int32) < 0 ∨ c156.slots.size ≤ ((2 : Int32)).toNatClampNeg) := inb_of S156 ⟨by decide, by decide⟩
  obtain ⟨T156, h156, X156, e156, W156, st156⟩ := stC X155 hx hZ e155 Ar156 (j := (2 : Int32)) hin156 (g := o_g G) rfl rfl (hb hby at_288)
  have N156 := Fr.snoc X156 N155 ge_b153
  have Z156 : n0 ≤ h156.size := Nat.le_trans Z155 (Keep.of_wr W156).1
  have V156 : Arv Z h156 b153 k153 .char (3 : Int32) [(.int (nar .char ya)), (.int (nar .char yb)), (.int (nar .char yc))] (.int 0) := Arv.set Ar156 q156 S156 N156' H156 G156' (fits_nar_char _) W156 2 rfl (Nat.le_of_ble_eq_true rfl)
  replace G := o_nxs (q := 289) (st := []) G st156 rfl
  obtain ⟨T157, h157, X157, e157, E157, A157, D157, -, st157⟩ := newO X156 hx hZ hown (o_w hw 7 rfl) (o_w hw 8 rfl) (o_w hw 9 rfl) e156 (g := o_g G) rfl (hb hby at_289) (by decide) (by decide)
  obtain ⟨b157, g157⟩ : ∃ z, z = h156.size := ⟨_, rfl⟩
  rw [← g157] at A157 D157 st157
  have ne158 : b153 ≠ b157 := Nat.ne_of_lt (Nat.lt_of_lt_of_le V156.lt (Nat.le_of_eq g157.symm))
  have ge_b157 : n0 ≤ b157 := Nat.le_trans Z156 (Nat.le_of_eq g157.symm)
  have Z157 : n0 ≤ h157.size := Nat.le_trans Z156 E157.1
  have F157_coder : Fld Z h157 b157 o_n0 "coder" "B" (.int 0) := D157 (Or.inr (o_w hw 33 rfl)) (ty := .byte) (by decide)
  have F157_value : Fld Z h157 b157 o_n0 "value" "[B" .null := D157 (Or.inr (o_w hw 35 rfl)) (ty := (.array .byte)) (by decide)
  replace G := o_nxs (q := 292) (st := [(.ref b157)]) G st157 rfl
  replace G := o_dup (q := 293) G X157.here hx (hb hby at_292) rfl rfl
  replace G := o_aload (q := 295) G X157.here hx (hb hby at_293) rfl rfl rfl
  have F160 := (V156.ext E157)
  have F161 := (((((P0.ext E153).wr W154 ge_b153).wr W155 ge_b153).wr W156 ge_b153).ext E157)
  have F162 : Sta Z h157 o_n0 "COMPACT_STRINGS" "Z" (.int cw) := P4.ext F161.2
  obtain ⟨vv159, _, ⟨T159, L159, kk159, nn159⟩, -, X159, ⟨Lc159, hQ159, l159, y159, z159⟩, st159⟩ := X157.specialBack hx (y := (⟨o_n0, "<init>", "([C)V"⟩ : MethodName)) rfl hown (mvT hZ (o_w hw 10 rfl)) (mvT hZ (o_w hw 11 rfl)) (mvT hZ (o_w hw 12 rfl)) (by decide) (StrChars.Road.backV (W := 1) hZ (fun d hd => hw d (o_wst d hd)) (kI := 4) (o_w hw 8 rfl) (cs := [(nar .char ya), (nar .char yb), (nar .char yc)]) (n := 3) (n0 := n0) ge_b157 Z157 A157 F157_value F157_coder F160 F162 hcw rfl (by decide) (by decide) (by decide) (o_al3 hya.1 hyb.1 hyc.1) rfl (by decide) (by decide)) (g := o_g G) rfl (by rw [hml]; rfl) (Steps.refl _) (a := b157) (argsL := [(.ref b153)]) (rest := [(.ref b157)]) (lenOf pd_13 rfl) rfl (by show 2 * 0 + _ ≤ _; exact Nat.le_of_eq rfl) (hb hby at_295) (fun _ _ => ⟨rfl, e157, (by decide : 2 + 1 ≤ _), (by decide : 7 + 3 ≤ _)⟩)
  dsimp only [Pt.U, Pt.locs, Pt.cells, Pt.slots] at X159 l159 y159 z159 st159 hQ159
  subst l159 y159 z159
  obtain ⟨rfl, N159q, K159q, B159_0, B159_1, t_159, kt_159, ge_t_159, sz_t_159, -, B159_2, B159_3⟩ := hQ159
  have ne163 : b157 ≠ t_159 := Nat.ne_of_lt (Nat.lt_of_lt_of_le F157_value.lt sz_t_159)
  have ne164 : b153 ≠ t_159 := Nat.ne_of_lt (Nat.lt_of_lt_of_le F160.lt sz_t_159)
  have Z159 : n0 ≤ T159.heap.size := Nat.le_trans Z157 K159q.1
  have N159 := Fr.app N156 N159q
  replace G := o_nxv (q := 298) (st := [(.ref b157)]) G st159 rfl
  replace G := o_astore (q := 300) (l' := #[.val (.int i0), .val (.int i1), .val (.int i2), .val (.int i3), .val (.int i4), .val (.int 2), .val (.int cc), .val (.int 3), .val (.int ya), .val (.int yb), .val (.int yc), .val (.ref b157), .val (.ref b153)]) G X159.here hx (hb hby at_298) rfl rfl rfl
  replace G := o_aload (q := 302) G X159.here hx (hb hby at_300) rfl rfl rfl
  have F166 := (F161.keep K159q (allS ge_b157 all0))
  have CH167 := CHv.ext E153 hV
  have CH168 := CHv.wr W154 (Safe.arr hZ.alike Ar154 (by decide)) CH167
  have CH169 := CHv.wr W155 (Safe.arr hZ.alike Ar155 (by decide)) CH168
  have CH170 := CHv.wr W156 (Safe.arr hZ.alike Ar156 (by decide)) CH169
  have CH171 := CHv.ext E157 CH170
  have SF172 := Safe.ext E157 CH170 (Safe.new (Nat.le_of_eq g157.symm))
  have CH173 := CHv.keep K159q (List.forall_mem_cons.mpr ⟨SF172, fun x hx => by cases hx⟩) CH171
  have SF174 := Safe.keep K159q (List.forall_mem_cons.mpr ⟨SF172, fun x hx => by cases hx⟩) CH171 SF172
  obtain ⟨_, _, ⟨T165, L165, kk165, nn165⟩, -, X165, S165', g165', ⟨Lc165, hQ165, l165, y165, z165⟩, st165⟩ := callSS X159 hx (y := (⟨"com/example/assertgate/assertgate/saml/NameIdFormats", "isAccepted", "(Ljava/lang/String;)Z"⟩ : MethodName)) hown (mvT hZ (o_w hw 36 rfl)) (mvT hZ (o_w hw 37 rfl)) (mvT hZ (o_w hw 38 rfl)) (mvT hZ (o_w hw 39 rfl)) (by decide) (o_backW (V := fun vm => CHv Z o_EL vm T159.heap) (W := 0) (rm8s l Z a0 hw [] b157 cw [(nar .char ya), (nar .char yb), (nar .char yc)] (0 : Int32) (3 : Int32) (([(nar .char ya), (nar .char yb), (nar .char yc)].map fun c => c.toInt8.toInt32).map Value.int) t_159 kt_159 T159.heap n0 Z159 F166 P4 hcw B159_0 B159_2 B159_1 B159_3 (o_codS (n := 3) rfl (by decide) (o_al3 hya.1 hyb.1 hyc.1)) (o_bu (o_al3 hya.1 hyb.1 hyc.1)) (Nat.le_of_ble_eq_true rfl)) hZ (o_w hw 39 rfl) (o_w hw 38 rfl) (by decide) (by decide)) (g := o_g G) rfl (by rw [hml]; rfl) (argsL := [(.ref b157)]) (rest := []) (lenOf pd_14 rfl) rfl (by show 2 * 0 + _ ≤ _; exact Nat.le_of_eq rfl) (hb hby at_302) (fun _ hvm => ⟨rfl, rfl, (by decide : 3 + 4 ≤ _), (by decide : 10 + 432 ≤ _), o_chw (s := s) hZ (o_EW hw) CH173 hvm⟩)
  dsimp only [Pt.U, Pt.locs, Pt.cells, Pt.slots] at X165 l165 y165 z165 st165 hQ165 S165' g165'
  subst l165 y165 z165
  have S165 := S165'
  have hZ165 : Z.Warmed39 (s.setVm T165.vm).vm := State.Warmed39.trans hZ S165.1
  have hown165 := (S165.1.alike.findClass _ _).trans hown
  obtain ⟨rfl, N165q, K165q, hL165⟩ := hQ165
  have Z165 : n0 ≤ T165.heap.size := Nat.le_trans Z159 K165q.1
  have N165 := Fr.app N159 N165q
  replace G : Gets p e below _ (T165.setTop (mkF m 305 #[.val (.int i0), .val (.int i1), .val (.int i2), .val (.int i3), .val (.int i4), .val (.int 2), .val (.int cc), .val (.int 3), .val (.int ya), .val (.int yb), .val (.int yc), .val (.ref b157), .val (.ref b153)] [(.int (o_acc [(nar .char ya), (nar .char yb), (nar .char yc)]))])) := fun t k => G t (st165.trans k)
  have hc305_175 : (o_acc [(nar .char ya), (nar .char yb), (nar .char yc)]) = (0 : Int32) := o_accS (Nat.le_of_ble_eq_true rfl)
  replace G := o_ifNo (q := 308) G X165.here hx (hb hby at_305) ((if0 _ _).trans (teq hc305_175).2) rfl
  replace G := o_iconst (q := 309) G X165.here hx (hb hby at_308) (v := (1 : Int32)) (by decide) rfl
  replace G := o_goto (q := 313) G X165.here hx (hb hby at_309) (by decide) (by decide)
  obtain ⟨fs, hr, hrun, hended, -, hW, hBk, hsame⟩ := X165.leaveW S165 (Nat.le_refl _) (v := some (.int 1)) (fun h => by rw [Bd.returns] at h; cases h)
  refine ⟨_, _, G _ (retOut X165 hx Bd.returns rfl (Or.inl ⟨rfl, Or.inr (Or.inl rfl), _, rfl⟩) (hb hby at_313) hr), hrun, hended, _, _, rfl, ?_, ⟨_, rfl⟩, hW, hBk, hsame.mono (by decide) (by decide)⟩
  show Q0 Z i0 i1 i2 i3 i4 cw fm h0 n0 _ T165.heap _
  exact ⟨rfl, N165⟩
  replace G := o_istore (q := 5) (l' := #[.val (.int i0), .val (.int i1), .val (.int i2), .val (.int i3), .val (.int i4), .val (.int 3), .unset, .unset, .unset, .unset, .unset, .unset, .unset]) G X0.here hx (hb hby at_3) rfl rfl
  replace G := o_iloadN (q := 6) G X0.here hx (hb hby at_5) rfl rfl
  replace G := o_nxs (q := 8) (st := [(.int 65535), (.int i2)]) G (X0.ldcInt hx hown (mvT hZ (o_w hw 0 rfl)) (g := o_g G) rfl (hb hby at_6)) rfl
  replace G := o_iand (q := 9) G X0.here hx (hb hby at_8) rfl rfl
  obtain ⟨cc, hn_cc⟩ : ∃ z : Int32, ((i2 &&& (65535 : Int32)).toUInt32.toUInt16.toUInt32.toInt32) = z := ⟨_, rfl⟩
  replace G := o_i2c (q := 10) G X0.here hx (hb hby at_9) hn_cc rfl
  have hcr := o_chr hn_cc
  replace G := o_istore (q := 12) (l' := #[.val (.int i0), .val (.int i1), .val (.int i2), .val (.int i3), .val (.int i4), .val (.int 3), .val (.int cc), .unset, .unset, .unset, .unset, .unset, .unset]) G X0.here hx (hb hby at_10) rfl rfl
  replace G := o_iload (q := 14) G X0.here hx (hb hby at_12) rfl rfl
  replace G := o_ifYes (q := 80) G X0.here hx (hb hby at_14) (by decide) (by decide) (by decide)
  replace G := o_iload (q := 82) G X0.here hx (hb hby at_80) rfl rfl
  replace G := o_iconst (q := 83) G X0.here hx (hb hby at_82) (v := (1 : Int32)) (by decide) rfl
  replace G := o_icmpYes (q := 149) G X0.here hx (hb hby at_83) (by decide) (by decide) (by decide)
  replace G := o_iload (q := 151) G X0.here hx (hb hby at_149) rfl rfl
  replace G := o_iconst (q := 152) G X0.here hx (hb hby at_151) (v := (2 : Int32)) (by decide) rfl
  replace G := o_icmpYes (q := 314) G X0.here hx (hb hby at_152) (by decide) (by decide) (by decide)
  replace G := o_aconst_null (q := 315) G X0.here hx (hb hby at_314) rfl
  obtain ⟨_, _, ⟨T179, L179, kk179, nn179⟩, -, X179, S179', g179', ⟨Lc179, hQ179, l179, y179, z179⟩, st179⟩ := callSS X0 hx (y := (⟨"com/example/assertgate/assertgate/saml/NameIdFormats", "isAccepted", "(Ljava/lang/String;)Z"⟩ : MethodName)) hown (mvT hZ (o_w hw 36 rfl)) (mvT hZ (o_w hw 37 rfl)) (mvT hZ (o_w hw 38 rfl)) (mvT hZ (o_w hw 39 rfl)) (by decide) (o_backW (V := fun vm => CHv Z o_EL vm h0) (W := 0) (rm8z l Z a0 hw []  h0 n0 Z0 P0) hZ (o_w hw 39 rfl) (o_w hw 38 rfl) (by decide) (by decide)) (g := o_g G) rfl (by rw [hml]; rfl) (argsL := [.null]) (rest := []) (lenOf pd_14 rfl) rfl (by show 2 * 0 + _ ≤ _; exact Nat.le_of_eq rfl) (hb hby at_315) (fun _ hvm => ⟨rfl, e0, (by decide : 0 + 4 ≤ _), (by decide : 0 + 432 ≤ _), o_chw (s := s) hZ (o_EW hw) hV hvm⟩)
  dsimp only [Pt.U, Pt.locs, Pt.cells, Pt.slots] at X179 l179 y179 z179 st179 hQ179 S179' g179'
  subst l179 y179 z179
  have S179 := S179'
  have hZ179 : Z.Warmed39 (s.setVm T179.vm).vm := State.Warmed39.trans hZ S179.1
  have hown179 := (S179.1.alike.findClass _ _).trans hown
  obtain ⟨rfl, N179q, K179q, hL179⟩ := hQ179
  have Z179 : n0 ≤ T179.heap.size := Nat.le_trans Z0 K179q.1
  have N179 := Fr.app N0 N179q
  replace G := o_nxv (q := 318) (st := [(.int 0)]) G st179 rfl
  replace G := o_ifNo (q := 321) G X179.here hx (hb hby at_318) (by decide) rfl
  obtain ⟨b181, T181, h181, k1181, v181, kv181, X181, e181, E181, S181, hk181, hZ181, hown181, A181, C181, V181, R181, -, -, J181, -, SS181, st181⟩ := ldcCH (s := s) (vm0 := T179.vm) (EL := o_EL) X179 hx hZ179 hown179 (o_w hw 76 rfl) (fun d hd => hw d (o_strs d hd)) rfl S179 (Nat.le_refl _) (o_EW hw) (by decide) hL179 (vs := [(.int 117), (.int 114), (.int 110), (.int 58), (.int 111), (.int 97), (.int 115), (.int 105), (.int 115), (.int 58), (.int 110), (.int 97), (.int 109), (.int 101), (.int 115), (.int 58), (.int 116), (.int 99), (.int 58), (.int 83), (.int 65), (.int 77), (.int 76), (.int 58), (.int 50), (.int 46), (.int 48), (.int 58), (.int 110), (.int 97), (.int 109), (.int 101), (.int 105), (.int 100), (.int 45), (.int 102), (.int 111), (.int 114), (.int 109), (.int 97), (.int 116), (.int 58), (.int 112), (.int 101), (.int 114), (.int 115), (.int 105), (.int 115), (.int 116), (.int 101), (.int 110), (.int 116), (.int 32), (.int 111), (.int 114), (.int 32), (.int 117), (.int 114), (.int 110), (.int 58), (.int 111), (.int 97), (.int 115), (.int 105), (.int 115), (.int 58), (.int 110), (.int 97), (.int 109), (.int 101), (.int 115), (.int 58), (.int 116), (.int 99), (.int 58), (.int 83), (.int 65), (.int 77), (.int 76), (.int 58), (.int 49), (.int 46), (.int 49), (.int 58), (.int 110), (.int 97), (.int 109), (.int 101), (.int 105), (.int 100), (.int 45), (.int 102), (.int 111), (.int 114), (.int 109), (.int 97), (.int 116), (.int 58), (.int 101), (.int 109), (.int 97), (.int 105), (.int 108), (.int 65), (.int 100), (.int 100), (.int 114), (.int 101), (.int 115), (.int 115)]) (z := (110 : Int32)) (by constructor <;> decide) (by decide) rfl (g := o_g G) rfl (hb hby at_321) (n := 440) (by decide) (by decide) (by decide) (by decide)
  have Z181 : n0 ≤ h181.size := Nat.le_trans Z179 E181.1
  replace G := o_nxs (q := 323) (st := [(.ref b181)]) G st181 rfl
  have F183 := ((P0.keep K179q all0).ext E181)
  obtain ⟨_, _, ⟨T182, L182, kk182, nn182⟩, -, X182, S182', g182', ⟨Lc182, hQ182, l182, y182, z182⟩, st182⟩ := callSS X181 hx (y := (⟨"com/example/assertgate/assertgate/saml/NameIdFormats", "isAccepted", "(Ljava/lang/String;)Z"⟩ : MethodName)) hown181 (mvT hZ181 (o_w hw 36 rfl)) (mvT hZ181 (o_w hw 37 rfl)) (mvT hZ181 (o_w hw 38 rfl)) (mvT hZ181 (o_w hw 39 rfl)) (by decide) (o_backW (V := fun vm => CHv Z o_EL vm h181) (W := 0) (rm8s l Z a0 hw [] b181 cw o_A (0 : Int32) (110 : Int32) [(.int 117), (.int 114), (.int 110), (.int 58), (.int 111), (.int 97), (.int 115), (.int 105), (.int 115), (.int 58), (.int 110), (.int 97), (.int 109), (.int 101), (.int 115), (.int 58), (.int 116), (.int 99), (.int 58), (.int 83), (.int 65), (.int 77), (.int 76), (.int 58), (.int 50), (.int 46), (.int 48), (.int 58), (.int 110), (.int 97), (.int 109), (.int 101), (.int 105), (.int 100), (.int 45), (.int 102), (.int 111), (.int 114), (.int 109), (.int 97), (.int 116), (.int 58), (.int 112), (.int 101), (.int 114), (.int 115), (.int 105), (.int 115), (.int 116), (.int 101), (.int 110), (.int 116), (.int 32), (.int 111), (.int 114), (.int 32), (.int 117), (.int 114), (.int 110), (.int 58), (.int 111), (.int 97), (.int 115), (.int 105), (.int 115), (.int 58), (.int 110), (.int 97), (.int 109), (.int 101), (.int 115), (.int 58), (.int 116), (.int 99), (.int 58), (.int 83), (.int 65), (.int 77), (.int 76), (.int 58), (.int 49), (.int 46), (.int 49), (.int 58), (.int 110), (.int 97), (.int 109), (.int 101), (.int 105), (.int 100), (.int 45), (.int 102), (.int 111), (.int 114), (.int 109), (.int 97), (.int 116), (.int 58), (.int 101), (.int 109), (.int 97), (.int 105), (.int 108), (.int 65), (.int 100), (.int 100), (.int 114), (.int 101), (.int 115), (.int 115)] v181 kv181 h181 n0 Z181 F183 P4 hcw A181 V181 C181 R181 o_codA o_bdA (by decide)) hZ181 (o_w hw 39 rfl) (o_w hw 38 rfl) (by decide) (by decide)) (g := o_g G) rfl (by rw [hml]; rfl) (argsL := [(.ref b181)]) (rest := []) (lenOf pd_14 rfl) rfl (by show 2 * 0 + _ ≤ _; exact Nat.le_of_eq rfl) (hb hby at_323) (fun _ hvm => ⟨rfl, e181, (by decide : 6 + 4 ≤ _), (by decide : 876 + 432 ≤ _), o_chw (s := s) hZ181 (o_EW hw) J181.1 hvm⟩)
  dsimp only [Pt.U, Pt.locs, Pt.cells, Pt.slots] at X182 l182 y182 z182 st182 hQ182 S182' g182'
  subst l182 y182 z182
  obtain ⟨X182, S182, hZ182, hown182⟩ := rebS S181 (by rw [e181]; exact hk181) X182 S182' g182' hZ181 hown181
  obtain ⟨rfl, N182q, K182q, hL182⟩ := hQ182
  have Z182 : n0 ≤ T182.heap.size := Nat.le_trans Z181 K182q.1
  have N182 := Fr.app N179 N182q
  replace G := o_nxv (q := 326) (st := [(.int (o_acc o_A))]) G st182 rfl
  have hc326_184 : (o_acc o_A) = (0 : Int32) := o_acA
  replace G := o_ifNo (q := 329) G X182.here hx (hb hby at_326) ((if0 _ _).trans (teq hc326_184).2) rfl
  obtain ⟨b185, T185, h185, k1185, v185, kv185, X185, e185, E185, S185, hk185, hZ185, hown185, A185, C185, V185, R185, -, -, J185, -, SS185, st185⟩ := ldcCH (s := s) (vm0 := T182.vm) (EL := o_EL) X182 hx hZ182 hown182 (o_w hw 54 rfl) (fun d hd => hw d (o_strs d hd)) rfl S182 (Nat.le_refl _) (o_EW hw) (by decide) hL182 (vs := [(.int 117), (.int 114), (.int 110), (.int 58), (.int 111), (.int 97), (.int 115), (.int 105), (.int 115), (.int 58), (.int 110), (.int 97), (.int 109), (.int 101), (.int 115), (.int 58), (.int 116), (.int 99), (.int 58), (.int 83), (.int 65), (.int 77), (.int 76), (.int 58), (.int 50), (.int 46), (.int 48), (.int 58), (.int 110), (.int 97), (.int 109), (.int 101), (.int 105), (.int 100), (.int 45), (.int 102), (.int 111), (.int 114), (.int 109), (.int 97), (.int 116), (.int 58), (.int 112), (.int 101), (.int 114), (.int 115), (.int 105), (.int 115), (.int 116), (.int 101), (.int 110), (.int 116)]) (z := (52 : Int32)) (by constructor <;> decide) (by decide) rfl (g := o_g G) rfl (hb hby at_329) (n := 208) (by decide) (by decide) (by decide) (by decide)
  have Z185 : n0 ≤ h185.size := Nat.le_trans Z182 E185.1
  replace G := o_nxs (q := 331) (st := [(.ref b185)]) G st185 rfl
  have F187 := ((F183.keep K182q all0).ext E185)
  obtain ⟨_, _, ⟨T186, L186, kk186, nn186⟩, -, X186, S186', g186', ⟨Lc186, hQ186, l186, y186, z186⟩, st186⟩ := callSS X185 hx (y := (⟨"com/example/assertgate/assertgate/saml/NameIdFormats", "isAccepted", "(Ljava/lang/String;)Z"⟩ : MethodName)) hown185 (mvT hZ185 (o_w hw 36 rfl)) (mvT hZ185 (o_w hw 37 rfl)) (mvT hZ185 (o_w hw 38 rfl)) (mvT hZ185 (o_w hw 39 rfl)) (by decide) (o_backW (V := fun vm => CHv Z o_EL vm h185) (W := 0) (rm8s l Z a0 hw [] b185 cw o_P (0 : Int32) (52 : Int32) [(.int 117), (.int 114), (.int 110), (.int 58), (.int 111), (.int 97), (.int 115), (.int 105), (.int 115), (.int 58), (.int 110), (.int 97), (.int 109), (.int 101), (.int 115), (.int 58), (.int 116), (.int 99), (.int 58), (.int 83), (.int 65), (.int 77), (.int 76), (.int 58), (.int 50), (.int 46), (.int 48), (.int 58), (.int 110), (.int 97), (.int 109), (.int 101), (.int 105), (.int 100), (.int 45), (.int 102), (.int 111), (.int 114), (.int 109), (.int 97), (.int 116), (.int 58), (.int 112), (.int 101), (.int 114), (.int 115), (.int 105), (.int 115), (.int 116), (.int 101), (.int 110), (.int 116)] v185 kv185 h185 n0 Z185 F187 P4 hcw A185 V185 C185 R185 o_codP o_bdP (by decide)) hZ185 (o_w hw 39 rfl) (o_w hw 38 rfl) (by decide) (by decide)) (g := o_g G) rfl (by rw [hml]; rfl) (argsL := [(.ref b185)]) (rest := []) (lenOf pd_14 rfl) rfl (by show 2 * 0 + _ ≤ _; exact Nat.le_of_eq rfl) (hb hby at_331) (fun _ hvm => ⟨rfl, e185, (by decide : 12 + 4 ≤ _), (by decide : 1520 + 432 ≤ _), o_chw (s := s) hZ185 (o_EW hw) J185.1 hvm⟩)
  dsimp only [Pt.U, Pt.locs, Pt.cells, Pt.slots] at X186 l186 y186 z186 st186 hQ186 S186' g186'
  subst l186 y186 z186
  obtain ⟨X186, S186, hZ186, hown186⟩ := rebS S185 (by rw [e185]; exact hk185) X186 S186' g186' hZ185 hown185
  obtain ⟨rfl, N186q, K186q, hL186⟩ := hQ186
  have Z186 : n0 ≤ T186.heap.size := Nat.le_trans Z185 K186q.1
  have N186 := Fr.app N182 N186q
  replace G := o_nxv (q := 334) (st := [(.int (o_acc o_P))]) G st186 rfl
  have hc334_188 : ¬ ((o_acc o_P) = (0 : Int32)) := o_nzP
  replace G := o_ifNo (q := 337) G X186.here hx (hb hby at_334) ((if0 _ _).trans (feq hc334_188).1) rfl
  obtain ⟨b189, T189, h189, k1189, v189, kv189, X189, e189, E189, S189, hk189, hZ189, hown189, A189, C189, V189, R189, -, -, J189, -, SS189, st189⟩ := ldcCH (s := s) (vm0 := T186.vm) (EL := o_EL) X186 hx hZ186 hown186 (o_w hw 77 rfl) (fun d hd => hw d (o_strs d hd)) rfl S186 (Nat.le_refl _) (o_EW hw) (by decide) hL186 (vs := [(.int 117), (.int 114), (.int 110), (.int 58), (.int 111), (.int 97), (.int 115), (.int 105), (.int 115), (.int 58), (.int 110), (.int 97), (.int 109), (.int 101), (.int 115), (.int 58), (.int 116), (.int 99), (.int 58), (.int 83), (.int 65), (.int 77), (.int 76), (.int 58), (.int 49), (.int 46), (.int 49), (.int 58), (.int 110), (.int 97), (.int 109), (.int 101), (.int 105), (.int 100), (.int 45), (.int 102), (.int 111), (.int 114), (.int 109), (.int 97), (.int 116), (.int 58), (.int 101), (.int 109), (.int 97), (.int 105), (.int 108), (.int 65), (.int 100), (.int 100), (.int 114), (.int 101), (.int 115), (.int 115)]) (z := (54 : Int32)) (by constructor <;> decide) (by decide) rfl (g := o_g G) rfl (hb hby at_337) (n := 216) (by decide) (by decide) (by decide) (by decide)
  have Z189 : n0 ≤ h189.size := Nat.le_trans Z186 E189.1
  replace G := o_nxs (q := 339) (st := [(.ref b189)]) G st189 rfl
  have F191 := ((F187.keep K186q all0).ext E189)
  obtain ⟨_, _, ⟨T190, L190, kk190, nn190⟩, -, X190, S190', g190', ⟨Lc190, hQ190, l190, y190, z190⟩, st190⟩ := callSS X189 hx (y := (⟨"com/example/assertgate/assertgate/saml/NameIdFormats", "isAccepted", "(Ljava/lang/String;)Z"⟩ : MethodName)) hown189 (mvT hZ189 (o_w hw 36 rfl)) (mvT hZ189 (o_w hw 37 rfl)) (mvT hZ189 (o_w hw 38 rfl)) (mvT hZ189 (o_w hw 39 rfl)) (by decide) (o_backW (V := fun vm => CHv Z o_EL vm h189) (W := 0) (rm8s l Z a0 hw [] b189 cw o_E (0 : Int32) (54 : Int32) [(.int 117), (.int 114), (.int 110), (.int 58), (.int 111), (.int 97), (.int 115), (.int 105), (.int 115), (.int 58), (.int 110), (.int 97), (.int 109), (.int 101), (.int 115), (.int 58), (.int 116), (.int 99), (.int 58), (.int 83), (.int 65), (.int 77), (.int 76), (.int 58), (.int 49), (.int 46), (.int 49), (.int 58), (.int 110), (.int 97), (.int 109), (.int 101), (.int 105), (.int 100), (.int 45), (.int 102), (.int 111), (.int 114), (.int 109), (.int 97), (.int 116), (.int 58), (.int 101), (.int 109), (.int 97), (.int 105), (.int 108), (.int 65), (.int 100), (.int 100), (.int 114), (.int 101), (.int 115), (.int 115)] v189 kv189 h189 n0 Z189 F191 P4 hcw A189 V189 C189 R189 o_codE o_bdE (by decide)) hZ189 (o_w hw 39 rfl) (o_w hw 38 rfl) (by decide) (by decide)) (g := o_g G) rfl (by rw [hml]; rfl) (argsL := [(.ref b189)]) (rest := []) (lenOf pd_14 rfl) rfl (by show 2 * 0 + _ ≤ _; exact Nat.le_of_eq rfl) (hb hby at_339) (fun _ hvm => ⟨rfl, e189, (by decide : 18 + 4 ≤ _), (by decide : 2172 + 432 ≤ _), o_chw (s := s) hZ189 (o_EW hw) J189.1 hvm⟩)
  dsimp only [Pt.U, Pt.locs, Pt.cells, Pt.slots] at X190 l190 y190 z190 st190 hQ190 S190' g190'
  subst l190 y190 z190
  obtain ⟨X190, S190, hZ190, hown190⟩ := rebS S189 (by rw [e189]; exact hk189) X190 S190' g190' hZ189 hown189
  obtain ⟨rfl, N190q, K190q, hL190⟩ := hQ190
  have Z190 : n0 ≤ T190.heap.size := Nat.le_trans Z189 K190q.1
  have N190 := Fr.app N186 N190q
  replace G := o_nxv (q := 342) (st := [(.int (o_acc o_E))]) G st190 rfl
  have hc342_192 : ¬ ((o_acc o_E) = (0 : Int32)) := o_nzE
  replace G := o_ifNo (q := 345) G X190.here hx (hb hby at_342) ((if0 _ _).trans (feq hc342_192).1) rfl
  replace G := o_iconst (q := 346) G X190.here hx (hb hby at_345) (v := (1 : Int32)) (by decide) rfl
  replace G := o_goto (q := 350) G X190.here hx (hb hby at_346) (by decide) (by decide)
  obtain ⟨fs, hr, hrun, hended, -, hW, hBk, hsame⟩ := X190.leaveW S190 (Nat.le_refl _) (v := some (.int 1)) (fun h => by rw [Bd.returns] at h; cases h)
  refine ⟨_, _, G _ (retOut X190 hx Bd.returns rfl (Or.inl ⟨rfl, Or.inr (Or.inl rfl), _, rfl⟩) (hb hby at_350) hr), hrun, hended, _, _, rfl, ?_, ⟨_, rfl⟩, hW, hBk, hsame.mono (by decide) (by decide)⟩
  show Q0 Z i0 i1 i2 i3 i4 cw fm h0 n0 _ T190.heap _
  exact ⟨rfl, N190⟩
set_option maxRecDepth 65536 in
set_option maxHeartbeats 40000000 in
theorem comes_1 {Post : Tables → Env → Array Value → State → Outcome → State → Prop} (hpost : ∀ tb e args s v u, (limb_1_1.after args s (.returned v) u = true ∧ limb_1_2.after args s (.returned v) u = true ∧ True) → ReturnedEndW s (.returned v) u (Jvm.fieldLocs frame_1_writes args s ++ Jvm.arrayLocs frame_1_arrays args s ++ Jvm.staticLocs frame_1_statics s) 32 6720 → Post tb e args s (.returned v) u) :
    ArmFor flags0 classFile x code maxLocals ret World_1 tables_1 room_1 Calls_1 rest_1 Pre_1 Post := by
  intro l hfl _ _ p e ha hc hk s m args below hf hA hF happ hP
  obtain ⟨hcalls, hrest, hpre⟩ := hP
  obtain ⟨-, -, -, hnamed, -, -, -, hat⟩ := (Spec.applies_iff hf).mp happ
  obtain ⟨hg, hn⟩ := and_e (Cond.before_iff.mp (show (Jvm.Cond.and given_1 narrow_1).before args s = true from hpre))
  obtain ⟨g1, g2⟩ := and_e hg
  obtain ⟨g3, g4⟩ := and_e g2
  obtain ⟨g5, g6⟩ := and_e g4
  obtain ⟨g7, g8⟩ := and_e g6
  obtain ⟨g9, g10⟩ := and_e g8
  obtain ⟨w0, w1, w2, w3, w4, rfl⟩ : ∃ w0 w1 w2 w3 w4 : Value, args = #[w0, w1, w2, w3, w4] := by
    have hs : args.size = 5 := by simpa [Cond.value, given_1] using g1
    obtain ⟨L⟩ := args
    match L, hs with
    | [w0, w1, w2, w3, w4], _ => exact ⟨w0, w1, w2, w3, w4, rfl⟩
  have hw := fun d (hd : d ∈ tables_1) => atoms_spec (ws := Jvm.Cond.code x code maxLocals ret :: tables_1) hat d (List.mem_cons_of_mem _ hd)
  have hfit : Fit s := fun {y c} hc i hi => by
    obtain ⟨ha, rfl⟩ := Array.getElem?_eq_some_iff.mp hc
    have q := List.all_eq_true.mp ((Array.all_eq_true_iff_forall_mem.mp hF) _ (Array.getElem_mem ha)) i (List.mem_range.mpr hi)
    simpa [Array.getElem?_eq_getElem hi] using q
  obtain ⟨hsets, hown0⟩ := atoms_of _ (rest_1_c_eq ▸ (show rest_1_c.before _ s = true from hrest))
  have hr0 := Cond.before_iff.mp hown0
  obtain ⟨i0, ei0⟩ := is_v g3
  obtain rfl : w0 = (.int i0) := Option.some.inj ei0
  obtain ⟨i1, ei1⟩ := is_v g5
  obtain rfl : w1 = (.int i1) := Option.some.inj ei1
  obtain ⟨i2, ei2⟩ := is_v g7
  obtain rfl : w2 = (.int i2) := Option.some.inj ei2
  obtain ⟨i3, ei3⟩ := is_v g9
  obtain rfl : w3 = (.int i3) := Option.some.inj ei3
  obtain ⟨i4, ei4⟩ := is_v g10
  obtain rfl : w4 = (.int i4) := Option.some.inj ei4
  have nc := not_v (Cond.before_iff.mp (hsets _ (List.mem_of_getElem? (i := 2) rfl)))
  obtain ⟨cw, ecw⟩ := is_v (Cond.before_iff.mp (hsets _ (List.mem_of_getElem? (i := 1) rfl)))
  have Scw : Sta s s.heap o_n0 "COMPACT_STRINGS" "Z" (.int cw) := Sta.start ecw (Or.inl (hsets _ (List.mem_of_getElem? (i := 0) rfl)))
  have hcw : ¬ (cw = (0 : Int32)) := gotF (Cond.eq_ints ecw (Term.int_eval (0))) nc
  have S_assertionsDisabled : Sta s s.heap "java/lang/StringUTF16" "$assertionsDisabled" "Z" (.int 1) := Sta.start (o_eqs (Cond.before_iff.mp (hsets _ (List.mem_of_getElem? (i := 12) rfl)))) (Or.inl (hsets _ (List.mem_of_getElem? (i := 11) rfl)))
  have S_HI_BYTE_SHIFT : Sta s s.heap "java/lang/StringUTF16" "HI_BYTE_SHIFT" "I" (.int 0) := Sta.start (o_eqs (Cond.before_iff.mp (hsets _ (List.mem_of_getElem? (i := 15) rfl)))) (Or.inl (hsets _ (List.mem_of_getElem? (i := 14) rfl)))
  have S_LO_BYTE_SHIFT : Sta s s.heap "java/lang/StringUTF16" "LO_BYTE_SHIFT" "I" (.int 8) := Sta.start (o_eqs (Cond.before_iff.mp (hsets _ (List.mem_of_getElem? (i := 18) rfl)))) (Or.inl (hsets _ (List.mem_of_getElem? (i := 17) rfl)))
  obtain ⟨fm, efm, hfm⟩ := isR_v (Cond.before_iff.mp (hsets _ (List.mem_of_getElem? (i := 8) rfl)))
  have Sfm : Sta s s.heap "jdk/internal/util/Preconditions" "SIOOBE_FORMATTER" "Ljava/util/function/BiFunction;" fm := Sta.start efm (Or.inl (hsets _ (List.mem_of_getElem? (i := 7) rfl)))
  have hcb : Jvm.Lit.compactW.before _ s = true := hsets _ (List.mem_of_getElem? (i := 2) rfl)
  have hCH : CHv s o_EL s.vm s.heap := CHv.start (o_EW hw) hcalls.1 hcb (o_w hw 25 rfl) (o_w hw 8 rfl)
  obtain ⟨n, o, h1, h2, h3, _, L, rfl, ⟨rfl, N⟩, hq⟩ := rm0 l s _ hw tables_1 i0 i1 i2 i3 i4 cw fm s.heap s.heap.size (Nat.le_refl _) (Old.start s) S_assertionsDisabled S_HI_BYTE_SHIFT S_LO_BYTE_SHIFT Scw hcw Sfm hfm p e ha hc hk s m _ below hf ((Spec.applies_iff_loose hf).mp happ).1 ⟨rfl, State.Warmed39.refl s, rfl, hCH⟩ trivial
  refine ⟨n, _, h1, h2, h3, hpost _ _ _ _ _ _ ⟨Cond.after_iff.mpr rfl, Cond.after_iff.mpr (eq_i res_at (Term.int_eval (1)) rfl), trivial⟩ ⟨hq.1, hq.2.1, hq.2.2.1, (hq.2.2.2.sift fun y hy => Or.inr (N y hy)).mono (by decide) (by decide)⟩⟩
theorem main_1_1 : Claimed_1_1 := comes_1 fun _ _ _ _ _ _ h hF => ⟨h.1, hF⟩
theorem main_1_2 : Claimed_1_2 := comes_1 fun _ _ _ _ _ _ h hF => ⟨h.2.1, hF⟩
end Jvm.Pilot.@@N@@
namespace Jvm.Pilot.@@N@@
open Jvm Jvm.ClassFile Sem Op Lib Jvm.Free Jvm.Stand Jvm.Pilot.@@N@@.Jvm.D
/-! MADE BY PROGRAM (witnessworld.py) out of the Statement's table words and the real class files: 20 classes; the members and pool entries that the words name. The judged class is class 1, her method 3. -/
namespace start1
open Jvm.ClassFile
def u (s : String) : CpInfo := .utf8 (stringToUtf16 s)
/-- a pool by its gaps: so many unusable entries, then the entry; so many at the end -/
def gap : Nat → List CpInfo → List CpInfo
  | 0, r => r
  | n + 1, r => .unusable :: gap n r
def poolList (es : List (Nat × CpInfo)) (last : Nat) : List CpInfo := es.foldr (fun e r => gap e.1 (e.2 :: r)) (gap last [])
def pool (es : List (Nat × CpInfo)) (last : Nat) : Array CpInfo := ⟨poolList es last⟩
def fileOf (pool : Array CpInfo) (this : Nat) (attrs : Array Attribute := #[]) (ms : Array MethodInfo := #[]) (fl : Nat := 33) (sup : Nat := 0) (ifs : Array Nat := #[]) (fds : Array FieldInfo := #[]) : ClassFile where
  minorVersion := 0
  majorVersion := 65
  constantPool := pool
  accessFlags := fl
  thisClass := this
  superClass := sup
  interfaces := ifs
  fields := fds
  methods := ms
  attributes := attrs
def plain (name : String) (sup : Option ClassId) : Class where
  name := name
  kind := .ordinary
  loader := none
  accessFlags := 33
  super := sup
  interfaces := #[]
  cf := none
  fields := #[]
  methods := #[]
  instanceTypes := #[]
  staticTypes := #[]
  resolved := #[]
  callSites := []
  init := .initialized
  statics := none
  mirror := none

def pool0 : Array CpInfo := pool [(5, u "<init>"), (0, u "()V"), (1, .class_ 10), (1, u "java/lang/Object")] 113

def k0c0 : Code := { maxStack := 0, maxLocals := 1, code := object_method_1_code, exceptionTable := #[], attributes := #[] }
def k0m0 : Method := { name := "<init>", desc := "()V", sig := { parameters := [], returnType := none }, accessFlags := 1, code := some k0c0 }
/-- java/lang/Object -/
def k0 : Class := { plain "java/lang/Object" none with
  accessFlags := 33
  interfaces := #[]
  cf := some (fileOf pool0 8 #[] #[{ accessFlags := 1, nameIndex := 5, descriptorIndex := 6, attributes := #[] }] 33 0 #[] #[])
  fields := #[]
  methods := #[k0m0]
  instanceTypes := #[]
  staticTypes := #[]
  resolved := Array.replicate 124 none
  statics := none }

def pool1 : Array CpInfo := pool [(2, .class_ 4), (1, u "java/lang/Object"), (0, u "<init>"), (0, u "()V"), (0, .integer 65535), (0, .methodref 9 10), (0, .class_ 11), (0, .nameAndType 12 13), (0, u "com/example/assertgate/assertgate/saml/NameIdFormatsIsAcceptedPinLaw"), (0, u "persistentChars"), (0, u "()[C"), (0, .integer 2147483647), (0, .class_ 16), (0, u "java/lang/String"), (0, .methodref 15 18), (0, .nameAndType 5 19), (0, u "([C)V"), (0, .methodref 21 22), (0, .class_ 23), (0, .nameAndType 24 25), (0, u "com/example/assertgate/assertgate/saml/NameIdFormats"), (0, u "isAccepted"), (0, u "(Ljava/lang/String;)Z"), (0, .string 27), (0, u "urn:oasis:names:tc:SAML:2.0:nameid-format:persistent"), (0, .methodref 15 29), (0, .nameAndType 30 31), (0, u "charAt"), (0, u "(I)C"), (0, .methodref 9 33), (0, .nameAndType 34 13), (0, u "emailChars"), (0, .string 36), (0, u "urn:oasis:names:tc:SAML:1.1:nameid-format:emailAddress"), (0, .methodref 15 38), (0, .nameAndType 39 40), (0, u "valueOf"), (0, u "(C)Ljava/lang/String;"), (0, .string 42), (0, u "urn:oasis:names:tc:SAML:2.0:nameid-format:persistent or urn:oasis:names:tc:SAML:1.1:nameid-format:emailAddress"), (2, u "law"), (0, u "(IIIII)Z")] 5

def k1m0 : Method := { name := "<init>", desc := "()V", sig := { parameters := [], returnType := none }, accessFlags := 2, code := none }
def k1c1 : Code := { maxStack := 4, maxLocals := 0, code := method_2_code, exceptionTable := #[], attributes := #[] }
def k1m1 : Method := { name := "persistentChars", desc := "()[C", sig := { parameters := [], returnType := some (.array .char) }, accessFlags := 10, code := some k1c1 }
def k1c2 : Code := { maxStack := 4, maxLocals := 0, code := method_3_code, exceptionTable := #[], attributes := #[] }
def k1m2 : Method := { name := "emailChars", desc := "()[C", sig := { parameters := [], returnType := some (.array .char) }, accessFlags := 10, code := some k1c2 }
def k1c3 : Code := { maxStack := 4, maxLocals := 13, code := code, exceptionTable := #[], attributes := #[] }
def k1m3 : Method := { name := "law", desc := "(IIIII)Z", sig := { parameters := [.int, .int, .int, .int, .int], returnType := some .boolean }, accessFlags := 9, code := some k1c3 }
/-- com/example/assertgate/assertgate/saml/NameIdFormatsIsAcceptedPinLaw -/
def k1 : Class := { plain "com/example/assertgate/assertgate/saml/NameIdFormatsIsAcceptedPinLaw" (some 0) with
  accessFlags := 49
  interfaces := #[]
  cf := some (fileOf pool1 9 #[] #[{ accessFlags := 2, nameIndex := 5, descriptorIndex := 6, attributes := #[] }, { accessFlags := 10, nameIndex := 12, descriptorIndex := 13, attributes := #[] }, { accessFlags := 10, nameIndex := 34, descriptorIndex := 13, attributes := #[] }, { accessFlags := 9, nameIndex := 45, descriptorIndex := 46, attributes := #[] }] 49 2 #[] #[])
  fields := #[]
  methods := #[k1m0, k1m1, k1m2, k1m3]
  instanceTypes := #[]
  staticTypes := #[]
  resolved := Array.replicate 52 none
  statics := none }

def pool2 : Array CpInfo := pool [(1, .class_ 2), (0, u "java/io/Serializable"), (0, .class_ 4), (0, u "java/lang/Object")] 2

/-- java/io/Serializable -/
def k2 : Class := { plain "java/io/Serializable" (some 0) with
  accessFlags := 1537
  interfaces := #[]
  cf := some (fileOf pool2 1 #[] #[] 1537 3 #[] #[])
  fields := #[]
  methods := #[]
  instanceTypes := #[]
  staticTypes := #[]
  resolved := Array.replicate 7 none
  statics := none }

def pool3 : Array CpInfo := pool [(1, .class_ 2), (0, u "java/lang/Comparable"), (0, .class_ 4), (0, u "java/lang/Object")] 7

/-- java/lang/Comparable -/
def k3 : Class := { plain "java/lang/Comparable" (some 0) with
  accessFlags := 1537
  interfaces := #[]
  cf := some (fileOf pool3 1 #[] #[] 1537 3 #[] #[])
  fields := #[]
  methods := #[]
  instanceTypes := #[]
  staticTypes := #[]
  resolved := Array.replicate 12 none
  statics := none }

def pool4 : Array CpInfo := pool [(2, .class_ 4), (1, u "java/lang/CharSequence"), (42, .class_ 48), (0, u "java/lang/CharSequence$1CodePointIterator"), (10, .class_ 60), (0, u "java/lang/CharSequence$1CharIterator"), (5, .class_ 67), (0, u "java/lang/Object")] 63

/-- java/lang/CharSequence -/
def k4 : Class := { plain "java/lang/CharSequence" (some 0) with
  accessFlags := 1537
  interfaces := #[]
  cf := some (fileOf pool4 2 #[.nestMembers #[47, 59]] #[] 1537 66 #[] #[])
  fields := #[]
  methods := #[]
  instanceTypes := #[]
  staticTypes := #[]
  resolved := Array.replicate 131 none
  statics := none }

def pool5 : Array CpInfo := pool [(1, .class_ 2), (0, u "java/lang/constant/Constable"), (0, .class_ 4), (0, u "java/lang/Object")] 6

/-- java/lang/constant/Constable -/
def k5 : Class := { plain "java/lang/constant/Constable" (some 0) with
  accessFlags := 1537
  interfaces := #[]
  cf := some (fileOf pool5 1 #[] #[] 1537 3 #[] #[])
  fields := #[]
  methods := #[]
  instanceTypes := #[]
  staticTypes := #[]
  resolved := Array.replicate 11 none
  statics := none }

def pool6 : Array CpInfo := pool [(1, .class_ 2), (0, u "java/lang/constant/ConstantDesc"), (0, .class_ 4), (0, u "java/lang/Object")] 32

/-- java/lang/constant/ConstantDesc -/
def k6 : Class := { plain "java/lang/constant/ConstantDesc" (some 0) with
  accessFlags := 1537
  interfaces := #[]
  cf := some (fileOf pool6 1 #[] #[] 1537 3 #[] #[])
  fields := #[]
  methods := #[]
  instanceTypes := #[]
  staticTypes := #[]
  resolved := Array.replicate 37 none
  statics := none }

def pool7 : Array CpInfo := pool [(1, .methodref 2 3), (0, .class_ 4), (0, .nameAndType 5 6), (0, u "java/lang/Object"), (0, u "<init>"), (0, u "()V"), (0, .string 8), (0, u ""), (0, .fieldref 10 11), (0, .class_ 12), (0, .nameAndType 13 14), (0, u "java/lang/String"), (0, u "value"), (0, u "[B"), (0, .fieldref 10 16), (0, .nameAndType 17 18), (0, u "coder"), (0, u "B"), (2, u "hash"), (0, u "I"), (2, u "hashIsZero"), (0, u "Z"), (0, .methodref 10 28), (0, .nameAndType 5 29), (0, u "([CIILjava/lang/Void;)V"), (8, .fieldref 10 39), (0, .nameAndType 40 26), (0, u "COMPACT_STRINGS"), (1, .class_ 44), (1, u "java/lang/StringUTF16"), (0, u "compress"), (1, .methodref 42 48), (0, .nameAndType 49 50), (0, u "coderFromArrayLen"), (0, u "([BI)B"), (2, u "toBytes"), (53, .class_ 109), (1, u "java/lang/StringLatin1"), (32, u "()Z"), (34, .methodref 42 178), (0, .nameAndType 45 179), (0, u "([CII)[B"), (29, .methodref 10 210), (0, .nameAndType 5 211), (0, u "([BB)V"), (151, u "([BI)C"), (5, u "(C)Z"), (21, u "(II)V"), (35, u "(I)C"), (64, .methodref 10 493), (0, .nameAndType 494 142), (0, u "isLatin1"), (0, .methodref 107 496), (0, .nameAndType 497 363), (0, u "charAt"), (3, u "checkIndex"), (39, .methodref 107 542), (0, .nameAndType 543 544), (0, u "equals"), (0, u "([B[B)Z"), (28, u "(Ljava/lang/Object;)Z"), (1, .class_ 576), (0, u "java/lang/CharSequence"), (22, u "CASE_INSENSITIVE_ORDER"), (0, u "Ljava/util/Comparator;"), (181, u "valueOf"), (0, u "(C)Ljava/lang/String;"), (226, u "([C)V"), (4, .methodref 107 1016), (0, .nameAndType 1017 369), (0, u "canEncode"), (0, .methodref 107 1019), (0, .nameAndType 53 1020), (0, u "(C)[B"), (32, .fieldref 1054 1055), (0, .class_ 1056), (0, .nameAndType 1057 1058), (0, u "jdk/internal/util/Preconditions"), (0, u "SIOOBE_FORMATTER"), (0, u "Ljava/util/function/BiFunction;"), (0, .methodref 1054 1060), (0, .nameAndType 501 1061), (0, u "(IILjava/util/function/BiFunction;)I"), (39, u "serialPersistentFields"), (0, u "[Ljava/io/ObjectStreamField;"), (0, .class_ 1104), (0, u "java/lang/String$CaseInsensitiveComparator"), (1, .class_ 1107), (0, u "java/io/Serializable"), (0, .class_ 1109), (0, u "java/lang/Comparable"), (0, .class_ 1111), (0, u "java/lang/constant/Constable"), (0, .class_ 1113), (0, u "java/lang/constant/ConstantDesc"), (2, u "serialVersionUID"), (0, u "J"), (3, u "REPL"), (0, u "C"), (2, u "LATIN1"), (1, u "UTF16")] 323

def k7m0 : Method := { name := "<init>", desc := "()V", sig := { parameters := [], returnType := none }, accessFlags := 1, code := none }
def k7c1 : Code := { maxStack := 5, maxLocals := 2, code := jdk_42_method_3_code, exceptionTable := #[], attributes := #[] }
def k7m1 : Method := { name := "<init>", desc := "([C)V", sig := { parameters := [(.array .char)], returnType := none }, accessFlags := 1, code := some k7c1 }
def k7c2 : Code := { maxStack := 2, maxLocals := 2, code := jdk_42_method_56_code, exceptionTable := #[], attributes := #[] }
def k7m2 : Method := { name := "charAt", desc := "(I)C", sig := { parameters := [.int], returnType := some .char }, accessFlags := 1, code := some k7c2 }
def k7c3 : Code := { maxStack := 2, maxLocals := 3, code := jdk_42_method_66_code, exceptionTable := #[], attributes := #[] }
def k7m3 : Method := { name := "equals", desc := "(Ljava/lang/Object;)Z", sig := { parameters := [(.object "java/lang/Object")], returnType := some .boolean }, accessFlags := 1, code := some k7c3 }
def k7c4 : Code := { maxStack := 4, maxLocals := 1, code := jdk_42_method_139_code, exceptionTable := #[], attributes := #[] }
def k7m4 : Method := { name := "valueOf", desc := "(C)Ljava/lang/String;", sig := { parameters := [.char], returnType := some (.object "java/lang/String") }, accessFlags := 9, code := some k7c4 }
def k7c5 : Code := { maxStack := 4, maxLocals := 6, code := jdk_42_method_149_code, exceptionTable := #[], attributes := #[] }
def k7m5 : Method := { name := "<init>", desc := "([CIILjava/lang/Void;)V", sig := { parameters := [(.array .char), .int, .int, (.object "java/lang/Void")], returnType := none }, accessFlags := 2, code := some k7c5 }
def k7c6 : Code := { maxStack := 2, maxLocals := 3, code := jdk_42_method_151_code, exceptionTable := #[], attributes := #[] }
def k7m6 : Method := { name := "<init>", desc := "([BB)V", sig := { parameters := [(.array .byte), .byte], returnType := none }, accessFlags := 0, code := some k7c6 }
def k7c7 : Code := { maxStack := 1, maxLocals := 1, code := jdk_42_method_154_code, exceptionTable := #[], attributes := #[] }
def k7m7 : Method := { name := "isLatin1", desc := "()Z", sig := { parameters := [], returnType := some .boolean }, accessFlags := 0, code := some k7c7 }
def k7c8 : Code := { maxStack := 3, maxLocals := 2, code := jdk_42_method_155_code, exceptionTable := #[], attributes := #[] }
def k7m8 : Method := { name := "checkIndex", desc := "(II)V", sig := { parameters := [.int, .int], returnType := none }, accessFlags := 8, code := some k7c8 }
/-- java/lang/String -/
def k7 : Class := { plain "java/lang/String" (some 0) with
  accessFlags := 49
  interfaces := #[2, 3, 4, 5, 6]
  cf := some (fileOf pool7 10 #[.nestMembers #[1103]] #[{ accessFlags := 1, nameIndex := 5, descriptorIndex := 6, attributes := #[] }, { accessFlags := 1, nameIndex := 5, descriptorIndex := 1010, attributes := #[] }, { accessFlags := 1, nameIndex := 497, descriptorIndex := 427, attributes := #[] }, { accessFlags := 1, nameIndex := 543, descriptorIndex := 573, attributes := #[] }, { accessFlags := 9, nameIndex := 782, descriptorIndex := 783, attributes := #[] }, { accessFlags := 2, nameIndex := 5, descriptorIndex := 29, attributes := #[] }, { accessFlags := 0, nameIndex := 5, descriptorIndex := 211, attributes := #[] }, { accessFlags := 0, nameIndex := 494, descriptorIndex := 142, attributes := #[] }, { accessFlags := 8, nameIndex := 501, descriptorIndex := 391, attributes := #[] }] 49 2 #[1106, 1108, 575, 1110, 1112] #[{ accessFlags := 18, nameIndex := 13, descriptorIndex := 14, attributes := #[] }, { accessFlags := 18, nameIndex := 17, descriptorIndex := 18, attributes := #[] }, { accessFlags := 2, nameIndex := 21, descriptorIndex := 22, attributes := #[] }, { accessFlags := 2, nameIndex := 25, descriptorIndex := 26, attributes := #[] }, { accessFlags := 26, nameIndex := 1116, descriptorIndex := 1117, attributes := #[] }, { accessFlags := 24, nameIndex := 40, descriptorIndex := 26, attributes := #[] }, { accessFlags := 26, nameIndex := 1101, descriptorIndex := 1102, attributes := #[] }, { accessFlags := 26, nameIndex := 1121, descriptorIndex := 1122, attributes := #[] }, { accessFlags := 25, nameIndex := 599, descriptorIndex := 600, attributes := #[] }, { accessFlags := 24, nameIndex := 1125, descriptorIndex := 18, attributes := #[] }, { accessFlags := 24, nameIndex := 1127, descriptorIndex := 18, attributes := #[] }])
  fields := #[{ name := "value", type := (.array .byte), accessFlags := 18, slot := 0, constantValue := 0 }, { name := "coder", type := .byte, accessFlags := 18, slot := 1, constantValue := 0 }, { name := "hash", type := .int, accessFlags := 2, slot := 2, constantValue := 0 }, { name := "hashIsZero", type := .boolean, accessFlags := 2, slot := 3, constantValue := 0 }, { name := "serialVersionUID", type := .long, accessFlags := 26, slot := 0, constantValue := 0 }, { name := "COMPACT_STRINGS", type := .boolean, accessFlags := 24, slot := 1, constantValue := 0 }, { name := "serialPersistentFields", type := (.array (.object "java/io/ObjectStreamField")), accessFlags := 26, slot := 2, constantValue := 0 }, { name := "REPL", type := .char, accessFlags := 26, slot := 3, constantValue := 0 }, { name := "CASE_INSENSITIVE_ORDER", type := (.object "java/util/Comparator"), accessFlags := 25, slot := 4, constantValue := 0 }, { name := "LATIN1", type := .byte, accessFlags := 24, slot := 5, constantValue := 0 }, { name := "UTF16", type := .byte, accessFlags := 24, slot := 6, constantValue := 0 }]
  methods := #[k7m0, k7m1, k7m2, k7m3, k7m4, k7m5, k7m6, k7m7, k7m8]
  instanceTypes := #[(.array .byte), .byte, .int, .boolean]
  staticTypes := #[.long, .boolean, (.array (.object "java/io/ObjectStreamField")), .char, (.object "java/util/Comparator"), .byte, .byte]
  resolved := Array.replicate 1451 none
  statics := some 0 }

def pool8 : Array CpInfo := pool [(6, .class_ 8), (1, u "java/lang/Object"), (0, u "<init>"), (0, u "()V"), (0, .methodref 12 13), (0, .class_ 14), (0, .nameAndType 15 16), (0, u "java/lang/StringUTF16"), (0, u "newBytesLength"), (0, u "(I)I"), (3, .integer 1073741823), (23, .fieldref 12 45), (0, .nameAndType 46 47), (0, u "$assertionsDisabled"), (0, u "Z"), (11, .fieldref 12 60), (0, .nameAndType 61 62), (0, u "HI_BYTE_SHIFT"), (0, u "I"), (0, .fieldref 12 64), (0, .nameAndType 65 62), (0, u "LO_BYTE_SHIFT"), (5, .methodref 12 72), (0, .nameAndType 73 74), (0, u "getChar"), (0, u "([BI)C"), (32, .methodref 12 108), (0, .nameAndType 109 110), (0, u "newBytesFor"), (0, u "(I)[B"), (0, .methodref 12 112), (0, .nameAndType 113 114), (0, u "putChar"), (0, u "([BII)V"), (0, .methodref 12 116), (0, .nameAndType 117 118), (0, u "compress"), (0, u "([CI[BII)I"), (0, .methodref 12 120), (0, .nameAndType 121 122), (0, u "toBytes"), (0, u "([CII)[B"), (138, u "coderFromArrayLen"), (0, u "([BI)B"), (106, .class_ 371), (1, u "java/lang/StringUTF16$LinesSpliterator"), (58, u "MAX_LENGTH"), (196, .class_ 628), (0, u "java/lang/StringUTF16$CodePointsSpliterator"), (0, .class_ 630), (0, u "java/lang/StringUTF16$CharsSpliterator")] 4

def k8m0 : Method := { name := "<init>", desc := "()V", sig := { parameters := [], returnType := none }, accessFlags := 0, code := none }
def k8c1 : Code := { maxStack := 1, maxLocals := 1, code := jdk_52_method_2_code, exceptionTable := #[], attributes := #[] }
def k8m1 : Method := { name := "newBytesFor", desc := "(I)[B", sig := { parameters := [.int], returnType := some (.array .byte) }, accessFlags := 9, code := some k8c1 }
def k8c2 : Code := { maxStack := 4, maxLocals := 1, code := jdk_52_method_3_code, exceptionTable := #[], attributes := #[] }
def k8m2 : Method := { name := "newBytesLength", desc := "(I)I", sig := { parameters := [.int], returnType := some .int }, accessFlags := 9, code := some k8c2 }
def k8c3 : Code := { maxStack := 4, maxLocals := 3, code := jdk_52_method_4_code, exceptionTable := #[], attributes := #[] }
def k8m3 : Method := { name := "putChar", desc := "([BII)V", sig := { parameters := [(.array .byte), .int, .int], returnType := none }, accessFlags := 8, code := some k8c3 }
def k8c4 : Code := { maxStack := 3, maxLocals := 2, code := jdk_52_method_5_code, exceptionTable := #[], attributes := #[] }
def k8m4 : Method := { name := "getChar", desc := "([BI)C", sig := { parameters := [(.array .byte), .int], returnType := some .char }, accessFlags := 8, code := some k8c4 }
def k8c5 : Code := { maxStack := 4, maxLocals := 5, code := jdk_52_method_14_code, exceptionTable := #[], attributes := #[] }
def k8m5 : Method := { name := "toBytes", desc := "([CII)[B", sig := { parameters := [(.array .char), .int, .int], returnType := some (.array .byte) }, accessFlags := 9, code := some k8c5 }
def k8c6 : Code := { maxStack := 2, maxLocals := 2, code := jdk_52_method_15_code, exceptionTable := #[], attributes := #[] }
def k8m6 : Method := { name := "coderFromArrayLen", desc := "([BI)B", sig := { parameters := [(.array .byte), .int], returnType := some .byte }, accessFlags := 8, code := some k8c6 }
def k8c7 : Code := { maxStack := 5, maxLocals := 6, code := jdk_52_method_16_code, exceptionTable := #[], attributes := #[] }
def k8m7 : Method := { name := "compress", desc := "([CII)[B", sig := { parameters := [(.array .char), .int, .int], returnType := some (.array .byte) }, accessFlags := 9, code := some k8c7 }
def k8c8 : Code := { maxStack := 3, maxLocals := 7, code := jdk_52_method_21_code, exceptionTable := #[], attributes := #[] }
def k8m8 : Method := { name := "compress", desc := "([CI[BII)I", sig := { parameters := [(.array .char), .int, (.array .byte), .int, .int], returnType := some .int }, accessFlags := 9, code := some k8c8 }
/-- java/lang/StringUTF16 -/
def k8 : Class := { plain "java/lang/StringUTF16" (some 0) with
  accessFlags := 48
  interfaces := #[]
  cf := some (fileOf pool8 12 #[.nestMembers #[627, 629, 369]] #[{ accessFlags := 0, nameIndex := 9, descriptorIndex := 10, attributes := #[] }, { accessFlags := 9, nameIndex := 109, descriptorIndex := 110, attributes := #[] }, { accessFlags := 9, nameIndex := 15, descriptorIndex := 16, attributes := #[] }, { accessFlags := 8, nameIndex := 113, descriptorIndex := 114, attributes := #[] }, { accessFlags := 8, nameIndex := 73, descriptorIndex := 74, attributes := #[] }, { accessFlags := 9, nameIndex := 121, descriptorIndex := 122, attributes := #[] }, { accessFlags := 8, nameIndex := 261, descriptorIndex := 262, attributes := #[] }, { accessFlags := 9, nameIndex := 117, descriptorIndex := 122, attributes := #[] }, { accessFlags := 9, nameIndex := 117, descriptorIndex := 118, attributes := #[] }] 48 6 #[] #[{ accessFlags := 26, nameIndex := 61, descriptorIndex := 62, attributes := #[] }, { accessFlags := 26, nameIndex := 65, descriptorIndex := 62, attributes := #[] }, { accessFlags := 24, nameIndex := 430, descriptorIndex := 62, attributes := #[] }, { accessFlags := 4120, nameIndex := 46, descriptorIndex := 47, attributes := #[] }])
  fields := #[{ name := "HI_BYTE_SHIFT", type := .int, accessFlags := 26, slot := 0, constantValue := 0 }, { name := "LO_BYTE_SHIFT", type := .int, accessFlags := 26, slot := 1, constantValue := 0 }, { name := "MAX_LENGTH", type := .int, accessFlags := 24, slot := 2, constantValue := 0 }, { name := "$assertionsDisabled", type := .boolean, accessFlags := 4120, slot := 3, constantValue := 0 }]
  methods := #[k8m0, k8m1, k8m2, k8m3, k8m4, k8m5, k8m6, k8m7, k8m8]
  instanceTypes := #[]
  staticTypes := #[.int, .int, .int, .boolean]
  resolved := Array.replicate 635 none
  statics := some 1 }

def pool9 : Array CpInfo := pool [(1, .class_ 2), (0, u "com/example/assertgate/assertgate/saml/NameIdFormats"), (1, .class_ 6), (1, u "java/lang/Object"), (0, u "<init>"), (0, u "()V"), (0, .string 10), (0, u "urn:oasis:names:tc:SAML:2.0:nameid-format:persistent"), (0, .methodref 12 13), (0, .class_ 14), (0, .nameAndType 15 16), (0, u "java/lang/String"), (0, u "equals"), (0, u "(Ljava/lang/Object;)Z"), (0, .string 18), (0, u "urn:oasis:names:tc:SAML:1.1:nameid-format:emailAddress"), (0, u "PERSISTENT"), (0, u "Ljava/lang/String;"), (1, u "EMAIL_ADDRESS"), (0, u "ACCEPTED"), (4, u "isAccepted"), (0, u "(Ljava/lang/String;)Z")] 3

def k9m0 : Method := { name := "<init>", desc := "()V", sig := { parameters := [], returnType := none }, accessFlags := 2, code := none }
def k9c1 : Code := { maxStack := 2, maxLocals := 1, code := prog_22_method_2_code, exceptionTable := #[], attributes := #[] }
def k9m1 : Method := { name := "isAccepted", desc := "(Ljava/lang/String;)Z", sig := { parameters := [(.object "java/lang/String")], returnType := some .boolean }, accessFlags := 9, code := some k9c1 }
/-- com/example/assertgate/assertgate/saml/NameIdFormats -/
def k9 : Class := { plain "com/example/assertgate/assertgate/saml/NameIdFormats" (some 0) with
  accessFlags := 49
  interfaces := #[]
  cf := some (fileOf pool9 1 #[] #[{ accessFlags := 2, nameIndex := 7, descriptorIndex := 8, attributes := #[] }, { accessFlags := 9, nameIndex := 28, descriptorIndex := 29, attributes := #[] }] 49 4 #[] #[{ accessFlags := 25, nameIndex := 19, descriptorIndex := 20, attributes := #[] }, { accessFlags := 25, nameIndex := 22, descriptorIndex := 20, attributes := #[] }, { accessFlags := 25, nameIndex := 23, descriptorIndex := 20, attributes := #[] }])
  fields := #[{ name := "PERSISTENT", type := (.object "java/lang/String"), accessFlags := 25, slot := 0, constantValue := 0 }, { name := "EMAIL_ADDRESS", type := (.object "java/lang/String"), accessFlags := 25, slot := 1, constantValue := 0 }, { name := "ACCEPTED", type := (.object "java/lang/String"), accessFlags := 25, slot := 2, constantValue := 0 }]
  methods := #[k9m0, k9m1]
  instanceTypes := #[]
  staticTypes := #[(.object "java/lang/String"), (.object "java/lang/String"), (.object "java/lang/String")]
  resolved := Array.replicate 33 none
  statics := none }

def pool10 : Array CpInfo := pool [(1, .class_ 2), (0, u "java/lang/String"), (1, .class_ 6), (1, u "java/lang/Object"), (0, u "<init>"), (0, u "()V"), (0, .methodref 1 10), (0, .nameAndType 11 12), (0, u "checkIndex"), (0, u "(II)V"), (1, .class_ 16), (1, u "java/lang/StringLatin1"), (36, u "([BI)C"), (36, u "canEncode"), (14, u "(C)Z"), (15, u "$assertionsDisabled"), (0, u "Z"), (98, .class_ 223), (1, u "java/lang/StringLatin1$LinesSpliterator"), (28, u "charAt"), (28, u "equals"), (0, u "([B[B)Z"), (97, u "toBytes"), (1, u "(C)[B"), (7, .class_ 391), (0, u "java/lang/StringLatin1$CharsSpliterator")] 3

def k10m0 : Method := { name := "<init>", desc := "()V", sig := { parameters := [], returnType := none }, accessFlags := 0, code := none }
def k10c1 : Code := { maxStack := 2, maxLocals := 2, code := jdk_43_method_2_code, exceptionTable := #[], attributes := #[] }
def k10m1 : Method := { name := "charAt", desc := "([BI)C", sig := { parameters := [(.array .byte), .int], returnType := some .char }, accessFlags := 9, code := some k10c1 }
def k10c2 : Code := { maxStack := 2, maxLocals := 1, code := jdk_43_method_3_code, exceptionTable := #[], attributes := #[] }
def k10m2 : Method := { name := "canEncode", desc := "(C)Z", sig := { parameters := [.char], returnType := some .boolean }, accessFlags := 9, code := some k10c2 }
def k10c3 : Code := { maxStack := 3, maxLocals := 3, code := jdk_43_method_13_code, exceptionTable := #[], attributes := #[] }
def k10m3 : Method := { name := "equals", desc := "([B[B)Z", sig := { parameters := [(.array .byte), (.array .byte)], returnType := some .boolean }, accessFlags := 9, code := some k10c3 }
def k10c4 : Code := { maxStack := 4, maxLocals := 1, code := jdk_43_method_46_code, exceptionTable := #[], attributes := #[] }
def k10m4 : Method := { name := "toBytes", desc := "(C)[B", sig := { parameters := [.char], returnType := some (.array .byte) }, accessFlags := 9, code := some k10c4 }
/-- java/lang/StringLatin1 -/
def k10 : Class := { plain "java/lang/StringLatin1" (some 0) with
  accessFlags := 48
  interfaces := #[]
  cf := some (fileOf pool10 14 #[.nestMembers #[390, 221]] #[{ accessFlags := 0, nameIndex := 7, descriptorIndex := 8, attributes := #[] }, { accessFlags := 9, nameIndex := 252, descriptorIndex := 53, attributes := #[] }, { accessFlags := 9, nameIndex := 90, descriptorIndex := 105, attributes := #[] }, { accessFlags := 9, nameIndex := 281, descriptorIndex := 282, attributes := #[] }, { accessFlags := 9, nameIndex := 380, descriptorIndex := 382, attributes := #[] }] 48 4 #[] #[{ accessFlags := 4120, nameIndex := 121, descriptorIndex := 122, attributes := #[] }])
  fields := #[{ name := "$assertionsDisabled", type := .boolean, accessFlags := 4120, slot := 0, constantValue := 0 }]
  methods := #[k10m0, k10m1, k10m2, k10m3, k10m4]
  instanceTypes := #[]
  staticTypes := #[.boolean]
  resolved := Array.replicate 395 none
  statics := none }

def pool11 : Array CpInfo := pool [(2, .class_ 4), (1, u "java/lang/Object"), (0, u "<init>"), (0, u "()V"), (17, .class_ 26), (1, u "jdk/internal/util/Preconditions"), (6, u "checkIndex"), (21, .class_ 56), (0, u "jdk/internal/util/Preconditions$4"), (57, .class_ 115), (0, u "jdk/internal/util/Preconditions$1"), (7, u "SIOOBE_FORMATTER"), (0, u "Ljava/util/function/BiFunction;"), (0, .class_ 126), (0, u "jdk/internal/util/Preconditions$2"), (3, u "AIOOBE_FORMATTER"), (0, .class_ 132), (0, u "jdk/internal/util/Preconditions$3"), (3, u "IOOBE_FORMATTER"), (41, u "(IILjava/util/function/BiFunction;)I")] 15

def k11m0 : Method := { name := "<init>", desc := "()V", sig := { parameters := [], returnType := none }, accessFlags := 1, code := none }
def k11c1 : Code := { maxStack := 3, maxLocals := 3, code := jdk_41_method_11_code, exceptionTable := #[], attributes := #[] }
def k11m1 : Method := { name := "checkIndex", desc := "(IILjava/util/function/BiFunction;)I", sig := { parameters := [.int, .int, (.object "java/util/function/BiFunction")], returnType := some .int }, accessFlags := 9, code := some k11c1 }
/-- jdk/internal/util/Preconditions -/
def k11 : Class := { plain "jdk/internal/util/Preconditions" (some 0) with
  accessFlags := 33
  interfaces := #[]
  cf := some (fileOf pool11 24 #[.nestMembers #[55, 131, 125, 114]] #[{ accessFlags := 1, nameIndex := 5, descriptorIndex := 6, attributes := #[] }, { accessFlags := 9, nameIndex := 33, descriptorIndex := 178, attributes := #[] }] 33 2 #[] #[{ accessFlags := 25, nameIndex := 123, descriptorIndex := 124, attributes := #[] }, { accessFlags := 25, nameIndex := 130, descriptorIndex := 124, attributes := #[] }, { accessFlags := 25, nameIndex := 136, descriptorIndex := 124, attributes := #[] }])
  fields := #[{ name := "SIOOBE_FORMATTER", type := (.object "java/util/function/BiFunction"), accessFlags := 25, slot := 0, constantValue := 0 }, { name := "AIOOBE_FORMATTER", type := (.object "java/util/function/BiFunction"), accessFlags := 25, slot := 1, constantValue := 0 }, { name := "IOOBE_FORMATTER", type := (.object "java/util/function/BiFunction"), accessFlags := 25, slot := 2, constantValue := 0 }]
  methods := #[k11m0, k11m1]
  instanceTypes := #[]
  staticTypes := #[(.object "java/util/function/BiFunction"), (.object "java/util/function/BiFunction"), (.object "java/util/function/BiFunction")]
  resolved := Array.replicate 194 none
  statics := some 2 }

def pool12 : Array CpInfo := pool [(9, u "<init>"), (6, .class_ 18), (1, u "java/lang/Object"), (0, u "()V"), (1, .class_ 23), (1, u "jdk/internal/util/ArraysSupport"), (0, u "LOG2_ARRAY_LONG_INDEX_SCALE"), (0, u "I"), (2, u "U"), (0, u "Ljdk/internal/misc/Unsafe;"), (8, u "BIG_ENDIAN"), (0, u "Z"), (8, u "LOG2_BYTE_BIT_SIZE"), (4, u "LOG2_ARRAY_INT_INDEX_SCALE"), (54, u "JLA"), (0, u "Ljdk/internal/access/JavaLangAccess;"), (11, u "LOG2_ARRAY_BOOLEAN_INDEX_SCALE"), (9, u "LOG2_ARRAY_BYTE_INDEX_SCALE"), (5, u "LOG2_ARRAY_CHAR_INDEX_SCALE"), (5, u "LOG2_ARRAY_SHORT_INDEX_SCALE"), (18, u "LOG2_ARRAY_FLOAT_INDEX_SCALE"), (24, u "LOG2_ARRAY_DOUBLE_INDEX_SCALE"), (89, u "T_BOOLEAN"), (2, u "T_CHAR"), (1, u "T_FLOAT"), (1, u "T_DOUBLE"), (1, u "T_BYTE"), (1, u "T_SHORT"), (1, u "T_INT"), (1, u "T_LONG"), (1, u "SOFT_MAX_ARRAY_LENGTH")] 83

def k12m0 : Method := { name := "<init>", desc := "()V", sig := { parameters := [], returnType := none }, accessFlags := 2, code := none }
/-- jdk/internal/util/ArraysSupport -/
def k12 : Class := { plain "jdk/internal/util/ArraysSupport" (some 0) with
  accessFlags := 33
  interfaces := #[]
  cf := some (fileOf pool12 21 #[] #[{ accessFlags := 2, nameIndex := 9, descriptorIndex := 19, attributes := #[] }] 33 16 #[] #[{ accessFlags := 24, nameIndex := 28, descriptorIndex := 29, attributes := #[] }, { accessFlags := 26, nameIndex := 38, descriptorIndex := 39, attributes := #[] }, { accessFlags := 25, nameIndex := 121, descriptorIndex := 25, attributes := #[] }, { accessFlags := 25, nameIndex := 131, descriptorIndex := 25, attributes := #[] }, { accessFlags := 25, nameIndex := 137, descriptorIndex := 25, attributes := #[] }, { accessFlags := 25, nameIndex := 143, descriptorIndex := 25, attributes := #[] }, { accessFlags := 25, nameIndex := 53, descriptorIndex := 25, attributes := #[] }, { accessFlags := 25, nameIndex := 24, descriptorIndex := 25, attributes := #[] }, { accessFlags := 25, nameIndex := 162, descriptorIndex := 25, attributes := #[] }, { accessFlags := 25, nameIndex := 187, descriptorIndex := 25, attributes := #[] }, { accessFlags := 26, nameIndex := 48, descriptorIndex := 25, attributes := #[] }, { accessFlags := 25, nameIndex := 277, descriptorIndex := 25, attributes := #[] }, { accessFlags := 25, nameIndex := 280, descriptorIndex := 25, attributes := #[] }, { accessFlags := 25, nameIndex := 282, descriptorIndex := 25, attributes := #[] }, { accessFlags := 25, nameIndex := 284, descriptorIndex := 25, attributes := #[] }, { accessFlags := 25, nameIndex := 286, descriptorIndex := 25, attributes := #[] }, { accessFlags := 25, nameIndex := 288, descriptorIndex := 25, attributes := #[] }, { accessFlags := 25, nameIndex := 290, descriptorIndex := 25, attributes := #[] }, { accessFlags := 25, nameIndex := 292, descriptorIndex := 25, attributes := #[] }, { accessFlags := 26, nameIndex := 108, descriptorIndex := 109, attributes := #[] }, { accessFlags := 25, nameIndex := 294, descriptorIndex := 25, attributes := #[] }])
  fields := #[{ name := "U", type := (.object "jdk/internal/misc/Unsafe"), accessFlags := 24, slot := 0, constantValue := 0 }, { name := "BIG_ENDIAN", type := .boolean, accessFlags := 26, slot := 1, constantValue := 0 }, { name := "LOG2_ARRAY_BOOLEAN_INDEX_SCALE", type := .int, accessFlags := 25, slot := 2, constantValue := 0 }, { name := "LOG2_ARRAY_BYTE_INDEX_SCALE", type := .int, accessFlags := 25, slot := 3, constantValue := 0 }, { name := "LOG2_ARRAY_CHAR_INDEX_SCALE", type := .int, accessFlags := 25, slot := 4, constantValue := 0 }, { name := "LOG2_ARRAY_SHORT_INDEX_SCALE", type := .int, accessFlags := 25, slot := 5, constantValue := 0 }, { name := "LOG2_ARRAY_INT_INDEX_SCALE", type := .int, accessFlags := 25, slot := 6, constantValue := 0 }, { name := "LOG2_ARRAY_LONG_INDEX_SCALE", type := .int, accessFlags := 25, slot := 7, constantValue := 0 }, { name := "LOG2_ARRAY_FLOAT_INDEX_SCALE", type := .int, accessFlags := 25, slot := 8, constantValue := 0 }, { name := "LOG2_ARRAY_DOUBLE_INDEX_SCALE", type := .int, accessFlags := 25, slot := 9, constantValue := 0 }, { name := "LOG2_BYTE_BIT_SIZE", type := .int, accessFlags := 26, slot := 10, constantValue := 0 }, { name := "T_BOOLEAN", type := .int, accessFlags := 25, slot := 11, constantValue := 0 }, { name := "T_CHAR", type := .int, accessFlags := 25, slot := 12, constantValue := 0 }, { name := "T_FLOAT", type := .int, accessFlags := 25, slot := 13, constantValue := 0 }, { name := "T_DOUBLE", type := .int, accessFlags := 25, slot := 14, constantValue := 0 }, { name := "T_BYTE", type := .int, accessFlags := 25, slot := 15, constantValue := 0 }, { name := "T_SHORT", type := .int, accessFlags := 25, slot := 16, constantValue := 0 }, { name := "T_INT", type := .int, accessFlags := 25, slot := 17, constantValue := 0 }, { name := "T_LONG", type := .int, accessFlags := 25, slot := 18, constantValue := 0 }, { name := "JLA", type := (.object "jdk/internal/access/JavaLangAccess"), accessFlags := 26, slot := 19, constantValue := 0 }, { name := "SOFT_MAX_ARRAY_LENGTH", type := .int, accessFlags := 25, slot := 20, constantValue := 0 }]
  methods := #[k12m0]
  instanceTypes := #[]
  staticTypes := #[(.object "jdk/internal/misc/Unsafe"), .boolean, .int, .int, .int, .int, .int, .int, .int, .int, .int, .int, .int, .int, .int, .int, .int, .int, .int, (.object "jdk/internal/access/JavaLangAccess"), .int]
  resolved := Array.replicate 378 none
  statics := none }

def pool13 : Array CpInfo := pool [(1, u "java/lang/Cloneable"), (0, .class_ 1), (0, u "java/lang/Object"), (0, .class_ 3)] 3

/-- java/lang/Cloneable -/
def k13 : Class := { plain "java/lang/Cloneable" (some 0) with
  accessFlags := 1537
  interfaces := #[]
  cf := some (fileOf pool13 2 #[] #[] 1537 4 #[] #[])
  fields := #[]
  methods := #[]
  instanceTypes := #[]
  staticTypes := #[]
  resolved := Array.replicate 8 none
  statics := none }

/-- the primitive byte -/
def k14 : Class := { plain "byte" none with kind := .primitive 'B', accessFlags := 0x411 }
/-- [B -/
def k15 : Class := { plain "[B" (some 0) with kind := .array 14 .byte, interfaces := #[13, 2], accessFlags := 1041 }

/-- the primitive char -/
def k16 : Class := { plain "char" none with kind := .primitive 'C', accessFlags := 0x411 }
/-- [C -/
def k17 : Class := { plain "[C" (some 0) with kind := .array 16 .char, interfaces := #[13, 2], accessFlags := 1041 }

/-- the primitive int -/
def k18 : Class := { plain "int" none with kind := .primitive 'I', accessFlags := 0x411 }
/-- [I -/
def k19 : Class := { plain "[I" (some 0) with kind := .array 18 .int, interfaces := #[13, 2], accessFlags := 1041 }

def heap : Heap := #[{ cls := 7, slots := #[.long 0, .int 1, .null, .int 0, .null, .int 0, .int 0], vm := .statics 7 },
  { cls := 8, slots := #[.int 0, .int 8, .int 0, .int 1], vm := .statics 8 },
  { cls := 11, slots := #[.null, .null, .null], vm := .statics 11 }]
def classes : Array Class := #[k0, k1, k2, k3, k4, k5, k6, k7, k8, k9, k10, k11, k12, k13, k14, k15, k16, k17, k18, k19]
def interned : List (Array UInt16 × Addr) := []
def slotsUsed : Nat := 14
def theMethod : MethodId := ⟨1, 3⟩
def args0 : Array Value := #[.int 4, .int 5, .int 6, .int 7, .int 8]
def aboutOver (below : List Frame) : State where
  vm := { classes := classes, interned := interned.toArray }
  heap := heap
  slotsUsed := slotsUsed
  threads := #[{ frames := .invoking theMethod args0 :: below }]
def below0 : List Frame := [.native { method := ⟨0, 0⟩, args := #[] }]
def about1 : State := aboutOver below0
def p0 : Program := .bare "" "" ""
def e0 : Env := launch0.env 0 0 0
theorem w_frames : about1.frames = Frame.invoking theMethod args0 :: below0 := rfl
set_option maxRecDepth 65536 in
theorem w_args : argsFit about1.vm theMethod args0 = true := by decide +kernel
set_option maxRecDepth 65536 in
theorem w_heap : heapFits about1 = true := by decide +kernel
set_option maxRecDepth 65536 in
theorem w_runnable : about1.curStatus? = some .runnable := by decide +kernel
set_option maxRecDepth 65536 in
theorem w_alone : about1.alone = true := by decide +kernel
set_option maxRecDepth 65536 in
theorem w_named : about1.methodNamed? x = some theMethod := by decide +kernel
set_option maxRecDepth 65536 in
theorem w_hears : about1.hears theMethod below0 = true := by decide +kernel
set_option maxRecDepth 65536 in
theorem w_ripe : about1.ripe theMethod args0 below0 = true := by decide +kernel
theorem w_running : about1.status = .running := rfl
set_option maxRecDepth 65536 in
theorem w_room : about1.hasRoom e0.platform room_1 = true :=
  launch0.hasRoom_least _ room_1 (by decide +kernel) (by decide +kernel) (by decide +kernel) (by decide +kernel) (by decide +kernel) (by decide +kernel)
theorem allAtoms_all (ts : List Jvm.Cond) (a : Array Jvm.Value) (st : Jvm.State) : (allAtoms ts).before a st = ts.all (fun c => c.before a st) := by
  induction ts with
  | nil => rfl
  | cons c t ih =>
    show (Jvm.Cond.and c (allAtoms t)).before a st = _
    rw [Jvm.Cond.before_and, ih, List.all_cons]
def words1 : List Jvm.Cond := Jvm.Cond.code x code maxLocals ret :: tables_1
/-- a 'code' word, met by the world's own term for the bytes: nothing is compared byte by byte -/
theorem code_word {y : MethodName} {bytes : ByteArray} {mx : Nat} {rt : Option FieldType} {a : Array Value} {s : State} {m : MethodId} {meth : Method} {c : Code} (h1 : s.methodNamed? y = some m) (h2 : s.vm.method? m = some meth) (h3 : meth.code = some c) (h4 : c.code = bytes)
    (h5 : (c.maxLocals == mx && c.exceptionTable.isEmpty && decide (c.maxStack ≤ mostOperands) && decide (meth.sig.returnType = rt) && !meth.locks && decide (parseMethodDescriptor y.desc = some meth.sig)) = true) : (Jvm.Cond.code y bytes mx rt).before a s = true := by
  simp only [Bool.and_eq_true, beq_iff_eq, Bool.not_eq_true', decide_eq_true_eq] at h5
  obtain ⟨⟨⟨⟨⟨g1, g2⟩, g3⟩, g4⟩, g5⟩, g6⟩ := h5
  simp [Cond.before, Cond.holds, Cond.value, h1, h2, h3, h4, g1, g2, g3, g4, g5, g6]
def isCode : Jvm.Cond → Bool
  | .code _ _ _ _ => true
  | _ => false
theorem all_split {L : List Jvm.Cond} {P : Jvm.Cond → Bool} (h1 : L.all (fun c => isCode c || P c) = true) (h2 : ∀ c ∈ L.filter isCode, P c = true) : L.all P = true := by
  refine List.all_eq_true.mpr fun c hc => ?_
  have h := List.all_eq_true.mp h1 c hc
  rcases Bool.eq_false_or_eq_true (isCode c) with hi | hi
  · exact h2 c (List.mem_filter.mpr ⟨hc, hi⟩)
  · simpa [hi] using h
set_option maxRecDepth 65536 in
theorem w_c0 : (Jvm.Cond.code x code maxLocals ret).before args0 about1 = true := code_word (m := ⟨1, 3⟩) (meth := k1m3) (c := k1c3) (by decide +kernel) rfl rfl rfl (by decide +kernel)
set_option maxRecDepth 65536 in
theorem w_c1 : (Jvm.Cond.code ({ cls := "com/example/assertgate/assertgate/saml/NameIdFormatsIsAcceptedPinLaw", name := "persistentChars", desc := "()[C" } : Jvm.MethodName) method_2_code (0 : Nat) (Option.some (Jvm.ClassFile.FieldType.array Jvm.ClassFile.FieldType.char))).before args0 about1 = true := code_word (m := ⟨1, 1⟩) (meth := k1m1) (c := k1c1) (by decide +kernel) rfl rfl rfl (by decide +kernel)
set_option maxRecDepth 65536 in
theorem w_c2 : (Jvm.Cond.code ({ cls := "java/lang/String", name := "<init>", desc := "([C)V" } : Jvm.MethodName) jdk_42_method_3_code (2 : Nat) (Option.none : Option Jvm.ClassFile.FieldType)).before args0 about1 = true := code_word (m := ⟨7, 1⟩) (meth := k7m1) (c := k7c1) (by decide +kernel) rfl rfl rfl (by decide +kernel)
set_option maxRecDepth 65536 in
theorem w_c3 : (Jvm.Cond.code ({ cls := "java/lang/String", name := "<init>", desc := "([CIILjava/lang/Void;)V" } : Jvm.MethodName) jdk_42_method_149_code (6 : Nat) (Option.none : Option Jvm.ClassFile.FieldType)).before args0 about1 = true := code_word (m := ⟨7, 5⟩) (meth := k7m5) (c := k7c5) (by decide +kernel) rfl rfl rfl (by decide +kernel)
set_option maxRecDepth 65536 in
theorem w_c4 : (Jvm.Cond.code ({ cls := "java/lang/Object", name := "<init>", desc := "()V" } : Jvm.MethodName) object_method_1_code (1 : Nat) (Option.none : Option Jvm.ClassFile.FieldType)).before args0 about1 = true := code_word (m := ⟨0, 0⟩) (meth := k0m0) (c := k0c0) (by decide +kernel) rfl rfl rfl (by decide +kernel)
set_option maxRecDepth 65536 in
theorem w_c5 : (Jvm.Cond.code ({ cls := "java/lang/StringUTF16", name := "compress", desc := "([CII)[B" } : Jvm.MethodName) jdk_52_method_16_code (6 : Nat) (Option.some (Jvm.ClassFile.FieldType.array Jvm.ClassFile.FieldType.byte))).before args0 about1 = true := code_word (m := ⟨8, 7⟩) (meth := k8m7) (c := k8c7) (by decide +kernel) rfl rfl rfl (by decide +kernel)
set_option maxRecDepth 65536 in
theorem w_c6 : (Jvm.Cond.code ({ cls := "java/lang/StringUTF16", name := "compress", desc := "([CI[BII)I" } : Jvm.MethodName) jdk_52_method_21_code (7 : Nat) (Option.some Jvm.ClassFile.FieldType.int)).before args0 about1 = true := code_word (m := ⟨8, 8⟩) (meth := k8m8) (c := k8c8) (by decide +kernel) rfl rfl rfl (by decide +kernel)
set_option maxRecDepth 65536 in
theorem w_c7 : (Jvm.Cond.code ({ cls := "java/lang/StringUTF16", name := "coderFromArrayLen", desc := "([BI)B" } : Jvm.MethodName) jdk_52_method_15_code (2 : Nat) (Option.some Jvm.ClassFile.FieldType.byte)).before args0 about1 = true := code_word (m := ⟨8, 6⟩) (meth := k8m6) (c := k8c6) (by decide +kernel) rfl rfl rfl (by decide +kernel)
set_option maxRecDepth 65536 in
theorem w_c8 : (Jvm.Cond.code ({ cls := "com/example/assertgate/assertgate/saml/NameIdFormats", name := "isAccepted", desc := "(Ljava/lang/String;)Z" } : Jvm.MethodName) prog_22_method_2_code (1 : Nat) (Option.some Jvm.ClassFile.FieldType.boolean)).before args0 about1 = true := code_word (m := ⟨9, 1⟩) (meth := k9m1) (c := k9c1) (by decide +kernel) rfl rfl rfl (by decide +kernel)
set_option maxRecDepth 65536 in
theorem w_c9 : (Jvm.Cond.code ({ cls := "java/lang/String", name := "equals", desc := "(Ljava/lang/Object;)Z" } : Jvm.MethodName) jdk_42_method_66_code (3 : Nat) (Option.some Jvm.ClassFile.FieldType.boolean)).before args0 about1 = true := code_word (m := ⟨7, 3⟩) (meth := k7m3) (c := k7c3) (by decide +kernel) rfl rfl rfl (by decide +kernel)
set_option maxRecDepth 65536 in
theorem w_c10 : (Jvm.Cond.code ({ cls := "java/lang/StringLatin1", name := "equals", desc := "([B[B)Z" } : Jvm.MethodName) jdk_43_method_13_code (3 : Nat) (Option.some Jvm.ClassFile.FieldType.boolean)).before args0 about1 = true := code_word (m := ⟨10, 3⟩) (meth := k10m3) (c := k10c3) (by decide +kernel) rfl rfl rfl (by decide +kernel)
set_option maxRecDepth 65536 in
theorem w_c11 : (Jvm.Cond.code ({ cls := "java/lang/String", name := "charAt", desc := "(I)C" } : Jvm.MethodName) jdk_42_method_56_code (2 : Nat) (Option.some Jvm.ClassFile.FieldType.char)).before args0 about1 = true := code_word (m := ⟨7, 2⟩) (meth := k7m2) (c := k7c2) (by decide +kernel) rfl rfl rfl (by decide +kernel)
set_option maxRecDepth 65536 in
theorem w_c12 : (Jvm.Cond.code ({ cls := "java/lang/String", name := "isLatin1", desc := "()Z" } : Jvm.MethodName) jdk_42_method_154_code (1 : Nat) (Option.some Jvm.ClassFile.FieldType.boolean)).before args0 about1 = true := code_word (m := ⟨7, 7⟩) (meth := k7m7) (c := k7c7) (by decide +kernel) rfl rfl rfl (by decide +kernel)
set_option maxRecDepth 65536 in
theorem w_c13 : (Jvm.Cond.code ({ cls := "java/lang/StringLatin1", name := "charAt", desc := "([BI)C" } : Jvm.MethodName) jdk_43_method_2_code (2 : Nat) (Option.some Jvm.ClassFile.FieldType.char)).before args0 about1 = true := code_word (m := ⟨10, 1⟩) (meth := k10m1) (c := k10c1) (by decide +kernel) rfl rfl rfl (by decide +kernel)
set_option maxRecDepth 65536 in
theorem w_c14 : (Jvm.Cond.code ({ cls := "java/lang/String", name := "checkIndex", desc := "(II)V" } : Jvm.MethodName) jdk_42_method_155_code (2 : Nat) (Option.none : Option Jvm.ClassFile.FieldType)).before args0 about1 = true := code_word (m := ⟨7, 8⟩) (meth := k7m8) (c := k7c8) (by decide +kernel) rfl rfl rfl (by decide +kernel)
set_option maxRecDepth 65536 in
theorem w_c15 : (Jvm.Cond.code ({ cls := "jdk/internal/util/Preconditions", name := "checkIndex", desc := "(IILjava/util/function/BiFunction;)I" } : Jvm.MethodName) jdk_41_method_11_code (3 : Nat) (Option.some Jvm.ClassFile.FieldType.int)).before args0 about1 = true := code_word (m := ⟨11, 1⟩) (meth := k11m1) (c := k11c1) (by decide +kernel) rfl rfl rfl (by decide +kernel)
set_option maxRecDepth 65536 in
theorem w_c16 : (Jvm.Cond.code ({ cls := "java/lang/StringUTF16", name := "toBytes", desc := "([CII)[B" } : Jvm.MethodName) jdk_52_method_14_code (5 : Nat) (Option.some (Jvm.ClassFile.FieldType.array Jvm.ClassFile.FieldType.byte))).before args0 about1 = true := code_word (m := ⟨8, 5⟩) (meth := k8m5) (c := k8c5) (by decide +kernel) rfl rfl rfl (by decide +kernel)
set_option maxRecDepth 65536 in
theorem w_c17 : (Jvm.Cond.code ({ cls := "java/lang/StringUTF16", name := "newBytesFor", desc := "(I)[B" } : Jvm.MethodName) jdk_52_method_2_code (1 : Nat) (Option.some (Jvm.ClassFile.FieldType.array Jvm.ClassFile.FieldType.byte))).before args0 about1 = true := code_word (m := ⟨8, 1⟩) (meth := k8m1) (c := k8c1) (by decide +kernel) rfl rfl rfl (by decide +kernel)
set_option maxRecDepth 65536 in
theorem w_c18 : (Jvm.Cond.code ({ cls := "java/lang/StringUTF16", name := "newBytesLength", desc := "(I)I" } : Jvm.MethodName) jdk_52_method_3_code (1 : Nat) (Option.some Jvm.ClassFile.FieldType.int)).before args0 about1 = true := code_word (m := ⟨8, 2⟩) (meth := k8m2) (c := k8c2) (by decide +kernel) rfl rfl rfl (by decide +kernel)
set_option maxRecDepth 65536 in
theorem w_c19 : (Jvm.Cond.code ({ cls := "java/lang/StringUTF16", name := "putChar", desc := "([BII)V" } : Jvm.MethodName) jdk_52_method_4_code (3 : Nat) (Option.none : Option Jvm.ClassFile.FieldType)).before args0 about1 = true := code_word (m := ⟨8, 3⟩) (meth := k8m3) (c := k8c3) (by decide +kernel) rfl rfl rfl (by decide +kernel)
set_option maxRecDepth 65536 in
theorem w_c20 : (Jvm.Cond.code ({ cls := "java/lang/StringUTF16", name := "getChar", desc := "([BI)C" } : Jvm.MethodName) jdk_52_method_5_code (2 : Nat) (Option.some Jvm.ClassFile.FieldType.char)).before args0 about1 = true := code_word (m := ⟨8, 4⟩) (meth := k8m4) (c := k8c4) (by decide +kernel) rfl rfl rfl (by decide +kernel)
set_option maxRecDepth 65536 in
theorem w_c21 : (Jvm.Cond.code ({ cls := "com/example/assertgate/assertgate/saml/NameIdFormatsIsAcceptedPinLaw", name := "emailChars", desc := "()[C" } : Jvm.MethodName) method_3_code (0 : Nat) (Option.some (Jvm.ClassFile.FieldType.array Jvm.ClassFile.FieldType.char))).before args0 about1 = true := code_word (m := ⟨1, 2⟩) (meth := k1m2) (c := k1c2) (by decide +kernel) rfl rfl rfl (by decide +kernel)
set_option maxRecDepth 65536 in
theorem w_c22 : (Jvm.Cond.code ({ cls := "java/lang/String", name := "valueOf", desc := "(C)Ljava/lang/String;" } : Jvm.MethodName) jdk_42_method_139_code (1 : Nat) (Option.some (Jvm.ClassFile.FieldType.object "java/lang/String"))).before args0 about1 = true := code_word (m := ⟨7, 4⟩) (meth := k7m4) (c := k7c4) (by decide +kernel) rfl rfl rfl (by decide +kernel)
set_option maxRecDepth 65536 in
theorem w_c23 : (Jvm.Cond.code ({ cls := "java/lang/StringLatin1", name := "canEncode", desc := "(C)Z" } : Jvm.MethodName) jdk_43_method_3_code (1 : Nat) (Option.some Jvm.ClassFile.FieldType.boolean)).before args0 about1 = true := code_word (m := ⟨10, 2⟩) (meth := k10m2) (c := k10c2) (by decide +kernel) rfl rfl rfl (by decide +kernel)
set_option maxRecDepth 65536 in
theorem w_c24 : (Jvm.Cond.code ({ cls := "java/lang/StringLatin1", name := "toBytes", desc := "(C)[B" } : Jvm.MethodName) jdk_43_method_46_code (1 : Nat) (Option.some (Jvm.ClassFile.FieldType.array Jvm.ClassFile.FieldType.byte))).before args0 about1 = true := code_word (m := ⟨10, 4⟩) (meth := k10m4) (c := k10c4) (by decide +kernel) rfl rfl rfl (by decide +kernel)
set_option maxRecDepth 65536 in
theorem w_c25 : (Jvm.Cond.code ({ cls := "java/lang/String", name := "<init>", desc := "([BB)V" } : Jvm.MethodName) jdk_42_method_151_code (3 : Nat) (Option.none : Option Jvm.ClassFile.FieldType)).before args0 about1 = true := code_word (m := ⟨7, 6⟩) (meth := k7m6) (c := k7c6) (by decide +kernel) rfl rfl rfl (by decide +kernel)
def codes1 : List Jvm.Cond := [Jvm.Cond.code x code maxLocals ret, Jvm.Cond.code ({ cls := "com/example/assertgate/assertgate/saml/NameIdFormatsIsAcceptedPinLaw", name := "persistentChars", desc := "()[C" } : Jvm.MethodName) method_2_code (0 : Nat) (Option.some (Jvm.ClassFile.FieldType.array Jvm.ClassFile.FieldType.char)), Jvm.Cond.code ({ cls := "java/lang/String", name := "<init>", desc := "([C)V" } : Jvm.MethodName) jdk_42_method_3_code (2 : Nat) (Option.none : Option Jvm.ClassFile.FieldType), Jvm.Cond.code ({ cls := "java/lang/String", name := "<init>", desc := "([CIILjava/lang/Void;)V" } : Jvm.MethodName) jdk_42_method_149_code (6 : Nat) (Option.none : Option Jvm.ClassFile.FieldType), Jvm.Cond.code ({ cls := "java/lang/Object", name := "<init>", desc := "()V" } : Jvm.MethodName) object_method_1_code (1 : Nat) (Option.none : Option Jvm.ClassFile.FieldType), Jvm.Cond.code ({ cls := "java/lang/StringUTF16", name := "compress", desc := "([CII)[B" } : Jvm.MethodName) jdk_52_method_16_code (6 : Nat) (Option.some (Jvm.ClassFile.FieldType.array Jvm.ClassFile.FieldType.byte)), Jvm.Cond.code ({ cls := "java/lang/StringUTF16", name := "compress", desc := "([CI[BII)I" } : Jvm.MethodName) jdk_52_method_21_code (7 : Nat) (Option.some Jvm.ClassFile.FieldType.int), Jvm.Cond.code ({ cls := "java/lang/StringUTF16", name := "coderFromArrayLen", desc := "([BI)B" } : Jvm.MethodName) jdk_52_method_15_code (2 : Nat) (Option.some Jvm.ClassFile.FieldType.byte), Jvm.Cond.code ({ cls := "com/example/assertgate/assertgate/saml/NameIdFormats", name := "isAccepted", desc := "(Ljava/lang/String;)Z" } : Jvm.MethodName) prog_22_method_2_code (1 : Nat) (Option.some Jvm.ClassFile.FieldType.boolean), Jvm.Cond.code ({ cls := "java/lang/String", name := "equals", desc := "(Ljava/lang/Object;)Z" } : Jvm.MethodName) jdk_42_method_66_code (3 : Nat) (Option.some Jvm.ClassFile.FieldType.boolean), Jvm.Cond.code ({ cls := "java/lang/StringLatin1", name := "equals", desc := "([B[B)Z" } : Jvm.MethodName) jdk_43_method_13_code (3 : Nat) (Option.some Jvm.ClassFile.FieldType.boolean), Jvm.Cond.code ({ cls := "java/lang/String", name := "charAt", desc := "(I)C" } : Jvm.MethodName) jdk_42_method_56_code (2 : Nat) (Option.some Jvm.ClassFile.FieldType.char), Jvm.Cond.code ({ cls := "java/lang/String", name := "isLatin1", desc := "()Z" } : Jvm.MethodName) jdk_42_method_154_code (1 : Nat) (Option.some Jvm.ClassFile.FieldType.boolean), Jvm.Cond.code ({ cls := "java/lang/StringLatin1", name := "charAt", desc := "([BI)C" } : Jvm.MethodName) jdk_43_method_2_code (2 : Nat) (Option.some Jvm.ClassFile.FieldType.char), Jvm.Cond.code ({ cls := "java/lang/String", name := "checkIndex", desc := "(II)V" } : Jvm.MethodName) jdk_42_method_155_code (2 : Nat) (Option.none : Option Jvm.ClassFile.FieldType), Jvm.Cond.code ({ cls := "jdk/internal/util/Preconditions", name := "checkIndex", desc := "(IILjava/util/function/BiFunction;)I" } : Jvm.MethodName) jdk_41_method_11_code (3 : Nat) (Option.some Jvm.ClassFile.FieldType.int), Jvm.Cond.code ({ cls := "java/lang/StringUTF16", name := "toBytes", desc := "([CII)[B" } : Jvm.MethodName) jdk_52_method_14_code (5 : Nat) (Option.some (Jvm.ClassFile.FieldType.array Jvm.ClassFile.FieldType.byte)), Jvm.Cond.code ({ cls := "java/lang/StringUTF16", name := "newBytesFor", desc := "(I)[B" } : Jvm.MethodName) jdk_52_method_2_code (1 : Nat) (Option.some (Jvm.ClassFile.FieldType.array Jvm.ClassFile.FieldType.byte)), Jvm.Cond.code ({ cls := "java/lang/StringUTF16", name := "newBytesLength", desc := "(I)I" } : Jvm.MethodName) jdk_52_method_3_code (1 : Nat) (Option.some Jvm.ClassFile.FieldType.int), Jvm.Cond.code ({ cls := "java/lang/StringUTF16", name := "putChar", desc := "([BII)V" } : Jvm.MethodName) jdk_52_method_4_code (3 : Nat) (Option.none : Option Jvm.ClassFile.FieldType), Jvm.Cond.code ({ cls := "java/lang/StringUTF16", name := "getChar", desc := "([BI)C" } : Jvm.MethodName) jdk_52_method_5_code (2 : Nat) (Option.some Jvm.ClassFile.FieldType.char), Jvm.Cond.code ({ cls := "com/example/assertgate/assertgate/saml/NameIdFormatsIsAcceptedPinLaw", name := "emailChars", desc := "()[C" } : Jvm.MethodName) method_3_code (0 : Nat) (Option.some (Jvm.ClassFile.FieldType.array Jvm.ClassFile.FieldType.char)), Jvm.Cond.code ({ cls := "java/lang/String", name := "valueOf", desc := "(C)Ljava/lang/String;" } : Jvm.MethodName) jdk_42_method_139_code (1 : Nat) (Option.some (Jvm.ClassFile.FieldType.object "java/lang/String")), Jvm.Cond.code ({ cls := "java/lang/StringLatin1", name := "canEncode", desc := "(C)Z" } : Jvm.MethodName) jdk_43_method_3_code (1 : Nat) (Option.some Jvm.ClassFile.FieldType.boolean), Jvm.Cond.code ({ cls := "java/lang/StringLatin1", name := "toBytes", desc := "(C)[B" } : Jvm.MethodName) jdk_43_method_46_code (1 : Nat) (Option.some (Jvm.ClassFile.FieldType.array Jvm.ClassFile.FieldType.byte)), Jvm.Cond.code ({ cls := "java/lang/String", name := "<init>", desc := "([BB)V" } : Jvm.MethodName) jdk_42_method_151_code (3 : Nat) (Option.none : Option Jvm.ClassFile.FieldType)]
set_option maxRecDepth 65536 in
theorem codes_eq : words1.filter isCode = codes1 := rfl
theorem w_codes : ∀ c ∈ words1.filter isCode, c.before args0 about1 = true := by
  rw [codes_eq]
  intro c hc
  simp only [codes1, List.mem_cons, List.not_mem_nil, or_false] at hc
  rcases hc with rfl | rfl | rfl | rfl | rfl | rfl | rfl | rfl | rfl | rfl | rfl | rfl | rfl | rfl | rfl | rfl | rfl | rfl | rfl | rfl | rfl | rfl | rfl | rfl | rfl | rfl
  · exact w_c0
  · exact w_c1
  · exact w_c2
  · exact w_c3
  · exact w_c4
  · exact w_c5
  · exact w_c6
  · exact w_c7
  · exact w_c8
  · exact w_c9
  · exact w_c10
  · exact w_c11
  · exact w_c12
  · exact w_c13
  · exact w_c14
  · exact w_c15
  · exact w_c16
  · exact w_c17
  · exact w_c18
  · exact w_c19
  · exact w_c20
  · exact w_c21
  · exact w_c22
  · exact w_c23
  · exact w_c24
  · exact w_c25
set_option maxRecDepth 65536 in
theorem w_t1 : (words1.take 24).all (fun c => isCode c || c.before args0 about1) = true := by decide +kernel
set_option maxRecDepth 65536 in
theorem w_t2 : ((words1.drop 24).take 24).all (fun c => isCode c || c.before args0 about1) = true := by decide +kernel
set_option maxRecDepth 65536 in
theorem w_t3 : (((words1.drop 24).drop 24).take 24).all (fun c => isCode c || c.before args0 about1) = true := by decide +kernel
set_option maxRecDepth 65536 in
theorem w_t4 : ((((words1.drop 24).drop 24).drop 24).take 24).all (fun c => isCode c || c.before args0 about1) = true := by decide +kernel
set_option maxRecDepth 65536 in
theorem w_t5 : ((((words1.drop 24).drop 24).drop 24).drop 24).all (fun c => isCode c || c.before args0 about1) = true := by decide +kernel
theorem w_tables : (allAtoms (Jvm.Cond.code x code maxLocals ret :: tables_1)).before args0 about1 = true := by
  rw [allAtoms_all]
  show words1.all (fun c => c.before args0 about1) = true
  refine all_split ?_ w_codes
  rw [← List.take_append_drop 24 words1, List.all_append, w_t1, ← List.take_append_drop 24 (words1.drop 24), List.all_append, w_t2, ← List.take_append_drop 24 ((words1.drop 24).drop 24), List.all_append, w_t3, ← List.take_append_drop 24 (((words1.drop 24).drop 24).drop 24), List.all_append, w_t4, w_t5]
  rfl
set_option maxRecDepth 65536 in
theorem w_rest : rest_1_c.before args0 about1 = true := by decide +kernel
set_option maxRecDepth 65536 in
theorem w_case : (Jvm.Cond.and given_1 narrow_1).before args0 about1 = true := by decide +kernel
set_option maxRecDepth 65536 in
theorem w_consts : constsHeld consts_1 about1 := Jvm.Lit.constsHeldB_iff.mp (by decide +kernel)
theorem w_applies : (headSpec (Jvm.Cond.code x code maxLocals ret :: tables_1) room_1).applies x e0.platform about1 = true :=
  (Spec.applies_iff w_frames).mpr ⟨w_running, w_runnable, w_alone, w_named, w_hears, w_ripe, w_room, w_tables⟩
theorem atStart : AtStart classFile x code maxLocals ret World_1 tables_1 room_1 Calls_1 rest_1 Pre_1 launch0 p0 e0 about1 theMethod args0 below0 :=
  ⟨lists_1, trivial, launch0.admits_env _ _ _, launch0.least_env, fairChoices_fair.cas, fairChoices_fair.clock, w_frames, w_args, w_heap, w_applies, ⟨w_consts, trivial⟩, w_rest, w_case⟩
end start1
theorem witness_1 : WitnessClaimed_1 := ⟨start1.p0, start1.e0, start1.about1, start1.theMethod, start1.args0, start1.below0, start1.atStart⟩
end Jvm.Pilot.@@N@@

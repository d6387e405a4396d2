import JvmDerived
import JvmDerived.Pilot.@@N@@Statement
import JvmDerived.Pilot.@@N@@Code
set_option linter.unusedVariables false
set_option linter.unusedSimpArgs false
namespace Jvm.Pilot.@@N@@
open Jvm Jvm.ClassFile Sem Op Lib Jvm.Free Jvm.Stand Jvm.LawKit Jvm.RoadKit Bundle Jvm.Pilot.@@N@@.Jvm.D
abbrev Gets (p : Program) (e : Env) (below : List Frame) (S0 S : State) : Prop := ∀ t, Steps p.tables e below S t → Steps p.tables e below S0 t
section Own
variable {p : Program} {e : Env} {below : List Frame} {S0 T : State} {m : MethodId} {c : Code} {pc q : Nat} {Ls : Array Slot} {st : List Value}
theorem own_iadd {x y v : Int32} (G : Gets p e below S0 (T.setTop (mkF m pc Ls (.int y :: .int x :: st)))) (h : At T m c below) (hx : p.tables.exec = Jvm.exec) (hd : decode c.code pc = .ok (.iadd, 1)) (hv : x + y = v) (hq : pc + 1 = q) : Gets p e below S0 (T.setTop (mkF m q Ls (.int v :: st))) := by
  subst hv hq; exact fun t k => G t (XS.iadd h hx rfl hd rfl k)
theorem own_isub {x y v : Int32} (G : Gets p e below S0 (T.setTop (mkF m pc Ls (.int y :: .int x :: st)))) (h : At T m c below) (hx : p.tables.exec = Jvm.exec) (hd : decode c.code pc = .ok (.isub, 1)) (hv : x - y = v) (hq : pc + 1 = q) : Gets p e below S0 (T.setTop (mkF m q Ls (.int v :: st))) := by
  subst hv hq; exact fun t k => G t (XS.isub h hx rfl hd rfl k)
theorem own_iand {x y v : Int32} (G : Gets p e below S0 (T.setTop (mkF m pc Ls (.int y :: .int x :: st)))) (h : At T m c below) (hx : p.tables.exec = Jvm.exec) (hd : decode c.code pc = .ok (.iand, 1)) (hv : x &&& y = v) (hq : pc + 1 = q) : Gets p e below S0 (T.setTop (mkF m q Ls (.int v :: st))) := by
  subst hv hq; exact fun t k => G t (XS.iand h hx rfl hd rfl k)
theorem own_dsub {x y v : UInt64} (G : Gets p e below S0 (T.setTop (mkF m pc Ls (.double y :: .double x :: st)))) (h : At T m c below) (hx : p.tables.exec = Jvm.exec) (hd : decode c.code pc = .ok (.dsub, 1)) (hn : Jvm.Free.Fl.NoNaN64 (FP.dsub x y)) (hv : FP.dsub x y = v) (hq : pc + 1 = q) : Gets p e below S0 (T.setTop (mkF m q Ls (.double v :: st))) := by
  subst hq; exact fun t k => G t (XS.dsubS h hx rfl hd rfl hn hv k)
theorem own_dmul {x y v : UInt64} (G : Gets p e below S0 (T.setTop (mkF m pc Ls (.double y :: .double x :: st)))) (h : At T m c below) (hx : p.tables.exec = Jvm.exec) (hd : decode c.code pc = .ok (.dmul, 1)) (hn : Jvm.Free.Fl.NoNaN64 (FP.dmul x y)) (hv : FP.dmul x y = v) (hq : pc + 1 = q) : Gets p e below S0 (T.setTop (mkF m q Ls (.double v :: st))) := by
  subst hq; exact fun t k => G t (XS.dmulS h hx rfl hd rfl hn hv k)
theorem own_ddiv {x y v : UInt64} (G : Gets p e below S0 (T.setTop (mkF m pc Ls (.double y :: .double x :: st)))) (h : At T m c below) (hx : p.tables.exec = Jvm.exec) (hd : decode c.code pc = .ok (.ddiv, 1)) (hn : Jvm.Free.Fl.NoNaN64 (FP.ddiv x y)) (hv : FP.ddiv x y = v) (hq : pc + 1 = q) : Gets p e below S0 (T.setTop (mkF m q Ls (.double v :: st))) := by
  subst hq; exact fun t k => G t (XS.ddivS h hx rfl hd rfl hn hv k)
theorem own_i2d {x : Int32} {v : UInt64} (G : Gets p e below S0 (T.setTop (mkF m pc Ls (.int x :: st)))) (h : At T m c below) (hx : p.tables.exec = Jvm.exec) (hd : decode c.code pc = .ok (.i2d, 1)) (hv : FP.i2d x = v) (hq : pc + 1 = q) : Gets p e below S0 (T.setTop (mkF m q Ls (.double v :: st))) := by
  subst hq; exact fun t k => G t (XS.i2dS h hx rfl hd rfl hv k)
theorem own_dcmp {o : CmpOp} {x y : UInt64} {v : Int32} (G : Gets p e below S0 (T.setTop (mkF m pc Ls (.double y :: .double x :: st)))) (h : At T m c below) (hx : p.tables.exec = Jvm.exec) (hd : decode c.code pc = .ok (.dcmp o, 1)) (hv : cmpValue (FP.dcmp x y) o = v) (hq : pc + 1 = q) : Gets p e below S0 (T.setTop (mkF m q Ls (.int v :: st))) := by
  subst hq; exact fun t k => G t (XS.dcmpS h hx rfl hd rfl hv k)
theorem own_dconst0 {v : UInt64} (G : Gets p e below S0 (T.setTop (mkF m pc Ls st))) (h : At T m c below) (hx : p.tables.exec = Jvm.exec) (hd : decode c.code pc = .ok (.dconst 0, 1)) (hv : FP.dconst0 = v) (hq : pc + 1 = q) : Gets p e below S0 (T.setTop (mkF m q Ls (.double v :: st))) := by
  subst hq; exact fun t k => G t (XS.dconst0 h hx rfl hd hv k)
theorem own_iconst {i : Int} {v : Int32} (G : Gets p e below S0 (T.setTop (mkF m pc Ls st))) (h : At T m c below) (hx : p.tables.exec = Jvm.exec) (hd : decode c.code pc = .ok (.iconst i, 1)) (hv : Int32.ofInt i = v) (hq : pc + 1 = q) : Gets p e below S0 (T.setTop (mkF m q Ls (.int v :: st))) := by
  subst hv hq; exact fun t k => G t (XS.iconst h hx rfl hd k)
theorem own_iload {i : Nat} {v : Int32} (G : Gets p e below S0 (T.setTop (mkF m pc Ls st))) (h : At T m c below) (hx : p.tables.exec = Jvm.exec) (hd : decode c.code pc = .ok (.iload i, 2)) (hl : Ls[i]? = some (.val (.int v))) (hq : pc + 2 = q) : Gets p e below S0 (T.setTop (mkF m q Ls (.int v :: st))) := by
  subst hq; exact fun t k => G t (XS.iload h hx rfl hd hl k)
theorem own_iloadN {i : Fin 4} {v : Int32} (G : Gets p e below S0 (T.setTop (mkF m pc Ls st))) (h : At T m c below) (hx : p.tables.exec = Jvm.exec) (hd : decode c.code pc = .ok (.iload_n i, 1)) (hl : Ls[i.val]? = some (.val (.int v))) (hq : pc + 1 = q) : Gets p e below S0 (T.setTop (mkF m q Ls (.int v :: st))) := by
  subst hq; exact fun t k => G t (XS.iloadN h hx rfl hd hl k)
theorem own_dload {i : Nat} {v : UInt64} (G : Gets p e below S0 (T.setTop (mkF m pc Ls st))) (h : At T m c below) (hx : p.tables.exec = Jvm.exec) (hd : decode c.code pc = .ok (.dload i, 2)) (hl : Ls[i]? = some (.val (.double v))) (hq : pc + 2 = q) : Gets p e below S0 (T.setTop (mkF m q Ls (.double v :: st))) := by
  subst hq; exact fun t k => G t (XS.dload h hx rfl hd hl k)
theorem own_dloadN {i : Fin 4} {v : UInt64} (G : Gets p e below S0 (T.setTop (mkF m pc Ls st))) (h : At T m c below) (hx : p.tables.exec = Jvm.exec) (hd : decode c.code pc = .ok (.dload_n i, 1)) (hl : Ls[i.val]? = some (.val (.double v))) (hq : pc + 1 = q) : Gets p e below S0 (T.setTop (mkF m q Ls (.double v :: st))) := by
  subst hq; exact fun t k => G t (XS.dloadN h hx rfl hd hl k)
theorem own_aload {i : Nat} {v : Value} (G : Gets p e below S0 (T.setTop (mkF m pc Ls st))) (h : At T m c below) (hx : p.tables.exec = Jvm.exec) (hd : decode c.code pc = .ok (.aload i, 2)) (hl : Ls[i]? = some (.val v)) (hv : v.isRef = true) (hq : pc + 2 = q) : Gets p e below S0 (T.setTop (mkF m q Ls (v :: st))) := by
  subst hq; exact fun t k => G t (XS.aload h hx rfl hd hl hv k)
theorem own_aloadN {i : Fin 4} {v : Value} (G : Gets p e below S0 (T.setTop (mkF m pc Ls st))) (h : At T m c below) (hx : p.tables.exec = Jvm.exec) (hd : decode c.code pc = .ok (.aload_n i, 1)) (hl : Ls[i.val]? = some (.val v)) (hv : v.isRef = true) (hq : pc + 1 = q) : Gets p e below S0 (T.setTop (mkF m q Ls (v :: st))) := by
  subst hq; exact fun t k => G t (XS.aloadN h hx rfl hd hl hv k)
theorem own_istore {i : Nat} {v : Int32} {l' : Array Slot} (G : Gets p e below S0 (T.setTop (mkF m pc Ls (.int v :: st)))) (h : At T m c below) (hx : p.tables.exec = Jvm.exec) (hd : decode c.code pc = .ok (.istore i, 2)) (hl : storeLocals Ls i (.int v) = some l') (hq : pc + 2 = q) : Gets p e below S0 (T.setTop (mkF m q l' st)) := by
  subst hq; exact fun t k => G t (XS.istore h hx rfl hd rfl hl k)
theorem own_dstore {i : Nat} {v : UInt64} {l' : Array Slot} (G : Gets p e below S0 (T.setTop (mkF m pc Ls (.double v :: st)))) (h : At T m c below) (hx : p.tables.exec = Jvm.exec) (hd : decode c.code pc = .ok (.dstore i, 2)) (hl : storeLocals Ls i (.double v) = some l') (hq : pc + 2 = q) : Gets p e below S0 (T.setTop (mkF m q l' st)) := by
  subst hq; exact fun t k => G t (XS.dstore h hx rfl hd rfl hl k)
theorem own_dstoreN {i : Fin 4} {v : UInt64} {l' : Array Slot} (G : Gets p e below S0 (T.setTop (mkF m pc Ls (.double v :: st)))) (h : At T m c below) (hx : p.tables.exec = Jvm.exec) (hd : decode c.code pc = .ok (.dstore_n i, 1)) (hl : storeLocals Ls i.val (.double v) = some l') (hq : pc + 1 = q) : Gets p e below S0 (T.setTop (mkF m q l' st)) := by
  subst hq; exact fun t k => G t (XS.dstoreN h hx rfl hd rfl hl k)
theorem own_astore {i : Nat} {v : Value} {l' : Array Slot} (G : Gets p e below S0 (T.setTop (mkF m pc Ls (v :: st)))) (h : At T m c below) (hx : p.tables.exec = Jvm.exec) (hd : decode c.code pc = .ok (.astore i, 2)) (hv : v.isRef = true) (hl : storeLocals Ls i v = some l') (hq : pc + 2 = q) : Gets p e below S0 (T.setTop (mkF m q l' st)) := by
  subst hq; exact fun t k => G t (XS.astore h hx rfl hd rfl hv hl k)
theorem own_iinc {i : Nat} {d : Int} {x w v : Int32} {l' : Array Slot} (G : Gets p e below S0 (T.setTop (mkF m pc Ls st))) (h : At T m c below) (hx : p.tables.exec = Jvm.exec) (hd : decode c.code pc = .ok (.iinc i d, 3)) (hw : Int32.ofInt d = w) (hl : Ls[i]? = some (.val (.int x))) (hv : x + w = v) (hl' : storeLocals Ls i (.int v) = some l') (hq : pc + 3 = q) : Gets p e below S0 (T.setTop (mkF m q l' st)) := by
  subst hw hv hq; exact fun t k => G t (XS.iinc h hx rfl hd hl hl' k)
theorem own_dup {x : Value} (G : Gets p e below S0 (T.setTop (mkF m pc Ls (x :: st)))) (h : At T m c below) (hx : p.tables.exec = Jvm.exec) (hd : decode c.code pc = .ok (.dup, 1)) (hc : x.category = 1) (hq : pc + 1 = q) : Gets p e below S0 (T.setTop (mkF m q Ls (x :: x :: st))) := by
  subst hq; exact fun t k => G t (XS.dup h hx rfl hd rfl hc k)
theorem own_goto {o : Int} (G : Gets p e below S0 (T.setTop (mkF m pc Ls st))) (h : At T m c below) (hx : p.tables.exec = Jvm.exec) (hd : decode c.code pc = .ok (.goto o, 3))  (ho : 0 ≤ (pc : Int) + o) (hp : ((pc : Int) + o).toNat = q) : Gets p e below S0 (T.setTop (mkF m q Ls st)) := by
  exact fun t k => G t (XS.goto h hx rfl rfl hd ho hp k)
theorem own_ifYes {cd : ClassFile.Cond} {o : Int} {x : Int32} (G : Gets p e below S0 (T.setTop (mkF m pc Ls (.int x :: st)))) (h : At T m c below) (hx : p.tables.exec = Jvm.exec) (hd : decode c.code pc = .ok (.ifCond cd o, 3)) (hc : ifCond.holds cd x = true) (ho : 0 ≤ (pc : Int) + o) (hp : ((pc : Int) + o).toNat = q) : Gets p e below S0 (T.setTop (mkF m q Ls st)) := by
  exact fun t k => G t (XS.ifYes h hx rfl rfl hd rfl hc ho hp k)
theorem own_ifNo {cd : ClassFile.Cond} {o : Int} {x : Int32} (G : Gets p e below S0 (T.setTop (mkF m pc Ls (.int x :: st)))) (h : At T m c below) (hx : p.tables.exec = Jvm.exec) (hd : decode c.code pc = .ok (.ifCond cd o, 3)) (hc : ifCond.holds cd x = false) (hq : pc + 3 = q) : Gets p e below S0 (T.setTop (mkF m q Ls st)) := by
  subst hq; exact fun t k => G t (XS.ifNo h hx rfl hd rfl hc k)
theorem own_icmpYes {cd : ClassFile.Cond} {o : Int} {x y : Int32} (G : Gets p e below S0 (T.setTop (mkF m pc Ls (.int y :: .int x :: st)))) (h : At T m c below) (hx : p.tables.exec = Jvm.exec) (hd : decode c.code pc = .ok (.if_icmp cd o, 3)) (hc : if_icmp.holds cd x y = true) (ho : 0 ≤ (pc : Int) + o) (hp : ((pc : Int) + o).toNat = q) : Gets p e below S0 (T.setTop (mkF m q Ls st)) := by
  exact fun t k => G t (XS.icmpYes h hx rfl rfl hd rfl hc ho hp k)
theorem own_icmpNo {cd : ClassFile.Cond} {o : Int} {x y : Int32} (G : Gets p e below S0 (T.setTop (mkF m pc Ls (.int y :: .int x :: st)))) (h : At T m c below) (hx : p.tables.exec = Jvm.exec) (hd : decode c.code pc = .ok (.if_icmp cd o, 3)) (hc : if_icmp.holds cd x y = false) (hq : pc + 3 = q) : Gets p e below S0 (T.setTop (mkF m q Ls st)) := by
  subst hq; exact fun t k => G t (XS.icmpNo h hx rfl hd rfl hc k)
end Own

open Jvm.Free.Fl in
theorem own_div {k : Int32} : Mag64 1051 (FP.ddiv (FP.i2d k) (4634204016564240384 : UInt64)) := ddiv_mag (K := 1056) (L := 1029) (i2d_mag k) (show _ ∧ _ from by decide) (by decide) (by decide)
open Jvm.Free.Fl in
theorem own_gap {k : Int32} : Mag64 1051 (FP.ddiv (FP.i2d k) (4652218415073722368 : UInt64)) := (ddiv_mag (K := 1056) (L := 1033) (i2d_mag k) (show _ ∧ _ from by decide) (by decide) (by decide)).mono (by decide)
open Jvm.Free.Fl in
theorem own_sub {g t : UInt64} (hg : Mag64 1051 g) (ht : Mag64 1051 t) : Mag64 1053 (FP.dsub g t) := dsub_mag hg ht (by decide)
open Jvm.Free.Fl in
theorem own_mul {v d : UInt64} (hv : Mag64 1051 v) (hd : Mag64 1053 d) : Mag64 1082 (FP.dmul v d) := (dmul_mag hv hd (by decide) (by decide)).mono (by decide)
open Jvm.Free.Fl in
theorem own_nn {K : Nat} {x : UInt64} (h : Mag64 K x) (hK : K ≤ 2047) : NoNaN64 x := (h.fin hK).noNaN
open Jvm.Free.Fl in
theorem own_k5 : Mag64 1051 (4617315517961601024 : UInt64) ∧ Mag64 1051 (4621819117588971520 : UInt64) ∧ Mag64 1051 (4624633867356078080 : UInt64) ∧ Mag64 1051 (4626322717216342016 : UInt64) ∧ Mag64 1051 (4630826316843712512 : UInt64) ∧ Mag64 1051 (4633641066610819072 : UInt64) := by refine ⟨?_, ?_, ?_, ?_, ?_, ?_⟩ <;> (show (_ : Nat) % 9223372036854775808 < _) <;> decide
/-- a rate above nought -/
theorem own_pos {k : Int32} (h : 1 ≤ k.toInt) : FP.dcmp (FP.ddiv (FP.i2d k) (4634204016564240384 : UInt64)) 0 = some .gt := by
  have hw : Jvm.FP.Core.Whole k.toInt (Jvm.FP.Core.val64 (FP.i2d k)) := Jvm.FP.Core.i2d_int k
  have hf : Jvm.FP.Core.fits Jvm.FP.Core.b64 (Jvm.FP.Core.val64 (FP.i2d k)) := Jvm.FP.Core.val64_fits _
  have e64 : Jvm.FP.Core.val64 (4634204016564240384 : UInt64) = .fin false (2 ^ 52) (-46) := by decide +kernel
  have e0 : Jvm.FP.Core.val64 0 = .fin false 0 (-1074) := by decide +kernel
  have ev : Jvm.FP.Core.val64 (FP.ddiv (FP.i2d k) (4634204016564240384 : UInt64)) = Jvm.FP.Core.quotient Jvm.FP.Core.b64 (Jvm.FP.Core.val64 (FP.i2d k)) (Jvm.FP.Core.val64 (4634204016564240384 : UInt64)) := Jvm.FP.Core.val64_ddiv _ _
  have eo : FP.dcmp (FP.ddiv (FP.i2d k) (4634204016564240384 : UInt64)) 0 = Jvm.FP.Core.order (Jvm.FP.Core.val64 (FP.ddiv (FP.i2d k) (4634204016564240384 : UInt64))) (Jvm.FP.Core.val64 0) := rfl
  rw [eo, ev, e64, e0]
  generalize Jvm.FP.Core.val64 (FP.i2d k) = d at hw hf
  cases d with
  | nan => exact hw.elim
  | inf => exact hw.elim
  | fin s c q =>
    have hs : s = false := by
      rw [Jvm.FP.Core.whole_sign hw (by omega)]
      exact decide_eq_false (by omega)
    subst hs
    have hf' : c < 2 ^ 53 ∧ (-1074 : Int) ≤ q ∧ q ≤ 971 ∧ (q = -1074 ∨ 2 ^ 52 ≤ c) := hf
    have hw' : ((c * 2 ^ q.toNat : Nat) : Int) = k.toInt * ((2 ^ (-q).toNat : Nat) : Int) := hw
    obtain ⟨f1, f2, f3, f4⟩ := hf'
    have hq : -53 < q := by
      by_cases hn : -53 < q
      · exact hn
      · exfalso
        have z : q.toNat = 0 := by omega
        rw [z, Nat.pow_zero, Nat.mul_one] at hw'
        have l : 2 ^ 53 ≤ 2 ^ (-q).toNat := Nat.pow_le_pow_right (by decide) (by omega)
        have l2 : (1 : Int) * ((2 ^ (-q).toNat : Nat) : Int) ≤ k.toInt * ((2 ^ (-q).toNat : Nat) : Int) := Int.mul_le_mul_of_nonneg_right h (Int.natCast_nonneg _)
        generalize k.toInt * ((2 ^ (-q).toNat : Nat) : Int) = M at hw' l2
        generalize 2 ^ (-q).toNat = P at l l2
        omega
    have hq2 : Jvm.FP.Core.quotient Jvm.FP.Core.b64 (.fin false c q) (.fin false (2 ^ 52) (-46)) = .fin false c (q - 6) := by
      have e : Jvm.FP.Core.quotient Jvm.FP.Core.b64 (.fin false c q) (.fin false (2 ^ 52) (-46)) = Jvm.FP.Core.roundRatio Jvm.FP.Core.b64 false c (2 ^ 52) (q - -46) := rfl
      rw [e]
      refine Jvm.FP.Core.roundRatio_exact Jvm.FP.Core.good_b64 (by decide) (show c < 2 ^ 53 ∧ (-1074 : Int) ≤ q - 6 ∧ q - 6 ≤ 971 ∧ (q - 6 = -1074 ∨ 2 ^ 52 ≤ c) from ⟨f1, by omega, by omega, Or.inr (by omega)⟩) ?_
      rw [show (q - -46 - (q - 6)).toNat = 52 by omega, show (q - 6 - (q - -46)).toNat = 0 by omega, Nat.pow_zero, Nat.mul_one]
    rw [hq2]
    show some (compare (Jvm.FP.Core.signed false (Jvm.FP.Core.inUnits c (q - 6) (min (q - 6) (-1074)))) (Jvm.FP.Core.signed false (Jvm.FP.Core.inUnits 0 (-1074) (min (q - 6) (-1074))))) = some .gt
    have m : min (q - 6) (-1074) = -1074 := by omega
    rw [m]
    have hz : Jvm.FP.Core.signed false (Jvm.FP.Core.inUnits 0 (-1074) (-1074)) = 0 := by decide
    have hp : 0 < Jvm.FP.Core.signed false (Jvm.FP.Core.inUnits c (q - 6) (-1074)) := by
      show (0 : Int) < ((c * 2 ^ (q - 6 - -1074).toNat : Nat) : Int)
      have := Nat.mul_pos (show 0 < c by omega) (Nat.two_pow_pos (q - 6 - -1074).toNat)
      omega
    rw [hz]
    generalize Jvm.FP.Core.signed false (Jvm.FP.Core.inUnits c (q - 6) (-1074)) = v at hp
    exact congrArg some (Int.compare_eq_gt.2 hp)
theorem own_inf {x : UInt64} (h : Jvm.Free.Fl.Fin64 x) : ¬ ((0 : Int32) < cmpValue (FP.dcmp (x &&& 0x7fffffffffffffff) (9218868437227405311 : UInt64)) .l) := by
  have q := Jvm.Free.Fl.gt_max_iff h.noNaN
  rcases hr : FP.dcmp (x &&& 0x7fffffffffffffff) (9218868437227405311 : UInt64) with _ | (_ | _ | _)
  · decide
  · decide
  · decide
  · have : Jvm.Free.Fl.relGt (FP.dcmp (x &&& 0x7fffffffffffffff) Jvm.Free.Fl.maxD) = true := by show Jvm.Free.Fl.relGt (FP.dcmp (x &&& 0x7fffffffffffffff) (9218868437227405311 : UInt64)) = true; rw [hr]; rfl
    exact absurd h (q.mp this)
def own_pk (x y : UInt64) : UInt64 := Jvm.Native.java_lang_Math.nans.pick64 true x y
def own_t (v g k : UInt64) : UInt64 := FP.dmul v (FP.dsub g k)
def own_gt (x y : UInt64) : Prop := FP.dcmp x y = some .gt
instance (x y : UInt64) : Decidable (own_gt x y) := inferInstanceAs (Decidable (_ = _))
def own_mcd (v g : UInt64) : UInt64 := if own_gt (own_t v g (4617315517961601024 : UInt64)) (4624633867356078080 : UInt64) then (if own_gt (own_pk (4624633867356078080 : UInt64) (own_t v g (4621819117588971520 : UInt64))) (4630826316843712512 : UInt64) then (if own_gt (own_pk (4630826316843712512 : UInt64) (own_t v g (4624633867356078080 : UInt64))) (4633641066610819072 : UInt64) then own_pk (4633641066610819072 : UInt64) (own_t v g (4626322717216342016 : UInt64)) else own_pk (4630826316843712512 : UInt64) (own_t v g (4624633867356078080 : UInt64))) else own_pk (4624633867356078080 : UInt64) (own_t v g (4621819117588971520 : UInt64))) else own_t v g (4617315517961601024 : UInt64)
def own_exp (v g : UInt64) : UInt64 := if own_gt (own_t v g (4617315517961601024 : UInt64)) (4624633867356078080 : UInt64) then (if own_gt (own_t v g (4621819117588971520 : UInt64)) (4624633867356078080 : UInt64) then (if own_gt (own_t v g (4621819117588971520 : UInt64)) (4630826316843712512 : UInt64) then (if own_gt (own_t v g (4624633867356078080 : UInt64)) (4630826316843712512 : UInt64) then (if own_gt (own_t v g (4624633867356078080 : UInt64)) (4633641066610819072 : UInt64) then (if own_gt (own_t v g (4626322717216342016 : UInt64)) (4633641066610819072 : UInt64) then own_t v g (4626322717216342016 : UInt64) else (4633641066610819072 : UInt64)) else own_t v g (4624633867356078080 : UInt64)) else (4630826316843712512 : UInt64)) else own_t v g (4621819117588971520 : UInt64)) else (4624633867356078080 : UInt64)) else own_t v g (4617315517961601024 : UInt64)
/-- the branch on a comparison: above, or not *)
-/
theorem own_cv {x y : UInt64} (o : CmpOp) (hx : Jvm.Free.Fl.NoNaN64 x) (hy : Jvm.Free.Fl.NoNaN64 y) : (0 : Int32) < cmpValue (FP.dcmp x y) o ↔ own_gt x y := by
  obtain ⟨r, hr⟩ := Jvm.Free.Fl.dcmp_of_noNaN hx hy
  unfold own_gt; rw [hr]
  cases r <;> cases o <;> decide
theorem own_pks {u x : UInt64} (hu : (u >>> 63 == 1) = false) (hx : Jvm.Free.Fl.NoNaN64 x) (hn : Jvm.Free.Fl.NoNaN64 u) : own_pk u x = if own_gt x u then x else u := by
  obtain ⟨r, hr⟩ := Jvm.Free.Fl.dcmp_of_noNaN hx hn
  have hs : FP.dcmp u x = some r.swap := (Jvm.FP.Core.dcmp_swap x u).trans (congrArg (Option.map Ordering.swap) hr)
  have e : own_pk u x = (match FP.dcmp u x with
    | some .lt => if true then x else u
    | some .gt => if true then u else x
    | _ => if (u >>> 63 == 1) == true then x else u) := rfl
  rw [e, hs]
  cases r with
  | lt => rw [if_neg (show ¬ own_gt x u from fun z => by rw [show FP.dcmp x u = some .gt from z] at hr; cases hr)]; rfl
  | eq => rw [if_neg (show ¬ own_gt x u from fun z => by rw [show FP.dcmp x u = some .gt from z] at hr; cases hr)]; show (if (u >>> 63 == 1) == true then x else u) = u; rw [hu]; rfl
  | gt => rw [if_pos (show own_gt x u from hr)]; rfl
theorem own_tn {v g : UInt64} (hv : Jvm.Free.Fl.Mag64 1051 v) (hg : Jvm.Free.Fl.Mag64 1051 g) {k : UInt64} (hk : Jvm.Free.Fl.Mag64 1051 k) : Jvm.Free.Fl.NoNaN64 (own_t v g k) := own_nn (own_mul hv (own_sub hg hk)) (by decide)
theorem own_same {v g : UInt64} (hv : Jvm.Free.Fl.Mag64 1051 v) (hg : Jvm.Free.Fl.Mag64 1051 g) : own_mcd v g = own_exp v g := by
  obtain ⟨k5, k10, k15, k20, k40, k60⟩ := own_k5
  have n15 := own_nn k15 (by decide); have n40 := own_nn k40 (by decide); have n60 := own_nn k60 (by decide)
  have a := own_tn hv hg k10; have b := own_tn hv hg k15; have d := own_tn hv hg k20
  have q1 : ¬ own_gt (4624633867356078080 : UInt64) (4630826316843712512 : UInt64) := by unfold own_gt; decide +kernel
  have q2 : ¬ own_gt (4630826316843712512 : UInt64) (4633641066610819072 : UInt64) := by unfold own_gt; decide +kernel
  unfold own_mcd own_exp
  rw [own_pks (by decide) a n15, own_pks (by decide) b n40, own_pks (by decide) d n60]
  generalize own_t v g (4621819117588971520 : UInt64) = A at *
  generalize own_t v g (4624633867356078080 : UInt64) = B at *
  generalize own_t v g (4626322717216342016 : UInt64) = E at *
  by_cases h1 : own_gt A (4624633867356078080 : UInt64) <;> by_cases h2 : own_gt B (4630826316843712512 : UInt64) <;> simp [h1, h2, q1, q2]
theorem pd_0 : parseMethodDescriptor "(D)D" = some ⟨[.double], some .double⟩ := by decide +kernel
theorem d3_0 : decode jdk_117_method_7_code 0 = .ok (.dload_n 0, 1) := by decide +kernel
theorem d3_1 : decode jdk_117_method_7_code 1 = .ok (.invokestatic 38, 3) := by decide +kernel
theorem d3_4 : decode jdk_117_method_7_code 4 = .ok (.ldc2_w 111, 3) := by decide +kernel
theorem d3_7 : decode jdk_117_method_7_code 7 = .ok (.dcmp .l, 1) := by decide +kernel
theorem d3_8 : decode jdk_117_method_7_code 8 = .ok (.ifCond .le 7, 3) := by decide +kernel
theorem d3_15 : decode jdk_117_method_7_code 15 = .ok (.iconst 0, 1) := by decide +kernel
theorem d3_16 : decode jdk_117_method_7_code 16 = .ok (.ireturn, 1) := by decide +kernel
theorem pn_java_lang_Double : plainName "java/lang/Double" = true := by first | (simp [plainName, overriddenIn]; done) | decide +kernel
theorem ef_3 (m : MethodId) (x0 : UInt64) : entryFrame m #[(.double x0)] 2 = mkF m 0 #[.val (.double x0), .second] [] := by first | (simp [entryFrame, mkF, argsToLocals, Value.category]; done) | rfl
def Q3 (Z : State) (x : UInt64) (h0 : Heap) (n0 : Nat) (v : Option Value) (h : Heap) (L : List Loc) : Prop := v = some (.int (0 : Int32)) ∧ Fr n0 L ∧ h = h0
set_option maxRecDepth 65536 in
set_option maxHeartbeats 40000000 in
theorem rm3 (l : Launch) (Z : State) (a0 : Array Value) (hw : ∀ d ∈ tables_1, d.before a0 Z = true) (ws : List Jvm.Cond) (x : UInt64) (h0 : Heap) (n0 : Nat) (Z0 : n0 ≤ h0.size) (hfin : Jvm.Free.Fl.Fin64 x) :
    MetFree l (⟨"java/lang/Double", "isInfinite", "(D)Z"⟩ : MethodName) (head1 (Jvm.Cond.code (⟨"java/lang/Double", "isInfinite", "(D)Z"⟩ : MethodName) jdk_117_method_7_code 2 (some .boolean) :: ws) ({ frames := 1, cells := 0, slots := 0, locals := 13 } : Room)) (fun argz U => argz = #[(.double x)] ∧ Z.Warmed39 U.vm ∧ U.heap = h0) (fun _ _ _ _ _ => True) (fun _ U o U' => ∃ v L, o = .returned v ∧ Q3 Z x h0 n0 v U'.heap L ∧ FrameEnd U o U' L ({ frames := 1, cells := 0, slots := 0, locals := 13 } : Room).cells ({ frames := 1, cells := 0, slots := 0, locals := 13 } : Room).slots) := by
  refine MetFree.of_bodySF (plainFor_of_name pn_java_lang_Double) hisR ?_
  intro p e s m args below meth c s₁ Bd hml0 hP hK
  obtain ⟨rfl, hZ, hh⟩ := hP
  have hx := Bd.exec
  have hby := Bd.bytes
  have hml : c.maxLocals = 2 := hml0
  have hown : s.vm.findClass "java/lang/Double" = some m.cls := findClass_of_methodNamed Bd.named
  have hnm := (name_of_methodNamed Bd.named Bd.method).1
  have X0 : Stand p l e ({ frames := 1, cells := 0, slots := 0, locals := 13 } : Room) s m #[(.double x)] below meth c s₁ [] 0 0 := Stand.of_body Bd
  have e0 : s₁.heap = h0 := by rw [← hh, Bd.state]; rfl
  have N0 := Fr.nil n0
  have G : Gets p e below (s₁.setTop (entryFrame m #[(.double x)] 2)) (s₁.setTop (mkF m 0 #[.val (.double x), .second] [])) := fun t k => castTop (ef_3 m x) k
  replace G := own_dloadN (q := 1) G X0.here hx (hb hby d3_0) rfl rfl
  obtain ⟨T1, X1, e1, st1⟩ := natS X0 hx hZ (y := (⟨"java/lang/Math", "abs", "(D)D"⟩ : MethodName)) hown (hw _ (List.mem_of_getElem? (i := 16) rfl)) (hw _ (List.mem_of_getElem? (i := 17) rfl)) (hw _ (List.mem_of_getElem? (i := 18) rfl)) (hw _ (List.mem_of_getElem? (i := 19) rfl)) (by decide) e0 (W := 0) (fun c4 => Jvm.Free.Fl.Abs.absD_pays _ c4 (by decide) (by decide)) (g := (mkF m 1 #[.val (.double x), .second] [(.double x)])) rfl (by rw [hml]; rfl) (argsL := [(.double x)]) (rest := []) (lenOf pd_0 rfl) rfl (by show 2 * 0 + _ ≤ _; exact Nat.le_of_eq rfl) (hb hby d3_1) (by decide) (by decide) ⟨rfl, hfin.noNaN⟩ rfl
  replace G : Gets p e below _ (T1.setTop (mkF m 4 #[.val (.double x), .second] [(.double (x &&& 0x7fffffffffffffff))])) := fun t k => G t (st1 t k)
  replace G : Gets p e below _ (T1.setTop (mkF m 7 #[.val (.double x), .second] [(.double (9218868437227405311 : UInt64)), (.double (x &&& 0x7fffffffffffffff))])) := fun t k => G t (X1.ldc2DoubleC hx hown (mvT hZ (hw _ (List.mem_of_getElem? (i := 20) rfl))) (g := (mkF m 4 #[.val (.double x), .second] [(.double (x &&& 0x7fffffffffffffff))])) rfl (hb hby d3_4) t k)
  replace G := own_dcmp (q := 8) G X1.here hx (hb hby d3_7) rfl rfl
  have hc8_2 : ¬ ((0 : Int32) < (cmpValue (FP.dcmp (x &&& 0x7fffffffffffffff) (9218868437227405311 : UInt64)) .l)) := own_inf hfin
  replace G := own_ifYes (q := 15) G X1.here hx (hb hby d3_8) ((if0 _ _).trans (flt hc8_2).2.2.2) (by decide) (by decide)
  replace G := own_iconst (q := 16) G X1.here hx (hb hby d3_15) (v := (0 : Int32)) (by decide) rfl
  obtain ⟨fs, hr, hrun, hended, hW, hsame⟩ := X1.leave (v := some (.int (0 : Int32))) (fun h => by rw [Bd.returns] at h; cases h)
  refine ⟨_, _, G _ (retOut X1 hx Bd.returns rfl (Or.inl ⟨rfl, Or.inr (Or.inl rfl), _, rfl⟩) (hb hby d3_16) hr), hrun, hended, _, _, rfl, ?_, ⟨_, rfl⟩, hW, hsame.mono (by decide) (by decide)⟩
  show Q3 Z x h0 n0 _ T1.heap _
  rw [e1]
  exact ⟨rfl, N0, rfl⟩
theorem pd_1 : parseMethodDescriptor "(D)Z" = some ⟨[.double], some .boolean⟩ := by decide +kernel
theorem d1_0 : decode prog_40_method_1_code 0 = .ok (.aload_n 0, 1) := by decide +kernel
theorem d1_1 : decode prog_40_method_1_code 1 = .ok (.invokespecial 1, 3) := by decide +kernel
theorem d1_4 : decode prog_40_method_1_code 4 = .ok (.dload_n 1, 1) := by decide +kernel
theorem d1_5 : decode prog_40_method_1_code 5 = .ok (.dconst 0, 1) := by decide +kernel
theorem d1_6 : decode prog_40_method_1_code 6 = .ok (.dcmp .l, 1) := by decide +kernel
theorem d1_7 : decode prog_40_method_1_code 7 = .ok (.ifCond .le 10, 3) := by decide +kernel
theorem d1_10 : decode prog_40_method_1_code 10 = .ok (.dload_n 1, 1) := by decide +kernel
theorem d1_11 : decode prog_40_method_1_code 11 = .ok (.invokestatic 7, 3) := by decide +kernel
theorem d1_14 : decode prog_40_method_1_code 14 = .ok (.ifCond .eq 17, 3) := by decide +kernel
theorem d1_31 : decode prog_40_method_1_code 31 = .ok (.aload_n 0, 1) := by decide +kernel
theorem d1_32 : decode prog_40_method_1_code 32 = .ok (.dload_n 1, 1) := by decide +kernel
theorem d1_33 : decode prog_40_method_1_code 33 = .ok (.putfield 22, 3) := by decide +kernel
theorem d1_36 : decode prog_40_method_1_code 36 = .ok (.return_, 1) := by decide +kernel
theorem pn_com_example_swathwork_swathwork_planner_SlewTransition : plainName "com/example/swathwork/swathwork/planner/SlewTransition" = true := by first | (simp [plainName, overriddenIn]; done) | decide +kernel
theorem ef_1 (m : MethodId) (x0 : Addr) (x1 : UInt64) : entryFrame m #[(.ref x0), (.double x1)] 3 = mkF m 0 #[.val (.ref x0), .val (.double x1), .second] [] := by first | (simp [entryFrame, mkF, argsToLocals, Value.category]; done) | rfl
def Q1 (Z : State) (a : Addr) (x : UInt64) (h0 : Heap) (n0 : Nat) (v : Option Value) (h : Heap) (L : List Loc) : Prop := v = none ∧ Fr n0 L ∧ Keep h0 h [a] ∧ (Fld Z h a "com/example/swathwork/swathwork/planner/SlewTransition" "slewRateDegPerS" "D" (.double x))
set_option maxRecDepth 65536 in
set_option maxHeartbeats 40000000 in
theorem rm1 (l : Launch) (Z : State) (a0 : Array Value) (hw : ∀ d ∈ tables_1, d.before a0 Z = true) (ws : List Jvm.Cond) (a : Addr) (x : UInt64) (h0 : Heap) (n0 : Nat) (Z0 : n0 ≤ h0.size) (P0 : Fld Z h0 a "com/example/swathwork/swathwork/planner/SlewTransition" "slewRateDegPerS" "D" (.double (0 : UInt64))) (P1 : Exa Z h0 a "com/example/swathwork/swathwork/planner/SlewTransition") (P2 : n0 ≤ a) (hfin : Jvm.Free.Fl.Fin64 x) (hpos : FP.dcmp x 0 = some .gt) :
    MetFree l (⟨"com/example/swathwork/swathwork/planner/SlewTransition", "<init>", "(D)V"⟩ : MethodName) (head1 (Jvm.Cond.code (⟨"com/example/swathwork/swathwork/planner/SlewTransition", "<init>", "(D)V"⟩ : MethodName) prog_40_method_1_code 3 none :: ws) ({ frames := 2, cells := 0, slots := 0, locals := 26 } : Room)) (fun argz U => argz = #[(.ref a), (.double x)] ∧ Z.Warmed39 U.vm ∧ U.heap = h0) (fun _ _ _ _ _ => True) (fun _ U o U' => ∃ v L, o = .returned v ∧ Q1 Z a x h0 n0 v U'.heap L ∧ FrameEnd U o U' L ({ frames := 2, cells := 0, slots := 0, locals := 26 } : Room).cells ({ frames := 2, cells := 0, slots := 0, locals := 26 } : Room).slots) := by
  refine MetFree.of_bodySF (plainFor_of_name pn_com_example_swathwork_swathwork_planner_SlewTransition) hisR ?_
  intro p e s m args below meth c s₁ Bd hml0 hP hK
  obtain ⟨rfl, hZ, hh⟩ := hP
  have hx := Bd.exec
  have hby := Bd.bytes
  have hml : c.maxLocals = 3 := hml0
  have hown : s.vm.findClass "com/example/swathwork/swathwork/planner/SlewTransition" = some m.cls := findClass_of_methodNamed Bd.named
  have hnm := (name_of_methodNamed Bd.named Bd.method).1
  have X0 : Stand p l e ({ frames := 2, cells := 0, slots := 0, locals := 26 } : Room) s m #[(.ref a), (.double x)] below meth c s₁ [] 0 0 := Stand.of_body Bd
  have e0 : s₁.heap = h0 := by rw [← hh, Bd.state]; rfl
  have N0 := Fr.nil n0
  have K0 : Keep h0 h0 [a] := Keep.refl _ _
  have G : Gets p e below (s₁.setTop (entryFrame m #[(.ref a), (.double x)] 3)) (s₁.setTop (mkF m 0 #[.val (.ref a), .val (.double x), .second] [])) := fun t k => castTop (ef_1 m a x) k
  replace G := own_aloadN (q := 1) G X0.here hx (hb hby d1_0) rfl rfl rfl
  obtain ⟨T1, X1, e1, st1⟩ := initO X0 hx hZ hown (hw _ (List.mem_of_getElem? (i := 9) rfl)) (hw _ (List.mem_of_getElem? (i := 10) rfl)) (hw _ (List.mem_of_getElem? (i := 11) rfl)) e0 (g := (mkF m 1 #[.val (.ref a), .val (.double x), .second] [(.ref a)])) rfl (by rw [hml]; rfl) rfl (hb hby d1_1) (by decide) (W := 0) (by show 2 * 0 + _ ≤ _; exact Nat.le_of_eq rfl) (by decide)
  replace G : Gets p e below _ (T1.setTop (mkF m 4 #[.val (.ref a), .val (.double x), .second] [])) := fun t k => G t (st1 t k)
  replace G := own_dloadN (q := 5) G X1.here hx (hb hby d1_4) rfl rfl
  replace G := own_dconst0 (q := 6) G X1.here hx (hb hby d1_5) (v := (0 : UInt64)) (by decide +kernel) rfl
  replace G := own_dcmp (q := 7) G X1.here hx (hb hby d1_6) rfl rfl
  have hc7_2 : (0 : Int32) < (cmpValue (FP.dcmp x (0 : UInt64)) .l) := by rw [hpos]; decide
  replace G := own_ifNo (q := 10) G X1.here hx (hb hby d1_7) ((if0 _ _).trans (tlt hc7_2).2.2.2) rfl
  replace G := own_dloadN (q := 11) G X1.here hx (hb hby d1_10) rfl rfl
  obtain ⟨_, _, ⟨T3, L3, kk3, nn3⟩, -, X3, ⟨Lc3, hQ3, l3, y3, z3⟩, st3⟩ := Jvm.LawKit.callS X1 hx (y := (⟨"java/lang/Double", "isInfinite", "(D)Z"⟩ : MethodName)) hown (mvT hZ (hw _ (List.mem_of_getElem? (i := 12) rfl))) (mvT hZ (hw _ (List.mem_of_getElem? (i := 13) rfl))) (mvT hZ (hw _ (List.mem_of_getElem? (i := 14) rfl))) (mvT hZ (hw _ (List.mem_of_getElem? (i := 15) rfl))) (by decide) (backOf (W := 0) (rm3 l Z a0 hw [] x h0 n0 Z0 hfin) hZ (hw _ (List.mem_of_getElem? (i := 15) rfl)) (hw _ (List.mem_of_getElem? (i := 14) rfl)) (by decide) (by decide)) (g := (mkF m 11 #[.val (.ref a), .val (.double x), .second] [(.double x)])) rfl (by rw [hml]; rfl) (argsL := [(.double x)]) (rest := []) (lenOf pd_1 rfl) rfl (by show 2 * 0 + _ ≤ _; exact Nat.le_of_eq rfl) (hb hby d1_11) (fun _ _ => ⟨rfl, e1, (by decide : 0 + 0 ≤ _), (by decide : 0 + 0 ≤ _)⟩)
  dsimp only [Pt.U, Pt.locs, Pt.cells, Pt.slots] at X3 l3 y3 z3 st3 hQ3
  subst l3 y3 z3
  obtain ⟨rfl, N3q, e3⟩ := hQ3
  have N3 := Fr.app N0 N3q
  replace G : Gets p e below _ (T3.setTop (mkF m 14 #[.val (.ref a), .val (.double x), .second] [(.int (0 : Int32))])) := fun t k => G t (st3 t k)
  have hc14_4 : (0 : Int32) = (0 : Int32) := by decide
  replace G := own_ifYes (q := 31) G X3.here hx (hb hby d1_14) ((if0 _ _).trans (teq hc14_4).1) (by decide) (by decide)
  replace G := own_aloadN (q := 32) G X3.here hx (hb hby d1_31) rfl rfl rfl
  replace G := own_dloadN (q := 33) G X3.here hx (hb hby d1_32) rfl rfl
  obtain ⟨T5, h5, X5, e5, W5, st5⟩ := putF X3 hx hZ hown (host := "") (Or.inl (hw _ (List.mem_of_getElem? (i := 21) rfl))) Via.refl e3 P0 P1 (Or.inr ⟨(hw _ (List.mem_of_getElem? (i := 22) rfl)), rfl, hnm⟩) (hw _ (List.mem_of_getElem? (i := 4) rfl)) (ty := .double) (by decide) rfl rfl (g := (mkF m 33 #[.val (.ref a), .val (.double x), .second] [(.double x), (.ref a)])) rfl rfl (hb hby d1_33)
  have N5 := Fr.snoc X5 N3 P2
  have Z5 : n0 ≤ h5.size := Nat.le_trans Z0 (Keep.of_wr W5).1
  have K5 : Keep h0 h5 [a] := K0.wr W5 (Or.inl (List.mem_of_getElem? (i := 0) rfl))
  have F5 : Fld Z h5 a "com/example/swathwork/swathwork/planner/SlewTransition" "slewRateDegPerS" "D" (.double x) := P0.same W5
  replace G : Gets p e below _ (T5.setTop (mkF m 36 #[.val (.ref a), .val (.double x), .second] [])) := fun t k => G t (st5 t k)
  obtain ⟨fs, hr, hrun, hended, hW, hsame⟩ := X5.leave (v := none) (fun _ => rfl)
  refine ⟨_, _, G _ (X5.returnOut hx Bd.returns (hb hby d1_36) hr), hrun, hended, _, _, rfl, ?_, ⟨_, rfl⟩, hW, hsame.mono (by decide) (by decide)⟩
  show Q1 Z a x h0 n0 _ T5.heap _
  rw [e5]
  exact ⟨rfl, N5, K5, F5⟩
theorem own_pkn {u x : UInt64} (hu : Jvm.Free.Fl.NoNaN64 u) (hx : Jvm.Free.Fl.NoNaN64 x) : Jvm.Free.Fl.NoNaN64 (own_pk u x) := by
  unfold own_pk; rcases Jvm.Free.Fl.pick64_or true u x with h | h <;> rw [h] <;> assumption
theorem pd_2 : parseMethodDescriptor "(DD)D" = some ⟨[.double, .double], some .double⟩ := by decide +kernel
theorem d5_0 : decode prog_40_method_12_code 0 = .ok (.aload_n 0, 1) := by decide +kernel
theorem d5_1 : decode prog_40_method_12_code 1 = .ok (.getfield 22, 3) := by decide +kernel
theorem d5_4 : decode prog_40_method_12_code 4 = .ok (.dload_n 1, 1) := by decide +kernel
theorem d5_5 : decode prog_40_method_12_code 5 = .ok (.getstatic 77, 3) := by decide +kernel
theorem d5_8 : decode prog_40_method_12_code 8 = .ok (.iconst 0, 1) := by decide +kernel
theorem d5_9 : decode prog_40_method_12_code 9 = .ok (.daload, 1) := by decide +kernel
theorem d5_10 : decode prog_40_method_12_code 10 = .ok (.dsub, 1) := by decide +kernel
theorem d5_11 : decode prog_40_method_12_code 11 = .ok (.dmul, 1) := by decide +kernel
theorem d5_12 : decode prog_40_method_12_code 12 = .ok (.dstore_n 3, 1) := by decide +kernel
theorem d5_13 : decode prog_40_method_12_code 13 = .ok (.iconst 1, 1) := by decide +kernel
theorem d5_14 : decode prog_40_method_12_code 14 = .ok (.istore 5, 2) := by decide +kernel
theorem d5_16 : decode prog_40_method_12_code 16 = .ok (.iload 5, 2) := by decide +kernel
theorem d5_18 : decode prog_40_method_12_code 18 = .ok (.getstatic 77, 3) := by decide +kernel
theorem d5_21 : decode prog_40_method_12_code 21 = .ok (.arraylength, 1) := by decide +kernel
theorem d5_22 : decode prog_40_method_12_code 22 = .ok (.if_icmp .ge 47, 3) := by decide +kernel
theorem d5_25 : decode prog_40_method_12_code 25 = .ok (.dload_n 3, 1) := by decide +kernel
theorem d5_26 : decode prog_40_method_12_code 26 = .ok (.getstatic 81, 3) := by decide +kernel
theorem d5_29 : decode prog_40_method_12_code 29 = .ok (.iload 5, 2) := by decide +kernel
theorem d5_31 : decode prog_40_method_12_code 31 = .ok (.iconst 1, 1) := by decide +kernel
theorem d5_32 : decode prog_40_method_12_code 32 = .ok (.isub, 1) := by decide +kernel
theorem d5_33 : decode prog_40_method_12_code 33 = .ok (.daload, 1) := by decide +kernel
theorem d5_34 : decode prog_40_method_12_code 34 = .ok (.dcmp .l, 1) := by decide +kernel
theorem d5_35 : decode prog_40_method_12_code 35 = .ok (.ifCond .le 34, 3) := by decide +kernel
theorem d5_38 : decode prog_40_method_12_code 38 = .ok (.getstatic 81, 3) := by decide +kernel
theorem d5_41 : decode prog_40_method_12_code 41 = .ok (.iload 5, 2) := by decide +kernel
theorem d5_43 : decode prog_40_method_12_code 43 = .ok (.iconst 1, 1) := by decide +kernel
theorem d5_44 : decode prog_40_method_12_code 44 = .ok (.isub, 1) := by decide +kernel
theorem d5_45 : decode prog_40_method_12_code 45 = .ok (.daload, 1) := by decide +kernel
theorem d5_46 : decode prog_40_method_12_code 46 = .ok (.aload_n 0, 1) := by decide +kernel
theorem d5_47 : decode prog_40_method_12_code 47 = .ok (.getfield 22, 3) := by decide +kernel
theorem d5_50 : decode prog_40_method_12_code 50 = .ok (.dload_n 1, 1) := by decide +kernel
theorem d5_51 : decode prog_40_method_12_code 51 = .ok (.getstatic 77, 3) := by decide +kernel
theorem d5_54 : decode prog_40_method_12_code 54 = .ok (.iload 5, 2) := by decide +kernel
theorem d5_56 : decode prog_40_method_12_code 56 = .ok (.daload, 1) := by decide +kernel
theorem d5_57 : decode prog_40_method_12_code 57 = .ok (.dsub, 1) := by decide +kernel
theorem d5_58 : decode prog_40_method_12_code 58 = .ok (.dmul, 1) := by decide +kernel
theorem d5_59 : decode prog_40_method_12_code 59 = .ok (.invokestatic 73, 3) := by decide +kernel
theorem d5_62 : decode prog_40_method_12_code 62 = .ok (.dstore_n 3, 1) := by decide +kernel
theorem d5_63 : decode prog_40_method_12_code 63 = .ok (.iinc 5 1, 3) := by decide +kernel
theorem d5_66 : decode prog_40_method_12_code 66 = .ok (.goto (-50), 3) := by decide +kernel
theorem d5_69 : decode prog_40_method_12_code 69 = .ok (.dload_n 3, 1) := by decide +kernel
theorem d5_70 : decode prog_40_method_12_code 70 = .ok (.dreturn, 1) := by decide +kernel
theorem ef_5 (m : MethodId) (x0 : Addr) (x1 : UInt64) : entryFrame m #[(.ref x0), (.double x1)] 6 = mkF m 0 #[.val (.ref x0), .val (.double x1), .second, .unset, .unset, .unset] [] := by first | (simp [entryFrame, mkF, argsToLocals, Value.category]; done) | rfl
def Q5 (Z : State) (a : Addr) (rg : UInt64) (rv : UInt64) (s1 : Addr) (s2 : Addr) (k1 : ClassId) (k2 : ClassId) (h0 : Heap) (n0 : Nat) (v : Option Value) (h : Heap) (L : List Loc) : Prop := v = some (.double (own_mcd rv rg)) ∧ Fr n0 L ∧ h = h0
set_option maxRecDepth 65536 in
set_option maxHeartbeats 40000000 in
theorem rm5 (l : Launch) (Z : State) (a0 : Array Value) (hw : ∀ d ∈ tables_1, d.before a0 Z = true) (ws : List Jvm.Cond) (a : Addr) (rg : UInt64) (rv : UInt64) (s1 : Addr) (s2 : Addr) (k1 : ClassId) (k2 : ClassId) (h0 : Heap) (n0 : Nat) (Z0 : n0 ≤ h0.size) (P0 : Fld Z h0 a "com/example/swathwork/swathwork/planner/SlewTransition" "slewRateDegPerS" "D" (.double rv)) (P1 : Sta Z h0 "com/example/swathwork/swathwork/planner/SlewTransition" "SETTLING_S" "[D" (.ref s1)) (P2 : Sta Z h0 "com/example/swathwork/swathwork/planner/SlewTransition" "UPPER_DEG" "[D" (.ref s2)) (P3 : Arv Z h0 s1 k1 .double (4 : Int32) [(.double (4617315517961601024 : UInt64)), (.double (4621819117588971520 : UInt64)), (.double (4624633867356078080 : UInt64)), (.double (4626322717216342016 : UInt64))] (.double (0 : UInt64))) (P4 : Arv Z h0 s2 k2 .double (3 : Int32) [(.double (4624633867356078080 : UInt64)), (.double (4630826316843712512 : UInt64)), (.double (4633641066610819072 : UInt64))] (.double (0 : UInt64))) (hv : Jvm.Free.Fl.Mag64 1051 rv) (hg : Jvm.Free.Fl.Mag64 1051 rg) :
    MetFree l (⟨"com/example/swathwork/swathwork/planner/SlewTransition", "maximumChangeDeg", "(D)D"⟩ : MethodName) (head1 (Jvm.Cond.code (⟨"com/example/swathwork/swathwork/planner/SlewTransition", "maximumChangeDeg", "(D)D"⟩ : MethodName) prog_40_method_12_code 6 (some .double) :: ws) ({ frames := 1, cells := 0, slots := 0, locals := 15 } : Room)) (fun argz U => argz = #[(.ref a), (.double rg)] ∧ Z.Warmed39 U.vm ∧ U.heap = h0) (fun _ _ _ _ _ => True) (fun _ U o U' => ∃ v L, o = .returned v ∧ Q5 Z a rg rv s1 s2 k1 k2 h0 n0 v U'.heap L ∧ FrameEnd U o U' L ({ frames := 1, cells := 0, slots := 0, locals := 15 } : Room).cells ({ frames := 1, cells := 0, slots := 0, locals := 15 } : Room).slots) := by
  refine MetFree.of_bodySF (plainFor_of_name pn_com_example_swathwork_swathwork_planner_SlewTransition) hisR ?_
  intro p e s m args below meth c s₁ Bd hml0 hP hK
  obtain ⟨rfl, hZ, hh⟩ := hP
  have hx := Bd.exec
  have hby := Bd.bytes
  have hml : c.maxLocals = 6 := hml0
  have hown : s.vm.findClass "com/example/swathwork/swathwork/planner/SlewTransition" = some m.cls := findClass_of_methodNamed Bd.named
  have hnm := (name_of_methodNamed Bd.named Bd.method).1
  have X0 : Stand p l e ({ frames := 1, cells := 0, slots := 0, locals := 15 } : Room) s m #[(.ref a), (.double rg)] below meth c s₁ [] 0 0 := Stand.of_body Bd
  have e0 : s₁.heap = h0 := by rw [← hh, Bd.state]; rfl
  have N0 := Fr.nil n0
  have G : Gets p e below (s₁.setTop (entryFrame m #[(.ref a), (.double rg)] 6)) (s₁.setTop (mkF m 0 #[.val (.ref a), .val (.double rg), .second, .unset, .unset, .unset] [])) := fun t k => castTop (ef_5 m a rg) k
  replace G := own_aloadN (q := 1) G X0.here hx (hb hby d5_0) rfl rfl rfl
  obtain ⟨T1, X1, e1, st1⟩ := getF X0 hx hZ hown (host := "") (Or.inl (hw _ (List.mem_of_getElem? (i := 21) rfl))) Via.refl e0 P0 (g := (mkF m 1 #[.val (.ref a), .val (.double rg), .second, .unset, .unset, .unset] [(.ref a)])) rfl rfl (hb hby d5_1)
  replace G : Gets p e below _ (T1.setTop (mkF m 4 #[.val (.ref a), .val (.double rg), .second, .unset, .unset, .unset] [(.double rv)])) := fun t k => G t (st1 t k)
  replace G := own_dloadN (q := 5) G X1.here hx (hb hby d5_4) rfl rfl
  obtain ⟨T2, X2, e2, st2⟩ := getS2 X1 hx hZ hown (host := "") (Or.inl (hw _ (List.mem_of_getElem? (i := 28) rfl))) Via.refl e1 P1 (g := (mkF m 5 #[.val (.ref a), .val (.double rg), .second, .unset, .unset, .unset] [(.double rg), (.double rv)])) rfl (hb hby d5_5)
  replace G : Gets p e below _ (T2.setTop (mkF m 8 #[.val (.ref a), .val (.double rg), .second, .unset, .unset, .unset] [(.ref s1), (.double rg), (.double rv)])) := fun t k => G t (st2 t k)
  replace G := own_iconst (q := 9) G X2.here hx (hb hby d5_8) (v := (0 : Int32)) (by decide) rfl
  obtain ⟨c3, Ar3, -, S3, -, H3, -⟩ := id P3
  have hin3 : ¬ ((0 : Int32) < 0 ∨ c3.slots.size ≤ ((0 : Int32)).toNatClampNeg) := inb_of S3 ⟨by decide, by decide⟩
  replace G : Gets p e below _ (T2.setTop (mkF m 10 #[.val (.ref a), .val (.double rg), .second, .unset, .unset, .unset] [(.double (4617315517961601024 : UInt64)), (.double rg), (.double rv)])) := fun t k => G t (X2.daload hx (j := (0 : Int32)) (v := (.double (4617315517961601024 : UInt64))) (by rw [e2]; exact Ar3.1) (State.isArrayOf_alike hZ.alike Ar3.2.1) Ar3.2.2 hin3 (Has.at H3 hin3 rfl) (g := (mkF m 9 #[.val (.ref a), .val (.double rg), .second, .unset, .unset, .unset] [(.int (0 : Int32)), (.ref s1), (.double rg), (.double rv)])) rfl rfl (hb hby d5_9) t k)
  replace G := own_dsub (q := 11) G X2.here hx (hb hby d5_10) (own_nn (own_sub hg own_k5.1) (by decide)) rfl rfl
  replace G := own_dmul (q := 12) G X2.here hx (hb hby d5_11) (own_tn hv hg own_k5.1) rfl rfl
  replace G := own_dstoreN (q := 13) (l' := #[.val (.ref a), .val (.double rg), .second, .val (.double (own_t rv rg (4617315517961601024 : UInt64))), .second, .unset]) G X2.here hx (hb hby d5_12) rfl rfl
  replace G := own_iconst (q := 14) G X2.here hx (hb hby d5_13) (v := (1 : Int32)) (by decide) rfl
  replace G := own_istore (q := 16) (l' := #[.val (.ref a), .val (.double rg), .second, .val (.double (own_t rv rg (4617315517961601024 : UInt64))), .second, .val (.int (1 : Int32))]) G X2.here hx (hb hby d5_14) rfl rfl
  replace G := own_iload (q := 18) G X2.here hx (hb hby d5_16) rfl rfl
  obtain ⟨T4, X4, e4, st4⟩ := getS2 X2 hx hZ hown (host := "") (Or.inl (hw _ (List.mem_of_getElem? (i := 28) rfl))) Via.refl e2 P1 (g := (mkF m 18 #[.val (.ref a), .val (.double rg), .second, .val (.double (own_t rv rg (4617315517961601024 : UInt64))), .second, .val (.int (1 : Int32))] [(.int (1 : Int32))])) rfl (hb hby d5_18)
  replace G : Gets p e below _ (T4.setTop (mkF m 21 #[.val (.ref a), .val (.double rg), .second, .val (.double (own_t rv rg (4617315517961601024 : UInt64))), .second, .val (.int (1 : Int32))] [(.ref s1), (.int (1 : Int32))])) := fun t k => G t (st4 t k)
  obtain ⟨c5, Ar5, -, S5, N5', -, -⟩ := id P3
  replace G : Gets p e below _ (T4.setTop (mkF m 22 #[.val (.ref a), .val (.double rg), .second, .val (.double (own_t rv rg (4617315517961601024 : UInt64))), .second, .val (.int (1 : Int32))] [(.int (4 : Int32)), (.int (1 : Int32))])) := fun t k => G t (X4.arraylength hx (by rw [e4]; exact Ar5.1) (State.isArrayOf_alike hZ.alike Ar5.2.1) (g := (mkF m 21 #[.val (.ref a), .val (.double rg), .second, .val (.double (own_t rv rg (4617315517961601024 : UInt64))), .second, .val (.int (1 : Int32))] [(.ref s1), (.int (1 : Int32))])) rfl rfl (hb hby d5_21) t (by rw [len_of S5 N5']; exact k))
  have hc22_6 : (1 : Int32) < (4 : Int32) := by decide
  replace G := own_icmpNo (q := 25) G X4.here hx (hb hby d5_22) (tlt hc22_6).2.1 rfl
  replace G := own_dloadN (q := 26) G X4.here hx (hb hby d5_25) rfl rfl
  obtain ⟨T7, X7, e7, st7⟩ := getS2 X4 hx hZ hown (host := "") (Or.inl (hw _ (List.mem_of_getElem? (i := 30) rfl))) Via.refl e4 P2 (g := (mkF m 26 #[.val (.ref a), .val (.double rg), .second, .val (.double (own_t rv rg (4617315517961601024 : UInt64))), .second, .val (.int (1 : Int32))] [(.double (own_t rv rg (4617315517961601024 : UInt64)))])) rfl (hb hby d5_26)
  replace G : Gets p e below _ (T7.setTop (mkF m 29 #[.val (.ref a), .val (.double rg), .second, .val (.double (own_t rv rg (4617315517961601024 : UInt64))), .second, .val (.int (1 : Int32))] [(.ref s2), (.double (own_t rv rg (4617315517961601024 : UInt64)))])) := fun t k => G t (st7 t k)
  replace G := own_iload (q := 31) G X7.here hx (hb hby d5_29) rfl rfl
  replace G := own_iconst (q := 32) G X7.here hx (hb hby d5_31) (v := (1 : Int32)) (by decide) rfl
  replace G := own_isub (q := 33) G X7.here hx (hb hby d5_32) (by decide : ((1 : Int32) - (1 : Int32)) = (0 : Int32)) rfl
  obtain ⟨c8, Ar8, -, S8, -, H8, -⟩ := id P4
  have hin8 : ¬ ((0 : Int32) < 0 ∨ c8.slots.size ≤ ((0 : Int32)).toNatClampNeg) := inb_of S8 ⟨by decide, by decide⟩
  replace G : Gets p e below _ (T7.setTop (mkF m 34 #[.val (.ref a), .val (.double rg), .second, .val (.double (own_t rv rg (4617315517961601024 : UInt64))), .second, .val (.int (1 : Int32))] [(.double (4624633867356078080 : UInt64)), (.double (own_t rv rg (4617315517961601024 : UInt64)))])) := fun t k => G t (X7.daload hx (j := (0 : Int32)) (v := (.double (4624633867356078080 : UInt64))) (by rw [e7]; exact Ar8.1) (State.isArrayOf_alike hZ.alike Ar8.2.1) Ar8.2.2 hin8 (Has.at H8 hin8 rfl) (g := (mkF m 33 #[.val (.ref a), .val (.double rg), .second, .val (.double (own_t rv rg (4617315517961601024 : UInt64))), .second, .val (.int (1 : Int32))] [(.int (0 : Int32)), (.ref s2), (.double (own_t rv rg (4617315517961601024 : UInt64)))])) rfl rfl (hb hby d5_33) t k)
  replace G := own_dcmp (q := 35) G X7.here hx (hb hby d5_34) rfl rfl
  by_cases hc35_9 : (0 : Int32) < (cmpValue (FP.dcmp (own_t rv rg (4617315517961601024 : UInt64)) (4624633867356078080 : UInt64)) .l)
  · replace G := own_ifNo (q := 38) G X7.here hx (hb hby d5_35) ((if0 _ _).trans (tlt hc35_9).2.2.2) rfl
    obtain ⟨T10, X10, e10, st10⟩ := getS2 X7 hx hZ hown (host := "") (Or.inl (hw _ (List.mem_of_getElem? (i := 30) rfl))) Via.refl e7 P2 (g := (mkF m 38 #[.val (.ref a), .val (.double rg), .second, .val (.double (own_t rv rg (4617315517961601024 : UInt64))), .second, .val (.int (1 : Int32))] [])) rfl (hb hby d5_38)
    replace G : Gets p e below _ (T10.setTop (mkF m 41 #[.val (.ref a), .val (.double rg), .second, .val (.double (own_t rv rg (4617315517961601024 : UInt64))), .second, .val (.int (1 : Int32))] [(.ref s2)])) := fun t k => G t (st10 t k)
    replace G := own_iload (q := 43) G X10.here hx (hb hby d5_41) rfl rfl
    replace G := own_iconst (q := 44) G X10.here hx (hb hby d5_43) (v := (1 : Int32)) (by decide) rfl
    replace G := own_isub (q := 45) G X10.here hx (hb hby d5_44) (by decide : ((1 : Int32) - (1 : Int32)) = (0 : Int32)) rfl
    obtain ⟨c11, Ar11, -, S11, -, H11, -⟩ := id P4
    have hin11 : ¬ ((0 : Int32) < 0 ∨ c11.slots.size ≤ ((0 : Int32)).toNatClampNeg) := inb_of S11 ⟨by decide, by decide⟩
    replace G : Gets p e below _ (T10.setTop (mkF m 46 #[.val (.ref a), .val (.double rg), .second, .val (.double (own_t rv rg (4617315517961601024 : UInt64))), .second, .val (.int (1 : Int32))] [(.double (4624633867356078080 : UInt64))])) := fun t k => G t (X10.daload hx (j := (0 : Int32)) (v := (.double (4624633867356078080 : UInt64))) (by rw [e10]; exact Ar11.1) (State.isArrayOf_alike hZ.alike Ar11.2.1) Ar11.2.2 hin11 (Has.at H11 hin11 rfl) (g := (mkF m 45 #[.val (.ref a), .val (.double rg), .second, .val (.double (own_t rv rg (4617315517961601024 : UInt64))), .second, .val (.int (1 : Int32))] [(.int (0 : Int32)), (.ref s2)])) rfl rfl (hb hby d5_45) t k)
    replace G := own_aloadN (q := 47) G X10.here hx (hb hby d5_46) rfl rfl rfl
    obtain ⟨T12, X12, e12, st12⟩ := getF X10 hx hZ hown (host := "") (Or.inl (hw _ (List.mem_of_getElem? (i := 21) rfl))) Via.refl e10 P0 (g := (mkF m 47 #[.val (.ref a), .val (.double rg), .second, .val (.double (own_t rv rg (4617315517961601024 : UInt64))), .second, .val (.int (1 : Int32))] [(.ref a), (.double (4624633867356078080 : UInt64))])) rfl rfl (hb hby d5_47)
    replace G : Gets p e below _ (T12.setTop (mkF m 50 #[.val (.ref a), .val (.double rg), .second, .val (.double (own_t rv rg (4617315517961601024 : UInt64))), .second, .val (.int (1 : Int32))] [(.double rv), (.double (4624633867356078080 : UInt64))])) := fun t k => G t (st12 t k)
    replace G := own_dloadN (q := 51) G X12.here hx (hb hby d5_50) rfl rfl
    obtain ⟨T13, X13, e13, st13⟩ := getS2 X12 hx hZ hown (host := "") (Or.inl (hw _ (List.mem_of_getElem? (i := 28) rfl))) Via.refl e12 P1 (g := (mkF m 51 #[.val (.ref a), .val (.double rg), .second, .val (.double (own_t rv rg (4617315517961601024 : UInt64))), .second, .val (.int (1 : Int32))] [(.double rg), (.double rv), (.double (4624633867356078080 : UInt64))])) rfl (hb hby d5_51)
    replace G : Gets p e below _ (T13.setTop (mkF m 54 #[.val (.ref a), .val (.double rg), .second, .val (.double (own_t rv rg (4617315517961601024 : UInt64))), .second, .val (.int (1 : Int32))] [(.ref s1), (.double rg), (.double rv), (.double (4624633867356078080 : UInt64))])) := fun t k => G t (st13 t k)
    replace G := own_iload (q := 56) G X13.here hx (hb hby d5_54) rfl rfl
    obtain ⟨c14, Ar14, -, S14, -, H14, -⟩ := id P3
    have hin14 : ¬ ((1 : Int32) < 0 ∨ c14.slots.size ≤ ((1 : Int32)).toNatClampNeg) := inb_of S14 ⟨by decide, by decide⟩
    replace G : Gets p e below _ (T13.setTop (mkF m 57 #[.val (.ref a), .val (.double rg), .second, .val (.double (own_t rv rg (4617315517961601024 : UInt64))), .second, .val (.int (1 : Int32))] [(.double (4621819117588971520 : UInt64)), (.double rg), (.double rv), (.double (4624633867356078080 : UInt64))])) := fun t k => G t (X13.daload hx (j := (1 : Int32)) (v := (.double (4621819117588971520 : UInt64))) (by rw [e13]; exact Ar14.1) (State.isArrayOf_alike hZ.alike Ar14.2.1) Ar14.2.2 hin14 (Has.at H14 hin14 rfl) (g := (mkF m 56 #[.val (.ref a), .val (.double rg), .second, .val (.double (own_t rv rg (4617315517961601024 : UInt64))), .second, .val (.int (1 : Int32))] [(.int (1 : Int32)), (.ref s1), (.double rg), (.double rv), (.double (4624633867356078080 : UInt64))])) rfl rfl (hb hby d5_56) t k)
    replace G := own_dsub (q := 58) G X13.here hx (hb hby d5_57) (own_nn (own_sub hg own_k5.2.1) (by decide)) rfl rfl
    replace G := own_dmul (q := 59) G X13.here hx (hb hby d5_58) (own_tn hv hg own_k5.2.1) rfl rfl
    obtain ⟨T15, X15, e15, st15⟩ := natS X13 hx hZ (y := (⟨"java/lang/Math", "max", "(DD)D"⟩ : MethodName)) hown (hw _ (List.mem_of_getElem? (i := 38) rfl)) (hw _ (List.mem_of_getElem? (i := 39) rfl)) (hw _ (List.mem_of_getElem? (i := 18) rfl)) (hw _ (List.mem_of_getElem? (i := 40) rfl)) (by decide) e13 (W := 0) (fun c4 => Jvm.Free.Fl.Abs.maxD_pays _ _ c4 (by decide) (by decide)) (g := (mkF m 59 #[.val (.ref a), .val (.double rg), .second, .val (.double (own_t rv rg (4617315517961601024 : UInt64))), .second, .val (.int (1 : Int32))] [(.double (own_t rv rg (4621819117588971520 : UInt64))), (.double (4624633867356078080 : UInt64))])) rfl (by rw [hml]; rfl) (argsL := [(.double (4624633867356078080 : UInt64)), (.double (own_t rv rg (4621819117588971520 : UInt64)))]) (rest := []) (lenOf pd_2 rfl) rfl (by show 2 * 0 + _ ≤ _; exact Nat.le_of_eq rfl) (hb hby d5_59) (by decide) (by decide) ⟨rfl, (own_nn own_k5.2.2.1 (by decide)), (own_tn hv hg own_k5.2.1)⟩ rfl
    replace G : Gets p e below _ (T15.setTop (mkF m 62 #[.val (.ref a), .val (.double rg), .second, .val (.double (own_t rv rg (4617315517961601024 : UInt64))), .second, .val (.int (1 : Int32))] [(.double (own_pk (4624633867356078080 : UInt64) (own_t rv rg (4621819117588971520 : UInt64))))])) := fun t k => G t (st15 t k)
    replace G := own_dstoreN (q := 63) (l' := #[.val (.ref a), .val (.double rg), .second, .val (.double (own_pk (4624633867356078080 : UInt64) (own_t rv rg (4621819117588971520 : UInt64)))), .second, .val (.int (1 : Int32))]) G X15.here hx (hb hby d5_62) rfl rfl
    replace G := own_iinc (q := 66) (l' := #[.val (.ref a), .val (.double rg), .second, .val (.double (own_pk (4624633867356078080 : UInt64) (own_t rv rg (4621819117588971520 : UInt64)))), .second, .val (.int (2 : Int32))]) (w := (1 : Int32)) G X15.here hx (hb hby d5_63) (by decide) rfl (by decide : ((1 : Int32) + (1 : Int32)) = (2 : Int32)) rfl rfl
    replace G := own_goto (q := 16) G X15.here hx (hb hby d5_66) (by decide) (by decide)
    replace G := own_iload (q := 18) G X15.here hx (hb hby d5_16) rfl rfl
    obtain ⟨T16, X16, e16, st16⟩ := getS2 X15 hx hZ hown (host := "") (Or.inl (hw _ (List.mem_of_getElem? (i := 28) rfl))) Via.refl e15 P1 (g := (mkF m 18 #[.val (.ref a), .val (.double rg), .second, .val (.double (own_pk (4624633867356078080 : UInt64) (own_t rv rg (4621819117588971520 : UInt64)))), .second, .val (.int (2 : Int32))] [(.int (2 : Int32))])) rfl (hb hby d5_18)
    replace G : Gets p e below _ (T16.setTop (mkF m 21 #[.val (.ref a), .val (.double rg), .second, .val (.double (own_pk (4624633867356078080 : UInt64) (own_t rv rg (4621819117588971520 : UInt64)))), .second, .val (.int (2 : Int32))] [(.ref s1), (.int (2 : Int32))])) := fun t k => G t (st16 t k)
    obtain ⟨c17, Ar17, -, S17, N17', -, -⟩ := id P3
    replace G : Gets p e below _ (T16.setTop (mkF m 22 #[.val (.ref a), .val (.double rg), .second, .val (.double (own_pk (4624633867356078080 : UInt64) (own_t rv rg (4621819117588971520 : UInt64)))), .second, .val (.int (2 : Int32))] [(.int (4 : Int32)), (.int (2 : Int32))])) := fun t k => G t (X16.arraylength hx (by rw [e16]; exact Ar17.1) (State.isArrayOf_alike hZ.alike Ar17.2.1) (g := (mkF m 21 #[.val (.ref a), .val (.double rg), .second, .val (.double (own_pk (4624633867356078080 : UInt64) (own_t rv rg (4621819117588971520 : UInt64)))), .second, .val (.int (2 : Int32))] [(.ref s1), (.int (2 : Int32))])) rfl rfl (hb hby d5_21) t (by rw [len_of S17 N17']; exact k))
    have hc22_18 : (2 : Int32) < (4 : Int32) := by decide
    replace G := own_icmpNo (q := 25) G X16.here hx (hb hby d5_22) (tlt hc22_18).2.1 rfl
    replace G := own_dloadN (q := 26) G X16.here hx (hb hby d5_25) rfl rfl
    obtain ⟨T19, X19, e19, st19⟩ := getS2 X16 hx hZ hown (host := "") (Or.inl (hw _ (List.mem_of_getElem? (i := 30) rfl))) Via.refl e16 P2 (g := (mkF m 26 #[.val (.ref a), .val (.double rg), .second, .val (.double (own_pk (4624633867356078080 : UInt64) (own_t rv rg (4621819117588971520 : UInt64)))), .second, .val (.int (2 : Int32))] [(.double (own_pk (4624633867356078080 : UInt64) (own_t rv rg (4621819117588971520 : UInt64))))])) rfl (hb hby d5_26)
    replace G : Gets p e below _ (T19.setTop (mkF m 29 #[.val (.ref a), .val (.double rg), .second, .val (.double (own_pk (4624633867356078080 : UInt64) (own_t rv rg (4621819117588971520 : UInt64)))), .second, .val (.int (2 : Int32))] [(.ref s2), (.double (own_pk (4624633867356078080 : UInt64) (own_t rv rg (4621819117588971520 : UInt64))))])) := fun t k => G t (st19 t k)
    replace G := own_iload (q := 31) G X19.here hx (hb hby d5_29) rfl rfl
    replace G := own_iconst (q := 32) G X19.here hx (hb hby d5_31) (v := (1 : Int32)) (by decide) rfl
    replace G := own_isub (q := 33) G X19.here hx (hb hby d5_32) (by decide : ((2 : Int32) - (1 : Int32)) = (1 : Int32)) rfl
    obtain ⟨c20, Ar20, -, S20, -, H20, -⟩ := id P4
    have hin20 : ¬ ((1 : Int32) < 0 ∨ c20.slots.size ≤ ((1 : Int32)).toNatClampNeg) := inb_of S20 ⟨by decide, by decide⟩
    replace G : Gets p e below _ (T19.setTop (mkF m 34 #[.val (.ref a), .val (.double rg), .second, .val (.double (own_pk (4624633867356078080 : UInt64) (own_t rv rg (4621819117588971520 : UInt64)))), .second, .val (.int (2 : Int32))] [(.double (4630826316843712512 : UInt64)), (.double (own_pk (4624633867356078080 : UInt64) (own_t rv rg (4621819117588971520 : UInt64))))])) := fun t k => G t (X19.daload hx (j := (1 : Int32)) (v := (.double (4630826316843712512 : UInt64))) (by rw [e19]; exact Ar20.1) (State.isArrayOf_alike hZ.alike Ar20.2.1) Ar20.2.2 hin20 (Has.at H20 hin20 rfl) (g := (mkF m 33 #[.val (.ref a), .val (.double rg), .second, .val (.double (own_pk (4624633867356078080 : UInt64) (own_t rv rg (4621819117588971520 : UInt64)))), .second, .val (.int (2 : Int32))] [(.int (1 : Int32)), (.ref s2), (.double (own_pk (4624633867356078080 : UInt64) (own_t rv rg (4621819117588971520 : UInt64))))])) rfl rfl (hb hby d5_33) t k)
    replace G := own_dcmp (q := 35) G X19.here hx (hb hby d5_34) rfl rfl
    by_cases hc35_21 : (0 : Int32) < (cmpValue (FP.dcmp (own_pk (4624633867356078080 : UInt64) (own_t rv rg (4621819117588971520 : UInt64))) (4630826316843712512 : UInt64)) .l)
    · replace G := own_ifNo (q := 38) G X19.here hx (hb hby d5_35) ((if0 _ _).trans (tlt hc35_21).2.2.2) rfl
      obtain ⟨T22, X22, e22, st22⟩ := getS2 X19 hx hZ hown (host := "") (Or.inl (hw _ (List.mem_of_getElem? (i := 30) rfl))) Via.refl e19 P2 (g := (mkF m 38 #[.val (.ref a), .val (.double rg), .second, .val (.double (own_pk (4624633867356078080 : UInt64) (own_t rv rg (4621819117588971520 : UInt64)))), .second, .val (.int (2 : Int32))] [])) rfl (hb hby d5_38)
      replace G : Gets p e below _ (T22.setTop (mkF m 41 #[.val (.ref a), .val (.double rg), .second, .val (.double (own_pk (4624633867356078080 : UInt64) (own_t rv rg (4621819117588971520 : UInt64)))), .second, .val (.int (2 : Int32))] [(.ref s2)])) := fun t k => G t (st22 t k)
      replace G := own_iload (q := 43) G X22.here hx (hb hby d5_41) rfl rfl
      replace G := own_iconst (q := 44) G X22.here hx (hb hby d5_43) (v := (1 : Int32)) (by decide) rfl
      replace G := own_isub (q := 45) G X22.here hx (hb hby d5_44) (by decide : ((2 : Int32) - (1 : Int32)) = (1 : Int32)) rfl
      obtain ⟨c23, Ar23, -, S23, -, H23, -⟩ := id P4
      have hin23 : ¬ ((1 : Int32) < 0 ∨ c23.slots.size ≤ ((1 : Int32)).toNatClampNeg) := inb_of S23 ⟨by decide, by decide⟩
      replace G : Gets p e below _ (T22.setTop (mkF m 46 #[.val (.ref a), .val (.double rg), .second, .val (.double (own_pk (4624633867356078080 : UInt64) (own_t rv rg (4621819117588971520 : UInt64)))), .second, .val (.int (2 : Int32))] [(.double (4630826316843712512 : UInt64))])) := fun t k => G t (X22.daload hx (j := (1 : Int32)) (v := (.double (4630826316843712512 : UInt64))) (by rw [e22]; exact Ar23.1) (State.isArrayOf_alike hZ.alike Ar23.2.1) Ar23.2.2 hin23 (Has.at H23 hin23 rfl) (g := (mkF m 45 #[.val (.ref a), .val (.double rg), .second, .val (.double (own_pk (4624633867356078080 : UInt64) (own_t rv rg (4621819117588971520 : UInt64)))), .second, .val (.int (2 : Int32))] [(.int (1 : Int32)), (.ref s2)])) rfl rfl (hb hby d5_45) t k)
      replace G := own_aloadN (q := 47) G X22.here hx (hb hby d5_46) rfl rfl rfl
      obtain ⟨T24, X24, e24, st24⟩ := getF X22 hx hZ hown (host := "") (Or.inl (hw _ (List.mem_of_getElem? (i := 21) rfl))) Via.refl e22 P0 (g := (mkF m 47 #[.val (.ref a), .val (.double rg), .second, .val (.double (own_pk (4624633867356078080 : UInt64) (own_t rv rg (4621819117588971520 : UInt64)))), .second, .val (.int (2 : Int32))] [(.ref a), (.double (4630826316843712512 : UInt64))])) rfl rfl (hb hby d5_47)
      replace G : Gets p e below _ (T24.setTop (mkF m 50 #[.val (.ref a), .val (.double rg), .second, .val (.double (own_pk (4624633867356078080 : UInt64) (own_t rv rg (4621819117588971520 : UInt64)))), .second, .val (.int (2 : Int32))] [(.double rv), (.double (4630826316843712512 : UInt64))])) := fun t k => G t (st24 t k)
      replace G := own_dloadN (q := 51) G X24.here hx (hb hby d5_50) rfl rfl
      obtain ⟨T25, X25, e25, st25⟩ := getS2 X24 hx hZ hown (host := "") (Or.inl (hw _ (List.mem_of_getElem? (i := 28) rfl))) Via.refl e24 P1 (g := (mkF m 51 #[.val (.ref a), .val (.double rg), .second, .val (.double (own_pk (4624633867356078080 : UInt64) (own_t rv rg (4621819117588971520 : UInt64)))), .second, .val (.int (2 : Int32))] [(.double rg), (.double rv), (.double (4630826316843712512 : UInt64))])) rfl (hb hby d5_51)
      replace G : Gets p e below _ (T25.setTop (mkF m 54 #[.val (.ref a), .val (.double rg), .second, .val (.double (own_pk (4624633867356078080 : UInt64) (own_t rv rg (4621819117588971520 : UInt64)))), .second, .val (.int (2 : Int32))] [(.ref s1), (.double rg), (.double rv), (.double (4630826316843712512 : UInt64))])) := fun t k => G t (st25 t k)
      replace G := own_iload (q := 56) G X25.here hx (hb hby d5_54) rfl rfl
      obtain ⟨c26, Ar26, -, S26, -, H26, -⟩ := id P3
      have hin26 : ¬ ((2 : Int32) < 0 ∨ c26.slots.size ≤ ((2 : Int32)).toNatClampNeg) := inb_of S26 ⟨by decide, by decide⟩
      replace G : Gets p e below _ (T25.setTop (mkF m 57 #[.val (.ref a), .val (.double rg), .second, .val (.double (own_pk (4624633867356078080 : UInt64) (own_t rv rg (4621819117588971520 : UInt64)))), .second, .val (.int (2 : Int32))] [(.double (4624633867356078080 : UInt64)), (.double rg), (.double rv), (.double (4630826316843712512 : UInt64))])) := fun t k => G t (X25.daload hx (j := (2 : Int32)) (v := (.double (4624633867356078080 : UInt64))) (by rw [e25]; exact Ar26.1) (State.isArrayOf_alike hZ.alike Ar26.2.1) Ar26.2.2 hin26 (Has.at H26 hin26 rfl) (g := (mkF m 56 #[.val (.ref a), .val (.double rg), .second, .val (.double (own_pk (4624633867356078080 : UInt64) (own_t rv rg (4621819117588971520 : UInt64)))), .second, .val (.int (2 : Int32))] [(.int (2 : Int32)), (.ref s1), (.double rg), (.double rv), (.double (4630826316843712512 : UInt64))])) rfl rfl (hb hby d5_56) t k)
      replace G := own_dsub (q := 58) G X25.here hx (hb hby d5_57) (own_nn (own_sub hg own_k5.2.2.1) (by decide)) rfl rfl
      replace G := own_dmul (q := 59) G X25.here hx (hb hby d5_58) (own_tn hv hg own_k5.2.2.1) rfl rfl
      obtain ⟨T27, X27, e27, st27⟩ := natS X25 hx hZ (y := (⟨"java/lang/Math", "max", "(DD)D"⟩ : MethodName)) hown (hw _ (List.mem_of_getElem? (i := 38) rfl)) (hw _ (List.mem_of_getElem? (i := 39) rfl)) (hw _ (List.mem_of_getElem? (i := 18) rfl)) (hw _ (List.mem_of_getElem? (i := 40) rfl)) (by decide) e25 (W := 0) (fun c4 => Jvm.Free.Fl.Abs.maxD_pays _ _ c4 (by decide) (by decide)) (g := (mkF m 59 #[.val (.ref a), .val (.double rg), .second, .val (.double (own_pk (4624633867356078080 : UInt64) (own_t rv rg (4621819117588971520 : UInt64)))), .second, .val (.int (2 : Int32))] [(.double (own_t rv rg (4624633867356078080 : UInt64))), (.double (4630826316843712512 : UInt64))])) rfl (by rw [hml]; rfl) (argsL := [(.double (4630826316843712512 : UInt64)), (.double (own_t rv rg (4624633867356078080 : UInt64)))]) (rest := []) (lenOf pd_2 rfl) rfl (by show 2 * 0 + _ ≤ _; exact Nat.le_of_eq rfl) (hb hby d5_59) (by decide) (by decide) ⟨rfl, (own_nn own_k5.2.2.2.2.1 (by decide)), (own_tn hv hg own_k5.2.2.1)⟩ rfl
      replace G : Gets p e below _ (T27.setTop (mkF m 62 #[.val (.ref a), .val (.double rg), .second, .val (.double (own_pk (4624633867356078080 : UInt64) (own_t rv rg (4621819117588971520 : UInt64)))), .second, .val (.int (2 : Int32))] [(.double (own_pk (4630826316843712512 : UInt64) (own_t rv rg (4624633867356078080 : UInt64))))])) := fun t k => G t (st27 t k)
      replace G := own_dstoreN (q := 63) (l' := #[.val (.ref a), .val (.double rg), .second, .val (.double (own_pk (4630826316843712512 : UInt64) (own_t rv rg (4624633867356078080 : UInt64)))), .second, .val (.int (2 : Int32))]) G X27.here hx (hb hby d5_62) rfl rfl
      replace G := own_iinc (q := 66) (l' := #[.val (.ref a), .val (.double rg), .second, .val (.double (own_pk (4630826316843712512 : UInt64) (own_t rv rg (4624633867356078080 : UInt64)))), .second, .val (.int (3 : Int32))]) (w := (1 : Int32)) G X27.here hx (hb hby d5_63) (by decide) rfl (by decide : ((2 : Int32) + (1 : Int32)) = (3 : Int32)) rfl rfl
      replace G := own_goto (q := 16) G X27.here hx (hb hby d5_66) (by decide) (by decide)
      replace G := own_iload (q := 18) G X27.here hx (hb hby d5_16) rfl rfl
      obtain ⟨T28, X28, e28, st28⟩ := getS2 X27 hx hZ hown (host := "") (Or.inl (hw _ (List.mem_of_getElem? (i := 28) rfl))) Via.refl e27 P1 (g := (mkF m 18 #[.val (.ref a), .val (.double rg), .second, .val (.double (own_pk (4630826316843712512 : UInt64) (own_t rv rg (4624633867356078080 : UInt64)))), .second, .val (.int (3 : Int32))] [(.int (3 : Int32))])) rfl (hb hby d5_18)
      replace G : Gets p e below _ (T28.setTop (mkF m 21 #[.val (.ref a), .val (.double rg), .second, .val (.double (own_pk (4630826316843712512 : UInt64) (own_t rv rg (4624633867356078080 : UInt64)))), .second, .val (.int (3 : Int32))] [(.ref s1), (.int (3 : Int32))])) := fun t k => G t (st28 t k)
      obtain ⟨c29, Ar29, -, S29, N29', -, -⟩ := id P3
      replace G : Gets p e below _ (T28.setTop (mkF m 22 #[.val (.ref a), .val (.double rg), .second, .val (.double (own_pk (4630826316843712512 : UInt64) (own_t rv rg (4624633867356078080 : UInt64)))), .second, .val (.int (3 : Int32))] [(.int (4 : Int32)), (.int (3 : Int32))])) := fun t k => G t (X28.arraylength hx (by rw [e28]; exact Ar29.1) (State.isArrayOf_alike hZ.alike Ar29.2.1) (g := (mkF m 21 #[.val (.ref a), .val (.double rg), .second, .val (.double (own_pk (4630826316843712512 : UInt64) (own_t rv rg (4624633867356078080 : UInt64)))), .second, .val (.int (3 : Int32))] [(.ref s1), (.int (3 : Int32))])) rfl rfl (hb hby d5_21) t (by rw [len_of S29 N29']; exact k))
      have hc22_30 : (3 : Int32) < (4 : Int32) := by decide
      replace G := own_icmpNo (q := 25) G X28.here hx (hb hby d5_22) (tlt hc22_30).2.1 rfl
      replace G := own_dloadN (q := 26) G X28.here hx (hb hby d5_25) rfl rfl
      obtain ⟨T31, X31, e31, st31⟩ := getS2 X28 hx hZ hown (host := "") (Or.inl (hw _ (List.mem_of_getElem? (i := 30) rfl))) Via.refl e28 P2 (g := (mkF m 26 #[.val (.ref a), .val (.double rg), .second, .val (.double (own_pk (4630826316843712512 : UInt64) (own_t rv rg (4624633867356078080 : UInt64)))), .second, .val (.int (3 : Int32))] [(.double (own_pk (4630826316843712512 : UInt64) (own_t rv rg (4624633867356078080 : UInt64))))])) rfl (hb hby d5_26)
      replace G : Gets p e below _ (T31.setTop (mkF m 29 #[.val (.ref a), .val (.double rg), .second, .val (.double (own_pk (4630826316843712512 : UInt64) (own_t rv rg (4624633867356078080 : UInt64)))), .second, .val (.int (3 : Int32))] [(.ref s2), (.double (own_pk (4630826316843712512 : UInt64) (own_t rv rg (4624633867356078080 : UInt64))))])) := fun t k => G t (st31 t k)
      replace G := own_iload (q := 31) G X31.here hx (hb hby d5_29) rfl rfl
      replace G := own_iconst (q := 32) G X31.here hx (hb hby d5_31) (v := (1 : Int32)) (by decide) rfl
      replace G := own_isub (q := 33) G X31.here hx (hb hby d5_32) (by decide : ((3 : Int32) - (1 : Int32)) = (2 : Int32)) rfl
      obtain ⟨c32, Ar32, -, S32, -, H32, -⟩ := id P4
      have hin32 : ¬ ((2 : Int32) < 0 ∨ c32.slots.size ≤ ((2 : Int32)).toNatClampNeg) := inb_of S32 ⟨by decide, by decide⟩
      replace G : Gets p e below _ (T31.setTop (mkF m 34 #[.val (.ref a), .val (.double rg), .second, .val (.double (own_pk (4630826316843712512 : UInt64) (own_t rv rg (4624633867356078080 : UInt64)))), .second, .val (.int (3 : Int32))] [(.double (4633641066610819072 : UInt64)), (.double (own_pk (4630826316843712512 : UInt64) (own_t rv rg (4624633867356078080 : UInt64))))])) := fun t k => G t (X31.daload hx (j := (2 : Int32)) (v := (.double (4633641066610819072 : UInt64))) (by rw [e31]; exact Ar32.1) (State.isArrayOf_alike hZ.alike Ar32.2.1) Ar32.2.2 hin32 (Has.at H32 hin32 rfl) (g := (mkF m 33 #[.val (.ref a), .val (.double rg), .second, .val (.double (own_pk (4630826316843712512 : UInt64) (own_t rv rg (4624633867356078080 : UInt64)))), .second, .val (.int (3 : Int32))] [(.int (2 : Int32)), (.ref s2), (.double (own_pk (4630826316843712512 : UInt64) (own_t rv rg (4624633867356078080 : UInt64))))])) rfl rfl (hb hby d5_33) t k)
      replace G := own_dcmp (q := 35) G X31.here hx (hb hby d5_34) rfl rfl
      by_cases hc35_33 : (0 : Int32) < (cmpValue (FP.dcmp (own_pk (4630826316843712512 : UInt64) (own_t rv rg (4624633867356078080 : UInt64))) (4633641066610819072 : UInt64)) .l)
      · replace G := own_ifNo (q := 38) G X31.here hx (hb hby d5_35) ((if0 _ _).trans (tlt hc35_33).2.2.2) rfl
        obtain ⟨T34, X34, e34, st34⟩ := getS2 X31 hx hZ hown (host := "") (Or.inl (hw _ (List.mem_of_getElem? (i := 30) rfl))) Via.refl e31 P2 (g := (mkF m 38 #[.val (.ref a), .val (.double rg), .second, .val (.double (own_pk (4630826316843712512 : UInt64) (own_t rv rg (4624633867356078080 : UInt64)))), .second, .val (.int (3 : Int32))] [])) rfl (hb hby d5_38)
        replace G : Gets p e below _ (T34.setTop (mkF m 41 #[.val (.ref a), .val (.double rg), .second, .val (.double (own_pk (4630826316843712512 : UInt64) (own_t rv rg (4624633867356078080 : UInt64)))), .second, .val (.int (3 : Int32))] [(.ref s2)])) := fun t k => G t (st34 t k)
        replace G := own_iload (q := 43) G X34.here hx (hb hby d5_41) rfl rfl
        replace G := own_iconst (q := 44) G X34.here hx (hb hby d5_43) (v := (1 : Int32)) (by decide) rfl
        replace G := own_isub (q := 45) G X34.here hx (hb hby d5_44) (by decide : ((3 : Int32) - (1 : Int32)) = (2 : Int32)) rfl
        obtain ⟨c35, Ar35, -, S35, -, H35, -⟩ := id P4
        have hin35 : ¬ ((2 : Int32) < 0 ∨ c35.slots.size ≤ ((2 : Int32)).toNatClampNeg) := inb_of S35 ⟨by decide, by decide⟩
        replace G : Gets p e below _ (T34.setTop (mkF m 46 #[.val (.ref a), .val (.double rg), .second, .val (.double (own_pk (4630826316843712512 : UInt64) (own_t rv rg (4624633867356078080 : UInt64)))), .second, .val (.int (3 : Int32))] [(.double (4633641066610819072 : UInt64))])) := fun t k => G t (X34.daload hx (j := (2 : Int32)) (v := (.double (4633641066610819072 : UInt64))) (by rw [e34]; exact Ar35.1) (State.isArrayOf_alike hZ.alike Ar35.2.1) Ar35.2.2 hin35 (Has.at H35 hin35 rfl) (g := (mkF m 45 #[.val (.ref a), .val (.double rg), .second, .val (.double (own_pk (4630826316843712512 : UInt64) (own_t rv rg (4624633867356078080 : UInt64)))), .second, .val (.int (3 : Int32))] [(.int (2 : Int32)), (.ref s2)])) rfl rfl (hb hby d5_45) t k)
        replace G := own_aloadN (q := 47) G X34.here hx (hb hby d5_46) rfl rfl rfl
        obtain ⟨T36, X36, e36, st36⟩ := getF X34 hx hZ hown (host := "") (Or.inl (hw _ (List.mem_of_getElem? (i := 21) rfl))) Via.refl e34 P0 (g := (mkF m 47 #[.val (.ref a), .val (.double rg), .second, .val (.double (own_pk (4630826316843712512 : UInt64) (own_t rv rg (4624633867356078080 : UInt64)))), .second, .val (.int (3 : Int32))] [(.ref a), (.double (4633641066610819072 : UInt64))])) rfl rfl (hb hby d5_47)
        replace G : Gets p e below _ (T36.setTop (mkF m 50 #[.val (.ref a), .val (.double rg), .second, .val (.double (own_pk (4630826316843712512 : UInt64) (own_t rv rg (4624633867356078080 : UInt64)))), .second, .val (.int (3 : Int32))] [(.double rv), (.double (4633641066610819072 : UInt64))])) := fun t k => G t (st36 t k)
        replace G := own_dloadN (q := 51) G X36.here hx (hb hby d5_50) rfl rfl
        obtain ⟨T37, X37, e37, st37⟩ := getS2 X36 hx hZ hown (host := "") (Or.inl (hw _ (List.mem_of_getElem? (i := 28) rfl))) Via.refl e36 P1 (g := (mkF m 51 #[.val (.ref a), .val (.double rg), .second, .val (.double (own_pk (4630826316843712512 : UInt64) (own_t rv rg (4624633867356078080 : UInt64)))), .second, .val (.int (3 : Int32))] [(.double rg), (.double rv), (.double (4633641066610819072 : UInt64))])) rfl (hb hby d5_51)
        replace G : Gets p e below _ (T37.setTop (mkF m 54 #[.val (.ref a), .val (.double rg), .second, .val (.double (own_pk (4630826316843712512 : UInt64) (own_t rv rg (4624633867356078080 : UInt64)))), .second, .val (.int (3 : Int32))] [(.ref s1), (.double rg), (.double rv), (.double (4633641066610819072 : UInt64))])) := fun t k => G t (st37 t k)
        replace G := own_iload (q := 56) G X37.here hx (hb hby d5_54) rfl rfl
        obtain ⟨c38, Ar38, -, S38, -, H38, -⟩ := id P3
        have hin38 : ¬ ((3 : Int32) < 0 ∨ c38.slots.size ≤ ((3 : Int32)).toNatClampNeg) := inb_of S38 ⟨by decide, by decide⟩
        replace G : Gets p e below _ (T37.setTop (mkF m 57 #[.val (.ref a), .val (.double rg), .second, .val (.double (own_pk (4630826316843712512 : UInt64) (own_t rv rg (4624633867356078080 : UInt64)))), .second, .val (.int (3 : Int32))] [(.double (4626322717216342016 : UInt64)), (.double rg), (.double rv), (.double (4633641066610819072 : UInt64))])) := fun t k => G t (X37.daload hx (j := (3 : Int32)) (v := (.double (4626322717216342016 : UInt64))) (by rw [e37]; exact Ar38.1) (State.isArrayOf_alike hZ.alike Ar38.2.1) Ar38.2.2 hin38 (Has.at H38 hin38 rfl) (g := (mkF m 56 #[.val (.ref a), .val (.double rg), .second, .val (.double (own_pk (4630826316843712512 : UInt64) (own_t rv rg (4624633867356078080 : UInt64)))), .second, .val (.int (3 : Int32))] [(.int (3 : Int32)), (.ref s1), (.double rg), (.double rv), (.double (4633641066610819072 : UInt64))])) rfl rfl (hb hby d5_56) t k)
        replace G := own_dsub (q := 58) G X37.here hx (hb hby d5_57) (own_nn (own_sub hg own_k5.2.2.2.1) (by decide)) rfl rfl
        replace G := own_dmul (q := 59) G X37.here hx (hb hby d5_58) (own_tn hv hg own_k5.2.2.2.1) rfl rfl
        obtain ⟨T39, X39, e39, st39⟩ := natS X37 hx hZ (y := (⟨"java/lang/Math", "max", "(DD)D"⟩ : MethodName)) hown (hw _ (List.mem_of_getElem? (i := 38) rfl)) (hw _ (List.mem_of_getElem? (i := 39) rfl)) (hw _ (List.mem_of_getElem? (i := 18) rfl)) (hw _ (List.mem_of_getElem? (i := 40) rfl)) (by decide) e37 (W := 0) (fun c4 => Jvm.Free.Fl.Abs.maxD_pays _ _ c4 (by decide) (by decide)) (g := (mkF m 59 #[.val (.ref a), .val (.double rg), .second, .val (.double (own_pk (4630826316843712512 : UInt64) (own_t rv rg (4624633867356078080 : UInt64)))), .second, .val (.int (3 : Int32))] [(.double (own_t rv rg (4626322717216342016 : UInt64))), (.double (4633641066610819072 : UInt64))])) rfl (by rw [hml]; rfl) (argsL := [(.double (4633641066610819072 : UInt64)), (.double (own_t rv rg (4626322717216342016 : UInt64)))]) (rest := []) (lenOf pd_2 rfl) rfl (by show 2 * 0 + _ ≤ _; exact Nat.le_of_eq rfl) (hb hby d5_59) (by decide) (by decide) ⟨rfl, (own_nn own_k5.2.2.2.2.2 (by decide)), (own_tn hv hg own_k5.2.2.2.1)⟩ rfl
        replace G : Gets p e below _ (T39.setTop (mkF m 62 #[.val (.ref a), .val (.double rg), .second, .val (.double (own_pk (4630826316843712512 : UInt64) (own_t rv rg (4624633867356078080 : UInt64)))), .second, .val (.int (3 : Int32))] [(.double (own_pk (4633641066610819072 : UInt64) (own_t rv rg (4626322717216342016 : UInt64))))])) := fun t k => G t (st39 t k)
        replace G := own_dstoreN (q := 63) (l' := #[.val (.ref a), .val (.double rg), .second, .val (.double (own_pk (4633641066610819072 : UInt64) (own_t rv rg (4626322717216342016 : UInt64)))), .second, .val (.int (3 : Int32))]) G X39.here hx (hb hby d5_62) rfl rfl
        replace G := own_iinc (q := 66) (l' := #[.val (.ref a), .val (.double rg), .second, .val (.double (own_pk (4633641066610819072 : UInt64) (own_t rv rg (4626322717216342016 : UInt64)))), .second, .val (.int (4 : Int32))]) (w := (1 : Int32)) G X39.here hx (hb hby d5_63) (by decide) rfl (by decide : ((3 : Int32) + (1 : Int32)) = (4 : Int32)) rfl rfl
        replace G := own_goto (q := 16) G X39.here hx (hb hby d5_66) (by decide) (by decide)
        replace G := own_iload (q := 18) G X39.here hx (hb hby d5_16) rfl rfl
        obtain ⟨T40, X40, e40, st40⟩ := getS2 X39 hx hZ hown (host := "") (Or.inl (hw _ (List.mem_of_getElem? (i := 28) rfl))) Via.refl e39 P1 (g := (mkF m 18 #[.val (.ref a), .val (.double rg), .second, .val (.double (own_pk (4633641066610819072 : UInt64) (own_t rv rg (4626322717216342016 : UInt64)))), .second, .val (.int (4 : Int32))] [(.int (4 : Int32))])) rfl (hb hby d5_18)
        replace G : Gets p e below _ (T40.setTop (mkF m 21 #[.val (.ref a), .val (.double rg), .second, .val (.double (own_pk (4633641066610819072 : UInt64) (own_t rv rg (4626322717216342016 : UInt64)))), .second, .val (.int (4 : Int32))] [(.ref s1), (.int (4 : Int32))])) := fun t k => G t (st40 t k)
        obtain ⟨c41, Ar41, -, S41, N41', -, -⟩ := id P3
        replace G : Gets p e below _ (T40.setTop (mkF m 22 #[.val (.ref a), .val (.double rg), .second, .val (.double (own_pk (4633641066610819072 : UInt64) (own_t rv rg (4626322717216342016 : UInt64)))), .second, .val (.int (4 : Int32))] [(.int (4 : Int32)), (.int (4 : Int32))])) := fun t k => G t (X40.arraylength hx (by rw [e40]; exact Ar41.1) (State.isArrayOf_alike hZ.alike Ar41.2.1) (g := (mkF m 21 #[.val (.ref a), .val (.double rg), .second, .val (.double (own_pk (4633641066610819072 : UInt64) (own_t rv rg (4626322717216342016 : UInt64)))), .second, .val (.int (4 : Int32))] [(.ref s1), (.int (4 : Int32))])) rfl rfl (hb hby d5_21) t (by rw [len_of S41 N41']; exact k))
        have hc22_42 : ¬ ((4 : Int32) < (4 : Int32)) := by decide
        replace G := own_icmpYes (q := 69) G X40.here hx (hb hby d5_22) (flt hc22_42).2.1 (by decide) (by decide)
        replace G := own_dloadN (q := 70) G X40.here hx (hb hby d5_69) rfl rfl
        obtain ⟨fs, hr, hrun, hended, hW, hsame⟩ := X40.leave (v := some (.double (own_pk (4633641066610819072 : UInt64) (own_t rv rg (4626322717216342016 : UInt64))))) (fun h => by rw [Bd.returns] at h; cases h)
        refine ⟨_, _, G _ (retOut X40 hx Bd.returns rfl (Or.inr (Or.inr (Or.inl ⟨rfl, rfl, _, rfl⟩))) (hb hby d5_70) hr), hrun, hended, _, _, rfl, ?_, ⟨_, rfl⟩, hW, hsame.mono (by decide) (by decide)⟩
        show Q5 Z a rg rv s1 s2 k1 k2 h0 n0 _ T40.heap _
        rw [e40]
        exact ⟨(congrArg (fun z => some (Value.double z)) (by simp only [own_mcd, if_pos ((own_cv .l (own_tn hv hg own_k5.1) (own_nn own_k5.2.2.1 (by decide))).mp hc35_9), if_pos ((own_cv .l (own_pkn (own_nn own_k5.2.2.1 (by decide)) (own_tn hv hg own_k5.2.1)) (own_nn own_k5.2.2.2.2.1 (by decide))).mp hc35_21), if_pos ((own_cv .l (own_pkn (own_nn own_k5.2.2.2.2.1 (by decide)) (own_tn hv hg own_k5.2.2.1)) (own_nn own_k5.2.2.2.2.2 (by decide))).mp hc35_33)])), N0, rfl⟩
      · replace G := own_ifYes (q := 69) G X31.here hx (hb hby d5_35) ((if0 _ _).trans (flt hc35_33).2.2.2) (by decide) (by decide)
        replace G := own_dloadN (q := 70) G X31.here hx (hb hby d5_69) rfl rfl
        obtain ⟨fs, hr, hrun, hended, hW, hsame⟩ := X31.leave (v := some (.double (own_pk (4630826316843712512 : UInt64) (own_t rv rg (4624633867356078080 : UInt64))))) (fun h => by rw [Bd.returns] at h; cases h)
        refine ⟨_, _, G _ (retOut X31 hx Bd.returns rfl (Or.inr (Or.inr (Or.inl ⟨rfl, rfl, _, rfl⟩))) (hb hby d5_70) hr), hrun, hended, _, _, rfl, ?_, ⟨_, rfl⟩, hW, hsame.mono (by decide) (by decide)⟩
        show Q5 Z a rg rv s1 s2 k1 k2 h0 n0 _ T31.heap _
        rw [e31]
        exact ⟨(congrArg (fun z => some (Value.double z)) (by simp only [own_mcd, if_pos ((own_cv .l (own_tn hv hg own_k5.1) (own_nn own_k5.2.2.1 (by decide))).mp hc35_9), if_pos ((own_cv .l (own_pkn (own_nn own_k5.2.2.1 (by decide)) (own_tn hv hg own_k5.2.1)) (own_nn own_k5.2.2.2.2.1 (by decide))).mp hc35_21), if_neg (fun z => hc35_33 ((own_cv .l (own_pkn (own_nn own_k5.2.2.2.2.1 (by decide)) (own_tn hv hg own_k5.2.2.1)) (own_nn own_k5.2.2.2.2.2 (by decide))).mpr z))])), N0, rfl⟩
    · replace G := own_ifYes (q := 69) G X19.here hx (hb hby d5_35) ((if0 _ _).trans (flt hc35_21).2.2.2) (by decide) (by decide)
      replace G := own_dloadN (q := 70) G X19.here hx (hb hby d5_69) rfl rfl
      obtain ⟨fs, hr, hrun, hended, hW, hsame⟩ := X19.leave (v := some (.double (own_pk (4624633867356078080 : UInt64) (own_t rv rg (4621819117588971520 : UInt64))))) (fun h => by rw [Bd.returns] at h; cases h)
      refine ⟨_, _, G _ (retOut X19 hx Bd.returns rfl (Or.inr (Or.inr (Or.inl ⟨rfl, rfl, _, rfl⟩))) (hb hby d5_70) hr), hrun, hended, _, _, rfl, ?_, ⟨_, rfl⟩, hW, hsame.mono (by decide) (by decide)⟩
      show Q5 Z a rg rv s1 s2 k1 k2 h0 n0 _ T19.heap _
      rw [e19]
      exact ⟨(congrArg (fun z => some (Value.double z)) (by simp only [own_mcd, if_pos ((own_cv .l (own_tn hv hg own_k5.1) (own_nn own_k5.2.2.1 (by decide))).mp hc35_9), if_neg (fun z => hc35_21 ((own_cv .l (own_pkn (own_nn own_k5.2.2.1 (by decide)) (own_tn hv hg own_k5.2.1)) (own_nn own_k5.2.2.2.2.1 (by decide))).mpr z))])), N0, rfl⟩
  · replace G := own_ifYes (q := 69) G X7.here hx (hb hby d5_35) ((if0 _ _).trans (flt hc35_9).2.2.2) (by decide) (by decide)
    replace G := own_dloadN (q := 70) G X7.here hx (hb hby d5_69) rfl rfl
    obtain ⟨fs, hr, hrun, hended, hW, hsame⟩ := X7.leave (v := some (.double (own_t rv rg (4617315517961601024 : UInt64)))) (fun h => by rw [Bd.returns] at h; cases h)
    refine ⟨_, _, G _ (retOut X7 hx Bd.returns rfl (Or.inr (Or.inr (Or.inl ⟨rfl, rfl, _, rfl⟩))) (hb hby d5_70) hr), hrun, hended, _, _, rfl, ?_, ⟨_, rfl⟩, hW, hsame.mono (by decide) (by decide)⟩
    show Q5 Z a rg rv s1 s2 k1 k2 h0 n0 _ T7.heap _
    rw [e7]
    exact ⟨(congrArg (fun z => some (Value.double z)) (by simp only [own_mcd, if_neg (fun z => hc35_9 ((own_cv .l (own_tn hv hg own_k5.1) (own_nn own_k5.2.2.1 (by decide))).mpr z))])), N0, rfl⟩
theorem d6_0 : decode method_3_code 0 = .ok (.dload_n 0, 1) := by decide +kernel
theorem d6_1 : decode method_3_code 1 = .ok (.dload_n 2, 1) := by decide +kernel
theorem d6_2 : decode method_3_code 2 = .ok (.ldc2_w 27, 3) := by decide +kernel
theorem d6_5 : decode method_3_code 5 = .ok (.dsub, 1) := by decide +kernel
theorem d6_6 : decode method_3_code 6 = .ok (.dmul, 1) := by decide +kernel
theorem d6_7 : decode method_3_code 7 = .ok (.dstore 4, 2) := by decide +kernel
theorem d6_9 : decode method_3_code 9 = .ok (.dload 4, 2) := by decide +kernel
theorem d6_11 : decode method_3_code 11 = .ok (.ldc2_w 29, 3) := by decide +kernel
theorem d6_14 : decode method_3_code 14 = .ok (.dcmp .g, 1) := by decide +kernel
theorem d6_15 : decode method_3_code 15 = .ok (.ifCond .gt 6, 3) := by decide +kernel
theorem d6_18 : decode method_3_code 18 = .ok (.dload 4, 2) := by decide +kernel
theorem d6_20 : decode method_3_code 20 = .ok (.dreturn, 1) := by decide +kernel
theorem d6_21 : decode method_3_code 21 = .ok (.dload_n 0, 1) := by decide +kernel
theorem d6_22 : decode method_3_code 22 = .ok (.dload_n 2, 1) := by decide +kernel
theorem d6_23 : decode method_3_code 23 = .ok (.ldc2_w 31, 3) := by decide +kernel
theorem d6_26 : decode method_3_code 26 = .ok (.dsub, 1) := by decide +kernel
theorem d6_27 : decode method_3_code 27 = .ok (.dmul, 1) := by decide +kernel
theorem d6_28 : decode method_3_code 28 = .ok (.dstore 6, 2) := by decide +kernel
theorem d6_30 : decode method_3_code 30 = .ok (.dload 6, 2) := by decide +kernel
theorem d6_32 : decode method_3_code 32 = .ok (.ldc2_w 29, 3) := by decide +kernel
theorem d6_35 : decode method_3_code 35 = .ok (.dcmp .g, 1) := by decide +kernel
theorem d6_36 : decode method_3_code 36 = .ok (.ifCond .gt 7, 3) := by decide +kernel
theorem d6_39 : decode method_3_code 39 = .ok (.ldc2_w 29, 3) := by decide +kernel
theorem d6_42 : decode method_3_code 42 = .ok (.dreturn, 1) := by decide +kernel
theorem d6_43 : decode method_3_code 43 = .ok (.dload 6, 2) := by decide +kernel
theorem d6_45 : decode method_3_code 45 = .ok (.ldc2_w 33, 3) := by decide +kernel
theorem d6_48 : decode method_3_code 48 = .ok (.dcmp .g, 1) := by decide +kernel
theorem d6_49 : decode method_3_code 49 = .ok (.ifCond .gt 6, 3) := by decide +kernel
theorem d6_52 : decode method_3_code 52 = .ok (.dload 6, 2) := by decide +kernel
theorem d6_54 : decode method_3_code 54 = .ok (.dreturn, 1) := by decide +kernel
theorem d6_55 : decode method_3_code 55 = .ok (.dload_n 0, 1) := by decide +kernel
theorem d6_56 : decode method_3_code 56 = .ok (.dload_n 2, 1) := by decide +kernel
theorem d6_57 : decode method_3_code 57 = .ok (.ldc2_w 29, 3) := by decide +kernel
theorem d6_60 : decode method_3_code 60 = .ok (.dsub, 1) := by decide +kernel
theorem d6_61 : decode method_3_code 61 = .ok (.dmul, 1) := by decide +kernel
theorem d6_62 : decode method_3_code 62 = .ok (.dstore 8, 2) := by decide +kernel
theorem d6_64 : decode method_3_code 64 = .ok (.dload 8, 2) := by decide +kernel
theorem d6_66 : decode method_3_code 66 = .ok (.ldc2_w 33, 3) := by decide +kernel
theorem d6_69 : decode method_3_code 69 = .ok (.dcmp .g, 1) := by decide +kernel
theorem d6_70 : decode method_3_code 70 = .ok (.ifCond .gt 7, 3) := by decide +kernel
theorem d6_73 : decode method_3_code 73 = .ok (.ldc2_w 33, 3) := by decide +kernel
theorem d6_76 : decode method_3_code 76 = .ok (.dreturn, 1) := by decide +kernel
theorem d6_77 : decode method_3_code 77 = .ok (.dload 8, 2) := by decide +kernel
theorem d6_79 : decode method_3_code 79 = .ok (.ldc2_w 35, 3) := by decide +kernel
theorem d6_82 : decode method_3_code 82 = .ok (.dcmp .g, 1) := by decide +kernel
theorem d6_83 : decode method_3_code 83 = .ok (.ifCond .gt 6, 3) := by decide +kernel
theorem d6_86 : decode method_3_code 86 = .ok (.dload 8, 2) := by decide +kernel
theorem d6_88 : decode method_3_code 88 = .ok (.dreturn, 1) := by decide +kernel
theorem d6_89 : decode method_3_code 89 = .ok (.dload_n 0, 1) := by decide +kernel
theorem d6_90 : decode method_3_code 90 = .ok (.dload_n 2, 1) := by decide +kernel
theorem d6_91 : decode method_3_code 91 = .ok (.ldc2_w 37, 3) := by decide +kernel
theorem d6_94 : decode method_3_code 94 = .ok (.dsub, 1) := by decide +kernel
theorem d6_95 : decode method_3_code 95 = .ok (.dmul, 1) := by decide +kernel
theorem d6_96 : decode method_3_code 96 = .ok (.dstore 10, 2) := by decide +kernel
theorem d6_98 : decode method_3_code 98 = .ok (.dload 10, 2) := by decide +kernel
theorem d6_100 : decode method_3_code 100 = .ok (.ldc2_w 35, 3) := by decide +kernel
theorem d6_103 : decode method_3_code 103 = .ok (.dcmp .g, 1) := by decide +kernel
theorem d6_104 : decode method_3_code 104 = .ok (.ifCond .gt 7, 3) := by decide +kernel
theorem d6_107 : decode method_3_code 107 = .ok (.ldc2_w 35, 3) := by decide +kernel
theorem d6_110 : decode method_3_code 110 = .ok (.dreturn, 1) := by decide +kernel
theorem d6_111 : decode method_3_code 111 = .ok (.dload 10, 2) := by decide +kernel
theorem d6_113 : decode method_3_code 113 = .ok (.dreturn, 1) := by decide +kernel
theorem pn_com_example_swathwork_swathwork_planner_SlewTransitionMaximumChangeDegPinLaw : plainName "com/example/swathwork/swathwork/planner/SlewTransitionMaximumChangeDegPinLaw" = true := by first | (simp [plainName, overriddenIn]; done) | decide +kernel
theorem ef_6 (m : MethodId) (x0 : UInt64) (x1 : UInt64) : entryFrame m #[(.double x0), (.double x1)] 12 = mkF m 0 #[.val (.double x0), .second, .val (.double x1), .second, .unset, .unset, .unset, .unset, .unset, .unset, .unset, .unset] [] := by first | (simp [entryFrame, mkF, argsToLocals, Value.category]; done) | rfl
def Q6 (Z : State) (rv : UInt64) (rg : UInt64) (h0 : Heap) (n0 : Nat) (v : Option Value) (h : Heap) (L : List Loc) : Prop := v = some (.double (own_exp rv rg)) ∧ Fr n0 L ∧ h = h0
set_option maxRecDepth 65536 in
set_option maxHeartbeats 40000000 in
theorem rm6 (l : Launch) (Z : State) (a0 : Array Value) (hw : ∀ d ∈ tables_1, d.before a0 Z = true) (ws : List Jvm.Cond) (rv : UInt64) (rg : UInt64) (h0 : Heap) (n0 : Nat) (Z0 : n0 ≤ h0.size) (hv : Jvm.Free.Fl.Mag64 1051 rv) (hg : Jvm.Free.Fl.Mag64 1051 rg) :
    MetFree l (⟨"com/example/swathwork/swathwork/planner/SlewTransitionMaximumChangeDegPinLaw", "expected", "(DD)D"⟩ : MethodName) (head1 (Jvm.Cond.code (⟨"com/example/swathwork/swathwork/planner/SlewTransitionMaximumChangeDegPinLaw", "expected", "(DD)D"⟩ : MethodName) method_3_code 12 (some .double) :: ws) ({ frames := 0, cells := 0, slots := 0, locals := 0 } : Room)) (fun argz U => argz = #[(.double rv), (.double rg)] ∧ Z.Warmed39 U.vm ∧ U.heap = h0) (fun _ _ _ _ _ => True) (fun _ U o U' => ∃ v L, o = .returned v ∧ Q6 Z rv rg h0 n0 v U'.heap L ∧ FrameEnd U o U' L ({ frames := 0, cells := 0, slots := 0, locals := 0 } : Room).cells ({ frames := 0, cells := 0, slots := 0, locals := 0 } : Room).slots) := by
  refine MetFree.of_bodySF (plainFor_of_name pn_com_example_swathwork_swathwork_planner_SlewTransitionMaximumChangeDegPinLaw) hisR ?_
  intro p e s m args below meth c s₁ Bd hml0 hP hK
  obtain ⟨rfl, hZ, hh⟩ := hP
  have hx := Bd.exec
  have hby := Bd.bytes
  have hml : c.maxLocals = 12 := hml0
  have hown : s.vm.findClass "com/example/swathwork/swathwork/planner/SlewTransitionMaximumChangeDegPinLaw" = some m.cls := findClass_of_methodNamed Bd.named
  have hnm := (name_of_methodNamed Bd.named Bd.method).1
  have X0 : Stand p l e ({ frames := 0, cells := 0, slots := 0, locals := 0 } : Room) s m #[(.double rv), (.double rg)] below meth c s₁ [] 0 0 := Stand.of_body Bd
  have e0 : s₁.heap = h0 := by rw [← hh, Bd.state]; rfl
  have N0 := Fr.nil n0
  have G : Gets p e below (s₁.setTop (entryFrame m #[(.double rv), (.double rg)] 12)) (s₁.setTop (mkF m 0 #[.val (.double rv), .second, .val (.double rg), .second, .unset, .unset, .unset, .unset, .unset, .unset, .unset, .unset] [])) := fun t k => castTop (ef_6 m rv rg) k
  replace G := own_dloadN (q := 1) G X0.here hx (hb hby d6_0) rfl rfl
  replace G := own_dloadN (q := 2) G X0.here hx (hb hby d6_1) rfl rfl
  replace G : Gets p e below _ (s₁.setTop (mkF m 5 #[.val (.double rv), .second, .val (.double rg), .second, .unset, .unset, .unset, .unset, .unset, .unset, .unset, .unset] [(.double (4617315517961601024 : UInt64)), (.double rg), (.double rv)])) := fun t k => G t (X0.ldc2DoubleC hx hown (mvT hZ (hw _ (List.mem_of_getElem? (i := 36) rfl))) (g := (mkF m 2 #[.val (.double rv), .second, .val (.double rg), .second, .unset, .unset, .unset, .unset, .unset, .unset, .unset, .unset] [(.double rg), (.double rv)])) rfl (hb hby d6_2) t k)
  replace G := own_dsub (q := 6) G X0.here hx (hb hby d6_5) (own_nn (own_sub hg own_k5.1) (by decide)) rfl rfl
  replace G := own_dmul (q := 7) G X0.here hx (hb hby d6_6) (own_tn hv hg own_k5.1) rfl rfl
  replace G := own_dstore (q := 9) (l' := #[.val (.double rv), .second, .val (.double rg), .second, .val (.double (own_t rv rg (4617315517961601024 : UInt64))), .second, .unset, .unset, .unset, .unset, .unset, .unset]) G X0.here hx (hb hby d6_7) rfl rfl
  replace G := own_dload (q := 11) G X0.here hx (hb hby d6_9) rfl rfl
  replace G : Gets p e below _ (s₁.setTop (mkF m 14 #[.val (.double rv), .second, .val (.double rg), .second, .val (.double (own_t rv rg (4617315517961601024 : UInt64))), .second, .unset, .unset, .unset, .unset, .unset, .unset] [(.double (4624633867356078080 : UInt64)), (.double (own_t rv rg (4617315517961601024 : UInt64)))])) := fun t k => G t (X0.ldc2DoubleC hx hown (mvT hZ (hw _ (List.mem_of_getElem? (i := 37) rfl))) (g := (mkF m 11 #[.val (.double rv), .second, .val (.double rg), .second, .val (.double (own_t rv rg (4617315517961601024 : UInt64))), .second, .unset, .unset, .unset, .unset, .unset, .unset] [(.double (own_t rv rg (4617315517961601024 : UInt64)))])) rfl (hb hby d6_11) t k)
  replace G := own_dcmp (q := 15) G X0.here hx (hb hby d6_14) rfl rfl
  by_cases hc15_1 : (0 : Int32) < (cmpValue (FP.dcmp (own_t rv rg (4617315517961601024 : UInt64)) (4624633867356078080 : UInt64)) .g)
  · replace G := own_ifYes (q := 21) G X0.here hx (hb hby d6_15) ((if0 _ _).trans (tlt hc15_1).2.2.1) (by decide) (by decide)
    replace G := own_dloadN (q := 22) G X0.here hx (hb hby d6_21) rfl rfl
    replace G := own_dloadN (q := 23) G X0.here hx (hb hby d6_22) rfl rfl
    replace G : Gets p e below _ (s₁.setTop (mkF m 26 #[.val (.double rv), .second, .val (.double rg), .second, .val (.double (own_t rv rg (4617315517961601024 : UInt64))), .second, .unset, .unset, .unset, .unset, .unset, .unset] [(.double (4621819117588971520 : UInt64)), (.double rg), (.double rv)])) := fun t k => G t (X0.ldc2DoubleC hx hown (mvT hZ (hw _ (List.mem_of_getElem? (i := 41) rfl))) (g := (mkF m 23 #[.val (.double rv), .second, .val (.double rg), .second, .val (.double (own_t rv rg (4617315517961601024 : UInt64))), .second, .unset, .unset, .unset, .unset, .unset, .unset] [(.double rg), (.double rv)])) rfl (hb hby d6_23) t k)
    replace G := own_dsub (q := 27) G X0.here hx (hb hby d6_26) (own_nn (own_sub hg own_k5.2.1) (by decide)) rfl rfl
    replace G := own_dmul (q := 28) G X0.here hx (hb hby d6_27) (own_tn hv hg own_k5.2.1) rfl rfl
    replace G := own_dstore (q := 30) (l' := #[.val (.double rv), .second, .val (.double rg), .second, .val (.double (own_t rv rg (4617315517961601024 : UInt64))), .second, .val (.double (own_t rv rg (4621819117588971520 : UInt64))), .second, .unset, .unset, .unset, .unset]) G X0.here hx (hb hby d6_28) rfl rfl
    replace G := own_dload (q := 32) G X0.here hx (hb hby d6_30) rfl rfl
    replace G : Gets p e below _ (s₁.setTop (mkF m 35 #[.val (.double rv), .second, .val (.double rg), .second, .val (.double (own_t rv rg (4617315517961601024 : UInt64))), .second, .val (.double (own_t rv rg (4621819117588971520 : UInt64))), .second, .unset, .unset, .unset, .unset] [(.double (4624633867356078080 : UInt64)), (.double (own_t rv rg (4621819117588971520 : UInt64)))])) := fun t k => G t (X0.ldc2DoubleC hx hown (mvT hZ (hw _ (List.mem_of_getElem? (i := 37) rfl))) (g := (mkF m 32 #[.val (.double rv), .second, .val (.double rg), .second, .val (.double (own_t rv rg (4617315517961601024 : UInt64))), .second, .val (.double (own_t rv rg (4621819117588971520 : UInt64))), .second, .unset, .unset, .unset, .unset] [(.double (own_t rv rg (4621819117588971520 : UInt64)))])) rfl (hb hby d6_32) t k)
    replace G := own_dcmp (q := 36) G X0.here hx (hb hby d6_35) rfl rfl
    by_cases hc36_2 : (0 : Int32) < (cmpValue (FP.dcmp (own_t rv rg (4621819117588971520 : UInt64)) (4624633867356078080 : UInt64)) .g)
    · replace G := own_ifYes (q := 43) G X0.here hx (hb hby d6_36) ((if0 _ _).trans (tlt hc36_2).2.2.1) (by decide) (by decide)
      replace G := own_dload (q := 45) G X0.here hx (hb hby d6_43) rfl rfl
      replace G : Gets p e below _ (s₁.setTop (mkF m 48 #[.val (.double rv), .second, .val (.double rg), .second, .val (.double (own_t rv rg (4617315517961601024 : UInt64))), .second, .val (.double (own_t rv rg (4621819117588971520 : UInt64))), .second, .unset, .unset, .unset, .unset] [(.double (4630826316843712512 : UInt64)), (.double (own_t rv rg (4621819117588971520 : UInt64)))])) := fun t k => G t (X0.ldc2DoubleC hx hown (mvT hZ (hw _ (List.mem_of_getElem? (i := 42) rfl))) (g := (mkF m 45 #[.val (.double rv), .second, .val (.double rg), .second, .val (.double (own_t rv rg (4617315517961601024 : UInt64))), .second, .val (.double (own_t rv rg (4621819117588971520 : UInt64))), .second, .unset, .unset, .unset, .unset] [(.double (own_t rv rg (4621819117588971520 : UInt64)))])) rfl (hb hby d6_45) t k)
      replace G := own_dcmp (q := 49) G X0.here hx (hb hby d6_48) rfl rfl
      by_cases hc49_3 : (0 : Int32) < (cmpValue (FP.dcmp (own_t rv rg (4621819117588971520 : UInt64)) (4630826316843712512 : UInt64)) .g)
      · replace G := own_ifYes (q := 55) G X0.here hx (hb hby d6_49) ((if0 _ _).trans (tlt hc49_3).2.2.1) (by decide) (by decide)
        replace G := own_dloadN (q := 56) G X0.here hx (hb hby d6_55) rfl rfl
        replace G := own_dloadN (q := 57) G X0.here hx (hb hby d6_56) rfl rfl
        replace G : Gets p e below _ (s₁.setTop (mkF m 60 #[.val (.double rv), .second, .val (.double rg), .second, .val (.double (own_t rv rg (4617315517961601024 : UInt64))), .second, .val (.double (own_t rv rg (4621819117588971520 : UInt64))), .second, .unset, .unset, .unset, .unset] [(.double (4624633867356078080 : UInt64)), (.double rg), (.double rv)])) := fun t k => G t (X0.ldc2DoubleC hx hown (mvT hZ (hw _ (List.mem_of_getElem? (i := 37) rfl))) (g := (mkF m 57 #[.val (.double rv), .second, .val (.double rg), .second, .val (.double (own_t rv rg (4617315517961601024 : UInt64))), .second, .val (.double (own_t rv rg (4621819117588971520 : UInt64))), .second, .unset, .unset, .unset, .unset] [(.double rg), (.double rv)])) rfl (hb hby d6_57) t k)
        replace G := own_dsub (q := 61) G X0.here hx (hb hby d6_60) (own_nn (own_sub hg own_k5.2.2.1) (by decide)) rfl rfl
        replace G := own_dmul (q := 62) G X0.here hx (hb hby d6_61) (own_tn hv hg own_k5.2.2.1) rfl rfl
        replace G := own_dstore (q := 64) (l' := #[.val (.double rv), .second, .val (.double rg), .second, .val (.double (own_t rv rg (4617315517961601024 : UInt64))), .second, .val (.double (own_t rv rg (4621819117588971520 : UInt64))), .second, .val (.double (own_t rv rg (4624633867356078080 : UInt64))), .second, .unset, .unset]) G X0.here hx (hb hby d6_62) rfl rfl
        replace G := own_dload (q := 66) G X0.here hx (hb hby d6_64) rfl rfl
        replace G : Gets p e below _ (s₁.setTop (mkF m 69 #[.val (.double rv), .second, .val (.double rg), .second, .val (.double (own_t rv rg (4617315517961601024 : UInt64))), .second, .val (.double (own_t rv rg (4621819117588971520 : UInt64))), .second, .val (.double (own_t rv rg (4624633867356078080 : UInt64))), .second, .unset, .unset] [(.double (4630826316843712512 : UInt64)), (.double (own_t rv rg (4624633867356078080 : UInt64)))])) := fun t k => G t (X0.ldc2DoubleC hx hown (mvT hZ (hw _ (List.mem_of_getElem? (i := 42) rfl))) (g := (mkF m 66 #[.val (.double rv), .second, .val (.double rg), .second, .val (.double (own_t rv rg (4617315517961601024 : UInt64))), .second, .val (.double (own_t rv rg (4621819117588971520 : UInt64))), .second, .val (.double (own_t rv rg (4624633867356078080 : UInt64))), .second, .unset, .unset] [(.double (own_t rv rg (4624633867356078080 : UInt64)))])) rfl (hb hby d6_66) t k)
        replace G := own_dcmp (q := 70) G X0.here hx (hb hby d6_69) rfl rfl
        by_cases hc70_4 : (0 : Int32) < (cmpValue (FP.dcmp (own_t rv rg (4624633867356078080 : UInt64)) (4630826316843712512 : UInt64)) .g)
        · replace G := own_ifYes (q := 77) G X0.here hx (hb hby d6_70) ((if0 _ _).trans (tlt hc70_4).2.2.1) (by decide) (by decide)
          replace G := own_dload (q := 79) G X0.here hx (hb hby d6_77) rfl rfl
          replace G : Gets p e below _ (s₁.setTop (mkF m 82 #[.val (.double rv), .second, .val (.double rg), .second, .val (.double (own_t rv rg (4617315517961601024 : UInt64))), .second, .val (.double (own_t rv rg (4621819117588971520 : UInt64))), .second, .val (.double (own_t rv rg (4624633867356078080 : UInt64))), .second, .unset, .unset] [(.double (4633641066610819072 : UInt64)), (.double (own_t rv rg (4624633867356078080 : UInt64)))])) := fun t k => G t (X0.ldc2DoubleC hx hown (mvT hZ (hw _ (List.mem_of_getElem? (i := 43) rfl))) (g := (mkF m 79 #[.val (.double rv), .second, .val (.double rg), .second, .val (.double (own_t rv rg (4617315517961601024 : UInt64))), .second, .val (.double (own_t rv rg (4621819117588971520 : UInt64))), .second, .val (.double (own_t rv rg (4624633867356078080 : UInt64))), .second, .unset, .unset] [(.double (own_t rv rg (4624633867356078080 : UInt64)))])) rfl (hb hby d6_79) t k)
          replace G := own_dcmp (q := 83) G X0.here hx (hb hby d6_82) rfl rfl
          by_cases hc83_5 : (0 : Int32) < (cmpValue (FP.dcmp (own_t rv rg (4624633867356078080 : UInt64)) (4633641066610819072 : UInt64)) .g)
          · replace G := own_ifYes (q := 89) G X0.here hx (hb hby d6_83) ((if0 _ _).trans (tlt hc83_5).2.2.1) (by decide) (by decide)
            replace G := own_dloadN (q := 90) G X0.here hx (hb hby d6_89) rfl rfl
            replace G := own_dloadN (q := 91) G X0.here hx (hb hby d6_90) rfl rfl
            replace G : Gets p e below _ (s₁.setTop (mkF m 94 #[.val (.double rv), .second, .val (.double rg), .second, .val (.double (own_t rv rg (4617315517961601024 : UInt64))), .second, .val (.double (own_t rv rg (4621819117588971520 : UInt64))), .second, .val (.double (own_t rv rg (4624633867356078080 : UInt64))), .second, .unset, .unset] [(.double (4626322717216342016 : UInt64)), (.double rg), (.double rv)])) := fun t k => G t (X0.ldc2DoubleC hx hown (mvT hZ (hw _ (List.mem_of_getElem? (i := 44) rfl))) (g := (mkF m 91 #[.val (.double rv), .second, .val (.double rg), .second, .val (.double (own_t rv rg (4617315517961601024 : UInt64))), .second, .val (.double (own_t rv rg (4621819117588971520 : UInt64))), .second, .val (.double (own_t rv rg (4624633867356078080 : UInt64))), .second, .unset, .unset] [(.double rg), (.double rv)])) rfl (hb hby d6_91) t k)
            replace G := own_dsub (q := 95) G X0.here hx (hb hby d6_94) (own_nn (own_sub hg own_k5.2.2.2.1) (by decide)) rfl rfl
            replace G := own_dmul (q := 96) G X0.here hx (hb hby d6_95) (own_tn hv hg own_k5.2.2.2.1) rfl rfl
            replace G := own_dstore (q := 98) (l' := #[.val (.double rv), .second, .val (.double rg), .second, .val (.double (own_t rv rg (4617315517961601024 : UInt64))), .second, .val (.double (own_t rv rg (4621819117588971520 : UInt64))), .second, .val (.double (own_t rv rg (4624633867356078080 : UInt64))), .second, .val (.double (own_t rv rg (4626322717216342016 : UInt64))), .second]) G X0.here hx (hb hby d6_96) rfl rfl
            replace G := own_dload (q := 100) G X0.here hx (hb hby d6_98) rfl rfl
            replace G : Gets p e below _ (s₁.setTop (mkF m 103 #[.val (.double rv), .second, .val (.double rg), .second, .val (.double (own_t rv rg (4617315517961601024 : UInt64))), .second, .val (.double (own_t rv rg (4621819117588971520 : UInt64))), .second, .val (.double (own_t rv rg (4624633867356078080 : UInt64))), .second, .val (.double (own_t rv rg (4626322717216342016 : UInt64))), .second] [(.double (4633641066610819072 : UInt64)), (.double (own_t rv rg (4626322717216342016 : UInt64)))])) := fun t k => G t (X0.ldc2DoubleC hx hown (mvT hZ (hw _ (List.mem_of_getElem? (i := 43) rfl))) (g := (mkF m 100 #[.val (.double rv), .second, .val (.double rg), .second, .val (.double (own_t rv rg (4617315517961601024 : UInt64))), .second, .val (.double (own_t rv rg (4621819117588971520 : UInt64))), .second, .val (.double (own_t rv rg (4624633867356078080 : UInt64))), .second, .val (.double (own_t rv rg (4626322717216342016 : UInt64))), .second] [(.double (own_t rv rg (4626322717216342016 : UInt64)))])) rfl (hb hby d6_100) t k)
            replace G := own_dcmp (q := 104) G X0.here hx (hb hby d6_103) rfl rfl
            by_cases hc104_6 : (0 : Int32) < (cmpValue (FP.dcmp (own_t rv rg (4626322717216342016 : UInt64)) (4633641066610819072 : UInt64)) .g)
            · replace G := own_ifYes (q := 111) G X0.here hx (hb hby d6_104) ((if0 _ _).trans (tlt hc104_6).2.2.1) (by decide) (by decide)
              replace G := own_dload (q := 113) G X0.here hx (hb hby d6_111) rfl rfl
              obtain ⟨fs, hr, hrun, hended, hW, hsame⟩ := X0.leave (v := some (.double (own_t rv rg (4626322717216342016 : UInt64)))) (fun h => by rw [Bd.returns] at h; cases h)
              refine ⟨_, _, G _ (retOut X0 hx Bd.returns rfl (Or.inr (Or.inr (Or.inl ⟨rfl, rfl, _, rfl⟩))) (hb hby d6_113) hr), hrun, hended, _, _, rfl, ?_, ⟨_, rfl⟩, hW, hsame.mono (by decide) (by decide)⟩
              show Q6 Z rv rg h0 n0 _ s₁.heap _
              rw [e0]
              exact ⟨(congrArg (fun z => some (Value.double z)) (by simp only [own_exp, if_pos ((own_cv .g (own_tn hv hg own_k5.1) (own_nn own_k5.2.2.1 (by decide))).mp hc15_1), if_pos ((own_cv .g (own_tn hv hg own_k5.2.1) (own_nn own_k5.2.2.1 (by decide))).mp hc36_2), if_pos ((own_cv .g (own_tn hv hg own_k5.2.1) (own_nn own_k5.2.2.2.2.1 (by decide))).mp hc49_3), if_pos ((own_cv .g (own_tn hv hg own_k5.2.2.1) (own_nn own_k5.2.2.2.2.1 (by decide))).mp hc70_4), if_pos ((own_cv .g (own_tn hv hg own_k5.2.2.1) (own_nn own_k5.2.2.2.2.2 (by decide))).mp hc83_5), if_pos ((own_cv .g (own_tn hv hg own_k5.2.2.2.1) (own_nn own_k5.2.2.2.2.2 (by decide))).mp hc104_6)])), N0, rfl⟩
            · replace G := own_ifNo (q := 107) G X0.here hx (hb hby d6_104) ((if0 _ _).trans (flt hc104_6).2.2.1) rfl
              replace G : Gets p e below _ (s₁.setTop (mkF m 110 #[.val (.double rv), .second, .val (.double rg), .second, .val (.double (own_t rv rg (4617315517961601024 : UInt64))), .second, .val (.double (own_t rv rg (4621819117588971520 : UInt64))), .second, .val (.double (own_t rv rg (4624633867356078080 : UInt64))), .second, .val (.double (own_t rv rg (4626322717216342016 : UInt64))), .second] [(.double (4633641066610819072 : UInt64))])) := fun t k => G t (X0.ldc2DoubleC hx hown (mvT hZ (hw _ (List.mem_of_getElem? (i := 43) rfl))) (g := (mkF m 107 #[.val (.double rv), .second, .val (.double rg), .second, .val (.double (own_t rv rg (4617315517961601024 : UInt64))), .second, .val (.double (own_t rv rg (4621819117588971520 : UInt64))), .second, .val (.double (own_t rv rg (4624633867356078080 : UInt64))), .second, .val (.double (own_t rv rg (4626322717216342016 : UInt64))), .second] [])) rfl (hb hby d6_107) t k)
              obtain ⟨fs, hr, hrun, hended, hW, hsame⟩ := X0.leave (v := some (.double (4633641066610819072 : UInt64))) (fun h => by rw [Bd.returns] at h; cases h)
              refine ⟨_, _, G _ (retOut X0 hx Bd.returns rfl (Or.inr (Or.inr (Or.inl ⟨rfl, rfl, _, rfl⟩))) (hb hby d6_110) hr), hrun, hended, _, _, rfl, ?_, ⟨_, rfl⟩, hW, hsame.mono (by decide) (by decide)⟩
              show Q6 Z rv rg h0 n0 _ s₁.heap _
              rw [e0]
              exact ⟨(congrArg (fun z => some (Value.double z)) (by simp only [own_exp, if_pos ((own_cv .g (own_tn hv hg own_k5.1) (own_nn own_k5.2.2.1 (by decide))).mp hc15_1), if_pos ((own_cv .g (own_tn hv hg own_k5.2.1) (own_nn own_k5.2.2.1 (by decide))).mp hc36_2), if_pos ((own_cv .g (own_tn hv hg own_k5.2.1) (own_nn own_k5.2.2.2.2.1 (by decide))).mp hc49_3), if_pos ((own_cv .g (own_tn hv hg own_k5.2.2.1) (own_nn own_k5.2.2.2.2.1 (by decide))).mp hc70_4), if_pos ((own_cv .g (own_tn hv hg own_k5.2.2.1) (own_nn own_k5.2.2.2.2.2 (by decide))).mp hc83_5), if_neg (fun z => hc104_6 ((own_cv .g (own_tn hv hg own_k5.2.2.2.1) (own_nn own_k5.2.2.2.2.2 (by decide))).mpr z))])), N0, rfl⟩
          · replace G := own_ifNo (q := 86) G X0.here hx (hb hby d6_83) ((if0 _ _).trans (flt hc83_5).2.2.1) rfl
            replace G := own_dload (q := 88) G X0.here hx (hb hby d6_86) rfl rfl
            obtain ⟨fs, hr, hrun, hended, hW, hsame⟩ := X0.leave (v := some (.double (own_t rv rg (4624633867356078080 : UInt64)))) (fun h => by rw [Bd.returns] at h; cases h)
            refine ⟨_, _, G _ (retOut X0 hx Bd.returns rfl (Or.inr (Or.inr (Or.inl ⟨rfl, rfl, _, rfl⟩))) (hb hby d6_88) hr), hrun, hended, _, _, rfl, ?_, ⟨_, rfl⟩, hW, hsame.mono (by decide) (by decide)⟩
            show Q6 Z rv rg h0 n0 _ s₁.heap _
            rw [e0]
            exact ⟨(congrArg (fun z => some (Value.double z)) (by simp only [own_exp, if_pos ((own_cv .g (own_tn hv hg own_k5.1) (own_nn own_k5.2.2.1 (by decide))).mp hc15_1), if_pos ((own_cv .g (own_tn hv hg own_k5.2.1) (own_nn own_k5.2.2.1 (by decide))).mp hc36_2), if_pos ((own_cv .g (own_tn hv hg own_k5.2.1) (own_nn own_k5.2.2.2.2.1 (by decide))).mp hc49_3), if_pos ((own_cv .g (own_tn hv hg own_k5.2.2.1) (own_nn own_k5.2.2.2.2.1 (by decide))).mp hc70_4), if_neg (fun z => hc83_5 ((own_cv .g (own_tn hv hg own_k5.2.2.1) (own_nn own_k5.2.2.2.2.2 (by decide))).mpr z))])), N0, rfl⟩
        · replace G := own_ifNo (q := 73) G X0.here hx (hb hby d6_70) ((if0 _ _).trans (flt hc70_4).2.2.1) rfl
          replace G : Gets p e below _ (s₁.setTop (mkF m 76 #[.val (.double rv), .second, .val (.double rg), .second, .val (.double (own_t rv rg (4617315517961601024 : UInt64))), .second, .val (.double (own_t rv rg (4621819117588971520 : UInt64))), .second, .val (.double (own_t rv rg (4624633867356078080 : UInt64))), .second, .unset, .unset] [(.double (4630826316843712512 : UInt64))])) := fun t k => G t (X0.ldc2DoubleC hx hown (mvT hZ (hw _ (List.mem_of_getElem? (i := 42) rfl))) (g := (mkF m 73 #[.val (.double rv), .second, .val (.double rg), .second, .val (.double (own_t rv rg (4617315517961601024 : UInt64))), .second, .val (.double (own_t rv rg (4621819117588971520 : UInt64))), .second, .val (.double (own_t rv rg (4624633867356078080 : UInt64))), .second, .unset, .unset] [])) rfl (hb hby d6_73) t k)
          obtain ⟨fs, hr, hrun, hended, hW, hsame⟩ := X0.leave (v := some (.double (4630826316843712512 : UInt64))) (fun h => by rw [Bd.returns] at h; cases h)
          refine ⟨_, _, G _ (retOut X0 hx Bd.returns rfl (Or.inr (Or.inr (Or.inl ⟨rfl, rfl, _, rfl⟩))) (hb hby d6_76) hr), hrun, hended, _, _, rfl, ?_, ⟨_, rfl⟩, hW, hsame.mono (by decide) (by decide)⟩
          show Q6 Z rv rg h0 n0 _ s₁.heap _
          rw [e0]
          exact ⟨(congrArg (fun z => some (Value.double z)) (by simp only [own_exp, if_pos ((own_cv .g (own_tn hv hg own_k5.1) (own_nn own_k5.2.2.1 (by decide))).mp hc15_1), if_pos ((own_cv .g (own_tn hv hg own_k5.2.1) (own_nn own_k5.2.2.1 (by decide))).mp hc36_2), if_pos ((own_cv .g (own_tn hv hg own_k5.2.1) (own_nn own_k5.2.2.2.2.1 (by decide))).mp hc49_3), if_neg (fun z => hc70_4 ((own_cv .g (own_tn hv hg own_k5.2.2.1) (own_nn own_k5.2.2.2.2.1 (by decide))).mpr z))])), N0, rfl⟩
      · replace G := own_ifNo (q := 52) G X0.here hx (hb hby d6_49) ((if0 _ _).trans (flt hc49_3).2.2.1) rfl
        replace G := own_dload (q := 54) G X0.here hx (hb hby d6_52) rfl rfl
        obtain ⟨fs, hr, hrun, hended, hW, hsame⟩ := X0.leave (v := some (.double (own_t rv rg (4621819117588971520 : UInt64)))) (fun h => by rw [Bd.returns] at h; cases h)
        refine ⟨_, _, G _ (retOut X0 hx Bd.returns rfl (Or.inr (Or.inr (Or.inl ⟨rfl, rfl, _, rfl⟩))) (hb hby d6_54) hr), hrun, hended, _, _, rfl, ?_, ⟨_, rfl⟩, hW, hsame.mono (by decide) (by decide)⟩
        show Q6 Z rv rg h0 n0 _ s₁.heap _
        rw [e0]
        exact ⟨(congrArg (fun z => some (Value.double z)) (by simp only [own_exp, if_pos ((own_cv .g (own_tn hv hg own_k5.1) (own_nn own_k5.2.2.1 (by decide))).mp hc15_1), if_pos ((own_cv .g (own_tn hv hg own_k5.2.1) (own_nn own_k5.2.2.1 (by decide))).mp hc36_2), if_neg (fun z => hc49_3 ((own_cv .g (own_tn hv hg own_k5.2.1) (own_nn own_k5.2.2.2.2.1 (by decide))).mpr z))])), N0, rfl⟩
    · replace G := own_ifNo (q := 39) G X0.here hx (hb hby d6_36) ((if0 _ _).trans (flt hc36_2).2.2.1) rfl
      replace G : Gets p e below _ (s₁.setTop (mkF m 42 #[.val (.double rv), .second, .val (.double rg), .second, .val (.double (own_t rv rg (4617315517961601024 : UInt64))), .second, .val (.double (own_t rv rg (4621819117588971520 : UInt64))), .second, .unset, .unset, .unset, .unset] [(.double (4624633867356078080 : UInt64))])) := fun t k => G t (X0.ldc2DoubleC hx hown (mvT hZ (hw _ (List.mem_of_getElem? (i := 37) rfl))) (g := (mkF m 39 #[.val (.double rv), .second, .val (.double rg), .second, .val (.double (own_t rv rg (4617315517961601024 : UInt64))), .second, .val (.double (own_t rv rg (4621819117588971520 : UInt64))), .second, .unset, .unset, .unset, .unset] [])) rfl (hb hby d6_39) t k)
      obtain ⟨fs, hr, hrun, hended, hW, hsame⟩ := X0.leave (v := some (.double (4624633867356078080 : UInt64))) (fun h => by rw [Bd.returns] at h; cases h)
      refine ⟨_, _, G _ (retOut X0 hx Bd.returns rfl (Or.inr (Or.inr (Or.inl ⟨rfl, rfl, _, rfl⟩))) (hb hby d6_42) hr), hrun, hended, _, _, rfl, ?_, ⟨_, rfl⟩, hW, hsame.mono (by decide) (by decide)⟩
      show Q6 Z rv rg h0 n0 _ s₁.heap _
      rw [e0]
      exact ⟨(congrArg (fun z => some (Value.double z)) (by simp only [own_exp, if_pos ((own_cv .g (own_tn hv hg own_k5.1) (own_nn own_k5.2.2.1 (by decide))).mp hc15_1), if_neg (fun z => hc36_2 ((own_cv .g (own_tn hv hg own_k5.2.1) (own_nn own_k5.2.2.1 (by decide))).mpr z))])), N0, rfl⟩
  · replace G := own_ifNo (q := 18) G X0.here hx (hb hby d6_15) ((if0 _ _).trans (flt hc15_1).2.2.1) rfl
    replace G := own_dload (q := 20) G X0.here hx (hb hby d6_18) rfl rfl
    obtain ⟨fs, hr, hrun, hended, hW, hsame⟩ := X0.leave (v := some (.double (own_t rv rg (4617315517961601024 : UInt64)))) (fun h => by rw [Bd.returns] at h; cases h)
    refine ⟨_, _, G _ (retOut X0 hx Bd.returns rfl (Or.inr (Or.inr (Or.inl ⟨rfl, rfl, _, rfl⟩))) (hb hby d6_20) hr), hrun, hended, _, _, rfl, ?_, ⟨_, rfl⟩, hW, hsame.mono (by decide) (by decide)⟩
    show Q6 Z rv rg h0 n0 _ s₁.heap _
    rw [e0]
    exact ⟨(congrArg (fun z => some (Value.double z)) (by simp only [own_exp, if_neg (fun z => hc15_1 ((own_cv .g (own_tn hv hg own_k5.1) (own_nn own_k5.2.2.1 (by decide))).mpr z))])), N0, rfl⟩
theorem own_mn {v g : UInt64} (hv : Jvm.Free.Fl.Mag64 1051 v) (hg : Jvm.Free.Fl.Mag64 1051 g) : Jvm.Free.Fl.NoNaN64 (own_mcd v g) := by
  obtain ⟨k5, k10, k15, k20, k40, k60⟩ := own_k5
  unfold own_mcd
  split
  · split
    · split
      · exact own_pkn (own_nn k60 (by decide)) (own_tn hv hg k20)
      · exact own_pkn (own_nn k40 (by decide)) (own_tn hv hg k15)
    · exact own_pkn (own_nn k15 (by decide)) (own_tn hv hg k10)
  · exact own_tn hv hg k5
theorem pd_3 : parseMethodDescriptor "(D)V" = some ⟨[.double], none⟩ := by decide +kernel
theorem ef_0 (m : MethodId) (x0 : Int32) (x1 : Int32) : entryFrame m #[(.int x0), (.int x1)] maxLocals = mkF m 0 #[.val (.int x0), .val (.int x1), .unset, .unset, .unset, .unset, .unset, .unset, .unset] [] := by first | (simp [entryFrame, mkF, argsToLocals, Value.category, maxLocals]; done) | rfl
def Q0 (Z : State) (i0 : Int32) (i1 : Int32) (s1 : Addr) (s2 : Addr) (k1 : ClassId) (k2 : ClassId) (h0 : Heap) (n0 : Nat) (v : Option Value) (h : Heap) (L : List Loc) : Prop := v = some (.int (1 : Int32)) ∧ Fr n0 L
set_option maxRecDepth 65536 in
set_option maxHeartbeats 40000000 in
theorem rm0 (l : Launch) (Z : State) (a0 : Array Value) (hw : ∀ d ∈ tables_1, d.before a0 Z = true) (ws : List Jvm.Cond) (i0 : Int32) (i1 : Int32) (s1 : Addr) (s2 : Addr) (k1 : ClassId) (k2 : ClassId) (h0 : Heap) (n0 : Nat) (Z0 : n0 ≤ h0.size) (P0 : Old Z n0 h0) (P1 : Sta Z Z.heap "com/example/swathwork/swathwork/planner/SlewTransition" "SETTLING_S" "[D" (.ref s1)) (P2 : Sta Z Z.heap "com/example/swathwork/swathwork/planner/SlewTransition" "UPPER_DEG" "[D" (.ref s2)) (P3 : Arv Z h0 s1 k1 .double (4 : Int32) [(.double (4617315517961601024 : UInt64)), (.double (4621819117588971520 : UInt64)), (.double (4624633867356078080 : UInt64)), (.double (4626322717216342016 : UInt64))] (.double (0 : UInt64))) (P4 : Arv Z h0 s2 k2 .double (3 : Int32) [(.double (4624633867356078080 : UInt64)), (.double (4630826316843712512 : UInt64)), (.double (4633641066610819072 : UInt64))] (.double (0 : UInt64))) :
    MetFree l x (head1 (Jvm.Cond.code x code maxLocals ret :: ws) room_1) (fun argz U => argz = #[(.int i0), (.int i1)] ∧ Z.Warmed39 U.vm ∧ U.heap = h0) (fun _ _ _ _ _ => True) (fun _ U o U' => ∃ v L, o = .returned v ∧ Q0 Z i0 i1 s1 s2 k1 k2 h0 n0 v U'.heap L ∧ FrameEnd U o U' L room_1.cells room_1.slots) := by
  refine MetFree.of_bodySF (plainFor_of_name pn_com_example_swathwork_swathwork_planner_SlewTransitionMaximumChangeDegPinLaw) hisR ?_
  intro p e s m args below meth c s₁ Bd hml0 hP hK
  obtain ⟨rfl, hZ, hh⟩ := hP
  have hx := Bd.exec
  have hby := Bd.bytes
  have hml : c.maxLocals = 9 := hml0
  have hown : s.vm.findClass "com/example/swathwork/swathwork/planner/SlewTransitionMaximumChangeDegPinLaw" = some m.cls := findClass_of_methodNamed Bd.named
  have hnm := (name_of_methodNamed Bd.named Bd.method).1
  have X0 : Stand p l e room_1 s m #[(.int i0), (.int i1)] below meth c s₁ [] 0 0 := Stand.of_body Bd
  have e0 : s₁.heap = h0 := by rw [← hh, Bd.state]; rfl
  have N0 := Fr.nil n0
  have G : Gets p e below (s₁.setTop (entryFrame m #[(.int i0), (.int i1)] maxLocals)) (s₁.setTop (mkF m 0 #[.val (.int i0), .val (.int i1), .unset, .unset, .unset, .unset, .unset, .unset, .unset] [])) := fun t k => castTop (ef_0 m i0 i1) k
  replace G := own_iloadN (q := 1) G X0.here hx (hb hby at_0) rfl rfl
  replace G : Gets p e below _ (s₁.setTop (mkF m 3 #[.val (.int i0), .val (.int i1), .unset, .unset, .unset, .unset, .unset, .unset, .unset] [(.int (65535 : Int32)), (.int i0)])) := fun t k => G t (X0.ldcInt hx hown (mvT hZ (hw _ (List.mem_of_getElem? (i := 0) rfl))) (g := (mkF m 1 #[.val (.int i0), .val (.int i1), .unset, .unset, .unset, .unset, .unset, .unset, .unset] [(.int i0)])) rfl (hb hby at_1) t k)
  obtain ⟨u, hn_u⟩ : ∃ z : Int32, (i0 &&& (65535 : Int32)) = z := ⟨_, rfl⟩
  replace G := own_iand (q := 4) G X0.here hx (hb hby at_3) hn_u rfl
  replace G := own_iconst (q := 5) G X0.here hx (hb hby at_4) (v := (1 : Int32)) (by decide) rfl
  obtain ⟨kk, hn_kk⟩ : ∃ z : Int32, (u + (1 : Int32)) = z := ⟨_, rfl⟩
  replace G := own_iadd (q := 6) G X0.here hx (hb hby at_5) hn_kk rfl
  have hkk : 1 ≤ kk.toInt := by
    have a1 := c_mask i0 65535 16 (by decide) (by decide)
    rw [hn_u] at a1
    have a2 := c_iadd u 1
    rw [hn_kk, show (1 : Int32).toInt = 1 from rfl] at a2
    have r := rng32 kk
    omega
  replace G := own_i2d (q := 7) G X0.here hx (hb hby at_6) rfl rfl
  replace G : Gets p e below _ (s₁.setTop (mkF m 10 #[.val (.int i0), .val (.int i1), .unset, .unset, .unset, .unset, .unset, .unset, .unset] [(.double (4634204016564240384 : UInt64)), (.double (FP.i2d kk))])) := fun t k => G t (X0.ldc2DoubleC hx hown (mvT hZ (hw _ (List.mem_of_getElem? (i := 1) rfl))) (g := (mkF m 7 #[.val (.int i0), .val (.int i1), .unset, .unset, .unset, .unset, .unset, .unset, .unset] [(.double (FP.i2d kk))])) rfl (hb hby at_7) t k)
  replace G := own_ddiv (q := 11) G X0.here hx (hb hby at_10) (own_nn (own_div) (by decide)) rfl rfl
  replace G := own_dstoreN (q := 12) (l' := #[.val (.int i0), .val (.int i1), .val (.double (FP.ddiv (FP.i2d kk) (4634204016564240384 : UInt64))), .second, .unset, .unset, .unset, .unset, .unset]) G X0.here hx (hb hby at_11) rfl rfl
  replace G := own_iloadN (q := 13) G X0.here hx (hb hby at_12) rfl rfl
  replace G := own_i2d (q := 14) G X0.here hx (hb hby at_13) rfl rfl
  replace G : Gets p e below _ (s₁.setTop (mkF m 17 #[.val (.int i0), .val (.int i1), .val (.double (FP.ddiv (FP.i2d kk) (4634204016564240384 : UInt64))), .second, .unset, .unset, .unset, .unset, .unset] [(.double (4652218415073722368 : UInt64)), (.double (FP.i2d i1))])) := fun t k => G t (X0.ldc2DoubleC hx hown (mvT hZ (hw _ (List.mem_of_getElem? (i := 2) rfl))) (g := (mkF m 14 #[.val (.int i0), .val (.int i1), .val (.double (FP.ddiv (FP.i2d kk) (4634204016564240384 : UInt64))), .second, .unset, .unset, .unset, .unset, .unset] [(.double (FP.i2d i1))])) rfl (hb hby at_14) t k)
  replace G := own_ddiv (q := 18) G X0.here hx (hb hby at_17) (own_nn (own_gap) (by decide)) rfl rfl
  replace G := own_dstore (q := 20) (l' := #[.val (.int i0), .val (.int i1), .val (.double (FP.ddiv (FP.i2d kk) (4634204016564240384 : UInt64))), .second, .val (.double (FP.ddiv (FP.i2d i1) (4652218415073722368 : UInt64))), .second, .unset, .unset, .unset]) G X0.here hx (hb hby at_18) rfl rfl
  obtain ⟨T1, h1, X1, e1, E1, A1, D1, -, st1⟩ := newO X0 hx hZ hown (hw _ (List.mem_of_getElem? (i := 3) rfl)) (hw _ (List.mem_of_getElem? (i := 4) rfl)) (hw _ (List.mem_of_getElem? (i := 5) rfl)) e0 (g := (mkF m 20 #[.val (.int i0), .val (.int i1), .val (.double (FP.ddiv (FP.i2d kk) (4634204016564240384 : UInt64))), .second, .val (.double (FP.ddiv (FP.i2d i1) (4652218415073722368 : UInt64))), .second, .unset, .unset, .unset] [])) rfl (hb hby at_20) (by decide) (by decide)
  obtain ⟨b1, g1⟩ : ∃ z, z = h0.size := ⟨_, rfl⟩
  rw [← g1] at A1 D1 st1
  have ne2 : s1 ≠ b1 := Nat.ne_of_lt (Nat.lt_of_lt_of_le P3.lt (Nat.le_of_eq g1.symm))
  have ne3 : s2 ≠ b1 := Nat.ne_of_lt (Nat.lt_of_lt_of_le P4.lt (Nat.le_of_eq g1.symm))
  have ge_b1 : n0 ≤ b1 := Nat.le_trans Z0 (Nat.le_of_eq g1.symm)
  have Z1 : n0 ≤ h1.size := Nat.le_trans Z0 E1.1
  have F1_slewRateDegPerS : Fld Z h1 b1 "com/example/swathwork/swathwork/planner/SlewTransition" "slewRateDegPerS" "D" (.double (0 : UInt64)) := D1 (Or.inr (hw _ (List.mem_of_getElem? (i := 22) rfl))) (ty := .double) (by decide)
  replace G : Gets p e below _ (T1.setTop (mkF m 23 #[.val (.int i0), .val (.int i1), .val (.double (FP.ddiv (FP.i2d kk) (4634204016564240384 : UInt64))), .second, .val (.double (FP.ddiv (FP.i2d i1) (4652218415073722368 : UInt64))), .second, .unset, .unset, .unset] [(.ref b1)])) := fun t k => G t (st1 t k)
  replace G := own_dup (q := 24) G X1.here hx (hb hby at_23) rfl rfl
  replace G := own_dloadN (q := 25) G X1.here hx (hb hby at_24) rfl rfl
  obtain ⟨_, _, ⟨T4, L4, kk4, nn4⟩, -, X4, ⟨Lc4, hQ4, l4, y4, z4⟩, st4⟩ := X1.specialBack hx (y := (⟨"com/example/swathwork/swathwork/planner/SlewTransition", "<init>", "(D)V"⟩ : MethodName)) rfl hown (mvT hZ (hw _ (List.mem_of_getElem? (i := 6) rfl))) (mvT hZ (hw _ (List.mem_of_getElem? (i := 7) rfl))) (mvT hZ (hw _ (List.mem_of_getElem? (i := 8) rfl))) (by decide) (backOf (W := 1) (rm1 l Z a0 hw [] b1 (FP.ddiv (FP.i2d kk) (4634204016564240384 : UInt64)) h1 n0 Z1 F1_slewRateDegPerS A1 ge_b1 (own_div.fin (by decide)) (own_pos hkk)) hZ (hw _ (List.mem_of_getElem? (i := 8) rfl)) (hw _ (List.mem_of_getElem? (i := 5) rfl)) (by decide) (by decide)) (g := (mkF m 25 #[.val (.int i0), .val (.int i1), .val (.double (FP.ddiv (FP.i2d kk) (4634204016564240384 : UInt64))), .second, .val (.double (FP.ddiv (FP.i2d i1) (4652218415073722368 : UInt64))), .second, .unset, .unset, .unset] [(.double (FP.ddiv (FP.i2d kk) (4634204016564240384 : UInt64))), (.ref b1), (.ref b1)])) rfl (by rw [hml]; rfl) (Steps.refl _) (a := b1) (argsL := [(.double (FP.ddiv (FP.i2d kk) (4634204016564240384 : UInt64)))]) (rest := [(.ref b1)]) (lenOf pd_3 rfl) rfl (by show 2 * 0 + _ ≤ _; exact Nat.le_of_eq rfl) (hb hby at_25) (fun _ _ => ⟨rfl, e1, (by decide : 1 + 0 ≤ _), (by decide : 1 + 0 ≤ _)⟩)
  dsimp only [Pt.U, Pt.locs, Pt.cells, Pt.slots] at X4 l4 y4 z4 st4 hQ4
  subst l4 y4 z4
  obtain ⟨rfl, N4q, K4q, B4_0⟩ := hQ4
  have Z4 : n0 ≤ T4.heap.size := Nat.le_trans Z1 K4q.1
  have N4 := Fr.app N0 N4q
  replace G : Gets p e below _ (T4.setTop (mkF m 28 #[.val (.int i0), .val (.int i1), .val (.double (FP.ddiv (FP.i2d kk) (4634204016564240384 : UInt64))), .second, .val (.double (FP.ddiv (FP.i2d i1) (4652218415073722368 : UInt64))), .second, .unset, .unset, .unset] [(.ref b1)])) := fun t k => G t (st4.trans k)
  replace G := own_astore (q := 30) (l' := #[.val (.int i0), .val (.int i1), .val (.double (FP.ddiv (FP.i2d kk) (4634204016564240384 : UInt64))), .second, .val (.double (FP.ddiv (FP.i2d i1) (4652218415073722368 : UInt64))), .second, .val (.ref b1), .unset, .unset]) G X4.here hx (hb hby at_28) rfl rfl rfl
  replace G := own_aload (q := 32) G X4.here hx (hb hby at_30) rfl rfl rfl
  replace G := own_dload (q := 34) G X4.here hx (hb hby at_32) rfl rfl
  have F6 : Exa Z T4.heap b1 "com/example/swathwork/swathwork/planner/SlewTransition" := (A1.keep K4q)
  have F7 : Old Z n0 T4.heap := ((P0.ext E1).keep K4q (allS ge_b1 all0))
  have F8 : Sta Z T4.heap "com/example/swathwork/swathwork/planner/SlewTransition" "SETTLING_S" "[D" (.ref s1) := P1.ext F7.2
  have F9 : Sta Z T4.heap "com/example/swathwork/swathwork/planner/SlewTransition" "UPPER_DEG" "[D" (.ref s2) := P2.ext F7.2
  have F10 : Arv Z T4.heap s1 k1 .double (4 : Int32) [(.double (4617315517961601024 : UInt64)), (.double (4621819117588971520 : UInt64)), (.double (4624633867356078080 : UInt64)), (.double (4626322717216342016 : UInt64))] (.double (0 : UInt64)) := ((P3.ext E1).keep K4q (ninS ne2 nin0))
  have F11 : Arv Z T4.heap s2 k2 .double (3 : Int32) [(.double (4624633867356078080 : UInt64)), (.double (4630826316843712512 : UInt64)), (.double (4633641066610819072 : UInt64))] (.double (0 : UInt64)) := ((P4.ext E1).keep K4q (ninS ne3 nin0))
  obtain ⟨cq5, kq5, q5a, q5b, q5c⟩ := isOf hZ rfl F6
  obtain ⟨_, _, ⟨T5, L5, kk5, nn5⟩, -, X5, ⟨Lc5, hQ5, l5, y5, z5⟩, st5⟩ := X4.virtualBack hx (y := (⟨"com/example/swathwork/swathwork/planner/SlewTransition", "maximumChangeDeg", "(D)D"⟩ : MethodName)) (z := (⟨"com/example/swathwork/swathwork/planner/SlewTransition", "maximumChangeDeg", "(D)D"⟩ : MethodName)) hown (mvT hZ (hw _ (List.mem_of_getElem? (i := 23) rfl))) (mvT hZ (hw _ (List.mem_of_getElem? (i := 24) rfl))) (notFace_of_selects (args := #[]) (mvT hZ (hw _ (List.mem_of_getElem? (i := 26) rfl)))) (mvT hZ (hw _ (List.mem_of_getElem? (i := 26) rfl))) (mvT hZ (hw _ (List.mem_of_getElem? (i := 25) rfl))) (by decide) (backOf (W := 0) (rm5 l Z a0 hw [] b1 (FP.ddiv (FP.i2d i1) (4652218415073722368 : UInt64)) (FP.ddiv (FP.i2d kk) (4634204016564240384 : UInt64)) s1 s2 k1 k2 T4.heap n0 Z4 B4_0 F8 F9 F10 F11 own_div own_gap) hZ (hw _ (List.mem_of_getElem? (i := 27) rfl)) (hw _ (List.mem_of_getElem? (i := 5) rfl)) (by decide) (by decide)) q5a q5c (g := (mkF m 34 #[.val (.int i0), .val (.int i1), .val (.double (FP.ddiv (FP.i2d kk) (4634204016564240384 : UInt64))), .second, .val (.double (FP.ddiv (FP.i2d i1) (4652218415073722368 : UInt64))), .second, .val (.ref b1), .unset, .unset] [(.double (FP.ddiv (FP.i2d i1) (4652218415073722368 : UInt64))), (.ref b1)])) rfl (by rw [hml]; rfl) (Steps.refl _) (argsL := [(.double (FP.ddiv (FP.i2d i1) (4652218415073722368 : UInt64)))]) (rest := []) (lenOf pd_0 rfl) rfl (by show 2 * 0 + _ ≤ _; exact Nat.le_of_eq rfl) (hb hby at_34) (fun _ _ => ⟨rfl, rfl, (by decide : 1 + 0 ≤ _), (by decide : 1 + 0 ≤ _)⟩)
  dsimp only [Pt.U, Pt.locs, Pt.cells, Pt.slots] at X5 l5 y5 z5 st5 hQ5
  subst l5 y5 z5
  obtain ⟨rfl, N5q, e5⟩ := hQ5
  have N5 := Fr.app N4 N5q
  replace G : Gets p e below _ (T5.setTop (mkF m 37 #[.val (.int i0), .val (.int i1), .val (.double (FP.ddiv (FP.i2d kk) (4634204016564240384 : UInt64))), .second, .val (.double (FP.ddiv (FP.i2d i1) (4652218415073722368 : UInt64))), .second, .val (.ref b1), .unset, .unset] [(.double (own_mcd (FP.ddiv (FP.i2d kk) (4634204016564240384 : UInt64)) (FP.ddiv (FP.i2d i1) (4652218415073722368 : UInt64))))])) := fun t k => G t (st5.trans k)
  replace G := own_dstore (q := 39) (l' := #[.val (.int i0), .val (.int i1), .val (.double (FP.ddiv (FP.i2d kk) (4634204016564240384 : UInt64))), .second, .val (.double (FP.ddiv (FP.i2d i1) (4652218415073722368 : UInt64))), .second, .val (.ref b1), .val (.double (own_mcd (FP.ddiv (FP.i2d kk) (4634204016564240384 : UInt64)) (FP.ddiv (FP.i2d i1) (4652218415073722368 : UInt64)))), .second]) G X5.here hx (hb hby at_37) rfl rfl
  replace G := own_dload (q := 41) G X5.here hx (hb hby at_39) rfl rfl
  replace G := own_dloadN (q := 42) G X5.here hx (hb hby at_41) rfl rfl
  replace G := own_dload (q := 44) G X5.here hx (hb hby at_42) rfl rfl
  obtain ⟨_, _, ⟨T12, L12, kk12, nn12⟩, -, X12, ⟨Lc12, hQ12, l12, y12, z12⟩, st12⟩ := Jvm.LawKit.callS X5 hx (y := (⟨"com/example/swathwork/swathwork/planner/SlewTransitionMaximumChangeDegPinLaw", "expected", "(DD)D"⟩ : MethodName)) hown (mvT hZ (hw _ (List.mem_of_getElem? (i := 32) rfl))) (mvT hZ (hw _ (List.mem_of_getElem? (i := 33) rfl))) (mvT hZ (hw _ (List.mem_of_getElem? (i := 34) rfl))) (mvT hZ (hw _ (List.mem_of_getElem? (i := 35) rfl))) (by decide) (backOf (W := 2) (rm6 l Z a0 hw [] (FP.ddiv (FP.i2d kk) (4634204016564240384 : UInt64)) (FP.ddiv (FP.i2d i1) (4652218415073722368 : UInt64)) T4.heap n0 Z4 own_div own_gap) hZ (hw _ (List.mem_of_getElem? (i := 35) rfl)) (hw _ (List.mem_of_getElem? (i := 34) rfl)) (by decide) (by decide)) (g := (mkF m 44 #[.val (.int i0), .val (.int i1), .val (.double (FP.ddiv (FP.i2d kk) (4634204016564240384 : UInt64))), .second, .val (.double (FP.ddiv (FP.i2d i1) (4652218415073722368 : UInt64))), .second, .val (.ref b1), .val (.double (own_mcd (FP.ddiv (FP.i2d kk) (4634204016564240384 : UInt64)) (FP.ddiv (FP.i2d i1) (4652218415073722368 : UInt64)))), .second] [(.double (FP.ddiv (FP.i2d i1) (4652218415073722368 : UInt64))), (.double (FP.ddiv (FP.i2d kk) (4634204016564240384 : UInt64))), (.double (own_mcd (FP.ddiv (FP.i2d kk) (4634204016564240384 : UInt64)) (FP.ddiv (FP.i2d i1) (4652218415073722368 : UInt64))))])) rfl (by rw [hml]; rfl) (argsL := [(.double (FP.ddiv (FP.i2d kk) (4634204016564240384 : UInt64))), (.double (FP.ddiv (FP.i2d i1) (4652218415073722368 : UInt64)))]) (rest := [(.double (own_mcd (FP.ddiv (FP.i2d kk) (4634204016564240384 : UInt64)) (FP.ddiv (FP.i2d i1) (4652218415073722368 : UInt64))))]) (lenOf pd_2 rfl) rfl (by show 2 * 0 + _ ≤ _; exact Nat.le_of_eq rfl) (hb hby at_44) (fun _ _ => ⟨rfl, e5, (by decide : 1 + 0 ≤ _), (by decide : 1 + 0 ≤ _)⟩)
  dsimp only [Pt.U, Pt.locs, Pt.cells, Pt.slots] at X12 l12 y12 z12 st12 hQ12
  subst l12 y12 z12
  obtain ⟨rfl, N12q, e12⟩ := hQ12
  have N12 := Fr.app N5 N12q
  replace G : Gets p e below _ (T12.setTop (mkF m 47 #[.val (.int i0), .val (.int i1), .val (.double (FP.ddiv (FP.i2d kk) (4634204016564240384 : UInt64))), .second, .val (.double (FP.ddiv (FP.i2d i1) (4652218415073722368 : UInt64))), .second, .val (.ref b1), .val (.double (own_mcd (FP.ddiv (FP.i2d kk) (4634204016564240384 : UInt64)) (FP.ddiv (FP.i2d i1) (4652218415073722368 : UInt64)))), .second] [(.double (own_exp (FP.ddiv (FP.i2d kk) (4634204016564240384 : UInt64)) (FP.ddiv (FP.i2d i1) (4652218415073722368 : UInt64)))), (.double (own_mcd (FP.ddiv (FP.i2d kk) (4634204016564240384 : UInt64)) (FP.ddiv (FP.i2d i1) (4652218415073722368 : UInt64))))])) := fun t k => G t (st12 t k)
  replace G := own_dcmp (q := 48) G X12.here hx (hb hby at_47) (dcmpV_eq (own_same own_div own_gap) (own_mn own_div own_gap) _) rfl
  have hc48_13 : (0 : Int32) = (0 : Int32) := by decide
  replace G := own_ifNo (q := 51) G X12.here hx (hb hby at_48) ((if0 _ _).trans (teq hc48_13).2) rfl
  replace G := own_iconst (q := 52) G X12.here hx (hb hby at_51) (v := (1 : Int32)) (by decide) rfl
  replace G := own_goto (q := 56) G X12.here hx (hb hby at_52) (by decide) (by decide)
  obtain ⟨fs, hr, hrun, hended, hW, hsame⟩ := X12.leave (v := some (.int (1 : Int32))) (fun h => by rw [Bd.returns] at h; cases h)
  refine ⟨_, _, G _ (retOut X12 hx Bd.returns rfl (Or.inl ⟨rfl, Or.inr (Or.inl rfl), _, rfl⟩) (hb hby at_56) hr), hrun, hended, _, _, rfl, ?_, ⟨_, rfl⟩, hW, hsame.mono (by decide) (by decide)⟩
  show Q0 Z i0 i1 s1 s2 k1 k2 h0 n0 _ T12.heap _
  rw [e12]
  exact ⟨rfl, N12⟩
theorem own_len {args : Array Value} {s : State} {t : Term} {a : Addr} {cl : Cell} {ty : FieldType} {n : Int32} (ht : t.eval args s none [] s = some (.ref a)) (A : Arr s s.heap a cl ty) (hl : (Jvm.Cond.eq (.length t) (.int n)).value args s none s [] = some true) : cl.slots.size < 2 ^ 31 ∧ cl.slots.size.toInt32 = n := by
  have e2 : (Term.int n).eval args s none [] s = some (.int n) := Term.int_eval n
  have hat : s.arrayAt? a = some cl := Arr.fin (U := s) (Vm.Alike.refl _) A
  by_cases q : cl.slots.size < 2 ^ 31
  · have e1 := len_f ht hat q
    simp [Cond.value, e1, e2] at hl
    exact ⟨q, hl⟩
  · have e1 : (Term.length t).eval args s none [] s = none := by simp [Term.eval, ht, hat, q]
    simp [Cond.value, e1] at hl
theorem own_eld {args : Array Value} {s : State} {t : Term} {a : Addr} {cl : Cell} {ty : FieldType} {j : Int32} {w : Int64} (ht : t.eval args s none [] s = some (.ref a)) (A : Arr s s.heap a cl ty) (hj : ¬ j < 0) (h : (Jvm.Cond.eq (.elem t (.int j)) (.op1 .bitsD (.long w))).value args s none s [] = some true) : cl.slots[j.toNatClampNeg]? = some (.double w.toUInt64) := by
  have hat : s.arrayAt? a = some cl := Arr.fin (U := s) (Vm.Alike.refl _) A
  have e2 : (Term.op1 .bitsD (.long w)).eval args s none [] s = some (.double w.toUInt64) := by simp [Term.eval, Unary.apply]
  have e3 := elem_f ht (Term.int_eval j) hat hj
  cases hs : cl.slots[j.toNatClampNeg]? with
  | none => rw [hs] at e3; simp [Cond.value, e3] at h
  | some v =>
    rw [hs] at e3
    cases v <;> simp [Cond.value, e3, e2] at h
    subst h; rfl
set_option maxRecDepth 65536 in
set_option maxHeartbeats 40000000 in
theorem comes_1 {Post : Tables → Env → Array Value → State → Outcome → State → Prop} (hpost : ∀ tb e args s v u, (limb_1_1.after args s (.returned v) u = true ∧ limb_1_2.after args s (.returned v) u = true ∧ True) → FrameEnd s (.returned v) u (Jvm.fieldLocs frame_1_writes args s ++ Jvm.arrayLocs frame_1_arrays args s ++ Jvm.staticLocs frame_1_statics s) 16 128 → Post tb e args s (.returned v) u) :
    ArmFor flags0 classFile x code maxLocals ret World_1 tables_1 room_1 Calls_1 rest_1 Pre_1 Post := by
  intro l hfl _ _ p e ha hc hk s m args below hf hA hF happ hP
  obtain ⟨hcalls, hrest, hpre⟩ := hP
  obtain ⟨-, -, -, hnamed, -, -, -, hat⟩ := (Spec.applies_iff hf).mp happ
  obtain ⟨hg, hn⟩ := and_e (Cond.before_iff.mp (show (Jvm.Cond.and given_1 narrow_1).before args s = true from hpre))
  obtain ⟨g1, g2⟩ := and_e hg
  obtain ⟨g3, g4⟩ := and_e g2
  obtain ⟨w0, w1, rfl⟩ : ∃ w0 w1 : Value, args = #[w0, w1] := by
    have hs : args.size = 2 := by simpa [Cond.value, given_1] using g1
    obtain ⟨L⟩ := args
    match L, hs with
    | [w0, w1], _ => exact ⟨w0, w1, rfl⟩
  have hw := fun d (hd : d ∈ tables_1) => atoms_spec (ws := Jvm.Cond.code x code maxLocals ret :: tables_1) hat d (List.mem_cons_of_mem _ hd)
  have hfit : Fit s := fun {y c} hc i hi => by
    obtain ⟨ha, rfl⟩ := Array.getElem?_eq_some_iff.mp hc
    have q := List.all_eq_true.mp ((Array.all_eq_true_iff_forall_mem.mp hF) _ (Array.getElem_mem ha)) i (List.mem_range.mpr hi)
    simpa [Array.getElem?_eq_getElem hi] using q
  obtain ⟨i0, ei0⟩ := is_v g3
  obtain rfl : w0 = (.int i0) := Option.some.inj ei0
  obtain ⟨i1, ei1⟩ := is_v g4
  obtain rfl : w1 = (.int i1) := Option.some.inj ei1
  obtain ⟨nn1, nn2⟩ := and_e hn
  obtain ⟨nn3, nn4⟩ := and_e nn2
  obtain ⟨nn5, nn6⟩ := and_e nn4
  obtain ⟨nn7, nn8⟩ := and_e nn6
  obtain ⟨nn9, nn10⟩ := and_e nn8
  obtain ⟨nn11, nn12⟩ := and_e nn10
  obtain ⟨nn13, nn14⟩ := and_e nn12
  obtain ⟨nn15, nn16⟩ := and_e nn14
  obtain ⟨nn17, nn18⟩ := and_e nn16
  obtain ⟨nn19, nn20⟩ := and_e nn18
  obtain ⟨s1, ev_s1⟩ := arr_v nn1
  have St_s1 := Sta.start ev_s1 (Or.inr ⟨(hw _ (List.mem_of_getElem? (i := 5) rfl)), (hw _ (List.mem_of_getElem? (i := 29) rfl))⟩)
  obtain ⟨c_s1, A_s1⟩ := Arr.start ev_s1 nn1
  have L_s1 := own_len ev_s1 A_s1 nn3
  have V_s1 : Arv s s.heap s1 c_s1.cls .double (4 : Int32) [(.double (4617315517961601024 : UInt64)), (.double (4621819117588971520 : UInt64)), (.double (4624633867356078080 : UInt64)), (.double (4626322717216342016 : UInt64))] (.double (0 : UInt64)) := Arv.start hfit A_s1 L_s1.1 L_s1.2 (by decide) rfl ⟨own_eld ev_s1 A_s1 (j := 0) (by decide) nn5, own_eld ev_s1 A_s1 (j := 1) (by decide) nn13, own_eld ev_s1 A_s1 (j := 2) (by decide) nn17, own_eld ev_s1 A_s1 (j := 3) (by decide) nn20, trivial⟩
  obtain ⟨s2, ev_s2⟩ := arr_v nn7
  have St_s2 := Sta.start ev_s2 (Or.inr ⟨(hw _ (List.mem_of_getElem? (i := 5) rfl)), (hw _ (List.mem_of_getElem? (i := 31) rfl))⟩)
  obtain ⟨c_s2, A_s2⟩ := Arr.start ev_s2 nn7
  have L_s2 := own_len ev_s2 A_s2 nn9
  have V_s2 : Arv s s.heap s2 c_s2.cls .double (3 : Int32) [(.double (4624633867356078080 : UInt64)), (.double (4630826316843712512 : UInt64)), (.double (4633641066610819072 : UInt64))] (.double (0 : UInt64)) := Arv.start hfit A_s2 L_s2.1 L_s2.2 (by decide) rfl ⟨own_eld ev_s2 A_s2 (j := 0) (by decide) nn11, own_eld ev_s2 A_s2 (j := 1) (by decide) nn15, own_eld ev_s2 A_s2 (j := 2) (by decide) nn19, trivial⟩
  obtain ⟨n, o, h1, h2, h3, _, L, rfl, ⟨rfl, N⟩, hq⟩ := rm0 l s _ hw tables_1 i0 i1 s1 s2 c_s1.cls c_s2.cls s.heap s.heap.size (Nat.le_refl _) (Old.start s) St_s1 St_s2 V_s1 V_s2 p e ha hc hk s m _ below hf ((Spec.applies_iff_loose hf).mp happ).1 ⟨rfl, State.Warmed39.refl s, rfl⟩ trivial
  refine ⟨n, _, h1, h2, h3, hpost _ _ _ _ _ _ ⟨Cond.after_iff.mpr rfl, Cond.after_iff.mpr (eq_i res_at (Term.int_eval (1)) rfl), trivial⟩ ⟨hq.1, hq.2.1, (hq.2.2.sift fun y hy => Or.inr (N y hy)).mono (by decide) (by decide)⟩⟩
theorem main_1_1 : Claimed_1_1 := comes_1 fun _ _ _ _ _ _ h hF => ⟨h.1, hF⟩
theorem main_1_2 : Claimed_1_2 := comes_1 fun _ _ _ _ _ _ h hF => ⟨h.2.1, hF⟩
end Jvm.Pilot.@@N@@
namespace Jvm.Pilot.@@N@@
open Jvm Jvm.ClassFile Sem Op Lib Jvm.Free Jvm.Stand Jvm.Pilot.@@N@@.Jvm.D
/-! MADE BY PROGRAM (witnessworld.py) out of the Statement's table words and the real class files: 18 classes; the members and pool entries that the words name. The judged class is class 1, her method 1. -/
namespace start1
open Jvm.ClassFile
def u (s : String) : CpInfo := .utf8 (stringToUtf16 s)
/-- a pool by its gaps: so many unusable entries, then the entry; so many at the end -/
def gap : Nat → List CpInfo → List CpInfo
  | 0, r => r
  | n + 1, r => .unusable :: gap n r
def poolList (es : List (Nat × CpInfo)) (last : Nat) : List CpInfo := es.foldr (fun e r => gap e.1 (e.2 :: r)) (gap last [])
def pool (es : List (Nat × CpInfo)) (last : Nat) : Array CpInfo := ⟨poolList es last⟩
def fileOf (pool : Array CpInfo) (this : Nat) (attrs : Array Attribute := #[]) (ms : Array MethodInfo := #[]) (fl : Nat := 33) (sup : Nat := 0) (ifs : Array Nat := #[]) (fds : Array FieldInfo := #[]) : ClassFile where
  minorVersion := 0
  majorVersion := 65
  constantPool := pool
  accessFlags := fl
  thisClass := this
  superClass := sup
  interfaces := ifs
  fields := fds
  methods := ms
  attributes := attrs
def plain (name : String) (sup : Option ClassId) : Class where
  name := name
  kind := .ordinary
  loader := none
  accessFlags := 33
  super := sup
  interfaces := #[]
  cf := none
  fields := #[]
  methods := #[]
  instanceTypes := #[]
  staticTypes := #[]
  resolved := #[]
  callSites := []
  init := .initialized
  statics := none
  mirror := none

def pool0 : Array CpInfo := pool [(5, u "<init>"), (0, u "()V"), (1, .class_ 10), (1, u "java/lang/Object")] 113

def k0c0 : Code := { maxStack := 0, maxLocals := 1, code := object_method_1_code, exceptionTable := #[], attributes := #[] }
def k0m0 : Method := { name := "<init>", desc := "()V", sig := { parameters := [], returnType := none }, accessFlags := 1, code := some k0c0 }
/-- java/lang/Object -/
def k0 : Class := { plain "java/lang/Object" none with
  accessFlags := 33
  interfaces := #[]
  cf := some (fileOf pool0 8 #[] #[{ accessFlags := 1, nameIndex := 5, descriptorIndex := 6, attributes := #[] }] 33 0 #[] #[])
  fields := #[]
  methods := #[k0m0]
  instanceTypes := #[]
  staticTypes := #[]
  resolved := Array.replicate 124 none
  statics := none }

def pool1 : Array CpInfo := pool [(2, .class_ 4), (1, u "java/lang/Object"), (0, u "<init>"), (0, u "()V"), (0, .integer 65535), (0, .double 4634204016564240384), (1, .double 4652218415073722368), (1, .class_ 13), (0, u "com/example/swathwork/swathwork/planner/SlewTransition"), (0, .methodref 12 15), (0, .nameAndType 5 16), (0, u "(D)V"), (0, .methodref 12 18), (0, .nameAndType 19 20), (0, u "maximumChangeDeg"), (0, u "(D)D"), (0, .methodref 22 23), (0, .class_ 24), (0, .nameAndType 25 26), (0, u "com/example/swathwork/swathwork/planner/SlewTransitionMaximumChangeDegPinLaw"), (0, u "expected"), (0, u "(DD)D"), (0, .double 4617315517961601024), (1, .double 4624633867356078080), (1, .double 4621819117588971520), (1, .double 4630826316843712512), (1, .double 4633641066610819072), (1, .double 4626322717216342016), (3, u "law"), (0, u "(II)Z")] 3

def k1m0 : Method := { name := "<init>", desc := "()V", sig := { parameters := [], returnType := none }, accessFlags := 1, code := none }
def k1c1 : Code := { maxStack := 6, maxLocals := 9, code := code, exceptionTable := #[], attributes := #[] }
def k1m1 : Method := { name := "law", desc := "(II)Z", sig := { parameters := [.int, .int], returnType := some .boolean }, accessFlags := 9, code := some k1c1 }
def k1c2 : Code := { maxStack := 6, maxLocals := 12, code := method_3_code, exceptionTable := #[], attributes := #[] }
def k1m2 : Method := { name := "expected", desc := "(DD)D", sig := { parameters := [.double, .double], returnType := some .double }, accessFlags := 10, code := some k1c2 }
/-- com/example/swathwork/swathwork/planner/SlewTransitionMaximumChangeDegPinLaw -/
def k1 : Class := { plain "com/example/swathwork/swathwork/planner/SlewTransitionMaximumChangeDegPinLaw" (some 0) with
  accessFlags := 49
  interfaces := #[]
  cf := some (fileOf pool1 22 #[] #[{ accessFlags := 1, nameIndex := 5, descriptorIndex := 6, attributes := #[] }, { accessFlags := 9, nameIndex := 41, descriptorIndex := 42, attributes := #[] }, { accessFlags := 10, nameIndex := 25, descriptorIndex := 26, attributes := #[] }] 49 2 #[] #[])
  fields := #[]
  methods := #[k1m0, k1m1, k1m2]
  instanceTypes := #[]
  staticTypes := #[]
  resolved := Array.replicate 46 none
  statics := none }

def pool2 : Array CpInfo := pool [(1, .class_ 2), (0, u "com/example/swathwork/swathwork/planner/Transition"), (0, .class_ 4), (0, u "java/lang/Object")] 13

/-- com/example/swathwork/swathwork/planner/Transition -/
def k2 : Class := { plain "com/example/swathwork/swathwork/planner/Transition" (some 0) with
  accessFlags := 1537
  interfaces := #[]
  cf := some (fileOf pool2 1 #[] #[] 1537 3 #[] #[])
  fields := #[]
  methods := #[]
  instanceTypes := #[]
  staticTypes := #[]
  resolved := Array.replicate 18 none
  statics := none }

def pool3 : Array CpInfo := pool [(1, .methodref 2 3), (0, .class_ 4), (0, .nameAndType 5 6), (0, u "java/lang/Object"), (0, u "<init>"), (0, u "()V"), (0, .methodref 8 9), (0, .class_ 10), (0, .nameAndType 11 12), (0, u "java/lang/Double"), (0, u "isInfinite"), (0, u "(D)Z"), (9, .fieldref 23 24), (0, .class_ 25), (0, .nameAndType 26 27), (0, u "com/example/swathwork/swathwork/planner/SlewTransition"), (0, u "slewRateDegPerS"), (0, u "D"), (39, u "(D)D"), (1, .class_ 71), (1, u "java/lang/Math"), (1, .methodref 69 74), (0, .nameAndType 75 76), (0, u "max"), (0, u "(DD)D"), (0, .fieldref 23 78), (0, .nameAndType 79 80), (0, u "SETTLING_S"), (0, u "[D"), (0, .fieldref 23 82), (0, .nameAndType 83 80), (0, u "UPPER_DEG"), (2, u "maximumChangeDeg"), (12, .class_ 100), (0, u "com/example/swathwork/swathwork/planner/Transition"), (0, u "WIDEST_CHANGE_DEG"), (1, u "ROUNDING_DEG"), (0, u "TIE_MARGIN_S"), (0, u "(D)V")] 30

def k3c0 : Code := { maxStack := 4, maxLocals := 3, code := prog_40_method_1_code, exceptionTable := #[], attributes := #[] }
def k3m0 : Method := { name := "<init>", desc := "(D)V", sig := { parameters := [.double], returnType := none }, accessFlags := 1, code := some k3c0 }
def k3c1 : Code := { maxStack := 8, maxLocals := 6, code := prog_40_method_12_code, exceptionTable := #[], attributes := #[] }
def k3m1 : Method := { name := "maximumChangeDeg", desc := "(D)D", sig := { parameters := [.double], returnType := some .double }, accessFlags := 1, code := some k3c1 }
/-- com/example/swathwork/swathwork/planner/SlewTransition -/
def k3 : Class := { plain "com/example/swathwork/swathwork/planner/SlewTransition" (some 0) with
  accessFlags := 49
  interfaces := #[2]
  cf := some (fileOf pool3 23 #[] #[{ accessFlags := 1, nameIndex := 5, descriptorIndex := 105, attributes := #[] }, { accessFlags := 1, nameIndex := 86, descriptorIndex := 67, attributes := #[] }] 49 2 #[99] #[{ accessFlags := 26, nameIndex := 101, descriptorIndex := 27, attributes := #[] }, { accessFlags := 26, nameIndex := 103, descriptorIndex := 27, attributes := #[] }, { accessFlags := 26, nameIndex := 104, descriptorIndex := 27, attributes := #[] }, { accessFlags := 26, nameIndex := 79, descriptorIndex := 80, attributes := #[] }, { accessFlags := 26, nameIndex := 83, descriptorIndex := 80, attributes := #[] }, { accessFlags := 18, nameIndex := 26, descriptorIndex := 27, attributes := #[] }])
  fields := #[{ name := "WIDEST_CHANGE_DEG", type := .double, accessFlags := 26, slot := 0, constantValue := 0 }, { name := "ROUNDING_DEG", type := .double, accessFlags := 26, slot := 1, constantValue := 0 }, { name := "TIE_MARGIN_S", type := .double, accessFlags := 26, slot := 2, constantValue := 0 }, { name := "SETTLING_S", type := (.array .double), accessFlags := 26, slot := 3, constantValue := 0 }, { name := "UPPER_DEG", type := (.array .double), accessFlags := 26, slot := 4, constantValue := 0 }, { name := "slewRateDegPerS", type := .double, accessFlags := 18, slot := 0, constantValue := 0 }]
  methods := #[k3m0, k3m1]
  instanceTypes := #[.double]
  staticTypes := #[.double, .double, .double, (.array .double), (.array .double)]
  resolved := Array.replicate 136 none
  statics := some 0 }

def pool4 : Array CpInfo := pool [(1, .class_ 2), (0, u "java/io/Serializable"), (0, .class_ 4), (0, u "java/lang/Object")] 2

/-- java/io/Serializable -/
def k4 : Class := { plain "java/io/Serializable" (some 0) with
  accessFlags := 1537
  interfaces := #[]
  cf := some (fileOf pool4 1 #[] #[] 1537 3 #[] #[])
  fields := #[]
  methods := #[]
  instanceTypes := #[]
  staticTypes := #[]
  resolved := Array.replicate 7 none
  statics := none }

def pool5 : Array CpInfo := pool [(2, .class_ 4), (1, u "java/lang/Object"), (0, u "<init>"), (0, u "()V"), (1, .class_ 10), (1, u "java/lang/Number"), (2, .class_ 14), (0, u "java/io/Serializable"), (0, u "serialVersionUID"), (0, u "J")] 20

def k5m0 : Method := { name := "<init>", desc := "()V", sig := { parameters := [], returnType := none }, accessFlags := 1, code := none }
/-- java/lang/Number -/
def k5 : Class := { plain "java/lang/Number" (some 0) with
  accessFlags := 1057
  interfaces := #[4]
  cf := some (fileOf pool5 8 #[] #[{ accessFlags := 1, nameIndex := 5, descriptorIndex := 6, attributes := #[] }] 1057 2 #[13] #[{ accessFlags := 26, nameIndex := 15, descriptorIndex := 16, attributes := #[] }])
  fields := #[{ name := "serialVersionUID", type := .long, accessFlags := 26, slot := 0, constantValue := 0 }]
  methods := #[k5m0]
  instanceTypes := #[]
  staticTypes := #[.long]
  resolved := Array.replicate 37 none
  statics := none }

def pool6 : Array CpInfo := pool [(1, .class_ 2), (0, u "java/lang/Comparable"), (0, .class_ 4), (0, u "java/lang/Object")] 7

/-- java/lang/Comparable -/
def k6 : Class := { plain "java/lang/Comparable" (some 0) with
  accessFlags := 1537
  interfaces := #[]
  cf := some (fileOf pool6 1 #[] #[] 1537 3 #[] #[])
  fields := #[]
  methods := #[]
  instanceTypes := #[]
  staticTypes := #[]
  resolved := Array.replicate 12 none
  statics := none }

def pool7 : Array CpInfo := pool [(1, .class_ 2), (0, u "java/lang/constant/Constable"), (0, .class_ 4), (0, u "java/lang/Object")] 6

/-- java/lang/constant/Constable -/
def k7 : Class := { plain "java/lang/constant/Constable" (some 0) with
  accessFlags := 1537
  interfaces := #[]
  cf := some (fileOf pool7 1 #[] #[] 1537 3 #[] #[])
  fields := #[]
  methods := #[]
  instanceTypes := #[]
  staticTypes := #[]
  resolved := Array.replicate 11 none
  statics := none }

def pool8 : Array CpInfo := pool [(1, .class_ 2), (0, u "java/lang/constant/ConstantDesc"), (0, .class_ 4), (0, u "java/lang/Object")] 32

/-- java/lang/constant/ConstantDesc -/
def k8 : Class := { plain "java/lang/constant/ConstantDesc" (some 0) with
  accessFlags := 1537
  interfaces := #[]
  cf := some (fileOf pool8 1 #[] #[] 1537 3 #[] #[])
  fields := #[]
  methods := #[]
  instanceTypes := #[]
  staticTypes := #[]
  resolved := Array.replicate 37 none
  statics := none }

def pool9 : Array CpInfo := pool [(1, .class_ 2), (0, u "java/lang/Double"), (11, u "(D)Z"), (8, .class_ 25), (1, u "java/lang/Math"), (12, .methodref 23 39), (0, .nameAndType 40 41), (0, u "abs"), (0, u "(D)D"), (69, .double 9218868437227405311), (2, .class_ 116), (1, u "java/lang/Number"), (3, u "value"), (0, u "D"), (5, u "isInfinite"), (45, u "TYPE"), (0, u "Ljava/lang/Class;"), (0, .class_ 176), (0, u "java/lang/Comparable"), (0, .class_ 178), (0, u "java/lang/constant/Constable"), (0, .class_ 180), (0, u "java/lang/constant/ConstantDesc"), (0, u "POSITIVE_INFINITY"), (3, u "NEGATIVE_INFINITY"), (2, u "NaN"), (2, u "MAX_VALUE"), (0, u "MIN_NORMAL"), (0, u "MIN_VALUE"), (2, u "SIZE"), (0, u "I"), (1, u "PRECISION"), (1, u "MAX_EXPONENT"), (1, u "MIN_EXPONENT"), (1, u "BYTES"), (3, u "serialVersionUID"), (0, u "J")] 79

def k9c0 : Code := { maxStack := 4, maxLocals := 2, code := jdk_117_method_7_code, exceptionTable := #[], attributes := #[] }
def k9m0 : Method := { name := "isInfinite", desc := "(D)Z", sig := { parameters := [.double], returnType := some .boolean }, accessFlags := 9, code := some k9c0 }
/-- java/lang/Double -/
def k9 : Class := { plain "java/lang/Double" (some 5) with
  accessFlags := 49
  interfaces := #[6, 7, 8]
  cf := some (fileOf pool9 1 #[] #[{ accessFlags := 9, nameIndex := 127, descriptorIndex := 14, attributes := #[] }] 49 114 #[175, 177, 179] #[{ accessFlags := 25, nameIndex := 181, descriptorIndex := 121, attributes := #[] }, { accessFlags := 25, nameIndex := 185, descriptorIndex := 121, attributes := #[] }, { accessFlags := 25, nameIndex := 188, descriptorIndex := 121, attributes := #[] }, { accessFlags := 25, nameIndex := 191, descriptorIndex := 121, attributes := #[] }, { accessFlags := 25, nameIndex := 192, descriptorIndex := 121, attributes := #[] }, { accessFlags := 25, nameIndex := 193, descriptorIndex := 121, attributes := #[] }, { accessFlags := 25, nameIndex := 196, descriptorIndex := 197, attributes := #[] }, { accessFlags := 25, nameIndex := 199, descriptorIndex := 197, attributes := #[] }, { accessFlags := 25, nameIndex := 201, descriptorIndex := 197, attributes := #[] }, { accessFlags := 25, nameIndex := 203, descriptorIndex := 197, attributes := #[] }, { accessFlags := 25, nameIndex := 205, descriptorIndex := 197, attributes := #[] }, { accessFlags := 25, nameIndex := 173, descriptorIndex := 174, attributes := #[] }, { accessFlags := 18, nameIndex := 120, descriptorIndex := 121, attributes := #[] }, { accessFlags := 26, nameIndex := 209, descriptorIndex := 210, attributes := #[] }])
  fields := #[{ name := "POSITIVE_INFINITY", type := .double, accessFlags := 25, slot := 0, constantValue := 0 }, { name := "NEGATIVE_INFINITY", type := .double, accessFlags := 25, slot := 1, constantValue := 0 }, { name := "NaN", type := .double, accessFlags := 25, slot := 2, constantValue := 0 }, { name := "MAX_VALUE", type := .double, accessFlags := 25, slot := 3, constantValue := 0 }, { name := "MIN_NORMAL", type := .double, accessFlags := 25, slot := 4, constantValue := 0 }, { name := "MIN_VALUE", type := .double, accessFlags := 25, slot := 5, constantValue := 0 }, { name := "SIZE", type := .int, accessFlags := 25, slot := 6, constantValue := 0 }, { name := "PRECISION", type := .int, accessFlags := 25, slot := 7, constantValue := 0 }, { name := "MAX_EXPONENT", type := .int, accessFlags := 25, slot := 8, constantValue := 0 }, { name := "MIN_EXPONENT", type := .int, accessFlags := 25, slot := 9, constantValue := 0 }, { name := "BYTES", type := .int, accessFlags := 25, slot := 10, constantValue := 0 }, { name := "TYPE", type := (.object "java/lang/Class"), accessFlags := 25, slot := 11, constantValue := 0 }, { name := "value", type := .double, accessFlags := 18, slot := 0, constantValue := 0 }, { name := "serialVersionUID", type := .long, accessFlags := 26, slot := 12, constantValue := 0 }]
  methods := #[k9m0]
  instanceTypes := #[.double]
  staticTypes := #[.double, .double, .double, .double, .double, .double, .int, .int, .int, .int, .int, (.object "java/lang/Class"), .long]
  resolved := Array.replicate 290 none
  statics := none }

def pool10 : Array CpInfo := pool [(1, .class_ 2), (0, u "java/lang/Math"), (1, .class_ 6), (1, u "java/lang/Object"), (0, u "<init>"), (0, u "()V"), (5, u "(D)D"), (37, u "(DD)D"), (45, .class_ 100), (1, u "java/lang/Math$RandomNumberGeneratorHolder"), (23, u "abs"), (47, u "negativeZeroFloatBits"), (0, u "J"), (2, u "negativeZeroDoubleBits"), (21, u "max"), (46, u "$assertionsDisabled"), (0, u "Z"), (91, u "twoToTheDoubleScaleDown"), (0, u "D"), (4, u "twoToTheDoubleScaleUp"), (9, u "E"), (3, u "PI"), (2, u "TAU"), (2, u "DEGREES_TO_RADIANS"), (0, u "RADIANS_TO_DEGREES")] 94

def k10m0 : Method := { name := "<init>", desc := "()V", sig := { parameters := [], returnType := none }, accessFlags := 2, code := none }
def k10c1 : Code := { maxStack := 4, maxLocals := 2, code := jdk_29_method_64_code, exceptionTable := #[], attributes := #[] }
def k10m1 : Method := { name := "abs", desc := "(D)D", sig := { parameters := [.double], returnType := some .double }, accessFlags := 9, code := some k10c1 }
def k10c2 : Code := { maxStack := 4, maxLocals := 4, code := jdk_29_method_68_code, exceptionTable := #[], attributes := #[] }
def k10m2 : Method := { name := "max", desc := "(DD)D", sig := { parameters := [.double, .double], returnType := some .double }, accessFlags := 9, code := some k10c2 }
/-- java/lang/Math -/
def k10 : Class := { plain "java/lang/Math" (some 0) with
  accessFlags := 49
  interfaces := #[]
  cf := some (fileOf pool10 1 #[.nestMembers #[98]] #[{ accessFlags := 2, nameIndex := 7, descriptorIndex := 8, attributes := #[] }, { accessFlags := 9, nameIndex := 124, descriptorIndex := 14, attributes := #[] }, { accessFlags := 9, nameIndex := 198, descriptorIndex := 52, attributes := #[] }] 49 4 #[] #[{ accessFlags := 25, nameIndex := 354, descriptorIndex := 339, attributes := #[] }, { accessFlags := 25, nameIndex := 358, descriptorIndex := 339, attributes := #[] }, { accessFlags := 25, nameIndex := 361, descriptorIndex := 339, attributes := #[] }, { accessFlags := 26, nameIndex := 364, descriptorIndex := 339, attributes := #[] }, { accessFlags := 26, nameIndex := 365, descriptorIndex := 339, attributes := #[] }, { accessFlags := 26, nameIndex := 172, descriptorIndex := 173, attributes := #[] }, { accessFlags := 26, nameIndex := 176, descriptorIndex := 173, attributes := #[] }, { accessFlags := 8, nameIndex := 344, descriptorIndex := 339, attributes := #[] }, { accessFlags := 8, nameIndex := 338, descriptorIndex := 339, attributes := #[] }, { accessFlags := 4120, nameIndex := 245, descriptorIndex := 246, attributes := #[] }])
  fields := #[{ name := "E", type := .double, accessFlags := 25, slot := 0, constantValue := 0 }, { name := "PI", type := .double, accessFlags := 25, slot := 1, constantValue := 0 }, { name := "TAU", type := .double, accessFlags := 25, slot := 2, constantValue := 0 }, { name := "DEGREES_TO_RADIANS", type := .double, accessFlags := 26, slot := 3, constantValue := 0 }, { name := "RADIANS_TO_DEGREES", type := .double, accessFlags := 26, slot := 4, constantValue := 0 }, { name := "negativeZeroFloatBits", type := .long, accessFlags := 26, slot := 5, constantValue := 0 }, { name := "negativeZeroDoubleBits", type := .long, accessFlags := 26, slot := 6, constantValue := 0 }, { name := "twoToTheDoubleScaleUp", type := .double, accessFlags := 8, slot := 7, constantValue := 0 }, { name := "twoToTheDoubleScaleDown", type := .double, accessFlags := 8, slot := 8, constantValue := 0 }, { name := "$assertionsDisabled", type := .boolean, accessFlags := 4120, slot := 9, constantValue := 0 }]
  methods := #[k10m0, k10m1, k10m2]
  instanceTypes := #[]
  staticTypes := #[.double, .double, .double, .double, .double, .long, .long, .double, .double, .boolean]
  resolved := Array.replicate 460 none
  statics := none }

def pool11 : Array CpInfo := pool [(1, u "java/lang/Cloneable"), (0, .class_ 1), (0, u "java/lang/Object"), (0, .class_ 3)] 3

/-- java/lang/Cloneable -/
def k11 : Class := { plain "java/lang/Cloneable" (some 0) with
  accessFlags := 1537
  interfaces := #[]
  cf := some (fileOf pool11 2 #[] #[] 1537 4 #[] #[])
  fields := #[]
  methods := #[]
  instanceTypes := #[]
  staticTypes := #[]
  resolved := Array.replicate 8 none
  statics := none }

/-- the primitive byte -/
def k12 : Class := { plain "byte" none with kind := .primitive 'B', accessFlags := 0x411 }
/-- [B -/
def k13 : Class := { plain "[B" (some 0) with kind := .array 12 .byte, interfaces := #[11, 4], accessFlags := 1041 }

/-- the primitive double -/
def k14 : Class := { plain "double" none with kind := .primitive 'D', accessFlags := 0x411 }
/-- [D -/
def k15 : Class := { plain "[D" (some 0) with kind := .array 14 .double, interfaces := #[11, 4], accessFlags := 1041 }

/-- the primitive int -/
def k16 : Class := { plain "int" none with kind := .primitive 'I', accessFlags := 0x411 }
/-- [I -/
def k17 : Class := { plain "[I" (some 0) with kind := .array 16 .int, interfaces := #[11, 4], accessFlags := 1041 }

def heap : Heap := #[{ cls := 3, slots := #[.double 0, .double 0, .double 0, .ref 1, .ref 2], vm := .statics 3 },
  { cls := 15, slots := #[.double 4617315517961601024, .double 4621819117588971520, .double 4624633867356078080, .double 4626322717216342016], vm := .none },
  { cls := 15, slots := #[.double 4624633867356078080, .double 4630826316843712512, .double 4633641066610819072], vm := .none }]
def classes : Array Class := #[k0, k1, k2, k3, k4, k5, k6, k7, k8, k9, k10, k11, k12, k13, k14, k15, k16, k17]
def interned : List (Array UInt16 × Addr) := []
def slotsUsed : Nat := 12
def theMethod : MethodId := ⟨1, 1⟩
def args0 : Array Value := #[.int 5, .int 60]
def aboutOver (below : List Frame) : State where
  vm := { classes := classes, interned := interned.toArray }
  heap := heap
  slotsUsed := slotsUsed
  threads := #[{ frames := .invoking theMethod args0 :: below }]
def below0 : List Frame := [.native { method := ⟨0, 0⟩, args := #[] }]
def about1 : State := aboutOver below0
def p0 : Program := .bare "" "" ""
def e0 : Env := launch0.env 0 0 0
theorem w_frames : about1.frames = Frame.invoking theMethod args0 :: below0 := rfl
set_option maxRecDepth 65536 in
theorem w_args : argsFit about1.vm theMethod args0 = true := by decide +kernel
set_option maxRecDepth 65536 in
theorem w_heap : heapFits about1 = true := by decide +kernel
set_option maxRecDepth 65536 in
theorem w_runnable : about1.curStatus? = some .runnable := by decide +kernel
set_option maxRecDepth 65536 in
theorem w_alone : about1.alone = true := by decide +kernel
set_option maxRecDepth 65536 in
theorem w_named : about1.methodNamed? x = some theMethod := by decide +kernel
set_option maxRecDepth 65536 in
theorem w_hears : about1.hears theMethod below0 = true := by decide +kernel
set_option maxRecDepth 65536 in
theorem w_ripe : about1.ripe theMethod args0 below0 = true := by decide +kernel
theorem w_running : about1.status = .running := rfl
set_option maxRecDepth 65536 in
theorem w_room : about1.hasRoom e0.platform room_1 = true :=
  launch0.hasRoom_least _ room_1 (by decide +kernel) (by decide +kernel) (by decide +kernel) (by decide +kernel) (by decide +kernel) (by decide +kernel)
theorem allAtoms_all (ts : List Jvm.Cond) (a : Array Jvm.Value) (st : Jvm.State) : (allAtoms ts).before a st = ts.all (fun c => c.before a st) := by
  induction ts with
  | nil => rfl
  | cons c t ih =>
    show (Jvm.Cond.and c (allAtoms t)).before a st = _
    rw [Jvm.Cond.before_and, ih, List.all_cons]
def words1 : List Jvm.Cond := Jvm.Cond.code x code maxLocals ret :: tables_1
/-- a 'code' word, met by the world's own term for the bytes: nothing is compared byte by byte -/
theorem code_word {y : MethodName} {bytes : ByteArray} {mx : Nat} {rt : Option FieldType} {a : Array Value} {s : State} {m : MethodId} {meth : Method} {c : Code} (h1 : s.methodNamed? y = some m) (h2 : s.vm.method? m = some meth) (h3 : meth.code = some c) (h4 : c.code = bytes)
    (h5 : (c.maxLocals == mx && c.exceptionTable.isEmpty && decide (c.maxStack ≤ mostOperands) && decide (meth.sig.returnType = rt) && !meth.locks && decide (parseMethodDescriptor y.desc = some meth.sig)) = true) : (Jvm.Cond.code y bytes mx rt).before a s = true := by
  simp only [Bool.and_eq_true, beq_iff_eq, Bool.not_eq_true', decide_eq_true_eq] at h5
  obtain ⟨⟨⟨⟨⟨g1, g2⟩, g3⟩, g4⟩, g5⟩, g6⟩ := h5
  simp [Cond.before, Cond.holds, Cond.value, h1, h2, h3, h4, g1, g2, g3, g4, g5, g6]
def isCode : Jvm.Cond → Bool
  | .code _ _ _ _ => true
  | _ => false
theorem all_split {L : List Jvm.Cond} {P : Jvm.Cond → Bool} (h1 : L.all (fun c => isCode c || P c) = true) (h2 : ∀ c ∈ L.filter isCode, P c = true) : L.all P = true := by
  refine List.all_eq_true.mpr fun c hc => ?_
  have h := List.all_eq_true.mp h1 c hc
  rcases Bool.eq_false_or_eq_true (isCode c) with hi | hi
  · exact h2 c (List.mem_filter.mpr ⟨hc, hi⟩)
  · simpa [hi] using h
set_option maxRecDepth 65536 in
theorem w_c0 : (Jvm.Cond.code x code maxLocals ret).before args0 about1 = true := code_word (m := ⟨1, 1⟩) (meth := k1m1) (c := k1c1) (by decide +kernel) rfl rfl rfl (by decide +kernel)
set_option maxRecDepth 65536 in
theorem w_c1 : (Jvm.Cond.code ({ cls := "com/example/swathwork/swathwork/planner/SlewTransition", name := "<init>", desc := "(D)V" } : Jvm.MethodName) prog_40_method_1_code (3 : Nat) (Option.none : Option Jvm.ClassFile.FieldType)).before args0 about1 = true := code_word (m := ⟨3, 0⟩) (meth := k3m0) (c := k3c0) (by decide +kernel) rfl rfl rfl (by decide +kernel)
set_option maxRecDepth 65536 in
theorem w_c2 : (Jvm.Cond.code ({ cls := "java/lang/Object", name := "<init>", desc := "()V" } : Jvm.MethodName) object_method_1_code (1 : Nat) (Option.none : Option Jvm.ClassFile.FieldType)).before args0 about1 = true := code_word (m := ⟨0, 0⟩) (meth := k0m0) (c := k0c0) (by decide +kernel) rfl rfl rfl (by decide +kernel)
set_option maxRecDepth 65536 in
theorem w_c3 : (Jvm.Cond.code ({ cls := "java/lang/Double", name := "isInfinite", desc := "(D)Z" } : Jvm.MethodName) jdk_117_method_7_code (2 : Nat) (Option.some Jvm.ClassFile.FieldType.boolean)).before args0 about1 = true := code_word (m := ⟨9, 0⟩) (meth := k9m0) (c := k9c0) (by decide +kernel) rfl rfl rfl (by decide +kernel)
set_option maxRecDepth 65536 in
theorem w_c4 : (Jvm.Cond.code ({ cls := "java/lang/Math", name := "abs", desc := "(D)D" } : Jvm.MethodName) jdk_29_method_64_code (2 : Nat) (Option.some Jvm.ClassFile.FieldType.double)).before args0 about1 = true := code_word (m := ⟨10, 1⟩) (meth := k10m1) (c := k10c1) (by decide +kernel) rfl rfl rfl (by decide +kernel)
set_option maxRecDepth 65536 in
theorem w_c5 : (Jvm.Cond.code ({ cls := "com/example/swathwork/swathwork/planner/SlewTransition", name := "maximumChangeDeg", desc := "(D)D" } : Jvm.MethodName) prog_40_method_12_code (6 : Nat) (Option.some Jvm.ClassFile.FieldType.double)).before args0 about1 = true := code_word (m := ⟨3, 1⟩) (meth := k3m1) (c := k3c1) (by decide +kernel) rfl rfl rfl (by decide +kernel)
set_option maxRecDepth 65536 in
theorem w_c6 : (Jvm.Cond.code ({ cls := "com/example/swathwork/swathwork/planner/SlewTransitionMaximumChangeDegPinLaw", name := "expected", desc := "(DD)D" } : Jvm.MethodName) method_3_code (12 : Nat) (Option.some Jvm.ClassFile.FieldType.double)).before args0 about1 = true := code_word (m := ⟨1, 2⟩) (meth := k1m2) (c := k1c2) (by decide +kernel) rfl rfl rfl (by decide +kernel)
set_option maxRecDepth 65536 in
theorem w_c7 : (Jvm.Cond.code ({ cls := "java/lang/Math", name := "max", desc := "(DD)D" } : Jvm.MethodName) jdk_29_method_68_code (4 : Nat) (Option.some Jvm.ClassFile.FieldType.double)).before args0 about1 = true := code_word (m := ⟨10, 2⟩) (meth := k10m2) (c := k10c2) (by decide +kernel) rfl rfl rfl (by decide +kernel)
def codes1 : List Jvm.Cond := [Jvm.Cond.code x code maxLocals ret, Jvm.Cond.code ({ cls := "com/example/swathwork/swathwork/planner/SlewTransition", name := "<init>", desc := "(D)V" } : Jvm.MethodName) prog_40_method_1_code (3 : Nat) (Option.none : Option Jvm.ClassFile.FieldType), Jvm.Cond.code ({ cls := "java/lang/Object", name := "<init>", desc := "()V" } : Jvm.MethodName) object_method_1_code (1 : Nat) (Option.none : Option Jvm.ClassFile.FieldType), Jvm.Cond.code ({ cls := "java/lang/Double", name := "isInfinite", desc := "(D)Z" } : Jvm.MethodName) jdk_117_method_7_code (2 : Nat) (Option.some Jvm.ClassFile.FieldType.boolean), Jvm.Cond.code ({ cls := "java/lang/Math", name := "abs", desc := "(D)D" } : Jvm.MethodName) jdk_29_method_64_code (2 : Nat) (Option.some Jvm.ClassFile.FieldType.double), Jvm.Cond.code ({ cls := "com/example/swathwork/swathwork/planner/SlewTransition", name := "maximumChangeDeg", desc := "(D)D" } : Jvm.MethodName) prog_40_method_12_code (6 : Nat) (Option.some Jvm.ClassFile.FieldType.double), Jvm.Cond.code ({ cls := "com/example/swathwork/swathwork/planner/SlewTransitionMaximumChangeDegPinLaw", name := "expected", desc := "(DD)D" } : Jvm.MethodName) method_3_code (12 : Nat) (Option.some Jvm.ClassFile.FieldType.double), Jvm.Cond.code ({ cls := "java/lang/Math", name := "max", desc := "(DD)D" } : Jvm.MethodName) jdk_29_method_68_code (4 : Nat) (Option.some Jvm.ClassFile.FieldType.double)]
set_option maxRecDepth 65536 in
theorem codes_eq : words1.filter isCode = codes1 := rfl
theorem w_codes : ∀ c ∈ words1.filter isCode, c.before args0 about1 = true := by
  rw [codes_eq]
  intro c hc
  simp only [codes1, List.mem_cons, List.not_mem_nil, or_false] at hc
  rcases hc with rfl | rfl | rfl | rfl | rfl | rfl | rfl | rfl
  · exact w_c0
  · exact w_c1
  · exact w_c2
  · exact w_c3
  · exact w_c4
  · exact w_c5
  · exact w_c6
  · exact w_c7
set_option maxRecDepth 65536 in
theorem w_t1 : (words1.take 24).all (fun c => isCode c || c.before args0 about1) = true := by decide +kernel
set_option maxRecDepth 65536 in
theorem w_t2 : (words1.drop 24).all (fun c => isCode c || c.before args0 about1) = true := by decide +kernel
theorem w_tables : (allAtoms (Jvm.Cond.code x code maxLocals ret :: tables_1)).before args0 about1 = true := by
  rw [allAtoms_all]
  show words1.all (fun c => c.before args0 about1) = true
  refine all_split ?_ w_codes
  rw [← List.take_append_drop 24 words1, List.all_append, w_t1, w_t2]
  rfl
set_option maxRecDepth 65536 in
theorem w_case : (Jvm.Cond.and given_1 narrow_1).before args0 about1 = true := by decide +kernel
theorem w_applies : (headSpec (Jvm.Cond.code x code maxLocals ret :: tables_1) room_1).applies x e0.platform about1 = true :=
  (Spec.applies_iff w_frames).mpr ⟨w_running, w_runnable, w_alone, w_named, w_hears, w_ripe, w_room, w_tables⟩
theorem atStart : AtStart classFile x code maxLocals ret World_1 tables_1 room_1 Calls_1 rest_1 Pre_1 launch0 p0 e0 about1 theMethod args0 below0 :=
  ⟨lists_1, trivial, launch0.admits_env _ _ _, launch0.least_env, fairChoices_fair.cas, fairChoices_fair.clock, w_frames, w_args, w_heap, w_applies, trivial, trivial, w_case⟩
end start1
theorem witness_1 : WitnessClaimed_1 := ⟨start1.p0, start1.e0, start1.about1, start1.theMethod, start1.args0, start1.below0, start1.atStart⟩
end Jvm.Pilot.@@N@@

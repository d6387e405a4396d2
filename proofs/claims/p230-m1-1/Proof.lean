import JvmDerived
import JvmDerived.Pilot.@@N@@Statement
import JvmDerived.Pilot.@@N@@Code
set_option linter.unusedVariables false
set_option linter.unusedSimpArgs false
namespace Jvm.Pilot.@@N@@
open Jvm Jvm.ClassFile Sem Op Lib Jvm.Free Jvm.Stand Jvm.LawKit Jvm.RoadKit Bundle Jvm.Pilot.@@N@@.Jvm.D
abbrev Gets (p : Program) (e : Env) (below : List Frame) (S0 S : State) : Prop := ∀ t, Steps p.tables e below S t → Steps p.tables e below S0 t
section Own
variable {p : Program} {e : Env} {below : List Frame} {S0 T : State} {m : MethodId} {c : Code} {pc q : Nat} {Ls : Array Slot} {st : List Value}
theorem own_iadd {x y v : Int32} (G : Gets p e below S0 (T.setTop (mkF m pc Ls (.int y :: .int x :: st)))) (h : At T m c below) (hx : p.tables.exec = Jvm.exec) (hd : decode c.code pc = .ok (.iadd, 1)) (hv : x + y = v) (hq : pc + 1 = q) : Gets p e below S0 (T.setTop (mkF m q Ls (.int v :: st))) := by
  subst hv hq; exact fun t k => G t (XS.iadd h hx rfl hd rfl k)
theorem own_isub {x y v : Int32} (G : Gets p e below S0 (T.setTop (mkF m pc Ls (.int y :: .int x :: st)))) (h : At T m c below) (hx : p.tables.exec = Jvm.exec) (hd : decode c.code pc = .ok (.isub, 1)) (hv : x - y = v) (hq : pc + 1 = q) : Gets p e below S0 (T.setTop (mkF m q Ls (.int v :: st))) := by
  subst hv hq; exact fun t k => G t (XS.isub h hx rfl hd rfl k)
theorem own_iand {x y v : Int32} (G : Gets p e below S0 (T.setTop (mkF m pc Ls (.int y :: .int x :: st)))) (h : At T m c below) (hx : p.tables.exec = Jvm.exec) (hd : decode c.code pc = .ok (.iand, 1)) (hv : x &&& y = v) (hq : pc + 1 = q) : Gets p e below S0 (T.setTop (mkF m q Ls (.int v :: st))) := by
  subst hv hq; exact fun t k => G t (XS.iand h hx rfl hd rfl k)
theorem own_ishr {x y v : Int32} (G : Gets p e below S0 (T.setTop (mkF m pc Ls (.int y :: .int x :: st)))) (h : At T m c below) (hx : p.tables.exec = Jvm.exec) (hd : decode c.code pc = .ok (.ishr, 1)) (hv : (x >>> (y &&& 31)) = v) (hq : pc + 1 = q) : Gets p e below S0 (T.setTop (mkF m q Ls (.int v :: st))) := by
  subst hv hq; exact fun t k => G t (XS.ishr h hx rfl hd rfl k)
theorem own_irem {x y v : Int32} (G : Gets p e below S0 (T.setTop (mkF m pc Ls (.int y :: .int x :: st)))) (h : At T m c below) (hx : p.tables.exec = Jvm.exec) (hd : decode c.code pc = .ok (.irem, 1)) (hy : y ≠ 0) (hv : x % y = v) (hq : pc + 1 = q) : Gets p e below S0 (T.setTop (mkF m q Ls (.int v :: st))) := by
  subst hv hq; exact fun t k => G t (XS.irem h hx rfl hd rfl hy (by rw [Jvm.irem_eq_mod]; exact k))
theorem own_i2b {x : Int32} {v : Int32} (G : Gets p e below S0 (T.setTop (mkF m pc Ls (.int x :: st)))) (h : At T m c below) (hx : p.tables.exec = Jvm.exec) (hd : decode c.code pc = .ok (.i2b, 1)) (hv : (x.toInt8.toInt32) = v) (hq : pc + 1 = q) : Gets p e below S0 (T.setTop (mkF m q Ls (.int v :: st))) := by
  subst hv hq; exact fun t k => G t (XS.i2b h hx rfl hd rfl k)
theorem own_iconst {i : Int} {v : Int32} (G : Gets p e below S0 (T.setTop (mkF m pc Ls st))) (h : At T m c below) (hx : p.tables.exec = Jvm.exec) (hd : decode c.code pc = .ok (.iconst i, 1)) (hv : Int32.ofInt i = v) (hq : pc + 1 = q) : Gets p e below S0 (T.setTop (mkF m q Ls (.int v :: st))) := by
  subst hv hq; exact fun t k => G t (XS.iconst h hx rfl hd k)
theorem own_bipush {i : Int} {v : Int32} (G : Gets p e below S0 (T.setTop (mkF m pc Ls st))) (h : At T m c below) (hx : p.tables.exec = Jvm.exec) (hd : decode c.code pc = .ok (.bipush i, 2)) (hv : (Int8.ofInt i).toInt32 = v) (hq : pc + 2 = q) : Gets p e below S0 (T.setTop (mkF m q Ls (.int v :: st))) := by
  subst hv hq; exact fun t k => G t (XS.bipush h hx rfl hd k)
theorem own_iload {i : Nat} {v : Int32} (G : Gets p e below S0 (T.setTop (mkF m pc Ls st))) (h : At T m c below) (hx : p.tables.exec = Jvm.exec) (hd : decode c.code pc = .ok (.iload i, 2)) (hl : Ls[i]? = some (.val (.int v))) (hq : pc + 2 = q) : Gets p e below S0 (T.setTop (mkF m q Ls (.int v :: st))) := by
  subst hq; exact fun t k => G t (XS.iload h hx rfl hd hl k)
theorem own_iloadN {i : Fin 4} {v : Int32} (G : Gets p e below S0 (T.setTop (mkF m pc Ls st))) (h : At T m c below) (hx : p.tables.exec = Jvm.exec) (hd : decode c.code pc = .ok (.iload_n i, 1)) (hl : Ls[i.val]? = some (.val (.int v))) (hq : pc + 1 = q) : Gets p e below S0 (T.setTop (mkF m q Ls (.int v :: st))) := by
  subst hq; exact fun t k => G t (XS.iloadN h hx rfl hd hl k)
theorem own_aload {i : Nat} {v : Value} (G : Gets p e below S0 (T.setTop (mkF m pc Ls st))) (h : At T m c below) (hx : p.tables.exec = Jvm.exec) (hd : decode c.code pc = .ok (.aload i, 2)) (hl : Ls[i]? = some (.val v)) (hv : v.isRef = true) (hq : pc + 2 = q) : Gets p e below S0 (T.setTop (mkF m q Ls (v :: st))) := by
  subst hq; exact fun t k => G t (XS.aload h hx rfl hd hl hv k)
theorem own_aloadN {i : Fin 4} {v : Value} (G : Gets p e below S0 (T.setTop (mkF m pc Ls st))) (h : At T m c below) (hx : p.tables.exec = Jvm.exec) (hd : decode c.code pc = .ok (.aload_n i, 1)) (hl : Ls[i.val]? = some (.val v)) (hv : v.isRef = true) (hq : pc + 1 = q) : Gets p e below S0 (T.setTop (mkF m q Ls (v :: st))) := by
  subst hq; exact fun t k => G t (XS.aloadN h hx rfl hd hl hv k)
theorem own_istore {i : Nat} {v : Int32} {l' : Array Slot} (G : Gets p e below S0 (T.setTop (mkF m pc Ls (.int v :: st)))) (h : At T m c below) (hx : p.tables.exec = Jvm.exec) (hd : decode c.code pc = .ok (.istore i, 2)) (hl : storeLocals Ls i (.int v) = some l') (hq : pc + 2 = q) : Gets p e below S0 (T.setTop (mkF m q l' st)) := by
  subst hq; exact fun t k => G t (XS.istore h hx rfl hd rfl hl k)
theorem own_istoreN {i : Fin 4} {v : Int32} {l' : Array Slot} (G : Gets p e below S0 (T.setTop (mkF m pc Ls (.int v :: st)))) (h : At T m c below) (hx : p.tables.exec = Jvm.exec) (hd : decode c.code pc = .ok (.istore_n i, 1)) (hl : storeLocals Ls i.val (.int v) = some l') (hq : pc + 1 = q) : Gets p e below S0 (T.setTop (mkF m q l' st)) := by
  subst hq; exact fun t k => G t (XS.istoreN h hx rfl hd rfl hl k)
theorem own_astore {i : Nat} {v : Value} {l' : Array Slot} (G : Gets p e below S0 (T.setTop (mkF m pc Ls (v :: st)))) (h : At T m c below) (hx : p.tables.exec = Jvm.exec) (hd : decode c.code pc = .ok (.astore i, 2)) (hv : v.isRef = true) (hl : storeLocals Ls i v = some l') (hq : pc + 2 = q) : Gets p e below S0 (T.setTop (mkF m q l' st)) := by
  subst hq; exact fun t k => G t (XS.astore h hx rfl hd rfl hv hl k)
theorem own_iinc {i : Nat} {d : Int} {x w v : Int32} {l' : Array Slot} (G : Gets p e below S0 (T.setTop (mkF m pc Ls st))) (h : At T m c below) (hx : p.tables.exec = Jvm.exec) (hd : decode c.code pc = .ok (.iinc i d, 3)) (hw : Int32.ofInt d = w) (hl : Ls[i]? = some (.val (.int x))) (hv : x + w = v) (hl' : storeLocals Ls i (.int v) = some l') (hq : pc + 3 = q) : Gets p e below S0 (T.setTop (mkF m q l' st)) := by
  subst hw hv hq; exact fun t k => G t (XS.iinc h hx rfl hd hl hl' k)
theorem own_goto {o : Int} (G : Gets p e below S0 (T.setTop (mkF m pc Ls st))) (h : At T m c below) (hx : p.tables.exec = Jvm.exec) (hd : decode c.code pc = .ok (.goto o, 3))  (ho : 0 ≤ (pc : Int) + o) (hp : ((pc : Int) + o).toNat = q) : Gets p e below S0 (T.setTop (mkF m q Ls st)) := by
  exact fun t k => G t (XS.goto h hx rfl rfl hd ho hp k)
theorem own_ifYes {cd : ClassFile.Cond} {o : Int} {x : Int32} (G : Gets p e below S0 (T.setTop (mkF m pc Ls (.int x :: st)))) (h : At T m c below) (hx : p.tables.exec = Jvm.exec) (hd : decode c.code pc = .ok (.ifCond cd o, 3)) (hc : ifCond.holds cd x = true) (ho : 0 ≤ (pc : Int) + o) (hp : ((pc : Int) + o).toNat = q) : Gets p e below S0 (T.setTop (mkF m q Ls st)) := by
  exact fun t k => G t (XS.ifYes h hx rfl rfl hd rfl hc ho hp k)
theorem own_ifNo {cd : ClassFile.Cond} {o : Int} {x : Int32} (G : Gets p e below S0 (T.setTop (mkF m pc Ls (.int x :: st)))) (h : At T m c below) (hx : p.tables.exec = Jvm.exec) (hd : decode c.code pc = .ok (.ifCond cd o, 3)) (hc : ifCond.holds cd x = false) (hq : pc + 3 = q) : Gets p e below S0 (T.setTop (mkF m q Ls st)) := by
  subst hq; exact fun t k => G t (XS.ifNo h hx rfl hd rfl hc k)
theorem own_icmpYes {cd : ClassFile.Cond} {o : Int} {x y : Int32} (G : Gets p e below S0 (T.setTop (mkF m pc Ls (.int y :: .int x :: st)))) (h : At T m c below) (hx : p.tables.exec = Jvm.exec) (hd : decode c.code pc = .ok (.if_icmp cd o, 3)) (hc : if_icmp.holds cd x y = true) (ho : 0 ≤ (pc : Int) + o) (hp : ((pc : Int) + o).toNat = q) : Gets p e below S0 (T.setTop (mkF m q Ls st)) := by
  exact fun t k => G t (XS.icmpYes h hx rfl rfl hd rfl hc ho hp k)
theorem own_icmpNo {cd : ClassFile.Cond} {o : Int} {x y : Int32} (G : Gets p e below S0 (T.setTop (mkF m pc Ls (.int y :: .int x :: st)))) (h : At T m c below) (hx : p.tables.exec = Jvm.exec) (hd : decode c.code pc = .ok (.if_icmp cd o, 3)) (hc : if_icmp.holds cd x y = false) (hq : pc + 3 = q) : Gets p e below S0 (T.setTop (mkF m q Ls st)) := by
  subst hq; exact fun t k => G t (XS.icmpNo h hx rfl hd rfl hc k)
end Own
theorem own_lt32 {x y : Int32} : x < y ↔ x.toInt < y.toInt := Int32.lt_iff_toInt_lt
theorem own_rem {i u : Int32} (d : Int32) (k : Int) (hk : d.toInt = k) (h0 : 0 < k) (h : (u &&& 2147483647) % d = i) : 0 ≤ i.toInt ∧ i.toInt < k := by
  have a1 := c_mask u 2147483647 31 (by decide) (by decide)
  have a2 := (c_irem (u &&& 2147483647) d k hk).1 (by omega)
  rw [h] at a2
  have m2 := Int.emod_nonneg (u &&& 2147483647).toInt (show k ≠ 0 by omega)
  have m3 := Int.emod_lt_of_pos (u &&& 2147483647).toInt h0
  omega
theorem own_num {i : Int32} (k : Int32) (h : i.toInt = k.toInt) : i = k := Int32.toInt_inj.mp h
theorem own_cases6 {i : Int32} (h : 0 ≤ i.toInt ∧ i.toInt < 6) : i = 0 ∨ i = 1 ∨ i = 2 ∨ i = 3 ∨ i = 4 ∨ i = 5 := by
  have e0 : (0 : Int32).toInt = 0 := rfl
  have e1 : (1 : Int32).toInt = 1 := rfl
  have e2 : (2 : Int32).toInt = 2 := rfl
  have e3 : (3 : Int32).toInt = 3 := rfl
  have e4 : (4 : Int32).toInt = 4 := rfl
  have e5 : (5 : Int32).toInt = 5 := rfl
  have q : i.toInt = 0 ∨ i.toInt = 1 ∨ i.toInt = 2 ∨ i.toInt = 3 ∨ i.toInt = 4 ∨ i.toInt = 5 := by omega
  rcases q with q | q | q | q | q | q
  · exact Or.inl (own_num 0 q)
  · exact Or.inr (Or.inl (own_num 1 q))
  · exact Or.inr (Or.inr (Or.inl (own_num 2 q)))
  · exact Or.inr (Or.inr (Or.inr (Or.inl (own_num 3 q))))
  · exact Or.inr (Or.inr (Or.inr (Or.inr (Or.inl (own_num 4 q)))))
  · exact Or.inr (Or.inr (Or.inr (Or.inr (Or.inr ((own_num 5 q))))))
theorem own_cases7 {i : Int32} (h : 0 ≤ i.toInt ∧ i.toInt < 7) : i = 0 ∨ i = 1 ∨ i = 2 ∨ i = 3 ∨ i = 4 ∨ i = 5 ∨ i = 6 := by
  have e0 : (0 : Int32).toInt = 0 := rfl
  have e1 : (1 : Int32).toInt = 1 := rfl
  have e2 : (2 : Int32).toInt = 2 := rfl
  have e3 : (3 : Int32).toInt = 3 := rfl
  have e4 : (4 : Int32).toInt = 4 := rfl
  have e5 : (5 : Int32).toInt = 5 := rfl
  have e6 : (6 : Int32).toInt = 6 := rfl
  have q : i.toInt = 0 ∨ i.toInt = 1 ∨ i.toInt = 2 ∨ i.toInt = 3 ∨ i.toInt = 4 ∨ i.toInt = 5 ∨ i.toInt = 6 := by omega
  rcases q with q | q | q | q | q | q | q
  · exact Or.inl (own_num 0 q)
  · exact Or.inr (Or.inl (own_num 1 q))
  · exact Or.inr (Or.inr (Or.inl (own_num 2 q)))
  · exact Or.inr (Or.inr (Or.inr (Or.inl (own_num 3 q))))
  · exact Or.inr (Or.inr (Or.inr (Or.inr (Or.inl (own_num 4 q)))))
  · exact Or.inr (Or.inr (Or.inr (Or.inr (Or.inr (Or.inl (own_num 5 q))))))
  · exact Or.inr (Or.inr (Or.inr (Or.inr (Or.inr (Or.inr ((own_num 6 q)))))))
theorem own_cases8 {i : Int32} (h : 0 ≤ i.toInt ∧ i.toInt < 8) : i = 0 ∨ i = 1 ∨ i = 2 ∨ i = 3 ∨ i = 4 ∨ i = 5 ∨ i = 6 ∨ i = 7 := by
  have e0 : (0 : Int32).toInt = 0 := rfl
  have e1 : (1 : Int32).toInt = 1 := rfl
  have e2 : (2 : Int32).toInt = 2 := rfl
  have e3 : (3 : Int32).toInt = 3 := rfl
  have e4 : (4 : Int32).toInt = 4 := rfl
  have e5 : (5 : Int32).toInt = 5 := rfl
  have e6 : (6 : Int32).toInt = 6 := rfl
  have e7 : (7 : Int32).toInt = 7 := rfl
  have q : i.toInt = 0 ∨ i.toInt = 1 ∨ i.toInt = 2 ∨ i.toInt = 3 ∨ i.toInt = 4 ∨ i.toInt = 5 ∨ i.toInt = 6 ∨ i.toInt = 7 := by omega
  rcases q with q | q | q | q | q | q | q | q
  · exact Or.inl (own_num 0 q)
  · exact Or.inr (Or.inl (own_num 1 q))
  · exact Or.inr (Or.inr (Or.inl (own_num 2 q)))
  · exact Or.inr (Or.inr (Or.inr (Or.inl (own_num 3 q))))
  · exact Or.inr (Or.inr (Or.inr (Or.inr (Or.inl (own_num 4 q)))))
  · exact Or.inr (Or.inr (Or.inr (Or.inr (Or.inr (Or.inl (own_num 5 q))))))
  · exact Or.inr (Or.inr (Or.inr (Or.inr (Or.inr (Or.inr (Or.inl (own_num 6 q)))))))
  · exact Or.inr (Or.inr (Or.inr (Or.inr (Or.inr (Or.inr (Or.inr ((own_num 7 q))))))))

def own_ea (f : Int32 → Int32) (fr to j j1 j2 j3 : Int32) : Int32 := if to < j then 0 else if j2 < fr then 0 else if f j1 = 10 then (if f j2 = 10 then 1 else if j3 < fr then 0 else if f j2 = 13 then (if f j3 = 10 then 1 else 0) else 0) else 0
def own_he (f : Int32 → Int32) (to : Int32) : Nat → Int32 → Int32
  | 0, _ => -1
  | d + 1, i => if i < to - 1 then (if f i = 10 ∧ f (i + 1) = 10 then i + 2 else if f i = 10 ∧ f (i + 1) = 13 ∧ i + 2 < to ∧ f (i + 2) = 10 then i + 3 else own_he f to d (i + 1)) else -1
theorem own_fun (e0 e1 e2 e3 e4 e5 e6 : Int32) : ∃ f : Int32 → Int32, ∀ i : Int32, 0 ≤ i.toInt → i.toInt < 7 → [Value.int e0, .int e1, .int e2, .int e3, .int e4, .int e5, .int e6].getD i.toNatClampNeg (.int (0 : Int32)) = .int (f i) := by
  refine ⟨fun i => if i = 0 then e0 else if i = 1 then e1 else if i = 2 then e2 else if i = 3 then e3 else if i = 4 then e4 else if i = 5 then e5 else e6, fun i h1 h2 => ?_⟩
  rcases own_cases7 ⟨h1, h2⟩ with rfl | rfl | rfl | rfl | rfl | rfl | rfl <;> rfl
theorem own_nlt {i : Int32} (h : 0 ≤ i.toInt) : ¬ i < 0 := by rw [own_lt32]; have : (0 : Int32).toInt = 0 := rfl; omega
theorem own_lt7 {i : Int32} (h : i.toInt < 7) : i < 7 := by rw [own_lt32]; exact h
theorem own_p1 {i : Int32} (h : 0 ≤ i.toInt) (h2 : i.toInt ≤ 7) : (i + 1).toInt = i.toInt + 1 := by have a := c_iadd i 1; have b := rng32 (i + 1); rw [show (1 : Int32).toInt = 1 from rfl] at a; omega
theorem own_p2 {i : Int32} (h : 0 ≤ i.toInt) (h2 : i.toInt ≤ 7) : (i + 2).toInt = i.toInt + 2 := by have a := c_iadd i 2; have b := rng32 (i + 2); rw [show (2 : Int32).toInt = 2 from rfl] at a; omega
theorem own_s1 {i : Int32} (h : 0 ≤ i.toInt) (h2 : i.toInt ≤ 7) : (i - 1).toInt = i.toInt - 1 := by have a := c_isub i 1; have b := rng32 (i - 1); rw [show (1 : Int32).toInt = 1 from rfl] at a; omega
def own_a (f : Int32 → Int32) (j : Int32) : Prop := f j = 10 ∧ f (j + 1) = 10
def own_b (f : Int32 → Int32) (to j : Int32) : Prop := f j = 10 ∧ f (j + 1) = 13 ∧ j + 2 < to ∧ f (j + 2) = 10
def own_nab (f : Int32 → Int32) (to j : Int32) : Prop := ¬ own_a f j ∧ ¬ own_b f to j
theorem own_eqi {x y : Int32} : x = y ↔ x.toInt = y.toInt := Int32.toInt_inj.symm
theorem own_eai (f : Int32 → Int32) (fr to j j1 j2 j3 : Int32) : (¬ own_ea f fr to j j1 j2 j3 = 0) ↔ (j.toInt ≤ to.toInt ∧ fr.toInt ≤ j2.toInt ∧ (f j1).toInt = 10 ∧ ((f j2).toInt = 10 ∨ (fr.toInt ≤ j3.toInt ∧ (f j2).toInt = 13 ∧ (f j3).toInt = 10))) := by
  have l10 : (10 : Int32).toInt = 10 := rfl
  have l13 : (13 : Int32).toInt = 13 := rfl
  unfold own_ea
  by_cases c1 : to < j
  · rw [if_pos c1]; rw [own_lt32] at c1; exact ⟨fun h => absurd rfl h, fun h => by omega⟩
  · rw [if_neg c1]; rw [own_lt32] at c1
    by_cases c2 : j2 < fr
    · rw [if_pos c2]; rw [own_lt32] at c2; exact ⟨fun h => absurd rfl h, fun h => by omega⟩
    · rw [if_neg c2]; rw [own_lt32] at c2
      by_cases c3 : f j1 = 10
      · rw [if_pos c3]; rw [own_eqi, l10] at c3
        by_cases c4 : f j2 = 10
        · rw [if_pos c4]; rw [own_eqi, l10] at c4; exact ⟨fun _ => by omega, fun _ => by decide⟩
        · rw [if_neg c4]; rw [own_eqi, l10] at c4
          by_cases c5 : j3 < fr
          · rw [if_pos c5]; rw [own_lt32] at c5; exact ⟨fun h => absurd rfl h, fun h => by omega⟩
          · rw [if_neg c5]; rw [own_lt32] at c5
            by_cases c6 : f j2 = 13
            · rw [if_pos c6]; rw [own_eqi, l13] at c6
              by_cases c7 : f j3 = 10
              · rw [if_pos c7]; rw [own_eqi, l10] at c7; exact ⟨fun _ => by omega, fun _ => by decide⟩
              · rw [if_neg c7]; rw [own_eqi, l10] at c7; exact ⟨fun h => absurd rfl h, fun h => by omega⟩
            · rw [if_neg c6]; rw [own_eqi, l13] at c6; exact ⟨fun h => absurd rfl h, fun h => by omega⟩
      · rw [if_neg c3]; rw [own_eqi, l10] at c3; exact ⟨fun h => absurd rfl h, fun h => by omega⟩
theorem own_hes (f : Int32 → Int32) (to : Int32) (ht : 0 ≤ to.toInt ∧ to.toInt ≤ 7) : ∀ (d : Nat) (i : Int32), 0 ≤ i.toInt → i.toInt ≤ 7 → to.toInt - 1 - i.toInt ≤ d →
    (own_he f to d i = -1 ∧ ∀ j : Int32, i.toInt ≤ j.toInt → j.toInt < to.toInt - 1 → own_nab f to j) ∨ ∃ j : Int32, i.toInt ≤ j.toInt ∧ j.toInt < to.toInt - 1 ∧ (∀ j' : Int32, i.toInt ≤ j'.toInt → j'.toInt < j.toInt → own_nab f to j') ∧ ((own_a f j ∧ own_he f to d i = j + 2) ∨ (¬ own_a f j ∧ own_b f to j ∧ own_he f to d i = j + 3)) := by
  have hs := own_s1 ht.1 ht.2
  intro d
  induction d with
  | zero => intro i h0 h7 hd; exact Or.inl ⟨rfl, fun j h1 h2 => by omega⟩
  | succ d ih =>
    intro i h0 h7 hd
    have hp := own_p1 h0 h7
    by_cases cc : i < to - 1
    · have ci := cc
      rw [own_lt32, hs] at ci
      by_cases ca : own_a f i
      · refine Or.inr ⟨i, by omega, by omega, fun j' h1 h2 => by omega, Or.inl ⟨ca, ?_⟩⟩
        show (if i < to - 1 then (if f i = 10 ∧ f (i + 1) = 10 then i + 2 else if f i = 10 ∧ f (i + 1) = 13 ∧ i + 2 < to ∧ f (i + 2) = 10 then i + 3 else own_he f to d (i + 1)) else -1) = _
        rw [if_pos cc, if_pos (show f i = 10 ∧ f (i + 1) = 10 from ca)]
      · by_cases cb : own_b f to i
        · refine Or.inr ⟨i, by omega, by omega, fun j' h1 h2 => by omega, Or.inr ⟨ca, cb, ?_⟩⟩
          show (if i < to - 1 then (if f i = 10 ∧ f (i + 1) = 10 then i + 2 else if f i = 10 ∧ f (i + 1) = 13 ∧ i + 2 < to ∧ f (i + 2) = 10 then i + 3 else own_he f to d (i + 1)) else -1) = _
          rw [if_pos cc, if_neg (show ¬ (f i = 10 ∧ f (i + 1) = 10) from ca), if_pos (show f i = 10 ∧ f (i + 1) = 13 ∧ i + 2 < to ∧ f (i + 2) = 10 from cb)]
        · have e : own_he f to (d + 1) i = own_he f to d (i + 1) := by
            show (if i < to - 1 then (if f i = 10 ∧ f (i + 1) = 10 then i + 2 else if f i = 10 ∧ f (i + 1) = 13 ∧ i + 2 < to ∧ f (i + 2) = 10 then i + 3 else own_he f to d (i + 1)) else -1) = _
            rw [if_pos cc, if_neg (show ¬ (f i = 10 ∧ f (i + 1) = 10) from ca), if_neg (show ¬ (f i = 10 ∧ f (i + 1) = 13 ∧ i + 2 < to ∧ f (i + 2) = 10) from cb)]
          have here : ∀ j : Int32, i.toInt = j.toInt → own_nab f to j := fun j q => by
            have : i = j := own_eqi.mpr q
            subst this; exact ⟨ca, cb⟩
          rw [e]
          rcases ih (i + 1) (by omega) (by omega) (by omega) with ⟨g1, g2⟩ | ⟨j, g1, g2, g3, g4⟩
          · refine Or.inl ⟨g1, fun j h1 h2 => ?_⟩
            by_cases q : i.toInt = j.toInt
            · exact here j q
            · exact g2 j (by omega) h2
          · refine Or.inr ⟨j, by omega, g2, fun j' h1 h2 => ?_, g4⟩
            by_cases q : i.toInt = j'.toInt
            · exact here j' q
            · exact g3 j' (by omega) h2
    · refine Or.inl ⟨?_, fun j h1 h2 => ?_⟩
      · show (if i < to - 1 then (if f i = 10 ∧ f (i + 1) = 10 then i + 2 else if f i = 10 ∧ f (i + 1) = 13 ∧ i + 2 < to ∧ f (i + 2) = 10 then i + 3 else own_he f to d (i + 1)) else -1) = _
        rw [if_neg cc]
      · rw [own_lt32, hs] at cc; omega
def own_M (f : Int32 → Int32) (fr to e : Int32) : Prop := ¬ own_ea f fr to e (e - 1) (e - 2) (e - 3) = 0
theorem own_ar {k : Int32} (h : 2 ≤ k.toInt ∧ k.toInt ≤ 7) : (k - 1).toInt = k.toInt - 1 ∧ (k - 2).toInt = k.toInt - 2 ∧ (k - 3).toInt = k.toInt - 3 := by
  have a1 := c_isub k 1
  have a2 := c_isub k 2
  have a3 := c_isub k 3
  rw [show (1 : Int32).toInt = 1 from rfl] at a1
  rw [show (2 : Int32).toInt = 2 from rfl] at a2
  rw [show (3 : Int32).toInt = 3 from rfl] at a3
  have r1 := rng32 (k - 1)
  have r2 := rng32 (k - 2)
  have r3 := rng32 (k - 3)
  omega
theorem own_ad {k : Int32} (h : -1 ≤ k.toInt ∧ k.toInt ≤ 7) : (k + 1).toInt = k.toInt + 1 ∧ (k + 2).toInt = k.toInt + 2 ∧ (k + 3).toInt = k.toInt + 3 := by
  have a1 := c_iadd k 1
  have a2 := c_iadd k 2
  have a3 := c_iadd k 3
  rw [show (1 : Int32).toInt = 1 from rfl] at a1
  rw [show (2 : Int32).toInt = 2 from rfl] at a2
  rw [show (3 : Int32).toInt = 3 from rfl] at a3
  have r1 := rng32 (k + 1)
  have r2 := rng32 (k + 2)
  have r3 := rng32 (k + 3)
  omega
theorem own_L1 {f : Int32 → Int32} {fr to k : Int32} (hk : 2 ≤ k.toInt ∧ k.toInt ≤ 7) (h : own_M f fr to k) : ∃ j : Int32, fr.toInt ≤ j.toInt ∧ j.toInt < to.toInt - 1 ∧ ((own_a f j ∧ j.toInt + 2 = k.toInt) ∨ (own_b f to j ∧ j.toInt + 3 = k.toInt)) := by
  have l10 : (10 : Int32).toInt = 10 := rfl
  have l13 : (13 : Int32).toInt = 13 := rfl
  obtain ⟨e1, e2, e3⟩ := own_ar hk
  obtain ⟨h1, h2, h3, h4⟩ := (own_eai f fr to k (k - 1) (k - 2) (k - 3)).mp h
  have i1 : k - 2 + 1 = k - 1 := own_eqi.mpr (by have := own_ad (k := k - 2) (by omega); omega)
  rcases h4 with h4 | ⟨h4, h5, h6⟩
  · refine ⟨k - 2, h2, by omega, Or.inl ⟨⟨own_eqi.mpr (h4.trans l10.symm), ?_⟩, by omega⟩⟩
    rw [i1]; exact own_eqi.mpr (h3.trans l10.symm)
  · have i2 : k - 3 + 1 = k - 2 := own_eqi.mpr (by have := own_ad (k := k - 3) (by omega); omega)
    have i3 : k - 3 + 2 = k - 1 := own_eqi.mpr (by have := own_ad (k := k - 3) (by omega); omega)
    refine ⟨k - 3, h4, by omega, Or.inr ⟨⟨own_eqi.mpr (h6.trans l10.symm), ?_, ?_, ?_⟩, by omega⟩⟩
    · rw [i2]; exact own_eqi.mpr (h5.trans l13.symm)
    · rw [i3, own_lt32]; omega
    · rw [i3]; exact own_eqi.mpr (h3.trans l10.symm)
theorem own_L3 {f : Int32 → Int32} {fr to j r : Int32} (hfr : 0 ≤ fr.toInt ∧ fr.toInt ≤ 7) (hto : 0 ≤ to.toInt ∧ to.toInt ≤ 7) (g1 : fr.toInt ≤ j.toInt) (g2 : j.toInt < to.toInt - 1) (g4 : (own_a f j ∧ r = j + 2) ∨ (¬ own_a f j ∧ own_b f to j ∧ r = j + 3)) :
    own_M f fr to r ∧ 2 ≤ r.toInt ∧ r.toInt ≤ 7 ∧ (r.toInt = j.toInt + 2 ∨ (r.toInt = j.toInt + 3 ∧ ¬ own_a f j)) := by
  have l10 : (10 : Int32).toInt = 10 := rfl
  have l13 : (13 : Int32).toInt = 13 := rfl
  obtain ⟨d1, d2, d3⟩ := own_ad (k := j) (by omega)
  rcases g4 with ⟨⟨q1, q2⟩, rfl⟩ | ⟨q0, ⟨q1, q2, q3, q4⟩, rfl⟩
  · obtain ⟨e1, e2, e3⟩ := own_ar (k := j + 2) (by omega)
    have i1 : j + 2 - 1 = j + 1 := own_eqi.mpr (by omega)
    have i2 : j + 2 - 2 = j := own_eqi.mpr (by omega)
    refine ⟨(own_eai f fr to (j + 2) (j + 2 - 1) (j + 2 - 2) (j + 2 - 3)).mpr ⟨by omega, by omega, ?_, Or.inl ?_⟩, by omega, by omega, Or.inl d2⟩
    · rw [i1, q2]; rfl
    · rw [i2, q1]; rfl
  · rw [own_lt32] at q3
    obtain ⟨e1, e2, e3⟩ := own_ar (k := j + 3) (by omega)
    have i1 : j + 3 - 1 = j + 2 := own_eqi.mpr (by omega)
    have i2 : j + 3 - 2 = j + 1 := own_eqi.mpr (by omega)
    have i3 : j + 3 - 3 = j := own_eqi.mpr (by omega)
    refine ⟨(own_eai f fr to (j + 3) (j + 3 - 1) (j + 3 - 2) (j + 3 - 3)).mpr ⟨by omega, by omega, ?_, Or.inr ⟨by omega, ?_, ?_⟩⟩, by omega, by omega, Or.inr ⟨d3, q0⟩⟩
    · rw [i1, q4]; rfl
    · rw [i2, q2]; rfl
    · rw [i3, q1]; rfl
theorem own_first {f : Int32 → Int32} {fr to r : Int32} (hfr : 0 ≤ fr.toInt ∧ fr.toInt ≤ 7) (hto : 0 ≤ to.toInt ∧ to.toInt ≤ 7)
    (hd : (r = -1 ∧ ∀ j : Int32, fr.toInt ≤ j.toInt → j.toInt < to.toInt - 1 → own_nab f to j) ∨ ∃ j : Int32, fr.toInt ≤ j.toInt ∧ j.toInt < to.toInt - 1 ∧ (∀ j' : Int32, fr.toInt ≤ j'.toInt → j'.toInt < j.toInt → own_nab f to j') ∧ ((own_a f j ∧ r = j + 2) ∨ (¬ own_a f j ∧ own_b f to j ∧ r = j + 3)))
    {k : Int32} (hk : 2 ≤ k.toInt ∧ k.toInt ≤ 7) (hM : own_M f fr to k) (hlt : ∀ e : Int32, 2 ≤ e.toInt → e.toInt < k.toInt → ¬ own_M f fr to e) : r = k := by
  obtain ⟨j', p1, p2, p3⟩ := own_L1 hk hM
  rcases hd with ⟨-, g2⟩ | ⟨j, g1, g2, g3, g4⟩
  · have n := g2 j' p1 p2
    rcases p3 with ⟨q, -⟩ | ⟨q, -⟩
    · exact absurd q n.1
    · exact absurd q n.2
  · obtain ⟨m1, m2, m3, m4⟩ := own_L3 hfr hto g1 g2 g4
    rcases Int.lt_trichotomy r.toInt k.toInt with q | q | q
    · exact absurd m1 (hlt r m2 q)
    · exact own_eqi.mpr q
    · exfalso
      rcases p3 with ⟨z, w⟩ | ⟨z, w⟩
      · by_cases c : j'.toInt < j.toInt
        · exact (g3 j' p1 c).1 z
        · rcases m4 with u | ⟨u, v⟩
          · omega
          · have : j' = j := own_eqi.mpr (by omega)
            exact v (this ▸ z)
      · exact (g3 j' p1 (by omega)).2 z
theorem own_none {f : Int32 → Int32} {fr to r : Int32} (hfr : 0 ≤ fr.toInt ∧ fr.toInt ≤ 7) (hto : 0 ≤ to.toInt ∧ to.toInt ≤ 7)
    (hd : (r = -1 ∧ ∀ j : Int32, fr.toInt ≤ j.toInt → j.toInt < to.toInt - 1 → own_nab f to j) ∨ ∃ j : Int32, fr.toInt ≤ j.toInt ∧ j.toInt < to.toInt - 1 ∧ (∀ j' : Int32, fr.toInt ≤ j'.toInt → j'.toInt < j.toInt → own_nab f to j') ∧ ((own_a f j ∧ r = j + 2) ∨ (¬ own_a f j ∧ own_b f to j ∧ r = j + 3)))
    (hno : ∀ e : Int32, 2 ≤ e.toInt → e.toInt ≤ 7 → ¬ own_M f fr to e) : r = -1 := by
  rcases hd with ⟨g, -⟩ | ⟨j, g1, g2, g3, g4⟩
  · exact g
  · obtain ⟨m1, m2, m3, -⟩ := own_L3 hfr hto g1 g2 g4
    exact absurd m1 (hno r m2 m3)
theorem own_law (f : Int32 → Int32) (fr to : Int32) (hfr : 0 ≤ fr.toInt ∧ fr.toInt ≤ 7) (hto : 0 ≤ to.toInt ∧ to.toInt ≤ 7) :
    (¬ (own_ea f fr to (2 : Int32) (1 : Int32) (0 : Int32) (-1 : Int32) = 0) → own_he f to 7 fr = (2 : Int32)) ∧
    (own_ea f fr to (2 : Int32) (1 : Int32) (0 : Int32) (-1 : Int32) = 0 → ¬ (own_ea f fr to (3 : Int32) (2 : Int32) (1 : Int32) (0 : Int32) = 0) → own_he f to 7 fr = (3 : Int32)) ∧
    (own_ea f fr to (2 : Int32) (1 : Int32) (0 : Int32) (-1 : Int32) = 0 → own_ea f fr to (3 : Int32) (2 : Int32) (1 : Int32) (0 : Int32) = 0 → ¬ (own_ea f fr to (4 : Int32) (3 : Int32) (2 : Int32) (1 : Int32) = 0) → own_he f to 7 fr = (4 : Int32)) ∧
    (own_ea f fr to (2 : Int32) (1 : Int32) (0 : Int32) (-1 : Int32) = 0 → own_ea f fr to (3 : Int32) (2 : Int32) (1 : Int32) (0 : Int32) = 0 → own_ea f fr to (4 : Int32) (3 : Int32) (2 : Int32) (1 : Int32) = 0 → ¬ (own_ea f fr to (5 : Int32) (4 : Int32) (3 : Int32) (2 : Int32) = 0) → own_he f to 7 fr = (5 : Int32)) ∧
    (own_ea f fr to (2 : Int32) (1 : Int32) (0 : Int32) (-1 : Int32) = 0 → own_ea f fr to (3 : Int32) (2 : Int32) (1 : Int32) (0 : Int32) = 0 → own_ea f fr to (4 : Int32) (3 : Int32) (2 : Int32) (1 : Int32) = 0 → own_ea f fr to (5 : Int32) (4 : Int32) (3 : Int32) (2 : Int32) = 0 → ¬ (own_ea f fr to (6 : Int32) (5 : Int32) (4 : Int32) (3 : Int32) = 0) → own_he f to 7 fr = (6 : Int32)) ∧
    (own_ea f fr to (2 : Int32) (1 : Int32) (0 : Int32) (-1 : Int32) = 0 → own_ea f fr to (3 : Int32) (2 : Int32) (1 : Int32) (0 : Int32) = 0 → own_ea f fr to (4 : Int32) (3 : Int32) (2 : Int32) (1 : Int32) = 0 → own_ea f fr to (5 : Int32) (4 : Int32) (3 : Int32) (2 : Int32) = 0 → own_ea f fr to (6 : Int32) (5 : Int32) (4 : Int32) (3 : Int32) = 0 → ¬ (own_ea f fr to (7 : Int32) (6 : Int32) (5 : Int32) (4 : Int32) = 0) → own_he f to 7 fr = (7 : Int32)) ∧
    (own_ea f fr to (2 : Int32) (1 : Int32) (0 : Int32) (-1 : Int32) = 0 → own_ea f fr to (3 : Int32) (2 : Int32) (1 : Int32) (0 : Int32) = 0 → own_ea f fr to (4 : Int32) (3 : Int32) (2 : Int32) (1 : Int32) = 0 → own_ea f fr to (5 : Int32) (4 : Int32) (3 : Int32) (2 : Int32) = 0 → own_ea f fr to (6 : Int32) (5 : Int32) (4 : Int32) (3 : Int32) = 0 → own_ea f fr to (7 : Int32) (6 : Int32) (5 : Int32) (4 : Int32) = 0 → own_he f to 7 fr = (-1 : Int32)) := by
  have hd := own_hes f to hto 7 fr hfr.1 hfr.2 (by omega)
  have k2 : (2 : Int32).toInt = 2 := rfl
  have k3 : (3 : Int32).toInt = 3 := rfl
  have k4 : (4 : Int32).toInt = 4 := rfl
  have k5 : (5 : Int32).toInt = 5 := rfl
  have k6 : (6 : Int32).toInt = 6 := rfl
  have k7 : (7 : Int32).toInt = 7 := rfl
  exact ⟨fun  h2 => own_first hfr hto hd (k := 2) (by omega) (show own_M f fr to 2 from h2) (fun e a b => by
      omega),
    fun z2 h3 => own_first hfr hto hd (k := 3) (by omega) (show own_M f fr to 3 from h3) (fun e a b => by
      have q : e = 2 := by
        simp only [own_eqi, k2, k3, k4, k5, k6, k7]; omega
      rcases q with rfl <;> exact fun n => n (by assumption)),
    fun z2 z3 h4 => own_first hfr hto hd (k := 4) (by omega) (show own_M f fr to 4 from h4) (fun e a b => by
      have q : e = 2 ∨ e = 3 := by
        simp only [own_eqi, k2, k3, k4, k5, k6, k7]; omega
      rcases q with rfl | rfl <;> exact fun n => n (by assumption)),
    fun z2 z3 z4 h5 => own_first hfr hto hd (k := 5) (by omega) (show own_M f fr to 5 from h5) (fun e a b => by
      have q : e = 2 ∨ e = 3 ∨ e = 4 := by
        simp only [own_eqi, k2, k3, k4, k5, k6, k7]; omega
      rcases q with rfl | rfl | rfl <;> exact fun n => n (by assumption)),
    fun z2 z3 z4 z5 h6 => own_first hfr hto hd (k := 6) (by omega) (show own_M f fr to 6 from h6) (fun e a b => by
      have q : e = 2 ∨ e = 3 ∨ e = 4 ∨ e = 5 := by
        simp only [own_eqi, k2, k3, k4, k5, k6, k7]; omega
      rcases q with rfl | rfl | rfl | rfl <;> exact fun n => n (by assumption)),
    fun z2 z3 z4 z5 z6 h7 => own_first hfr hto hd (k := 7) (by omega) (show own_M f fr to 7 from h7) (fun e a b => by
      have q : e = 2 ∨ e = 3 ∨ e = 4 ∨ e = 5 ∨ e = 6 := by
        simp only [own_eqi, k2, k3, k4, k5, k6, k7]; omega
      rcases q with rfl | rfl | rfl | rfl | rfl <;> exact fun n => n (by assumption)),
    fun z2 z3 z4 z5 z6 z7 => own_none hfr hto hd (fun e a b => by
      have q : e = 2 ∨ e = 3 ∨ e = 4 ∨ e = 5 ∨ e = 6 ∨ e = 7 := by
        simp only [own_eqi, k2, k3, k4, k5, k6, k7]; omega
      rcases q with rfl | rfl | rfl | rfl | rfl | rfl <;> exact fun n => n (by assumption))⟩

theorem d1_0 : decode method_2_code 0 = .ok (.iload_n 0, 1) := by decide +kernel
theorem d1_1 : decode method_2_code 1 = .ok (.iconst 3, 1) := by decide +kernel
theorem d1_2 : decode method_2_code 2 = .ok (.iand, 1) := by decide +kernel
theorem d1_3 : decode method_2_code 3 = .ok (.istore_n 2, 1) := by decide +kernel
theorem d1_4 : decode method_2_code 4 = .ok (.iload_n 2, 1) := by decide +kernel
theorem d1_5 : decode method_2_code 5 = .ok (.ifCond .ne 6, 3) := by decide +kernel
theorem d1_8 : decode method_2_code 8 = .ok (.bipush 10, 2) := by decide +kernel
theorem d1_10 : decode method_2_code 10 = .ok (.ireturn, 1) := by decide +kernel
theorem d1_11 : decode method_2_code 11 = .ok (.iload_n 2, 1) := by decide +kernel
theorem d1_12 : decode method_2_code 12 = .ok (.iconst 1, 1) := by decide +kernel
theorem d1_13 : decode method_2_code 13 = .ok (.if_icmp .ne 6, 3) := by decide +kernel
theorem d1_16 : decode method_2_code 16 = .ok (.bipush 13, 2) := by decide +kernel
theorem d1_18 : decode method_2_code 18 = .ok (.ireturn, 1) := by decide +kernel
theorem d1_19 : decode method_2_code 19 = .ok (.iload_n 2, 1) := by decide +kernel
theorem d1_20 : decode method_2_code 20 = .ok (.iconst 2, 1) := by decide +kernel
theorem d1_21 : decode method_2_code 21 = .ok (.if_icmp .ne 6, 3) := by decide +kernel
theorem d1_24 : decode method_2_code 24 = .ok (.iload_n 1, 1) := by decide +kernel
theorem d1_25 : decode method_2_code 25 = .ok (.i2b, 1) := by decide +kernel
theorem d1_26 : decode method_2_code 26 = .ok (.ireturn, 1) := by decide +kernel
theorem d1_27 : decode method_2_code 27 = .ok (.iload_n 1, 1) := by decide +kernel
theorem d1_28 : decode method_2_code 28 = .ok (.bipush 8, 2) := by decide +kernel
theorem d1_30 : decode method_2_code 30 = .ok (.ishr, 1) := by decide +kernel
theorem d1_31 : decode method_2_code 31 = .ok (.i2b, 1) := by decide +kernel
theorem d1_32 : decode method_2_code 32 = .ok (.ireturn, 1) := by decide +kernel
theorem pn_com_example_assertgate_assertgate_http_RequestHeadEndPinLaw : plainName "com/example/assertgate/assertgate/http/RequestHeadEndPinLaw" = true := by first | (simp [plainName, overriddenIn]; done) | decide +kernel
theorem ef_1 (m : MethodId) (x0 : Int32) (x1 : Int32) : entryFrame m #[(.int x0), (.int x1)] 3 = mkF m 0 #[.val (.int x0), .val (.int x1), .unset] [] := by first | (simp [entryFrame, mkF, argsToLocals, Value.category]; done) | rfl
def Q1 (Z : State) (u : Int32) (w : Int32) (h0 : Heap) (n0 : Nat) (v : Option Value) (h : Heap) (L : List Loc) : Prop := ∃ (r : Int32), v = some (.int r) ∧ Fr n0 L ∧ h = h0
set_option maxRecDepth 65536 in
set_option maxHeartbeats 40000000 in
theorem rm1 (l : Launch) (Z : State) (a0 : Array Value) (hw : ∀ d ∈ tables_1, d.before a0 Z = true) (ws : List Jvm.Cond) (u : Int32) (w : Int32) (h0 : Heap) (n0 : Nat) (Z0 : n0 ≤ h0.size)  :
    MetFree l (⟨"com/example/assertgate/assertgate/http/RequestHeadEndPinLaw", "pick", "(II)B"⟩ : MethodName) (head1 (Jvm.Cond.code (⟨"com/example/assertgate/assertgate/http/RequestHeadEndPinLaw", "pick", "(II)B"⟩ : MethodName) method_2_code 3 (some .byte) :: ws) ({ frames := 0, cells := 0, slots := 0, locals := 0 } : Room)) (fun argz U => argz = #[(.int u), (.int w)] ∧ Z.Warmed39 U.vm ∧ U.heap = h0) (fun _ _ _ _ _ => True) (fun _ U o U' => ∃ v L, o = .returned v ∧ Q1 Z u w h0 n0 v U'.heap L ∧ FrameEnd U o U' L ({ frames := 0, cells := 0, slots := 0, locals := 0 } : Room).cells ({ frames := 0, cells := 0, slots := 0, locals := 0 } : Room).slots) := by
  refine MetFree.of_bodySF (plainFor_of_name pn_com_example_assertgate_assertgate_http_RequestHeadEndPinLaw) hisR ?_
  intro p e s m args below meth c s₁ Bd hml0 hP hK
  obtain ⟨rfl, hZ, hh⟩ := hP
  have hx := Bd.exec
  have hby := Bd.bytes
  have hml : c.maxLocals = 3 := hml0
  have hown : s.vm.findClass "com/example/assertgate/assertgate/http/RequestHeadEndPinLaw" = some m.cls := findClass_of_methodNamed Bd.named
  have hnm := (name_of_methodNamed Bd.named Bd.method).1
  have X0 : Stand p l e ({ frames := 0, cells := 0, slots := 0, locals := 0 } : Room) s m #[(.int u), (.int w)] below meth c s₁ [] 0 0 := Stand.of_body Bd
  have e0 : s₁.heap = h0 := by rw [← hh, Bd.state]; rfl
  have N0 := Fr.nil n0
  have G : Gets p e below (s₁.setTop (entryFrame m #[(.int u), (.int w)] 3)) (s₁.setTop (mkF m 0 #[.val (.int u), .val (.int w), .unset] [])) := fun t k => castTop (ef_1 m u w) k
  replace G := own_iloadN (q := 1) G X0.here hx (hb hby d1_0) rfl rfl
  replace G := own_iconst (q := 2) G X0.here hx (hb hby d1_1) (v := (3 : Int32)) (by decide) rfl
  replace G := own_iand (q := 3) G X0.here hx (hb hby d1_2) rfl rfl
  replace G := own_istoreN (q := 4) (l' := #[.val (.int u), .val (.int w), .val (.int (u &&& (3 : Int32)))]) G X0.here hx (hb hby d1_3) rfl rfl
  replace G := own_iloadN (q := 5) G X0.here hx (hb hby d1_4) rfl rfl
  by_cases hc5_1 : (u &&& (3 : Int32)) = (0 : Int32)
  · replace G := own_ifNo (q := 8) G X0.here hx (hb hby d1_5) ((if0 _ _).trans (teq hc5_1).2) rfl
    replace G := own_bipush (q := 10) G X0.here hx (hb hby d1_8) (v := (10 : Int32)) (by decide) rfl
    obtain ⟨fs, hr, hrun, hended, hW, hsame⟩ := X0.leave (v := some (.int (10 : Int32))) (fun h => by rw [Bd.returns] at h; cases h)
    refine ⟨_, _, G _ (retOut X0 hx Bd.returns rfl (Or.inl ⟨rfl, Or.inr (Or.inr (Or.inl rfl)), _, rfl⟩) (hb hby d1_10) hr), hrun, hended, _, _, rfl, ?_, ⟨_, rfl⟩, hW, hsame.mono (by decide) (by decide)⟩
    show Q1 Z u w h0 n0 _ s₁.heap _
    rw [e0]
    exact ⟨(10 : Int32), rfl, N0, rfl⟩
  · replace G := own_ifYes (q := 11) G X0.here hx (hb hby d1_5) ((if0 _ _).trans (feq hc5_1).2) (by decide) (by decide)
    replace G := own_iloadN (q := 12) G X0.here hx (hb hby d1_11) rfl rfl
    replace G := own_iconst (q := 13) G X0.here hx (hb hby d1_12) (v := (1 : Int32)) (by decide) rfl
    by_cases hc13_2 : (u &&& (3 : Int32)) = (1 : Int32)
    · replace G := own_icmpNo (q := 16) G X0.here hx (hb hby d1_13) (teq hc13_2).2 rfl
      replace G := own_bipush (q := 18) G X0.here hx (hb hby d1_16) (v := (13 : Int32)) (by decide) rfl
      obtain ⟨fs, hr, hrun, hended, hW, hsame⟩ := X0.leave (v := some (.int (13 : Int32))) (fun h => by rw [Bd.returns] at h; cases h)
      refine ⟨_, _, G _ (retOut X0 hx Bd.returns rfl (Or.inl ⟨rfl, Or.inr (Or.inr (Or.inl rfl)), _, rfl⟩) (hb hby d1_18) hr), hrun, hended, _, _, rfl, ?_, ⟨_, rfl⟩, hW, hsame.mono (by decide) (by decide)⟩
      show Q1 Z u w h0 n0 _ s₁.heap _
      rw [e0]
      exact ⟨(13 : Int32), rfl, N0, rfl⟩
    · replace G := own_icmpYes (q := 19) G X0.here hx (hb hby d1_13) (feq hc13_2).2 (by decide) (by decide)
      replace G := own_iloadN (q := 20) G X0.here hx (hb hby d1_19) rfl rfl
      replace G := own_iconst (q := 21) G X0.here hx (hb hby d1_20) (v := (2 : Int32)) (by decide) rfl
      by_cases hc21_3 : (u &&& (3 : Int32)) = (2 : Int32)
      · replace G := own_icmpNo (q := 24) G X0.here hx (hb hby d1_21) (teq hc21_3).2 rfl
        replace G := own_iloadN (q := 25) G X0.here hx (hb hby d1_24) rfl rfl
        replace G := own_i2b (q := 26) G X0.here hx (hb hby d1_25) rfl rfl
        obtain ⟨fs, hr, hrun, hended, hW, hsame⟩ := X0.leave (v := some (.int (w.toInt8.toInt32))) (fun h => by rw [Bd.returns] at h; cases h)
        refine ⟨_, _, G _ (retOut X0 hx Bd.returns (Jvm.Free.XT.narrow_b _) (Or.inl ⟨rfl, Or.inr (Or.inr (Or.inl rfl)), _, rfl⟩) (hb hby d1_26) hr), hrun, hended, _, _, rfl, ?_, ⟨_, rfl⟩, hW, hsame.mono (by decide) (by decide)⟩
        show Q1 Z u w h0 n0 _ s₁.heap _
        rw [e0]
        exact ⟨(w.toInt8.toInt32), rfl, N0, rfl⟩
      · replace G := own_icmpYes (q := 27) G X0.here hx (hb hby d1_21) (feq hc21_3).2 (by decide) (by decide)
        replace G := own_iloadN (q := 28) G X0.here hx (hb hby d1_27) rfl rfl
        replace G := own_bipush (q := 30) G X0.here hx (hb hby d1_28) (v := (8 : Int32)) (by decide) rfl
        replace G := own_ishr (q := 31) G X0.here hx (hb hby d1_30) rfl rfl
        replace G := own_i2b (q := 32) G X0.here hx (hb hby d1_31) rfl rfl
        obtain ⟨fs, hr, hrun, hended, hW, hsame⟩ := X0.leave (v := some (.int ((w >>> ((8 : Int32) &&& 31)).toInt8.toInt32))) (fun h => by rw [Bd.returns] at h; cases h)
        refine ⟨_, _, G _ (retOut X0 hx Bd.returns (Jvm.Free.XT.narrow_b _) (Or.inl ⟨rfl, Or.inr (Or.inr (Or.inl rfl)), _, rfl⟩) (hb hby d1_32) hr), hrun, hended, _, _, rfl, ?_, ⟨_, rfl⟩, hW, hsame.mono (by decide) (by decide)⟩
        show Q1 Z u w h0 n0 _ s₁.heap _
        rw [e0]
        exact ⟨((w >>> ((8 : Int32) &&& 31)).toInt8.toInt32), rfl, N0, rfl⟩
theorem d2_0 : decode method_3_code 0 = .ok (.iload_n 3, 1) := by decide +kernel
theorem d2_1 : decode method_3_code 1 = .ok (.iload_n 2, 1) := by decide +kernel
theorem d2_2 : decode method_3_code 2 = .ok (.if_icmp .gt 10, 3) := by decide +kernel
theorem d2_5 : decode method_3_code 5 = .ok (.iload_n 3, 1) := by decide +kernel
theorem d2_6 : decode method_3_code 6 = .ok (.iconst 2, 1) := by decide +kernel
theorem d2_7 : decode method_3_code 7 = .ok (.isub, 1) := by decide +kernel
theorem d2_8 : decode method_3_code 8 = .ok (.iload_n 1, 1) := by decide +kernel
theorem d2_9 : decode method_3_code 9 = .ok (.if_icmp .ge 5, 3) := by decide +kernel
theorem d2_12 : decode method_3_code 12 = .ok (.iconst 0, 1) := by decide +kernel
theorem d2_13 : decode method_3_code 13 = .ok (.ireturn, 1) := by decide +kernel
theorem d2_14 : decode method_3_code 14 = .ok (.aload_n 0, 1) := by decide +kernel
theorem d2_15 : decode method_3_code 15 = .ok (.iload_n 3, 1) := by decide +kernel
theorem d2_16 : decode method_3_code 16 = .ok (.iconst 1, 1) := by decide +kernel
theorem d2_17 : decode method_3_code 17 = .ok (.isub, 1) := by decide +kernel
theorem d2_18 : decode method_3_code 18 = .ok (.baload, 1) := by decide +kernel
theorem d2_19 : decode method_3_code 19 = .ok (.bipush 10, 2) := by decide +kernel
theorem d2_21 : decode method_3_code 21 = .ok (.if_icmp .eq 5, 3) := by decide +kernel
theorem d2_24 : decode method_3_code 24 = .ok (.iconst 0, 1) := by decide +kernel
theorem d2_25 : decode method_3_code 25 = .ok (.ireturn, 1) := by decide +kernel
theorem d2_26 : decode method_3_code 26 = .ok (.aload_n 0, 1) := by decide +kernel
theorem d2_27 : decode method_3_code 27 = .ok (.iload_n 3, 1) := by decide +kernel
theorem d2_28 : decode method_3_code 28 = .ok (.iconst 2, 1) := by decide +kernel
theorem d2_29 : decode method_3_code 29 = .ok (.isub, 1) := by decide +kernel
theorem d2_30 : decode method_3_code 30 = .ok (.baload, 1) := by decide +kernel
theorem d2_31 : decode method_3_code 31 = .ok (.bipush 10, 2) := by decide +kernel
theorem d2_33 : decode method_3_code 33 = .ok (.if_icmp .ne 5, 3) := by decide +kernel
theorem d2_36 : decode method_3_code 36 = .ok (.iconst 1, 1) := by decide +kernel
theorem d2_37 : decode method_3_code 37 = .ok (.ireturn, 1) := by decide +kernel
theorem d2_38 : decode method_3_code 38 = .ok (.iload_n 3, 1) := by decide +kernel
theorem d2_39 : decode method_3_code 39 = .ok (.iconst 3, 1) := by decide +kernel
theorem d2_40 : decode method_3_code 40 = .ok (.isub, 1) := by decide +kernel
theorem d2_41 : decode method_3_code 41 = .ok (.iload_n 1, 1) := by decide +kernel
theorem d2_42 : decode method_3_code 42 = .ok (.if_icmp .lt 27, 3) := by decide +kernel
theorem d2_69 : decode method_3_code 69 = .ok (.iconst 0, 1) := by decide +kernel
theorem d2_70 : decode method_3_code 70 = .ok (.ireturn, 1) := by decide +kernel
theorem ef_2j2 (m : MethodId) (x0 : Addr) (x1 : Int32) (x2 : Int32) : entryFrame m #[(.ref x0), (.int x1), (.int x2), (.int (2 : Int32))] 4 = mkF m 0 #[.val (.ref x0), .val (.int x1), .val (.int x2), .val (.int (2 : Int32))] [] := by first | (simp [entryFrame, mkF, argsToLocals, Value.category]; done) | rfl
def Q2j2 (Z : State) (a : Addr) (fr : Int32) (to : Int32) (k : ClassId) (vs : List Value) (f : Int32 → Int32) (h0 : Heap) (n0 : Nat) (v : Option Value) (h : Heap) (L : List Loc) : Prop := v = some (.int (own_ea f fr to (2 : Int32) (1 : Int32) (0 : Int32) (-1 : Int32))) ∧ Fr n0 L ∧ h = h0
set_option maxRecDepth 65536 in
set_option maxHeartbeats 40000000 in
theorem rm2j2 (l : Launch) (Z : State) (a0 : Array Value) (hw : ∀ d ∈ tables_1, d.before a0 Z = true) (ws : List Jvm.Cond) (a : Addr) (fr : Int32) (to : Int32) (k : ClassId) (vs : List Value) (f : Int32 → Int32) (h0 : Heap) (n0 : Nat) (Z0 : n0 ≤ h0.size) (P0 : Arv Z h0 a k .byte (7 : Int32) vs (.int (0 : Int32))) (hf : ∀ i : Int32, 0 ≤ i.toInt → i.toInt < 7 → vs.getD i.toNatClampNeg (.int (0 : Int32)) = .int (f i)) (hfr : 0 ≤ fr.toInt ∧ fr.toInt ≤ 7) (hto : 0 ≤ to.toInt ∧ to.toInt ≤ 7) :
    MetFree l (⟨"com/example/assertgate/assertgate/http/RequestHeadEndPinLaw", "endsAt", "([BIII)Z"⟩ : MethodName) (head1 (Jvm.Cond.code (⟨"com/example/assertgate/assertgate/http/RequestHeadEndPinLaw", "endsAt", "([BIII)Z"⟩ : MethodName) method_3_code 4 (some .boolean) :: ws) ({ frames := 0, cells := 0, slots := 0, locals := 0 } : Room)) (fun argz U => argz = #[(.ref a), (.int fr), (.int to), (.int (2 : Int32))] ∧ Z.Warmed39 U.vm ∧ U.heap = h0) (fun _ _ _ _ _ => True) (fun _ U o U' => ∃ v L, o = .returned v ∧ Q2j2 Z a fr to k vs f h0 n0 v U'.heap L ∧ FrameEnd U o U' L ({ frames := 0, cells := 0, slots := 0, locals := 0 } : Room).cells ({ frames := 0, cells := 0, slots := 0, locals := 0 } : Room).slots) := by
  refine MetFree.of_bodySF (plainFor_of_name pn_com_example_assertgate_assertgate_http_RequestHeadEndPinLaw) hisR ?_
  intro p e s m args below meth c s₁ Bd hml0 hP hK
  obtain ⟨rfl, hZ, hh⟩ := hP
  have hx := Bd.exec
  have hby := Bd.bytes
  have hml : c.maxLocals = 4 := hml0
  have hown : s.vm.findClass "com/example/assertgate/assertgate/http/RequestHeadEndPinLaw" = some m.cls := findClass_of_methodNamed Bd.named
  have hnm := (name_of_methodNamed Bd.named Bd.method).1
  have X0 : Stand p l e ({ frames := 0, cells := 0, slots := 0, locals := 0 } : Room) s m #[(.ref a), (.int fr), (.int to), (.int (2 : Int32))] below meth c s₁ [] 0 0 := Stand.of_body Bd
  have e0 : s₁.heap = h0 := by rw [← hh, Bd.state]; rfl
  have N0 := Fr.nil n0
  have G : Gets p e below (s₁.setTop (entryFrame m #[(.ref a), (.int fr), (.int to), (.int (2 : Int32))] 4)) (s₁.setTop (mkF m 0 #[.val (.ref a), .val (.int fr), .val (.int to), .val (.int (2 : Int32))] [])) := fun t k => castTop (ef_2j2 m a fr to) k
  replace G := own_iloadN (q := 1) G X0.here hx (hb hby d2_0) rfl rfl
  replace G := own_iloadN (q := 2) G X0.here hx (hb hby d2_1) rfl rfl
  by_cases hc2_1 : to < (2 : Int32)
  · replace G := own_icmpYes (q := 12) G X0.here hx (hb hby d2_2) (tlt hc2_1).2.2.1 (by decide) (by decide)
    replace G := own_iconst (q := 13) G X0.here hx (hb hby d2_12) (v := (0 : Int32)) (by decide) rfl
    obtain ⟨fs, hr, hrun, hended, hW, hsame⟩ := X0.leave (v := some (.int (0 : Int32))) (fun h => by rw [Bd.returns] at h; cases h)
    refine ⟨_, _, G _ (retOut X0 hx Bd.returns rfl (Or.inl ⟨rfl, Or.inr (Or.inl rfl), _, rfl⟩) (hb hby d2_13) hr), hrun, hended, _, _, rfl, ?_, ⟨_, rfl⟩, hW, hsame.mono (by decide) (by decide)⟩
    show Q2j2 Z a fr to k vs f h0 n0 _ s₁.heap _
    rw [e0]
    exact ⟨(congrArg (fun z => some (Value.int z)) (by simp [own_ea, hc2_1])), N0, rfl⟩
  · replace G := own_icmpNo (q := 5) G X0.here hx (hb hby d2_2) (flt hc2_1).2.2.1 rfl
    replace G := own_iloadN (q := 6) G X0.here hx (hb hby d2_5) rfl rfl
    replace G := own_iconst (q := 7) G X0.here hx (hb hby d2_6) (v := (2 : Int32)) (by decide) rfl
    replace G := own_isub (q := 8) G X0.here hx (hb hby d2_7) (by decide : ((2 : Int32) - (2 : Int32)) = (0 : Int32)) rfl
    replace G := own_iloadN (q := 9) G X0.here hx (hb hby d2_8) rfl rfl
    by_cases hc9_2 : (0 : Int32) < fr
    · replace G := own_icmpNo (q := 12) G X0.here hx (hb hby d2_9) (tlt hc9_2).2.1 rfl
      replace G := own_iconst (q := 13) G X0.here hx (hb hby d2_12) (v := (0 : Int32)) (by decide) rfl
      obtain ⟨fs, hr, hrun, hended, hW, hsame⟩ := X0.leave (v := some (.int (0 : Int32))) (fun h => by rw [Bd.returns] at h; cases h)
      refine ⟨_, _, G _ (retOut X0 hx Bd.returns rfl (Or.inl ⟨rfl, Or.inr (Or.inl rfl), _, rfl⟩) (hb hby d2_13) hr), hrun, hended, _, _, rfl, ?_, ⟨_, rfl⟩, hW, hsame.mono (by decide) (by decide)⟩
      show Q2j2 Z a fr to k vs f h0 n0 _ s₁.heap _
      rw [e0]
      exact ⟨(congrArg (fun z => some (Value.int z)) (by simp [own_ea, hc2_1, hc9_2])), N0, rfl⟩
    · replace G := own_icmpYes (q := 14) G X0.here hx (hb hby d2_9) (flt hc9_2).2.1 (by decide) (by decide)
      replace G := own_aloadN (q := 15) G X0.here hx (hb hby d2_14) rfl rfl rfl
      replace G := own_iloadN (q := 16) G X0.here hx (hb hby d2_15) rfl rfl
      replace G := own_iconst (q := 17) G X0.here hx (hb hby d2_16) (v := (1 : Int32)) (by decide) rfl
      replace G := own_isub (q := 18) G X0.here hx (hb hby d2_17) (by decide : ((2 : Int32) - (1 : Int32)) = (1 : Int32)) rfl
      obtain ⟨c3, Ar3, -, S3, -, H3, -⟩ := id P0
      have hin3 : ¬ ((1 : Int32) < 0 ∨ c3.slots.size ≤ ((1 : Int32)).toNatClampNeg) := inb_of S3 ⟨by decide, by decide⟩
      replace G : Gets p e below _ (s₁.setTop (mkF m 19 #[.val (.ref a), .val (.int fr), .val (.int to), .val (.int (2 : Int32))] [(.int (f (1 : Int32)))])) := fun t k => G t (X0.baloadBytes hx (j := (1 : Int32)) (v := (.int (f (1 : Int32)))) (by rw [e0]; exact Ar3.1) (State.isArrayOf_alike hZ.alike Ar3.2.1) Ar3.2.2 hin3 (Has.at H3 hin3 (hf (1 : Int32) (by decide) (by decide))) (g := (mkF m 18 #[.val (.ref a), .val (.int fr), .val (.int to), .val (.int (2 : Int32))] [(.int (1 : Int32)), (.ref a)])) rfl rfl (hb hby d2_18) t k)
      replace G := own_bipush (q := 21) G X0.here hx (hb hby d2_19) (v := (10 : Int32)) (by decide) rfl
      by_cases hc21_4 : (f (1 : Int32)) = (10 : Int32)
      · replace G := own_icmpYes (q := 26) G X0.here hx (hb hby d2_21) (teq hc21_4).1 (by decide) (by decide)
        replace G := own_aloadN (q := 27) G X0.here hx (hb hby d2_26) rfl rfl rfl
        replace G := own_iloadN (q := 28) G X0.here hx (hb hby d2_27) rfl rfl
        replace G := own_iconst (q := 29) G X0.here hx (hb hby d2_28) (v := (2 : Int32)) (by decide) rfl
        replace G := own_isub (q := 30) G X0.here hx (hb hby d2_29) (by decide : ((2 : Int32) - (2 : Int32)) = (0 : Int32)) rfl
        obtain ⟨c5, Ar5, -, S5, -, H5, -⟩ := id P0
        have hin5 : ¬ ((0 : Int32) < 0 ∨ c5.slots.size ≤ ((0 : Int32)).toNatClampNeg) := inb_of S5 ⟨by decide, by decide⟩
        replace G : Gets p e below _ (s₁.setTop (mkF m 31 #[.val (.ref a), .val (.int fr), .val (.int to), .val (.int (2 : Int32))] [(.int (f (0 : Int32)))])) := fun t k => G t (X0.baloadBytes hx (j := (0 : Int32)) (v := (.int (f (0 : Int32)))) (by rw [e0]; exact Ar5.1) (State.isArrayOf_alike hZ.alike Ar5.2.1) Ar5.2.2 hin5 (Has.at H5 hin5 (hf (0 : Int32) (by decide) (by decide))) (g := (mkF m 30 #[.val (.ref a), .val (.int fr), .val (.int to), .val (.int (2 : Int32))] [(.int (0 : Int32)), (.ref a)])) rfl rfl (hb hby d2_30) t k)
        replace G := own_bipush (q := 33) G X0.here hx (hb hby d2_31) (v := (10 : Int32)) (by decide) rfl
        by_cases hc33_6 : (f (0 : Int32)) = (10 : Int32)
        · replace G := own_icmpNo (q := 36) G X0.here hx (hb hby d2_33) (teq hc33_6).2 rfl
          replace G := own_iconst (q := 37) G X0.here hx (hb hby d2_36) (v := (1 : Int32)) (by decide) rfl
          obtain ⟨fs, hr, hrun, hended, hW, hsame⟩ := X0.leave (v := some (.int (1 : Int32))) (fun h => by rw [Bd.returns] at h; cases h)
          refine ⟨_, _, G _ (retOut X0 hx Bd.returns rfl (Or.inl ⟨rfl, Or.inr (Or.inl rfl), _, rfl⟩) (hb hby d2_37) hr), hrun, hended, _, _, rfl, ?_, ⟨_, rfl⟩, hW, hsame.mono (by decide) (by decide)⟩
          show Q2j2 Z a fr to k vs f h0 n0 _ s₁.heap _
          rw [e0]
          exact ⟨(congrArg (fun z => some (Value.int z)) (by simp [own_ea, hc2_1, hc9_2, hc21_4, hc33_6])), N0, rfl⟩
        · replace G := own_icmpYes (q := 38) G X0.here hx (hb hby d2_33) (feq hc33_6).2 (by decide) (by decide)
          replace G := own_iloadN (q := 39) G X0.here hx (hb hby d2_38) rfl rfl
          replace G := own_iconst (q := 40) G X0.here hx (hb hby d2_39) (v := (3 : Int32)) (by decide) rfl
          replace G := own_isub (q := 41) G X0.here hx (hb hby d2_40) (by decide : ((2 : Int32) - (3 : Int32)) = (-1 : Int32)) rfl
          replace G := own_iloadN (q := 42) G X0.here hx (hb hby d2_41) rfl rfl
          have hc42_7 : (-1 : Int32) < fr := by rw [own_lt32, show (-1 : Int32).toInt = -1 from rfl]; omega
          replace G := own_icmpYes (q := 69) G X0.here hx (hb hby d2_42) (tlt hc42_7).1 (by decide) (by decide)
          replace G := own_iconst (q := 70) G X0.here hx (hb hby d2_69) (v := (0 : Int32)) (by decide) rfl
          obtain ⟨fs, hr, hrun, hended, hW, hsame⟩ := X0.leave (v := some (.int (0 : Int32))) (fun h => by rw [Bd.returns] at h; cases h)
          refine ⟨_, _, G _ (retOut X0 hx Bd.returns rfl (Or.inl ⟨rfl, Or.inr (Or.inl rfl), _, rfl⟩) (hb hby d2_70) hr), hrun, hended, _, _, rfl, ?_, ⟨_, rfl⟩, hW, hsame.mono (by decide) (by decide)⟩
          show Q2j2 Z a fr to k vs f h0 n0 _ s₁.heap _
          rw [e0]
          exact ⟨(congrArg (fun z => some (Value.int z)) (by simp [own_ea, hc2_1, hc9_2, hc21_4, hc33_6, hc42_7])), N0, rfl⟩
      · replace G := own_icmpNo (q := 24) G X0.here hx (hb hby d2_21) (feq hc21_4).1 rfl
        replace G := own_iconst (q := 25) G X0.here hx (hb hby d2_24) (v := (0 : Int32)) (by decide) rfl
        obtain ⟨fs, hr, hrun, hended, hW, hsame⟩ := X0.leave (v := some (.int (0 : Int32))) (fun h => by rw [Bd.returns] at h; cases h)
        refine ⟨_, _, G _ (retOut X0 hx Bd.returns rfl (Or.inl ⟨rfl, Or.inr (Or.inl rfl), _, rfl⟩) (hb hby d2_25) hr), hrun, hended, _, _, rfl, ?_, ⟨_, rfl⟩, hW, hsame.mono (by decide) (by decide)⟩
        show Q2j2 Z a fr to k vs f h0 n0 _ s₁.heap _
        rw [e0]
        exact ⟨(congrArg (fun z => some (Value.int z)) (by simp [own_ea, hc2_1, hc9_2, hc21_4])), N0, rfl⟩
theorem d2_45 : decode method_3_code 45 = .ok (.aload_n 0, 1) := by decide +kernel
theorem d2_46 : decode method_3_code 46 = .ok (.iload_n 3, 1) := by decide +kernel
theorem d2_47 : decode method_3_code 47 = .ok (.iconst 2, 1) := by decide +kernel
theorem d2_48 : decode method_3_code 48 = .ok (.isub, 1) := by decide +kernel
theorem d2_49 : decode method_3_code 49 = .ok (.baload, 1) := by decide +kernel
theorem d2_50 : decode method_3_code 50 = .ok (.bipush 13, 2) := by decide +kernel
theorem d2_52 : decode method_3_code 52 = .ok (.if_icmp .ne 17, 3) := by decide +kernel
theorem d2_55 : decode method_3_code 55 = .ok (.aload_n 0, 1) := by decide +kernel
theorem d2_56 : decode method_3_code 56 = .ok (.iload_n 3, 1) := by decide +kernel
theorem d2_57 : decode method_3_code 57 = .ok (.iconst 3, 1) := by decide +kernel
theorem d2_58 : decode method_3_code 58 = .ok (.isub, 1) := by decide +kernel
theorem d2_59 : decode method_3_code 59 = .ok (.baload, 1) := by decide +kernel
theorem d2_60 : decode method_3_code 60 = .ok (.bipush 10, 2) := by decide +kernel
theorem d2_62 : decode method_3_code 62 = .ok (.if_icmp .ne 7, 3) := by decide +kernel
theorem d2_65 : decode method_3_code 65 = .ok (.iconst 1, 1) := by decide +kernel
theorem d2_66 : decode method_3_code 66 = .ok (.goto 4, 3) := by decide +kernel
theorem ef_2j3 (m : MethodId) (x0 : Addr) (x1 : Int32) (x2 : Int32) : entryFrame m #[(.ref x0), (.int x1), (.int x2), (.int (3 : Int32))] 4 = mkF m 0 #[.val (.ref x0), .val (.int x1), .val (.int x2), .val (.int (3 : Int32))] [] := by first | (simp [entryFrame, mkF, argsToLocals, Value.category]; done) | rfl
def Q2j3 (Z : State) (a : Addr) (fr : Int32) (to : Int32) (k : ClassId) (vs : List Value) (f : Int32 → Int32) (h0 : Heap) (n0 : Nat) (v : Option Value) (h : Heap) (L : List Loc) : Prop := v = some (.int (own_ea f fr to (3 : Int32) (2 : Int32) (1 : Int32) (0 : Int32))) ∧ Fr n0 L ∧ h = h0
set_option maxRecDepth 65536 in
set_option maxHeartbeats 40000000 in
theorem rm2j3 (l : Launch) (Z : State) (a0 : Array Value) (hw : ∀ d ∈ tables_1, d.before a0 Z = true) (ws : List Jvm.Cond) (a : Addr) (fr : Int32) (to : Int32) (k : ClassId) (vs : List Value) (f : Int32 → Int32) (h0 : Heap) (n0 : Nat) (Z0 : n0 ≤ h0.size) (P0 : Arv Z h0 a k .byte (7 : Int32) vs (.int (0 : Int32))) (hf : ∀ i : Int32, 0 ≤ i.toInt → i.toInt < 7 → vs.getD i.toNatClampNeg (.int (0 : Int32)) = .int (f i)) (hfr : 0 ≤ fr.toInt ∧ fr.toInt ≤ 7) (hto : 0 ≤ to.toInt ∧ to.toInt ≤ 7) :
    MetFree l (⟨"com/example/assertgate/assertgate/http/RequestHeadEndPinLaw", "endsAt", "([BIII)Z"⟩ : MethodName) (head1 (Jvm.Cond.code (⟨"com/example/assertgate/assertgate/http/RequestHeadEndPinLaw", "endsAt", "([BIII)Z"⟩ : MethodName) method_3_code 4 (some .boolean) :: ws) ({ frames := 0, cells := 0, slots := 0, locals := 0 } : Room)) (fun argz U => argz = #[(.ref a), (.int fr), (.int to), (.int (3 : Int32))] ∧ Z.Warmed39 U.vm ∧ U.heap = h0) (fun _ _ _ _ _ => True) (fun _ U o U' => ∃ v L, o = .returned v ∧ Q2j3 Z a fr to k vs f h0 n0 v U'.heap L ∧ FrameEnd U o U' L ({ frames := 0, cells := 0, slots := 0, locals := 0 } : Room).cells ({ frames := 0, cells := 0, slots := 0, locals := 0 } : Room).slots) := by
  refine MetFree.of_bodySF (plainFor_of_name pn_com_example_assertgate_assertgate_http_RequestHeadEndPinLaw) hisR ?_
  intro p e s m args below meth c s₁ Bd hml0 hP hK
  obtain ⟨rfl, hZ, hh⟩ := hP
  have hx := Bd.exec
  have hby := Bd.bytes
  have hml : c.maxLocals = 4 := hml0
  have hown : s.vm.findClass "com/example/assertgate/assertgate/http/RequestHeadEndPinLaw" = some m.cls := findClass_of_methodNamed Bd.named
  have hnm := (name_of_methodNamed Bd.named Bd.method).1
  have X0 : Stand p l e ({ frames := 0, cells := 0, slots := 0, locals := 0 } : Room) s m #[(.ref a), (.int fr), (.int to), (.int (3 : Int32))] below meth c s₁ [] 0 0 := Stand.of_body Bd
  have e0 : s₁.heap = h0 := by rw [← hh, Bd.state]; rfl
  have N0 := Fr.nil n0
  have G : Gets p e below (s₁.setTop (entryFrame m #[(.ref a), (.int fr), (.int to), (.int (3 : Int32))] 4)) (s₁.setTop (mkF m 0 #[.val (.ref a), .val (.int fr), .val (.int to), .val (.int (3 : Int32))] [])) := fun t k => castTop (ef_2j3 m a fr to) k
  replace G := own_iloadN (q := 1) G X0.here hx (hb hby d2_0) rfl rfl
  replace G := own_iloadN (q := 2) G X0.here hx (hb hby d2_1) rfl rfl
  by_cases hc2_1 : to < (3 : Int32)
  · replace G := own_icmpYes (q := 12) G X0.here hx (hb hby d2_2) (tlt hc2_1).2.2.1 (by decide) (by decide)
    replace G := own_iconst (q := 13) G X0.here hx (hb hby d2_12) (v := (0 : Int32)) (by decide) rfl
    obtain ⟨fs, hr, hrun, hended, hW, hsame⟩ := X0.leave (v := some (.int (0 : Int32))) (fun h => by rw [Bd.returns] at h; cases h)
    refine ⟨_, _, G _ (retOut X0 hx Bd.returns rfl (Or.inl ⟨rfl, Or.inr (Or.inl rfl), _, rfl⟩) (hb hby d2_13) hr), hrun, hended, _, _, rfl, ?_, ⟨_, rfl⟩, hW, hsame.mono (by decide) (by decide)⟩
    show Q2j3 Z a fr to k vs f h0 n0 _ s₁.heap _
    rw [e0]
    exact ⟨(congrArg (fun z => some (Value.int z)) (by simp [own_ea, hc2_1])), N0, rfl⟩
  · replace G := own_icmpNo (q := 5) G X0.here hx (hb hby d2_2) (flt hc2_1).2.2.1 rfl
    replace G := own_iloadN (q := 6) G X0.here hx (hb hby d2_5) rfl rfl
    replace G := own_iconst (q := 7) G X0.here hx (hb hby d2_6) (v := (2 : Int32)) (by decide) rfl
    replace G := own_isub (q := 8) G X0.here hx (hb hby d2_7) (by decide : ((3 : Int32) - (2 : Int32)) = (1 : Int32)) rfl
    replace G := own_iloadN (q := 9) G X0.here hx (hb hby d2_8) rfl rfl
    by_cases hc9_2 : (1 : Int32) < fr
    · replace G := own_icmpNo (q := 12) G X0.here hx (hb hby d2_9) (tlt hc9_2).2.1 rfl
      replace G := own_iconst (q := 13) G X0.here hx (hb hby d2_12) (v := (0 : Int32)) (by decide) rfl
      obtain ⟨fs, hr, hrun, hended, hW, hsame⟩ := X0.leave (v := some (.int (0 : Int32))) (fun h => by rw [Bd.returns] at h; cases h)
      refine ⟨_, _, G _ (retOut X0 hx Bd.returns rfl (Or.inl ⟨rfl, Or.inr (Or.inl rfl), _, rfl⟩) (hb hby d2_13) hr), hrun, hended, _, _, rfl, ?_, ⟨_, rfl⟩, hW, hsame.mono (by decide) (by decide)⟩
      show Q2j3 Z a fr to k vs f h0 n0 _ s₁.heap _
      rw [e0]
      exact ⟨(congrArg (fun z => some (Value.int z)) (by simp [own_ea, hc2_1, hc9_2])), N0, rfl⟩
    · replace G := own_icmpYes (q := 14) G X0.here hx (hb hby d2_9) (flt hc9_2).2.1 (by decide) (by decide)
      replace G := own_aloadN (q := 15) G X0.here hx (hb hby d2_14) rfl rfl rfl
      replace G := own_iloadN (q := 16) G X0.here hx (hb hby d2_15) rfl rfl
      replace G := own_iconst (q := 17) G X0.here hx (hb hby d2_16) (v := (1 : Int32)) (by decide) rfl
      replace G := own_isub (q := 18) G X0.here hx (hb hby d2_17) (by decide : ((3 : Int32) - (1 : Int32)) = (2 : Int32)) rfl
      obtain ⟨c3, Ar3, -, S3, -, H3, -⟩ := id P0
      have hin3 : ¬ ((2 : Int32) < 0 ∨ c3.slots.size ≤ ((2 : Int32)).toNatClampNeg) := inb_of S3 ⟨by decide, by decide⟩
      replace G : Gets p e below _ (s₁.setTop (mkF m 19 #[.val (.ref a), .val (.int fr), .val (.int to), .val (.int (3 : Int32))] [(.int (f (2 : Int32)))])) := fun t k => G t (X0.baloadBytes hx (j := (2 : Int32)) (v := (.int (f (2 : Int32)))) (by rw [e0]; exact Ar3.1) (State.isArrayOf_alike hZ.alike Ar3.2.1) Ar3.2.2 hin3 (Has.at H3 hin3 (hf (2 : Int32) (by decide) (by decide))) (g := (mkF m 18 #[.val (.ref a), .val (.int fr), .val (.int to), .val (.int (3 : Int32))] [(.int (2 : Int32)), (.ref a)])) rfl rfl (hb hby d2_18) t k)
      replace G := own_bipush (q := 21) G X0.here hx (hb hby d2_19) (v := (10 : Int32)) (by decide) rfl
      by_cases hc21_4 : (f (2 : Int32)) = (10 : Int32)
      · replace G := own_icmpYes (q := 26) G X0.here hx (hb hby d2_21) (teq hc21_4).1 (by decide) (by decide)
        replace G := own_aloadN (q := 27) G X0.here hx (hb hby d2_26) rfl rfl rfl
        replace G := own_iloadN (q := 28) G X0.here hx (hb hby d2_27) rfl rfl
        replace G := own_iconst (q := 29) G X0.here hx (hb hby d2_28) (v := (2 : Int32)) (by decide) rfl
        replace G := own_isub (q := 30) G X0.here hx (hb hby d2_29) (by decide : ((3 : Int32) - (2 : Int32)) = (1 : Int32)) rfl
        obtain ⟨c5, Ar5, -, S5, -, H5, -⟩ := id P0
        have hin5 : ¬ ((1 : Int32) < 0 ∨ c5.slots.size ≤ ((1 : Int32)).toNatClampNeg) := inb_of S5 ⟨by decide, by decide⟩
        replace G : Gets p e below _ (s₁.setTop (mkF m 31 #[.val (.ref a), .val (.int fr), .val (.int to), .val (.int (3 : Int32))] [(.int (f (1 : Int32)))])) := fun t k => G t (X0.baloadBytes hx (j := (1 : Int32)) (v := (.int (f (1 : Int32)))) (by rw [e0]; exact Ar5.1) (State.isArrayOf_alike hZ.alike Ar5.2.1) Ar5.2.2 hin5 (Has.at H5 hin5 (hf (1 : Int32) (by decide) (by decide))) (g := (mkF m 30 #[.val (.ref a), .val (.int fr), .val (.int to), .val (.int (3 : Int32))] [(.int (1 : Int32)), (.ref a)])) rfl rfl (hb hby d2_30) t k)
        replace G := own_bipush (q := 33) G X0.here hx (hb hby d2_31) (v := (10 : Int32)) (by decide) rfl
        by_cases hc33_6 : (f (1 : Int32)) = (10 : Int32)
        · replace G := own_icmpNo (q := 36) G X0.here hx (hb hby d2_33) (teq hc33_6).2 rfl
          replace G := own_iconst (q := 37) G X0.here hx (hb hby d2_36) (v := (1 : Int32)) (by decide) rfl
          obtain ⟨fs, hr, hrun, hended, hW, hsame⟩ := X0.leave (v := some (.int (1 : Int32))) (fun h => by rw [Bd.returns] at h; cases h)
          refine ⟨_, _, G _ (retOut X0 hx Bd.returns rfl (Or.inl ⟨rfl, Or.inr (Or.inl rfl), _, rfl⟩) (hb hby d2_37) hr), hrun, hended, _, _, rfl, ?_, ⟨_, rfl⟩, hW, hsame.mono (by decide) (by decide)⟩
          show Q2j3 Z a fr to k vs f h0 n0 _ s₁.heap _
          rw [e0]
          exact ⟨(congrArg (fun z => some (Value.int z)) (by simp [own_ea, hc2_1, hc9_2, hc21_4, hc33_6])), N0, rfl⟩
        · replace G := own_icmpYes (q := 38) G X0.here hx (hb hby d2_33) (feq hc33_6).2 (by decide) (by decide)
          replace G := own_iloadN (q := 39) G X0.here hx (hb hby d2_38) rfl rfl
          replace G := own_iconst (q := 40) G X0.here hx (hb hby d2_39) (v := (3 : Int32)) (by decide) rfl
          replace G := own_isub (q := 41) G X0.here hx (hb hby d2_40) (by decide : ((3 : Int32) - (3 : Int32)) = (0 : Int32)) rfl
          replace G := own_iloadN (q := 42) G X0.here hx (hb hby d2_41) rfl rfl
          by_cases hc42_7 : (0 : Int32) < fr
          · replace G := own_icmpYes (q := 69) G X0.here hx (hb hby d2_42) (tlt hc42_7).1 (by decide) (by decide)
            replace G := own_iconst (q := 70) G X0.here hx (hb hby d2_69) (v := (0 : Int32)) (by decide) rfl
            obtain ⟨fs, hr, hrun, hended, hW, hsame⟩ := X0.leave (v := some (.int (0 : Int32))) (fun h => by rw [Bd.returns] at h; cases h)
            refine ⟨_, _, G _ (retOut X0 hx Bd.returns rfl (Or.inl ⟨rfl, Or.inr (Or.inl rfl), _, rfl⟩) (hb hby d2_70) hr), hrun, hended, _, _, rfl, ?_, ⟨_, rfl⟩, hW, hsame.mono (by decide) (by decide)⟩
            show Q2j3 Z a fr to k vs f h0 n0 _ s₁.heap _
            rw [e0]
            exact ⟨(congrArg (fun z => some (Value.int z)) (by simp [own_ea, hc2_1, hc9_2, hc21_4, hc33_6, hc42_7])), N0, rfl⟩
          · replace G := own_icmpNo (q := 45) G X0.here hx (hb hby d2_42) (flt hc42_7).1 rfl
            replace G := own_aloadN (q := 46) G X0.here hx (hb hby d2_45) rfl rfl rfl
            replace G := own_iloadN (q := 47) G X0.here hx (hb hby d2_46) rfl rfl
            replace G := own_iconst (q := 48) G X0.here hx (hb hby d2_47) (v := (2 : Int32)) (by decide) rfl
            replace G := own_isub (q := 49) G X0.here hx (hb hby d2_48) (by decide : ((3 : Int32) - (2 : Int32)) = (1 : Int32)) rfl
            obtain ⟨c8, Ar8, -, S8, -, H8, -⟩ := id P0
            have hin8 : ¬ ((1 : Int32) < 0 ∨ c8.slots.size ≤ ((1 : Int32)).toNatClampNeg) := inb_of S8 ⟨by decide, by decide⟩
            replace G : Gets p e below _ (s₁.setTop (mkF m 50 #[.val (.ref a), .val (.int fr), .val (.int to), .val (.int (3 : Int32))] [(.int (f (1 : Int32)))])) := fun t k => G t (X0.baloadBytes hx (j := (1 : Int32)) (v := (.int (f (1 : Int32)))) (by rw [e0]; exact Ar8.1) (State.isArrayOf_alike hZ.alike Ar8.2.1) Ar8.2.2 hin8 (Has.at H8 hin8 (hf (1 : Int32) (by decide) (by decide))) (g := (mkF m 49 #[.val (.ref a), .val (.int fr), .val (.int to), .val (.int (3 : Int32))] [(.int (1 : Int32)), (.ref a)])) rfl rfl (hb hby d2_49) t k)
            replace G := own_bipush (q := 52) G X0.here hx (hb hby d2_50) (v := (13 : Int32)) (by decide) rfl
            by_cases hc52_9 : (f (1 : Int32)) = (13 : Int32)
            · replace G := own_icmpNo (q := 55) G X0.here hx (hb hby d2_52) (teq hc52_9).2 rfl
              replace G := own_aloadN (q := 56) G X0.here hx (hb hby d2_55) rfl rfl rfl
              replace G := own_iloadN (q := 57) G X0.here hx (hb hby d2_56) rfl rfl
              replace G := own_iconst (q := 58) G X0.here hx (hb hby d2_57) (v := (3 : Int32)) (by decide) rfl
              replace G := own_isub (q := 59) G X0.here hx (hb hby d2_58) (by decide : ((3 : Int32) - (3 : Int32)) = (0 : Int32)) rfl
              obtain ⟨c10, Ar10, -, S10, -, H10, -⟩ := id P0
              have hin10 : ¬ ((0 : Int32) < 0 ∨ c10.slots.size ≤ ((0 : Int32)).toNatClampNeg) := inb_of S10 ⟨by decide, by decide⟩
              replace G : Gets p e below _ (s₁.setTop (mkF m 60 #[.val (.ref a), .val (.int fr), .val (.int to), .val (.int (3 : Int32))] [(.int (f (0 : Int32)))])) := fun t k => G t (X0.baloadBytes hx (j := (0 : Int32)) (v := (.int (f (0 : Int32)))) (by rw [e0]; exact Ar10.1) (State.isArrayOf_alike hZ.alike Ar10.2.1) Ar10.2.2 hin10 (Has.at H10 hin10 (hf (0 : Int32) (by decide) (by decide))) (g := (mkF m 59 #[.val (.ref a), .val (.int fr), .val (.int to), .val (.int (3 : Int32))] [(.int (0 : Int32)), (.ref a)])) rfl rfl (hb hby d2_59) t k)
              replace G := own_bipush (q := 62) G X0.here hx (hb hby d2_60) (v := (10 : Int32)) (by decide) rfl
              by_cases hc62_11 : (f (0 : Int32)) = (10 : Int32)
              · replace G := own_icmpNo (q := 65) G X0.here hx (hb hby d2_62) (teq hc62_11).2 rfl
                replace G := own_iconst (q := 66) G X0.here hx (hb hby d2_65) (v := (1 : Int32)) (by decide) rfl
                replace G := own_goto (q := 70) G X0.here hx (hb hby d2_66) (by decide) (by decide)
                obtain ⟨fs, hr, hrun, hended, hW, hsame⟩ := X0.leave (v := some (.int (1 : Int32))) (fun h => by rw [Bd.returns] at h; cases h)
                refine ⟨_, _, G _ (retOut X0 hx Bd.returns rfl (Or.inl ⟨rfl, Or.inr (Or.inl rfl), _, rfl⟩) (hb hby d2_70) hr), hrun, hended, _, _, rfl, ?_, ⟨_, rfl⟩, hW, hsame.mono (by decide) (by decide)⟩
                show Q2j3 Z a fr to k vs f h0 n0 _ s₁.heap _
                rw [e0]
                exact ⟨(congrArg (fun z => some (Value.int z)) (by simp [own_ea, hc2_1, hc9_2, hc21_4, hc33_6, hc42_7, hc52_9, hc62_11])), N0, rfl⟩
              · replace G := own_icmpYes (q := 69) G X0.here hx (hb hby d2_62) (feq hc62_11).2 (by decide) (by decide)
                replace G := own_iconst (q := 70) G X0.here hx (hb hby d2_69) (v := (0 : Int32)) (by decide) rfl
                obtain ⟨fs, hr, hrun, hended, hW, hsame⟩ := X0.leave (v := some (.int (0 : Int32))) (fun h => by rw [Bd.returns] at h; cases h)
                refine ⟨_, _, G _ (retOut X0 hx Bd.returns rfl (Or.inl ⟨rfl, Or.inr (Or.inl rfl), _, rfl⟩) (hb hby d2_70) hr), hrun, hended, _, _, rfl, ?_, ⟨_, rfl⟩, hW, hsame.mono (by decide) (by decide)⟩
                show Q2j3 Z a fr to k vs f h0 n0 _ s₁.heap _
                rw [e0]
                exact ⟨(congrArg (fun z => some (Value.int z)) (by simp [own_ea, hc2_1, hc9_2, hc21_4, hc33_6, hc42_7, hc52_9, hc62_11])), N0, rfl⟩
            · replace G := own_icmpYes (q := 69) G X0.here hx (hb hby d2_52) (feq hc52_9).2 (by decide) (by decide)
              replace G := own_iconst (q := 70) G X0.here hx (hb hby d2_69) (v := (0 : Int32)) (by decide) rfl
              obtain ⟨fs, hr, hrun, hended, hW, hsame⟩ := X0.leave (v := some (.int (0 : Int32))) (fun h => by rw [Bd.returns] at h; cases h)
              refine ⟨_, _, G _ (retOut X0 hx Bd.returns rfl (Or.inl ⟨rfl, Or.inr (Or.inl rfl), _, rfl⟩) (hb hby d2_70) hr), hrun, hended, _, _, rfl, ?_, ⟨_, rfl⟩, hW, hsame.mono (by decide) (by decide)⟩
              show Q2j3 Z a fr to k vs f h0 n0 _ s₁.heap _
              rw [e0]
              exact ⟨(congrArg (fun z => some (Value.int z)) (by simp [own_ea, hc2_1, hc9_2, hc21_4, hc33_6, hc42_7, hc52_9])), N0, rfl⟩
      · replace G := own_icmpNo (q := 24) G X0.here hx (hb hby d2_21) (feq hc21_4).1 rfl
        replace G := own_iconst (q := 25) G X0.here hx (hb hby d2_24) (v := (0 : Int32)) (by decide) rfl
        obtain ⟨fs, hr, hrun, hended, hW, hsame⟩ := X0.leave (v := some (.int (0 : Int32))) (fun h => by rw [Bd.returns] at h; cases h)
        refine ⟨_, _, G _ (retOut X0 hx Bd.returns rfl (Or.inl ⟨rfl, Or.inr (Or.inl rfl), _, rfl⟩) (hb hby d2_25) hr), hrun, hended, _, _, rfl, ?_, ⟨_, rfl⟩, hW, hsame.mono (by decide) (by decide)⟩
        show Q2j3 Z a fr to k vs f h0 n0 _ s₁.heap _
        rw [e0]
        exact ⟨(congrArg (fun z => some (Value.int z)) (by simp [own_ea, hc2_1, hc9_2, hc21_4])), N0, rfl⟩
theorem ef_2j4 (m : MethodId) (x0 : Addr) (x1 : Int32) (x2 : Int32) : entryFrame m #[(.ref x0), (.int x1), (.int x2), (.int (4 : Int32))] 4 = mkF m 0 #[.val (.ref x0), .val (.int x1), .val (.int x2), .val (.int (4 : Int32))] [] := by first | (simp [entryFrame, mkF, argsToLocals, Value.category]; done) | rfl
def Q2j4 (Z : State) (a : Addr) (fr : Int32) (to : Int32) (k : ClassId) (vs : List Value) (f : Int32 → Int32) (h0 : Heap) (n0 : Nat) (v : Option Value) (h : Heap) (L : List Loc) : Prop := v = some (.int (own_ea f fr to (4 : Int32) (3 : Int32) (2 : Int32) (1 : Int32))) ∧ Fr n0 L ∧ h = h0
set_option maxRecDepth 65536 in
set_option maxHeartbeats 40000000 in
theorem rm2j4 (l : Launch) (Z : State) (a0 : Array Value) (hw : ∀ d ∈ tables_1, d.before a0 Z = true) (ws : List Jvm.Cond) (a : Addr) (fr : Int32) (to : Int32) (k : ClassId) (vs : List Value) (f : Int32 → Int32) (h0 : Heap) (n0 : Nat) (Z0 : n0 ≤ h0.size) (P0 : Arv Z h0 a k .byte (7 : Int32) vs (.int (0 : Int32))) (hf : ∀ i : Int32, 0 ≤ i.toInt → i.toInt < 7 → vs.getD i.toNatClampNeg (.int (0 : Int32)) = .int (f i)) (hfr : 0 ≤ fr.toInt ∧ fr.toInt ≤ 7) (hto : 0 ≤ to.toInt ∧ to.toInt ≤ 7) :
    MetFree l (⟨"com/example/assertgate/assertgate/http/RequestHeadEndPinLaw", "endsAt", "([BIII)Z"⟩ : MethodName) (head1 (Jvm.Cond.code (⟨"com/example/assertgate/assertgate/http/RequestHeadEndPinLaw", "endsAt", "([BIII)Z"⟩ : MethodName) method_3_code 4 (some .boolean) :: ws) ({ frames := 0, cells := 0, slots := 0, locals := 0 } : Room)) (fun argz U => argz = #[(.ref a), (.int fr), (.int to), (.int (4 : Int32))] ∧ Z.Warmed39 U.vm ∧ U.heap = h0) (fun _ _ _ _ _ => True) (fun _ U o U' => ∃ v L, o = .returned v ∧ Q2j4 Z a fr to k vs f h0 n0 v U'.heap L ∧ FrameEnd U o U' L ({ frames := 0, cells := 0, slots := 0, locals := 0 } : Room).cells ({ frames := 0, cells := 0, slots := 0, locals := 0 } : Room).slots) := by
  refine MetFree.of_bodySF (plainFor_of_name pn_com_example_assertgate_assertgate_http_RequestHeadEndPinLaw) hisR ?_
  intro p e s m args below meth c s₁ Bd hml0 hP hK
  obtain ⟨rfl, hZ, hh⟩ := hP
  have hx := Bd.exec
  have hby := Bd.bytes
  have hml : c.maxLocals = 4 := hml0
  have hown : s.vm.findClass "com/example/assertgate/assertgate/http/RequestHeadEndPinLaw" = some m.cls := findClass_of_methodNamed Bd.named
  have hnm := (name_of_methodNamed Bd.named Bd.method).1
  have X0 : Stand p l e ({ frames := 0, cells := 0, slots := 0, locals := 0 } : Room) s m #[(.ref a), (.int fr), (.int to), (.int (4 : Int32))] below meth c s₁ [] 0 0 := Stand.of_body Bd
  have e0 : s₁.heap = h0 := by rw [← hh, Bd.state]; rfl
  have N0 := Fr.nil n0
  have G : Gets p e below (s₁.setTop (entryFrame m #[(.ref a), (.int fr), (.int to), (.int (4 : Int32))] 4)) (s₁.setTop (mkF m 0 #[.val (.ref a), .val (.int fr), .val (.int to), .val (.int (4 : Int32))] [])) := fun t k => castTop (ef_2j4 m a fr to) k
  replace G := own_iloadN (q := 1) G X0.here hx (hb hby d2_0) rfl rfl
  replace G := own_iloadN (q := 2) G X0.here hx (hb hby d2_1) rfl rfl
  by_cases hc2_1 : to < (4 : Int32)
  · replace G := own_icmpYes (q := 12) G X0.here hx (hb hby d2_2) (tlt hc2_1).2.2.1 (by decide) (by decide)
    replace G := own_iconst (q := 13) G X0.here hx (hb hby d2_12) (v := (0 : Int32)) (by decide) rfl
    obtain ⟨fs, hr, hrun, hended, hW, hsame⟩ := X0.leave (v := some (.int (0 : Int32))) (fun h => by rw [Bd.returns] at h; cases h)
    refine ⟨_, _, G _ (retOut X0 hx Bd.returns rfl (Or.inl ⟨rfl, Or.inr (Or.inl rfl), _, rfl⟩) (hb hby d2_13) hr), hrun, hended, _, _, rfl, ?_, ⟨_, rfl⟩, hW, hsame.mono (by decide) (by decide)⟩
    show Q2j4 Z a fr to k vs f h0 n0 _ s₁.heap _
    rw [e0]
    exact ⟨(congrArg (fun z => some (Value.int z)) (by simp [own_ea, hc2_1])), N0, rfl⟩
  · replace G := own_icmpNo (q := 5) G X0.here hx (hb hby d2_2) (flt hc2_1).2.2.1 rfl
    replace G := own_iloadN (q := 6) G X0.here hx (hb hby d2_5) rfl rfl
    replace G := own_iconst (q := 7) G X0.here hx (hb hby d2_6) (v := (2 : Int32)) (by decide) rfl
    replace G := own_isub (q := 8) G X0.here hx (hb hby d2_7) (by decide : ((4 : Int32) - (2 : Int32)) = (2 : Int32)) rfl
    replace G := own_iloadN (q := 9) G X0.here hx (hb hby d2_8) rfl rfl
    by_cases hc9_2 : (2 : Int32) < fr
    · replace G := own_icmpNo (q := 12) G X0.here hx (hb hby d2_9) (tlt hc9_2).2.1 rfl
      replace G := own_iconst (q := 13) G X0.here hx (hb hby d2_12) (v := (0 : Int32)) (by decide) rfl
      obtain ⟨fs, hr, hrun, hended, hW, hsame⟩ := X0.leave (v := some (.int (0 : Int32))) (fun h => by rw [Bd.returns] at h; cases h)
      refine ⟨_, _, G _ (retOut X0 hx Bd.returns rfl (Or.inl ⟨rfl, Or.inr (Or.inl rfl), _, rfl⟩) (hb hby d2_13) hr), hrun, hended, _, _, rfl, ?_, ⟨_, rfl⟩, hW, hsame.mono (by decide) (by decide)⟩
      show Q2j4 Z a fr to k vs f h0 n0 _ s₁.heap _
      rw [e0]
      exact ⟨(congrArg (fun z => some (Value.int z)) (by simp [own_ea, hc2_1, hc9_2])), N0, rfl⟩
    · replace G := own_icmpYes (q := 14) G X0.here hx (hb hby d2_9) (flt hc9_2).2.1 (by decide) (by decide)
      replace G := own_aloadN (q := 15) G X0.here hx (hb hby d2_14) rfl rfl rfl
      replace G := own_iloadN (q := 16) G X0.here hx (hb hby d2_15) rfl rfl
      replace G := own_iconst (q := 17) G X0.here hx (hb hby d2_16) (v := (1 : Int32)) (by decide) rfl
      replace G := own_isub (q := 18) G X0.here hx (hb hby d2_17) (by decide : ((4 : Int32) - (1 : Int32)) = (3 : Int32)) rfl
      obtain ⟨c3, Ar3, -, S3, -, H3, -⟩ := id P0
      have hin3 : ¬ ((3 : Int32) < 0 ∨ c3.slots.size ≤ ((3 : Int32)).toNatClampNeg) := inb_of S3 ⟨by decide, by decide⟩
      replace G : Gets p e below _ (s₁.setTop (mkF m 19 #[.val (.ref a), .val (.int fr), .val (.int to), .val (.int (4 : Int32))] [(.int (f (3 : Int32)))])) := fun t k => G t (X0.baloadBytes hx (j := (3 : Int32)) (v := (.int (f (3 : Int32)))) (by rw [e0]; exact Ar3.1) (State.isArrayOf_alike hZ.alike Ar3.2.1) Ar3.2.2 hin3 (Has.at H3 hin3 (hf (3 : Int32) (by decide) (by decide))) (g := (mkF m 18 #[.val (.ref a), .val (.int fr), .val (.int to), .val (.int (4 : Int32))] [(.int (3 : Int32)), (.ref a)])) rfl rfl (hb hby d2_18) t k)
      replace G := own_bipush (q := 21) G X0.here hx (hb hby d2_19) (v := (10 : Int32)) (by decide) rfl
      by_cases hc21_4 : (f (3 : Int32)) = (10 : Int32)
      · replace G := own_icmpYes (q := 26) G X0.here hx (hb hby d2_21) (teq hc21_4).1 (by decide) (by decide)
        replace G := own_aloadN (q := 27) G X0.here hx (hb hby d2_26) rfl rfl rfl
        replace G := own_iloadN (q := 28) G X0.here hx (hb hby d2_27) rfl rfl
        replace G := own_iconst (q := 29) G X0.here hx (hb hby d2_28) (v := (2 : Int32)) (by decide) rfl
        replace G := own_isub (q := 30) G X0.here hx (hb hby d2_29) (by decide : ((4 : Int32) - (2 : Int32)) = (2 : Int32)) rfl
        obtain ⟨c5, Ar5, -, S5, -, H5, -⟩ := id P0
        have hin5 : ¬ ((2 : Int32) < 0 ∨ c5.slots.size ≤ ((2 : Int32)).toNatClampNeg) := inb_of S5 ⟨by decide, by decide⟩
        replace G : Gets p e below _ (s₁.setTop (mkF m 31 #[.val (.ref a), .val (.int fr), .val (.int to), .val (.int (4 : Int32))] [(.int (f (2 : Int32)))])) := fun t k => G t (X0.baloadBytes hx (j := (2 : Int32)) (v := (.int (f (2 : Int32)))) (by rw [e0]; exact Ar5.1) (State.isArrayOf_alike hZ.alike Ar5.2.1) Ar5.2.2 hin5 (Has.at H5 hin5 (hf (2 : Int32) (by decide) (by decide))) (g := (mkF m 30 #[.val (.ref a), .val (.int fr), .val (.int to), .val (.int (4 : Int32))] [(.int (2 : Int32)), (.ref a)])) rfl rfl (hb hby d2_30) t k)
        replace G := own_bipush (q := 33) G X0.here hx (hb hby d2_31) (v := (10 : Int32)) (by decide) rfl
        by_cases hc33_6 : (f (2 : Int32)) = (10 : Int32)
        · replace G := own_icmpNo (q := 36) G X0.here hx (hb hby d2_33) (teq hc33_6).2 rfl
          replace G := own_iconst (q := 37) G X0.here hx (hb hby d2_36) (v := (1 : Int32)) (by decide) rfl
          obtain ⟨fs, hr, hrun, hended, hW, hsame⟩ := X0.leave (v := some (.int (1 : Int32))) (fun h => by rw [Bd.returns] at h; cases h)
          refine ⟨_, _, G _ (retOut X0 hx Bd.returns rfl (Or.inl ⟨rfl, Or.inr (Or.inl rfl), _, rfl⟩) (hb hby d2_37) hr), hrun, hended, _, _, rfl, ?_, ⟨_, rfl⟩, hW, hsame.mono (by decide) (by decide)⟩
          show Q2j4 Z a fr to k vs f h0 n0 _ s₁.heap _
          rw [e0]
          exact ⟨(congrArg (fun z => some (Value.int z)) (by simp [own_ea, hc2_1, hc9_2, hc21_4, hc33_6])), N0, rfl⟩
        · replace G := own_icmpYes (q := 38) G X0.here hx (hb hby d2_33) (feq hc33_6).2 (by decide) (by decide)
          replace G := own_iloadN (q := 39) G X0.here hx (hb hby d2_38) rfl rfl
          replace G := own_iconst (q := 40) G X0.here hx (hb hby d2_39) (v := (3 : Int32)) (by decide) rfl
          replace G := own_isub (q := 41) G X0.here hx (hb hby d2_40) (by decide : ((4 : Int32) - (3 : Int32)) = (1 : Int32)) rfl
          replace G := own_iloadN (q := 42) G X0.here hx (hb hby d2_41) rfl rfl
          by_cases hc42_7 : (1 : Int32) < fr
          · replace G := own_icmpYes (q := 69) G X0.here hx (hb hby d2_42) (tlt hc42_7).1 (by decide) (by decide)
            replace G := own_iconst (q := 70) G X0.here hx (hb hby d2_69) (v := (0 : Int32)) (by decide) rfl
            obtain ⟨fs, hr, hrun, hended, hW, hsame⟩ := X0.leave (v := some (.int (0 : Int32))) (fun h => by rw [Bd.returns] at h; cases h)
            refine ⟨_, _, G _ (retOut X0 hx Bd.returns rfl (Or.inl ⟨rfl, Or.inr (Or.inl rfl), _, rfl⟩) (hb hby d2_70) hr), hrun, hended, _, _, rfl, ?_, ⟨_, rfl⟩, hW, hsame.mono (by decide) (by decide)⟩
            show Q2j4 Z a fr to k vs f h0 n0 _ s₁.heap _
            rw [e0]
            exact ⟨(congrArg (fun z => some (Value.int z)) (by simp [own_ea, hc2_1, hc9_2, hc21_4, hc33_6, hc42_7])), N0, rfl⟩
          · replace G := own_icmpNo (q := 45) G X0.here hx (hb hby d2_42) (flt hc42_7).1 rfl
            replace G := own_aloadN (q := 46) G X0.here hx (hb hby d2_45) rfl rfl rfl
            replace G := own_iloadN (q := 47) G X0.here hx (hb hby d2_46) rfl rfl
            replace G := own_iconst (q := 48) G X0.here hx (hb hby d2_47) (v := (2 : Int32)) (by decide) rfl
            replace G := own_isub (q := 49) G X0.here hx (hb hby d2_48) (by decide : ((4 : Int32) - (2 : Int32)) = (2 : Int32)) rfl
            obtain ⟨c8, Ar8, -, S8, -, H8, -⟩ := id P0
            have hin8 : ¬ ((2 : Int32) < 0 ∨ c8.slots.size ≤ ((2 : Int32)).toNatClampNeg) := inb_of S8 ⟨by decide, by decide⟩
            replace G : Gets p e below _ (s₁.setTop (mkF m 50 #[.val (.ref a), .val (.int fr), .val (.int to), .val (.int (4 : Int32))] [(.int (f (2 : Int32)))])) := fun t k => G t (X0.baloadBytes hx (j := (2 : Int32)) (v := (.int (f (2 : Int32)))) (by rw [e0]; exact Ar8.1) (State.isArrayOf_alike hZ.alike Ar8.2.1) Ar8.2.2 hin8 (Has.at H8 hin8 (hf (2 : Int32) (by decide) (by decide))) (g := (mkF m 49 #[.val (.ref a), .val (.int fr), .val (.int to), .val (.int (4 : Int32))] [(.int (2 : Int32)), (.ref a)])) rfl rfl (hb hby d2_49) t k)
            replace G := own_bipush (q := 52) G X0.here hx (hb hby d2_50) (v := (13 : Int32)) (by decide) rfl
            by_cases hc52_9 : (f (2 : Int32)) = (13 : Int32)
            · replace G := own_icmpNo (q := 55) G X0.here hx (hb hby d2_52) (teq hc52_9).2 rfl
              replace G := own_aloadN (q := 56) G X0.here hx (hb hby d2_55) rfl rfl rfl
              replace G := own_iloadN (q := 57) G X0.here hx (hb hby d2_56) rfl rfl
              replace G := own_iconst (q := 58) G X0.here hx (hb hby d2_57) (v := (3 : Int32)) (by decide) rfl
              replace G := own_isub (q := 59) G X0.here hx (hb hby d2_58) (by decide : ((4 : Int32) - (3 : Int32)) = (1 : Int32)) rfl
              obtain ⟨c10, Ar10, -, S10, -, H10, -⟩ := id P0
              have hin10 : ¬ ((1 : Int32) < 0 ∨ c10.slots.size ≤ ((1 : Int32)).toNatClampNeg) := inb_of S10 ⟨by decide, by decide⟩
              replace G : Gets p e below _ (s₁.setTop (mkF m 60 #[.val (.ref a), .val (.int fr), .val (.int to), .val (.int (4 : Int32))] [(.int (f (1 : Int32)))])) := fun t k => G t (X0.baloadBytes hx (j := (1 : Int32)) (v := (.int (f (1 : Int32)))) (by rw [e0]; exact Ar10.1) (State.isArrayOf_alike hZ.alike Ar10.2.1) Ar10.2.2 hin10 (Has.at H10 hin10 (hf (1 : Int32) (by decide) (by decide))) (g := (mkF m 59 #[.val (.ref a), .val (.int fr), .val (.int to), .val (.int (4 : Int32))] [(.int (1 : Int32)), (.ref a)])) rfl rfl (hb hby d2_59) t k)
              replace G := own_bipush (q := 62) G X0.here hx (hb hby d2_60) (v := (10 : Int32)) (by decide) rfl
              by_cases hc62_11 : (f (1 : Int32)) = (10 : Int32)
              · replace G := own_icmpNo (q := 65) G X0.here hx (hb hby d2_62) (teq hc62_11).2 rfl
                replace G := own_iconst (q := 66) G X0.here hx (hb hby d2_65) (v := (1 : Int32)) (by decide) rfl
                replace G := own_goto (q := 70) G X0.here hx (hb hby d2_66) (by decide) (by decide)
                obtain ⟨fs, hr, hrun, hended, hW, hsame⟩ := X0.leave (v := some (.int (1 : Int32))) (fun h => by rw [Bd.returns] at h; cases h)
                refine ⟨_, _, G _ (retOut X0 hx Bd.returns rfl (Or.inl ⟨rfl, Or.inr (Or.inl rfl), _, rfl⟩) (hb hby d2_70) hr), hrun, hended, _, _, rfl, ?_, ⟨_, rfl⟩, hW, hsame.mono (by decide) (by decide)⟩
                show Q2j4 Z a fr to k vs f h0 n0 _ s₁.heap _
                rw [e0]
                exact ⟨(congrArg (fun z => some (Value.int z)) (by simp [own_ea, hc2_1, hc9_2, hc21_4, hc33_6, hc42_7, hc52_9, hc62_11])), N0, rfl⟩
              · replace G := own_icmpYes (q := 69) G X0.here hx (hb hby d2_62) (feq hc62_11).2 (by decide) (by decide)
                replace G := own_iconst (q := 70) G X0.here hx (hb hby d2_69) (v := (0 : Int32)) (by decide) rfl
                obtain ⟨fs, hr, hrun, hended, hW, hsame⟩ := X0.leave (v := some (.int (0 : Int32))) (fun h => by rw [Bd.returns] at h; cases h)
                refine ⟨_, _, G _ (retOut X0 hx Bd.returns rfl (Or.inl ⟨rfl, Or.inr (Or.inl rfl), _, rfl⟩) (hb hby d2_70) hr), hrun, hended, _, _, rfl, ?_, ⟨_, rfl⟩, hW, hsame.mono (by decide) (by decide)⟩
                show Q2j4 Z a fr to k vs f h0 n0 _ s₁.heap _
                rw [e0]
                exact ⟨(congrArg (fun z => some (Value.int z)) (by simp [own_ea, hc2_1, hc9_2, hc21_4, hc33_6, hc42_7, hc52_9, hc62_11])), N0, rfl⟩
            · replace G := own_icmpYes (q := 69) G X0.here hx (hb hby d2_52) (feq hc52_9).2 (by decide) (by decide)
              replace G := own_iconst (q := 70) G X0.here hx (hb hby d2_69) (v := (0 : Int32)) (by decide) rfl
              obtain ⟨fs, hr, hrun, hended, hW, hsame⟩ := X0.leave (v := some (.int (0 : Int32))) (fun h => by rw [Bd.returns] at h; cases h)
              refine ⟨_, _, G _ (retOut X0 hx Bd.returns rfl (Or.inl ⟨rfl, Or.inr (Or.inl rfl), _, rfl⟩) (hb hby d2_70) hr), hrun, hended, _, _, rfl, ?_, ⟨_, rfl⟩, hW, hsame.mono (by decide) (by decide)⟩
              show Q2j4 Z a fr to k vs f h0 n0 _ s₁.heap _
              rw [e0]
              exact ⟨(congrArg (fun z => some (Value.int z)) (by simp [own_ea, hc2_1, hc9_2, hc21_4, hc33_6, hc42_7, hc52_9])), N0, rfl⟩
      · replace G := own_icmpNo (q := 24) G X0.here hx (hb hby d2_21) (feq hc21_4).1 rfl
        replace G := own_iconst (q := 25) G X0.here hx (hb hby d2_24) (v := (0 : Int32)) (by decide) rfl
        obtain ⟨fs, hr, hrun, hended, hW, hsame⟩ := X0.leave (v := some (.int (0 : Int32))) (fun h => by rw [Bd.returns] at h; cases h)
        refine ⟨_, _, G _ (retOut X0 hx Bd.returns rfl (Or.inl ⟨rfl, Or.inr (Or.inl rfl), _, rfl⟩) (hb hby d2_25) hr), hrun, hended, _, _, rfl, ?_, ⟨_, rfl⟩, hW, hsame.mono (by decide) (by decide)⟩
        show Q2j4 Z a fr to k vs f h0 n0 _ s₁.heap _
        rw [e0]
        exact ⟨(congrArg (fun z => some (Value.int z)) (by simp [own_ea, hc2_1, hc9_2, hc21_4])), N0, rfl⟩
theorem ef_2j5 (m : MethodId) (x0 : Addr) (x1 : Int32) (x2 : Int32) : entryFrame m #[(.ref x0), (.int x1), (.int x2), (.int (5 : Int32))] 4 = mkF m 0 #[.val (.ref x0), .val (.int x1), .val (.int x2), .val (.int (5 : Int32))] [] := by first | (simp [entryFrame, mkF, argsToLocals, Value.category]; done) | rfl
def Q2j5 (Z : State) (a : Addr) (fr : Int32) (to : Int32) (k : ClassId) (vs : List Value) (f : Int32 → Int32) (h0 : Heap) (n0 : Nat) (v : Option Value) (h : Heap) (L : List Loc) : Prop := v = some (.int (own_ea f fr to (5 : Int32) (4 : Int32) (3 : Int32) (2 : Int32))) ∧ Fr n0 L ∧ h = h0
set_option maxRecDepth 65536 in
set_option maxHeartbeats 40000000 in
theorem rm2j5 (l : Launch) (Z : State) (a0 : Array Value) (hw : ∀ d ∈ tables_1, d.before a0 Z = true) (ws : List Jvm.Cond) (a : Addr) (fr : Int32) (to : Int32) (k : ClassId) (vs : List Value) (f : Int32 → Int32) (h0 : Heap) (n0 : Nat) (Z0 : n0 ≤ h0.size) (P0 : Arv Z h0 a k .byte (7 : Int32) vs (.int (0 : Int32))) (hf : ∀ i : Int32, 0 ≤ i.toInt → i.toInt < 7 → vs.getD i.toNatClampNeg (.int (0 : Int32)) = .int (f i)) (hfr : 0 ≤ fr.toInt ∧ fr.toInt ≤ 7) (hto : 0 ≤ to.toInt ∧ to.toInt ≤ 7) :
    MetFree l (⟨"com/example/assertgate/assertgate/http/RequestHeadEndPinLaw", "endsAt", "([BIII)Z"⟩ : MethodName) (head1 (Jvm.Cond.code (⟨"com/example/assertgate/assertgate/http/RequestHeadEndPinLaw", "endsAt", "([BIII)Z"⟩ : MethodName) method_3_code 4 (some .boolean) :: ws) ({ frames := 0, cells := 0, slots := 0, locals := 0 } : Room)) (fun argz U => argz = #[(.ref a), (.int fr), (.int to), (.int (5 : Int32))] ∧ Z.Warmed39 U.vm ∧ U.heap = h0) (fun _ _ _ _ _ => True) (fun _ U o U' => ∃ v L, o = .returned v ∧ Q2j5 Z a fr to k vs f h0 n0 v U'.heap L ∧ FrameEnd U o U' L ({ frames := 0, cells := 0, slots := 0, locals := 0 } : Room).cells ({ frames := 0, cells := 0, slots := 0, locals := 0 } : Room).slots) := by
  refine MetFree.of_bodySF (plainFor_of_name pn_com_example_assertgate_assertgate_http_RequestHeadEndPinLaw) hisR ?_
  intro p e s m args below meth c s₁ Bd hml0 hP hK
  obtain ⟨rfl, hZ, hh⟩ := hP
  have hx := Bd.exec
  have hby := Bd.bytes
  have hml : c.maxLocals = 4 := hml0
  have hown : s.vm.findClass "com/example/assertgate/assertgate/http/RequestHeadEndPinLaw" = some m.cls := findClass_of_methodNamed Bd.named
  have hnm := (name_of_methodNamed Bd.named Bd.method).1
  have X0 : Stand p l e ({ frames := 0, cells := 0, slots := 0, locals := 0 } : Room) s m #[(.ref a), (.int fr), (.int to), (.int (5 : Int32))] below meth c s₁ [] 0 0 := Stand.of_body Bd
  have e0 : s₁.heap = h0 := by rw [← hh, Bd.state]; rfl
  have N0 := Fr.nil n0
  have G : Gets p e below (s₁.setTop (entryFrame m #[(.ref a), (.int fr), (.int to), (.int (5 : Int32))] 4)) (s₁.setTop (mkF m 0 #[.val (.ref a), .val (.int fr), .val (.int to), .val (.int (5 : Int32))] [])) := fun t k => castTop (ef_2j5 m a fr to) k
  replace G := own_iloadN (q := 1) G X0.here hx (hb hby d2_0) rfl rfl
  replace G := own_iloadN (q := 2) G X0.here hx (hb hby d2_1) rfl rfl
  by_cases hc2_1 : to < (5 : Int32)
  · replace G := own_icmpYes (q := 12) G X0.here hx (hb hby d2_2) (tlt hc2_1).2.2.1 (by decide) (by decide)
    replace G := own_iconst (q := 13) G X0.here hx (hb hby d2_12) (v := (0 : Int32)) (by decide) rfl
    obtain ⟨fs, hr, hrun, hended, hW, hsame⟩ := X0.leave (v := some (.int (0 : Int32))) (fun h => by rw [Bd.returns] at h; cases h)
    refine ⟨_, _, G _ (retOut X0 hx Bd.returns rfl (Or.inl ⟨rfl, Or.inr (Or.inl rfl), _, rfl⟩) (hb hby d2_13) hr), hrun, hended, _, _, rfl, ?_, ⟨_, rfl⟩, hW, hsame.mono (by decide) (by decide)⟩
    show Q2j5 Z a fr to k vs f h0 n0 _ s₁.heap _
    rw [e0]
    exact ⟨(congrArg (fun z => some (Value.int z)) (by simp [own_ea, hc2_1])), N0, rfl⟩
  · replace G := own_icmpNo (q := 5) G X0.here hx (hb hby d2_2) (flt hc2_1).2.2.1 rfl
    replace G := own_iloadN (q := 6) G X0.here hx (hb hby d2_5) rfl rfl
    replace G := own_iconst (q := 7) G X0.here hx (hb hby d2_6) (v := (2 : Int32)) (by decide) rfl
    replace G := own_isub (q := 8) G X0.here hx (hb hby d2_7) (by decide : ((5 : Int32) - (2 : Int32)) = (3 : Int32)) rfl
    replace G := own_iloadN (q := 9) G X0.here hx (hb hby d2_8) rfl rfl
    by_cases hc9_2 : (3 : Int32) < fr
    · replace G := own_icmpNo (q := 12) G X0.here hx (hb hby d2_9) (tlt hc9_2).2.1 rfl
      replace G := own_iconst (q := 13) G X0.here hx (hb hby d2_12) (v := (0 : Int32)) (by decide) rfl
      obtain ⟨fs, hr, hrun, hended, hW, hsame⟩ := X0.leave (v := some (.int (0 : Int32))) (fun h => by rw [Bd.returns] at h; cases h)
      refine ⟨_, _, G _ (retOut X0 hx Bd.returns rfl (Or.inl ⟨rfl, Or.inr (Or.inl rfl), _, rfl⟩) (hb hby d2_13) hr), hrun, hended, _, _, rfl, ?_, ⟨_, rfl⟩, hW, hsame.mono (by decide) (by decide)⟩
      show Q2j5 Z a fr to k vs f h0 n0 _ s₁.heap _
      rw [e0]
      exact ⟨(congrArg (fun z => some (Value.int z)) (by simp [own_ea, hc2_1, hc9_2])), N0, rfl⟩
    · replace G := own_icmpYes (q := 14) G X0.here hx (hb hby d2_9) (flt hc9_2).2.1 (by decide) (by decide)
      replace G := own_aloadN (q := 15) G X0.here hx (hb hby d2_14) rfl rfl rfl
      replace G := own_iloadN (q := 16) G X0.here hx (hb hby d2_15) rfl rfl
      replace G := own_iconst (q := 17) G X0.here hx (hb hby d2_16) (v := (1 : Int32)) (by decide) rfl
      replace G := own_isub (q := 18) G X0.here hx (hb hby d2_17) (by decide : ((5 : Int32) - (1 : Int32)) = (4 : Int32)) rfl
      obtain ⟨c3, Ar3, -, S3, -, H3, -⟩ := id P0
      have hin3 : ¬ ((4 : Int32) < 0 ∨ c3.slots.size ≤ ((4 : Int32)).toNatClampNeg) := inb_of S3 ⟨by decide, by decide⟩
      replace G : Gets p e below _ (s₁.setTop (mkF m 19 #[.val (.ref a), .val (.int fr), .val (.int to), .val (.int (5 : Int32))] [(.int (f (4 : Int32)))])) := fun t k => G t (X0.baloadBytes hx (j := (4 : Int32)) (v := (.int (f (4 : Int32)))) (by rw [e0]; exact Ar3.1) (State.isArrayOf_alike hZ.alike Ar3.2.1) Ar3.2.2 hin3 (Has.at H3 hin3 (hf (4 : Int32) (by decide) (by decide))) (g := (mkF m 18 #[.val (.ref a), .val (.int fr), .val (.int to), .val (.int (5 : Int32))] [(.int (4 : Int32)), (.ref a)])) rfl rfl (hb hby d2_18) t k)
      replace G := own_bipush (q := 21) G X0.here hx (hb hby d2_19) (v := (10 : Int32)) (by decide) rfl
      by_cases hc21_4 : (f (4 : Int32)) = (10 : Int32)
      · replace G := own_icmpYes (q := 26) G X0.here hx (hb hby d2_21) (teq hc21_4).1 (by decide) (by decide)
        replace G := own_aloadN (q := 27) G X0.here hx (hb hby d2_26) rfl rfl rfl
        replace G := own_iloadN (q := 28) G X0.here hx (hb hby d2_27) rfl rfl
        replace G := own_iconst (q := 29) G X0.here hx (hb hby d2_28) (v := (2 : Int32)) (by decide) rfl
        replace G := own_isub (q := 30) G X0.here hx (hb hby d2_29) (by decide : ((5 : Int32) - (2 : Int32)) = (3 : Int32)) rfl
        obtain ⟨c5, Ar5, -, S5, -, H5, -⟩ := id P0
        have hin5 : ¬ ((3 : Int32) < 0 ∨ c5.slots.size ≤ ((3 : Int32)).toNatClampNeg) := inb_of S5 ⟨by decide, by decide⟩
        replace G : Gets p e below _ (s₁.setTop (mkF m 31 #[.val (.ref a), .val (.int fr), .val (.int to), .val (.int (5 : Int32))] [(.int (f (3 : Int32)))])) := fun t k => G t (X0.baloadBytes hx (j := (3 : Int32)) (v := (.int (f (3 : Int32)))) (by rw [e0]; exact Ar5.1) (State.isArrayOf_alike hZ.alike Ar5.2.1) Ar5.2.2 hin5 (Has.at H5 hin5 (hf (3 : Int32) (by decide) (by decide))) (g := (mkF m 30 #[.val (.ref a), .val (.int fr), .val (.int to), .val (.int (5 : Int32))] [(.int (3 : Int32)), (.ref a)])) rfl rfl (hb hby d2_30) t k)
        replace G := own_bipush (q := 33) G X0.here hx (hb hby d2_31) (v := (10 : Int32)) (by decide) rfl
        by_cases hc33_6 : (f (3 : Int32)) = (10 : Int32)
        · replace G := own_icmpNo (q := 36) G X0.here hx (hb hby d2_33) (teq hc33_6).2 rfl
          replace G := own_iconst (q := 37) G X0.here hx (hb hby d2_36) (v := (1 : Int32)) (by decide) rfl
          obtain ⟨fs, hr, hrun, hended, hW, hsame⟩ := X0.leave (v := some (.int (1 : Int32))) (fun h => by rw [Bd.returns] at h; cases h)
          refine ⟨_, _, G _ (retOut X0 hx Bd.returns rfl (Or.inl ⟨rfl, Or.inr (Or.inl rfl), _, rfl⟩) (hb hby d2_37) hr), hrun, hended, _, _, rfl, ?_, ⟨_, rfl⟩, hW, hsame.mono (by decide) (by decide)⟩
          show Q2j5 Z a fr to k vs f h0 n0 _ s₁.heap _
          rw [e0]
          exact ⟨(congrArg (fun z => some (Value.int z)) (by simp [own_ea, hc2_1, hc9_2, hc21_4, hc33_6])), N0, rfl⟩
        · replace G := own_icmpYes (q := 38) G X0.here hx (hb hby d2_33) (feq hc33_6).2 (by decide) (by decide)
          replace G := own_iloadN (q := 39) G X0.here hx (hb hby d2_38) rfl rfl
          replace G := own_iconst (q := 40) G X0.here hx (hb hby d2_39) (v := (3 : Int32)) (by decide) rfl
          replace G := own_isub (q := 41) G X0.here hx (hb hby d2_40) (by decide : ((5 : Int32) - (3 : Int32)) = (2 : Int32)) rfl
          replace G := own_iloadN (q := 42) G X0.here hx (hb hby d2_41) rfl rfl
          by_cases hc42_7 : (2 : Int32) < fr
          · replace G := own_icmpYes (q := 69) G X0.here hx (hb hby d2_42) (tlt hc42_7).1 (by decide) (by decide)
            replace G := own_iconst (q := 70) G X0.here hx (hb hby d2_69) (v := (0 : Int32)) (by decide) rfl
            obtain ⟨fs, hr, hrun, hended, hW, hsame⟩ := X0.leave (v := some (.int (0 : Int32))) (fun h => by rw [Bd.returns] at h; cases h)
            refine ⟨_, _, G _ (retOut X0 hx Bd.returns rfl (Or.inl ⟨rfl, Or.inr (Or.inl rfl), _, rfl⟩) (hb hby d2_70) hr), hrun, hended, _, _, rfl, ?_, ⟨_, rfl⟩, hW, hsame.mono (by decide) (by decide)⟩
            show Q2j5 Z a fr to k vs f h0 n0 _ s₁.heap _
            rw [e0]
            exact ⟨(congrArg (fun z => some (Value.int z)) (by simp [own_ea, hc2_1, hc9_2, hc21_4, hc33_6, hc42_7])), N0, rfl⟩
          · replace G := own_icmpNo (q := 45) G X0.here hx (hb hby d2_42) (flt hc42_7).1 rfl
            replace G := own_aloadN (q := 46) G X0.here hx (hb hby d2_45) rfl rfl rfl
            replace G := own_iloadN (q := 47) G X0.here hx (hb hby d2_46) rfl rfl
            replace G := own_iconst (q := 48) G X0.here hx (hb hby d2_47) (v := (2 : Int32)) (by decide) rfl
            replace G := own_isub (q := 49) G X0.here hx (hb hby d2_48) (by decide : ((5 : Int32) - (2 : Int32)) = (3 : Int32)) rfl
            obtain ⟨c8, Ar8, -, S8, -, H8, -⟩ := id P0
            have hin8 : ¬ ((3 : Int32) < 0 ∨ c8.slots.size ≤ ((3 : Int32)).toNatClampNeg) := inb_of S8 ⟨by decide, by decide⟩
            replace G : Gets p e below _ (s₁.setTop (mkF m 50 #[.val (.ref a), .val (.int fr), .val (.int to), .val (.int (5 : Int32))] [(.int (f (3 : Int32)))])) := fun t k => G t (X0.baloadBytes hx (j := (3 : Int32)) (v := (.int (f (3 : Int32)))) (by rw [e0]; exact Ar8.1) (State.isArrayOf_alike hZ.alike Ar8.2.1) Ar8.2.2 hin8 (Has.at H8 hin8 (hf (3 : Int32) (by decide) (by decide))) (g := (mkF m 49 #[.val (.ref a), .val (.int fr), .val (.int to), .val (.int (5 : Int32))] [(.int (3 : Int32)), (.ref a)])) rfl rfl (hb hby d2_49) t k)
            replace G := own_bipush (q := 52) G X0.here hx (hb hby d2_50) (v := (13 : Int32)) (by decide) rfl
            by_cases hc52_9 : (f (3 : Int32)) = (13 : Int32)
            · replace G := own_icmpNo (q := 55) G X0.here hx (hb hby d2_52) (teq hc52_9).2 rfl
              replace G := own_aloadN (q := 56) G X0.here hx (hb hby d2_55) rfl rfl rfl
              replace G := own_iloadN (q := 57) G X0.here hx (hb hby d2_56) rfl rfl
              replace G := own_iconst (q := 58) G X0.here hx (hb hby d2_57) (v := (3 : Int32)) (by decide) rfl
              replace G := own_isub (q := 59) G X0.here hx (hb hby d2_58) (by decide : ((5 : Int32) - (3 : Int32)) = (2 : Int32)) rfl
              obtain ⟨c10, Ar10, -, S10, -, H10, -⟩ := id P0
              have hin10 : ¬ ((2 : Int32) < 0 ∨ c10.slots.size ≤ ((2 : Int32)).toNatClampNeg) := inb_of S10 ⟨by decide, by decide⟩
              replace G : Gets p e below _ (s₁.setTop (mkF m 60 #[.val (.ref a), .val (.int fr), .val (.int to), .val (.int (5 : Int32))] [(.int (f (2 : Int32)))])) := fun t k => G t (X0.baloadBytes hx (j := (2 : Int32)) (v := (.int (f (2 : Int32)))) (by rw [e0]; exact Ar10.1) (State.isArrayOf_alike hZ.alike Ar10.2.1) Ar10.2.2 hin10 (Has.at H10 hin10 (hf (2 : Int32) (by decide) (by decide))) (g := (mkF m 59 #[.val (.ref a), .val (.int fr), .val (.int to), .val (.int (5 : Int32))] [(.int (2 : Int32)), (.ref a)])) rfl rfl (hb hby d2_59) t k)
              replace G := own_bipush (q := 62) G X0.here hx (hb hby d2_60) (v := (10 : Int32)) (by decide) rfl
              by_cases hc62_11 : (f (2 : Int32)) = (10 : Int32)
              · replace G := own_icmpNo (q := 65) G X0.here hx (hb hby d2_62) (teq hc62_11).2 rfl
                replace G := own_iconst (q := 66) G X0.here hx (hb hby d2_65) (v := (1 : Int32)) (by decide) rfl
                replace G := own_goto (q := 70) G X0.here hx (hb hby d2_66) (by decide) (by decide)
                obtain ⟨fs, hr, hrun, hended, hW, hsame⟩ := X0.leave (v := some (.int (1 : Int32))) (fun h => by rw [Bd.returns] at h; cases h)
                refine ⟨_, _, G _ (retOut X0 hx Bd.returns rfl (Or.inl ⟨rfl, Or.inr (Or.inl rfl), _, rfl⟩) (hb hby d2_70) hr), hrun, hended, _, _, rfl, ?_, ⟨_, rfl⟩, hW, hsame.mono (by decide) (by decide)⟩
                show Q2j5 Z a fr to k vs f h0 n0 _ s₁.heap _
                rw [e0]
                exact ⟨(congrArg (fun z => some (Value.int z)) (by simp [own_ea, hc2_1, hc9_2, hc21_4, hc33_6, hc42_7, hc52_9, hc62_11])), N0, rfl⟩
              · replace G := own_icmpYes (q := 69) G X0.here hx (hb hby d2_62) (feq hc62_11).2 (by decide) (by decide)
                replace G := own_iconst (q := 70) G X0.here hx (hb hby d2_69) (v := (0 : Int32)) (by decide) rfl
                obtain ⟨fs, hr, hrun, hended, hW, hsame⟩ := X0.leave (v := some (.int (0 : Int32))) (fun h => by rw [Bd.returns] at h; cases h)
                refine ⟨_, _, G _ (retOut X0 hx Bd.returns rfl (Or.inl ⟨rfl, Or.inr (Or.inl rfl), _, rfl⟩) (hb hby d2_70) hr), hrun, hended, _, _, rfl, ?_, ⟨_, rfl⟩, hW, hsame.mono (by decide) (by decide)⟩
                show Q2j5 Z a fr to k vs f h0 n0 _ s₁.heap _
                rw [e0]
                exact ⟨(congrArg (fun z => some (Value.int z)) (by simp [own_ea, hc2_1, hc9_2, hc21_4, hc33_6, hc42_7, hc52_9, hc62_11])), N0, rfl⟩
            · replace G := own_icmpYes (q := 69) G X0.here hx (hb hby d2_52) (feq hc52_9).2 (by decide) (by decide)
              replace G := own_iconst (q := 70) G X0.here hx (hb hby d2_69) (v := (0 : Int32)) (by decide) rfl
              obtain ⟨fs, hr, hrun, hended, hW, hsame⟩ := X0.leave (v := some (.int (0 : Int32))) (fun h => by rw [Bd.returns] at h; cases h)
              refine ⟨_, _, G _ (retOut X0 hx Bd.returns rfl (Or.inl ⟨rfl, Or.inr (Or.inl rfl), _, rfl⟩) (hb hby d2_70) hr), hrun, hended, _, _, rfl, ?_, ⟨_, rfl⟩, hW, hsame.mono (by decide) (by decide)⟩
              show Q2j5 Z a fr to k vs f h0 n0 _ s₁.heap _
              rw [e0]
              exact ⟨(congrArg (fun z => some (Value.int z)) (by simp [own_ea, hc2_1, hc9_2, hc21_4, hc33_6, hc42_7, hc52_9])), N0, rfl⟩
      · replace G := own_icmpNo (q := 24) G X0.here hx (hb hby d2_21) (feq hc21_4).1 rfl
        replace G := own_iconst (q := 25) G X0.here hx (hb hby d2_24) (v := (0 : Int32)) (by decide) rfl
        obtain ⟨fs, hr, hrun, hended, hW, hsame⟩ := X0.leave (v := some (.int (0 : Int32))) (fun h => by rw [Bd.returns] at h; cases h)
        refine ⟨_, _, G _ (retOut X0 hx Bd.returns rfl (Or.inl ⟨rfl, Or.inr (Or.inl rfl), _, rfl⟩) (hb hby d2_25) hr), hrun, hended, _, _, rfl, ?_, ⟨_, rfl⟩, hW, hsame.mono (by decide) (by decide)⟩
        show Q2j5 Z a fr to k vs f h0 n0 _ s₁.heap _
        rw [e0]
        exact ⟨(congrArg (fun z => some (Value.int z)) (by simp [own_ea, hc2_1, hc9_2, hc21_4])), N0, rfl⟩
theorem ef_2j6 (m : MethodId) (x0 : Addr) (x1 : Int32) (x2 : Int32) : entryFrame m #[(.ref x0), (.int x1), (.int x2), (.int (6 : Int32))] 4 = mkF m 0 #[.val (.ref x0), .val (.int x1), .val (.int x2), .val (.int (6 : Int32))] [] := by first | (simp [entryFrame, mkF, argsToLocals, Value.category]; done) | rfl
def Q2j6 (Z : State) (a : Addr) (fr : Int32) (to : Int32) (k : ClassId) (vs : List Value) (f : Int32 → Int32) (h0 : Heap) (n0 : Nat) (v : Option Value) (h : Heap) (L : List Loc) : Prop := v = some (.int (own_ea f fr to (6 : Int32) (5 : Int32) (4 : Int32) (3 : Int32))) ∧ Fr n0 L ∧ h = h0
set_option maxRecDepth 65536 in
set_option maxHeartbeats 40000000 in
theorem rm2j6 (l : Launch) (Z : State) (a0 : Array Value) (hw : ∀ d ∈ tables_1, d.before a0 Z = true) (ws : List Jvm.Cond) (a : Addr) (fr : Int32) (to : Int32) (k : ClassId) (vs : List Value) (f : Int32 → Int32) (h0 : Heap) (n0 : Nat) (Z0 : n0 ≤ h0.size) (P0 : Arv Z h0 a k .byte (7 : Int32) vs (.int (0 : Int32))) (hf : ∀ i : Int32, 0 ≤ i.toInt → i.toInt < 7 → vs.getD i.toNatClampNeg (.int (0 : Int32)) = .int (f i)) (hfr : 0 ≤ fr.toInt ∧ fr.toInt ≤ 7) (hto : 0 ≤ to.toInt ∧ to.toInt ≤ 7) :
    MetFree l (⟨"com/example/assertgate/assertgate/http/RequestHeadEndPinLaw", "endsAt", "([BIII)Z"⟩ : MethodName) (head1 (Jvm.Cond.code (⟨"com/example/assertgate/assertgate/http/RequestHeadEndPinLaw", "endsAt", "([BIII)Z"⟩ : MethodName) method_3_code 4 (some .boolean) :: ws) ({ frames := 0, cells := 0, slots := 0, locals := 0 } : Room)) (fun argz U => argz = #[(.ref a), (.int fr), (.int to), (.int (6 : Int32))] ∧ Z.Warmed39 U.vm ∧ U.heap = h0) (fun _ _ _ _ _ => True) (fun _ U o U' => ∃ v L, o = .returned v ∧ Q2j6 Z a fr to k vs f h0 n0 v U'.heap L ∧ FrameEnd U o U' L ({ frames := 0, cells := 0, slots := 0, locals := 0 } : Room).cells ({ frames := 0, cells := 0, slots := 0, locals := 0 } : Room).slots) := by
  refine MetFree.of_bodySF (plainFor_of_name pn_com_example_assertgate_assertgate_http_RequestHeadEndPinLaw) hisR ?_
  intro p e s m args below meth c s₁ Bd hml0 hP hK
  obtain ⟨rfl, hZ, hh⟩ := hP
  have hx := Bd.exec
  have hby := Bd.bytes
  have hml : c.maxLocals = 4 := hml0
  have hown : s.vm.findClass "com/example/assertgate/assertgate/http/RequestHeadEndPinLaw" = some m.cls := findClass_of_methodNamed Bd.named
  have hnm := (name_of_methodNamed Bd.named Bd.method).1
  have X0 : Stand p l e ({ frames := 0, cells := 0, slots := 0, locals := 0 } : Room) s m #[(.ref a), (.int fr), (.int to), (.int (6 : Int32))] below meth c s₁ [] 0 0 := Stand.of_body Bd
  have e0 : s₁.heap = h0 := by rw [← hh, Bd.state]; rfl
  have N0 := Fr.nil n0
  have G : Gets p e below (s₁.setTop (entryFrame m #[(.ref a), (.int fr), (.int to), (.int (6 : Int32))] 4)) (s₁.setTop (mkF m 0 #[.val (.ref a), .val (.int fr), .val (.int to), .val (.int (6 : Int32))] [])) := fun t k => castTop (ef_2j6 m a fr to) k
  replace G := own_iloadN (q := 1) G X0.here hx (hb hby d2_0) rfl rfl
  replace G := own_iloadN (q := 2) G X0.here hx (hb hby d2_1) rfl rfl
  by_cases hc2_1 : to < (6 : Int32)
  · replace G := own_icmpYes (q := 12) G X0.here hx (hb hby d2_2) (tlt hc2_1).2.2.1 (by decide) (by decide)
    replace G := own_iconst (q := 13) G X0.here hx (hb hby d2_12) (v := (0 : Int32)) (by decide) rfl
    obtain ⟨fs, hr, hrun, hended, hW, hsame⟩ := X0.leave (v := some (.int (0 : Int32))) (fun h => by rw [Bd.returns] at h; cases h)
    refine ⟨_, _, G _ (retOut X0 hx Bd.returns rfl (Or.inl ⟨rfl, Or.inr (Or.inl rfl), _, rfl⟩) (hb hby d2_13) hr), hrun, hended, _, _, rfl, ?_, ⟨_, rfl⟩, hW, hsame.mono (by decide) (by decide)⟩
    show Q2j6 Z a fr to k vs f h0 n0 _ s₁.heap _
    rw [e0]
    exact ⟨(congrArg (fun z => some (Value.int z)) (by simp [own_ea, hc2_1])), N0, rfl⟩
  · replace G := own_icmpNo (q := 5) G X0.here hx (hb hby d2_2) (flt hc2_1).2.2.1 rfl
    replace G := own_iloadN (q := 6) G X0.here hx (hb hby d2_5) rfl rfl
    replace G := own_iconst (q := 7) G X0.here hx (hb hby d2_6) (v := (2 : Int32)) (by decide) rfl
    replace G := own_isub (q := 8) G X0.here hx (hb hby d2_7) (by decide : ((6 : Int32) - (2 : Int32)) = (4 : Int32)) rfl
    replace G := own_iloadN (q := 9) G X0.here hx (hb hby d2_8) rfl rfl
    by_cases hc9_2 : (4 : Int32) < fr
    · replace G := own_icmpNo (q := 12) G X0.here hx (hb hby d2_9) (tlt hc9_2).2.1 rfl
      replace G := own_iconst (q := 13) G X0.here hx (hb hby d2_12) (v := (0 : Int32)) (by decide) rfl
      obtain ⟨fs, hr, hrun, hended, hW, hsame⟩ := X0.leave (v := some (.int (0 : Int32))) (fun h => by rw [Bd.returns] at h; cases h)
      refine ⟨_, _, G _ (retOut X0 hx Bd.returns rfl (Or.inl ⟨rfl, Or.inr (Or.inl rfl), _, rfl⟩) (hb hby d2_13) hr), hrun, hended, _, _, rfl, ?_, ⟨_, rfl⟩, hW, hsame.mono (by decide) (by decide)⟩
      show Q2j6 Z a fr to k vs f h0 n0 _ s₁.heap _
      rw [e0]
      exact ⟨(congrArg (fun z => some (Value.int z)) (by simp [own_ea, hc2_1, hc9_2])), N0, rfl⟩
    · replace G := own_icmpYes (q := 14) G X0.here hx (hb hby d2_9) (flt hc9_2).2.1 (by decide) (by decide)
      replace G := own_aloadN (q := 15) G X0.here hx (hb hby d2_14) rfl rfl rfl
      replace G := own_iloadN (q := 16) G X0.here hx (hb hby d2_15) rfl rfl
      replace G := own_iconst (q := 17) G X0.here hx (hb hby d2_16) (v := (1 : Int32)) (by decide) rfl
      replace G := own_isub (q := 18) G X0.here hx (hb hby d2_17) (by decide : ((6 : Int32) - (1 : Int32)) = (5 : Int32)) rfl
      obtain ⟨c3, Ar3, -, S3, -, H3, -⟩ := id P0
      have hin3 : ¬ ((5 : Int32) < 0 ∨ c3.slots.size ≤ ((5 : Int32)).toNatClampNeg) := inb_of S3 ⟨by decide, by decide⟩
      replace G : Gets p e below _ (s₁.setTop (mkF m 19 #[.val (.ref a), .val (.int fr), .val (.int to), .val (.int (6 : Int32))] [(.int (f (5 : Int32)))])) := fun t k => G t (X0.baloadBytes hx (j := (5 : Int32)) (v := (.int (f (5 : Int32)))) (by rw [e0]; exact Ar3.1) (State.isArrayOf_alike hZ.alike Ar3.2.1) Ar3.2.2 hin3 (Has.at H3 hin3 (hf (5 : Int32) (by decide) (by decide))) (g := (mkF m 18 #[.val (.ref a), .val (.int fr), .val (.int to), .val (.int (6 : Int32))] [(.int (5 : Int32)), (.ref a)])) rfl rfl (hb hby d2_18) t k)
      replace G := own_bipush (q := 21) G X0.here hx (hb hby d2_19) (v := (10 : Int32)) (by decide) rfl
      by_cases hc21_4 : (f (5 : Int32)) = (10 : Int32)
      · replace G := own_icmpYes (q := 26) G X0.here hx (hb hby d2_21) (teq hc21_4).1 (by decide) (by decide)
        replace G := own_aloadN (q := 27) G X0.here hx (hb hby d2_26) rfl rfl rfl
        replace G := own_iloadN (q := 28) G X0.here hx (hb hby d2_27) rfl rfl
        replace G := own_iconst (q := 29) G X0.here hx (hb hby d2_28) (v := (2 : Int32)) (by decide) rfl
        replace G := own_isub (q := 30) G X0.here hx (hb hby d2_29) (by decide : ((6 : Int32) - (2 : Int32)) = (4 : Int32)) rfl
        obtain ⟨c5, Ar5, -, S5, -, H5, -⟩ := id P0
        have hin5 : ¬ ((4 : Int32) < 0 ∨ c5.slots.size ≤ ((4 : Int32)).toNatClampNeg) := inb_of S5 ⟨by decide, by decide⟩
        replace G : Gets p e below _ (s₁.setTop (mkF m 31 #[.val (.ref a), .val (.int fr), .val (.int to), .val (.int (6 : Int32))] [(.int (f (4 : Int32)))])) := fun t k => G t (X0.baloadBytes hx (j := (4 : Int32)) (v := (.int (f (4 : Int32)))) (by rw [e0]; exact Ar5.1) (State.isArrayOf_alike hZ.alike Ar5.2.1) Ar5.2.2 hin5 (Has.at H5 hin5 (hf (4 : Int32) (by decide) (by decide))) (g := (mkF m 30 #[.val (.ref a), .val (.int fr), .val (.int to), .val (.int (6 : Int32))] [(.int (4 : Int32)), (.ref a)])) rfl rfl (hb hby d2_30) t k)
        replace G := own_bipush (q := 33) G X0.here hx (hb hby d2_31) (v := (10 : Int32)) (by decide) rfl
        by_cases hc33_6 : (f (4 : Int32)) = (10 : Int32)
        · replace G := own_icmpNo (q := 36) G X0.here hx (hb hby d2_33) (teq hc33_6).2 rfl
          replace G := own_iconst (q := 37) G X0.here hx (hb hby d2_36) (v := (1 : Int32)) (by decide) rfl
          obtain ⟨fs, hr, hrun, hended, hW, hsame⟩ := X0.leave (v := some (.int (1 : Int32))) (fun h => by rw [Bd.returns] at h; cases h)
          refine ⟨_, _, G _ (retOut X0 hx Bd.returns rfl (Or.inl ⟨rfl, Or.inr (Or.inl rfl), _, rfl⟩) (hb hby d2_37) hr), hrun, hended, _, _, rfl, ?_, ⟨_, rfl⟩, hW, hsame.mono (by decide) (by decide)⟩
          show Q2j6 Z a fr to k vs f h0 n0 _ s₁.heap _
          rw [e0]
          exact ⟨(congrArg (fun z => some (Value.int z)) (by simp [own_ea, hc2_1, hc9_2, hc21_4, hc33_6])), N0, rfl⟩
        · replace G := own_icmpYes (q := 38) G X0.here hx (hb hby d2_33) (feq hc33_6).2 (by decide) (by decide)
          replace G := own_iloadN (q := 39) G X0.here hx (hb hby d2_38) rfl rfl
          replace G := own_iconst (q := 40) G X0.here hx (hb hby d2_39) (v := (3 : Int32)) (by decide) rfl
          replace G := own_isub (q := 41) G X0.here hx (hb hby d2_40) (by decide : ((6 : Int32) - (3 : Int32)) = (3 : Int32)) rfl
          replace G := own_iloadN (q := 42) G X0.here hx (hb hby d2_41) rfl rfl
          by_cases hc42_7 : (3 : Int32) < fr
          · replace G := own_icmpYes (q := 69) G X0.here hx (hb hby d2_42) (tlt hc42_7).1 (by decide) (by decide)
            replace G := own_iconst (q := 70) G X0.here hx (hb hby d2_69) (v := (0 : Int32)) (by decide) rfl
            obtain ⟨fs, hr, hrun, hended, hW, hsame⟩ := X0.leave (v := some (.int (0 : Int32))) (fun h => by rw [Bd.returns] at h; cases h)
            refine ⟨_, _, G _ (retOut X0 hx Bd.returns rfl (Or.inl ⟨rfl, Or.inr (Or.inl rfl), _, rfl⟩) (hb hby d2_70) hr), hrun, hended, _, _, rfl, ?_, ⟨_, rfl⟩, hW, hsame.mono (by decide) (by decide)⟩
            show Q2j6 Z a fr to k vs f h0 n0 _ s₁.heap _
            rw [e0]
            exact ⟨(congrArg (fun z => some (Value.int z)) (by simp [own_ea, hc2_1, hc9_2, hc21_4, hc33_6, hc42_7])), N0, rfl⟩
          · replace G := own_icmpNo (q := 45) G X0.here hx (hb hby d2_42) (flt hc42_7).1 rfl
            replace G := own_aloadN (q := 46) G X0.here hx (hb hby d2_45) rfl rfl rfl
            replace G := own_iloadN (q := 47) G X0.here hx (hb hby d2_46) rfl rfl
            replace G := own_iconst (q := 48) G X0.here hx (hb hby d2_47) (v := (2 : Int32)) (by decide) rfl
            replace G := own_isub (q := 49) G X0.here hx (hb hby d2_48) (by decide : ((6 : Int32) - (2 : Int32)) = (4 : Int32)) rfl
            obtain ⟨c8, Ar8, -, S8, -, H8, -⟩ := id P0
            have hin8 : ¬ ((4 : Int32) < 0 ∨ c8.slots.size ≤ ((4 : Int32)).toNatClampNeg) := inb_of S8 ⟨by decide, by decide⟩
            replace G : Gets p e below _ (s₁.setTop (mkF m 50 #[.val (.ref a), .val (.int fr), .val (.int to), .val (.int (6 : Int32))] [(.int (f (4 : Int32)))])) := fun t k => G t (X0.baloadBytes hx (j := (4 : Int32)) (v := (.int (f (4 : Int32)))) (by rw [e0]; exact Ar8.1) (State.isArrayOf_alike hZ.alike Ar8.2.1) Ar8.2.2 hin8 (Has.at H8 hin8 (hf (4 : Int32) (by decide) (by decide))) (g := (mkF m 49 #[.val (.ref a), .val (.int fr), .val (.int to), .val (.int (6 : Int32))] [(.int (4 : Int32)), (.ref a)])) rfl rfl (hb hby d2_49) t k)
            replace G := own_bipush (q := 52) G X0.here hx (hb hby d2_50) (v := (13 : Int32)) (by decide) rfl
            by_cases hc52_9 : (f (4 : Int32)) = (13 : Int32)
            · replace G := own_icmpNo (q := 55) G X0.here hx (hb hby d2_52) (teq hc52_9).2 rfl
              replace G := own_aloadN (q := 56) G X0.here hx (hb hby d2_55) rfl rfl rfl
              replace G := own_iloadN (q := 57) G X0.here hx (hb hby d2_56) rfl rfl
              replace G := own_iconst (q := 58) G X0.here hx (hb hby d2_57) (v := (3 : Int32)) (by decide) rfl
              replace G := own_isub (q := 59) G X0.here hx (hb hby d2_58) (by decide : ((6 : Int32) - (3 : Int32)) = (3 : Int32)) rfl
              obtain ⟨c10, Ar10, -, S10, -, H10, -⟩ := id P0
              have hin10 : ¬ ((3 : Int32) < 0 ∨ c10.slots.size ≤ ((3 : Int32)).toNatClampNeg) := inb_of S10 ⟨by decide, by decide⟩
              replace G : Gets p e below _ (s₁.setTop (mkF m 60 #[.val (.ref a), .val (.int fr), .val (.int to), .val (.int (6 : Int32))] [(.int (f (3 : Int32)))])) := fun t k => G t (X0.baloadBytes hx (j := (3 : Int32)) (v := (.int (f (3 : Int32)))) (by rw [e0]; exact Ar10.1) (State.isArrayOf_alike hZ.alike Ar10.2.1) Ar10.2.2 hin10 (Has.at H10 hin10 (hf (3 : Int32) (by decide) (by decide))) (g := (mkF m 59 #[.val (.ref a), .val (.int fr), .val (.int to), .val (.int (6 : Int32))] [(.int (3 : Int32)), (.ref a)])) rfl rfl (hb hby d2_59) t k)
              replace G := own_bipush (q := 62) G X0.here hx (hb hby d2_60) (v := (10 : Int32)) (by decide) rfl
              by_cases hc62_11 : (f (3 : Int32)) = (10 : Int32)
              · replace G := own_icmpNo (q := 65) G X0.here hx (hb hby d2_62) (teq hc62_11).2 rfl
                replace G := own_iconst (q := 66) G X0.here hx (hb hby d2_65) (v := (1 : Int32)) (by decide) rfl
                replace G := own_goto (q := 70) G X0.here hx (hb hby d2_66) (by decide) (by decide)
                obtain ⟨fs, hr, hrun, hended, hW, hsame⟩ := X0.leave (v := some (.int (1 : Int32))) (fun h => by rw [Bd.returns] at h; cases h)
                refine ⟨_, _, G _ (retOut X0 hx Bd.returns rfl (Or.inl ⟨rfl, Or.inr (Or.inl rfl), _, rfl⟩) (hb hby d2_70) hr), hrun, hended, _, _, rfl, ?_, ⟨_, rfl⟩, hW, hsame.mono (by decide) (by decide)⟩
                show Q2j6 Z a fr to k vs f h0 n0 _ s₁.heap _
                rw [e0]
                exact ⟨(congrArg (fun z => some (Value.int z)) (by simp [own_ea, hc2_1, hc9_2, hc21_4, hc33_6, hc42_7, hc52_9, hc62_11])), N0, rfl⟩
              · replace G := own_icmpYes (q := 69) G X0.here hx (hb hby d2_62) (feq hc62_11).2 (by decide) (by decide)
                replace G := own_iconst (q := 70) G X0.here hx (hb hby d2_69) (v := (0 : Int32)) (by decide) rfl
                obtain ⟨fs, hr, hrun, hended, hW, hsame⟩ := X0.leave (v := some (.int (0 : Int32))) (fun h => by rw [Bd.returns] at h; cases h)
                refine ⟨_, _, G _ (retOut X0 hx Bd.returns rfl (Or.inl ⟨rfl, Or.inr (Or.inl rfl), _, rfl⟩) (hb hby d2_70) hr), hrun, hended, _, _, rfl, ?_, ⟨_, rfl⟩, hW, hsame.mono (by decide) (by decide)⟩
                show Q2j6 Z a fr to k vs f h0 n0 _ s₁.heap _
                rw [e0]
                exact ⟨(congrArg (fun z => some (Value.int z)) (by simp [own_ea, hc2_1, hc9_2, hc21_4, hc33_6, hc42_7, hc52_9, hc62_11])), N0, rfl⟩
            · replace G := own_icmpYes (q := 69) G X0.here hx (hb hby d2_52) (feq hc52_9).2 (by decide) (by decide)
              replace G := own_iconst (q := 70) G X0.here hx (hb hby d2_69) (v := (0 : Int32)) (by decide) rfl
              obtain ⟨fs, hr, hrun, hended, hW, hsame⟩ := X0.leave (v := some (.int (0 : Int32))) (fun h => by rw [Bd.returns] at h; cases h)
              refine ⟨_, _, G _ (retOut X0 hx Bd.returns rfl (Or.inl ⟨rfl, Or.inr (Or.inl rfl), _, rfl⟩) (hb hby d2_70) hr), hrun, hended, _, _, rfl, ?_, ⟨_, rfl⟩, hW, hsame.mono (by decide) (by decide)⟩
              show Q2j6 Z a fr to k vs f h0 n0 _ s₁.heap _
              rw [e0]
              exact ⟨(congrArg (fun z => some (Value.int z)) (by simp [own_ea, hc2_1, hc9_2, hc21_4, hc33_6, hc42_7, hc52_9])), N0, rfl⟩
      · replace G := own_icmpNo (q := 24) G X0.here hx (hb hby d2_21) (feq hc21_4).1 rfl
        replace G := own_iconst (q := 25) G X0.here hx (hb hby d2_24) (v := (0 : Int32)) (by decide) rfl
        obtain ⟨fs, hr, hrun, hended, hW, hsame⟩ := X0.leave (v := some (.int (0 : Int32))) (fun h => by rw [Bd.returns] at h; cases h)
        refine ⟨_, _, G _ (retOut X0 hx Bd.returns rfl (Or.inl ⟨rfl, Or.inr (Or.inl rfl), _, rfl⟩) (hb hby d2_25) hr), hrun, hended, _, _, rfl, ?_, ⟨_, rfl⟩, hW, hsame.mono (by decide) (by decide)⟩
        show Q2j6 Z a fr to k vs f h0 n0 _ s₁.heap _
        rw [e0]
        exact ⟨(congrArg (fun z => some (Value.int z)) (by simp [own_ea, hc2_1, hc9_2, hc21_4])), N0, rfl⟩
theorem ef_2j7 (m : MethodId) (x0 : Addr) (x1 : Int32) (x2 : Int32) : entryFrame m #[(.ref x0), (.int x1), (.int x2), (.int (7 : Int32))] 4 = mkF m 0 #[.val (.ref x0), .val (.int x1), .val (.int x2), .val (.int (7 : Int32))] [] := by first | (simp [entryFrame, mkF, argsToLocals, Value.category]; done) | rfl
def Q2j7 (Z : State) (a : Addr) (fr : Int32) (to : Int32) (k : ClassId) (vs : List Value) (f : Int32 → Int32) (h0 : Heap) (n0 : Nat) (v : Option Value) (h : Heap) (L : List Loc) : Prop := v = some (.int (own_ea f fr to (7 : Int32) (6 : Int32) (5 : Int32) (4 : Int32))) ∧ Fr n0 L ∧ h = h0
set_option maxRecDepth 65536 in
set_option maxHeartbeats 40000000 in
theorem rm2j7 (l : Launch) (Z : State) (a0 : Array Value) (hw : ∀ d ∈ tables_1, d.before a0 Z = true) (ws : List Jvm.Cond) (a : Addr) (fr : Int32) (to : Int32) (k : ClassId) (vs : List Value) (f : Int32 → Int32) (h0 : Heap) (n0 : Nat) (Z0 : n0 ≤ h0.size) (P0 : Arv Z h0 a k .byte (7 : Int32) vs (.int (0 : Int32))) (hf : ∀ i : Int32, 0 ≤ i.toInt → i.toInt < 7 → vs.getD i.toNatClampNeg (.int (0 : Int32)) = .int (f i)) (hfr : 0 ≤ fr.toInt ∧ fr.toInt ≤ 7) (hto : 0 ≤ to.toInt ∧ to.toInt ≤ 7) :
    MetFree l (⟨"com/example/assertgate/assertgate/http/RequestHeadEndPinLaw", "endsAt", "([BIII)Z"⟩ : MethodName) (head1 (Jvm.Cond.code (⟨"com/example/assertgate/assertgate/http/RequestHeadEndPinLaw", "endsAt", "([BIII)Z"⟩ : MethodName) method_3_code 4 (some .boolean) :: ws) ({ frames := 0, cells := 0, slots := 0, locals := 0 } : Room)) (fun argz U => argz = #[(.ref a), (.int fr), (.int to), (.int (7 : Int32))] ∧ Z.Warmed39 U.vm ∧ U.heap = h0) (fun _ _ _ _ _ => True) (fun _ U o U' => ∃ v L, o = .returned v ∧ Q2j7 Z a fr to k vs f h0 n0 v U'.heap L ∧ FrameEnd U o U' L ({ frames := 0, cells := 0, slots := 0, locals := 0 } : Room).cells ({ frames := 0, cells := 0, slots := 0, locals := 0 } : Room).slots) := by
  refine MetFree.of_bodySF (plainFor_of_name pn_com_example_assertgate_assertgate_http_RequestHeadEndPinLaw) hisR ?_
  intro p e s m args below meth c s₁ Bd hml0 hP hK
  obtain ⟨rfl, hZ, hh⟩ := hP
  have hx := Bd.exec
  have hby := Bd.bytes
  have hml : c.maxLocals = 4 := hml0
  have hown : s.vm.findClass "com/example/assertgate/assertgate/http/RequestHeadEndPinLaw" = some m.cls := findClass_of_methodNamed Bd.named
  have hnm := (name_of_methodNamed Bd.named Bd.method).1
  have X0 : Stand p l e ({ frames := 0, cells := 0, slots := 0, locals := 0 } : Room) s m #[(.ref a), (.int fr), (.int to), (.int (7 : Int32))] below meth c s₁ [] 0 0 := Stand.of_body Bd
  have e0 : s₁.heap = h0 := by rw [← hh, Bd.state]; rfl
  have N0 := Fr.nil n0
  have G : Gets p e below (s₁.setTop (entryFrame m #[(.ref a), (.int fr), (.int to), (.int (7 : Int32))] 4)) (s₁.setTop (mkF m 0 #[.val (.ref a), .val (.int fr), .val (.int to), .val (.int (7 : Int32))] [])) := fun t k => castTop (ef_2j7 m a fr to) k
  replace G := own_iloadN (q := 1) G X0.here hx (hb hby d2_0) rfl rfl
  replace G := own_iloadN (q := 2) G X0.here hx (hb hby d2_1) rfl rfl
  by_cases hc2_1 : to < (7 : Int32)
  · replace G := own_icmpYes (q := 12) G X0.here hx (hb hby d2_2) (tlt hc2_1).2.2.1 (by decide) (by decide)
    replace G := own_iconst (q := 13) G X0.here hx (hb hby d2_12) (v := (0 : Int32)) (by decide) rfl
    obtain ⟨fs, hr, hrun, hended, hW, hsame⟩ := X0.leave (v := some (.int (0 : Int32))) (fun h => by rw [Bd.returns] at h; cases h)
    refine ⟨_, _, G _ (retOut X0 hx Bd.returns rfl (Or.inl ⟨rfl, Or.inr (Or.inl rfl), _, rfl⟩) (hb hby d2_13) hr), hrun, hended, _, _, rfl, ?_, ⟨_, rfl⟩, hW, hsame.mono (by decide) (by decide)⟩
    show Q2j7 Z a fr to k vs f h0 n0 _ s₁.heap _
    rw [e0]
    exact ⟨(congrArg (fun z => some (Value.int z)) (by simp [own_ea, hc2_1])), N0, rfl⟩
  · replace G := own_icmpNo (q := 5) G X0.here hx (hb hby d2_2) (flt hc2_1).2.2.1 rfl
    replace G := own_iloadN (q := 6) G X0.here hx (hb hby d2_5) rfl rfl
    replace G := own_iconst (q := 7) G X0.here hx (hb hby d2_6) (v := (2 : Int32)) (by decide) rfl
    replace G := own_isub (q := 8) G X0.here hx (hb hby d2_7) (by decide : ((7 : Int32) - (2 : Int32)) = (5 : Int32)) rfl
    replace G := own_iloadN (q := 9) G X0.here hx (hb hby d2_8) rfl rfl
    by_cases hc9_2 : (5 : Int32) < fr
    · replace G := own_icmpNo (q := 12) G X0.here hx (hb hby d2_9) (tlt hc9_2).2.1 rfl
      replace G := own_iconst (q := 13) G X0.here hx (hb hby d2_12) (v := (0 : Int32)) (by decide) rfl
      obtain ⟨fs, hr, hrun, hended, hW, hsame⟩ := X0.leave (v := some (.int (0 : Int32))) (fun h => by rw [Bd.returns] at h; cases h)
      refine ⟨_, _, G _ (retOut X0 hx Bd.returns rfl (Or.inl ⟨rfl, Or.inr (Or.inl rfl), _, rfl⟩) (hb hby d2_13) hr), hrun, hended, _, _, rfl, ?_, ⟨_, rfl⟩, hW, hsame.mono (by decide) (by decide)⟩
      show Q2j7 Z a fr to k vs f h0 n0 _ s₁.heap _
      rw [e0]
      exact ⟨(congrArg (fun z => some (Value.int z)) (by simp [own_ea, hc2_1, hc9_2])), N0, rfl⟩
    · replace G := own_icmpYes (q := 14) G X0.here hx (hb hby d2_9) (flt hc9_2).2.1 (by decide) (by decide)
      replace G := own_aloadN (q := 15) G X0.here hx (hb hby d2_14) rfl rfl rfl
      replace G := own_iloadN (q := 16) G X0.here hx (hb hby d2_15) rfl rfl
      replace G := own_iconst (q := 17) G X0.here hx (hb hby d2_16) (v := (1 : Int32)) (by decide) rfl
      replace G := own_isub (q := 18) G X0.here hx (hb hby d2_17) (by decide : ((7 : Int32) - (1 : Int32)) = (6 : Int32)) rfl
      obtain ⟨c3, Ar3, -, S3, -, H3, -⟩ := id P0
      have hin3 : ¬ ((6 : Int32) < 0 ∨ c3.slots.size ≤ ((6 : Int32)).toNatClampNeg) := inb_of S3 ⟨by decide, by decide⟩
      replace G : Gets p e below _ (s₁.setTop (mkF m 19 #[.val (.ref a), .val (.int fr), .val (.int to), .val (.int (7 : Int32))] [(.int (f (6 : Int32)))])) := fun t k => G t (X0.baloadBytes hx (j := (6 : Int32)) (v := (.int (f (6 : Int32)))) (by rw [e0]; exact Ar3.1) (State.isArrayOf_alike hZ.alike Ar3.2.1) Ar3.2.2 hin3 (Has.at H3 hin3 (hf (6 : Int32) (by decide) (by decide))) (g := (mkF m 18 #[.val (.ref a), .val (.int fr), .val (.int to), .val (.int (7 : Int32))] [(.int (6 : Int32)), (.ref a)])) rfl rfl (hb hby d2_18) t k)
      replace G := own_bipush (q := 21) G X0.here hx (hb hby d2_19) (v := (10 : Int32)) (by decide) rfl
      by_cases hc21_4 : (f (6 : Int32)) = (10 : Int32)
      · replace G := own_icmpYes (q := 26) G X0.here hx (hb hby d2_21) (teq hc21_4).1 (by decide) (by decide)
        replace G := own_aloadN (q := 27) G X0.here hx (hb hby d2_26) rfl rfl rfl
        replace G := own_iloadN (q := 28) G X0.here hx (hb hby d2_27) rfl rfl
        replace G := own_iconst (q := 29) G X0.here hx (hb hby d2_28) (v := (2 : Int32)) (by decide) rfl
        replace G := own_isub (q := 30) G X0.here hx (hb hby d2_29) (by decide : ((7 : Int32) - (2 : Int32)) = (5 : Int32)) rfl
        obtain ⟨c5, Ar5, -, S5, -, H5, -⟩ := id P0
        have hin5 : ¬ ((5 : Int32) < 0 ∨ c5.slots.size ≤ ((5 : Int32)).toNatClampNeg) := inb_of S5 ⟨by decide, by decide⟩
        replace G : Gets p e below _ (s₁.setTop (mkF m 31 #[.val (.ref a), .val (.int fr), .val (.int to), .val (.int (7 : Int32))] [(.int (f (5 : Int32)))])) := fun t k => G t (X0.baloadBytes hx (j := (5 : Int32)) (v := (.int (f (5 : Int32)))) (by rw [e0]; exact Ar5.1) (State.isArrayOf_alike hZ.alike Ar5.2.1) Ar5.2.2 hin5 (Has.at H5 hin5 (hf (5 : Int32) (by decide) (by decide))) (g := (mkF m 30 #[.val (.ref a), .val (.int fr), .val (.int to), .val (.int (7 : Int32))] [(.int (5 : Int32)), (.ref a)])) rfl rfl (hb hby d2_30) t k)
        replace G := own_bipush (q := 33) G X0.here hx (hb hby d2_31) (v := (10 : Int32)) (by decide) rfl
        by_cases hc33_6 : (f (5 : Int32)) = (10 : Int32)
        · replace G := own_icmpNo (q := 36) G X0.here hx (hb hby d2_33) (teq hc33_6).2 rfl
          replace G := own_iconst (q := 37) G X0.here hx (hb hby d2_36) (v := (1 : Int32)) (by decide) rfl
          obtain ⟨fs, hr, hrun, hended, hW, hsame⟩ := X0.leave (v := some (.int (1 : Int32))) (fun h => by rw [Bd.returns] at h; cases h)
          refine ⟨_, _, G _ (retOut X0 hx Bd.returns rfl (Or.inl ⟨rfl, Or.inr (Or.inl rfl), _, rfl⟩) (hb hby d2_37) hr), hrun, hended, _, _, rfl, ?_, ⟨_, rfl⟩, hW, hsame.mono (by decide) (by decide)⟩
          show Q2j7 Z a fr to k vs f h0 n0 _ s₁.heap _
          rw [e0]
          exact ⟨(congrArg (fun z => some (Value.int z)) (by simp [own_ea, hc2_1, hc9_2, hc21_4, hc33_6])), N0, rfl⟩
        · replace G := own_icmpYes (q := 38) G X0.here hx (hb hby d2_33) (feq hc33_6).2 (by decide) (by decide)
          replace G := own_iloadN (q := 39) G X0.here hx (hb hby d2_38) rfl rfl
          replace G := own_iconst (q := 40) G X0.here hx (hb hby d2_39) (v := (3 : Int32)) (by decide) rfl
          replace G := own_isub (q := 41) G X0.here hx (hb hby d2_40) (by decide : ((7 : Int32) - (3 : Int32)) = (4 : Int32)) rfl
          replace G := own_iloadN (q := 42) G X0.here hx (hb hby d2_41) rfl rfl
          by_cases hc42_7 : (4 : Int32) < fr
          · replace G := own_icmpYes (q := 69) G X0.here hx (hb hby d2_42) (tlt hc42_7).1 (by decide) (by decide)
            replace G := own_iconst (q := 70) G X0.here hx (hb hby d2_69) (v := (0 : Int32)) (by decide) rfl
            obtain ⟨fs, hr, hrun, hended, hW, hsame⟩ := X0.leave (v := some (.int (0 : Int32))) (fun h => by rw [Bd.returns] at h; cases h)
            refine ⟨_, _, G _ (retOut X0 hx Bd.returns rfl (Or.inl ⟨rfl, Or.inr (Or.inl rfl), _, rfl⟩) (hb hby d2_70) hr), hrun, hended, _, _, rfl, ?_, ⟨_, rfl⟩, hW, hsame.mono (by decide) (by decide)⟩
            show Q2j7 Z a fr to k vs f h0 n0 _ s₁.heap _
            rw [e0]
            exact ⟨(congrArg (fun z => some (Value.int z)) (by simp [own_ea, hc2_1, hc9_2, hc21_4, hc33_6, hc42_7])), N0, rfl⟩
          · replace G := own_icmpNo (q := 45) G X0.here hx (hb hby d2_42) (flt hc42_7).1 rfl
            replace G := own_aloadN (q := 46) G X0.here hx (hb hby d2_45) rfl rfl rfl
            replace G := own_iloadN (q := 47) G X0.here hx (hb hby d2_46) rfl rfl
            replace G := own_iconst (q := 48) G X0.here hx (hb hby d2_47) (v := (2 : Int32)) (by decide) rfl
            replace G := own_isub (q := 49) G X0.here hx (hb hby d2_48) (by decide : ((7 : Int32) - (2 : Int32)) = (5 : Int32)) rfl
            obtain ⟨c8, Ar8, -, S8, -, H8, -⟩ := id P0
            have hin8 : ¬ ((5 : Int32) < 0 ∨ c8.slots.size ≤ ((5 : Int32)).toNatClampNeg) := inb_of S8 ⟨by decide, by decide⟩
            replace G : Gets p e below _ (s₁.setTop (mkF m 50 #[.val (.ref a), .val (.int fr), .val (.int to), .val (.int (7 : Int32))] [(.int (f (5 : Int32)))])) := fun t k => G t (X0.baloadBytes hx (j := (5 : Int32)) (v := (.int (f (5 : Int32)))) (by rw [e0]; exact Ar8.1) (State.isArrayOf_alike hZ.alike Ar8.2.1) Ar8.2.2 hin8 (Has.at H8 hin8 (hf (5 : Int32) (by decide) (by decide))) (g := (mkF m 49 #[.val (.ref a), .val (.int fr), .val (.int to), .val (.int (7 : Int32))] [(.int (5 : Int32)), (.ref a)])) rfl rfl (hb hby d2_49) t k)
            replace G := own_bipush (q := 52) G X0.here hx (hb hby d2_50) (v := (13 : Int32)) (by decide) rfl
            by_cases hc52_9 : (f (5 : Int32)) = (13 : Int32)
            · replace G := own_icmpNo (q := 55) G X0.here hx (hb hby d2_52) (teq hc52_9).2 rfl
              replace G := own_aloadN (q := 56) G X0.here hx (hb hby d2_55) rfl rfl rfl
              replace G := own_iloadN (q := 57) G X0.here hx (hb hby d2_56) rfl rfl
              replace G := own_iconst (q := 58) G X0.here hx (hb hby d2_57) (v := (3 : Int32)) (by decide) rfl
              replace G := own_isub (q := 59) G X0.here hx (hb hby d2_58) (by decide : ((7 : Int32) - (3 : Int32)) = (4 : Int32)) rfl
              obtain ⟨c10, Ar10, -, S10, -, H10, -⟩ := id P0
              have hin10 : ¬ ((4 : Int32) < 0 ∨ c10.slots.size ≤ ((4 : Int32)).toNatClampNeg) := inb_of S10 ⟨by decide, by decide⟩
              replace G : Gets p e below _ (s₁.setTop (mkF m 60 #[.val (.ref a), .val (.int fr), .val (.int to), .val (.int (7 : Int32))] [(.int (f (4 : Int32)))])) := fun t k => G t (X0.baloadBytes hx (j := (4 : Int32)) (v := (.int (f (4 : Int32)))) (by rw [e0]; exact Ar10.1) (State.isArrayOf_alike hZ.alike Ar10.2.1) Ar10.2.2 hin10 (Has.at H10 hin10 (hf (4 : Int32) (by decide) (by decide))) (g := (mkF m 59 #[.val (.ref a), .val (.int fr), .val (.int to), .val (.int (7 : Int32))] [(.int (4 : Int32)), (.ref a)])) rfl rfl (hb hby d2_59) t k)
              replace G := own_bipush (q := 62) G X0.here hx (hb hby d2_60) (v := (10 : Int32)) (by decide) rfl
              by_cases hc62_11 : (f (4 : Int32)) = (10 : Int32)
              · replace G := own_icmpNo (q := 65) G X0.here hx (hb hby d2_62) (teq hc62_11).2 rfl
                replace G := own_iconst (q := 66) G X0.here hx (hb hby d2_65) (v := (1 : Int32)) (by decide) rfl
                replace G := own_goto (q := 70) G X0.here hx (hb hby d2_66) (by decide) (by decide)
                obtain ⟨fs, hr, hrun, hended, hW, hsame⟩ := X0.leave (v := some (.int (1 : Int32))) (fun h => by rw [Bd.returns] at h; cases h)
                refine ⟨_, _, G _ (retOut X0 hx Bd.returns rfl (Or.inl ⟨rfl, Or.inr (Or.inl rfl), _, rfl⟩) (hb hby d2_70) hr), hrun, hended, _, _, rfl, ?_, ⟨_, rfl⟩, hW, hsame.mono (by decide) (by decide)⟩
                show Q2j7 Z a fr to k vs f h0 n0 _ s₁.heap _
                rw [e0]
                exact ⟨(congrArg (fun z => some (Value.int z)) (by simp [own_ea, hc2_1, hc9_2, hc21_4, hc33_6, hc42_7, hc52_9, hc62_11])), N0, rfl⟩
              · replace G := own_icmpYes (q := 69) G X0.here hx (hb hby d2_62) (feq hc62_11).2 (by decide) (by decide)
                replace G := own_iconst (q := 70) G X0.here hx (hb hby d2_69) (v := (0 : Int32)) (by decide) rfl
                obtain ⟨fs, hr, hrun, hended, hW, hsame⟩ := X0.leave (v := some (.int (0 : Int32))) (fun h => by rw [Bd.returns] at h; cases h)
                refine ⟨_, _, G _ (retOut X0 hx Bd.returns rfl (Or.inl ⟨rfl, Or.inr (Or.inl rfl), _, rfl⟩) (hb hby d2_70) hr), hrun, hended, _, _, rfl, ?_, ⟨_, rfl⟩, hW, hsame.mono (by decide) (by decide)⟩
                show Q2j7 Z a fr to k vs f h0 n0 _ s₁.heap _
                rw [e0]
                exact ⟨(congrArg (fun z => some (Value.int z)) (by simp [own_ea, hc2_1, hc9_2, hc21_4, hc33_6, hc42_7, hc52_9, hc62_11])), N0, rfl⟩
            · replace G := own_icmpYes (q := 69) G X0.here hx (hb hby d2_52) (feq hc52_9).2 (by decide) (by decide)
              replace G := own_iconst (q := 70) G X0.here hx (hb hby d2_69) (v := (0 : Int32)) (by decide) rfl
              obtain ⟨fs, hr, hrun, hended, hW, hsame⟩ := X0.leave (v := some (.int (0 : Int32))) (fun h => by rw [Bd.returns] at h; cases h)
              refine ⟨_, _, G _ (retOut X0 hx Bd.returns rfl (Or.inl ⟨rfl, Or.inr (Or.inl rfl), _, rfl⟩) (hb hby d2_70) hr), hrun, hended, _, _, rfl, ?_, ⟨_, rfl⟩, hW, hsame.mono (by decide) (by decide)⟩
              show Q2j7 Z a fr to k vs f h0 n0 _ s₁.heap _
              rw [e0]
              exact ⟨(congrArg (fun z => some (Value.int z)) (by simp [own_ea, hc2_1, hc9_2, hc21_4, hc33_6, hc42_7, hc52_9])), N0, rfl⟩
      · replace G := own_icmpNo (q := 24) G X0.here hx (hb hby d2_21) (feq hc21_4).1 rfl
        replace G := own_iconst (q := 25) G X0.here hx (hb hby d2_24) (v := (0 : Int32)) (by decide) rfl
        obtain ⟨fs, hr, hrun, hended, hW, hsame⟩ := X0.leave (v := some (.int (0 : Int32))) (fun h => by rw [Bd.returns] at h; cases h)
        refine ⟨_, _, G _ (retOut X0 hx Bd.returns rfl (Or.inl ⟨rfl, Or.inr (Or.inl rfl), _, rfl⟩) (hb hby d2_25) hr), hrun, hended, _, _, rfl, ?_, ⟨_, rfl⟩, hW, hsame.mono (by decide) (by decide)⟩
        show Q2j7 Z a fr to k vs f h0 n0 _ s₁.heap _
        rw [e0]
        exact ⟨(congrArg (fun z => some (Value.int z)) (by simp [own_ea, hc2_1, hc9_2, hc21_4])), N0, rfl⟩
theorem d3_0 : decode prog_4_method_2_code 0 = .ok (.iload_n 1, 1) := by decide +kernel
theorem d3_1 : decode prog_4_method_2_code 1 = .ok (.istore_n 3, 1) := by decide +kernel
theorem d3_2 : decode prog_4_method_2_code 2 = .ok (.iload_n 3, 1) := by decide +kernel
theorem d3_3 : decode prog_4_method_2_code 3 = .ok (.iload_n 2, 1) := by decide +kernel
theorem d3_4 : decode prog_4_method_2_code 4 = .ok (.iconst 1, 1) := by decide +kernel
theorem d3_5 : decode prog_4_method_2_code 5 = .ok (.isub, 1) := by decide +kernel
theorem d3_6 : decode prog_4_method_2_code 6 = .ok (.if_icmp .ge 62, 3) := by decide +kernel
theorem d3_9 : decode prog_4_method_2_code 9 = .ok (.aload_n 0, 1) := by decide +kernel
theorem d3_10 : decode prog_4_method_2_code 10 = .ok (.iload_n 3, 1) := by decide +kernel
theorem d3_11 : decode prog_4_method_2_code 11 = .ok (.baload, 1) := by decide +kernel
theorem d3_12 : decode prog_4_method_2_code 12 = .ok (.bipush 10, 2) := by decide +kernel
theorem d3_14 : decode prog_4_method_2_code 14 = .ok (.if_icmp .ne 48, 3) := by decide +kernel
theorem d3_17 : decode prog_4_method_2_code 17 = .ok (.aload_n 0, 1) := by decide +kernel
theorem d3_18 : decode prog_4_method_2_code 18 = .ok (.iload_n 3, 1) := by decide +kernel
theorem d3_19 : decode prog_4_method_2_code 19 = .ok (.iconst 1, 1) := by decide +kernel
theorem d3_20 : decode prog_4_method_2_code 20 = .ok (.iadd, 1) := by decide +kernel
theorem d3_21 : decode prog_4_method_2_code 21 = .ok (.baload, 1) := by decide +kernel
theorem d3_22 : decode prog_4_method_2_code 22 = .ok (.bipush 10, 2) := by decide +kernel
theorem d3_24 : decode prog_4_method_2_code 24 = .ok (.if_icmp .ne 7, 3) := by decide +kernel
theorem d3_27 : decode prog_4_method_2_code 27 = .ok (.iload_n 3, 1) := by decide +kernel
theorem d3_28 : decode prog_4_method_2_code 28 = .ok (.iconst 2, 1) := by decide +kernel
theorem d3_29 : decode prog_4_method_2_code 29 = .ok (.iadd, 1) := by decide +kernel
theorem d3_30 : decode prog_4_method_2_code 30 = .ok (.ireturn, 1) := by decide +kernel
theorem d3_31 : decode prog_4_method_2_code 31 = .ok (.aload_n 0, 1) := by decide +kernel
theorem d3_32 : decode prog_4_method_2_code 32 = .ok (.iload_n 3, 1) := by decide +kernel
theorem d3_33 : decode prog_4_method_2_code 33 = .ok (.iconst 1, 1) := by decide +kernel
theorem d3_34 : decode prog_4_method_2_code 34 = .ok (.iadd, 1) := by decide +kernel
theorem d3_35 : decode prog_4_method_2_code 35 = .ok (.baload, 1) := by decide +kernel
theorem d3_36 : decode prog_4_method_2_code 36 = .ok (.bipush 13, 2) := by decide +kernel
theorem d3_38 : decode prog_4_method_2_code 38 = .ok (.if_icmp .ne 24, 3) := by decide +kernel
theorem d3_41 : decode prog_4_method_2_code 41 = .ok (.iload_n 3, 1) := by decide +kernel
theorem d3_42 : decode prog_4_method_2_code 42 = .ok (.iconst 2, 1) := by decide +kernel
theorem d3_43 : decode prog_4_method_2_code 43 = .ok (.iadd, 1) := by decide +kernel
theorem d3_44 : decode prog_4_method_2_code 44 = .ok (.iload_n 2, 1) := by decide +kernel
theorem d3_45 : decode prog_4_method_2_code 45 = .ok (.if_icmp .ge 17, 3) := by decide +kernel
theorem d3_48 : decode prog_4_method_2_code 48 = .ok (.aload_n 0, 1) := by decide +kernel
theorem d3_49 : decode prog_4_method_2_code 49 = .ok (.iload_n 3, 1) := by decide +kernel
theorem d3_50 : decode prog_4_method_2_code 50 = .ok (.iconst 2, 1) := by decide +kernel
theorem d3_51 : decode prog_4_method_2_code 51 = .ok (.iadd, 1) := by decide +kernel
theorem d3_52 : decode prog_4_method_2_code 52 = .ok (.baload, 1) := by decide +kernel
theorem d3_53 : decode prog_4_method_2_code 53 = .ok (.bipush 10, 2) := by decide +kernel
theorem d3_55 : decode prog_4_method_2_code 55 = .ok (.if_icmp .ne 7, 3) := by decide +kernel
theorem d3_58 : decode prog_4_method_2_code 58 = .ok (.iload_n 3, 1) := by decide +kernel
theorem d3_59 : decode prog_4_method_2_code 59 = .ok (.iconst 3, 1) := by decide +kernel
theorem d3_60 : decode prog_4_method_2_code 60 = .ok (.iadd, 1) := by decide +kernel
theorem d3_61 : decode prog_4_method_2_code 61 = .ok (.ireturn, 1) := by decide +kernel
theorem d3_62 : decode prog_4_method_2_code 62 = .ok (.iinc 3 1, 3) := by decide +kernel
theorem d3_65 : decode prog_4_method_2_code 65 = .ok (.goto (-63), 3) := by decide +kernel
theorem d3_68 : decode prog_4_method_2_code 68 = .ok (.iconst (-1), 1) := by decide +kernel
theorem d3_69 : decode prog_4_method_2_code 69 = .ok (.ireturn, 1) := by decide +kernel
theorem pn_com_example_assertgate_assertgate_http_Request : plainName "com/example/assertgate/assertgate/http/Request" = true := by first | (simp [plainName, overriddenIn]; done) | decide +kernel
theorem ef_3 (m : MethodId) (x0 : Addr) (x1 : Int32) (x2 : Int32) : entryFrame m #[(.ref x0), (.int x1), (.int x2)] 4 = mkF m 0 #[.val (.ref x0), .val (.int x1), .val (.int x2), .unset] [] := by first | (simp [entryFrame, mkF, argsToLocals, Value.category]; done) | rfl
def Q3 (Z : State) (a : Addr) (fr : Int32) (to : Int32) (k : ClassId) (vs : List Value) (f : Int32 → Int32) (h0 : Heap) (n0 : Nat) (v : Option Value) (h : Heap) (L : List Loc) : Prop := v = some (.int (own_he f to 7 fr)) ∧ Fr n0 L ∧ h = h0
set_option maxRecDepth 65536 in
set_option maxHeartbeats 40000000 in
theorem rm3 (l : Launch) (Z : State) (a0 : Array Value) (hw : ∀ d ∈ tables_1, d.before a0 Z = true) (ws : List Jvm.Cond) (a : Addr) (fr : Int32) (to : Int32) (k : ClassId) (vs : List Value) (f : Int32 → Int32) (h0 : Heap) (n0 : Nat) (Z0 : n0 ≤ h0.size) (P0 : Arv Z h0 a k .byte (7 : Int32) vs (.int (0 : Int32))) (hf : ∀ i : Int32, 0 ≤ i.toInt → i.toInt < 7 → vs.getD i.toNatClampNeg (.int (0 : Int32)) = .int (f i)) (hfr : 0 ≤ fr.toInt ∧ fr.toInt ≤ 7) (hto : 0 ≤ to.toInt ∧ to.toInt ≤ 7) :
    MetFree l (⟨"com/example/assertgate/assertgate/http/Request", "headEnd", "([BII)I"⟩ : MethodName) (head1 (Jvm.Cond.code (⟨"com/example/assertgate/assertgate/http/Request", "headEnd", "([BII)I"⟩ : MethodName) prog_4_method_2_code 4 (some .int) :: ws) ({ frames := 0, cells := 0, slots := 0, locals := 0 } : Room)) (fun argz U => argz = #[(.ref a), (.int fr), (.int to)] ∧ Z.Warmed39 U.vm ∧ U.heap = h0) (fun _ _ _ _ _ => True) (fun _ U o U' => ∃ v L, o = .returned v ∧ Q3 Z a fr to k vs f h0 n0 v U'.heap L ∧ FrameEnd U o U' L ({ frames := 0, cells := 0, slots := 0, locals := 0 } : Room).cells ({ frames := 0, cells := 0, slots := 0, locals := 0 } : Room).slots) := by
  refine MetFree.of_bodySF (plainFor_of_name pn_com_example_assertgate_assertgate_http_Request) hisR ?_
  intro p e s m args below meth c s₁ Bd hml0 hP hK
  obtain ⟨rfl, hZ, hh⟩ := hP
  have hx := Bd.exec
  have hby := Bd.bytes
  have hml : c.maxLocals = 4 := hml0
  have hown : s.vm.findClass "com/example/assertgate/assertgate/http/Request" = some m.cls := findClass_of_methodNamed Bd.named
  have hnm := (name_of_methodNamed Bd.named Bd.method).1
  have X0 : Stand p l e ({ frames := 0, cells := 0, slots := 0, locals := 0 } : Room) s m #[(.ref a), (.int fr), (.int to)] below meth c s₁ [] 0 0 := Stand.of_body Bd
  have e0 : s₁.heap = h0 := by rw [← hh, Bd.state]; rfl
  have N0 := Fr.nil n0
  have G : Gets p e below (s₁.setTop (entryFrame m #[(.ref a), (.int fr), (.int to)] 4)) (s₁.setTop (mkF m 0 #[.val (.ref a), .val (.int fr), .val (.int to), .unset] [])) := fun t k => castTop (ef_3 m a fr to) k
  replace G := own_iloadN (q := 1) G X0.here hx (hb hby d3_0) rfl rfl
  replace G := own_istoreN (q := 2) (l' := #[.val (.ref a), .val (.int fr), .val (.int to), .val (.int fr)]) G X0.here hx (hb hby d3_1) rfl rfl
  obtain ⟨i, hi⟩ : ∃ i : Int32, fr = i := ⟨_, rfl⟩
  have hi2 : 0 ≤ i.toInt ∧ i.toInt ≤ 7 := by rw [← hi]; exact hfr
  obtain ⟨d, hd⟩ : ∃ d : Nat, d = 7 := ⟨_, rfl⟩
  have hres : own_he f to d i = own_he f to 7 fr := by rw [hd, ← hi]
  have hle : to.toInt - 1 - i.toInt ≤ d := by rw [hd]; omega
  replace G : Gets p e below (s₁.setTop (entryFrame m #[(.ref a), (.int fr), (.int to)] 4)) (s₁.setTop (mkF m 2 #[.val (.ref a), .val (.int fr), .val (.int to), .val (.int i)] [])) := by rw [← hi]; exact G
  clear hd hi
  induction d generalizing i
  · replace G := own_iloadN (q := 3) G X0.here hx (hb hby d3_2) rfl rfl
    replace G := own_iloadN (q := 4) G X0.here hx (hb hby d3_3) rfl rfl
    replace G := own_iconst (q := 5) G X0.here hx (hb hby d3_4) (v := (1 : Int32)) (by decide) rfl
    obtain ⟨tm, hn_tm⟩ : ∃ z : Int32, (to - (1 : Int32)) = z := ⟨_, rfl⟩
    replace G := own_isub (q := 6) G X0.here hx (hb hby d3_5) hn_tm rfl
    have htm : tm.toInt = to.toInt - 1 := by rw [← hn_tm]; exact own_s1 hto.1 hto.2
    have hc6_1 : ¬ (i < tm) := by rw [own_lt32]; omega
    replace G := own_icmpYes (q := 68) G X0.here hx (hb hby d3_6) (flt hc6_1).2.1 (by decide) (by decide)
    replace G := own_iconst (q := 69) G X0.here hx (hb hby d3_68) (v := (-1 : Int32)) (by decide) rfl
    obtain ⟨fs, hr, hrun, hended, hW, hsame⟩ := X0.leave (v := some (.int (-1 : Int32))) (fun h => by rw [Bd.returns] at h; cases h)
    refine ⟨_, _, G _ (retOut X0 hx Bd.returns rfl (Or.inl ⟨rfl, Or.inl rfl, _, rfl⟩) (hb hby d3_69) hr), hrun, hended, _, _, rfl, ?_, ⟨_, rfl⟩, hW, hsame.mono (by decide) (by decide)⟩
    show Q3 Z a fr to k vs f h0 n0 _ s₁.heap _
    rw [e0]
    exact ⟨(congrArg (fun z => some (Value.int z)) (by rw [← hres]; rfl)), N0, rfl⟩
  · rename_i d ih
    replace G := own_iloadN (q := 3) G X0.here hx (hb hby d3_2) rfl rfl
    replace G := own_iloadN (q := 4) G X0.here hx (hb hby d3_3) rfl rfl
    replace G := own_iconst (q := 5) G X0.here hx (hb hby d3_4) (v := (1 : Int32)) (by decide) rfl
    obtain ⟨tm, hn_tm⟩ : ∃ z : Int32, (to - (1 : Int32)) = z := ⟨_, rfl⟩
    replace G := own_isub (q := 6) G X0.here hx (hb hby d3_5) hn_tm rfl
    have htm : tm.toInt = to.toInt - 1 := by rw [← hn_tm]; exact own_s1 hto.1 hto.2
    by_cases hc6_2 : i < tm
    · replace G := own_icmpNo (q := 9) G X0.here hx (hb hby d3_6) (tlt hc6_2).2.1 rfl
      have k0 : i.toInt < 6 := by have := hc6_2; rw [own_lt32] at this; omega
      have p1 := own_p1 hi2.1 hi2.2
      have p2 := own_p2 hi2.1 hi2.2
      replace G := own_aloadN (q := 10) G X0.here hx (hb hby d3_9) rfl rfl rfl
      replace G := own_iloadN (q := 11) G X0.here hx (hb hby d3_10) rfl rfl
      obtain ⟨c3, Ar3, -, S3, -, H3, -⟩ := id P0
      have hin3 : ¬ (i < 0 ∨ c3.slots.size ≤ (i).toNatClampNeg) := inb_of S3 ⟨own_nlt (by omega), own_lt7 (by omega)⟩
      replace G : Gets p e below _ (s₁.setTop (mkF m 12 #[.val (.ref a), .val (.int fr), .val (.int to), .val (.int i)] [(.int (f i))])) := fun t k => G t (X0.baloadBytes hx (j := i) (v := (.int (f i))) (by rw [e0]; exact Ar3.1) (State.isArrayOf_alike hZ.alike Ar3.2.1) Ar3.2.2 hin3 (Has.at H3 hin3 (hf i (by omega) (by omega))) (g := (mkF m 11 #[.val (.ref a), .val (.int fr), .val (.int to), .val (.int i)] [(.int i), (.ref a)])) rfl rfl (hb hby d3_11) t k)
      replace G := own_bipush (q := 14) G X0.here hx (hb hby d3_12) (v := (10 : Int32)) (by decide) rfl
      by_cases hc14_4 : (f i) = (10 : Int32)
      · replace G := own_icmpNo (q := 17) G X0.here hx (hb hby d3_14) (teq hc14_4).2 rfl
        replace G := own_aloadN (q := 18) G X0.here hx (hb hby d3_17) rfl rfl rfl
        replace G := own_iloadN (q := 19) G X0.here hx (hb hby d3_18) rfl rfl
        replace G := own_iconst (q := 20) G X0.here hx (hb hby d3_19) (v := (1 : Int32)) (by decide) rfl
        replace G := own_iadd (q := 21) G X0.here hx (hb hby d3_20) rfl rfl
        obtain ⟨c5, Ar5, -, S5, -, H5, -⟩ := id P0
        have hin5 : ¬ ((i + (1 : Int32)) < 0 ∨ c5.slots.size ≤ ((i + (1 : Int32))).toNatClampNeg) := inb_of S5 ⟨own_nlt (by omega), own_lt7 (by omega)⟩
        replace G : Gets p e below _ (s₁.setTop (mkF m 22 #[.val (.ref a), .val (.int fr), .val (.int to), .val (.int i)] [(.int (f (i + (1 : Int32))))])) := fun t k => G t (X0.baloadBytes hx (j := (i + (1 : Int32))) (v := (.int (f (i + (1 : Int32))))) (by rw [e0]; exact Ar5.1) (State.isArrayOf_alike hZ.alike Ar5.2.1) Ar5.2.2 hin5 (Has.at H5 hin5 (hf (i + (1 : Int32)) (by omega) (by omega))) (g := (mkF m 21 #[.val (.ref a), .val (.int fr), .val (.int to), .val (.int i)] [(.int (i + (1 : Int32))), (.ref a)])) rfl rfl (hb hby d3_21) t k)
        replace G := own_bipush (q := 24) G X0.here hx (hb hby d3_22) (v := (10 : Int32)) (by decide) rfl
        by_cases hc24_6 : (f (i + (1 : Int32))) = (10 : Int32)
        · replace G := own_icmpNo (q := 27) G X0.here hx (hb hby d3_24) (teq hc24_6).2 rfl
          replace G := own_iloadN (q := 28) G X0.here hx (hb hby d3_27) rfl rfl
          replace G := own_iconst (q := 29) G X0.here hx (hb hby d3_28) (v := (2 : Int32)) (by decide) rfl
          replace G := own_iadd (q := 30) G X0.here hx (hb hby d3_29) rfl rfl
          obtain ⟨fs, hr, hrun, hended, hW, hsame⟩ := X0.leave (v := some (.int (i + (2 : Int32)))) (fun h => by rw [Bd.returns] at h; cases h)
          refine ⟨_, _, G _ (retOut X0 hx Bd.returns rfl (Or.inl ⟨rfl, Or.inl rfl, _, rfl⟩) (hb hby d3_30) hr), hrun, hended, _, _, rfl, ?_, ⟨_, rfl⟩, hW, hsame.mono (by decide) (by decide)⟩
          show Q3 Z a fr to k vs f h0 n0 _ s₁.heap _
          rw [e0]
          exact ⟨(congrArg (fun z => some (Value.int z)) (by rw [← hres]; simp [own_he, hn_tm, hc6_2, hc14_4, hc24_6])), N0, rfl⟩
        · replace G := own_icmpYes (q := 31) G X0.here hx (hb hby d3_24) (feq hc24_6).2 (by decide) (by decide)
          replace G := own_aloadN (q := 32) G X0.here hx (hb hby d3_31) rfl rfl rfl
          replace G := own_iloadN (q := 33) G X0.here hx (hb hby d3_32) rfl rfl
          replace G := own_iconst (q := 34) G X0.here hx (hb hby d3_33) (v := (1 : Int32)) (by decide) rfl
          replace G := own_iadd (q := 35) G X0.here hx (hb hby d3_34) rfl rfl
          obtain ⟨c7, Ar7, -, S7, -, H7, -⟩ := id P0
          have hin7 : ¬ ((i + (1 : Int32)) < 0 ∨ c7.slots.size ≤ ((i + (1 : Int32))).toNatClampNeg) := inb_of S7 ⟨own_nlt (by omega), own_lt7 (by omega)⟩
          replace G : Gets p e below _ (s₁.setTop (mkF m 36 #[.val (.ref a), .val (.int fr), .val (.int to), .val (.int i)] [(.int (f (i + (1 : Int32))))])) := fun t k => G t (X0.baloadBytes hx (j := (i + (1 : Int32))) (v := (.int (f (i + (1 : Int32))))) (by rw [e0]; exact Ar7.1) (State.isArrayOf_alike hZ.alike Ar7.2.1) Ar7.2.2 hin7 (Has.at H7 hin7 (hf (i + (1 : Int32)) (by omega) (by omega))) (g := (mkF m 35 #[.val (.ref a), .val (.int fr), .val (.int to), .val (.int i)] [(.int (i + (1 : Int32))), (.ref a)])) rfl rfl (hb hby d3_35) t k)
          replace G := own_bipush (q := 38) G X0.here hx (hb hby d3_36) (v := (13 : Int32)) (by decide) rfl
          by_cases hc38_8 : (f (i + (1 : Int32))) = (13 : Int32)
          · replace G := own_icmpNo (q := 41) G X0.here hx (hb hby d3_38) (teq hc38_8).2 rfl
            replace G := own_iloadN (q := 42) G X0.here hx (hb hby d3_41) rfl rfl
            replace G := own_iconst (q := 43) G X0.here hx (hb hby d3_42) (v := (2 : Int32)) (by decide) rfl
            replace G := own_iadd (q := 44) G X0.here hx (hb hby d3_43) rfl rfl
            replace G := own_iloadN (q := 45) G X0.here hx (hb hby d3_44) rfl rfl
            by_cases hc45_9 : (i + (2 : Int32)) < to
            · replace G := own_icmpNo (q := 48) G X0.here hx (hb hby d3_45) (tlt hc45_9).2.1 rfl
              replace G := own_aloadN (q := 49) G X0.here hx (hb hby d3_48) rfl rfl rfl
              replace G := own_iloadN (q := 50) G X0.here hx (hb hby d3_49) rfl rfl
              replace G := own_iconst (q := 51) G X0.here hx (hb hby d3_50) (v := (2 : Int32)) (by decide) rfl
              replace G := own_iadd (q := 52) G X0.here hx (hb hby d3_51) rfl rfl
              have k2 := hc45_9
              rw [own_lt32, p2] at k2
              obtain ⟨c10, Ar10, -, S10, -, H10, -⟩ := id P0
              have hin10 : ¬ ((i + (2 : Int32)) < 0 ∨ c10.slots.size ≤ ((i + (2 : Int32))).toNatClampNeg) := inb_of S10 ⟨own_nlt (by omega), own_lt7 (by omega)⟩
              replace G : Gets p e below _ (s₁.setTop (mkF m 53 #[.val (.ref a), .val (.int fr), .val (.int to), .val (.int i)] [(.int (f (i + (2 : Int32))))])) := fun t k => G t (X0.baloadBytes hx (j := (i + (2 : Int32))) (v := (.int (f (i + (2 : Int32))))) (by rw [e0]; exact Ar10.1) (State.isArrayOf_alike hZ.alike Ar10.2.1) Ar10.2.2 hin10 (Has.at H10 hin10 (hf (i + (2 : Int32)) (by omega) (by omega))) (g := (mkF m 52 #[.val (.ref a), .val (.int fr), .val (.int to), .val (.int i)] [(.int (i + (2 : Int32))), (.ref a)])) rfl rfl (hb hby d3_52) t k)
              replace G := own_bipush (q := 55) G X0.here hx (hb hby d3_53) (v := (10 : Int32)) (by decide) rfl
              by_cases hc55_11 : (f (i + (2 : Int32))) = (10 : Int32)
              · replace G := own_icmpNo (q := 58) G X0.here hx (hb hby d3_55) (teq hc55_11).2 rfl
                replace G := own_iloadN (q := 59) G X0.here hx (hb hby d3_58) rfl rfl
                replace G := own_iconst (q := 60) G X0.here hx (hb hby d3_59) (v := (3 : Int32)) (by decide) rfl
                replace G := own_iadd (q := 61) G X0.here hx (hb hby d3_60) rfl rfl
                obtain ⟨fs, hr, hrun, hended, hW, hsame⟩ := X0.leave (v := some (.int (i + (3 : Int32)))) (fun h => by rw [Bd.returns] at h; cases h)
                refine ⟨_, _, G _ (retOut X0 hx Bd.returns rfl (Or.inl ⟨rfl, Or.inl rfl, _, rfl⟩) (hb hby d3_61) hr), hrun, hended, _, _, rfl, ?_, ⟨_, rfl⟩, hW, hsame.mono (by decide) (by decide)⟩
                show Q3 Z a fr to k vs f h0 n0 _ s₁.heap _
                rw [e0]
                exact ⟨(congrArg (fun z => some (Value.int z)) (by rw [← hres]; simp [own_he, hn_tm, hc6_2, hc14_4, hc24_6, hc38_8, hc45_9, hc55_11])), N0, rfl⟩
              · replace G := own_icmpYes (q := 62) G X0.here hx (hb hby d3_55) (feq hc55_11).2 (by decide) (by decide)
                replace G := own_iinc (q := 65) (l' := #[.val (.ref a), .val (.int fr), .val (.int to), .val (.int (i + (1 : Int32)))]) (w := (1 : Int32)) G X0.here hx (hb hby d3_62) (by decide) rfl rfl rfl rfl
                replace G := own_goto (q := 2) G X0.here hx (hb hby d3_65) (by decide) (by decide)
                exact ih (i + 1) (by rw [p1]; omega) (by rw [← hres]; simp [own_he, hn_tm, hc6_2, hc14_4, hc24_6, hc38_8, hc45_9, hc55_11]) (by rw [p1]; omega) G
            · replace G := own_icmpYes (q := 62) G X0.here hx (hb hby d3_45) (flt hc45_9).2.1 (by decide) (by decide)
              replace G := own_iinc (q := 65) (l' := #[.val (.ref a), .val (.int fr), .val (.int to), .val (.int (i + (1 : Int32)))]) (w := (1 : Int32)) G X0.here hx (hb hby d3_62) (by decide) rfl rfl rfl rfl
              replace G := own_goto (q := 2) G X0.here hx (hb hby d3_65) (by decide) (by decide)
              exact ih (i + 1) (by rw [p1]; omega) (by rw [← hres]; simp [own_he, hn_tm, hc6_2, hc14_4, hc24_6, hc38_8, hc45_9]) (by rw [p1]; omega) G
          · replace G := own_icmpYes (q := 62) G X0.here hx (hb hby d3_38) (feq hc38_8).2 (by decide) (by decide)
            replace G := own_iinc (q := 65) (l' := #[.val (.ref a), .val (.int fr), .val (.int to), .val (.int (i + (1 : Int32)))]) (w := (1 : Int32)) G X0.here hx (hb hby d3_62) (by decide) rfl rfl rfl rfl
            replace G := own_goto (q := 2) G X0.here hx (hb hby d3_65) (by decide) (by decide)
            exact ih (i + 1) (by rw [p1]; omega) (by rw [← hres]; simp [own_he, hn_tm, hc6_2, hc14_4, hc24_6, hc38_8]) (by rw [p1]; omega) G
      · replace G := own_icmpYes (q := 62) G X0.here hx (hb hby d3_14) (feq hc14_4).2 (by decide) (by decide)
        replace G := own_iinc (q := 65) (l' := #[.val (.ref a), .val (.int fr), .val (.int to), .val (.int (i + (1 : Int32)))]) (w := (1 : Int32)) G X0.here hx (hb hby d3_62) (by decide) rfl rfl rfl rfl
        replace G := own_goto (q := 2) G X0.here hx (hb hby d3_65) (by decide) (by decide)
        exact ih (i + 1) (by rw [p1]; omega) (by rw [← hres]; simp [own_he, hn_tm, hc6_2, hc14_4]) (by rw [p1]; omega) G
    · replace G := own_icmpYes (q := 68) G X0.here hx (hb hby d3_6) (flt hc6_2).2.1 (by decide) (by decide)
      replace G := own_iconst (q := 69) G X0.here hx (hb hby d3_68) (v := (-1 : Int32)) (by decide) rfl
      obtain ⟨fs, hr, hrun, hended, hW, hsame⟩ := X0.leave (v := some (.int (-1 : Int32))) (fun h => by rw [Bd.returns] at h; cases h)
      refine ⟨_, _, G _ (retOut X0 hx Bd.returns rfl (Or.inl ⟨rfl, Or.inl rfl, _, rfl⟩) (hb hby d3_69) hr), hrun, hended, _, _, rfl, ?_, ⟨_, rfl⟩, hW, hsame.mono (by decide) (by decide)⟩
      show Q3 Z a fr to k vs f h0 n0 _ s₁.heap _
      rw [e0]
      exact ⟨(congrArg (fun z => some (Value.int z)) (by rw [← hres]; simp [own_he, hn_tm, hc6_2])), N0, rfl⟩
theorem pd_0 : parseMethodDescriptor "(II)B" = some ⟨[.int, .int], some .byte⟩ := by decide +kernel
theorem pd_1 : parseMethodDescriptor "([BIII)Z" = some ⟨[(.array .byte), .int, .int, .int], some .boolean⟩ := by decide +kernel
theorem pd_2 : parseMethodDescriptor "([BII)I" = some ⟨[(.array .byte), .int, .int], some .int⟩ := by decide +kernel
theorem ef_0 (m : MethodId) (x0 : Int32) (x1 : Int32) (x2 : Int32) (x3 : Int32) : entryFrame m #[(.int x0), (.int x1), (.int x2), (.int x3)] maxLocals = mkF m 0 #[.val (.int x0), .val (.int x1), .val (.int x2), .val (.int x3), .unset, .unset, .unset, .unset] [] := by first | (simp [entryFrame, mkF, argsToLocals, Value.category, maxLocals]; done) | rfl
def Q0 (Z : State) (i0 : Int32) (i1 : Int32) (i2 : Int32) (i3 : Int32) (h0 : Heap) (n0 : Nat) (v : Option Value) (h : Heap) (L : List Loc) : Prop := v = some (.int (1 : Int32)) ∧ Fr n0 L
set_option maxRecDepth 65536 in
set_option maxHeartbeats 40000000 in
theorem rm0 (l : Launch) (Z : State) (a0 : Array Value) (hw : ∀ d ∈ tables_1, d.before a0 Z = true) (ws : List Jvm.Cond) (i0 : Int32) (i1 : Int32) (i2 : Int32) (i3 : Int32) (h0 : Heap) (n0 : Nat) (Z0 : n0 ≤ h0.size)  :
    MetFree l x (head1 (Jvm.Cond.code x code maxLocals ret :: ws) room_1) (fun argz U => argz = #[(.int i0), (.int i1), (.int i2), (.int i3)] ∧ Z.Warmed39 U.vm ∧ U.heap = h0) (fun _ _ _ _ _ => True) (fun _ U o U' => ∃ v L, o = .returned v ∧ Q0 Z i0 i1 i2 i3 h0 n0 v U'.heap L ∧ FrameEnd U o U' L room_1.cells room_1.slots) := by
  refine MetFree.of_bodySF (plainFor_of_name pn_com_example_assertgate_assertgate_http_RequestHeadEndPinLaw) hisR ?_
  intro p e s m args below meth c s₁ Bd hml0 hP hK
  obtain ⟨rfl, hZ, hh⟩ := hP
  have hx := Bd.exec
  have hby := Bd.bytes
  have hml : c.maxLocals = 8 := hml0
  have hown : s.vm.findClass "com/example/assertgate/assertgate/http/RequestHeadEndPinLaw" = some m.cls := findClass_of_methodNamed Bd.named
  have hnm := (name_of_methodNamed Bd.named Bd.method).1
  have X0 : Stand p l e room_1 s m #[(.int i0), (.int i1), (.int i2), (.int i3)] below meth c s₁ [] 0 0 := Stand.of_body Bd
  have e0 : s₁.heap = h0 := by rw [← hh, Bd.state]; rfl
  have N0 := Fr.nil n0
  have G : Gets p e below (s₁.setTop (entryFrame m #[(.int i0), (.int i1), (.int i2), (.int i3)] maxLocals)) (s₁.setTop (mkF m 0 #[.val (.int i0), .val (.int i1), .val (.int i2), .val (.int i3), .unset, .unset, .unset, .unset] [])) := fun t k => castTop (ef_0 m i0 i1 i2 i3) k
  replace G := own_bipush (q := 2) G X0.here hx (hb hby at_0) (v := (7 : Int32)) (by decide) rfl
  obtain ⟨T1, h1, k1, X1, e1, E1, A1, st1⟩ := newP X0 hx hZ (hw _ (List.mem_of_getElem? (i := 0) rfl)) e0 (g := (mkF m 2 #[.val (.int i0), .val (.int i1), .val (.int i2), .val (.int i3), .unset, .unset, .unset, .unset] [(.int (7 : Int32))])) rfl (hb hby at_2) rfl (by decide) (cap := 7) (by decide) (by decide) (by decide) (by decide)
  obtain ⟨b1, g1⟩ : ∃ z, z = h0.size := ⟨_, rfl⟩
  rw [← g1] at A1 st1
  have ge_b1 : n0 ≤ b1 := Nat.le_trans Z0 (Nat.le_of_eq g1.symm)
  have Z1 : n0 ≤ h1.size := Nat.le_trans Z0 E1.1
  have V1 : Arv Z h1 b1 k1 .byte (7 : Int32) [(.int (0 : Int32)), (.int (0 : Int32)), (.int (0 : Int32)), (.int (0 : Int32)), (.int (0 : Int32)), (.int (0 : Int32)), (.int (0 : Int32))] (.int (0 : Int32)) := (Arv.new A1 (by decide)).pad (pad_rep [] (.int (0 : Int32)) 7)
  replace G : Gets p e below _ (T1.setTop (mkF m 4 #[.val (.int i0), .val (.int i1), .val (.int i2), .val (.int i3), .unset, .unset, .unset, .unset] [(.ref b1)])) := fun t k => G t (st1 t k)
  replace G := own_astore (q := 6) (l' := #[.val (.int i0), .val (.int i1), .val (.int i2), .val (.int i3), .val (.ref b1), .unset, .unset, .unset]) G X1.here hx (hb hby at_4) rfl rfl rfl
  replace G := own_aload (q := 8) G X1.here hx (hb hby at_6) rfl rfl rfl
  replace G := own_iconst (q := 9) G X1.here hx (hb hby at_8) (v := (0 : Int32)) (by decide) rfl
  replace G := own_iloadN (q := 10) G X1.here hx (hb hby at_9) rfl rfl
  replace G := own_iloadN (q := 11) G X1.here hx (hb hby at_10) rfl rfl
  obtain ⟨_, _, ⟨T2, L2, kk2, nn2⟩, -, X2, ⟨Lc2, hQ2, l2, y2, z2⟩, st2⟩ := Jvm.LawKit.callS X1 hx (y := (⟨"com/example/assertgate/assertgate/http/RequestHeadEndPinLaw", "pick", "(II)B"⟩ : MethodName)) hown (mvT hZ (hw _ (List.mem_of_getElem? (i := 1) rfl))) (mvT hZ (hw _ (List.mem_of_getElem? (i := 2) rfl))) (mvT hZ (hw _ (List.mem_of_getElem? (i := 3) rfl))) (mvT hZ (hw _ (List.mem_of_getElem? (i := 4) rfl))) (by decide) (backOf (W := 2) (rm1 l Z a0 hw [] i0 i1 h1 n0 Z1 ) hZ (hw _ (List.mem_of_getElem? (i := 4) rfl)) (hw _ (List.mem_of_getElem? (i := 3) rfl)) (by decide) (by decide)) (g := (mkF m 11 #[.val (.int i0), .val (.int i1), .val (.int i2), .val (.int i3), .val (.ref b1), .unset, .unset, .unset] [(.int i1), (.int i0), (.int (0 : Int32)), (.ref b1)])) rfl (by rw [hml]; rfl) (argsL := [(.int i0), (.int i1)]) (rest := [(.int (0 : Int32)), (.ref b1)]) (lenOf pd_0 rfl) rfl (by show 2 * 0 + _ ≤ _; exact Nat.le_of_eq rfl) (hb hby at_11) (fun _ _ => ⟨rfl, e1, (by decide : 1 + 0 ≤ _), (by decide : 7 + 0 ≤ _)⟩)
  dsimp only [Pt.U, Pt.locs, Pt.cells, Pt.slots] at X2 l2 y2 z2 st2 hQ2
  subst l2 y2 z2
  obtain ⟨r_2, rfl, N2q, e2⟩ := hQ2
  have N2 := Fr.app N0 N2q
  replace G : Gets p e below _ (T2.setTop (mkF m 14 #[.val (.int i0), .val (.int i1), .val (.int i2), .val (.int i3), .val (.ref b1), .unset, .unset, .unset] [(.int r_2), (.int (0 : Int32)), (.ref b1)])) := fun t k => G t (st2 t k)
  obtain ⟨c3, Ar3, q3, S3, N3', H3, G3'⟩ := id V1
  have hin3 : ¬ ((0 : Int32) < 0 ∨ c3.slots.size ≤ ((0 : Int32)).toNatClampNeg) := inb_of S3 ⟨by decide, by decide⟩
  obtain ⟨T3, h3, X3, e3, W3, st3⟩ := stB X2 hx hZ e2 Ar3 (j := (0 : Int32)) hin3 (g := (mkF m 14 #[.val (.int i0), .val (.int i1), .val (.int i2), .val (.int i3), .val (.ref b1), .unset, .unset, .unset] [(.int r_2), (.int (0 : Int32)), (.ref b1)])) rfl rfl (hb hby at_14)
  have N3 := Fr.snoc X3 N2 ge_b1
  have Z3 : n0 ≤ h3.size := Nat.le_trans Z1 (Keep.of_wr W3).1
  have V3 : Arv Z h3 b1 k1 .byte (7 : Int32) [(.int (nar .byte r_2)), (.int (0 : Int32)), (.int (0 : Int32)), (.int (0 : Int32)), (.int (0 : Int32)), (.int (0 : Int32)), (.int (0 : Int32))] (.int (0 : Int32)) := Arv.set Ar3 q3 S3 N3' H3 G3' (fits_nar_byte _) W3 0 rfl (Nat.le_of_ble_eq_true rfl)
  replace G : Gets p e below _ (T3.setTop (mkF m 15 #[.val (.int i0), .val (.int i1), .val (.int i2), .val (.int i3), .val (.ref b1), .unset, .unset, .unset] [])) := fun t k => G t (st3 t k)
  replace G := own_aload (q := 17) G X3.here hx (hb hby at_15) rfl rfl rfl
  replace G := own_iconst (q := 18) G X3.here hx (hb hby at_17) (v := (1 : Int32)) (by decide) rfl
  replace G := own_iloadN (q := 19) G X3.here hx (hb hby at_18) rfl rfl
  replace G := own_iconst (q := 20) G X3.here hx (hb hby at_19) (v := (2 : Int32)) (by decide) rfl
  replace G := own_ishr (q := 21) G X3.here hx (hb hby at_20) rfl rfl
  replace G := own_iloadN (q := 22) G X3.here hx (hb hby at_21) rfl rfl
  obtain ⟨_, _, ⟨T4, L4, kk4, nn4⟩, -, X4, ⟨Lc4, hQ4, l4, y4, z4⟩, st4⟩ := Jvm.LawKit.callS X3 hx (y := (⟨"com/example/assertgate/assertgate/http/RequestHeadEndPinLaw", "pick", "(II)B"⟩ : MethodName)) hown (mvT hZ (hw _ (List.mem_of_getElem? (i := 1) rfl))) (mvT hZ (hw _ (List.mem_of_getElem? (i := 2) rfl))) (mvT hZ (hw _ (List.mem_of_getElem? (i := 3) rfl))) (mvT hZ (hw _ (List.mem_of_getElem? (i := 4) rfl))) (by decide) (backOf (W := 2) (rm1 l Z a0 hw [] (i0 >>> ((2 : Int32) &&& 31)) i1 h3 n0 Z3 ) hZ (hw _ (List.mem_of_getElem? (i := 4) rfl)) (hw _ (List.mem_of_getElem? (i := 3) rfl)) (by decide) (by decide)) (g := (mkF m 22 #[.val (.int i0), .val (.int i1), .val (.int i2), .val (.int i3), .val (.ref b1), .unset, .unset, .unset] [(.int i1), (.int (i0 >>> ((2 : Int32) &&& 31))), (.int (1 : Int32)), (.ref b1)])) rfl (by rw [hml]; rfl) (argsL := [(.int (i0 >>> ((2 : Int32) &&& 31))), (.int i1)]) (rest := [(.int (1 : Int32)), (.ref b1)]) (lenOf pd_0 rfl) rfl (by show 2 * 0 + _ ≤ _; exact Nat.le_of_eq rfl) (hb hby at_22) (fun _ _ => ⟨rfl, e3, (by decide : 1 + 0 ≤ _), (by decide : 7 + 0 ≤ _)⟩)
  dsimp only [Pt.U, Pt.locs, Pt.cells, Pt.slots] at X4 l4 y4 z4 st4 hQ4
  subst l4 y4 z4
  obtain ⟨r_4, rfl, N4q, e4⟩ := hQ4
  have N4 := Fr.app N3 N4q
  replace G : Gets p e below _ (T4.setTop (mkF m 25 #[.val (.int i0), .val (.int i1), .val (.int i2), .val (.int i3), .val (.ref b1), .unset, .unset, .unset] [(.int r_4), (.int (1 : Int32)), (.ref b1)])) := fun t k => G t (st4 t k)
  obtain ⟨c5, Ar5, q5, S5, N5', H5, G5'⟩ := id V3
  have hin5 : ¬ ((1 : Int32) < 0 ∨ c5.slots.size ≤ ((1 : Int32)).toNatClampNeg) := inb_of S5 ⟨by decide, by decide⟩
  obtain ⟨T5, h5, X5, e5, W5, st5⟩ := stB X4 hx hZ e4 Ar5 (j := (1 : Int32)) hin5 (g := (mkF m 25 #[.val (.int i0), .val (.int i1), .val (.int i2), .val (.int i3), .val (.ref b1), .unset, .unset, .unset] [(.int r_4), (.int (1 : Int32)), (.ref b1)])) rfl rfl (hb hby at_25)
  have N5 := Fr.snoc X5 N4 ge_b1
  have Z5 : n0 ≤ h5.size := Nat.le_trans Z3 (Keep.of_wr W5).1
  have V5 : Arv Z h5 b1 k1 .byte (7 : Int32) [(.int (nar .byte r_2)), (.int (nar .byte r_4)), (.int (0 : Int32)), (.int (0 : Int32)), (.int (0 : Int32)), (.int (0 : Int32)), (.int (0 : Int32))] (.int (0 : Int32)) := Arv.set Ar5 q5 S5 N5' H5 G5' (fits_nar_byte _) W5 1 rfl (Nat.le_of_ble_eq_true rfl)
  replace G : Gets p e below _ (T5.setTop (mkF m 26 #[.val (.int i0), .val (.int i1), .val (.int i2), .val (.int i3), .val (.ref b1), .unset, .unset, .unset] [])) := fun t k => G t (st5 t k)
  replace G := own_aload (q := 28) G X5.here hx (hb hby at_26) rfl rfl rfl
  replace G := own_iconst (q := 29) G X5.here hx (hb hby at_28) (v := (2 : Int32)) (by decide) rfl
  replace G := own_iloadN (q := 30) G X5.here hx (hb hby at_29) rfl rfl
  replace G := own_iconst (q := 31) G X5.here hx (hb hby at_30) (v := (4 : Int32)) (by decide) rfl
  replace G := own_ishr (q := 32) G X5.here hx (hb hby at_31) rfl rfl
  replace G := own_iloadN (q := 33) G X5.here hx (hb hby at_32) rfl rfl
  obtain ⟨_, _, ⟨T6, L6, kk6, nn6⟩, -, X6, ⟨Lc6, hQ6, l6, y6, z6⟩, st6⟩ := Jvm.LawKit.callS X5 hx (y := (⟨"com/example/assertgate/assertgate/http/RequestHeadEndPinLaw", "pick", "(II)B"⟩ : MethodName)) hown (mvT hZ (hw _ (List.mem_of_getElem? (i := 1) rfl))) (mvT hZ (hw _ (List.mem_of_getElem? (i := 2) rfl))) (mvT hZ (hw _ (List.mem_of_getElem? (i := 3) rfl))) (mvT hZ (hw _ (List.mem_of_getElem? (i := 4) rfl))) (by decide) (backOf (W := 2) (rm1 l Z a0 hw [] (i0 >>> ((4 : Int32) &&& 31)) i1 h5 n0 Z5 ) hZ (hw _ (List.mem_of_getElem? (i := 4) rfl)) (hw _ (List.mem_of_getElem? (i := 3) rfl)) (by decide) (by decide)) (g := (mkF m 33 #[.val (.int i0), .val (.int i1), .val (.int i2), .val (.int i3), .val (.ref b1), .unset, .unset, .unset] [(.int i1), (.int (i0 >>> ((4 : Int32) &&& 31))), (.int (2 : Int32)), (.ref b1)])) rfl (by rw [hml]; rfl) (argsL := [(.int (i0 >>> ((4 : Int32) &&& 31))), (.int i1)]) (rest := [(.int (2 : Int32)), (.ref b1)]) (lenOf pd_0 rfl) rfl (by show 2 * 0 + _ ≤ _; exact Nat.le_of_eq rfl) (hb hby at_33) (fun _ _ => ⟨rfl, e5, (by decide : 1 + 0 ≤ _), (by decide : 7 + 0 ≤ _)⟩)
  dsimp only [Pt.U, Pt.locs, Pt.cells, Pt.slots] at X6 l6 y6 z6 st6 hQ6
  subst l6 y6 z6
  obtain ⟨r_6, rfl, N6q, e6⟩ := hQ6
  have N6 := Fr.app N5 N6q
  replace G : Gets p e below _ (T6.setTop (mkF m 36 #[.val (.int i0), .val (.int i1), .val (.int i2), .val (.int i3), .val (.ref b1), .unset, .unset, .unset] [(.int r_6), (.int (2 : Int32)), (.ref b1)])) := fun t k => G t (st6 t k)
  obtain ⟨c7, Ar7, q7, S7, N7', H7, G7'⟩ := id V5
  have hin7 : ¬ ((2 : Int32) < 0 ∨ c7.slots.size ≤ ((2 : Int32)).toNatClampNeg) := inb_of S7 ⟨by decide, by decide⟩
  obtain ⟨T7, h7, X7, e7, W7, st7⟩ := stB X6 hx hZ e6 Ar7 (j := (2 : Int32)) hin7 (g := (mkF m 36 #[.val (.int i0), .val (.int i1), .val (.int i2), .val (.int i3), .val (.ref b1), .unset, .unset, .unset] [(.int r_6), (.int (2 : Int32)), (.ref b1)])) rfl rfl (hb hby at_36)
  have N7 := Fr.snoc X7 N6 ge_b1
  have Z7 : n0 ≤ h7.size := Nat.le_trans Z5 (Keep.of_wr W7).1
  have V7 : Arv Z h7 b1 k1 .byte (7 : Int32) [(.int (nar .byte r_2)), (.int (nar .byte r_4)), (.int (nar .byte r_6)), (.int (0 : Int32)), (.int (0 : Int32)), (.int (0 : Int32)), (.int (0 : Int32))] (.int (0 : Int32)) := Arv.set Ar7 q7 S7 N7' H7 G7' (fits_nar_byte _) W7 2 rfl (Nat.le_of_ble_eq_true rfl)
  replace G : Gets p e below _ (T7.setTop (mkF m 37 #[.val (.int i0), .val (.int i1), .val (.int i2), .val (.int i3), .val (.ref b1), .unset, .unset, .unset] [])) := fun t k => G t (st7 t k)
  replace G := own_aload (q := 39) G X7.here hx (hb hby at_37) rfl rfl rfl
  replace G := own_iconst (q := 40) G X7.here hx (hb hby at_39) (v := (3 : Int32)) (by decide) rfl
  replace G := own_iloadN (q := 41) G X7.here hx (hb hby at_40) rfl rfl
  replace G := own_bipush (q := 43) G X7.here hx (hb hby at_41) (v := (6 : Int32)) (by decide) rfl
  replace G := own_ishr (q := 44) G X7.here hx (hb hby at_43) rfl rfl
  replace G := own_iloadN (q := 45) G X7.here hx (hb hby at_44) rfl rfl
  obtain ⟨_, _, ⟨T8, L8, kk8, nn8⟩, -, X8, ⟨Lc8, hQ8, l8, y8, z8⟩, st8⟩ := Jvm.LawKit.callS X7 hx (y := (⟨"com/example/assertgate/assertgate/http/RequestHeadEndPinLaw", "pick", "(II)B"⟩ : MethodName)) hown (mvT hZ (hw _ (List.mem_of_getElem? (i := 1) rfl))) (mvT hZ (hw _ (List.mem_of_getElem? (i := 2) rfl))) (mvT hZ (hw _ (List.mem_of_getElem? (i := 3) rfl))) (mvT hZ (hw _ (List.mem_of_getElem? (i := 4) rfl))) (by decide) (backOf (W := 2) (rm1 l Z a0 hw [] (i0 >>> ((6 : Int32) &&& 31)) i1 h7 n0 Z7 ) hZ (hw _ (List.mem_of_getElem? (i := 4) rfl)) (hw _ (List.mem_of_getElem? (i := 3) rfl)) (by decide) (by decide)) (g := (mkF m 45 #[.val (.int i0), .val (.int i1), .val (.int i2), .val (.int i3), .val (.ref b1), .unset, .unset, .unset] [(.int i1), (.int (i0 >>> ((6 : Int32) &&& 31))), (.int (3 : Int32)), (.ref b1)])) rfl (by rw [hml]; rfl) (argsL := [(.int (i0 >>> ((6 : Int32) &&& 31))), (.int i1)]) (rest := [(.int (3 : Int32)), (.ref b1)]) (lenOf pd_0 rfl) rfl (by show 2 * 0 + _ ≤ _; exact Nat.le_of_eq rfl) (hb hby at_45) (fun _ _ => ⟨rfl, e7, (by decide : 1 + 0 ≤ _), (by decide : 7 + 0 ≤ _)⟩)
  dsimp only [Pt.U, Pt.locs, Pt.cells, Pt.slots] at X8 l8 y8 z8 st8 hQ8
  subst l8 y8 z8
  obtain ⟨r_8, rfl, N8q, e8⟩ := hQ8
  have N8 := Fr.app N7 N8q
  replace G : Gets p e below _ (T8.setTop (mkF m 48 #[.val (.int i0), .val (.int i1), .val (.int i2), .val (.int i3), .val (.ref b1), .unset, .unset, .unset] [(.int r_8), (.int (3 : Int32)), (.ref b1)])) := fun t k => G t (st8 t k)
  obtain ⟨c9, Ar9, q9, S9, N9', H9, G9'⟩ := id V7
  have hin9 : ¬ ((3 : Int32) < 0 ∨ c9.slots.size ≤ ((3 : Int32)).toNatClampNeg) := inb_of S9 ⟨by decide, by decide⟩
  obtain ⟨T9, h9, X9, e9, W9, st9⟩ := stB X8 hx hZ e8 Ar9 (j := (3 : Int32)) hin9 (g := (mkF m 48 #[.val (.int i0), .val (.int i1), .val (.int i2), .val (.int i3), .val (.ref b1), .unset, .unset, .unset] [(.int r_8), (.int (3 : Int32)), (.ref b1)])) rfl rfl (hb hby at_48)
  have N9 := Fr.snoc X9 N8 ge_b1
  have Z9 : n0 ≤ h9.size := Nat.le_trans Z7 (Keep.of_wr W9).1
  have V9 : Arv Z h9 b1 k1 .byte (7 : Int32) [(.int (nar .byte r_2)), (.int (nar .byte r_4)), (.int (nar .byte r_6)), (.int (nar .byte r_8)), (.int (0 : Int32)), (.int (0 : Int32)), (.int (0 : Int32))] (.int (0 : Int32)) := Arv.set Ar9 q9 S9 N9' H9 G9' (fits_nar_byte _) W9 3 rfl (Nat.le_of_ble_eq_true rfl)
  replace G : Gets p e below _ (T9.setTop (mkF m 49 #[.val (.int i0), .val (.int i1), .val (.int i2), .val (.int i3), .val (.ref b1), .unset, .unset, .unset] [])) := fun t k => G t (st9 t k)
  replace G := own_aload (q := 51) G X9.here hx (hb hby at_49) rfl rfl rfl
  replace G := own_iconst (q := 52) G X9.here hx (hb hby at_51) (v := (4 : Int32)) (by decide) rfl
  replace G := own_iloadN (q := 53) G X9.here hx (hb hby at_52) rfl rfl
  replace G := own_bipush (q := 55) G X9.here hx (hb hby at_53) (v := (8 : Int32)) (by decide) rfl
  replace G := own_ishr (q := 56) G X9.here hx (hb hby at_55) rfl rfl
  replace G := own_iloadN (q := 57) G X9.here hx (hb hby at_56) rfl rfl
  obtain ⟨_, _, ⟨T10, L10, kk10, nn10⟩, -, X10, ⟨Lc10, hQ10, l10, y10, z10⟩, st10⟩ := Jvm.LawKit.callS X9 hx (y := (⟨"com/example/assertgate/assertgate/http/RequestHeadEndPinLaw", "pick", "(II)B"⟩ : MethodName)) hown (mvT hZ (hw _ (List.mem_of_getElem? (i := 1) rfl))) (mvT hZ (hw _ (List.mem_of_getElem? (i := 2) rfl))) (mvT hZ (hw _ (List.mem_of_getElem? (i := 3) rfl))) (mvT hZ (hw _ (List.mem_of_getElem? (i := 4) rfl))) (by decide) (backOf (W := 2) (rm1 l Z a0 hw [] (i0 >>> ((8 : Int32) &&& 31)) i1 h9 n0 Z9 ) hZ (hw _ (List.mem_of_getElem? (i := 4) rfl)) (hw _ (List.mem_of_getElem? (i := 3) rfl)) (by decide) (by decide)) (g := (mkF m 57 #[.val (.int i0), .val (.int i1), .val (.int i2), .val (.int i3), .val (.ref b1), .unset, .unset, .unset] [(.int i1), (.int (i0 >>> ((8 : Int32) &&& 31))), (.int (4 : Int32)), (.ref b1)])) rfl (by rw [hml]; rfl) (argsL := [(.int (i0 >>> ((8 : Int32) &&& 31))), (.int i1)]) (rest := [(.int (4 : Int32)), (.ref b1)]) (lenOf pd_0 rfl) rfl (by show 2 * 0 + _ ≤ _; exact Nat.le_of_eq rfl) (hb hby at_57) (fun _ _ => ⟨rfl, e9, (by decide : 1 + 0 ≤ _), (by decide : 7 + 0 ≤ _)⟩)
  dsimp only [Pt.U, Pt.locs, Pt.cells, Pt.slots] at X10 l10 y10 z10 st10 hQ10
  subst l10 y10 z10
  obtain ⟨r_10, rfl, N10q, e10⟩ := hQ10
  have N10 := Fr.app N9 N10q
  replace G : Gets p e below _ (T10.setTop (mkF m 60 #[.val (.int i0), .val (.int i1), .val (.int i2), .val (.int i3), .val (.ref b1), .unset, .unset, .unset] [(.int r_10), (.int (4 : Int32)), (.ref b1)])) := fun t k => G t (st10 t k)
  obtain ⟨c11, Ar11, q11, S11, N11', H11, G11'⟩ := id V9
  have hin11 : ¬ ((4 : Int32) < 0 ∨ c11.slots.size ≤ ((4 : Int32)).toNatClampNeg) := inb_of S11 ⟨by decide, by decide⟩
  obtain ⟨T11, h11, X11, e11, W11, st11⟩ := stB X10 hx hZ e10 Ar11 (j := (4 : Int32)) hin11 (g := (mkF m 60 #[.val (.int i0), .val (.int i1), .val (.int i2), .val (.int i3), .val (.ref b1), .unset, .unset, .unset] [(.int r_10), (.int (4 : Int32)), (.ref b1)])) rfl rfl (hb hby at_60)
  have N11 := Fr.snoc X11 N10 ge_b1
  have Z11 : n0 ≤ h11.size := Nat.le_trans Z9 (Keep.of_wr W11).1
  have V11 : Arv Z h11 b1 k1 .byte (7 : Int32) [(.int (nar .byte r_2)), (.int (nar .byte r_4)), (.int (nar .byte r_6)), (.int (nar .byte r_8)), (.int (nar .byte r_10)), (.int (0 : Int32)), (.int (0 : Int32))] (.int (0 : Int32)) := Arv.set Ar11 q11 S11 N11' H11 G11' (fits_nar_byte _) W11 4 rfl (Nat.le_of_ble_eq_true rfl)
  replace G : Gets p e below _ (T11.setTop (mkF m 61 #[.val (.int i0), .val (.int i1), .val (.int i2), .val (.int i3), .val (.ref b1), .unset, .unset, .unset] [])) := fun t k => G t (st11 t k)
  replace G := own_aload (q := 63) G X11.here hx (hb hby at_61) rfl rfl rfl
  replace G := own_iconst (q := 64) G X11.here hx (hb hby at_63) (v := (5 : Int32)) (by decide) rfl
  replace G := own_iloadN (q := 65) G X11.here hx (hb hby at_64) rfl rfl
  replace G := own_bipush (q := 67) G X11.here hx (hb hby at_65) (v := (10 : Int32)) (by decide) rfl
  replace G := own_ishr (q := 68) G X11.here hx (hb hby at_67) rfl rfl
  replace G := own_iloadN (q := 69) G X11.here hx (hb hby at_68) rfl rfl
  obtain ⟨_, _, ⟨T12, L12, kk12, nn12⟩, -, X12, ⟨Lc12, hQ12, l12, y12, z12⟩, st12⟩ := Jvm.LawKit.callS X11 hx (y := (⟨"com/example/assertgate/assertgate/http/RequestHeadEndPinLaw", "pick", "(II)B"⟩ : MethodName)) hown (mvT hZ (hw _ (List.mem_of_getElem? (i := 1) rfl))) (mvT hZ (hw _ (List.mem_of_getElem? (i := 2) rfl))) (mvT hZ (hw _ (List.mem_of_getElem? (i := 3) rfl))) (mvT hZ (hw _ (List.mem_of_getElem? (i := 4) rfl))) (by decide) (backOf (W := 2) (rm1 l Z a0 hw [] (i0 >>> ((10 : Int32) &&& 31)) i1 h11 n0 Z11 ) hZ (hw _ (List.mem_of_getElem? (i := 4) rfl)) (hw _ (List.mem_of_getElem? (i := 3) rfl)) (by decide) (by decide)) (g := (mkF m 69 #[.val (.int i0), .val (.int i1), .val (.int i2), .val (.int i3), .val (.ref b1), .unset, .unset, .unset] [(.int i1), (.int (i0 >>> ((10 : Int32) &&& 31))), (.int (5 : Int32)), (.ref b1)])) rfl (by rw [hml]; rfl) (argsL := [(.int (i0 >>> ((10 : Int32) &&& 31))), (.int i1)]) (rest := [(.int (5 : Int32)), (.ref b1)]) (lenOf pd_0 rfl) rfl (by show 2 * 0 + _ ≤ _; exact Nat.le_of_eq rfl) (hb hby at_69) (fun _ _ => ⟨rfl, e11, (by decide : 1 + 0 ≤ _), (by decide : 7 + 0 ≤ _)⟩)
  dsimp only [Pt.U, Pt.locs, Pt.cells, Pt.slots] at X12 l12 y12 z12 st12 hQ12
  subst l12 y12 z12
  obtain ⟨r_12, rfl, N12q, e12⟩ := hQ12
  have N12 := Fr.app N11 N12q
  replace G : Gets p e below _ (T12.setTop (mkF m 72 #[.val (.int i0), .val (.int i1), .val (.int i2), .val (.int i3), .val (.ref b1), .unset, .unset, .unset] [(.int r_12), (.int (5 : Int32)), (.ref b1)])) := fun t k => G t (st12 t k)
  obtain ⟨c13, Ar13, q13, S13, N13', H13, G13'⟩ := id V11
  have hin13 : ¬ ((5 : Int32) < 0 ∨ c13.slots.size ≤ ((5 : Int32)).toNatClampNeg) := inb_of S13 ⟨by decide, by decide⟩
  obtain ⟨T13, h13, X13, e13, W13, st13⟩ := stB X12 hx hZ e12 Ar13 (j := (5 : Int32)) hin13 (g := (mkF m 72 #[.val (.int i0), .val (.int i1), .val (.int i2), .val (.int i3), .val (.ref b1), .unset, .unset, .unset] [(.int r_12), (.int (5 : Int32)), (.ref b1)])) rfl rfl (hb hby at_72)
  have N13 := Fr.snoc X13 N12 ge_b1
  have Z13 : n0 ≤ h13.size := Nat.le_trans Z11 (Keep.of_wr W13).1
  have V13 : Arv Z h13 b1 k1 .byte (7 : Int32) [(.int (nar .byte r_2)), (.int (nar .byte r_4)), (.int (nar .byte r_6)), (.int (nar .byte r_8)), (.int (nar .byte r_10)), (.int (nar .byte r_12)), (.int (0 : Int32))] (.int (0 : Int32)) := Arv.set Ar13 q13 S13 N13' H13 G13' (fits_nar_byte _) W13 5 rfl (Nat.le_of_ble_eq_true rfl)
  replace G : Gets p e below _ (T13.setTop (mkF m 73 #[.val (.int i0), .val (.int i1), .val (.int i2), .val (.int i3), .val (.ref b1), .unset, .unset, .unset] [])) := fun t k => G t (st13 t k)
  replace G := own_aload (q := 75) G X13.here hx (hb hby at_73) rfl rfl rfl
  replace G := own_bipush (q := 77) G X13.here hx (hb hby at_75) (v := (6 : Int32)) (by decide) rfl
  replace G := own_iloadN (q := 78) G X13.here hx (hb hby at_77) rfl rfl
  replace G := own_bipush (q := 80) G X13.here hx (hb hby at_78) (v := (12 : Int32)) (by decide) rfl
  replace G := own_ishr (q := 81) G X13.here hx (hb hby at_80) rfl rfl
  replace G := own_iloadN (q := 82) G X13.here hx (hb hby at_81) rfl rfl
  obtain ⟨_, _, ⟨T14, L14, kk14, nn14⟩, -, X14, ⟨Lc14, hQ14, l14, y14, z14⟩, st14⟩ := Jvm.LawKit.callS X13 hx (y := (⟨"com/example/assertgate/assertgate/http/RequestHeadEndPinLaw", "pick", "(II)B"⟩ : MethodName)) hown (mvT hZ (hw _ (List.mem_of_getElem? (i := 1) rfl))) (mvT hZ (hw _ (List.mem_of_getElem? (i := 2) rfl))) (mvT hZ (hw _ (List.mem_of_getElem? (i := 3) rfl))) (mvT hZ (hw _ (List.mem_of_getElem? (i := 4) rfl))) (by decide) (backOf (W := 2) (rm1 l Z a0 hw [] (i0 >>> ((12 : Int32) &&& 31)) i1 h13 n0 Z13 ) hZ (hw _ (List.mem_of_getElem? (i := 4) rfl)) (hw _ (List.mem_of_getElem? (i := 3) rfl)) (by decide) (by decide)) (g := (mkF m 82 #[.val (.int i0), .val (.int i1), .val (.int i2), .val (.int i3), .val (.ref b1), .unset, .unset, .unset] [(.int i1), (.int (i0 >>> ((12 : Int32) &&& 31))), (.int (6 : Int32)), (.ref b1)])) rfl (by rw [hml]; rfl) (argsL := [(.int (i0 >>> ((12 : Int32) &&& 31))), (.int i1)]) (rest := [(.int (6 : Int32)), (.ref b1)]) (lenOf pd_0 rfl) rfl (by show 2 * 0 + _ ≤ _; exact Nat.le_of_eq rfl) (hb hby at_82) (fun _ _ => ⟨rfl, e13, (by decide : 1 + 0 ≤ _), (by decide : 7 + 0 ≤ _)⟩)
  dsimp only [Pt.U, Pt.locs, Pt.cells, Pt.slots] at X14 l14 y14 z14 st14 hQ14
  subst l14 y14 z14
  obtain ⟨r_14, rfl, N14q, e14⟩ := hQ14
  have N14 := Fr.app N13 N14q
  replace G : Gets p e below _ (T14.setTop (mkF m 85 #[.val (.int i0), .val (.int i1), .val (.int i2), .val (.int i3), .val (.ref b1), .unset, .unset, .unset] [(.int r_14), (.int (6 : Int32)), (.ref b1)])) := fun t k => G t (st14 t k)
  obtain ⟨c15, Ar15, q15, S15, N15', H15, G15'⟩ := id V13
  have hin15 : ¬ ((6 : Int32) < 0 ∨ c15.slots.size ≤ ((6 : Int32)).toNatClampNeg) := inb_of S15 ⟨by decide, by decide⟩
  obtain ⟨T15, h15, X15, e15, W15, st15⟩ := stB X14 hx hZ e14 Ar15 (j := (6 : Int32)) hin15 (g := (mkF m 85 #[.val (.int i0), .val (.int i1), .val (.int i2), .val (.int i3), .val (.ref b1), .unset, .unset, .unset] [(.int r_14), (.int (6 : Int32)), (.ref b1)])) rfl rfl (hb hby at_85)
  have N15 := Fr.snoc X15 N14 ge_b1
  have Z15 : n0 ≤ h15.size := Nat.le_trans Z13 (Keep.of_wr W15).1
  have V15 : Arv Z h15 b1 k1 .byte (7 : Int32) [(.int (nar .byte r_2)), (.int (nar .byte r_4)), (.int (nar .byte r_6)), (.int (nar .byte r_8)), (.int (nar .byte r_10)), (.int (nar .byte r_12)), (.int (nar .byte r_14))] (.int (0 : Int32)) := Arv.set Ar15 q15 S15 N15' H15 G15' (fits_nar_byte _) W15 6 rfl (Nat.le_of_ble_eq_true rfl)
  replace G : Gets p e below _ (T15.setTop (mkF m 86 #[.val (.int i0), .val (.int i1), .val (.int i2), .val (.int i3), .val (.ref b1), .unset, .unset, .unset] [])) := fun t k => G t (st15 t k)
  replace G := own_iloadN (q := 87) G X15.here hx (hb hby at_86) rfl rfl
  replace G : Gets p e below _ (T15.setTop (mkF m 89 #[.val (.int i0), .val (.int i1), .val (.int i2), .val (.int i3), .val (.ref b1), .unset, .unset, .unset] [(.int (2147483647 : Int32)), (.int i2)])) := fun t k => G t (X15.ldcInt hx hown (mvT hZ (hw _ (List.mem_of_getElem? (i := 5) rfl))) (g := (mkF m 87 #[.val (.int i0), .val (.int i1), .val (.int i2), .val (.int i3), .val (.ref b1), .unset, .unset, .unset] [(.int i2)])) rfl (hb hby at_87) t k)
  obtain ⟨uf, hn_uf⟩ : ∃ z : Int32, (i2 &&& (2147483647 : Int32)) = z := ⟨_, rfl⟩
  replace G := own_iand (q := 90) G X15.here hx (hb hby at_89) hn_uf rfl
  replace G := own_bipush (q := 92) G X15.here hx (hb hby at_90) (v := (8 : Int32)) (by decide) rfl
  obtain ⟨fr, hn_fr⟩ : ∃ z : Int32, (uf % (8 : Int32)) = z := ⟨_, rfl⟩
  replace G := own_irem (q := 93) G X15.here hx (hb hby at_92) (by decide) hn_fr rfl
  replace G := own_istore (q := 95) (l' := #[.val (.int i0), .val (.int i1), .val (.int i2), .val (.int i3), .val (.ref b1), .val (.int fr), .unset, .unset]) G X15.here hx (hb hby at_93) rfl rfl
  replace G := own_iloadN (q := 96) G X15.here hx (hb hby at_95) rfl rfl
  replace G : Gets p e below _ (T15.setTop (mkF m 98 #[.val (.int i0), .val (.int i1), .val (.int i2), .val (.int i3), .val (.ref b1), .val (.int fr), .unset, .unset] [(.int (2147483647 : Int32)), (.int i3)])) := fun t k => G t (X15.ldcInt hx hown (mvT hZ (hw _ (List.mem_of_getElem? (i := 5) rfl))) (g := (mkF m 96 #[.val (.int i0), .val (.int i1), .val (.int i2), .val (.int i3), .val (.ref b1), .val (.int fr), .unset, .unset] [(.int i3)])) rfl (hb hby at_96) t k)
  obtain ⟨ut, hn_ut⟩ : ∃ z : Int32, (i3 &&& (2147483647 : Int32)) = z := ⟨_, rfl⟩
  replace G := own_iand (q := 99) G X15.here hx (hb hby at_98) hn_ut rfl
  replace G := own_bipush (q := 101) G X15.here hx (hb hby at_99) (v := (8 : Int32)) (by decide) rfl
  obtain ⟨to, hn_to⟩ : ∃ z : Int32, (ut % (8 : Int32)) = z := ⟨_, rfl⟩
  replace G := own_irem (q := 102) G X15.here hx (hb hby at_101) (by decide) hn_to rfl
  replace G := own_istore (q := 104) (l' := #[.val (.int i0), .val (.int i1), .val (.int i2), .val (.int i3), .val (.ref b1), .val (.int fr), .val (.int to), .unset]) G X15.here hx (hb hby at_102) rfl rfl
  obtain ⟨f, hf⟩ := own_fun (nar .byte r_2) (nar .byte r_4) (nar .byte r_6) (nar .byte r_8) (nar .byte r_10) (nar .byte r_12) (nar .byte r_14)
  have hfr : 0 ≤ fr.toInt ∧ fr.toInt ≤ 7 := by
    rw [← hn_uf] at hn_fr
    have := own_rem 8 8 rfl (by decide) hn_fr
    omega
  have hto : 0 ≤ to.toInt ∧ to.toInt ≤ 7 := by
    rw [← hn_ut] at hn_to
    have := own_rem 8 8 rfl (by decide) hn_to
    omega
  replace G := own_aload (q := 106) G X15.here hx (hb hby at_104) rfl rfl rfl
  replace G := own_iload (q := 108) G X15.here hx (hb hby at_106) rfl rfl
  replace G := own_iload (q := 110) G X15.here hx (hb hby at_108) rfl rfl
  replace G := own_iconst (q := 111) G X15.here hx (hb hby at_110) (v := (2 : Int32)) (by decide) rfl
  obtain ⟨_, _, ⟨T16, L16, kk16, nn16⟩, -, X16, ⟨Lc16, hQ16, l16, y16, z16⟩, st16⟩ := Jvm.LawKit.callS X15 hx (y := (⟨"com/example/assertgate/assertgate/http/RequestHeadEndPinLaw", "endsAt", "([BIII)Z"⟩ : MethodName)) hown (mvT hZ (hw _ (List.mem_of_getElem? (i := 6) rfl))) (mvT hZ (hw _ (List.mem_of_getElem? (i := 7) rfl))) (mvT hZ (hw _ (List.mem_of_getElem? (i := 3) rfl))) (mvT hZ (hw _ (List.mem_of_getElem? (i := 8) rfl))) (by decide) (backOf (W := 0) (rm2j2 l Z a0 hw [] b1 fr to k1 [(.int (nar .byte r_2)), (.int (nar .byte r_4)), (.int (nar .byte r_6)), (.int (nar .byte r_8)), (.int (nar .byte r_10)), (.int (nar .byte r_12)), (.int (nar .byte r_14))] f h15 n0 Z15 V15 hf hfr hto) hZ (hw _ (List.mem_of_getElem? (i := 8) rfl)) (hw _ (List.mem_of_getElem? (i := 3) rfl)) (by decide) (by decide)) (g := (mkF m 111 #[.val (.int i0), .val (.int i1), .val (.int i2), .val (.int i3), .val (.ref b1), .val (.int fr), .val (.int to), .unset] [(.int (2 : Int32)), (.int to), (.int fr), (.ref b1)])) rfl (by rw [hml]; rfl) (argsL := [(.ref b1), (.int fr), (.int to), (.int (2 : Int32))]) (rest := []) (lenOf pd_1 rfl) rfl (by show 2 * 0 + _ ≤ _; exact Nat.le_of_eq rfl) (hb hby at_111) (fun _ _ => ⟨rfl, e15, (by decide : 1 + 0 ≤ _), (by decide : 7 + 0 ≤ _)⟩)
  dsimp only [Pt.U, Pt.locs, Pt.cells, Pt.slots] at X16 l16 y16 z16 st16 hQ16
  subst l16 y16 z16
  obtain ⟨rfl, N16q, e16⟩ := hQ16
  have N16 := Fr.app N15 N16q
  replace G : Gets p e below _ (T16.setTop (mkF m 114 #[.val (.int i0), .val (.int i1), .val (.int i2), .val (.int i3), .val (.ref b1), .val (.int fr), .val (.int to), .unset] [(.int (own_ea f fr to (2 : Int32) (1 : Int32) (0 : Int32) (-1 : Int32)))])) := fun t k => G t (st16 t k)
  by_cases hc114_17 : (own_ea f fr to (2 : Int32) (1 : Int32) (0 : Int32) (-1 : Int32)) = (0 : Int32)
  · replace G := own_ifYes (q := 123) G X16.here hx (hb hby at_114) ((if0 _ _).trans (teq hc114_17).1) (by decide) (by decide)
    replace G := own_aload (q := 125) G X16.here hx (hb hby at_123) rfl rfl rfl
    replace G := own_iload (q := 127) G X16.here hx (hb hby at_125) rfl rfl
    replace G := own_iload (q := 129) G X16.here hx (hb hby at_127) rfl rfl
    replace G := own_iconst (q := 130) G X16.here hx (hb hby at_129) (v := (3 : Int32)) (by decide) rfl
    obtain ⟨_, _, ⟨T18, L18, kk18, nn18⟩, -, X18, ⟨Lc18, hQ18, l18, y18, z18⟩, st18⟩ := Jvm.LawKit.callS X16 hx (y := (⟨"com/example/assertgate/assertgate/http/RequestHeadEndPinLaw", "endsAt", "([BIII)Z"⟩ : MethodName)) hown (mvT hZ (hw _ (List.mem_of_getElem? (i := 6) rfl))) (mvT hZ (hw _ (List.mem_of_getElem? (i := 7) rfl))) (mvT hZ (hw _ (List.mem_of_getElem? (i := 3) rfl))) (mvT hZ (hw _ (List.mem_of_getElem? (i := 8) rfl))) (by decide) (backOf (W := 0) (rm2j3 l Z a0 hw [] b1 fr to k1 [(.int (nar .byte r_2)), (.int (nar .byte r_4)), (.int (nar .byte r_6)), (.int (nar .byte r_8)), (.int (nar .byte r_10)), (.int (nar .byte r_12)), (.int (nar .byte r_14))] f h15 n0 Z15 V15 hf hfr hto) hZ (hw _ (List.mem_of_getElem? (i := 8) rfl)) (hw _ (List.mem_of_getElem? (i := 3) rfl)) (by decide) (by decide)) (g := (mkF m 130 #[.val (.int i0), .val (.int i1), .val (.int i2), .val (.int i3), .val (.ref b1), .val (.int fr), .val (.int to), .unset] [(.int (3 : Int32)), (.int to), (.int fr), (.ref b1)])) rfl (by rw [hml]; rfl) (argsL := [(.ref b1), (.int fr), (.int to), (.int (3 : Int32))]) (rest := []) (lenOf pd_1 rfl) rfl (by show 2 * 0 + _ ≤ _; exact Nat.le_of_eq rfl) (hb hby at_130) (fun _ _ => ⟨rfl, e16, (by decide : 1 + 0 ≤ _), (by decide : 7 + 0 ≤ _)⟩)
    dsimp only [Pt.U, Pt.locs, Pt.cells, Pt.slots] at X18 l18 y18 z18 st18 hQ18
    subst l18 y18 z18
    obtain ⟨rfl, N18q, e18⟩ := hQ18
    have N18 := Fr.app N16 N18q
    replace G : Gets p e below _ (T18.setTop (mkF m 133 #[.val (.int i0), .val (.int i1), .val (.int i2), .val (.int i3), .val (.ref b1), .val (.int fr), .val (.int to), .unset] [(.int (own_ea f fr to (3 : Int32) (2 : Int32) (1 : Int32) (0 : Int32)))])) := fun t k => G t (st18 t k)
    by_cases hc133_19 : (own_ea f fr to (3 : Int32) (2 : Int32) (1 : Int32) (0 : Int32)) = (0 : Int32)
    · replace G := own_ifYes (q := 142) G X18.here hx (hb hby at_133) ((if0 _ _).trans (teq hc133_19).1) (by decide) (by decide)
      replace G := own_aload (q := 144) G X18.here hx (hb hby at_142) rfl rfl rfl
      replace G := own_iload (q := 146) G X18.here hx (hb hby at_144) rfl rfl
      replace G := own_iload (q := 148) G X18.here hx (hb hby at_146) rfl rfl
      replace G := own_iconst (q := 149) G X18.here hx (hb hby at_148) (v := (4 : Int32)) (by decide) rfl
      obtain ⟨_, _, ⟨T20, L20, kk20, nn20⟩, -, X20, ⟨Lc20, hQ20, l20, y20, z20⟩, st20⟩ := Jvm.LawKit.callS X18 hx (y := (⟨"com/example/assertgate/assertgate/http/RequestHeadEndPinLaw", "endsAt", "([BIII)Z"⟩ : MethodName)) hown (mvT hZ (hw _ (List.mem_of_getElem? (i := 6) rfl))) (mvT hZ (hw _ (List.mem_of_getElem? (i := 7) rfl))) (mvT hZ (hw _ (List.mem_of_getElem? (i := 3) rfl))) (mvT hZ (hw _ (List.mem_of_getElem? (i := 8) rfl))) (by decide) (backOf (W := 0) (rm2j4 l Z a0 hw [] b1 fr to k1 [(.int (nar .byte r_2)), (.int (nar .byte r_4)), (.int (nar .byte r_6)), (.int (nar .byte r_8)), (.int (nar .byte r_10)), (.int (nar .byte r_12)), (.int (nar .byte r_14))] f h15 n0 Z15 V15 hf hfr hto) hZ (hw _ (List.mem_of_getElem? (i := 8) rfl)) (hw _ (List.mem_of_getElem? (i := 3) rfl)) (by decide) (by decide)) (g := (mkF m 149 #[.val (.int i0), .val (.int i1), .val (.int i2), .val (.int i3), .val (.ref b1), .val (.int fr), .val (.int to), .unset] [(.int (4 : Int32)), (.int to), (.int fr), (.ref b1)])) rfl (by rw [hml]; rfl) (argsL := [(.ref b1), (.int fr), (.int to), (.int (4 : Int32))]) (rest := []) (lenOf pd_1 rfl) rfl (by show 2 * 0 + _ ≤ _; exact Nat.le_of_eq rfl) (hb hby at_149) (fun _ _ => ⟨rfl, e18, (by decide : 1 + 0 ≤ _), (by decide : 7 + 0 ≤ _)⟩)
      dsimp only [Pt.U, Pt.locs, Pt.cells, Pt.slots] at X20 l20 y20 z20 st20 hQ20
      subst l20 y20 z20
      obtain ⟨rfl, N20q, e20⟩ := hQ20
      have N20 := Fr.app N18 N20q
      replace G : Gets p e below _ (T20.setTop (mkF m 152 #[.val (.int i0), .val (.int i1), .val (.int i2), .val (.int i3), .val (.ref b1), .val (.int fr), .val (.int to), .unset] [(.int (own_ea f fr to (4 : Int32) (3 : Int32) (2 : Int32) (1 : Int32)))])) := fun t k => G t (st20 t k)
      by_cases hc152_21 : (own_ea f fr to (4 : Int32) (3 : Int32) (2 : Int32) (1 : Int32)) = (0 : Int32)
      · replace G := own_ifYes (q := 161) G X20.here hx (hb hby at_152) ((if0 _ _).trans (teq hc152_21).1) (by decide) (by decide)
        replace G := own_aload (q := 163) G X20.here hx (hb hby at_161) rfl rfl rfl
        replace G := own_iload (q := 165) G X20.here hx (hb hby at_163) rfl rfl
        replace G := own_iload (q := 167) G X20.here hx (hb hby at_165) rfl rfl
        replace G := own_iconst (q := 168) G X20.here hx (hb hby at_167) (v := (5 : Int32)) (by decide) rfl
        obtain ⟨_, _, ⟨T22, L22, kk22, nn22⟩, -, X22, ⟨Lc22, hQ22, l22, y22, z22⟩, st22⟩ := Jvm.LawKit.callS X20 hx (y := (⟨"com/example/assertgate/assertgate/http/RequestHeadEndPinLaw", "endsAt", "([BIII)Z"⟩ : MethodName)) hown (mvT hZ (hw _ (List.mem_of_getElem? (i := 6) rfl))) (mvT hZ (hw _ (List.mem_of_getElem? (i := 7) rfl))) (mvT hZ (hw _ (List.mem_of_getElem? (i := 3) rfl))) (mvT hZ (hw _ (List.mem_of_getElem? (i := 8) rfl))) (by decide) (backOf (W := 0) (rm2j5 l Z a0 hw [] b1 fr to k1 [(.int (nar .byte r_2)), (.int (nar .byte r_4)), (.int (nar .byte r_6)), (.int (nar .byte r_8)), (.int (nar .byte r_10)), (.int (nar .byte r_12)), (.int (nar .byte r_14))] f h15 n0 Z15 V15 hf hfr hto) hZ (hw _ (List.mem_of_getElem? (i := 8) rfl)) (hw _ (List.mem_of_getElem? (i := 3) rfl)) (by decide) (by decide)) (g := (mkF m 168 #[.val (.int i0), .val (.int i1), .val (.int i2), .val (.int i3), .val (.ref b1), .val (.int fr), .val (.int to), .unset] [(.int (5 : Int32)), (.int to), (.int fr), (.ref b1)])) rfl (by rw [hml]; rfl) (argsL := [(.ref b1), (.int fr), (.int to), (.int (5 : Int32))]) (rest := []) (lenOf pd_1 rfl) rfl (by show 2 * 0 + _ ≤ _; exact Nat.le_of_eq rfl) (hb hby at_168) (fun _ _ => ⟨rfl, e20, (by decide : 1 + 0 ≤ _), (by decide : 7 + 0 ≤ _)⟩)
        dsimp only [Pt.U, Pt.locs, Pt.cells, Pt.slots] at X22 l22 y22 z22 st22 hQ22
        subst l22 y22 z22
        obtain ⟨rfl, N22q, e22⟩ := hQ22
        have N22 := Fr.app N20 N22q
        replace G : Gets p e below _ (T22.setTop (mkF m 171 #[.val (.int i0), .val (.int i1), .val (.int i2), .val (.int i3), .val (.ref b1), .val (.int fr), .val (.int to), .unset] [(.int (own_ea f fr to (5 : Int32) (4 : Int32) (3 : Int32) (2 : Int32)))])) := fun t k => G t (st22 t k)
        by_cases hc171_23 : (own_ea f fr to (5 : Int32) (4 : Int32) (3 : Int32) (2 : Int32)) = (0 : Int32)
        · replace G := own_ifYes (q := 180) G X22.here hx (hb hby at_171) ((if0 _ _).trans (teq hc171_23).1) (by decide) (by decide)
          replace G := own_aload (q := 182) G X22.here hx (hb hby at_180) rfl rfl rfl
          replace G := own_iload (q := 184) G X22.here hx (hb hby at_182) rfl rfl
          replace G := own_iload (q := 186) G X22.here hx (hb hby at_184) rfl rfl
          replace G := own_bipush (q := 188) G X22.here hx (hb hby at_186) (v := (6 : Int32)) (by decide) rfl
          obtain ⟨_, _, ⟨T24, L24, kk24, nn24⟩, -, X24, ⟨Lc24, hQ24, l24, y24, z24⟩, st24⟩ := Jvm.LawKit.callS X22 hx (y := (⟨"com/example/assertgate/assertgate/http/RequestHeadEndPinLaw", "endsAt", "([BIII)Z"⟩ : MethodName)) hown (mvT hZ (hw _ (List.mem_of_getElem? (i := 6) rfl))) (mvT hZ (hw _ (List.mem_of_getElem? (i := 7) rfl))) (mvT hZ (hw _ (List.mem_of_getElem? (i := 3) rfl))) (mvT hZ (hw _ (List.mem_of_getElem? (i := 8) rfl))) (by decide) (backOf (W := 0) (rm2j6 l Z a0 hw [] b1 fr to k1 [(.int (nar .byte r_2)), (.int (nar .byte r_4)), (.int (nar .byte r_6)), (.int (nar .byte r_8)), (.int (nar .byte r_10)), (.int (nar .byte r_12)), (.int (nar .byte r_14))] f h15 n0 Z15 V15 hf hfr hto) hZ (hw _ (List.mem_of_getElem? (i := 8) rfl)) (hw _ (List.mem_of_getElem? (i := 3) rfl)) (by decide) (by decide)) (g := (mkF m 188 #[.val (.int i0), .val (.int i1), .val (.int i2), .val (.int i3), .val (.ref b1), .val (.int fr), .val (.int to), .unset] [(.int (6 : Int32)), (.int to), (.int fr), (.ref b1)])) rfl (by rw [hml]; rfl) (argsL := [(.ref b1), (.int fr), (.int to), (.int (6 : Int32))]) (rest := []) (lenOf pd_1 rfl) rfl (by show 2 * 0 + _ ≤ _; exact Nat.le_of_eq rfl) (hb hby at_188) (fun _ _ => ⟨rfl, e22, (by decide : 1 + 0 ≤ _), (by decide : 7 + 0 ≤ _)⟩)
          dsimp only [Pt.U, Pt.locs, Pt.cells, Pt.slots] at X24 l24 y24 z24 st24 hQ24
          subst l24 y24 z24
          obtain ⟨rfl, N24q, e24⟩ := hQ24
          have N24 := Fr.app N22 N24q
          replace G : Gets p e below _ (T24.setTop (mkF m 191 #[.val (.int i0), .val (.int i1), .val (.int i2), .val (.int i3), .val (.ref b1), .val (.int fr), .val (.int to), .unset] [(.int (own_ea f fr to (6 : Int32) (5 : Int32) (4 : Int32) (3 : Int32)))])) := fun t k => G t (st24 t k)
          by_cases hc191_25 : (own_ea f fr to (6 : Int32) (5 : Int32) (4 : Int32) (3 : Int32)) = (0 : Int32)
          · replace G := own_ifYes (q := 201) G X24.here hx (hb hby at_191) ((if0 _ _).trans (teq hc191_25).1) (by decide) (by decide)
            replace G := own_aload (q := 203) G X24.here hx (hb hby at_201) rfl rfl rfl
            replace G := own_iload (q := 205) G X24.here hx (hb hby at_203) rfl rfl
            replace G := own_iload (q := 207) G X24.here hx (hb hby at_205) rfl rfl
            replace G := own_bipush (q := 209) G X24.here hx (hb hby at_207) (v := (7 : Int32)) (by decide) rfl
            obtain ⟨_, _, ⟨T26, L26, kk26, nn26⟩, -, X26, ⟨Lc26, hQ26, l26, y26, z26⟩, st26⟩ := Jvm.LawKit.callS X24 hx (y := (⟨"com/example/assertgate/assertgate/http/RequestHeadEndPinLaw", "endsAt", "([BIII)Z"⟩ : MethodName)) hown (mvT hZ (hw _ (List.mem_of_getElem? (i := 6) rfl))) (mvT hZ (hw _ (List.mem_of_getElem? (i := 7) rfl))) (mvT hZ (hw _ (List.mem_of_getElem? (i := 3) rfl))) (mvT hZ (hw _ (List.mem_of_getElem? (i := 8) rfl))) (by decide) (backOf (W := 0) (rm2j7 l Z a0 hw [] b1 fr to k1 [(.int (nar .byte r_2)), (.int (nar .byte r_4)), (.int (nar .byte r_6)), (.int (nar .byte r_8)), (.int (nar .byte r_10)), (.int (nar .byte r_12)), (.int (nar .byte r_14))] f h15 n0 Z15 V15 hf hfr hto) hZ (hw _ (List.mem_of_getElem? (i := 8) rfl)) (hw _ (List.mem_of_getElem? (i := 3) rfl)) (by decide) (by decide)) (g := (mkF m 209 #[.val (.int i0), .val (.int i1), .val (.int i2), .val (.int i3), .val (.ref b1), .val (.int fr), .val (.int to), .unset] [(.int (7 : Int32)), (.int to), (.int fr), (.ref b1)])) rfl (by rw [hml]; rfl) (argsL := [(.ref b1), (.int fr), (.int to), (.int (7 : Int32))]) (rest := []) (lenOf pd_1 rfl) rfl (by show 2 * 0 + _ ≤ _; exact Nat.le_of_eq rfl) (hb hby at_209) (fun _ _ => ⟨rfl, e24, (by decide : 1 + 0 ≤ _), (by decide : 7 + 0 ≤ _)⟩)
            dsimp only [Pt.U, Pt.locs, Pt.cells, Pt.slots] at X26 l26 y26 z26 st26 hQ26
            subst l26 y26 z26
            obtain ⟨rfl, N26q, e26⟩ := hQ26
            have N26 := Fr.app N24 N26q
            replace G : Gets p e below _ (T26.setTop (mkF m 212 #[.val (.int i0), .val (.int i1), .val (.int i2), .val (.int i3), .val (.ref b1), .val (.int fr), .val (.int to), .unset] [(.int (own_ea f fr to (7 : Int32) (6 : Int32) (5 : Int32) (4 : Int32)))])) := fun t k => G t (st26 t k)
            by_cases hc212_27 : (own_ea f fr to (7 : Int32) (6 : Int32) (5 : Int32) (4 : Int32)) = (0 : Int32)
            · replace G := own_ifYes (q := 222) G X26.here hx (hb hby at_212) ((if0 _ _).trans (teq hc212_27).1) (by decide) (by decide)
              replace G := own_iconst (q := 223) G X26.here hx (hb hby at_222) (v := (-1 : Int32)) (by decide) rfl
              replace G := own_istore (q := 225) (l' := #[.val (.int i0), .val (.int i1), .val (.int i2), .val (.int i3), .val (.ref b1), .val (.int fr), .val (.int to), .val (.int (-1 : Int32))]) G X26.here hx (hb hby at_223) rfl rfl
              replace G := own_aload (q := 227) G X26.here hx (hb hby at_225) rfl rfl rfl
              replace G := own_iload (q := 229) G X26.here hx (hb hby at_227) rfl rfl
              replace G := own_iload (q := 231) G X26.here hx (hb hby at_229) rfl rfl
              obtain ⟨_, _, ⟨T28, L28, kk28, nn28⟩, -, X28, ⟨Lc28, hQ28, l28, y28, z28⟩, st28⟩ := Jvm.LawKit.callS X26 hx (y := (⟨"com/example/assertgate/assertgate/http/Request", "headEnd", "([BII)I"⟩ : MethodName)) hown (mvT hZ (hw _ (List.mem_of_getElem? (i := 9) rfl))) (mvT hZ (hw _ (List.mem_of_getElem? (i := 10) rfl))) (mvT hZ (hw _ (List.mem_of_getElem? (i := 11) rfl))) (mvT hZ (hw _ (List.mem_of_getElem? (i := 12) rfl))) (by decide) (backOf (W := 0) (rm3 l Z a0 hw [] b1 fr to k1 [(.int (nar .byte r_2)), (.int (nar .byte r_4)), (.int (nar .byte r_6)), (.int (nar .byte r_8)), (.int (nar .byte r_10)), (.int (nar .byte r_12)), (.int (nar .byte r_14))] f h15 n0 Z15 V15 hf hfr hto) hZ (hw _ (List.mem_of_getElem? (i := 12) rfl)) (hw _ (List.mem_of_getElem? (i := 11) rfl)) (by decide) (by decide)) (g := (mkF m 231 #[.val (.int i0), .val (.int i1), .val (.int i2), .val (.int i3), .val (.ref b1), .val (.int fr), .val (.int to), .val (.int (-1 : Int32))] [(.int to), (.int fr), (.ref b1)])) rfl (by rw [hml]; rfl) (argsL := [(.ref b1), (.int fr), (.int to)]) (rest := []) (lenOf pd_2 rfl) rfl (by show 2 * 0 + _ ≤ _; exact Nat.le_of_eq rfl) (hb hby at_231) (fun _ _ => ⟨rfl, e26, (by decide : 1 + 0 ≤ _), (by decide : 7 + 0 ≤ _)⟩)
              dsimp only [Pt.U, Pt.locs, Pt.cells, Pt.slots] at X28 l28 y28 z28 st28 hQ28
              subst l28 y28 z28
              obtain ⟨rfl, N28q, e28⟩ := hQ28
              have N28 := Fr.app N26 N28q
              replace G : Gets p e below _ (T28.setTop (mkF m 234 #[.val (.int i0), .val (.int i1), .val (.int i2), .val (.int i3), .val (.ref b1), .val (.int fr), .val (.int to), .val (.int (-1 : Int32))] [(.int (own_he f to 7 fr))])) := fun t k => G t (st28 t k)
              replace G := own_iload (q := 236) G X28.here hx (hb hby at_234) rfl rfl
              have hc236_29 : (own_he f to 7 fr) = (-1 : Int32) := (own_law f fr to hfr hto).2.2.2.2.2.2 hc114_17 hc133_19 hc152_21 hc171_23 hc191_25 hc212_27
              replace G := own_icmpNo (q := 239) G X28.here hx (hb hby at_236) (teq hc236_29).2 rfl
              replace G := own_iconst (q := 240) G X28.here hx (hb hby at_239) (v := (1 : Int32)) (by decide) rfl
              replace G := own_goto (q := 244) G X28.here hx (hb hby at_240) (by decide) (by decide)
              obtain ⟨fs, hr, hrun, hended, hW, hsame⟩ := X28.leave (v := some (.int (1 : Int32))) (fun h => by rw [Bd.returns] at h; cases h)
              refine ⟨_, _, G _ (retOut X28 hx Bd.returns rfl (Or.inl ⟨rfl, Or.inr (Or.inl rfl), _, rfl⟩) (hb hby at_244) hr), hrun, hended, _, _, rfl, ?_, ⟨_, rfl⟩, hW, hsame.mono (by decide) (by decide)⟩
              show Q0 Z i0 i1 i2 i3 h0 n0 _ T28.heap _
              rw [e28]
              exact ⟨rfl, N28⟩
            · replace G := own_ifNo (q := 215) G X26.here hx (hb hby at_212) ((if0 _ _).trans (feq hc212_27).1) rfl
              replace G := own_bipush (q := 217) G X26.here hx (hb hby at_215) (v := (7 : Int32)) (by decide) rfl
              replace G := own_istore (q := 219) (l' := #[.val (.int i0), .val (.int i1), .val (.int i2), .val (.int i3), .val (.ref b1), .val (.int fr), .val (.int to), .val (.int (7 : Int32))]) G X26.here hx (hb hby at_217) rfl rfl
              replace G := own_goto (q := 225) G X26.here hx (hb hby at_219) (by decide) (by decide)
              replace G := own_aload (q := 227) G X26.here hx (hb hby at_225) rfl rfl rfl
              replace G := own_iload (q := 229) G X26.here hx (hb hby at_227) rfl rfl
              replace G := own_iload (q := 231) G X26.here hx (hb hby at_229) rfl rfl
              obtain ⟨_, _, ⟨T30, L30, kk30, nn30⟩, -, X30, ⟨Lc30, hQ30, l30, y30, z30⟩, st30⟩ := Jvm.LawKit.callS X26 hx (y := (⟨"com/example/assertgate/assertgate/http/Request", "headEnd", "([BII)I"⟩ : MethodName)) hown (mvT hZ (hw _ (List.mem_of_getElem? (i := 9) rfl))) (mvT hZ (hw _ (List.mem_of_getElem? (i := 10) rfl))) (mvT hZ (hw _ (List.mem_of_getElem? (i := 11) rfl))) (mvT hZ (hw _ (List.mem_of_getElem? (i := 12) rfl))) (by decide) (backOf (W := 0) (rm3 l Z a0 hw [] b1 fr to k1 [(.int (nar .byte r_2)), (.int (nar .byte r_4)), (.int (nar .byte r_6)), (.int (nar .byte r_8)), (.int (nar .byte r_10)), (.int (nar .byte r_12)), (.int (nar .byte r_14))] f h15 n0 Z15 V15 hf hfr hto) hZ (hw _ (List.mem_of_getElem? (i := 12) rfl)) (hw _ (List.mem_of_getElem? (i := 11) rfl)) (by decide) (by decide)) (g := (mkF m 231 #[.val (.int i0), .val (.int i1), .val (.int i2), .val (.int i3), .val (.ref b1), .val (.int fr), .val (.int to), .val (.int (7 : Int32))] [(.int to), (.int fr), (.ref b1)])) rfl (by rw [hml]; rfl) (argsL := [(.ref b1), (.int fr), (.int to)]) (rest := []) (lenOf pd_2 rfl) rfl (by show 2 * 0 + _ ≤ _; exact Nat.le_of_eq rfl) (hb hby at_231) (fun _ _ => ⟨rfl, e26, (by decide : 1 + 0 ≤ _), (by decide : 7 + 0 ≤ _)⟩)
              dsimp only [Pt.U, Pt.locs, Pt.cells, Pt.slots] at X30 l30 y30 z30 st30 hQ30
              subst l30 y30 z30
              obtain ⟨rfl, N30q, e30⟩ := hQ30
              have N30 := Fr.app N26 N30q
              replace G : Gets p e below _ (T30.setTop (mkF m 234 #[.val (.int i0), .val (.int i1), .val (.int i2), .val (.int i3), .val (.ref b1), .val (.int fr), .val (.int to), .val (.int (7 : Int32))] [(.int (own_he f to 7 fr))])) := fun t k => G t (st30 t k)
              replace G := own_iload (q := 236) G X30.here hx (hb hby at_234) rfl rfl
              have hc236_31 : (own_he f to 7 fr) = (7 : Int32) := (own_law f fr to hfr hto).2.2.2.2.2.1 hc114_17 hc133_19 hc152_21 hc171_23 hc191_25 hc212_27
              replace G := own_icmpNo (q := 239) G X30.here hx (hb hby at_236) (teq hc236_31).2 rfl
              replace G := own_iconst (q := 240) G X30.here hx (hb hby at_239) (v := (1 : Int32)) (by decide) rfl
              replace G := own_goto (q := 244) G X30.here hx (hb hby at_240) (by decide) (by decide)
              obtain ⟨fs, hr, hrun, hended, hW, hsame⟩ := X30.leave (v := some (.int (1 : Int32))) (fun h => by rw [Bd.returns] at h; cases h)
              refine ⟨_, _, G _ (retOut X30 hx Bd.returns rfl (Or.inl ⟨rfl, Or.inr (Or.inl rfl), _, rfl⟩) (hb hby at_244) hr), hrun, hended, _, _, rfl, ?_, ⟨_, rfl⟩, hW, hsame.mono (by decide) (by decide)⟩
              show Q0 Z i0 i1 i2 i3 h0 n0 _ T30.heap _
              rw [e30]
              exact ⟨rfl, N30⟩
          · replace G := own_ifNo (q := 194) G X24.here hx (hb hby at_191) ((if0 _ _).trans (feq hc191_25).1) rfl
            replace G := own_bipush (q := 196) G X24.here hx (hb hby at_194) (v := (6 : Int32)) (by decide) rfl
            replace G := own_istore (q := 198) (l' := #[.val (.int i0), .val (.int i1), .val (.int i2), .val (.int i3), .val (.ref b1), .val (.int fr), .val (.int to), .val (.int (6 : Int32))]) G X24.here hx (hb hby at_196) rfl rfl
            replace G := own_goto (q := 225) G X24.here hx (hb hby at_198) (by decide) (by decide)
            replace G := own_aload (q := 227) G X24.here hx (hb hby at_225) rfl rfl rfl
            replace G := own_iload (q := 229) G X24.here hx (hb hby at_227) rfl rfl
            replace G := own_iload (q := 231) G X24.here hx (hb hby at_229) rfl rfl
            obtain ⟨_, _, ⟨T32, L32, kk32, nn32⟩, -, X32, ⟨Lc32, hQ32, l32, y32, z32⟩, st32⟩ := Jvm.LawKit.callS X24 hx (y := (⟨"com/example/assertgate/assertgate/http/Request", "headEnd", "([BII)I"⟩ : MethodName)) hown (mvT hZ (hw _ (List.mem_of_getElem? (i := 9) rfl))) (mvT hZ (hw _ (List.mem_of_getElem? (i := 10) rfl))) (mvT hZ (hw _ (List.mem_of_getElem? (i := 11) rfl))) (mvT hZ (hw _ (List.mem_of_getElem? (i := 12) rfl))) (by decide) (backOf (W := 0) (rm3 l Z a0 hw [] b1 fr to k1 [(.int (nar .byte r_2)), (.int (nar .byte r_4)), (.int (nar .byte r_6)), (.int (nar .byte r_8)), (.int (nar .byte r_10)), (.int (nar .byte r_12)), (.int (nar .byte r_14))] f h15 n0 Z15 V15 hf hfr hto) hZ (hw _ (List.mem_of_getElem? (i := 12) rfl)) (hw _ (List.mem_of_getElem? (i := 11) rfl)) (by decide) (by decide)) (g := (mkF m 231 #[.val (.int i0), .val (.int i1), .val (.int i2), .val (.int i3), .val (.ref b1), .val (.int fr), .val (.int to), .val (.int (6 : Int32))] [(.int to), (.int fr), (.ref b1)])) rfl (by rw [hml]; rfl) (argsL := [(.ref b1), (.int fr), (.int to)]) (rest := []) (lenOf pd_2 rfl) rfl (by show 2 * 0 + _ ≤ _; exact Nat.le_of_eq rfl) (hb hby at_231) (fun _ _ => ⟨rfl, e24, (by decide : 1 + 0 ≤ _), (by decide : 7 + 0 ≤ _)⟩)
            dsimp only [Pt.U, Pt.locs, Pt.cells, Pt.slots] at X32 l32 y32 z32 st32 hQ32
            subst l32 y32 z32
            obtain ⟨rfl, N32q, e32⟩ := hQ32
            have N32 := Fr.app N24 N32q
            replace G : Gets p e below _ (T32.setTop (mkF m 234 #[.val (.int i0), .val (.int i1), .val (.int i2), .val (.int i3), .val (.ref b1), .val (.int fr), .val (.int to), .val (.int (6 : Int32))] [(.int (own_he f to 7 fr))])) := fun t k => G t (st32 t k)
            replace G := own_iload (q := 236) G X32.here hx (hb hby at_234) rfl rfl
            have hc236_33 : (own_he f to 7 fr) = (6 : Int32) := (own_law f fr to hfr hto).2.2.2.2.1 hc114_17 hc133_19 hc152_21 hc171_23 hc191_25
            replace G := own_icmpNo (q := 239) G X32.here hx (hb hby at_236) (teq hc236_33).2 rfl
            replace G := own_iconst (q := 240) G X32.here hx (hb hby at_239) (v := (1 : Int32)) (by decide) rfl
            replace G := own_goto (q := 244) G X32.here hx (hb hby at_240) (by decide) (by decide)
            obtain ⟨fs, hr, hrun, hended, hW, hsame⟩ := X32.leave (v := some (.int (1 : Int32))) (fun h => by rw [Bd.returns] at h; cases h)
            refine ⟨_, _, G _ (retOut X32 hx Bd.returns rfl (Or.inl ⟨rfl, Or.inr (Or.inl rfl), _, rfl⟩) (hb hby at_244) hr), hrun, hended, _, _, rfl, ?_, ⟨_, rfl⟩, hW, hsame.mono (by decide) (by decide)⟩
            show Q0 Z i0 i1 i2 i3 h0 n0 _ T32.heap _
            rw [e32]
            exact ⟨rfl, N32⟩
        · replace G := own_ifNo (q := 174) G X22.here hx (hb hby at_171) ((if0 _ _).trans (feq hc171_23).1) rfl
          replace G := own_iconst (q := 175) G X22.here hx (hb hby at_174) (v := (5 : Int32)) (by decide) rfl
          replace G := own_istore (q := 177) (l' := #[.val (.int i0), .val (.int i1), .val (.int i2), .val (.int i3), .val (.ref b1), .val (.int fr), .val (.int to), .val (.int (5 : Int32))]) G X22.here hx (hb hby at_175) rfl rfl
          replace G := own_goto (q := 225) G X22.here hx (hb hby at_177) (by decide) (by decide)
          replace G := own_aload (q := 227) G X22.here hx (hb hby at_225) rfl rfl rfl
          replace G := own_iload (q := 229) G X22.here hx (hb hby at_227) rfl rfl
          replace G := own_iload (q := 231) G X22.here hx (hb hby at_229) rfl rfl
          obtain ⟨_, _, ⟨T34, L34, kk34, nn34⟩, -, X34, ⟨Lc34, hQ34, l34, y34, z34⟩, st34⟩ := Jvm.LawKit.callS X22 hx (y := (⟨"com/example/assertgate/assertgate/http/Request", "headEnd", "([BII)I"⟩ : MethodName)) hown (mvT hZ (hw _ (List.mem_of_getElem? (i := 9) rfl))) (mvT hZ (hw _ (List.mem_of_getElem? (i := 10) rfl))) (mvT hZ (hw _ (List.mem_of_getElem? (i := 11) rfl))) (mvT hZ (hw _ (List.mem_of_getElem? (i := 12) rfl))) (by decide) (backOf (W := 0) (rm3 l Z a0 hw [] b1 fr to k1 [(.int (nar .byte r_2)), (.int (nar .byte r_4)), (.int (nar .byte r_6)), (.int (nar .byte r_8)), (.int (nar .byte r_10)), (.int (nar .byte r_12)), (.int (nar .byte r_14))] f h15 n0 Z15 V15 hf hfr hto) hZ (hw _ (List.mem_of_getElem? (i := 12) rfl)) (hw _ (List.mem_of_getElem? (i := 11) rfl)) (by decide) (by decide)) (g := (mkF m 231 #[.val (.int i0), .val (.int i1), .val (.int i2), .val (.int i3), .val (.ref b1), .val (.int fr), .val (.int to), .val (.int (5 : Int32))] [(.int to), (.int fr), (.ref b1)])) rfl (by rw [hml]; rfl) (argsL := [(.ref b1), (.int fr), (.int to)]) (rest := []) (lenOf pd_2 rfl) rfl (by show 2 * 0 + _ ≤ _; exact Nat.le_of_eq rfl) (hb hby at_231) (fun _ _ => ⟨rfl, e22, (by decide : 1 + 0 ≤ _), (by decide : 7 + 0 ≤ _)⟩)
          dsimp only [Pt.U, Pt.locs, Pt.cells, Pt.slots] at X34 l34 y34 z34 st34 hQ34
          subst l34 y34 z34
          obtain ⟨rfl, N34q, e34⟩ := hQ34
          have N34 := Fr.app N22 N34q
          replace G : Gets p e below _ (T34.setTop (mkF m 234 #[.val (.int i0), .val (.int i1), .val (.int i2), .val (.int i3), .val (.ref b1), .val (.int fr), .val (.int to), .val (.int (5 : Int32))] [(.int (own_he f to 7 fr))])) := fun t k => G t (st34 t k)
          replace G := own_iload (q := 236) G X34.here hx (hb hby at_234) rfl rfl
          have hc236_35 : (own_he f to 7 fr) = (5 : Int32) := (own_law f fr to hfr hto).2.2.2.1 hc114_17 hc133_19 hc152_21 hc171_23
          replace G := own_icmpNo (q := 239) G X34.here hx (hb hby at_236) (teq hc236_35).2 rfl
          replace G := own_iconst (q := 240) G X34.here hx (hb hby at_239) (v := (1 : Int32)) (by decide) rfl
          replace G := own_goto (q := 244) G X34.here hx (hb hby at_240) (by decide) (by decide)
          obtain ⟨fs, hr, hrun, hended, hW, hsame⟩ := X34.leave (v := some (.int (1 : Int32))) (fun h => by rw [Bd.returns] at h; cases h)
          refine ⟨_, _, G _ (retOut X34 hx Bd.returns rfl (Or.inl ⟨rfl, Or.inr (Or.inl rfl), _, rfl⟩) (hb hby at_244) hr), hrun, hended, _, _, rfl, ?_, ⟨_, rfl⟩, hW, hsame.mono (by decide) (by decide)⟩
          show Q0 Z i0 i1 i2 i3 h0 n0 _ T34.heap _
          rw [e34]
          exact ⟨rfl, N34⟩
      · replace G := own_ifNo (q := 155) G X20.here hx (hb hby at_152) ((if0 _ _).trans (feq hc152_21).1) rfl
        replace G := own_iconst (q := 156) G X20.here hx (hb hby at_155) (v := (4 : Int32)) (by decide) rfl
        replace G := own_istore (q := 158) (l' := #[.val (.int i0), .val (.int i1), .val (.int i2), .val (.int i3), .val (.ref b1), .val (.int fr), .val (.int to), .val (.int (4 : Int32))]) G X20.here hx (hb hby at_156) rfl rfl
        replace G := own_goto (q := 225) G X20.here hx (hb hby at_158) (by decide) (by decide)
        replace G := own_aload (q := 227) G X20.here hx (hb hby at_225) rfl rfl rfl
        replace G := own_iload (q := 229) G X20.here hx (hb hby at_227) rfl rfl
        replace G := own_iload (q := 231) G X20.here hx (hb hby at_229) rfl rfl
        obtain ⟨_, _, ⟨T36, L36, kk36, nn36⟩, -, X36, ⟨Lc36, hQ36, l36, y36, z36⟩, st36⟩ := Jvm.LawKit.callS X20 hx (y := (⟨"com/example/assertgate/assertgate/http/Request", "headEnd", "([BII)I"⟩ : MethodName)) hown (mvT hZ (hw _ (List.mem_of_getElem? (i := 9) rfl))) (mvT hZ (hw _ (List.mem_of_getElem? (i := 10) rfl))) (mvT hZ (hw _ (List.mem_of_getElem? (i := 11) rfl))) (mvT hZ (hw _ (List.mem_of_getElem? (i := 12) rfl))) (by decide) (backOf (W := 0) (rm3 l Z a0 hw [] b1 fr to k1 [(.int (nar .byte r_2)), (.int (nar .byte r_4)), (.int (nar .byte r_6)), (.int (nar .byte r_8)), (.int (nar .byte r_10)), (.int (nar .byte r_12)), (.int (nar .byte r_14))] f h15 n0 Z15 V15 hf hfr hto) hZ (hw _ (List.mem_of_getElem? (i := 12) rfl)) (hw _ (List.mem_of_getElem? (i := 11) rfl)) (by decide) (by decide)) (g := (mkF m 231 #[.val (.int i0), .val (.int i1), .val (.int i2), .val (.int i3), .val (.ref b1), .val (.int fr), .val (.int to), .val (.int (4 : Int32))] [(.int to), (.int fr), (.ref b1)])) rfl (by rw [hml]; rfl) (argsL := [(.ref b1), (.int fr), (.int to)]) (rest := []) (lenOf pd_2 rfl) rfl (by show 2 * 0 + _ ≤ _; exact Nat.le_of_eq rfl) (hb hby at_231) (fun _ _ => ⟨rfl, e20, (by decide : 1 + 0 ≤ _), (by decide : 7 + 0 ≤ _)⟩)
        dsimp only [Pt.U, Pt.locs, Pt.cells, Pt.slots] at X36 l36 y36 z36 st36 hQ36
        subst l36 y36 z36
        obtain ⟨rfl, N36q, e36⟩ := hQ36
        have N36 := Fr.app N20 N36q
        replace G : Gets p e below _ (T36.setTop (mkF m 234 #[.val (.int i0), .val (.int i1), .val (.int i2), .val (.int i3), .val (.ref b1), .val (.int fr), .val (.int to), .val (.int (4 : Int32))] [(.int (own_he f to 7 fr))])) := fun t k => G t (st36 t k)
        replace G := own_iload (q := 236) G X36.here hx (hb hby at_234) rfl rfl
        have hc236_37 : (own_he f to 7 fr) = (4 : Int32) := (own_law f fr to hfr hto).2.2.1 hc114_17 hc133_19 hc152_21
        replace G := own_icmpNo (q := 239) G X36.here hx (hb hby at_236) (teq hc236_37).2 rfl
        replace G := own_iconst (q := 240) G X36.here hx (hb hby at_239) (v := (1 : Int32)) (by decide) rfl
        replace G := own_goto (q := 244) G X36.here hx (hb hby at_240) (by decide) (by decide)
        obtain ⟨fs, hr, hrun, hended, hW, hsame⟩ := X36.leave (v := some (.int (1 : Int32))) (fun h => by rw [Bd.returns] at h; cases h)
        refine ⟨_, _, G _ (retOut X36 hx Bd.returns rfl (Or.inl ⟨rfl, Or.inr (Or.inl rfl), _, rfl⟩) (hb hby at_244) hr), hrun, hended, _, _, rfl, ?_, ⟨_, rfl⟩, hW, hsame.mono (by decide) (by decide)⟩
        show Q0 Z i0 i1 i2 i3 h0 n0 _ T36.heap _
        rw [e36]
        exact ⟨rfl, N36⟩
    · replace G := own_ifNo (q := 136) G X18.here hx (hb hby at_133) ((if0 _ _).trans (feq hc133_19).1) rfl
      replace G := own_iconst (q := 137) G X18.here hx (hb hby at_136) (v := (3 : Int32)) (by decide) rfl
      replace G := own_istore (q := 139) (l' := #[.val (.int i0), .val (.int i1), .val (.int i2), .val (.int i3), .val (.ref b1), .val (.int fr), .val (.int to), .val (.int (3 : Int32))]) G X18.here hx (hb hby at_137) rfl rfl
      replace G := own_goto (q := 225) G X18.here hx (hb hby at_139) (by decide) (by decide)
      replace G := own_aload (q := 227) G X18.here hx (hb hby at_225) rfl rfl rfl
      replace G := own_iload (q := 229) G X18.here hx (hb hby at_227) rfl rfl
      replace G := own_iload (q := 231) G X18.here hx (hb hby at_229) rfl rfl
      obtain ⟨_, _, ⟨T38, L38, kk38, nn38⟩, -, X38, ⟨Lc38, hQ38, l38, y38, z38⟩, st38⟩ := Jvm.LawKit.callS X18 hx (y := (⟨"com/example/assertgate/assertgate/http/Request", "headEnd", "([BII)I"⟩ : MethodName)) hown (mvT hZ (hw _ (List.mem_of_getElem? (i := 9) rfl))) (mvT hZ (hw _ (List.mem_of_getElem? (i := 10) rfl))) (mvT hZ (hw _ (List.mem_of_getElem? (i := 11) rfl))) (mvT hZ (hw _ (List.mem_of_getElem? (i := 12) rfl))) (by decide) (backOf (W := 0) (rm3 l Z a0 hw [] b1 fr to k1 [(.int (nar .byte r_2)), (.int (nar .byte r_4)), (.int (nar .byte r_6)), (.int (nar .byte r_8)), (.int (nar .byte r_10)), (.int (nar .byte r_12)), (.int (nar .byte r_14))] f h15 n0 Z15 V15 hf hfr hto) hZ (hw _ (List.mem_of_getElem? (i := 12) rfl)) (hw _ (List.mem_of_getElem? (i := 11) rfl)) (by decide) (by decide)) (g := (mkF m 231 #[.val (.int i0), .val (.int i1), .val (.int i2), .val (.int i3), .val (.ref b1), .val (.int fr), .val (.int to), .val (.int (3 : Int32))] [(.int to), (.int fr), (.ref b1)])) rfl (by rw [hml]; rfl) (argsL := [(.ref b1), (.int fr), (.int to)]) (rest := []) (lenOf pd_2 rfl) rfl (by show 2 * 0 + _ ≤ _; exact Nat.le_of_eq rfl) (hb hby at_231) (fun _ _ => ⟨rfl, e18, (by decide : 1 + 0 ≤ _), (by decide : 7 + 0 ≤ _)⟩)
      dsimp only [Pt.U, Pt.locs, Pt.cells, Pt.slots] at X38 l38 y38 z38 st38 hQ38
      subst l38 y38 z38
      obtain ⟨rfl, N38q, e38⟩ := hQ38
      have N38 := Fr.app N18 N38q
      replace G : Gets p e below _ (T38.setTop (mkF m 234 #[.val (.int i0), .val (.int i1), .val (.int i2), .val (.int i3), .val (.ref b1), .val (.int fr), .val (.int to), .val (.int (3 : Int32))] [(.int (own_he f to 7 fr))])) := fun t k => G t (st38 t k)
      replace G := own_iload (q := 236) G X38.here hx (hb hby at_234) rfl rfl
      have hc236_39 : (own_he f to 7 fr) = (3 : Int32) := (own_law f fr to hfr hto).2.1 hc114_17 hc133_19
      replace G := own_icmpNo (q := 239) G X38.here hx (hb hby at_236) (teq hc236_39).2 rfl
      replace G := own_iconst (q := 240) G X38.here hx (hb hby at_239) (v := (1 : Int32)) (by decide) rfl
      replace G := own_goto (q := 244) G X38.here hx (hb hby at_240) (by decide) (by decide)
      obtain ⟨fs, hr, hrun, hended, hW, hsame⟩ := X38.leave (v := some (.int (1 : Int32))) (fun h => by rw [Bd.returns] at h; cases h)
      refine ⟨_, _, G _ (retOut X38 hx Bd.returns rfl (Or.inl ⟨rfl, Or.inr (Or.inl rfl), _, rfl⟩) (hb hby at_244) hr), hrun, hended, _, _, rfl, ?_, ⟨_, rfl⟩, hW, hsame.mono (by decide) (by decide)⟩
      show Q0 Z i0 i1 i2 i3 h0 n0 _ T38.heap _
      rw [e38]
      exact ⟨rfl, N38⟩
  · replace G := own_ifNo (q := 117) G X16.here hx (hb hby at_114) ((if0 _ _).trans (feq hc114_17).1) rfl
    replace G := own_iconst (q := 118) G X16.here hx (hb hby at_117) (v := (2 : Int32)) (by decide) rfl
    replace G := own_istore (q := 120) (l' := #[.val (.int i0), .val (.int i1), .val (.int i2), .val (.int i3), .val (.ref b1), .val (.int fr), .val (.int to), .val (.int (2 : Int32))]) G X16.here hx (hb hby at_118) rfl rfl
    replace G := own_goto (q := 225) G X16.here hx (hb hby at_120) (by decide) (by decide)
    replace G := own_aload (q := 227) G X16.here hx (hb hby at_225) rfl rfl rfl
    replace G := own_iload (q := 229) G X16.here hx (hb hby at_227) rfl rfl
    replace G := own_iload (q := 231) G X16.here hx (hb hby at_229) rfl rfl
    obtain ⟨_, _, ⟨T40, L40, kk40, nn40⟩, -, X40, ⟨Lc40, hQ40, l40, y40, z40⟩, st40⟩ := Jvm.LawKit.callS X16 hx (y := (⟨"com/example/assertgate/assertgate/http/Request", "headEnd", "([BII)I"⟩ : MethodName)) hown (mvT hZ (hw _ (List.mem_of_getElem? (i := 9) rfl))) (mvT hZ (hw _ (List.mem_of_getElem? (i := 10) rfl))) (mvT hZ (hw _ (List.mem_of_getElem? (i := 11) rfl))) (mvT hZ (hw _ (List.mem_of_getElem? (i := 12) rfl))) (by decide) (backOf (W := 0) (rm3 l Z a0 hw [] b1 fr to k1 [(.int (nar .byte r_2)), (.int (nar .byte r_4)), (.int (nar .byte r_6)), (.int (nar .byte r_8)), (.int (nar .byte r_10)), (.int (nar .byte r_12)), (.int (nar .byte r_14))] f h15 n0 Z15 V15 hf hfr hto) hZ (hw _ (List.mem_of_getElem? (i := 12) rfl)) (hw _ (List.mem_of_getElem? (i := 11) rfl)) (by decide) (by decide)) (g := (mkF m 231 #[.val (.int i0), .val (.int i1), .val (.int i2), .val (.int i3), .val (.ref b1), .val (.int fr), .val (.int to), .val (.int (2 : Int32))] [(.int to), (.int fr), (.ref b1)])) rfl (by rw [hml]; rfl) (argsL := [(.ref b1), (.int fr), (.int to)]) (rest := []) (lenOf pd_2 rfl) rfl (by show 2 * 0 + _ ≤ _; exact Nat.le_of_eq rfl) (hb hby at_231) (fun _ _ => ⟨rfl, e16, (by decide : 1 + 0 ≤ _), (by decide : 7 + 0 ≤ _)⟩)
    dsimp only [Pt.U, Pt.locs, Pt.cells, Pt.slots] at X40 l40 y40 z40 st40 hQ40
    subst l40 y40 z40
    obtain ⟨rfl, N40q, e40⟩ := hQ40
    have N40 := Fr.app N16 N40q
    replace G : Gets p e below _ (T40.setTop (mkF m 234 #[.val (.int i0), .val (.int i1), .val (.int i2), .val (.int i3), .val (.ref b1), .val (.int fr), .val (.int to), .val (.int (2 : Int32))] [(.int (own_he f to 7 fr))])) := fun t k => G t (st40 t k)
    replace G := own_iload (q := 236) G X40.here hx (hb hby at_234) rfl rfl
    have hc236_41 : (own_he f to 7 fr) = (2 : Int32) := (own_law f fr to hfr hto).1 hc114_17
    replace G := own_icmpNo (q := 239) G X40.here hx (hb hby at_236) (teq hc236_41).2 rfl
    replace G := own_iconst (q := 240) G X40.here hx (hb hby at_239) (v := (1 : Int32)) (by decide) rfl
    replace G := own_goto (q := 244) G X40.here hx (hb hby at_240) (by decide) (by decide)
    obtain ⟨fs, hr, hrun, hended, hW, hsame⟩ := X40.leave (v := some (.int (1 : Int32))) (fun h => by rw [Bd.returns] at h; cases h)
    refine ⟨_, _, G _ (retOut X40 hx Bd.returns rfl (Or.inl ⟨rfl, Or.inr (Or.inl rfl), _, rfl⟩) (hb hby at_244) hr), hrun, hended, _, _, rfl, ?_, ⟨_, rfl⟩, hW, hsame.mono (by decide) (by decide)⟩
    show Q0 Z i0 i1 i2 i3 h0 n0 _ T40.heap _
    rw [e40]
    exact ⟨rfl, N40⟩
set_option maxRecDepth 65536 in
set_option maxHeartbeats 40000000 in
theorem comes_1 {Post : Tables → Env → Array Value → State → Outcome → State → Prop} (hpost : ∀ tb e args s v u, (limb_1_1.after args s (.returned v) u = true ∧ limb_1_2.after args s (.returned v) u = true ∧ True) → FrameEnd s (.returned v) u (Jvm.fieldLocs frame_1_writes args s ++ Jvm.arrayLocs frame_1_arrays args s ++ Jvm.staticLocs frame_1_statics s) 16 128 → Post tb e args s (.returned v) u) :
    ArmFor flags0 classFile x code maxLocals ret World_1 tables_1 room_1 Calls_1 rest_1 Pre_1 Post := by
  intro l hfl _ _ p e ha hc hk s m args below hf hA hF happ hP
  obtain ⟨hcalls, hrest, hpre⟩ := hP
  obtain ⟨-, -, -, hnamed, -, -, -, hat⟩ := (Spec.applies_iff hf).mp happ
  obtain ⟨hg, hn⟩ := and_e (Cond.before_iff.mp (show (Jvm.Cond.and given_1 narrow_1).before args s = true from hpre))
  obtain ⟨g1, g2⟩ := and_e hg
  obtain ⟨g3, g4⟩ := and_e g2
  obtain ⟨g5, g6⟩ := and_e g4
  obtain ⟨g7, g8⟩ := and_e g6
  obtain ⟨w0, w1, w2, w3, rfl⟩ : ∃ w0 w1 w2 w3 : Value, args = #[w0, w1, w2, w3] := by
    have hs : args.size = 4 := by simpa [Cond.value, given_1] using g1
    obtain ⟨L⟩ := args
    match L, hs with
    | [w0, w1, w2, w3], _ => exact ⟨w0, w1, w2, w3, rfl⟩
  have hw := fun d (hd : d ∈ tables_1) => atoms_spec (ws := Jvm.Cond.code x code maxLocals ret :: tables_1) hat d (List.mem_cons_of_mem _ hd)
  have hfit : Fit s := fun {y c} hc i hi => by
    obtain ⟨ha, rfl⟩ := Array.getElem?_eq_some_iff.mp hc
    have q := List.all_eq_true.mp ((Array.all_eq_true_iff_forall_mem.mp hF) _ (Array.getElem_mem ha)) i (List.mem_range.mpr hi)
    simpa [Array.getElem?_eq_getElem hi] using q
  obtain ⟨i0, ei0⟩ := is_v g3
  obtain rfl : w0 = (.int i0) := Option.some.inj ei0
  obtain ⟨i1, ei1⟩ := is_v g5
  obtain rfl : w1 = (.int i1) := Option.some.inj ei1
  obtain ⟨i2, ei2⟩ := is_v g7
  obtain rfl : w2 = (.int i2) := Option.some.inj ei2
  obtain ⟨i3, ei3⟩ := is_v g8
  obtain rfl : w3 = (.int i3) := Option.some.inj ei3
  obtain ⟨n, o, h1, h2, h3, _, L, rfl, ⟨rfl, N⟩, hq⟩ := rm0 l s _ hw tables_1 i0 i1 i2 i3 s.heap s.heap.size (Nat.le_refl _)  p e ha hc hk s m _ below hf ((Spec.applies_iff_loose hf).mp happ).1 ⟨rfl, State.Warmed39.refl s, rfl⟩ trivial
  refine ⟨n, _, h1, h2, h3, hpost _ _ _ _ _ _ ⟨Cond.after_iff.mpr rfl, Cond.after_iff.mpr (eq_i res_at (Term.int_eval (1)) rfl), trivial⟩ ⟨hq.1, hq.2.1, (hq.2.2.sift fun y hy => Or.inr (N y hy)).mono (by decide) (by decide)⟩⟩
theorem main_1_1 : Claimed_1_1 := comes_1 fun _ _ _ _ _ _ h hF => ⟨h.1, hF⟩
theorem main_1_2 : Claimed_1_2 := comes_1 fun _ _ _ _ _ _ h hF => ⟨h.2.1, hF⟩
end Jvm.Pilot.@@N@@
namespace Jvm.Pilot.@@N@@
open Jvm Jvm.ClassFile Sem Op Lib Jvm.Free Jvm.Stand Jvm.Pilot.@@N@@.Jvm.D
/-! MADE BY PROGRAM (witnessworld.py) out of the Statement's table words and the real class files: 9 classes; the members and pool entries that the words name. The judged class is class 1, her method 3. -/
namespace start1
open Jvm.ClassFile
def u (s : String) : CpInfo := .utf8 (stringToUtf16 s)
/-- a pool by its gaps: so many unusable entries, then the entry; so many at the end -/
def gap : Nat → List CpInfo → List CpInfo
  | 0, r => r
  | n + 1, r => .unusable :: gap n r
def poolList (es : List (Nat × CpInfo)) (last : Nat) : List CpInfo := es.foldr (fun e r => gap e.1 (e.2 :: r)) (gap last [])
def pool (es : List (Nat × CpInfo)) (last : Nat) : Array CpInfo := ⟨poolList es last⟩
def fileOf (pool : Array CpInfo) (this : Nat) (attrs : Array Attribute := #[]) (ms : Array MethodInfo := #[]) (fl : Nat := 33) (sup : Nat := 0) (ifs : Array Nat := #[]) (fds : Array FieldInfo := #[]) : ClassFile where
  minorVersion := 0
  majorVersion := 65
  constantPool := pool
  accessFlags := fl
  thisClass := this
  superClass := sup
  interfaces := ifs
  fields := fds
  methods := ms
  attributes := attrs
def plain (name : String) (sup : Option ClassId) : Class where
  name := name
  kind := .ordinary
  loader := none
  accessFlags := 33
  super := sup
  interfaces := #[]
  cf := none
  fields := #[]
  methods := #[]
  instanceTypes := #[]
  staticTypes := #[]
  resolved := #[]
  callSites := []
  init := .initialized
  statics := none
  mirror := none

def pool0 : Array CpInfo := pool [(5, u "<init>"), (0, u "()V"), (1, .class_ 10), (1, u "java/lang/Object")] 113

def k0m0 : Method := { name := "<init>", desc := "()V", sig := { parameters := [], returnType := none }, accessFlags := 1, code := none }
/-- java/lang/Object -/
def k0 : Class := { plain "java/lang/Object" none with
  accessFlags := 33
  interfaces := #[]
  cf := some (fileOf pool0 8 #[] #[{ accessFlags := 1, nameIndex := 5, descriptorIndex := 6, attributes := #[] }] 33 0 #[] #[])
  fields := #[]
  methods := #[k0m0]
  instanceTypes := #[]
  staticTypes := #[]
  resolved := Array.replicate 124 none
  statics := none }

def pool1 : Array CpInfo := pool [(2, .class_ 4), (1, u "java/lang/Object"), (0, u "<init>"), (0, u "()V"), (0, .methodref 8 9), (0, .class_ 10), (0, .nameAndType 11 12), (0, u "com/example/assertgate/assertgate/http/RequestHeadEndPinLaw"), (0, u "pick"), (0, u "(II)B"), (0, .integer 2147483647), (0, .methodref 8 15), (0, .nameAndType 16 17), (0, u "endsAt"), (0, u "([BIII)Z"), (0, .methodref 19 20), (0, .class_ 21), (0, .nameAndType 22 23), (0, u "com/example/assertgate/assertgate/http/Request"), (0, u "headEnd"), (0, u "([BII)I"), (3, u "law"), (0, u "(IIII)Z")] 4

def k1m0 : Method := { name := "<init>", desc := "()V", sig := { parameters := [], returnType := none }, accessFlags := 1, code := none }
def k1c1 : Code := { maxStack := 2, maxLocals := 3, code := method_2_code, exceptionTable := #[], attributes := #[] }
def k1m1 : Method := { name := "pick", desc := "(II)B", sig := { parameters := [.int, .int], returnType := some .byte }, accessFlags := 10, code := some k1c1 }
def k1c2 : Code := { maxStack := 3, maxLocals := 4, code := method_3_code, exceptionTable := #[], attributes := #[] }
def k1m2 : Method := { name := "endsAt", desc := "([BIII)Z", sig := { parameters := [(.array .byte), .int, .int, .int], returnType := some .boolean }, accessFlags := 10, code := some k1c2 }
def k1c3 : Code := { maxStack := 4, maxLocals := 8, code := code, exceptionTable := #[], attributes := #[] }
def k1m3 : Method := { name := "law", desc := "(IIII)Z", sig := { parameters := [.int, .int, .int, .int], returnType := some .boolean }, accessFlags := 9, code := some k1c3 }
/-- com/example/assertgate/assertgate/http/RequestHeadEndPinLaw -/
def k1 : Class := { plain "com/example/assertgate/assertgate/http/RequestHeadEndPinLaw" (some 0) with
  accessFlags := 49
  interfaces := #[]
  cf := some (fileOf pool1 8 #[] #[{ accessFlags := 1, nameIndex := 5, descriptorIndex := 6, attributes := #[] }, { accessFlags := 10, nameIndex := 11, descriptorIndex := 12, attributes := #[] }, { accessFlags := 10, nameIndex := 16, descriptorIndex := 17, attributes := #[] }, { accessFlags := 9, nameIndex := 27, descriptorIndex := 28, attributes := #[] }] 49 2 #[] #[])
  fields := #[]
  methods := #[k1m0, k1m1, k1m2, k1m3]
  instanceTypes := #[]
  staticTypes := #[]
  resolved := Array.replicate 33 none
  statics := none }

def pool2 : Array CpInfo := pool [(2, .class_ 4), (1, u "java/lang/Object"), (3, .class_ 10), (1, u "com/example/assertgate/assertgate/http/Request"), (0, u "method"), (0, u "Ljava/lang/String;"), (2, u "path"), (2, u "query"), (2, u "http11"), (0, u "Z"), (2, u "fields"), (0, u "Ljava/util/Map;"), (2, u "length"), (0, u "J"), (2, u "expectsContinue"), (2, u "body"), (0, u "[B"), (35, .class_ 74), (0, u "com/example/assertgate/assertgate/http/Request$Invalid"), (237, .class_ 313), (0, u "com/example/assertgate/assertgate/http/Request$1"), (42, u "HEAD_LIMIT"), (0, u "I"), (2, u "BODY_LIMIT"), (1, u "NOT_A_REQUEST_LINE"), (0, u "NOT_A_TARGET"), (0, u "TOKEN_SYMBOLS"), (0, u "QUERY_SYMBOLS"), (5, u "headEnd"), (0, u "([BII)I")] 84

def k2c0 : Code := { maxStack := 3, maxLocals := 4, code := prog_4_method_2_code, exceptionTable := #[], attributes := #[] }
def k2m0 : Method := { name := "headEnd", desc := "([BII)I", sig := { parameters := [(.array .byte), .int, .int], returnType := some .int }, accessFlags := 8, code := some k2c0 }
/-- com/example/assertgate/assertgate/http/Request -/
def k2 : Class := { plain "com/example/assertgate/assertgate/http/Request" (some 0) with
  accessFlags := 49
  interfaces := #[]
  cf := some (fileOf pool2 8 #[.nestMembers #[73, 312]] #[{ accessFlags := 8, nameIndex := 371, descriptorIndex := 372, attributes := #[] }] 49 2 #[] #[{ accessFlags := 24, nameIndex := 356, descriptorIndex := 357, attributes := #[] }, { accessFlags := 25, nameIndex := 360, descriptorIndex := 357, attributes := #[] }, { accessFlags := 26, nameIndex := 362, descriptorIndex := 12, attributes := #[] }, { accessFlags := 26, nameIndex := 363, descriptorIndex := 12, attributes := #[] }, { accessFlags := 26, nameIndex := 364, descriptorIndex := 12, attributes := #[] }, { accessFlags := 26, nameIndex := 365, descriptorIndex := 12, attributes := #[] }, { accessFlags := 18, nameIndex := 11, descriptorIndex := 12, attributes := #[] }, { accessFlags := 18, nameIndex := 15, descriptorIndex := 12, attributes := #[] }, { accessFlags := 18, nameIndex := 18, descriptorIndex := 12, attributes := #[] }, { accessFlags := 18, nameIndex := 21, descriptorIndex := 22, attributes := #[] }, { accessFlags := 18, nameIndex := 25, descriptorIndex := 26, attributes := #[] }, { accessFlags := 18, nameIndex := 29, descriptorIndex := 30, attributes := #[] }, { accessFlags := 18, nameIndex := 33, descriptorIndex := 22, attributes := #[] }, { accessFlags := 18, nameIndex := 36, descriptorIndex := 37, attributes := #[] }])
  fields := #[{ name := "HEAD_LIMIT", type := .int, accessFlags := 24, slot := 0, constantValue := 0 }, { name := "BODY_LIMIT", type := .int, accessFlags := 25, slot := 1, constantValue := 0 }, { name := "NOT_A_REQUEST_LINE", type := (.object "java/lang/String"), accessFlags := 26, slot := 2, constantValue := 0 }, { name := "NOT_A_TARGET", type := (.object "java/lang/String"), accessFlags := 26, slot := 3, constantValue := 0 }, { name := "TOKEN_SYMBOLS", type := (.object "java/lang/String"), accessFlags := 26, slot := 4, constantValue := 0 }, { name := "QUERY_SYMBOLS", type := (.object "java/lang/String"), accessFlags := 26, slot := 5, constantValue := 0 }, { name := "method", type := (.object "java/lang/String"), accessFlags := 18, slot := 0, constantValue := 0 }, { name := "path", type := (.object "java/lang/String"), accessFlags := 18, slot := 1, constantValue := 0 }, { name := "query", type := (.object "java/lang/String"), accessFlags := 18, slot := 2, constantValue := 0 }, { name := "http11", type := .boolean, accessFlags := 18, slot := 3, constantValue := 0 }, { name := "fields", type := (.object "java/util/Map"), accessFlags := 18, slot := 4, constantValue := 0 }, { name := "length", type := .long, accessFlags := 18, slot := 5, constantValue := 0 }, { name := "expectsContinue", type := .boolean, accessFlags := 18, slot := 6, constantValue := 0 }, { name := "body", type := (.array .byte), accessFlags := 18, slot := 7, constantValue := 0 }]
  methods := #[k2m0]
  instanceTypes := #[(.object "java/lang/String"), (.object "java/lang/String"), (.object "java/lang/String"), .boolean, (.object "java/util/Map"), .long, .boolean, (.array .byte)]
  staticTypes := #[.int, .int, (.object "java/lang/String"), (.object "java/lang/String"), (.object "java/lang/String"), (.object "java/lang/String")]
  resolved := Array.replicate 457 none
  statics := none }

def pool3 : Array CpInfo := pool [(1, u "java/lang/Cloneable"), (0, .class_ 1), (0, u "java/lang/Object"), (0, .class_ 3)] 3

/-- java/lang/Cloneable -/
def k3 : Class := { plain "java/lang/Cloneable" (some 0) with
  accessFlags := 1537
  interfaces := #[]
  cf := some (fileOf pool3 2 #[] #[] 1537 4 #[] #[])
  fields := #[]
  methods := #[]
  instanceTypes := #[]
  staticTypes := #[]
  resolved := Array.replicate 8 none
  statics := none }

def pool4 : Array CpInfo := pool [(1, u "java/io/Serializable"), (0, .class_ 1), (0, u "java/lang/Object"), (0, .class_ 3)] 3

/-- java/io/Serializable -/
def k4 : Class := { plain "java/io/Serializable" (some 0) with
  accessFlags := 1537
  interfaces := #[]
  cf := some (fileOf pool4 2 #[] #[] 1537 4 #[] #[])
  fields := #[]
  methods := #[]
  instanceTypes := #[]
  staticTypes := #[]
  resolved := Array.replicate 8 none
  statics := none }

/-- the primitive byte -/
def k5 : Class := { plain "byte" none with kind := .primitive 'B', accessFlags := 0x411 }
/-- [B -/
def k6 : Class := { plain "[B" (some 0) with kind := .array 5 .byte, interfaces := #[3, 4], accessFlags := 1041 }

/-- the primitive int -/
def k7 : Class := { plain "int" none with kind := .primitive 'I', accessFlags := 0x411 }
/-- [I -/
def k8 : Class := { plain "[I" (some 0) with kind := .array 7 .int, interfaces := #[3, 4], accessFlags := 1041 }

def heap : Heap := #[]
def classes : Array Class := #[k0, k1, k2, k3, k4, k5, k6, k7, k8]
def interned : List (Array UInt16 × Addr) := []
def slotsUsed : Nat := 0
def theMethod : MethodId := ⟨1, 3⟩
def args0 : Array Value := #[.int 70, .int 71, .int 2, .int 6]
def aboutOver (below : List Frame) : State where
  vm := { classes := classes, interned := interned.toArray }
  heap := heap
  slotsUsed := slotsUsed
  threads := #[{ frames := .invoking theMethod args0 :: below }]
def below0 : List Frame := [.native { method := ⟨0, 0⟩, args := #[] }]
def about1 : State := aboutOver below0
def p0 : Program := .bare "" "" ""
def e0 : Env := launch0.env 0 0 0
theorem w_frames : about1.frames = Frame.invoking theMethod args0 :: below0 := rfl
set_option maxRecDepth 65536 in
theorem w_args : argsFit about1.vm theMethod args0 = true := by decide +kernel
set_option maxRecDepth 65536 in
theorem w_heap : heapFits about1 = true := by decide +kernel
set_option maxRecDepth 65536 in
theorem w_runnable : about1.curStatus? = some .runnable := by decide +kernel
set_option maxRecDepth 65536 in
theorem w_alone : about1.alone = true := by decide +kernel
set_option maxRecDepth 65536 in
theorem w_named : about1.methodNamed? x = some theMethod := by decide +kernel
set_option maxRecDepth 65536 in
theorem w_hears : about1.hears theMethod below0 = true := by decide +kernel
set_option maxRecDepth 65536 in
theorem w_ripe : about1.ripe theMethod args0 below0 = true := by decide +kernel
theorem w_running : about1.status = .running := rfl
set_option maxRecDepth 65536 in
theorem w_room : about1.hasRoom e0.platform room_1 = true :=
  launch0.hasRoom_least _ room_1 (by decide +kernel) (by decide +kernel) (by decide +kernel) (by decide +kernel) (by decide +kernel) (by decide +kernel)
theorem allAtoms_all (ts : List Jvm.Cond) (a : Array Jvm.Value) (st : Jvm.State) : (allAtoms ts).before a st = ts.all (fun c => c.before a st) := by
  induction ts with
  | nil => rfl
  | cons c t ih =>
    show (Jvm.Cond.and c (allAtoms t)).before a st = _
    rw [Jvm.Cond.before_and, ih, List.all_cons]
def words1 : List Jvm.Cond := Jvm.Cond.code x code maxLocals ret :: tables_1
/-- a 'code' word, met by the world's own term for the bytes: nothing is compared byte by byte -/
theorem code_word {y : MethodName} {bytes : ByteArray} {mx : Nat} {rt : Option FieldType} {a : Array Value} {s : State} {m : MethodId} {meth : Method} {c : Code} (h1 : s.methodNamed? y = some m) (h2 : s.vm.method? m = some meth) (h3 : meth.code = some c) (h4 : c.code = bytes)
    (h5 : (c.maxLocals == mx && c.exceptionTable.isEmpty && decide (c.maxStack ≤ mostOperands) && decide (meth.sig.returnType = rt) && !meth.locks && decide (parseMethodDescriptor y.desc = some meth.sig)) = true) : (Jvm.Cond.code y bytes mx rt).before a s = true := by
  simp only [Bool.and_eq_true, beq_iff_eq, Bool.not_eq_true', decide_eq_true_eq] at h5
  obtain ⟨⟨⟨⟨⟨g1, g2⟩, g3⟩, g4⟩, g5⟩, g6⟩ := h5
  simp [Cond.before, Cond.holds, Cond.value, h1, h2, h3, h4, g1, g2, g3, g4, g5, g6]
def isCode : Jvm.Cond → Bool
  | .code _ _ _ _ => true
  | _ => false
theorem all_split {L : List Jvm.Cond} {P : Jvm.Cond → Bool} (h1 : L.all (fun c => isCode c || P c) = true) (h2 : ∀ c ∈ L.filter isCode, P c = true) : L.all P = true := by
  refine List.all_eq_true.mpr fun c hc => ?_
  have h := List.all_eq_true.mp h1 c hc
  rcases Bool.eq_false_or_eq_true (isCode c) with hi | hi
  · exact h2 c (List.mem_filter.mpr ⟨hc, hi⟩)
  · simpa [hi] using h
set_option maxRecDepth 65536 in
theorem w_c0 : (Jvm.Cond.code x code maxLocals ret).before args0 about1 = true := code_word (m := ⟨1, 3⟩) (meth := k1m3) (c := k1c3) (by decide +kernel) rfl rfl rfl (by decide +kernel)
set_option maxRecDepth 65536 in
theorem w_c1 : (Jvm.Cond.code ({ cls := "com/example/assertgate/assertgate/http/RequestHeadEndPinLaw", name := "pick", desc := "(II)B" } : Jvm.MethodName) method_2_code (3 : Nat) (Option.some Jvm.ClassFile.FieldType.byte)).before args0 about1 = true := code_word (m := ⟨1, 1⟩) (meth := k1m1) (c := k1c1) (by decide +kernel) rfl rfl rfl (by decide +kernel)
set_option maxRecDepth 65536 in
theorem w_c2 : (Jvm.Cond.code ({ cls := "com/example/assertgate/assertgate/http/RequestHeadEndPinLaw", name := "endsAt", desc := "([BIII)Z" } : Jvm.MethodName) method_3_code (4 : Nat) (Option.some Jvm.ClassFile.FieldType.boolean)).before args0 about1 = true := code_word (m := ⟨1, 2⟩) (meth := k1m2) (c := k1c2) (by decide +kernel) rfl rfl rfl (by decide +kernel)
set_option maxRecDepth 65536 in
theorem w_c3 : (Jvm.Cond.code ({ cls := "com/example/assertgate/assertgate/http/Request", name := "headEnd", desc := "([BII)I" } : Jvm.MethodName) prog_4_method_2_code (4 : Nat) (Option.some Jvm.ClassFile.FieldType.int)).before args0 about1 = true := code_word (m := ⟨2, 0⟩) (meth := k2m0) (c := k2c0) (by decide +kernel) rfl rfl rfl (by decide +kernel)
def codes1 : List Jvm.Cond := [Jvm.Cond.code x code maxLocals ret, Jvm.Cond.code ({ cls := "com/example/assertgate/assertgate/http/RequestHeadEndPinLaw", name := "pick", desc := "(II)B" } : Jvm.MethodName) method_2_code (3 : Nat) (Option.some Jvm.ClassFile.FieldType.byte), Jvm.Cond.code ({ cls := "com/example/assertgate/assertgate/http/RequestHeadEndPinLaw", name := "endsAt", desc := "([BIII)Z" } : Jvm.MethodName) method_3_code (4 : Nat) (Option.some Jvm.ClassFile.FieldType.boolean), Jvm.Cond.code ({ cls := "com/example/assertgate/assertgate/http/Request", name := "headEnd", desc := "([BII)I" } : Jvm.MethodName) prog_4_method_2_code (4 : Nat) (Option.some Jvm.ClassFile.FieldType.int)]
set_option maxRecDepth 65536 in
theorem codes_eq : words1.filter isCode = codes1 := rfl
theorem w_codes : ∀ c ∈ words1.filter isCode, c.before args0 about1 = true := by
  rw [codes_eq]
  intro c hc
  simp only [codes1, List.mem_cons, List.not_mem_nil, or_false] at hc
  rcases hc with rfl | rfl | rfl | rfl
  · exact w_c0
  · exact w_c1
  · exact w_c2
  · exact w_c3
set_option maxRecDepth 65536 in
theorem w_t1 : words1.all (fun c => isCode c || c.before args0 about1) = true := by decide +kernel
theorem w_tables : (allAtoms (Jvm.Cond.code x code maxLocals ret :: tables_1)).before args0 about1 = true := by
  rw [allAtoms_all]
  show words1.all (fun c => c.before args0 about1) = true
  refine all_split ?_ w_codes
  rw [w_t1]
set_option maxRecDepth 65536 in
theorem w_case : (Jvm.Cond.and given_1 narrow_1).before args0 about1 = true := by decide +kernel
theorem w_applies : (headSpec (Jvm.Cond.code x code maxLocals ret :: tables_1) room_1).applies x e0.platform about1 = true :=
  (Spec.applies_iff w_frames).mpr ⟨w_running, w_runnable, w_alone, w_named, w_hears, w_ripe, w_room, w_tables⟩
theorem atStart : AtStart classFile x code maxLocals ret World_1 tables_1 room_1 Calls_1 rest_1 Pre_1 launch0 p0 e0 about1 theMethod args0 below0 :=
  ⟨lists_1, trivial, launch0.admits_env _ _ _, launch0.least_env, fairChoices_fair.cas, fairChoices_fair.clock, w_frames, w_args, w_heap, w_applies, trivial, trivial, w_case⟩
end start1
theorem witness_1 : WitnessClaimed_1 := ⟨start1.p0, start1.e0, start1.about1, start1.theMethod, start1.args0, start1.below0, start1.atStart⟩
end Jvm.Pilot.@@N@@

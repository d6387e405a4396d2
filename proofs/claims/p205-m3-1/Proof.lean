import JvmDerived
import JvmDerived.Pilot.@@N@@Statement
import JvmDerived.Pilot.@@N@@Code
set_option linter.unusedVariables false
set_option linter.unusedSimpArgs false
namespace Jvm.Pilot.@@N@@
open Jvm Jvm.ClassFile Sem Op Lib Jvm.Free Jvm.Stand Jvm.LawKit Jvm.RoadKit Bundle Jvm.Pilot.@@N@@.Jvm.D
abbrev Gets (p : Program) (e : Env) (below : List Frame) (S0 S : State) : Prop := ∀ t, Steps p.tables e below S t → Steps p.tables e below S0 t
section Own
variable {p : Program} {e : Env} {below : List Frame} {S0 T : State} {m : MethodId} {c : Code} {pc q : Nat} {Ls : Array Slot} {st : List Value}
theorem own_iadd {x y v : Int32} (G : Gets p e below S0 (T.setTop (mkF m pc Ls (.int y :: .int x :: st)))) (h : At T m c below) (hx : p.tables.exec = Jvm.exec) (hd : decode c.code pc = .ok (.iadd, 1)) (hv : x + y = v) (hq : pc + 1 = q) : Gets p e below S0 (T.setTop (mkF m q Ls (.int v :: st))) := by
  subst hv hq; exact fun t k => G t (XS.iadd h hx rfl hd rfl k)
theorem own_isub {x y v : Int32} (G : Gets p e below S0 (T.setTop (mkF m pc Ls (.int y :: .int x :: st)))) (h : At T m c below) (hx : p.tables.exec = Jvm.exec) (hd : decode c.code pc = .ok (.isub, 1)) (hv : x - y = v) (hq : pc + 1 = q) : Gets p e below S0 (T.setTop (mkF m q Ls (.int v :: st))) := by
  subst hv hq; exact fun t k => G t (XS.isub h hx rfl hd rfl k)
theorem own_iand {x y v : Int32} (G : Gets p e below S0 (T.setTop (mkF m pc Ls (.int y :: .int x :: st)))) (h : At T m c below) (hx : p.tables.exec = Jvm.exec) (hd : decode c.code pc = .ok (.iand, 1)) (hv : x &&& y = v) (hq : pc + 1 = q) : Gets p e below S0 (T.setTop (mkF m q Ls (.int v :: st))) := by
  subst hv hq; exact fun t k => G t (XS.iand h hx rfl hd rfl k)
theorem own_ladd {x y v : Int64} (G : Gets p e below S0 (T.setTop (mkF m pc Ls (.long y :: .long x :: st)))) (h : At T m c below) (hx : p.tables.exec = Jvm.exec) (hd : decode c.code pc = .ok (.ladd, 1)) (hv : x + y = v) (hq : pc + 1 = q) : Gets p e below S0 (T.setTop (mkF m q Ls (.long v :: st))) := by
  subst hv hq; exact fun t k => G t (XS.ladd h hx rfl hd rfl k)
theorem own_lmul {x y v : Int64} (G : Gets p e below S0 (T.setTop (mkF m pc Ls (.long y :: .long x :: st)))) (h : At T m c below) (hx : p.tables.exec = Jvm.exec) (hd : decode c.code pc = .ok (.lmul, 1)) (hv : x * y = v) (hq : pc + 1 = q) : Gets p e below S0 (T.setTop (mkF m q Ls (.long v :: st))) := by
  subst hv hq; exact fun t k => G t (XS.lmul h hx rfl hd rfl k)
theorem own_land {x y v : Int64} (G : Gets p e below S0 (T.setTop (mkF m pc Ls (.long y :: .long x :: st)))) (h : At T m c below) (hx : p.tables.exec = Jvm.exec) (hd : decode c.code pc = .ok (.land, 1)) (hv : x &&& y = v) (hq : pc + 1 = q) : Gets p e below S0 (T.setTop (mkF m q Ls (.long v :: st))) := by
  subst hv hq; exact fun t k => G t (XS.land h hx rfl hd rfl k)
theorem own_lshr {x : Int64} {y : Int32} {v : Int64} (G : Gets p e below S0 (T.setTop (mkF m pc Ls (.int y :: .long x :: st)))) (h : At T m c below) (hx : p.tables.exec = Jvm.exec) (hd : decode c.code pc = .ok (.lshr, 1)) (hv : (x >>> (y &&& 0x3f).toInt64) = v) (hq : pc + 1 = q) : Gets p e below S0 (T.setTop (mkF m q Ls (.long v :: st))) := by
  subst hv hq; exact fun t k => G t (XS.lshr h hx rfl hd rfl k)
theorem own_lushr {x : Int64} {y : Int32} {v : Int64} (G : Gets p e below S0 (T.setTop (mkF m pc Ls (.int y :: .long x :: st)))) (h : At T m c below) (hx : p.tables.exec = Jvm.exec) (hd : decode c.code pc = .ok (.lushr, 1)) (hv : ((x.toUInt64 >>> (y &&& 0x3f).toInt64.toUInt64).toInt64) = v) (hq : pc + 1 = q) : Gets p e below S0 (T.setTop (mkF m q Ls (.long v :: st))) := by
  subst hv hq; exact fun t k => G t (XS.lushr h hx rfl hd rfl k)
theorem own_ldiv {x y v : Int64} (G : Gets p e below S0 (T.setTop (mkF m pc Ls (.long y :: .long x :: st)))) (h : At T m c below) (hx : p.tables.exec = Jvm.exec) (hd : decode c.code pc = .ok (.ldiv, 1)) (hy : y ≠ 0) (hv : x / y = v) (hq : pc + 1 = q) : Gets p e below S0 (T.setTop (mkF m q Ls (.long v :: st))) := by
  subst hv hq; exact fun t k => G t (XS.ldiv h hx rfl hd rfl hy k)
theorem own_irem {x y v : Int32} (G : Gets p e below S0 (T.setTop (mkF m pc Ls (.int y :: .int x :: st)))) (h : At T m c below) (hx : p.tables.exec = Jvm.exec) (hd : decode c.code pc = .ok (.irem, 1)) (hy : y ≠ 0) (hv : x % y = v) (hq : pc + 1 = q) : Gets p e below S0 (T.setTop (mkF m q Ls (.int v :: st))) := by
  subst hv hq; exact fun t k => G t (XS.irem h hx rfl hd rfl hy (by rw [Jvm.irem_eq_mod]; exact k))
theorem own_i2l {x : Int32} {v : Int64} (G : Gets p e below S0 (T.setTop (mkF m pc Ls (.int x :: st)))) (h : At T m c below) (hx : p.tables.exec = Jvm.exec) (hd : decode c.code pc = .ok (.i2l, 1)) (hv : (x.toInt64) = v) (hq : pc + 1 = q) : Gets p e below S0 (T.setTop (mkF m q Ls (.long v :: st))) := by
  subst hv hq; exact fun t k => G t (XS.i2l h hx rfl hd rfl k)
theorem own_l2i {x : Int64} {v : Int32} (G : Gets p e below S0 (T.setTop (mkF m pc Ls (.long x :: st)))) (h : At T m c below) (hx : p.tables.exec = Jvm.exec) (hd : decode c.code pc = .ok (.l2i, 1)) (hv : (x.toInt32) = v) (hq : pc + 1 = q) : Gets p e below S0 (T.setTop (mkF m q Ls (.int v :: st))) := by
  subst hv hq; exact fun t k => G t (XS.l2i h hx rfl hd rfl k)
theorem own_lcmp {x y : Int64} (G : Gets p e below S0 (T.setTop (mkF m pc Ls (.long y :: .long x :: st)))) (h : At T m c below) (hx : p.tables.exec = Jvm.exec) (hd : decode c.code pc = .ok (.lcmp, 1))  (hq : pc + 1 = q) : Gets p e below S0 (T.setTop (mkF m q Ls (.int (lcmpW x y) :: st))) := by
  subst hq; exact fun t k => G t (XS.lcmp h hx rfl hd rfl k)
theorem own_iconst {i : Int} {v : Int32} (G : Gets p e below S0 (T.setTop (mkF m pc Ls st))) (h : At T m c below) (hx : p.tables.exec = Jvm.exec) (hd : decode c.code pc = .ok (.iconst i, 1)) (hv : Int32.ofInt i = v) (hq : pc + 1 = q) : Gets p e below S0 (T.setTop (mkF m q Ls (.int v :: st))) := by
  subst hv hq; exact fun t k => G t (XS.iconst h hx rfl hd k)
theorem own_bipush {i : Int} {v : Int32} (G : Gets p e below S0 (T.setTop (mkF m pc Ls st))) (h : At T m c below) (hx : p.tables.exec = Jvm.exec) (hd : decode c.code pc = .ok (.bipush i, 2)) (hv : (Int8.ofInt i).toInt32 = v) (hq : pc + 2 = q) : Gets p e below S0 (T.setTop (mkF m q Ls (.int v :: st))) := by
  subst hv hq; exact fun t k => G t (XS.bipush h hx rfl hd k)
theorem own_lconst {i : Fin 2} {v : Int64} (G : Gets p e below S0 (T.setTop (mkF m pc Ls st))) (h : At T m c below) (hx : p.tables.exec = Jvm.exec) (hd : decode c.code pc = .ok (.lconst i, 1)) (hv : Int64.ofNat i = v) (hq : pc + 1 = q) : Gets p e below S0 (T.setTop (mkF m q Ls (.long v :: st))) := by
  subst hv hq; exact fun t k => G t (XS.lconst h hx rfl hd k)
theorem own_iload {i : Nat} {v : Int32} (G : Gets p e below S0 (T.setTop (mkF m pc Ls st))) (h : At T m c below) (hx : p.tables.exec = Jvm.exec) (hd : decode c.code pc = .ok (.iload i, 2)) (hl : Ls[i]? = some (.val (.int v))) (hq : pc + 2 = q) : Gets p e below S0 (T.setTop (mkF m q Ls (.int v :: st))) := by
  subst hq; exact fun t k => G t (XS.iload h hx rfl hd hl k)
theorem own_iloadN {i : Fin 4} {v : Int32} (G : Gets p e below S0 (T.setTop (mkF m pc Ls st))) (h : At T m c below) (hx : p.tables.exec = Jvm.exec) (hd : decode c.code pc = .ok (.iload_n i, 1)) (hl : Ls[i.val]? = some (.val (.int v))) (hq : pc + 1 = q) : Gets p e below S0 (T.setTop (mkF m q Ls (.int v :: st))) := by
  subst hq; exact fun t k => G t (XS.iloadN h hx rfl hd hl k)
theorem own_lload {i : Nat} {v : Int64} (G : Gets p e below S0 (T.setTop (mkF m pc Ls st))) (h : At T m c below) (hx : p.tables.exec = Jvm.exec) (hd : decode c.code pc = .ok (.lload i, 2)) (hl : Ls[i]? = some (.val (.long v))) (hq : pc + 2 = q) : Gets p e below S0 (T.setTop (mkF m q Ls (.long v :: st))) := by
  subst hq; exact fun t k => G t (XS.lload h hx rfl hd hl k)
theorem own_lloadN {i : Fin 4} {v : Int64} (G : Gets p e below S0 (T.setTop (mkF m pc Ls st))) (h : At T m c below) (hx : p.tables.exec = Jvm.exec) (hd : decode c.code pc = .ok (.lload_n i, 1)) (hl : Ls[i.val]? = some (.val (.long v))) (hq : pc + 1 = q) : Gets p e below S0 (T.setTop (mkF m q Ls (.long v :: st))) := by
  subst hq; exact fun t k => G t (XS.lloadN h hx rfl hd hl k)
theorem own_aload {i : Nat} {v : Value} (G : Gets p e below S0 (T.setTop (mkF m pc Ls st))) (h : At T m c below) (hx : p.tables.exec = Jvm.exec) (hd : decode c.code pc = .ok (.aload i, 2)) (hl : Ls[i]? = some (.val v)) (hv : v.isRef = true) (hq : pc + 2 = q) : Gets p e below S0 (T.setTop (mkF m q Ls (v :: st))) := by
  subst hq; exact fun t k => G t (XS.aload h hx rfl hd hl hv k)
theorem own_aloadN {i : Fin 4} {v : Value} (G : Gets p e below S0 (T.setTop (mkF m pc Ls st))) (h : At T m c below) (hx : p.tables.exec = Jvm.exec) (hd : decode c.code pc = .ok (.aload_n i, 1)) (hl : Ls[i.val]? = some (.val v)) (hv : v.isRef = true) (hq : pc + 1 = q) : Gets p e below S0 (T.setTop (mkF m q Ls (v :: st))) := by
  subst hq; exact fun t k => G t (XS.aloadN h hx rfl hd hl hv k)
theorem own_istore {i : Nat} {v : Int32} {l' : Array Slot} (G : Gets p e below S0 (T.setTop (mkF m pc Ls (.int v :: st)))) (h : At T m c below) (hx : p.tables.exec = Jvm.exec) (hd : decode c.code pc = .ok (.istore i, 2)) (hl : storeLocals Ls i (.int v) = some l') (hq : pc + 2 = q) : Gets p e below S0 (T.setTop (mkF m q l' st)) := by
  subst hq; exact fun t k => G t (XS.istore h hx rfl hd rfl hl k)
theorem own_lstore {i : Nat} {v : Int64} {l' : Array Slot} (G : Gets p e below S0 (T.setTop (mkF m pc Ls (.long v :: st)))) (h : At T m c below) (hx : p.tables.exec = Jvm.exec) (hd : decode c.code pc = .ok (.lstore i, 2)) (hl : storeLocals Ls i (.long v) = some l') (hq : pc + 2 = q) : Gets p e below S0 (T.setTop (mkF m q l' st)) := by
  subst hq; exact fun t k => G t (XS.lstore h hx rfl hd rfl hl k)
theorem own_lstoreN {i : Fin 4} {v : Int64} {l' : Array Slot} (G : Gets p e below S0 (T.setTop (mkF m pc Ls (.long v :: st)))) (h : At T m c below) (hx : p.tables.exec = Jvm.exec) (hd : decode c.code pc = .ok (.lstore_n i, 1)) (hl : storeLocals Ls i.val (.long v) = some l') (hq : pc + 1 = q) : Gets p e below S0 (T.setTop (mkF m q l' st)) := by
  subst hq; exact fun t k => G t (XS.lstoreN h hx rfl hd rfl hl k)
theorem own_astore {i : Nat} {v : Value} {l' : Array Slot} (G : Gets p e below S0 (T.setTop (mkF m pc Ls (v :: st)))) (h : At T m c below) (hx : p.tables.exec = Jvm.exec) (hd : decode c.code pc = .ok (.astore i, 2)) (hv : v.isRef = true) (hl : storeLocals Ls i v = some l') (hq : pc + 2 = q) : Gets p e below S0 (T.setTop (mkF m q l' st)) := by
  subst hq; exact fun t k => G t (XS.astore h hx rfl hd rfl hv hl k)
theorem own_dup {x : Value} (G : Gets p e below S0 (T.setTop (mkF m pc Ls (x :: st)))) (h : At T m c below) (hx : p.tables.exec = Jvm.exec) (hd : decode c.code pc = .ok (.dup, 1)) (hc : x.category = 1) (hq : pc + 1 = q) : Gets p e below S0 (T.setTop (mkF m q Ls (x :: x :: st))) := by
  subst hq; exact fun t k => G t (XS.dup h hx rfl hd rfl hc k)
theorem own_goto {o : Int} (G : Gets p e below S0 (T.setTop (mkF m pc Ls st))) (h : At T m c below) (hx : p.tables.exec = Jvm.exec) (hd : decode c.code pc = .ok (.goto o, 3))  (ho : 0 ≤ (pc : Int) + o) (hp : ((pc : Int) + o).toNat = q) : Gets p e below S0 (T.setTop (mkF m q Ls st)) := by
  exact fun t k => G t (XS.goto h hx rfl rfl hd ho hp k)
theorem own_ifYes {cd : ClassFile.Cond} {o : Int} {x : Int32} (G : Gets p e below S0 (T.setTop (mkF m pc Ls (.int x :: st)))) (h : At T m c below) (hx : p.tables.exec = Jvm.exec) (hd : decode c.code pc = .ok (.ifCond cd o, 3)) (hc : ifCond.holds cd x = true) (ho : 0 ≤ (pc : Int) + o) (hp : ((pc : Int) + o).toNat = q) : Gets p e below S0 (T.setTop (mkF m q Ls st)) := by
  exact fun t k => G t (XS.ifYes h hx rfl rfl hd rfl hc ho hp k)
theorem own_ifNo {cd : ClassFile.Cond} {o : Int} {x : Int32} (G : Gets p e below S0 (T.setTop (mkF m pc Ls (.int x :: st)))) (h : At T m c below) (hx : p.tables.exec = Jvm.exec) (hd : decode c.code pc = .ok (.ifCond cd o, 3)) (hc : ifCond.holds cd x = false) (hq : pc + 3 = q) : Gets p e below S0 (T.setTop (mkF m q Ls st)) := by
  subst hq; exact fun t k => G t (XS.ifNo h hx rfl hd rfl hc k)
theorem own_icmpYes {cd : ClassFile.Cond} {o : Int} {x y : Int32} (G : Gets p e below S0 (T.setTop (mkF m pc Ls (.int y :: .int x :: st)))) (h : At T m c below) (hx : p.tables.exec = Jvm.exec) (hd : decode c.code pc = .ok (.if_icmp cd o, 3)) (hc : if_icmp.holds cd x y = true) (ho : 0 ≤ (pc : Int) + o) (hp : ((pc : Int) + o).toNat = q) : Gets p e below S0 (T.setTop (mkF m q Ls st)) := by
  exact fun t k => G t (XS.icmpYes h hx rfl rfl hd rfl hc ho hp k)
theorem own_icmpNo {cd : ClassFile.Cond} {o : Int} {x y : Int32} (G : Gets p e below S0 (T.setTop (mkF m pc Ls (.int y :: .int x :: st)))) (h : At T m c below) (hx : p.tables.exec = Jvm.exec) (hd : decode c.code pc = .ok (.if_icmp cd o, 3)) (hc : if_icmp.holds cd x y = false) (hq : pc + 3 = q) : Gets p e below S0 (T.setTop (mkF m q Ls st)) := by
  subst hq; exact fun t k => G t (XS.icmpNo h hx rfl hd rfl hc k)
end Own
theorem own_lt32 {x y : Int32} : x < y ↔ x.toInt < y.toInt := Int32.lt_iff_toInt_lt
theorem own_rem {i u : Int32} (d : Int32) (k : Int) (hk : d.toInt = k) (h0 : 0 < k) (h : (u &&& 2147483647) % d = i) : 0 ≤ i.toInt ∧ i.toInt < k := by
  have a1 := c_mask u 2147483647 31 (by decide) (by decide)
  have a2 := (c_irem (u &&& 2147483647) d k hk).1 (by omega)
  rw [h] at a2
  have m2 := Int.emod_nonneg (u &&& 2147483647).toInt (show k ≠ 0 by omega)
  have m3 := Int.emod_lt_of_pos (u &&& 2147483647).toInt h0
  omega
theorem own_num {i : Int32} (k : Int32) (h : i.toInt = k.toInt) : i = k := Int32.toInt_inj.mp h
theorem own_cases1 {i : Int32} (h : 0 ≤ i.toInt ∧ i.toInt < 1) : i = 0 := by
  have e0 : (0 : Int32).toInt = 0 := rfl
  have q : i.toInt = 0 := by omega
  rcases q with q
  · exact (own_num 0 q)
theorem own_cases2 {i : Int32} (h : 0 ≤ i.toInt ∧ i.toInt < 2) : i = 0 ∨ i = 1 := by
  have e0 : (0 : Int32).toInt = 0 := rfl
  have e1 : (1 : Int32).toInt = 1 := rfl
  have q : i.toInt = 0 ∨ i.toInt = 1 := by omega
  rcases q with q | q
  · exact Or.inl (own_num 0 q)
  · exact Or.inr ((own_num 1 q))
theorem own_cases3 {i : Int32} (h : 0 ≤ i.toInt ∧ i.toInt < 3) : i = 0 ∨ i = 1 ∨ i = 2 := by
  have e0 : (0 : Int32).toInt = 0 := rfl
  have e1 : (1 : Int32).toInt = 1 := rfl
  have e2 : (2 : Int32).toInt = 2 := rfl
  have q : i.toInt = 0 ∨ i.toInt = 1 ∨ i.toInt = 2 := by omega
  rcases q with q | q | q
  · exact Or.inl (own_num 0 q)
  · exact Or.inr (Or.inl (own_num 1 q))
  · exact Or.inr (Or.inr ((own_num 2 q)))
theorem own_cases4 {i : Int32} (h : 0 ≤ i.toInt ∧ i.toInt < 4) : i = 0 ∨ i = 1 ∨ i = 2 ∨ i = 3 := by
  have e0 : (0 : Int32).toInt = 0 := rfl
  have e1 : (1 : Int32).toInt = 1 := rfl
  have e2 : (2 : Int32).toInt = 2 := rfl
  have e3 : (3 : Int32).toInt = 3 := rfl
  have q : i.toInt = 0 ∨ i.toInt = 1 ∨ i.toInt = 2 ∨ i.toInt = 3 := by omega
  rcases q with q | q | q | q
  · exact Or.inl (own_num 0 q)
  · exact Or.inr (Or.inl (own_num 1 q))
  · exact Or.inr (Or.inr (Or.inl (own_num 2 q)))
  · exact Or.inr (Or.inr (Or.inr ((own_num 3 q))))
theorem own_cases5 {i : Int32} (h : 0 ≤ i.toInt ∧ i.toInt < 5) : i = 0 ∨ i = 1 ∨ i = 2 ∨ i = 3 ∨ i = 4 := by
  have e0 : (0 : Int32).toInt = 0 := rfl
  have e1 : (1 : Int32).toInt = 1 := rfl
  have e2 : (2 : Int32).toInt = 2 := rfl
  have e3 : (3 : Int32).toInt = 3 := rfl
  have e4 : (4 : Int32).toInt = 4 := rfl
  have q : i.toInt = 0 ∨ i.toInt = 1 ∨ i.toInt = 2 ∨ i.toInt = 3 ∨ i.toInt = 4 := by omega
  rcases q with q | q | q | q | q
  · exact Or.inl (own_num 0 q)
  · exact Or.inr (Or.inl (own_num 1 q))
  · exact Or.inr (Or.inr (Or.inl (own_num 2 q)))
  · exact Or.inr (Or.inr (Or.inr (Or.inl (own_num 3 q))))
  · exact Or.inr (Or.inr (Or.inr (Or.inr ((own_num 4 q)))))
theorem own_cases6 {i : Int32} (h : 0 ≤ i.toInt ∧ i.toInt < 6) : i = 0 ∨ i = 1 ∨ i = 2 ∨ i = 3 ∨ i = 4 ∨ i = 5 := by
  have e0 : (0 : Int32).toInt = 0 := rfl
  have e1 : (1 : Int32).toInt = 1 := rfl
  have e2 : (2 : Int32).toInt = 2 := rfl
  have e3 : (3 : Int32).toInt = 3 := rfl
  have e4 : (4 : Int32).toInt = 4 := rfl
  have e5 : (5 : Int32).toInt = 5 := rfl
  have q : i.toInt = 0 ∨ i.toInt = 1 ∨ i.toInt = 2 ∨ i.toInt = 3 ∨ i.toInt = 4 ∨ i.toInt = 5 := by omega
  rcases q with q | q | q | q | q | q
  · exact Or.inl (own_num 0 q)
  · exact Or.inr (Or.inl (own_num 1 q))
  · exact Or.inr (Or.inr (Or.inl (own_num 2 q)))
  · exact Or.inr (Or.inr (Or.inr (Or.inl (own_num 3 q))))
  · exact Or.inr (Or.inr (Or.inr (Or.inr (Or.inl (own_num 4 q)))))
  · exact Or.inr (Or.inr (Or.inr (Or.inr (Or.inr ((own_num 5 q))))))
theorem own_cases7 {i : Int32} (h : 0 ≤ i.toInt ∧ i.toInt < 7) : i = 0 ∨ i = 1 ∨ i = 2 ∨ i = 3 ∨ i = 4 ∨ i = 5 ∨ i = 6 := by
  have e0 : (0 : Int32).toInt = 0 := rfl
  have e1 : (1 : Int32).toInt = 1 := rfl
  have e2 : (2 : Int32).toInt = 2 := rfl
  have e3 : (3 : Int32).toInt = 3 := rfl
  have e4 : (4 : Int32).toInt = 4 := rfl
  have e5 : (5 : Int32).toInt = 5 := rfl
  have e6 : (6 : Int32).toInt = 6 := rfl
  have q : i.toInt = 0 ∨ i.toInt = 1 ∨ i.toInt = 2 ∨ i.toInt = 3 ∨ i.toInt = 4 ∨ i.toInt = 5 ∨ i.toInt = 6 := by omega
  rcases q with q | q | q | q | q | q | q
  · exact Or.inl (own_num 0 q)
  · exact Or.inr (Or.inl (own_num 1 q))
  · exact Or.inr (Or.inr (Or.inl (own_num 2 q)))
  · exact Or.inr (Or.inr (Or.inr (Or.inl (own_num 3 q))))
  · exact Or.inr (Or.inr (Or.inr (Or.inr (Or.inl (own_num 4 q)))))
  · exact Or.inr (Or.inr (Or.inr (Or.inr (Or.inr (Or.inl (own_num 5 q))))))
  · exact Or.inr (Or.inr (Or.inr (Or.inr (Or.inr (Or.inr ((own_num 6 q)))))))
theorem own_cases8 {i : Int32} (h : 0 ≤ i.toInt ∧ i.toInt < 8) : i = 0 ∨ i = 1 ∨ i = 2 ∨ i = 3 ∨ i = 4 ∨ i = 5 ∨ i = 6 ∨ i = 7 := by
  have e0 : (0 : Int32).toInt = 0 := rfl
  have e1 : (1 : Int32).toInt = 1 := rfl
  have e2 : (2 : Int32).toInt = 2 := rfl
  have e3 : (3 : Int32).toInt = 3 := rfl
  have e4 : (4 : Int32).toInt = 4 := rfl
  have e5 : (5 : Int32).toInt = 5 := rfl
  have e6 : (6 : Int32).toInt = 6 := rfl
  have e7 : (7 : Int32).toInt = 7 := rfl
  have q : i.toInt = 0 ∨ i.toInt = 1 ∨ i.toInt = 2 ∨ i.toInt = 3 ∨ i.toInt = 4 ∨ i.toInt = 5 ∨ i.toInt = 6 ∨ i.toInt = 7 := by omega
  rcases q with q | q | q | q | q | q | q | q
  · exact Or.inl (own_num 0 q)
  · exact Or.inr (Or.inl (own_num 1 q))
  · exact Or.inr (Or.inr (Or.inl (own_num 2 q)))
  · exact Or.inr (Or.inr (Or.inr (Or.inl (own_num 3 q))))
  · exact Or.inr (Or.inr (Or.inr (Or.inr (Or.inl (own_num 4 q)))))
  · exact Or.inr (Or.inr (Or.inr (Or.inr (Or.inr (Or.inl (own_num 5 q))))))
  · exact Or.inr (Or.inr (Or.inr (Or.inr (Or.inr (Or.inr (Or.inl (own_num 6 q)))))))
  · exact Or.inr (Or.inr (Or.inr (Or.inr (Or.inr (Or.inr (Or.inr ((own_num 7 q))))))))

theorem own_ltL {x y : Int64} : x < y ↔ x.toInt < y.toInt := Int64.lt_iff_toInt_lt
def own_maxL (x y : Int64) : Int64 := if x < y then y else x
def own_ix (u n : Int32) : Int32 := (own_maxL (1 : Int64) ((u.toInt64 * n.toInt64 + (99 : Int64)) / (100 : Int64))).toInt32 - (1 : Int32)
theorem own_ixs (u n : Int32) (N : Int) (hN : n.toInt = N) (h1 : 1 ≤ N) (h2 : N ≤ 8) (hu : 0 ≤ u.toInt ∧ u.toInt ≤ 100) : 0 ≤ (own_ix u n).toInt ∧ (own_ix u n).toInt < N ∧ u.toInt * N ≤ 100 * ((own_ix u n).toInt + 1) ∧ ((own_ix u n).toInt = 0 ∨ 100 * (own_ix u n).toInt < u.toInt * N) := by
  subst hN
  have b1 : 0 ≤ u.toInt * n.toInt := Int.mul_nonneg (by omega) (by omega)
  have b2 : u.toInt * n.toInt ≤ 100 * n.toInt := Int.mul_le_mul_of_nonneg_right (by omega) (by omega)
  have e1 : (u.toInt64 * n.toInt64).toInt = u.toInt * n.toInt := by
    have p1 := c_lmul u.toInt64 n.toInt64
    rw [c_i2l, c_i2l] at p1
    have q1 := rng64 (u.toInt64 * n.toInt64)
    omega
  have e2 : (u.toInt64 * n.toInt64 + 99).toInt = u.toInt * n.toInt + 99 := by
    have p1 := c_ladd (u.toInt64 * n.toInt64) 99
    rw [e1, show (99 : Int64).toInt = 99 from rfl] at p1
    have q1 := rng64 (u.toInt64 * n.toInt64 + 99)
    omega
  have e3 := (c_ldiv (u.toInt64 * n.toInt64 + 99) 100 100 rfl (by decide)).1 (by omega)
  rw [e2] at e3
  have e4 : (own_maxL 1 ((u.toInt64 * n.toInt64 + 99) / 100)).toInt = if (u.toInt * n.toInt + 99) / 100 ≤ 1 then 1 else (u.toInt * n.toInt + 99) / 100 := by
    unfold own_maxL
    by_cases q : (1 : Int64) < (u.toInt64 * n.toInt64 + 99) / 100
    · rw [if_pos q, e3]; rw [own_ltL, e3, show (1 : Int64).toInt = 1 from rfl] at q; rw [if_neg (by omega)]
    · rw [if_neg q]; rw [own_ltL, e3, show (1 : Int64).toInt = 1 from rfl] at q; rw [if_pos (by omega)]; rfl
  unfold own_ix
  generalize own_maxL 1 ((u.toInt64 * n.toInt64 + 99) / 100) = M at *
  have e5 := c_l2i M
  have r5 := rng32 M.toInt32
  have e6 := c_isub M.toInt32 1
  rw [show (1 : Int32).toInt = 1 from rfl] at e6
  have r6 := rng32 (M.toInt32 - 1)
  generalize u.toInt * n.toInt = P at *
  split at e4 <;> omega
theorem d2_0 : decode jdk_29_method_66_code 0 = .ok (.lload_n 0, 1) := by decide +kernel
theorem d2_1 : decode jdk_29_method_66_code 1 = .ok (.lload_n 2, 1) := by decide +kernel
theorem d2_2 : decode jdk_29_method_66_code 2 = .ok (.lcmp, 1) := by decide +kernel
theorem d2_3 : decode jdk_29_method_66_code 3 = .ok (.ifCond .lt 7, 3) := by decide +kernel
theorem d2_6 : decode jdk_29_method_66_code 6 = .ok (.lload_n 0, 1) := by decide +kernel
theorem d2_7 : decode jdk_29_method_66_code 7 = .ok (.goto 4, 3) := by decide +kernel
theorem d2_10 : decode jdk_29_method_66_code 10 = .ok (.lload_n 2, 1) := by decide +kernel
theorem d2_11 : decode jdk_29_method_66_code 11 = .ok (.lreturn, 1) := by decide +kernel
theorem ef_2 (m : MethodId) (x0 : Int64) (x1 : Int64) : entryFrame m #[(.long x0), (.long x1)] 4 = mkF m 0 #[.val (.long x0), .second, .val (.long x1), .second] [] := by first | (simp [entryFrame, mkF, argsToLocals, Value.category]; done) | rfl
def Q2 (Z : State) (u : Int64) (w : Int64) (h0 : Heap) (n0 : Nat) (v : Option Value) (h : Heap) (L : List Loc) : Prop := v = some (.long (own_maxL u w)) ∧ Fr n0 L ∧ h = h0
set_option maxRecDepth 65536 in
set_option maxHeartbeats 40000000 in
theorem rm2 (l : Launch) (Z : State) (a0 : Array Value) (hw : ∀ d ∈ tables_1, d.before a0 Z = true) (ws : List Jvm.Cond) (u : Int64) (w : Int64) (h0 : Heap) (n0 : Nat) (Z0 : n0 ≤ h0.size)  :
    MetFree l (⟨"java/lang/Math", "max", "(JJ)J"⟩ : MethodName) (head1 (Jvm.Cond.code (⟨"java/lang/Math", "max", "(JJ)J"⟩ : MethodName) jdk_29_method_66_code 4 (some .long) :: ws) ({ frames := 0, cells := 0, slots := 0, locals := 0 } : Room)) (fun argz U => argz = #[(.long u), (.long w)] ∧ Z.Warmed39 U.vm ∧ U.heap = h0) (fun _ _ _ _ _ => True) (fun _ U o U' => ∃ v L, o = .returned v ∧ Q2 Z u w h0 n0 v U'.heap L ∧ FrameEnd U o U' L ({ frames := 0, cells := 0, slots := 0, locals := 0 } : Room).cells ({ frames := 0, cells := 0, slots := 0, locals := 0 } : Room).slots) := by
  refine MetFree.of_bodySF (Jvm.Free.JP.mathPlain rfl (by decide +kernel)) hisR ?_
  intro p e s m args below meth c s₁ Bd hml0 hP hK
  obtain ⟨rfl, hZ, hh⟩ := hP
  have hx := Bd.exec
  have hby := Bd.bytes
  have hml : c.maxLocals = 4 := hml0
  have hown : s.vm.findClass "java/lang/Math" = some m.cls := findClass_of_methodNamed Bd.named
  have hnm := (name_of_methodNamed Bd.named Bd.method).1
  have X0 : Stand p l e ({ frames := 0, cells := 0, slots := 0, locals := 0 } : Room) s m #[(.long u), (.long w)] below meth c s₁ [] 0 0 := Stand.of_body Bd
  have e0 : s₁.heap = h0 := by rw [← hh, Bd.state]; rfl
  have N0 := Fr.nil n0
  have G : Gets p e below (s₁.setTop (entryFrame m #[(.long u), (.long w)] 4)) (s₁.setTop (mkF m 0 #[.val (.long u), .second, .val (.long w), .second] [])) := fun t k => castTop (ef_2 m u w) k
  replace G := own_lloadN (q := 1) G X0.here hx (hb hby d2_0) rfl rfl
  replace G := own_lloadN (q := 2) G X0.here hx (hb hby d2_1) rfl rfl
  replace G := own_lcmp (q := 3) G X0.here hx (hb hby d2_2) rfl
  by_cases hc3_1 : u < w
  · replace G := own_ifYes (q := 10) G X0.here hx (hb hby d2_3) ((if0 _ _).trans (tlt ((lw_lt _ _).mpr hc3_1)).1) (by decide) (by decide)
    replace G := own_lloadN (q := 11) G X0.here hx (hb hby d2_10) rfl rfl
    obtain ⟨fs, hr, hrun, hended, hW, hsame⟩ := X0.leave (v := some (.long w)) (fun h => by rw [Bd.returns] at h; cases h)
    refine ⟨_, _, G _ (retOut X0 hx Bd.returns rfl (Or.inr (Or.inl ⟨rfl, rfl, _, rfl⟩)) (hb hby d2_11) hr), hrun, hended, _, _, rfl, ?_, ⟨_, rfl⟩, hW, hsame.mono (by decide) (by decide)⟩
    show Q2 Z u w h0 n0 _ s₁.heap _
    rw [e0]
    exact ⟨(congrArg (fun z => some (Value.long z)) (by simp [own_maxL, hc3_1])), N0, rfl⟩
  · replace G := own_ifNo (q := 6) G X0.here hx (hb hby d2_3) ((if0 _ _).trans (flt (fun z => hc3_1 ((lw_lt _ _).mp z))).1) rfl
    replace G := own_lloadN (q := 7) G X0.here hx (hb hby d2_6) rfl rfl
    replace G := own_goto (q := 11) G X0.here hx (hb hby d2_7) (by decide) (by decide)
    obtain ⟨fs, hr, hrun, hended, hW, hsame⟩ := X0.leave (v := some (.long u)) (fun h => by rw [Bd.returns] at h; cases h)
    refine ⟨_, _, G _ (retOut X0 hx Bd.returns rfl (Or.inr (Or.inl ⟨rfl, rfl, _, rfl⟩)) (hb hby d2_11) hr), hrun, hended, _, _, rfl, ?_, ⟨_, rfl⟩, hW, hsame.mono (by decide) (by decide)⟩
    show Q2 Z u w h0 n0 _ s₁.heap _
    rw [e0]
    exact ⟨(congrArg (fun z => some (Value.long z)) (by simp [own_maxL, hc3_1])), N0, rfl⟩
theorem pd_0 : parseMethodDescriptor "(JJ)J" = some ⟨[.long, .long], some .long⟩ := by decide +kernel
theorem d1_0 : decode prog_5_method_2_code 0 = .ok (.lconst 1, 1) := by decide +kernel
theorem d1_1 : decode prog_5_method_2_code 1 = .ok (.iload_n 1, 1) := by decide +kernel
theorem d1_2 : decode prog_5_method_2_code 2 = .ok (.i2l, 1) := by decide +kernel
theorem d1_3 : decode prog_5_method_2_code 3 = .ok (.aload_n 0, 1) := by decide +kernel
theorem d1_4 : decode prog_5_method_2_code 4 = .ok (.arraylength, 1) := by decide +kernel
theorem d1_5 : decode prog_5_method_2_code 5 = .ok (.i2l, 1) := by decide +kernel
theorem d1_6 : decode prog_5_method_2_code 6 = .ok (.lmul, 1) := by decide +kernel
theorem d1_7 : decode prog_5_method_2_code 7 = .ok (.ldc2_w 7, 3) := by decide +kernel
theorem d1_10 : decode prog_5_method_2_code 10 = .ok (.ladd, 1) := by decide +kernel
theorem d1_11 : decode prog_5_method_2_code 11 = .ok (.ldc2_w 9, 3) := by decide +kernel
theorem d1_14 : decode prog_5_method_2_code 14 = .ok (.ldiv, 1) := by decide +kernel
theorem d1_15 : decode prog_5_method_2_code 15 = .ok (.invokestatic 11, 3) := by decide +kernel
theorem d1_18 : decode prog_5_method_2_code 18 = .ok (.lstore_n 2, 1) := by decide +kernel
theorem d1_19 : decode prog_5_method_2_code 19 = .ok (.aload_n 0, 1) := by decide +kernel
theorem d1_20 : decode prog_5_method_2_code 20 = .ok (.lload_n 2, 1) := by decide +kernel
theorem d1_21 : decode prog_5_method_2_code 21 = .ok (.l2i, 1) := by decide +kernel
theorem d1_22 : decode prog_5_method_2_code 22 = .ok (.iconst 1, 1) := by decide +kernel
theorem d1_23 : decode prog_5_method_2_code 23 = .ok (.isub, 1) := by decide +kernel
theorem d1_24 : decode prog_5_method_2_code 24 = .ok (.laload, 1) := by decide +kernel
theorem d1_25 : decode prog_5_method_2_code 25 = .ok (.lreturn, 1) := by decide +kernel
theorem pn_com_example_cued_cued_Bench : plainName "com/example/cued/cued/Bench" = true := by first | (simp [plainName, overriddenIn]; done) | decide +kernel
theorem ef_1 (m : MethodId) (x0 : Addr) (x1 : Int32) : entryFrame m #[(.ref x0), (.int x1)] 4 = mkF m 0 #[.val (.ref x0), .val (.int x1), .unset, .unset] [] := by first | (simp [entryFrame, mkF, argsToLocals, Value.category]; done) | rfl
def Q1 (Z : State) (a : Addr) (u : Int32) (k : ClassId) (n : Int32) (vs : List Value) (r : Int64) (h0 : Heap) (n0 : Nat) (v : Option Value) (h : Heap) (L : List Loc) : Prop := v = some (.long r) ∧ Fr n0 L ∧ h = h0
set_option maxRecDepth 65536 in
set_option maxHeartbeats 40000000 in
theorem rm1 (l : Launch) (Z : State) (a0 : Array Value) (hw : ∀ d ∈ tables_1, d.before a0 Z = true) (ws : List Jvm.Cond) (a : Addr) (u : Int32) (k : ClassId) (n : Int32) (vs : List Value) (r : Int64) (h0 : Heap) (n0 : Nat) (Z0 : n0 ≤ h0.size) (P0 : Arv Z h0 a k .long n vs (.long (0 : Int64))) (hn1 : 1 ≤ n.toInt ∧ n.toInt ≤ 8) (hu : 0 ≤ u.toInt ∧ u.toInt ≤ 100) (hr : vs.getD (own_ix u n).toNatClampNeg (.long (0 : Int64)) = .long r) :
    MetFree l (⟨"com/example/cued/cued/Bench", "percentile", "([JI)J"⟩ : MethodName) (head1 (Jvm.Cond.code (⟨"com/example/cued/cued/Bench", "percentile", "([JI)J"⟩ : MethodName) prog_5_method_2_code 4 (some .long) :: ws) ({ frames := 1, cells := 0, slots := 0, locals := 15 } : Room)) (fun argz U => argz = #[(.ref a), (.int u)] ∧ Z.Warmed39 U.vm ∧ U.heap = h0) (fun _ _ _ _ _ => True) (fun _ U o U' => ∃ v L, o = .returned v ∧ Q1 Z a u k n vs r h0 n0 v U'.heap L ∧ FrameEnd U o U' L ({ frames := 1, cells := 0, slots := 0, locals := 15 } : Room).cells ({ frames := 1, cells := 0, slots := 0, locals := 15 } : Room).slots) := by
  refine MetFree.of_bodySF (plainFor_of_name pn_com_example_cued_cued_Bench) hisR ?_
  intro p e s m args below meth c s₁ Bd hml0 hP hK
  obtain ⟨rfl, hZ, hh⟩ := hP
  have hx := Bd.exec
  have hby := Bd.bytes
  have hml : c.maxLocals = 4 := hml0
  have hown : s.vm.findClass "com/example/cued/cued/Bench" = some m.cls := findClass_of_methodNamed Bd.named
  have hnm := (name_of_methodNamed Bd.named Bd.method).1
  have X0 : Stand p l e ({ frames := 1, cells := 0, slots := 0, locals := 15 } : Room) s m #[(.ref a), (.int u)] below meth c s₁ [] 0 0 := Stand.of_body Bd
  have e0 : s₁.heap = h0 := by rw [← hh, Bd.state]; rfl
  have N0 := Fr.nil n0
  have G : Gets p e below (s₁.setTop (entryFrame m #[(.ref a), (.int u)] 4)) (s₁.setTop (mkF m 0 #[.val (.ref a), .val (.int u), .unset, .unset] [])) := fun t k => castTop (ef_1 m a u) k
  replace G := own_lconst (q := 1) G X0.here hx (hb hby d1_0) (v := (1 : Int64)) (by decide) rfl
  replace G := own_iloadN (q := 2) G X0.here hx (hb hby d1_1) rfl rfl
  replace G := own_i2l (q := 3) G X0.here hx (hb hby d1_2) rfl rfl
  replace G := own_aloadN (q := 4) G X0.here hx (hb hby d1_3) rfl rfl rfl
  obtain ⟨c1, Ar1, -, S1, N1', -, -⟩ := id P0
  replace G : Gets p e below _ (s₁.setTop (mkF m 5 #[.val (.ref a), .val (.int u), .unset, .unset] [(.int n), (.long (u.toInt64)), (.long (1 : Int64))])) := fun t k => G t (X0.arraylength hx (by rw [e0]; exact Ar1.1) (State.isArrayOf_alike hZ.alike Ar1.2.1) (g := (mkF m 4 #[.val (.ref a), .val (.int u), .unset, .unset] [(.ref a), (.long (u.toInt64)), (.long (1 : Int64))])) rfl rfl (hb hby d1_4) t (by rw [len_of S1 N1']; exact k))
  replace G := own_i2l (q := 6) G X0.here hx (hb hby d1_5) rfl rfl
  replace G := own_lmul (q := 7) G X0.here hx (hb hby d1_6) rfl rfl
  replace G : Gets p e below _ (s₁.setTop (mkF m 10 #[.val (.ref a), .val (.int u), .unset, .unset] [(.long (99 : Int64)), (.long ((u.toInt64) * (n.toInt64))), (.long (1 : Int64))])) := fun t k => G t (X0.ldc2Long hx hown (mvT hZ (hw _ (List.mem_of_getElem? (i := 7) rfl))) (g := (mkF m 7 #[.val (.ref a), .val (.int u), .unset, .unset] [(.long ((u.toInt64) * (n.toInt64))), (.long (1 : Int64))])) rfl (hb hby d1_7) t k)
  replace G := own_ladd (q := 11) G X0.here hx (hb hby d1_10) rfl rfl
  replace G : Gets p e below _ (s₁.setTop (mkF m 14 #[.val (.ref a), .val (.int u), .unset, .unset] [(.long (100 : Int64)), (.long (((u.toInt64) * (n.toInt64)) + (99 : Int64))), (.long (1 : Int64))])) := fun t k => G t (X0.ldc2Long hx hown (mvT hZ (hw _ (List.mem_of_getElem? (i := 8) rfl))) (g := (mkF m 11 #[.val (.ref a), .val (.int u), .unset, .unset] [(.long (((u.toInt64) * (n.toInt64)) + (99 : Int64))), (.long (1 : Int64))])) rfl (hb hby d1_11) t k)
  replace G := own_ldiv (q := 15) G X0.here hx (hb hby d1_14) (by decide) rfl rfl
  obtain ⟨_, _, ⟨T2, L2, kk2, nn2⟩, -, X2, ⟨Lc2, hQ2, l2, y2, z2⟩, st2⟩ := Jvm.LawKit.callS X0 hx (y := (⟨"java/lang/Math", "max", "(JJ)J"⟩ : MethodName)) hown (mvT hZ (hw _ (List.mem_of_getElem? (i := 9) rfl))) (mvT hZ (hw _ (List.mem_of_getElem? (i := 10) rfl))) (mvT hZ (hw _ (List.mem_of_getElem? (i := 11) rfl))) (mvT hZ (hw _ (List.mem_of_getElem? (i := 12) rfl))) (by decide) (backOf (W := 0) (rm2 l Z a0 hw [] (1 : Int64) ((((u.toInt64) * (n.toInt64)) + (99 : Int64)) / (100 : Int64)) h0 n0 Z0 ) hZ (hw _ (List.mem_of_getElem? (i := 12) rfl)) (hw _ (List.mem_of_getElem? (i := 11) rfl)) (by decide) (by decide)) (g := (mkF m 15 #[.val (.ref a), .val (.int u), .unset, .unset] [(.long ((((u.toInt64) * (n.toInt64)) + (99 : Int64)) / (100 : Int64))), (.long (1 : Int64))])) rfl (by rw [hml]; rfl) (argsL := [(.long (1 : Int64)), (.long ((((u.toInt64) * (n.toInt64)) + (99 : Int64)) / (100 : Int64)))]) (rest := []) (lenOf pd_0 rfl) rfl (by show 2 * 0 + _ ≤ _; exact Nat.le_of_eq rfl) (hb hby d1_15) (fun _ _ => ⟨rfl, e0, (by decide : 0 + 0 ≤ _), (by decide : 0 + 0 ≤ _)⟩)
  dsimp only [Pt.U, Pt.locs, Pt.cells, Pt.slots] at X2 l2 y2 z2 st2 hQ2
  subst l2 y2 z2
  obtain ⟨rfl, N2q, e2⟩ := hQ2
  have N2 := Fr.app N0 N2q
  replace G : Gets p e below _ (T2.setTop (mkF m 18 #[.val (.ref a), .val (.int u), .unset, .unset] [(.long (own_maxL (1 : Int64) ((((u.toInt64) * (n.toInt64)) + (99 : Int64)) / (100 : Int64))))])) := fun t k => G t (st2 t k)
  replace G := own_lstoreN (q := 19) (l' := #[.val (.ref a), .val (.int u), .val (.long (own_maxL (1 : Int64) ((((u.toInt64) * (n.toInt64)) + (99 : Int64)) / (100 : Int64)))), .second]) G X2.here hx (hb hby d1_18) rfl rfl
  replace G := own_aloadN (q := 20) G X2.here hx (hb hby d1_19) rfl rfl rfl
  replace G := own_lloadN (q := 21) G X2.here hx (hb hby d1_20) rfl rfl
  replace G := own_l2i (q := 22) G X2.here hx (hb hby d1_21) rfl rfl
  replace G := own_iconst (q := 23) G X2.here hx (hb hby d1_22) (v := (1 : Int32)) (by decide) rfl
  obtain ⟨ix, hn_ix⟩ : ∃ z : Int32, (((own_maxL (1 : Int64) ((((u.toInt64) * (n.toInt64)) + (99 : Int64)) / (100 : Int64))).toInt32) - (1 : Int32)) = z := ⟨_, rfl⟩
  replace G := own_isub (q := 24) G X2.here hx (hb hby d1_23) hn_ix rfl
  have hix : own_ix u n = ix := hn_ix
  have sp := own_ixs u n _ rfl hn1.1 hn1.2 hu
  rw [hix] at sp hr
  have i1 : ¬ ix < 0 := by rw [own_lt32, show (0 : Int32).toInt = 0 from rfl]; omega
  have i2 : ix < n := by rw [own_lt32]; omega
  obtain ⟨c3, Ar3, -, S3, -, H3, -⟩ := id P0
  have hin3 : ¬ (ix < 0 ∨ c3.slots.size ≤ (ix).toNatClampNeg) := inb_of S3 ⟨i1, i2⟩
  replace G : Gets p e below _ (T2.setTop (mkF m 25 #[.val (.ref a), .val (.int u), .val (.long (own_maxL (1 : Int64) ((((u.toInt64) * (n.toInt64)) + (99 : Int64)) / (100 : Int64)))), .second] [(.long r)])) := fun t k => G t (X2.laload hx (j := ix) (v := (.long r)) (by rw [e2]; exact Ar3.1) (State.isArrayOf_alike hZ.alike Ar3.2.1) Ar3.2.2 hin3 (Has.at H3 hin3 hr) (g := (mkF m 24 #[.val (.ref a), .val (.int u), .val (.long (own_maxL (1 : Int64) ((((u.toInt64) * (n.toInt64)) + (99 : Int64)) / (100 : Int64)))), .second] [(.int ix), (.ref a)])) rfl rfl (hb hby d1_24) t k)
  obtain ⟨fs, hr, hrun, hended, hW, hsame⟩ := X2.leave (v := some (.long r)) (fun h => by rw [Bd.returns] at h; cases h)
  refine ⟨_, _, G _ (retOut X2 hx Bd.returns rfl (Or.inr (Or.inl ⟨rfl, rfl, _, rfl⟩)) (hb hby d1_25) hr), hrun, hended, _, _, rfl, ?_, ⟨_, rfl⟩, hW, hsame.mono (by decide) (by decide)⟩
  show Q1 Z a u k n vs r h0 n0 _ T2.heap _
  rw [e2]
  exact ⟨rfl, N2, rfl⟩
theorem pd_1 : parseMethodDescriptor "([JI)J" = some ⟨[(.array .long), .int], some .long⟩ := by decide +kernel
theorem pn_com_example_cued_cued_BenchPercentilePinLaw : plainName "com/example/cued/cued/BenchPercentilePinLaw" = true := by first | (simp [plainName, overriddenIn]; done) | decide +kernel
theorem ef_0 (m : MethodId) (x0 : Int64) (x1 : Int64) (x2 : Int32) (x3 : Int32) : entryFrame m #[(.long x0), (.long x1), (.int x2), (.int x3)] maxLocals = mkF m 0 #[.val (.long x0), .second, .val (.long x1), .second, .val (.int x2), .val (.int x3), .unset, .unset, .unset, .unset, .unset, .unset, .unset, .unset, .unset, .unset, .unset, .unset, .unset, .unset, .unset, .unset, .unset, .unset, .unset, .unset, .unset, .unset, .unset, .unset] [] := by first | (simp [entryFrame, mkF, argsToLocals, Value.category, maxLocals]; done) | rfl
def Q0 (Z : State) (i0 : Int64) (i1 : Int64) (i2 : Int32) (i3 : Int32) (h0 : Heap) (n0 : Nat) (v : Option Value) (h : Heap) (L : List Loc) : Prop := v = some (.int (1 : Int32)) ∧ Fr n0 L
set_option maxRecDepth 65536 in
set_option maxHeartbeats 40000000 in
theorem rm0 (l : Launch) (Z : State) (a0 : Array Value) (hw : ∀ d ∈ tables_1, d.before a0 Z = true) (ws : List Jvm.Cond) (i0 : Int64) (i1 : Int64) (i2 : Int32) (i3 : Int32) (h0 : Heap) (n0 : Nat) (Z0 : n0 ≤ h0.size)  :
    MetFree l x (head1 (Jvm.Cond.code x code maxLocals ret :: ws) room_1) (fun argz U => argz = #[(.long i0), (.long i1), (.int i2), (.int i3)] ∧ Z.Warmed39 U.vm ∧ U.heap = h0) (fun _ _ _ _ _ => True) (fun _ U o U' => ∃ v L, o = .returned v ∧ Q0 Z i0 i1 i2 i3 h0 n0 v U'.heap L ∧ FrameEnd U o U' L room_1.cells room_1.slots) := by
  refine MetFree.of_bodySF (plainFor_of_name pn_com_example_cued_cued_BenchPercentilePinLaw) hisR ?_
  intro p e s m args below meth c s₁ Bd hml0 hP hK
  obtain ⟨rfl, hZ, hh⟩ := hP
  have hx := Bd.exec
  have hby := Bd.bytes
  have hml : c.maxLocals = 30 := hml0
  have hown : s.vm.findClass "com/example/cued/cued/BenchPercentilePinLaw" = some m.cls := findClass_of_methodNamed Bd.named
  have hnm := (name_of_methodNamed Bd.named Bd.method).1
  have X0 : Stand p l e room_1 s m #[(.long i0), (.long i1), (.int i2), (.int i3)] below meth c s₁ [] 0 0 := Stand.of_body Bd
  have e0 : s₁.heap = h0 := by rw [← hh, Bd.state]; rfl
  have N0 := Fr.nil n0
  have G : Gets p e below (s₁.setTop (entryFrame m #[(.long i0), (.long i1), (.int i2), (.int i3)] maxLocals)) (s₁.setTop (mkF m 0 #[.val (.long i0), .second, .val (.long i1), .second, .val (.int i2), .val (.int i3), .unset, .unset, .unset, .unset, .unset, .unset, .unset, .unset, .unset, .unset, .unset, .unset, .unset, .unset, .unset, .unset, .unset, .unset, .unset, .unset, .unset, .unset, .unset, .unset] [])) := fun t k => castTop (ef_0 m i0 i1 i2 i3) k
  replace G := own_iload (q := 2) G X0.here hx (hb hby at_0) rfl rfl
  replace G := own_bipush (q := 4) G X0.here hx (hb hby at_2) (v := (7 : Int32)) (by decide) rfl
  obtain ⟨n7, hn_n7⟩ : ∃ z : Int32, (i2 &&& (7 : Int32)) = z := ⟨_, rfl⟩
  replace G := own_iand (q := 5) G X0.here hx (hb hby at_4) hn_n7 rfl
  replace G := own_iconst (q := 6) G X0.here hx (hb hby at_5) (v := (1 : Int32)) (by decide) rfl
  obtain ⟨nn, hn_nn⟩ : ∃ z : Int32, (n7 + (1 : Int32)) = z := ⟨_, rfl⟩
  replace G := own_iadd (q := 7) G X0.here hx (hb hby at_6) hn_nn rfl
  replace G := own_istore (q := 9) (l' := #[.val (.long i0), .second, .val (.long i1), .second, .val (.int i2), .val (.int i3), .val (.int nn), .unset, .unset, .unset, .unset, .unset, .unset, .unset, .unset, .unset, .unset, .unset, .unset, .unset, .unset, .unset, .unset, .unset, .unset, .unset, .unset, .unset, .unset, .unset]) G X0.here hx (hb hby at_7) rfl rfl
  replace G := own_iload (q := 11) G X0.here hx (hb hby at_9) rfl rfl
  replace G : Gets p e below _ (s₁.setTop (mkF m 13 #[.val (.long i0), .second, .val (.long i1), .second, .val (.int i2), .val (.int i3), .val (.int nn), .unset, .unset, .unset, .unset, .unset, .unset, .unset, .unset, .unset, .unset, .unset, .unset, .unset, .unset, .unset, .unset, .unset, .unset, .unset, .unset, .unset, .unset, .unset] [(.int (2147483647 : Int32)), (.int i3)])) := fun t k => G t (X0.ldcInt hx hown (mvT hZ (hw _ (List.mem_of_getElem? (i := 0) rfl))) (g := (mkF m 11 #[.val (.long i0), .second, .val (.long i1), .second, .val (.int i2), .val (.int i3), .val (.int nn), .unset, .unset, .unset, .unset, .unset, .unset, .unset, .unset, .unset, .unset, .unset, .unset, .unset, .unset, .unset, .unset, .unset, .unset, .unset, .unset, .unset, .unset, .unset] [(.int i3)])) rfl (hb hby at_11) t k)
  obtain ⟨u7, hn_u7⟩ : ∃ z : Int32, (i3 &&& (2147483647 : Int32)) = z := ⟨_, rfl⟩
  replace G := own_iand (q := 14) G X0.here hx (hb hby at_13) hn_u7 rfl
  replace G := own_bipush (q := 16) G X0.here hx (hb hby at_14) (v := (101 : Int32)) (by decide) rfl
  obtain ⟨uu, hn_uu⟩ : ∃ z : Int32, (u7 % (101 : Int32)) = z := ⟨_, rfl⟩
  replace G := own_irem (q := 17) G X0.here hx (hb hby at_16) (by decide) hn_uu rfl
  replace G := own_istore (q := 19) (l' := #[.val (.long i0), .second, .val (.long i1), .second, .val (.int i2), .val (.int i3), .val (.int nn), .val (.int uu), .unset, .unset, .unset, .unset, .unset, .unset, .unset, .unset, .unset, .unset, .unset, .unset, .unset, .unset, .unset, .unset, .unset, .unset, .unset, .unset, .unset, .unset]) G X0.here hx (hb hby at_17) rfl rfl
  replace G := own_lloadN (q := 20) G X0.here hx (hb hby at_19) rfl rfl
  replace G := own_iconst (q := 21) G X0.here hx (hb hby at_20) (v := (4 : Int32)) (by decide) rfl
  obtain ⟨v0, hn_v0⟩ : ∃ z : Int64, (i0 >>> ((4 : Int32) &&& 0x3f).toInt64) = z := ⟨_, rfl⟩
  replace G := own_lshr (q := 22) G X0.here hx (hb hby at_21) hn_v0 rfl
  replace G := own_lstore (q := 24) (l' := #[.val (.long i0), .second, .val (.long i1), .second, .val (.int i2), .val (.int i3), .val (.int nn), .val (.int uu), .val (.long v0), .second, .unset, .unset, .unset, .unset, .unset, .unset, .unset, .unset, .unset, .unset, .unset, .unset, .unset, .unset, .unset, .unset, .unset, .unset, .unset, .unset]) G X0.here hx (hb hby at_22) rfl rfl
  replace G := own_lload (q := 26) G X0.here hx (hb hby at_24) rfl rfl
  replace G := own_lloadN (q := 27) G X0.here hx (hb hby at_26) rfl rfl
  replace G : Gets p e below _ (s₁.setTop (mkF m 30 #[.val (.long i0), .second, .val (.long i1), .second, .val (.int i2), .val (.int i3), .val (.int nn), .val (.int uu), .val (.long v0), .second, .unset, .unset, .unset, .unset, .unset, .unset, .unset, .unset, .unset, .unset, .unset, .unset, .unset, .unset, .unset, .unset, .unset, .unset, .unset, .unset] [(.long (255 : Int64)), (.long i1), (.long v0)])) := fun t k => G t (X0.ldc2Long hx hown (mvT hZ (hw _ (List.mem_of_getElem? (i := 1) rfl))) (g := (mkF m 27 #[.val (.long i0), .second, .val (.long i1), .second, .val (.int i2), .val (.int i3), .val (.int nn), .val (.int uu), .val (.long v0), .second, .unset, .unset, .unset, .unset, .unset, .unset, .unset, .unset, .unset, .unset, .unset, .unset, .unset, .unset, .unset, .unset, .unset, .unset, .unset, .unset] [(.long i1), (.long v0)])) rfl (hb hby at_27) t k)
  obtain ⟨t1, hn_t1⟩ : ∃ z : Int64, (i1 &&& (255 : Int64)) = z := ⟨_, rfl⟩
  replace G := own_land (q := 31) G X0.here hx (hb hby at_30) hn_t1 rfl
  obtain ⟨s1, hn_s1⟩ : ∃ z : Int64, (v0 + t1) = z := ⟨_, rfl⟩
  replace G := own_ladd (q := 32) G X0.here hx (hb hby at_31) hn_s1 rfl
  replace G := own_lconst (q := 33) G X0.here hx (hb hby at_32) (v := (1 : Int64)) (by decide) rfl
  obtain ⟨v1, hn_v1⟩ : ∃ z : Int64, (s1 + (1 : Int64)) = z := ⟨_, rfl⟩
  replace G := own_ladd (q := 34) G X0.here hx (hb hby at_33) hn_v1 rfl
  replace G := own_lstore (q := 36) (l' := #[.val (.long i0), .second, .val (.long i1), .second, .val (.int i2), .val (.int i3), .val (.int nn), .val (.int uu), .val (.long v0), .second, .val (.long v1), .second, .unset, .unset, .unset, .unset, .unset, .unset, .unset, .unset, .unset, .unset, .unset, .unset, .unset, .unset, .unset, .unset, .unset, .unset]) G X0.here hx (hb hby at_34) rfl rfl
  replace G := own_lload (q := 38) G X0.here hx (hb hby at_36) rfl rfl
  replace G := own_lloadN (q := 39) G X0.here hx (hb hby at_38) rfl rfl
  replace G := own_bipush (q := 41) G X0.here hx (hb hby at_39) (v := (8 : Int32)) (by decide) rfl
  obtain ⟨x2, hn_x2⟩ : ∃ z : Int64, ((i1.toUInt64 >>> ((8 : Int32) &&& 0x3f).toInt64.toUInt64).toInt64) = z := ⟨_, rfl⟩
  replace G := own_lushr (q := 42) G X0.here hx (hb hby at_41) hn_x2 rfl
  replace G : Gets p e below _ (s₁.setTop (mkF m 45 #[.val (.long i0), .second, .val (.long i1), .second, .val (.int i2), .val (.int i3), .val (.int nn), .val (.int uu), .val (.long v0), .second, .val (.long v1), .second, .unset, .unset, .unset, .unset, .unset, .unset, .unset, .unset, .unset, .unset, .unset, .unset, .unset, .unset, .unset, .unset, .unset, .unset] [(.long (255 : Int64)), (.long x2), (.long v1)])) := fun t k => G t (X0.ldc2Long hx hown (mvT hZ (hw _ (List.mem_of_getElem? (i := 1) rfl))) (g := (mkF m 42 #[.val (.long i0), .second, .val (.long i1), .second, .val (.int i2), .val (.int i3), .val (.int nn), .val (.int uu), .val (.long v0), .second, .val (.long v1), .second, .unset, .unset, .unset, .unset, .unset, .unset, .unset, .unset, .unset, .unset, .unset, .unset, .unset, .unset, .unset, .unset, .unset, .unset] [(.long x2), (.long v1)])) rfl (hb hby at_42) t k)
  obtain ⟨t2, hn_t2⟩ : ∃ z : Int64, (x2 &&& (255 : Int64)) = z := ⟨_, rfl⟩
  replace G := own_land (q := 46) G X0.here hx (hb hby at_45) hn_t2 rfl
  obtain ⟨s2, hn_s2⟩ : ∃ z : Int64, (v1 + t2) = z := ⟨_, rfl⟩
  replace G := own_ladd (q := 47) G X0.here hx (hb hby at_46) hn_s2 rfl
  replace G := own_lconst (q := 48) G X0.here hx (hb hby at_47) (v := (1 : Int64)) (by decide) rfl
  obtain ⟨v2, hn_v2⟩ : ∃ z : Int64, (s2 + (1 : Int64)) = z := ⟨_, rfl⟩
  replace G := own_ladd (q := 49) G X0.here hx (hb hby at_48) hn_v2 rfl
  replace G := own_lstore (q := 51) (l' := #[.val (.long i0), .second, .val (.long i1), .second, .val (.int i2), .val (.int i3), .val (.int nn), .val (.int uu), .val (.long v0), .second, .val (.long v1), .second, .val (.long v2), .second, .unset, .unset, .unset, .unset, .unset, .unset, .unset, .unset, .unset, .unset, .unset, .unset, .unset, .unset, .unset, .unset]) G X0.here hx (hb hby at_49) rfl rfl
  replace G := own_lload (q := 53) G X0.here hx (hb hby at_51) rfl rfl
  replace G := own_lloadN (q := 54) G X0.here hx (hb hby at_53) rfl rfl
  replace G := own_bipush (q := 56) G X0.here hx (hb hby at_54) (v := (16 : Int32)) (by decide) rfl
  obtain ⟨x3, hn_x3⟩ : ∃ z : Int64, ((i1.toUInt64 >>> ((16 : Int32) &&& 0x3f).toInt64.toUInt64).toInt64) = z := ⟨_, rfl⟩
  replace G := own_lushr (q := 57) G X0.here hx (hb hby at_56) hn_x3 rfl
  replace G : Gets p e below _ (s₁.setTop (mkF m 60 #[.val (.long i0), .second, .val (.long i1), .second, .val (.int i2), .val (.int i3), .val (.int nn), .val (.int uu), .val (.long v0), .second, .val (.long v1), .second, .val (.long v2), .second, .unset, .unset, .unset, .unset, .unset, .unset, .unset, .unset, .unset, .unset, .unset, .unset, .unset, .unset, .unset, .unset] [(.long (255 : Int64)), (.long x3), (.long v2)])) := fun t k => G t (X0.ldc2Long hx hown (mvT hZ (hw _ (List.mem_of_getElem? (i := 1) rfl))) (g := (mkF m 57 #[.val (.long i0), .second, .val (.long i1), .second, .val (.int i2), .val (.int i3), .val (.int nn), .val (.int uu), .val (.long v0), .second, .val (.long v1), .second, .val (.long v2), .second, .unset, .unset, .unset, .unset, .unset, .unset, .unset, .unset, .unset, .unset, .unset, .unset, .unset, .unset, .unset, .unset] [(.long x3), (.long v2)])) rfl (hb hby at_57) t k)
  obtain ⟨t3, hn_t3⟩ : ∃ z : Int64, (x3 &&& (255 : Int64)) = z := ⟨_, rfl⟩
  replace G := own_land (q := 61) G X0.here hx (hb hby at_60) hn_t3 rfl
  obtain ⟨s3, hn_s3⟩ : ∃ z : Int64, (v2 + t3) = z := ⟨_, rfl⟩
  replace G := own_ladd (q := 62) G X0.here hx (hb hby at_61) hn_s3 rfl
  replace G := own_lconst (q := 63) G X0.here hx (hb hby at_62) (v := (1 : Int64)) (by decide) rfl
  obtain ⟨v3, hn_v3⟩ : ∃ z : Int64, (s3 + (1 : Int64)) = z := ⟨_, rfl⟩
  replace G := own_ladd (q := 64) G X0.here hx (hb hby at_63) hn_v3 rfl
  replace G := own_lstore (q := 66) (l' := #[.val (.long i0), .second, .val (.long i1), .second, .val (.int i2), .val (.int i3), .val (.int nn), .val (.int uu), .val (.long v0), .second, .val (.long v1), .second, .val (.long v2), .second, .val (.long v3), .second, .unset, .unset, .unset, .unset, .unset, .unset, .unset, .unset, .unset, .unset, .unset, .unset, .unset, .unset]) G X0.here hx (hb hby at_64) rfl rfl
  replace G := own_lload (q := 68) G X0.here hx (hb hby at_66) rfl rfl
  replace G := own_lloadN (q := 69) G X0.here hx (hb hby at_68) rfl rfl
  replace G := own_bipush (q := 71) G X0.here hx (hb hby at_69) (v := (24 : Int32)) (by decide) rfl
  obtain ⟨x4, hn_x4⟩ : ∃ z : Int64, ((i1.toUInt64 >>> ((24 : Int32) &&& 0x3f).toInt64.toUInt64).toInt64) = z := ⟨_, rfl⟩
  replace G := own_lushr (q := 72) G X0.here hx (hb hby at_71) hn_x4 rfl
  replace G : Gets p e below _ (s₁.setTop (mkF m 75 #[.val (.long i0), .second, .val (.long i1), .second, .val (.int i2), .val (.int i3), .val (.int nn), .val (.int uu), .val (.long v0), .second, .val (.long v1), .second, .val (.long v2), .second, .val (.long v3), .second, .unset, .unset, .unset, .unset, .unset, .unset, .unset, .unset, .unset, .unset, .unset, .unset, .unset, .unset] [(.long (255 : Int64)), (.long x4), (.long v3)])) := fun t k => G t (X0.ldc2Long hx hown (mvT hZ (hw _ (List.mem_of_getElem? (i := 1) rfl))) (g := (mkF m 72 #[.val (.long i0), .second, .val (.long i1), .second, .val (.int i2), .val (.int i3), .val (.int nn), .val (.int uu), .val (.long v0), .second, .val (.long v1), .second, .val (.long v2), .second, .val (.long v3), .second, .unset, .unset, .unset, .unset, .unset, .unset, .unset, .unset, .unset, .unset, .unset, .unset, .unset, .unset] [(.long x4), (.long v3)])) rfl (hb hby at_72) t k)
  obtain ⟨t4, hn_t4⟩ : ∃ z : Int64, (x4 &&& (255 : Int64)) = z := ⟨_, rfl⟩
  replace G := own_land (q := 76) G X0.here hx (hb hby at_75) hn_t4 rfl
  obtain ⟨s4, hn_s4⟩ : ∃ z : Int64, (v3 + t4) = z := ⟨_, rfl⟩
  replace G := own_ladd (q := 77) G X0.here hx (hb hby at_76) hn_s4 rfl
  replace G := own_lconst (q := 78) G X0.here hx (hb hby at_77) (v := (1 : Int64)) (by decide) rfl
  obtain ⟨v4, hn_v4⟩ : ∃ z : Int64, (s4 + (1 : Int64)) = z := ⟨_, rfl⟩
  replace G := own_ladd (q := 79) G X0.here hx (hb hby at_78) hn_v4 rfl
  replace G := own_lstore (q := 81) (l' := #[.val (.long i0), .second, .val (.long i1), .second, .val (.int i2), .val (.int i3), .val (.int nn), .val (.int uu), .val (.long v0), .second, .val (.long v1), .second, .val (.long v2), .second, .val (.long v3), .second, .val (.long v4), .second, .unset, .unset, .unset, .unset, .unset, .unset, .unset, .unset, .unset, .unset, .unset, .unset]) G X0.here hx (hb hby at_79) rfl rfl
  replace G := own_lload (q := 83) G X0.here hx (hb hby at_81) rfl rfl
  replace G := own_lloadN (q := 84) G X0.here hx (hb hby at_83) rfl rfl
  replace G := own_bipush (q := 86) G X0.here hx (hb hby at_84) (v := (32 : Int32)) (by decide) rfl
  obtain ⟨x5, hn_x5⟩ : ∃ z : Int64, ((i1.toUInt64 >>> ((32 : Int32) &&& 0x3f).toInt64.toUInt64).toInt64) = z := ⟨_, rfl⟩
  replace G := own_lushr (q := 87) G X0.here hx (hb hby at_86) hn_x5 rfl
  replace G : Gets p e below _ (s₁.setTop (mkF m 90 #[.val (.long i0), .second, .val (.long i1), .second, .val (.int i2), .val (.int i3), .val (.int nn), .val (.int uu), .val (.long v0), .second, .val (.long v1), .second, .val (.long v2), .second, .val (.long v3), .second, .val (.long v4), .second, .unset, .unset, .unset, .unset, .unset, .unset, .unset, .unset, .unset, .unset, .unset, .unset] [(.long (255 : Int64)), (.long x5), (.long v4)])) := fun t k => G t (X0.ldc2Long hx hown (mvT hZ (hw _ (List.mem_of_getElem? (i := 1) rfl))) (g := (mkF m 87 #[.val (.long i0), .second, .val (.long i1), .second, .val (.int i2), .val (.int i3), .val (.int nn), .val (.int uu), .val (.long v0), .second, .val (.long v1), .second, .val (.long v2), .second, .val (.long v3), .second, .val (.long v4), .second, .unset, .unset, .unset, .unset, .unset, .unset, .unset, .unset, .unset, .unset, .unset, .unset] [(.long x5), (.long v4)])) rfl (hb hby at_87) t k)
  obtain ⟨t5, hn_t5⟩ : ∃ z : Int64, (x5 &&& (255 : Int64)) = z := ⟨_, rfl⟩
  replace G := own_land (q := 91) G X0.here hx (hb hby at_90) hn_t5 rfl
  obtain ⟨s5, hn_s5⟩ : ∃ z : Int64, (v4 + t5) = z := ⟨_, rfl⟩
  replace G := own_ladd (q := 92) G X0.here hx (hb hby at_91) hn_s5 rfl
  replace G := own_lconst (q := 93) G X0.here hx (hb hby at_92) (v := (1 : Int64)) (by decide) rfl
  obtain ⟨v5, hn_v5⟩ : ∃ z : Int64, (s5 + (1 : Int64)) = z := ⟨_, rfl⟩
  replace G := own_ladd (q := 94) G X0.here hx (hb hby at_93) hn_v5 rfl
  replace G := own_lstore (q := 96) (l' := #[.val (.long i0), .second, .val (.long i1), .second, .val (.int i2), .val (.int i3), .val (.int nn), .val (.int uu), .val (.long v0), .second, .val (.long v1), .second, .val (.long v2), .second, .val (.long v3), .second, .val (.long v4), .second, .val (.long v5), .second, .unset, .unset, .unset, .unset, .unset, .unset, .unset, .unset, .unset, .unset]) G X0.here hx (hb hby at_94) rfl rfl
  replace G := own_lload (q := 98) G X0.here hx (hb hby at_96) rfl rfl
  replace G := own_lloadN (q := 99) G X0.here hx (hb hby at_98) rfl rfl
  replace G := own_bipush (q := 101) G X0.here hx (hb hby at_99) (v := (40 : Int32)) (by decide) rfl
  obtain ⟨x6, hn_x6⟩ : ∃ z : Int64, ((i1.toUInt64 >>> ((40 : Int32) &&& 0x3f).toInt64.toUInt64).toInt64) = z := ⟨_, rfl⟩
  replace G := own_lushr (q := 102) G X0.here hx (hb hby at_101) hn_x6 rfl
  replace G : Gets p e below _ (s₁.setTop (mkF m 105 #[.val (.long i0), .second, .val (.long i1), .second, .val (.int i2), .val (.int i3), .val (.int nn), .val (.int uu), .val (.long v0), .second, .val (.long v1), .second, .val (.long v2), .second, .val (.long v3), .second, .val (.long v4), .second, .val (.long v5), .second, .unset, .unset, .unset, .unset, .unset, .unset, .unset, .unset, .unset, .unset] [(.long (255 : Int64)), (.long x6), (.long v5)])) := fun t k => G t (X0.ldc2Long hx hown (mvT hZ (hw _ (List.mem_of_getElem? (i := 1) rfl))) (g := (mkF m 102 #[.val (.long i0), .second, .val (.long i1), .second, .val (.int i2), .val (.int i3), .val (.int nn), .val (.int uu), .val (.long v0), .second, .val (.long v1), .second, .val (.long v2), .second, .val (.long v3), .second, .val (.long v4), .second, .val (.long v5), .second, .unset, .unset, .unset, .unset, .unset, .unset, .unset, .unset, .unset, .unset] [(.long x6), (.long v5)])) rfl (hb hby at_102) t k)
  obtain ⟨t6, hn_t6⟩ : ∃ z : Int64, (x6 &&& (255 : Int64)) = z := ⟨_, rfl⟩
  replace G := own_land (q := 106) G X0.here hx (hb hby at_105) hn_t6 rfl
  obtain ⟨s6, hn_s6⟩ : ∃ z : Int64, (v5 + t6) = z := ⟨_, rfl⟩
  replace G := own_ladd (q := 107) G X0.here hx (hb hby at_106) hn_s6 rfl
  replace G := own_lconst (q := 108) G X0.here hx (hb hby at_107) (v := (1 : Int64)) (by decide) rfl
  obtain ⟨v6, hn_v6⟩ : ∃ z : Int64, (s6 + (1 : Int64)) = z := ⟨_, rfl⟩
  replace G := own_ladd (q := 109) G X0.here hx (hb hby at_108) hn_v6 rfl
  replace G := own_lstore (q := 111) (l' := #[.val (.long i0), .second, .val (.long i1), .second, .val (.int i2), .val (.int i3), .val (.int nn), .val (.int uu), .val (.long v0), .second, .val (.long v1), .second, .val (.long v2), .second, .val (.long v3), .second, .val (.long v4), .second, .val (.long v5), .second, .val (.long v6), .second, .unset, .unset, .unset, .unset, .unset, .unset, .unset, .unset]) G X0.here hx (hb hby at_109) rfl rfl
  replace G := own_lload (q := 113) G X0.here hx (hb hby at_111) rfl rfl
  replace G := own_lloadN (q := 114) G X0.here hx (hb hby at_113) rfl rfl
  replace G := own_bipush (q := 116) G X0.here hx (hb hby at_114) (v := (48 : Int32)) (by decide) rfl
  obtain ⟨x7, hn_x7⟩ : ∃ z : Int64, ((i1.toUInt64 >>> ((48 : Int32) &&& 0x3f).toInt64.toUInt64).toInt64) = z := ⟨_, rfl⟩
  replace G := own_lushr (q := 117) G X0.here hx (hb hby at_116) hn_x7 rfl
  replace G : Gets p e below _ (s₁.setTop (mkF m 120 #[.val (.long i0), .second, .val (.long i1), .second, .val (.int i2), .val (.int i3), .val (.int nn), .val (.int uu), .val (.long v0), .second, .val (.long v1), .second, .val (.long v2), .second, .val (.long v3), .second, .val (.long v4), .second, .val (.long v5), .second, .val (.long v6), .second, .unset, .unset, .unset, .unset, .unset, .unset, .unset, .unset] [(.long (255 : Int64)), (.long x7), (.long v6)])) := fun t k => G t (X0.ldc2Long hx hown (mvT hZ (hw _ (List.mem_of_getElem? (i := 1) rfl))) (g := (mkF m 117 #[.val (.long i0), .second, .val (.long i1), .second, .val (.int i2), .val (.int i3), .val (.int nn), .val (.int uu), .val (.long v0), .second, .val (.long v1), .second, .val (.long v2), .second, .val (.long v3), .second, .val (.long v4), .second, .val (.long v5), .second, .val (.long v6), .second, .unset, .unset, .unset, .unset, .unset, .unset, .unset, .unset] [(.long x7), (.long v6)])) rfl (hb hby at_117) t k)
  obtain ⟨t7, hn_t7⟩ : ∃ z : Int64, (x7 &&& (255 : Int64)) = z := ⟨_, rfl⟩
  replace G := own_land (q := 121) G X0.here hx (hb hby at_120) hn_t7 rfl
  obtain ⟨s7, hn_s7⟩ : ∃ z : Int64, (v6 + t7) = z := ⟨_, rfl⟩
  replace G := own_ladd (q := 122) G X0.here hx (hb hby at_121) hn_s7 rfl
  replace G := own_lconst (q := 123) G X0.here hx (hb hby at_122) (v := (1 : Int64)) (by decide) rfl
  obtain ⟨v7, hn_v7⟩ : ∃ z : Int64, (s7 + (1 : Int64)) = z := ⟨_, rfl⟩
  replace G := own_ladd (q := 124) G X0.here hx (hb hby at_123) hn_v7 rfl
  replace G := own_lstore (q := 126) (l' := #[.val (.long i0), .second, .val (.long i1), .second, .val (.int i2), .val (.int i3), .val (.int nn), .val (.int uu), .val (.long v0), .second, .val (.long v1), .second, .val (.long v2), .second, .val (.long v3), .second, .val (.long v4), .second, .val (.long v5), .second, .val (.long v6), .second, .val (.long v7), .second, .unset, .unset, .unset, .unset, .unset, .unset]) G X0.here hx (hb hby at_124) rfl rfl
  have hv0 : -576460752303423488 ≤ v0.toInt ∧ v0.toInt < 576460752303423488 := by
    have A := c_lshr i0 4 4 (by decide)
    rw [hn_v0] at A
    have := rng64 i0
    omega
  have hv1 : v1.toInt = v0.toInt + t1.toInt + 1 ∧ 0 ≤ t1.toInt ∧ t1.toInt ≤ 255 := by
    have A := c_maskL i1 255 8 (by decide) (by decide)
    rw [hn_t1] at A
    have B := c_ladd v0 t1
    rw [hn_s1] at B
    have RB := rng64 s1
    have C := c_ladd s1 1
    rw [hn_v1, show (1 : Int64).toInt = 1 from rfl] at C
    have RC := rng64 v1
    omega
  have hv2 : v2.toInt = v1.toInt + t2.toInt + 1 ∧ 0 ≤ t2.toInt ∧ t2.toInt ≤ 255 := by
    have A := c_maskL x2 255 8 (by decide) (by decide)
    rw [hn_t2] at A
    have B := c_ladd v1 t2
    rw [hn_s2] at B
    have RB := rng64 s2
    have C := c_ladd s2 1
    rw [hn_v2, show (1 : Int64).toInt = 1 from rfl] at C
    have RC := rng64 v2
    omega
  have hv3 : v3.toInt = v2.toInt + t3.toInt + 1 ∧ 0 ≤ t3.toInt ∧ t3.toInt ≤ 255 := by
    have A := c_maskL x3 255 8 (by decide) (by decide)
    rw [hn_t3] at A
    have B := c_ladd v2 t3
    rw [hn_s3] at B
    have RB := rng64 s3
    have C := c_ladd s3 1
    rw [hn_v3, show (1 : Int64).toInt = 1 from rfl] at C
    have RC := rng64 v3
    omega
  have hv4 : v4.toInt = v3.toInt + t4.toInt + 1 ∧ 0 ≤ t4.toInt ∧ t4.toInt ≤ 255 := by
    have A := c_maskL x4 255 8 (by decide) (by decide)
    rw [hn_t4] at A
    have B := c_ladd v3 t4
    rw [hn_s4] at B
    have RB := rng64 s4
    have C := c_ladd s4 1
    rw [hn_v4, show (1 : Int64).toInt = 1 from rfl] at C
    have RC := rng64 v4
    omega
  have hv5 : v5.toInt = v4.toInt + t5.toInt + 1 ∧ 0 ≤ t5.toInt ∧ t5.toInt ≤ 255 := by
    have A := c_maskL x5 255 8 (by decide) (by decide)
    rw [hn_t5] at A
    have B := c_ladd v4 t5
    rw [hn_s5] at B
    have RB := rng64 s5
    have C := c_ladd s5 1
    rw [hn_v5, show (1 : Int64).toInt = 1 from rfl] at C
    have RC := rng64 v5
    omega
  have hv6 : v6.toInt = v5.toInt + t6.toInt + 1 ∧ 0 ≤ t6.toInt ∧ t6.toInt ≤ 255 := by
    have A := c_maskL x6 255 8 (by decide) (by decide)
    rw [hn_t6] at A
    have B := c_ladd v5 t6
    rw [hn_s6] at B
    have RB := rng64 s6
    have C := c_ladd s6 1
    rw [hn_v6, show (1 : Int64).toInt = 1 from rfl] at C
    have RC := rng64 v6
    omega
  have hv7 : v7.toInt = v6.toInt + t7.toInt + 1 ∧ 0 ≤ t7.toInt ∧ t7.toInt ≤ 255 := by
    have A := c_maskL x7 255 8 (by decide) (by decide)
    rw [hn_t7] at A
    have B := c_ladd v6 t7
    rw [hn_s7] at B
    have RB := rng64 s7
    have C := c_ladd s7 1
    rw [hn_v7, show (1 : Int64).toInt = 1 from rfl] at C
    have RC := rng64 v7
    omega
  have huu : 0 ≤ uu.toInt ∧ uu.toInt ≤ 100 := by
    rw [← hn_u7] at hn_uu
    have := own_rem 101 101 rfl (by decide) hn_uu
    omega
  have hnn : 0 ≤ (nn - 1).toInt ∧ (nn - 1).toInt < 8 := by
    have A := c_mask i2 7 3 (by decide) (by decide)
    rw [hn_n7] at A
    have B := c_iadd n7 1
    rw [hn_nn, show (1 : Int32).toInt = 1 from rfl] at B
    have RB := rng32 nn
    have C := c_isub nn 1
    rw [show (1 : Int32).toInt = 1 from rfl] at C
    have RC := rng32 (nn - 1)
    omega
  have hno : nn = 1 ∨ nn = 2 ∨ nn = 3 ∨ nn = 4 ∨ nn = 5 ∨ nn = 6 ∨ nn = 7 ∨ nn = 8 := by
    have e : nn = nn - 1 + 1 := (Int32.sub_add_cancel nn 1).symm
    rcases own_cases8 hnn with q | q | q | q | q | q | q | q <;> rw [q] at e <;> subst e <;> decide
  rcases hno with rfl | rfl | rfl | rfl | rfl | rfl | rfl | rfl
  · replace G := own_iload (q := 128) G X0.here hx (hb hby at_126) rfl rfl
    replace G := own_iconst (q := 129) G X0.here hx (hb hby at_128) (v := (1 : Int32)) (by decide) rfl
    have hc129_1 : (1 : Int32) = (1 : Int32) := by decide
    replace G := own_icmpNo (q := 132) G X0.here hx (hb hby at_129) (teq hc129_1).2 rfl
    replace G := own_iconst (q := 133) G X0.here hx (hb hby at_132) (v := (1 : Int32)) (by decide) rfl
    obtain ⟨T2, h2, k2, X2, e2, E2, A2, st2⟩ := newP X0 hx hZ (hw _ (List.mem_of_getElem? (i := 2) rfl)) e0 (g := (mkF m 133 #[.val (.long i0), .second, .val (.long i1), .second, .val (.int i2), .val (.int i3), .val (.int (1 : Int32)), .val (.int uu), .val (.long v0), .second, .val (.long v1), .second, .val (.long v2), .second, .val (.long v3), .second, .val (.long v4), .second, .val (.long v5), .second, .val (.long v6), .second, .val (.long v7), .second, .unset, .unset, .unset, .unset, .unset, .unset] [(.int (1 : Int32))])) rfl (hb hby at_133) rfl (by decide) (cap := 1) (by decide) (by decide) (by decide) (by decide)
    obtain ⟨b2, g2⟩ : ∃ z, z = h0.size := ⟨_, rfl⟩
    rw [← g2] at A2 st2
    have ge_b2 : n0 ≤ b2 := Nat.le_trans Z0 (Nat.le_of_eq g2.symm)
    have Z2 : n0 ≤ h2.size := Nat.le_trans Z0 E2.1
    have V2 : Arv Z h2 b2 k2 .long (1 : Int32) [(.long (0 : Int64))] (.long (0 : Int64)) := (Arv.new A2 (by decide)).pad (pad_rep [] (.long (0 : Int64)) 1)
    replace G : Gets p e below _ (T2.setTop (mkF m 135 #[.val (.long i0), .second, .val (.long i1), .second, .val (.int i2), .val (.int i3), .val (.int (1 : Int32)), .val (.int uu), .val (.long v0), .second, .val (.long v1), .second, .val (.long v2), .second, .val (.long v3), .second, .val (.long v4), .second, .val (.long v5), .second, .val (.long v6), .second, .val (.long v7), .second, .unset, .unset, .unset, .unset, .unset, .unset] [(.ref b2)])) := fun t k => G t (st2 t k)
    replace G := own_dup (q := 136) G X2.here hx (hb hby at_135) rfl rfl
    replace G := own_iconst (q := 137) G X2.here hx (hb hby at_136) (v := (0 : Int32)) (by decide) rfl
    replace G := own_lload (q := 139) G X2.here hx (hb hby at_137) rfl rfl
    obtain ⟨c3, Ar3, q3, S3, N3', H3, G3'⟩ := id V2
    have hin3 : ¬ ((0 : Int32) < 0 ∨ c3.slots.size ≤ ((0 : Int32)).toNatClampNeg) := inb_of S3 ⟨by decide, by decide⟩
    obtain ⟨T3, h3, X3, e3, W3, st3⟩ := stJ X2 hx hZ e2 Ar3 (j := (0 : Int32)) hin3 (g := (mkF m 139 #[.val (.long i0), .second, .val (.long i1), .second, .val (.int i2), .val (.int i3), .val (.int (1 : Int32)), .val (.int uu), .val (.long v0), .second, .val (.long v1), .second, .val (.long v2), .second, .val (.long v3), .second, .val (.long v4), .second, .val (.long v5), .second, .val (.long v6), .second, .val (.long v7), .second, .unset, .unset, .unset, .unset, .unset, .unset] [(.long v0), (.int (0 : Int32)), (.ref b2), (.ref b2)])) rfl rfl (hb hby at_139)
    have N3 := Fr.snoc X3 N0 ge_b2
    have Z3 : n0 ≤ h3.size := Nat.le_trans Z2 (Keep.of_wr W3).1
    have V3 : Arv Z h3 b2 k2 .long (1 : Int32) [(.long v0)] (.long (0 : Int64)) := Arv.set Ar3 q3 S3 N3' H3 G3' rfl W3 0 rfl (Nat.le_of_ble_eq_true rfl)
    replace G : Gets p e below _ (T3.setTop (mkF m 140 #[.val (.long i0), .second, .val (.long i1), .second, .val (.int i2), .val (.int i3), .val (.int (1 : Int32)), .val (.int uu), .val (.long v0), .second, .val (.long v1), .second, .val (.long v2), .second, .val (.long v3), .second, .val (.long v4), .second, .val (.long v5), .second, .val (.long v6), .second, .val (.long v7), .second, .unset, .unset, .unset, .unset, .unset, .unset] [(.ref b2)])) := fun t k => G t (st3 t k)
    replace G := own_astore (q := 142) (l' := #[.val (.long i0), .second, .val (.long i1), .second, .val (.int i2), .val (.int i3), .val (.int (1 : Int32)), .val (.int uu), .val (.long v0), .second, .val (.long v1), .second, .val (.long v2), .second, .val (.long v3), .second, .val (.long v4), .second, .val (.long v5), .second, .val (.long v6), .second, .val (.long v7), .second, .val (.ref b2), .unset, .unset, .unset, .unset, .unset]) G X3.here hx (hb hby at_140) rfl rfl rfl
    replace G := own_goto (q := 417) G X3.here hx (hb hby at_142) (by decide) (by decide)
    replace G := own_aload (q := 419) G X3.here hx (hb hby at_417) rfl rfl rfl
    replace G := own_iload (q := 421) G X3.here hx (hb hby at_419) rfl rfl
    have sp := own_ixs uu (1 : Int32) 1 rfl (by decide) (by decide) huu
    rcases own_cases1 ⟨sp.1, sp.2.1⟩ with hj
    · obtain ⟨_, _, ⟨T4, L4, kk4, nn4⟩, -, X4, ⟨Lc4, hQ4, l4, y4, z4⟩, st4⟩ := Jvm.LawKit.callS X3 hx (y := (⟨"com/example/cued/cued/Bench", "percentile", "([JI)J"⟩ : MethodName)) hown (mvT hZ (hw _ (List.mem_of_getElem? (i := 3) rfl))) (mvT hZ (hw _ (List.mem_of_getElem? (i := 4) rfl))) (mvT hZ (hw _ (List.mem_of_getElem? (i := 5) rfl))) (mvT hZ (hw _ (List.mem_of_getElem? (i := 6) rfl))) (by decide) (backOf (W := 0) (rm1 l Z a0 hw [] b2 uu k2 (1 : Int32) [(.long v0)] v0 h3 n0 Z3 V3 (by decide) huu (by rw [hj]; rfl)) hZ (hw _ (List.mem_of_getElem? (i := 6) rfl)) (hw _ (List.mem_of_getElem? (i := 5) rfl)) (by decide) (by decide)) (g := (mkF m 421 #[.val (.long i0), .second, .val (.long i1), .second, .val (.int i2), .val (.int i3), .val (.int (1 : Int32)), .val (.int uu), .val (.long v0), .second, .val (.long v1), .second, .val (.long v2), .second, .val (.long v3), .second, .val (.long v4), .second, .val (.long v5), .second, .val (.long v6), .second, .val (.long v7), .second, .val (.ref b2), .unset, .unset, .unset, .unset, .unset] [(.int uu), (.ref b2)])) rfl (by rw [hml]; rfl) (argsL := [(.ref b2), (.int uu)]) (rest := []) (lenOf pd_1 rfl) rfl (by show 2 * 0 + _ ≤ _; exact Nat.le_of_eq rfl) (hb hby at_421) (fun _ _ => ⟨rfl, e3, (by decide : 1 + 0 ≤ _), (by decide : 1 + 0 ≤ _)⟩)
      dsimp only [Pt.U, Pt.locs, Pt.cells, Pt.slots] at X4 l4 y4 z4 st4 hQ4
      subst l4 y4 z4
      obtain ⟨rfl, N4q, e4⟩ := hQ4
      have N4 := Fr.app N3 N4q
      replace G : Gets p e below _ (T4.setTop (mkF m 424 #[.val (.long i0), .second, .val (.long i1), .second, .val (.int i2), .val (.int i3), .val (.int (1 : Int32)), .val (.int uu), .val (.long v0), .second, .val (.long v1), .second, .val (.long v2), .second, .val (.long v3), .second, .val (.long v4), .second, .val (.long v5), .second, .val (.long v6), .second, .val (.long v7), .second, .val (.ref b2), .unset, .unset, .unset, .unset, .unset] [(.long v0)])) := fun t k => G t (st4 t k)
      replace G := own_lstore (q := 426) (l' := #[.val (.long i0), .second, .val (.long i1), .second, .val (.int i2), .val (.int i3), .val (.int (1 : Int32)), .val (.int uu), .val (.long v0), .second, .val (.long v1), .second, .val (.long v2), .second, .val (.long v3), .second, .val (.long v4), .second, .val (.long v5), .second, .val (.long v6), .second, .val (.long v7), .second, .val (.ref b2), .val (.long v0), .second, .unset, .unset, .unset]) G X4.here hx (hb hby at_424) rfl rfl
      replace G := own_iconst (q := 427) G X4.here hx (hb hby at_426) (v := (-1 : Int32)) (by decide) rfl
      replace G := own_istore (q := 429) (l' := #[.val (.long i0), .second, .val (.long i1), .second, .val (.int i2), .val (.int i3), .val (.int (1 : Int32)), .val (.int uu), .val (.long v0), .second, .val (.long v1), .second, .val (.long v2), .second, .val (.long v3), .second, .val (.long v4), .second, .val (.long v5), .second, .val (.long v6), .second, .val (.long v7), .second, .val (.ref b2), .val (.long v0), .second, .val (.int (-1 : Int32)), .unset, .unset]) G X4.here hx (hb hby at_427) rfl rfl
      replace G := own_lload (q := 431) G X4.here hx (hb hby at_429) rfl rfl
      replace G := own_lload (q := 433) G X4.here hx (hb hby at_431) rfl rfl
      replace G := own_lcmp (q := 434) G X4.here hx (hb hby at_433) rfl
      have hc434_5 : v0 = v0 := rfl
      replace G := own_ifNo (q := 437) G X4.here hx (hb hby at_434) ((if0 _ _).trans (teq ((lw_eq _ _).mpr hc434_5)).2) rfl
      replace G := own_iconst (q := 438) G X4.here hx (hb hby at_437) (v := (0 : Int32)) (by decide) rfl
      replace G := own_istore (q := 440) (l' := #[.val (.long i0), .second, .val (.long i1), .second, .val (.int i2), .val (.int i3), .val (.int (1 : Int32)), .val (.int uu), .val (.long v0), .second, .val (.long v1), .second, .val (.long v2), .second, .val (.long v3), .second, .val (.long v4), .second, .val (.long v5), .second, .val (.long v6), .second, .val (.long v7), .second, .val (.ref b2), .val (.long v0), .second, .val (.int (0 : Int32)), .unset, .unset]) G X4.here hx (hb hby at_438) rfl rfl
      replace G := own_goto (q := 584) G X4.here hx (hb hby at_440) (by decide) (by decide)
      replace G := own_iload (q := 586) G X4.here hx (hb hby at_584) rfl rfl
      have hc586_6 : ¬ ((0 : Int32) < (0 : Int32)) := by decide
      replace G := own_ifYes (q := 591) G X4.here hx (hb hby at_586) ((if0 _ _).trans (flt hc586_6).2.1) (by decide) (by decide)
      replace G := own_iload (q := 593) G X4.here hx (hb hby at_591) rfl rfl
      replace G := own_i2l (q := 594) G X4.here hx (hb hby at_593) rfl rfl
      replace G := own_iload (q := 596) G X4.here hx (hb hby at_594) rfl rfl
      replace G := own_i2l (q := 597) G X4.here hx (hb hby at_596) (by decide : ((1 : Int32).toInt64) = (1 : Int64)) rfl
      replace G := own_lmul (q := 598) G X4.here hx (hb hby at_597) rfl rfl
      replace G := own_lstore (q := 600) (l' := #[.val (.long i0), .second, .val (.long i1), .second, .val (.int i2), .val (.int i3), .val (.int (1 : Int32)), .val (.int uu), .val (.long v0), .second, .val (.long v1), .second, .val (.long v2), .second, .val (.long v3), .second, .val (.long v4), .second, .val (.long v5), .second, .val (.long v6), .second, .val (.long v7), .second, .val (.ref b2), .val (.long v0), .second, .val (.int (0 : Int32)), .val (.long ((uu.toInt64) * (1 : Int64))), .second]) G X4.here hx (hb hby at_598) rfl rfl
      replace G := own_iload (q := 602) G X4.here hx (hb hby at_600) rfl rfl
      replace G := own_iconst (q := 603) G X4.here hx (hb hby at_602) (v := (1 : Int32)) (by decide) rfl
      replace G := own_iadd (q := 604) G X4.here hx (hb hby at_603) (by decide : ((0 : Int32) + (1 : Int32)) = (1 : Int32)) rfl
      replace G := own_i2l (q := 605) G X4.here hx (hb hby at_604) (by decide : ((1 : Int32).toInt64) = (1 : Int64)) rfl
      replace G : Gets p e below _ (T4.setTop (mkF m 608 #[.val (.long i0), .second, .val (.long i1), .second, .val (.int i2), .val (.int i3), .val (.int (1 : Int32)), .val (.int uu), .val (.long v0), .second, .val (.long v1), .second, .val (.long v2), .second, .val (.long v3), .second, .val (.long v4), .second, .val (.long v5), .second, .val (.long v6), .second, .val (.long v7), .second, .val (.ref b2), .val (.long v0), .second, .val (.int (0 : Int32)), .val (.long ((uu.toInt64) * (1 : Int64))), .second] [(.long (100 : Int64)), (.long (1 : Int64))])) := fun t k => G t (X4.ldc2Long hx hown (mvT hZ (hw _ (List.mem_of_getElem? (i := 13) rfl))) (g := (mkF m 605 #[.val (.long i0), .second, .val (.long i1), .second, .val (.int i2), .val (.int i3), .val (.int (1 : Int32)), .val (.int uu), .val (.long v0), .second, .val (.long v1), .second, .val (.long v2), .second, .val (.long v3), .second, .val (.long v4), .second, .val (.long v5), .second, .val (.long v6), .second, .val (.long v7), .second, .val (.ref b2), .val (.long v0), .second, .val (.int (0 : Int32)), .val (.long ((uu.toInt64) * (1 : Int64))), .second] [(.long (1 : Int64))])) rfl (hb hby at_605) t k)
      replace G := own_lmul (q := 609) G X4.here hx (hb hby at_608) (by decide : ((1 : Int64) * (100 : Int64)) = (100 : Int64)) rfl
      replace G := own_lload (q := 611) G X4.here hx (hb hby at_609) rfl rfl
      replace G := own_lcmp (q := 612) G X4.here hx (hb hby at_611) rfl
      have hc612_7 : ¬ ((100 : Int64) < ((uu.toInt64) * (1 : Int64))) := by
        rw [hj, show (0 : Int32).toInt = 0 from rfl] at sp
        have A := c_lmul uu.toInt64 1
        rw [c_i2l, show (1 : Int64).toInt = 1 from rfl] at A
        have RA := rng64 (uu.toInt64 * 1)
        have hB : 0 ≤ uu.toInt * 1 ∧ uu.toInt * 1 ≤ 800 := by omega
        have e : (uu.toInt64 * 1).toInt = uu.toInt * 1 := by
          generalize uu.toInt * 1 = P at A hB ⊢
          omega
        rw [own_ltL, e, show (100 : Int64).toInt = 100 from rfl]
        omega
      replace G := own_ifNo (q := 615) G X4.here hx (hb hby at_612) ((if0 _ _).trans (flt (fun z => hc612_7 ((lw_lt _ _).mp z))).1) rfl
      replace G := own_iload (q := 617) G X4.here hx (hb hby at_615) rfl rfl
      have hc617_8 : (0 : Int32) = (0 : Int32) := by decide
      replace G := own_ifYes (q := 633) G X4.here hx (hb hby at_617) ((if0 _ _).trans (teq hc617_8).1) (by decide) (by decide)
      replace G := own_iconst (q := 634) G X4.here hx (hb hby at_633) (v := (1 : Int32)) (by decide) rfl
      replace G := own_goto (q := 638) G X4.here hx (hb hby at_634) (by decide) (by decide)
      obtain ⟨fs, hr, hrun, hended, hW, hsame⟩ := X4.leave (v := some (.int (1 : Int32))) (fun h => by rw [Bd.returns] at h; cases h)
      refine ⟨_, _, G _ (retOut X4 hx Bd.returns rfl (Or.inl ⟨rfl, Or.inr (Or.inl rfl), _, rfl⟩) (hb hby at_638) hr), hrun, hended, _, _, rfl, ?_, ⟨_, rfl⟩, hW, hsame.mono (by decide) (by decide)⟩
      show Q0 Z i0 i1 i2 i3 h0 n0 _ T4.heap _
      rw [e4]
      exact ⟨rfl, N4⟩
  · replace G := own_iload (q := 128) G X0.here hx (hb hby at_126) rfl rfl
    replace G := own_iconst (q := 129) G X0.here hx (hb hby at_128) (v := (1 : Int32)) (by decide) rfl
    have hc129_9 : ¬ ((2 : Int32) = (1 : Int32)) := by decide
    replace G := own_icmpYes (q := 145) G X0.here hx (hb hby at_129) (feq hc129_9).2 (by decide) (by decide)
    replace G := own_iload (q := 147) G X0.here hx (hb hby at_145) rfl rfl
    replace G := own_iconst (q := 148) G X0.here hx (hb hby at_147) (v := (2 : Int32)) (by decide) rfl
    have hc148_10 : (2 : Int32) = (2 : Int32) := by decide
    replace G := own_icmpNo (q := 151) G X0.here hx (hb hby at_148) (teq hc148_10).2 rfl
    replace G := own_iconst (q := 152) G X0.here hx (hb hby at_151) (v := (2 : Int32)) (by decide) rfl
    obtain ⟨T11, h11, k11, X11, e11, E11, A11, st11⟩ := newP X0 hx hZ (hw _ (List.mem_of_getElem? (i := 2) rfl)) e0 (g := (mkF m 152 #[.val (.long i0), .second, .val (.long i1), .second, .val (.int i2), .val (.int i3), .val (.int (2 : Int32)), .val (.int uu), .val (.long v0), .second, .val (.long v1), .second, .val (.long v2), .second, .val (.long v3), .second, .val (.long v4), .second, .val (.long v5), .second, .val (.long v6), .second, .val (.long v7), .second, .unset, .unset, .unset, .unset, .unset, .unset] [(.int (2 : Int32))])) rfl (hb hby at_152) rfl (by decide) (cap := 2) (by decide) (by decide) (by decide) (by decide)
    obtain ⟨b11, g11⟩ : ∃ z, z = h0.size := ⟨_, rfl⟩
    rw [← g11] at A11 st11
    have ge_b11 : n0 ≤ b11 := Nat.le_trans Z0 (Nat.le_of_eq g11.symm)
    have Z11 : n0 ≤ h11.size := Nat.le_trans Z0 E11.1
    have V11 : Arv Z h11 b11 k11 .long (2 : Int32) [(.long (0 : Int64)), (.long (0 : Int64))] (.long (0 : Int64)) := (Arv.new A11 (by decide)).pad (pad_rep [] (.long (0 : Int64)) 2)
    replace G : Gets p e below _ (T11.setTop (mkF m 154 #[.val (.long i0), .second, .val (.long i1), .second, .val (.int i2), .val (.int i3), .val (.int (2 : Int32)), .val (.int uu), .val (.long v0), .second, .val (.long v1), .second, .val (.long v2), .second, .val (.long v3), .second, .val (.long v4), .second, .val (.long v5), .second, .val (.long v6), .second, .val (.long v7), .second, .unset, .unset, .unset, .unset, .unset, .unset] [(.ref b11)])) := fun t k => G t (st11 t k)
    replace G := own_dup (q := 155) G X11.here hx (hb hby at_154) rfl rfl
    replace G := own_iconst (q := 156) G X11.here hx (hb hby at_155) (v := (0 : Int32)) (by decide) rfl
    replace G := own_lload (q := 158) G X11.here hx (hb hby at_156) rfl rfl
    obtain ⟨c12, Ar12, q12, S12, N12', H12, G12'⟩ := id V11
    have hin12 : ¬ ((0 : Int32) < 0 ∨ c12.slots.size ≤ ((0 : Int32)).toNatClampNeg) := inb_of S12 ⟨by decide, by decide⟩
    obtain ⟨T12, h12, X12, e12, W12, st12⟩ := stJ X11 hx hZ e11 Ar12 (j := (0 : Int32)) hin12 (g := (mkF m 158 #[.val (.long i0), .second, .val (.long i1), .second, .val (.int i2), .val (.int i3), .val (.int (2 : Int32)), .val (.int uu), .val (.long v0), .second, .val (.long v1), .second, .val (.long v2), .second, .val (.long v3), .second, .val (.long v4), .second, .val (.long v5), .second, .val (.long v6), .second, .val (.long v7), .second, .unset, .unset, .unset, .unset, .unset, .unset] [(.long v0), (.int (0 : Int32)), (.ref b11), (.ref b11)])) rfl rfl (hb hby at_158)
    have N12 := Fr.snoc X12 N0 ge_b11
    have Z12 : n0 ≤ h12.size := Nat.le_trans Z11 (Keep.of_wr W12).1
    have V12 : Arv Z h12 b11 k11 .long (2 : Int32) [(.long v0), (.long (0 : Int64))] (.long (0 : Int64)) := Arv.set Ar12 q12 S12 N12' H12 G12' rfl W12 0 rfl (Nat.le_of_ble_eq_true rfl)
    replace G : Gets p e below _ (T12.setTop (mkF m 159 #[.val (.long i0), .second, .val (.long i1), .second, .val (.int i2), .val (.int i3), .val (.int (2 : Int32)), .val (.int uu), .val (.long v0), .second, .val (.long v1), .second, .val (.long v2), .second, .val (.long v3), .second, .val (.long v4), .second, .val (.long v5), .second, .val (.long v6), .second, .val (.long v7), .second, .unset, .unset, .unset, .unset, .unset, .unset] [(.ref b11)])) := fun t k => G t (st12 t k)
    replace G := own_dup (q := 160) G X12.here hx (hb hby at_159) rfl rfl
    replace G := own_iconst (q := 161) G X12.here hx (hb hby at_160) (v := (1 : Int32)) (by decide) rfl
    replace G := own_lload (q := 163) G X12.here hx (hb hby at_161) rfl rfl
    obtain ⟨c13, Ar13, q13, S13, N13', H13, G13'⟩ := id V12
    have hin13 : ¬ ((1 : Int32) < 0 ∨ c13.slots.size ≤ ((1 : Int32)).toNatClampNeg) := inb_of S13 ⟨by decide, by decide⟩
    obtain ⟨T13, h13, X13, e13, W13, st13⟩ := stJ X12 hx hZ e12 Ar13 (j := (1 : Int32)) hin13 (g := (mkF m 163 #[.val (.long i0), .second, .val (.long i1), .second, .val (.int i2), .val (.int i3), .val (.int (2 : Int32)), .val (.int uu), .val (.long v0), .second, .val (.long v1), .second, .val (.long v2), .second, .val (.long v3), .second, .val (.long v4), .second, .val (.long v5), .second, .val (.long v6), .second, .val (.long v7), .second, .unset, .unset, .unset, .unset, .unset, .unset] [(.long v1), (.int (1 : Int32)), (.ref b11), (.ref b11)])) rfl rfl (hb hby at_163)
    have N13 := Fr.snoc X13 N12 ge_b11
    have Z13 : n0 ≤ h13.size := Nat.le_trans Z12 (Keep.of_wr W13).1
    have V13 : Arv Z h13 b11 k11 .long (2 : Int32) [(.long v0), (.long v1)] (.long (0 : Int64)) := Arv.set Ar13 q13 S13 N13' H13 G13' rfl W13 1 rfl (Nat.le_of_ble_eq_true rfl)
    replace G : Gets p e below _ (T13.setTop (mkF m 164 #[.val (.long i0), .second, .val (.long i1), .second, .val (.int i2), .val (.int i3), .val (.int (2 : Int32)), .val (.int uu), .val (.long v0), .second, .val (.long v1), .second, .val (.long v2), .second, .val (.long v3), .second, .val (.long v4), .second, .val (.long v5), .second, .val (.long v6), .second, .val (.long v7), .second, .unset, .unset, .unset, .unset, .unset, .unset] [(.ref b11)])) := fun t k => G t (st13 t k)
    replace G := own_astore (q := 166) (l' := #[.val (.long i0), .second, .val (.long i1), .second, .val (.int i2), .val (.int i3), .val (.int (2 : Int32)), .val (.int uu), .val (.long v0), .second, .val (.long v1), .second, .val (.long v2), .second, .val (.long v3), .second, .val (.long v4), .second, .val (.long v5), .second, .val (.long v6), .second, .val (.long v7), .second, .val (.ref b11), .unset, .unset, .unset, .unset, .unset]) G X13.here hx (hb hby at_164) rfl rfl rfl
    replace G := own_goto (q := 417) G X13.here hx (hb hby at_166) (by decide) (by decide)
    replace G := own_aload (q := 419) G X13.here hx (hb hby at_417) rfl rfl rfl
    replace G := own_iload (q := 421) G X13.here hx (hb hby at_419) rfl rfl
    have sp := own_ixs uu (2 : Int32) 2 rfl (by decide) (by decide) huu
    rcases own_cases2 ⟨sp.1, sp.2.1⟩ with hj | hj
    · obtain ⟨_, _, ⟨T14, L14, kk14, nn14⟩, -, X14, ⟨Lc14, hQ14, l14, y14, z14⟩, st14⟩ := Jvm.LawKit.callS X13 hx (y := (⟨"com/example/cued/cued/Bench", "percentile", "([JI)J"⟩ : MethodName)) hown (mvT hZ (hw _ (List.mem_of_getElem? (i := 3) rfl))) (mvT hZ (hw _ (List.mem_of_getElem? (i := 4) rfl))) (mvT hZ (hw _ (List.mem_of_getElem? (i := 5) rfl))) (mvT hZ (hw _ (List.mem_of_getElem? (i := 6) rfl))) (by decide) (backOf (W := 0) (rm1 l Z a0 hw [] b11 uu k11 (2 : Int32) [(.long v0), (.long v1)] v0 h13 n0 Z13 V13 (by decide) huu (by rw [hj]; rfl)) hZ (hw _ (List.mem_of_getElem? (i := 6) rfl)) (hw _ (List.mem_of_getElem? (i := 5) rfl)) (by decide) (by decide)) (g := (mkF m 421 #[.val (.long i0), .second, .val (.long i1), .second, .val (.int i2), .val (.int i3), .val (.int (2 : Int32)), .val (.int uu), .val (.long v0), .second, .val (.long v1), .second, .val (.long v2), .second, .val (.long v3), .second, .val (.long v4), .second, .val (.long v5), .second, .val (.long v6), .second, .val (.long v7), .second, .val (.ref b11), .unset, .unset, .unset, .unset, .unset] [(.int uu), (.ref b11)])) rfl (by rw [hml]; rfl) (argsL := [(.ref b11), (.int uu)]) (rest := []) (lenOf pd_1 rfl) rfl (by show 2 * 0 + _ ≤ _; exact Nat.le_of_eq rfl) (hb hby at_421) (fun _ _ => ⟨rfl, e13, (by decide : 1 + 0 ≤ _), (by decide : 2 + 0 ≤ _)⟩)
      dsimp only [Pt.U, Pt.locs, Pt.cells, Pt.slots] at X14 l14 y14 z14 st14 hQ14
      subst l14 y14 z14
      obtain ⟨rfl, N14q, e14⟩ := hQ14
      have N14 := Fr.app N13 N14q
      replace G : Gets p e below _ (T14.setTop (mkF m 424 #[.val (.long i0), .second, .val (.long i1), .second, .val (.int i2), .val (.int i3), .val (.int (2 : Int32)), .val (.int uu), .val (.long v0), .second, .val (.long v1), .second, .val (.long v2), .second, .val (.long v3), .second, .val (.long v4), .second, .val (.long v5), .second, .val (.long v6), .second, .val (.long v7), .second, .val (.ref b11), .unset, .unset, .unset, .unset, .unset] [(.long v0)])) := fun t k => G t (st14 t k)
      replace G := own_lstore (q := 426) (l' := #[.val (.long i0), .second, .val (.long i1), .second, .val (.int i2), .val (.int i3), .val (.int (2 : Int32)), .val (.int uu), .val (.long v0), .second, .val (.long v1), .second, .val (.long v2), .second, .val (.long v3), .second, .val (.long v4), .second, .val (.long v5), .second, .val (.long v6), .second, .val (.long v7), .second, .val (.ref b11), .val (.long v0), .second, .unset, .unset, .unset]) G X14.here hx (hb hby at_424) rfl rfl
      replace G := own_iconst (q := 427) G X14.here hx (hb hby at_426) (v := (-1 : Int32)) (by decide) rfl
      replace G := own_istore (q := 429) (l' := #[.val (.long i0), .second, .val (.long i1), .second, .val (.int i2), .val (.int i3), .val (.int (2 : Int32)), .val (.int uu), .val (.long v0), .second, .val (.long v1), .second, .val (.long v2), .second, .val (.long v3), .second, .val (.long v4), .second, .val (.long v5), .second, .val (.long v6), .second, .val (.long v7), .second, .val (.ref b11), .val (.long v0), .second, .val (.int (-1 : Int32)), .unset, .unset]) G X14.here hx (hb hby at_427) rfl rfl
      replace G := own_lload (q := 431) G X14.here hx (hb hby at_429) rfl rfl
      replace G := own_lload (q := 433) G X14.here hx (hb hby at_431) rfl rfl
      replace G := own_lcmp (q := 434) G X14.here hx (hb hby at_433) rfl
      have hc434_15 : v0 = v0 := rfl
      replace G := own_ifNo (q := 437) G X14.here hx (hb hby at_434) ((if0 _ _).trans (teq ((lw_eq _ _).mpr hc434_15)).2) rfl
      replace G := own_iconst (q := 438) G X14.here hx (hb hby at_437) (v := (0 : Int32)) (by decide) rfl
      replace G := own_istore (q := 440) (l' := #[.val (.long i0), .second, .val (.long i1), .second, .val (.int i2), .val (.int i3), .val (.int (2 : Int32)), .val (.int uu), .val (.long v0), .second, .val (.long v1), .second, .val (.long v2), .second, .val (.long v3), .second, .val (.long v4), .second, .val (.long v5), .second, .val (.long v6), .second, .val (.long v7), .second, .val (.ref b11), .val (.long v0), .second, .val (.int (0 : Int32)), .unset, .unset]) G X14.here hx (hb hby at_438) rfl rfl
      replace G := own_goto (q := 584) G X14.here hx (hb hby at_440) (by decide) (by decide)
      replace G := own_iload (q := 586) G X14.here hx (hb hby at_584) rfl rfl
      have hc586_16 : ¬ ((0 : Int32) < (0 : Int32)) := by decide
      replace G := own_ifYes (q := 591) G X14.here hx (hb hby at_586) ((if0 _ _).trans (flt hc586_16).2.1) (by decide) (by decide)
      replace G := own_iload (q := 593) G X14.here hx (hb hby at_591) rfl rfl
      replace G := own_i2l (q := 594) G X14.here hx (hb hby at_593) rfl rfl
      replace G := own_iload (q := 596) G X14.here hx (hb hby at_594) rfl rfl
      replace G := own_i2l (q := 597) G X14.here hx (hb hby at_596) (by decide : ((2 : Int32).toInt64) = (2 : Int64)) rfl
      replace G := own_lmul (q := 598) G X14.here hx (hb hby at_597) rfl rfl
      replace G := own_lstore (q := 600) (l' := #[.val (.long i0), .second, .val (.long i1), .second, .val (.int i2), .val (.int i3), .val (.int (2 : Int32)), .val (.int uu), .val (.long v0), .second, .val (.long v1), .second, .val (.long v2), .second, .val (.long v3), .second, .val (.long v4), .second, .val (.long v5), .second, .val (.long v6), .second, .val (.long v7), .second, .val (.ref b11), .val (.long v0), .second, .val (.int (0 : Int32)), .val (.long ((uu.toInt64) * (2 : Int64))), .second]) G X14.here hx (hb hby at_598) rfl rfl
      replace G := own_iload (q := 602) G X14.here hx (hb hby at_600) rfl rfl
      replace G := own_iconst (q := 603) G X14.here hx (hb hby at_602) (v := (1 : Int32)) (by decide) rfl
      replace G := own_iadd (q := 604) G X14.here hx (hb hby at_603) (by decide : ((0 : Int32) + (1 : Int32)) = (1 : Int32)) rfl
      replace G := own_i2l (q := 605) G X14.here hx (hb hby at_604) (by decide : ((1 : Int32).toInt64) = (1 : Int64)) rfl
      replace G : Gets p e below _ (T14.setTop (mkF m 608 #[.val (.long i0), .second, .val (.long i1), .second, .val (.int i2), .val (.int i3), .val (.int (2 : Int32)), .val (.int uu), .val (.long v0), .second, .val (.long v1), .second, .val (.long v2), .second, .val (.long v3), .second, .val (.long v4), .second, .val (.long v5), .second, .val (.long v6), .second, .val (.long v7), .second, .val (.ref b11), .val (.long v0), .second, .val (.int (0 : Int32)), .val (.long ((uu.toInt64) * (2 : Int64))), .second] [(.long (100 : Int64)), (.long (1 : Int64))])) := fun t k => G t (X14.ldc2Long hx hown (mvT hZ (hw _ (List.mem_of_getElem? (i := 13) rfl))) (g := (mkF m 605 #[.val (.long i0), .second, .val (.long i1), .second, .val (.int i2), .val (.int i3), .val (.int (2 : Int32)), .val (.int uu), .val (.long v0), .second, .val (.long v1), .second, .val (.long v2), .second, .val (.long v3), .second, .val (.long v4), .second, .val (.long v5), .second, .val (.long v6), .second, .val (.long v7), .second, .val (.ref b11), .val (.long v0), .second, .val (.int (0 : Int32)), .val (.long ((uu.toInt64) * (2 : Int64))), .second] [(.long (1 : Int64))])) rfl (hb hby at_605) t k)
      replace G := own_lmul (q := 609) G X14.here hx (hb hby at_608) (by decide : ((1 : Int64) * (100 : Int64)) = (100 : Int64)) rfl
      replace G := own_lload (q := 611) G X14.here hx (hb hby at_609) rfl rfl
      replace G := own_lcmp (q := 612) G X14.here hx (hb hby at_611) rfl
      have hc612_17 : ¬ ((100 : Int64) < ((uu.toInt64) * (2 : Int64))) := by
        rw [hj, show (0 : Int32).toInt = 0 from rfl] at sp
        have A := c_lmul uu.toInt64 2
        rw [c_i2l, show (2 : Int64).toInt = 2 from rfl] at A
        have RA := rng64 (uu.toInt64 * 2)
        have hB : 0 ≤ uu.toInt * 2 ∧ uu.toInt * 2 ≤ 800 := by omega
        have e : (uu.toInt64 * 2).toInt = uu.toInt * 2 := by
          generalize uu.toInt * 2 = P at A hB ⊢
          omega
        rw [own_ltL, e, show (100 : Int64).toInt = 100 from rfl]
        omega
      replace G := own_ifNo (q := 615) G X14.here hx (hb hby at_612) ((if0 _ _).trans (flt (fun z => hc612_17 ((lw_lt _ _).mp z))).1) rfl
      replace G := own_iload (q := 617) G X14.here hx (hb hby at_615) rfl rfl
      have hc617_18 : (0 : Int32) = (0 : Int32) := by decide
      replace G := own_ifYes (q := 633) G X14.here hx (hb hby at_617) ((if0 _ _).trans (teq hc617_18).1) (by decide) (by decide)
      replace G := own_iconst (q := 634) G X14.here hx (hb hby at_633) (v := (1 : Int32)) (by decide) rfl
      replace G := own_goto (q := 638) G X14.here hx (hb hby at_634) (by decide) (by decide)
      obtain ⟨fs, hr, hrun, hended, hW, hsame⟩ := X14.leave (v := some (.int (1 : Int32))) (fun h => by rw [Bd.returns] at h; cases h)
      refine ⟨_, _, G _ (retOut X14 hx Bd.returns rfl (Or.inl ⟨rfl, Or.inr (Or.inl rfl), _, rfl⟩) (hb hby at_638) hr), hrun, hended, _, _, rfl, ?_, ⟨_, rfl⟩, hW, hsame.mono (by decide) (by decide)⟩
      show Q0 Z i0 i1 i2 i3 h0 n0 _ T14.heap _
      rw [e14]
      exact ⟨rfl, N14⟩
    · obtain ⟨_, _, ⟨T19, L19, kk19, nn19⟩, -, X19, ⟨Lc19, hQ19, l19, y19, z19⟩, st19⟩ := Jvm.LawKit.callS X13 hx (y := (⟨"com/example/cued/cued/Bench", "percentile", "([JI)J"⟩ : MethodName)) hown (mvT hZ (hw _ (List.mem_of_getElem? (i := 3) rfl))) (mvT hZ (hw _ (List.mem_of_getElem? (i := 4) rfl))) (mvT hZ (hw _ (List.mem_of_getElem? (i := 5) rfl))) (mvT hZ (hw _ (List.mem_of_getElem? (i := 6) rfl))) (by decide) (backOf (W := 0) (rm1 l Z a0 hw [] b11 uu k11 (2 : Int32) [(.long v0), (.long v1)] v1 h13 n0 Z13 V13 (by decide) huu (by rw [hj]; rfl)) hZ (hw _ (List.mem_of_getElem? (i := 6) rfl)) (hw _ (List.mem_of_getElem? (i := 5) rfl)) (by decide) (by decide)) (g := (mkF m 421 #[.val (.long i0), .second, .val (.long i1), .second, .val (.int i2), .val (.int i3), .val (.int (2 : Int32)), .val (.int uu), .val (.long v0), .second, .val (.long v1), .second, .val (.long v2), .second, .val (.long v3), .second, .val (.long v4), .second, .val (.long v5), .second, .val (.long v6), .second, .val (.long v7), .second, .val (.ref b11), .unset, .unset, .unset, .unset, .unset] [(.int uu), (.ref b11)])) rfl (by rw [hml]; rfl) (argsL := [(.ref b11), (.int uu)]) (rest := []) (lenOf pd_1 rfl) rfl (by show 2 * 0 + _ ≤ _; exact Nat.le_of_eq rfl) (hb hby at_421) (fun _ _ => ⟨rfl, e13, (by decide : 1 + 0 ≤ _), (by decide : 2 + 0 ≤ _)⟩)
      dsimp only [Pt.U, Pt.locs, Pt.cells, Pt.slots] at X19 l19 y19 z19 st19 hQ19
      subst l19 y19 z19
      obtain ⟨rfl, N19q, e19⟩ := hQ19
      have N19 := Fr.app N13 N19q
      replace G : Gets p e below _ (T19.setTop (mkF m 424 #[.val (.long i0), .second, .val (.long i1), .second, .val (.int i2), .val (.int i3), .val (.int (2 : Int32)), .val (.int uu), .val (.long v0), .second, .val (.long v1), .second, .val (.long v2), .second, .val (.long v3), .second, .val (.long v4), .second, .val (.long v5), .second, .val (.long v6), .second, .val (.long v7), .second, .val (.ref b11), .unset, .unset, .unset, .unset, .unset] [(.long v1)])) := fun t k => G t (st19 t k)
      replace G := own_lstore (q := 426) (l' := #[.val (.long i0), .second, .val (.long i1), .second, .val (.int i2), .val (.int i3), .val (.int (2 : Int32)), .val (.int uu), .val (.long v0), .second, .val (.long v1), .second, .val (.long v2), .second, .val (.long v3), .second, .val (.long v4), .second, .val (.long v5), .second, .val (.long v6), .second, .val (.long v7), .second, .val (.ref b11), .val (.long v1), .second, .unset, .unset, .unset]) G X19.here hx (hb hby at_424) rfl rfl
      replace G := own_iconst (q := 427) G X19.here hx (hb hby at_426) (v := (-1 : Int32)) (by decide) rfl
      replace G := own_istore (q := 429) (l' := #[.val (.long i0), .second, .val (.long i1), .second, .val (.int i2), .val (.int i3), .val (.int (2 : Int32)), .val (.int uu), .val (.long v0), .second, .val (.long v1), .second, .val (.long v2), .second, .val (.long v3), .second, .val (.long v4), .second, .val (.long v5), .second, .val (.long v6), .second, .val (.long v7), .second, .val (.ref b11), .val (.long v1), .second, .val (.int (-1 : Int32)), .unset, .unset]) G X19.here hx (hb hby at_427) rfl rfl
      replace G := own_lload (q := 431) G X19.here hx (hb hby at_429) rfl rfl
      replace G := own_lload (q := 433) G X19.here hx (hb hby at_431) rfl rfl
      replace G := own_lcmp (q := 434) G X19.here hx (hb hby at_433) rfl
      have hc434_20 : ¬ (v1 = v0) := fun z => by have := congrArg Int64.toInt z; omega
      replace G := own_ifYes (q := 443) G X19.here hx (hb hby at_434) ((if0 _ _).trans (feq (fun z => hc434_20 ((lw_eq _ _).mp z))).2) (by decide) (by decide)
      replace G := own_iload (q := 445) G X19.here hx (hb hby at_443) rfl rfl
      replace G := own_iconst (q := 446) G X19.here hx (hb hby at_445) (v := (1 : Int32)) (by decide) rfl
      have hc446_21 : (1 : Int32) < (2 : Int32) := by decide
      replace G := own_icmpNo (q := 449) G X19.here hx (hb hby at_446) (tlt hc446_21).2.2.2 rfl
      replace G := own_lload (q := 451) G X19.here hx (hb hby at_449) rfl rfl
      replace G := own_lload (q := 453) G X19.here hx (hb hby at_451) rfl rfl
      replace G := own_lcmp (q := 454) G X19.here hx (hb hby at_453) rfl
      have hc454_22 : v1 = v1 := rfl
      replace G := own_ifNo (q := 457) G X19.here hx (hb hby at_454) ((if0 _ _).trans (teq ((lw_eq _ _).mpr hc454_22)).2) rfl
      replace G := own_iconst (q := 458) G X19.here hx (hb hby at_457) (v := (1 : Int32)) (by decide) rfl
      replace G := own_istore (q := 460) (l' := #[.val (.long i0), .second, .val (.long i1), .second, .val (.int i2), .val (.int i3), .val (.int (2 : Int32)), .val (.int uu), .val (.long v0), .second, .val (.long v1), .second, .val (.long v2), .second, .val (.long v3), .second, .val (.long v4), .second, .val (.long v5), .second, .val (.long v6), .second, .val (.long v7), .second, .val (.ref b11), .val (.long v1), .second, .val (.int (1 : Int32)), .unset, .unset]) G X19.here hx (hb hby at_458) rfl rfl
      replace G := own_goto (q := 584) G X19.here hx (hb hby at_460) (by decide) (by decide)
      replace G := own_iload (q := 586) G X19.here hx (hb hby at_584) rfl rfl
      have hc586_23 : ¬ ((1 : Int32) < (0 : Int32)) := by decide
      replace G := own_ifYes (q := 591) G X19.here hx (hb hby at_586) ((if0 _ _).trans (flt hc586_23).2.1) (by decide) (by decide)
      replace G := own_iload (q := 593) G X19.here hx (hb hby at_591) rfl rfl
      replace G := own_i2l (q := 594) G X19.here hx (hb hby at_593) rfl rfl
      replace G := own_iload (q := 596) G X19.here hx (hb hby at_594) rfl rfl
      replace G := own_i2l (q := 597) G X19.here hx (hb hby at_596) (by decide : ((2 : Int32).toInt64) = (2 : Int64)) rfl
      replace G := own_lmul (q := 598) G X19.here hx (hb hby at_597) rfl rfl
      replace G := own_lstore (q := 600) (l' := #[.val (.long i0), .second, .val (.long i1), .second, .val (.int i2), .val (.int i3), .val (.int (2 : Int32)), .val (.int uu), .val (.long v0), .second, .val (.long v1), .second, .val (.long v2), .second, .val (.long v3), .second, .val (.long v4), .second, .val (.long v5), .second, .val (.long v6), .second, .val (.long v7), .second, .val (.ref b11), .val (.long v1), .second, .val (.int (1 : Int32)), .val (.long ((uu.toInt64) * (2 : Int64))), .second]) G X19.here hx (hb hby at_598) rfl rfl
      replace G := own_iload (q := 602) G X19.here hx (hb hby at_600) rfl rfl
      replace G := own_iconst (q := 603) G X19.here hx (hb hby at_602) (v := (1 : Int32)) (by decide) rfl
      replace G := own_iadd (q := 604) G X19.here hx (hb hby at_603) (by decide : ((1 : Int32) + (1 : Int32)) = (2 : Int32)) rfl
      replace G := own_i2l (q := 605) G X19.here hx (hb hby at_604) (by decide : ((2 : Int32).toInt64) = (2 : Int64)) rfl
      replace G : Gets p e below _ (T19.setTop (mkF m 608 #[.val (.long i0), .second, .val (.long i1), .second, .val (.int i2), .val (.int i3), .val (.int (2 : Int32)), .val (.int uu), .val (.long v0), .second, .val (.long v1), .second, .val (.long v2), .second, .val (.long v3), .second, .val (.long v4), .second, .val (.long v5), .second, .val (.long v6), .second, .val (.long v7), .second, .val (.ref b11), .val (.long v1), .second, .val (.int (1 : Int32)), .val (.long ((uu.toInt64) * (2 : Int64))), .second] [(.long (100 : Int64)), (.long (2 : Int64))])) := fun t k => G t (X19.ldc2Long hx hown (mvT hZ (hw _ (List.mem_of_getElem? (i := 13) rfl))) (g := (mkF m 605 #[.val (.long i0), .second, .val (.long i1), .second, .val (.int i2), .val (.int i3), .val (.int (2 : Int32)), .val (.int uu), .val (.long v0), .second, .val (.long v1), .second, .val (.long v2), .second, .val (.long v3), .second, .val (.long v4), .second, .val (.long v5), .second, .val (.long v6), .second, .val (.long v7), .second, .val (.ref b11), .val (.long v1), .second, .val (.int (1 : Int32)), .val (.long ((uu.toInt64) * (2 : Int64))), .second] [(.long (2 : Int64))])) rfl (hb hby at_605) t k)
      replace G := own_lmul (q := 609) G X19.here hx (hb hby at_608) (by decide : ((2 : Int64) * (100 : Int64)) = (200 : Int64)) rfl
      replace G := own_lload (q := 611) G X19.here hx (hb hby at_609) rfl rfl
      replace G := own_lcmp (q := 612) G X19.here hx (hb hby at_611) rfl
      have hc612_24 : ¬ ((200 : Int64) < ((uu.toInt64) * (2 : Int64))) := by
        rw [hj, show (1 : Int32).toInt = 1 from rfl] at sp
        have A := c_lmul uu.toInt64 2
        rw [c_i2l, show (2 : Int64).toInt = 2 from rfl] at A
        have RA := rng64 (uu.toInt64 * 2)
        have hB : 0 ≤ uu.toInt * 2 ∧ uu.toInt * 2 ≤ 800 := by omega
        have e : (uu.toInt64 * 2).toInt = uu.toInt * 2 := by
          generalize uu.toInt * 2 = P at A hB ⊢
          omega
        rw [own_ltL, e, show (200 : Int64).toInt = 200 from rfl]
        omega
      replace G := own_ifNo (q := 615) G X19.here hx (hb hby at_612) ((if0 _ _).trans (flt (fun z => hc612_24 ((lw_lt _ _).mp z))).1) rfl
      replace G := own_iload (q := 617) G X19.here hx (hb hby at_615) rfl rfl
      have hc617_25 : ¬ ((1 : Int32) = (0 : Int32)) := by decide
      replace G := own_ifNo (q := 620) G X19.here hx (hb hby at_617) ((if0 _ _).trans (feq hc617_25).1) rfl
      replace G := own_iload (q := 622) G X19.here hx (hb hby at_620) rfl rfl
      replace G := own_i2l (q := 623) G X19.here hx (hb hby at_622) (by decide : ((1 : Int32).toInt64) = (1 : Int64)) rfl
      replace G : Gets p e below _ (T19.setTop (mkF m 626 #[.val (.long i0), .second, .val (.long i1), .second, .val (.int i2), .val (.int i3), .val (.int (2 : Int32)), .val (.int uu), .val (.long v0), .second, .val (.long v1), .second, .val (.long v2), .second, .val (.long v3), .second, .val (.long v4), .second, .val (.long v5), .second, .val (.long v6), .second, .val (.long v7), .second, .val (.ref b11), .val (.long v1), .second, .val (.int (1 : Int32)), .val (.long ((uu.toInt64) * (2 : Int64))), .second] [(.long (100 : Int64)), (.long (1 : Int64))])) := fun t k => G t (X19.ldc2Long hx hown (mvT hZ (hw _ (List.mem_of_getElem? (i := 13) rfl))) (g := (mkF m 623 #[.val (.long i0), .second, .val (.long i1), .second, .val (.int i2), .val (.int i3), .val (.int (2 : Int32)), .val (.int uu), .val (.long v0), .second, .val (.long v1), .second, .val (.long v2), .second, .val (.long v3), .second, .val (.long v4), .second, .val (.long v5), .second, .val (.long v6), .second, .val (.long v7), .second, .val (.ref b11), .val (.long v1), .second, .val (.int (1 : Int32)), .val (.long ((uu.toInt64) * (2 : Int64))), .second] [(.long (1 : Int64))])) rfl (hb hby at_623) t k)
      replace G := own_lmul (q := 627) G X19.here hx (hb hby at_626) (by decide : ((1 : Int64) * (100 : Int64)) = (100 : Int64)) rfl
      replace G := own_lload (q := 629) G X19.here hx (hb hby at_627) rfl rfl
      replace G := own_lcmp (q := 630) G X19.here hx (hb hby at_629) rfl
      have hc630_26 : (100 : Int64) < ((uu.toInt64) * (2 : Int64)) := by
        rw [hj, show (1 : Int32).toInt = 1 from rfl] at sp
        have A := c_lmul uu.toInt64 2
        rw [c_i2l, show (2 : Int64).toInt = 2 from rfl] at A
        have RA := rng64 (uu.toInt64 * 2)
        have hB : 0 ≤ uu.toInt * 2 ∧ uu.toInt * 2 ≤ 800 := by omega
        have e : (uu.toInt64 * 2).toInt = uu.toInt * 2 := by
          generalize uu.toInt * 2 = P at A hB ⊢
          omega
        rw [own_ltL, e, show (100 : Int64).toInt = 100 from rfl]
        omega
      replace G := own_ifNo (q := 633) G X19.here hx (hb hby at_630) ((if0 _ _).trans (tlt ((lw_lt _ _).mpr hc630_26)).2.1) rfl
      replace G := own_iconst (q := 634) G X19.here hx (hb hby at_633) (v := (1 : Int32)) (by decide) rfl
      replace G := own_goto (q := 638) G X19.here hx (hb hby at_634) (by decide) (by decide)
      obtain ⟨fs, hr, hrun, hended, hW, hsame⟩ := X19.leave (v := some (.int (1 : Int32))) (fun h => by rw [Bd.returns] at h; cases h)
      refine ⟨_, _, G _ (retOut X19 hx Bd.returns rfl (Or.inl ⟨rfl, Or.inr (Or.inl rfl), _, rfl⟩) (hb hby at_638) hr), hrun, hended, _, _, rfl, ?_, ⟨_, rfl⟩, hW, hsame.mono (by decide) (by decide)⟩
      show Q0 Z i0 i1 i2 i3 h0 n0 _ T19.heap _
      rw [e19]
      exact ⟨rfl, N19⟩
  · replace G := own_iload (q := 128) G X0.here hx (hb hby at_126) rfl rfl
    replace G := own_iconst (q := 129) G X0.here hx (hb hby at_128) (v := (1 : Int32)) (by decide) rfl
    have hc129_27 : ¬ ((3 : Int32) = (1 : Int32)) := by decide
    replace G := own_icmpYes (q := 145) G X0.here hx (hb hby at_129) (feq hc129_27).2 (by decide) (by decide)
    replace G := own_iload (q := 147) G X0.here hx (hb hby at_145) rfl rfl
    replace G := own_iconst (q := 148) G X0.here hx (hb hby at_147) (v := (2 : Int32)) (by decide) rfl
    have hc148_28 : ¬ ((3 : Int32) = (2 : Int32)) := by decide
    replace G := own_icmpYes (q := 169) G X0.here hx (hb hby at_148) (feq hc148_28).2 (by decide) (by decide)
    replace G := own_iload (q := 171) G X0.here hx (hb hby at_169) rfl rfl
    replace G := own_iconst (q := 172) G X0.here hx (hb hby at_171) (v := (3 : Int32)) (by decide) rfl
    have hc172_29 : (3 : Int32) = (3 : Int32) := by decide
    replace G := own_icmpNo (q := 175) G X0.here hx (hb hby at_172) (teq hc172_29).2 rfl
    replace G := own_iconst (q := 176) G X0.here hx (hb hby at_175) (v := (3 : Int32)) (by decide) rfl
    obtain ⟨T30, h30, k30, X30, e30, E30, A30, st30⟩ := newP X0 hx hZ (hw _ (List.mem_of_getElem? (i := 2) rfl)) e0 (g := (mkF m 176 #[.val (.long i0), .second, .val (.long i1), .second, .val (.int i2), .val (.int i3), .val (.int (3 : Int32)), .val (.int uu), .val (.long v0), .second, .val (.long v1), .second, .val (.long v2), .second, .val (.long v3), .second, .val (.long v4), .second, .val (.long v5), .second, .val (.long v6), .second, .val (.long v7), .second, .unset, .unset, .unset, .unset, .unset, .unset] [(.int (3 : Int32))])) rfl (hb hby at_176) rfl (by decide) (cap := 3) (by decide) (by decide) (by decide) (by decide)
    obtain ⟨b30, g30⟩ : ∃ z, z = h0.size := ⟨_, rfl⟩
    rw [← g30] at A30 st30
    have ge_b30 : n0 ≤ b30 := Nat.le_trans Z0 (Nat.le_of_eq g30.symm)
    have Z30 : n0 ≤ h30.size := Nat.le_trans Z0 E30.1
    have V30 : Arv Z h30 b30 k30 .long (3 : Int32) [(.long (0 : Int64)), (.long (0 : Int64)), (.long (0 : Int64))] (.long (0 : Int64)) := (Arv.new A30 (by decide)).pad (pad_rep [] (.long (0 : Int64)) 3)
    replace G : Gets p e below _ (T30.setTop (mkF m 178 #[.val (.long i0), .second, .val (.long i1), .second, .val (.int i2), .val (.int i3), .val (.int (3 : Int32)), .val (.int uu), .val (.long v0), .second, .val (.long v1), .second, .val (.long v2), .second, .val (.long v3), .second, .val (.long v4), .second, .val (.long v5), .second, .val (.long v6), .second, .val (.long v7), .second, .unset, .unset, .unset, .unset, .unset, .unset] [(.ref b30)])) := fun t k => G t (st30 t k)
    replace G := own_dup (q := 179) G X30.here hx (hb hby at_178) rfl rfl
    replace G := own_iconst (q := 180) G X30.here hx (hb hby at_179) (v := (0 : Int32)) (by decide) rfl
    replace G := own_lload (q := 182) G X30.here hx (hb hby at_180) rfl rfl
    obtain ⟨c31, Ar31, q31, S31, N31', H31, G31'⟩ := id V30
    have hin31 : ¬ ((0 : Int32) < 0 ∨ c31.slots.size ≤ ((0 : Int32)).toNatClampNeg) := inb_of S31 ⟨by decide, by decide⟩
    obtain ⟨T31, h31, X31, e31, W31, st31⟩ := stJ X30 hx hZ e30 Ar31 (j := (0 : Int32)) hin31 (g := (mkF m 182 #[.val (.long i0), .second, .val (.long i1), .second, .val (.int i2), .val (.int i3), .val (.int (3 : Int32)), .val (.int uu), .val (.long v0), .second, .val (.long v1), .second, .val (.long v2), .second, .val (.long v3), .second, .val (.long v4), .second, .val (.long v5), .second, .val (.long v6), .second, .val (.long v7), .second, .unset, .unset, .unset, .unset, .unset, .unset] [(.long v0), (.int (0 : Int32)), (.ref b30), (.ref b30)])) rfl rfl (hb hby at_182)
    have N31 := Fr.snoc X31 N0 ge_b30
    have Z31 : n0 ≤ h31.size := Nat.le_trans Z30 (Keep.of_wr W31).1
    have V31 : Arv Z h31 b30 k30 .long (3 : Int32) [(.long v0), (.long (0 : Int64)), (.long (0 : Int64))] (.long (0 : Int64)) := Arv.set Ar31 q31 S31 N31' H31 G31' rfl W31 0 rfl (Nat.le_of_ble_eq_true rfl)
    replace G : Gets p e below _ (T31.setTop (mkF m 183 #[.val (.long i0), .second, .val (.long i1), .second, .val (.int i2), .val (.int i3), .val (.int (3 : Int32)), .val (.int uu), .val (.long v0), .second, .val (.long v1), .second, .val (.long v2), .second, .val (.long v3), .second, .val (.long v4), .second, .val (.long v5), .second, .val (.long v6), .second, .val (.long v7), .second, .unset, .unset, .unset, .unset, .unset, .unset] [(.ref b30)])) := fun t k => G t (st31 t k)
    replace G := own_dup (q := 184) G X31.here hx (hb hby at_183) rfl rfl
    replace G := own_iconst (q := 185) G X31.here hx (hb hby at_184) (v := (1 : Int32)) (by decide) rfl
    replace G := own_lload (q := 187) G X31.here hx (hb hby at_185) rfl rfl
    obtain ⟨c32, Ar32, q32, S32, N32', H32, G32'⟩ := id V31
    have hin32 : ¬ ((1 : Int32) < 0 ∨ c32.slots.size ≤ ((1 : Int32)).toNatClampNeg) := inb_of S32 ⟨by decide, by decide⟩
    obtain ⟨T32, h32, X32, e32, W32, st32⟩ := stJ X31 hx hZ e31 Ar32 (j := (1 : Int32)) hin32 (g := (mkF m 187 #[.val (.long i0), .second, .val (.long i1), .second, .val (.int i2), .val (.int i3), .val (.int (3 : Int32)), .val (.int uu), .val (.long v0), .second, .val (.long v1), .second, .val (.long v2), .second, .val (.long v3), .second, .val (.long v4), .second, .val (.long v5), .second, .val (.long v6), .second, .val (.long v7), .second, .unset, .unset, .unset, .unset, .unset, .unset] [(.long v1), (.int (1 : Int32)), (.ref b30), (.ref b30)])) rfl rfl (hb hby at_187)
    have N32 := Fr.snoc X32 N31 ge_b30
    have Z32 : n0 ≤ h32.size := Nat.le_trans Z31 (Keep.of_wr W32).1
    have V32 : Arv Z h32 b30 k30 .long (3 : Int32) [(.long v0), (.long v1), (.long (0 : Int64))] (.long (0 : Int64)) := Arv.set Ar32 q32 S32 N32' H32 G32' rfl W32 1 rfl (Nat.le_of_ble_eq_true rfl)
    replace G : Gets p e below _ (T32.setTop (mkF m 188 #[.val (.long i0), .second, .val (.long i1), .second, .val (.int i2), .val (.int i3), .val (.int (3 : Int32)), .val (.int uu), .val (.long v0), .second, .val (.long v1), .second, .val (.long v2), .second, .val (.long v3), .second, .val (.long v4), .second, .val (.long v5), .second, .val (.long v6), .second, .val (.long v7), .second, .unset, .unset, .unset, .unset, .unset, .unset] [(.ref b30)])) := fun t k => G t (st32 t k)
    replace G := own_dup (q := 189) G X32.here hx (hb hby at_188) rfl rfl
    replace G := own_iconst (q := 190) G X32.here hx (hb hby at_189) (v := (2 : Int32)) (by decide) rfl
    replace G := own_lload (q := 192) G X32.here hx (hb hby at_190) rfl rfl
    obtain ⟨c33, Ar33, q33, S33, N33', H33, G33'⟩ := id V32
    have hin33 : ¬ ((2 : Int32) < 0 ∨ c33.slots.size ≤ ((2 : Int32)).toNatClampNeg) := inb_of S33 ⟨by decide, by decide⟩
    obtain ⟨T33, h33, X33, e33, W33, st33⟩ := stJ X32 hx hZ e32 Ar33 (j := (2 : Int32)) hin33 (g := (mkF m 192 #[.val (.long i0), .second, .val (.long i1), .second, .val (.int i2), .val (.int i3), .val (.int (3 : Int32)), .val (.int uu), .val (.long v0), .second, .val (.long v1), .second, .val (.long v2), .second, .val (.long v3), .second, .val (.long v4), .second, .val (.long v5), .second, .val (.long v6), .second, .val (.long v7), .second, .unset, .unset, .unset, .unset, .unset, .unset] [(.long v2), (.int (2 : Int32)), (.ref b30), (.ref b30)])) rfl rfl (hb hby at_192)
    have N33 := Fr.snoc X33 N32 ge_b30
    have Z33 : n0 ≤ h33.size := Nat.le_trans Z32 (Keep.of_wr W33).1
    have V33 : Arv Z h33 b30 k30 .long (3 : Int32) [(.long v0), (.long v1), (.long v2)] (.long (0 : Int64)) := Arv.set Ar33 q33 S33 N33' H33 G33' rfl W33 2 rfl (Nat.le_of_ble_eq_true rfl)
    replace G : Gets p e below _ (T33.setTop (mkF m 193 #[.val (.long i0), .second, .val (.long i1), .second, .val (.int i2), .val (.int i3), .val (.int (3 : Int32)), .val (.int uu), .val (.long v0), .second, .val (.long v1), .second, .val (.long v2), .second, .val (.long v3), .second, .val (.long v4), .second, .val (.long v5), .second, .val (.long v6), .second, .val (.long v7), .second, .unset, .unset, .unset, .unset, .unset, .unset] [(.ref b30)])) := fun t k => G t (st33 t k)
    replace G := own_astore (q := 195) (l' := #[.val (.long i0), .second, .val (.long i1), .second, .val (.int i2), .val (.int i3), .val (.int (3 : Int32)), .val (.int uu), .val (.long v0), .second, .val (.long v1), .second, .val (.long v2), .second, .val (.long v3), .second, .val (.long v4), .second, .val (.long v5), .second, .val (.long v6), .second, .val (.long v7), .second, .val (.ref b30), .unset, .unset, .unset, .unset, .unset]) G X33.here hx (hb hby at_193) rfl rfl rfl
    replace G := own_goto (q := 417) G X33.here hx (hb hby at_195) (by decide) (by decide)
    replace G := own_aload (q := 419) G X33.here hx (hb hby at_417) rfl rfl rfl
    replace G := own_iload (q := 421) G X33.here hx (hb hby at_419) rfl rfl
    have sp := own_ixs uu (3 : Int32) 3 rfl (by decide) (by decide) huu
    rcases own_cases3 ⟨sp.1, sp.2.1⟩ with hj | hj | hj
    · obtain ⟨_, _, ⟨T34, L34, kk34, nn34⟩, -, X34, ⟨Lc34, hQ34, l34, y34, z34⟩, st34⟩ := Jvm.LawKit.callS X33 hx (y := (⟨"com/example/cued/cued/Bench", "percentile", "([JI)J"⟩ : MethodName)) hown (mvT hZ (hw _ (List.mem_of_getElem? (i := 3) rfl))) (mvT hZ (hw _ (List.mem_of_getElem? (i := 4) rfl))) (mvT hZ (hw _ (List.mem_of_getElem? (i := 5) rfl))) (mvT hZ (hw _ (List.mem_of_getElem? (i := 6) rfl))) (by decide) (backOf (W := 0) (rm1 l Z a0 hw [] b30 uu k30 (3 : Int32) [(.long v0), (.long v1), (.long v2)] v0 h33 n0 Z33 V33 (by decide) huu (by rw [hj]; rfl)) hZ (hw _ (List.mem_of_getElem? (i := 6) rfl)) (hw _ (List.mem_of_getElem? (i := 5) rfl)) (by decide) (by decide)) (g := (mkF m 421 #[.val (.long i0), .second, .val (.long i1), .second, .val (.int i2), .val (.int i3), .val (.int (3 : Int32)), .val (.int uu), .val (.long v0), .second, .val (.long v1), .second, .val (.long v2), .second, .val (.long v3), .second, .val (.long v4), .second, .val (.long v5), .second, .val (.long v6), .second, .val (.long v7), .second, .val (.ref b30), .unset, .unset, .unset, .unset, .unset] [(.int uu), (.ref b30)])) rfl (by rw [hml]; rfl) (argsL := [(.ref b30), (.int uu)]) (rest := []) (lenOf pd_1 rfl) rfl (by show 2 * 0 + _ ≤ _; exact Nat.le_of_eq rfl) (hb hby at_421) (fun _ _ => ⟨rfl, e33, (by decide : 1 + 0 ≤ _), (by decide : 3 + 0 ≤ _)⟩)
      dsimp only [Pt.U, Pt.locs, Pt.cells, Pt.slots] at X34 l34 y34 z34 st34 hQ34
      subst l34 y34 z34
      obtain ⟨rfl, N34q, e34⟩ := hQ34
      have N34 := Fr.app N33 N34q
      replace G : Gets p e below _ (T34.setTop (mkF m 424 #[.val (.long i0), .second, .val (.long i1), .second, .val (.int i2), .val (.int i3), .val (.int (3 : Int32)), .val (.int uu), .val (.long v0), .second, .val (.long v1), .second, .val (.long v2), .second, .val (.long v3), .second, .val (.long v4), .second, .val (.long v5), .second, .val (.long v6), .second, .val (.long v7), .second, .val (.ref b30), .unset, .unset, .unset, .unset, .unset] [(.long v0)])) := fun t k => G t (st34 t k)
      replace G := own_lstore (q := 426) (l' := #[.val (.long i0), .second, .val (.long i1), .second, .val (.int i2), .val (.int i3), .val (.int (3 : Int32)), .val (.int uu), .val (.long v0), .second, .val (.long v1), .second, .val (.long v2), .second, .val (.long v3), .second, .val (.long v4), .second, .val (.long v5), .second, .val (.long v6), .second, .val (.long v7), .second, .val (.ref b30), .val (.long v0), .second, .unset, .unset, .unset]) G X34.here hx (hb hby at_424) rfl rfl
      replace G := own_iconst (q := 427) G X34.here hx (hb hby at_426) (v := (-1 : Int32)) (by decide) rfl
      replace G := own_istore (q := 429) (l' := #[.val (.long i0), .second, .val (.long i1), .second, .val (.int i2), .val (.int i3), .val (.int (3 : Int32)), .val (.int uu), .val (.long v0), .second, .val (.long v1), .second, .val (.long v2), .second, .val (.long v3), .second, .val (.long v4), .second, .val (.long v5), .second, .val (.long v6), .second, .val (.long v7), .second, .val (.ref b30), .val (.long v0), .second, .val (.int (-1 : Int32)), .unset, .unset]) G X34.here hx (hb hby at_427) rfl rfl
      replace G := own_lload (q := 431) G X34.here hx (hb hby at_429) rfl rfl
      replace G := own_lload (q := 433) G X34.here hx (hb hby at_431) rfl rfl
      replace G := own_lcmp (q := 434) G X34.here hx (hb hby at_433) rfl
      have hc434_35 : v0 = v0 := rfl
      replace G := own_ifNo (q := 437) G X34.here hx (hb hby at_434) ((if0 _ _).trans (teq ((lw_eq _ _).mpr hc434_35)).2) rfl
      replace G := own_iconst (q := 438) G X34.here hx (hb hby at_437) (v := (0 : Int32)) (by decide) rfl
      replace G := own_istore (q := 440) (l' := #[.val (.long i0), .second, .val (.long i1), .second, .val (.int i2), .val (.int i3), .val (.int (3 : Int32)), .val (.int uu), .val (.long v0), .second, .val (.long v1), .second, .val (.long v2), .second, .val (.long v3), .second, .val (.long v4), .second, .val (.long v5), .second, .val (.long v6), .second, .val (.long v7), .second, .val (.ref b30), .val (.long v0), .second, .val (.int (0 : Int32)), .unset, .unset]) G X34.here hx (hb hby at_438) rfl rfl
      replace G := own_goto (q := 584) G X34.here hx (hb hby at_440) (by decide) (by decide)
      replace G := own_iload (q := 586) G X34.here hx (hb hby at_584) rfl rfl
      have hc586_36 : ¬ ((0 : Int32) < (0 : Int32)) := by decide
      replace G := own_ifYes (q := 591) G X34.here hx (hb hby at_586) ((if0 _ _).trans (flt hc586_36).2.1) (by decide) (by decide)
      replace G := own_iload (q := 593) G X34.here hx (hb hby at_591) rfl rfl
      replace G := own_i2l (q := 594) G X34.here hx (hb hby at_593) rfl rfl
      replace G := own_iload (q := 596) G X34.here hx (hb hby at_594) rfl rfl
      replace G := own_i2l (q := 597) G X34.here hx (hb hby at_596) (by decide : ((3 : Int32).toInt64) = (3 : Int64)) rfl
      replace G := own_lmul (q := 598) G X34.here hx (hb hby at_597) rfl rfl
      replace G := own_lstore (q := 600) (l' := #[.val (.long i0), .second, .val (.long i1), .second, .val (.int i2), .val (.int i3), .val (.int (3 : Int32)), .val (.int uu), .val (.long v0), .second, .val (.long v1), .second, .val (.long v2), .second, .val (.long v3), .second, .val (.long v4), .second, .val (.long v5), .second, .val (.long v6), .second, .val (.long v7), .second, .val (.ref b30), .val (.long v0), .second, .val (.int (0 : Int32)), .val (.long ((uu.toInt64) * (3 : Int64))), .second]) G X34.here hx (hb hby at_598) rfl rfl
      replace G := own_iload (q := 602) G X34.here hx (hb hby at_600) rfl rfl
      replace G := own_iconst (q := 603) G X34.here hx (hb hby at_602) (v := (1 : Int32)) (by decide) rfl
      replace G := own_iadd (q := 604) G X34.here hx (hb hby at_603) (by decide : ((0 : Int32) + (1 : Int32)) = (1 : Int32)) rfl
      replace G := own_i2l (q := 605) G X34.here hx (hb hby at_604) (by decide : ((1 : Int32).toInt64) = (1 : Int64)) rfl
      replace G : Gets p e below _ (T34.setTop (mkF m 608 #[.val (.long i0), .second, .val (.long i1), .second, .val (.int i2), .val (.int i3), .val (.int (3 : Int32)), .val (.int uu), .val (.long v0), .second, .val (.long v1), .second, .val (.long v2), .second, .val (.long v3), .second, .val (.long v4), .second, .val (.long v5), .second, .val (.long v6), .second, .val (.long v7), .second, .val (.ref b30), .val (.long v0), .second, .val (.int (0 : Int32)), .val (.long ((uu.toInt64) * (3 : Int64))), .second] [(.long (100 : Int64)), (.long (1 : Int64))])) := fun t k => G t (X34.ldc2Long hx hown (mvT hZ (hw _ (List.mem_of_getElem? (i := 13) rfl))) (g := (mkF m 605 #[.val (.long i0), .second, .val (.long i1), .second, .val (.int i2), .val (.int i3), .val (.int (3 : Int32)), .val (.int uu), .val (.long v0), .second, .val (.long v1), .second, .val (.long v2), .second, .val (.long v3), .second, .val (.long v4), .second, .val (.long v5), .second, .val (.long v6), .second, .val (.long v7), .second, .val (.ref b30), .val (.long v0), .second, .val (.int (0 : Int32)), .val (.long ((uu.toInt64) * (3 : Int64))), .second] [(.long (1 : Int64))])) rfl (hb hby at_605) t k)
      replace G := own_lmul (q := 609) G X34.here hx (hb hby at_608) (by decide : ((1 : Int64) * (100 : Int64)) = (100 : Int64)) rfl
      replace G := own_lload (q := 611) G X34.here hx (hb hby at_609) rfl rfl
      replace G := own_lcmp (q := 612) G X34.here hx (hb hby at_611) rfl
      have hc612_37 : ¬ ((100 : Int64) < ((uu.toInt64) * (3 : Int64))) := by
        rw [hj, show (0 : Int32).toInt = 0 from rfl] at sp
        have A := c_lmul uu.toInt64 3
        rw [c_i2l, show (3 : Int64).toInt = 3 from rfl] at A
        have RA := rng64 (uu.toInt64 * 3)
        have hB : 0 ≤ uu.toInt * 3 ∧ uu.toInt * 3 ≤ 800 := by omega
        have e : (uu.toInt64 * 3).toInt = uu.toInt * 3 := by
          generalize uu.toInt * 3 = P at A hB ⊢
          omega
        rw [own_ltL, e, show (100 : Int64).toInt = 100 from rfl]
        omega
      replace G := own_ifNo (q := 615) G X34.here hx (hb hby at_612) ((if0 _ _).trans (flt (fun z => hc612_37 ((lw_lt _ _).mp z))).1) rfl
      replace G := own_iload (q := 617) G X34.here hx (hb hby at_615) rfl rfl
      have hc617_38 : (0 : Int32) = (0 : Int32) := by decide
      replace G := own_ifYes (q := 633) G X34.here hx (hb hby at_617) ((if0 _ _).trans (teq hc617_38).1) (by decide) (by decide)
      replace G := own_iconst (q := 634) G X34.here hx (hb hby at_633) (v := (1 : Int32)) (by decide) rfl
      replace G := own_goto (q := 638) G X34.here hx (hb hby at_634) (by decide) (by decide)
      obtain ⟨fs, hr, hrun, hended, hW, hsame⟩ := X34.leave (v := some (.int (1 : Int32))) (fun h => by rw [Bd.returns] at h; cases h)
      refine ⟨_, _, G _ (retOut X34 hx Bd.returns rfl (Or.inl ⟨rfl, Or.inr (Or.inl rfl), _, rfl⟩) (hb hby at_638) hr), hrun, hended, _, _, rfl, ?_, ⟨_, rfl⟩, hW, hsame.mono (by decide) (by decide)⟩
      show Q0 Z i0 i1 i2 i3 h0 n0 _ T34.heap _
      rw [e34]
      exact ⟨rfl, N34⟩
    · obtain ⟨_, _, ⟨T39, L39, kk39, nn39⟩, -, X39, ⟨Lc39, hQ39, l39, y39, z39⟩, st39⟩ := Jvm.LawKit.callS X33 hx (y := (⟨"com/example/cued/cued/Bench", "percentile", "([JI)J"⟩ : MethodName)) hown (mvT hZ (hw _ (List.mem_of_getElem? (i := 3) rfl))) (mvT hZ (hw _ (List.mem_of_getElem? (i := 4) rfl))) (mvT hZ (hw _ (List.mem_of_getElem? (i := 5) rfl))) (mvT hZ (hw _ (List.mem_of_getElem? (i := 6) rfl))) (by decide) (backOf (W := 0) (rm1 l Z a0 hw [] b30 uu k30 (3 : Int32) [(.long v0), (.long v1), (.long v2)] v1 h33 n0 Z33 V33 (by decide) huu (by rw [hj]; rfl)) hZ (hw _ (List.mem_of_getElem? (i := 6) rfl)) (hw _ (List.mem_of_getElem? (i := 5) rfl)) (by decide) (by decide)) (g := (mkF m 421 #[.val (.long i0), .second, .val (.long i1), .second, .val (.int i2), .val (.int i3), .val (.int (3 : Int32)), .val (.int uu), .val (.long v0), .second, .val (.long v1), .second, .val (.long v2), .second, .val (.long v3), .second, .val (.long v4), .second, .val (.long v5), .second, .val (.long v6), .second, .val (.long v7), .second, .val (.ref b30), .unset, .unset, .unset, .unset, .unset] [(.int uu), (.ref b30)])) rfl (by rw [hml]; rfl) (argsL := [(.ref b30), (.int uu)]) (rest := []) (lenOf pd_1 rfl) rfl (by show 2 * 0 + _ ≤ _; exact Nat.le_of_eq rfl) (hb hby at_421) (fun _ _ => ⟨rfl, e33, (by decide : 1 + 0 ≤ _), (by decide : 3 + 0 ≤ _)⟩)
      dsimp only [Pt.U, Pt.locs, Pt.cells, Pt.slots] at X39 l39 y39 z39 st39 hQ39
      subst l39 y39 z39
      obtain ⟨rfl, N39q, e39⟩ := hQ39
      have N39 := Fr.app N33 N39q
      replace G : Gets p e below _ (T39.setTop (mkF m 424 #[.val (.long i0), .second, .val (.long i1), .second, .val (.int i2), .val (.int i3), .val (.int (3 : Int32)), .val (.int uu), .val (.long v0), .second, .val (.long v1), .second, .val (.long v2), .second, .val (.long v3), .second, .val (.long v4), .second, .val (.long v5), .second, .val (.long v6), .second, .val (.long v7), .second, .val (.ref b30), .unset, .unset, .unset, .unset, .unset] [(.long v1)])) := fun t k => G t (st39 t k)
      replace G := own_lstore (q := 426) (l' := #[.val (.long i0), .second, .val (.long i1), .second, .val (.int i2), .val (.int i3), .val (.int (3 : Int32)), .val (.int uu), .val (.long v0), .second, .val (.long v1), .second, .val (.long v2), .second, .val (.long v3), .second, .val (.long v4), .second, .val (.long v5), .second, .val (.long v6), .second, .val (.long v7), .second, .val (.ref b30), .val (.long v1), .second, .unset, .unset, .unset]) G X39.here hx (hb hby at_424) rfl rfl
      replace G := own_iconst (q := 427) G X39.here hx (hb hby at_426) (v := (-1 : Int32)) (by decide) rfl
      replace G := own_istore (q := 429) (l' := #[.val (.long i0), .second, .val (.long i1), .second, .val (.int i2), .val (.int i3), .val (.int (3 : Int32)), .val (.int uu), .val (.long v0), .second, .val (.long v1), .second, .val (.long v2), .second, .val (.long v3), .second, .val (.long v4), .second, .val (.long v5), .second, .val (.long v6), .second, .val (.long v7), .second, .val (.ref b30), .val (.long v1), .second, .val (.int (-1 : Int32)), .unset, .unset]) G X39.here hx (hb hby at_427) rfl rfl
      replace G := own_lload (q := 431) G X39.here hx (hb hby at_429) rfl rfl
      replace G := own_lload (q := 433) G X39.here hx (hb hby at_431) rfl rfl
      replace G := own_lcmp (q := 434) G X39.here hx (hb hby at_433) rfl
      have hc434_40 : ¬ (v1 = v0) := fun z => by have := congrArg Int64.toInt z; omega
      replace G := own_ifYes (q := 443) G X39.here hx (hb hby at_434) ((if0 _ _).trans (feq (fun z => hc434_40 ((lw_eq _ _).mp z))).2) (by decide) (by decide)
      replace G := own_iload (q := 445) G X39.here hx (hb hby at_443) rfl rfl
      replace G := own_iconst (q := 446) G X39.here hx (hb hby at_445) (v := (1 : Int32)) (by decide) rfl
      have hc446_41 : (1 : Int32) < (3 : Int32) := by decide
      replace G := own_icmpNo (q := 449) G X39.here hx (hb hby at_446) (tlt hc446_41).2.2.2 rfl
      replace G := own_lload (q := 451) G X39.here hx (hb hby at_449) rfl rfl
      replace G := own_lload (q := 453) G X39.here hx (hb hby at_451) rfl rfl
      replace G := own_lcmp (q := 454) G X39.here hx (hb hby at_453) rfl
      have hc454_42 : v1 = v1 := rfl
      replace G := own_ifNo (q := 457) G X39.here hx (hb hby at_454) ((if0 _ _).trans (teq ((lw_eq _ _).mpr hc454_42)).2) rfl
      replace G := own_iconst (q := 458) G X39.here hx (hb hby at_457) (v := (1 : Int32)) (by decide) rfl
      replace G := own_istore (q := 460) (l' := #[.val (.long i0), .second, .val (.long i1), .second, .val (.int i2), .val (.int i3), .val (.int (3 : Int32)), .val (.int uu), .val (.long v0), .second, .val (.long v1), .second, .val (.long v2), .second, .val (.long v3), .second, .val (.long v4), .second, .val (.long v5), .second, .val (.long v6), .second, .val (.long v7), .second, .val (.ref b30), .val (.long v1), .second, .val (.int (1 : Int32)), .unset, .unset]) G X39.here hx (hb hby at_458) rfl rfl
      replace G := own_goto (q := 584) G X39.here hx (hb hby at_460) (by decide) (by decide)
      replace G := own_iload (q := 586) G X39.here hx (hb hby at_584) rfl rfl
      have hc586_43 : ¬ ((1 : Int32) < (0 : Int32)) := by decide
      replace G := own_ifYes (q := 591) G X39.here hx (hb hby at_586) ((if0 _ _).trans (flt hc586_43).2.1) (by decide) (by decide)
      replace G := own_iload (q := 593) G X39.here hx (hb hby at_591) rfl rfl
      replace G := own_i2l (q := 594) G X39.here hx (hb hby at_593) rfl rfl
      replace G := own_iload (q := 596) G X39.here hx (hb hby at_594) rfl rfl
      replace G := own_i2l (q := 597) G X39.here hx (hb hby at_596) (by decide : ((3 : Int32).toInt64) = (3 : Int64)) rfl
      replace G := own_lmul (q := 598) G X39.here hx (hb hby at_597) rfl rfl
      replace G := own_lstore (q := 600) (l' := #[.val (.long i0), .second, .val (.long i1), .second, .val (.int i2), .val (.int i3), .val (.int (3 : Int32)), .val (.int uu), .val (.long v0), .second, .val (.long v1), .second, .val (.long v2), .second, .val (.long v3), .second, .val (.long v4), .second, .val (.long v5), .second, .val (.long v6), .second, .val (.long v7), .second, .val (.ref b30), .val (.long v1), .second, .val (.int (1 : Int32)), .val (.long ((uu.toInt64) * (3 : Int64))), .second]) G X39.here hx (hb hby at_598) rfl rfl
      replace G := own_iload (q := 602) G X39.here hx (hb hby at_600) rfl rfl
      replace G := own_iconst (q := 603) G X39.here hx (hb hby at_602) (v := (1 : Int32)) (by decide) rfl
      replace G := own_iadd (q := 604) G X39.here hx (hb hby at_603) (by decide : ((1 : Int32) + (1 : Int32)) = (2 : Int32)) rfl
      replace G := own_i2l (q := 605) G X39.here hx (hb hby at_604) (by decide : ((2 : Int32).toInt64) = (2 : Int64)) rfl
      replace G : Gets p e below _ (T39.setTop (mkF m 608 #[.val (.long i0), .second, .val (.long i1), .second, .val (.int i2), .val (.int i3), .val (.int (3 : Int32)), .val (.int uu), .val (.long v0), .second, .val (.long v1), .second, .val (.long v2), .second, .val (.long v3), .second, .val (.long v4), .second, .val (.long v5), .second, .val (.long v6), .second, .val (.long v7), .second, .val (.ref b30), .val (.long v1), .second, .val (.int (1 : Int32)), .val (.long ((uu.toInt64) * (3 : Int64))), .second] [(.long (100 : Int64)), (.long (2 : Int64))])) := fun t k => G t (X39.ldc2Long hx hown (mvT hZ (hw _ (List.mem_of_getElem? (i := 13) rfl))) (g := (mkF m 605 #[.val (.long i0), .second, .val (.long i1), .second, .val (.int i2), .val (.int i3), .val (.int (3 : Int32)), .val (.int uu), .val (.long v0), .second, .val (.long v1), .second, .val (.long v2), .second, .val (.long v3), .second, .val (.long v4), .second, .val (.long v5), .second, .val (.long v6), .second, .val (.long v7), .second, .val (.ref b30), .val (.long v1), .second, .val (.int (1 : Int32)), .val (.long ((uu.toInt64) * (3 : Int64))), .second] [(.long (2 : Int64))])) rfl (hb hby at_605) t k)
      replace G := own_lmul (q := 609) G X39.here hx (hb hby at_608) (by decide : ((2 : Int64) * (100 : Int64)) = (200 : Int64)) rfl
      replace G := own_lload (q := 611) G X39.here hx (hb hby at_609) rfl rfl
      replace G := own_lcmp (q := 612) G X39.here hx (hb hby at_611) rfl
      have hc612_44 : ¬ ((200 : Int64) < ((uu.toInt64) * (3 : Int64))) := by
        rw [hj, show (1 : Int32).toInt = 1 from rfl] at sp
        have A := c_lmul uu.toInt64 3
        rw [c_i2l, show (3 : Int64).toInt = 3 from rfl] at A
        have RA := rng64 (uu.toInt64 * 3)
        have hB : 0 ≤ uu.toInt * 3 ∧ uu.toInt * 3 ≤ 800 := by omega
        have e : (uu.toInt64 * 3).toInt = uu.toInt * 3 := by
          generalize uu.toInt * 3 = P at A hB ⊢
          omega
        rw [own_ltL, e, show (200 : Int64).toInt = 200 from rfl]
        omega
      replace G := own_ifNo (q := 615) G X39.here hx (hb hby at_612) ((if0 _ _).trans (flt (fun z => hc612_44 ((lw_lt _ _).mp z))).1) rfl
      replace G := own_iload (q := 617) G X39.here hx (hb hby at_615) rfl rfl
      have hc617_45 : ¬ ((1 : Int32) = (0 : Int32)) := by decide
      replace G := own_ifNo (q := 620) G X39.here hx (hb hby at_617) ((if0 _ _).trans (feq hc617_45).1) rfl
      replace G := own_iload (q := 622) G X39.here hx (hb hby at_620) rfl rfl
      replace G := own_i2l (q := 623) G X39.here hx (hb hby at_622) (by decide : ((1 : Int32).toInt64) = (1 : Int64)) rfl
      replace G : Gets p e below _ (T39.setTop (mkF m 626 #[.val (.long i0), .second, .val (.long i1), .second, .val (.int i2), .val (.int i3), .val (.int (3 : Int32)), .val (.int uu), .val (.long v0), .second, .val (.long v1), .second, .val (.long v2), .second, .val (.long v3), .second, .val (.long v4), .second, .val (.long v5), .second, .val (.long v6), .second, .val (.long v7), .second, .val (.ref b30), .val (.long v1), .second, .val (.int (1 : Int32)), .val (.long ((uu.toInt64) * (3 : Int64))), .second] [(.long (100 : Int64)), (.long (1 : Int64))])) := fun t k => G t (X39.ldc2Long hx hown (mvT hZ (hw _ (List.mem_of_getElem? (i := 13) rfl))) (g := (mkF m 623 #[.val (.long i0), .second, .val (.long i1), .second, .val (.int i2), .val (.int i3), .val (.int (3 : Int32)), .val (.int uu), .val (.long v0), .second, .val (.long v1), .second, .val (.long v2), .second, .val (.long v3), .second, .val (.long v4), .second, .val (.long v5), .second, .val (.long v6), .second, .val (.long v7), .second, .val (.ref b30), .val (.long v1), .second, .val (.int (1 : Int32)), .val (.long ((uu.toInt64) * (3 : Int64))), .second] [(.long (1 : Int64))])) rfl (hb hby at_623) t k)
      replace G := own_lmul (q := 627) G X39.here hx (hb hby at_626) (by decide : ((1 : Int64) * (100 : Int64)) = (100 : Int64)) rfl
      replace G := own_lload (q := 629) G X39.here hx (hb hby at_627) rfl rfl
      replace G := own_lcmp (q := 630) G X39.here hx (hb hby at_629) rfl
      have hc630_46 : (100 : Int64) < ((uu.toInt64) * (3 : Int64)) := by
        rw [hj, show (1 : Int32).toInt = 1 from rfl] at sp
        have A := c_lmul uu.toInt64 3
        rw [c_i2l, show (3 : Int64).toInt = 3 from rfl] at A
        have RA := rng64 (uu.toInt64 * 3)
        have hB : 0 ≤ uu.toInt * 3 ∧ uu.toInt * 3 ≤ 800 := by omega
        have e : (uu.toInt64 * 3).toInt = uu.toInt * 3 := by
          generalize uu.toInt * 3 = P at A hB ⊢
          omega
        rw [own_ltL, e, show (100 : Int64).toInt = 100 from rfl]
        omega
      replace G := own_ifNo (q := 633) G X39.here hx (hb hby at_630) ((if0 _ _).trans (tlt ((lw_lt _ _).mpr hc630_46)).2.1) rfl
      replace G := own_iconst (q := 634) G X39.here hx (hb hby at_633) (v := (1 : Int32)) (by decide) rfl
      replace G := own_goto (q := 638) G X39.here hx (hb hby at_634) (by decide) (by decide)
      obtain ⟨fs, hr, hrun, hended, hW, hsame⟩ := X39.leave (v := some (.int (1 : Int32))) (fun h => by rw [Bd.returns] at h; cases h)
      refine ⟨_, _, G _ (retOut X39 hx Bd.returns rfl (Or.inl ⟨rfl, Or.inr (Or.inl rfl), _, rfl⟩) (hb hby at_638) hr), hrun, hended, _, _, rfl, ?_, ⟨_, rfl⟩, hW, hsame.mono (by decide) (by decide)⟩
      show Q0 Z i0 i1 i2 i3 h0 n0 _ T39.heap _
      rw [e39]
      exact ⟨rfl, N39⟩
    · obtain ⟨_, _, ⟨T47, L47, kk47, nn47⟩, -, X47, ⟨Lc47, hQ47, l47, y47, z47⟩, st47⟩ := Jvm.LawKit.callS X33 hx (y := (⟨"com/example/cued/cued/Bench", "percentile", "([JI)J"⟩ : MethodName)) hown (mvT hZ (hw _ (List.mem_of_getElem? (i := 3) rfl))) (mvT hZ (hw _ (List.mem_of_getElem? (i := 4) rfl))) (mvT hZ (hw _ (List.mem_of_getElem? (i := 5) rfl))) (mvT hZ (hw _ (List.mem_of_getElem? (i := 6) rfl))) (by decide) (backOf (W := 0) (rm1 l Z a0 hw [] b30 uu k30 (3 : Int32) [(.long v0), (.long v1), (.long v2)] v2 h33 n0 Z33 V33 (by decide) huu (by rw [hj]; rfl)) hZ (hw _ (List.mem_of_getElem? (i := 6) rfl)) (hw _ (List.mem_of_getElem? (i := 5) rfl)) (by decide) (by decide)) (g := (mkF m 421 #[.val (.long i0), .second, .val (.long i1), .second, .val (.int i2), .val (.int i3), .val (.int (3 : Int32)), .val (.int uu), .val (.long v0), .second, .val (.long v1), .second, .val (.long v2), .second, .val (.long v3), .second, .val (.long v4), .second, .val (.long v5), .second, .val (.long v6), .second, .val (.long v7), .second, .val (.ref b30), .unset, .unset, .unset, .unset, .unset] [(.int uu), (.ref b30)])) rfl (by rw [hml]; rfl) (argsL := [(.ref b30), (.int uu)]) (rest := []) (lenOf pd_1 rfl) rfl (by show 2 * 0 + _ ≤ _; exact Nat.le_of_eq rfl) (hb hby at_421) (fun _ _ => ⟨rfl, e33, (by decide : 1 + 0 ≤ _), (by decide : 3 + 0 ≤ _)⟩)
      dsimp only [Pt.U, Pt.locs, Pt.cells, Pt.slots] at X47 l47 y47 z47 st47 hQ47
      subst l47 y47 z47
      obtain ⟨rfl, N47q, e47⟩ := hQ47
      have N47 := Fr.app N33 N47q
      replace G : Gets p e below _ (T47.setTop (mkF m 424 #[.val (.long i0), .second, .val (.long i1), .second, .val (.int i2), .val (.int i3), .val (.int (3 : Int32)), .val (.int uu), .val (.long v0), .second, .val (.long v1), .second, .val (.long v2), .second, .val (.long v3), .second, .val (.long v4), .second, .val (.long v5), .second, .val (.long v6), .second, .val (.long v7), .second, .val (.ref b30), .unset, .unset, .unset, .unset, .unset] [(.long v2)])) := fun t k => G t (st47 t k)
      replace G := own_lstore (q := 426) (l' := #[.val (.long i0), .second, .val (.long i1), .second, .val (.int i2), .val (.int i3), .val (.int (3 : Int32)), .val (.int uu), .val (.long v0), .second, .val (.long v1), .second, .val (.long v2), .second, .val (.long v3), .second, .val (.long v4), .second, .val (.long v5), .second, .val (.long v6), .second, .val (.long v7), .second, .val (.ref b30), .val (.long v2), .second, .unset, .unset, .unset]) G X47.here hx (hb hby at_424) rfl rfl
      replace G := own_iconst (q := 427) G X47.here hx (hb hby at_426) (v := (-1 : Int32)) (by decide) rfl
      replace G := own_istore (q := 429) (l' := #[.val (.long i0), .second, .val (.long i1), .second, .val (.int i2), .val (.int i3), .val (.int (3 : Int32)), .val (.int uu), .val (.long v0), .second, .val (.long v1), .second, .val (.long v2), .second, .val (.long v3), .second, .val (.long v4), .second, .val (.long v5), .second, .val (.long v6), .second, .val (.long v7), .second, .val (.ref b30), .val (.long v2), .second, .val (.int (-1 : Int32)), .unset, .unset]) G X47.here hx (hb hby at_427) rfl rfl
      replace G := own_lload (q := 431) G X47.here hx (hb hby at_429) rfl rfl
      replace G := own_lload (q := 433) G X47.here hx (hb hby at_431) rfl rfl
      replace G := own_lcmp (q := 434) G X47.here hx (hb hby at_433) rfl
      have hc434_48 : ¬ (v2 = v0) := fun z => by have := congrArg Int64.toInt z; omega
      replace G := own_ifYes (q := 443) G X47.here hx (hb hby at_434) ((if0 _ _).trans (feq (fun z => hc434_48 ((lw_eq _ _).mp z))).2) (by decide) (by decide)
      replace G := own_iload (q := 445) G X47.here hx (hb hby at_443) rfl rfl
      replace G := own_iconst (q := 446) G X47.here hx (hb hby at_445) (v := (1 : Int32)) (by decide) rfl
      have hc446_49 : (1 : Int32) < (3 : Int32) := by decide
      replace G := own_icmpNo (q := 449) G X47.here hx (hb hby at_446) (tlt hc446_49).2.2.2 rfl
      replace G := own_lload (q := 451) G X47.here hx (hb hby at_449) rfl rfl
      replace G := own_lload (q := 453) G X47.here hx (hb hby at_451) rfl rfl
      replace G := own_lcmp (q := 454) G X47.here hx (hb hby at_453) rfl
      have hc454_50 : ¬ (v2 = v1) := fun z => by have := congrArg Int64.toInt z; omega
      replace G := own_ifYes (q := 463) G X47.here hx (hb hby at_454) ((if0 _ _).trans (feq (fun z => hc454_50 ((lw_eq _ _).mp z))).2) (by decide) (by decide)
      replace G := own_iload (q := 465) G X47.here hx (hb hby at_463) rfl rfl
      replace G := own_iconst (q := 466) G X47.here hx (hb hby at_465) (v := (2 : Int32)) (by decide) rfl
      have hc466_51 : (2 : Int32) < (3 : Int32) := by decide
      replace G := own_icmpNo (q := 469) G X47.here hx (hb hby at_466) (tlt hc466_51).2.2.2 rfl
      replace G := own_lload (q := 471) G X47.here hx (hb hby at_469) rfl rfl
      replace G := own_lload (q := 473) G X47.here hx (hb hby at_471) rfl rfl
      replace G := own_lcmp (q := 474) G X47.here hx (hb hby at_473) rfl
      have hc474_52 : v2 = v2 := rfl
      replace G := own_ifNo (q := 477) G X47.here hx (hb hby at_474) ((if0 _ _).trans (teq ((lw_eq _ _).mpr hc474_52)).2) rfl
      replace G := own_iconst (q := 478) G X47.here hx (hb hby at_477) (v := (2 : Int32)) (by decide) rfl
      replace G := own_istore (q := 480) (l' := #[.val (.long i0), .second, .val (.long i1), .second, .val (.int i2), .val (.int i3), .val (.int (3 : Int32)), .val (.int uu), .val (.long v0), .second, .val (.long v1), .second, .val (.long v2), .second, .val (.long v3), .second, .val (.long v4), .second, .val (.long v5), .second, .val (.long v6), .second, .val (.long v7), .second, .val (.ref b30), .val (.long v2), .second, .val (.int (2 : Int32)), .unset, .unset]) G X47.here hx (hb hby at_478) rfl rfl
      replace G := own_goto (q := 584) G X47.here hx (hb hby at_480) (by decide) (by decide)
      replace G := own_iload (q := 586) G X47.here hx (hb hby at_584) rfl rfl
      have hc586_53 : ¬ ((2 : Int32) < (0 : Int32)) := by decide
      replace G := own_ifYes (q := 591) G X47.here hx (hb hby at_586) ((if0 _ _).trans (flt hc586_53).2.1) (by decide) (by decide)
      replace G := own_iload (q := 593) G X47.here hx (hb hby at_591) rfl rfl
      replace G := own_i2l (q := 594) G X47.here hx (hb hby at_593) rfl rfl
      replace G := own_iload (q := 596) G X47.here hx (hb hby at_594) rfl rfl
      replace G := own_i2l (q := 597) G X47.here hx (hb hby at_596) (by decide : ((3 : Int32).toInt64) = (3 : Int64)) rfl
      replace G := own_lmul (q := 598) G X47.here hx (hb hby at_597) rfl rfl
      replace G := own_lstore (q := 600) (l' := #[.val (.long i0), .second, .val (.long i1), .second, .val (.int i2), .val (.int i3), .val (.int (3 : Int32)), .val (.int uu), .val (.long v0), .second, .val (.long v1), .second, .val (.long v2), .second, .val (.long v3), .second, .val (.long v4), .second, .val (.long v5), .second, .val (.long v6), .second, .val (.long v7), .second, .val (.ref b30), .val (.long v2), .second, .val (.int (2 : Int32)), .val (.long ((uu.toInt64) * (3 : Int64))), .second]) G X47.here hx (hb hby at_598) rfl rfl
      replace G := own_iload (q := 602) G X47.here hx (hb hby at_600) rfl rfl
      replace G := own_iconst (q := 603) G X47.here hx (hb hby at_602) (v := (1 : Int32)) (by decide) rfl
      replace G := own_iadd (q := 604) G X47.here hx (hb hby at_603) (by decide : ((2 : Int32) + (1 : Int32)) = (3 : Int32)) rfl
      replace G := own_i2l (q := 605) G X47.here hx (hb hby at_604) (by decide : ((3 : Int32).toInt64) = (3 : Int64)) rfl
      replace G : Gets p e below _ (T47.setTop (mkF m 608 #[.val (.long i0), .second, .val (.long i1), .second, .val (.int i2), .val (.int i3), .val (.int (3 : Int32)), .val (.int uu), .val (.long v0), .second, .val (.long v1), .second, .val (.long v2), .second, .val (.long v3), .second, .val (.long v4), .second, .val (.long v5), .second, .val (.long v6), .second, .val (.long v7), .second, .val (.ref b30), .val (.long v2), .second, .val (.int (2 : Int32)), .val (.long ((uu.toInt64) * (3 : Int64))), .second] [(.long (100 : Int64)), (.long (3 : Int64))])) := fun t k => G t (X47.ldc2Long hx hown (mvT hZ (hw _ (List.mem_of_getElem? (i := 13) rfl))) (g := (mkF m 605 #[.val (.long i0), .second, .val (.long i1), .second, .val (.int i2), .val (.int i3), .val (.int (3 : Int32)), .val (.int uu), .val (.long v0), .second, .val (.long v1), .second, .val (.long v2), .second, .val (.long v3), .second, .val (.long v4), .second, .val (.long v5), .second, .val (.long v6), .second, .val (.long v7), .second, .val (.ref b30), .val (.long v2), .second, .val (.int (2 : Int32)), .val (.long ((uu.toInt64) * (3 : Int64))), .second] [(.long (3 : Int64))])) rfl (hb hby at_605) t k)
      replace G := own_lmul (q := 609) G X47.here hx (hb hby at_608) (by decide : ((3 : Int64) * (100 : Int64)) = (300 : Int64)) rfl
      replace G := own_lload (q := 611) G X47.here hx (hb hby at_609) rfl rfl
      replace G := own_lcmp (q := 612) G X47.here hx (hb hby at_611) rfl
      have hc612_54 : ¬ ((300 : Int64) < ((uu.toInt64) * (3 : Int64))) := by
        rw [hj, show (2 : Int32).toInt = 2 from rfl] at sp
        have A := c_lmul uu.toInt64 3
        rw [c_i2l, show (3 : Int64).toInt = 3 from rfl] at A
        have RA := rng64 (uu.toInt64 * 3)
        have hB : 0 ≤ uu.toInt * 3 ∧ uu.toInt * 3 ≤ 800 := by omega
        have e : (uu.toInt64 * 3).toInt = uu.toInt * 3 := by
          generalize uu.toInt * 3 = P at A hB ⊢
          omega
        rw [own_ltL, e, show (300 : Int64).toInt = 300 from rfl]
        omega
      replace G := own_ifNo (q := 615) G X47.here hx (hb hby at_612) ((if0 _ _).trans (flt (fun z => hc612_54 ((lw_lt _ _).mp z))).1) rfl
      replace G := own_iload (q := 617) G X47.here hx (hb hby at_615) rfl rfl
      have hc617_55 : ¬ ((2 : Int32) = (0 : Int32)) := by decide
      replace G := own_ifNo (q := 620) G X47.here hx (hb hby at_617) ((if0 _ _).trans (feq hc617_55).1) rfl
      replace G := own_iload (q := 622) G X47.here hx (hb hby at_620) rfl rfl
      replace G := own_i2l (q := 623) G X47.here hx (hb hby at_622) (by decide : ((2 : Int32).toInt64) = (2 : Int64)) rfl
      replace G : Gets p e below _ (T47.setTop (mkF m 626 #[.val (.long i0), .second, .val (.long i1), .second, .val (.int i2), .val (.int i3), .val (.int (3 : Int32)), .val (.int uu), .val (.long v0), .second, .val (.long v1), .second, .val (.long v2), .second, .val (.long v3), .second, .val (.long v4), .second, .val (.long v5), .second, .val (.long v6), .second, .val (.long v7), .second, .val (.ref b30), .val (.long v2), .second, .val (.int (2 : Int32)), .val (.long ((uu.toInt64) * (3 : Int64))), .second] [(.long (100 : Int64)), (.long (2 : Int64))])) := fun t k => G t (X47.ldc2Long hx hown (mvT hZ (hw _ (List.mem_of_getElem? (i := 13) rfl))) (g := (mkF m 623 #[.val (.long i0), .second, .val (.long i1), .second, .val (.int i2), .val (.int i3), .val (.int (3 : Int32)), .val (.int uu), .val (.long v0), .second, .val (.long v1), .second, .val (.long v2), .second, .val (.long v3), .second, .val (.long v4), .second, .val (.long v5), .second, .val (.long v6), .second, .val (.long v7), .second, .val (.ref b30), .val (.long v2), .second, .val (.int (2 : Int32)), .val (.long ((uu.toInt64) * (3 : Int64))), .second] [(.long (2 : Int64))])) rfl (hb hby at_623) t k)
      replace G := own_lmul (q := 627) G X47.here hx (hb hby at_626) (by decide : ((2 : Int64) * (100 : Int64)) = (200 : Int64)) rfl
      replace G := own_lload (q := 629) G X47.here hx (hb hby at_627) rfl rfl
      replace G := own_lcmp (q := 630) G X47.here hx (hb hby at_629) rfl
      have hc630_56 : (200 : Int64) < ((uu.toInt64) * (3 : Int64)) := by
        rw [hj, show (2 : Int32).toInt = 2 from rfl] at sp
        have A := c_lmul uu.toInt64 3
        rw [c_i2l, show (3 : Int64).toInt = 3 from rfl] at A
        have RA := rng64 (uu.toInt64 * 3)
        have hB : 0 ≤ uu.toInt * 3 ∧ uu.toInt * 3 ≤ 800 := by omega
        have e : (uu.toInt64 * 3).toInt = uu.toInt * 3 := by
          generalize uu.toInt * 3 = P at A hB ⊢
          omega
        rw [own_ltL, e, show (200 : Int64).toInt = 200 from rfl]
        omega
      replace G := own_ifNo (q := 633) G X47.here hx (hb hby at_630) ((if0 _ _).trans (tlt ((lw_lt _ _).mpr hc630_56)).2.1) rfl
      replace G := own_iconst (q := 634) G X47.here hx (hb hby at_633) (v := (1 : Int32)) (by decide) rfl
      replace G := own_goto (q := 638) G X47.here hx (hb hby at_634) (by decide) (by decide)
      obtain ⟨fs, hr, hrun, hended, hW, hsame⟩ := X47.leave (v := some (.int (1 : Int32))) (fun h => by rw [Bd.returns] at h; cases h)
      refine ⟨_, _, G _ (retOut X47 hx Bd.returns rfl (Or.inl ⟨rfl, Or.inr (Or.inl rfl), _, rfl⟩) (hb hby at_638) hr), hrun, hended, _, _, rfl, ?_, ⟨_, rfl⟩, hW, hsame.mono (by decide) (by decide)⟩
      show Q0 Z i0 i1 i2 i3 h0 n0 _ T47.heap _
      rw [e47]
      exact ⟨rfl, N47⟩
  · replace G := own_iload (q := 128) G X0.here hx (hb hby at_126) rfl rfl
    replace G := own_iconst (q := 129) G X0.here hx (hb hby at_128) (v := (1 : Int32)) (by decide) rfl
    have hc129_57 : ¬ ((4 : Int32) = (1 : Int32)) := by decide
    replace G := own_icmpYes (q := 145) G X0.here hx (hb hby at_129) (feq hc129_57).2 (by decide) (by decide)
    replace G := own_iload (q := 147) G X0.here hx (hb hby at_145) rfl rfl
    replace G := own_iconst (q := 148) G X0.here hx (hb hby at_147) (v := (2 : Int32)) (by decide) rfl
    have hc148_58 : ¬ ((4 : Int32) = (2 : Int32)) := by decide
    replace G := own_icmpYes (q := 169) G X0.here hx (hb hby at_148) (feq hc148_58).2 (by decide) (by decide)
    replace G := own_iload (q := 171) G X0.here hx (hb hby at_169) rfl rfl
    replace G := own_iconst (q := 172) G X0.here hx (hb hby at_171) (v := (3 : Int32)) (by decide) rfl
    have hc172_59 : ¬ ((4 : Int32) = (3 : Int32)) := by decide
    replace G := own_icmpYes (q := 198) G X0.here hx (hb hby at_172) (feq hc172_59).2 (by decide) (by decide)
    replace G := own_iload (q := 200) G X0.here hx (hb hby at_198) rfl rfl
    replace G := own_iconst (q := 201) G X0.here hx (hb hby at_200) (v := (4 : Int32)) (by decide) rfl
    have hc201_60 : (4 : Int32) = (4 : Int32) := by decide
    replace G := own_icmpNo (q := 204) G X0.here hx (hb hby at_201) (teq hc201_60).2 rfl
    replace G := own_iconst (q := 205) G X0.here hx (hb hby at_204) (v := (4 : Int32)) (by decide) rfl
    obtain ⟨T61, h61, k61, X61, e61, E61, A61, st61⟩ := newP X0 hx hZ (hw _ (List.mem_of_getElem? (i := 2) rfl)) e0 (g := (mkF m 205 #[.val (.long i0), .second, .val (.long i1), .second, .val (.int i2), .val (.int i3), .val (.int (4 : Int32)), .val (.int uu), .val (.long v0), .second, .val (.long v1), .second, .val (.long v2), .second, .val (.long v3), .second, .val (.long v4), .second, .val (.long v5), .second, .val (.long v6), .second, .val (.long v7), .second, .unset, .unset, .unset, .unset, .unset, .unset] [(.int (4 : Int32))])) rfl (hb hby at_205) rfl (by decide) (cap := 4) (by decide) (by decide) (by decide) (by decide)
    obtain ⟨b61, g61⟩ : ∃ z, z = h0.size := ⟨_, rfl⟩
    rw [← g61] at A61 st61
    have ge_b61 : n0 ≤ b61 := Nat.le_trans Z0 (Nat.le_of_eq g61.symm)
    have Z61 : n0 ≤ h61.size := Nat.le_trans Z0 E61.1
    have V61 : Arv Z h61 b61 k61 .long (4 : Int32) [(.long (0 : Int64)), (.long (0 : Int64)), (.long (0 : Int64)), (.long (0 : Int64))] (.long (0 : Int64)) := (Arv.new A61 (by decide)).pad (pad_rep [] (.long (0 : Int64)) 4)
    replace G : Gets p e below _ (T61.setTop (mkF m 207 #[.val (.long i0), .second, .val (.long i1), .second, .val (.int i2), .val (.int i3), .val (.int (4 : Int32)), .val (.int uu), .val (.long v0), .second, .val (.long v1), .second, .val (.long v2), .second, .val (.long v3), .second, .val (.long v4), .second, .val (.long v5), .second, .val (.long v6), .second, .val (.long v7), .second, .unset, .unset, .unset, .unset, .unset, .unset] [(.ref b61)])) := fun t k => G t (st61 t k)
    replace G := own_dup (q := 208) G X61.here hx (hb hby at_207) rfl rfl
    replace G := own_iconst (q := 209) G X61.here hx (hb hby at_208) (v := (0 : Int32)) (by decide) rfl
    replace G := own_lload (q := 211) G X61.here hx (hb hby at_209) rfl rfl
    obtain ⟨c62, Ar62, q62, S62, N62', H62, G62'⟩ := id V61
    have hin62 : ¬ ((0 : Int32) < 0 ∨ c62.slots.size ≤ ((0 : Int32)).toNatClampNeg) := inb_of S62 ⟨by decide, by decide⟩
    obtain ⟨T62, h62, X62, e62, W62, st62⟩ := stJ X61 hx hZ e61 Ar62 (j := (0 : Int32)) hin62 (g := (mkF m 211 #[.val (.long i0), .second, .val (.long i1), .second, .val (.int i2), .val (.int i3), .val (.int (4 : Int32)), .val (.int uu), .val (.long v0), .second, .val (.long v1), .second, .val (.long v2), .second, .val (.long v3), .second, .val (.long v4), .second, .val (.long v5), .second, .val (.long v6), .second, .val (.long v7), .second, .unset, .unset, .unset, .unset, .unset, .unset] [(.long v0), (.int (0 : Int32)), (.ref b61), (.ref b61)])) rfl rfl (hb hby at_211)
    have N62 := Fr.snoc X62 N0 ge_b61
    have Z62 : n0 ≤ h62.size := Nat.le_trans Z61 (Keep.of_wr W62).1
    have V62 : Arv Z h62 b61 k61 .long (4 : Int32) [(.long v0), (.long (0 : Int64)), (.long (0 : Int64)), (.long (0 : Int64))] (.long (0 : Int64)) := Arv.set Ar62 q62 S62 N62' H62 G62' rfl W62 0 rfl (Nat.le_of_ble_eq_true rfl)
    replace G : Gets p e below _ (T62.setTop (mkF m 212 #[.val (.long i0), .second, .val (.long i1), .second, .val (.int i2), .val (.int i3), .val (.int (4 : Int32)), .val (.int uu), .val (.long v0), .second, .val (.long v1), .second, .val (.long v2), .second, .val (.long v3), .second, .val (.long v4), .second, .val (.long v5), .second, .val (.long v6), .second, .val (.long v7), .second, .unset, .unset, .unset, .unset, .unset, .unset] [(.ref b61)])) := fun t k => G t (st62 t k)
    replace G := own_dup (q := 213) G X62.here hx (hb hby at_212) rfl rfl
    replace G := own_iconst (q := 214) G X62.here hx (hb hby at_213) (v := (1 : Int32)) (by decide) rfl
    replace G := own_lload (q := 216) G X62.here hx (hb hby at_214) rfl rfl
    obtain ⟨c63, Ar63, q63, S63, N63', H63, G63'⟩ := id V62
    have hin63 : ¬ ((1 : Int32) < 0 ∨ c63.slots.size ≤ ((1 : Int32)).toNatClampNeg) := inb_of S63 ⟨by decide, by decide⟩
    obtain ⟨T63, h63, X63, e63, W63, st63⟩ := stJ X62 hx hZ e62 Ar63 (j := (1 : Int32)) hin63 (g := (mkF m 216 #[.val (.long i0), .second, .val (.long i1), .second, .val (.int i2), .val (.int i3), .val (.int (4 : Int32)), .val (.int uu), .val (.long v0), .second, .val (.long v1), .second, .val (.long v2), .second, .val (.long v3), .second, .val (.long v4), .second, .val (.long v5), .second, .val (.long v6), .second, .val (.long v7), .second, .unset, .unset, .unset, .unset, .unset, .unset] [(.long v1), (.int (1 : Int32)), (.ref b61), (.ref b61)])) rfl rfl (hb hby at_216)
    have N63 := Fr.snoc X63 N62 ge_b61
    have Z63 : n0 ≤ h63.size := Nat.le_trans Z62 (Keep.of_wr W63).1
    have V63 : Arv Z h63 b61 k61 .long (4 : Int32) [(.long v0), (.long v1), (.long (0 : Int64)), (.long (0 : Int64))] (.long (0 : Int64)) := Arv.set Ar63 q63 S63 N63' H63 G63' rfl W63 1 rfl (Nat.le_of_ble_eq_true rfl)
    replace G : Gets p e below _ (T63.setTop (mkF m 217 #[.val (.long i0), .second, .val (.long i1), .second, .val (.int i2), .val (.int i3), .val (.int (4 : Int32)), .val (.int uu), .val (.long v0), .second, .val (.long v1), .second, .val (.long v2), .second, .val (.long v3), .second, .val (.long v4), .second, .val (.long v5), .second, .val (.long v6), .second, .val (.long v7), .second, .unset, .unset, .unset, .unset, .unset, .unset] [(.ref b61)])) := fun t k => G t (st63 t k)
    replace G := own_dup (q := 218) G X63.here hx (hb hby at_217) rfl rfl
    replace G := own_iconst (q := 219) G X63.here hx (hb hby at_218) (v := (2 : Int32)) (by decide) rfl
    replace G := own_lload (q := 221) G X63.here hx (hb hby at_219) rfl rfl
    obtain ⟨c64, Ar64, q64, S64, N64', H64, G64'⟩ := id V63
    have hin64 : ¬ ((2 : Int32) < 0 ∨ c64.slots.size ≤ ((2 : Int32)).toNatClampNeg) := inb_of S64 ⟨by decide, by decide⟩
    obtain ⟨T64, h64, X64, e64, W64, st64⟩ := stJ X63 hx hZ e63 Ar64 (j := (2 : Int32)) hin64 (g := (mkF m 221 #[.val (.long i0), .second, .val (.long i1), .second, .val (.int i2), .val (.int i3), .val (.int (4 : Int32)), .val (.int uu), .val (.long v0), .second, .val (.long v1), .second, .val (.long v2), .second, .val (.long v3), .second, .val (.long v4), .second, .val (.long v5), .second, .val (.long v6), .second, .val (.long v7), .second, .unset, .unset, .unset, .unset, .unset, .unset] [(.long v2), (.int (2 : Int32)), (.ref b61), (.ref b61)])) rfl rfl (hb hby at_221)
    have N64 := Fr.snoc X64 N63 ge_b61
    have Z64 : n0 ≤ h64.size := Nat.le_trans Z63 (Keep.of_wr W64).1
    have V64 : Arv Z h64 b61 k61 .long (4 : Int32) [(.long v0), (.long v1), (.long v2), (.long (0 : Int64))] (.long (0 : Int64)) := Arv.set Ar64 q64 S64 N64' H64 G64' rfl W64 2 rfl (Nat.le_of_ble_eq_true rfl)
    replace G : Gets p e below _ (T64.setTop (mkF m 222 #[.val (.long i0), .second, .val (.long i1), .second, .val (.int i2), .val (.int i3), .val (.int (4 : Int32)), .val (.int uu), .val (.long v0), .second, .val (.long v1), .second, .val (.long v2), .second, .val (.long v3), .second, .val (.long v4), .second, .val (.long v5), .second, .val (.long v6), .second, .val (.long v7), .second, .unset, .unset, .unset, .unset, .unset, .unset] [(.ref b61)])) := fun t k => G t (st64 t k)
    replace G := own_dup (q := 223) G X64.here hx (hb hby at_222) rfl rfl
    replace G := own_iconst (q := 224) G X64.here hx (hb hby at_223) (v := (3 : Int32)) (by decide) rfl
    replace G := own_lload (q := 226) G X64.here hx (hb hby at_224) rfl rfl
    obtain ⟨c65, Ar65, q65, S65, N65', H65, G65'⟩ := id V64
    have hin65 : ¬ ((3 : Int32) < 0 ∨ c65.slots.size ≤ ((3 : Int32)).toNatClampNeg) := inb_of S65 ⟨by decide, by decide⟩
    obtain ⟨T65, h65, X65, e65, W65, st65⟩ := stJ X64 hx hZ e64 Ar65 (j := (3 : Int32)) hin65 (g := (mkF m 226 #[.val (.long i0), .second, .val (.long i1), .second, .val (.int i2), .val (.int i3), .val (.int (4 : Int32)), .val (.int uu), .val (.long v0), .second, .val (.long v1), .second, .val (.long v2), .second, .val (.long v3), .second, .val (.long v4), .second, .val (.long v5), .second, .val (.long v6), .second, .val (.long v7), .second, .unset, .unset, .unset, .unset, .unset, .unset] [(.long v3), (.int (3 : Int32)), (.ref b61), (.ref b61)])) rfl rfl (hb hby at_226)
    have N65 := Fr.snoc X65 N64 ge_b61
    have Z65 : n0 ≤ h65.size := Nat.le_trans Z64 (Keep.of_wr W65).1
    have V65 : Arv Z h65 b61 k61 .long (4 : Int32) [(.long v0), (.long v1), (.long v2), (.long v3)] (.long (0 : Int64)) := Arv.set Ar65 q65 S65 N65' H65 G65' rfl W65 3 rfl (Nat.le_of_ble_eq_true rfl)
    replace G : Gets p e below _ (T65.setTop (mkF m 227 #[.val (.long i0), .second, .val (.long i1), .second, .val (.int i2), .val (.int i3), .val (.int (4 : Int32)), .val (.int uu), .val (.long v0), .second, .val (.long v1), .second, .val (.long v2), .second, .val (.long v3), .second, .val (.long v4), .second, .val (.long v5), .second, .val (.long v6), .second, .val (.long v7), .second, .unset, .unset, .unset, .unset, .unset, .unset] [(.ref b61)])) := fun t k => G t (st65 t k)
    replace G := own_astore (q := 229) (l' := #[.val (.long i0), .second, .val (.long i1), .second, .val (.int i2), .val (.int i3), .val (.int (4 : Int32)), .val (.int uu), .val (.long v0), .second, .val (.long v1), .second, .val (.long v2), .second, .val (.long v3), .second, .val (.long v4), .second, .val (.long v5), .second, .val (.long v6), .second, .val (.long v7), .second, .val (.ref b61), .unset, .unset, .unset, .unset, .unset]) G X65.here hx (hb hby at_227) rfl rfl rfl
    replace G := own_goto (q := 417) G X65.here hx (hb hby at_229) (by decide) (by decide)
    replace G := own_aload (q := 419) G X65.here hx (hb hby at_417) rfl rfl rfl
    replace G := own_iload (q := 421) G X65.here hx (hb hby at_419) rfl rfl
    have sp := own_ixs uu (4 : Int32) 4 rfl (by decide) (by decide) huu
    rcases own_cases4 ⟨sp.1, sp.2.1⟩ with hj | hj | hj | hj
    · obtain ⟨_, _, ⟨T66, L66, kk66, nn66⟩, -, X66, ⟨Lc66, hQ66, l66, y66, z66⟩, st66⟩ := Jvm.LawKit.callS X65 hx (y := (⟨"com/example/cued/cued/Bench", "percentile", "([JI)J"⟩ : MethodName)) hown (mvT hZ (hw _ (List.mem_of_getElem? (i := 3) rfl))) (mvT hZ (hw _ (List.mem_of_getElem? (i := 4) rfl))) (mvT hZ (hw _ (List.mem_of_getElem? (i := 5) rfl))) (mvT hZ (hw _ (List.mem_of_getElem? (i := 6) rfl))) (by decide) (backOf (W := 0) (rm1 l Z a0 hw [] b61 uu k61 (4 : Int32) [(.long v0), (.long v1), (.long v2), (.long v3)] v0 h65 n0 Z65 V65 (by decide) huu (by rw [hj]; rfl)) hZ (hw _ (List.mem_of_getElem? (i := 6) rfl)) (hw _ (List.mem_of_getElem? (i := 5) rfl)) (by decide) (by decide)) (g := (mkF m 421 #[.val (.long i0), .second, .val (.long i1), .second, .val (.int i2), .val (.int i3), .val (.int (4 : Int32)), .val (.int uu), .val (.long v0), .second, .val (.long v1), .second, .val (.long v2), .second, .val (.long v3), .second, .val (.long v4), .second, .val (.long v5), .second, .val (.long v6), .second, .val (.long v7), .second, .val (.ref b61), .unset, .unset, .unset, .unset, .unset] [(.int uu), (.ref b61)])) rfl (by rw [hml]; rfl) (argsL := [(.ref b61), (.int uu)]) (rest := []) (lenOf pd_1 rfl) rfl (by show 2 * 0 + _ ≤ _; exact Nat.le_of_eq rfl) (hb hby at_421) (fun _ _ => ⟨rfl, e65, (by decide : 1 + 0 ≤ _), (by decide : 4 + 0 ≤ _)⟩)
      dsimp only [Pt.U, Pt.locs, Pt.cells, Pt.slots] at X66 l66 y66 z66 st66 hQ66
      subst l66 y66 z66
      obtain ⟨rfl, N66q, e66⟩ := hQ66
      have N66 := Fr.app N65 N66q
      replace G : Gets p e below _ (T66.setTop (mkF m 424 #[.val (.long i0), .second, .val (.long i1), .second, .val (.int i2), .val (.int i3), .val (.int (4 : Int32)), .val (.int uu), .val (.long v0), .second, .val (.long v1), .second, .val (.long v2), .second, .val (.long v3), .second, .val (.long v4), .second, .val (.long v5), .second, .val (.long v6), .second, .val (.long v7), .second, .val (.ref b61), .unset, .unset, .unset, .unset, .unset] [(.long v0)])) := fun t k => G t (st66 t k)
      replace G := own_lstore (q := 426) (l' := #[.val (.long i0), .second, .val (.long i1), .second, .val (.int i2), .val (.int i3), .val (.int (4 : Int32)), .val (.int uu), .val (.long v0), .second, .val (.long v1), .second, .val (.long v2), .second, .val (.long v3), .second, .val (.long v4), .second, .val (.long v5), .second, .val (.long v6), .second, .val (.long v7), .second, .val (.ref b61), .val (.long v0), .second, .unset, .unset, .unset]) G X66.here hx (hb hby at_424) rfl rfl
      replace G := own_iconst (q := 427) G X66.here hx (hb hby at_426) (v := (-1 : Int32)) (by decide) rfl
      replace G := own_istore (q := 429) (l' := #[.val (.long i0), .second, .val (.long i1), .second, .val (.int i2), .val (.int i3), .val (.int (4 : Int32)), .val (.int uu), .val (.long v0), .second, .val (.long v1), .second, .val (.long v2), .second, .val (.long v3), .second, .val (.long v4), .second, .val (.long v5), .second, .val (.long v6), .second, .val (.long v7), .second, .val (.ref b61), .val (.long v0), .second, .val (.int (-1 : Int32)), .unset, .unset]) G X66.here hx (hb hby at_427) rfl rfl
      replace G := own_lload (q := 431) G X66.here hx (hb hby at_429) rfl rfl
      replace G := own_lload (q := 433) G X66.here hx (hb hby at_431) rfl rfl
      replace G := own_lcmp (q := 434) G X66.here hx (hb hby at_433) rfl
      have hc434_67 : v0 = v0 := rfl
      replace G := own_ifNo (q := 437) G X66.here hx (hb hby at_434) ((if0 _ _).trans (teq ((lw_eq _ _).mpr hc434_67)).2) rfl
      replace G := own_iconst (q := 438) G X66.here hx (hb hby at_437) (v := (0 : Int32)) (by decide) rfl
      replace G := own_istore (q := 440) (l' := #[.val (.long i0), .second, .val (.long i1), .second, .val (.int i2), .val (.int i3), .val (.int (4 : Int32)), .val (.int uu), .val (.long v0), .second, .val (.long v1), .second, .val (.long v2), .second, .val (.long v3), .second, .val (.long v4), .second, .val (.long v5), .second, .val (.long v6), .second, .val (.long v7), .second, .val (.ref b61), .val (.long v0), .second, .val (.int (0 : Int32)), .unset, .unset]) G X66.here hx (hb hby at_438) rfl rfl
      replace G := own_goto (q := 584) G X66.here hx (hb hby at_440) (by decide) (by decide)
      replace G := own_iload (q := 586) G X66.here hx (hb hby at_584) rfl rfl
      have hc586_68 : ¬ ((0 : Int32) < (0 : Int32)) := by decide
      replace G := own_ifYes (q := 591) G X66.here hx (hb hby at_586) ((if0 _ _).trans (flt hc586_68).2.1) (by decide) (by decide)
      replace G := own_iload (q := 593) G X66.here hx (hb hby at_591) rfl rfl
      replace G := own_i2l (q := 594) G X66.here hx (hb hby at_593) rfl rfl
      replace G := own_iload (q := 596) G X66.here hx (hb hby at_594) rfl rfl
      replace G := own_i2l (q := 597) G X66.here hx (hb hby at_596) (by decide : ((4 : Int32).toInt64) = (4 : Int64)) rfl
      replace G := own_lmul (q := 598) G X66.here hx (hb hby at_597) rfl rfl
      replace G := own_lstore (q := 600) (l' := #[.val (.long i0), .second, .val (.long i1), .second, .val (.int i2), .val (.int i3), .val (.int (4 : Int32)), .val (.int uu), .val (.long v0), .second, .val (.long v1), .second, .val (.long v2), .second, .val (.long v3), .second, .val (.long v4), .second, .val (.long v5), .second, .val (.long v6), .second, .val (.long v7), .second, .val (.ref b61), .val (.long v0), .second, .val (.int (0 : Int32)), .val (.long ((uu.toInt64) * (4 : Int64))), .second]) G X66.here hx (hb hby at_598) rfl rfl
      replace G := own_iload (q := 602) G X66.here hx (hb hby at_600) rfl rfl
      replace G := own_iconst (q := 603) G X66.here hx (hb hby at_602) (v := (1 : Int32)) (by decide) rfl
      replace G := own_iadd (q := 604) G X66.here hx (hb hby at_603) (by decide : ((0 : Int32) + (1 : Int32)) = (1 : Int32)) rfl
      replace G := own_i2l (q := 605) G X66.here hx (hb hby at_604) (by decide : ((1 : Int32).toInt64) = (1 : Int64)) rfl
      replace G : Gets p e below _ (T66.setTop (mkF m 608 #[.val (.long i0), .second, .val (.long i1), .second, .val (.int i2), .val (.int i3), .val (.int (4 : Int32)), .val (.int uu), .val (.long v0), .second, .val (.long v1), .second, .val (.long v2), .second, .val (.long v3), .second, .val (.long v4), .second, .val (.long v5), .second, .val (.long v6), .second, .val (.long v7), .second, .val (.ref b61), .val (.long v0), .second, .val (.int (0 : Int32)), .val (.long ((uu.toInt64) * (4 : Int64))), .second] [(.long (100 : Int64)), (.long (1 : Int64))])) := fun t k => G t (X66.ldc2Long hx hown (mvT hZ (hw _ (List.mem_of_getElem? (i := 13) rfl))) (g := (mkF m 605 #[.val (.long i0), .second, .val (.long i1), .second, .val (.int i2), .val (.int i3), .val (.int (4 : Int32)), .val (.int uu), .val (.long v0), .second, .val (.long v1), .second, .val (.long v2), .second, .val (.long v3), .second, .val (.long v4), .second, .val (.long v5), .second, .val (.long v6), .second, .val (.long v7), .second, .val (.ref b61), .val (.long v0), .second, .val (.int (0 : Int32)), .val (.long ((uu.toInt64) * (4 : Int64))), .second] [(.long (1 : Int64))])) rfl (hb hby at_605) t k)
      replace G := own_lmul (q := 609) G X66.here hx (hb hby at_608) (by decide : ((1 : Int64) * (100 : Int64)) = (100 : Int64)) rfl
      replace G := own_lload (q := 611) G X66.here hx (hb hby at_609) rfl rfl
      replace G := own_lcmp (q := 612) G X66.here hx (hb hby at_611) rfl
      have hc612_69 : ¬ ((100 : Int64) < ((uu.toInt64) * (4 : Int64))) := by
        rw [hj, show (0 : Int32).toInt = 0 from rfl] at sp
        have A := c_lmul uu.toInt64 4
        rw [c_i2l, show (4 : Int64).toInt = 4 from rfl] at A
        have RA := rng64 (uu.toInt64 * 4)
        have hB : 0 ≤ uu.toInt * 4 ∧ uu.toInt * 4 ≤ 800 := by omega
        have e : (uu.toInt64 * 4).toInt = uu.toInt * 4 := by
          generalize uu.toInt * 4 = P at A hB ⊢
          omega
        rw [own_ltL, e, show (100 : Int64).toInt = 100 from rfl]
        omega
      replace G := own_ifNo (q := 615) G X66.here hx (hb hby at_612) ((if0 _ _).trans (flt (fun z => hc612_69 ((lw_lt _ _).mp z))).1) rfl
      replace G := own_iload (q := 617) G X66.here hx (hb hby at_615) rfl rfl
      have hc617_70 : (0 : Int32) = (0 : Int32) := by decide
      replace G := own_ifYes (q := 633) G X66.here hx (hb hby at_617) ((if0 _ _).trans (teq hc617_70).1) (by decide) (by decide)
      replace G := own_iconst (q := 634) G X66.here hx (hb hby at_633) (v := (1 : Int32)) (by decide) rfl
      replace G := own_goto (q := 638) G X66.here hx (hb hby at_634) (by decide) (by decide)
      obtain ⟨fs, hr, hrun, hended, hW, hsame⟩ := X66.leave (v := some (.int (1 : Int32))) (fun h => by rw [Bd.returns] at h; cases h)
      refine ⟨_, _, G _ (retOut X66 hx Bd.returns rfl (Or.inl ⟨rfl, Or.inr (Or.inl rfl), _, rfl⟩) (hb hby at_638) hr), hrun, hended, _, _, rfl, ?_, ⟨_, rfl⟩, hW, hsame.mono (by decide) (by decide)⟩
      show Q0 Z i0 i1 i2 i3 h0 n0 _ T66.heap _
      rw [e66]
      exact ⟨rfl, N66⟩
    · obtain ⟨_, _, ⟨T71, L71, kk71, nn71⟩, -, X71, ⟨Lc71, hQ71, l71, y71, z71⟩, st71⟩ := Jvm.LawKit.callS X65 hx (y := (⟨"com/example/cued/cued/Bench", "percentile", "([JI)J"⟩ : MethodName)) hown (mvT hZ (hw _ (List.mem_of_getElem? (i := 3) rfl))) (mvT hZ (hw _ (List.mem_of_getElem? (i := 4) rfl))) (mvT hZ (hw _ (List.mem_of_getElem? (i := 5) rfl))) (mvT hZ (hw _ (List.mem_of_getElem? (i := 6) rfl))) (by decide) (backOf (W := 0) (rm1 l Z a0 hw [] b61 uu k61 (4 : Int32) [(.long v0), (.long v1), (.long v2), (.long v3)] v1 h65 n0 Z65 V65 (by decide) huu (by rw [hj]; rfl)) hZ (hw _ (List.mem_of_getElem? (i := 6) rfl)) (hw _ (List.mem_of_getElem? (i := 5) rfl)) (by decide) (by decide)) (g := (mkF m 421 #[.val (.long i0), .second, .val (.long i1), .second, .val (.int i2), .val (.int i3), .val (.int (4 : Int32)), .val (.int uu), .val (.long v0), .second, .val (.long v1), .second, .val (.long v2), .second, .val (.long v3), .second, .val (.long v4), .second, .val (.long v5), .second, .val (.long v6), .second, .val (.long v7), .second, .val (.ref b61), .unset, .unset, .unset, .unset, .unset] [(.int uu), (.ref b61)])) rfl (by rw [hml]; rfl) (argsL := [(.ref b61), (.int uu)]) (rest := []) (lenOf pd_1 rfl) rfl (by show 2 * 0 + _ ≤ _; exact Nat.le_of_eq rfl) (hb hby at_421) (fun _ _ => ⟨rfl, e65, (by decide : 1 + 0 ≤ _), (by decide : 4 + 0 ≤ _)⟩)
      dsimp only [Pt.U, Pt.locs, Pt.cells, Pt.slots] at X71 l71 y71 z71 st71 hQ71
      subst l71 y71 z71
      obtain ⟨rfl, N71q, e71⟩ := hQ71
      have N71 := Fr.app N65 N71q
      replace G : Gets p e below _ (T71.setTop (mkF m 424 #[.val (.long i0), .second, .val (.long i1), .second, .val (.int i2), .val (.int i3), .val (.int (4 : Int32)), .val (.int uu), .val (.long v0), .second, .val (.long v1), .second, .val (.long v2), .second, .val (.long v3), .second, .val (.long v4), .second, .val (.long v5), .second, .val (.long v6), .second, .val (.long v7), .second, .val (.ref b61), .unset, .unset, .unset, .unset, .unset] [(.long v1)])) := fun t k => G t (st71 t k)
      replace G := own_lstore (q := 426) (l' := #[.val (.long i0), .second, .val (.long i1), .second, .val (.int i2), .val (.int i3), .val (.int (4 : Int32)), .val (.int uu), .val (.long v0), .second, .val (.long v1), .second, .val (.long v2), .second, .val (.long v3), .second, .val (.long v4), .second, .val (.long v5), .second, .val (.long v6), .second, .val (.long v7), .second, .val (.ref b61), .val (.long v1), .second, .unset, .unset, .unset]) G X71.here hx (hb hby at_424) rfl rfl
      replace G := own_iconst (q := 427) G X71.here hx (hb hby at_426) (v := (-1 : Int32)) (by decide) rfl
      replace G := own_istore (q := 429) (l' := #[.val (.long i0), .second, .val (.long i1), .second, .val (.int i2), .val (.int i3), .val (.int (4 : Int32)), .val (.int uu), .val (.long v0), .second, .val (.long v1), .second, .val (.long v2), .second, .val (.long v3), .second, .val (.long v4), .second, .val (.long v5), .second, .val (.long v6), .second, .val (.long v7), .second, .val (.ref b61), .val (.long v1), .second, .val (.int (-1 : Int32)), .unset, .unset]) G X71.here hx (hb hby at_427) rfl rfl
      replace G := own_lload (q := 431) G X71.here hx (hb hby at_429) rfl rfl
      replace G := own_lload (q := 433) G X71.here hx (hb hby at_431) rfl rfl
      replace G := own_lcmp (q := 434) G X71.here hx (hb hby at_433) rfl
      have hc434_72 : ¬ (v1 = v0) := fun z => by have := congrArg Int64.toInt z; omega
      replace G := own_ifYes (q := 443) G X71.here hx (hb hby at_434) ((if0 _ _).trans (feq (fun z => hc434_72 ((lw_eq _ _).mp z))).2) (by decide) (by decide)
      replace G := own_iload (q := 445) G X71.here hx (hb hby at_443) rfl rfl
      replace G := own_iconst (q := 446) G X71.here hx (hb hby at_445) (v := (1 : Int32)) (by decide) rfl
      have hc446_73 : (1 : Int32) < (4 : Int32) := by decide
      replace G := own_icmpNo (q := 449) G X71.here hx (hb hby at_446) (tlt hc446_73).2.2.2 rfl
      replace G := own_lload (q := 451) G X71.here hx (hb hby at_449) rfl rfl
      replace G := own_lload (q := 453) G X71.here hx (hb hby at_451) rfl rfl
      replace G := own_lcmp (q := 454) G X71.here hx (hb hby at_453) rfl
      have hc454_74 : v1 = v1 := rfl
      replace G := own_ifNo (q := 457) G X71.here hx (hb hby at_454) ((if0 _ _).trans (teq ((lw_eq _ _).mpr hc454_74)).2) rfl
      replace G := own_iconst (q := 458) G X71.here hx (hb hby at_457) (v := (1 : Int32)) (by decide) rfl
      replace G := own_istore (q := 460) (l' := #[.val (.long i0), .second, .val (.long i1), .second, .val (.int i2), .val (.int i3), .val (.int (4 : Int32)), .val (.int uu), .val (.long v0), .second, .val (.long v1), .second, .val (.long v2), .second, .val (.long v3), .second, .val (.long v4), .second, .val (.long v5), .second, .val (.long v6), .second, .val (.long v7), .second, .val (.ref b61), .val (.long v1), .second, .val (.int (1 : Int32)), .unset, .unset]) G X71.here hx (hb hby at_458) rfl rfl
      replace G := own_goto (q := 584) G X71.here hx (hb hby at_460) (by decide) (by decide)
      replace G := own_iload (q := 586) G X71.here hx (hb hby at_584) rfl rfl
      have hc586_75 : ¬ ((1 : Int32) < (0 : Int32)) := by decide
      replace G := own_ifYes (q := 591) G X71.here hx (hb hby at_586) ((if0 _ _).trans (flt hc586_75).2.1) (by decide) (by decide)
      replace G := own_iload (q := 593) G X71.here hx (hb hby at_591) rfl rfl
      replace G := own_i2l (q := 594) G X71.here hx (hb hby at_593) rfl rfl
      replace G := own_iload (q := 596) G X71.here hx (hb hby at_594) rfl rfl
      replace G := own_i2l (q := 597) G X71.here hx (hb hby at_596) (by decide : ((4 : Int32).toInt64) = (4 : Int64)) rfl
      replace G := own_lmul (q := 598) G X71.here hx (hb hby at_597) rfl rfl
      replace G := own_lstore (q := 600) (l' := #[.val (.long i0), .second, .val (.long i1), .second, .val (.int i2), .val (.int i3), .val (.int (4 : Int32)), .val (.int uu), .val (.long v0), .second, .val (.long v1), .second, .val (.long v2), .second, .val (.long v3), .second, .val (.long v4), .second, .val (.long v5), .second, .val (.long v6), .second, .val (.long v7), .second, .val (.ref b61), .val (.long v1), .second, .val (.int (1 : Int32)), .val (.long ((uu.toInt64) * (4 : Int64))), .second]) G X71.here hx (hb hby at_598) rfl rfl
      replace G := own_iload (q := 602) G X71.here hx (hb hby at_600) rfl rfl
      replace G := own_iconst (q := 603) G X71.here hx (hb hby at_602) (v := (1 : Int32)) (by decide) rfl
      replace G := own_iadd (q := 604) G X71.here hx (hb hby at_603) (by decide : ((1 : Int32) + (1 : Int32)) = (2 : Int32)) rfl
      replace G := own_i2l (q := 605) G X71.here hx (hb hby at_604) (by decide : ((2 : Int32).toInt64) = (2 : Int64)) rfl
      replace G : Gets p e below _ (T71.setTop (mkF m 608 #[.val (.long i0), .second, .val (.long i1), .second, .val (.int i2), .val (.int i3), .val (.int (4 : Int32)), .val (.int uu), .val (.long v0), .second, .val (.long v1), .second, .val (.long v2), .second, .val (.long v3), .second, .val (.long v4), .second, .val (.long v5), .second, .val (.long v6), .second, .val (.long v7), .second, .val (.ref b61), .val (.long v1), .second, .val (.int (1 : Int32)), .val (.long ((uu.toInt64) * (4 : Int64))), .second] [(.long (100 : Int64)), (.long (2 : Int64))])) := fun t k => G t (X71.ldc2Long hx hown (mvT hZ (hw _ (List.mem_of_getElem? (i := 13) rfl))) (g := (mkF m 605 #[.val (.long i0), .second, .val (.long i1), .second, .val (.int i2), .val (.int i3), .val (.int (4 : Int32)), .val (.int uu), .val (.long v0), .second, .val (.long v1), .second, .val (.long v2), .second, .val (.long v3), .second, .val (.long v4), .second, .val (.long v5), .second, .val (.long v6), .second, .val (.long v7), .second, .val (.ref b61), .val (.long v1), .second, .val (.int (1 : Int32)), .val (.long ((uu.toInt64) * (4 : Int64))), .second] [(.long (2 : Int64))])) rfl (hb hby at_605) t k)
      replace G := own_lmul (q := 609) G X71.here hx (hb hby at_608) (by decide : ((2 : Int64) * (100 : Int64)) = (200 : Int64)) rfl
      replace G := own_lload (q := 611) G X71.here hx (hb hby at_609) rfl rfl
      replace G := own_lcmp (q := 612) G X71.here hx (hb hby at_611) rfl
      have hc612_76 : ¬ ((200 : Int64) < ((uu.toInt64) * (4 : Int64))) := by
        rw [hj, show (1 : Int32).toInt = 1 from rfl] at sp
        have A := c_lmul uu.toInt64 4
        rw [c_i2l, show (4 : Int64).toInt = 4 from rfl] at A
        have RA := rng64 (uu.toInt64 * 4)
        have hB : 0 ≤ uu.toInt * 4 ∧ uu.toInt * 4 ≤ 800 := by omega
        have e : (uu.toInt64 * 4).toInt = uu.toInt * 4 := by
          generalize uu.toInt * 4 = P at A hB ⊢
          omega
        rw [own_ltL, e, show (200 : Int64).toInt = 200 from rfl]
        omega
      replace G := own_ifNo (q := 615) G X71.here hx (hb hby at_612) ((if0 _ _).trans (flt (fun z => hc612_76 ((lw_lt _ _).mp z))).1) rfl
      replace G := own_iload (q := 617) G X71.here hx (hb hby at_615) rfl rfl
      have hc617_77 : ¬ ((1 : Int32) = (0 : Int32)) := by decide
      replace G := own_ifNo (q := 620) G X71.here hx (hb hby at_617) ((if0 _ _).trans (feq hc617_77).1) rfl
      replace G := own_iload (q := 622) G X71.here hx (hb hby at_620) rfl rfl
      replace G := own_i2l (q := 623) G X71.here hx (hb hby at_622) (by decide : ((1 : Int32).toInt64) = (1 : Int64)) rfl
      replace G : Gets p e below _ (T71.setTop (mkF m 626 #[.val (.long i0), .second, .val (.long i1), .second, .val (.int i2), .val (.int i3), .val (.int (4 : Int32)), .val (.int uu), .val (.long v0), .second, .val (.long v1), .second, .val (.long v2), .second, .val (.long v3), .second, .val (.long v4), .second, .val (.long v5), .second, .val (.long v6), .second, .val (.long v7), .second, .val (.ref b61), .val (.long v1), .second, .val (.int (1 : Int32)), .val (.long ((uu.toInt64) * (4 : Int64))), .second] [(.long (100 : Int64)), (.long (1 : Int64))])) := fun t k => G t (X71.ldc2Long hx hown (mvT hZ (hw _ (List.mem_of_getElem? (i := 13) rfl))) (g := (mkF m 623 #[.val (.long i0), .second, .val (.long i1), .second, .val (.int i2), .val (.int i3), .val (.int (4 : Int32)), .val (.int uu), .val (.long v0), .second, .val (.long v1), .second, .val (.long v2), .second, .val (.long v3), .second, .val (.long v4), .second, .val (.long v5), .second, .val (.long v6), .second, .val (.long v7), .second, .val (.ref b61), .val (.long v1), .second, .val (.int (1 : Int32)), .val (.long ((uu.toInt64) * (4 : Int64))), .second] [(.long (1 : Int64))])) rfl (hb hby at_623) t k)
      replace G := own_lmul (q := 627) G X71.here hx (hb hby at_626) (by decide : ((1 : Int64) * (100 : Int64)) = (100 : Int64)) rfl
      replace G := own_lload (q := 629) G X71.here hx (hb hby at_627) rfl rfl
      replace G := own_lcmp (q := 630) G X71.here hx (hb hby at_629) rfl
      have hc630_78 : (100 : Int64) < ((uu.toInt64) * (4 : Int64)) := by
        rw [hj, show (1 : Int32).toInt = 1 from rfl] at sp
        have A := c_lmul uu.toInt64 4
        rw [c_i2l, show (4 : Int64).toInt = 4 from rfl] at A
        have RA := rng64 (uu.toInt64 * 4)
        have hB : 0 ≤ uu.toInt * 4 ∧ uu.toInt * 4 ≤ 800 := by omega
        have e : (uu.toInt64 * 4).toInt = uu.toInt * 4 := by
          generalize uu.toInt * 4 = P at A hB ⊢
          omega
        rw [own_ltL, e, show (100 : Int64).toInt = 100 from rfl]
        omega
      replace G := own_ifNo (q := 633) G X71.here hx (hb hby at_630) ((if0 _ _).trans (tlt ((lw_lt _ _).mpr hc630_78)).2.1) rfl
      replace G := own_iconst (q := 634) G X71.here hx (hb hby at_633) (v := (1 : Int32)) (by decide) rfl
      replace G := own_goto (q := 638) G X71.here hx (hb hby at_634) (by decide) (by decide)
      obtain ⟨fs, hr, hrun, hended, hW, hsame⟩ := X71.leave (v := some (.int (1 : Int32))) (fun h => by rw [Bd.returns] at h; cases h)
      refine ⟨_, _, G _ (retOut X71 hx Bd.returns rfl (Or.inl ⟨rfl, Or.inr (Or.inl rfl), _, rfl⟩) (hb hby at_638) hr), hrun, hended, _, _, rfl, ?_, ⟨_, rfl⟩, hW, hsame.mono (by decide) (by decide)⟩
      show Q0 Z i0 i1 i2 i3 h0 n0 _ T71.heap _
      rw [e71]
      exact ⟨rfl, N71⟩
    · obtain ⟨_, _, ⟨T79, L79, kk79, nn79⟩, -, X79, ⟨Lc79, hQ79, l79, y79, z79⟩, st79⟩ := Jvm.LawKit.callS X65 hx (y := (⟨"com/example/cued/cued/Bench", "percentile", "([JI)J"⟩ : MethodName)) hown (mvT hZ (hw _ (List.mem_of_getElem? (i := 3) rfl))) (mvT hZ (hw _ (List.mem_of_getElem? (i := 4) rfl))) (mvT hZ (hw _ (List.mem_of_getElem? (i := 5) rfl))) (mvT hZ (hw _ (List.mem_of_getElem? (i := 6) rfl))) (by decide) (backOf (W := 0) (rm1 l Z a0 hw [] b61 uu k61 (4 : Int32) [(.long v0), (.long v1), (.long v2), (.long v3)] v2 h65 n0 Z65 V65 (by decide) huu (by rw [hj]; rfl)) hZ (hw _ (List.mem_of_getElem? (i := 6) rfl)) (hw _ (List.mem_of_getElem? (i := 5) rfl)) (by decide) (by decide)) (g := (mkF m 421 #[.val (.long i0), .second, .val (.long i1), .second, .val (.int i2), .val (.int i3), .val (.int (4 : Int32)), .val (.int uu), .val (.long v0), .second, .val (.long v1), .second, .val (.long v2), .second, .val (.long v3), .second, .val (.long v4), .second, .val (.long v5), .second, .val (.long v6), .second, .val (.long v7), .second, .val (.ref b61), .unset, .unset, .unset, .unset, .unset] [(.int uu), (.ref b61)])) rfl (by rw [hml]; rfl) (argsL := [(.ref b61), (.int uu)]) (rest := []) (lenOf pd_1 rfl) rfl (by show 2 * 0 + _ ≤ _; exact Nat.le_of_eq rfl) (hb hby at_421) (fun _ _ => ⟨rfl, e65, (by decide : 1 + 0 ≤ _), (by decide : 4 + 0 ≤ _)⟩)
      dsimp only [Pt.U, Pt.locs, Pt.cells, Pt.slots] at X79 l79 y79 z79 st79 hQ79
      subst l79 y79 z79
      obtain ⟨rfl, N79q, e79⟩ := hQ79
      have N79 := Fr.app N65 N79q
      replace G : Gets p e below _ (T79.setTop (mkF m 424 #[.val (.long i0), .second, .val (.long i1), .second, .val (.int i2), .val (.int i3), .val (.int (4 : Int32)), .val (.int uu), .val (.long v0), .second, .val (.long v1), .second, .val (.long v2), .second, .val (.long v3), .second, .val (.long v4), .second, .val (.long v5), .second, .val (.long v6), .second, .val (.long v7), .second, .val (.ref b61), .unset, .unset, .unset, .unset, .unset] [(.long v2)])) := fun t k => G t (st79 t k)
      replace G := own_lstore (q := 426) (l' := #[.val (.long i0), .second, .val (.long i1), .second, .val (.int i2), .val (.int i3), .val (.int (4 : Int32)), .val (.int uu), .val (.long v0), .second, .val (.long v1), .second, .val (.long v2), .second, .val (.long v3), .second, .val (.long v4), .second, .val (.long v5), .second, .val (.long v6), .second, .val (.long v7), .second, .val (.ref b61), .val (.long v2), .second, .unset, .unset, .unset]) G X79.here hx (hb hby at_424) rfl rfl
      replace G := own_iconst (q := 427) G X79.here hx (hb hby at_426) (v := (-1 : Int32)) (by decide) rfl
      replace G := own_istore (q := 429) (l' := #[.val (.long i0), .second, .val (.long i1), .second, .val (.int i2), .val (.int i3), .val (.int (4 : Int32)), .val (.int uu), .val (.long v0), .second, .val (.long v1), .second, .val (.long v2), .second, .val (.long v3), .second, .val (.long v4), .second, .val (.long v5), .second, .val (.long v6), .second, .val (.long v7), .second, .val (.ref b61), .val (.long v2), .second, .val (.int (-1 : Int32)), .unset, .unset]) G X79.here hx (hb hby at_427) rfl rfl
      replace G := own_lload (q := 431) G X79.here hx (hb hby at_429) rfl rfl
      replace G := own_lload (q := 433) G X79.here hx (hb hby at_431) rfl rfl
      replace G := own_lcmp (q := 434) G X79.here hx (hb hby at_433) rfl
      have hc434_80 : ¬ (v2 = v0) := fun z => by have := congrArg Int64.toInt z; omega
      replace G := own_ifYes (q := 443) G X79.here hx (hb hby at_434) ((if0 _ _).trans (feq (fun z => hc434_80 ((lw_eq _ _).mp z))).2) (by decide) (by decide)
      replace G := own_iload (q := 445) G X79.here hx (hb hby at_443) rfl rfl
      replace G := own_iconst (q := 446) G X79.here hx (hb hby at_445) (v := (1 : Int32)) (by decide) rfl
      have hc446_81 : (1 : Int32) < (4 : Int32) := by decide
      replace G := own_icmpNo (q := 449) G X79.here hx (hb hby at_446) (tlt hc446_81).2.2.2 rfl
      replace G := own_lload (q := 451) G X79.here hx (hb hby at_449) rfl rfl
      replace G := own_lload (q := 453) G X79.here hx (hb hby at_451) rfl rfl
      replace G := own_lcmp (q := 454) G X79.here hx (hb hby at_453) rfl
      have hc454_82 : ¬ (v2 = v1) := fun z => by have := congrArg Int64.toInt z; omega
      replace G := own_ifYes (q := 463) G X79.here hx (hb hby at_454) ((if0 _ _).trans (feq (fun z => hc454_82 ((lw_eq _ _).mp z))).2) (by decide) (by decide)
      replace G := own_iload (q := 465) G X79.here hx (hb hby at_463) rfl rfl
      replace G := own_iconst (q := 466) G X79.here hx (hb hby at_465) (v := (2 : Int32)) (by decide) rfl
      have hc466_83 : (2 : Int32) < (4 : Int32) := by decide
      replace G := own_icmpNo (q := 469) G X79.here hx (hb hby at_466) (tlt hc466_83).2.2.2 rfl
      replace G := own_lload (q := 471) G X79.here hx (hb hby at_469) rfl rfl
      replace G := own_lload (q := 473) G X79.here hx (hb hby at_471) rfl rfl
      replace G := own_lcmp (q := 474) G X79.here hx (hb hby at_473) rfl
      have hc474_84 : v2 = v2 := rfl
      replace G := own_ifNo (q := 477) G X79.here hx (hb hby at_474) ((if0 _ _).trans (teq ((lw_eq _ _).mpr hc474_84)).2) rfl
      replace G := own_iconst (q := 478) G X79.here hx (hb hby at_477) (v := (2 : Int32)) (by decide) rfl
      replace G := own_istore (q := 480) (l' := #[.val (.long i0), .second, .val (.long i1), .second, .val (.int i2), .val (.int i3), .val (.int (4 : Int32)), .val (.int uu), .val (.long v0), .second, .val (.long v1), .second, .val (.long v2), .second, .val (.long v3), .second, .val (.long v4), .second, .val (.long v5), .second, .val (.long v6), .second, .val (.long v7), .second, .val (.ref b61), .val (.long v2), .second, .val (.int (2 : Int32)), .unset, .unset]) G X79.here hx (hb hby at_478) rfl rfl
      replace G := own_goto (q := 584) G X79.here hx (hb hby at_480) (by decide) (by decide)
      replace G := own_iload (q := 586) G X79.here hx (hb hby at_584) rfl rfl
      have hc586_85 : ¬ ((2 : Int32) < (0 : Int32)) := by decide
      replace G := own_ifYes (q := 591) G X79.here hx (hb hby at_586) ((if0 _ _).trans (flt hc586_85).2.1) (by decide) (by decide)
      replace G := own_iload (q := 593) G X79.here hx (hb hby at_591) rfl rfl
      replace G := own_i2l (q := 594) G X79.here hx (hb hby at_593) rfl rfl
      replace G := own_iload (q := 596) G X79.here hx (hb hby at_594) rfl rfl
      replace G := own_i2l (q := 597) G X79.here hx (hb hby at_596) (by decide : ((4 : Int32).toInt64) = (4 : Int64)) rfl
      replace G := own_lmul (q := 598) G X79.here hx (hb hby at_597) rfl rfl
      replace G := own_lstore (q := 600) (l' := #[.val (.long i0), .second, .val (.long i1), .second, .val (.int i2), .val (.int i3), .val (.int (4 : Int32)), .val (.int uu), .val (.long v0), .second, .val (.long v1), .second, .val (.long v2), .second, .val (.long v3), .second, .val (.long v4), .second, .val (.long v5), .second, .val (.long v6), .second, .val (.long v7), .second, .val (.ref b61), .val (.long v2), .second, .val (.int (2 : Int32)), .val (.long ((uu.toInt64) * (4 : Int64))), .second]) G X79.here hx (hb hby at_598) rfl rfl
      replace G := own_iload (q := 602) G X79.here hx (hb hby at_600) rfl rfl
      replace G := own_iconst (q := 603) G X79.here hx (hb hby at_602) (v := (1 : Int32)) (by decide) rfl
      replace G := own_iadd (q := 604) G X79.here hx (hb hby at_603) (by decide : ((2 : Int32) + (1 : Int32)) = (3 : Int32)) rfl
      replace G := own_i2l (q := 605) G X79.here hx (hb hby at_604) (by decide : ((3 : Int32).toInt64) = (3 : Int64)) rfl
      replace G : Gets p e below _ (T79.setTop (mkF m 608 #[.val (.long i0), .second, .val (.long i1), .second, .val (.int i2), .val (.int i3), .val (.int (4 : Int32)), .val (.int uu), .val (.long v0), .second, .val (.long v1), .second, .val (.long v2), .second, .val (.long v3), .second, .val (.long v4), .second, .val (.long v5), .second, .val (.long v6), .second, .val (.long v7), .second, .val (.ref b61), .val (.long v2), .second, .val (.int (2 : Int32)), .val (.long ((uu.toInt64) * (4 : Int64))), .second] [(.long (100 : Int64)), (.long (3 : Int64))])) := fun t k => G t (X79.ldc2Long hx hown (mvT hZ (hw _ (List.mem_of_getElem? (i := 13) rfl))) (g := (mkF m 605 #[.val (.long i0), .second, .val (.long i1), .second, .val (.int i2), .val (.int i3), .val (.int (4 : Int32)), .val (.int uu), .val (.long v0), .second, .val (.long v1), .second, .val (.long v2), .second, .val (.long v3), .second, .val (.long v4), .second, .val (.long v5), .second, .val (.long v6), .second, .val (.long v7), .second, .val (.ref b61), .val (.long v2), .second, .val (.int (2 : Int32)), .val (.long ((uu.toInt64) * (4 : Int64))), .second] [(.long (3 : Int64))])) rfl (hb hby at_605) t k)
      replace G := own_lmul (q := 609) G X79.here hx (hb hby at_608) (by decide : ((3 : Int64) * (100 : Int64)) = (300 : Int64)) rfl
      replace G := own_lload (q := 611) G X79.here hx (hb hby at_609) rfl rfl
      replace G := own_lcmp (q := 612) G X79.here hx (hb hby at_611) rfl
      have hc612_86 : ¬ ((300 : Int64) < ((uu.toInt64) * (4 : Int64))) := by
        rw [hj, show (2 : Int32).toInt = 2 from rfl] at sp
        have A := c_lmul uu.toInt64 4
        rw [c_i2l, show (4 : Int64).toInt = 4 from rfl] at A
        have RA := rng64 (uu.toInt64 * 4)
        have hB : 0 ≤ uu.toInt * 4 ∧ uu.toInt * 4 ≤ 800 := by omega
        have e : (uu.toInt64 * 4).toInt = uu.toInt * 4 := by
          generalize uu.toInt * 4 = P at A hB ⊢
          omega
        rw [own_ltL, e, show (300 : Int64).toInt = 300 from rfl]
        omega
      replace G := own_ifNo (q := 615) G X79.here hx (hb hby at_612) ((if0 _ _).trans (flt (fun z => hc612_86 ((lw_lt _ _).mp z))).1) rfl
      replace G := own_iload (q := 617) G X79.here hx (hb hby at_615) rfl rfl
      have hc617_87 : ¬ ((2 : Int32) = (0 : Int32)) := by decide
      replace G := own_ifNo (q := 620) G X79.here hx (hb hby at_617) ((if0 _ _).trans (feq hc617_87).1) rfl
      replace G := own_iload (q := 622) G X79.here hx (hb hby at_620) rfl rfl
      replace G := own_i2l (q := 623) G X79.here hx (hb hby at_622) (by decide : ((2 : Int32).toInt64) = (2 : Int64)) rfl
      replace G : Gets p e below _ (T79.setTop (mkF m 626 #[.val (.long i0), .second, .val (.long i1), .second, .val (.int i2), .val (.int i3), .val (.int (4 : Int32)), .val (.int uu), .val (.long v0), .second, .val (.long v1), .second, .val (.long v2), .second, .val (.long v3), .second, .val (.long v4), .second, .val (.long v5), .second, .val (.long v6), .second, .val (.long v7), .second, .val (.ref b61), .val (.long v2), .second, .val (.int (2 : Int32)), .val (.long ((uu.toInt64) * (4 : Int64))), .second] [(.long (100 : Int64)), (.long (2 : Int64))])) := fun t k => G t (X79.ldc2Long hx hown (mvT hZ (hw _ (List.mem_of_getElem? (i := 13) rfl))) (g := (mkF m 623 #[.val (.long i0), .second, .val (.long i1), .second, .val (.int i2), .val (.int i3), .val (.int (4 : Int32)), .val (.int uu), .val (.long v0), .second, .val (.long v1), .second, .val (.long v2), .second, .val (.long v3), .second, .val (.long v4), .second, .val (.long v5), .second, .val (.long v6), .second, .val (.long v7), .second, .val (.ref b61), .val (.long v2), .second, .val (.int (2 : Int32)), .val (.long ((uu.toInt64) * (4 : Int64))), .second] [(.long (2 : Int64))])) rfl (hb hby at_623) t k)
      replace G := own_lmul (q := 627) G X79.here hx (hb hby at_626) (by decide : ((2 : Int64) * (100 : Int64)) = (200 : Int64)) rfl
      replace G := own_lload (q := 629) G X79.here hx (hb hby at_627) rfl rfl
      replace G := own_lcmp (q := 630) G X79.here hx (hb hby at_629) rfl
      have hc630_88 : (200 : Int64) < ((uu.toInt64) * (4 : Int64)) := by
        rw [hj, show (2 : Int32).toInt = 2 from rfl] at sp
        have A := c_lmul uu.toInt64 4
        rw [c_i2l, show (4 : Int64).toInt = 4 from rfl] at A
        have RA := rng64 (uu.toInt64 * 4)
        have hB : 0 ≤ uu.toInt * 4 ∧ uu.toInt * 4 ≤ 800 := by omega
        have e : (uu.toInt64 * 4).toInt = uu.toInt * 4 := by
          generalize uu.toInt * 4 = P at A hB ⊢
          omega
        rw [own_ltL, e, show (200 : Int64).toInt = 200 from rfl]
        omega
      replace G := own_ifNo (q := 633) G X79.here hx (hb hby at_630) ((if0 _ _).trans (tlt ((lw_lt _ _).mpr hc630_88)).2.1) rfl
      replace G := own_iconst (q := 634) G X79.here hx (hb hby at_633) (v := (1 : Int32)) (by decide) rfl
      replace G := own_goto (q := 638) G X79.here hx (hb hby at_634) (by decide) (by decide)
      obtain ⟨fs, hr, hrun, hended, hW, hsame⟩ := X79.leave (v := some (.int (1 : Int32))) (fun h => by rw [Bd.returns] at h; cases h)
      refine ⟨_, _, G _ (retOut X79 hx Bd.returns rfl (Or.inl ⟨rfl, Or.inr (Or.inl rfl), _, rfl⟩) (hb hby at_638) hr), hrun, hended, _, _, rfl, ?_, ⟨_, rfl⟩, hW, hsame.mono (by decide) (by decide)⟩
      show Q0 Z i0 i1 i2 i3 h0 n0 _ T79.heap _
      rw [e79]
      exact ⟨rfl, N79⟩
    · obtain ⟨_, _, ⟨T89, L89, kk89, nn89⟩, -, X89, ⟨Lc89, hQ89, l89, y89, z89⟩, st89⟩ := Jvm.LawKit.callS X65 hx (y := (⟨"com/example/cued/cued/Bench", "percentile", "([JI)J"⟩ : MethodName)) hown (mvT hZ (hw _ (List.mem_of_getElem? (i := 3) rfl))) (mvT hZ (hw _ (List.mem_of_getElem? (i := 4) rfl))) (mvT hZ (hw _ (List.mem_of_getElem? (i := 5) rfl))) (mvT hZ (hw _ (List.mem_of_getElem? (i := 6) rfl))) (by decide) (backOf (W := 0) (rm1 l Z a0 hw [] b61 uu k61 (4 : Int32) [(.long v0), (.long v1), (.long v2), (.long v3)] v3 h65 n0 Z65 V65 (by decide) huu (by rw [hj]; rfl)) hZ (hw _ (List.mem_of_getElem? (i := 6) rfl)) (hw _ (List.mem_of_getElem? (i := 5) rfl)) (by decide) (by decide)) (g := (mkF m 421 #[.val (.long i0), .second, .val (.long i1), .second, .val (.int i2), .val (.int i3), .val (.int (4 : Int32)), .val (.int uu), .val (.long v0), .second, .val (.long v1), .second, .val (.long v2), .second, .val (.long v3), .second, .val (.long v4), .second, .val (.long v5), .second, .val (.long v6), .second, .val (.long v7), .second, .val (.ref b61), .unset, .unset, .unset, .unset, .unset] [(.int uu), (.ref b61)])) rfl (by rw [hml]; rfl) (argsL := [(.ref b61), (.int uu)]) (rest := []) (lenOf pd_1 rfl) rfl (by show 2 * 0 + _ ≤ _; exact Nat.le_of_eq rfl) (hb hby at_421) (fun _ _ => ⟨rfl, e65, (by decide : 1 + 0 ≤ _), (by decide : 4 + 0 ≤ _)⟩)
      dsimp only [Pt.U, Pt.locs, Pt.cells, Pt.slots] at X89 l89 y89 z89 st89 hQ89
      subst l89 y89 z89
      obtain ⟨rfl, N89q, e89⟩ := hQ89
      have N89 := Fr.app N65 N89q
      replace G : Gets p e below _ (T89.setTop (mkF m 424 #[.val (.long i0), .second, .val (.long i1), .second, .val (.int i2), .val (.int i3), .val (.int (4 : Int32)), .val (.int uu), .val (.long v0), .second, .val (.long v1), .second, .val (.long v2), .second, .val (.long v3), .second, .val (.long v4), .second, .val (.long v5), .second, .val (.long v6), .second, .val (.long v7), .second, .val (.ref b61), .unset, .unset, .unset, .unset, .unset] [(.long v3)])) := fun t k => G t (st89 t k)
      replace G := own_lstore (q := 426) (l' := #[.val (.long i0), .second, .val (.long i1), .second, .val (.int i2), .val (.int i3), .val (.int (4 : Int32)), .val (.int uu), .val (.long v0), .second, .val (.long v1), .second, .val (.long v2), .second, .val (.long v3), .second, .val (.long v4), .second, .val (.long v5), .second, .val (.long v6), .second, .val (.long v7), .second, .val (.ref b61), .val (.long v3), .second, .unset, .unset, .unset]) G X89.here hx (hb hby at_424) rfl rfl
      replace G := own_iconst (q := 427) G X89.here hx (hb hby at_426) (v := (-1 : Int32)) (by decide) rfl
      replace G := own_istore (q := 429) (l' := #[.val (.long i0), .second, .val (.long i1), .second, .val (.int i2), .val (.int i3), .val (.int (4 : Int32)), .val (.int uu), .val (.long v0), .second, .val (.long v1), .second, .val (.long v2), .second, .val (.long v3), .second, .val (.long v4), .second, .val (.long v5), .second, .val (.long v6), .second, .val (.long v7), .second, .val (.ref b61), .val (.long v3), .second, .val (.int (-1 : Int32)), .unset, .unset]) G X89.here hx (hb hby at_427) rfl rfl
      replace G := own_lload (q := 431) G X89.here hx (hb hby at_429) rfl rfl
      replace G := own_lload (q := 433) G X89.here hx (hb hby at_431) rfl rfl
      replace G := own_lcmp (q := 434) G X89.here hx (hb hby at_433) rfl
      have hc434_90 : ¬ (v3 = v0) := fun z => by have := congrArg Int64.toInt z; omega
      replace G := own_ifYes (q := 443) G X89.here hx (hb hby at_434) ((if0 _ _).trans (feq (fun z => hc434_90 ((lw_eq _ _).mp z))).2) (by decide) (by decide)
      replace G := own_iload (q := 445) G X89.here hx (hb hby at_443) rfl rfl
      replace G := own_iconst (q := 446) G X89.here hx (hb hby at_445) (v := (1 : Int32)) (by decide) rfl
      have hc446_91 : (1 : Int32) < (4 : Int32) := by decide
      replace G := own_icmpNo (q := 449) G X89.here hx (hb hby at_446) (tlt hc446_91).2.2.2 rfl
      replace G := own_lload (q := 451) G X89.here hx (hb hby at_449) rfl rfl
      replace G := own_lload (q := 453) G X89.here hx (hb hby at_451) rfl rfl
      replace G := own_lcmp (q := 454) G X89.here hx (hb hby at_453) rfl
      have hc454_92 : ¬ (v3 = v1) := fun z => by have := congrArg Int64.toInt z; omega
      replace G := own_ifYes (q := 463) G X89.here hx (hb hby at_454) ((if0 _ _).trans (feq (fun z => hc454_92 ((lw_eq _ _).mp z))).2) (by decide) (by decide)
      replace G := own_iload (q := 465) G X89.here hx (hb hby at_463) rfl rfl
      replace G := own_iconst (q := 466) G X89.here hx (hb hby at_465) (v := (2 : Int32)) (by decide) rfl
      have hc466_93 : (2 : Int32) < (4 : Int32) := by decide
      replace G := own_icmpNo (q := 469) G X89.here hx (hb hby at_466) (tlt hc466_93).2.2.2 rfl
      replace G := own_lload (q := 471) G X89.here hx (hb hby at_469) rfl rfl
      replace G := own_lload (q := 473) G X89.here hx (hb hby at_471) rfl rfl
      replace G := own_lcmp (q := 474) G X89.here hx (hb hby at_473) rfl
      have hc474_94 : ¬ (v3 = v2) := fun z => by have := congrArg Int64.toInt z; omega
      replace G := own_ifYes (q := 483) G X89.here hx (hb hby at_474) ((if0 _ _).trans (feq (fun z => hc474_94 ((lw_eq _ _).mp z))).2) (by decide) (by decide)
      replace G := own_iload (q := 485) G X89.here hx (hb hby at_483) rfl rfl
      replace G := own_iconst (q := 486) G X89.here hx (hb hby at_485) (v := (3 : Int32)) (by decide) rfl
      have hc486_95 : (3 : Int32) < (4 : Int32) := by decide
      replace G := own_icmpNo (q := 489) G X89.here hx (hb hby at_486) (tlt hc486_95).2.2.2 rfl
      replace G := own_lload (q := 491) G X89.here hx (hb hby at_489) rfl rfl
      replace G := own_lload (q := 493) G X89.here hx (hb hby at_491) rfl rfl
      replace G := own_lcmp (q := 494) G X89.here hx (hb hby at_493) rfl
      have hc494_96 : v3 = v3 := rfl
      replace G := own_ifNo (q := 497) G X89.here hx (hb hby at_494) ((if0 _ _).trans (teq ((lw_eq _ _).mpr hc494_96)).2) rfl
      replace G := own_iconst (q := 498) G X89.here hx (hb hby at_497) (v := (3 : Int32)) (by decide) rfl
      replace G := own_istore (q := 500) (l' := #[.val (.long i0), .second, .val (.long i1), .second, .val (.int i2), .val (.int i3), .val (.int (4 : Int32)), .val (.int uu), .val (.long v0), .second, .val (.long v1), .second, .val (.long v2), .second, .val (.long v3), .second, .val (.long v4), .second, .val (.long v5), .second, .val (.long v6), .second, .val (.long v7), .second, .val (.ref b61), .val (.long v3), .second, .val (.int (3 : Int32)), .unset, .unset]) G X89.here hx (hb hby at_498) rfl rfl
      replace G := own_goto (q := 584) G X89.here hx (hb hby at_500) (by decide) (by decide)
      replace G := own_iload (q := 586) G X89.here hx (hb hby at_584) rfl rfl
      have hc586_97 : ¬ ((3 : Int32) < (0 : Int32)) := by decide
      replace G := own_ifYes (q := 591) G X89.here hx (hb hby at_586) ((if0 _ _).trans (flt hc586_97).2.1) (by decide) (by decide)
      replace G := own_iload (q := 593) G X89.here hx (hb hby at_591) rfl rfl
      replace G := own_i2l (q := 594) G X89.here hx (hb hby at_593) rfl rfl
      replace G := own_iload (q := 596) G X89.here hx (hb hby at_594) rfl rfl
      replace G := own_i2l (q := 597) G X89.here hx (hb hby at_596) (by decide : ((4 : Int32).toInt64) = (4 : Int64)) rfl
      replace G := own_lmul (q := 598) G X89.here hx (hb hby at_597) rfl rfl
      replace G := own_lstore (q := 600) (l' := #[.val (.long i0), .second, .val (.long i1), .second, .val (.int i2), .val (.int i3), .val (.int (4 : Int32)), .val (.int uu), .val (.long v0), .second, .val (.long v1), .second, .val (.long v2), .second, .val (.long v3), .second, .val (.long v4), .second, .val (.long v5), .second, .val (.long v6), .second, .val (.long v7), .second, .val (.ref b61), .val (.long v3), .second, .val (.int (3 : Int32)), .val (.long ((uu.toInt64) * (4 : Int64))), .second]) G X89.here hx (hb hby at_598) rfl rfl
      replace G := own_iload (q := 602) G X89.here hx (hb hby at_600) rfl rfl
      replace G := own_iconst (q := 603) G X89.here hx (hb hby at_602) (v := (1 : Int32)) (by decide) rfl
      replace G := own_iadd (q := 604) G X89.here hx (hb hby at_603) (by decide : ((3 : Int32) + (1 : Int32)) = (4 : Int32)) rfl
      replace G := own_i2l (q := 605) G X89.here hx (hb hby at_604) (by decide : ((4 : Int32).toInt64) = (4 : Int64)) rfl
      replace G : Gets p e below _ (T89.setTop (mkF m 608 #[.val (.long i0), .second, .val (.long i1), .second, .val (.int i2), .val (.int i3), .val (.int (4 : Int32)), .val (.int uu), .val (.long v0), .second, .val (.long v1), .second, .val (.long v2), .second, .val (.long v3), .second, .val (.long v4), .second, .val (.long v5), .second, .val (.long v6), .second, .val (.long v7), .second, .val (.ref b61), .val (.long v3), .second, .val (.int (3 : Int32)), .val (.long ((uu.toInt64) * (4 : Int64))), .second] [(.long (100 : Int64)), (.long (4 : Int64))])) := fun t k => G t (X89.ldc2Long hx hown (mvT hZ (hw _ (List.mem_of_getElem? (i := 13) rfl))) (g := (mkF m 605 #[.val (.long i0), .second, .val (.long i1), .second, .val (.int i2), .val (.int i3), .val (.int (4 : Int32)), .val (.int uu), .val (.long v0), .second, .val (.long v1), .second, .val (.long v2), .second, .val (.long v3), .second, .val (.long v4), .second, .val (.long v5), .second, .val (.long v6), .second, .val (.long v7), .second, .val (.ref b61), .val (.long v3), .second, .val (.int (3 : Int32)), .val (.long ((uu.toInt64) * (4 : Int64))), .second] [(.long (4 : Int64))])) rfl (hb hby at_605) t k)
      replace G := own_lmul (q := 609) G X89.here hx (hb hby at_608) (by decide : ((4 : Int64) * (100 : Int64)) = (400 : Int64)) rfl
      replace G := own_lload (q := 611) G X89.here hx (hb hby at_609) rfl rfl
      replace G := own_lcmp (q := 612) G X89.here hx (hb hby at_611) rfl
      have hc612_98 : ¬ ((400 : Int64) < ((uu.toInt64) * (4 : Int64))) := by
        rw [hj, show (3 : Int32).toInt = 3 from rfl] at sp
        have A := c_lmul uu.toInt64 4
        rw [c_i2l, show (4 : Int64).toInt = 4 from rfl] at A
        have RA := rng64 (uu.toInt64 * 4)
        have hB : 0 ≤ uu.toInt * 4 ∧ uu.toInt * 4 ≤ 800 := by omega
        have e : (uu.toInt64 * 4).toInt = uu.toInt * 4 := by
          generalize uu.toInt * 4 = P at A hB ⊢
          omega
        rw [own_ltL, e, show (400 : Int64).toInt = 400 from rfl]
        omega
      replace G := own_ifNo (q := 615) G X89.here hx (hb hby at_612) ((if0 _ _).trans (flt (fun z => hc612_98 ((lw_lt _ _).mp z))).1) rfl
      replace G := own_iload (q := 617) G X89.here hx (hb hby at_615) rfl rfl
      have hc617_99 : ¬ ((3 : Int32) = (0 : Int32)) := by decide
      replace G := own_ifNo (q := 620) G X89.here hx (hb hby at_617) ((if0 _ _).trans (feq hc617_99).1) rfl
      replace G := own_iload (q := 622) G X89.here hx (hb hby at_620) rfl rfl
      replace G := own_i2l (q := 623) G X89.here hx (hb hby at_622) (by decide : ((3 : Int32).toInt64) = (3 : Int64)) rfl
      replace G : Gets p e below _ (T89.setTop (mkF m 626 #[.val (.long i0), .second, .val (.long i1), .second, .val (.int i2), .val (.int i3), .val (.int (4 : Int32)), .val (.int uu), .val (.long v0), .second, .val (.long v1), .second, .val (.long v2), .second, .val (.long v3), .second, .val (.long v4), .second, .val (.long v5), .second, .val (.long v6), .second, .val (.long v7), .second, .val (.ref b61), .val (.long v3), .second, .val (.int (3 : Int32)), .val (.long ((uu.toInt64) * (4 : Int64))), .second] [(.long (100 : Int64)), (.long (3 : Int64))])) := fun t k => G t (X89.ldc2Long hx hown (mvT hZ (hw _ (List.mem_of_getElem? (i := 13) rfl))) (g := (mkF m 623 #[.val (.long i0), .second, .val (.long i1), .second, .val (.int i2), .val (.int i3), .val (.int (4 : Int32)), .val (.int uu), .val (.long v0), .second, .val (.long v1), .second, .val (.long v2), .second, .val (.long v3), .second, .val (.long v4), .second, .val (.long v5), .second, .val (.long v6), .second, .val (.long v7), .second, .val (.ref b61), .val (.long v3), .second, .val (.int (3 : Int32)), .val (.long ((uu.toInt64) * (4 : Int64))), .second] [(.long (3 : Int64))])) rfl (hb hby at_623) t k)
      replace G := own_lmul (q := 627) G X89.here hx (hb hby at_626) (by decide : ((3 : Int64) * (100 : Int64)) = (300 : Int64)) rfl
      replace G := own_lload (q := 629) G X89.here hx (hb hby at_627) rfl rfl
      replace G := own_lcmp (q := 630) G X89.here hx (hb hby at_629) rfl
      have hc630_100 : (300 : Int64) < ((uu.toInt64) * (4 : Int64)) := by
        rw [hj, show (3 : Int32).toInt = 3 from rfl] at sp
        have A := c_lmul uu.toInt64 4
        rw [c_i2l, show (4 : Int64).toInt = 4 from rfl] at A
        have RA := rng64 (uu.toInt64 * 4)
        have hB : 0 ≤ uu.toInt * 4 ∧ uu.toInt * 4 ≤ 800 := by omega
        have e : (uu.toInt64 * 4).toInt = uu.toInt * 4 := by
          generalize uu.toInt * 4 = P at A hB ⊢
          omega
        rw [own_ltL, e, show (300 : Int64).toInt = 300 from rfl]
        omega
      replace G := own_ifNo (q := 633) G X89.here hx (hb hby at_630) ((if0 _ _).trans (tlt ((lw_lt _ _).mpr hc630_100)).2.1) rfl
      replace G := own_iconst (q := 634) G X89.here hx (hb hby at_633) (v := (1 : Int32)) (by decide) rfl
      replace G := own_goto (q := 638) G X89.here hx (hb hby at_634) (by decide) (by decide)
      obtain ⟨fs, hr, hrun, hended, hW, hsame⟩ := X89.leave (v := some (.int (1 : Int32))) (fun h => by rw [Bd.returns] at h; cases h)
      refine ⟨_, _, G _ (retOut X89 hx Bd.returns rfl (Or.inl ⟨rfl, Or.inr (Or.inl rfl), _, rfl⟩) (hb hby at_638) hr), hrun, hended, _, _, rfl, ?_, ⟨_, rfl⟩, hW, hsame.mono (by decide) (by decide)⟩
      show Q0 Z i0 i1 i2 i3 h0 n0 _ T89.heap _
      rw [e89]
      exact ⟨rfl, N89⟩
  · replace G := own_iload (q := 128) G X0.here hx (hb hby at_126) rfl rfl
    replace G := own_iconst (q := 129) G X0.here hx (hb hby at_128) (v := (1 : Int32)) (by decide) rfl
    have hc129_101 : ¬ ((5 : Int32) = (1 : Int32)) := by decide
    replace G := own_icmpYes (q := 145) G X0.here hx (hb hby at_129) (feq hc129_101).2 (by decide) (by decide)
    replace G := own_iload (q := 147) G X0.here hx (hb hby at_145) rfl rfl
    replace G := own_iconst (q := 148) G X0.here hx (hb hby at_147) (v := (2 : Int32)) (by decide) rfl
    have hc148_102 : ¬ ((5 : Int32) = (2 : Int32)) := by decide
    replace G := own_icmpYes (q := 169) G X0.here hx (hb hby at_148) (feq hc148_102).2 (by decide) (by decide)
    replace G := own_iload (q := 171) G X0.here hx (hb hby at_169) rfl rfl
    replace G := own_iconst (q := 172) G X0.here hx (hb hby at_171) (v := (3 : Int32)) (by decide) rfl
    have hc172_103 : ¬ ((5 : Int32) = (3 : Int32)) := by decide
    replace G := own_icmpYes (q := 198) G X0.here hx (hb hby at_172) (feq hc172_103).2 (by decide) (by decide)
    replace G := own_iload (q := 200) G X0.here hx (hb hby at_198) rfl rfl
    replace G := own_iconst (q := 201) G X0.here hx (hb hby at_200) (v := (4 : Int32)) (by decide) rfl
    have hc201_104 : ¬ ((5 : Int32) = (4 : Int32)) := by decide
    replace G := own_icmpYes (q := 232) G X0.here hx (hb hby at_201) (feq hc201_104).2 (by decide) (by decide)
    replace G := own_iload (q := 234) G X0.here hx (hb hby at_232) rfl rfl
    replace G := own_iconst (q := 235) G X0.here hx (hb hby at_234) (v := (5 : Int32)) (by decide) rfl
    have hc235_105 : (5 : Int32) = (5 : Int32) := by decide
    replace G := own_icmpNo (q := 238) G X0.here hx (hb hby at_235) (teq hc235_105).2 rfl
    replace G := own_iconst (q := 239) G X0.here hx (hb hby at_238) (v := (5 : Int32)) (by decide) rfl
    obtain ⟨T106, h106, k106, X106, e106, E106, A106, st106⟩ := newP X0 hx hZ (hw _ (List.mem_of_getElem? (i := 2) rfl)) e0 (g := (mkF m 239 #[.val (.long i0), .second, .val (.long i1), .second, .val (.int i2), .val (.int i3), .val (.int (5 : Int32)), .val (.int uu), .val (.long v0), .second, .val (.long v1), .second, .val (.long v2), .second, .val (.long v3), .second, .val (.long v4), .second, .val (.long v5), .second, .val (.long v6), .second, .val (.long v7), .second, .unset, .unset, .unset, .unset, .unset, .unset] [(.int (5 : Int32))])) rfl (hb hby at_239) rfl (by decide) (cap := 5) (by decide) (by decide) (by decide) (by decide)
    obtain ⟨b106, g106⟩ : ∃ z, z = h0.size := ⟨_, rfl⟩
    rw [← g106] at A106 st106
    have ge_b106 : n0 ≤ b106 := Nat.le_trans Z0 (Nat.le_of_eq g106.symm)
    have Z106 : n0 ≤ h106.size := Nat.le_trans Z0 E106.1
    have V106 : Arv Z h106 b106 k106 .long (5 : Int32) [(.long (0 : Int64)), (.long (0 : Int64)), (.long (0 : Int64)), (.long (0 : Int64)), (.long (0 : Int64))] (.long (0 : Int64)) := (Arv.new A106 (by decide)).pad (pad_rep [] (.long (0 : Int64)) 5)
    replace G : Gets p e below _ (T106.setTop (mkF m 241 #[.val (.long i0), .second, .val (.long i1), .second, .val (.int i2), .val (.int i3), .val (.int (5 : Int32)), .val (.int uu), .val (.long v0), .second, .val (.long v1), .second, .val (.long v2), .second, .val (.long v3), .second, .val (.long v4), .second, .val (.long v5), .second, .val (.long v6), .second, .val (.long v7), .second, .unset, .unset, .unset, .unset, .unset, .unset] [(.ref b106)])) := fun t k => G t (st106 t k)
    replace G := own_dup (q := 242) G X106.here hx (hb hby at_241) rfl rfl
    replace G := own_iconst (q := 243) G X106.here hx (hb hby at_242) (v := (0 : Int32)) (by decide) rfl
    replace G := own_lload (q := 245) G X106.here hx (hb hby at_243) rfl rfl
    obtain ⟨c107, Ar107, q107, S107, N107', H107, G107'⟩ := id V106
    have hin107 : ¬ ((0 : Int32) < 0 ∨ c107.slots.size ≤ ((0 : Int32)).toNatClampNeg) := inb_of S107 ⟨by decide, by decide⟩
    obtain ⟨T107, h107, X107, e107, W107, st107⟩ := stJ X106 hx hZ e106 Ar107 (j := (0 : Int32)) hin107 (g := (mkF m 245 #[.val (.long i0), .second, .val (.long i1), .second, .val (.int i2), .val (.int i3), .val (.int (5 : Int32)), .val (.int uu), .val (.long v0), .second, .val (.long v1), .second, .val (.long v2), .second, .val (.long v3), .second, .val (.long v4), .second, .val (.long v5), .second, .val (.long v6), .second, .val (.long v7), .second, .unset, .unset, .unset, .unset, .unset, .unset] [(.long v0), (.int (0 : Int32)), (.ref b106), (.ref b106)])) rfl rfl (hb hby at_245)
    have N107 := Fr.snoc X107 N0 ge_b106
    have Z107 : n0 ≤ h107.size := Nat.le_trans Z106 (Keep.of_wr W107).1
    have V107 : Arv Z h107 b106 k106 .long (5 : Int32) [(.long v0), (.long (0 : Int64)), (.long (0 : Int64)), (.long (0 : Int64)), (.long (0 : Int64))] (.long (0 : Int64)) := Arv.set Ar107 q107 S107 N107' H107 G107' rfl W107 0 rfl (Nat.le_of_ble_eq_true rfl)
    replace G : Gets p e below _ (T107.setTop (mkF m 246 #[.val (.long i0), .second, .val (.long i1), .second, .val (.int i2), .val (.int i3), .val (.int (5 : Int32)), .val (.int uu), .val (.long v0), .second, .val (.long v1), .second, .val (.long v2), .second, .val (.long v3), .second, .val (.long v4), .second, .val (.long v5), .second, .val (.long v6), .second, .val (.long v7), .second, .unset, .unset, .unset, .unset, .unset, .unset] [(.ref b106)])) := fun t k => G t (st107 t k)
    replace G := own_dup (q := 247) G X107.here hx (hb hby at_246) rfl rfl
    replace G := own_iconst (q := 248) G X107.here hx (hb hby at_247) (v := (1 : Int32)) (by decide) rfl
    replace G := own_lload (q := 250) G X107.here hx (hb hby at_248) rfl rfl
    obtain ⟨c108, Ar108, q108, S108, N108', H108, G108'⟩ := id V107
    have hin108 : ¬ ((1 : Int32) < 0 ∨ c108.slots.size ≤ ((1 : Int32)).toNatClampNeg) := inb_of S108 ⟨by decide, by decide⟩
    obtain ⟨T108, h108, X108, e108, W108, st108⟩ := stJ X107 hx hZ e107 Ar108 (j := (1 : Int32)) hin108 (g := (mkF m 250 #[.val (.long i0), .second, .val (.long i1), .second, .val (.int i2), .val (.int i3), .val (.int (5 : Int32)), .val (.int uu), .val (.long v0), .second, .val (.long v1), .second, .val (.long v2), .second, .val (.long v3), .second, .val (.long v4), .second, .val (.long v5), .second, .val (.long v6), .second, .val (.long v7), .second, .unset, .unset, .unset, .unset, .unset, .unset] [(.long v1), (.int (1 : Int32)), (.ref b106), (.ref b106)])) rfl rfl (hb hby at_250)
    have N108 := Fr.snoc X108 N107 ge_b106
    have Z108 : n0 ≤ h108.size := Nat.le_trans Z107 (Keep.of_wr W108).1
    have V108 : Arv Z h108 b106 k106 .long (5 : Int32) [(.long v0), (.long v1), (.long (0 : Int64)), (.long (0 : Int64)), (.long (0 : Int64))] (.long (0 : Int64)) := Arv.set Ar108 q108 S108 N108' H108 G108' rfl W108 1 rfl (Nat.le_of_ble_eq_true rfl)
    replace G : Gets p e below _ (T108.setTop (mkF m 251 #[.val (.long i0), .second, .val (.long i1), .second, .val (.int i2), .val (.int i3), .val (.int (5 : Int32)), .val (.int uu), .val (.long v0), .second, .val (.long v1), .second, .val (.long v2), .second, .val (.long v3), .second, .val (.long v4), .second, .val (.long v5), .second, .val (.long v6), .second, .val (.long v7), .second, .unset, .unset, .unset, .unset, .unset, .unset] [(.ref b106)])) := fun t k => G t (st108 t k)
    replace G := own_dup (q := 252) G X108.here hx (hb hby at_251) rfl rfl
    replace G := own_iconst (q := 253) G X108.here hx (hb hby at_252) (v := (2 : Int32)) (by decide) rfl
    replace G := own_lload (q := 255) G X108.here hx (hb hby at_253) rfl rfl
    obtain ⟨c109, Ar109, q109, S109, N109', H109, G109'⟩ := id V108
    have hin109 : ¬ ((2 : Int32) < 0 ∨ c109.slots.size ≤ ((2 : Int32)).toNatClampNeg) := inb_of S109 ⟨by decide, by decide⟩
    obtain ⟨T109, h109, X109, e109, W109, st109⟩ := stJ X108 hx hZ e108 Ar109 (j := (2 : Int32)) hin109 (g := (mkF m 255 #[.val (.long i0), .second, .val (.long i1), .second, .val (.int i2), .val (.int i3), .val (.int (5 : Int32)), .val (.int uu), .val (.long v0), .second, .val (.long v1), .second, .val (.long v2), .second, .val (.long v3), .second, .val (.long v4), .second, .val (.long v5), .second, .val (.long v6), .second, .val (.long v7), .second, .unset, .unset, .unset, .unset, .unset, .unset] [(.long v2), (.int (2 : Int32)), (.ref b106), (.ref b106)])) rfl rfl (hb hby at_255)
    have N109 := Fr.snoc X109 N108 ge_b106
    have Z109 : n0 ≤ h109.size := Nat.le_trans Z108 (Keep.of_wr W109).1
    have V109 : Arv Z h109 b106 k106 .long (5 : Int32) [(.long v0), (.long v1), (.long v2), (.long (0 : Int64)), (.long (0 : Int64))] (.long (0 : Int64)) := Arv.set Ar109 q109 S109 N109' H109 G109' rfl W109 2 rfl (Nat.le_of_ble_eq_true rfl)
    replace G : Gets p e below _ (T109.setTop (mkF m 256 #[.val (.long i0), .second, .val (.long i1), .second, .val (.int i2), .val (.int i3), .val (.int (5 : Int32)), .val (.int uu), .val (.long v0), .second, .val (.long v1), .second, .val (.long v2), .second, .val (.long v3), .second, .val (.long v4), .second, .val (.long v5), .second, .val (.long v6), .second, .val (.long v7), .second, .unset, .unset, .unset, .unset, .unset, .unset] [(.ref b106)])) := fun t k => G t (st109 t k)
    replace G := own_dup (q := 257) G X109.here hx (hb hby at_256) rfl rfl
    replace G := own_iconst (q := 258) G X109.here hx (hb hby at_257) (v := (3 : Int32)) (by decide) rfl
    replace G := own_lload (q := 260) G X109.here hx (hb hby at_258) rfl rfl
    obtain ⟨c110, Ar110, q110, S110, N110', H110, G110'⟩ := id V109
    have hin110 : ¬ ((3 : Int32) < 0 ∨ c110.slots.size ≤ ((3 : Int32)).toNatClampNeg) := inb_of S110 ⟨by decide, by decide⟩
    obtain ⟨T110, h110, X110, e110, W110, st110⟩ := stJ X109 hx hZ e109 Ar110 (j := (3 : Int32)) hin110 (g := (mkF m 260 #[.val (.long i0), .second, .val (.long i1), .second, .val (.int i2), .val (.int i3), .val (.int (5 : Int32)), .val (.int uu), .val (.long v0), .second, .val (.long v1), .second, .val (.long v2), .second, .val (.long v3), .second, .val (.long v4), .second, .val (.long v5), .second, .val (.long v6), .second, .val (.long v7), .second, .unset, .unset, .unset, .unset, .unset, .unset] [(.long v3), (.int (3 : Int32)), (.ref b106), (.ref b106)])) rfl rfl (hb hby at_260)
    have N110 := Fr.snoc X110 N109 ge_b106
    have Z110 : n0 ≤ h110.size := Nat.le_trans Z109 (Keep.of_wr W110).1
    have V110 : Arv Z h110 b106 k106 .long (5 : Int32) [(.long v0), (.long v1), (.long v2), (.long v3), (.long (0 : Int64))] (.long (0 : Int64)) := Arv.set Ar110 q110 S110 N110' H110 G110' rfl W110 3 rfl (Nat.le_of_ble_eq_true rfl)
    replace G : Gets p e below _ (T110.setTop (mkF m 261 #[.val (.long i0), .second, .val (.long i1), .second, .val (.int i2), .val (.int i3), .val (.int (5 : Int32)), .val (.int uu), .val (.long v0), .second, .val (.long v1), .second, .val (.long v2), .second, .val (.long v3), .second, .val (.long v4), .second, .val (.long v5), .second, .val (.long v6), .second, .val (.long v7), .second, .unset, .unset, .unset, .unset, .unset, .unset] [(.ref b106)])) := fun t k => G t (st110 t k)
    replace G := own_dup (q := 262) G X110.here hx (hb hby at_261) rfl rfl
    replace G := own_iconst (q := 263) G X110.here hx (hb hby at_262) (v := (4 : Int32)) (by decide) rfl
    replace G := own_lload (q := 265) G X110.here hx (hb hby at_263) rfl rfl
    obtain ⟨c111, Ar111, q111, S111, N111', H111, G111'⟩ := id V110
    have hin111 : ¬ ((4 : Int32) < 0 ∨ c111.slots.size ≤ ((4 : Int32)).toNatClampNeg) := inb_of S111 ⟨by decide, by decide⟩
    obtain ⟨T111, h111, X111, e111, W111, st111⟩ := stJ X110 hx hZ e110 Ar111 (j := (4 : Int32)) hin111 (g := (mkF m 265 #[.val (.long i0), .second, .val (.long i1), .second, .val (.int i2), .val (.int i3), .val (.int (5 : Int32)), .val (.int uu), .val (.long v0), .second, .val (.long v1), .second, .val (.long v2), .second, .val (.long v3), .second, .val (.long v4), .second, .val (.long v5), .second, .val (.long v6), .second, .val (.long v7), .second, .unset, .unset, .unset, .unset, .unset, .unset] [(.long v4), (.int (4 : Int32)), (.ref b106), (.ref b106)])) rfl rfl (hb hby at_265)
    have N111 := Fr.snoc X111 N110 ge_b106
    have Z111 : n0 ≤ h111.size := Nat.le_trans Z110 (Keep.of_wr W111).1
    have V111 : Arv Z h111 b106 k106 .long (5 : Int32) [(.long v0), (.long v1), (.long v2), (.long v3), (.long v4)] (.long (0 : Int64)) := Arv.set Ar111 q111 S111 N111' H111 G111' rfl W111 4 rfl (Nat.le_of_ble_eq_true rfl)
    replace G : Gets p e below _ (T111.setTop (mkF m 266 #[.val (.long i0), .second, .val (.long i1), .second, .val (.int i2), .val (.int i3), .val (.int (5 : Int32)), .val (.int uu), .val (.long v0), .second, .val (.long v1), .second, .val (.long v2), .second, .val (.long v3), .second, .val (.long v4), .second, .val (.long v5), .second, .val (.long v6), .second, .val (.long v7), .second, .unset, .unset, .unset, .unset, .unset, .unset] [(.ref b106)])) := fun t k => G t (st111 t k)
    replace G := own_astore (q := 268) (l' := #[.val (.long i0), .second, .val (.long i1), .second, .val (.int i2), .val (.int i3), .val (.int (5 : Int32)), .val (.int uu), .val (.long v0), .second, .val (.long v1), .second, .val (.long v2), .second, .val (.long v3), .second, .val (.long v4), .second, .val (.long v5), .second, .val (.long v6), .second, .val (.long v7), .second, .val (.ref b106), .unset, .unset, .unset, .unset, .unset]) G X111.here hx (hb hby at_266) rfl rfl rfl
    replace G := own_goto (q := 417) G X111.here hx (hb hby at_268) (by decide) (by decide)
    replace G := own_aload (q := 419) G X111.here hx (hb hby at_417) rfl rfl rfl
    replace G := own_iload (q := 421) G X111.here hx (hb hby at_419) rfl rfl
    have sp := own_ixs uu (5 : Int32) 5 rfl (by decide) (by decide) huu
    rcases own_cases5 ⟨sp.1, sp.2.1⟩ with hj | hj | hj | hj | hj
    · obtain ⟨_, _, ⟨T112, L112, kk112, nn112⟩, -, X112, ⟨Lc112, hQ112, l112, y112, z112⟩, st112⟩ := Jvm.LawKit.callS X111 hx (y := (⟨"com/example/cued/cued/Bench", "percentile", "([JI)J"⟩ : MethodName)) hown (mvT hZ (hw _ (List.mem_of_getElem? (i := 3) rfl))) (mvT hZ (hw _ (List.mem_of_getElem? (i := 4) rfl))) (mvT hZ (hw _ (List.mem_of_getElem? (i := 5) rfl))) (mvT hZ (hw _ (List.mem_of_getElem? (i := 6) rfl))) (by decide) (backOf (W := 0) (rm1 l Z a0 hw [] b106 uu k106 (5 : Int32) [(.long v0), (.long v1), (.long v2), (.long v3), (.long v4)] v0 h111 n0 Z111 V111 (by decide) huu (by rw [hj]; rfl)) hZ (hw _ (List.mem_of_getElem? (i := 6) rfl)) (hw _ (List.mem_of_getElem? (i := 5) rfl)) (by decide) (by decide)) (g := (mkF m 421 #[.val (.long i0), .second, .val (.long i1), .second, .val (.int i2), .val (.int i3), .val (.int (5 : Int32)), .val (.int uu), .val (.long v0), .second, .val (.long v1), .second, .val (.long v2), .second, .val (.long v3), .second, .val (.long v4), .second, .val (.long v5), .second, .val (.long v6), .second, .val (.long v7), .second, .val (.ref b106), .unset, .unset, .unset, .unset, .unset] [(.int uu), (.ref b106)])) rfl (by rw [hml]; rfl) (argsL := [(.ref b106), (.int uu)]) (rest := []) (lenOf pd_1 rfl) rfl (by show 2 * 0 + _ ≤ _; exact Nat.le_of_eq rfl) (hb hby at_421) (fun _ _ => ⟨rfl, e111, (by decide : 1 + 0 ≤ _), (by decide : 5 + 0 ≤ _)⟩)
      dsimp only [Pt.U, Pt.locs, Pt.cells, Pt.slots] at X112 l112 y112 z112 st112 hQ112
      subst l112 y112 z112
      obtain ⟨rfl, N112q, e112⟩ := hQ112
      have N112 := Fr.app N111 N112q
      replace G : Gets p e below _ (T112.setTop (mkF m 424 #[.val (.long i0), .second, .val (.long i1), .second, .val (.int i2), .val (.int i3), .val (.int (5 : Int32)), .val (.int uu), .val (.long v0), .second, .val (.long v1), .second, .val (.long v2), .second, .val (.long v3), .second, .val (.long v4), .second, .val (.long v5), .second, .val (.long v6), .second, .val (.long v7), .second, .val (.ref b106), .unset, .unset, .unset, .unset, .unset] [(.long v0)])) := fun t k => G t (st112 t k)
      replace G := own_lstore (q := 426) (l' := #[.val (.long i0), .second, .val (.long i1), .second, .val (.int i2), .val (.int i3), .val (.int (5 : Int32)), .val (.int uu), .val (.long v0), .second, .val (.long v1), .second, .val (.long v2), .second, .val (.long v3), .second, .val (.long v4), .second, .val (.long v5), .second, .val (.long v6), .second, .val (.long v7), .second, .val (.ref b106), .val (.long v0), .second, .unset, .unset, .unset]) G X112.here hx (hb hby at_424) rfl rfl
      replace G := own_iconst (q := 427) G X112.here hx (hb hby at_426) (v := (-1 : Int32)) (by decide) rfl
      replace G := own_istore (q := 429) (l' := #[.val (.long i0), .second, .val (.long i1), .second, .val (.int i2), .val (.int i3), .val (.int (5 : Int32)), .val (.int uu), .val (.long v0), .second, .val (.long v1), .second, .val (.long v2), .second, .val (.long v3), .second, .val (.long v4), .second, .val (.long v5), .second, .val (.long v6), .second, .val (.long v7), .second, .val (.ref b106), .val (.long v0), .second, .val (.int (-1 : Int32)), .unset, .unset]) G X112.here hx (hb hby at_427) rfl rfl
      replace G := own_lload (q := 431) G X112.here hx (hb hby at_429) rfl rfl
      replace G := own_lload (q := 433) G X112.here hx (hb hby at_431) rfl rfl
      replace G := own_lcmp (q := 434) G X112.here hx (hb hby at_433) rfl
      have hc434_113 : v0 = v0 := rfl
      replace G := own_ifNo (q := 437) G X112.here hx (hb hby at_434) ((if0 _ _).trans (teq ((lw_eq _ _).mpr hc434_113)).2) rfl
      replace G := own_iconst (q := 438) G X112.here hx (hb hby at_437) (v := (0 : Int32)) (by decide) rfl
      replace G := own_istore (q := 440) (l' := #[.val (.long i0), .second, .val (.long i1), .second, .val (.int i2), .val (.int i3), .val (.int (5 : Int32)), .val (.int uu), .val (.long v0), .second, .val (.long v1), .second, .val (.long v2), .second, .val (.long v3), .second, .val (.long v4), .second, .val (.long v5), .second, .val (.long v6), .second, .val (.long v7), .second, .val (.ref b106), .val (.long v0), .second, .val (.int (0 : Int32)), .unset, .unset]) G X112.here hx (hb hby at_438) rfl rfl
      replace G := own_goto (q := 584) G X112.here hx (hb hby at_440) (by decide) (by decide)
      replace G := own_iload (q := 586) G X112.here hx (hb hby at_584) rfl rfl
      have hc586_114 : ¬ ((0 : Int32) < (0 : Int32)) := by decide
      replace G := own_ifYes (q := 591) G X112.here hx (hb hby at_586) ((if0 _ _).trans (flt hc586_114).2.1) (by decide) (by decide)
      replace G := own_iload (q := 593) G X112.here hx (hb hby at_591) rfl rfl
      replace G := own_i2l (q := 594) G X112.here hx (hb hby at_593) rfl rfl
      replace G := own_iload (q := 596) G X112.here hx (hb hby at_594) rfl rfl
      replace G := own_i2l (q := 597) G X112.here hx (hb hby at_596) (by decide : ((5 : Int32).toInt64) = (5 : Int64)) rfl
      replace G := own_lmul (q := 598) G X112.here hx (hb hby at_597) rfl rfl
      replace G := own_lstore (q := 600) (l' := #[.val (.long i0), .second, .val (.long i1), .second, .val (.int i2), .val (.int i3), .val (.int (5 : Int32)), .val (.int uu), .val (.long v0), .second, .val (.long v1), .second, .val (.long v2), .second, .val (.long v3), .second, .val (.long v4), .second, .val (.long v5), .second, .val (.long v6), .second, .val (.long v7), .second, .val (.ref b106), .val (.long v0), .second, .val (.int (0 : Int32)), .val (.long ((uu.toInt64) * (5 : Int64))), .second]) G X112.here hx (hb hby at_598) rfl rfl
      replace G := own_iload (q := 602) G X112.here hx (hb hby at_600) rfl rfl
      replace G := own_iconst (q := 603) G X112.here hx (hb hby at_602) (v := (1 : Int32)) (by decide) rfl
      replace G := own_iadd (q := 604) G X112.here hx (hb hby at_603) (by decide : ((0 : Int32) + (1 : Int32)) = (1 : Int32)) rfl
      replace G := own_i2l (q := 605) G X112.here hx (hb hby at_604) (by decide : ((1 : Int32).toInt64) = (1 : Int64)) rfl
      replace G : Gets p e below _ (T112.setTop (mkF m 608 #[.val (.long i0), .second, .val (.long i1), .second, .val (.int i2), .val (.int i3), .val (.int (5 : Int32)), .val (.int uu), .val (.long v0), .second, .val (.long v1), .second, .val (.long v2), .second, .val (.long v3), .second, .val (.long v4), .second, .val (.long v5), .second, .val (.long v6), .second, .val (.long v7), .second, .val (.ref b106), .val (.long v0), .second, .val (.int (0 : Int32)), .val (.long ((uu.toInt64) * (5 : Int64))), .second] [(.long (100 : Int64)), (.long (1 : Int64))])) := fun t k => G t (X112.ldc2Long hx hown (mvT hZ (hw _ (List.mem_of_getElem? (i := 13) rfl))) (g := (mkF m 605 #[.val (.long i0), .second, .val (.long i1), .second, .val (.int i2), .val (.int i3), .val (.int (5 : Int32)), .val (.int uu), .val (.long v0), .second, .val (.long v1), .second, .val (.long v2), .second, .val (.long v3), .second, .val (.long v4), .second, .val (.long v5), .second, .val (.long v6), .second, .val (.long v7), .second, .val (.ref b106), .val (.long v0), .second, .val (.int (0 : Int32)), .val (.long ((uu.toInt64) * (5 : Int64))), .second] [(.long (1 : Int64))])) rfl (hb hby at_605) t k)
      replace G := own_lmul (q := 609) G X112.here hx (hb hby at_608) (by decide : ((1 : Int64) * (100 : Int64)) = (100 : Int64)) rfl
      replace G := own_lload (q := 611) G X112.here hx (hb hby at_609) rfl rfl
      replace G := own_lcmp (q := 612) G X112.here hx (hb hby at_611) rfl
      have hc612_115 : ¬ ((100 : Int64) < ((uu.toInt64) * (5 : Int64))) := by
        rw [hj, show (0 : Int32).toInt = 0 from rfl] at sp
        have A := c_lmul uu.toInt64 5
        rw [c_i2l, show (5 : Int64).toInt = 5 from rfl] at A
        have RA := rng64 (uu.toInt64 * 5)
        have hB : 0 ≤ uu.toInt * 5 ∧ uu.toInt * 5 ≤ 800 := by omega
        have e : (uu.toInt64 * 5).toInt = uu.toInt * 5 := by
          generalize uu.toInt * 5 = P at A hB ⊢
          omega
        rw [own_ltL, e, show (100 : Int64).toInt = 100 from rfl]
        omega
      replace G := own_ifNo (q := 615) G X112.here hx (hb hby at_612) ((if0 _ _).trans (flt (fun z => hc612_115 ((lw_lt _ _).mp z))).1) rfl
      replace G := own_iload (q := 617) G X112.here hx (hb hby at_615) rfl rfl
      have hc617_116 : (0 : Int32) = (0 : Int32) := by decide
      replace G := own_ifYes (q := 633) G X112.here hx (hb hby at_617) ((if0 _ _).trans (teq hc617_116).1) (by decide) (by decide)
      replace G := own_iconst (q := 634) G X112.here hx (hb hby at_633) (v := (1 : Int32)) (by decide) rfl
      replace G := own_goto (q := 638) G X112.here hx (hb hby at_634) (by decide) (by decide)
      obtain ⟨fs, hr, hrun, hended, hW, hsame⟩ := X112.leave (v := some (.int (1 : Int32))) (fun h => by rw [Bd.returns] at h; cases h)
      refine ⟨_, _, G _ (retOut X112 hx Bd.returns rfl (Or.inl ⟨rfl, Or.inr (Or.inl rfl), _, rfl⟩) (hb hby at_638) hr), hrun, hended, _, _, rfl, ?_, ⟨_, rfl⟩, hW, hsame.mono (by decide) (by decide)⟩
      show Q0 Z i0 i1 i2 i3 h0 n0 _ T112.heap _
      rw [e112]
      exact ⟨rfl, N112⟩
    · obtain ⟨_, _, ⟨T117, L117, kk117, nn117⟩, -, X117, ⟨Lc117, hQ117, l117, y117, z117⟩, st117⟩ := Jvm.LawKit.callS X111 hx (y := (⟨"com/example/cued/cued/Bench", "percentile", "([JI)J"⟩ : MethodName)) hown (mvT hZ (hw _ (List.mem_of_getElem? (i := 3) rfl))) (mvT hZ (hw _ (List.mem_of_getElem? (i := 4) rfl))) (mvT hZ (hw _ (List.mem_of_getElem? (i := 5) rfl))) (mvT hZ (hw _ (List.mem_of_getElem? (i := 6) rfl))) (by decide) (backOf (W := 0) (rm1 l Z a0 hw [] b106 uu k106 (5 : Int32) [(.long v0), (.long v1), (.long v2), (.long v3), (.long v4)] v1 h111 n0 Z111 V111 (by decide) huu (by rw [hj]; rfl)) hZ (hw _ (List.mem_of_getElem? (i := 6) rfl)) (hw _ (List.mem_of_getElem? (i := 5) rfl)) (by decide) (by decide)) (g := (mkF m 421 #[.val (.long i0), .second, .val (.long i1), .second, .val (.int i2), .val (.int i3), .val (.int (5 : Int32)), .val (.int uu), .val (.long v0), .second, .val (.long v1), .second, .val (.long v2), .second, .val (.long v3), .second, .val (.long v4), .second, .val (.long v5), .second, .val (.long v6), .second, .val (.long v7), .second, .val (.ref b106), .unset, .unset, .unset, .unset, .unset] [(.int uu), (.ref b106)])) rfl (by rw [hml]; rfl) (argsL := [(.ref b106), (.int uu)]) (rest := []) (lenOf pd_1 rfl) rfl (by show 2 * 0 + _ ≤ _; exact Nat.le_of_eq rfl) (hb hby at_421) (fun _ _ => ⟨rfl, e111, (by decide : 1 + 0 ≤ _), (by decide : 5 + 0 ≤ _)⟩)
      dsimp only [Pt.U, Pt.locs, Pt.cells, Pt.slots] at X117 l117 y117 z117 st117 hQ117
      subst l117 y117 z117
      obtain ⟨rfl, N117q, e117⟩ := hQ117
      have N117 := Fr.app N111 N117q
      replace G : Gets p e below _ (T117.setTop (mkF m 424 #[.val (.long i0), .second, .val (.long i1), .second, .val (.int i2), .val (.int i3), .val (.int (5 : Int32)), .val (.int uu), .val (.long v0), .second, .val (.long v1), .second, .val (.long v2), .second, .val (.long v3), .second, .val (.long v4), .second, .val (.long v5), .second, .val (.long v6), .second, .val (.long v7), .second, .val (.ref b106), .unset, .unset, .unset, .unset, .unset] [(.long v1)])) := fun t k => G t (st117 t k)
      replace G := own_lstore (q := 426) (l' := #[.val (.long i0), .second, .val (.long i1), .second, .val (.int i2), .val (.int i3), .val (.int (5 : Int32)), .val (.int uu), .val (.long v0), .second, .val (.long v1), .second, .val (.long v2), .second, .val (.long v3), .second, .val (.long v4), .second, .val (.long v5), .second, .val (.long v6), .second, .val (.long v7), .second, .val (.ref b106), .val (.long v1), .second, .unset, .unset, .unset]) G X117.here hx (hb hby at_424) rfl rfl
      replace G := own_iconst (q := 427) G X117.here hx (hb hby at_426) (v := (-1 : Int32)) (by decide) rfl
      replace G := own_istore (q := 429) (l' := #[.val (.long i0), .second, .val (.long i1), .second, .val (.int i2), .val (.int i3), .val (.int (5 : Int32)), .val (.int uu), .val (.long v0), .second, .val (.long v1), .second, .val (.long v2), .second, .val (.long v3), .second, .val (.long v4), .second, .val (.long v5), .second, .val (.long v6), .second, .val (.long v7), .second, .val (.ref b106), .val (.long v1), .second, .val (.int (-1 : Int32)), .unset, .unset]) G X117.here hx (hb hby at_427) rfl rfl
      replace G := own_lload (q := 431) G X117.here hx (hb hby at_429) rfl rfl
      replace G := own_lload (q := 433) G X117.here hx (hb hby at_431) rfl rfl
      replace G := own_lcmp (q := 434) G X117.here hx (hb hby at_433) rfl
      have hc434_118 : ¬ (v1 = v0) := fun z => by have := congrArg Int64.toInt z; omega
      replace G := own_ifYes (q := 443) G X117.here hx (hb hby at_434) ((if0 _ _).trans (feq (fun z => hc434_118 ((lw_eq _ _).mp z))).2) (by decide) (by decide)
      replace G := own_iload (q := 445) G X117.here hx (hb hby at_443) rfl rfl
      replace G := own_iconst (q := 446) G X117.here hx (hb hby at_445) (v := (1 : Int32)) (by decide) rfl
      have hc446_119 : (1 : Int32) < (5 : Int32) := by decide
      replace G := own_icmpNo (q := 449) G X117.here hx (hb hby at_446) (tlt hc446_119).2.2.2 rfl
      replace G := own_lload (q := 451) G X117.here hx (hb hby at_449) rfl rfl
      replace G := own_lload (q := 453) G X117.here hx (hb hby at_451) rfl rfl
      replace G := own_lcmp (q := 454) G X117.here hx (hb hby at_453) rfl
      have hc454_120 : v1 = v1 := rfl
      replace G := own_ifNo (q := 457) G X117.here hx (hb hby at_454) ((if0 _ _).trans (teq ((lw_eq _ _).mpr hc454_120)).2) rfl
      replace G := own_iconst (q := 458) G X117.here hx (hb hby at_457) (v := (1 : Int32)) (by decide) rfl
      replace G := own_istore (q := 460) (l' := #[.val (.long i0), .second, .val (.long i1), .second, .val (.int i2), .val (.int i3), .val (.int (5 : Int32)), .val (.int uu), .val (.long v0), .second, .val (.long v1), .second, .val (.long v2), .second, .val (.long v3), .second, .val (.long v4), .second, .val (.long v5), .second, .val (.long v6), .second, .val (.long v7), .second, .val (.ref b106), .val (.long v1), .second, .val (.int (1 : Int32)), .unset, .unset]) G X117.here hx (hb hby at_458) rfl rfl
      replace G := own_goto (q := 584) G X117.here hx (hb hby at_460) (by decide) (by decide)
      replace G := own_iload (q := 586) G X117.here hx (hb hby at_584) rfl rfl
      have hc586_121 : ¬ ((1 : Int32) < (0 : Int32)) := by decide
      replace G := own_ifYes (q := 591) G X117.here hx (hb hby at_586) ((if0 _ _).trans (flt hc586_121).2.1) (by decide) (by decide)
      replace G := own_iload (q := 593) G X117.here hx (hb hby at_591) rfl rfl
      replace G := own_i2l (q := 594) G X117.here hx (hb hby at_593) rfl rfl
      replace G := own_iload (q := 596) G X117.here hx (hb hby at_594) rfl rfl
      replace G := own_i2l (q := 597) G X117.here hx (hb hby at_596) (by decide : ((5 : Int32).toInt64) = (5 : Int64)) rfl
      replace G := own_lmul (q := 598) G X117.here hx (hb hby at_597) rfl rfl
      replace G := own_lstore (q := 600) (l' := #[.val (.long i0), .second, .val (.long i1), .second, .val (.int i2), .val (.int i3), .val (.int (5 : Int32)), .val (.int uu), .val (.long v0), .second, .val (.long v1), .second, .val (.long v2), .second, .val (.long v3), .second, .val (.long v4), .second, .val (.long v5), .second, .val (.long v6), .second, .val (.long v7), .second, .val (.ref b106), .val (.long v1), .second, .val (.int (1 : Int32)), .val (.long ((uu.toInt64) * (5 : Int64))), .second]) G X117.here hx (hb hby at_598) rfl rfl
      replace G := own_iload (q := 602) G X117.here hx (hb hby at_600) rfl rfl
      replace G := own_iconst (q := 603) G X117.here hx (hb hby at_602) (v := (1 : Int32)) (by decide) rfl
      replace G := own_iadd (q := 604) G X117.here hx (hb hby at_603) (by decide : ((1 : Int32) + (1 : Int32)) = (2 : Int32)) rfl
      replace G := own_i2l (q := 605) G X117.here hx (hb hby at_604) (by decide : ((2 : Int32).toInt64) = (2 : Int64)) rfl
      replace G : Gets p e below _ (T117.setTop (mkF m 608 #[.val (.long i0), .second, .val (.long i1), .second, .val (.int i2), .val (.int i3), .val (.int (5 : Int32)), .val (.int uu), .val (.long v0), .second, .val (.long v1), .second, .val (.long v2), .second, .val (.long v3), .second, .val (.long v4), .second, .val (.long v5), .second, .val (.long v6), .second, .val (.long v7), .second, .val (.ref b106), .val (.long v1), .second, .val (.int (1 : Int32)), .val (.long ((uu.toInt64) * (5 : Int64))), .second] [(.long (100 : Int64)), (.long (2 : Int64))])) := fun t k => G t (X117.ldc2Long hx hown (mvT hZ (hw _ (List.mem_of_getElem? (i := 13) rfl))) (g := (mkF m 605 #[.val (.long i0), .second, .val (.long i1), .second, .val (.int i2), .val (.int i3), .val (.int (5 : Int32)), .val (.int uu), .val (.long v0), .second, .val (.long v1), .second, .val (.long v2), .second, .val (.long v3), .second, .val (.long v4), .second, .val (.long v5), .second, .val (.long v6), .second, .val (.long v7), .second, .val (.ref b106), .val (.long v1), .second, .val (.int (1 : Int32)), .val (.long ((uu.toInt64) * (5 : Int64))), .second] [(.long (2 : Int64))])) rfl (hb hby at_605) t k)
      replace G := own_lmul (q := 609) G X117.here hx (hb hby at_608) (by decide : ((2 : Int64) * (100 : Int64)) = (200 : Int64)) rfl
      replace G := own_lload (q := 611) G X117.here hx (hb hby at_609) rfl rfl
      replace G := own_lcmp (q := 612) G X117.here hx (hb hby at_611) rfl
      have hc612_122 : ¬ ((200 : Int64) < ((uu.toInt64) * (5 : Int64))) := by
        rw [hj, show (1 : Int32).toInt = 1 from rfl] at sp
        have A := c_lmul uu.toInt64 5
        rw [c_i2l, show (5 : Int64).toInt = 5 from rfl] at A
        have RA := rng64 (uu.toInt64 * 5)
        have hB : 0 ≤ uu.toInt * 5 ∧ uu.toInt * 5 ≤ 800 := by omega
        have e : (uu.toInt64 * 5).toInt = uu.toInt * 5 := by
          generalize uu.toInt * 5 = P at A hB ⊢
          omega
        rw [own_ltL, e, show (200 : Int64).toInt = 200 from rfl]
        omega
      replace G := own_ifNo (q := 615) G X117.here hx (hb hby at_612) ((if0 _ _).trans (flt (fun z => hc612_122 ((lw_lt _ _).mp z))).1) rfl
      replace G := own_iload (q := 617) G X117.here hx (hb hby at_615) rfl rfl
      have hc617_123 : ¬ ((1 : Int32) = (0 : Int32)) := by decide
      replace G := own_ifNo (q := 620) G X117.here hx (hb hby at_617) ((if0 _ _).trans (feq hc617_123).1) rfl
      replace G := own_iload (q := 622) G X117.here hx (hb hby at_620) rfl rfl
      replace G := own_i2l (q := 623) G X117.here hx (hb hby at_622) (by decide : ((1 : Int32).toInt64) = (1 : Int64)) rfl
      replace G : Gets p e below _ (T117.setTop (mkF m 626 #[.val (.long i0), .second, .val (.long i1), .second, .val (.int i2), .val (.int i3), .val (.int (5 : Int32)), .val (.int uu), .val (.long v0), .second, .val (.long v1), .second, .val (.long v2), .second, .val (.long v3), .second, .val (.long v4), .second, .val (.long v5), .second, .val (.long v6), .second, .val (.long v7), .second, .val (.ref b106), .val (.long v1), .second, .val (.int (1 : Int32)), .val (.long ((uu.toInt64) * (5 : Int64))), .second] [(.long (100 : Int64)), (.long (1 : Int64))])) := fun t k => G t (X117.ldc2Long hx hown (mvT hZ (hw _ (List.mem_of_getElem? (i := 13) rfl))) (g := (mkF m 623 #[.val (.long i0), .second, .val (.long i1), .second, .val (.int i2), .val (.int i3), .val (.int (5 : Int32)), .val (.int uu), .val (.long v0), .second, .val (.long v1), .second, .val (.long v2), .second, .val (.long v3), .second, .val (.long v4), .second, .val (.long v5), .second, .val (.long v6), .second, .val (.long v7), .second, .val (.ref b106), .val (.long v1), .second, .val (.int (1 : Int32)), .val (.long ((uu.toInt64) * (5 : Int64))), .second] [(.long (1 : Int64))])) rfl (hb hby at_623) t k)
      replace G := own_lmul (q := 627) G X117.here hx (hb hby at_626) (by decide : ((1 : Int64) * (100 : Int64)) = (100 : Int64)) rfl
      replace G := own_lload (q := 629) G X117.here hx (hb hby at_627) rfl rfl
      replace G := own_lcmp (q := 630) G X117.here hx (hb hby at_629) rfl
      have hc630_124 : (100 : Int64) < ((uu.toInt64) * (5 : Int64)) := by
        rw [hj, show (1 : Int32).toInt = 1 from rfl] at sp
        have A := c_lmul uu.toInt64 5
        rw [c_i2l, show (5 : Int64).toInt = 5 from rfl] at A
        have RA := rng64 (uu.toInt64 * 5)
        have hB : 0 ≤ uu.toInt * 5 ∧ uu.toInt * 5 ≤ 800 := by omega
        have e : (uu.toInt64 * 5).toInt = uu.toInt * 5 := by
          generalize uu.toInt * 5 = P at A hB ⊢
          omega
        rw [own_ltL, e, show (100 : Int64).toInt = 100 from rfl]
        omega
      replace G := own_ifNo (q := 633) G X117.here hx (hb hby at_630) ((if0 _ _).trans (tlt ((lw_lt _ _).mpr hc630_124)).2.1) rfl
      replace G := own_iconst (q := 634) G X117.here hx (hb hby at_633) (v := (1 : Int32)) (by decide) rfl
      replace G := own_goto (q := 638) G X117.here hx (hb hby at_634) (by decide) (by decide)
      obtain ⟨fs, hr, hrun, hended, hW, hsame⟩ := X117.leave (v := some (.int (1 : Int32))) (fun h => by rw [Bd.returns] at h; cases h)
      refine ⟨_, _, G _ (retOut X117 hx Bd.returns rfl (Or.inl ⟨rfl, Or.inr (Or.inl rfl), _, rfl⟩) (hb hby at_638) hr), hrun, hended, _, _, rfl, ?_, ⟨_, rfl⟩, hW, hsame.mono (by decide) (by decide)⟩
      show Q0 Z i0 i1 i2 i3 h0 n0 _ T117.heap _
      rw [e117]
      exact ⟨rfl, N117⟩
    · obtain ⟨_, _, ⟨T125, L125, kk125, nn125⟩, -, X125, ⟨Lc125, hQ125, l125, y125, z125⟩, st125⟩ := Jvm.LawKit.callS X111 hx (y := (⟨"com/example/cued/cued/Bench", "percentile", "([JI)J"⟩ : MethodName)) hown (mvT hZ (hw _ (List.mem_of_getElem? (i := 3) rfl))) (mvT hZ (hw _ (List.mem_of_getElem? (i := 4) rfl))) (mvT hZ (hw _ (List.mem_of_getElem? (i := 5) rfl))) (mvT hZ (hw _ (List.mem_of_getElem? (i := 6) rfl))) (by decide) (backOf (W := 0) (rm1 l Z a0 hw [] b106 uu k106 (5 : Int32) [(.long v0), (.long v1), (.long v2), (.long v3), (.long v4)] v2 h111 n0 Z111 V111 (by decide) huu (by rw [hj]; rfl)) hZ (hw _ (List.mem_of_getElem? (i := 6) rfl)) (hw _ (List.mem_of_getElem? (i := 5) rfl)) (by decide) (by decide)) (g := (mkF m 421 #[.val (.long i0), .second, .val (.long i1), .second, .val (.int i2), .val (.int i3), .val (.int (5 : Int32)), .val (.int uu), .val (.long v0), .second, .val (.long v1), .second, .val (.long v2), .second, .val (.long v3), .second, .val (.long v4), .second, .val (.long v5), .second, .val (.long v6), .second, .val (.long v7), .second, .val (.ref b106), .unset, .unset, .unset, .unset, .unset] [(.int uu), (.ref b106)])) rfl (by rw [hml]; rfl) (argsL := [(.ref b106), (.int uu)]) (rest := []) (lenOf pd_1 rfl) rfl (by show 2 * 0 + _ ≤ _; exact Nat.le_of_eq rfl) (hb hby at_421) (fun _ _ => ⟨rfl, e111, (by decide : 1 + 0 ≤ _), (by decide : 5 + 0 ≤ _)⟩)
      dsimp only [Pt.U, Pt.locs, Pt.cells, Pt.slots] at X125 l125 y125 z125 st125 hQ125
      subst l125 y125 z125
      obtain ⟨rfl, N125q, e125⟩ := hQ125
      have N125 := Fr.app N111 N125q
      replace G : Gets p e below _ (T125.setTop (mkF m 424 #[.val (.long i0), .second, .val (.long i1), .second, .val (.int i2), .val (.int i3), .val (.int (5 : Int32)), .val (.int uu), .val (.long v0), .second, .val (.long v1), .second, .val (.long v2), .second, .val (.long v3), .second, .val (.long v4), .second, .val (.long v5), .second, .val (.long v6), .second, .val (.long v7), .second, .val (.ref b106), .unset, .unset, .unset, .unset, .unset] [(.long v2)])) := fun t k => G t (st125 t k)
      replace G := own_lstore (q := 426) (l' := #[.val (.long i0), .second, .val (.long i1), .second, .val (.int i2), .val (.int i3), .val (.int (5 : Int32)), .val (.int uu), .val (.long v0), .second, .val (.long v1), .second, .val (.long v2), .second, .val (.long v3), .second, .val (.long v4), .second, .val (.long v5), .second, .val (.long v6), .second, .val (.long v7), .second, .val (.ref b106), .val (.long v2), .second, .unset, .unset, .unset]) G X125.here hx (hb hby at_424) rfl rfl
      replace G := own_iconst (q := 427) G X125.here hx (hb hby at_426) (v := (-1 : Int32)) (by decide) rfl
      replace G := own_istore (q := 429) (l' := #[.val (.long i0), .second, .val (.long i1), .second, .val (.int i2), .val (.int i3), .val (.int (5 : Int32)), .val (.int uu), .val (.long v0), .second, .val (.long v1), .second, .val (.long v2), .second, .val (.long v3), .second, .val (.long v4), .second, .val (.long v5), .second, .val (.long v6), .second, .val (.long v7), .second, .val (.ref b106), .val (.long v2), .second, .val (.int (-1 : Int32)), .unset, .unset]) G X125.here hx (hb hby at_427) rfl rfl
      replace G := own_lload (q := 431) G X125.here hx (hb hby at_429) rfl rfl
      replace G := own_lload (q := 433) G X125.here hx (hb hby at_431) rfl rfl
      replace G := own_lcmp (q := 434) G X125.here hx (hb hby at_433) rfl
      have hc434_126 : ¬ (v2 = v0) := fun z => by have := congrArg Int64.toInt z; omega
      replace G := own_ifYes (q := 443) G X125.here hx (hb hby at_434) ((if0 _ _).trans (feq (fun z => hc434_126 ((lw_eq _ _).mp z))).2) (by decide) (by decide)
      replace G := own_iload (q := 445) G X125.here hx (hb hby at_443) rfl rfl
      replace G := own_iconst (q := 446) G X125.here hx (hb hby at_445) (v := (1 : Int32)) (by decide) rfl
      have hc446_127 : (1 : Int32) < (5 : Int32) := by decide
      replace G := own_icmpNo (q := 449) G X125.here hx (hb hby at_446) (tlt hc446_127).2.2.2 rfl
      replace G := own_lload (q := 451) G X125.here hx (hb hby at_449) rfl rfl
      replace G := own_lload (q := 453) G X125.here hx (hb hby at_451) rfl rfl
      replace G := own_lcmp (q := 454) G X125.here hx (hb hby at_453) rfl
      have hc454_128 : ¬ (v2 = v1) := fun z => by have := congrArg Int64.toInt z; omega
      replace G := own_ifYes (q := 463) G X125.here hx (hb hby at_454) ((if0 _ _).trans (feq (fun z => hc454_128 ((lw_eq _ _).mp z))).2) (by decide) (by decide)
      replace G := own_iload (q := 465) G X125.here hx (hb hby at_463) rfl rfl
      replace G := own_iconst (q := 466) G X125.here hx (hb hby at_465) (v := (2 : Int32)) (by decide) rfl
      have hc466_129 : (2 : Int32) < (5 : Int32) := by decide
      replace G := own_icmpNo (q := 469) G X125.here hx (hb hby at_466) (tlt hc466_129).2.2.2 rfl
      replace G := own_lload (q := 471) G X125.here hx (hb hby at_469) rfl rfl
      replace G := own_lload (q := 473) G X125.here hx (hb hby at_471) rfl rfl
      replace G := own_lcmp (q := 474) G X125.here hx (hb hby at_473) rfl
      have hc474_130 : v2 = v2 := rfl
      replace G := own_ifNo (q := 477) G X125.here hx (hb hby at_474) ((if0 _ _).trans (teq ((lw_eq _ _).mpr hc474_130)).2) rfl
      replace G := own_iconst (q := 478) G X125.here hx (hb hby at_477) (v := (2 : Int32)) (by decide) rfl
      replace G := own_istore (q := 480) (l' := #[.val (.long i0), .second, .val (.long i1), .second, .val (.int i2), .val (.int i3), .val (.int (5 : Int32)), .val (.int uu), .val (.long v0), .second, .val (.long v1), .second, .val (.long v2), .second, .val (.long v3), .second, .val (.long v4), .second, .val (.long v5), .second, .val (.long v6), .second, .val (.long v7), .second, .val (.ref b106), .val (.long v2), .second, .val (.int (2 : Int32)), .unset, .unset]) G X125.here hx (hb hby at_478) rfl rfl
      replace G := own_goto (q := 584) G X125.here hx (hb hby at_480) (by decide) (by decide)
      replace G := own_iload (q := 586) G X125.here hx (hb hby at_584) rfl rfl
      have hc586_131 : ¬ ((2 : Int32) < (0 : Int32)) := by decide
      replace G := own_ifYes (q := 591) G X125.here hx (hb hby at_586) ((if0 _ _).trans (flt hc586_131).2.1) (by decide) (by decide)
      replace G := own_iload (q := 593) G X125.here hx (hb hby at_591) rfl rfl
      replace G := own_i2l (q := 594) G X125.here hx (hb hby at_593) rfl rfl
      replace G := own_iload (q := 596) G X125.here hx (hb hby at_594) rfl rfl
      replace G := own_i2l (q := 597) G X125.here hx (hb hby at_596) (by decide : ((5 : Int32).toInt64) = (5 : Int64)) rfl
      replace G := own_lmul (q := 598) G X125.here hx (hb hby at_597) rfl rfl
      replace G := own_lstore (q := 600) (l' := #[.val (.long i0), .second, .val (.long i1), .second, .val (.int i2), .val (.int i3), .val (.int (5 : Int32)), .val (.int uu), .val (.long v0), .second, .val (.long v1), .second, .val (.long v2), .second, .val (.long v3), .second, .val (.long v4), .second, .val (.long v5), .second, .val (.long v6), .second, .val (.long v7), .second, .val (.ref b106), .val (.long v2), .second, .val (.int (2 : Int32)), .val (.long ((uu.toInt64) * (5 : Int64))), .second]) G X125.here hx (hb hby at_598) rfl rfl
      replace G := own_iload (q := 602) G X125.here hx (hb hby at_600) rfl rfl
      replace G := own_iconst (q := 603) G X125.here hx (hb hby at_602) (v := (1 : Int32)) (by decide) rfl
      replace G := own_iadd (q := 604) G X125.here hx (hb hby at_603) (by decide : ((2 : Int32) + (1 : Int32)) = (3 : Int32)) rfl
      replace G := own_i2l (q := 605) G X125.here hx (hb hby at_604) (by decide : ((3 : Int32).toInt64) = (3 : Int64)) rfl
      replace G : Gets p e below _ (T125.setTop (mkF m 608 #[.val (.long i0), .second, .val (.long i1), .second, .val (.int i2), .val (.int i3), .val (.int (5 : Int32)), .val (.int uu), .val (.long v0), .second, .val (.long v1), .second, .val (.long v2), .second, .val (.long v3), .second, .val (.long v4), .second, .val (.long v5), .second, .val (.long v6), .second, .val (.long v7), .second, .val (.ref b106), .val (.long v2), .second, .val (.int (2 : Int32)), .val (.long ((uu.toInt64) * (5 : Int64))), .second] [(.long (100 : Int64)), (.long (3 : Int64))])) := fun t k => G t (X125.ldc2Long hx hown (mvT hZ (hw _ (List.mem_of_getElem? (i := 13) rfl))) (g := (mkF m 605 #[.val (.long i0), .second, .val (.long i1), .second, .val (.int i2), .val (.int i3), .val (.int (5 : Int32)), .val (.int uu), .val (.long v0), .second, .val (.long v1), .second, .val (.long v2), .second, .val (.long v3), .second, .val (.long v4), .second, .val (.long v5), .second, .val (.long v6), .second, .val (.long v7), .second, .val (.ref b106), .val (.long v2), .second, .val (.int (2 : Int32)), .val (.long ((uu.toInt64) * (5 : Int64))), .second] [(.long (3 : Int64))])) rfl (hb hby at_605) t k)
      replace G := own_lmul (q := 609) G X125.here hx (hb hby at_608) (by decide : ((3 : Int64) * (100 : Int64)) = (300 : Int64)) rfl
      replace G := own_lload (q := 611) G X125.here hx (hb hby at_609) rfl rfl
      replace G := own_lcmp (q := 612) G X125.here hx (hb hby at_611) rfl
      have hc612_132 : ¬ ((300 : Int64) < ((uu.toInt64) * (5 : Int64))) := by
        rw [hj, show (2 : Int32).toInt = 2 from rfl] at sp
        have A := c_lmul uu.toInt64 5
        rw [c_i2l, show (5 : Int64).toInt = 5 from rfl] at A
        have RA := rng64 (uu.toInt64 * 5)
        have hB : 0 ≤ uu.toInt * 5 ∧ uu.toInt * 5 ≤ 800 := by omega
        have e : (uu.toInt64 * 5).toInt = uu.toInt * 5 := by
          generalize uu.toInt * 5 = P at A hB ⊢
          omega
        rw [own_ltL, e, show (300 : Int64).toInt = 300 from rfl]
        omega
      replace G := own_ifNo (q := 615) G X125.here hx (hb hby at_612) ((if0 _ _).trans (flt (fun z => hc612_132 ((lw_lt _ _).mp z))).1) rfl
      replace G := own_iload (q := 617) G X125.here hx (hb hby at_615) rfl rfl
      have hc617_133 : ¬ ((2 : Int32) = (0 : Int32)) := by decide
      replace G := own_ifNo (q := 620) G X125.here hx (hb hby at_617) ((if0 _ _).trans (feq hc617_133).1) rfl
      replace G := own_iload (q := 622) G X125.here hx (hb hby at_620) rfl rfl
      replace G := own_i2l (q := 623) G X125.here hx (hb hby at_622) (by decide : ((2 : Int32).toInt64) = (2 : Int64)) rfl
      replace G : Gets p e below _ (T125.setTop (mkF m 626 #[.val (.long i0), .second, .val (.long i1), .second, .val (.int i2), .val (.int i3), .val (.int (5 : Int32)), .val (.int uu), .val (.long v0), .second, .val (.long v1), .second, .val (.long v2), .second, .val (.long v3), .second, .val (.long v4), .second, .val (.long v5), .second, .val (.long v6), .second, .val (.long v7), .second, .val (.ref b106), .val (.long v2), .second, .val (.int (2 : Int32)), .val (.long ((uu.toInt64) * (5 : Int64))), .second] [(.long (100 : Int64)), (.long (2 : Int64))])) := fun t k => G t (X125.ldc2Long hx hown (mvT hZ (hw _ (List.mem_of_getElem? (i := 13) rfl))) (g := (mkF m 623 #[.val (.long i0), .second, .val (.long i1), .second, .val (.int i2), .val (.int i3), .val (.int (5 : Int32)), .val (.int uu), .val (.long v0), .second, .val (.long v1), .second, .val (.long v2), .second, .val (.long v3), .second, .val (.long v4), .second, .val (.long v5), .second, .val (.long v6), .second, .val (.long v7), .second, .val (.ref b106), .val (.long v2), .second, .val (.int (2 : Int32)), .val (.long ((uu.toInt64) * (5 : Int64))), .second] [(.long (2 : Int64))])) rfl (hb hby at_623) t k)
      replace G := own_lmul (q := 627) G X125.here hx (hb hby at_626) (by decide : ((2 : Int64) * (100 : Int64)) = (200 : Int64)) rfl
      replace G := own_lload (q := 629) G X125.here hx (hb hby at_627) rfl rfl
      replace G := own_lcmp (q := 630) G X125.here hx (hb hby at_629) rfl
      have hc630_134 : (200 : Int64) < ((uu.toInt64) * (5 : Int64)) := by
        rw [hj, show (2 : Int32).toInt = 2 from rfl] at sp
        have A := c_lmul uu.toInt64 5
        rw [c_i2l, show (5 : Int64).toInt = 5 from rfl] at A
        have RA := rng64 (uu.toInt64 * 5)
        have hB : 0 ≤ uu.toInt * 5 ∧ uu.toInt * 5 ≤ 800 := by omega
        have e : (uu.toInt64 * 5).toInt = uu.toInt * 5 := by
          generalize uu.toInt * 5 = P at A hB ⊢
          omega
        rw [own_ltL, e, show (200 : Int64).toInt = 200 from rfl]
        omega
      replace G := own_ifNo (q := 633) G X125.here hx (hb hby at_630) ((if0 _ _).trans (tlt ((lw_lt _ _).mpr hc630_134)).2.1) rfl
      replace G := own_iconst (q := 634) G X125.here hx (hb hby at_633) (v := (1 : Int32)) (by decide) rfl
      replace G := own_goto (q := 638) G X125.here hx (hb hby at_634) (by decide) (by decide)
      obtain ⟨fs, hr, hrun, hended, hW, hsame⟩ := X125.leave (v := some (.int (1 : Int32))) (fun h => by rw [Bd.returns] at h; cases h)
      refine ⟨_, _, G _ (retOut X125 hx Bd.returns rfl (Or.inl ⟨rfl, Or.inr (Or.inl rfl), _, rfl⟩) (hb hby at_638) hr), hrun, hended, _, _, rfl, ?_, ⟨_, rfl⟩, hW, hsame.mono (by decide) (by decide)⟩
      show Q0 Z i0 i1 i2 i3 h0 n0 _ T125.heap _
      rw [e125]
      exact ⟨rfl, N125⟩
    · obtain ⟨_, _, ⟨T135, L135, kk135, nn135⟩, -, X135, ⟨Lc135, hQ135, l135, y135, z135⟩, st135⟩ := Jvm.LawKit.callS X111 hx (y := (⟨"com/example/cued/cued/Bench", "percentile", "([JI)J"⟩ : MethodName)) hown (mvT hZ (hw _ (List.mem_of_getElem? (i := 3) rfl))) (mvT hZ (hw _ (List.mem_of_getElem? (i := 4) rfl))) (mvT hZ (hw _ (List.mem_of_getElem? (i := 5) rfl))) (mvT hZ (hw _ (List.mem_of_getElem? (i := 6) rfl))) (by decide) (backOf (W := 0) (rm1 l Z a0 hw [] b106 uu k106 (5 : Int32) [(.long v0), (.long v1), (.long v2), (.long v3), (.long v4)] v3 h111 n0 Z111 V111 (by decide) huu (by rw [hj]; rfl)) hZ (hw _ (List.mem_of_getElem? (i := 6) rfl)) (hw _ (List.mem_of_getElem? (i := 5) rfl)) (by decide) (by decide)) (g := (mkF m 421 #[.val (.long i0), .second, .val (.long i1), .second, .val (.int i2), .val (.int i3), .val (.int (5 : Int32)), .val (.int uu), .val (.long v0), .second, .val (.long v1), .second, .val (.long v2), .second, .val (.long v3), .second, .val (.long v4), .second, .val (.long v5), .second, .val (.long v6), .second, .val (.long v7), .second, .val (.ref b106), .unset, .unset, .unset, .unset, .unset] [(.int uu), (.ref b106)])) rfl (by rw [hml]; rfl) (argsL := [(.ref b106), (.int uu)]) (rest := []) (lenOf pd_1 rfl) rfl (by show 2 * 0 + _ ≤ _; exact Nat.le_of_eq rfl) (hb hby at_421) (fun _ _ => ⟨rfl, e111, (by decide : 1 + 0 ≤ _), (by decide : 5 + 0 ≤ _)⟩)
      dsimp only [Pt.U, Pt.locs, Pt.cells, Pt.slots] at X135 l135 y135 z135 st135 hQ135
      subst l135 y135 z135
      obtain ⟨rfl, N135q, e135⟩ := hQ135
      have N135 := Fr.app N111 N135q
      replace G : Gets p e below _ (T135.setTop (mkF m 424 #[.val (.long i0), .second, .val (.long i1), .second, .val (.int i2), .val (.int i3), .val (.int (5 : Int32)), .val (.int uu), .val (.long v0), .second, .val (.long v1), .second, .val (.long v2), .second, .val (.long v3), .second, .val (.long v4), .second, .val (.long v5), .second, .val (.long v6), .second, .val (.long v7), .second, .val (.ref b106), .unset, .unset, .unset, .unset, .unset] [(.long v3)])) := fun t k => G t (st135 t k)
      replace G := own_lstore (q := 426) (l' := #[.val (.long i0), .second, .val (.long i1), .second, .val (.int i2), .val (.int i3), .val (.int (5 : Int32)), .val (.int uu), .val (.long v0), .second, .val (.long v1), .second, .val (.long v2), .second, .val (.long v3), .second, .val (.long v4), .second, .val (.long v5), .second, .val (.long v6), .second, .val (.long v7), .second, .val (.ref b106), .val (.long v3), .second, .unset, .unset, .unset]) G X135.here hx (hb hby at_424) rfl rfl
      replace G := own_iconst (q := 427) G X135.here hx (hb hby at_426) (v := (-1 : Int32)) (by decide) rfl
      replace G := own_istore (q := 429) (l' := #[.val (.long i0), .second, .val (.long i1), .second, .val (.int i2), .val (.int i3), .val (.int (5 : Int32)), .val (.int uu), .val (.long v0), .second, .val (.long v1), .second, .val (.long v2), .second, .val (.long v3), .second, .val (.long v4), .second, .val (.long v5), .second, .val (.long v6), .second, .val (.long v7), .second, .val (.ref b106), .val (.long v3), .second, .val (.int (-1 : Int32)), .unset, .unset]) G X135.here hx (hb hby at_427) rfl rfl
      replace G := own_lload (q := 431) G X135.here hx (hb hby at_429) rfl rfl
      replace G := own_lload (q := 433) G X135.here hx (hb hby at_431) rfl rfl
      replace G := own_lcmp (q := 434) G X135.here hx (hb hby at_433) rfl
      have hc434_136 : ¬ (v3 = v0) := fun z => by have := congrArg Int64.toInt z; omega
      replace G := own_ifYes (q := 443) G X135.here hx (hb hby at_434) ((if0 _ _).trans (feq (fun z => hc434_136 ((lw_eq _ _).mp z))).2) (by decide) (by decide)
      replace G := own_iload (q := 445) G X135.here hx (hb hby at_443) rfl rfl
      replace G := own_iconst (q := 446) G X135.here hx (hb hby at_445) (v := (1 : Int32)) (by decide) rfl
      have hc446_137 : (1 : Int32) < (5 : Int32) := by decide
      replace G := own_icmpNo (q := 449) G X135.here hx (hb hby at_446) (tlt hc446_137).2.2.2 rfl
      replace G := own_lload (q := 451) G X135.here hx (hb hby at_449) rfl rfl
      replace G := own_lload (q := 453) G X135.here hx (hb hby at_451) rfl rfl
      replace G := own_lcmp (q := 454) G X135.here hx (hb hby at_453) rfl
      have hc454_138 : ¬ (v3 = v1) := fun z => by have := congrArg Int64.toInt z; omega
      replace G := own_ifYes (q := 463) G X135.here hx (hb hby at_454) ((if0 _ _).trans (feq (fun z => hc454_138 ((lw_eq _ _).mp z))).2) (by decide) (by decide)
      replace G := own_iload (q := 465) G X135.here hx (hb hby at_463) rfl rfl
      replace G := own_iconst (q := 466) G X135.here hx (hb hby at_465) (v := (2 : Int32)) (by decide) rfl
      have hc466_139 : (2 : Int32) < (5 : Int32) := by decide
      replace G := own_icmpNo (q := 469) G X135.here hx (hb hby at_466) (tlt hc466_139).2.2.2 rfl
      replace G := own_lload (q := 471) G X135.here hx (hb hby at_469) rfl rfl
      replace G := own_lload (q := 473) G X135.here hx (hb hby at_471) rfl rfl
      replace G := own_lcmp (q := 474) G X135.here hx (hb hby at_473) rfl
      have hc474_140 : ¬ (v3 = v2) := fun z => by have := congrArg Int64.toInt z; omega
      replace G := own_ifYes (q := 483) G X135.here hx (hb hby at_474) ((if0 _ _).trans (feq (fun z => hc474_140 ((lw_eq _ _).mp z))).2) (by decide) (by decide)
      replace G := own_iload (q := 485) G X135.here hx (hb hby at_483) rfl rfl
      replace G := own_iconst (q := 486) G X135.here hx (hb hby at_485) (v := (3 : Int32)) (by decide) rfl
      have hc486_141 : (3 : Int32) < (5 : Int32) := by decide
      replace G := own_icmpNo (q := 489) G X135.here hx (hb hby at_486) (tlt hc486_141).2.2.2 rfl
      replace G := own_lload (q := 491) G X135.here hx (hb hby at_489) rfl rfl
      replace G := own_lload (q := 493) G X135.here hx (hb hby at_491) rfl rfl
      replace G := own_lcmp (q := 494) G X135.here hx (hb hby at_493) rfl
      have hc494_142 : v3 = v3 := rfl
      replace G := own_ifNo (q := 497) G X135.here hx (hb hby at_494) ((if0 _ _).trans (teq ((lw_eq _ _).mpr hc494_142)).2) rfl
      replace G := own_iconst (q := 498) G X135.here hx (hb hby at_497) (v := (3 : Int32)) (by decide) rfl
      replace G := own_istore (q := 500) (l' := #[.val (.long i0), .second, .val (.long i1), .second, .val (.int i2), .val (.int i3), .val (.int (5 : Int32)), .val (.int uu), .val (.long v0), .second, .val (.long v1), .second, .val (.long v2), .second, .val (.long v3), .second, .val (.long v4), .second, .val (.long v5), .second, .val (.long v6), .second, .val (.long v7), .second, .val (.ref b106), .val (.long v3), .second, .val (.int (3 : Int32)), .unset, .unset]) G X135.here hx (hb hby at_498) rfl rfl
      replace G := own_goto (q := 584) G X135.here hx (hb hby at_500) (by decide) (by decide)
      replace G := own_iload (q := 586) G X135.here hx (hb hby at_584) rfl rfl
      have hc586_143 : ¬ ((3 : Int32) < (0 : Int32)) := by decide
      replace G := own_ifYes (q := 591) G X135.here hx (hb hby at_586) ((if0 _ _).trans (flt hc586_143).2.1) (by decide) (by decide)
      replace G := own_iload (q := 593) G X135.here hx (hb hby at_591) rfl rfl
      replace G := own_i2l (q := 594) G X135.here hx (hb hby at_593) rfl rfl
      replace G := own_iload (q := 596) G X135.here hx (hb hby at_594) rfl rfl
      replace G := own_i2l (q := 597) G X135.here hx (hb hby at_596) (by decide : ((5 : Int32).toInt64) = (5 : Int64)) rfl
      replace G := own_lmul (q := 598) G X135.here hx (hb hby at_597) rfl rfl
      replace G := own_lstore (q := 600) (l' := #[.val (.long i0), .second, .val (.long i1), .second, .val (.int i2), .val (.int i3), .val (.int (5 : Int32)), .val (.int uu), .val (.long v0), .second, .val (.long v1), .second, .val (.long v2), .second, .val (.long v3), .second, .val (.long v4), .second, .val (.long v5), .second, .val (.long v6), .second, .val (.long v7), .second, .val (.ref b106), .val (.long v3), .second, .val (.int (3 : Int32)), .val (.long ((uu.toInt64) * (5 : Int64))), .second]) G X135.here hx (hb hby at_598) rfl rfl
      replace G := own_iload (q := 602) G X135.here hx (hb hby at_600) rfl rfl
      replace G := own_iconst (q := 603) G X135.here hx (hb hby at_602) (v := (1 : Int32)) (by decide) rfl
      replace G := own_iadd (q := 604) G X135.here hx (hb hby at_603) (by decide : ((3 : Int32) + (1 : Int32)) = (4 : Int32)) rfl
      replace G := own_i2l (q := 605) G X135.here hx (hb hby at_604) (by decide : ((4 : Int32).toInt64) = (4 : Int64)) rfl
      replace G : Gets p e below _ (T135.setTop (mkF m 608 #[.val (.long i0), .second, .val (.long i1), .second, .val (.int i2), .val (.int i3), .val (.int (5 : Int32)), .val (.int uu), .val (.long v0), .second, .val (.long v1), .second, .val (.long v2), .second, .val (.long v3), .second, .val (.long v4), .second, .val (.long v5), .second, .val (.long v6), .second, .val (.long v7), .second, .val (.ref b106), .val (.long v3), .second, .val (.int (3 : Int32)), .val (.long ((uu.toInt64) * (5 : Int64))), .second] [(.long (100 : Int64)), (.long (4 : Int64))])) := fun t k => G t (X135.ldc2Long hx hown (mvT hZ (hw _ (List.mem_of_getElem? (i := 13) rfl))) (g := (mkF m 605 #[.val (.long i0), .second, .val (.long i1), .second, .val (.int i2), .val (.int i3), .val (.int (5 : Int32)), .val (.int uu), .val (.long v0), .second, .val (.long v1), .second, .val (.long v2), .second, .val (.long v3), .second, .val (.long v4), .second, .val (.long v5), .second, .val (.long v6), .second, .val (.long v7), .second, .val (.ref b106), .val (.long v3), .second, .val (.int (3 : Int32)), .val (.long ((uu.toInt64) * (5 : Int64))), .second] [(.long (4 : Int64))])) rfl (hb hby at_605) t k)
      replace G := own_lmul (q := 609) G X135.here hx (hb hby at_608) (by decide : ((4 : Int64) * (100 : Int64)) = (400 : Int64)) rfl
      replace G := own_lload (q := 611) G X135.here hx (hb hby at_609) rfl rfl
      replace G := own_lcmp (q := 612) G X135.here hx (hb hby at_611) rfl
      have hc612_144 : ¬ ((400 : Int64) < ((uu.toInt64) * (5 : Int64))) := by
        rw [hj, show (3 : Int32).toInt = 3 from rfl] at sp
        have A := c_lmul uu.toInt64 5
        rw [c_i2l, show (5 : Int64).toInt = 5 from rfl] at A
        have RA := rng64 (uu.toInt64 * 5)
        have hB : 0 ≤ uu.toInt * 5 ∧ uu.toInt * 5 ≤ 800 := by omega
        have e : (uu.toInt64 * 5).toInt = uu.toInt * 5 := by
          generalize uu.toInt * 5 = P at A hB ⊢
          omega
        rw [own_ltL, e, show (400 : Int64).toInt = 400 from rfl]
        omega
      replace G := own_ifNo (q := 615) G X135.here hx (hb hby at_612) ((if0 _ _).trans (flt (fun z => hc612_144 ((lw_lt _ _).mp z))).1) rfl
      replace G := own_iload (q := 617) G X135.here hx (hb hby at_615) rfl rfl
      have hc617_145 : ¬ ((3 : Int32) = (0 : Int32)) := by decide
      replace G := own_ifNo (q := 620) G X135.here hx (hb hby at_617) ((if0 _ _).trans (feq hc617_145).1) rfl
      replace G := own_iload (q := 622) G X135.here hx (hb hby at_620) rfl rfl
      replace G := own_i2l (q := 623) G X135.here hx (hb hby at_622) (by decide : ((3 : Int32).toInt64) = (3 : Int64)) rfl
      replace G : Gets p e below _ (T135.setTop (mkF m 626 #[.val (.long i0), .second, .val (.long i1), .second, .val (.int i2), .val (.int i3), .val (.int (5 : Int32)), .val (.int uu), .val (.long v0), .second, .val (.long v1), .second, .val (.long v2), .second, .val (.long v3), .second, .val (.long v4), .second, .val (.long v5), .second, .val (.long v6), .second, .val (.long v7), .second, .val (.ref b106), .val (.long v3), .second, .val (.int (3 : Int32)), .val (.long ((uu.toInt64) * (5 : Int64))), .second] [(.long (100 : Int64)), (.long (3 : Int64))])) := fun t k => G t (X135.ldc2Long hx hown (mvT hZ (hw _ (List.mem_of_getElem? (i := 13) rfl))) (g := (mkF m 623 #[.val (.long i0), .second, .val (.long i1), .second, .val (.int i2), .val (.int i3), .val (.int (5 : Int32)), .val (.int uu), .val (.long v0), .second, .val (.long v1), .second, .val (.long v2), .second, .val (.long v3), .second, .val (.long v4), .second, .val (.long v5), .second, .val (.long v6), .second, .val (.long v7), .second, .val (.ref b106), .val (.long v3), .second, .val (.int (3 : Int32)), .val (.long ((uu.toInt64) * (5 : Int64))), .second] [(.long (3 : Int64))])) rfl (hb hby at_623) t k)
      replace G := own_lmul (q := 627) G X135.here hx (hb hby at_626) (by decide : ((3 : Int64) * (100 : Int64)) = (300 : Int64)) rfl
      replace G := own_lload (q := 629) G X135.here hx (hb hby at_627) rfl rfl
      replace G := own_lcmp (q := 630) G X135.here hx (hb hby at_629) rfl
      have hc630_146 : (300 : Int64) < ((uu.toInt64) * (5 : Int64)) := by
        rw [hj, show (3 : Int32).toInt = 3 from rfl] at sp
        have A := c_lmul uu.toInt64 5
        rw [c_i2l, show (5 : Int64).toInt = 5 from rfl] at A
        have RA := rng64 (uu.toInt64 * 5)
        have hB : 0 ≤ uu.toInt * 5 ∧ uu.toInt * 5 ≤ 800 := by omega
        have e : (uu.toInt64 * 5).toInt = uu.toInt * 5 := by
          generalize uu.toInt * 5 = P at A hB ⊢
          omega
        rw [own_ltL, e, show (300 : Int64).toInt = 300 from rfl]
        omega
      replace G := own_ifNo (q := 633) G X135.here hx (hb hby at_630) ((if0 _ _).trans (tlt ((lw_lt _ _).mpr hc630_146)).2.1) rfl
      replace G := own_iconst (q := 634) G X135.here hx (hb hby at_633) (v := (1 : Int32)) (by decide) rfl
      replace G := own_goto (q := 638) G X135.here hx (hb hby at_634) (by decide) (by decide)
      obtain ⟨fs, hr, hrun, hended, hW, hsame⟩ := X135.leave (v := some (.int (1 : Int32))) (fun h => by rw [Bd.returns] at h; cases h)
      refine ⟨_, _, G _ (retOut X135 hx Bd.returns rfl (Or.inl ⟨rfl, Or.inr (Or.inl rfl), _, rfl⟩) (hb hby at_638) hr), hrun, hended, _, _, rfl, ?_, ⟨_, rfl⟩, hW, hsame.mono (by decide) (by decide)⟩
      show Q0 Z i0 i1 i2 i3 h0 n0 _ T135.heap _
      rw [e135]
      exact ⟨rfl, N135⟩
    · obtain ⟨_, _, ⟨T147, L147, kk147, nn147⟩, -, X147, ⟨Lc147, hQ147, l147, y147, z147⟩, st147⟩ := Jvm.LawKit.callS X111 hx (y := (⟨"com/example/cued/cued/Bench", "percentile", "([JI)J"⟩ : MethodName)) hown (mvT hZ (hw _ (List.mem_of_getElem? (i := 3) rfl))) (mvT hZ (hw _ (List.mem_of_getElem? (i := 4) rfl))) (mvT hZ (hw _ (List.mem_of_getElem? (i := 5) rfl))) (mvT hZ (hw _ (List.mem_of_getElem? (i := 6) rfl))) (by decide) (backOf (W := 0) (rm1 l Z a0 hw [] b106 uu k106 (5 : Int32) [(.long v0), (.long v1), (.long v2), (.long v3), (.long v4)] v4 h111 n0 Z111 V111 (by decide) huu (by rw [hj]; rfl)) hZ (hw _ (List.mem_of_getElem? (i := 6) rfl)) (hw _ (List.mem_of_getElem? (i := 5) rfl)) (by decide) (by decide)) (g := (mkF m 421 #[.val (.long i0), .second, .val (.long i1), .second, .val (.int i2), .val (.int i3), .val (.int (5 : Int32)), .val (.int uu), .val (.long v0), .second, .val (.long v1), .second, .val (.long v2), .second, .val (.long v3), .second, .val (.long v4), .second, .val (.long v5), .second, .val (.long v6), .second, .val (.long v7), .second, .val (.ref b106), .unset, .unset, .unset, .unset, .unset] [(.int uu), (.ref b106)])) rfl (by rw [hml]; rfl) (argsL := [(.ref b106), (.int uu)]) (rest := []) (lenOf pd_1 rfl) rfl (by show 2 * 0 + _ ≤ _; exact Nat.le_of_eq rfl) (hb hby at_421) (fun _ _ => ⟨rfl, e111, (by decide : 1 + 0 ≤ _), (by decide : 5 + 0 ≤ _)⟩)
      dsimp only [Pt.U, Pt.locs, Pt.cells, Pt.slots] at X147 l147 y147 z147 st147 hQ147
      subst l147 y147 z147
      obtain ⟨rfl, N147q, e147⟩ := hQ147
      have N147 := Fr.app N111 N147q
      replace G : Gets p e below _ (T147.setTop (mkF m 424 #[.val (.long i0), .second, .val (.long i1), .second, .val (.int i2), .val (.int i3), .val (.int (5 : Int32)), .val (.int uu), .val (.long v0), .second, .val (.long v1), .second, .val (.long v2), .second, .val (.long v3), .second, .val (.long v4), .second, .val (.long v5), .second, .val (.long v6), .second, .val (.long v7), .second, .val (.ref b106), .unset, .unset, .unset, .unset, .unset] [(.long v4)])) := fun t k => G t (st147 t k)
      replace G := own_lstore (q := 426) (l' := #[.val (.long i0), .second, .val (.long i1), .second, .val (.int i2), .val (.int i3), .val (.int (5 : Int32)), .val (.int uu), .val (.long v0), .second, .val (.long v1), .second, .val (.long v2), .second, .val (.long v3), .second, .val (.long v4), .second, .val (.long v5), .second, .val (.long v6), .second, .val (.long v7), .second, .val (.ref b106), .val (.long v4), .second, .unset, .unset, .unset]) G X147.here hx (hb hby at_424) rfl rfl
      replace G := own_iconst (q := 427) G X147.here hx (hb hby at_426) (v := (-1 : Int32)) (by decide) rfl
      replace G := own_istore (q := 429) (l' := #[.val (.long i0), .second, .val (.long i1), .second, .val (.int i2), .val (.int i3), .val (.int (5 : Int32)), .val (.int uu), .val (.long v0), .second, .val (.long v1), .second, .val (.long v2), .second, .val (.long v3), .second, .val (.long v4), .second, .val (.long v5), .second, .val (.long v6), .second, .val (.long v7), .second, .val (.ref b106), .val (.long v4), .second, .val (.int (-1 : Int32)), .unset, .unset]) G X147.here hx (hb hby at_427) rfl rfl
      replace G := own_lload (q := 431) G X147.here hx (hb hby at_429) rfl rfl
      replace G := own_lload (q := 433) G X147.here hx (hb hby at_431) rfl rfl
      replace G := own_lcmp (q := 434) G X147.here hx (hb hby at_433) rfl
      have hc434_148 : ¬ (v4 = v0) := fun z => by have := congrArg Int64.toInt z; omega
      replace G := own_ifYes (q := 443) G X147.here hx (hb hby at_434) ((if0 _ _).trans (feq (fun z => hc434_148 ((lw_eq _ _).mp z))).2) (by decide) (by decide)
      replace G := own_iload (q := 445) G X147.here hx (hb hby at_443) rfl rfl
      replace G := own_iconst (q := 446) G X147.here hx (hb hby at_445) (v := (1 : Int32)) (by decide) rfl
      have hc446_149 : (1 : Int32) < (5 : Int32) := by decide
      replace G := own_icmpNo (q := 449) G X147.here hx (hb hby at_446) (tlt hc446_149).2.2.2 rfl
      replace G := own_lload (q := 451) G X147.here hx (hb hby at_449) rfl rfl
      replace G := own_lload (q := 453) G X147.here hx (hb hby at_451) rfl rfl
      replace G := own_lcmp (q := 454) G X147.here hx (hb hby at_453) rfl
      have hc454_150 : ¬ (v4 = v1) := fun z => by have := congrArg Int64.toInt z; omega
      replace G := own_ifYes (q := 463) G X147.here hx (hb hby at_454) ((if0 _ _).trans (feq (fun z => hc454_150 ((lw_eq _ _).mp z))).2) (by decide) (by decide)
      replace G := own_iload (q := 465) G X147.here hx (hb hby at_463) rfl rfl
      replace G := own_iconst (q := 466) G X147.here hx (hb hby at_465) (v := (2 : Int32)) (by decide) rfl
      have hc466_151 : (2 : Int32) < (5 : Int32) := by decide
      replace G := own_icmpNo (q := 469) G X147.here hx (hb hby at_466) (tlt hc466_151).2.2.2 rfl
      replace G := own_lload (q := 471) G X147.here hx (hb hby at_469) rfl rfl
      replace G := own_lload (q := 473) G X147.here hx (hb hby at_471) rfl rfl
      replace G := own_lcmp (q := 474) G X147.here hx (hb hby at_473) rfl
      have hc474_152 : ¬ (v4 = v2) := fun z => by have := congrArg Int64.toInt z; omega
      replace G := own_ifYes (q := 483) G X147.here hx (hb hby at_474) ((if0 _ _).trans (feq (fun z => hc474_152 ((lw_eq _ _).mp z))).2) (by decide) (by decide)
      replace G := own_iload (q := 485) G X147.here hx (hb hby at_483) rfl rfl
      replace G := own_iconst (q := 486) G X147.here hx (hb hby at_485) (v := (3 : Int32)) (by decide) rfl
      have hc486_153 : (3 : Int32) < (5 : Int32) := by decide
      replace G := own_icmpNo (q := 489) G X147.here hx (hb hby at_486) (tlt hc486_153).2.2.2 rfl
      replace G := own_lload (q := 491) G X147.here hx (hb hby at_489) rfl rfl
      replace G := own_lload (q := 493) G X147.here hx (hb hby at_491) rfl rfl
      replace G := own_lcmp (q := 494) G X147.here hx (hb hby at_493) rfl
      have hc494_154 : ¬ (v4 = v3) := fun z => by have := congrArg Int64.toInt z; omega
      replace G := own_ifYes (q := 503) G X147.here hx (hb hby at_494) ((if0 _ _).trans (feq (fun z => hc494_154 ((lw_eq _ _).mp z))).2) (by decide) (by decide)
      replace G := own_iload (q := 505) G X147.here hx (hb hby at_503) rfl rfl
      replace G := own_iconst (q := 506) G X147.here hx (hb hby at_505) (v := (4 : Int32)) (by decide) rfl
      have hc506_155 : (4 : Int32) < (5 : Int32) := by decide
      replace G := own_icmpNo (q := 509) G X147.here hx (hb hby at_506) (tlt hc506_155).2.2.2 rfl
      replace G := own_lload (q := 511) G X147.here hx (hb hby at_509) rfl rfl
      replace G := own_lload (q := 513) G X147.here hx (hb hby at_511) rfl rfl
      replace G := own_lcmp (q := 514) G X147.here hx (hb hby at_513) rfl
      have hc514_156 : v4 = v4 := rfl
      replace G := own_ifNo (q := 517) G X147.here hx (hb hby at_514) ((if0 _ _).trans (teq ((lw_eq _ _).mpr hc514_156)).2) rfl
      replace G := own_iconst (q := 518) G X147.here hx (hb hby at_517) (v := (4 : Int32)) (by decide) rfl
      replace G := own_istore (q := 520) (l' := #[.val (.long i0), .second, .val (.long i1), .second, .val (.int i2), .val (.int i3), .val (.int (5 : Int32)), .val (.int uu), .val (.long v0), .second, .val (.long v1), .second, .val (.long v2), .second, .val (.long v3), .second, .val (.long v4), .second, .val (.long v5), .second, .val (.long v6), .second, .val (.long v7), .second, .val (.ref b106), .val (.long v4), .second, .val (.int (4 : Int32)), .unset, .unset]) G X147.here hx (hb hby at_518) rfl rfl
      replace G := own_goto (q := 584) G X147.here hx (hb hby at_520) (by decide) (by decide)
      replace G := own_iload (q := 586) G X147.here hx (hb hby at_584) rfl rfl
      have hc586_157 : ¬ ((4 : Int32) < (0 : Int32)) := by decide
      replace G := own_ifYes (q := 591) G X147.here hx (hb hby at_586) ((if0 _ _).trans (flt hc586_157).2.1) (by decide) (by decide)
      replace G := own_iload (q := 593) G X147.here hx (hb hby at_591) rfl rfl
      replace G := own_i2l (q := 594) G X147.here hx (hb hby at_593) rfl rfl
      replace G := own_iload (q := 596) G X147.here hx (hb hby at_594) rfl rfl
      replace G := own_i2l (q := 597) G X147.here hx (hb hby at_596) (by decide : ((5 : Int32).toInt64) = (5 : Int64)) rfl
      replace G := own_lmul (q := 598) G X147.here hx (hb hby at_597) rfl rfl
      replace G := own_lstore (q := 600) (l' := #[.val (.long i0), .second, .val (.long i1), .second, .val (.int i2), .val (.int i3), .val (.int (5 : Int32)), .val (.int uu), .val (.long v0), .second, .val (.long v1), .second, .val (.long v2), .second, .val (.long v3), .second, .val (.long v4), .second, .val (.long v5), .second, .val (.long v6), .second, .val (.long v7), .second, .val (.ref b106), .val (.long v4), .second, .val (.int (4 : Int32)), .val (.long ((uu.toInt64) * (5 : Int64))), .second]) G X147.here hx (hb hby at_598) rfl rfl
      replace G := own_iload (q := 602) G X147.here hx (hb hby at_600) rfl rfl
      replace G := own_iconst (q := 603) G X147.here hx (hb hby at_602) (v := (1 : Int32)) (by decide) rfl
      replace G := own_iadd (q := 604) G X147.here hx (hb hby at_603) (by decide : ((4 : Int32) + (1 : Int32)) = (5 : Int32)) rfl
      replace G := own_i2l (q := 605) G X147.here hx (hb hby at_604) (by decide : ((5 : Int32).toInt64) = (5 : Int64)) rfl
      replace G : Gets p e below _ (T147.setTop (mkF m 608 #[.val (.long i0), .second, .val (.long i1), .second, .val (.int i2), .val (.int i3), .val (.int (5 : Int32)), .val (.int uu), .val (.long v0), .second, .val (.long v1), .second, .val (.long v2), .second, .val (.long v3), .second, .val (.long v4), .second, .val (.long v5), .second, .val (.long v6), .second, .val (.long v7), .second, .val (.ref b106), .val (.long v4), .second, .val (.int (4 : Int32)), .val (.long ((uu.toInt64) * (5 : Int64))), .second] [(.long (100 : Int64)), (.long (5 : Int64))])) := fun t k => G t (X147.ldc2Long hx hown (mvT hZ (hw _ (List.mem_of_getElem? (i := 13) rfl))) (g := (mkF m 605 #[.val (.long i0), .second, .val (.long i1), .second, .val (.int i2), .val (.int i3), .val (.int (5 : Int32)), .val (.int uu), .val (.long v0), .second, .val (.long v1), .second, .val (.long v2), .second, .val (.long v3), .second, .val (.long v4), .second, .val (.long v5), .second, .val (.long v6), .second, .val (.long v7), .second, .val (.ref b106), .val (.long v4), .second, .val (.int (4 : Int32)), .val (.long ((uu.toInt64) * (5 : Int64))), .second] [(.long (5 : Int64))])) rfl (hb hby at_605) t k)
      replace G := own_lmul (q := 609) G X147.here hx (hb hby at_608) (by decide : ((5 : Int64) * (100 : Int64)) = (500 : Int64)) rfl
      replace G := own_lload (q := 611) G X147.here hx (hb hby at_609) rfl rfl
      replace G := own_lcmp (q := 612) G X147.here hx (hb hby at_611) rfl
      have hc612_158 : ¬ ((500 : Int64) < ((uu.toInt64) * (5 : Int64))) := by
        rw [hj, show (4 : Int32).toInt = 4 from rfl] at sp
        have A := c_lmul uu.toInt64 5
        rw [c_i2l, show (5 : Int64).toInt = 5 from rfl] at A
        have RA := rng64 (uu.toInt64 * 5)
        have hB : 0 ≤ uu.toInt * 5 ∧ uu.toInt * 5 ≤ 800 := by omega
        have e : (uu.toInt64 * 5).toInt = uu.toInt * 5 := by
          generalize uu.toInt * 5 = P at A hB ⊢
          omega
        rw [own_ltL, e, show (500 : Int64).toInt = 500 from rfl]
        omega
      replace G := own_ifNo (q := 615) G X147.here hx (hb hby at_612) ((if0 _ _).trans (flt (fun z => hc612_158 ((lw_lt _ _).mp z))).1) rfl
      replace G := own_iload (q := 617) G X147.here hx (hb hby at_615) rfl rfl
      have hc617_159 : ¬ ((4 : Int32) = (0 : Int32)) := by decide
      replace G := own_ifNo (q := 620) G X147.here hx (hb hby at_617) ((if0 _ _).trans (feq hc617_159).1) rfl
      replace G := own_iload (q := 622) G X147.here hx (hb hby at_620) rfl rfl
      replace G := own_i2l (q := 623) G X147.here hx (hb hby at_622) (by decide : ((4 : Int32).toInt64) = (4 : Int64)) rfl
      replace G : Gets p e below _ (T147.setTop (mkF m 626 #[.val (.long i0), .second, .val (.long i1), .second, .val (.int i2), .val (.int i3), .val (.int (5 : Int32)), .val (.int uu), .val (.long v0), .second, .val (.long v1), .second, .val (.long v2), .second, .val (.long v3), .second, .val (.long v4), .second, .val (.long v5), .second, .val (.long v6), .second, .val (.long v7), .second, .val (.ref b106), .val (.long v4), .second, .val (.int (4 : Int32)), .val (.long ((uu.toInt64) * (5 : Int64))), .second] [(.long (100 : Int64)), (.long (4 : Int64))])) := fun t k => G t (X147.ldc2Long hx hown (mvT hZ (hw _ (List.mem_of_getElem? (i := 13) rfl))) (g := (mkF m 623 #[.val (.long i0), .second, .val (.long i1), .second, .val (.int i2), .val (.int i3), .val (.int (5 : Int32)), .val (.int uu), .val (.long v0), .second, .val (.long v1), .second, .val (.long v2), .second, .val (.long v3), .second, .val (.long v4), .second, .val (.long v5), .second, .val (.long v6), .second, .val (.long v7), .second, .val (.ref b106), .val (.long v4), .second, .val (.int (4 : Int32)), .val (.long ((uu.toInt64) * (5 : Int64))), .second] [(.long (4 : Int64))])) rfl (hb hby at_623) t k)
      replace G := own_lmul (q := 627) G X147.here hx (hb hby at_626) (by decide : ((4 : Int64) * (100 : Int64)) = (400 : Int64)) rfl
      replace G := own_lload (q := 629) G X147.here hx (hb hby at_627) rfl rfl
      replace G := own_lcmp (q := 630) G X147.here hx (hb hby at_629) rfl
      have hc630_160 : (400 : Int64) < ((uu.toInt64) * (5 : Int64)) := by
        rw [hj, show (4 : Int32).toInt = 4 from rfl] at sp
        have A := c_lmul uu.toInt64 5
        rw [c_i2l, show (5 : Int64).toInt = 5 from rfl] at A
        have RA := rng64 (uu.toInt64 * 5)
        have hB : 0 ≤ uu.toInt * 5 ∧ uu.toInt * 5 ≤ 800 := by omega
        have e : (uu.toInt64 * 5).toInt = uu.toInt * 5 := by
          generalize uu.toInt * 5 = P at A hB ⊢
          omega
        rw [own_ltL, e, show (400 : Int64).toInt = 400 from rfl]
        omega
      replace G := own_ifNo (q := 633) G X147.here hx (hb hby at_630) ((if0 _ _).trans (tlt ((lw_lt _ _).mpr hc630_160)).2.1) rfl
      replace G := own_iconst (q := 634) G X147.here hx (hb hby at_633) (v := (1 : Int32)) (by decide) rfl
      replace G := own_goto (q := 638) G X147.here hx (hb hby at_634) (by decide) (by decide)
      obtain ⟨fs, hr, hrun, hended, hW, hsame⟩ := X147.leave (v := some (.int (1 : Int32))) (fun h => by rw [Bd.returns] at h; cases h)
      refine ⟨_, _, G _ (retOut X147 hx Bd.returns rfl (Or.inl ⟨rfl, Or.inr (Or.inl rfl), _, rfl⟩) (hb hby at_638) hr), hrun, hended, _, _, rfl, ?_, ⟨_, rfl⟩, hW, hsame.mono (by decide) (by decide)⟩
      show Q0 Z i0 i1 i2 i3 h0 n0 _ T147.heap _
      rw [e147]
      exact ⟨rfl, N147⟩
  · replace G := own_iload (q := 128) G X0.here hx (hb hby at_126) rfl rfl
    replace G := own_iconst (q := 129) G X0.here hx (hb hby at_128) (v := (1 : Int32)) (by decide) rfl
    have hc129_161 : ¬ ((6 : Int32) = (1 : Int32)) := by decide
    replace G := own_icmpYes (q := 145) G X0.here hx (hb hby at_129) (feq hc129_161).2 (by decide) (by decide)
    replace G := own_iload (q := 147) G X0.here hx (hb hby at_145) rfl rfl
    replace G := own_iconst (q := 148) G X0.here hx (hb hby at_147) (v := (2 : Int32)) (by decide) rfl
    have hc148_162 : ¬ ((6 : Int32) = (2 : Int32)) := by decide
    replace G := own_icmpYes (q := 169) G X0.here hx (hb hby at_148) (feq hc148_162).2 (by decide) (by decide)
    replace G := own_iload (q := 171) G X0.here hx (hb hby at_169) rfl rfl
    replace G := own_iconst (q := 172) G X0.here hx (hb hby at_171) (v := (3 : Int32)) (by decide) rfl
    have hc172_163 : ¬ ((6 : Int32) = (3 : Int32)) := by decide
    replace G := own_icmpYes (q := 198) G X0.here hx (hb hby at_172) (feq hc172_163).2 (by decide) (by decide)
    replace G := own_iload (q := 200) G X0.here hx (hb hby at_198) rfl rfl
    replace G := own_iconst (q := 201) G X0.here hx (hb hby at_200) (v := (4 : Int32)) (by decide) rfl
    have hc201_164 : ¬ ((6 : Int32) = (4 : Int32)) := by decide
    replace G := own_icmpYes (q := 232) G X0.here hx (hb hby at_201) (feq hc201_164).2 (by decide) (by decide)
    replace G := own_iload (q := 234) G X0.here hx (hb hby at_232) rfl rfl
    replace G := own_iconst (q := 235) G X0.here hx (hb hby at_234) (v := (5 : Int32)) (by decide) rfl
    have hc235_165 : ¬ ((6 : Int32) = (5 : Int32)) := by decide
    replace G := own_icmpYes (q := 271) G X0.here hx (hb hby at_235) (feq hc235_165).2 (by decide) (by decide)
    replace G := own_iload (q := 273) G X0.here hx (hb hby at_271) rfl rfl
    replace G := own_bipush (q := 275) G X0.here hx (hb hby at_273) (v := (6 : Int32)) (by decide) rfl
    have hc275_166 : (6 : Int32) = (6 : Int32) := by decide
    replace G := own_icmpNo (q := 278) G X0.here hx (hb hby at_275) (teq hc275_166).2 rfl
    replace G := own_bipush (q := 280) G X0.here hx (hb hby at_278) (v := (6 : Int32)) (by decide) rfl
    obtain ⟨T167, h167, k167, X167, e167, E167, A167, st167⟩ := newP X0 hx hZ (hw _ (List.mem_of_getElem? (i := 2) rfl)) e0 (g := (mkF m 280 #[.val (.long i0), .second, .val (.long i1), .second, .val (.int i2), .val (.int i3), .val (.int (6 : Int32)), .val (.int uu), .val (.long v0), .second, .val (.long v1), .second, .val (.long v2), .second, .val (.long v3), .second, .val (.long v4), .second, .val (.long v5), .second, .val (.long v6), .second, .val (.long v7), .second, .unset, .unset, .unset, .unset, .unset, .unset] [(.int (6 : Int32))])) rfl (hb hby at_280) rfl (by decide) (cap := 6) (by decide) (by decide) (by decide) (by decide)
    obtain ⟨b167, g167⟩ : ∃ z, z = h0.size := ⟨_, rfl⟩
    rw [← g167] at A167 st167
    have ge_b167 : n0 ≤ b167 := Nat.le_trans Z0 (Nat.le_of_eq g167.symm)
    have Z167 : n0 ≤ h167.size := Nat.le_trans Z0 E167.1
    have V167 : Arv Z h167 b167 k167 .long (6 : Int32) [(.long (0 : Int64)), (.long (0 : Int64)), (.long (0 : Int64)), (.long (0 : Int64)), (.long (0 : Int64)), (.long (0 : Int64))] (.long (0 : Int64)) := (Arv.new A167 (by decide)).pad (pad_rep [] (.long (0 : Int64)) 6)
    replace G : Gets p e below _ (T167.setTop (mkF m 282 #[.val (.long i0), .second, .val (.long i1), .second, .val (.int i2), .val (.int i3), .val (.int (6 : Int32)), .val (.int uu), .val (.long v0), .second, .val (.long v1), .second, .val (.long v2), .second, .val (.long v3), .second, .val (.long v4), .second, .val (.long v5), .second, .val (.long v6), .second, .val (.long v7), .second, .unset, .unset, .unset, .unset, .unset, .unset] [(.ref b167)])) := fun t k => G t (st167 t k)
    replace G := own_dup (q := 283) G X167.here hx (hb hby at_282) rfl rfl
    replace G := own_iconst (q := 284) G X167.here hx (hb hby at_283) (v := (0 : Int32)) (by decide) rfl
    replace G := own_lload (q := 286) G X167.here hx (hb hby at_284) rfl rfl
    obtain ⟨c168, Ar168, q168, S168, N168', H168, G168'⟩ := id V167
    have hin168 : ¬ ((0 : Int32) < 0 ∨ c168.slots.size ≤ ((0 : Int32)).toNatClampNeg) := inb_of S168 ⟨by decide, by decide⟩
    obtain ⟨T168, h168, X168, e168, W168, st168⟩ := stJ X167 hx hZ e167 Ar168 (j := (0 : Int32)) hin168 (g := (mkF m 286 #[.val (.long i0), .second, .val (.long i1), .second, .val (.int i2), .val (.int i3), .val (.int (6 : Int32)), .val (.int uu), .val (.long v0), .second, .val (.long v1), .second, .val (.long v2), .second, .val (.long v3), .second, .val (.long v4), .second, .val (.long v5), .second, .val (.long v6), .second, .val (.long v7), .second, .unset, .unset, .unset, .unset, .unset, .unset] [(.long v0), (.int (0 : Int32)), (.ref b167), (.ref b167)])) rfl rfl (hb hby at_286)
    have N168 := Fr.snoc X168 N0 ge_b167
    have Z168 : n0 ≤ h168.size := Nat.le_trans Z167 (Keep.of_wr W168).1
    have V168 : Arv Z h168 b167 k167 .long (6 : Int32) [(.long v0), (.long (0 : Int64)), (.long (0 : Int64)), (.long (0 : Int64)), (.long (0 : Int64)), (.long (0 : Int64))] (.long (0 : Int64)) := Arv.set Ar168 q168 S168 N168' H168 G168' rfl W168 0 rfl (Nat.le_of_ble_eq_true rfl)
    replace G : Gets p e below _ (T168.setTop (mkF m 287 #[.val (.long i0), .second, .val (.long i1), .second, .val (.int i2), .val (.int i3), .val (.int (6 : Int32)), .val (.int uu), .val (.long v0), .second, .val (.long v1), .second, .val (.long v2), .second, .val (.long v3), .second, .val (.long v4), .second, .val (.long v5), .second, .val (.long v6), .second, .val (.long v7), .second, .unset, .unset, .unset, .unset, .unset, .unset] [(.ref b167)])) := fun t k => G t (st168 t k)
    replace G := own_dup (q := 288) G X168.here hx (hb hby at_287) rfl rfl
    replace G := own_iconst (q := 289) G X168.here hx (hb hby at_288) (v := (1 : Int32)) (by decide) rfl
    replace G := own_lload (q := 291) G X168.here hx (hb hby at_289) rfl rfl
    obtain ⟨c169, Ar169, q169, S169, N169', H169, G169'⟩ := id V168
    have hin169 : ¬ ((1 : Int32) < 0 ∨ c169.slots.size ≤ ((1 : Int32)).toNatClampNeg) := inb_of S169 ⟨by decide, by decide⟩
    obtain ⟨T169, h169, X169, e169, W169, st169⟩ := stJ X168 hx hZ e168 Ar169 (j := (1 : Int32)) hin169 (g := (mkF m 291 #[.val (.long i0), .second, .val (.long i1), .second, .val (.int i2), .val (.int i3), .val (.int (6 : Int32)), .val (.int uu), .val (.long v0), .second, .val (.long v1), .second, .val (.long v2), .second, .val (.long v3), .second, .val (.long v4), .second, .val (.long v5), .second, .val (.long v6), .second, .val (.long v7), .second, .unset, .unset, .unset, .unset, .unset, .unset] [(.long v1), (.int (1 : Int32)), (.ref b167), (.ref b167)])) rfl rfl (hb hby at_291)
    have N169 := Fr.snoc X169 N168 ge_b167
    have Z169 : n0 ≤ h169.size := Nat.le_trans Z168 (Keep.of_wr W169).1
    have V169 : Arv Z h169 b167 k167 .long (6 : Int32) [(.long v0), (.long v1), (.long (0 : Int64)), (.long (0 : Int64)), (.long (0 : Int64)), (.long (0 : Int64))] (.long (0 : Int64)) := Arv.set Ar169 q169 S169 N169' H169 G169' rfl W169 1 rfl (Nat.le_of_ble_eq_true rfl)
    replace G : Gets p e below _ (T169.setTop (mkF m 292 #[.val (.long i0), .second, .val (.long i1), .second, .val (.int i2), .val (.int i3), .val (.int (6 : Int32)), .val (.int uu), .val (.long v0), .second, .val (.long v1), .second, .val (.long v2), .second, .val (.long v3), .second, .val (.long v4), .second, .val (.long v5), .second, .val (.long v6), .second, .val (.long v7), .second, .unset, .unset, .unset, .unset, .unset, .unset] [(.ref b167)])) := fun t k => G t (st169 t k)
    replace G := own_dup (q := 293) G X169.here hx (hb hby at_292) rfl rfl
    replace G := own_iconst (q := 294) G X169.here hx (hb hby at_293) (v := (2 : Int32)) (by decide) rfl
    replace G := own_lload (q := 296) G X169.here hx (hb hby at_294) rfl rfl
    obtain ⟨c170, Ar170, q170, S170, N170', H170, G170'⟩ := id V169
    have hin170 : ¬ ((2 : Int32) < 0 ∨ c170.slots.size ≤ ((2 : Int32)).toNatClampNeg) := inb_of S170 ⟨by decide, by decide⟩
    obtain ⟨T170, h170, X170, e170, W170, st170⟩ := stJ X169 hx hZ e169 Ar170 (j := (2 : Int32)) hin170 (g := (mkF m 296 #[.val (.long i0), .second, .val (.long i1), .second, .val (.int i2), .val (.int i3), .val (.int (6 : Int32)), .val (.int uu), .val (.long v0), .second, .val (.long v1), .second, .val (.long v2), .second, .val (.long v3), .second, .val (.long v4), .second, .val (.long v5), .second, .val (.long v6), .second, .val (.long v7), .second, .unset, .unset, .unset, .unset, .unset, .unset] [(.long v2), (.int (2 : Int32)), (.ref b167), (.ref b167)])) rfl rfl (hb hby at_296)
    have N170 := Fr.snoc X170 N169 ge_b167
    have Z170 : n0 ≤ h170.size := Nat.le_trans Z169 (Keep.of_wr W170).1
    have V170 : Arv Z h170 b167 k167 .long (6 : Int32) [(.long v0), (.long v1), (.long v2), (.long (0 : Int64)), (.long (0 : Int64)), (.long (0 : Int64))] (.long (0 : Int64)) := Arv.set Ar170 q170 S170 N170' H170 G170' rfl W170 2 rfl (Nat.le_of_ble_eq_true rfl)
    replace G : Gets p e below _ (T170.setTop (mkF m 297 #[.val (.long i0), .second, .val (.long i1), .second, .val (.int i2), .val (.int i3), .val (.int (6 : Int32)), .val (.int uu), .val (.long v0), .second, .val (.long v1), .second, .val (.long v2), .second, .val (.long v3), .second, .val (.long v4), .second, .val (.long v5), .second, .val (.long v6), .second, .val (.long v7), .second, .unset, .unset, .unset, .unset, .unset, .unset] [(.ref b167)])) := fun t k => G t (st170 t k)
    replace G := own_dup (q := 298) G X170.here hx (hb hby at_297) rfl rfl
    replace G := own_iconst (q := 299) G X170.here hx (hb hby at_298) (v := (3 : Int32)) (by decide) rfl
    replace G := own_lload (q := 301) G X170.here hx (hb hby at_299) rfl rfl
    obtain ⟨c171, Ar171, q171, S171, N171', H171, G171'⟩ := id V170
    have hin171 : ¬ ((3 : Int32) < 0 ∨ c171.slots.size ≤ ((3 : Int32)).toNatClampNeg) := inb_of S171 ⟨by decide, by decide⟩
    obtain ⟨T171, h171, X171, e171, W171, st171⟩ := stJ X170 hx hZ e170 Ar171 (j := (3 : Int32)) hin171 (g := (mkF m 301 #[.val (.long i0), .second, .val (.long i1), .second, .val (.int i2), .val (.int i3), .val (.int (6 : Int32)), .val (.int uu), .val (.long v0), .second, .val (.long v1), .second, .val (.long v2), .second, .val (.long v3), .second, .val (.long v4), .second, .val (.long v5), .second, .val (.long v6), .second, .val (.long v7), .second, .unset, .unset, .unset, .unset, .unset, .unset] [(.long v3), (.int (3 : Int32)), (.ref b167), (.ref b167)])) rfl rfl (hb hby at_301)
    have N171 := Fr.snoc X171 N170 ge_b167
    have Z171 : n0 ≤ h171.size := Nat.le_trans Z170 (Keep.of_wr W171).1
    have V171 : Arv Z h171 b167 k167 .long (6 : Int32) [(.long v0), (.long v1), (.long v2), (.long v3), (.long (0 : Int64)), (.long (0 : Int64))] (.long (0 : Int64)) := Arv.set Ar171 q171 S171 N171' H171 G171' rfl W171 3 rfl (Nat.le_of_ble_eq_true rfl)
    replace G : Gets p e below _ (T171.setTop (mkF m 302 #[.val (.long i0), .second, .val (.long i1), .second, .val (.int i2), .val (.int i3), .val (.int (6 : Int32)), .val (.int uu), .val (.long v0), .second, .val (.long v1), .second, .val (.long v2), .second, .val (.long v3), .second, .val (.long v4), .second, .val (.long v5), .second, .val (.long v6), .second, .val (.long v7), .second, .unset, .unset, .unset, .unset, .unset, .unset] [(.ref b167)])) := fun t k => G t (st171 t k)
    replace G := own_dup (q := 303) G X171.here hx (hb hby at_302) rfl rfl
    replace G := own_iconst (q := 304) G X171.here hx (hb hby at_303) (v := (4 : Int32)) (by decide) rfl
    replace G := own_lload (q := 306) G X171.here hx (hb hby at_304) rfl rfl
    obtain ⟨c172, Ar172, q172, S172, N172', H172, G172'⟩ := id V171
    have hin172 : ¬ ((4 : Int32) < 0 ∨ c172.slots.size ≤ ((4 : Int32)).toNatClampNeg) := inb_of S172 ⟨by decide, by decide⟩
    obtain ⟨T172, h172, X172, e172, W172, st172⟩ := stJ X171 hx hZ e171 Ar172 (j := (4 : Int32)) hin172 (g := (mkF m 306 #[.val (.long i0), .second, .val (.long i1), .second, .val (.int i2), .val (.int i3), .val (.int (6 : Int32)), .val (.int uu), .val (.long v0), .second, .val (.long v1), .second, .val (.long v2), .second, .val (.long v3), .second, .val (.long v4), .second, .val (.long v5), .second, .val (.long v6), .second, .val (.long v7), .second, .unset, .unset, .unset, .unset, .unset, .unset] [(.long v4), (.int (4 : Int32)), (.ref b167), (.ref b167)])) rfl rfl (hb hby at_306)
    have N172 := Fr.snoc X172 N171 ge_b167
    have Z172 : n0 ≤ h172.size := Nat.le_trans Z171 (Keep.of_wr W172).1
    have V172 : Arv Z h172 b167 k167 .long (6 : Int32) [(.long v0), (.long v1), (.long v2), (.long v3), (.long v4), (.long (0 : Int64))] (.long (0 : Int64)) := Arv.set Ar172 q172 S172 N172' H172 G172' rfl W172 4 rfl (Nat.le_of_ble_eq_true rfl)
    replace G : Gets p e below _ (T172.setTop (mkF m 307 #[.val (.long i0), .second, .val (.long i1), .second, .val (.int i2), .val (.int i3), .val (.int (6 : Int32)), .val (.int uu), .val (.long v0), .second, .val (.long v1), .second, .val (.long v2), .second, .val (.long v3), .second, .val (.long v4), .second, .val (.long v5), .second, .val (.long v6), .second, .val (.long v7), .second, .unset, .unset, .unset, .unset, .unset, .unset] [(.ref b167)])) := fun t k => G t (st172 t k)
    replace G := own_dup (q := 308) G X172.here hx (hb hby at_307) rfl rfl
    replace G := own_iconst (q := 309) G X172.here hx (hb hby at_308) (v := (5 : Int32)) (by decide) rfl
    replace G := own_lload (q := 311) G X172.here hx (hb hby at_309) rfl rfl
    obtain ⟨c173, Ar173, q173, S173, N173', H173, G173'⟩ := id V172
    have hin173 : ¬ ((5 : Int32) < 0 ∨ c173.slots.size ≤ ((5 : Int32)).toNatClampNeg) := inb_of S173 ⟨by decide, by decide⟩
    obtain ⟨T173, h173, X173, e173, W173, st173⟩ := stJ X172 hx hZ e172 Ar173 (j := (5 : Int32)) hin173 (g := (mkF m 311 #[.val (.long i0), .second, .val (.long i1), .second, .val (.int i2), .val (.int i3), .val (.int (6 : Int32)), .val (.int uu), .val (.long v0), .second, .val (.long v1), .second, .val (.long v2), .second, .val (.long v3), .second, .val (.long v4), .second, .val (.long v5), .second, .val (.long v6), .second, .val (.long v7), .second, .unset, .unset, .unset, .unset, .unset, .unset] [(.long v5), (.int (5 : Int32)), (.ref b167), (.ref b167)])) rfl rfl (hb hby at_311)
    have N173 := Fr.snoc X173 N172 ge_b167
    have Z173 : n0 ≤ h173.size := Nat.le_trans Z172 (Keep.of_wr W173).1
    have V173 : Arv Z h173 b167 k167 .long (6 : Int32) [(.long v0), (.long v1), (.long v2), (.long v3), (.long v4), (.long v5)] (.long (0 : Int64)) := Arv.set Ar173 q173 S173 N173' H173 G173' rfl W173 5 rfl (Nat.le_of_ble_eq_true rfl)
    replace G : Gets p e below _ (T173.setTop (mkF m 312 #[.val (.long i0), .second, .val (.long i1), .second, .val (.int i2), .val (.int i3), .val (.int (6 : Int32)), .val (.int uu), .val (.long v0), .second, .val (.long v1), .second, .val (.long v2), .second, .val (.long v3), .second, .val (.long v4), .second, .val (.long v5), .second, .val (.long v6), .second, .val (.long v7), .second, .unset, .unset, .unset, .unset, .unset, .unset] [(.ref b167)])) := fun t k => G t (st173 t k)
    replace G := own_astore (q := 314) (l' := #[.val (.long i0), .second, .val (.long i1), .second, .val (.int i2), .val (.int i3), .val (.int (6 : Int32)), .val (.int uu), .val (.long v0), .second, .val (.long v1), .second, .val (.long v2), .second, .val (.long v3), .second, .val (.long v4), .second, .val (.long v5), .second, .val (.long v6), .second, .val (.long v7), .second, .val (.ref b167), .unset, .unset, .unset, .unset, .unset]) G X173.here hx (hb hby at_312) rfl rfl rfl
    replace G := own_goto (q := 417) G X173.here hx (hb hby at_314) (by decide) (by decide)
    replace G := own_aload (q := 419) G X173.here hx (hb hby at_417) rfl rfl rfl
    replace G := own_iload (q := 421) G X173.here hx (hb hby at_419) rfl rfl
    have sp := own_ixs uu (6 : Int32) 6 rfl (by decide) (by decide) huu
    rcases own_cases6 ⟨sp.1, sp.2.1⟩ with hj | hj | hj | hj | hj | hj
    · obtain ⟨_, _, ⟨T174, L174, kk174, nn174⟩, -, X174, ⟨Lc174, hQ174, l174, y174, z174⟩, st174⟩ := Jvm.LawKit.callS X173 hx (y := (⟨"com/example/cued/cued/Bench", "percentile", "([JI)J"⟩ : MethodName)) hown (mvT hZ (hw _ (List.mem_of_getElem? (i := 3) rfl))) (mvT hZ (hw _ (List.mem_of_getElem? (i := 4) rfl))) (mvT hZ (hw _ (List.mem_of_getElem? (i := 5) rfl))) (mvT hZ (hw _ (List.mem_of_getElem? (i := 6) rfl))) (by decide) (backOf (W := 0) (rm1 l Z a0 hw [] b167 uu k167 (6 : Int32) [(.long v0), (.long v1), (.long v2), (.long v3), (.long v4), (.long v5)] v0 h173 n0 Z173 V173 (by decide) huu (by rw [hj]; rfl)) hZ (hw _ (List.mem_of_getElem? (i := 6) rfl)) (hw _ (List.mem_of_getElem? (i := 5) rfl)) (by decide) (by decide)) (g := (mkF m 421 #[.val (.long i0), .second, .val (.long i1), .second, .val (.int i2), .val (.int i3), .val (.int (6 : Int32)), .val (.int uu), .val (.long v0), .second, .val (.long v1), .second, .val (.long v2), .second, .val (.long v3), .second, .val (.long v4), .second, .val (.long v5), .second, .val (.long v6), .second, .val (.long v7), .second, .val (.ref b167), .unset, .unset, .unset, .unset, .unset] [(.int uu), (.ref b167)])) rfl (by rw [hml]; rfl) (argsL := [(.ref b167), (.int uu)]) (rest := []) (lenOf pd_1 rfl) rfl (by show 2 * 0 + _ ≤ _; exact Nat.le_of_eq rfl) (hb hby at_421) (fun _ _ => ⟨rfl, e173, (by decide : 1 + 0 ≤ _), (by decide : 6 + 0 ≤ _)⟩)
      dsimp only [Pt.U, Pt.locs, Pt.cells, Pt.slots] at X174 l174 y174 z174 st174 hQ174
      subst l174 y174 z174
      obtain ⟨rfl, N174q, e174⟩ := hQ174
      have N174 := Fr.app N173 N174q
      replace G : Gets p e below _ (T174.setTop (mkF m 424 #[.val (.long i0), .second, .val (.long i1), .second, .val (.int i2), .val (.int i3), .val (.int (6 : Int32)), .val (.int uu), .val (.long v0), .second, .val (.long v1), .second, .val (.long v2), .second, .val (.long v3), .second, .val (.long v4), .second, .val (.long v5), .second, .val (.long v6), .second, .val (.long v7), .second, .val (.ref b167), .unset, .unset, .unset, .unset, .unset] [(.long v0)])) := fun t k => G t (st174 t k)
      replace G := own_lstore (q := 426) (l' := #[.val (.long i0), .second, .val (.long i1), .second, .val (.int i2), .val (.int i3), .val (.int (6 : Int32)), .val (.int uu), .val (.long v0), .second, .val (.long v1), .second, .val (.long v2), .second, .val (.long v3), .second, .val (.long v4), .second, .val (.long v5), .second, .val (.long v6), .second, .val (.long v7), .second, .val (.ref b167), .val (.long v0), .second, .unset, .unset, .unset]) G X174.here hx (hb hby at_424) rfl rfl
      replace G := own_iconst (q := 427) G X174.here hx (hb hby at_426) (v := (-1 : Int32)) (by decide) rfl
      replace G := own_istore (q := 429) (l' := #[.val (.long i0), .second, .val (.long i1), .second, .val (.int i2), .val (.int i3), .val (.int (6 : Int32)), .val (.int uu), .val (.long v0), .second, .val (.long v1), .second, .val (.long v2), .second, .val (.long v3), .second, .val (.long v4), .second, .val (.long v5), .second, .val (.long v6), .second, .val (.long v7), .second, .val (.ref b167), .val (.long v0), .second, .val (.int (-1 : Int32)), .unset, .unset]) G X174.here hx (hb hby at_427) rfl rfl
      replace G := own_lload (q := 431) G X174.here hx (hb hby at_429) rfl rfl
      replace G := own_lload (q := 433) G X174.here hx (hb hby at_431) rfl rfl
      replace G := own_lcmp (q := 434) G X174.here hx (hb hby at_433) rfl
      have hc434_175 : v0 = v0 := rfl
      replace G := own_ifNo (q := 437) G X174.here hx (hb hby at_434) ((if0 _ _).trans (teq ((lw_eq _ _).mpr hc434_175)).2) rfl
      replace G := own_iconst (q := 438) G X174.here hx (hb hby at_437) (v := (0 : Int32)) (by decide) rfl
      replace G := own_istore (q := 440) (l' := #[.val (.long i0), .second, .val (.long i1), .second, .val (.int i2), .val (.int i3), .val (.int (6 : Int32)), .val (.int uu), .val (.long v0), .second, .val (.long v1), .second, .val (.long v2), .second, .val (.long v3), .second, .val (.long v4), .second, .val (.long v5), .second, .val (.long v6), .second, .val (.long v7), .second, .val (.ref b167), .val (.long v0), .second, .val (.int (0 : Int32)), .unset, .unset]) G X174.here hx (hb hby at_438) rfl rfl
      replace G := own_goto (q := 584) G X174.here hx (hb hby at_440) (by decide) (by decide)
      replace G := own_iload (q := 586) G X174.here hx (hb hby at_584) rfl rfl
      have hc586_176 : ¬ ((0 : Int32) < (0 : Int32)) := by decide
      replace G := own_ifYes (q := 591) G X174.here hx (hb hby at_586) ((if0 _ _).trans (flt hc586_176).2.1) (by decide) (by decide)
      replace G := own_iload (q := 593) G X174.here hx (hb hby at_591) rfl rfl
      replace G := own_i2l (q := 594) G X174.here hx (hb hby at_593) rfl rfl
      replace G := own_iload (q := 596) G X174.here hx (hb hby at_594) rfl rfl
      replace G := own_i2l (q := 597) G X174.here hx (hb hby at_596) (by decide : ((6 : Int32).toInt64) = (6 : Int64)) rfl
      replace G := own_lmul (q := 598) G X174.here hx (hb hby at_597) rfl rfl
      replace G := own_lstore (q := 600) (l' := #[.val (.long i0), .second, .val (.long i1), .second, .val (.int i2), .val (.int i3), .val (.int (6 : Int32)), .val (.int uu), .val (.long v0), .second, .val (.long v1), .second, .val (.long v2), .second, .val (.long v3), .second, .val (.long v4), .second, .val (.long v5), .second, .val (.long v6), .second, .val (.long v7), .second, .val (.ref b167), .val (.long v0), .second, .val (.int (0 : Int32)), .val (.long ((uu.toInt64) * (6 : Int64))), .second]) G X174.here hx (hb hby at_598) rfl rfl
      replace G := own_iload (q := 602) G X174.here hx (hb hby at_600) rfl rfl
      replace G := own_iconst (q := 603) G X174.here hx (hb hby at_602) (v := (1 : Int32)) (by decide) rfl
      replace G := own_iadd (q := 604) G X174.here hx (hb hby at_603) (by decide : ((0 : Int32) + (1 : Int32)) = (1 : Int32)) rfl
      replace G := own_i2l (q := 605) G X174.here hx (hb hby at_604) (by decide : ((1 : Int32).toInt64) = (1 : Int64)) rfl
      replace G : Gets p e below _ (T174.setTop (mkF m 608 #[.val (.long i0), .second, .val (.long i1), .second, .val (.int i2), .val (.int i3), .val (.int (6 : Int32)), .val (.int uu), .val (.long v0), .second, .val (.long v1), .second, .val (.long v2), .second, .val (.long v3), .second, .val (.long v4), .second, .val (.long v5), .second, .val (.long v6), .second, .val (.long v7), .second, .val (.ref b167), .val (.long v0), .second, .val (.int (0 : Int32)), .val (.long ((uu.toInt64) * (6 : Int64))), .second] [(.long (100 : Int64)), (.long (1 : Int64))])) := fun t k => G t (X174.ldc2Long hx hown (mvT hZ (hw _ (List.mem_of_getElem? (i := 13) rfl))) (g := (mkF m 605 #[.val (.long i0), .second, .val (.long i1), .second, .val (.int i2), .val (.int i3), .val (.int (6 : Int32)), .val (.int uu), .val (.long v0), .second, .val (.long v1), .second, .val (.long v2), .second, .val (.long v3), .second, .val (.long v4), .second, .val (.long v5), .second, .val (.long v6), .second, .val (.long v7), .second, .val (.ref b167), .val (.long v0), .second, .val (.int (0 : Int32)), .val (.long ((uu.toInt64) * (6 : Int64))), .second] [(.long (1 : Int64))])) rfl (hb hby at_605) t k)
      replace G := own_lmul (q := 609) G X174.here hx (hb hby at_608) (by decide : ((1 : Int64) * (100 : Int64)) = (100 : Int64)) rfl
      replace G := own_lload (q := 611) G X174.here hx (hb hby at_609) rfl rfl
      replace G := own_lcmp (q := 612) G X174.here hx (hb hby at_611) rfl
      have hc612_177 : ¬ ((100 : Int64) < ((uu.toInt64) * (6 : Int64))) := by
        rw [hj, show (0 : Int32).toInt = 0 from rfl] at sp
        have A := c_lmul uu.toInt64 6
        rw [c_i2l, show (6 : Int64).toInt = 6 from rfl] at A
        have RA := rng64 (uu.toInt64 * 6)
        have hB : 0 ≤ uu.toInt * 6 ∧ uu.toInt * 6 ≤ 800 := by omega
        have e : (uu.toInt64 * 6).toInt = uu.toInt * 6 := by
          generalize uu.toInt * 6 = P at A hB ⊢
          omega
        rw [own_ltL, e, show (100 : Int64).toInt = 100 from rfl]
        omega
      replace G := own_ifNo (q := 615) G X174.here hx (hb hby at_612) ((if0 _ _).trans (flt (fun z => hc612_177 ((lw_lt _ _).mp z))).1) rfl
      replace G := own_iload (q := 617) G X174.here hx (hb hby at_615) rfl rfl
      have hc617_178 : (0 : Int32) = (0 : Int32) := by decide
      replace G := own_ifYes (q := 633) G X174.here hx (hb hby at_617) ((if0 _ _).trans (teq hc617_178).1) (by decide) (by decide)
      replace G := own_iconst (q := 634) G X174.here hx (hb hby at_633) (v := (1 : Int32)) (by decide) rfl
      replace G := own_goto (q := 638) G X174.here hx (hb hby at_634) (by decide) (by decide)
      obtain ⟨fs, hr, hrun, hended, hW, hsame⟩ := X174.leave (v := some (.int (1 : Int32))) (fun h => by rw [Bd.returns] at h; cases h)
      refine ⟨_, _, G _ (retOut X174 hx Bd.returns rfl (Or.inl ⟨rfl, Or.inr (Or.inl rfl), _, rfl⟩) (hb hby at_638) hr), hrun, hended, _, _, rfl, ?_, ⟨_, rfl⟩, hW, hsame.mono (by decide) (by decide)⟩
      show Q0 Z i0 i1 i2 i3 h0 n0 _ T174.heap _
      rw [e174]
      exact ⟨rfl, N174⟩
    · obtain ⟨_, _, ⟨T179, L179, kk179, nn179⟩, -, X179, ⟨Lc179, hQ179, l179, y179, z179⟩, st179⟩ := Jvm.LawKit.callS X173 hx (y := (⟨"com/example/cued/cued/Bench", "percentile", "([JI)J"⟩ : MethodName)) hown (mvT hZ (hw _ (List.mem_of_getElem? (i := 3) rfl))) (mvT hZ (hw _ (List.mem_of_getElem? (i := 4) rfl))) (mvT hZ (hw _ (List.mem_of_getElem? (i := 5) rfl))) (mvT hZ (hw _ (List.mem_of_getElem? (i := 6) rfl))) (by decide) (backOf (W := 0) (rm1 l Z a0 hw [] b167 uu k167 (6 : Int32) [(.long v0), (.long v1), (.long v2), (.long v3), (.long v4), (.long v5)] v1 h173 n0 Z173 V173 (by decide) huu (by rw [hj]; rfl)) hZ (hw _ (List.mem_of_getElem? (i := 6) rfl)) (hw _ (List.mem_of_getElem? (i := 5) rfl)) (by decide) (by decide)) (g := (mkF m 421 #[.val (.long i0), .second, .val (.long i1), .second, .val (.int i2), .val (.int i3), .val (.int (6 : Int32)), .val (.int uu), .val (.long v0), .second, .val (.long v1), .second, .val (.long v2), .second, .val (.long v3), .second, .val (.long v4), .second, .val (.long v5), .second, .val (.long v6), .second, .val (.long v7), .second, .val (.ref b167), .unset, .unset, .unset, .unset, .unset] [(.int uu), (.ref b167)])) rfl (by rw [hml]; rfl) (argsL := [(.ref b167), (.int uu)]) (rest := []) (lenOf pd_1 rfl) rfl (by show 2 * 0 + _ ≤ _; exact Nat.le_of_eq rfl) (hb hby at_421) (fun _ _ => ⟨rfl, e173, (by decide : 1 + 0 ≤ _), (by decide : 6 + 0 ≤ _)⟩)
      dsimp only [Pt.U, Pt.locs, Pt.cells, Pt.slots] at X179 l179 y179 z179 st179 hQ179
      subst l179 y179 z179
      obtain ⟨rfl, N179q, e179⟩ := hQ179
      have N179 := Fr.app N173 N179q
      replace G : Gets p e below _ (T179.setTop (mkF m 424 #[.val (.long i0), .second, .val (.long i1), .second, .val (.int i2), .val (.int i3), .val (.int (6 : Int32)), .val (.int uu), .val (.long v0), .second, .val (.long v1), .second, .val (.long v2), .second, .val (.long v3), .second, .val (.long v4), .second, .val (.long v5), .second, .val (.long v6), .second, .val (.long v7), .second, .val (.ref b167), .unset, .unset, .unset, .unset, .unset] [(.long v1)])) := fun t k => G t (st179 t k)
      replace G := own_lstore (q := 426) (l' := #[.val (.long i0), .second, .val (.long i1), .second, .val (.int i2), .val (.int i3), .val (.int (6 : Int32)), .val (.int uu), .val (.long v0), .second, .val (.long v1), .second, .val (.long v2), .second, .val (.long v3), .second, .val (.long v4), .second, .val (.long v5), .second, .val (.long v6), .second, .val (.long v7), .second, .val (.ref b167), .val (.long v1), .second, .unset, .unset, .unset]) G X179.here hx (hb hby at_424) rfl rfl
      replace G := own_iconst (q := 427) G X179.here hx (hb hby at_426) (v := (-1 : Int32)) (by decide) rfl
      replace G := own_istore (q := 429) (l' := #[.val (.long i0), .second, .val (.long i1), .second, .val (.int i2), .val (.int i3), .val (.int (6 : Int32)), .val (.int uu), .val (.long v0), .second, .val (.long v1), .second, .val (.long v2), .second, .val (.long v3), .second, .val (.long v4), .second, .val (.long v5), .second, .val (.long v6), .second, .val (.long v7), .second, .val (.ref b167), .val (.long v1), .second, .val (.int (-1 : Int32)), .unset, .unset]) G X179.here hx (hb hby at_427) rfl rfl
      replace G := own_lload (q := 431) G X179.here hx (hb hby at_429) rfl rfl
      replace G := own_lload (q := 433) G X179.here hx (hb hby at_431) rfl rfl
      replace G := own_lcmp (q := 434) G X179.here hx (hb hby at_433) rfl
      have hc434_180 : ¬ (v1 = v0) := fun z => by have := congrArg Int64.toInt z; omega
      replace G := own_ifYes (q := 443) G X179.here hx (hb hby at_434) ((if0 _ _).trans (feq (fun z => hc434_180 ((lw_eq _ _).mp z))).2) (by decide) (by decide)
      replace G := own_iload (q := 445) G X179.here hx (hb hby at_443) rfl rfl
      replace G := own_iconst (q := 446) G X179.here hx (hb hby at_445) (v := (1 : Int32)) (by decide) rfl
      have hc446_181 : (1 : Int32) < (6 : Int32) := by decide
      replace G := own_icmpNo (q := 449) G X179.here hx (hb hby at_446) (tlt hc446_181).2.2.2 rfl
      replace G := own_lload (q := 451) G X179.here hx (hb hby at_449) rfl rfl
      replace G := own_lload (q := 453) G X179.here hx (hb hby at_451) rfl rfl
      replace G := own_lcmp (q := 454) G X179.here hx (hb hby at_453) rfl
      have hc454_182 : v1 = v1 := rfl
      replace G := own_ifNo (q := 457) G X179.here hx (hb hby at_454) ((if0 _ _).trans (teq ((lw_eq _ _).mpr hc454_182)).2) rfl
      replace G := own_iconst (q := 458) G X179.here hx (hb hby at_457) (v := (1 : Int32)) (by decide) rfl
      replace G := own_istore (q := 460) (l' := #[.val (.long i0), .second, .val (.long i1), .second, .val (.int i2), .val (.int i3), .val (.int (6 : Int32)), .val (.int uu), .val (.long v0), .second, .val (.long v1), .second, .val (.long v2), .second, .val (.long v3), .second, .val (.long v4), .second, .val (.long v5), .second, .val (.long v6), .second, .val (.long v7), .second, .val (.ref b167), .val (.long v1), .second, .val (.int (1 : Int32)), .unset, .unset]) G X179.here hx (hb hby at_458) rfl rfl
      replace G := own_goto (q := 584) G X179.here hx (hb hby at_460) (by decide) (by decide)
      replace G := own_iload (q := 586) G X179.here hx (hb hby at_584) rfl rfl
      have hc586_183 : ¬ ((1 : Int32) < (0 : Int32)) := by decide
      replace G := own_ifYes (q := 591) G X179.here hx (hb hby at_586) ((if0 _ _).trans (flt hc586_183).2.1) (by decide) (by decide)
      replace G := own_iload (q := 593) G X179.here hx (hb hby at_591) rfl rfl
      replace G := own_i2l (q := 594) G X179.here hx (hb hby at_593) rfl rfl
      replace G := own_iload (q := 596) G X179.here hx (hb hby at_594) rfl rfl
      replace G := own_i2l (q := 597) G X179.here hx (hb hby at_596) (by decide : ((6 : Int32).toInt64) = (6 : Int64)) rfl
      replace G := own_lmul (q := 598) G X179.here hx (hb hby at_597) rfl rfl
      replace G := own_lstore (q := 600) (l' := #[.val (.long i0), .second, .val (.long i1), .second, .val (.int i2), .val (.int i3), .val (.int (6 : Int32)), .val (.int uu), .val (.long v0), .second, .val (.long v1), .second, .val (.long v2), .second, .val (.long v3), .second, .val (.long v4), .second, .val (.long v5), .second, .val (.long v6), .second, .val (.long v7), .second, .val (.ref b167), .val (.long v1), .second, .val (.int (1 : Int32)), .val (.long ((uu.toInt64) * (6 : Int64))), .second]) G X179.here hx (hb hby at_598) rfl rfl
      replace G := own_iload (q := 602) G X179.here hx (hb hby at_600) rfl rfl
      replace G := own_iconst (q := 603) G X179.here hx (hb hby at_602) (v := (1 : Int32)) (by decide) rfl
      replace G := own_iadd (q := 604) G X179.here hx (hb hby at_603) (by decide : ((1 : Int32) + (1 : Int32)) = (2 : Int32)) rfl
      replace G := own_i2l (q := 605) G X179.here hx (hb hby at_604) (by decide : ((2 : Int32).toInt64) = (2 : Int64)) rfl
      replace G : Gets p e below _ (T179.setTop (mkF m 608 #[.val (.long i0), .second, .val (.long i1), .second, .val (.int i2), .val (.int i3), .val (.int (6 : Int32)), .val (.int uu), .val (.long v0), .second, .val (.long v1), .second, .val (.long v2), .second, .val (.long v3), .second, .val (.long v4), .second, .val (.long v5), .second, .val (.long v6), .second, .val (.long v7), .second, .val (.ref b167), .val (.long v1), .second, .val (.int (1 : Int32)), .val (.long ((uu.toInt64) * (6 : Int64))), .second] [(.long (100 : Int64)), (.long (2 : Int64))])) := fun t k => G t (X179.ldc2Long hx hown (mvT hZ (hw _ (List.mem_of_getElem? (i := 13) rfl))) (g := (mkF m 605 #[.val (.long i0), .second, .val (.long i1), .second, .val (.int i2), .val (.int i3), .val (.int (6 : Int32)), .val (.int uu), .val (.long v0), .second, .val (.long v1), .second, .val (.long v2), .second, .val (.long v3), .second, .val (.long v4), .second, .val (.long v5), .second, .val (.long v6), .second, .val (.long v7), .second, .val (.ref b167), .val (.long v1), .second, .val (.int (1 : Int32)), .val (.long ((uu.toInt64) * (6 : Int64))), .second] [(.long (2 : Int64))])) rfl (hb hby at_605) t k)
      replace G := own_lmul (q := 609) G X179.here hx (hb hby at_608) (by decide : ((2 : Int64) * (100 : Int64)) = (200 : Int64)) rfl
      replace G := own_lload (q := 611) G X179.here hx (hb hby at_609) rfl rfl
      replace G := own_lcmp (q := 612) G X179.here hx (hb hby at_611) rfl
      have hc612_184 : ¬ ((200 : Int64) < ((uu.toInt64) * (6 : Int64))) := by
        rw [hj, show (1 : Int32).toInt = 1 from rfl] at sp
        have A := c_lmul uu.toInt64 6
        rw [c_i2l, show (6 : Int64).toInt = 6 from rfl] at A
        have RA := rng64 (uu.toInt64 * 6)
        have hB : 0 ≤ uu.toInt * 6 ∧ uu.toInt * 6 ≤ 800 := by omega
        have e : (uu.toInt64 * 6).toInt = uu.toInt * 6 := by
          generalize uu.toInt * 6 = P at A hB ⊢
          omega
        rw [own_ltL, e, show (200 : Int64).toInt = 200 from rfl]
        omega
      replace G := own_ifNo (q := 615) G X179.here hx (hb hby at_612) ((if0 _ _).trans (flt (fun z => hc612_184 ((lw_lt _ _).mp z))).1) rfl
      replace G := own_iload (q := 617) G X179.here hx (hb hby at_615) rfl rfl
      have hc617_185 : ¬ ((1 : Int32) = (0 : Int32)) := by decide
      replace G := own_ifNo (q := 620) G X179.here hx (hb hby at_617) ((if0 _ _).trans (feq hc617_185).1) rfl
      replace G := own_iload (q := 622) G X179.here hx (hb hby at_620) rfl rfl
      replace G := own_i2l (q := 623) G X179.here hx (hb hby at_622) (by decide : ((1 : Int32).toInt64) = (1 : Int64)) rfl
      replace G : Gets p e below _ (T179.setTop (mkF m 626 #[.val (.long i0), .second, .val (.long i1), .second, .val (.int i2), .val (.int i3), .val (.int (6 : Int32)), .val (.int uu), .val (.long v0), .second, .val (.long v1), .second, .val (.long v2), .second, .val (.long v3), .second, .val (.long v4), .second, .val (.long v5), .second, .val (.long v6), .second, .val (.long v7), .second, .val (.ref b167), .val (.long v1), .second, .val (.int (1 : Int32)), .val (.long ((uu.toInt64) * (6 : Int64))), .second] [(.long (100 : Int64)), (.long (1 : Int64))])) := fun t k => G t (X179.ldc2Long hx hown (mvT hZ (hw _ (List.mem_of_getElem? (i := 13) rfl))) (g := (mkF m 623 #[.val (.long i0), .second, .val (.long i1), .second, .val (.int i2), .val (.int i3), .val (.int (6 : Int32)), .val (.int uu), .val (.long v0), .second, .val (.long v1), .second, .val (.long v2), .second, .val (.long v3), .second, .val (.long v4), .second, .val (.long v5), .second, .val (.long v6), .second, .val (.long v7), .second, .val (.ref b167), .val (.long v1), .second, .val (.int (1 : Int32)), .val (.long ((uu.toInt64) * (6 : Int64))), .second] [(.long (1 : Int64))])) rfl (hb hby at_623) t k)
      replace G := own_lmul (q := 627) G X179.here hx (hb hby at_626) (by decide : ((1 : Int64) * (100 : Int64)) = (100 : Int64)) rfl
      replace G := own_lload (q := 629) G X179.here hx (hb hby at_627) rfl rfl
      replace G := own_lcmp (q := 630) G X179.here hx (hb hby at_629) rfl
      have hc630_186 : (100 : Int64) < ((uu.toInt64) * (6 : Int64)) := by
        rw [hj, show (1 : Int32).toInt = 1 from rfl] at sp
        have A := c_lmul uu.toInt64 6
        rw [c_i2l, show (6 : Int64).toInt = 6 from rfl] at A
        have RA := rng64 (uu.toInt64 * 6)
        have hB : 0 ≤ uu.toInt * 6 ∧ uu.toInt * 6 ≤ 800 := by omega
        have e : (uu.toInt64 * 6).toInt = uu.toInt * 6 := by
          generalize uu.toInt * 6 = P at A hB ⊢
          omega
        rw [own_ltL, e, show (100 : Int64).toInt = 100 from rfl]
        omega
      replace G := own_ifNo (q := 633) G X179.here hx (hb hby at_630) ((if0 _ _).trans (tlt ((lw_lt _ _).mpr hc630_186)).2.1) rfl
      replace G := own_iconst (q := 634) G X179.here hx (hb hby at_633) (v := (1 : Int32)) (by decide) rfl
      replace G := own_goto (q := 638) G X179.here hx (hb hby at_634) (by decide) (by decide)
      obtain ⟨fs, hr, hrun, hended, hW, hsame⟩ := X179.leave (v := some (.int (1 : Int32))) (fun h => by rw [Bd.returns] at h; cases h)
      refine ⟨_, _, G _ (retOut X179 hx Bd.returns rfl (Or.inl ⟨rfl, Or.inr (Or.inl rfl), _, rfl⟩) (hb hby at_638) hr), hrun, hended, _, _, rfl, ?_, ⟨_, rfl⟩, hW, hsame.mono (by decide) (by decide)⟩
      show Q0 Z i0 i1 i2 i3 h0 n0 _ T179.heap _
      rw [e179]
      exact ⟨rfl, N179⟩
    · obtain ⟨_, _, ⟨T187, L187, kk187, nn187⟩, -, X187, ⟨Lc187, hQ187, l187, y187, z187⟩, st187⟩ := Jvm.LawKit.callS X173 hx (y := (⟨"com/example/cued/cued/Bench", "percentile", "([JI)J"⟩ : MethodName)) hown (mvT hZ (hw _ (List.mem_of_getElem? (i := 3) rfl))) (mvT hZ (hw _ (List.mem_of_getElem? (i := 4) rfl))) (mvT hZ (hw _ (List.mem_of_getElem? (i := 5) rfl))) (mvT hZ (hw _ (List.mem_of_getElem? (i := 6) rfl))) (by decide) (backOf (W := 0) (rm1 l Z a0 hw [] b167 uu k167 (6 : Int32) [(.long v0), (.long v1), (.long v2), (.long v3), (.long v4), (.long v5)] v2 h173 n0 Z173 V173 (by decide) huu (by rw [hj]; rfl)) hZ (hw _ (List.mem_of_getElem? (i := 6) rfl)) (hw _ (List.mem_of_getElem? (i := 5) rfl)) (by decide) (by decide)) (g := (mkF m 421 #[.val (.long i0), .second, .val (.long i1), .second, .val (.int i2), .val (.int i3), .val (.int (6 : Int32)), .val (.int uu), .val (.long v0), .second, .val (.long v1), .second, .val (.long v2), .second, .val (.long v3), .second, .val (.long v4), .second, .val (.long v5), .second, .val (.long v6), .second, .val (.long v7), .second, .val (.ref b167), .unset, .unset, .unset, .unset, .unset] [(.int uu), (.ref b167)])) rfl (by rw [hml]; rfl) (argsL := [(.ref b167), (.int uu)]) (rest := []) (lenOf pd_1 rfl) rfl (by show 2 * 0 + _ ≤ _; exact Nat.le_of_eq rfl) (hb hby at_421) (fun _ _ => ⟨rfl, e173, (by decide : 1 + 0 ≤ _), (by decide : 6 + 0 ≤ _)⟩)
      dsimp only [Pt.U, Pt.locs, Pt.cells, Pt.slots] at X187 l187 y187 z187 st187 hQ187
      subst l187 y187 z187
      obtain ⟨rfl, N187q, e187⟩ := hQ187
      have N187 := Fr.app N173 N187q
      replace G : Gets p e below _ (T187.setTop (mkF m 424 #[.val (.long i0), .second, .val (.long i1), .second, .val (.int i2), .val (.int i3), .val (.int (6 : Int32)), .val (.int uu), .val (.long v0), .second, .val (.long v1), .second, .val (.long v2), .second, .val (.long v3), .second, .val (.long v4), .second, .val (.long v5), .second, .val (.long v6), .second, .val (.long v7), .second, .val (.ref b167), .unset, .unset, .unset, .unset, .unset] [(.long v2)])) := fun t k => G t (st187 t k)
      replace G := own_lstore (q := 426) (l' := #[.val (.long i0), .second, .val (.long i1), .second, .val (.int i2), .val (.int i3), .val (.int (6 : Int32)), .val (.int uu), .val (.long v0), .second, .val (.long v1), .second, .val (.long v2), .second, .val (.long v3), .second, .val (.long v4), .second, .val (.long v5), .second, .val (.long v6), .second, .val (.long v7), .second, .val (.ref b167), .val (.long v2), .second, .unset, .unset, .unset]) G X187.here hx (hb hby at_424) rfl rfl
      replace G := own_iconst (q := 427) G X187.here hx (hb hby at_426) (v := (-1 : Int32)) (by decide) rfl
      replace G := own_istore (q := 429) (l' := #[.val (.long i0), .second, .val (.long i1), .second, .val (.int i2), .val (.int i3), .val (.int (6 : Int32)), .val (.int uu), .val (.long v0), .second, .val (.long v1), .second, .val (.long v2), .second, .val (.long v3), .second, .val (.long v4), .second, .val (.long v5), .second, .val (.long v6), .second, .val (.long v7), .second, .val (.ref b167), .val (.long v2), .second, .val (.int (-1 : Int32)), .unset, .unset]) G X187.here hx (hb hby at_427) rfl rfl
      replace G := own_lload (q := 431) G X187.here hx (hb hby at_429) rfl rfl
      replace G := own_lload (q := 433) G X187.here hx (hb hby at_431) rfl rfl
      replace G := own_lcmp (q := 434) G X187.here hx (hb hby at_433) rfl
      have hc434_188 : ¬ (v2 = v0) := fun z => by have := congrArg Int64.toInt z; omega
      replace G := own_ifYes (q := 443) G X187.here hx (hb hby at_434) ((if0 _ _).trans (feq (fun z => hc434_188 ((lw_eq _ _).mp z))).2) (by decide) (by decide)
      replace G := own_iload (q := 445) G X187.here hx (hb hby at_443) rfl rfl
      replace G := own_iconst (q := 446) G X187.here hx (hb hby at_445) (v := (1 : Int32)) (by decide) rfl
      have hc446_189 : (1 : Int32) < (6 : Int32) := by decide
      replace G := own_icmpNo (q := 449) G X187.here hx (hb hby at_446) (tlt hc446_189).2.2.2 rfl
      replace G := own_lload (q := 451) G X187.here hx (hb hby at_449) rfl rfl
      replace G := own_lload (q := 453) G X187.here hx (hb hby at_451) rfl rfl
      replace G := own_lcmp (q := 454) G X187.here hx (hb hby at_453) rfl
      have hc454_190 : ¬ (v2 = v1) := fun z => by have := congrArg Int64.toInt z; omega
      replace G := own_ifYes (q := 463) G X187.here hx (hb hby at_454) ((if0 _ _).trans (feq (fun z => hc454_190 ((lw_eq _ _).mp z))).2) (by decide) (by decide)
      replace G := own_iload (q := 465) G X187.here hx (hb hby at_463) rfl rfl
      replace G := own_iconst (q := 466) G X187.here hx (hb hby at_465) (v := (2 : Int32)) (by decide) rfl
      have hc466_191 : (2 : Int32) < (6 : Int32) := by decide
      replace G := own_icmpNo (q := 469) G X187.here hx (hb hby at_466) (tlt hc466_191).2.2.2 rfl
      replace G := own_lload (q := 471) G X187.here hx (hb hby at_469) rfl rfl
      replace G := own_lload (q := 473) G X187.here hx (hb hby at_471) rfl rfl
      replace G := own_lcmp (q := 474) G X187.here hx (hb hby at_473) rfl
      have hc474_192 : v2 = v2 := rfl
      replace G := own_ifNo (q := 477) G X187.here hx (hb hby at_474) ((if0 _ _).trans (teq ((lw_eq _ _).mpr hc474_192)).2) rfl
      replace G := own_iconst (q := 478) G X187.here hx (hb hby at_477) (v := (2 : Int32)) (by decide) rfl
      replace G := own_istore (q := 480) (l' := #[.val (.long i0), .second, .val (.long i1), .second, .val (.int i2), .val (.int i3), .val (.int (6 : Int32)), .val (.int uu), .val (.long v0), .second, .val (.long v1), .second, .val (.long v2), .second, .val (.long v3), .second, .val (.long v4), .second, .val (.long v5), .second, .val (.long v6), .second, .val (.long v7), .second, .val (.ref b167), .val (.long v2), .second, .val (.int (2 : Int32)), .unset, .unset]) G X187.here hx (hb hby at_478) rfl rfl
      replace G := own_goto (q := 584) G X187.here hx (hb hby at_480) (by decide) (by decide)
      replace G := own_iload (q := 586) G X187.here hx (hb hby at_584) rfl rfl
      have hc586_193 : ¬ ((2 : Int32) < (0 : Int32)) := by decide
      replace G := own_ifYes (q := 591) G X187.here hx (hb hby at_586) ((if0 _ _).trans (flt hc586_193).2.1) (by decide) (by decide)
      replace G := own_iload (q := 593) G X187.here hx (hb hby at_591) rfl rfl
      replace G := own_i2l (q := 594) G X187.here hx (hb hby at_593) rfl rfl
      replace G := own_iload (q := 596) G X187.here hx (hb hby at_594) rfl rfl
      replace G := own_i2l (q := 597) G X187.here hx (hb hby at_596) (by decide : ((6 : Int32).toInt64) = (6 : Int64)) rfl
      replace G := own_lmul (q := 598) G X187.here hx (hb hby at_597) rfl rfl
      replace G := own_lstore (q := 600) (l' := #[.val (.long i0), .second, .val (.long i1), .second, .val (.int i2), .val (.int i3), .val (.int (6 : Int32)), .val (.int uu), .val (.long v0), .second, .val (.long v1), .second, .val (.long v2), .second, .val (.long v3), .second, .val (.long v4), .second, .val (.long v5), .second, .val (.long v6), .second, .val (.long v7), .second, .val (.ref b167), .val (.long v2), .second, .val (.int (2 : Int32)), .val (.long ((uu.toInt64) * (6 : Int64))), .second]) G X187.here hx (hb hby at_598) rfl rfl
      replace G := own_iload (q := 602) G X187.here hx (hb hby at_600) rfl rfl
      replace G := own_iconst (q := 603) G X187.here hx (hb hby at_602) (v := (1 : Int32)) (by decide) rfl
      replace G := own_iadd (q := 604) G X187.here hx (hb hby at_603) (by decide : ((2 : Int32) + (1 : Int32)) = (3 : Int32)) rfl
      replace G := own_i2l (q := 605) G X187.here hx (hb hby at_604) (by decide : ((3 : Int32).toInt64) = (3 : Int64)) rfl
      replace G : Gets p e below _ (T187.setTop (mkF m 608 #[.val (.long i0), .second, .val (.long i1), .second, .val (.int i2), .val (.int i3), .val (.int (6 : Int32)), .val (.int uu), .val (.long v0), .second, .val (.long v1), .second, .val (.long v2), .second, .val (.long v3), .second, .val (.long v4), .second, .val (.long v5), .second, .val (.long v6), .second, .val (.long v7), .second, .val (.ref b167), .val (.long v2), .second, .val (.int (2 : Int32)), .val (.long ((uu.toInt64) * (6 : Int64))), .second] [(.long (100 : Int64)), (.long (3 : Int64))])) := fun t k => G t (X187.ldc2Long hx hown (mvT hZ (hw _ (List.mem_of_getElem? (i := 13) rfl))) (g := (mkF m 605 #[.val (.long i0), .second, .val (.long i1), .second, .val (.int i2), .val (.int i3), .val (.int (6 : Int32)), .val (.int uu), .val (.long v0), .second, .val (.long v1), .second, .val (.long v2), .second, .val (.long v3), .second, .val (.long v4), .second, .val (.long v5), .second, .val (.long v6), .second, .val (.long v7), .second, .val (.ref b167), .val (.long v2), .second, .val (.int (2 : Int32)), .val (.long ((uu.toInt64) * (6 : Int64))), .second] [(.long (3 : Int64))])) rfl (hb hby at_605) t k)
      replace G := own_lmul (q := 609) G X187.here hx (hb hby at_608) (by decide : ((3 : Int64) * (100 : Int64)) = (300 : Int64)) rfl
      replace G := own_lload (q := 611) G X187.here hx (hb hby at_609) rfl rfl
      replace G := own_lcmp (q := 612) G X187.here hx (hb hby at_611) rfl
      have hc612_194 : ¬ ((300 : Int64) < ((uu.toInt64) * (6 : Int64))) := by
        rw [hj, show (2 : Int32).toInt = 2 from rfl] at sp
        have A := c_lmul uu.toInt64 6
        rw [c_i2l, show (6 : Int64).toInt = 6 from rfl] at A
        have RA := rng64 (uu.toInt64 * 6)
        have hB : 0 ≤ uu.toInt * 6 ∧ uu.toInt * 6 ≤ 800 := by omega
        have e : (uu.toInt64 * 6).toInt = uu.toInt * 6 := by
          generalize uu.toInt * 6 = P at A hB ⊢
          omega
        rw [own_ltL, e, show (300 : Int64).toInt = 300 from rfl]
        omega
      replace G := own_ifNo (q := 615) G X187.here hx (hb hby at_612) ((if0 _ _).trans (flt (fun z => hc612_194 ((lw_lt _ _).mp z))).1) rfl
      replace G := own_iload (q := 617) G X187.here hx (hb hby at_615) rfl rfl
      have hc617_195 : ¬ ((2 : Int32) = (0 : Int32)) := by decide
      replace G := own_ifNo (q := 620) G X187.here hx (hb hby at_617) ((if0 _ _).trans (feq hc617_195).1) rfl
      replace G := own_iload (q := 622) G X187.here hx (hb hby at_620) rfl rfl
      replace G := own_i2l (q := 623) G X187.here hx (hb hby at_622) (by decide : ((2 : Int32).toInt64) = (2 : Int64)) rfl
      replace G : Gets p e below _ (T187.setTop (mkF m 626 #[.val (.long i0), .second, .val (.long i1), .second, .val (.int i2), .val (.int i3), .val (.int (6 : Int32)), .val (.int uu), .val (.long v0), .second, .val (.long v1), .second, .val (.long v2), .second, .val (.long v3), .second, .val (.long v4), .second, .val (.long v5), .second, .val (.long v6), .second, .val (.long v7), .second, .val (.ref b167), .val (.long v2), .second, .val (.int (2 : Int32)), .val (.long ((uu.toInt64) * (6 : Int64))), .second] [(.long (100 : Int64)), (.long (2 : Int64))])) := fun t k => G t (X187.ldc2Long hx hown (mvT hZ (hw _ (List.mem_of_getElem? (i := 13) rfl))) (g := (mkF m 623 #[.val (.long i0), .second, .val (.long i1), .second, .val (.int i2), .val (.int i3), .val (.int (6 : Int32)), .val (.int uu), .val (.long v0), .second, .val (.long v1), .second, .val (.long v2), .second, .val (.long v3), .second, .val (.long v4), .second, .val (.long v5), .second, .val (.long v6), .second, .val (.long v7), .second, .val (.ref b167), .val (.long v2), .second, .val (.int (2 : Int32)), .val (.long ((uu.toInt64) * (6 : Int64))), .second] [(.long (2 : Int64))])) rfl (hb hby at_623) t k)
      replace G := own_lmul (q := 627) G X187.here hx (hb hby at_626) (by decide : ((2 : Int64) * (100 : Int64)) = (200 : Int64)) rfl
      replace G := own_lload (q := 629) G X187.here hx (hb hby at_627) rfl rfl
      replace G := own_lcmp (q := 630) G X187.here hx (hb hby at_629) rfl
      have hc630_196 : (200 : Int64) < ((uu.toInt64) * (6 : Int64)) := by
        rw [hj, show (2 : Int32).toInt = 2 from rfl] at sp
        have A := c_lmul uu.toInt64 6
        rw [c_i2l, show (6 : Int64).toInt = 6 from rfl] at A
        have RA := rng64 (uu.toInt64 * 6)
        have hB : 0 ≤ uu.toInt * 6 ∧ uu.toInt * 6 ≤ 800 := by omega
        have e : (uu.toInt64 * 6).toInt = uu.toInt * 6 := by
          generalize uu.toInt * 6 = P at A hB ⊢
          omega
        rw [own_ltL, e, show (200 : Int64).toInt = 200 from rfl]
        omega
      replace G := own_ifNo (q := 633) G X187.here hx (hb hby at_630) ((if0 _ _).trans (tlt ((lw_lt _ _).mpr hc630_196)).2.1) rfl
      replace G := own_iconst (q := 634) G X187.here hx (hb hby at_633) (v := (1 : Int32)) (by decide) rfl
      replace G := own_goto (q := 638) G X187.here hx (hb hby at_634) (by decide) (by decide)
      obtain ⟨fs, hr, hrun, hended, hW, hsame⟩ := X187.leave (v := some (.int (1 : Int32))) (fun h => by rw [Bd.returns] at h; cases h)
      refine ⟨_, _, G _ (retOut X187 hx Bd.returns rfl (Or.inl ⟨rfl, Or.inr (Or.inl rfl), _, rfl⟩) (hb hby at_638) hr), hrun, hended, _, _, rfl, ?_, ⟨_, rfl⟩, hW, hsame.mono (by decide) (by decide)⟩
      show Q0 Z i0 i1 i2 i3 h0 n0 _ T187.heap _
      rw [e187]
      exact ⟨rfl, N187⟩
    · obtain ⟨_, _, ⟨T197, L197, kk197, nn197⟩, -, X197, ⟨Lc197, hQ197, l197, y197, z197⟩, st197⟩ := Jvm.LawKit.callS X173 hx (y := (⟨"com/example/cued/cued/Bench", "percentile", "([JI)J"⟩ : MethodName)) hown (mvT hZ (hw _ (List.mem_of_getElem? (i := 3) rfl))) (mvT hZ (hw _ (List.mem_of_getElem? (i := 4) rfl))) (mvT hZ (hw _ (List.mem_of_getElem? (i := 5) rfl))) (mvT hZ (hw _ (List.mem_of_getElem? (i := 6) rfl))) (by decide) (backOf (W := 0) (rm1 l Z a0 hw [] b167 uu k167 (6 : Int32) [(.long v0), (.long v1), (.long v2), (.long v3), (.long v4), (.long v5)] v3 h173 n0 Z173 V173 (by decide) huu (by rw [hj]; rfl)) hZ (hw _ (List.mem_of_getElem? (i := 6) rfl)) (hw _ (List.mem_of_getElem? (i := 5) rfl)) (by decide) (by decide)) (g := (mkF m 421 #[.val (.long i0), .second, .val (.long i1), .second, .val (.int i2), .val (.int i3), .val (.int (6 : Int32)), .val (.int uu), .val (.long v0), .second, .val (.long v1), .second, .val (.long v2), .second, .val (.long v3), .second, .val (.long v4), .second, .val (.long v5), .second, .val (.long v6), .second, .val (.long v7), .second, .val (.ref b167), .unset, .unset, .unset, .unset, .unset] [(.int uu), (.ref b167)])) rfl (by rw [hml]; rfl) (argsL := [(.ref b167), (.int uu)]) (rest := []) (lenOf pd_1 rfl) rfl (by show 2 * 0 + _ ≤ _; exact Nat.le_of_eq rfl) (hb hby at_421) (fun _ _ => ⟨rfl, e173, (by decide : 1 + 0 ≤ _), (by decide : 6 + 0 ≤ _)⟩)
      dsimp only [Pt.U, Pt.locs, Pt.cells, Pt.slots] at X197 l197 y197 z197 st197 hQ197
      subst l197 y197 z197
      obtain ⟨rfl, N197q, e197⟩ := hQ197
      have N197 := Fr.app N173 N197q
      replace G : Gets p e below _ (T197.setTop (mkF m 424 #[.val (.long i0), .second, .val (.long i1), .second, .val (.int i2), .val (.int i3), .val (.int (6 : Int32)), .val (.int uu), .val (.long v0), .second, .val (.long v1), .second, .val (.long v2), .second, .val (.long v3), .second, .val (.long v4), .second, .val (.long v5), .second, .val (.long v6), .second, .val (.long v7), .second, .val (.ref b167), .unset, .unset, .unset, .unset, .unset] [(.long v3)])) := fun t k => G t (st197 t k)
      replace G := own_lstore (q := 426) (l' := #[.val (.long i0), .second, .val (.long i1), .second, .val (.int i2), .val (.int i3), .val (.int (6 : Int32)), .val (.int uu), .val (.long v0), .second, .val (.long v1), .second, .val (.long v2), .second, .val (.long v3), .second, .val (.long v4), .second, .val (.long v5), .second, .val (.long v6), .second, .val (.long v7), .second, .val (.ref b167), .val (.long v3), .second, .unset, .unset, .unset]) G X197.here hx (hb hby at_424) rfl rfl
      replace G := own_iconst (q := 427) G X197.here hx (hb hby at_426) (v := (-1 : Int32)) (by decide) rfl
      replace G := own_istore (q := 429) (l' := #[.val (.long i0), .second, .val (.long i1), .second, .val (.int i2), .val (.int i3), .val (.int (6 : Int32)), .val (.int uu), .val (.long v0), .second, .val (.long v1), .second, .val (.long v2), .second, .val (.long v3), .second, .val (.long v4), .second, .val (.long v5), .second, .val (.long v6), .second, .val (.long v7), .second, .val (.ref b167), .val (.long v3), .second, .val (.int (-1 : Int32)), .unset, .unset]) G X197.here hx (hb hby at_427) rfl rfl
      replace G := own_lload (q := 431) G X197.here hx (hb hby at_429) rfl rfl
      replace G := own_lload (q := 433) G X197.here hx (hb hby at_431) rfl rfl
      replace G := own_lcmp (q := 434) G X197.here hx (hb hby at_433) rfl
      have hc434_198 : ¬ (v3 = v0) := fun z => by have := congrArg Int64.toInt z; omega
      replace G := own_ifYes (q := 443) G X197.here hx (hb hby at_434) ((if0 _ _).trans (feq (fun z => hc434_198 ((lw_eq _ _).mp z))).2) (by decide) (by decide)
      replace G := own_iload (q := 445) G X197.here hx (hb hby at_443) rfl rfl
      replace G := own_iconst (q := 446) G X197.here hx (hb hby at_445) (v := (1 : Int32)) (by decide) rfl
      have hc446_199 : (1 : Int32) < (6 : Int32) := by decide
      replace G := own_icmpNo (q := 449) G X197.here hx (hb hby at_446) (tlt hc446_199).2.2.2 rfl
      replace G := own_lload (q := 451) G X197.here hx (hb hby at_449) rfl rfl
      replace G := own_lload (q := 453) G X197.here hx (hb hby at_451) rfl rfl
      replace G := own_lcmp (q := 454) G X197.here hx (hb hby at_453) rfl
      have hc454_200 : ¬ (v3 = v1) := fun z => by have := congrArg Int64.toInt z; omega
      replace G := own_ifYes (q := 463) G X197.here hx (hb hby at_454) ((if0 _ _).trans (feq (fun z => hc454_200 ((lw_eq _ _).mp z))).2) (by decide) (by decide)
      replace G := own_iload (q := 465) G X197.here hx (hb hby at_463) rfl rfl
      replace G := own_iconst (q := 466) G X197.here hx (hb hby at_465) (v := (2 : Int32)) (by decide) rfl
      have hc466_201 : (2 : Int32) < (6 : Int32) := by decide
      replace G := own_icmpNo (q := 469) G X197.here hx (hb hby at_466) (tlt hc466_201).2.2.2 rfl
      replace G := own_lload (q := 471) G X197.here hx (hb hby at_469) rfl rfl
      replace G := own_lload (q := 473) G X197.here hx (hb hby at_471) rfl rfl
      replace G := own_lcmp (q := 474) G X197.here hx (hb hby at_473) rfl
      have hc474_202 : ¬ (v3 = v2) := fun z => by have := congrArg Int64.toInt z; omega
      replace G := own_ifYes (q := 483) G X197.here hx (hb hby at_474) ((if0 _ _).trans (feq (fun z => hc474_202 ((lw_eq _ _).mp z))).2) (by decide) (by decide)
      replace G := own_iload (q := 485) G X197.here hx (hb hby at_483) rfl rfl
      replace G := own_iconst (q := 486) G X197.here hx (hb hby at_485) (v := (3 : Int32)) (by decide) rfl
      have hc486_203 : (3 : Int32) < (6 : Int32) := by decide
      replace G := own_icmpNo (q := 489) G X197.here hx (hb hby at_486) (tlt hc486_203).2.2.2 rfl
      replace G := own_lload (q := 491) G X197.here hx (hb hby at_489) rfl rfl
      replace G := own_lload (q := 493) G X197.here hx (hb hby at_491) rfl rfl
      replace G := own_lcmp (q := 494) G X197.here hx (hb hby at_493) rfl
      have hc494_204 : v3 = v3 := rfl
      replace G := own_ifNo (q := 497) G X197.here hx (hb hby at_494) ((if0 _ _).trans (teq ((lw_eq _ _).mpr hc494_204)).2) rfl
      replace G := own_iconst (q := 498) G X197.here hx (hb hby at_497) (v := (3 : Int32)) (by decide) rfl
      replace G := own_istore (q := 500) (l' := #[.val (.long i0), .second, .val (.long i1), .second, .val (.int i2), .val (.int i3), .val (.int (6 : Int32)), .val (.int uu), .val (.long v0), .second, .val (.long v1), .second, .val (.long v2), .second, .val (.long v3), .second, .val (.long v4), .second, .val (.long v5), .second, .val (.long v6), .second, .val (.long v7), .second, .val (.ref b167), .val (.long v3), .second, .val (.int (3 : Int32)), .unset, .unset]) G X197.here hx (hb hby at_498) rfl rfl
      replace G := own_goto (q := 584) G X197.here hx (hb hby at_500) (by decide) (by decide)
      replace G := own_iload (q := 586) G X197.here hx (hb hby at_584) rfl rfl
      have hc586_205 : ¬ ((3 : Int32) < (0 : Int32)) := by decide
      replace G := own_ifYes (q := 591) G X197.here hx (hb hby at_586) ((if0 _ _).trans (flt hc586_205).2.1) (by decide) (by decide)
      replace G := own_iload (q := 593) G X197.here hx (hb hby at_591) rfl rfl
      replace G := own_i2l (q := 594) G X197.here hx (hb hby at_593) rfl rfl
      replace G := own_iload (q := 596) G X197.here hx (hb hby at_594) rfl rfl
      replace G := own_i2l (q := 597) G X197.here hx (hb hby at_596) (by decide : ((6 : Int32).toInt64) = (6 : Int64)) rfl
      replace G := own_lmul (q := 598) G X197.here hx (hb hby at_597) rfl rfl
      replace G := own_lstore (q := 600) (l' := #[.val (.long i0), .second, .val (.long i1), .second, .val (.int i2), .val (.int i3), .val (.int (6 : Int32)), .val (.int uu), .val (.long v0), .second, .val (.long v1), .second, .val (.long v2), .second, .val (.long v3), .second, .val (.long v4), .second, .val (.long v5), .second, .val (.long v6), .second, .val (.long v7), .second, .val (.ref b167), .val (.long v3), .second, .val (.int (3 : Int32)), .val (.long ((uu.toInt64) * (6 : Int64))), .second]) G X197.here hx (hb hby at_598) rfl rfl
      replace G := own_iload (q := 602) G X197.here hx (hb hby at_600) rfl rfl
      replace G := own_iconst (q := 603) G X197.here hx (hb hby at_602) (v := (1 : Int32)) (by decide) rfl
      replace G := own_iadd (q := 604) G X197.here hx (hb hby at_603) (by decide : ((3 : Int32) + (1 : Int32)) = (4 : Int32)) rfl
      replace G := own_i2l (q := 605) G X197.here hx (hb hby at_604) (by decide : ((4 : Int32).toInt64) = (4 : Int64)) rfl
      replace G : Gets p e below _ (T197.setTop (mkF m 608 #[.val (.long i0), .second, .val (.long i1), .second, .val (.int i2), .val (.int i3), .val (.int (6 : Int32)), .val (.int uu), .val (.long v0), .second, .val (.long v1), .second, .val (.long v2), .second, .val (.long v3), .second, .val (.long v4), .second, .val (.long v5), .second, .val (.long v6), .second, .val (.long v7), .second, .val (.ref b167), .val (.long v3), .second, .val (.int (3 : Int32)), .val (.long ((uu.toInt64) * (6 : Int64))), .second] [(.long (100 : Int64)), (.long (4 : Int64))])) := fun t k => G t (X197.ldc2Long hx hown (mvT hZ (hw _ (List.mem_of_getElem? (i := 13) rfl))) (g := (mkF m 605 #[.val (.long i0), .second, .val (.long i1), .second, .val (.int i2), .val (.int i3), .val (.int (6 : Int32)), .val (.int uu), .val (.long v0), .second, .val (.long v1), .second, .val (.long v2), .second, .val (.long v3), .second, .val (.long v4), .second, .val (.long v5), .second, .val (.long v6), .second, .val (.long v7), .second, .val (.ref b167), .val (.long v3), .second, .val (.int (3 : Int32)), .val (.long ((uu.toInt64) * (6 : Int64))), .second] [(.long (4 : Int64))])) rfl (hb hby at_605) t k)
      replace G := own_lmul (q := 609) G X197.here hx (hb hby at_608) (by decide : ((4 : Int64) * (100 : Int64)) = (400 : Int64)) rfl
      replace G := own_lload (q := 611) G X197.here hx (hb hby at_609) rfl rfl
      replace G := own_lcmp (q := 612) G X197.here hx (hb hby at_611) rfl
      have hc612_206 : ¬ ((400 : Int64) < ((uu.toInt64) * (6 : Int64))) := by
        rw [hj, show (3 : Int32).toInt = 3 from rfl] at sp
        have A := c_lmul uu.toInt64 6
        rw [c_i2l, show (6 : Int64).toInt = 6 from rfl] at A
        have RA := rng64 (uu.toInt64 * 6)
        have hB : 0 ≤ uu.toInt * 6 ∧ uu.toInt * 6 ≤ 800 := by omega
        have e : (uu.toInt64 * 6).toInt = uu.toInt * 6 := by
          generalize uu.toInt * 6 = P at A hB ⊢
          omega
        rw [own_ltL, e, show (400 : Int64).toInt = 400 from rfl]
        omega
      replace G := own_ifNo (q := 615) G X197.here hx (hb hby at_612) ((if0 _ _).trans (flt (fun z => hc612_206 ((lw_lt _ _).mp z))).1) rfl
      replace G := own_iload (q := 617) G X197.here hx (hb hby at_615) rfl rfl
      have hc617_207 : ¬ ((3 : Int32) = (0 : Int32)) := by decide
      replace G := own_ifNo (q := 620) G X197.here hx (hb hby at_617) ((if0 _ _).trans (feq hc617_207).1) rfl
      replace G := own_iload (q := 622) G X197.here hx (hb hby at_620) rfl rfl
      replace G := own_i2l (q := 623) G X197.here hx (hb hby at_622) (by decide : ((3 : Int32).toInt64) = (3 : Int64)) rfl
      replace G : Gets p e below _ (T197.setTop (mkF m 626 #[.val (.long i0), .second, .val (.long i1), .second, .val (.int i2), .val (.int i3), .val (.int (6 : Int32)), .val (.int uu), .val (.long v0), .second, .val (.long v1), .second, .val (.long v2), .second, .val (.long v3), .second, .val (.long v4), .second, .val (.long v5), .second, .val (.long v6), .second, .val (.long v7), .second, .val (.ref b167), .val (.long v3), .second, .val (.int (3 : Int32)), .val (.long ((uu.toInt64) * (6 : Int64))), .second] [(.long (100 : Int64)), (.long (3 : Int64))])) := fun t k => G t (X197.ldc2Long hx hown (mvT hZ (hw _ (List.mem_of_getElem? (i := 13) rfl))) (g := (mkF m 623 #[.val (.long i0), .second, .val (.long i1), .second, .val (.int i2), .val (.int i3), .val (.int (6 : Int32)), .val (.int uu), .val (.long v0), .second, .val (.long v1), .second, .val (.long v2), .second, .val (.long v3), .second, .val (.long v4), .second, .val (.long v5), .second, .val (.long v6), .second, .val (.long v7), .second, .val (.ref b167), .val (.long v3), .second, .val (.int (3 : Int32)), .val (.long ((uu.toInt64) * (6 : Int64))), .second] [(.long (3 : Int64))])) rfl (hb hby at_623) t k)
      replace G := own_lmul (q := 627) G X197.here hx (hb hby at_626) (by decide : ((3 : Int64) * (100 : Int64)) = (300 : Int64)) rfl
      replace G := own_lload (q := 629) G X197.here hx (hb hby at_627) rfl rfl
      replace G := own_lcmp (q := 630) G X197.here hx (hb hby at_629) rfl
      have hc630_208 : (300 : Int64) < ((uu.toInt64) * (6 : Int64)) := by
        rw [hj, show (3 : Int32).toInt = 3 from rfl] at sp
        have A := c_lmul uu.toInt64 6
        rw [c_i2l, show (6 : Int64).toInt = 6 from rfl] at A
        have RA := rng64 (uu.toInt64 * 6)
        have hB : 0 ≤ uu.toInt * 6 ∧ uu.toInt * 6 ≤ 800 := by omega
        have e : (uu.toInt64 * 6).toInt = uu.toInt * 6 := by
          generalize uu.toInt * 6 = P at A hB ⊢
          omega
        rw [own_ltL, e, show (300 : Int64).toInt = 300 from rfl]
        omega
      replace G := own_ifNo (q := 633) G X197.here hx (hb hby at_630) ((if0 _ _).trans (tlt ((lw_lt _ _).mpr hc630_208)).2.1) rfl
      replace G := own_iconst (q := 634) G X197.here hx (hb hby at_633) (v := (1 : Int32)) (by decide) rfl
      replace G := own_goto (q := 638) G X197.here hx (hb hby at_634) (by decide) (by decide)
      obtain ⟨fs, hr, hrun, hended, hW, hsame⟩ := X197.leave (v := some (.int (1 : Int32))) (fun h => by rw [Bd.returns] at h; cases h)
      refine ⟨_, _, G _ (retOut X197 hx Bd.returns rfl (Or.inl ⟨rfl, Or.inr (Or.inl rfl), _, rfl⟩) (hb hby at_638) hr), hrun, hended, _, _, rfl, ?_, ⟨_, rfl⟩, hW, hsame.mono (by decide) (by decide)⟩
      show Q0 Z i0 i1 i2 i3 h0 n0 _ T197.heap _
      rw [e197]
      exact ⟨rfl, N197⟩
    · obtain ⟨_, _, ⟨T209, L209, kk209, nn209⟩, -, X209, ⟨Lc209, hQ209, l209, y209, z209⟩, st209⟩ := Jvm.LawKit.callS X173 hx (y := (⟨"com/example/cued/cued/Bench", "percentile", "([JI)J"⟩ : MethodName)) hown (mvT hZ (hw _ (List.mem_of_getElem? (i := 3) rfl))) (mvT hZ (hw _ (List.mem_of_getElem? (i := 4) rfl))) (mvT hZ (hw _ (List.mem_of_getElem? (i := 5) rfl))) (mvT hZ (hw _ (List.mem_of_getElem? (i := 6) rfl))) (by decide) (backOf (W := 0) (rm1 l Z a0 hw [] b167 uu k167 (6 : Int32) [(.long v0), (.long v1), (.long v2), (.long v3), (.long v4), (.long v5)] v4 h173 n0 Z173 V173 (by decide) huu (by rw [hj]; rfl)) hZ (hw _ (List.mem_of_getElem? (i := 6) rfl)) (hw _ (List.mem_of_getElem? (i := 5) rfl)) (by decide) (by decide)) (g := (mkF m 421 #[.val (.long i0), .second, .val (.long i1), .second, .val (.int i2), .val (.int i3), .val (.int (6 : Int32)), .val (.int uu), .val (.long v0), .second, .val (.long v1), .second, .val (.long v2), .second, .val (.long v3), .second, .val (.long v4), .second, .val (.long v5), .second, .val (.long v6), .second, .val (.long v7), .second, .val (.ref b167), .unset, .unset, .unset, .unset, .unset] [(.int uu), (.ref b167)])) rfl (by rw [hml]; rfl) (argsL := [(.ref b167), (.int uu)]) (rest := []) (lenOf pd_1 rfl) rfl (by show 2 * 0 + _ ≤ _; exact Nat.le_of_eq rfl) (hb hby at_421) (fun _ _ => ⟨rfl, e173, (by decide : 1 + 0 ≤ _), (by decide : 6 + 0 ≤ _)⟩)
      dsimp only [Pt.U, Pt.locs, Pt.cells, Pt.slots] at X209 l209 y209 z209 st209 hQ209
      subst l209 y209 z209
      obtain ⟨rfl, N209q, e209⟩ := hQ209
      have N209 := Fr.app N173 N209q
      replace G : Gets p e below _ (T209.setTop (mkF m 424 #[.val (.long i0), .second, .val (.long i1), .second, .val (.int i2), .val (.int i3), .val (.int (6 : Int32)), .val (.int uu), .val (.long v0), .second, .val (.long v1), .second, .val (.long v2), .second, .val (.long v3), .second, .val (.long v4), .second, .val (.long v5), .second, .val (.long v6), .second, .val (.long v7), .second, .val (.ref b167), .unset, .unset, .unset, .unset, .unset] [(.long v4)])) := fun t k => G t (st209 t k)
      replace G := own_lstore (q := 426) (l' := #[.val (.long i0), .second, .val (.long i1), .second, .val (.int i2), .val (.int i3), .val (.int (6 : Int32)), .val (.int uu), .val (.long v0), .second, .val (.long v1), .second, .val (.long v2), .second, .val (.long v3), .second, .val (.long v4), .second, .val (.long v5), .second, .val (.long v6), .second, .val (.long v7), .second, .val (.ref b167), .val (.long v4), .second, .unset, .unset, .unset]) G X209.here hx (hb hby at_424) rfl rfl
      replace G := own_iconst (q := 427) G X209.here hx (hb hby at_426) (v := (-1 : Int32)) (by decide) rfl
      replace G := own_istore (q := 429) (l' := #[.val (.long i0), .second, .val (.long i1), .second, .val (.int i2), .val (.int i3), .val (.int (6 : Int32)), .val (.int uu), .val (.long v0), .second, .val (.long v1), .second, .val (.long v2), .second, .val (.long v3), .second, .val (.long v4), .second, .val (.long v5), .second, .val (.long v6), .second, .val (.long v7), .second, .val (.ref b167), .val (.long v4), .second, .val (.int (-1 : Int32)), .unset, .unset]) G X209.here hx (hb hby at_427) rfl rfl
      replace G := own_lload (q := 431) G X209.here hx (hb hby at_429) rfl rfl
      replace G := own_lload (q := 433) G X209.here hx (hb hby at_431) rfl rfl
      replace G := own_lcmp (q := 434) G X209.here hx (hb hby at_433) rfl
      have hc434_210 : ¬ (v4 = v0) := fun z => by have := congrArg Int64.toInt z; omega
      replace G := own_ifYes (q := 443) G X209.here hx (hb hby at_434) ((if0 _ _).trans (feq (fun z => hc434_210 ((lw_eq _ _).mp z))).2) (by decide) (by decide)
      replace G := own_iload (q := 445) G X209.here hx (hb hby at_443) rfl rfl
      replace G := own_iconst (q := 446) G X209.here hx (hb hby at_445) (v := (1 : Int32)) (by decide) rfl
      have hc446_211 : (1 : Int32) < (6 : Int32) := by decide
      replace G := own_icmpNo (q := 449) G X209.here hx (hb hby at_446) (tlt hc446_211).2.2.2 rfl
      replace G := own_lload (q := 451) G X209.here hx (hb hby at_449) rfl rfl
      replace G := own_lload (q := 453) G X209.here hx (hb hby at_451) rfl rfl
      replace G := own_lcmp (q := 454) G X209.here hx (hb hby at_453) rfl
      have hc454_212 : ¬ (v4 = v1) := fun z => by have := congrArg Int64.toInt z; omega
      replace G := own_ifYes (q := 463) G X209.here hx (hb hby at_454) ((if0 _ _).trans (feq (fun z => hc454_212 ((lw_eq _ _).mp z))).2) (by decide) (by decide)
      replace G := own_iload (q := 465) G X209.here hx (hb hby at_463) rfl rfl
      replace G := own_iconst (q := 466) G X209.here hx (hb hby at_465) (v := (2 : Int32)) (by decide) rfl
      have hc466_213 : (2 : Int32) < (6 : Int32) := by decide
      replace G := own_icmpNo (q := 469) G X209.here hx (hb hby at_466) (tlt hc466_213).2.2.2 rfl
      replace G := own_lload (q := 471) G X209.here hx (hb hby at_469) rfl rfl
      replace G := own_lload (q := 473) G X209.here hx (hb hby at_471) rfl rfl
      replace G := own_lcmp (q := 474) G X209.here hx (hb hby at_473) rfl
      have hc474_214 : ¬ (v4 = v2) := fun z => by have := congrArg Int64.toInt z; omega
      replace G := own_ifYes (q := 483) G X209.here hx (hb hby at_474) ((if0 _ _).trans (feq (fun z => hc474_214 ((lw_eq _ _).mp z))).2) (by decide) (by decide)
      replace G := own_iload (q := 485) G X209.here hx (hb hby at_483) rfl rfl
      replace G := own_iconst (q := 486) G X209.here hx (hb hby at_485) (v := (3 : Int32)) (by decide) rfl
      have hc486_215 : (3 : Int32) < (6 : Int32) := by decide
      replace G := own_icmpNo (q := 489) G X209.here hx (hb hby at_486) (tlt hc486_215).2.2.2 rfl
      replace G := own_lload (q := 491) G X209.here hx (hb hby at_489) rfl rfl
      replace G := own_lload (q := 493) G X209.here hx (hb hby at_491) rfl rfl
      replace G := own_lcmp (q := 494) G X209.here hx (hb hby at_493) rfl
      have hc494_216 : ¬ (v4 = v3) := fun z => by have := congrArg Int64.toInt z; omega
      replace G := own_ifYes (q := 503) G X209.here hx (hb hby at_494) ((if0 _ _).trans (feq (fun z => hc494_216 ((lw_eq _ _).mp z))).2) (by decide) (by decide)
      replace G := own_iload (q := 505) G X209.here hx (hb hby at_503) rfl rfl
      replace G := own_iconst (q := 506) G X209.here hx (hb hby at_505) (v := (4 : Int32)) (by decide) rfl
      have hc506_217 : (4 : Int32) < (6 : Int32) := by decide
      replace G := own_icmpNo (q := 509) G X209.here hx (hb hby at_506) (tlt hc506_217).2.2.2 rfl
      replace G := own_lload (q := 511) G X209.here hx (hb hby at_509) rfl rfl
      replace G := own_lload (q := 513) G X209.here hx (hb hby at_511) rfl rfl
      replace G := own_lcmp (q := 514) G X209.here hx (hb hby at_513) rfl
      have hc514_218 : v4 = v4 := rfl
      replace G := own_ifNo (q := 517) G X209.here hx (hb hby at_514) ((if0 _ _).trans (teq ((lw_eq _ _).mpr hc514_218)).2) rfl
      replace G := own_iconst (q := 518) G X209.here hx (hb hby at_517) (v := (4 : Int32)) (by decide) rfl
      replace G := own_istore (q := 520) (l' := #[.val (.long i0), .second, .val (.long i1), .second, .val (.int i2), .val (.int i3), .val (.int (6 : Int32)), .val (.int uu), .val (.long v0), .second, .val (.long v1), .second, .val (.long v2), .second, .val (.long v3), .second, .val (.long v4), .second, .val (.long v5), .second, .val (.long v6), .second, .val (.long v7), .second, .val (.ref b167), .val (.long v4), .second, .val (.int (4 : Int32)), .unset, .unset]) G X209.here hx (hb hby at_518) rfl rfl
      replace G := own_goto (q := 584) G X209.here hx (hb hby at_520) (by decide) (by decide)
      replace G := own_iload (q := 586) G X209.here hx (hb hby at_584) rfl rfl
      have hc586_219 : ¬ ((4 : Int32) < (0 : Int32)) := by decide
      replace G := own_ifYes (q := 591) G X209.here hx (hb hby at_586) ((if0 _ _).trans (flt hc586_219).2.1) (by decide) (by decide)
      replace G := own_iload (q := 593) G X209.here hx (hb hby at_591) rfl rfl
      replace G := own_i2l (q := 594) G X209.here hx (hb hby at_593) rfl rfl
      replace G := own_iload (q := 596) G X209.here hx (hb hby at_594) rfl rfl
      replace G := own_i2l (q := 597) G X209.here hx (hb hby at_596) (by decide : ((6 : Int32).toInt64) = (6 : Int64)) rfl
      replace G := own_lmul (q := 598) G X209.here hx (hb hby at_597) rfl rfl
      replace G := own_lstore (q := 600) (l' := #[.val (.long i0), .second, .val (.long i1), .second, .val (.int i2), .val (.int i3), .val (.int (6 : Int32)), .val (.int uu), .val (.long v0), .second, .val (.long v1), .second, .val (.long v2), .second, .val (.long v3), .second, .val (.long v4), .second, .val (.long v5), .second, .val (.long v6), .second, .val (.long v7), .second, .val (.ref b167), .val (.long v4), .second, .val (.int (4 : Int32)), .val (.long ((uu.toInt64) * (6 : Int64))), .second]) G X209.here hx (hb hby at_598) rfl rfl
      replace G := own_iload (q := 602) G X209.here hx (hb hby at_600) rfl rfl
      replace G := own_iconst (q := 603) G X209.here hx (hb hby at_602) (v := (1 : Int32)) (by decide) rfl
      replace G := own_iadd (q := 604) G X209.here hx (hb hby at_603) (by decide : ((4 : Int32) + (1 : Int32)) = (5 : Int32)) rfl
      replace G := own_i2l (q := 605) G X209.here hx (hb hby at_604) (by decide : ((5 : Int32).toInt64) = (5 : Int64)) rfl
      replace G : Gets p e below _ (T209.setTop (mkF m 608 #[.val (.long i0), .second, .val (.long i1), .second, .val (.int i2), .val (.int i3), .val (.int (6 : Int32)), .val (.int uu), .val (.long v0), .second, .val (.long v1), .second, .val (.long v2), .second, .val (.long v3), .second, .val (.long v4), .second, .val (.long v5), .second, .val (.long v6), .second, .val (.long v7), .second, .val (.ref b167), .val (.long v4), .second, .val (.int (4 : Int32)), .val (.long ((uu.toInt64) * (6 : Int64))), .second] [(.long (100 : Int64)), (.long (5 : Int64))])) := fun t k => G t (X209.ldc2Long hx hown (mvT hZ (hw _ (List.mem_of_getElem? (i := 13) rfl))) (g := (mkF m 605 #[.val (.long i0), .second, .val (.long i1), .second, .val (.int i2), .val (.int i3), .val (.int (6 : Int32)), .val (.int uu), .val (.long v0), .second, .val (.long v1), .second, .val (.long v2), .second, .val (.long v3), .second, .val (.long v4), .second, .val (.long v5), .second, .val (.long v6), .second, .val (.long v7), .second, .val (.ref b167), .val (.long v4), .second, .val (.int (4 : Int32)), .val (.long ((uu.toInt64) * (6 : Int64))), .second] [(.long (5 : Int64))])) rfl (hb hby at_605) t k)
      replace G := own_lmul (q := 609) G X209.here hx (hb hby at_608) (by decide : ((5 : Int64) * (100 : Int64)) = (500 : Int64)) rfl
      replace G := own_lload (q := 611) G X209.here hx (hb hby at_609) rfl rfl
      replace G := own_lcmp (q := 612) G X209.here hx (hb hby at_611) rfl
      have hc612_220 : ¬ ((500 : Int64) < ((uu.toInt64) * (6 : Int64))) := by
        rw [hj, show (4 : Int32).toInt = 4 from rfl] at sp
        have A := c_lmul uu.toInt64 6
        rw [c_i2l, show (6 : Int64).toInt = 6 from rfl] at A
        have RA := rng64 (uu.toInt64 * 6)
        have hB : 0 ≤ uu.toInt * 6 ∧ uu.toInt * 6 ≤ 800 := by omega
        have e : (uu.toInt64 * 6).toInt = uu.toInt * 6 := by
          generalize uu.toInt * 6 = P at A hB ⊢
          omega
        rw [own_ltL, e, show (500 : Int64).toInt = 500 from rfl]
        omega
      replace G := own_ifNo (q := 615) G X209.here hx (hb hby at_612) ((if0 _ _).trans (flt (fun z => hc612_220 ((lw_lt _ _).mp z))).1) rfl
      replace G := own_iload (q := 617) G X209.here hx (hb hby at_615) rfl rfl
      have hc617_221 : ¬ ((4 : Int32) = (0 : Int32)) := by decide
      replace G := own_ifNo (q := 620) G X209.here hx (hb hby at_617) ((if0 _ _).trans (feq hc617_221).1) rfl
      replace G := own_iload (q := 622) G X209.here hx (hb hby at_620) rfl rfl
      replace G := own_i2l (q := 623) G X209.here hx (hb hby at_622) (by decide : ((4 : Int32).toInt64) = (4 : Int64)) rfl
      replace G : Gets p e below _ (T209.setTop (mkF m 626 #[.val (.long i0), .second, .val (.long i1), .second, .val (.int i2), .val (.int i3), .val (.int (6 : Int32)), .val (.int uu), .val (.long v0), .second, .val (.long v1), .second, .val (.long v2), .second, .val (.long v3), .second, .val (.long v4), .second, .val (.long v5), .second, .val (.long v6), .second, .val (.long v7), .second, .val (.ref b167), .val (.long v4), .second, .val (.int (4 : Int32)), .val (.long ((uu.toInt64) * (6 : Int64))), .second] [(.long (100 : Int64)), (.long (4 : Int64))])) := fun t k => G t (X209.ldc2Long hx hown (mvT hZ (hw _ (List.mem_of_getElem? (i := 13) rfl))) (g := (mkF m 623 #[.val (.long i0), .second, .val (.long i1), .second, .val (.int i2), .val (.int i3), .val (.int (6 : Int32)), .val (.int uu), .val (.long v0), .second, .val (.long v1), .second, .val (.long v2), .second, .val (.long v3), .second, .val (.long v4), .second, .val (.long v5), .second, .val (.long v6), .second, .val (.long v7), .second, .val (.ref b167), .val (.long v4), .second, .val (.int (4 : Int32)), .val (.long ((uu.toInt64) * (6 : Int64))), .second] [(.long (4 : Int64))])) rfl (hb hby at_623) t k)
      replace G := own_lmul (q := 627) G X209.here hx (hb hby at_626) (by decide : ((4 : Int64) * (100 : Int64)) = (400 : Int64)) rfl
      replace G := own_lload (q := 629) G X209.here hx (hb hby at_627) rfl rfl
      replace G := own_lcmp (q := 630) G X209.here hx (hb hby at_629) rfl
      have hc630_222 : (400 : Int64) < ((uu.toInt64) * (6 : Int64)) := by
        rw [hj, show (4 : Int32).toInt = 4 from rfl] at sp
        have A := c_lmul uu.toInt64 6
        rw [c_i2l, show (6 : Int64).toInt = 6 from rfl] at A
        have RA := rng64 (uu.toInt64 * 6)
        have hB : 0 ≤ uu.toInt * 6 ∧ uu.toInt * 6 ≤ 800 := by omega
        have e : (uu.toInt64 * 6).toInt = uu.toInt * 6 := by
          generalize uu.toInt * 6 = P at A hB ⊢
          omega
        rw [own_ltL, e, show (400 : Int64).toInt = 400 from rfl]
        omega
      replace G := own_ifNo (q := 633) G X209.here hx (hb hby at_630) ((if0 _ _).trans (tlt ((lw_lt _ _).mpr hc630_222)).2.1) rfl
      replace G := own_iconst (q := 634) G X209.here hx (hb hby at_633) (v := (1 : Int32)) (by decide) rfl
      replace G := own_goto (q := 638) G X209.here hx (hb hby at_634) (by decide) (by decide)
      obtain ⟨fs, hr, hrun, hended, hW, hsame⟩ := X209.leave (v := some (.int (1 : Int32))) (fun h => by rw [Bd.returns] at h; cases h)
      refine ⟨_, _, G _ (retOut X209 hx Bd.returns rfl (Or.inl ⟨rfl, Or.inr (Or.inl rfl), _, rfl⟩) (hb hby at_638) hr), hrun, hended, _, _, rfl, ?_, ⟨_, rfl⟩, hW, hsame.mono (by decide) (by decide)⟩
      show Q0 Z i0 i1 i2 i3 h0 n0 _ T209.heap _
      rw [e209]
      exact ⟨rfl, N209⟩
    · obtain ⟨_, _, ⟨T223, L223, kk223, nn223⟩, -, X223, ⟨Lc223, hQ223, l223, y223, z223⟩, st223⟩ := Jvm.LawKit.callS X173 hx (y := (⟨"com/example/cued/cued/Bench", "percentile", "([JI)J"⟩ : MethodName)) hown (mvT hZ (hw _ (List.mem_of_getElem? (i := 3) rfl))) (mvT hZ (hw _ (List.mem_of_getElem? (i := 4) rfl))) (mvT hZ (hw _ (List.mem_of_getElem? (i := 5) rfl))) (mvT hZ (hw _ (List.mem_of_getElem? (i := 6) rfl))) (by decide) (backOf (W := 0) (rm1 l Z a0 hw [] b167 uu k167 (6 : Int32) [(.long v0), (.long v1), (.long v2), (.long v3), (.long v4), (.long v5)] v5 h173 n0 Z173 V173 (by decide) huu (by rw [hj]; rfl)) hZ (hw _ (List.mem_of_getElem? (i := 6) rfl)) (hw _ (List.mem_of_getElem? (i := 5) rfl)) (by decide) (by decide)) (g := (mkF m 421 #[.val (.long i0), .second, .val (.long i1), .second, .val (.int i2), .val (.int i3), .val (.int (6 : Int32)), .val (.int uu), .val (.long v0), .second, .val (.long v1), .second, .val (.long v2), .second, .val (.long v3), .second, .val (.long v4), .second, .val (.long v5), .second, .val (.long v6), .second, .val (.long v7), .second, .val (.ref b167), .unset, .unset, .unset, .unset, .unset] [(.int uu), (.ref b167)])) rfl (by rw [hml]; rfl) (argsL := [(.ref b167), (.int uu)]) (rest := []) (lenOf pd_1 rfl) rfl (by show 2 * 0 + _ ≤ _; exact Nat.le_of_eq rfl) (hb hby at_421) (fun _ _ => ⟨rfl, e173, (by decide : 1 + 0 ≤ _), (by decide : 6 + 0 ≤ _)⟩)
      dsimp only [Pt.U, Pt.locs, Pt.cells, Pt.slots] at X223 l223 y223 z223 st223 hQ223
      subst l223 y223 z223
      obtain ⟨rfl, N223q, e223⟩ := hQ223
      have N223 := Fr.app N173 N223q
      replace G : Gets p e below _ (T223.setTop (mkF m 424 #[.val (.long i0), .second, .val (.long i1), .second, .val (.int i2), .val (.int i3), .val (.int (6 : Int32)), .val (.int uu), .val (.long v0), .second, .val (.long v1), .second, .val (.long v2), .second, .val (.long v3), .second, .val (.long v4), .second, .val (.long v5), .second, .val (.long v6), .second, .val (.long v7), .second, .val (.ref b167), .unset, .unset, .unset, .unset, .unset] [(.long v5)])) := fun t k => G t (st223 t k)
      replace G := own_lstore (q := 426) (l' := #[.val (.long i0), .second, .val (.long i1), .second, .val (.int i2), .val (.int i3), .val (.int (6 : Int32)), .val (.int uu), .val (.long v0), .second, .val (.long v1), .second, .val (.long v2), .second, .val (.long v3), .second, .val (.long v4), .second, .val (.long v5), .second, .val (.long v6), .second, .val (.long v7), .second, .val (.ref b167), .val (.long v5), .second, .unset, .unset, .unset]) G X223.here hx (hb hby at_424) rfl rfl
      replace G := own_iconst (q := 427) G X223.here hx (hb hby at_426) (v := (-1 : Int32)) (by decide) rfl
      replace G := own_istore (q := 429) (l' := #[.val (.long i0), .second, .val (.long i1), .second, .val (.int i2), .val (.int i3), .val (.int (6 : Int32)), .val (.int uu), .val (.long v0), .second, .val (.long v1), .second, .val (.long v2), .second, .val (.long v3), .second, .val (.long v4), .second, .val (.long v5), .second, .val (.long v6), .second, .val (.long v7), .second, .val (.ref b167), .val (.long v5), .second, .val (.int (-1 : Int32)), .unset, .unset]) G X223.here hx (hb hby at_427) rfl rfl
      replace G := own_lload (q := 431) G X223.here hx (hb hby at_429) rfl rfl
      replace G := own_lload (q := 433) G X223.here hx (hb hby at_431) rfl rfl
      replace G := own_lcmp (q := 434) G X223.here hx (hb hby at_433) rfl
      have hc434_224 : ¬ (v5 = v0) := fun z => by have := congrArg Int64.toInt z; omega
      replace G := own_ifYes (q := 443) G X223.here hx (hb hby at_434) ((if0 _ _).trans (feq (fun z => hc434_224 ((lw_eq _ _).mp z))).2) (by decide) (by decide)
      replace G := own_iload (q := 445) G X223.here hx (hb hby at_443) rfl rfl
      replace G := own_iconst (q := 446) G X223.here hx (hb hby at_445) (v := (1 : Int32)) (by decide) rfl
      have hc446_225 : (1 : Int32) < (6 : Int32) := by decide
      replace G := own_icmpNo (q := 449) G X223.here hx (hb hby at_446) (tlt hc446_225).2.2.2 rfl
      replace G := own_lload (q := 451) G X223.here hx (hb hby at_449) rfl rfl
      replace G := own_lload (q := 453) G X223.here hx (hb hby at_451) rfl rfl
      replace G := own_lcmp (q := 454) G X223.here hx (hb hby at_453) rfl
      have hc454_226 : ¬ (v5 = v1) := fun z => by have := congrArg Int64.toInt z; omega
      replace G := own_ifYes (q := 463) G X223.here hx (hb hby at_454) ((if0 _ _).trans (feq (fun z => hc454_226 ((lw_eq _ _).mp z))).2) (by decide) (by decide)
      replace G := own_iload (q := 465) G X223.here hx (hb hby at_463) rfl rfl
      replace G := own_iconst (q := 466) G X223.here hx (hb hby at_465) (v := (2 : Int32)) (by decide) rfl
      have hc466_227 : (2 : Int32) < (6 : Int32) := by decide
      replace G := own_icmpNo (q := 469) G X223.here hx (hb hby at_466) (tlt hc466_227).2.2.2 rfl
      replace G := own_lload (q := 471) G X223.here hx (hb hby at_469) rfl rfl
      replace G := own_lload (q := 473) G X223.here hx (hb hby at_471) rfl rfl
      replace G := own_lcmp (q := 474) G X223.here hx (hb hby at_473) rfl
      have hc474_228 : ¬ (v5 = v2) := fun z => by have := congrArg Int64.toInt z; omega
      replace G := own_ifYes (q := 483) G X223.here hx (hb hby at_474) ((if0 _ _).trans (feq (fun z => hc474_228 ((lw_eq _ _).mp z))).2) (by decide) (by decide)
      replace G := own_iload (q := 485) G X223.here hx (hb hby at_483) rfl rfl
      replace G := own_iconst (q := 486) G X223.here hx (hb hby at_485) (v := (3 : Int32)) (by decide) rfl
      have hc486_229 : (3 : Int32) < (6 : Int32) := by decide
      replace G := own_icmpNo (q := 489) G X223.here hx (hb hby at_486) (tlt hc486_229).2.2.2 rfl
      replace G := own_lload (q := 491) G X223.here hx (hb hby at_489) rfl rfl
      replace G := own_lload (q := 493) G X223.here hx (hb hby at_491) rfl rfl
      replace G := own_lcmp (q := 494) G X223.here hx (hb hby at_493) rfl
      have hc494_230 : ¬ (v5 = v3) := fun z => by have := congrArg Int64.toInt z; omega
      replace G := own_ifYes (q := 503) G X223.here hx (hb hby at_494) ((if0 _ _).trans (feq (fun z => hc494_230 ((lw_eq _ _).mp z))).2) (by decide) (by decide)
      replace G := own_iload (q := 505) G X223.here hx (hb hby at_503) rfl rfl
      replace G := own_iconst (q := 506) G X223.here hx (hb hby at_505) (v := (4 : Int32)) (by decide) rfl
      have hc506_231 : (4 : Int32) < (6 : Int32) := by decide
      replace G := own_icmpNo (q := 509) G X223.here hx (hb hby at_506) (tlt hc506_231).2.2.2 rfl
      replace G := own_lload (q := 511) G X223.here hx (hb hby at_509) rfl rfl
      replace G := own_lload (q := 513) G X223.here hx (hb hby at_511) rfl rfl
      replace G := own_lcmp (q := 514) G X223.here hx (hb hby at_513) rfl
      have hc514_232 : ¬ (v5 = v4) := fun z => by have := congrArg Int64.toInt z; omega
      replace G := own_ifYes (q := 523) G X223.here hx (hb hby at_514) ((if0 _ _).trans (feq (fun z => hc514_232 ((lw_eq _ _).mp z))).2) (by decide) (by decide)
      replace G := own_iload (q := 525) G X223.here hx (hb hby at_523) rfl rfl
      replace G := own_iconst (q := 526) G X223.here hx (hb hby at_525) (v := (5 : Int32)) (by decide) rfl
      have hc526_233 : (5 : Int32) < (6 : Int32) := by decide
      replace G := own_icmpNo (q := 529) G X223.here hx (hb hby at_526) (tlt hc526_233).2.2.2 rfl
      replace G := own_lload (q := 531) G X223.here hx (hb hby at_529) rfl rfl
      replace G := own_lload (q := 533) G X223.here hx (hb hby at_531) rfl rfl
      replace G := own_lcmp (q := 534) G X223.here hx (hb hby at_533) rfl
      have hc534_234 : v5 = v5 := rfl
      replace G := own_ifNo (q := 537) G X223.here hx (hb hby at_534) ((if0 _ _).trans (teq ((lw_eq _ _).mpr hc534_234)).2) rfl
      replace G := own_iconst (q := 538) G X223.here hx (hb hby at_537) (v := (5 : Int32)) (by decide) rfl
      replace G := own_istore (q := 540) (l' := #[.val (.long i0), .second, .val (.long i1), .second, .val (.int i2), .val (.int i3), .val (.int (6 : Int32)), .val (.int uu), .val (.long v0), .second, .val (.long v1), .second, .val (.long v2), .second, .val (.long v3), .second, .val (.long v4), .second, .val (.long v5), .second, .val (.long v6), .second, .val (.long v7), .second, .val (.ref b167), .val (.long v5), .second, .val (.int (5 : Int32)), .unset, .unset]) G X223.here hx (hb hby at_538) rfl rfl
      replace G := own_goto (q := 584) G X223.here hx (hb hby at_540) (by decide) (by decide)
      replace G := own_iload (q := 586) G X223.here hx (hb hby at_584) rfl rfl
      have hc586_235 : ¬ ((5 : Int32) < (0 : Int32)) := by decide
      replace G := own_ifYes (q := 591) G X223.here hx (hb hby at_586) ((if0 _ _).trans (flt hc586_235).2.1) (by decide) (by decide)
      replace G := own_iload (q := 593) G X223.here hx (hb hby at_591) rfl rfl
      replace G := own_i2l (q := 594) G X223.here hx (hb hby at_593) rfl rfl
      replace G := own_iload (q := 596) G X223.here hx (hb hby at_594) rfl rfl
      replace G := own_i2l (q := 597) G X223.here hx (hb hby at_596) (by decide : ((6 : Int32).toInt64) = (6 : Int64)) rfl
      replace G := own_lmul (q := 598) G X223.here hx (hb hby at_597) rfl rfl
      replace G := own_lstore (q := 600) (l' := #[.val (.long i0), .second, .val (.long i1), .second, .val (.int i2), .val (.int i3), .val (.int (6 : Int32)), .val (.int uu), .val (.long v0), .second, .val (.long v1), .second, .val (.long v2), .second, .val (.long v3), .second, .val (.long v4), .second, .val (.long v5), .second, .val (.long v6), .second, .val (.long v7), .second, .val (.ref b167), .val (.long v5), .second, .val (.int (5 : Int32)), .val (.long ((uu.toInt64) * (6 : Int64))), .second]) G X223.here hx (hb hby at_598) rfl rfl
      replace G := own_iload (q := 602) G X223.here hx (hb hby at_600) rfl rfl
      replace G := own_iconst (q := 603) G X223.here hx (hb hby at_602) (v := (1 : Int32)) (by decide) rfl
      replace G := own_iadd (q := 604) G X223.here hx (hb hby at_603) (by decide : ((5 : Int32) + (1 : Int32)) = (6 : Int32)) rfl
      replace G := own_i2l (q := 605) G X223.here hx (hb hby at_604) (by decide : ((6 : Int32).toInt64) = (6 : Int64)) rfl
      replace G : Gets p e below _ (T223.setTop (mkF m 608 #[.val (.long i0), .second, .val (.long i1), .second, .val (.int i2), .val (.int i3), .val (.int (6 : Int32)), .val (.int uu), .val (.long v0), .second, .val (.long v1), .second, .val (.long v2), .second, .val (.long v3), .second, .val (.long v4), .second, .val (.long v5), .second, .val (.long v6), .second, .val (.long v7), .second, .val (.ref b167), .val (.long v5), .second, .val (.int (5 : Int32)), .val (.long ((uu.toInt64) * (6 : Int64))), .second] [(.long (100 : Int64)), (.long (6 : Int64))])) := fun t k => G t (X223.ldc2Long hx hown (mvT hZ (hw _ (List.mem_of_getElem? (i := 13) rfl))) (g := (mkF m 605 #[.val (.long i0), .second, .val (.long i1), .second, .val (.int i2), .val (.int i3), .val (.int (6 : Int32)), .val (.int uu), .val (.long v0), .second, .val (.long v1), .second, .val (.long v2), .second, .val (.long v3), .second, .val (.long v4), .second, .val (.long v5), .second, .val (.long v6), .second, .val (.long v7), .second, .val (.ref b167), .val (.long v5), .second, .val (.int (5 : Int32)), .val (.long ((uu.toInt64) * (6 : Int64))), .second] [(.long (6 : Int64))])) rfl (hb hby at_605) t k)
      replace G := own_lmul (q := 609) G X223.here hx (hb hby at_608) (by decide : ((6 : Int64) * (100 : Int64)) = (600 : Int64)) rfl
      replace G := own_lload (q := 611) G X223.here hx (hb hby at_609) rfl rfl
      replace G := own_lcmp (q := 612) G X223.here hx (hb hby at_611) rfl
      have hc612_236 : ¬ ((600 : Int64) < ((uu.toInt64) * (6 : Int64))) := by
        rw [hj, show (5 : Int32).toInt = 5 from rfl] at sp
        have A := c_lmul uu.toInt64 6
        rw [c_i2l, show (6 : Int64).toInt = 6 from rfl] at A
        have RA := rng64 (uu.toInt64 * 6)
        have hB : 0 ≤ uu.toInt * 6 ∧ uu.toInt * 6 ≤ 800 := by omega
        have e : (uu.toInt64 * 6).toInt = uu.toInt * 6 := by
          generalize uu.toInt * 6 = P at A hB ⊢
          omega
        rw [own_ltL, e, show (600 : Int64).toInt = 600 from rfl]
        omega
      replace G := own_ifNo (q := 615) G X223.here hx (hb hby at_612) ((if0 _ _).trans (flt (fun z => hc612_236 ((lw_lt _ _).mp z))).1) rfl
      replace G := own_iload (q := 617) G X223.here hx (hb hby at_615) rfl rfl
      have hc617_237 : ¬ ((5 : Int32) = (0 : Int32)) := by decide
      replace G := own_ifNo (q := 620) G X223.here hx (hb hby at_617) ((if0 _ _).trans (feq hc617_237).1) rfl
      replace G := own_iload (q := 622) G X223.here hx (hb hby at_620) rfl rfl
      replace G := own_i2l (q := 623) G X223.here hx (hb hby at_622) (by decide : ((5 : Int32).toInt64) = (5 : Int64)) rfl
      replace G : Gets p e below _ (T223.setTop (mkF m 626 #[.val (.long i0), .second, .val (.long i1), .second, .val (.int i2), .val (.int i3), .val (.int (6 : Int32)), .val (.int uu), .val (.long v0), .second, .val (.long v1), .second, .val (.long v2), .second, .val (.long v3), .second, .val (.long v4), .second, .val (.long v5), .second, .val (.long v6), .second, .val (.long v7), .second, .val (.ref b167), .val (.long v5), .second, .val (.int (5 : Int32)), .val (.long ((uu.toInt64) * (6 : Int64))), .second] [(.long (100 : Int64)), (.long (5 : Int64))])) := fun t k => G t (X223.ldc2Long hx hown (mvT hZ (hw _ (List.mem_of_getElem? (i := 13) rfl))) (g := (mkF m 623 #[.val (.long i0), .second, .val (.long i1), .second, .val (.int i2), .val (.int i3), .val (.int (6 : Int32)), .val (.int uu), .val (.long v0), .second, .val (.long v1), .second, .val (.long v2), .second, .val (.long v3), .second, .val (.long v4), .second, .val (.long v5), .second, .val (.long v6), .second, .val (.long v7), .second, .val (.ref b167), .val (.long v5), .second, .val (.int (5 : Int32)), .val (.long ((uu.toInt64) * (6 : Int64))), .second] [(.long (5 : Int64))])) rfl (hb hby at_623) t k)
      replace G := own_lmul (q := 627) G X223.here hx (hb hby at_626) (by decide : ((5 : Int64) * (100 : Int64)) = (500 : Int64)) rfl
      replace G := own_lload (q := 629) G X223.here hx (hb hby at_627) rfl rfl
      replace G := own_lcmp (q := 630) G X223.here hx (hb hby at_629) rfl
      have hc630_238 : (500 : Int64) < ((uu.toInt64) * (6 : Int64)) := by
        rw [hj, show (5 : Int32).toInt = 5 from rfl] at sp
        have A := c_lmul uu.toInt64 6
        rw [c_i2l, show (6 : Int64).toInt = 6 from rfl] at A
        have RA := rng64 (uu.toInt64 * 6)
        have hB : 0 ≤ uu.toInt * 6 ∧ uu.toInt * 6 ≤ 800 := by omega
        have e : (uu.toInt64 * 6).toInt = uu.toInt * 6 := by
          generalize uu.toInt * 6 = P at A hB ⊢
          omega
        rw [own_ltL, e, show (500 : Int64).toInt = 500 from rfl]
        omega
      replace G := own_ifNo (q := 633) G X223.here hx (hb hby at_630) ((if0 _ _).trans (tlt ((lw_lt _ _).mpr hc630_238)).2.1) rfl
      replace G := own_iconst (q := 634) G X223.here hx (hb hby at_633) (v := (1 : Int32)) (by decide) rfl
      replace G := own_goto (q := 638) G X223.here hx (hb hby at_634) (by decide) (by decide)
      obtain ⟨fs, hr, hrun, hended, hW, hsame⟩ := X223.leave (v := some (.int (1 : Int32))) (fun h => by rw [Bd.returns] at h; cases h)
      refine ⟨_, _, G _ (retOut X223 hx Bd.returns rfl (Or.inl ⟨rfl, Or.inr (Or.inl rfl), _, rfl⟩) (hb hby at_638) hr), hrun, hended, _, _, rfl, ?_, ⟨_, rfl⟩, hW, hsame.mono (by decide) (by decide)⟩
      show Q0 Z i0 i1 i2 i3 h0 n0 _ T223.heap _
      rw [e223]
      exact ⟨rfl, N223⟩
  · replace G := own_iload (q := 128) G X0.here hx (hb hby at_126) rfl rfl
    replace G := own_iconst (q := 129) G X0.here hx (hb hby at_128) (v := (1 : Int32)) (by decide) rfl
    have hc129_239 : ¬ ((7 : Int32) = (1 : Int32)) := by decide
    replace G := own_icmpYes (q := 145) G X0.here hx (hb hby at_129) (feq hc129_239).2 (by decide) (by decide)
    replace G := own_iload (q := 147) G X0.here hx (hb hby at_145) rfl rfl
    replace G := own_iconst (q := 148) G X0.here hx (hb hby at_147) (v := (2 : Int32)) (by decide) rfl
    have hc148_240 : ¬ ((7 : Int32) = (2 : Int32)) := by decide
    replace G := own_icmpYes (q := 169) G X0.here hx (hb hby at_148) (feq hc148_240).2 (by decide) (by decide)
    replace G := own_iload (q := 171) G X0.here hx (hb hby at_169) rfl rfl
    replace G := own_iconst (q := 172) G X0.here hx (hb hby at_171) (v := (3 : Int32)) (by decide) rfl
    have hc172_241 : ¬ ((7 : Int32) = (3 : Int32)) := by decide
    replace G := own_icmpYes (q := 198) G X0.here hx (hb hby at_172) (feq hc172_241).2 (by decide) (by decide)
    replace G := own_iload (q := 200) G X0.here hx (hb hby at_198) rfl rfl
    replace G := own_iconst (q := 201) G X0.here hx (hb hby at_200) (v := (4 : Int32)) (by decide) rfl
    have hc201_242 : ¬ ((7 : Int32) = (4 : Int32)) := by decide
    replace G := own_icmpYes (q := 232) G X0.here hx (hb hby at_201) (feq hc201_242).2 (by decide) (by decide)
    replace G := own_iload (q := 234) G X0.here hx (hb hby at_232) rfl rfl
    replace G := own_iconst (q := 235) G X0.here hx (hb hby at_234) (v := (5 : Int32)) (by decide) rfl
    have hc235_243 : ¬ ((7 : Int32) = (5 : Int32)) := by decide
    replace G := own_icmpYes (q := 271) G X0.here hx (hb hby at_235) (feq hc235_243).2 (by decide) (by decide)
    replace G := own_iload (q := 273) G X0.here hx (hb hby at_271) rfl rfl
    replace G := own_bipush (q := 275) G X0.here hx (hb hby at_273) (v := (6 : Int32)) (by decide) rfl
    have hc275_244 : ¬ ((7 : Int32) = (6 : Int32)) := by decide
    replace G := own_icmpYes (q := 317) G X0.here hx (hb hby at_275) (feq hc275_244).2 (by decide) (by decide)
    replace G := own_iload (q := 319) G X0.here hx (hb hby at_317) rfl rfl
    replace G := own_bipush (q := 321) G X0.here hx (hb hby at_319) (v := (7 : Int32)) (by decide) rfl
    have hc321_245 : (7 : Int32) = (7 : Int32) := by decide
    replace G := own_icmpNo (q := 324) G X0.here hx (hb hby at_321) (teq hc321_245).2 rfl
    replace G := own_bipush (q := 326) G X0.here hx (hb hby at_324) (v := (7 : Int32)) (by decide) rfl
    obtain ⟨T246, h246, k246, X246, e246, E246, A246, st246⟩ := newP X0 hx hZ (hw _ (List.mem_of_getElem? (i := 2) rfl)) e0 (g := (mkF m 326 #[.val (.long i0), .second, .val (.long i1), .second, .val (.int i2), .val (.int i3), .val (.int (7 : Int32)), .val (.int uu), .val (.long v0), .second, .val (.long v1), .second, .val (.long v2), .second, .val (.long v3), .second, .val (.long v4), .second, .val (.long v5), .second, .val (.long v6), .second, .val (.long v7), .second, .unset, .unset, .unset, .unset, .unset, .unset] [(.int (7 : Int32))])) rfl (hb hby at_326) rfl (by decide) (cap := 7) (by decide) (by decide) (by decide) (by decide)
    obtain ⟨b246, g246⟩ : ∃ z, z = h0.size := ⟨_, rfl⟩
    rw [← g246] at A246 st246
    have ge_b246 : n0 ≤ b246 := Nat.le_trans Z0 (Nat.le_of_eq g246.symm)
    have Z246 : n0 ≤ h246.size := Nat.le_trans Z0 E246.1
    have V246 : Arv Z h246 b246 k246 .long (7 : Int32) [(.long (0 : Int64)), (.long (0 : Int64)), (.long (0 : Int64)), (.long (0 : Int64)), (.long (0 : Int64)), (.long (0 : Int64)), (.long (0 : Int64))] (.long (0 : Int64)) := (Arv.new A246 (by decide)).pad (pad_rep [] (.long (0 : Int64)) 7)
    replace G : Gets p e below _ (T246.setTop (mkF m 328 #[.val (.long i0), .second, .val (.long i1), .second, .val (.int i2), .val (.int i3), .val (.int (7 : Int32)), .val (.int uu), .val (.long v0), .second, .val (.long v1), .second, .val (.long v2), .second, .val (.long v3), .second, .val (.long v4), .second, .val (.long v5), .second, .val (.long v6), .second, .val (.long v7), .second, .unset, .unset, .unset, .unset, .unset, .unset] [(.ref b246)])) := fun t k => G t (st246 t k)
    replace G := own_dup (q := 329) G X246.here hx (hb hby at_328) rfl rfl
    replace G := own_iconst (q := 330) G X246.here hx (hb hby at_329) (v := (0 : Int32)) (by decide) rfl
    replace G := own_lload (q := 332) G X246.here hx (hb hby at_330) rfl rfl
    obtain ⟨c247, Ar247, q247, S247, N247', H247, G247'⟩ := id V246
    have hin247 : ¬ ((0 : Int32) < 0 ∨ c247.slots.size ≤ ((0 : Int32)).toNatClampNeg) := inb_of S247 ⟨by decide, by decide⟩
    obtain ⟨T247, h247, X247, e247, W247, st247⟩ := stJ X246 hx hZ e246 Ar247 (j := (0 : Int32)) hin247 (g := (mkF m 332 #[.val (.long i0), .second, .val (.long i1), .second, .val (.int i2), .val (.int i3), .val (.int (7 : Int32)), .val (.int uu), .val (.long v0), .second, .val (.long v1), .second, .val (.long v2), .second, .val (.long v3), .second, .val (.long v4), .second, .val (.long v5), .second, .val (.long v6), .second, .val (.long v7), .second, .unset, .unset, .unset, .unset, .unset, .unset] [(.long v0), (.int (0 : Int32)), (.ref b246), (.ref b246)])) rfl rfl (hb hby at_332)
    have N247 := Fr.snoc X247 N0 ge_b246
    have Z247 : n0 ≤ h247.size := Nat.le_trans Z246 (Keep.of_wr W247).1
    have V247 : Arv Z h247 b246 k246 .long (7 : Int32) [(.long v0), (.long (0 : Int64)), (.long (0 : Int64)), (.long (0 : Int64)), (.long (0 : Int64)), (.long (0 : Int64)), (.long (0 : Int64))] (.long (0 : Int64)) := Arv.set Ar247 q247 S247 N247' H247 G247' rfl W247 0 rfl (Nat.le_of_ble_eq_true rfl)
    replace G : Gets p e below _ (T247.setTop (mkF m 333 #[.val (.long i0), .second, .val (.long i1), .second, .val (.int i2), .val (.int i3), .val (.int (7 : Int32)), .val (.int uu), .val (.long v0), .second, .val (.long v1), .second, .val (.long v2), .second, .val (.long v3), .second, .val (.long v4), .second, .val (.long v5), .second, .val (.long v6), .second, .val (.long v7), .second, .unset, .unset, .unset, .unset, .unset, .unset] [(.ref b246)])) := fun t k => G t (st247 t k)
    replace G := own_dup (q := 334) G X247.here hx (hb hby at_333) rfl rfl
    replace G := own_iconst (q := 335) G X247.here hx (hb hby at_334) (v := (1 : Int32)) (by decide) rfl
    replace G := own_lload (q := 337) G X247.here hx (hb hby at_335) rfl rfl
    obtain ⟨c248, Ar248, q248, S248, N248', H248, G248'⟩ := id V247
    have hin248 : ¬ ((1 : Int32) < 0 ∨ c248.slots.size ≤ ((1 : Int32)).toNatClampNeg) := inb_of S248 ⟨by decide, by decide⟩
    obtain ⟨T248, h248, X248, e248, W248, st248⟩ := stJ X247 hx hZ e247 Ar248 (j := (1 : Int32)) hin248 (g := (mkF m 337 #[.val (.long i0), .second, .val (.long i1), .second, .val (.int i2), .val (.int i3), .val (.int (7 : Int32)), .val (.int uu), .val (.long v0), .second, .val (.long v1), .second, .val (.long v2), .second, .val (.long v3), .second, .val (.long v4), .second, .val (.long v5), .second, .val (.long v6), .second, .val (.long v7), .second, .unset, .unset, .unset, .unset, .unset, .unset] [(.long v1), (.int (1 : Int32)), (.ref b246), (.ref b246)])) rfl rfl (hb hby at_337)
    have N248 := Fr.snoc X248 N247 ge_b246
    have Z248 : n0 ≤ h248.size := Nat.le_trans Z247 (Keep.of_wr W248).1
    have V248 : Arv Z h248 b246 k246 .long (7 : Int32) [(.long v0), (.long v1), (.long (0 : Int64)), (.long (0 : Int64)), (.long (0 : Int64)), (.long (0 : Int64)), (.long (0 : Int64))] (.long (0 : Int64)) := Arv.set Ar248 q248 S248 N248' H248 G248' rfl W248 1 rfl (Nat.le_of_ble_eq_true rfl)
    replace G : Gets p e below _ (T248.setTop (mkF m 338 #[.val (.long i0), .second, .val (.long i1), .second, .val (.int i2), .val (.int i3), .val (.int (7 : Int32)), .val (.int uu), .val (.long v0), .second, .val (.long v1), .second, .val (.long v2), .second, .val (.long v3), .second, .val (.long v4), .second, .val (.long v5), .second, .val (.long v6), .second, .val (.long v7), .second, .unset, .unset, .unset, .unset, .unset, .unset] [(.ref b246)])) := fun t k => G t (st248 t k)
    replace G := own_dup (q := 339) G X248.here hx (hb hby at_338) rfl rfl
    replace G := own_iconst (q := 340) G X248.here hx (hb hby at_339) (v := (2 : Int32)) (by decide) rfl
    replace G := own_lload (q := 342) G X248.here hx (hb hby at_340) rfl rfl
    obtain ⟨c249, Ar249, q249, S249, N249', H249, G249'⟩ := id V248
    have hin249 : ¬ ((2 : Int32) < 0 ∨ c249.slots.size ≤ ((2 : Int32)).toNatClampNeg) := inb_of S249 ⟨by decide, by decide⟩
    obtain ⟨T249, h249, X249, e249, W249, st249⟩ := stJ X248 hx hZ e248 Ar249 (j := (2 : Int32)) hin249 (g := (mkF m 342 #[.val (.long i0), .second, .val (.long i1), .second, .val (.int i2), .val (.int i3), .val (.int (7 : Int32)), .val (.int uu), .val (.long v0), .second, .val (.long v1), .second, .val (.long v2), .second, .val (.long v3), .second, .val (.long v4), .second, .val (.long v5), .second, .val (.long v6), .second, .val (.long v7), .second, .unset, .unset, .unset, .unset, .unset, .unset] [(.long v2), (.int (2 : Int32)), (.ref b246), (.ref b246)])) rfl rfl (hb hby at_342)
    have N249 := Fr.snoc X249 N248 ge_b246
    have Z249 : n0 ≤ h249.size := Nat.le_trans Z248 (Keep.of_wr W249).1
    have V249 : Arv Z h249 b246 k246 .long (7 : Int32) [(.long v0), (.long v1), (.long v2), (.long (0 : Int64)), (.long (0 : Int64)), (.long (0 : Int64)), (.long (0 : Int64))] (.long (0 : Int64)) := Arv.set Ar249 q249 S249 N249' H249 G249' rfl W249 2 rfl (Nat.le_of_ble_eq_true rfl)
    replace G : Gets p e below _ (T249.setTop (mkF m 343 #[.val (.long i0), .second, .val (.long i1), .second, .val (.int i2), .val (.int i3), .val (.int (7 : Int32)), .val (.int uu), .val (.long v0), .second, .val (.long v1), .second, .val (.long v2), .second, .val (.long v3), .second, .val (.long v4), .second, .val (.long v5), .second, .val (.long v6), .second, .val (.long v7), .second, .unset, .unset, .unset, .unset, .unset, .unset] [(.ref b246)])) := fun t k => G t (st249 t k)
    replace G := own_dup (q := 344) G X249.here hx (hb hby at_343) rfl rfl
    replace G := own_iconst (q := 345) G X249.here hx (hb hby at_344) (v := (3 : Int32)) (by decide) rfl
    replace G := own_lload (q := 347) G X249.here hx (hb hby at_345) rfl rfl
    obtain ⟨c250, Ar250, q250, S250, N250', H250, G250'⟩ := id V249
    have hin250 : ¬ ((3 : Int32) < 0 ∨ c250.slots.size ≤ ((3 : Int32)).toNatClampNeg) := inb_of S250 ⟨by decide, by decide⟩
    obtain ⟨T250, h250, X250, e250, W250, st250⟩ := stJ X249 hx hZ e249 Ar250 (j := (3 : Int32)) hin250 (g := (mkF m 347 #[.val (.long i0), .second, .val (.long i1), .second, .val (.int i2), .val (.int i3), .val (.int (7 : Int32)), .val (.int uu), .val (.long v0), .second, .val (.long v1), .second, .val (.long v2), .second, .val (.long v3), .second, .val (.long v4), .second, .val (.long v5), .second, .val (.long v6), .second, .val (.long v7), .second, .unset, .unset, .unset, .unset, .unset, .unset] [(.long v3), (.int (3 : Int32)), (.ref b246), (.ref b246)])) rfl rfl (hb hby at_347)
    have N250 := Fr.snoc X250 N249 ge_b246
    have Z250 : n0 ≤ h250.size := Nat.le_trans Z249 (Keep.of_wr W250).1
    have V250 : Arv Z h250 b246 k246 .long (7 : Int32) [(.long v0), (.long v1), (.long v2), (.long v3), (.long (0 : Int64)), (.long (0 : Int64)), (.long (0 : Int64))] (.long (0 : Int64)) := Arv.set Ar250 q250 S250 N250' H250 G250' rfl W250 3 rfl (Nat.le_of_ble_eq_true rfl)
    replace G : Gets p e below _ (T250.setTop (mkF m 348 #[.val (.long i0), .second, .val (.long i1), .second, .val (.int i2), .val (.int i3), .val (.int (7 : Int32)), .val (.int uu), .val (.long v0), .second, .val (.long v1), .second, .val (.long v2), .second, .val (.long v3), .second, .val (.long v4), .second, .val (.long v5), .second, .val (.long v6), .second, .val (.long v7), .second, .unset, .unset, .unset, .unset, .unset, .unset] [(.ref b246)])) := fun t k => G t (st250 t k)
    replace G := own_dup (q := 349) G X250.here hx (hb hby at_348) rfl rfl
    replace G := own_iconst (q := 350) G X250.here hx (hb hby at_349) (v := (4 : Int32)) (by decide) rfl
    replace G := own_lload (q := 352) G X250.here hx (hb hby at_350) rfl rfl
    obtain ⟨c251, Ar251, q251, S251, N251', H251, G251'⟩ := id V250
    have hin251 : ¬ ((4 : Int32) < 0 ∨ c251.slots.size ≤ ((4 : Int32)).toNatClampNeg) := inb_of S251 ⟨by decide, by decide⟩
    obtain ⟨T251, h251, X251, e251, W251, st251⟩ := stJ X250 hx hZ e250 Ar251 (j := (4 : Int32)) hin251 (g := (mkF m 352 #[.val (.long i0), .second, .val (.long i1), .second, .val (.int i2), .val (.int i3), .val (.int (7 : Int32)), .val (.int uu), .val (.long v0), .second, .val (.long v1), .second, .val (.long v2), .second, .val (.long v3), .second, .val (.long v4), .second, .val (.long v5), .second, .val (.long v6), .second, .val (.long v7), .second, .unset, .unset, .unset, .unset, .unset, .unset] [(.long v4), (.int (4 : Int32)), (.ref b246), (.ref b246)])) rfl rfl (hb hby at_352)
    have N251 := Fr.snoc X251 N250 ge_b246
    have Z251 : n0 ≤ h251.size := Nat.le_trans Z250 (Keep.of_wr W251).1
    have V251 : Arv Z h251 b246 k246 .long (7 : Int32) [(.long v0), (.long v1), (.long v2), (.long v3), (.long v4), (.long (0 : Int64)), (.long (0 : Int64))] (.long (0 : Int64)) := Arv.set Ar251 q251 S251 N251' H251 G251' rfl W251 4 rfl (Nat.le_of_ble_eq_true rfl)
    replace G : Gets p e below _ (T251.setTop (mkF m 353 #[.val (.long i0), .second, .val (.long i1), .second, .val (.int i2), .val (.int i3), .val (.int (7 : Int32)), .val (.int uu), .val (.long v0), .second, .val (.long v1), .second, .val (.long v2), .second, .val (.long v3), .second, .val (.long v4), .second, .val (.long v5), .second, .val (.long v6), .second, .val (.long v7), .second, .unset, .unset, .unset, .unset, .unset, .unset] [(.ref b246)])) := fun t k => G t (st251 t k)
    replace G := own_dup (q := 354) G X251.here hx (hb hby at_353) rfl rfl
    replace G := own_iconst (q := 355) G X251.here hx (hb hby at_354) (v := (5 : Int32)) (by decide) rfl
    replace G := own_lload (q := 357) G X251.here hx (hb hby at_355) rfl rfl
    obtain ⟨c252, Ar252, q252, S252, N252', H252, G252'⟩ := id V251
    have hin252 : ¬ ((5 : Int32) < 0 ∨ c252.slots.size ≤ ((5 : Int32)).toNatClampNeg) := inb_of S252 ⟨by decide, by decide⟩
    obtain ⟨T252, h252, X252, e252, W252, st252⟩ := stJ X251 hx hZ e251 Ar252 (j := (5 : Int32)) hin252 (g := (mkF m 357 #[.val (.long i0), .second, .val (.long i1), .second, .val (.int i2), .val (.int i3), .val (.int (7 : Int32)), .val (.int uu), .val (.long v0), .second, .val (.long v1), .second, .val (.long v2), .second, .val (.long v3), .second, .val (.long v4), .second, .val (.long v5), .second, .val (.long v6), .second, .val (.long v7), .second, .unset, .unset, .unset, .unset, .unset, .unset] [(.long v5), (.int (5 : Int32)), (.ref b246), (.ref b246)])) rfl rfl (hb hby at_357)
    have N252 := Fr.snoc X252 N251 ge_b246
    have Z252 : n0 ≤ h252.size := Nat.le_trans Z251 (Keep.of_wr W252).1
    have V252 : Arv Z h252 b246 k246 .long (7 : Int32) [(.long v0), (.long v1), (.long v2), (.long v3), (.long v4), (.long v5), (.long (0 : Int64))] (.long (0 : Int64)) := Arv.set Ar252 q252 S252 N252' H252 G252' rfl W252 5 rfl (Nat.le_of_ble_eq_true rfl)
    replace G : Gets p e below _ (T252.setTop (mkF m 358 #[.val (.long i0), .second, .val (.long i1), .second, .val (.int i2), .val (.int i3), .val (.int (7 : Int32)), .val (.int uu), .val (.long v0), .second, .val (.long v1), .second, .val (.long v2), .second, .val (.long v3), .second, .val (.long v4), .second, .val (.long v5), .second, .val (.long v6), .second, .val (.long v7), .second, .unset, .unset, .unset, .unset, .unset, .unset] [(.ref b246)])) := fun t k => G t (st252 t k)
    replace G := own_dup (q := 359) G X252.here hx (hb hby at_358) rfl rfl
    replace G := own_bipush (q := 361) G X252.here hx (hb hby at_359) (v := (6 : Int32)) (by decide) rfl
    replace G := own_lload (q := 363) G X252.here hx (hb hby at_361) rfl rfl
    obtain ⟨c253, Ar253, q253, S253, N253', H253, G253'⟩ := id V252
    have hin253 : ¬ ((6 : Int32) < 0 ∨ c253.slots.size ≤ ((6 : Int32)).toNatClampNeg) := inb_of S253 ⟨by decide, by decide⟩
    obtain ⟨T253, h253, X253, e253, W253, st253⟩ := stJ X252 hx hZ e252 Ar253 (j := (6 : Int32)) hin253 (g := (mkF m 363 #[.val (.long i0), .second, .val (.long i1), .second, .val (.int i2), .val (.int i3), .val (.int (7 : Int32)), .val (.int uu), .val (.long v0), .second, .val (.long v1), .second, .val (.long v2), .second, .val (.long v3), .second, .val (.long v4), .second, .val (.long v5), .second, .val (.long v6), .second, .val (.long v7), .second, .unset, .unset, .unset, .unset, .unset, .unset] [(.long v6), (.int (6 : Int32)), (.ref b246), (.ref b246)])) rfl rfl (hb hby at_363)
    have N253 := Fr.snoc X253 N252 ge_b246
    have Z253 : n0 ≤ h253.size := Nat.le_trans Z252 (Keep.of_wr W253).1
    have V253 : Arv Z h253 b246 k246 .long (7 : Int32) [(.long v0), (.long v1), (.long v2), (.long v3), (.long v4), (.long v5), (.long v6)] (.long (0 : Int64)) := Arv.set Ar253 q253 S253 N253' H253 G253' rfl W253 6 rfl (Nat.le_of_ble_eq_true rfl)
    replace G : Gets p e below _ (T253.setTop (mkF m 364 #[.val (.long i0), .second, .val (.long i1), .second, .val (.int i2), .val (.int i3), .val (.int (7 : Int32)), .val (.int uu), .val (.long v0), .second, .val (.long v1), .second, .val (.long v2), .second, .val (.long v3), .second, .val (.long v4), .second, .val (.long v5), .second, .val (.long v6), .second, .val (.long v7), .second, .unset, .unset, .unset, .unset, .unset, .unset] [(.ref b246)])) := fun t k => G t (st253 t k)
    replace G := own_astore (q := 366) (l' := #[.val (.long i0), .second, .val (.long i1), .second, .val (.int i2), .val (.int i3), .val (.int (7 : Int32)), .val (.int uu), .val (.long v0), .second, .val (.long v1), .second, .val (.long v2), .second, .val (.long v3), .second, .val (.long v4), .second, .val (.long v5), .second, .val (.long v6), .second, .val (.long v7), .second, .val (.ref b246), .unset, .unset, .unset, .unset, .unset]) G X253.here hx (hb hby at_364) rfl rfl rfl
    replace G := own_goto (q := 417) G X253.here hx (hb hby at_366) (by decide) (by decide)
    replace G := own_aload (q := 419) G X253.here hx (hb hby at_417) rfl rfl rfl
    replace G := own_iload (q := 421) G X253.here hx (hb hby at_419) rfl rfl
    have sp := own_ixs uu (7 : Int32) 7 rfl (by decide) (by decide) huu
    rcases own_cases7 ⟨sp.1, sp.2.1⟩ with hj | hj | hj | hj | hj | hj | hj
    · obtain ⟨_, _, ⟨T254, L254, kk254, nn254⟩, -, X254, ⟨Lc254, hQ254, l254, y254, z254⟩, st254⟩ := Jvm.LawKit.callS X253 hx (y := (⟨"com/example/cued/cued/Bench", "percentile", "([JI)J"⟩ : MethodName)) hown (mvT hZ (hw _ (List.mem_of_getElem? (i := 3) rfl))) (mvT hZ (hw _ (List.mem_of_getElem? (i := 4) rfl))) (mvT hZ (hw _ (List.mem_of_getElem? (i := 5) rfl))) (mvT hZ (hw _ (List.mem_of_getElem? (i := 6) rfl))) (by decide) (backOf (W := 0) (rm1 l Z a0 hw [] b246 uu k246 (7 : Int32) [(.long v0), (.long v1), (.long v2), (.long v3), (.long v4), (.long v5), (.long v6)] v0 h253 n0 Z253 V253 (by decide) huu (by rw [hj]; rfl)) hZ (hw _ (List.mem_of_getElem? (i := 6) rfl)) (hw _ (List.mem_of_getElem? (i := 5) rfl)) (by decide) (by decide)) (g := (mkF m 421 #[.val (.long i0), .second, .val (.long i1), .second, .val (.int i2), .val (.int i3), .val (.int (7 : Int32)), .val (.int uu), .val (.long v0), .second, .val (.long v1), .second, .val (.long v2), .second, .val (.long v3), .second, .val (.long v4), .second, .val (.long v5), .second, .val (.long v6), .second, .val (.long v7), .second, .val (.ref b246), .unset, .unset, .unset, .unset, .unset] [(.int uu), (.ref b246)])) rfl (by rw [hml]; rfl) (argsL := [(.ref b246), (.int uu)]) (rest := []) (lenOf pd_1 rfl) rfl (by show 2 * 0 + _ ≤ _; exact Nat.le_of_eq rfl) (hb hby at_421) (fun _ _ => ⟨rfl, e253, (by decide : 1 + 0 ≤ _), (by decide : 7 + 0 ≤ _)⟩)
      dsimp only [Pt.U, Pt.locs, Pt.cells, Pt.slots] at X254 l254 y254 z254 st254 hQ254
      subst l254 y254 z254
      obtain ⟨rfl, N254q, e254⟩ := hQ254
      have N254 := Fr.app N253 N254q
      replace G : Gets p e below _ (T254.setTop (mkF m 424 #[.val (.long i0), .second, .val (.long i1), .second, .val (.int i2), .val (.int i3), .val (.int (7 : Int32)), .val (.int uu), .val (.long v0), .second, .val (.long v1), .second, .val (.long v2), .second, .val (.long v3), .second, .val (.long v4), .second, .val (.long v5), .second, .val (.long v6), .second, .val (.long v7), .second, .val (.ref b246), .unset, .unset, .unset, .unset, .unset] [(.long v0)])) := fun t k => G t (st254 t k)
      replace G := own_lstore (q := 426) (l' := #[.val (.long i0), .second, .val (.long i1), .second, .val (.int i2), .val (.int i3), .val (.int (7 : Int32)), .val (.int uu), .val (.long v0), .second, .val (.long v1), .second, .val (.long v2), .second, .val (.long v3), .second, .val (.long v4), .second, .val (.long v5), .second, .val (.long v6), .second, .val (.long v7), .second, .val (.ref b246), .val (.long v0), .second, .unset, .unset, .unset]) G X254.here hx (hb hby at_424) rfl rfl
      replace G := own_iconst (q := 427) G X254.here hx (hb hby at_426) (v := (-1 : Int32)) (by decide) rfl
      replace G := own_istore (q := 429) (l' := #[.val (.long i0), .second, .val (.long i1), .second, .val (.int i2), .val (.int i3), .val (.int (7 : Int32)), .val (.int uu), .val (.long v0), .second, .val (.long v1), .second, .val (.long v2), .second, .val (.long v3), .second, .val (.long v4), .second, .val (.long v5), .second, .val (.long v6), .second, .val (.long v7), .second, .val (.ref b246), .val (.long v0), .second, .val (.int (-1 : Int32)), .unset, .unset]) G X254.here hx (hb hby at_427) rfl rfl
      replace G := own_lload (q := 431) G X254.here hx (hb hby at_429) rfl rfl
      replace G := own_lload (q := 433) G X254.here hx (hb hby at_431) rfl rfl
      replace G := own_lcmp (q := 434) G X254.here hx (hb hby at_433) rfl
      have hc434_255 : v0 = v0 := rfl
      replace G := own_ifNo (q := 437) G X254.here hx (hb hby at_434) ((if0 _ _).trans (teq ((lw_eq _ _).mpr hc434_255)).2) rfl
      replace G := own_iconst (q := 438) G X254.here hx (hb hby at_437) (v := (0 : Int32)) (by decide) rfl
      replace G := own_istore (q := 440) (l' := #[.val (.long i0), .second, .val (.long i1), .second, .val (.int i2), .val (.int i3), .val (.int (7 : Int32)), .val (.int uu), .val (.long v0), .second, .val (.long v1), .second, .val (.long v2), .second, .val (.long v3), .second, .val (.long v4), .second, .val (.long v5), .second, .val (.long v6), .second, .val (.long v7), .second, .val (.ref b246), .val (.long v0), .second, .val (.int (0 : Int32)), .unset, .unset]) G X254.here hx (hb hby at_438) rfl rfl
      replace G := own_goto (q := 584) G X254.here hx (hb hby at_440) (by decide) (by decide)
      replace G := own_iload (q := 586) G X254.here hx (hb hby at_584) rfl rfl
      have hc586_256 : ¬ ((0 : Int32) < (0 : Int32)) := by decide
      replace G := own_ifYes (q := 591) G X254.here hx (hb hby at_586) ((if0 _ _).trans (flt hc586_256).2.1) (by decide) (by decide)
      replace G := own_iload (q := 593) G X254.here hx (hb hby at_591) rfl rfl
      replace G := own_i2l (q := 594) G X254.here hx (hb hby at_593) rfl rfl
      replace G := own_iload (q := 596) G X254.here hx (hb hby at_594) rfl rfl
      replace G := own_i2l (q := 597) G X254.here hx (hb hby at_596) (by decide : ((7 : Int32).toInt64) = (7 : Int64)) rfl
      replace G := own_lmul (q := 598) G X254.here hx (hb hby at_597) rfl rfl
      replace G := own_lstore (q := 600) (l' := #[.val (.long i0), .second, .val (.long i1), .second, .val (.int i2), .val (.int i3), .val (.int (7 : Int32)), .val (.int uu), .val (.long v0), .second, .val (.long v1), .second, .val (.long v2), .second, .val (.long v3), .second, .val (.long v4), .second, .val (.long v5), .second, .val (.long v6), .second, .val (.long v7), .second, .val (.ref b246), .val (.long v0), .second, .val (.int (0 : Int32)), .val (.long ((uu.toInt64) * (7 : Int64))), .second]) G X254.here hx (hb hby at_598) rfl rfl
      replace G := own_iload (q := 602) G X254.here hx (hb hby at_600) rfl rfl
      replace G := own_iconst (q := 603) G X254.here hx (hb hby at_602) (v := (1 : Int32)) (by decide) rfl
      replace G := own_iadd (q := 604) G X254.here hx (hb hby at_603) (by decide : ((0 : Int32) + (1 : Int32)) = (1 : Int32)) rfl
      replace G := own_i2l (q := 605) G X254.here hx (hb hby at_604) (by decide : ((1 : Int32).toInt64) = (1 : Int64)) rfl
      replace G : Gets p e below _ (T254.setTop (mkF m 608 #[.val (.long i0), .second, .val (.long i1), .second, .val (.int i2), .val (.int i3), .val (.int (7 : Int32)), .val (.int uu), .val (.long v0), .second, .val (.long v1), .second, .val (.long v2), .second, .val (.long v3), .second, .val (.long v4), .second, .val (.long v5), .second, .val (.long v6), .second, .val (.long v7), .second, .val (.ref b246), .val (.long v0), .second, .val (.int (0 : Int32)), .val (.long ((uu.toInt64) * (7 : Int64))), .second] [(.long (100 : Int64)), (.long (1 : Int64))])) := fun t k => G t (X254.ldc2Long hx hown (mvT hZ (hw _ (List.mem_of_getElem? (i := 13) rfl))) (g := (mkF m 605 #[.val (.long i0), .second, .val (.long i1), .second, .val (.int i2), .val (.int i3), .val (.int (7 : Int32)), .val (.int uu), .val (.long v0), .second, .val (.long v1), .second, .val (.long v2), .second, .val (.long v3), .second, .val (.long v4), .second, .val (.long v5), .second, .val (.long v6), .second, .val (.long v7), .second, .val (.ref b246), .val (.long v0), .second, .val (.int (0 : Int32)), .val (.long ((uu.toInt64) * (7 : Int64))), .second] [(.long (1 : Int64))])) rfl (hb hby at_605) t k)
      replace G := own_lmul (q := 609) G X254.here hx (hb hby at_608) (by decide : ((1 : Int64) * (100 : Int64)) = (100 : Int64)) rfl
      replace G := own_lload (q := 611) G X254.here hx (hb hby at_609) rfl rfl
      replace G := own_lcmp (q := 612) G X254.here hx (hb hby at_611) rfl
      have hc612_257 : ¬ ((100 : Int64) < ((uu.toInt64) * (7 : Int64))) := by
        rw [hj, show (0 : Int32).toInt = 0 from rfl] at sp
        have A := c_lmul uu.toInt64 7
        rw [c_i2l, show (7 : Int64).toInt = 7 from rfl] at A
        have RA := rng64 (uu.toInt64 * 7)
        have hB : 0 ≤ uu.toInt * 7 ∧ uu.toInt * 7 ≤ 800 := by omega
        have e : (uu.toInt64 * 7).toInt = uu.toInt * 7 := by
          generalize uu.toInt * 7 = P at A hB ⊢
          omega
        rw [own_ltL, e, show (100 : Int64).toInt = 100 from rfl]
        omega
      replace G := own_ifNo (q := 615) G X254.here hx (hb hby at_612) ((if0 _ _).trans (flt (fun z => hc612_257 ((lw_lt _ _).mp z))).1) rfl
      replace G := own_iload (q := 617) G X254.here hx (hb hby at_615) rfl rfl
      have hc617_258 : (0 : Int32) = (0 : Int32) := by decide
      replace G := own_ifYes (q := 633) G X254.here hx (hb hby at_617) ((if0 _ _).trans (teq hc617_258).1) (by decide) (by decide)
      replace G := own_iconst (q := 634) G X254.here hx (hb hby at_633) (v := (1 : Int32)) (by decide) rfl
      replace G := own_goto (q := 638) G X254.here hx (hb hby at_634) (by decide) (by decide)
      obtain ⟨fs, hr, hrun, hended, hW, hsame⟩ := X254.leave (v := some (.int (1 : Int32))) (fun h => by rw [Bd.returns] at h; cases h)
      refine ⟨_, _, G _ (retOut X254 hx Bd.returns rfl (Or.inl ⟨rfl, Or.inr (Or.inl rfl), _, rfl⟩) (hb hby at_638) hr), hrun, hended, _, _, rfl, ?_, ⟨_, rfl⟩, hW, hsame.mono (by decide) (by decide)⟩
      show Q0 Z i0 i1 i2 i3 h0 n0 _ T254.heap _
      rw [e254]
      exact ⟨rfl, N254⟩
    · obtain ⟨_, _, ⟨T259, L259, kk259, nn259⟩, -, X259, ⟨Lc259, hQ259, l259, y259, z259⟩, st259⟩ := Jvm.LawKit.callS X253 hx (y := (⟨"com/example/cued/cued/Bench", "percentile", "([JI)J"⟩ : MethodName)) hown (mvT hZ (hw _ (List.mem_of_getElem? (i := 3) rfl))) (mvT hZ (hw _ (List.mem_of_getElem? (i := 4) rfl))) (mvT hZ (hw _ (List.mem_of_getElem? (i := 5) rfl))) (mvT hZ (hw _ (List.mem_of_getElem? (i := 6) rfl))) (by decide) (backOf (W := 0) (rm1 l Z a0 hw [] b246 uu k246 (7 : Int32) [(.long v0), (.long v1), (.long v2), (.long v3), (.long v4), (.long v5), (.long v6)] v1 h253 n0 Z253 V253 (by decide) huu (by rw [hj]; rfl)) hZ (hw _ (List.mem_of_getElem? (i := 6) rfl)) (hw _ (List.mem_of_getElem? (i := 5) rfl)) (by decide) (by decide)) (g := (mkF m 421 #[.val (.long i0), .second, .val (.long i1), .second, .val (.int i2), .val (.int i3), .val (.int (7 : Int32)), .val (.int uu), .val (.long v0), .second, .val (.long v1), .second, .val (.long v2), .second, .val (.long v3), .second, .val (.long v4), .second, .val (.long v5), .second, .val (.long v6), .second, .val (.long v7), .second, .val (.ref b246), .unset, .unset, .unset, .unset, .unset] [(.int uu), (.ref b246)])) rfl (by rw [hml]; rfl) (argsL := [(.ref b246), (.int uu)]) (rest := []) (lenOf pd_1 rfl) rfl (by show 2 * 0 + _ ≤ _; exact Nat.le_of_eq rfl) (hb hby at_421) (fun _ _ => ⟨rfl, e253, (by decide : 1 + 0 ≤ _), (by decide : 7 + 0 ≤ _)⟩)
      dsimp only [Pt.U, Pt.locs, Pt.cells, Pt.slots] at X259 l259 y259 z259 st259 hQ259
      subst l259 y259 z259
      obtain ⟨rfl, N259q, e259⟩ := hQ259
      have N259 := Fr.app N253 N259q
      replace G : Gets p e below _ (T259.setTop (mkF m 424 #[.val (.long i0), .second, .val (.long i1), .second, .val (.int i2), .val (.int i3), .val (.int (7 : Int32)), .val (.int uu), .val (.long v0), .second, .val (.long v1), .second, .val (.long v2), .second, .val (.long v3), .second, .val (.long v4), .second, .val (.long v5), .second, .val (.long v6), .second, .val (.long v7), .second, .val (.ref b246), .unset, .unset, .unset, .unset, .unset] [(.long v1)])) := fun t k => G t (st259 t k)
      replace G := own_lstore (q := 426) (l' := #[.val (.long i0), .second, .val (.long i1), .second, .val (.int i2), .val (.int i3), .val (.int (7 : Int32)), .val (.int uu), .val (.long v0), .second, .val (.long v1), .second, .val (.long v2), .second, .val (.long v3), .second, .val (.long v4), .second, .val (.long v5), .second, .val (.long v6), .second, .val (.long v7), .second, .val (.ref b246), .val (.long v1), .second, .unset, .unset, .unset]) G X259.here hx (hb hby at_424) rfl rfl
      replace G := own_iconst (q := 427) G X259.here hx (hb hby at_426) (v := (-1 : Int32)) (by decide) rfl
      replace G := own_istore (q := 429) (l' := #[.val (.long i0), .second, .val (.long i1), .second, .val (.int i2), .val (.int i3), .val (.int (7 : Int32)), .val (.int uu), .val (.long v0), .second, .val (.long v1), .second, .val (.long v2), .second, .val (.long v3), .second, .val (.long v4), .second, .val (.long v5), .second, .val (.long v6), .second, .val (.long v7), .second, .val (.ref b246), .val (.long v1), .second, .val (.int (-1 : Int32)), .unset, .unset]) G X259.here hx (hb hby at_427) rfl rfl
      replace G := own_lload (q := 431) G X259.here hx (hb hby at_429) rfl rfl
      replace G := own_lload (q := 433) G X259.here hx (hb hby at_431) rfl rfl
      replace G := own_lcmp (q := 434) G X259.here hx (hb hby at_433) rfl
      have hc434_260 : ¬ (v1 = v0) := fun z => by have := congrArg Int64.toInt z; omega
      replace G := own_ifYes (q := 443) G X259.here hx (hb hby at_434) ((if0 _ _).trans (feq (fun z => hc434_260 ((lw_eq _ _).mp z))).2) (by decide) (by decide)
      replace G := own_iload (q := 445) G X259.here hx (hb hby at_443) rfl rfl
      replace G := own_iconst (q := 446) G X259.here hx (hb hby at_445) (v := (1 : Int32)) (by decide) rfl
      have hc446_261 : (1 : Int32) < (7 : Int32) := by decide
      replace G := own_icmpNo (q := 449) G X259.here hx (hb hby at_446) (tlt hc446_261).2.2.2 rfl
      replace G := own_lload (q := 451) G X259.here hx (hb hby at_449) rfl rfl
      replace G := own_lload (q := 453) G X259.here hx (hb hby at_451) rfl rfl
      replace G := own_lcmp (q := 454) G X259.here hx (hb hby at_453) rfl
      have hc454_262 : v1 = v1 := rfl
      replace G := own_ifNo (q := 457) G X259.here hx (hb hby at_454) ((if0 _ _).trans (teq ((lw_eq _ _).mpr hc454_262)).2) rfl
      replace G := own_iconst (q := 458) G X259.here hx (hb hby at_457) (v := (1 : Int32)) (by decide) rfl
      replace G := own_istore (q := 460) (l' := #[.val (.long i0), .second, .val (.long i1), .second, .val (.int i2), .val (.int i3), .val (.int (7 : Int32)), .val (.int uu), .val (.long v0), .second, .val (.long v1), .second, .val (.long v2), .second, .val (.long v3), .second, .val (.long v4), .second, .val (.long v5), .second, .val (.long v6), .second, .val (.long v7), .second, .val (.ref b246), .val (.long v1), .second, .val (.int (1 : Int32)), .unset, .unset]) G X259.here hx (hb hby at_458) rfl rfl
      replace G := own_goto (q := 584) G X259.here hx (hb hby at_460) (by decide) (by decide)
      replace G := own_iload (q := 586) G X259.here hx (hb hby at_584) rfl rfl
      have hc586_263 : ¬ ((1 : Int32) < (0 : Int32)) := by decide
      replace G := own_ifYes (q := 591) G X259.here hx (hb hby at_586) ((if0 _ _).trans (flt hc586_263).2.1) (by decide) (by decide)
      replace G := own_iload (q := 593) G X259.here hx (hb hby at_591) rfl rfl
      replace G := own_i2l (q := 594) G X259.here hx (hb hby at_593) rfl rfl
      replace G := own_iload (q := 596) G X259.here hx (hb hby at_594) rfl rfl
      replace G := own_i2l (q := 597) G X259.here hx (hb hby at_596) (by decide : ((7 : Int32).toInt64) = (7 : Int64)) rfl
      replace G := own_lmul (q := 598) G X259.here hx (hb hby at_597) rfl rfl
      replace G := own_lstore (q := 600) (l' := #[.val (.long i0), .second, .val (.long i1), .second, .val (.int i2), .val (.int i3), .val (.int (7 : Int32)), .val (.int uu), .val (.long v0), .second, .val (.long v1), .second, .val (.long v2), .second, .val (.long v3), .second, .val (.long v4), .second, .val (.long v5), .second, .val (.long v6), .second, .val (.long v7), .second, .val (.ref b246), .val (.long v1), .second, .val (.int (1 : Int32)), .val (.long ((uu.toInt64) * (7 : Int64))), .second]) G X259.here hx (hb hby at_598) rfl rfl
      replace G := own_iload (q := 602) G X259.here hx (hb hby at_600) rfl rfl
      replace G := own_iconst (q := 603) G X259.here hx (hb hby at_602) (v := (1 : Int32)) (by decide) rfl
      replace G := own_iadd (q := 604) G X259.here hx (hb hby at_603) (by decide : ((1 : Int32) + (1 : Int32)) = (2 : Int32)) rfl
      replace G := own_i2l (q := 605) G X259.here hx (hb hby at_604) (by decide : ((2 : Int32).toInt64) = (2 : Int64)) rfl
      replace G : Gets p e below _ (T259.setTop (mkF m 608 #[.val (.long i0), .second, .val (.long i1), .second, .val (.int i2), .val (.int i3), .val (.int (7 : Int32)), .val (.int uu), .val (.long v0), .second, .val (.long v1), .second, .val (.long v2), .second, .val (.long v3), .second, .val (.long v4), .second, .val (.long v5), .second, .val (.long v6), .second, .val (.long v7), .second, .val (.ref b246), .val (.long v1), .second, .val (.int (1 : Int32)), .val (.long ((uu.toInt64) * (7 : Int64))), .second] [(.long (100 : Int64)), (.long (2 : Int64))])) := fun t k => G t (X259.ldc2Long hx hown (mvT hZ (hw _ (List.mem_of_getElem? (i := 13) rfl))) (g := (mkF m 605 #[.val (.long i0), .second, .val (.long i1), .second, .val (.int i2), .val (.int i3), .val (.int (7 : Int32)), .val (.int uu), .val (.long v0), .second, .val (.long v1), .second, .val (.long v2), .second, .val (.long v3), .second, .val (.long v4), .second, .val (.long v5), .second, .val (.long v6), .second, .val (.long v7), .second, .val (.ref b246), .val (.long v1), .second, .val (.int (1 : Int32)), .val (.long ((uu.toInt64) * (7 : Int64))), .second] [(.long (2 : Int64))])) rfl (hb hby at_605) t k)
      replace G := own_lmul (q := 609) G X259.here hx (hb hby at_608) (by decide : ((2 : Int64) * (100 : Int64)) = (200 : Int64)) rfl
      replace G := own_lload (q := 611) G X259.here hx (hb hby at_609) rfl rfl
      replace G := own_lcmp (q := 612) G X259.here hx (hb hby at_611) rfl
      have hc612_264 : ¬ ((200 : Int64) < ((uu.toInt64) * (7 : Int64))) := by
        rw [hj, show (1 : Int32).toInt = 1 from rfl] at sp
        have A := c_lmul uu.toInt64 7
        rw [c_i2l, show (7 : Int64).toInt = 7 from rfl] at A
        have RA := rng64 (uu.toInt64 * 7)
        have hB : 0 ≤ uu.toInt * 7 ∧ uu.toInt * 7 ≤ 800 := by omega
        have e : (uu.toInt64 * 7).toInt = uu.toInt * 7 := by
          generalize uu.toInt * 7 = P at A hB ⊢
          omega
        rw [own_ltL, e, show (200 : Int64).toInt = 200 from rfl]
        omega
      replace G := own_ifNo (q := 615) G X259.here hx (hb hby at_612) ((if0 _ _).trans (flt (fun z => hc612_264 ((lw_lt _ _).mp z))).1) rfl
      replace G := own_iload (q := 617) G X259.here hx (hb hby at_615) rfl rfl
      have hc617_265 : ¬ ((1 : Int32) = (0 : Int32)) := by decide
      replace G := own_ifNo (q := 620) G X259.here hx (hb hby at_617) ((if0 _ _).trans (feq hc617_265).1) rfl
      replace G := own_iload (q := 622) G X259.here hx (hb hby at_620) rfl rfl
      replace G := own_i2l (q := 623) G X259.here hx (hb hby at_622) (by decide : ((1 : Int32).toInt64) = (1 : Int64)) rfl
      replace G : Gets p e below _ (T259.setTop (mkF m 626 #[.val (.long i0), .second, .val (.long i1), .second, .val (.int i2), .val (.int i3), .val (.int (7 : Int32)), .val (.int uu), .val (.long v0), .second, .val (.long v1), .second, .val (.long v2), .second, .val (.long v3), .second, .val (.long v4), .second, .val (.long v5), .second, .val (.long v6), .second, .val (.long v7), .second, .val (.ref b246), .val (.long v1), .second, .val (.int (1 : Int32)), .val (.long ((uu.toInt64) * (7 : Int64))), .second] [(.long (100 : Int64)), (.long (1 : Int64))])) := fun t k => G t (X259.ldc2Long hx hown (mvT hZ (hw _ (List.mem_of_getElem? (i := 13) rfl))) (g := (mkF m 623 #[.val (.long i0), .second, .val (.long i1), .second, .val (.int i2), .val (.int i3), .val (.int (7 : Int32)), .val (.int uu), .val (.long v0), .second, .val (.long v1), .second, .val (.long v2), .second, .val (.long v3), .second, .val (.long v4), .second, .val (.long v5), .second, .val (.long v6), .second, .val (.long v7), .second, .val (.ref b246), .val (.long v1), .second, .val (.int (1 : Int32)), .val (.long ((uu.toInt64) * (7 : Int64))), .second] [(.long (1 : Int64))])) rfl (hb hby at_623) t k)
      replace G := own_lmul (q := 627) G X259.here hx (hb hby at_626) (by decide : ((1 : Int64) * (100 : Int64)) = (100 : Int64)) rfl
      replace G := own_lload (q := 629) G X259.here hx (hb hby at_627) rfl rfl
      replace G := own_lcmp (q := 630) G X259.here hx (hb hby at_629) rfl
      have hc630_266 : (100 : Int64) < ((uu.toInt64) * (7 : Int64)) := by
        rw [hj, show (1 : Int32).toInt = 1 from rfl] at sp
        have A := c_lmul uu.toInt64 7
        rw [c_i2l, show (7 : Int64).toInt = 7 from rfl] at A
        have RA := rng64 (uu.toInt64 * 7)
        have hB : 0 ≤ uu.toInt * 7 ∧ uu.toInt * 7 ≤ 800 := by omega
        have e : (uu.toInt64 * 7).toInt = uu.toInt * 7 := by
          generalize uu.toInt * 7 = P at A hB ⊢
          omega
        rw [own_ltL, e, show (100 : Int64).toInt = 100 from rfl]
        omega
      replace G := own_ifNo (q := 633) G X259.here hx (hb hby at_630) ((if0 _ _).trans (tlt ((lw_lt _ _).mpr hc630_266)).2.1) rfl
      replace G := own_iconst (q := 634) G X259.here hx (hb hby at_633) (v := (1 : Int32)) (by decide) rfl
      replace G := own_goto (q := 638) G X259.here hx (hb hby at_634) (by decide) (by decide)
      obtain ⟨fs, hr, hrun, hended, hW, hsame⟩ := X259.leave (v := some (.int (1 : Int32))) (fun h => by rw [Bd.returns] at h; cases h)
      refine ⟨_, _, G _ (retOut X259 hx Bd.returns rfl (Or.inl ⟨rfl, Or.inr (Or.inl rfl), _, rfl⟩) (hb hby at_638) hr), hrun, hended, _, _, rfl, ?_, ⟨_, rfl⟩, hW, hsame.mono (by decide) (by decide)⟩
      show Q0 Z i0 i1 i2 i3 h0 n0 _ T259.heap _
      rw [e259]
      exact ⟨rfl, N259⟩
    · obtain ⟨_, _, ⟨T267, L267, kk267, nn267⟩, -, X267, ⟨Lc267, hQ267, l267, y267, z267⟩, st267⟩ := Jvm.LawKit.callS X253 hx (y := (⟨"com/example/cued/cued/Bench", "percentile", "([JI)J"⟩ : MethodName)) hown (mvT hZ (hw _ (List.mem_of_getElem? (i := 3) rfl))) (mvT hZ (hw _ (List.mem_of_getElem? (i := 4) rfl))) (mvT hZ (hw _ (List.mem_of_getElem? (i := 5) rfl))) (mvT hZ (hw _ (List.mem_of_getElem? (i := 6) rfl))) (by decide) (backOf (W := 0) (rm1 l Z a0 hw [] b246 uu k246 (7 : Int32) [(.long v0), (.long v1), (.long v2), (.long v3), (.long v4), (.long v5), (.long v6)] v2 h253 n0 Z253 V253 (by decide) huu (by rw [hj]; rfl)) hZ (hw _ (List.mem_of_getElem? (i := 6) rfl)) (hw _ (List.mem_of_getElem? (i := 5) rfl)) (by decide) (by decide)) (g := (mkF m 421 #[.val (.long i0), .second, .val (.long i1), .second, .val (.int i2), .val (.int i3), .val (.int (7 : Int32)), .val (.int uu), .val (.long v0), .second, .val (.long v1), .second, .val (.long v2), .second, .val (.long v3), .second, .val (.long v4), .second, .val (.long v5), .second, .val (.long v6), .second, .val (.long v7), .second, .val (.ref b246), .unset, .unset, .unset, .unset, .unset] [(.int uu), (.ref b246)])) rfl (by rw [hml]; rfl) (argsL := [(.ref b246), (.int uu)]) (rest := []) (lenOf pd_1 rfl) rfl (by show 2 * 0 + _ ≤ _; exact Nat.le_of_eq rfl) (hb hby at_421) (fun _ _ => ⟨rfl, e253, (by decide : 1 + 0 ≤ _), (by decide : 7 + 0 ≤ _)⟩)
      dsimp only [Pt.U, Pt.locs, Pt.cells, Pt.slots] at X267 l267 y267 z267 st267 hQ267
      subst l267 y267 z267
      obtain ⟨rfl, N267q, e267⟩ := hQ267
      have N267 := Fr.app N253 N267q
      replace G : Gets p e below _ (T267.setTop (mkF m 424 #[.val (.long i0), .second, .val (.long i1), .second, .val (.int i2), .val (.int i3), .val (.int (7 : Int32)), .val (.int uu), .val (.long v0), .second, .val (.long v1), .second, .val (.long v2), .second, .val (.long v3), .second, .val (.long v4), .second, .val (.long v5), .second, .val (.long v6), .second, .val (.long v7), .second, .val (.ref b246), .unset, .unset, .unset, .unset, .unset] [(.long v2)])) := fun t k => G t (st267 t k)
      replace G := own_lstore (q := 426) (l' := #[.val (.long i0), .second, .val (.long i1), .second, .val (.int i2), .val (.int i3), .val (.int (7 : Int32)), .val (.int uu), .val (.long v0), .second, .val (.long v1), .second, .val (.long v2), .second, .val (.long v3), .second, .val (.long v4), .second, .val (.long v5), .second, .val (.long v6), .second, .val (.long v7), .second, .val (.ref b246), .val (.long v2), .second, .unset, .unset, .unset]) G X267.here hx (hb hby at_424) rfl rfl
      replace G := own_iconst (q := 427) G X267.here hx (hb hby at_426) (v := (-1 : Int32)) (by decide) rfl
      replace G := own_istore (q := 429) (l' := #[.val (.long i0), .second, .val (.long i1), .second, .val (.int i2), .val (.int i3), .val (.int (7 : Int32)), .val (.int uu), .val (.long v0), .second, .val (.long v1), .second, .val (.long v2), .second, .val (.long v3), .second, .val (.long v4), .second, .val (.long v5), .second, .val (.long v6), .second, .val (.long v7), .second, .val (.ref b246), .val (.long v2), .second, .val (.int (-1 : Int32)), .unset, .unset]) G X267.here hx (hb hby at_427) rfl rfl
      replace G := own_lload (q := 431) G X267.here hx (hb hby at_429) rfl rfl
      replace G := own_lload (q := 433) G X267.here hx (hb hby at_431) rfl rfl
      replace G := own_lcmp (q := 434) G X267.here hx (hb hby at_433) rfl
      have hc434_268 : ¬ (v2 = v0) := fun z => by have := congrArg Int64.toInt z; omega
      replace G := own_ifYes (q := 443) G X267.here hx (hb hby at_434) ((if0 _ _).trans (feq (fun z => hc434_268 ((lw_eq _ _).mp z))).2) (by decide) (by decide)
      replace G := own_iload (q := 445) G X267.here hx (hb hby at_443) rfl rfl
      replace G := own_iconst (q := 446) G X267.here hx (hb hby at_445) (v := (1 : Int32)) (by decide) rfl
      have hc446_269 : (1 : Int32) < (7 : Int32) := by decide
      replace G := own_icmpNo (q := 449) G X267.here hx (hb hby at_446) (tlt hc446_269).2.2.2 rfl
      replace G := own_lload (q := 451) G X267.here hx (hb hby at_449) rfl rfl
      replace G := own_lload (q := 453) G X267.here hx (hb hby at_451) rfl rfl
      replace G := own_lcmp (q := 454) G X267.here hx (hb hby at_453) rfl
      have hc454_270 : ¬ (v2 = v1) := fun z => by have := congrArg Int64.toInt z; omega
      replace G := own_ifYes (q := 463) G X267.here hx (hb hby at_454) ((if0 _ _).trans (feq (fun z => hc454_270 ((lw_eq _ _).mp z))).2) (by decide) (by decide)
      replace G := own_iload (q := 465) G X267.here hx (hb hby at_463) rfl rfl
      replace G := own_iconst (q := 466) G X267.here hx (hb hby at_465) (v := (2 : Int32)) (by decide) rfl
      have hc466_271 : (2 : Int32) < (7 : Int32) := by decide
      replace G := own_icmpNo (q := 469) G X267.here hx (hb hby at_466) (tlt hc466_271).2.2.2 rfl
      replace G := own_lload (q := 471) G X267.here hx (hb hby at_469) rfl rfl
      replace G := own_lload (q := 473) G X267.here hx (hb hby at_471) rfl rfl
      replace G := own_lcmp (q := 474) G X267.here hx (hb hby at_473) rfl
      have hc474_272 : v2 = v2 := rfl
      replace G := own_ifNo (q := 477) G X267.here hx (hb hby at_474) ((if0 _ _).trans (teq ((lw_eq _ _).mpr hc474_272)).2) rfl
      replace G := own_iconst (q := 478) G X267.here hx (hb hby at_477) (v := (2 : Int32)) (by decide) rfl
      replace G := own_istore (q := 480) (l' := #[.val (.long i0), .second, .val (.long i1), .second, .val (.int i2), .val (.int i3), .val (.int (7 : Int32)), .val (.int uu), .val (.long v0), .second, .val (.long v1), .second, .val (.long v2), .second, .val (.long v3), .second, .val (.long v4), .second, .val (.long v5), .second, .val (.long v6), .second, .val (.long v7), .second, .val (.ref b246), .val (.long v2), .second, .val (.int (2 : Int32)), .unset, .unset]) G X267.here hx (hb hby at_478) rfl rfl
      replace G := own_goto (q := 584) G X267.here hx (hb hby at_480) (by decide) (by decide)
      replace G := own_iload (q := 586) G X267.here hx (hb hby at_584) rfl rfl
      have hc586_273 : ¬ ((2 : Int32) < (0 : Int32)) := by decide
      replace G := own_ifYes (q := 591) G X267.here hx (hb hby at_586) ((if0 _ _).trans (flt hc586_273).2.1) (by decide) (by decide)
      replace G := own_iload (q := 593) G X267.here hx (hb hby at_591) rfl rfl
      replace G := own_i2l (q := 594) G X267.here hx (hb hby at_593) rfl rfl
      replace G := own_iload (q := 596) G X267.here hx (hb hby at_594) rfl rfl
      replace G := own_i2l (q := 597) G X267.here hx (hb hby at_596) (by decide : ((7 : Int32).toInt64) = (7 : Int64)) rfl
      replace G := own_lmul (q := 598) G X267.here hx (hb hby at_597) rfl rfl
      replace G := own_lstore (q := 600) (l' := #[.val (.long i0), .second, .val (.long i1), .second, .val (.int i2), .val (.int i3), .val (.int (7 : Int32)), .val (.int uu), .val (.long v0), .second, .val (.long v1), .second, .val (.long v2), .second, .val (.long v3), .second, .val (.long v4), .second, .val (.long v5), .second, .val (.long v6), .second, .val (.long v7), .second, .val (.ref b246), .val (.long v2), .second, .val (.int (2 : Int32)), .val (.long ((uu.toInt64) * (7 : Int64))), .second]) G X267.here hx (hb hby at_598) rfl rfl
      replace G := own_iload (q := 602) G X267.here hx (hb hby at_600) rfl rfl
      replace G := own_iconst (q := 603) G X267.here hx (hb hby at_602) (v := (1 : Int32)) (by decide) rfl
      replace G := own_iadd (q := 604) G X267.here hx (hb hby at_603) (by decide : ((2 : Int32) + (1 : Int32)) = (3 : Int32)) rfl
      replace G := own_i2l (q := 605) G X267.here hx (hb hby at_604) (by decide : ((3 : Int32).toInt64) = (3 : Int64)) rfl
      replace G : Gets p e below _ (T267.setTop (mkF m 608 #[.val (.long i0), .second, .val (.long i1), .second, .val (.int i2), .val (.int i3), .val (.int (7 : Int32)), .val (.int uu), .val (.long v0), .second, .val (.long v1), .second, .val (.long v2), .second, .val (.long v3), .second, .val (.long v4), .second, .val (.long v5), .second, .val (.long v6), .second, .val (.long v7), .second, .val (.ref b246), .val (.long v2), .second, .val (.int (2 : Int32)), .val (.long ((uu.toInt64) * (7 : Int64))), .second] [(.long (100 : Int64)), (.long (3 : Int64))])) := fun t k => G t (X267.ldc2Long hx hown (mvT hZ (hw _ (List.mem_of_getElem? (i := 13) rfl))) (g := (mkF m 605 #[.val (.long i0), .second, .val (.long i1), .second, .val (.int i2), .val (.int i3), .val (.int (7 : Int32)), .val (.int uu), .val (.long v0), .second, .val (.long v1), .second, .val (.long v2), .second, .val (.long v3), .second, .val (.long v4), .second, .val (.long v5), .second, .val (.long v6), .second, .val (.long v7), .second, .val (.ref b246), .val (.long v2), .second, .val (.int (2 : Int32)), .val (.long ((uu.toInt64) * (7 : Int64))), .second] [(.long (3 : Int64))])) rfl (hb hby at_605) t k)
      replace G := own_lmul (q := 609) G X267.here hx (hb hby at_608) (by decide : ((3 : Int64) * (100 : Int64)) = (300 : Int64)) rfl
      replace G := own_lload (q := 611) G X267.here hx (hb hby at_609) rfl rfl
      replace G := own_lcmp (q := 612) G X267.here hx (hb hby at_611) rfl
      have hc612_274 : ¬ ((300 : Int64) < ((uu.toInt64) * (7 : Int64))) := by
        rw [hj, show (2 : Int32).toInt = 2 from rfl] at sp
        have A := c_lmul uu.toInt64 7
        rw [c_i2l, show (7 : Int64).toInt = 7 from rfl] at A
        have RA := rng64 (uu.toInt64 * 7)
        have hB : 0 ≤ uu.toInt * 7 ∧ uu.toInt * 7 ≤ 800 := by omega
        have e : (uu.toInt64 * 7).toInt = uu.toInt * 7 := by
          generalize uu.toInt * 7 = P at A hB ⊢
          omega
        rw [own_ltL, e, show (300 : Int64).toInt = 300 from rfl]
        omega
      replace G := own_ifNo (q := 615) G X267.here hx (hb hby at_612) ((if0 _ _).trans (flt (fun z => hc612_274 ((lw_lt _ _).mp z))).1) rfl
      replace G := own_iload (q := 617) G X267.here hx (hb hby at_615) rfl rfl
      have hc617_275 : ¬ ((2 : Int32) = (0 : Int32)) := by decide
      replace G := own_ifNo (q := 620) G X267.here hx (hb hby at_617) ((if0 _ _).trans (feq hc617_275).1) rfl
      replace G := own_iload (q := 622) G X267.here hx (hb hby at_620) rfl rfl
      replace G := own_i2l (q := 623) G X267.here hx (hb hby at_622) (by decide : ((2 : Int32).toInt64) = (2 : Int64)) rfl
      replace G : Gets p e below _ (T267.setTop (mkF m 626 #[.val (.long i0), .second, .val (.long i1), .second, .val (.int i2), .val (.int i3), .val (.int (7 : Int32)), .val (.int uu), .val (.long v0), .second, .val (.long v1), .second, .val (.long v2), .second, .val (.long v3), .second, .val (.long v4), .second, .val (.long v5), .second, .val (.long v6), .second, .val (.long v7), .second, .val (.ref b246), .val (.long v2), .second, .val (.int (2 : Int32)), .val (.long ((uu.toInt64) * (7 : Int64))), .second] [(.long (100 : Int64)), (.long (2 : Int64))])) := fun t k => G t (X267.ldc2Long hx hown (mvT hZ (hw _ (List.mem_of_getElem? (i := 13) rfl))) (g := (mkF m 623 #[.val (.long i0), .second, .val (.long i1), .second, .val (.int i2), .val (.int i3), .val (.int (7 : Int32)), .val (.int uu), .val (.long v0), .second, .val (.long v1), .second, .val (.long v2), .second, .val (.long v3), .second, .val (.long v4), .second, .val (.long v5), .second, .val (.long v6), .second, .val (.long v7), .second, .val (.ref b246), .val (.long v2), .second, .val (.int (2 : Int32)), .val (.long ((uu.toInt64) * (7 : Int64))), .second] [(.long (2 : Int64))])) rfl (hb hby at_623) t k)
      replace G := own_lmul (q := 627) G X267.here hx (hb hby at_626) (by decide : ((2 : Int64) * (100 : Int64)) = (200 : Int64)) rfl
      replace G := own_lload (q := 629) G X267.here hx (hb hby at_627) rfl rfl
      replace G := own_lcmp (q := 630) G X267.here hx (hb hby at_629) rfl
      have hc630_276 : (200 : Int64) < ((uu.toInt64) * (7 : Int64)) := by
        rw [hj, show (2 : Int32).toInt = 2 from rfl] at sp
        have A := c_lmul uu.toInt64 7
        rw [c_i2l, show (7 : Int64).toInt = 7 from rfl] at A
        have RA := rng64 (uu.toInt64 * 7)
        have hB : 0 ≤ uu.toInt * 7 ∧ uu.toInt * 7 ≤ 800 := by omega
        have e : (uu.toInt64 * 7).toInt = uu.toInt * 7 := by
          generalize uu.toInt * 7 = P at A hB ⊢
          omega
        rw [own_ltL, e, show (200 : Int64).toInt = 200 from rfl]
        omega
      replace G := own_ifNo (q := 633) G X267.here hx (hb hby at_630) ((if0 _ _).trans (tlt ((lw_lt _ _).mpr hc630_276)).2.1) rfl
      replace G := own_iconst (q := 634) G X267.here hx (hb hby at_633) (v := (1 : Int32)) (by decide) rfl
      replace G := own_goto (q := 638) G X267.here hx (hb hby at_634) (by decide) (by decide)
      obtain ⟨fs, hr, hrun, hended, hW, hsame⟩ := X267.leave (v := some (.int (1 : Int32))) (fun h => by rw [Bd.returns] at h; cases h)
      refine ⟨_, _, G _ (retOut X267 hx Bd.returns rfl (Or.inl ⟨rfl, Or.inr (Or.inl rfl), _, rfl⟩) (hb hby at_638) hr), hrun, hended, _, _, rfl, ?_, ⟨_, rfl⟩, hW, hsame.mono (by decide) (by decide)⟩
      show Q0 Z i0 i1 i2 i3 h0 n0 _ T267.heap _
      rw [e267]
      exact ⟨rfl, N267⟩
    · obtain ⟨_, _, ⟨T277, L277, kk277, nn277⟩, -, X277, ⟨Lc277, hQ277, l277, y277, z277⟩, st277⟩ := Jvm.LawKit.callS X253 hx (y := (⟨"com/example/cued/cued/Bench", "percentile", "([JI)J"⟩ : MethodName)) hown (mvT hZ (hw _ (List.mem_of_getElem? (i := 3) rfl))) (mvT hZ (hw _ (List.mem_of_getElem? (i := 4) rfl))) (mvT hZ (hw _ (List.mem_of_getElem? (i := 5) rfl))) (mvT hZ (hw _ (List.mem_of_getElem? (i := 6) rfl))) (by decide) (backOf (W := 0) (rm1 l Z a0 hw [] b246 uu k246 (7 : Int32) [(.long v0), (.long v1), (.long v2), (.long v3), (.long v4), (.long v5), (.long v6)] v3 h253 n0 Z253 V253 (by decide) huu (by rw [hj]; rfl)) hZ (hw _ (List.mem_of_getElem? (i := 6) rfl)) (hw _ (List.mem_of_getElem? (i := 5) rfl)) (by decide) (by decide)) (g := (mkF m 421 #[.val (.long i0), .second, .val (.long i1), .second, .val (.int i2), .val (.int i3), .val (.int (7 : Int32)), .val (.int uu), .val (.long v0), .second, .val (.long v1), .second, .val (.long v2), .second, .val (.long v3), .second, .val (.long v4), .second, .val (.long v5), .second, .val (.long v6), .second, .val (.long v7), .second, .val (.ref b246), .unset, .unset, .unset, .unset, .unset] [(.int uu), (.ref b246)])) rfl (by rw [hml]; rfl) (argsL := [(.ref b246), (.int uu)]) (rest := []) (lenOf pd_1 rfl) rfl (by show 2 * 0 + _ ≤ _; exact Nat.le_of_eq rfl) (hb hby at_421) (fun _ _ => ⟨rfl, e253, (by decide : 1 + 0 ≤ _), (by decide : 7 + 0 ≤ _)⟩)
      dsimp only [Pt.U, Pt.locs, Pt.cells, Pt.slots] at X277 l277 y277 z277 st277 hQ277
      subst l277 y277 z277
      obtain ⟨rfl, N277q, e277⟩ := hQ277
      have N277 := Fr.app N253 N277q
      replace G : Gets p e below _ (T277.setTop (mkF m 424 #[.val (.long i0), .second, .val (.long i1), .second, .val (.int i2), .val (.int i3), .val (.int (7 : Int32)), .val (.int uu), .val (.long v0), .second, .val (.long v1), .second, .val (.long v2), .second, .val (.long v3), .second, .val (.long v4), .second, .val (.long v5), .second, .val (.long v6), .second, .val (.long v7), .second, .val (.ref b246), .unset, .unset, .unset, .unset, .unset] [(.long v3)])) := fun t k => G t (st277 t k)
      replace G := own_lstore (q := 426) (l' := #[.val (.long i0), .second, .val (.long i1), .second, .val (.int i2), .val (.int i3), .val (.int (7 : Int32)), .val (.int uu), .val (.long v0), .second, .val (.long v1), .second, .val (.long v2), .second, .val (.long v3), .second, .val (.long v4), .second, .val (.long v5), .second, .val (.long v6), .second, .val (.long v7), .second, .val (.ref b246), .val (.long v3), .second, .unset, .unset, .unset]) G X277.here hx (hb hby at_424) rfl rfl
      replace G := own_iconst (q := 427) G X277.here hx (hb hby at_426) (v := (-1 : Int32)) (by decide) rfl
      replace G := own_istore (q := 429) (l' := #[.val (.long i0), .second, .val (.long i1), .second, .val (.int i2), .val (.int i3), .val (.int (7 : Int32)), .val (.int uu), .val (.long v0), .second, .val (.long v1), .second, .val (.long v2), .second, .val (.long v3), .second, .val (.long v4), .second, .val (.long v5), .second, .val (.long v6), .second, .val (.long v7), .second, .val (.ref b246), .val (.long v3), .second, .val (.int (-1 : Int32)), .unset, .unset]) G X277.here hx (hb hby at_427) rfl rfl
      replace G := own_lload (q := 431) G X277.here hx (hb hby at_429) rfl rfl
      replace G := own_lload (q := 433) G X277.here hx (hb hby at_431) rfl rfl
      replace G := own_lcmp (q := 434) G X277.here hx (hb hby at_433) rfl
      have hc434_278 : ¬ (v3 = v0) := fun z => by have := congrArg Int64.toInt z; omega
      replace G := own_ifYes (q := 443) G X277.here hx (hb hby at_434) ((if0 _ _).trans (feq (fun z => hc434_278 ((lw_eq _ _).mp z))).2) (by decide) (by decide)
      replace G := own_iload (q := 445) G X277.here hx (hb hby at_443) rfl rfl
      replace G := own_iconst (q := 446) G X277.here hx (hb hby at_445) (v := (1 : Int32)) (by decide) rfl
      have hc446_279 : (1 : Int32) < (7 : Int32) := by decide
      replace G := own_icmpNo (q := 449) G X277.here hx (hb hby at_446) (tlt hc446_279).2.2.2 rfl
      replace G := own_lload (q := 451) G X277.here hx (hb hby at_449) rfl rfl
      replace G := own_lload (q := 453) G X277.here hx (hb hby at_451) rfl rfl
      replace G := own_lcmp (q := 454) G X277.here hx (hb hby at_453) rfl
      have hc454_280 : ¬ (v3 = v1) := fun z => by have := congrArg Int64.toInt z; omega
      replace G := own_ifYes (q := 463) G X277.here hx (hb hby at_454) ((if0 _ _).trans (feq (fun z => hc454_280 ((lw_eq _ _).mp z))).2) (by decide) (by decide)
      replace G := own_iload (q := 465) G X277.here hx (hb hby at_463) rfl rfl
      replace G := own_iconst (q := 466) G X277.here hx (hb hby at_465) (v := (2 : Int32)) (by decide) rfl
      have hc466_281 : (2 : Int32) < (7 : Int32) := by decide
      replace G := own_icmpNo (q := 469) G X277.here hx (hb hby at_466) (tlt hc466_281).2.2.2 rfl
      replace G := own_lload (q := 471) G X277.here hx (hb hby at_469) rfl rfl
      replace G := own_lload (q := 473) G X277.here hx (hb hby at_471) rfl rfl
      replace G := own_lcmp (q := 474) G X277.here hx (hb hby at_473) rfl
      have hc474_282 : ¬ (v3 = v2) := fun z => by have := congrArg Int64.toInt z; omega
      replace G := own_ifYes (q := 483) G X277.here hx (hb hby at_474) ((if0 _ _).trans (feq (fun z => hc474_282 ((lw_eq _ _).mp z))).2) (by decide) (by decide)
      replace G := own_iload (q := 485) G X277.here hx (hb hby at_483) rfl rfl
      replace G := own_iconst (q := 486) G X277.here hx (hb hby at_485) (v := (3 : Int32)) (by decide) rfl
      have hc486_283 : (3 : Int32) < (7 : Int32) := by decide
      replace G := own_icmpNo (q := 489) G X277.here hx (hb hby at_486) (tlt hc486_283).2.2.2 rfl
      replace G := own_lload (q := 491) G X277.here hx (hb hby at_489) rfl rfl
      replace G := own_lload (q := 493) G X277.here hx (hb hby at_491) rfl rfl
      replace G := own_lcmp (q := 494) G X277.here hx (hb hby at_493) rfl
      have hc494_284 : v3 = v3 := rfl
      replace G := own_ifNo (q := 497) G X277.here hx (hb hby at_494) ((if0 _ _).trans (teq ((lw_eq _ _).mpr hc494_284)).2) rfl
      replace G := own_iconst (q := 498) G X277.here hx (hb hby at_497) (v := (3 : Int32)) (by decide) rfl
      replace G := own_istore (q := 500) (l' := #[.val (.long i0), .second, .val (.long i1), .second, .val (.int i2), .val (.int i3), .val (.int (7 : Int32)), .val (.int uu), .val (.long v0), .second, .val (.long v1), .second, .val (.long v2), .second, .val (.long v3), .second, .val (.long v4), .second, .val (.long v5), .second, .val (.long v6), .second, .val (.long v7), .second, .val (.ref b246), .val (.long v3), .second, .val (.int (3 : Int32)), .unset, .unset]) G X277.here hx (hb hby at_498) rfl rfl
      replace G := own_goto (q := 584) G X277.here hx (hb hby at_500) (by decide) (by decide)
      replace G := own_iload (q := 586) G X277.here hx (hb hby at_584) rfl rfl
      have hc586_285 : ¬ ((3 : Int32) < (0 : Int32)) := by decide
      replace G := own_ifYes (q := 591) G X277.here hx (hb hby at_586) ((if0 _ _).trans (flt hc586_285).2.1) (by decide) (by decide)
      replace G := own_iload (q := 593) G X277.here hx (hb hby at_591) rfl rfl
      replace G := own_i2l (q := 594) G X277.here hx (hb hby at_593) rfl rfl
      replace G := own_iload (q := 596) G X277.here hx (hb hby at_594) rfl rfl
      replace G := own_i2l (q := 597) G X277.here hx (hb hby at_596) (by decide : ((7 : Int32).toInt64) = (7 : Int64)) rfl
      replace G := own_lmul (q := 598) G X277.here hx (hb hby at_597) rfl rfl
      replace G := own_lstore (q := 600) (l' := #[.val (.long i0), .second, .val (.long i1), .second, .val (.int i2), .val (.int i3), .val (.int (7 : Int32)), .val (.int uu), .val (.long v0), .second, .val (.long v1), .second, .val (.long v2), .second, .val (.long v3), .second, .val (.long v4), .second, .val (.long v5), .second, .val (.long v6), .second, .val (.long v7), .second, .val (.ref b246), .val (.long v3), .second, .val (.int (3 : Int32)), .val (.long ((uu.toInt64) * (7 : Int64))), .second]) G X277.here hx (hb hby at_598) rfl rfl
      replace G := own_iload (q := 602) G X277.here hx (hb hby at_600) rfl rfl
      replace G := own_iconst (q := 603) G X277.here hx (hb hby at_602) (v := (1 : Int32)) (by decide) rfl
      replace G := own_iadd (q := 604) G X277.here hx (hb hby at_603) (by decide : ((3 : Int32) + (1 : Int32)) = (4 : Int32)) rfl
      replace G := own_i2l (q := 605) G X277.here hx (hb hby at_604) (by decide : ((4 : Int32).toInt64) = (4 : Int64)) rfl
      replace G : Gets p e below _ (T277.setTop (mkF m 608 #[.val (.long i0), .second, .val (.long i1), .second, .val (.int i2), .val (.int i3), .val (.int (7 : Int32)), .val (.int uu), .val (.long v0), .second, .val (.long v1), .second, .val (.long v2), .second, .val (.long v3), .second, .val (.long v4), .second, .val (.long v5), .second, .val (.long v6), .second, .val (.long v7), .second, .val (.ref b246), .val (.long v3), .second, .val (.int (3 : Int32)), .val (.long ((uu.toInt64) * (7 : Int64))), .second] [(.long (100 : Int64)), (.long (4 : Int64))])) := fun t k => G t (X277.ldc2Long hx hown (mvT hZ (hw _ (List.mem_of_getElem? (i := 13) rfl))) (g := (mkF m 605 #[.val (.long i0), .second, .val (.long i1), .second, .val (.int i2), .val (.int i3), .val (.int (7 : Int32)), .val (.int uu), .val (.long v0), .second, .val (.long v1), .second, .val (.long v2), .second, .val (.long v3), .second, .val (.long v4), .second, .val (.long v5), .second, .val (.long v6), .second, .val (.long v7), .second, .val (.ref b246), .val (.long v3), .second, .val (.int (3 : Int32)), .val (.long ((uu.toInt64) * (7 : Int64))), .second] [(.long (4 : Int64))])) rfl (hb hby at_605) t k)
      replace G := own_lmul (q := 609) G X277.here hx (hb hby at_608) (by decide : ((4 : Int64) * (100 : Int64)) = (400 : Int64)) rfl
      replace G := own_lload (q := 611) G X277.here hx (hb hby at_609) rfl rfl
      replace G := own_lcmp (q := 612) G X277.here hx (hb hby at_611) rfl
      have hc612_286 : ¬ ((400 : Int64) < ((uu.toInt64) * (7 : Int64))) := by
        rw [hj, show (3 : Int32).toInt = 3 from rfl] at sp
        have A := c_lmul uu.toInt64 7
        rw [c_i2l, show (7 : Int64).toInt = 7 from rfl] at A
        have RA := rng64 (uu.toInt64 * 7)
        have hB : 0 ≤ uu.toInt * 7 ∧ uu.toInt * 7 ≤ 800 := by omega
        have e : (uu.toInt64 * 7).toInt = uu.toInt * 7 := by
          generalize uu.toInt * 7 = P at A hB ⊢
          omega
        rw [own_ltL, e, show (400 : Int64).toInt = 400 from rfl]
        omega
      replace G := own_ifNo (q := 615) G X277.here hx (hb hby at_612) ((if0 _ _).trans (flt (fun z => hc612_286 ((lw_lt _ _).mp z))).1) rfl
      replace G := own_iload (q := 617) G X277.here hx (hb hby at_615) rfl rfl
      have hc617_287 : ¬ ((3 : Int32) = (0 : Int32)) := by decide
      replace G := own_ifNo (q := 620) G X277.here hx (hb hby at_617) ((if0 _ _).trans (feq hc617_287).1) rfl
      replace G := own_iload (q := 622) G X277.here hx (hb hby at_620) rfl rfl
      replace G := own_i2l (q := 623) G X277.here hx (hb hby at_622) (by decide : ((3 : Int32).toInt64) = (3 : Int64)) rfl
      replace G : Gets p e below _ (T277.setTop (mkF m 626 #[.val (.long i0), .second, .val (.long i1), .second, .val (.int i2), .val (.int i3), .val (.int (7 : Int32)), .val (.int uu), .val (.long v0), .second, .val (.long v1), .second, .val (.long v2), .second, .val (.long v3), .second, .val (.long v4), .second, .val (.long v5), .second, .val (.long v6), .second, .val (.long v7), .second, .val (.ref b246), .val (.long v3), .second, .val (.int (3 : Int32)), .val (.long ((uu.toInt64) * (7 : Int64))), .second] [(.long (100 : Int64)), (.long (3 : Int64))])) := fun t k => G t (X277.ldc2Long hx hown (mvT hZ (hw _ (List.mem_of_getElem? (i := 13) rfl))) (g := (mkF m 623 #[.val (.long i0), .second, .val (.long i1), .second, .val (.int i2), .val (.int i3), .val (.int (7 : Int32)), .val (.int uu), .val (.long v0), .second, .val (.long v1), .second, .val (.long v2), .second, .val (.long v3), .second, .val (.long v4), .second, .val (.long v5), .second, .val (.long v6), .second, .val (.long v7), .second, .val (.ref b246), .val (.long v3), .second, .val (.int (3 : Int32)), .val (.long ((uu.toInt64) * (7 : Int64))), .second] [(.long (3 : Int64))])) rfl (hb hby at_623) t k)
      replace G := own_lmul (q := 627) G X277.here hx (hb hby at_626) (by decide : ((3 : Int64) * (100 : Int64)) = (300 : Int64)) rfl
      replace G := own_lload (q := 629) G X277.here hx (hb hby at_627) rfl rfl
      replace G := own_lcmp (q := 630) G X277.here hx (hb hby at_629) rfl
      have hc630_288 : (300 : Int64) < ((uu.toInt64) * (7 : Int64)) := by
        rw [hj, show (3 : Int32).toInt = 3 from rfl] at sp
        have A := c_lmul uu.toInt64 7
        rw [c_i2l, show (7 : Int64).toInt = 7 from rfl] at A
        have RA := rng64 (uu.toInt64 * 7)
        have hB : 0 ≤ uu.toInt * 7 ∧ uu.toInt * 7 ≤ 800 := by omega
        have e : (uu.toInt64 * 7).toInt = uu.toInt * 7 := by
          generalize uu.toInt * 7 = P at A hB ⊢
          omega
        rw [own_ltL, e, show (300 : Int64).toInt = 300 from rfl]
        omega
      replace G := own_ifNo (q := 633) G X277.here hx (hb hby at_630) ((if0 _ _).trans (tlt ((lw_lt _ _).mpr hc630_288)).2.1) rfl
      replace G := own_iconst (q := 634) G X277.here hx (hb hby at_633) (v := (1 : Int32)) (by decide) rfl
      replace G := own_goto (q := 638) G X277.here hx (hb hby at_634) (by decide) (by decide)
      obtain ⟨fs, hr, hrun, hended, hW, hsame⟩ := X277.leave (v := some (.int (1 : Int32))) (fun h => by rw [Bd.returns] at h; cases h)
      refine ⟨_, _, G _ (retOut X277 hx Bd.returns rfl (Or.inl ⟨rfl, Or.inr (Or.inl rfl), _, rfl⟩) (hb hby at_638) hr), hrun, hended, _, _, rfl, ?_, ⟨_, rfl⟩, hW, hsame.mono (by decide) (by decide)⟩
      show Q0 Z i0 i1 i2 i3 h0 n0 _ T277.heap _
      rw [e277]
      exact ⟨rfl, N277⟩
    · obtain ⟨_, _, ⟨T289, L289, kk289, nn289⟩, -, X289, ⟨Lc289, hQ289, l289, y289, z289⟩, st289⟩ := Jvm.LawKit.callS X253 hx (y := (⟨"com/example/cued/cued/Bench", "percentile", "([JI)J"⟩ : MethodName)) hown (mvT hZ (hw _ (List.mem_of_getElem? (i := 3) rfl))) (mvT hZ (hw _ (List.mem_of_getElem? (i := 4) rfl))) (mvT hZ (hw _ (List.mem_of_getElem? (i := 5) rfl))) (mvT hZ (hw _ (List.mem_of_getElem? (i := 6) rfl))) (by decide) (backOf (W := 0) (rm1 l Z a0 hw [] b246 uu k246 (7 : Int32) [(.long v0), (.long v1), (.long v2), (.long v3), (.long v4), (.long v5), (.long v6)] v4 h253 n0 Z253 V253 (by decide) huu (by rw [hj]; rfl)) hZ (hw _ (List.mem_of_getElem? (i := 6) rfl)) (hw _ (List.mem_of_getElem? (i := 5) rfl)) (by decide) (by decide)) (g := (mkF m 421 #[.val (.long i0), .second, .val (.long i1), .second, .val (.int i2), .val (.int i3), .val (.int (7 : Int32)), .val (.int uu), .val (.long v0), .second, .val (.long v1), .second, .val (.long v2), .second, .val (.long v3), .second, .val (.long v4), .second, .val (.long v5), .second, .val (.long v6), .second, .val (.long v7), .second, .val (.ref b246), .unset, .unset, .unset, .unset, .unset] [(.int uu), (.ref b246)])) rfl (by rw [hml]; rfl) (argsL := [(.ref b246), (.int uu)]) (rest := []) (lenOf pd_1 rfl) rfl (by show 2 * 0 + _ ≤ _; exact Nat.le_of_eq rfl) (hb hby at_421) (fun _ _ => ⟨rfl, e253, (by decide : 1 + 0 ≤ _), (by decide : 7 + 0 ≤ _)⟩)
      dsimp only [Pt.U, Pt.locs, Pt.cells, Pt.slots] at X289 l289 y289 z289 st289 hQ289
      subst l289 y289 z289
      obtain ⟨rfl, N289q, e289⟩ := hQ289
      have N289 := Fr.app N253 N289q
      replace G : Gets p e below _ (T289.setTop (mkF m 424 #[.val (.long i0), .second, .val (.long i1), .second, .val (.int i2), .val (.int i3), .val (.int (7 : Int32)), .val (.int uu), .val (.long v0), .second, .val (.long v1), .second, .val (.long v2), .second, .val (.long v3), .second, .val (.long v4), .second, .val (.long v5), .second, .val (.long v6), .second, .val (.long v7), .second, .val (.ref b246), .unset, .unset, .unset, .unset, .unset] [(.long v4)])) := fun t k => G t (st289 t k)
      replace G := own_lstore (q := 426) (l' := #[.val (.long i0), .second, .val (.long i1), .second, .val (.int i2), .val (.int i3), .val (.int (7 : Int32)), .val (.int uu), .val (.long v0), .second, .val (.long v1), .second, .val (.long v2), .second, .val (.long v3), .second, .val (.long v4), .second, .val (.long v5), .second, .val (.long v6), .second, .val (.long v7), .second, .val (.ref b246), .val (.long v4), .second, .unset, .unset, .unset]) G X289.here hx (hb hby at_424) rfl rfl
      replace G := own_iconst (q := 427) G X289.here hx (hb hby at_426) (v := (-1 : Int32)) (by decide) rfl
      replace G := own_istore (q := 429) (l' := #[.val (.long i0), .second, .val (.long i1), .second, .val (.int i2), .val (.int i3), .val (.int (7 : Int32)), .val (.int uu), .val (.long v0), .second, .val (.long v1), .second, .val (.long v2), .second, .val (.long v3), .second, .val (.long v4), .second, .val (.long v5), .second, .val (.long v6), .second, .val (.long v7), .second, .val (.ref b246), .val (.long v4), .second, .val (.int (-1 : Int32)), .unset, .unset]) G X289.here hx (hb hby at_427) rfl rfl
      replace G := own_lload (q := 431) G X289.here hx (hb hby at_429) rfl rfl
      replace G := own_lload (q := 433) G X289.here hx (hb hby at_431) rfl rfl
      replace G := own_lcmp (q := 434) G X289.here hx (hb hby at_433) rfl
      have hc434_290 : ¬ (v4 = v0) := fun z => by have := congrArg Int64.toInt z; omega
      replace G := own_ifYes (q := 443) G X289.here hx (hb hby at_434) ((if0 _ _).trans (feq (fun z => hc434_290 ((lw_eq _ _).mp z))).2) (by decide) (by decide)
      replace G := own_iload (q := 445) G X289.here hx (hb hby at_443) rfl rfl
      replace G := own_iconst (q := 446) G X289.here hx (hb hby at_445) (v := (1 : Int32)) (by decide) rfl
      have hc446_291 : (1 : Int32) < (7 : Int32) := by decide
      replace G := own_icmpNo (q := 449) G X289.here hx (hb hby at_446) (tlt hc446_291).2.2.2 rfl
      replace G := own_lload (q := 451) G X289.here hx (hb hby at_449) rfl rfl
      replace G := own_lload (q := 453) G X289.here hx (hb hby at_451) rfl rfl
      replace G := own_lcmp (q := 454) G X289.here hx (hb hby at_453) rfl
      have hc454_292 : ¬ (v4 = v1) := fun z => by have := congrArg Int64.toInt z; omega
      replace G := own_ifYes (q := 463) G X289.here hx (hb hby at_454) ((if0 _ _).trans (feq (fun z => hc454_292 ((lw_eq _ _).mp z))).2) (by decide) (by decide)
      replace G := own_iload (q := 465) G X289.here hx (hb hby at_463) rfl rfl
      replace G := own_iconst (q := 466) G X289.here hx (hb hby at_465) (v := (2 : Int32)) (by decide) rfl
      have hc466_293 : (2 : Int32) < (7 : Int32) := by decide
      replace G := own_icmpNo (q := 469) G X289.here hx (hb hby at_466) (tlt hc466_293).2.2.2 rfl
      replace G := own_lload (q := 471) G X289.here hx (hb hby at_469) rfl rfl
      replace G := own_lload (q := 473) G X289.here hx (hb hby at_471) rfl rfl
      replace G := own_lcmp (q := 474) G X289.here hx (hb hby at_473) rfl
      have hc474_294 : ¬ (v4 = v2) := fun z => by have := congrArg Int64.toInt z; omega
      replace G := own_ifYes (q := 483) G X289.here hx (hb hby at_474) ((if0 _ _).trans (feq (fun z => hc474_294 ((lw_eq _ _).mp z))).2) (by decide) (by decide)
      replace G := own_iload (q := 485) G X289.here hx (hb hby at_483) rfl rfl
      replace G := own_iconst (q := 486) G X289.here hx (hb hby at_485) (v := (3 : Int32)) (by decide) rfl
      have hc486_295 : (3 : Int32) < (7 : Int32) := by decide
      replace G := own_icmpNo (q := 489) G X289.here hx (hb hby at_486) (tlt hc486_295).2.2.2 rfl
      replace G := own_lload (q := 491) G X289.here hx (hb hby at_489) rfl rfl
      replace G := own_lload (q := 493) G X289.here hx (hb hby at_491) rfl rfl
      replace G := own_lcmp (q := 494) G X289.here hx (hb hby at_493) rfl
      have hc494_296 : ¬ (v4 = v3) := fun z => by have := congrArg Int64.toInt z; omega
      replace G := own_ifYes (q := 503) G X289.here hx (hb hby at_494) ((if0 _ _).trans (feq (fun z => hc494_296 ((lw_eq _ _).mp z))).2) (by decide) (by decide)
      replace G := own_iload (q := 505) G X289.here hx (hb hby at_503) rfl rfl
      replace G := own_iconst (q := 506) G X289.here hx (hb hby at_505) (v := (4 : Int32)) (by decide) rfl
      have hc506_297 : (4 : Int32) < (7 : Int32) := by decide
      replace G := own_icmpNo (q := 509) G X289.here hx (hb hby at_506) (tlt hc506_297).2.2.2 rfl
      replace G := own_lload (q := 511) G X289.here hx (hb hby at_509) rfl rfl
      replace G := own_lload (q := 513) G X289.here hx (hb hby at_511) rfl rfl
      replace G := own_lcmp (q := 514) G X289.here hx (hb hby at_513) rfl
      have hc514_298 : v4 = v4 := rfl
      replace G := own_ifNo (q := 517) G X289.here hx (hb hby at_514) ((if0 _ _).trans (teq ((lw_eq _ _).mpr hc514_298)).2) rfl
      replace G := own_iconst (q := 518) G X289.here hx (hb hby at_517) (v := (4 : Int32)) (by decide) rfl
      replace G := own_istore (q := 520) (l' := #[.val (.long i0), .second, .val (.long i1), .second, .val (.int i2), .val (.int i3), .val (.int (7 : Int32)), .val (.int uu), .val (.long v0), .second, .val (.long v1), .second, .val (.long v2), .second, .val (.long v3), .second, .val (.long v4), .second, .val (.long v5), .second, .val (.long v6), .second, .val (.long v7), .second, .val (.ref b246), .val (.long v4), .second, .val (.int (4 : Int32)), .unset, .unset]) G X289.here hx (hb hby at_518) rfl rfl
      replace G := own_goto (q := 584) G X289.here hx (hb hby at_520) (by decide) (by decide)
      replace G := own_iload (q := 586) G X289.here hx (hb hby at_584) rfl rfl
      have hc586_299 : ¬ ((4 : Int32) < (0 : Int32)) := by decide
      replace G := own_ifYes (q := 591) G X289.here hx (hb hby at_586) ((if0 _ _).trans (flt hc586_299).2.1) (by decide) (by decide)
      replace G := own_iload (q := 593) G X289.here hx (hb hby at_591) rfl rfl
      replace G := own_i2l (q := 594) G X289.here hx (hb hby at_593) rfl rfl
      replace G := own_iload (q := 596) G X289.here hx (hb hby at_594) rfl rfl
      replace G := own_i2l (q := 597) G X289.here hx (hb hby at_596) (by decide : ((7 : Int32).toInt64) = (7 : Int64)) rfl
      replace G := own_lmul (q := 598) G X289.here hx (hb hby at_597) rfl rfl
      replace G := own_lstore (q := 600) (l' := #[.val (.long i0), .second, .val (.long i1), .second, .val (.int i2), .val (.int i3), .val (.int (7 : Int32)), .val (.int uu), .val (.long v0), .second, .val (.long v1), .second, .val (.long v2), .second, .val (.long v3), .second, .val (.long v4), .second, .val (.long v5), .second, .val (.long v6), .second, .val (.long v7), .second, .val (.ref b246), .val (.long v4), .second, .val (.int (4 : Int32)), .val (.long ((uu.toInt64) * (7 : Int64))), .second]) G X289.here hx (hb hby at_598) rfl rfl
      replace G := own_iload (q := 602) G X289.here hx (hb hby at_600) rfl rfl
      replace G := own_iconst (q := 603) G X289.here hx (hb hby at_602) (v := (1 : Int32)) (by decide) rfl
      replace G := own_iadd (q := 604) G X289.here hx (hb hby at_603) (by decide : ((4 : Int32) + (1 : Int32)) = (5 : Int32)) rfl
      replace G := own_i2l (q := 605) G X289.here hx (hb hby at_604) (by decide : ((5 : Int32).toInt64) = (5 : Int64)) rfl
      replace G : Gets p e below _ (T289.setTop (mkF m 608 #[.val (.long i0), .second, .val (.long i1), .second, .val (.int i2), .val (.int i3), .val (.int (7 : Int32)), .val (.int uu), .val (.long v0), .second, .val (.long v1), .second, .val (.long v2), .second, .val (.long v3), .second, .val (.long v4), .second, .val (.long v5), .second, .val (.long v6), .second, .val (.long v7), .second, .val (.ref b246), .val (.long v4), .second, .val (.int (4 : Int32)), .val (.long ((uu.toInt64) * (7 : Int64))), .second] [(.long (100 : Int64)), (.long (5 : Int64))])) := fun t k => G t (X289.ldc2Long hx hown (mvT hZ (hw _ (List.mem_of_getElem? (i := 13) rfl))) (g := (mkF m 605 #[.val (.long i0), .second, .val (.long i1), .second, .val (.int i2), .val (.int i3), .val (.int (7 : Int32)), .val (.int uu), .val (.long v0), .second, .val (.long v1), .second, .val (.long v2), .second, .val (.long v3), .second, .val (.long v4), .second, .val (.long v5), .second, .val (.long v6), .second, .val (.long v7), .second, .val (.ref b246), .val (.long v4), .second, .val (.int (4 : Int32)), .val (.long ((uu.toInt64) * (7 : Int64))), .second] [(.long (5 : Int64))])) rfl (hb hby at_605) t k)
      replace G := own_lmul (q := 609) G X289.here hx (hb hby at_608) (by decide : ((5 : Int64) * (100 : Int64)) = (500 : Int64)) rfl
      replace G := own_lload (q := 611) G X289.here hx (hb hby at_609) rfl rfl
      replace G := own_lcmp (q := 612) G X289.here hx (hb hby at_611) rfl
      have hc612_300 : ¬ ((500 : Int64) < ((uu.toInt64) * (7 : Int64))) := by
        rw [hj, show (4 : Int32).toInt = 4 from rfl] at sp
        have A := c_lmul uu.toInt64 7
        rw [c_i2l, show (7 : Int64).toInt = 7 from rfl] at A
        have RA := rng64 (uu.toInt64 * 7)
        have hB : 0 ≤ uu.toInt * 7 ∧ uu.toInt * 7 ≤ 800 := by omega
        have e : (uu.toInt64 * 7).toInt = uu.toInt * 7 := by
          generalize uu.toInt * 7 = P at A hB ⊢
          omega
        rw [own_ltL, e, show (500 : Int64).toInt = 500 from rfl]
        omega
      replace G := own_ifNo (q := 615) G X289.here hx (hb hby at_612) ((if0 _ _).trans (flt (fun z => hc612_300 ((lw_lt _ _).mp z))).1) rfl
      replace G := own_iload (q := 617) G X289.here hx (hb hby at_615) rfl rfl
      have hc617_301 : ¬ ((4 : Int32) = (0 : Int32)) := by decide
      replace G := own_ifNo (q := 620) G X289.here hx (hb hby at_617) ((if0 _ _).trans (feq hc617_301).1) rfl
      replace G := own_iload (q := 622) G X289.here hx (hb hby at_620) rfl rfl
      replace G := own_i2l (q := 623) G X289.here hx (hb hby at_622) (by decide : ((4 : Int32).toInt64) = (4 : Int64)) rfl
      replace G : Gets p e below _ (T289.setTop (mkF m 626 #[.val (.long i0), .second, .val (.long i1), .second, .val (.int i2), .val (.int i3), .val (.int (7 : Int32)), .val (.int uu), .val (.long v0), .second, .val (.long v1), .second, .val (.long v2), .second, .val (.long v3), .second, .val (.long v4), .second, .val (.long v5), .second, .val (.long v6), .second, .val (.long v7), .second, .val (.ref b246), .val (.long v4), .second, .val (.int (4 : Int32)), .val (.long ((uu.toInt64) * (7 : Int64))), .second] [(.long (100 : Int64)), (.long (4 : Int64))])) := fun t k => G t (X289.ldc2Long hx hown (mvT hZ (hw _ (List.mem_of_getElem? (i := 13) rfl))) (g := (mkF m 623 #[.val (.long i0), .second, .val (.long i1), .second, .val (.int i2), .val (.int i3), .val (.int (7 : Int32)), .val (.int uu), .val (.long v0), .second, .val (.long v1), .second, .val (.long v2), .second, .val (.long v3), .second, .val (.long v4), .second, .val (.long v5), .second, .val (.long v6), .second, .val (.long v7), .second, .val (.ref b246), .val (.long v4), .second, .val (.int (4 : Int32)), .val (.long ((uu.toInt64) * (7 : Int64))), .second] [(.long (4 : Int64))])) rfl (hb hby at_623) t k)
      replace G := own_lmul (q := 627) G X289.here hx (hb hby at_626) (by decide : ((4 : Int64) * (100 : Int64)) = (400 : Int64)) rfl
      replace G := own_lload (q := 629) G X289.here hx (hb hby at_627) rfl rfl
      replace G := own_lcmp (q := 630) G X289.here hx (hb hby at_629) rfl
      have hc630_302 : (400 : Int64) < ((uu.toInt64) * (7 : Int64)) := by
        rw [hj, show (4 : Int32).toInt = 4 from rfl] at sp
        have A := c_lmul uu.toInt64 7
        rw [c_i2l, show (7 : Int64).toInt = 7 from rfl] at A
        have RA := rng64 (uu.toInt64 * 7)
        have hB : 0 ≤ uu.toInt * 7 ∧ uu.toInt * 7 ≤ 800 := by omega
        have e : (uu.toInt64 * 7).toInt = uu.toInt * 7 := by
          generalize uu.toInt * 7 = P at A hB ⊢
          omega
        rw [own_ltL, e, show (400 : Int64).toInt = 400 from rfl]
        omega
      replace G := own_ifNo (q := 633) G X289.here hx (hb hby at_630) ((if0 _ _).trans (tlt ((lw_lt _ _).mpr hc630_302)).2.1) rfl
      replace G := own_iconst (q := 634) G X289.here hx (hb hby at_633) (v := (1 : Int32)) (by decide) rfl
      replace G := own_goto (q := 638) G X289.here hx (hb hby at_634) (by decide) (by decide)
      obtain ⟨fs, hr, hrun, hended, hW, hsame⟩ := X289.leave (v := some (.int (1 : Int32))) (fun h => by rw [Bd.returns] at h; cases h)
      refine ⟨_, _, G _ (retOut X289 hx Bd.returns rfl (Or.inl ⟨rfl, Or.inr (Or.inl rfl), _, rfl⟩) (hb hby at_638) hr), hrun, hended, _, _, rfl, ?_, ⟨_, rfl⟩, hW, hsame.mono (by decide) (by decide)⟩
      show Q0 Z i0 i1 i2 i3 h0 n0 _ T289.heap _
      rw [e289]
      exact ⟨rfl, N289⟩
    · obtain ⟨_, _, ⟨T303, L303, kk303, nn303⟩, -, X303, ⟨Lc303, hQ303, l303, y303, z303⟩, st303⟩ := Jvm.LawKit.callS X253 hx (y := (⟨"com/example/cued/cued/Bench", "percentile", "([JI)J"⟩ : MethodName)) hown (mvT hZ (hw _ (List.mem_of_getElem? (i := 3) rfl))) (mvT hZ (hw _ (List.mem_of_getElem? (i := 4) rfl))) (mvT hZ (hw _ (List.mem_of_getElem? (i := 5) rfl))) (mvT hZ (hw _ (List.mem_of_getElem? (i := 6) rfl))) (by decide) (backOf (W := 0) (rm1 l Z a0 hw [] b246 uu k246 (7 : Int32) [(.long v0), (.long v1), (.long v2), (.long v3), (.long v4), (.long v5), (.long v6)] v5 h253 n0 Z253 V253 (by decide) huu (by rw [hj]; rfl)) hZ (hw _ (List.mem_of_getElem? (i := 6) rfl)) (hw _ (List.mem_of_getElem? (i := 5) rfl)) (by decide) (by decide)) (g := (mkF m 421 #[.val (.long i0), .second, .val (.long i1), .second, .val (.int i2), .val (.int i3), .val (.int (7 : Int32)), .val (.int uu), .val (.long v0), .second, .val (.long v1), .second, .val (.long v2), .second, .val (.long v3), .second, .val (.long v4), .second, .val (.long v5), .second, .val (.long v6), .second, .val (.long v7), .second, .val (.ref b246), .unset, .unset, .unset, .unset, .unset] [(.int uu), (.ref b246)])) rfl (by rw [hml]; rfl) (argsL := [(.ref b246), (.int uu)]) (rest := []) (lenOf pd_1 rfl) rfl (by show 2 * 0 + _ ≤ _; exact Nat.le_of_eq rfl) (hb hby at_421) (fun _ _ => ⟨rfl, e253, (by decide : 1 + 0 ≤ _), (by decide : 7 + 0 ≤ _)⟩)
      dsimp only [Pt.U, Pt.locs, Pt.cells, Pt.slots] at X303 l303 y303 z303 st303 hQ303
      subst l303 y303 z303
      obtain ⟨rfl, N303q, e303⟩ := hQ303
      have N303 := Fr.app N253 N303q
      replace G : Gets p e below _ (T303.setTop (mkF m 424 #[.val (.long i0), .second, .val (.long i1), .second, .val (.int i2), .val (.int i3), .val (.int (7 : Int32)), .val (.int uu), .val (.long v0), .second, .val (.long v1), .second, .val (.long v2), .second, .val (.long v3), .second, .val (.long v4), .second, .val (.long v5), .second, .val (.long v6), .second, .val (.long v7), .second, .val (.ref b246), .unset, .unset, .unset, .unset, .unset] [(.long v5)])) := fun t k => G t (st303 t k)
      replace G := own_lstore (q := 426) (l' := #[.val (.long i0), .second, .val (.long i1), .second, .val (.int i2), .val (.int i3), .val (.int (7 : Int32)), .val (.int uu), .val (.long v0), .second, .val (.long v1), .second, .val (.long v2), .second, .val (.long v3), .second, .val (.long v4), .second, .val (.long v5), .second, .val (.long v6), .second, .val (.long v7), .second, .val (.ref b246), .val (.long v5), .second, .unset, .unset, .unset]) G X303.here hx (hb hby at_424) rfl rfl
      replace G := own_iconst (q := 427) G X303.here hx (hb hby at_426) (v := (-1 : Int32)) (by decide) rfl
      replace G := own_istore (q := 429) (l' := #[.val (.long i0), .second, .val (.long i1), .second, .val (.int i2), .val (.int i3), .val (.int (7 : Int32)), .val (.int uu), .val (.long v0), .second, .val (.long v1), .second, .val (.long v2), .second, .val (.long v3), .second, .val (.long v4), .second, .val (.long v5), .second, .val (.long v6), .second, .val (.long v7), .second, .val (.ref b246), .val (.long v5), .second, .val (.int (-1 : Int32)), .unset, .unset]) G X303.here hx (hb hby at_427) rfl rfl
      replace G := own_lload (q := 431) G X303.here hx (hb hby at_429) rfl rfl
      replace G := own_lload (q := 433) G X303.here hx (hb hby at_431) rfl rfl
      replace G := own_lcmp (q := 434) G X303.here hx (hb hby at_433) rfl
      have hc434_304 : ¬ (v5 = v0) := fun z => by have := congrArg Int64.toInt z; omega
      replace G := own_ifYes (q := 443) G X303.here hx (hb hby at_434) ((if0 _ _).trans (feq (fun z => hc434_304 ((lw_eq _ _).mp z))).2) (by decide) (by decide)
      replace G := own_iload (q := 445) G X303.here hx (hb hby at_443) rfl rfl
      replace G := own_iconst (q := 446) G X303.here hx (hb hby at_445) (v := (1 : Int32)) (by decide) rfl
      have hc446_305 : (1 : Int32) < (7 : Int32) := by decide
      replace G := own_icmpNo (q := 449) G X303.here hx (hb hby at_446) (tlt hc446_305).2.2.2 rfl
      replace G := own_lload (q := 451) G X303.here hx (hb hby at_449) rfl rfl
      replace G := own_lload (q := 453) G X303.here hx (hb hby at_451) rfl rfl
      replace G := own_lcmp (q := 454) G X303.here hx (hb hby at_453) rfl
      have hc454_306 : ¬ (v5 = v1) := fun z => by have := congrArg Int64.toInt z; omega
      replace G := own_ifYes (q := 463) G X303.here hx (hb hby at_454) ((if0 _ _).trans (feq (fun z => hc454_306 ((lw_eq _ _).mp z))).2) (by decide) (by decide)
      replace G := own_iload (q := 465) G X303.here hx (hb hby at_463) rfl rfl
      replace G := own_iconst (q := 466) G X303.here hx (hb hby at_465) (v := (2 : Int32)) (by decide) rfl
      have hc466_307 : (2 : Int32) < (7 : Int32) := by decide
      replace G := own_icmpNo (q := 469) G X303.here hx (hb hby at_466) (tlt hc466_307).2.2.2 rfl
      replace G := own_lload (q := 471) G X303.here hx (hb hby at_469) rfl rfl
      replace G := own_lload (q := 473) G X303.here hx (hb hby at_471) rfl rfl
      replace G := own_lcmp (q := 474) G X303.here hx (hb hby at_473) rfl
      have hc474_308 : ¬ (v5 = v2) := fun z => by have := congrArg Int64.toInt z; omega
      replace G := own_ifYes (q := 483) G X303.here hx (hb hby at_474) ((if0 _ _).trans (feq (fun z => hc474_308 ((lw_eq _ _).mp z))).2) (by decide) (by decide)
      replace G := own_iload (q := 485) G X303.here hx (hb hby at_483) rfl rfl
      replace G := own_iconst (q := 486) G X303.here hx (hb hby at_485) (v := (3 : Int32)) (by decide) rfl
      have hc486_309 : (3 : Int32) < (7 : Int32) := by decide
      replace G := own_icmpNo (q := 489) G X303.here hx (hb hby at_486) (tlt hc486_309).2.2.2 rfl
      replace G := own_lload (q := 491) G X303.here hx (hb hby at_489) rfl rfl
      replace G := own_lload (q := 493) G X303.here hx (hb hby at_491) rfl rfl
      replace G := own_lcmp (q := 494) G X303.here hx (hb hby at_493) rfl
      have hc494_310 : ¬ (v5 = v3) := fun z => by have := congrArg Int64.toInt z; omega
      replace G := own_ifYes (q := 503) G X303.here hx (hb hby at_494) ((if0 _ _).trans (feq (fun z => hc494_310 ((lw_eq _ _).mp z))).2) (by decide) (by decide)
      replace G := own_iload (q := 505) G X303.here hx (hb hby at_503) rfl rfl
      replace G := own_iconst (q := 506) G X303.here hx (hb hby at_505) (v := (4 : Int32)) (by decide) rfl
      have hc506_311 : (4 : Int32) < (7 : Int32) := by decide
      replace G := own_icmpNo (q := 509) G X303.here hx (hb hby at_506) (tlt hc506_311).2.2.2 rfl
      replace G := own_lload (q := 511) G X303.here hx (hb hby at_509) rfl rfl
      replace G := own_lload (q := 513) G X303.here hx (hb hby at_511) rfl rfl
      replace G := own_lcmp (q := 514) G X303.here hx (hb hby at_513) rfl
      have hc514_312 : ¬ (v5 = v4) := fun z => by have := congrArg Int64.toInt z; omega
      replace G := own_ifYes (q := 523) G X303.here hx (hb hby at_514) ((if0 _ _).trans (feq (fun z => hc514_312 ((lw_eq _ _).mp z))).2) (by decide) (by decide)
      replace G := own_iload (q := 525) G X303.here hx (hb hby at_523) rfl rfl
      replace G := own_iconst (q := 526) G X303.here hx (hb hby at_525) (v := (5 : Int32)) (by decide) rfl
      have hc526_313 : (5 : Int32) < (7 : Int32) := by decide
      replace G := own_icmpNo (q := 529) G X303.here hx (hb hby at_526) (tlt hc526_313).2.2.2 rfl
      replace G := own_lload (q := 531) G X303.here hx (hb hby at_529) rfl rfl
      replace G := own_lload (q := 533) G X303.here hx (hb hby at_531) rfl rfl
      replace G := own_lcmp (q := 534) G X303.here hx (hb hby at_533) rfl
      have hc534_314 : v5 = v5 := rfl
      replace G := own_ifNo (q := 537) G X303.here hx (hb hby at_534) ((if0 _ _).trans (teq ((lw_eq _ _).mpr hc534_314)).2) rfl
      replace G := own_iconst (q := 538) G X303.here hx (hb hby at_537) (v := (5 : Int32)) (by decide) rfl
      replace G := own_istore (q := 540) (l' := #[.val (.long i0), .second, .val (.long i1), .second, .val (.int i2), .val (.int i3), .val (.int (7 : Int32)), .val (.int uu), .val (.long v0), .second, .val (.long v1), .second, .val (.long v2), .second, .val (.long v3), .second, .val (.long v4), .second, .val (.long v5), .second, .val (.long v6), .second, .val (.long v7), .second, .val (.ref b246), .val (.long v5), .second, .val (.int (5 : Int32)), .unset, .unset]) G X303.here hx (hb hby at_538) rfl rfl
      replace G := own_goto (q := 584) G X303.here hx (hb hby at_540) (by decide) (by decide)
      replace G := own_iload (q := 586) G X303.here hx (hb hby at_584) rfl rfl
      have hc586_315 : ¬ ((5 : Int32) < (0 : Int32)) := by decide
      replace G := own_ifYes (q := 591) G X303.here hx (hb hby at_586) ((if0 _ _).trans (flt hc586_315).2.1) (by decide) (by decide)
      replace G := own_iload (q := 593) G X303.here hx (hb hby at_591) rfl rfl
      replace G := own_i2l (q := 594) G X303.here hx (hb hby at_593) rfl rfl
      replace G := own_iload (q := 596) G X303.here hx (hb hby at_594) rfl rfl
      replace G := own_i2l (q := 597) G X303.here hx (hb hby at_596) (by decide : ((7 : Int32).toInt64) = (7 : Int64)) rfl
      replace G := own_lmul (q := 598) G X303.here hx (hb hby at_597) rfl rfl
      replace G := own_lstore (q := 600) (l' := #[.val (.long i0), .second, .val (.long i1), .second, .val (.int i2), .val (.int i3), .val (.int (7 : Int32)), .val (.int uu), .val (.long v0), .second, .val (.long v1), .second, .val (.long v2), .second, .val (.long v3), .second, .val (.long v4), .second, .val (.long v5), .second, .val (.long v6), .second, .val (.long v7), .second, .val (.ref b246), .val (.long v5), .second, .val (.int (5 : Int32)), .val (.long ((uu.toInt64) * (7 : Int64))), .second]) G X303.here hx (hb hby at_598) rfl rfl
      replace G := own_iload (q := 602) G X303.here hx (hb hby at_600) rfl rfl
      replace G := own_iconst (q := 603) G X303.here hx (hb hby at_602) (v := (1 : Int32)) (by decide) rfl
      replace G := own_iadd (q := 604) G X303.here hx (hb hby at_603) (by decide : ((5 : Int32) + (1 : Int32)) = (6 : Int32)) rfl
      replace G := own_i2l (q := 605) G X303.here hx (hb hby at_604) (by decide : ((6 : Int32).toInt64) = (6 : Int64)) rfl
      replace G : Gets p e below _ (T303.setTop (mkF m 608 #[.val (.long i0), .second, .val (.long i1), .second, .val (.int i2), .val (.int i3), .val (.int (7 : Int32)), .val (.int uu), .val (.long v0), .second, .val (.long v1), .second, .val (.long v2), .second, .val (.long v3), .second, .val (.long v4), .second, .val (.long v5), .second, .val (.long v6), .second, .val (.long v7), .second, .val (.ref b246), .val (.long v5), .second, .val (.int (5 : Int32)), .val (.long ((uu.toInt64) * (7 : Int64))), .second] [(.long (100 : Int64)), (.long (6 : Int64))])) := fun t k => G t (X303.ldc2Long hx hown (mvT hZ (hw _ (List.mem_of_getElem? (i := 13) rfl))) (g := (mkF m 605 #[.val (.long i0), .second, .val (.long i1), .second, .val (.int i2), .val (.int i3), .val (.int (7 : Int32)), .val (.int uu), .val (.long v0), .second, .val (.long v1), .second, .val (.long v2), .second, .val (.long v3), .second, .val (.long v4), .second, .val (.long v5), .second, .val (.long v6), .second, .val (.long v7), .second, .val (.ref b246), .val (.long v5), .second, .val (.int (5 : Int32)), .val (.long ((uu.toInt64) * (7 : Int64))), .second] [(.long (6 : Int64))])) rfl (hb hby at_605) t k)
      replace G := own_lmul (q := 609) G X303.here hx (hb hby at_608) (by decide : ((6 : Int64) * (100 : Int64)) = (600 : Int64)) rfl
      replace G := own_lload (q := 611) G X303.here hx (hb hby at_609) rfl rfl
      replace G := own_lcmp (q := 612) G X303.here hx (hb hby at_611) rfl
      have hc612_316 : ¬ ((600 : Int64) < ((uu.toInt64) * (7 : Int64))) := by
        rw [hj, show (5 : Int32).toInt = 5 from rfl] at sp
        have A := c_lmul uu.toInt64 7
        rw [c_i2l, show (7 : Int64).toInt = 7 from rfl] at A
        have RA := rng64 (uu.toInt64 * 7)
        have hB : 0 ≤ uu.toInt * 7 ∧ uu.toInt * 7 ≤ 800 := by omega
        have e : (uu.toInt64 * 7).toInt = uu.toInt * 7 := by
          generalize uu.toInt * 7 = P at A hB ⊢
          omega
        rw [own_ltL, e, show (600 : Int64).toInt = 600 from rfl]
        omega
      replace G := own_ifNo (q := 615) G X303.here hx (hb hby at_612) ((if0 _ _).trans (flt (fun z => hc612_316 ((lw_lt _ _).mp z))).1) rfl
      replace G := own_iload (q := 617) G X303.here hx (hb hby at_615) rfl rfl
      have hc617_317 : ¬ ((5 : Int32) = (0 : Int32)) := by decide
      replace G := own_ifNo (q := 620) G X303.here hx (hb hby at_617) ((if0 _ _).trans (feq hc617_317).1) rfl
      replace G := own_iload (q := 622) G X303.here hx (hb hby at_620) rfl rfl
      replace G := own_i2l (q := 623) G X303.here hx (hb hby at_622) (by decide : ((5 : Int32).toInt64) = (5 : Int64)) rfl
      replace G : Gets p e below _ (T303.setTop (mkF m 626 #[.val (.long i0), .second, .val (.long i1), .second, .val (.int i2), .val (.int i3), .val (.int (7 : Int32)), .val (.int uu), .val (.long v0), .second, .val (.long v1), .second, .val (.long v2), .second, .val (.long v3), .second, .val (.long v4), .second, .val (.long v5), .second, .val (.long v6), .second, .val (.long v7), .second, .val (.ref b246), .val (.long v5), .second, .val (.int (5 : Int32)), .val (.long ((uu.toInt64) * (7 : Int64))), .second] [(.long (100 : Int64)), (.long (5 : Int64))])) := fun t k => G t (X303.ldc2Long hx hown (mvT hZ (hw _ (List.mem_of_getElem? (i := 13) rfl))) (g := (mkF m 623 #[.val (.long i0), .second, .val (.long i1), .second, .val (.int i2), .val (.int i3), .val (.int (7 : Int32)), .val (.int uu), .val (.long v0), .second, .val (.long v1), .second, .val (.long v2), .second, .val (.long v3), .second, .val (.long v4), .second, .val (.long v5), .second, .val (.long v6), .second, .val (.long v7), .second, .val (.ref b246), .val (.long v5), .second, .val (.int (5 : Int32)), .val (.long ((uu.toInt64) * (7 : Int64))), .second] [(.long (5 : Int64))])) rfl (hb hby at_623) t k)
      replace G := own_lmul (q := 627) G X303.here hx (hb hby at_626) (by decide : ((5 : Int64) * (100 : Int64)) = (500 : Int64)) rfl
      replace G := own_lload (q := 629) G X303.here hx (hb hby at_627) rfl rfl
      replace G := own_lcmp (q := 630) G X303.here hx (hb hby at_629) rfl
      have hc630_318 : (500 : Int64) < ((uu.toInt64) * (7 : Int64)) := by
        rw [hj, show (5 : Int32).toInt = 5 from rfl] at sp
        have A := c_lmul uu.toInt64 7
        rw [c_i2l, show (7 : Int64).toInt = 7 from rfl] at A
        have RA := rng64 (uu.toInt64 * 7)
        have hB : 0 ≤ uu.toInt * 7 ∧ uu.toInt * 7 ≤ 800 := by omega
        have e : (uu.toInt64 * 7).toInt = uu.toInt * 7 := by
          generalize uu.toInt * 7 = P at A hB ⊢
          omega
        rw [own_ltL, e, show (500 : Int64).toInt = 500 from rfl]
        omega
      replace G := own_ifNo (q := 633) G X303.here hx (hb hby at_630) ((if0 _ _).trans (tlt ((lw_lt _ _).mpr hc630_318)).2.1) rfl
      replace G := own_iconst (q := 634) G X303.here hx (hb hby at_633) (v := (1 : Int32)) (by decide) rfl
      replace G := own_goto (q := 638) G X303.here hx (hb hby at_634) (by decide) (by decide)
      obtain ⟨fs, hr, hrun, hended, hW, hsame⟩ := X303.leave (v := some (.int (1 : Int32))) (fun h => by rw [Bd.returns] at h; cases h)
      refine ⟨_, _, G _ (retOut X303 hx Bd.returns rfl (Or.inl ⟨rfl, Or.inr (Or.inl rfl), _, rfl⟩) (hb hby at_638) hr), hrun, hended, _, _, rfl, ?_, ⟨_, rfl⟩, hW, hsame.mono (by decide) (by decide)⟩
      show Q0 Z i0 i1 i2 i3 h0 n0 _ T303.heap _
      rw [e303]
      exact ⟨rfl, N303⟩
    · obtain ⟨_, _, ⟨T319, L319, kk319, nn319⟩, -, X319, ⟨Lc319, hQ319, l319, y319, z319⟩, st319⟩ := Jvm.LawKit.callS X253 hx (y := (⟨"com/example/cued/cued/Bench", "percentile", "([JI)J"⟩ : MethodName)) hown (mvT hZ (hw _ (List.mem_of_getElem? (i := 3) rfl))) (mvT hZ (hw _ (List.mem_of_getElem? (i := 4) rfl))) (mvT hZ (hw _ (List.mem_of_getElem? (i := 5) rfl))) (mvT hZ (hw _ (List.mem_of_getElem? (i := 6) rfl))) (by decide) (backOf (W := 0) (rm1 l Z a0 hw [] b246 uu k246 (7 : Int32) [(.long v0), (.long v1), (.long v2), (.long v3), (.long v4), (.long v5), (.long v6)] v6 h253 n0 Z253 V253 (by decide) huu (by rw [hj]; rfl)) hZ (hw _ (List.mem_of_getElem? (i := 6) rfl)) (hw _ (List.mem_of_getElem? (i := 5) rfl)) (by decide) (by decide)) (g := (mkF m 421 #[.val (.long i0), .second, .val (.long i1), .second, .val (.int i2), .val (.int i3), .val (.int (7 : Int32)), .val (.int uu), .val (.long v0), .second, .val (.long v1), .second, .val (.long v2), .second, .val (.long v3), .second, .val (.long v4), .second, .val (.long v5), .second, .val (.long v6), .second, .val (.long v7), .second, .val (.ref b246), .unset, .unset, .unset, .unset, .unset] [(.int uu), (.ref b246)])) rfl (by rw [hml]; rfl) (argsL := [(.ref b246), (.int uu)]) (rest := []) (lenOf pd_1 rfl) rfl (by show 2 * 0 + _ ≤ _; exact Nat.le_of_eq rfl) (hb hby at_421) (fun _ _ => ⟨rfl, e253, (by decide : 1 + 0 ≤ _), (by decide : 7 + 0 ≤ _)⟩)
      dsimp only [Pt.U, Pt.locs, Pt.cells, Pt.slots] at X319 l319 y319 z319 st319 hQ319
      subst l319 y319 z319
      obtain ⟨rfl, N319q, e319⟩ := hQ319
      have N319 := Fr.app N253 N319q
      replace G : Gets p e below _ (T319.setTop (mkF m 424 #[.val (.long i0), .second, .val (.long i1), .second, .val (.int i2), .val (.int i3), .val (.int (7 : Int32)), .val (.int uu), .val (.long v0), .second, .val (.long v1), .second, .val (.long v2), .second, .val (.long v3), .second, .val (.long v4), .second, .val (.long v5), .second, .val (.long v6), .second, .val (.long v7), .second, .val (.ref b246), .unset, .unset, .unset, .unset, .unset] [(.long v6)])) := fun t k => G t (st319 t k)
      replace G := own_lstore (q := 426) (l' := #[.val (.long i0), .second, .val (.long i1), .second, .val (.int i2), .val (.int i3), .val (.int (7 : Int32)), .val (.int uu), .val (.long v0), .second, .val (.long v1), .second, .val (.long v2), .second, .val (.long v3), .second, .val (.long v4), .second, .val (.long v5), .second, .val (.long v6), .second, .val (.long v7), .second, .val (.ref b246), .val (.long v6), .second, .unset, .unset, .unset]) G X319.here hx (hb hby at_424) rfl rfl
      replace G := own_iconst (q := 427) G X319.here hx (hb hby at_426) (v := (-1 : Int32)) (by decide) rfl
      replace G := own_istore (q := 429) (l' := #[.val (.long i0), .second, .val (.long i1), .second, .val (.int i2), .val (.int i3), .val (.int (7 : Int32)), .val (.int uu), .val (.long v0), .second, .val (.long v1), .second, .val (.long v2), .second, .val (.long v3), .second, .val (.long v4), .second, .val (.long v5), .second, .val (.long v6), .second, .val (.long v7), .second, .val (.ref b246), .val (.long v6), .second, .val (.int (-1 : Int32)), .unset, .unset]) G X319.here hx (hb hby at_427) rfl rfl
      replace G := own_lload (q := 431) G X319.here hx (hb hby at_429) rfl rfl
      replace G := own_lload (q := 433) G X319.here hx (hb hby at_431) rfl rfl
      replace G := own_lcmp (q := 434) G X319.here hx (hb hby at_433) rfl
      have hc434_320 : ¬ (v6 = v0) := fun z => by have := congrArg Int64.toInt z; omega
      replace G := own_ifYes (q := 443) G X319.here hx (hb hby at_434) ((if0 _ _).trans (feq (fun z => hc434_320 ((lw_eq _ _).mp z))).2) (by decide) (by decide)
      replace G := own_iload (q := 445) G X319.here hx (hb hby at_443) rfl rfl
      replace G := own_iconst (q := 446) G X319.here hx (hb hby at_445) (v := (1 : Int32)) (by decide) rfl
      have hc446_321 : (1 : Int32) < (7 : Int32) := by decide
      replace G := own_icmpNo (q := 449) G X319.here hx (hb hby at_446) (tlt hc446_321).2.2.2 rfl
      replace G := own_lload (q := 451) G X319.here hx (hb hby at_449) rfl rfl
      replace G := own_lload (q := 453) G X319.here hx (hb hby at_451) rfl rfl
      replace G := own_lcmp (q := 454) G X319.here hx (hb hby at_453) rfl
      have hc454_322 : ¬ (v6 = v1) := fun z => by have := congrArg Int64.toInt z; omega
      replace G := own_ifYes (q := 463) G X319.here hx (hb hby at_454) ((if0 _ _).trans (feq (fun z => hc454_322 ((lw_eq _ _).mp z))).2) (by decide) (by decide)
      replace G := own_iload (q := 465) G X319.here hx (hb hby at_463) rfl rfl
      replace G := own_iconst (q := 466) G X319.here hx (hb hby at_465) (v := (2 : Int32)) (by decide) rfl
      have hc466_323 : (2 : Int32) < (7 : Int32) := by decide
      replace G := own_icmpNo (q := 469) G X319.here hx (hb hby at_466) (tlt hc466_323).2.2.2 rfl
      replace G := own_lload (q := 471) G X319.here hx (hb hby at_469) rfl rfl
      replace G := own_lload (q := 473) G X319.here hx (hb hby at_471) rfl rfl
      replace G := own_lcmp (q := 474) G X319.here hx (hb hby at_473) rfl
      have hc474_324 : ¬ (v6 = v2) := fun z => by have := congrArg Int64.toInt z; omega
      replace G := own_ifYes (q := 483) G X319.here hx (hb hby at_474) ((if0 _ _).trans (feq (fun z => hc474_324 ((lw_eq _ _).mp z))).2) (by decide) (by decide)
      replace G := own_iload (q := 485) G X319.here hx (hb hby at_483) rfl rfl
      replace G := own_iconst (q := 486) G X319.here hx (hb hby at_485) (v := (3 : Int32)) (by decide) rfl
      have hc486_325 : (3 : Int32) < (7 : Int32) := by decide
      replace G := own_icmpNo (q := 489) G X319.here hx (hb hby at_486) (tlt hc486_325).2.2.2 rfl
      replace G := own_lload (q := 491) G X319.here hx (hb hby at_489) rfl rfl
      replace G := own_lload (q := 493) G X319.here hx (hb hby at_491) rfl rfl
      replace G := own_lcmp (q := 494) G X319.here hx (hb hby at_493) rfl
      have hc494_326 : ¬ (v6 = v3) := fun z => by have := congrArg Int64.toInt z; omega
      replace G := own_ifYes (q := 503) G X319.here hx (hb hby at_494) ((if0 _ _).trans (feq (fun z => hc494_326 ((lw_eq _ _).mp z))).2) (by decide) (by decide)
      replace G := own_iload (q := 505) G X319.here hx (hb hby at_503) rfl rfl
      replace G := own_iconst (q := 506) G X319.here hx (hb hby at_505) (v := (4 : Int32)) (by decide) rfl
      have hc506_327 : (4 : Int32) < (7 : Int32) := by decide
      replace G := own_icmpNo (q := 509) G X319.here hx (hb hby at_506) (tlt hc506_327).2.2.2 rfl
      replace G := own_lload (q := 511) G X319.here hx (hb hby at_509) rfl rfl
      replace G := own_lload (q := 513) G X319.here hx (hb hby at_511) rfl rfl
      replace G := own_lcmp (q := 514) G X319.here hx (hb hby at_513) rfl
      have hc514_328 : ¬ (v6 = v4) := fun z => by have := congrArg Int64.toInt z; omega
      replace G := own_ifYes (q := 523) G X319.here hx (hb hby at_514) ((if0 _ _).trans (feq (fun z => hc514_328 ((lw_eq _ _).mp z))).2) (by decide) (by decide)
      replace G := own_iload (q := 525) G X319.here hx (hb hby at_523) rfl rfl
      replace G := own_iconst (q := 526) G X319.here hx (hb hby at_525) (v := (5 : Int32)) (by decide) rfl
      have hc526_329 : (5 : Int32) < (7 : Int32) := by decide
      replace G := own_icmpNo (q := 529) G X319.here hx (hb hby at_526) (tlt hc526_329).2.2.2 rfl
      replace G := own_lload (q := 531) G X319.here hx (hb hby at_529) rfl rfl
      replace G := own_lload (q := 533) G X319.here hx (hb hby at_531) rfl rfl
      replace G := own_lcmp (q := 534) G X319.here hx (hb hby at_533) rfl
      have hc534_330 : ¬ (v6 = v5) := fun z => by have := congrArg Int64.toInt z; omega
      replace G := own_ifYes (q := 543) G X319.here hx (hb hby at_534) ((if0 _ _).trans (feq (fun z => hc534_330 ((lw_eq _ _).mp z))).2) (by decide) (by decide)
      replace G := own_iload (q := 545) G X319.here hx (hb hby at_543) rfl rfl
      replace G := own_bipush (q := 547) G X319.here hx (hb hby at_545) (v := (6 : Int32)) (by decide) rfl
      have hc547_331 : (6 : Int32) < (7 : Int32) := by decide
      replace G := own_icmpNo (q := 550) G X319.here hx (hb hby at_547) (tlt hc547_331).2.2.2 rfl
      replace G := own_lload (q := 552) G X319.here hx (hb hby at_550) rfl rfl
      replace G := own_lload (q := 554) G X319.here hx (hb hby at_552) rfl rfl
      replace G := own_lcmp (q := 555) G X319.here hx (hb hby at_554) rfl
      have hc555_332 : v6 = v6 := rfl
      replace G := own_ifNo (q := 558) G X319.here hx (hb hby at_555) ((if0 _ _).trans (teq ((lw_eq _ _).mpr hc555_332)).2) rfl
      replace G := own_bipush (q := 560) G X319.here hx (hb hby at_558) (v := (6 : Int32)) (by decide) rfl
      replace G := own_istore (q := 562) (l' := #[.val (.long i0), .second, .val (.long i1), .second, .val (.int i2), .val (.int i3), .val (.int (7 : Int32)), .val (.int uu), .val (.long v0), .second, .val (.long v1), .second, .val (.long v2), .second, .val (.long v3), .second, .val (.long v4), .second, .val (.long v5), .second, .val (.long v6), .second, .val (.long v7), .second, .val (.ref b246), .val (.long v6), .second, .val (.int (6 : Int32)), .unset, .unset]) G X319.here hx (hb hby at_560) rfl rfl
      replace G := own_goto (q := 584) G X319.here hx (hb hby at_562) (by decide) (by decide)
      replace G := own_iload (q := 586) G X319.here hx (hb hby at_584) rfl rfl
      have hc586_333 : ¬ ((6 : Int32) < (0 : Int32)) := by decide
      replace G := own_ifYes (q := 591) G X319.here hx (hb hby at_586) ((if0 _ _).trans (flt hc586_333).2.1) (by decide) (by decide)
      replace G := own_iload (q := 593) G X319.here hx (hb hby at_591) rfl rfl
      replace G := own_i2l (q := 594) G X319.here hx (hb hby at_593) rfl rfl
      replace G := own_iload (q := 596) G X319.here hx (hb hby at_594) rfl rfl
      replace G := own_i2l (q := 597) G X319.here hx (hb hby at_596) (by decide : ((7 : Int32).toInt64) = (7 : Int64)) rfl
      replace G := own_lmul (q := 598) G X319.here hx (hb hby at_597) rfl rfl
      replace G := own_lstore (q := 600) (l' := #[.val (.long i0), .second, .val (.long i1), .second, .val (.int i2), .val (.int i3), .val (.int (7 : Int32)), .val (.int uu), .val (.long v0), .second, .val (.long v1), .second, .val (.long v2), .second, .val (.long v3), .second, .val (.long v4), .second, .val (.long v5), .second, .val (.long v6), .second, .val (.long v7), .second, .val (.ref b246), .val (.long v6), .second, .val (.int (6 : Int32)), .val (.long ((uu.toInt64) * (7 : Int64))), .second]) G X319.here hx (hb hby at_598) rfl rfl
      replace G := own_iload (q := 602) G X319.here hx (hb hby at_600) rfl rfl
      replace G := own_iconst (q := 603) G X319.here hx (hb hby at_602) (v := (1 : Int32)) (by decide) rfl
      replace G := own_iadd (q := 604) G X319.here hx (hb hby at_603) (by decide : ((6 : Int32) + (1 : Int32)) = (7 : Int32)) rfl
      replace G := own_i2l (q := 605) G X319.here hx (hb hby at_604) (by decide : ((7 : Int32).toInt64) = (7 : Int64)) rfl
      replace G : Gets p e below _ (T319.setTop (mkF m 608 #[.val (.long i0), .second, .val (.long i1), .second, .val (.int i2), .val (.int i3), .val (.int (7 : Int32)), .val (.int uu), .val (.long v0), .second, .val (.long v1), .second, .val (.long v2), .second, .val (.long v3), .second, .val (.long v4), .second, .val (.long v5), .second, .val (.long v6), .second, .val (.long v7), .second, .val (.ref b246), .val (.long v6), .second, .val (.int (6 : Int32)), .val (.long ((uu.toInt64) * (7 : Int64))), .second] [(.long (100 : Int64)), (.long (7 : Int64))])) := fun t k => G t (X319.ldc2Long hx hown (mvT hZ (hw _ (List.mem_of_getElem? (i := 13) rfl))) (g := (mkF m 605 #[.val (.long i0), .second, .val (.long i1), .second, .val (.int i2), .val (.int i3), .val (.int (7 : Int32)), .val (.int uu), .val (.long v0), .second, .val (.long v1), .second, .val (.long v2), .second, .val (.long v3), .second, .val (.long v4), .second, .val (.long v5), .second, .val (.long v6), .second, .val (.long v7), .second, .val (.ref b246), .val (.long v6), .second, .val (.int (6 : Int32)), .val (.long ((uu.toInt64) * (7 : Int64))), .second] [(.long (7 : Int64))])) rfl (hb hby at_605) t k)
      replace G := own_lmul (q := 609) G X319.here hx (hb hby at_608) (by decide : ((7 : Int64) * (100 : Int64)) = (700 : Int64)) rfl
      replace G := own_lload (q := 611) G X319.here hx (hb hby at_609) rfl rfl
      replace G := own_lcmp (q := 612) G X319.here hx (hb hby at_611) rfl
      have hc612_334 : ¬ ((700 : Int64) < ((uu.toInt64) * (7 : Int64))) := by
        rw [hj, show (6 : Int32).toInt = 6 from rfl] at sp
        have A := c_lmul uu.toInt64 7
        rw [c_i2l, show (7 : Int64).toInt = 7 from rfl] at A
        have RA := rng64 (uu.toInt64 * 7)
        have hB : 0 ≤ uu.toInt * 7 ∧ uu.toInt * 7 ≤ 800 := by omega
        have e : (uu.toInt64 * 7).toInt = uu.toInt * 7 := by
          generalize uu.toInt * 7 = P at A hB ⊢
          omega
        rw [own_ltL, e, show (700 : Int64).toInt = 700 from rfl]
        omega
      replace G := own_ifNo (q := 615) G X319.here hx (hb hby at_612) ((if0 _ _).trans (flt (fun z => hc612_334 ((lw_lt _ _).mp z))).1) rfl
      replace G := own_iload (q := 617) G X319.here hx (hb hby at_615) rfl rfl
      have hc617_335 : ¬ ((6 : Int32) = (0 : Int32)) := by decide
      replace G := own_ifNo (q := 620) G X319.here hx (hb hby at_617) ((if0 _ _).trans (feq hc617_335).1) rfl
      replace G := own_iload (q := 622) G X319.here hx (hb hby at_620) rfl rfl
      replace G := own_i2l (q := 623) G X319.here hx (hb hby at_622) (by decide : ((6 : Int32).toInt64) = (6 : Int64)) rfl
      replace G : Gets p e below _ (T319.setTop (mkF m 626 #[.val (.long i0), .second, .val (.long i1), .second, .val (.int i2), .val (.int i3), .val (.int (7 : Int32)), .val (.int uu), .val (.long v0), .second, .val (.long v1), .second, .val (.long v2), .second, .val (.long v3), .second, .val (.long v4), .second, .val (.long v5), .second, .val (.long v6), .second, .val (.long v7), .second, .val (.ref b246), .val (.long v6), .second, .val (.int (6 : Int32)), .val (.long ((uu.toInt64) * (7 : Int64))), .second] [(.long (100 : Int64)), (.long (6 : Int64))])) := fun t k => G t (X319.ldc2Long hx hown (mvT hZ (hw _ (List.mem_of_getElem? (i := 13) rfl))) (g := (mkF m 623 #[.val (.long i0), .second, .val (.long i1), .second, .val (.int i2), .val (.int i3), .val (.int (7 : Int32)), .val (.int uu), .val (.long v0), .second, .val (.long v1), .second, .val (.long v2), .second, .val (.long v3), .second, .val (.long v4), .second, .val (.long v5), .second, .val (.long v6), .second, .val (.long v7), .second, .val (.ref b246), .val (.long v6), .second, .val (.int (6 : Int32)), .val (.long ((uu.toInt64) * (7 : Int64))), .second] [(.long (6 : Int64))])) rfl (hb hby at_623) t k)
      replace G := own_lmul (q := 627) G X319.here hx (hb hby at_626) (by decide : ((6 : Int64) * (100 : Int64)) = (600 : Int64)) rfl
      replace G := own_lload (q := 629) G X319.here hx (hb hby at_627) rfl rfl
      replace G := own_lcmp (q := 630) G X319.here hx (hb hby at_629) rfl
      have hc630_336 : (600 : Int64) < ((uu.toInt64) * (7 : Int64)) := by
        rw [hj, show (6 : Int32).toInt = 6 from rfl] at sp
        have A := c_lmul uu.toInt64 7
        rw [c_i2l, show (7 : Int64).toInt = 7 from rfl] at A
        have RA := rng64 (uu.toInt64 * 7)
        have hB : 0 ≤ uu.toInt * 7 ∧ uu.toInt * 7 ≤ 800 := by omega
        have e : (uu.toInt64 * 7).toInt = uu.toInt * 7 := by
          generalize uu.toInt * 7 = P at A hB ⊢
          omega
        rw [own_ltL, e, show (600 : Int64).toInt = 600 from rfl]
        omega
      replace G := own_ifNo (q := 633) G X319.here hx (hb hby at_630) ((if0 _ _).trans (tlt ((lw_lt _ _).mpr hc630_336)).2.1) rfl
      replace G := own_iconst (q := 634) G X319.here hx (hb hby at_633) (v := (1 : Int32)) (by decide) rfl
      replace G := own_goto (q := 638) G X319.here hx (hb hby at_634) (by decide) (by decide)
      obtain ⟨fs, hr, hrun, hended, hW, hsame⟩ := X319.leave (v := some (.int (1 : Int32))) (fun h => by rw [Bd.returns] at h; cases h)
      refine ⟨_, _, G _ (retOut X319 hx Bd.returns rfl (Or.inl ⟨rfl, Or.inr (Or.inl rfl), _, rfl⟩) (hb hby at_638) hr), hrun, hended, _, _, rfl, ?_, ⟨_, rfl⟩, hW, hsame.mono (by decide) (by decide)⟩
      show Q0 Z i0 i1 i2 i3 h0 n0 _ T319.heap _
      rw [e319]
      exact ⟨rfl, N319⟩
  · replace G := own_iload (q := 128) G X0.here hx (hb hby at_126) rfl rfl
    replace G := own_iconst (q := 129) G X0.here hx (hb hby at_128) (v := (1 : Int32)) (by decide) rfl
    have hc129_337 : ¬ ((8 : Int32) = (1 : Int32)) := by decide
    replace G := own_icmpYes (q := 145) G X0.here hx (hb hby at_129) (feq hc129_337).2 (by decide) (by decide)
    replace G := own_iload (q := 147) G X0.here hx (hb hby at_145) rfl rfl
    replace G := own_iconst (q := 148) G X0.here hx (hb hby at_147) (v := (2 : Int32)) (by decide) rfl
    have hc148_338 : ¬ ((8 : Int32) = (2 : Int32)) := by decide
    replace G := own_icmpYes (q := 169) G X0.here hx (hb hby at_148) (feq hc148_338).2 (by decide) (by decide)
    replace G := own_iload (q := 171) G X0.here hx (hb hby at_169) rfl rfl
    replace G := own_iconst (q := 172) G X0.here hx (hb hby at_171) (v := (3 : Int32)) (by decide) rfl
    have hc172_339 : ¬ ((8 : Int32) = (3 : Int32)) := by decide
    replace G := own_icmpYes (q := 198) G X0.here hx (hb hby at_172) (feq hc172_339).2 (by decide) (by decide)
    replace G := own_iload (q := 200) G X0.here hx (hb hby at_198) rfl rfl
    replace G := own_iconst (q := 201) G X0.here hx (hb hby at_200) (v := (4 : Int32)) (by decide) rfl
    have hc201_340 : ¬ ((8 : Int32) = (4 : Int32)) := by decide
    replace G := own_icmpYes (q := 232) G X0.here hx (hb hby at_201) (feq hc201_340).2 (by decide) (by decide)
    replace G := own_iload (q := 234) G X0.here hx (hb hby at_232) rfl rfl
    replace G := own_iconst (q := 235) G X0.here hx (hb hby at_234) (v := (5 : Int32)) (by decide) rfl
    have hc235_341 : ¬ ((8 : Int32) = (5 : Int32)) := by decide
    replace G := own_icmpYes (q := 271) G X0.here hx (hb hby at_235) (feq hc235_341).2 (by decide) (by decide)
    replace G := own_iload (q := 273) G X0.here hx (hb hby at_271) rfl rfl
    replace G := own_bipush (q := 275) G X0.here hx (hb hby at_273) (v := (6 : Int32)) (by decide) rfl
    have hc275_342 : ¬ ((8 : Int32) = (6 : Int32)) := by decide
    replace G := own_icmpYes (q := 317) G X0.here hx (hb hby at_275) (feq hc275_342).2 (by decide) (by decide)
    replace G := own_iload (q := 319) G X0.here hx (hb hby at_317) rfl rfl
    replace G := own_bipush (q := 321) G X0.here hx (hb hby at_319) (v := (7 : Int32)) (by decide) rfl
    have hc321_343 : ¬ ((8 : Int32) = (7 : Int32)) := by decide
    replace G := own_icmpYes (q := 369) G X0.here hx (hb hby at_321) (feq hc321_343).2 (by decide) (by decide)
    replace G := own_bipush (q := 371) G X0.here hx (hb hby at_369) (v := (8 : Int32)) (by decide) rfl
    obtain ⟨T344, h344, k344, X344, e344, E344, A344, st344⟩ := newP X0 hx hZ (hw _ (List.mem_of_getElem? (i := 2) rfl)) e0 (g := (mkF m 371 #[.val (.long i0), .second, .val (.long i1), .second, .val (.int i2), .val (.int i3), .val (.int (8 : Int32)), .val (.int uu), .val (.long v0), .second, .val (.long v1), .second, .val (.long v2), .second, .val (.long v3), .second, .val (.long v4), .second, .val (.long v5), .second, .val (.long v6), .second, .val (.long v7), .second, .unset, .unset, .unset, .unset, .unset, .unset] [(.int (8 : Int32))])) rfl (hb hby at_371) rfl (by decide) (cap := 8) (by decide) (by decide) (by decide) (by decide)
    obtain ⟨b344, g344⟩ : ∃ z, z = h0.size := ⟨_, rfl⟩
    rw [← g344] at A344 st344
    have ge_b344 : n0 ≤ b344 := Nat.le_trans Z0 (Nat.le_of_eq g344.symm)
    have Z344 : n0 ≤ h344.size := Nat.le_trans Z0 E344.1
    have V344 : Arv Z h344 b344 k344 .long (8 : Int32) [(.long (0 : Int64)), (.long (0 : Int64)), (.long (0 : Int64)), (.long (0 : Int64)), (.long (0 : Int64)), (.long (0 : Int64)), (.long (0 : Int64)), (.long (0 : Int64))] (.long (0 : Int64)) := (Arv.new A344 (by decide)).pad (pad_rep [] (.long (0 : Int64)) 8)
    replace G : Gets p e below _ (T344.setTop (mkF m 373 #[.val (.long i0), .second, .val (.long i1), .second, .val (.int i2), .val (.int i3), .val (.int (8 : Int32)), .val (.int uu), .val (.long v0), .second, .val (.long v1), .second, .val (.long v2), .second, .val (.long v3), .second, .val (.long v4), .second, .val (.long v5), .second, .val (.long v6), .second, .val (.long v7), .second, .unset, .unset, .unset, .unset, .unset, .unset] [(.ref b344)])) := fun t k => G t (st344 t k)
    replace G := own_dup (q := 374) G X344.here hx (hb hby at_373) rfl rfl
    replace G := own_iconst (q := 375) G X344.here hx (hb hby at_374) (v := (0 : Int32)) (by decide) rfl
    replace G := own_lload (q := 377) G X344.here hx (hb hby at_375) rfl rfl
    obtain ⟨c345, Ar345, q345, S345, N345', H345, G345'⟩ := id V344
    have hin345 : ¬ ((0 : Int32) < 0 ∨ c345.slots.size ≤ ((0 : Int32)).toNatClampNeg) := inb_of S345 ⟨by decide, by decide⟩
    obtain ⟨T345, h345, X345, e345, W345, st345⟩ := stJ X344 hx hZ e344 Ar345 (j := (0 : Int32)) hin345 (g := (mkF m 377 #[.val (.long i0), .second, .val (.long i1), .second, .val (.int i2), .val (.int i3), .val (.int (8 : Int32)), .val (.int uu), .val (.long v0), .second, .val (.long v1), .second, .val (.long v2), .second, .val (.long v3), .second, .val (.long v4), .second, .val (.long v5), .second, .val (.long v6), .second, .val (.long v7), .second, .unset, .unset, .unset, .unset, .unset, .unset] [(.long v0), (.int (0 : Int32)), (.ref b344), (.ref b344)])) rfl rfl (hb hby at_377)
    have N345 := Fr.snoc X345 N0 ge_b344
    have Z345 : n0 ≤ h345.size := Nat.le_trans Z344 (Keep.of_wr W345).1
    have V345 : Arv Z h345 b344 k344 .long (8 : Int32) [(.long v0), (.long (0 : Int64)), (.long (0 : Int64)), (.long (0 : Int64)), (.long (0 : Int64)), (.long (0 : Int64)), (.long (0 : Int64)), (.long (0 : Int64))] (.long (0 : Int64)) := Arv.set Ar345 q345 S345 N345' H345 G345' rfl W345 0 rfl (Nat.le_of_ble_eq_true rfl)
    replace G : Gets p e below _ (T345.setTop (mkF m 378 #[.val (.long i0), .second, .val (.long i1), .second, .val (.int i2), .val (.int i3), .val (.int (8 : Int32)), .val (.int uu), .val (.long v0), .second, .val (.long v1), .second, .val (.long v2), .second, .val (.long v3), .second, .val (.long v4), .second, .val (.long v5), .second, .val (.long v6), .second, .val (.long v7), .second, .unset, .unset, .unset, .unset, .unset, .unset] [(.ref b344)])) := fun t k => G t (st345 t k)
    replace G := own_dup (q := 379) G X345.here hx (hb hby at_378) rfl rfl
    replace G := own_iconst (q := 380) G X345.here hx (hb hby at_379) (v := (1 : Int32)) (by decide) rfl
    replace G := own_lload (q := 382) G X345.here hx (hb hby at_380) rfl rfl
    obtain ⟨c346, Ar346, q346, S346, N346', H346, G346'⟩ := id V345
    have hin346 : ¬ ((1 : Int32) < 0 ∨ c346.slots.size ≤ ((1 : Int32)).toNatClampNeg) := inb_of S346 ⟨by decide, by decide⟩
    obtain ⟨T346, h346, X346, e346, W346, st346⟩ := stJ X345 hx hZ e345 Ar346 (j := (1 : Int32)) hin346 (g := (mkF m 382 #[.val (.long i0), .second, .val (.long i1), .second, .val (.int i2), .val (.int i3), .val (.int (8 : Int32)), .val (.int uu), .val (.long v0), .second, .val (.long v1), .second, .val (.long v2), .second, .val (.long v3), .second, .val (.long v4), .second, .val (.long v5), .second, .val (.long v6), .second, .val (.long v7), .second, .unset, .unset, .unset, .unset, .unset, .unset] [(.long v1), (.int (1 : Int32)), (.ref b344), (.ref b344)])) rfl rfl (hb hby at_382)
    have N346 := Fr.snoc X346 N345 ge_b344
    have Z346 : n0 ≤ h346.size := Nat.le_trans Z345 (Keep.of_wr W346).1
    have V346 : Arv Z h346 b344 k344 .long (8 : Int32) [(.long v0), (.long v1), (.long (0 : Int64)), (.long (0 : Int64)), (.long (0 : Int64)), (.long (0 : Int64)), (.long (0 : Int64)), (.long (0 : Int64))] (.long (0 : Int64)) := Arv.set Ar346 q346 S346 N346' H346 G346' rfl W346 1 rfl (Nat.le_of_ble_eq_true rfl)
    replace G : Gets p e below _ (T346.setTop (mkF m 383 #[.val (.long i0), .second, .val (.long i1), .second, .val (.int i2), .val (.int i3), .val (.int (8 : Int32)), .val (.int uu), .val (.long v0), .second, .val (.long v1), .second, .val (.long v2), .second, .val (.long v3), .second, .val (.long v4), .second, .val (.long v5), .second, .val (.long v6), .second, .val (.long v7), .second, .unset, .unset, .unset, .unset, .unset, .unset] [(.ref b344)])) := fun t k => G t (st346 t k)
    replace G := own_dup (q := 384) G X346.here hx (hb hby at_383) rfl rfl
    replace G := own_iconst (q := 385) G X346.here hx (hb hby at_384) (v := (2 : Int32)) (by decide) rfl
    replace G := own_lload (q := 387) G X346.here hx (hb hby at_385) rfl rfl
    obtain ⟨c347, Ar347, q347, S347, N347', H347, G347'⟩ := id V346
    have hin347 : ¬ ((2 : Int32) < 0 ∨ c347.slots.size ≤ ((2 : Int32)).toNatClampNeg) := inb_of S347 ⟨by decide, by decide⟩
    obtain ⟨T347, h347, X347, e347, W347, st347⟩ := stJ X346 hx hZ e346 Ar347 (j := (2 : Int32)) hin347 (g := (mkF m 387 #[.val (.long i0), .second, .val (.long i1), .second, .val (.int i2), .val (.int i3), .val (.int (8 : Int32)), .val (.int uu), .val (.long v0), .second, .val (.long v1), .second, .val (.long v2), .second, .val (.long v3), .second, .val (.long v4), .second, .val (.long v5), .second, .val (.long v6), .second, .val (.long v7), .second, .unset, .unset, .unset, .unset, .unset, .unset] [(.long v2), (.int (2 : Int32)), (.ref b344), (.ref b344)])) rfl rfl (hb hby at_387)
    have N347 := Fr.snoc X347 N346 ge_b344
    have Z347 : n0 ≤ h347.size := Nat.le_trans Z346 (Keep.of_wr W347).1
    have V347 : Arv Z h347 b344 k344 .long (8 : Int32) [(.long v0), (.long v1), (.long v2), (.long (0 : Int64)), (.long (0 : Int64)), (.long (0 : Int64)), (.long (0 : Int64)), (.long (0 : Int64))] (.long (0 : Int64)) := Arv.set Ar347 q347 S347 N347' H347 G347' rfl W347 2 rfl (Nat.le_of_ble_eq_true rfl)
    replace G : Gets p e below _ (T347.setTop (mkF m 388 #[.val (.long i0), .second, .val (.long i1), .second, .val (.int i2), .val (.int i3), .val (.int (8 : Int32)), .val (.int uu), .val (.long v0), .second, .val (.long v1), .second, .val (.long v2), .second, .val (.long v3), .second, .val (.long v4), .second, .val (.long v5), .second, .val (.long v6), .second, .val (.long v7), .second, .unset, .unset, .unset, .unset, .unset, .unset] [(.ref b344)])) := fun t k => G t (st347 t k)
    replace G := own_dup (q := 389) G X347.here hx (hb hby at_388) rfl rfl
    replace G := own_iconst (q := 390) G X347.here hx (hb hby at_389) (v := (3 : Int32)) (by decide) rfl
    replace G := own_lload (q := 392) G X347.here hx (hb hby at_390) rfl rfl
    obtain ⟨c348, Ar348, q348, S348, N348', H348, G348'⟩ := id V347
    have hin348 : ¬ ((3 : Int32) < 0 ∨ c348.slots.size ≤ ((3 : Int32)).toNatClampNeg) := inb_of S348 ⟨by decide, by decide⟩
    obtain ⟨T348, h348, X348, e348, W348, st348⟩ := stJ X347 hx hZ e347 Ar348 (j := (3 : Int32)) hin348 (g := (mkF m 392 #[.val (.long i0), .second, .val (.long i1), .second, .val (.int i2), .val (.int i3), .val (.int (8 : Int32)), .val (.int uu), .val (.long v0), .second, .val (.long v1), .second, .val (.long v2), .second, .val (.long v3), .second, .val (.long v4), .second, .val (.long v5), .second, .val (.long v6), .second, .val (.long v7), .second, .unset, .unset, .unset, .unset, .unset, .unset] [(.long v3), (.int (3 : Int32)), (.ref b344), (.ref b344)])) rfl rfl (hb hby at_392)
    have N348 := Fr.snoc X348 N347 ge_b344
    have Z348 : n0 ≤ h348.size := Nat.le_trans Z347 (Keep.of_wr W348).1
    have V348 : Arv Z h348 b344 k344 .long (8 : Int32) [(.long v0), (.long v1), (.long v2), (.long v3), (.long (0 : Int64)), (.long (0 : Int64)), (.long (0 : Int64)), (.long (0 : Int64))] (.long (0 : Int64)) := Arv.set Ar348 q348 S348 N348' H348 G348' rfl W348 3 rfl (Nat.le_of_ble_eq_true rfl)
    replace G : Gets p e below _ (T348.setTop (mkF m 393 #[.val (.long i0), .second, .val (.long i1), .second, .val (.int i2), .val (.int i3), .val (.int (8 : Int32)), .val (.int uu), .val (.long v0), .second, .val (.long v1), .second, .val (.long v2), .second, .val (.long v3), .second, .val (.long v4), .second, .val (.long v5), .second, .val (.long v6), .second, .val (.long v7), .second, .unset, .unset, .unset, .unset, .unset, .unset] [(.ref b344)])) := fun t k => G t (st348 t k)
    replace G := own_dup (q := 394) G X348.here hx (hb hby at_393) rfl rfl
    replace G := own_iconst (q := 395) G X348.here hx (hb hby at_394) (v := (4 : Int32)) (by decide) rfl
    replace G := own_lload (q := 397) G X348.here hx (hb hby at_395) rfl rfl
    obtain ⟨c349, Ar349, q349, S349, N349', H349, G349'⟩ := id V348
    have hin349 : ¬ ((4 : Int32) < 0 ∨ c349.slots.size ≤ ((4 : Int32)).toNatClampNeg) := inb_of S349 ⟨by decide, by decide⟩
    obtain ⟨T349, h349, X349, e349, W349, st349⟩ := stJ X348 hx hZ e348 Ar349 (j := (4 : Int32)) hin349 (g := (mkF m 397 #[.val (.long i0), .second, .val (.long i1), .second, .val (.int i2), .val (.int i3), .val (.int (8 : Int32)), .val (.int uu), .val (.long v0), .second, .val (.long v1), .second, .val (.long v2), .second, .val (.long v3), .second, .val (.long v4), .second, .val (.long v5), .second, .val (.long v6), .second, .val (.long v7), .second, .unset, .unset, .unset, .unset, .unset, .unset] [(.long v4), (.int (4 : Int32)), (.ref b344), (.ref b344)])) rfl rfl (hb hby at_397)
    have N349 := Fr.snoc X349 N348 ge_b344
    have Z349 : n0 ≤ h349.size := Nat.le_trans Z348 (Keep.of_wr W349).1
    have V349 : Arv Z h349 b344 k344 .long (8 : Int32) [(.long v0), (.long v1), (.long v2), (.long v3), (.long v4), (.long (0 : Int64)), (.long (0 : Int64)), (.long (0 : Int64))] (.long (0 : Int64)) := Arv.set Ar349 q349 S349 N349' H349 G349' rfl W349 4 rfl (Nat.le_of_ble_eq_true rfl)
    replace G : Gets p e below _ (T349.setTop (mkF m 398 #[.val (.long i0), .second, .val (.long i1), .second, .val (.int i2), .val (.int i3), .val (.int (8 : Int32)), .val (.int uu), .val (.long v0), .second, .val (.long v1), .second, .val (.long v2), .second, .val (.long v3), .second, .val (.long v4), .second, .val (.long v5), .second, .val (.long v6), .second, .val (.long v7), .second, .unset, .unset, .unset, .unset, .unset, .unset] [(.ref b344)])) := fun t k => G t (st349 t k)
    replace G := own_dup (q := 399) G X349.here hx (hb hby at_398) rfl rfl
    replace G := own_iconst (q := 400) G X349.here hx (hb hby at_399) (v := (5 : Int32)) (by decide) rfl
    replace G := own_lload (q := 402) G X349.here hx (hb hby at_400) rfl rfl
    obtain ⟨c350, Ar350, q350, S350, N350', H350, G350'⟩ := id V349
    have hin350 : ¬ ((5 : Int32) < 0 ∨ c350.slots.size ≤ ((5 : Int32)).toNatClampNeg) := inb_of S350 ⟨by decide, by decide⟩
    obtain ⟨T350, h350, X350, e350, W350, st350⟩ := stJ X349 hx hZ e349 Ar350 (j := (5 : Int32)) hin350 (g := (mkF m 402 #[.val (.long i0), .second, .val (.long i1), .second, .val (.int i2), .val (.int i3), .val (.int (8 : Int32)), .val (.int uu), .val (.long v0), .second, .val (.long v1), .second, .val (.long v2), .second, .val (.long v3), .second, .val (.long v4), .second, .val (.long v5), .second, .val (.long v6), .second, .val (.long v7), .second, .unset, .unset, .unset, .unset, .unset, .unset] [(.long v5), (.int (5 : Int32)), (.ref b344), (.ref b344)])) rfl rfl (hb hby at_402)
    have N350 := Fr.snoc X350 N349 ge_b344
    have Z350 : n0 ≤ h350.size := Nat.le_trans Z349 (Keep.of_wr W350).1
    have V350 : Arv Z h350 b344 k344 .long (8 : Int32) [(.long v0), (.long v1), (.long v2), (.long v3), (.long v4), (.long v5), (.long (0 : Int64)), (.long (0 : Int64))] (.long (0 : Int64)) := Arv.set Ar350 q350 S350 N350' H350 G350' rfl W350 5 rfl (Nat.le_of_ble_eq_true rfl)
    replace G : Gets p e below _ (T350.setTop (mkF m 403 #[.val (.long i0), .second, .val (.long i1), .second, .val (.int i2), .val (.int i3), .val (.int (8 : Int32)), .val (.int uu), .val (.long v0), .second, .val (.long v1), .second, .val (.long v2), .second, .val (.long v3), .second, .val (.long v4), .second, .val (.long v5), .second, .val (.long v6), .second, .val (.long v7), .second, .unset, .unset, .unset, .unset, .unset, .unset] [(.ref b344)])) := fun t k => G t (st350 t k)
    replace G := own_dup (q := 404) G X350.here hx (hb hby at_403) rfl rfl
    replace G := own_bipush (q := 406) G X350.here hx (hb hby at_404) (v := (6 : Int32)) (by decide) rfl
    replace G := own_lload (q := 408) G X350.here hx (hb hby at_406) rfl rfl
    obtain ⟨c351, Ar351, q351, S351, N351', H351, G351'⟩ := id V350
    have hin351 : ¬ ((6 : Int32) < 0 ∨ c351.slots.size ≤ ((6 : Int32)).toNatClampNeg) := inb_of S351 ⟨by decide, by decide⟩
    obtain ⟨T351, h351, X351, e351, W351, st351⟩ := stJ X350 hx hZ e350 Ar351 (j := (6 : Int32)) hin351 (g := (mkF m 408 #[.val (.long i0), .second, .val (.long i1), .second, .val (.int i2), .val (.int i3), .val (.int (8 : Int32)), .val (.int uu), .val (.long v0), .second, .val (.long v1), .second, .val (.long v2), .second, .val (.long v3), .second, .val (.long v4), .second, .val (.long v5), .second, .val (.long v6), .second, .val (.long v7), .second, .unset, .unset, .unset, .unset, .unset, .unset] [(.long v6), (.int (6 : Int32)), (.ref b344), (.ref b344)])) rfl rfl (hb hby at_408)
    have N351 := Fr.snoc X351 N350 ge_b344
    have Z351 : n0 ≤ h351.size := Nat.le_trans Z350 (Keep.of_wr W351).1
    have V351 : Arv Z h351 b344 k344 .long (8 : Int32) [(.long v0), (.long v1), (.long v2), (.long v3), (.long v4), (.long v5), (.long v6), (.long (0 : Int64))] (.long (0 : Int64)) := Arv.set Ar351 q351 S351 N351' H351 G351' rfl W351 6 rfl (Nat.le_of_ble_eq_true rfl)
    replace G : Gets p e below _ (T351.setTop (mkF m 409 #[.val (.long i0), .second, .val (.long i1), .second, .val (.int i2), .val (.int i3), .val (.int (8 : Int32)), .val (.int uu), .val (.long v0), .second, .val (.long v1), .second, .val (.long v2), .second, .val (.long v3), .second, .val (.long v4), .second, .val (.long v5), .second, .val (.long v6), .second, .val (.long v7), .second, .unset, .unset, .unset, .unset, .unset, .unset] [(.ref b344)])) := fun t k => G t (st351 t k)
    replace G := own_dup (q := 410) G X351.here hx (hb hby at_409) rfl rfl
    replace G := own_bipush (q := 412) G X351.here hx (hb hby at_410) (v := (7 : Int32)) (by decide) rfl
    replace G := own_lload (q := 414) G X351.here hx (hb hby at_412) rfl rfl
    obtain ⟨c352, Ar352, q352, S352, N352', H352, G352'⟩ := id V351
    have hin352 : ¬ ((7 : Int32) < 0 ∨ c352.slots.size ≤ ((7 : Int32)).toNatClampNeg) := inb_of S352 ⟨by decide, by decide⟩
    obtain ⟨T352, h352, X352, e352, W352, st352⟩ := stJ X351 hx hZ e351 Ar352 (j := (7 : Int32)) hin352 (g := (mkF m 414 #[.val (.long i0), .second, .val (.long i1), .second, .val (.int i2), .val (.int i3), .val (.int (8 : Int32)), .val (.int uu), .val (.long v0), .second, .val (.long v1), .second, .val (.long v2), .second, .val (.long v3), .second, .val (.long v4), .second, .val (.long v5), .second, .val (.long v6), .second, .val (.long v7), .second, .unset, .unset, .unset, .unset, .unset, .unset] [(.long v7), (.int (7 : Int32)), (.ref b344), (.ref b344)])) rfl rfl (hb hby at_414)
    have N352 := Fr.snoc X352 N351 ge_b344
    have Z352 : n0 ≤ h352.size := Nat.le_trans Z351 (Keep.of_wr W352).1
    have V352 : Arv Z h352 b344 k344 .long (8 : Int32) [(.long v0), (.long v1), (.long v2), (.long v3), (.long v4), (.long v5), (.long v6), (.long v7)] (.long (0 : Int64)) := Arv.set Ar352 q352 S352 N352' H352 G352' rfl W352 7 rfl (Nat.le_of_ble_eq_true rfl)
    replace G : Gets p e below _ (T352.setTop (mkF m 415 #[.val (.long i0), .second, .val (.long i1), .second, .val (.int i2), .val (.int i3), .val (.int (8 : Int32)), .val (.int uu), .val (.long v0), .second, .val (.long v1), .second, .val (.long v2), .second, .val (.long v3), .second, .val (.long v4), .second, .val (.long v5), .second, .val (.long v6), .second, .val (.long v7), .second, .unset, .unset, .unset, .unset, .unset, .unset] [(.ref b344)])) := fun t k => G t (st352 t k)
    replace G := own_astore (q := 417) (l' := #[.val (.long i0), .second, .val (.long i1), .second, .val (.int i2), .val (.int i3), .val (.int (8 : Int32)), .val (.int uu), .val (.long v0), .second, .val (.long v1), .second, .val (.long v2), .second, .val (.long v3), .second, .val (.long v4), .second, .val (.long v5), .second, .val (.long v6), .second, .val (.long v7), .second, .val (.ref b344), .unset, .unset, .unset, .unset, .unset]) G X352.here hx (hb hby at_415) rfl rfl rfl
    replace G := own_aload (q := 419) G X352.here hx (hb hby at_417) rfl rfl rfl
    replace G := own_iload (q := 421) G X352.here hx (hb hby at_419) rfl rfl
    have sp := own_ixs uu (8 : Int32) 8 rfl (by decide) (by decide) huu
    rcases own_cases8 ⟨sp.1, sp.2.1⟩ with hj | hj | hj | hj | hj | hj | hj | hj
    · obtain ⟨_, _, ⟨T353, L353, kk353, nn353⟩, -, X353, ⟨Lc353, hQ353, l353, y353, z353⟩, st353⟩ := Jvm.LawKit.callS X352 hx (y := (⟨"com/example/cued/cued/Bench", "percentile", "([JI)J"⟩ : MethodName)) hown (mvT hZ (hw _ (List.mem_of_getElem? (i := 3) rfl))) (mvT hZ (hw _ (List.mem_of_getElem? (i := 4) rfl))) (mvT hZ (hw _ (List.mem_of_getElem? (i := 5) rfl))) (mvT hZ (hw _ (List.mem_of_getElem? (i := 6) rfl))) (by decide) (backOf (W := 0) (rm1 l Z a0 hw [] b344 uu k344 (8 : Int32) [(.long v0), (.long v1), (.long v2), (.long v3), (.long v4), (.long v5), (.long v6), (.long v7)] v0 h352 n0 Z352 V352 (by decide) huu (by rw [hj]; rfl)) hZ (hw _ (List.mem_of_getElem? (i := 6) rfl)) (hw _ (List.mem_of_getElem? (i := 5) rfl)) (by decide) (by decide)) (g := (mkF m 421 #[.val (.long i0), .second, .val (.long i1), .second, .val (.int i2), .val (.int i3), .val (.int (8 : Int32)), .val (.int uu), .val (.long v0), .second, .val (.long v1), .second, .val (.long v2), .second, .val (.long v3), .second, .val (.long v4), .second, .val (.long v5), .second, .val (.long v6), .second, .val (.long v7), .second, .val (.ref b344), .unset, .unset, .unset, .unset, .unset] [(.int uu), (.ref b344)])) rfl (by rw [hml]; rfl) (argsL := [(.ref b344), (.int uu)]) (rest := []) (lenOf pd_1 rfl) rfl (by show 2 * 0 + _ ≤ _; exact Nat.le_of_eq rfl) (hb hby at_421) (fun _ _ => ⟨rfl, e352, (by decide : 1 + 0 ≤ _), (by decide : 8 + 0 ≤ _)⟩)
      dsimp only [Pt.U, Pt.locs, Pt.cells, Pt.slots] at X353 l353 y353 z353 st353 hQ353
      subst l353 y353 z353
      obtain ⟨rfl, N353q, e353⟩ := hQ353
      have N353 := Fr.app N352 N353q
      replace G : Gets p e below _ (T353.setTop (mkF m 424 #[.val (.long i0), .second, .val (.long i1), .second, .val (.int i2), .val (.int i3), .val (.int (8 : Int32)), .val (.int uu), .val (.long v0), .second, .val (.long v1), .second, .val (.long v2), .second, .val (.long v3), .second, .val (.long v4), .second, .val (.long v5), .second, .val (.long v6), .second, .val (.long v7), .second, .val (.ref b344), .unset, .unset, .unset, .unset, .unset] [(.long v0)])) := fun t k => G t (st353 t k)
      replace G := own_lstore (q := 426) (l' := #[.val (.long i0), .second, .val (.long i1), .second, .val (.int i2), .val (.int i3), .val (.int (8 : Int32)), .val (.int uu), .val (.long v0), .second, .val (.long v1), .second, .val (.long v2), .second, .val (.long v3), .second, .val (.long v4), .second, .val (.long v5), .second, .val (.long v6), .second, .val (.long v7), .second, .val (.ref b344), .val (.long v0), .second, .unset, .unset, .unset]) G X353.here hx (hb hby at_424) rfl rfl
      replace G := own_iconst (q := 427) G X353.here hx (hb hby at_426) (v := (-1 : Int32)) (by decide) rfl
      replace G := own_istore (q := 429) (l' := #[.val (.long i0), .second, .val (.long i1), .second, .val (.int i2), .val (.int i3), .val (.int (8 : Int32)), .val (.int uu), .val (.long v0), .second, .val (.long v1), .second, .val (.long v2), .second, .val (.long v3), .second, .val (.long v4), .second, .val (.long v5), .second, .val (.long v6), .second, .val (.long v7), .second, .val (.ref b344), .val (.long v0), .second, .val (.int (-1 : Int32)), .unset, .unset]) G X353.here hx (hb hby at_427) rfl rfl
      replace G := own_lload (q := 431) G X353.here hx (hb hby at_429) rfl rfl
      replace G := own_lload (q := 433) G X353.here hx (hb hby at_431) rfl rfl
      replace G := own_lcmp (q := 434) G X353.here hx (hb hby at_433) rfl
      have hc434_354 : v0 = v0 := rfl
      replace G := own_ifNo (q := 437) G X353.here hx (hb hby at_434) ((if0 _ _).trans (teq ((lw_eq _ _).mpr hc434_354)).2) rfl
      replace G := own_iconst (q := 438) G X353.here hx (hb hby at_437) (v := (0 : Int32)) (by decide) rfl
      replace G := own_istore (q := 440) (l' := #[.val (.long i0), .second, .val (.long i1), .second, .val (.int i2), .val (.int i3), .val (.int (8 : Int32)), .val (.int uu), .val (.long v0), .second, .val (.long v1), .second, .val (.long v2), .second, .val (.long v3), .second, .val (.long v4), .second, .val (.long v5), .second, .val (.long v6), .second, .val (.long v7), .second, .val (.ref b344), .val (.long v0), .second, .val (.int (0 : Int32)), .unset, .unset]) G X353.here hx (hb hby at_438) rfl rfl
      replace G := own_goto (q := 584) G X353.here hx (hb hby at_440) (by decide) (by decide)
      replace G := own_iload (q := 586) G X353.here hx (hb hby at_584) rfl rfl
      have hc586_355 : ¬ ((0 : Int32) < (0 : Int32)) := by decide
      replace G := own_ifYes (q := 591) G X353.here hx (hb hby at_586) ((if0 _ _).trans (flt hc586_355).2.1) (by decide) (by decide)
      replace G := own_iload (q := 593) G X353.here hx (hb hby at_591) rfl rfl
      replace G := own_i2l (q := 594) G X353.here hx (hb hby at_593) rfl rfl
      replace G := own_iload (q := 596) G X353.here hx (hb hby at_594) rfl rfl
      replace G := own_i2l (q := 597) G X353.here hx (hb hby at_596) (by decide : ((8 : Int32).toInt64) = (8 : Int64)) rfl
      replace G := own_lmul (q := 598) G X353.here hx (hb hby at_597) rfl rfl
      replace G := own_lstore (q := 600) (l' := #[.val (.long i0), .second, .val (.long i1), .second, .val (.int i2), .val (.int i3), .val (.int (8 : Int32)), .val (.int uu), .val (.long v0), .second, .val (.long v1), .second, .val (.long v2), .second, .val (.long v3), .second, .val (.long v4), .second, .val (.long v5), .second, .val (.long v6), .second, .val (.long v7), .second, .val (.ref b344), .val (.long v0), .second, .val (.int (0 : Int32)), .val (.long ((uu.toInt64) * (8 : Int64))), .second]) G X353.here hx (hb hby at_598) rfl rfl
      replace G := own_iload (q := 602) G X353.here hx (hb hby at_600) rfl rfl
      replace G := own_iconst (q := 603) G X353.here hx (hb hby at_602) (v := (1 : Int32)) (by decide) rfl
      replace G := own_iadd (q := 604) G X353.here hx (hb hby at_603) (by decide : ((0 : Int32) + (1 : Int32)) = (1 : Int32)) rfl
      replace G := own_i2l (q := 605) G X353.here hx (hb hby at_604) (by decide : ((1 : Int32).toInt64) = (1 : Int64)) rfl
      replace G : Gets p e below _ (T353.setTop (mkF m 608 #[.val (.long i0), .second, .val (.long i1), .second, .val (.int i2), .val (.int i3), .val (.int (8 : Int32)), .val (.int uu), .val (.long v0), .second, .val (.long v1), .second, .val (.long v2), .second, .val (.long v3), .second, .val (.long v4), .second, .val (.long v5), .second, .val (.long v6), .second, .val (.long v7), .second, .val (.ref b344), .val (.long v0), .second, .val (.int (0 : Int32)), .val (.long ((uu.toInt64) * (8 : Int64))), .second] [(.long (100 : Int64)), (.long (1 : Int64))])) := fun t k => G t (X353.ldc2Long hx hown (mvT hZ (hw _ (List.mem_of_getElem? (i := 13) rfl))) (g := (mkF m 605 #[.val (.long i0), .second, .val (.long i1), .second, .val (.int i2), .val (.int i3), .val (.int (8 : Int32)), .val (.int uu), .val (.long v0), .second, .val (.long v1), .second, .val (.long v2), .second, .val (.long v3), .second, .val (.long v4), .second, .val (.long v5), .second, .val (.long v6), .second, .val (.long v7), .second, .val (.ref b344), .val (.long v0), .second, .val (.int (0 : Int32)), .val (.long ((uu.toInt64) * (8 : Int64))), .second] [(.long (1 : Int64))])) rfl (hb hby at_605) t k)
      replace G := own_lmul (q := 609) G X353.here hx (hb hby at_608) (by decide : ((1 : Int64) * (100 : Int64)) = (100 : Int64)) rfl
      replace G := own_lload (q := 611) G X353.here hx (hb hby at_609) rfl rfl
      replace G := own_lcmp (q := 612) G X353.here hx (hb hby at_611) rfl
      have hc612_356 : ¬ ((100 : Int64) < ((uu.toInt64) * (8 : Int64))) := by
        rw [hj, show (0 : Int32).toInt = 0 from rfl] at sp
        have A := c_lmul uu.toInt64 8
        rw [c_i2l, show (8 : Int64).toInt = 8 from rfl] at A
        have RA := rng64 (uu.toInt64 * 8)
        have hB : 0 ≤ uu.toInt * 8 ∧ uu.toInt * 8 ≤ 800 := by omega
        have e : (uu.toInt64 * 8).toInt = uu.toInt * 8 := by
          generalize uu.toInt * 8 = P at A hB ⊢
          omega
        rw [own_ltL, e, show (100 : Int64).toInt = 100 from rfl]
        omega
      replace G := own_ifNo (q := 615) G X353.here hx (hb hby at_612) ((if0 _ _).trans (flt (fun z => hc612_356 ((lw_lt _ _).mp z))).1) rfl
      replace G := own_iload (q := 617) G X353.here hx (hb hby at_615) rfl rfl
      have hc617_357 : (0 : Int32) = (0 : Int32) := by decide
      replace G := own_ifYes (q := 633) G X353.here hx (hb hby at_617) ((if0 _ _).trans (teq hc617_357).1) (by decide) (by decide)
      replace G := own_iconst (q := 634) G X353.here hx (hb hby at_633) (v := (1 : Int32)) (by decide) rfl
      replace G := own_goto (q := 638) G X353.here hx (hb hby at_634) (by decide) (by decide)
      obtain ⟨fs, hr, hrun, hended, hW, hsame⟩ := X353.leave (v := some (.int (1 : Int32))) (fun h => by rw [Bd.returns] at h; cases h)
      refine ⟨_, _, G _ (retOut X353 hx Bd.returns rfl (Or.inl ⟨rfl, Or.inr (Or.inl rfl), _, rfl⟩) (hb hby at_638) hr), hrun, hended, _, _, rfl, ?_, ⟨_, rfl⟩, hW, hsame.mono (by decide) (by decide)⟩
      show Q0 Z i0 i1 i2 i3 h0 n0 _ T353.heap _
      rw [e353]
      exact ⟨rfl, N353⟩
    · obtain ⟨_, _, ⟨T358, L358, kk358, nn358⟩, -, X358, ⟨Lc358, hQ358, l358, y358, z358⟩, st358⟩ := Jvm.LawKit.callS X352 hx (y := (⟨"com/example/cued/cued/Bench", "percentile", "([JI)J"⟩ : MethodName)) hown (mvT hZ (hw _ (List.mem_of_getElem? (i := 3) rfl))) (mvT hZ (hw _ (List.mem_of_getElem? (i := 4) rfl))) (mvT hZ (hw _ (List.mem_of_getElem? (i := 5) rfl))) (mvT hZ (hw _ (List.mem_of_getElem? (i := 6) rfl))) (by decide) (backOf (W := 0) (rm1 l Z a0 hw [] b344 uu k344 (8 : Int32) [(.long v0), (.long v1), (.long v2), (.long v3), (.long v4), (.long v5), (.long v6), (.long v7)] v1 h352 n0 Z352 V352 (by decide) huu (by rw [hj]; rfl)) hZ (hw _ (List.mem_of_getElem? (i := 6) rfl)) (hw _ (List.mem_of_getElem? (i := 5) rfl)) (by decide) (by decide)) (g := (mkF m 421 #[.val (.long i0), .second, .val (.long i1), .second, .val (.int i2), .val (.int i3), .val (.int (8 : Int32)), .val (.int uu), .val (.long v0), .second, .val (.long v1), .second, .val (.long v2), .second, .val (.long v3), .second, .val (.long v4), .second, .val (.long v5), .second, .val (.long v6), .second, .val (.long v7), .second, .val (.ref b344), .unset, .unset, .unset, .unset, .unset] [(.int uu), (.ref b344)])) rfl (by rw [hml]; rfl) (argsL := [(.ref b344), (.int uu)]) (rest := []) (lenOf pd_1 rfl) rfl (by show 2 * 0 + _ ≤ _; exact Nat.le_of_eq rfl) (hb hby at_421) (fun _ _ => ⟨rfl, e352, (by decide : 1 + 0 ≤ _), (by decide : 8 + 0 ≤ _)⟩)
      dsimp only [Pt.U, Pt.locs, Pt.cells, Pt.slots] at X358 l358 y358 z358 st358 hQ358
      subst l358 y358 z358
      obtain ⟨rfl, N358q, e358⟩ := hQ358
      have N358 := Fr.app N352 N358q
      replace G : Gets p e below _ (T358.setTop (mkF m 424 #[.val (.long i0), .second, .val (.long i1), .second, .val (.int i2), .val (.int i3), .val (.int (8 : Int32)), .val (.int uu), .val (.long v0), .second, .val (.long v1), .second, .val (.long v2), .second, .val (.long v3), .second, .val (.long v4), .second, .val (.long v5), .second, .val (.long v6), .second, .val (.long v7), .second, .val (.ref b344), .unset, .unset, .unset, .unset, .unset] [(.long v1)])) := fun t k => G t (st358 t k)
      replace G := own_lstore (q := 426) (l' := #[.val (.long i0), .second, .val (.long i1), .second, .val (.int i2), .val (.int i3), .val (.int (8 : Int32)), .val (.int uu), .val (.long v0), .second, .val (.long v1), .second, .val (.long v2), .second, .val (.long v3), .second, .val (.long v4), .second, .val (.long v5), .second, .val (.long v6), .second, .val (.long v7), .second, .val (.ref b344), .val (.long v1), .second, .unset, .unset, .unset]) G X358.here hx (hb hby at_424) rfl rfl
      replace G := own_iconst (q := 427) G X358.here hx (hb hby at_426) (v := (-1 : Int32)) (by decide) rfl
      replace G := own_istore (q := 429) (l' := #[.val (.long i0), .second, .val (.long i1), .second, .val (.int i2), .val (.int i3), .val (.int (8 : Int32)), .val (.int uu), .val (.long v0), .second, .val (.long v1), .second, .val (.long v2), .second, .val (.long v3), .second, .val (.long v4), .second, .val (.long v5), .second, .val (.long v6), .second, .val (.long v7), .second, .val (.ref b344), .val (.long v1), .second, .val (.int (-1 : Int32)), .unset, .unset]) G X358.here hx (hb hby at_427) rfl rfl
      replace G := own_lload (q := 431) G X358.here hx (hb hby at_429) rfl rfl
      replace G := own_lload (q := 433) G X358.here hx (hb hby at_431) rfl rfl
      replace G := own_lcmp (q := 434) G X358.here hx (hb hby at_433) rfl
      have hc434_359 : ¬ (v1 = v0) := fun z => by have := congrArg Int64.toInt z; omega
      replace G := own_ifYes (q := 443) G X358.here hx (hb hby at_434) ((if0 _ _).trans (feq (fun z => hc434_359 ((lw_eq _ _).mp z))).2) (by decide) (by decide)
      replace G := own_iload (q := 445) G X358.here hx (hb hby at_443) rfl rfl
      replace G := own_iconst (q := 446) G X358.here hx (hb hby at_445) (v := (1 : Int32)) (by decide) rfl
      have hc446_360 : (1 : Int32) < (8 : Int32) := by decide
      replace G := own_icmpNo (q := 449) G X358.here hx (hb hby at_446) (tlt hc446_360).2.2.2 rfl
      replace G := own_lload (q := 451) G X358.here hx (hb hby at_449) rfl rfl
      replace G := own_lload (q := 453) G X358.here hx (hb hby at_451) rfl rfl
      replace G := own_lcmp (q := 454) G X358.here hx (hb hby at_453) rfl
      have hc454_361 : v1 = v1 := rfl
      replace G := own_ifNo (q := 457) G X358.here hx (hb hby at_454) ((if0 _ _).trans (teq ((lw_eq _ _).mpr hc454_361)).2) rfl
      replace G := own_iconst (q := 458) G X358.here hx (hb hby at_457) (v := (1 : Int32)) (by decide) rfl
      replace G := own_istore (q := 460) (l' := #[.val (.long i0), .second, .val (.long i1), .second, .val (.int i2), .val (.int i3), .val (.int (8 : Int32)), .val (.int uu), .val (.long v0), .second, .val (.long v1), .second, .val (.long v2), .second, .val (.long v3), .second, .val (.long v4), .second, .val (.long v5), .second, .val (.long v6), .second, .val (.long v7), .second, .val (.ref b344), .val (.long v1), .second, .val (.int (1 : Int32)), .unset, .unset]) G X358.here hx (hb hby at_458) rfl rfl
      replace G := own_goto (q := 584) G X358.here hx (hb hby at_460) (by decide) (by decide)
      replace G := own_iload (q := 586) G X358.here hx (hb hby at_584) rfl rfl
      have hc586_362 : ¬ ((1 : Int32) < (0 : Int32)) := by decide
      replace G := own_ifYes (q := 591) G X358.here hx (hb hby at_586) ((if0 _ _).trans (flt hc586_362).2.1) (by decide) (by decide)
      replace G := own_iload (q := 593) G X358.here hx (hb hby at_591) rfl rfl
      replace G := own_i2l (q := 594) G X358.here hx (hb hby at_593) rfl rfl
      replace G := own_iload (q := 596) G X358.here hx (hb hby at_594) rfl rfl
      replace G := own_i2l (q := 597) G X358.here hx (hb hby at_596) (by decide : ((8 : Int32).toInt64) = (8 : Int64)) rfl
      replace G := own_lmul (q := 598) G X358.here hx (hb hby at_597) rfl rfl
      replace G := own_lstore (q := 600) (l' := #[.val (.long i0), .second, .val (.long i1), .second, .val (.int i2), .val (.int i3), .val (.int (8 : Int32)), .val (.int uu), .val (.long v0), .second, .val (.long v1), .second, .val (.long v2), .second, .val (.long v3), .second, .val (.long v4), .second, .val (.long v5), .second, .val (.long v6), .second, .val (.long v7), .second, .val (.ref b344), .val (.long v1), .second, .val (.int (1 : Int32)), .val (.long ((uu.toInt64) * (8 : Int64))), .second]) G X358.here hx (hb hby at_598) rfl rfl
      replace G := own_iload (q := 602) G X358.here hx (hb hby at_600) rfl rfl
      replace G := own_iconst (q := 603) G X358.here hx (hb hby at_602) (v := (1 : Int32)) (by decide) rfl
      replace G := own_iadd (q := 604) G X358.here hx (hb hby at_603) (by decide : ((1 : Int32) + (1 : Int32)) = (2 : Int32)) rfl
      replace G := own_i2l (q := 605) G X358.here hx (hb hby at_604) (by decide : ((2 : Int32).toInt64) = (2 : Int64)) rfl
      replace G : Gets p e below _ (T358.setTop (mkF m 608 #[.val (.long i0), .second, .val (.long i1), .second, .val (.int i2), .val (.int i3), .val (.int (8 : Int32)), .val (.int uu), .val (.long v0), .second, .val (.long v1), .second, .val (.long v2), .second, .val (.long v3), .second, .val (.long v4), .second, .val (.long v5), .second, .val (.long v6), .second, .val (.long v7), .second, .val (.ref b344), .val (.long v1), .second, .val (.int (1 : Int32)), .val (.long ((uu.toInt64) * (8 : Int64))), .second] [(.long (100 : Int64)), (.long (2 : Int64))])) := fun t k => G t (X358.ldc2Long hx hown (mvT hZ (hw _ (List.mem_of_getElem? (i := 13) rfl))) (g := (mkF m 605 #[.val (.long i0), .second, .val (.long i1), .second, .val (.int i2), .val (.int i3), .val (.int (8 : Int32)), .val (.int uu), .val (.long v0), .second, .val (.long v1), .second, .val (.long v2), .second, .val (.long v3), .second, .val (.long v4), .second, .val (.long v5), .second, .val (.long v6), .second, .val (.long v7), .second, .val (.ref b344), .val (.long v1), .second, .val (.int (1 : Int32)), .val (.long ((uu.toInt64) * (8 : Int64))), .second] [(.long (2 : Int64))])) rfl (hb hby at_605) t k)
      replace G := own_lmul (q := 609) G X358.here hx (hb hby at_608) (by decide : ((2 : Int64) * (100 : Int64)) = (200 : Int64)) rfl
      replace G := own_lload (q := 611) G X358.here hx (hb hby at_609) rfl rfl
      replace G := own_lcmp (q := 612) G X358.here hx (hb hby at_611) rfl
      have hc612_363 : ¬ ((200 : Int64) < ((uu.toInt64) * (8 : Int64))) := by
        rw [hj, show (1 : Int32).toInt = 1 from rfl] at sp
        have A := c_lmul uu.toInt64 8
        rw [c_i2l, show (8 : Int64).toInt = 8 from rfl] at A
        have RA := rng64 (uu.toInt64 * 8)
        have hB : 0 ≤ uu.toInt * 8 ∧ uu.toInt * 8 ≤ 800 := by omega
        have e : (uu.toInt64 * 8).toInt = uu.toInt * 8 := by
          generalize uu.toInt * 8 = P at A hB ⊢
          omega
        rw [own_ltL, e, show (200 : Int64).toInt = 200 from rfl]
        omega
      replace G := own_ifNo (q := 615) G X358.here hx (hb hby at_612) ((if0 _ _).trans (flt (fun z => hc612_363 ((lw_lt _ _).mp z))).1) rfl
      replace G := own_iload (q := 617) G X358.here hx (hb hby at_615) rfl rfl
      have hc617_364 : ¬ ((1 : Int32) = (0 : Int32)) := by decide
      replace G := own_ifNo (q := 620) G X358.here hx (hb hby at_617) ((if0 _ _).trans (feq hc617_364).1) rfl
      replace G := own_iload (q := 622) G X358.here hx (hb hby at_620) rfl rfl
      replace G := own_i2l (q := 623) G X358.here hx (hb hby at_622) (by decide : ((1 : Int32).toInt64) = (1 : Int64)) rfl
      replace G : Gets p e below _ (T358.setTop (mkF m 626 #[.val (.long i0), .second, .val (.long i1), .second, .val (.int i2), .val (.int i3), .val (.int (8 : Int32)), .val (.int uu), .val (.long v0), .second, .val (.long v1), .second, .val (.long v2), .second, .val (.long v3), .second, .val (.long v4), .second, .val (.long v5), .second, .val (.long v6), .second, .val (.long v7), .second, .val (.ref b344), .val (.long v1), .second, .val (.int (1 : Int32)), .val (.long ((uu.toInt64) * (8 : Int64))), .second] [(.long (100 : Int64)), (.long (1 : Int64))])) := fun t k => G t (X358.ldc2Long hx hown (mvT hZ (hw _ (List.mem_of_getElem? (i := 13) rfl))) (g := (mkF m 623 #[.val (.long i0), .second, .val (.long i1), .second, .val (.int i2), .val (.int i3), .val (.int (8 : Int32)), .val (.int uu), .val (.long v0), .second, .val (.long v1), .second, .val (.long v2), .second, .val (.long v3), .second, .val (.long v4), .second, .val (.long v5), .second, .val (.long v6), .second, .val (.long v7), .second, .val (.ref b344), .val (.long v1), .second, .val (.int (1 : Int32)), .val (.long ((uu.toInt64) * (8 : Int64))), .second] [(.long (1 : Int64))])) rfl (hb hby at_623) t k)
      replace G := own_lmul (q := 627) G X358.here hx (hb hby at_626) (by decide : ((1 : Int64) * (100 : Int64)) = (100 : Int64)) rfl
      replace G := own_lload (q := 629) G X358.here hx (hb hby at_627) rfl rfl
      replace G := own_lcmp (q := 630) G X358.here hx (hb hby at_629) rfl
      have hc630_365 : (100 : Int64) < ((uu.toInt64) * (8 : Int64)) := by
        rw [hj, show (1 : Int32).toInt = 1 from rfl] at sp
        have A := c_lmul uu.toInt64 8
        rw [c_i2l, show (8 : Int64).toInt = 8 from rfl] at A
        have RA := rng64 (uu.toInt64 * 8)
        have hB : 0 ≤ uu.toInt * 8 ∧ uu.toInt * 8 ≤ 800 := by omega
        have e : (uu.toInt64 * 8).toInt = uu.toInt * 8 := by
          generalize uu.toInt * 8 = P at A hB ⊢
          omega
        rw [own_ltL, e, show (100 : Int64).toInt = 100 from rfl]
        omega
      replace G := own_ifNo (q := 633) G X358.here hx (hb hby at_630) ((if0 _ _).trans (tlt ((lw_lt _ _).mpr hc630_365)).2.1) rfl
      replace G := own_iconst (q := 634) G X358.here hx (hb hby at_633) (v := (1 : Int32)) (by decide) rfl
      replace G := own_goto (q := 638) G X358.here hx (hb hby at_634) (by decide) (by decide)
      obtain ⟨fs, hr, hrun, hended, hW, hsame⟩ := X358.leave (v := some (.int (1 : Int32))) (fun h => by rw [Bd.returns] at h; cases h)
      refine ⟨_, _, G _ (retOut X358 hx Bd.returns rfl (Or.inl ⟨rfl, Or.inr (Or.inl rfl), _, rfl⟩) (hb hby at_638) hr), hrun, hended, _, _, rfl, ?_, ⟨_, rfl⟩, hW, hsame.mono (by decide) (by decide)⟩
      show Q0 Z i0 i1 i2 i3 h0 n0 _ T358.heap _
      rw [e358]
      exact ⟨rfl, N358⟩
    · obtain ⟨_, _, ⟨T366, L366, kk366, nn366⟩, -, X366, ⟨Lc366, hQ366, l366, y366, z366⟩, st366⟩ := Jvm.LawKit.callS X352 hx (y := (⟨"com/example/cued/cued/Bench", "percentile", "([JI)J"⟩ : MethodName)) hown (mvT hZ (hw _ (List.mem_of_getElem? (i := 3) rfl))) (mvT hZ (hw _ (List.mem_of_getElem? (i := 4) rfl))) (mvT hZ (hw _ (List.mem_of_getElem? (i := 5) rfl))) (mvT hZ (hw _ (List.mem_of_getElem? (i := 6) rfl))) (by decide) (backOf (W := 0) (rm1 l Z a0 hw [] b344 uu k344 (8 : Int32) [(.long v0), (.long v1), (.long v2), (.long v3), (.long v4), (.long v5), (.long v6), (.long v7)] v2 h352 n0 Z352 V352 (by decide) huu (by rw [hj]; rfl)) hZ (hw _ (List.mem_of_getElem? (i := 6) rfl)) (hw _ (List.mem_of_getElem? (i := 5) rfl)) (by decide) (by decide)) (g := (mkF m 421 #[.val (.long i0), .second, .val (.long i1), .second, .val (.int i2), .val (.int i3), .val (.int (8 : Int32)), .val (.int uu), .val (.long v0), .second, .val (.long v1), .second, .val (.long v2), .second, .val (.long v3), .second, .val (.long v4), .second, .val (.long v5), .second, .val (.long v6), .second, .val (.long v7), .second, .val (.ref b344), .unset, .unset, .unset, .unset, .unset] [(.int uu), (.ref b344)])) rfl (by rw [hml]; rfl) (argsL := [(.ref b344), (.int uu)]) (rest := []) (lenOf pd_1 rfl) rfl (by show 2 * 0 + _ ≤ _; exact Nat.le_of_eq rfl) (hb hby at_421) (fun _ _ => ⟨rfl, e352, (by decide : 1 + 0 ≤ _), (by decide : 8 + 0 ≤ _)⟩)
      dsimp only [Pt.U, Pt.locs, Pt.cells, Pt.slots] at X366 l366 y366 z366 st366 hQ366
      subst l366 y366 z366
      obtain ⟨rfl, N366q, e366⟩ := hQ366
      have N366 := Fr.app N352 N366q
      replace G : Gets p e below _ (T366.setTop (mkF m 424 #[.val (.long i0), .second, .val (.long i1), .second, .val (.int i2), .val (.int i3), .val (.int (8 : Int32)), .val (.int uu), .val (.long v0), .second, .val (.long v1), .second, .val (.long v2), .second, .val (.long v3), .second, .val (.long v4), .second, .val (.long v5), .second, .val (.long v6), .second, .val (.long v7), .second, .val (.ref b344), .unset, .unset, .unset, .unset, .unset] [(.long v2)])) := fun t k => G t (st366 t k)
      replace G := own_lstore (q := 426) (l' := #[.val (.long i0), .second, .val (.long i1), .second, .val (.int i2), .val (.int i3), .val (.int (8 : Int32)), .val (.int uu), .val (.long v0), .second, .val (.long v1), .second, .val (.long v2), .second, .val (.long v3), .second, .val (.long v4), .second, .val (.long v5), .second, .val (.long v6), .second, .val (.long v7), .second, .val (.ref b344), .val (.long v2), .second, .unset, .unset, .unset]) G X366.here hx (hb hby at_424) rfl rfl
      replace G := own_iconst (q := 427) G X366.here hx (hb hby at_426) (v := (-1 : Int32)) (by decide) rfl
      replace G := own_istore (q := 429) (l' := #[.val (.long i0), .second, .val (.long i1), .second, .val (.int i2), .val (.int i3), .val (.int (8 : Int32)), .val (.int uu), .val (.long v0), .second, .val (.long v1), .second, .val (.long v2), .second, .val (.long v3), .second, .val (.long v4), .second, .val (.long v5), .second, .val (.long v6), .second, .val (.long v7), .second, .val (.ref b344), .val (.long v2), .second, .val (.int (-1 : Int32)), .unset, .unset]) G X366.here hx (hb hby at_427) rfl rfl
      replace G := own_lload (q := 431) G X366.here hx (hb hby at_429) rfl rfl
      replace G := own_lload (q := 433) G X366.here hx (hb hby at_431) rfl rfl
      replace G := own_lcmp (q := 434) G X366.here hx (hb hby at_433) rfl
      have hc434_367 : ¬ (v2 = v0) := fun z => by have := congrArg Int64.toInt z; omega
      replace G := own_ifYes (q := 443) G X366.here hx (hb hby at_434) ((if0 _ _).trans (feq (fun z => hc434_367 ((lw_eq _ _).mp z))).2) (by decide) (by decide)
      replace G := own_iload (q := 445) G X366.here hx (hb hby at_443) rfl rfl
      replace G := own_iconst (q := 446) G X366.here hx (hb hby at_445) (v := (1 : Int32)) (by decide) rfl
      have hc446_368 : (1 : Int32) < (8 : Int32) := by decide
      replace G := own_icmpNo (q := 449) G X366.here hx (hb hby at_446) (tlt hc446_368).2.2.2 rfl
      replace G := own_lload (q := 451) G X366.here hx (hb hby at_449) rfl rfl
      replace G := own_lload (q := 453) G X366.here hx (hb hby at_451) rfl rfl
      replace G := own_lcmp (q := 454) G X366.here hx (hb hby at_453) rfl
      have hc454_369 : ¬ (v2 = v1) := fun z => by have := congrArg Int64.toInt z; omega
      replace G := own_ifYes (q := 463) G X366.here hx (hb hby at_454) ((if0 _ _).trans (feq (fun z => hc454_369 ((lw_eq _ _).mp z))).2) (by decide) (by decide)
      replace G := own_iload (q := 465) G X366.here hx (hb hby at_463) rfl rfl
      replace G := own_iconst (q := 466) G X366.here hx (hb hby at_465) (v := (2 : Int32)) (by decide) rfl
      have hc466_370 : (2 : Int32) < (8 : Int32) := by decide
      replace G := own_icmpNo (q := 469) G X366.here hx (hb hby at_466) (tlt hc466_370).2.2.2 rfl
      replace G := own_lload (q := 471) G X366.here hx (hb hby at_469) rfl rfl
      replace G := own_lload (q := 473) G X366.here hx (hb hby at_471) rfl rfl
      replace G := own_lcmp (q := 474) G X366.here hx (hb hby at_473) rfl
      have hc474_371 : v2 = v2 := rfl
      replace G := own_ifNo (q := 477) G X366.here hx (hb hby at_474) ((if0 _ _).trans (teq ((lw_eq _ _).mpr hc474_371)).2) rfl
      replace G := own_iconst (q := 478) G X366.here hx (hb hby at_477) (v := (2 : Int32)) (by decide) rfl
      replace G := own_istore (q := 480) (l' := #[.val (.long i0), .second, .val (.long i1), .second, .val (.int i2), .val (.int i3), .val (.int (8 : Int32)), .val (.int uu), .val (.long v0), .second, .val (.long v1), .second, .val (.long v2), .second, .val (.long v3), .second, .val (.long v4), .second, .val (.long v5), .second, .val (.long v6), .second, .val (.long v7), .second, .val (.ref b344), .val (.long v2), .second, .val (.int (2 : Int32)), .unset, .unset]) G X366.here hx (hb hby at_478) rfl rfl
      replace G := own_goto (q := 584) G X366.here hx (hb hby at_480) (by decide) (by decide)
      replace G := own_iload (q := 586) G X366.here hx (hb hby at_584) rfl rfl
      have hc586_372 : ¬ ((2 : Int32) < (0 : Int32)) := by decide
      replace G := own_ifYes (q := 591) G X366.here hx (hb hby at_586) ((if0 _ _).trans (flt hc586_372).2.1) (by decide) (by decide)
      replace G := own_iload (q := 593) G X366.here hx (hb hby at_591) rfl rfl
      replace G := own_i2l (q := 594) G X366.here hx (hb hby at_593) rfl rfl
      replace G := own_iload (q := 596) G X366.here hx (hb hby at_594) rfl rfl
      replace G := own_i2l (q := 597) G X366.here hx (hb hby at_596) (by decide : ((8 : Int32).toInt64) = (8 : Int64)) rfl
      replace G := own_lmul (q := 598) G X366.here hx (hb hby at_597) rfl rfl
      replace G := own_lstore (q := 600) (l' := #[.val (.long i0), .second, .val (.long i1), .second, .val (.int i2), .val (.int i3), .val (.int (8 : Int32)), .val (.int uu), .val (.long v0), .second, .val (.long v1), .second, .val (.long v2), .second, .val (.long v3), .second, .val (.long v4), .second, .val (.long v5), .second, .val (.long v6), .second, .val (.long v7), .second, .val (.ref b344), .val (.long v2), .second, .val (.int (2 : Int32)), .val (.long ((uu.toInt64) * (8 : Int64))), .second]) G X366.here hx (hb hby at_598) rfl rfl
      replace G := own_iload (q := 602) G X366.here hx (hb hby at_600) rfl rfl
      replace G := own_iconst (q := 603) G X366.here hx (hb hby at_602) (v := (1 : Int32)) (by decide) rfl
      replace G := own_iadd (q := 604) G X366.here hx (hb hby at_603) (by decide : ((2 : Int32) + (1 : Int32)) = (3 : Int32)) rfl
      replace G := own_i2l (q := 605) G X366.here hx (hb hby at_604) (by decide : ((3 : Int32).toInt64) = (3 : Int64)) rfl
      replace G : Gets p e below _ (T366.setTop (mkF m 608 #[.val (.long i0), .second, .val (.long i1), .second, .val (.int i2), .val (.int i3), .val (.int (8 : Int32)), .val (.int uu), .val (.long v0), .second, .val (.long v1), .second, .val (.long v2), .second, .val (.long v3), .second, .val (.long v4), .second, .val (.long v5), .second, .val (.long v6), .second, .val (.long v7), .second, .val (.ref b344), .val (.long v2), .second, .val (.int (2 : Int32)), .val (.long ((uu.toInt64) * (8 : Int64))), .second] [(.long (100 : Int64)), (.long (3 : Int64))])) := fun t k => G t (X366.ldc2Long hx hown (mvT hZ (hw _ (List.mem_of_getElem? (i := 13) rfl))) (g := (mkF m 605 #[.val (.long i0), .second, .val (.long i1), .second, .val (.int i2), .val (.int i3), .val (.int (8 : Int32)), .val (.int uu), .val (.long v0), .second, .val (.long v1), .second, .val (.long v2), .second, .val (.long v3), .second, .val (.long v4), .second, .val (.long v5), .second, .val (.long v6), .second, .val (.long v7), .second, .val (.ref b344), .val (.long v2), .second, .val (.int (2 : Int32)), .val (.long ((uu.toInt64) * (8 : Int64))), .second] [(.long (3 : Int64))])) rfl (hb hby at_605) t k)
      replace G := own_lmul (q := 609) G X366.here hx (hb hby at_608) (by decide : ((3 : Int64) * (100 : Int64)) = (300 : Int64)) rfl
      replace G := own_lload (q := 611) G X366.here hx (hb hby at_609) rfl rfl
      replace G := own_lcmp (q := 612) G X366.here hx (hb hby at_611) rfl
      have hc612_373 : ¬ ((300 : Int64) < ((uu.toInt64) * (8 : Int64))) := by
        rw [hj, show (2 : Int32).toInt = 2 from rfl] at sp
        have A := c_lmul uu.toInt64 8
        rw [c_i2l, show (8 : Int64).toInt = 8 from rfl] at A
        have RA := rng64 (uu.toInt64 * 8)
        have hB : 0 ≤ uu.toInt * 8 ∧ uu.toInt * 8 ≤ 800 := by omega
        have e : (uu.toInt64 * 8).toInt = uu.toInt * 8 := by
          generalize uu.toInt * 8 = P at A hB ⊢
          omega
        rw [own_ltL, e, show (300 : Int64).toInt = 300 from rfl]
        omega
      replace G := own_ifNo (q := 615) G X366.here hx (hb hby at_612) ((if0 _ _).trans (flt (fun z => hc612_373 ((lw_lt _ _).mp z))).1) rfl
      replace G := own_iload (q := 617) G X366.here hx (hb hby at_615) rfl rfl
      have hc617_374 : ¬ ((2 : Int32) = (0 : Int32)) := by decide
      replace G := own_ifNo (q := 620) G X366.here hx (hb hby at_617) ((if0 _ _).trans (feq hc617_374).1) rfl
      replace G := own_iload (q := 622) G X366.here hx (hb hby at_620) rfl rfl
      replace G := own_i2l (q := 623) G X366.here hx (hb hby at_622) (by decide : ((2 : Int32).toInt64) = (2 : Int64)) rfl
      replace G : Gets p e below _ (T366.setTop (mkF m 626 #[.val (.long i0), .second, .val (.long i1), .second, .val (.int i2), .val (.int i3), .val (.int (8 : Int32)), .val (.int uu), .val (.long v0), .second, .val (.long v1), .second, .val (.long v2), .second, .val (.long v3), .second, .val (.long v4), .second, .val (.long v5), .second, .val (.long v6), .second, .val (.long v7), .second, .val (.ref b344), .val (.long v2), .second, .val (.int (2 : Int32)), .val (.long ((uu.toInt64) * (8 : Int64))), .second] [(.long (100 : Int64)), (.long (2 : Int64))])) := fun t k => G t (X366.ldc2Long hx hown (mvT hZ (hw _ (List.mem_of_getElem? (i := 13) rfl))) (g := (mkF m 623 #[.val (.long i0), .second, .val (.long i1), .second, .val (.int i2), .val (.int i3), .val (.int (8 : Int32)), .val (.int uu), .val (.long v0), .second, .val (.long v1), .second, .val (.long v2), .second, .val (.long v3), .second, .val (.long v4), .second, .val (.long v5), .second, .val (.long v6), .second, .val (.long v7), .second, .val (.ref b344), .val (.long v2), .second, .val (.int (2 : Int32)), .val (.long ((uu.toInt64) * (8 : Int64))), .second] [(.long (2 : Int64))])) rfl (hb hby at_623) t k)
      replace G := own_lmul (q := 627) G X366.here hx (hb hby at_626) (by decide : ((2 : Int64) * (100 : Int64)) = (200 : Int64)) rfl
      replace G := own_lload (q := 629) G X366.here hx (hb hby at_627) rfl rfl
      replace G := own_lcmp (q := 630) G X366.here hx (hb hby at_629) rfl
      have hc630_375 : (200 : Int64) < ((uu.toInt64) * (8 : Int64)) := by
        rw [hj, show (2 : Int32).toInt = 2 from rfl] at sp
        have A := c_lmul uu.toInt64 8
        rw [c_i2l, show (8 : Int64).toInt = 8 from rfl] at A
        have RA := rng64 (uu.toInt64 * 8)
        have hB : 0 ≤ uu.toInt * 8 ∧ uu.toInt * 8 ≤ 800 := by omega
        have e : (uu.toInt64 * 8).toInt = uu.toInt * 8 := by
          generalize uu.toInt * 8 = P at A hB ⊢
          omega
        rw [own_ltL, e, show (200 : Int64).toInt = 200 from rfl]
        omega
      replace G := own_ifNo (q := 633) G X366.here hx (hb hby at_630) ((if0 _ _).trans (tlt ((lw_lt _ _).mpr hc630_375)).2.1) rfl
      replace G := own_iconst (q := 634) G X366.here hx (hb hby at_633) (v := (1 : Int32)) (by decide) rfl
      replace G := own_goto (q := 638) G X366.here hx (hb hby at_634) (by decide) (by decide)
      obtain ⟨fs, hr, hrun, hended, hW, hsame⟩ := X366.leave (v := some (.int (1 : Int32))) (fun h => by rw [Bd.returns] at h; cases h)
      refine ⟨_, _, G _ (retOut X366 hx Bd.returns rfl (Or.inl ⟨rfl, Or.inr (Or.inl rfl), _, rfl⟩) (hb hby at_638) hr), hrun, hended, _, _, rfl, ?_, ⟨_, rfl⟩, hW, hsame.mono (by decide) (by decide)⟩
      show Q0 Z i0 i1 i2 i3 h0 n0 _ T366.heap _
      rw [e366]
      exact ⟨rfl, N366⟩
    · obtain ⟨_, _, ⟨T376, L376, kk376, nn376⟩, -, X376, ⟨Lc376, hQ376, l376, y376, z376⟩, st376⟩ := Jvm.LawKit.callS X352 hx (y := (⟨"com/example/cued/cued/Bench", "percentile", "([JI)J"⟩ : MethodName)) hown (mvT hZ (hw _ (List.mem_of_getElem? (i := 3) rfl))) (mvT hZ (hw _ (List.mem_of_getElem? (i := 4) rfl))) (mvT hZ (hw _ (List.mem_of_getElem? (i := 5) rfl))) (mvT hZ (hw _ (List.mem_of_getElem? (i := 6) rfl))) (by decide) (backOf (W := 0) (rm1 l Z a0 hw [] b344 uu k344 (8 : Int32) [(.long v0), (.long v1), (.long v2), (.long v3), (.long v4), (.long v5), (.long v6), (.long v7)] v3 h352 n0 Z352 V352 (by decide) huu (by rw [hj]; rfl)) hZ (hw _ (List.mem_of_getElem? (i := 6) rfl)) (hw _ (List.mem_of_getElem? (i := 5) rfl)) (by decide) (by decide)) (g := (mkF m 421 #[.val (.long i0), .second, .val (.long i1), .second, .val (.int i2), .val (.int i3), .val (.int (8 : Int32)), .val (.int uu), .val (.long v0), .second, .val (.long v1), .second, .val (.long v2), .second, .val (.long v3), .second, .val (.long v4), .second, .val (.long v5), .second, .val (.long v6), .second, .val (.long v7), .second, .val (.ref b344), .unset, .unset, .unset, .unset, .unset] [(.int uu), (.ref b344)])) rfl (by rw [hml]; rfl) (argsL := [(.ref b344), (.int uu)]) (rest := []) (lenOf pd_1 rfl) rfl (by show 2 * 0 + _ ≤ _; exact Nat.le_of_eq rfl) (hb hby at_421) (fun _ _ => ⟨rfl, e352, (by decide : 1 + 0 ≤ _), (by decide : 8 + 0 ≤ _)⟩)
      dsimp only [Pt.U, Pt.locs, Pt.cells, Pt.slots] at X376 l376 y376 z376 st376 hQ376
      subst l376 y376 z376
      obtain ⟨rfl, N376q, e376⟩ := hQ376
      have N376 := Fr.app N352 N376q
      replace G : Gets p e below _ (T376.setTop (mkF m 424 #[.val (.long i0), .second, .val (.long i1), .second, .val (.int i2), .val (.int i3), .val (.int (8 : Int32)), .val (.int uu), .val (.long v0), .second, .val (.long v1), .second, .val (.long v2), .second, .val (.long v3), .second, .val (.long v4), .second, .val (.long v5), .second, .val (.long v6), .second, .val (.long v7), .second, .val (.ref b344), .unset, .unset, .unset, .unset, .unset] [(.long v3)])) := fun t k => G t (st376 t k)
      replace G := own_lstore (q := 426) (l' := #[.val (.long i0), .second, .val (.long i1), .second, .val (.int i2), .val (.int i3), .val (.int (8 : Int32)), .val (.int uu), .val (.long v0), .second, .val (.long v1), .second, .val (.long v2), .second, .val (.long v3), .second, .val (.long v4), .second, .val (.long v5), .second, .val (.long v6), .second, .val (.long v7), .second, .val (.ref b344), .val (.long v3), .second, .unset, .unset, .unset]) G X376.here hx (hb hby at_424) rfl rfl
      replace G := own_iconst (q := 427) G X376.here hx (hb hby at_426) (v := (-1 : Int32)) (by decide) rfl
      replace G := own_istore (q := 429) (l' := #[.val (.long i0), .second, .val (.long i1), .second, .val (.int i2), .val (.int i3), .val (.int (8 : Int32)), .val (.int uu), .val (.long v0), .second, .val (.long v1), .second, .val (.long v2), .second, .val (.long v3), .second, .val (.long v4), .second, .val (.long v5), .second, .val (.long v6), .second, .val (.long v7), .second, .val (.ref b344), .val (.long v3), .second, .val (.int (-1 : Int32)), .unset, .unset]) G X376.here hx (hb hby at_427) rfl rfl
      replace G := own_lload (q := 431) G X376.here hx (hb hby at_429) rfl rfl
      replace G := own_lload (q := 433) G X376.here hx (hb hby at_431) rfl rfl
      replace G := own_lcmp (q := 434) G X376.here hx (hb hby at_433) rfl
      have hc434_377 : ¬ (v3 = v0) := fun z => by have := congrArg Int64.toInt z; omega
      replace G := own_ifYes (q := 443) G X376.here hx (hb hby at_434) ((if0 _ _).trans (feq (fun z => hc434_377 ((lw_eq _ _).mp z))).2) (by decide) (by decide)
      replace G := own_iload (q := 445) G X376.here hx (hb hby at_443) rfl rfl
      replace G := own_iconst (q := 446) G X376.here hx (hb hby at_445) (v := (1 : Int32)) (by decide) rfl
      have hc446_378 : (1 : Int32) < (8 : Int32) := by decide
      replace G := own_icmpNo (q := 449) G X376.here hx (hb hby at_446) (tlt hc446_378).2.2.2 rfl
      replace G := own_lload (q := 451) G X376.here hx (hb hby at_449) rfl rfl
      replace G := own_lload (q := 453) G X376.here hx (hb hby at_451) rfl rfl
      replace G := own_lcmp (q := 454) G X376.here hx (hb hby at_453) rfl
      have hc454_379 : ¬ (v3 = v1) := fun z => by have := congrArg Int64.toInt z; omega
      replace G := own_ifYes (q := 463) G X376.here hx (hb hby at_454) ((if0 _ _).trans (feq (fun z => hc454_379 ((lw_eq _ _).mp z))).2) (by decide) (by decide)
      replace G := own_iload (q := 465) G X376.here hx (hb hby at_463) rfl rfl
      replace G := own_iconst (q := 466) G X376.here hx (hb hby at_465) (v := (2 : Int32)) (by decide) rfl
      have hc466_380 : (2 : Int32) < (8 : Int32) := by decide
      replace G := own_icmpNo (q := 469) G X376.here hx (hb hby at_466) (tlt hc466_380).2.2.2 rfl
      replace G := own_lload (q := 471) G X376.here hx (hb hby at_469) rfl rfl
      replace G := own_lload (q := 473) G X376.here hx (hb hby at_471) rfl rfl
      replace G := own_lcmp (q := 474) G X376.here hx (hb hby at_473) rfl
      have hc474_381 : ¬ (v3 = v2) := fun z => by have := congrArg Int64.toInt z; omega
      replace G := own_ifYes (q := 483) G X376.here hx (hb hby at_474) ((if0 _ _).trans (feq (fun z => hc474_381 ((lw_eq _ _).mp z))).2) (by decide) (by decide)
      replace G := own_iload (q := 485) G X376.here hx (hb hby at_483) rfl rfl
      replace G := own_iconst (q := 486) G X376.here hx (hb hby at_485) (v := (3 : Int32)) (by decide) rfl
      have hc486_382 : (3 : Int32) < (8 : Int32) := by decide
      replace G := own_icmpNo (q := 489) G X376.here hx (hb hby at_486) (tlt hc486_382).2.2.2 rfl
      replace G := own_lload (q := 491) G X376.here hx (hb hby at_489) rfl rfl
      replace G := own_lload (q := 493) G X376.here hx (hb hby at_491) rfl rfl
      replace G := own_lcmp (q := 494) G X376.here hx (hb hby at_493) rfl
      have hc494_383 : v3 = v3 := rfl
      replace G := own_ifNo (q := 497) G X376.here hx (hb hby at_494) ((if0 _ _).trans (teq ((lw_eq _ _).mpr hc494_383)).2) rfl
      replace G := own_iconst (q := 498) G X376.here hx (hb hby at_497) (v := (3 : Int32)) (by decide) rfl
      replace G := own_istore (q := 500) (l' := #[.val (.long i0), .second, .val (.long i1), .second, .val (.int i2), .val (.int i3), .val (.int (8 : Int32)), .val (.int uu), .val (.long v0), .second, .val (.long v1), .second, .val (.long v2), .second, .val (.long v3), .second, .val (.long v4), .second, .val (.long v5), .second, .val (.long v6), .second, .val (.long v7), .second, .val (.ref b344), .val (.long v3), .second, .val (.int (3 : Int32)), .unset, .unset]) G X376.here hx (hb hby at_498) rfl rfl
      replace G := own_goto (q := 584) G X376.here hx (hb hby at_500) (by decide) (by decide)
      replace G := own_iload (q := 586) G X376.here hx (hb hby at_584) rfl rfl
      have hc586_384 : ¬ ((3 : Int32) < (0 : Int32)) := by decide
      replace G := own_ifYes (q := 591) G X376.here hx (hb hby at_586) ((if0 _ _).trans (flt hc586_384).2.1) (by decide) (by decide)
      replace G := own_iload (q := 593) G X376.here hx (hb hby at_591) rfl rfl
      replace G := own_i2l (q := 594) G X376.here hx (hb hby at_593) rfl rfl
      replace G := own_iload (q := 596) G X376.here hx (hb hby at_594) rfl rfl
      replace G := own_i2l (q := 597) G X376.here hx (hb hby at_596) (by decide : ((8 : Int32).toInt64) = (8 : Int64)) rfl
      replace G := own_lmul (q := 598) G X376.here hx (hb hby at_597) rfl rfl
      replace G := own_lstore (q := 600) (l' := #[.val (.long i0), .second, .val (.long i1), .second, .val (.int i2), .val (.int i3), .val (.int (8 : Int32)), .val (.int uu), .val (.long v0), .second, .val (.long v1), .second, .val (.long v2), .second, .val (.long v3), .second, .val (.long v4), .second, .val (.long v5), .second, .val (.long v6), .second, .val (.long v7), .second, .val (.ref b344), .val (.long v3), .second, .val (.int (3 : Int32)), .val (.long ((uu.toInt64) * (8 : Int64))), .second]) G X376.here hx (hb hby at_598) rfl rfl
      replace G := own_iload (q := 602) G X376.here hx (hb hby at_600) rfl rfl
      replace G := own_iconst (q := 603) G X376.here hx (hb hby at_602) (v := (1 : Int32)) (by decide) rfl
      replace G := own_iadd (q := 604) G X376.here hx (hb hby at_603) (by decide : ((3 : Int32) + (1 : Int32)) = (4 : Int32)) rfl
      replace G := own_i2l (q := 605) G X376.here hx (hb hby at_604) (by decide : ((4 : Int32).toInt64) = (4 : Int64)) rfl
      replace G : Gets p e below _ (T376.setTop (mkF m 608 #[.val (.long i0), .second, .val (.long i1), .second, .val (.int i2), .val (.int i3), .val (.int (8 : Int32)), .val (.int uu), .val (.long v0), .second, .val (.long v1), .second, .val (.long v2), .second, .val (.long v3), .second, .val (.long v4), .second, .val (.long v5), .second, .val (.long v6), .second, .val (.long v7), .second, .val (.ref b344), .val (.long v3), .second, .val (.int (3 : Int32)), .val (.long ((uu.toInt64) * (8 : Int64))), .second] [(.long (100 : Int64)), (.long (4 : Int64))])) := fun t k => G t (X376.ldc2Long hx hown (mvT hZ (hw _ (List.mem_of_getElem? (i := 13) rfl))) (g := (mkF m 605 #[.val (.long i0), .second, .val (.long i1), .second, .val (.int i2), .val (.int i3), .val (.int (8 : Int32)), .val (.int uu), .val (.long v0), .second, .val (.long v1), .second, .val (.long v2), .second, .val (.long v3), .second, .val (.long v4), .second, .val (.long v5), .second, .val (.long v6), .second, .val (.long v7), .second, .val (.ref b344), .val (.long v3), .second, .val (.int (3 : Int32)), .val (.long ((uu.toInt64) * (8 : Int64))), .second] [(.long (4 : Int64))])) rfl (hb hby at_605) t k)
      replace G := own_lmul (q := 609) G X376.here hx (hb hby at_608) (by decide : ((4 : Int64) * (100 : Int64)) = (400 : Int64)) rfl
      replace G := own_lload (q := 611) G X376.here hx (hb hby at_609) rfl rfl
      replace G := own_lcmp (q := 612) G X376.here hx (hb hby at_611) rfl
      have hc612_385 : ¬ ((400 : Int64) < ((uu.toInt64) * (8 : Int64))) := by
        rw [hj, show (3 : Int32).toInt = 3 from rfl] at sp
        have A := c_lmul uu.toInt64 8
        rw [c_i2l, show (8 : Int64).toInt = 8 from rfl] at A
        have RA := rng64 (uu.toInt64 * 8)
        have hB : 0 ≤ uu.toInt * 8 ∧ uu.toInt * 8 ≤ 800 := by omega
        have e : (uu.toInt64 * 8).toInt = uu.toInt * 8 := by
          generalize uu.toInt * 8 = P at A hB ⊢
          omega
        rw [own_ltL, e, show (400 : Int64).toInt = 400 from rfl]
        omega
      replace G := own_ifNo (q := 615) G X376.here hx (hb hby at_612) ((if0 _ _).trans (flt (fun z => hc612_385 ((lw_lt _ _).mp z))).1) rfl
      replace G := own_iload (q := 617) G X376.here hx (hb hby at_615) rfl rfl
      have hc617_386 : ¬ ((3 : Int32) = (0 : Int32)) := by decide
      replace G := own_ifNo (q := 620) G X376.here hx (hb hby at_617) ((if0 _ _).trans (feq hc617_386).1) rfl
      replace G := own_iload (q := 622) G X376.here hx (hb hby at_620) rfl rfl
      replace G := own_i2l (q := 623) G X376.here hx (hb hby at_622) (by decide : ((3 : Int32).toInt64) = (3 : Int64)) rfl
      replace G : Gets p e below _ (T376.setTop (mkF m 626 #[.val (.long i0), .second, .val (.long i1), .second, .val (.int i2), .val (.int i3), .val (.int (8 : Int32)), .val (.int uu), .val (.long v0), .second, .val (.long v1), .second, .val (.long v2), .second, .val (.long v3), .second, .val (.long v4), .second, .val (.long v5), .second, .val (.long v6), .second, .val (.long v7), .second, .val (.ref b344), .val (.long v3), .second, .val (.int (3 : Int32)), .val (.long ((uu.toInt64) * (8 : Int64))), .second] [(.long (100 : Int64)), (.long (3 : Int64))])) := fun t k => G t (X376.ldc2Long hx hown (mvT hZ (hw _ (List.mem_of_getElem? (i := 13) rfl))) (g := (mkF m 623 #[.val (.long i0), .second, .val (.long i1), .second, .val (.int i2), .val (.int i3), .val (.int (8 : Int32)), .val (.int uu), .val (.long v0), .second, .val (.long v1), .second, .val (.long v2), .second, .val (.long v3), .second, .val (.long v4), .second, .val (.long v5), .second, .val (.long v6), .second, .val (.long v7), .second, .val (.ref b344), .val (.long v3), .second, .val (.int (3 : Int32)), .val (.long ((uu.toInt64) * (8 : Int64))), .second] [(.long (3 : Int64))])) rfl (hb hby at_623) t k)
      replace G := own_lmul (q := 627) G X376.here hx (hb hby at_626) (by decide : ((3 : Int64) * (100 : Int64)) = (300 : Int64)) rfl
      replace G := own_lload (q := 629) G X376.here hx (hb hby at_627) rfl rfl
      replace G := own_lcmp (q := 630) G X376.here hx (hb hby at_629) rfl
      have hc630_387 : (300 : Int64) < ((uu.toInt64) * (8 : Int64)) := by
        rw [hj, show (3 : Int32).toInt = 3 from rfl] at sp
        have A := c_lmul uu.toInt64 8
        rw [c_i2l, show (8 : Int64).toInt = 8 from rfl] at A
        have RA := rng64 (uu.toInt64 * 8)
        have hB : 0 ≤ uu.toInt * 8 ∧ uu.toInt * 8 ≤ 800 := by omega
        have e : (uu.toInt64 * 8).toInt = uu.toInt * 8 := by
          generalize uu.toInt * 8 = P at A hB ⊢
          omega
        rw [own_ltL, e, show (300 : Int64).toInt = 300 from rfl]
        omega
      replace G := own_ifNo (q := 633) G X376.here hx (hb hby at_630) ((if0 _ _).trans (tlt ((lw_lt _ _).mpr hc630_387)).2.1) rfl
      replace G := own_iconst (q := 634) G X376.here hx (hb hby at_633) (v := (1 : Int32)) (by decide) rfl
      replace G := own_goto (q := 638) G X376.here hx (hb hby at_634) (by decide) (by decide)
      obtain ⟨fs, hr, hrun, hended, hW, hsame⟩ := X376.leave (v := some (.int (1 : Int32))) (fun h => by rw [Bd.returns] at h; cases h)
      refine ⟨_, _, G _ (retOut X376 hx Bd.returns rfl (Or.inl ⟨rfl, Or.inr (Or.inl rfl), _, rfl⟩) (hb hby at_638) hr), hrun, hended, _, _, rfl, ?_, ⟨_, rfl⟩, hW, hsame.mono (by decide) (by decide)⟩
      show Q0 Z i0 i1 i2 i3 h0 n0 _ T376.heap _
      rw [e376]
      exact ⟨rfl, N376⟩
    · obtain ⟨_, _, ⟨T388, L388, kk388, nn388⟩, -, X388, ⟨Lc388, hQ388, l388, y388, z388⟩, st388⟩ := Jvm.LawKit.callS X352 hx (y := (⟨"com/example/cued/cued/Bench", "percentile", "([JI)J"⟩ : MethodName)) hown (mvT hZ (hw _ (List.mem_of_getElem? (i := 3) rfl))) (mvT hZ (hw _ (List.mem_of_getElem? (i := 4) rfl))) (mvT hZ (hw _ (List.mem_of_getElem? (i := 5) rfl))) (mvT hZ (hw _ (List.mem_of_getElem? (i := 6) rfl))) (by decide) (backOf (W := 0) (rm1 l Z a0 hw [] b344 uu k344 (8 : Int32) [(.long v0), (.long v1), (.long v2), (.long v3), (.long v4), (.long v5), (.long v6), (.long v7)] v4 h352 n0 Z352 V352 (by decide) huu (by rw [hj]; rfl)) hZ (hw _ (List.mem_of_getElem? (i := 6) rfl)) (hw _ (List.mem_of_getElem? (i := 5) rfl)) (by decide) (by decide)) (g := (mkF m 421 #[.val (.long i0), .second, .val (.long i1), .second, .val (.int i2), .val (.int i3), .val (.int (8 : Int32)), .val (.int uu), .val (.long v0), .second, .val (.long v1), .second, .val (.long v2), .second, .val (.long v3), .second, .val (.long v4), .second, .val (.long v5), .second, .val (.long v6), .second, .val (.long v7), .second, .val (.ref b344), .unset, .unset, .unset, .unset, .unset] [(.int uu), (.ref b344)])) rfl (by rw [hml]; rfl) (argsL := [(.ref b344), (.int uu)]) (rest := []) (lenOf pd_1 rfl) rfl (by show 2 * 0 + _ ≤ _; exact Nat.le_of_eq rfl) (hb hby at_421) (fun _ _ => ⟨rfl, e352, (by decide : 1 + 0 ≤ _), (by decide : 8 + 0 ≤ _)⟩)
      dsimp only [Pt.U, Pt.locs, Pt.cells, Pt.slots] at X388 l388 y388 z388 st388 hQ388
      subst l388 y388 z388
      obtain ⟨rfl, N388q, e388⟩ := hQ388
      have N388 := Fr.app N352 N388q
      replace G : Gets p e below _ (T388.setTop (mkF m 424 #[.val (.long i0), .second, .val (.long i1), .second, .val (.int i2), .val (.int i3), .val (.int (8 : Int32)), .val (.int uu), .val (.long v0), .second, .val (.long v1), .second, .val (.long v2), .second, .val (.long v3), .second, .val (.long v4), .second, .val (.long v5), .second, .val (.long v6), .second, .val (.long v7), .second, .val (.ref b344), .unset, .unset, .unset, .unset, .unset] [(.long v4)])) := fun t k => G t (st388 t k)
      replace G := own_lstore (q := 426) (l' := #[.val (.long i0), .second, .val (.long i1), .second, .val (.int i2), .val (.int i3), .val (.int (8 : Int32)), .val (.int uu), .val (.long v0), .second, .val (.long v1), .second, .val (.long v2), .second, .val (.long v3), .second, .val (.long v4), .second, .val (.long v5), .second, .val (.long v6), .second, .val (.long v7), .second, .val (.ref b344), .val (.long v4), .second, .unset, .unset, .unset]) G X388.here hx (hb hby at_424) rfl rfl
      replace G := own_iconst (q := 427) G X388.here hx (hb hby at_426) (v := (-1 : Int32)) (by decide) rfl
      replace G := own_istore (q := 429) (l' := #[.val (.long i0), .second, .val (.long i1), .second, .val (.int i2), .val (.int i3), .val (.int (8 : Int32)), .val (.int uu), .val (.long v0), .second, .val (.long v1), .second, .val (.long v2), .second, .val (.long v3), .second, .val (.long v4), .second, .val (.long v5), .second, .val (.long v6), .second, .val (.long v7), .second, .val (.ref b344), .val (.long v4), .second, .val (.int (-1 : Int32)), .unset, .unset]) G X388.here hx (hb hby at_427) rfl rfl
      replace G := own_lload (q := 431) G X388.here hx (hb hby at_429) rfl rfl
      replace G := own_lload (q := 433) G X388.here hx (hb hby at_431) rfl rfl
      replace G := own_lcmp (q := 434) G X388.here hx (hb hby at_433) rfl
      have hc434_389 : ¬ (v4 = v0) := fun z => by have := congrArg Int64.toInt z; omega
      replace G := own_ifYes (q := 443) G X388.here hx (hb hby at_434) ((if0 _ _).trans (feq (fun z => hc434_389 ((lw_eq _ _).mp z))).2) (by decide) (by decide)
      replace G := own_iload (q := 445) G X388.here hx (hb hby at_443) rfl rfl
      replace G := own_iconst (q := 446) G X388.here hx (hb hby at_445) (v := (1 : Int32)) (by decide) rfl
      have hc446_390 : (1 : Int32) < (8 : Int32) := by decide
      replace G := own_icmpNo (q := 449) G X388.here hx (hb hby at_446) (tlt hc446_390).2.2.2 rfl
      replace G := own_lload (q := 451) G X388.here hx (hb hby at_449) rfl rfl
      replace G := own_lload (q := 453) G X388.here hx (hb hby at_451) rfl rfl
      replace G := own_lcmp (q := 454) G X388.here hx (hb hby at_453) rfl
      have hc454_391 : ¬ (v4 = v1) := fun z => by have := congrArg Int64.toInt z; omega
      replace G := own_ifYes (q := 463) G X388.here hx (hb hby at_454) ((if0 _ _).trans (feq (fun z => hc454_391 ((lw_eq _ _).mp z))).2) (by decide) (by decide)
      replace G := own_iload (q := 465) G X388.here hx (hb hby at_463) rfl rfl
      replace G := own_iconst (q := 466) G X388.here hx (hb hby at_465) (v := (2 : Int32)) (by decide) rfl
      have hc466_392 : (2 : Int32) < (8 : Int32) := by decide
      replace G := own_icmpNo (q := 469) G X388.here hx (hb hby at_466) (tlt hc466_392).2.2.2 rfl
      replace G := own_lload (q := 471) G X388.here hx (hb hby at_469) rfl rfl
      replace G := own_lload (q := 473) G X388.here hx (hb hby at_471) rfl rfl
      replace G := own_lcmp (q := 474) G X388.here hx (hb hby at_473) rfl
      have hc474_393 : ¬ (v4 = v2) := fun z => by have := congrArg Int64.toInt z; omega
      replace G := own_ifYes (q := 483) G X388.here hx (hb hby at_474) ((if0 _ _).trans (feq (fun z => hc474_393 ((lw_eq _ _).mp z))).2) (by decide) (by decide)
      replace G := own_iload (q := 485) G X388.here hx (hb hby at_483) rfl rfl
      replace G := own_iconst (q := 486) G X388.here hx (hb hby at_485) (v := (3 : Int32)) (by decide) rfl
      have hc486_394 : (3 : Int32) < (8 : Int32) := by decide
      replace G := own_icmpNo (q := 489) G X388.here hx (hb hby at_486) (tlt hc486_394).2.2.2 rfl
      replace G := own_lload (q := 491) G X388.here hx (hb hby at_489) rfl rfl
      replace G := own_lload (q := 493) G X388.here hx (hb hby at_491) rfl rfl
      replace G := own_lcmp (q := 494) G X388.here hx (hb hby at_493) rfl
      have hc494_395 : ¬ (v4 = v3) := fun z => by have := congrArg Int64.toInt z; omega
      replace G := own_ifYes (q := 503) G X388.here hx (hb hby at_494) ((if0 _ _).trans (feq (fun z => hc494_395 ((lw_eq _ _).mp z))).2) (by decide) (by decide)
      replace G := own_iload (q := 505) G X388.here hx (hb hby at_503) rfl rfl
      replace G := own_iconst (q := 506) G X388.here hx (hb hby at_505) (v := (4 : Int32)) (by decide) rfl
      have hc506_396 : (4 : Int32) < (8 : Int32) := by decide
      replace G := own_icmpNo (q := 509) G X388.here hx (hb hby at_506) (tlt hc506_396).2.2.2 rfl
      replace G := own_lload (q := 511) G X388.here hx (hb hby at_509) rfl rfl
      replace G := own_lload (q := 513) G X388.here hx (hb hby at_511) rfl rfl
      replace G := own_lcmp (q := 514) G X388.here hx (hb hby at_513) rfl
      have hc514_397 : v4 = v4 := rfl
      replace G := own_ifNo (q := 517) G X388.here hx (hb hby at_514) ((if0 _ _).trans (teq ((lw_eq _ _).mpr hc514_397)).2) rfl
      replace G := own_iconst (q := 518) G X388.here hx (hb hby at_517) (v := (4 : Int32)) (by decide) rfl
      replace G := own_istore (q := 520) (l' := #[.val (.long i0), .second, .val (.long i1), .second, .val (.int i2), .val (.int i3), .val (.int (8 : Int32)), .val (.int uu), .val (.long v0), .second, .val (.long v1), .second, .val (.long v2), .second, .val (.long v3), .second, .val (.long v4), .second, .val (.long v5), .second, .val (.long v6), .second, .val (.long v7), .second, .val (.ref b344), .val (.long v4), .second, .val (.int (4 : Int32)), .unset, .unset]) G X388.here hx (hb hby at_518) rfl rfl
      replace G := own_goto (q := 584) G X388.here hx (hb hby at_520) (by decide) (by decide)
      replace G := own_iload (q := 586) G X388.here hx (hb hby at_584) rfl rfl
      have hc586_398 : ¬ ((4 : Int32) < (0 : Int32)) := by decide
      replace G := own_ifYes (q := 591) G X388.here hx (hb hby at_586) ((if0 _ _).trans (flt hc586_398).2.1) (by decide) (by decide)
      replace G := own_iload (q := 593) G X388.here hx (hb hby at_591) rfl rfl
      replace G := own_i2l (q := 594) G X388.here hx (hb hby at_593) rfl rfl
      replace G := own_iload (q := 596) G X388.here hx (hb hby at_594) rfl rfl
      replace G := own_i2l (q := 597) G X388.here hx (hb hby at_596) (by decide : ((8 : Int32).toInt64) = (8 : Int64)) rfl
      replace G := own_lmul (q := 598) G X388.here hx (hb hby at_597) rfl rfl
      replace G := own_lstore (q := 600) (l' := #[.val (.long i0), .second, .val (.long i1), .second, .val (.int i2), .val (.int i3), .val (.int (8 : Int32)), .val (.int uu), .val (.long v0), .second, .val (.long v1), .second, .val (.long v2), .second, .val (.long v3), .second, .val (.long v4), .second, .val (.long v5), .second, .val (.long v6), .second, .val (.long v7), .second, .val (.ref b344), .val (.long v4), .second, .val (.int (4 : Int32)), .val (.long ((uu.toInt64) * (8 : Int64))), .second]) G X388.here hx (hb hby at_598) rfl rfl
      replace G := own_iload (q := 602) G X388.here hx (hb hby at_600) rfl rfl
      replace G := own_iconst (q := 603) G X388.here hx (hb hby at_602) (v := (1 : Int32)) (by decide) rfl
      replace G := own_iadd (q := 604) G X388.here hx (hb hby at_603) (by decide : ((4 : Int32) + (1 : Int32)) = (5 : Int32)) rfl
      replace G := own_i2l (q := 605) G X388.here hx (hb hby at_604) (by decide : ((5 : Int32).toInt64) = (5 : Int64)) rfl
      replace G : Gets p e below _ (T388.setTop (mkF m 608 #[.val (.long i0), .second, .val (.long i1), .second, .val (.int i2), .val (.int i3), .val (.int (8 : Int32)), .val (.int uu), .val (.long v0), .second, .val (.long v1), .second, .val (.long v2), .second, .val (.long v3), .second, .val (.long v4), .second, .val (.long v5), .second, .val (.long v6), .second, .val (.long v7), .second, .val (.ref b344), .val (.long v4), .second, .val (.int (4 : Int32)), .val (.long ((uu.toInt64) * (8 : Int64))), .second] [(.long (100 : Int64)), (.long (5 : Int64))])) := fun t k => G t (X388.ldc2Long hx hown (mvT hZ (hw _ (List.mem_of_getElem? (i := 13) rfl))) (g := (mkF m 605 #[.val (.long i0), .second, .val (.long i1), .second, .val (.int i2), .val (.int i3), .val (.int (8 : Int32)), .val (.int uu), .val (.long v0), .second, .val (.long v1), .second, .val (.long v2), .second, .val (.long v3), .second, .val (.long v4), .second, .val (.long v5), .second, .val (.long v6), .second, .val (.long v7), .second, .val (.ref b344), .val (.long v4), .second, .val (.int (4 : Int32)), .val (.long ((uu.toInt64) * (8 : Int64))), .second] [(.long (5 : Int64))])) rfl (hb hby at_605) t k)
      replace G := own_lmul (q := 609) G X388.here hx (hb hby at_608) (by decide : ((5 : Int64) * (100 : Int64)) = (500 : Int64)) rfl
      replace G := own_lload (q := 611) G X388.here hx (hb hby at_609) rfl rfl
      replace G := own_lcmp (q := 612) G X388.here hx (hb hby at_611) rfl
      have hc612_399 : ¬ ((500 : Int64) < ((uu.toInt64) * (8 : Int64))) := by
        rw [hj, show (4 : Int32).toInt = 4 from rfl] at sp
        have A := c_lmul uu.toInt64 8
        rw [c_i2l, show (8 : Int64).toInt = 8 from rfl] at A
        have RA := rng64 (uu.toInt64 * 8)
        have hB : 0 ≤ uu.toInt * 8 ∧ uu.toInt * 8 ≤ 800 := by omega
        have e : (uu.toInt64 * 8).toInt = uu.toInt * 8 := by
          generalize uu.toInt * 8 = P at A hB ⊢
          omega
        rw [own_ltL, e, show (500 : Int64).toInt = 500 from rfl]
        omega
      replace G := own_ifNo (q := 615) G X388.here hx (hb hby at_612) ((if0 _ _).trans (flt (fun z => hc612_399 ((lw_lt _ _).mp z))).1) rfl
      replace G := own_iload (q := 617) G X388.here hx (hb hby at_615) rfl rfl
      have hc617_400 : ¬ ((4 : Int32) = (0 : Int32)) := by decide
      replace G := own_ifNo (q := 620) G X388.here hx (hb hby at_617) ((if0 _ _).trans (feq hc617_400).1) rfl
      replace G := own_iload (q := 622) G X388.here hx (hb hby at_620) rfl rfl
      replace G := own_i2l (q := 623) G X388.here hx (hb hby at_622) (by decide : ((4 : Int32).toInt64) = (4 : Int64)) rfl
      replace G : Gets p e below _ (T388.setTop (mkF m 626 #[.val (.long i0), .second, .val (.long i1), .second, .val (.int i2), .val (.int i3), .val (.int (8 : Int32)), .val (.int uu), .val (.long v0), .second, .val (.long v1), .second, .val (.long v2), .second, .val (.long v3), .second, .val (.long v4), .second, .val (.long v5), .second, .val (.long v6), .second, .val (.long v7), .second, .val (.ref b344), .val (.long v4), .second, .val (.int (4 : Int32)), .val (.long ((uu.toInt64) * (8 : Int64))), .second] [(.long (100 : Int64)), (.long (4 : Int64))])) := fun t k => G t (X388.ldc2Long hx hown (mvT hZ (hw _ (List.mem_of_getElem? (i := 13) rfl))) (g := (mkF m 623 #[.val (.long i0), .second, .val (.long i1), .second, .val (.int i2), .val (.int i3), .val (.int (8 : Int32)), .val (.int uu), .val (.long v0), .second, .val (.long v1), .second, .val (.long v2), .second, .val (.long v3), .second, .val (.long v4), .second, .val (.long v5), .second, .val (.long v6), .second, .val (.long v7), .second, .val (.ref b344), .val (.long v4), .second, .val (.int (4 : Int32)), .val (.long ((uu.toInt64) * (8 : Int64))), .second] [(.long (4 : Int64))])) rfl (hb hby at_623) t k)
      replace G := own_lmul (q := 627) G X388.here hx (hb hby at_626) (by decide : ((4 : Int64) * (100 : Int64)) = (400 : Int64)) rfl
      replace G := own_lload (q := 629) G X388.here hx (hb hby at_627) rfl rfl
      replace G := own_lcmp (q := 630) G X388.here hx (hb hby at_629) rfl
      have hc630_401 : (400 : Int64) < ((uu.toInt64) * (8 : Int64)) := by
        rw [hj, show (4 : Int32).toInt = 4 from rfl] at sp
        have A := c_lmul uu.toInt64 8
        rw [c_i2l, show (8 : Int64).toInt = 8 from rfl] at A
        have RA := rng64 (uu.toInt64 * 8)
        have hB : 0 ≤ uu.toInt * 8 ∧ uu.toInt * 8 ≤ 800 := by omega
        have e : (uu.toInt64 * 8).toInt = uu.toInt * 8 := by
          generalize uu.toInt * 8 = P at A hB ⊢
          omega
        rw [own_ltL, e, show (400 : Int64).toInt = 400 from rfl]
        omega
      replace G := own_ifNo (q := 633) G X388.here hx (hb hby at_630) ((if0 _ _).trans (tlt ((lw_lt _ _).mpr hc630_401)).2.1) rfl
      replace G := own_iconst (q := 634) G X388.here hx (hb hby at_633) (v := (1 : Int32)) (by decide) rfl
      replace G := own_goto (q := 638) G X388.here hx (hb hby at_634) (by decide) (by decide)
      obtain ⟨fs, hr, hrun, hended, hW, hsame⟩ := X388.leave (v := some (.int (1 : Int32))) (fun h => by rw [Bd.returns] at h; cases h)
      refine ⟨_, _, G _ (retOut X388 hx Bd.returns rfl (Or.inl ⟨rfl, Or.inr (Or.inl rfl), _, rfl⟩) (hb hby at_638) hr), hrun, hended, _, _, rfl, ?_, ⟨_, rfl⟩, hW, hsame.mono (by decide) (by decide)⟩
      show Q0 Z i0 i1 i2 i3 h0 n0 _ T388.heap _
      rw [e388]
      exact ⟨rfl, N388⟩
    · obtain ⟨_, _, ⟨T402, L402, kk402, nn402⟩, -, X402, ⟨Lc402, hQ402, l402, y402, z402⟩, st402⟩ := Jvm.LawKit.callS X352 hx (y := (⟨"com/example/cued/cued/Bench", "percentile", "([JI)J"⟩ : MethodName)) hown (mvT hZ (hw _ (List.mem_of_getElem? (i := 3) rfl))) (mvT hZ (hw _ (List.mem_of_getElem? (i := 4) rfl))) (mvT hZ (hw _ (List.mem_of_getElem? (i := 5) rfl))) (mvT hZ (hw _ (List.mem_of_getElem? (i := 6) rfl))) (by decide) (backOf (W := 0) (rm1 l Z a0 hw [] b344 uu k344 (8 : Int32) [(.long v0), (.long v1), (.long v2), (.long v3), (.long v4), (.long v5), (.long v6), (.long v7)] v5 h352 n0 Z352 V352 (by decide) huu (by rw [hj]; rfl)) hZ (hw _ (List.mem_of_getElem? (i := 6) rfl)) (hw _ (List.mem_of_getElem? (i := 5) rfl)) (by decide) (by decide)) (g := (mkF m 421 #[.val (.long i0), .second, .val (.long i1), .second, .val (.int i2), .val (.int i3), .val (.int (8 : Int32)), .val (.int uu), .val (.long v0), .second, .val (.long v1), .second, .val (.long v2), .second, .val (.long v3), .second, .val (.long v4), .second, .val (.long v5), .second, .val (.long v6), .second, .val (.long v7), .second, .val (.ref b344), .unset, .unset, .unset, .unset, .unset] [(.int uu), (.ref b344)])) rfl (by rw [hml]; rfl) (argsL := [(.ref b344), (.int uu)]) (rest := []) (lenOf pd_1 rfl) rfl (by show 2 * 0 + _ ≤ _; exact Nat.le_of_eq rfl) (hb hby at_421) (fun _ _ => ⟨rfl, e352, (by decide : 1 + 0 ≤ _), (by decide : 8 + 0 ≤ _)⟩)
      dsimp only [Pt.U, Pt.locs, Pt.cells, Pt.slots] at X402 l402 y402 z402 st402 hQ402
      subst l402 y402 z402
      obtain ⟨rfl, N402q, e402⟩ := hQ402
      have N402 := Fr.app N352 N402q
      replace G : Gets p e below _ (T402.setTop (mkF m 424 #[.val (.long i0), .second, .val (.long i1), .second, .val (.int i2), .val (.int i3), .val (.int (8 : Int32)), .val (.int uu), .val (.long v0), .second, .val (.long v1), .second, .val (.long v2), .second, .val (.long v3), .second, .val (.long v4), .second, .val (.long v5), .second, .val (.long v6), .second, .val (.long v7), .second, .val (.ref b344), .unset, .unset, .unset, .unset, .unset] [(.long v5)])) := fun t k => G t (st402 t k)
      replace G := own_lstore (q := 426) (l' := #[.val (.long i0), .second, .val (.long i1), .second, .val (.int i2), .val (.int i3), .val (.int (8 : Int32)), .val (.int uu), .val (.long v0), .second, .val (.long v1), .second, .val (.long v2), .second, .val (.long v3), .second, .val (.long v4), .second, .val (.long v5), .second, .val (.long v6), .second, .val (.long v7), .second, .val (.ref b344), .val (.long v5), .second, .unset, .unset, .unset]) G X402.here hx (hb hby at_424) rfl rfl
      replace G := own_iconst (q := 427) G X402.here hx (hb hby at_426) (v := (-1 : Int32)) (by decide) rfl
      replace G := own_istore (q := 429) (l' := #[.val (.long i0), .second, .val (.long i1), .second, .val (.int i2), .val (.int i3), .val (.int (8 : Int32)), .val (.int uu), .val (.long v0), .second, .val (.long v1), .second, .val (.long v2), .second, .val (.long v3), .second, .val (.long v4), .second, .val (.long v5), .second, .val (.long v6), .second, .val (.long v7), .second, .val (.ref b344), .val (.long v5), .second, .val (.int (-1 : Int32)), .unset, .unset]) G X402.here hx (hb hby at_427) rfl rfl
      replace G := own_lload (q := 431) G X402.here hx (hb hby at_429) rfl rfl
      replace G := own_lload (q := 433) G X402.here hx (hb hby at_431) rfl rfl
      replace G := own_lcmp (q := 434) G X402.here hx (hb hby at_433) rfl
      have hc434_403 : ¬ (v5 = v0) := fun z => by have := congrArg Int64.toInt z; omega
      replace G := own_ifYes (q := 443) G X402.here hx (hb hby at_434) ((if0 _ _).trans (feq (fun z => hc434_403 ((lw_eq _ _).mp z))).2) (by decide) (by decide)
      replace G := own_iload (q := 445) G X402.here hx (hb hby at_443) rfl rfl
      replace G := own_iconst (q := 446) G X402.here hx (hb hby at_445) (v := (1 : Int32)) (by decide) rfl
      have hc446_404 : (1 : Int32) < (8 : Int32) := by decide
      replace G := own_icmpNo (q := 449) G X402.here hx (hb hby at_446) (tlt hc446_404).2.2.2 rfl
      replace G := own_lload (q := 451) G X402.here hx (hb hby at_449) rfl rfl
      replace G := own_lload (q := 453) G X402.here hx (hb hby at_451) rfl rfl
      replace G := own_lcmp (q := 454) G X402.here hx (hb hby at_453) rfl
      have hc454_405 : ¬ (v5 = v1) := fun z => by have := congrArg Int64.toInt z; omega
      replace G := own_ifYes (q := 463) G X402.here hx (hb hby at_454) ((if0 _ _).trans (feq (fun z => hc454_405 ((lw_eq _ _).mp z))).2) (by decide) (by decide)
      replace G := own_iload (q := 465) G X402.here hx (hb hby at_463) rfl rfl
      replace G := own_iconst (q := 466) G X402.here hx (hb hby at_465) (v := (2 : Int32)) (by decide) rfl
      have hc466_406 : (2 : Int32) < (8 : Int32) := by decide
      replace G := own_icmpNo (q := 469) G X402.here hx (hb hby at_466) (tlt hc466_406).2.2.2 rfl
      replace G := own_lload (q := 471) G X402.here hx (hb hby at_469) rfl rfl
      replace G := own_lload (q := 473) G X402.here hx (hb hby at_471) rfl rfl
      replace G := own_lcmp (q := 474) G X402.here hx (hb hby at_473) rfl
      have hc474_407 : ¬ (v5 = v2) := fun z => by have := congrArg Int64.toInt z; omega
      replace G := own_ifYes (q := 483) G X402.here hx (hb hby at_474) ((if0 _ _).trans (feq (fun z => hc474_407 ((lw_eq _ _).mp z))).2) (by decide) (by decide)
      replace G := own_iload (q := 485) G X402.here hx (hb hby at_483) rfl rfl
      replace G := own_iconst (q := 486) G X402.here hx (hb hby at_485) (v := (3 : Int32)) (by decide) rfl
      have hc486_408 : (3 : Int32) < (8 : Int32) := by decide
      replace G := own_icmpNo (q := 489) G X402.here hx (hb hby at_486) (tlt hc486_408).2.2.2 rfl
      replace G := own_lload (q := 491) G X402.here hx (hb hby at_489) rfl rfl
      replace G := own_lload (q := 493) G X402.here hx (hb hby at_491) rfl rfl
      replace G := own_lcmp (q := 494) G X402.here hx (hb hby at_493) rfl
      have hc494_409 : ¬ (v5 = v3) := fun z => by have := congrArg Int64.toInt z; omega
      replace G := own_ifYes (q := 503) G X402.here hx (hb hby at_494) ((if0 _ _).trans (feq (fun z => hc494_409 ((lw_eq _ _).mp z))).2) (by decide) (by decide)
      replace G := own_iload (q := 505) G X402.here hx (hb hby at_503) rfl rfl
      replace G := own_iconst (q := 506) G X402.here hx (hb hby at_505) (v := (4 : Int32)) (by decide) rfl
      have hc506_410 : (4 : Int32) < (8 : Int32) := by decide
      replace G := own_icmpNo (q := 509) G X402.here hx (hb hby at_506) (tlt hc506_410).2.2.2 rfl
      replace G := own_lload (q := 511) G X402.here hx (hb hby at_509) rfl rfl
      replace G := own_lload (q := 513) G X402.here hx (hb hby at_511) rfl rfl
      replace G := own_lcmp (q := 514) G X402.here hx (hb hby at_513) rfl
      have hc514_411 : ¬ (v5 = v4) := fun z => by have := congrArg Int64.toInt z; omega
      replace G := own_ifYes (q := 523) G X402.here hx (hb hby at_514) ((if0 _ _).trans (feq (fun z => hc514_411 ((lw_eq _ _).mp z))).2) (by decide) (by decide)
      replace G := own_iload (q := 525) G X402.here hx (hb hby at_523) rfl rfl
      replace G := own_iconst (q := 526) G X402.here hx (hb hby at_525) (v := (5 : Int32)) (by decide) rfl
      have hc526_412 : (5 : Int32) < (8 : Int32) := by decide
      replace G := own_icmpNo (q := 529) G X402.here hx (hb hby at_526) (tlt hc526_412).2.2.2 rfl
      replace G := own_lload (q := 531) G X402.here hx (hb hby at_529) rfl rfl
      replace G := own_lload (q := 533) G X402.here hx (hb hby at_531) rfl rfl
      replace G := own_lcmp (q := 534) G X402.here hx (hb hby at_533) rfl
      have hc534_413 : v5 = v5 := rfl
      replace G := own_ifNo (q := 537) G X402.here hx (hb hby at_534) ((if0 _ _).trans (teq ((lw_eq _ _).mpr hc534_413)).2) rfl
      replace G := own_iconst (q := 538) G X402.here hx (hb hby at_537) (v := (5 : Int32)) (by decide) rfl
      replace G := own_istore (q := 540) (l' := #[.val (.long i0), .second, .val (.long i1), .second, .val (.int i2), .val (.int i3), .val (.int (8 : Int32)), .val (.int uu), .val (.long v0), .second, .val (.long v1), .second, .val (.long v2), .second, .val (.long v3), .second, .val (.long v4), .second, .val (.long v5), .second, .val (.long v6), .second, .val (.long v7), .second, .val (.ref b344), .val (.long v5), .second, .val (.int (5 : Int32)), .unset, .unset]) G X402.here hx (hb hby at_538) rfl rfl
      replace G := own_goto (q := 584) G X402.here hx (hb hby at_540) (by decide) (by decide)
      replace G := own_iload (q := 586) G X402.here hx (hb hby at_584) rfl rfl
      have hc586_414 : ¬ ((5 : Int32) < (0 : Int32)) := by decide
      replace G := own_ifYes (q := 591) G X402.here hx (hb hby at_586) ((if0 _ _).trans (flt hc586_414).2.1) (by decide) (by decide)
      replace G := own_iload (q := 593) G X402.here hx (hb hby at_591) rfl rfl
      replace G := own_i2l (q := 594) G X402.here hx (hb hby at_593) rfl rfl
      replace G := own_iload (q := 596) G X402.here hx (hb hby at_594) rfl rfl
      replace G := own_i2l (q := 597) G X402.here hx (hb hby at_596) (by decide : ((8 : Int32).toInt64) = (8 : Int64)) rfl
      replace G := own_lmul (q := 598) G X402.here hx (hb hby at_597) rfl rfl
      replace G := own_lstore (q := 600) (l' := #[.val (.long i0), .second, .val (.long i1), .second, .val (.int i2), .val (.int i3), .val (.int (8 : Int32)), .val (.int uu), .val (.long v0), .second, .val (.long v1), .second, .val (.long v2), .second, .val (.long v3), .second, .val (.long v4), .second, .val (.long v5), .second, .val (.long v6), .second, .val (.long v7), .second, .val (.ref b344), .val (.long v5), .second, .val (.int (5 : Int32)), .val (.long ((uu.toInt64) * (8 : Int64))), .second]) G X402.here hx (hb hby at_598) rfl rfl
      replace G := own_iload (q := 602) G X402.here hx (hb hby at_600) rfl rfl
      replace G := own_iconst (q := 603) G X402.here hx (hb hby at_602) (v := (1 : Int32)) (by decide) rfl
      replace G := own_iadd (q := 604) G X402.here hx (hb hby at_603) (by decide : ((5 : Int32) + (1 : Int32)) = (6 : Int32)) rfl
      replace G := own_i2l (q := 605) G X402.here hx (hb hby at_604) (by decide : ((6 : Int32).toInt64) = (6 : Int64)) rfl
      replace G : Gets p e below _ (T402.setTop (mkF m 608 #[.val (.long i0), .second, .val (.long i1), .second, .val (.int i2), .val (.int i3), .val (.int (8 : Int32)), .val (.int uu), .val (.long v0), .second, .val (.long v1), .second, .val (.long v2), .second, .val (.long v3), .second, .val (.long v4), .second, .val (.long v5), .second, .val (.long v6), .second, .val (.long v7), .second, .val (.ref b344), .val (.long v5), .second, .val (.int (5 : Int32)), .val (.long ((uu.toInt64) * (8 : Int64))), .second] [(.long (100 : Int64)), (.long (6 : Int64))])) := fun t k => G t (X402.ldc2Long hx hown (mvT hZ (hw _ (List.mem_of_getElem? (i := 13) rfl))) (g := (mkF m 605 #[.val (.long i0), .second, .val (.long i1), .second, .val (.int i2), .val (.int i3), .val (.int (8 : Int32)), .val (.int uu), .val (.long v0), .second, .val (.long v1), .second, .val (.long v2), .second, .val (.long v3), .second, .val (.long v4), .second, .val (.long v5), .second, .val (.long v6), .second, .val (.long v7), .second, .val (.ref b344), .val (.long v5), .second, .val (.int (5 : Int32)), .val (.long ((uu.toInt64) * (8 : Int64))), .second] [(.long (6 : Int64))])) rfl (hb hby at_605) t k)
      replace G := own_lmul (q := 609) G X402.here hx (hb hby at_608) (by decide : ((6 : Int64) * (100 : Int64)) = (600 : Int64)) rfl
      replace G := own_lload (q := 611) G X402.here hx (hb hby at_609) rfl rfl
      replace G := own_lcmp (q := 612) G X402.here hx (hb hby at_611) rfl
      have hc612_415 : ¬ ((600 : Int64) < ((uu.toInt64) * (8 : Int64))) := by
        rw [hj, show (5 : Int32).toInt = 5 from rfl] at sp
        have A := c_lmul uu.toInt64 8
        rw [c_i2l, show (8 : Int64).toInt = 8 from rfl] at A
        have RA := rng64 (uu.toInt64 * 8)
        have hB : 0 ≤ uu.toInt * 8 ∧ uu.toInt * 8 ≤ 800 := by omega
        have e : (uu.toInt64 * 8).toInt = uu.toInt * 8 := by
          generalize uu.toInt * 8 = P at A hB ⊢
          omega
        rw [own_ltL, e, show (600 : Int64).toInt = 600 from rfl]
        omega
      replace G := own_ifNo (q := 615) G X402.here hx (hb hby at_612) ((if0 _ _).trans (flt (fun z => hc612_415 ((lw_lt _ _).mp z))).1) rfl
      replace G := own_iload (q := 617) G X402.here hx (hb hby at_615) rfl rfl
      have hc617_416 : ¬ ((5 : Int32) = (0 : Int32)) := by decide
      replace G := own_ifNo (q := 620) G X402.here hx (hb hby at_617) ((if0 _ _).trans (feq hc617_416).1) rfl
      replace G := own_iload (q := 622) G X402.here hx (hb hby at_620) rfl rfl
      replace G := own_i2l (q := 623) G X402.here hx (hb hby at_622) (by decide : ((5 : Int32).toInt64) = (5 : Int64)) rfl
      replace G : Gets p e below _ (T402.setTop (mkF m 626 #[.val (.long i0), .second, .val (.long i1), .second, .val (.int i2), .val (.int i3), .val (.int (8 : Int32)), .val (.int uu), .val (.long v0), .second, .val (.long v1), .second, .val (.long v2), .second, .val (.long v3), .second, .val (.long v4), .second, .val (.long v5), .second, .val (.long v6), .second, .val (.long v7), .second, .val (.ref b344), .val (.long v5), .second, .val (.int (5 : Int32)), .val (.long ((uu.toInt64) * (8 : Int64))), .second] [(.long (100 : Int64)), (.long (5 : Int64))])) := fun t k => G t (X402.ldc2Long hx hown (mvT hZ (hw _ (List.mem_of_getElem? (i := 13) rfl))) (g := (mkF m 623 #[.val (.long i0), .second, .val (.long i1), .second, .val (.int i2), .val (.int i3), .val (.int (8 : Int32)), .val (.int uu), .val (.long v0), .second, .val (.long v1), .second, .val (.long v2), .second, .val (.long v3), .second, .val (.long v4), .second, .val (.long v5), .second, .val (.long v6), .second, .val (.long v7), .second, .val (.ref b344), .val (.long v5), .second, .val (.int (5 : Int32)), .val (.long ((uu.toInt64) * (8 : Int64))), .second] [(.long (5 : Int64))])) rfl (hb hby at_623) t k)
      replace G := own_lmul (q := 627) G X402.here hx (hb hby at_626) (by decide : ((5 : Int64) * (100 : Int64)) = (500 : Int64)) rfl
      replace G := own_lload (q := 629) G X402.here hx (hb hby at_627) rfl rfl
      replace G := own_lcmp (q := 630) G X402.here hx (hb hby at_629) rfl
      have hc630_417 : (500 : Int64) < ((uu.toInt64) * (8 : Int64)) := by
        rw [hj, show (5 : Int32).toInt = 5 from rfl] at sp
        have A := c_lmul uu.toInt64 8
        rw [c_i2l, show (8 : Int64).toInt = 8 from rfl] at A
        have RA := rng64 (uu.toInt64 * 8)
        have hB : 0 ≤ uu.toInt * 8 ∧ uu.toInt * 8 ≤ 800 := by omega
        have e : (uu.toInt64 * 8).toInt = uu.toInt * 8 := by
          generalize uu.toInt * 8 = P at A hB ⊢
          omega
        rw [own_ltL, e, show (500 : Int64).toInt = 500 from rfl]
        omega
      replace G := own_ifNo (q := 633) G X402.here hx (hb hby at_630) ((if0 _ _).trans (tlt ((lw_lt _ _).mpr hc630_417)).2.1) rfl
      replace G := own_iconst (q := 634) G X402.here hx (hb hby at_633) (v := (1 : Int32)) (by decide) rfl
      replace G := own_goto (q := 638) G X402.here hx (hb hby at_634) (by decide) (by decide)
      obtain ⟨fs, hr, hrun, hended, hW, hsame⟩ := X402.leave (v := some (.int (1 : Int32))) (fun h => by rw [Bd.returns] at h; cases h)
      refine ⟨_, _, G _ (retOut X402 hx Bd.returns rfl (Or.inl ⟨rfl, Or.inr (Or.inl rfl), _, rfl⟩) (hb hby at_638) hr), hrun, hended, _, _, rfl, ?_, ⟨_, rfl⟩, hW, hsame.mono (by decide) (by decide)⟩
      show Q0 Z i0 i1 i2 i3 h0 n0 _ T402.heap _
      rw [e402]
      exact ⟨rfl, N402⟩
    · obtain ⟨_, _, ⟨T418, L418, kk418, nn418⟩, -, X418, ⟨Lc418, hQ418, l418, y418, z418⟩, st418⟩ := Jvm.LawKit.callS X352 hx (y := (⟨"com/example/cued/cued/Bench", "percentile", "([JI)J"⟩ : MethodName)) hown (mvT hZ (hw _ (List.mem_of_getElem? (i := 3) rfl))) (mvT hZ (hw _ (List.mem_of_getElem? (i := 4) rfl))) (mvT hZ (hw _ (List.mem_of_getElem? (i := 5) rfl))) (mvT hZ (hw _ (List.mem_of_getElem? (i := 6) rfl))) (by decide) (backOf (W := 0) (rm1 l Z a0 hw [] b344 uu k344 (8 : Int32) [(.long v0), (.long v1), (.long v2), (.long v3), (.long v4), (.long v5), (.long v6), (.long v7)] v6 h352 n0 Z352 V352 (by decide) huu (by rw [hj]; rfl)) hZ (hw _ (List.mem_of_getElem? (i := 6) rfl)) (hw _ (List.mem_of_getElem? (i := 5) rfl)) (by decide) (by decide)) (g := (mkF m 421 #[.val (.long i0), .second, .val (.long i1), .second, .val (.int i2), .val (.int i3), .val (.int (8 : Int32)), .val (.int uu), .val (.long v0), .second, .val (.long v1), .second, .val (.long v2), .second, .val (.long v3), .second, .val (.long v4), .second, .val (.long v5), .second, .val (.long v6), .second, .val (.long v7), .second, .val (.ref b344), .unset, .unset, .unset, .unset, .unset] [(.int uu), (.ref b344)])) rfl (by rw [hml]; rfl) (argsL := [(.ref b344), (.int uu)]) (rest := []) (lenOf pd_1 rfl) rfl (by show 2 * 0 + _ ≤ _; exact Nat.le_of_eq rfl) (hb hby at_421) (fun _ _ => ⟨rfl, e352, (by decide : 1 + 0 ≤ _), (by decide : 8 + 0 ≤ _)⟩)
      dsimp only [Pt.U, Pt.locs, Pt.cells, Pt.slots] at X418 l418 y418 z418 st418 hQ418
      subst l418 y418 z418
      obtain ⟨rfl, N418q, e418⟩ := hQ418
      have N418 := Fr.app N352 N418q
      replace G : Gets p e below _ (T418.setTop (mkF m 424 #[.val (.long i0), .second, .val (.long i1), .second, .val (.int i2), .val (.int i3), .val (.int (8 : Int32)), .val (.int uu), .val (.long v0), .second, .val (.long v1), .second, .val (.long v2), .second, .val (.long v3), .second, .val (.long v4), .second, .val (.long v5), .second, .val (.long v6), .second, .val (.long v7), .second, .val (.ref b344), .unset, .unset, .unset, .unset, .unset] [(.long v6)])) := fun t k => G t (st418 t k)
      replace G := own_lstore (q := 426) (l' := #[.val (.long i0), .second, .val (.long i1), .second, .val (.int i2), .val (.int i3), .val (.int (8 : Int32)), .val (.int uu), .val (.long v0), .second, .val (.long v1), .second, .val (.long v2), .second, .val (.long v3), .second, .val (.long v4), .second, .val (.long v5), .second, .val (.long v6), .second, .val (.long v7), .second, .val (.ref b344), .val (.long v6), .second, .unset, .unset, .unset]) G X418.here hx (hb hby at_424) rfl rfl
      replace G := own_iconst (q := 427) G X418.here hx (hb hby at_426) (v := (-1 : Int32)) (by decide) rfl
      replace G := own_istore (q := 429) (l' := #[.val (.long i0), .second, .val (.long i1), .second, .val (.int i2), .val (.int i3), .val (.int (8 : Int32)), .val (.int uu), .val (.long v0), .second, .val (.long v1), .second, .val (.long v2), .second, .val (.long v3), .second, .val (.long v4), .second, .val (.long v5), .second, .val (.long v6), .second, .val (.long v7), .second, .val (.ref b344), .val (.long v6), .second, .val (.int (-1 : Int32)), .unset, .unset]) G X418.here hx (hb hby at_427) rfl rfl
      replace G := own_lload (q := 431) G X418.here hx (hb hby at_429) rfl rfl
      replace G := own_lload (q := 433) G X418.here hx (hb hby at_431) rfl rfl
      replace G := own_lcmp (q := 434) G X418.here hx (hb hby at_433) rfl
      have hc434_419 : ¬ (v6 = v0) := fun z => by have := congrArg Int64.toInt z; omega
      replace G := own_ifYes (q := 443) G X418.here hx (hb hby at_434) ((if0 _ _).trans (feq (fun z => hc434_419 ((lw_eq _ _).mp z))).2) (by decide) (by decide)
      replace G := own_iload (q := 445) G X418.here hx (hb hby at_443) rfl rfl
      replace G := own_iconst (q := 446) G X418.here hx (hb hby at_445) (v := (1 : Int32)) (by decide) rfl
      have hc446_420 : (1 : Int32) < (8 : Int32) := by decide
      replace G := own_icmpNo (q := 449) G X418.here hx (hb hby at_446) (tlt hc446_420).2.2.2 rfl
      replace G := own_lload (q := 451) G X418.here hx (hb hby at_449) rfl rfl
      replace G := own_lload (q := 453) G X418.here hx (hb hby at_451) rfl rfl
      replace G := own_lcmp (q := 454) G X418.here hx (hb hby at_453) rfl
      have hc454_421 : ¬ (v6 = v1) := fun z => by have := congrArg Int64.toInt z; omega
      replace G := own_ifYes (q := 463) G X418.here hx (hb hby at_454) ((if0 _ _).trans (feq (fun z => hc454_421 ((lw_eq _ _).mp z))).2) (by decide) (by decide)
      replace G := own_iload (q := 465) G X418.here hx (hb hby at_463) rfl rfl
      replace G := own_iconst (q := 466) G X418.here hx (hb hby at_465) (v := (2 : Int32)) (by decide) rfl
      have hc466_422 : (2 : Int32) < (8 : Int32) := by decide
      replace G := own_icmpNo (q := 469) G X418.here hx (hb hby at_466) (tlt hc466_422).2.2.2 rfl
      replace G := own_lload (q := 471) G X418.here hx (hb hby at_469) rfl rfl
      replace G := own_lload (q := 473) G X418.here hx (hb hby at_471) rfl rfl
      replace G := own_lcmp (q := 474) G X418.here hx (hb hby at_473) rfl
      have hc474_423 : ¬ (v6 = v2) := fun z => by have := congrArg Int64.toInt z; omega
      replace G := own_ifYes (q := 483) G X418.here hx (hb hby at_474) ((if0 _ _).trans (feq (fun z => hc474_423 ((lw_eq _ _).mp z))).2) (by decide) (by decide)
      replace G := own_iload (q := 485) G X418.here hx (hb hby at_483) rfl rfl
      replace G := own_iconst (q := 486) G X418.here hx (hb hby at_485) (v := (3 : Int32)) (by decide) rfl
      have hc486_424 : (3 : Int32) < (8 : Int32) := by decide
      replace G := own_icmpNo (q := 489) G X418.here hx (hb hby at_486) (tlt hc486_424).2.2.2 rfl
      replace G := own_lload (q := 491) G X418.here hx (hb hby at_489) rfl rfl
      replace G := own_lload (q := 493) G X418.here hx (hb hby at_491) rfl rfl
      replace G := own_lcmp (q := 494) G X418.here hx (hb hby at_493) rfl
      have hc494_425 : ¬ (v6 = v3) := fun z => by have := congrArg Int64.toInt z; omega
      replace G := own_ifYes (q := 503) G X418.here hx (hb hby at_494) ((if0 _ _).trans (feq (fun z => hc494_425 ((lw_eq _ _).mp z))).2) (by decide) (by decide)
      replace G := own_iload (q := 505) G X418.here hx (hb hby at_503) rfl rfl
      replace G := own_iconst (q := 506) G X418.here hx (hb hby at_505) (v := (4 : Int32)) (by decide) rfl
      have hc506_426 : (4 : Int32) < (8 : Int32) := by decide
      replace G := own_icmpNo (q := 509) G X418.here hx (hb hby at_506) (tlt hc506_426).2.2.2 rfl
      replace G := own_lload (q := 511) G X418.here hx (hb hby at_509) rfl rfl
      replace G := own_lload (q := 513) G X418.here hx (hb hby at_511) rfl rfl
      replace G := own_lcmp (q := 514) G X418.here hx (hb hby at_513) rfl
      have hc514_427 : ¬ (v6 = v4) := fun z => by have := congrArg Int64.toInt z; omega
      replace G := own_ifYes (q := 523) G X418.here hx (hb hby at_514) ((if0 _ _).trans (feq (fun z => hc514_427 ((lw_eq _ _).mp z))).2) (by decide) (by decide)
      replace G := own_iload (q := 525) G X418.here hx (hb hby at_523) rfl rfl
      replace G := own_iconst (q := 526) G X418.here hx (hb hby at_525) (v := (5 : Int32)) (by decide) rfl
      have hc526_428 : (5 : Int32) < (8 : Int32) := by decide
      replace G := own_icmpNo (q := 529) G X418.here hx (hb hby at_526) (tlt hc526_428).2.2.2 rfl
      replace G := own_lload (q := 531) G X418.here hx (hb hby at_529) rfl rfl
      replace G := own_lload (q := 533) G X418.here hx (hb hby at_531) rfl rfl
      replace G := own_lcmp (q := 534) G X418.here hx (hb hby at_533) rfl
      have hc534_429 : ¬ (v6 = v5) := fun z => by have := congrArg Int64.toInt z; omega
      replace G := own_ifYes (q := 543) G X418.here hx (hb hby at_534) ((if0 _ _).trans (feq (fun z => hc534_429 ((lw_eq _ _).mp z))).2) (by decide) (by decide)
      replace G := own_iload (q := 545) G X418.here hx (hb hby at_543) rfl rfl
      replace G := own_bipush (q := 547) G X418.here hx (hb hby at_545) (v := (6 : Int32)) (by decide) rfl
      have hc547_430 : (6 : Int32) < (8 : Int32) := by decide
      replace G := own_icmpNo (q := 550) G X418.here hx (hb hby at_547) (tlt hc547_430).2.2.2 rfl
      replace G := own_lload (q := 552) G X418.here hx (hb hby at_550) rfl rfl
      replace G := own_lload (q := 554) G X418.here hx (hb hby at_552) rfl rfl
      replace G := own_lcmp (q := 555) G X418.here hx (hb hby at_554) rfl
      have hc555_431 : v6 = v6 := rfl
      replace G := own_ifNo (q := 558) G X418.here hx (hb hby at_555) ((if0 _ _).trans (teq ((lw_eq _ _).mpr hc555_431)).2) rfl
      replace G := own_bipush (q := 560) G X418.here hx (hb hby at_558) (v := (6 : Int32)) (by decide) rfl
      replace G := own_istore (q := 562) (l' := #[.val (.long i0), .second, .val (.long i1), .second, .val (.int i2), .val (.int i3), .val (.int (8 : Int32)), .val (.int uu), .val (.long v0), .second, .val (.long v1), .second, .val (.long v2), .second, .val (.long v3), .second, .val (.long v4), .second, .val (.long v5), .second, .val (.long v6), .second, .val (.long v7), .second, .val (.ref b344), .val (.long v6), .second, .val (.int (6 : Int32)), .unset, .unset]) G X418.here hx (hb hby at_560) rfl rfl
      replace G := own_goto (q := 584) G X418.here hx (hb hby at_562) (by decide) (by decide)
      replace G := own_iload (q := 586) G X418.here hx (hb hby at_584) rfl rfl
      have hc586_432 : ¬ ((6 : Int32) < (0 : Int32)) := by decide
      replace G := own_ifYes (q := 591) G X418.here hx (hb hby at_586) ((if0 _ _).trans (flt hc586_432).2.1) (by decide) (by decide)
      replace G := own_iload (q := 593) G X418.here hx (hb hby at_591) rfl rfl
      replace G := own_i2l (q := 594) G X418.here hx (hb hby at_593) rfl rfl
      replace G := own_iload (q := 596) G X418.here hx (hb hby at_594) rfl rfl
      replace G := own_i2l (q := 597) G X418.here hx (hb hby at_596) (by decide : ((8 : Int32).toInt64) = (8 : Int64)) rfl
      replace G := own_lmul (q := 598) G X418.here hx (hb hby at_597) rfl rfl
      replace G := own_lstore (q := 600) (l' := #[.val (.long i0), .second, .val (.long i1), .second, .val (.int i2), .val (.int i3), .val (.int (8 : Int32)), .val (.int uu), .val (.long v0), .second, .val (.long v1), .second, .val (.long v2), .second, .val (.long v3), .second, .val (.long v4), .second, .val (.long v5), .second, .val (.long v6), .second, .val (.long v7), .second, .val (.ref b344), .val (.long v6), .second, .val (.int (6 : Int32)), .val (.long ((uu.toInt64) * (8 : Int64))), .second]) G X418.here hx (hb hby at_598) rfl rfl
      replace G := own_iload (q := 602) G X418.here hx (hb hby at_600) rfl rfl
      replace G := own_iconst (q := 603) G X418.here hx (hb hby at_602) (v := (1 : Int32)) (by decide) rfl
      replace G := own_iadd (q := 604) G X418.here hx (hb hby at_603) (by decide : ((6 : Int32) + (1 : Int32)) = (7 : Int32)) rfl
      replace G := own_i2l (q := 605) G X418.here hx (hb hby at_604) (by decide : ((7 : Int32).toInt64) = (7 : Int64)) rfl
      replace G : Gets p e below _ (T418.setTop (mkF m 608 #[.val (.long i0), .second, .val (.long i1), .second, .val (.int i2), .val (.int i3), .val (.int (8 : Int32)), .val (.int uu), .val (.long v0), .second, .val (.long v1), .second, .val (.long v2), .second, .val (.long v3), .second, .val (.long v4), .second, .val (.long v5), .second, .val (.long v6), .second, .val (.long v7), .second, .val (.ref b344), .val (.long v6), .second, .val (.int (6 : Int32)), .val (.long ((uu.toInt64) * (8 : Int64))), .second] [(.long (100 : Int64)), (.long (7 : Int64))])) := fun t k => G t (X418.ldc2Long hx hown (mvT hZ (hw _ (List.mem_of_getElem? (i := 13) rfl))) (g := (mkF m 605 #[.val (.long i0), .second, .val (.long i1), .second, .val (.int i2), .val (.int i3), .val (.int (8 : Int32)), .val (.int uu), .val (.long v0), .second, .val (.long v1), .second, .val (.long v2), .second, .val (.long v3), .second, .val (.long v4), .second, .val (.long v5), .second, .val (.long v6), .second, .val (.long v7), .second, .val (.ref b344), .val (.long v6), .second, .val (.int (6 : Int32)), .val (.long ((uu.toInt64) * (8 : Int64))), .second] [(.long (7 : Int64))])) rfl (hb hby at_605) t k)
      replace G := own_lmul (q := 609) G X418.here hx (hb hby at_608) (by decide : ((7 : Int64) * (100 : Int64)) = (700 : Int64)) rfl
      replace G := own_lload (q := 611) G X418.here hx (hb hby at_609) rfl rfl
      replace G := own_lcmp (q := 612) G X418.here hx (hb hby at_611) rfl
      have hc612_433 : ¬ ((700 : Int64) < ((uu.toInt64) * (8 : Int64))) := by
        rw [hj, show (6 : Int32).toInt = 6 from rfl] at sp
        have A := c_lmul uu.toInt64 8
        rw [c_i2l, show (8 : Int64).toInt = 8 from rfl] at A
        have RA := rng64 (uu.toInt64 * 8)
        have hB : 0 ≤ uu.toInt * 8 ∧ uu.toInt * 8 ≤ 800 := by omega
        have e : (uu.toInt64 * 8).toInt = uu.toInt * 8 := by
          generalize uu.toInt * 8 = P at A hB ⊢
          omega
        rw [own_ltL, e, show (700 : Int64).toInt = 700 from rfl]
        omega
      replace G := own_ifNo (q := 615) G X418.here hx (hb hby at_612) ((if0 _ _).trans (flt (fun z => hc612_433 ((lw_lt _ _).mp z))).1) rfl
      replace G := own_iload (q := 617) G X418.here hx (hb hby at_615) rfl rfl
      have hc617_434 : ¬ ((6 : Int32) = (0 : Int32)) := by decide
      replace G := own_ifNo (q := 620) G X418.here hx (hb hby at_617) ((if0 _ _).trans (feq hc617_434).1) rfl
      replace G := own_iload (q := 622) G X418.here hx (hb hby at_620) rfl rfl
      replace G := own_i2l (q := 623) G X418.here hx (hb hby at_622) (by decide : ((6 : Int32).toInt64) = (6 : Int64)) rfl
      replace G : Gets p e below _ (T418.setTop (mkF m 626 #[.val (.long i0), .second, .val (.long i1), .second, .val (.int i2), .val (.int i3), .val (.int (8 : Int32)), .val (.int uu), .val (.long v0), .second, .val (.long v1), .second, .val (.long v2), .second, .val (.long v3), .second, .val (.long v4), .second, .val (.long v5), .second, .val (.long v6), .second, .val (.long v7), .second, .val (.ref b344), .val (.long v6), .second, .val (.int (6 : Int32)), .val (.long ((uu.toInt64) * (8 : Int64))), .second] [(.long (100 : Int64)), (.long (6 : Int64))])) := fun t k => G t (X418.ldc2Long hx hown (mvT hZ (hw _ (List.mem_of_getElem? (i := 13) rfl))) (g := (mkF m 623 #[.val (.long i0), .second, .val (.long i1), .second, .val (.int i2), .val (.int i3), .val (.int (8 : Int32)), .val (.int uu), .val (.long v0), .second, .val (.long v1), .second, .val (.long v2), .second, .val (.long v3), .second, .val (.long v4), .second, .val (.long v5), .second, .val (.long v6), .second, .val (.long v7), .second, .val (.ref b344), .val (.long v6), .second, .val (.int (6 : Int32)), .val (.long ((uu.toInt64) * (8 : Int64))), .second] [(.long (6 : Int64))])) rfl (hb hby at_623) t k)
      replace G := own_lmul (q := 627) G X418.here hx (hb hby at_626) (by decide : ((6 : Int64) * (100 : Int64)) = (600 : Int64)) rfl
      replace G := own_lload (q := 629) G X418.here hx (hb hby at_627) rfl rfl
      replace G := own_lcmp (q := 630) G X418.here hx (hb hby at_629) rfl
      have hc630_435 : (600 : Int64) < ((uu.toInt64) * (8 : Int64)) := by
        rw [hj, show (6 : Int32).toInt = 6 from rfl] at sp
        have A := c_lmul uu.toInt64 8
        rw [c_i2l, show (8 : Int64).toInt = 8 from rfl] at A
        have RA := rng64 (uu.toInt64 * 8)
        have hB : 0 ≤ uu.toInt * 8 ∧ uu.toInt * 8 ≤ 800 := by omega
        have e : (uu.toInt64 * 8).toInt = uu.toInt * 8 := by
          generalize uu.toInt * 8 = P at A hB ⊢
          omega
        rw [own_ltL, e, show (600 : Int64).toInt = 600 from rfl]
        omega
      replace G := own_ifNo (q := 633) G X418.here hx (hb hby at_630) ((if0 _ _).trans (tlt ((lw_lt _ _).mpr hc630_435)).2.1) rfl
      replace G := own_iconst (q := 634) G X418.here hx (hb hby at_633) (v := (1 : Int32)) (by decide) rfl
      replace G := own_goto (q := 638) G X418.here hx (hb hby at_634) (by decide) (by decide)
      obtain ⟨fs, hr, hrun, hended, hW, hsame⟩ := X418.leave (v := some (.int (1 : Int32))) (fun h => by rw [Bd.returns] at h; cases h)
      refine ⟨_, _, G _ (retOut X418 hx Bd.returns rfl (Or.inl ⟨rfl, Or.inr (Or.inl rfl), _, rfl⟩) (hb hby at_638) hr), hrun, hended, _, _, rfl, ?_, ⟨_, rfl⟩, hW, hsame.mono (by decide) (by decide)⟩
      show Q0 Z i0 i1 i2 i3 h0 n0 _ T418.heap _
      rw [e418]
      exact ⟨rfl, N418⟩
    · obtain ⟨_, _, ⟨T436, L436, kk436, nn436⟩, -, X436, ⟨Lc436, hQ436, l436, y436, z436⟩, st436⟩ := Jvm.LawKit.callS X352 hx (y := (⟨"com/example/cued/cued/Bench", "percentile", "([JI)J"⟩ : MethodName)) hown (mvT hZ (hw _ (List.mem_of_getElem? (i := 3) rfl))) (mvT hZ (hw _ (List.mem_of_getElem? (i := 4) rfl))) (mvT hZ (hw _ (List.mem_of_getElem? (i := 5) rfl))) (mvT hZ (hw _ (List.mem_of_getElem? (i := 6) rfl))) (by decide) (backOf (W := 0) (rm1 l Z a0 hw [] b344 uu k344 (8 : Int32) [(.long v0), (.long v1), (.long v2), (.long v3), (.long v4), (.long v5), (.long v6), (.long v7)] v7 h352 n0 Z352 V352 (by decide) huu (by rw [hj]; rfl)) hZ (hw _ (List.mem_of_getElem? (i := 6) rfl)) (hw _ (List.mem_of_getElem? (i := 5) rfl)) (by decide) (by decide)) (g := (mkF m 421 #[.val (.long i0), .second, .val (.long i1), .second, .val (.int i2), .val (.int i3), .val (.int (8 : Int32)), .val (.int uu), .val (.long v0), .second, .val (.long v1), .second, .val (.long v2), .second, .val (.long v3), .second, .val (.long v4), .second, .val (.long v5), .second, .val (.long v6), .second, .val (.long v7), .second, .val (.ref b344), .unset, .unset, .unset, .unset, .unset] [(.int uu), (.ref b344)])) rfl (by rw [hml]; rfl) (argsL := [(.ref b344), (.int uu)]) (rest := []) (lenOf pd_1 rfl) rfl (by show 2 * 0 + _ ≤ _; exact Nat.le_of_eq rfl) (hb hby at_421) (fun _ _ => ⟨rfl, e352, (by decide : 1 + 0 ≤ _), (by decide : 8 + 0 ≤ _)⟩)
      dsimp only [Pt.U, Pt.locs, Pt.cells, Pt.slots] at X436 l436 y436 z436 st436 hQ436
      subst l436 y436 z436
      obtain ⟨rfl, N436q, e436⟩ := hQ436
      have N436 := Fr.app N352 N436q
      replace G : Gets p e below _ (T436.setTop (mkF m 424 #[.val (.long i0), .second, .val (.long i1), .second, .val (.int i2), .val (.int i3), .val (.int (8 : Int32)), .val (.int uu), .val (.long v0), .second, .val (.long v1), .second, .val (.long v2), .second, .val (.long v3), .second, .val (.long v4), .second, .val (.long v5), .second, .val (.long v6), .second, .val (.long v7), .second, .val (.ref b344), .unset, .unset, .unset, .unset, .unset] [(.long v7)])) := fun t k => G t (st436 t k)
      replace G := own_lstore (q := 426) (l' := #[.val (.long i0), .second, .val (.long i1), .second, .val (.int i2), .val (.int i3), .val (.int (8 : Int32)), .val (.int uu), .val (.long v0), .second, .val (.long v1), .second, .val (.long v2), .second, .val (.long v3), .second, .val (.long v4), .second, .val (.long v5), .second, .val (.long v6), .second, .val (.long v7), .second, .val (.ref b344), .val (.long v7), .second, .unset, .unset, .unset]) G X436.here hx (hb hby at_424) rfl rfl
      replace G := own_iconst (q := 427) G X436.here hx (hb hby at_426) (v := (-1 : Int32)) (by decide) rfl
      replace G := own_istore (q := 429) (l' := #[.val (.long i0), .second, .val (.long i1), .second, .val (.int i2), .val (.int i3), .val (.int (8 : Int32)), .val (.int uu), .val (.long v0), .second, .val (.long v1), .second, .val (.long v2), .second, .val (.long v3), .second, .val (.long v4), .second, .val (.long v5), .second, .val (.long v6), .second, .val (.long v7), .second, .val (.ref b344), .val (.long v7), .second, .val (.int (-1 : Int32)), .unset, .unset]) G X436.here hx (hb hby at_427) rfl rfl
      replace G := own_lload (q := 431) G X436.here hx (hb hby at_429) rfl rfl
      replace G := own_lload (q := 433) G X436.here hx (hb hby at_431) rfl rfl
      replace G := own_lcmp (q := 434) G X436.here hx (hb hby at_433) rfl
      have hc434_437 : ¬ (v7 = v0) := fun z => by have := congrArg Int64.toInt z; omega
      replace G := own_ifYes (q := 443) G X436.here hx (hb hby at_434) ((if0 _ _).trans (feq (fun z => hc434_437 ((lw_eq _ _).mp z))).2) (by decide) (by decide)
      replace G := own_iload (q := 445) G X436.here hx (hb hby at_443) rfl rfl
      replace G := own_iconst (q := 446) G X436.here hx (hb hby at_445) (v := (1 : Int32)) (by decide) rfl
      have hc446_438 : (1 : Int32) < (8 : Int32) := by decide
      replace G := own_icmpNo (q := 449) G X436.here hx (hb hby at_446) (tlt hc446_438).2.2.2 rfl
      replace G := own_lload (q := 451) G X436.here hx (hb hby at_449) rfl rfl
      replace G := own_lload (q := 453) G X436.here hx (hb hby at_451) rfl rfl
      replace G := own_lcmp (q := 454) G X436.here hx (hb hby at_453) rfl
      have hc454_439 : ¬ (v7 = v1) := fun z => by have := congrArg Int64.toInt z; omega
      replace G := own_ifYes (q := 463) G X436.here hx (hb hby at_454) ((if0 _ _).trans (feq (fun z => hc454_439 ((lw_eq _ _).mp z))).2) (by decide) (by decide)
      replace G := own_iload (q := 465) G X436.here hx (hb hby at_463) rfl rfl
      replace G := own_iconst (q := 466) G X436.here hx (hb hby at_465) (v := (2 : Int32)) (by decide) rfl
      have hc466_440 : (2 : Int32) < (8 : Int32) := by decide
      replace G := own_icmpNo (q := 469) G X436.here hx (hb hby at_466) (tlt hc466_440).2.2.2 rfl
      replace G := own_lload (q := 471) G X436.here hx (hb hby at_469) rfl rfl
      replace G := own_lload (q := 473) G X436.here hx (hb hby at_471) rfl rfl
      replace G := own_lcmp (q := 474) G X436.here hx (hb hby at_473) rfl
      have hc474_441 : ¬ (v7 = v2) := fun z => by have := congrArg Int64.toInt z; omega
      replace G := own_ifYes (q := 483) G X436.here hx (hb hby at_474) ((if0 _ _).trans (feq (fun z => hc474_441 ((lw_eq _ _).mp z))).2) (by decide) (by decide)
      replace G := own_iload (q := 485) G X436.here hx (hb hby at_483) rfl rfl
      replace G := own_iconst (q := 486) G X436.here hx (hb hby at_485) (v := (3 : Int32)) (by decide) rfl
      have hc486_442 : (3 : Int32) < (8 : Int32) := by decide
      replace G := own_icmpNo (q := 489) G X436.here hx (hb hby at_486) (tlt hc486_442).2.2.2 rfl
      replace G := own_lload (q := 491) G X436.here hx (hb hby at_489) rfl rfl
      replace G := own_lload (q := 493) G X436.here hx (hb hby at_491) rfl rfl
      replace G := own_lcmp (q := 494) G X436.here hx (hb hby at_493) rfl
      have hc494_443 : ¬ (v7 = v3) := fun z => by have := congrArg Int64.toInt z; omega
      replace G := own_ifYes (q := 503) G X436.here hx (hb hby at_494) ((if0 _ _).trans (feq (fun z => hc494_443 ((lw_eq _ _).mp z))).2) (by decide) (by decide)
      replace G := own_iload (q := 505) G X436.here hx (hb hby at_503) rfl rfl
      replace G := own_iconst (q := 506) G X436.here hx (hb hby at_505) (v := (4 : Int32)) (by decide) rfl
      have hc506_444 : (4 : Int32) < (8 : Int32) := by decide
      replace G := own_icmpNo (q := 509) G X436.here hx (hb hby at_506) (tlt hc506_444).2.2.2 rfl
      replace G := own_lload (q := 511) G X436.here hx (hb hby at_509) rfl rfl
      replace G := own_lload (q := 513) G X436.here hx (hb hby at_511) rfl rfl
      replace G := own_lcmp (q := 514) G X436.here hx (hb hby at_513) rfl
      have hc514_445 : ¬ (v7 = v4) := fun z => by have := congrArg Int64.toInt z; omega
      replace G := own_ifYes (q := 523) G X436.here hx (hb hby at_514) ((if0 _ _).trans (feq (fun z => hc514_445 ((lw_eq _ _).mp z))).2) (by decide) (by decide)
      replace G := own_iload (q := 525) G X436.here hx (hb hby at_523) rfl rfl
      replace G := own_iconst (q := 526) G X436.here hx (hb hby at_525) (v := (5 : Int32)) (by decide) rfl
      have hc526_446 : (5 : Int32) < (8 : Int32) := by decide
      replace G := own_icmpNo (q := 529) G X436.here hx (hb hby at_526) (tlt hc526_446).2.2.2 rfl
      replace G := own_lload (q := 531) G X436.here hx (hb hby at_529) rfl rfl
      replace G := own_lload (q := 533) G X436.here hx (hb hby at_531) rfl rfl
      replace G := own_lcmp (q := 534) G X436.here hx (hb hby at_533) rfl
      have hc534_447 : ¬ (v7 = v5) := fun z => by have := congrArg Int64.toInt z; omega
      replace G := own_ifYes (q := 543) G X436.here hx (hb hby at_534) ((if0 _ _).trans (feq (fun z => hc534_447 ((lw_eq _ _).mp z))).2) (by decide) (by decide)
      replace G := own_iload (q := 545) G X436.here hx (hb hby at_543) rfl rfl
      replace G := own_bipush (q := 547) G X436.here hx (hb hby at_545) (v := (6 : Int32)) (by decide) rfl
      have hc547_448 : (6 : Int32) < (8 : Int32) := by decide
      replace G := own_icmpNo (q := 550) G X436.here hx (hb hby at_547) (tlt hc547_448).2.2.2 rfl
      replace G := own_lload (q := 552) G X436.here hx (hb hby at_550) rfl rfl
      replace G := own_lload (q := 554) G X436.here hx (hb hby at_552) rfl rfl
      replace G := own_lcmp (q := 555) G X436.here hx (hb hby at_554) rfl
      have hc555_449 : ¬ (v7 = v6) := fun z => by have := congrArg Int64.toInt z; omega
      replace G := own_ifYes (q := 565) G X436.here hx (hb hby at_555) ((if0 _ _).trans (feq (fun z => hc555_449 ((lw_eq _ _).mp z))).2) (by decide) (by decide)
      replace G := own_iload (q := 567) G X436.here hx (hb hby at_565) rfl rfl
      replace G := own_bipush (q := 569) G X436.here hx (hb hby at_567) (v := (7 : Int32)) (by decide) rfl
      have hc569_450 : (7 : Int32) < (8 : Int32) := by decide
      replace G := own_icmpNo (q := 572) G X436.here hx (hb hby at_569) (tlt hc569_450).2.2.2 rfl
      replace G := own_lload (q := 574) G X436.here hx (hb hby at_572) rfl rfl
      replace G := own_lload (q := 576) G X436.here hx (hb hby at_574) rfl rfl
      replace G := own_lcmp (q := 577) G X436.here hx (hb hby at_576) rfl
      have hc577_451 : v7 = v7 := rfl
      replace G := own_ifNo (q := 580) G X436.here hx (hb hby at_577) ((if0 _ _).trans (teq ((lw_eq _ _).mpr hc577_451)).2) rfl
      replace G := own_bipush (q := 582) G X436.here hx (hb hby at_580) (v := (7 : Int32)) (by decide) rfl
      replace G := own_istore (q := 584) (l' := #[.val (.long i0), .second, .val (.long i1), .second, .val (.int i2), .val (.int i3), .val (.int (8 : Int32)), .val (.int uu), .val (.long v0), .second, .val (.long v1), .second, .val (.long v2), .second, .val (.long v3), .second, .val (.long v4), .second, .val (.long v5), .second, .val (.long v6), .second, .val (.long v7), .second, .val (.ref b344), .val (.long v7), .second, .val (.int (7 : Int32)), .unset, .unset]) G X436.here hx (hb hby at_582) rfl rfl
      replace G := own_iload (q := 586) G X436.here hx (hb hby at_584) rfl rfl
      have hc586_452 : ¬ ((7 : Int32) < (0 : Int32)) := by decide
      replace G := own_ifYes (q := 591) G X436.here hx (hb hby at_586) ((if0 _ _).trans (flt hc586_452).2.1) (by decide) (by decide)
      replace G := own_iload (q := 593) G X436.here hx (hb hby at_591) rfl rfl
      replace G := own_i2l (q := 594) G X436.here hx (hb hby at_593) rfl rfl
      replace G := own_iload (q := 596) G X436.here hx (hb hby at_594) rfl rfl
      replace G := own_i2l (q := 597) G X436.here hx (hb hby at_596) (by decide : ((8 : Int32).toInt64) = (8 : Int64)) rfl
      replace G := own_lmul (q := 598) G X436.here hx (hb hby at_597) rfl rfl
      replace G := own_lstore (q := 600) (l' := #[.val (.long i0), .second, .val (.long i1), .second, .val (.int i2), .val (.int i3), .val (.int (8 : Int32)), .val (.int uu), .val (.long v0), .second, .val (.long v1), .second, .val (.long v2), .second, .val (.long v3), .second, .val (.long v4), .second, .val (.long v5), .second, .val (.long v6), .second, .val (.long v7), .second, .val (.ref b344), .val (.long v7), .second, .val (.int (7 : Int32)), .val (.long ((uu.toInt64) * (8 : Int64))), .second]) G X436.here hx (hb hby at_598) rfl rfl
      replace G := own_iload (q := 602) G X436.here hx (hb hby at_600) rfl rfl
      replace G := own_iconst (q := 603) G X436.here hx (hb hby at_602) (v := (1 : Int32)) (by decide) rfl
      replace G := own_iadd (q := 604) G X436.here hx (hb hby at_603) (by decide : ((7 : Int32) + (1 : Int32)) = (8 : Int32)) rfl
      replace G := own_i2l (q := 605) G X436.here hx (hb hby at_604) (by decide : ((8 : Int32).toInt64) = (8 : Int64)) rfl
      replace G : Gets p e below _ (T436.setTop (mkF m 608 #[.val (.long i0), .second, .val (.long i1), .second, .val (.int i2), .val (.int i3), .val (.int (8 : Int32)), .val (.int uu), .val (.long v0), .second, .val (.long v1), .second, .val (.long v2), .second, .val (.long v3), .second, .val (.long v4), .second, .val (.long v5), .second, .val (.long v6), .second, .val (.long v7), .second, .val (.ref b344), .val (.long v7), .second, .val (.int (7 : Int32)), .val (.long ((uu.toInt64) * (8 : Int64))), .second] [(.long (100 : Int64)), (.long (8 : Int64))])) := fun t k => G t (X436.ldc2Long hx hown (mvT hZ (hw _ (List.mem_of_getElem? (i := 13) rfl))) (g := (mkF m 605 #[.val (.long i0), .second, .val (.long i1), .second, .val (.int i2), .val (.int i3), .val (.int (8 : Int32)), .val (.int uu), .val (.long v0), .second, .val (.long v1), .second, .val (.long v2), .second, .val (.long v3), .second, .val (.long v4), .second, .val (.long v5), .second, .val (.long v6), .second, .val (.long v7), .second, .val (.ref b344), .val (.long v7), .second, .val (.int (7 : Int32)), .val (.long ((uu.toInt64) * (8 : Int64))), .second] [(.long (8 : Int64))])) rfl (hb hby at_605) t k)
      replace G := own_lmul (q := 609) G X436.here hx (hb hby at_608) (by decide : ((8 : Int64) * (100 : Int64)) = (800 : Int64)) rfl
      replace G := own_lload (q := 611) G X436.here hx (hb hby at_609) rfl rfl
      replace G := own_lcmp (q := 612) G X436.here hx (hb hby at_611) rfl
      have hc612_453 : ¬ ((800 : Int64) < ((uu.toInt64) * (8 : Int64))) := by
        rw [hj, show (7 : Int32).toInt = 7 from rfl] at sp
        have A := c_lmul uu.toInt64 8
        rw [c_i2l, show (8 : Int64).toInt = 8 from rfl] at A
        have RA := rng64 (uu.toInt64 * 8)
        have hB : 0 ≤ uu.toInt * 8 ∧ uu.toInt * 8 ≤ 800 := by omega
        have e : (uu.toInt64 * 8).toInt = uu.toInt * 8 := by
          generalize uu.toInt * 8 = P at A hB ⊢
          omega
        rw [own_ltL, e, show (800 : Int64).toInt = 800 from rfl]
        omega
      replace G := own_ifNo (q := 615) G X436.here hx (hb hby at_612) ((if0 _ _).trans (flt (fun z => hc612_453 ((lw_lt _ _).mp z))).1) rfl
      replace G := own_iload (q := 617) G X436.here hx (hb hby at_615) rfl rfl
      have hc617_454 : ¬ ((7 : Int32) = (0 : Int32)) := by decide
      replace G := own_ifNo (q := 620) G X436.here hx (hb hby at_617) ((if0 _ _).trans (feq hc617_454).1) rfl
      replace G := own_iload (q := 622) G X436.here hx (hb hby at_620) rfl rfl
      replace G := own_i2l (q := 623) G X436.here hx (hb hby at_622) (by decide : ((7 : Int32).toInt64) = (7 : Int64)) rfl
      replace G : Gets p e below _ (T436.setTop (mkF m 626 #[.val (.long i0), .second, .val (.long i1), .second, .val (.int i2), .val (.int i3), .val (.int (8 : Int32)), .val (.int uu), .val (.long v0), .second, .val (.long v1), .second, .val (.long v2), .second, .val (.long v3), .second, .val (.long v4), .second, .val (.long v5), .second, .val (.long v6), .second, .val (.long v7), .second, .val (.ref b344), .val (.long v7), .second, .val (.int (7 : Int32)), .val (.long ((uu.toInt64) * (8 : Int64))), .second] [(.long (100 : Int64)), (.long (7 : Int64))])) := fun t k => G t (X436.ldc2Long hx hown (mvT hZ (hw _ (List.mem_of_getElem? (i := 13) rfl))) (g := (mkF m 623 #[.val (.long i0), .second, .val (.long i1), .second, .val (.int i2), .val (.int i3), .val (.int (8 : Int32)), .val (.int uu), .val (.long v0), .second, .val (.long v1), .second, .val (.long v2), .second, .val (.long v3), .second, .val (.long v4), .second, .val (.long v5), .second, .val (.long v6), .second, .val (.long v7), .second, .val (.ref b344), .val (.long v7), .second, .val (.int (7 : Int32)), .val (.long ((uu.toInt64) * (8 : Int64))), .second] [(.long (7 : Int64))])) rfl (hb hby at_623) t k)
      replace G := own_lmul (q := 627) G X436.here hx (hb hby at_626) (by decide : ((7 : Int64) * (100 : Int64)) = (700 : Int64)) rfl
      replace G := own_lload (q := 629) G X436.here hx (hb hby at_627) rfl rfl
      replace G := own_lcmp (q := 630) G X436.here hx (hb hby at_629) rfl
      have hc630_455 : (700 : Int64) < ((uu.toInt64) * (8 : Int64)) := by
        rw [hj, show (7 : Int32).toInt = 7 from rfl] at sp
        have A := c_lmul uu.toInt64 8
        rw [c_i2l, show (8 : Int64).toInt = 8 from rfl] at A
        have RA := rng64 (uu.toInt64 * 8)
        have hB : 0 ≤ uu.toInt * 8 ∧ uu.toInt * 8 ≤ 800 := by omega
        have e : (uu.toInt64 * 8).toInt = uu.toInt * 8 := by
          generalize uu.toInt * 8 = P at A hB ⊢
          omega
        rw [own_ltL, e, show (700 : Int64).toInt = 700 from rfl]
        omega
      replace G := own_ifNo (q := 633) G X436.here hx (hb hby at_630) ((if0 _ _).trans (tlt ((lw_lt _ _).mpr hc630_455)).2.1) rfl
      replace G := own_iconst (q := 634) G X436.here hx (hb hby at_633) (v := (1 : Int32)) (by decide) rfl
      replace G := own_goto (q := 638) G X436.here hx (hb hby at_634) (by decide) (by decide)
      obtain ⟨fs, hr, hrun, hended, hW, hsame⟩ := X436.leave (v := some (.int (1 : Int32))) (fun h => by rw [Bd.returns] at h; cases h)
      refine ⟨_, _, G _ (retOut X436 hx Bd.returns rfl (Or.inl ⟨rfl, Or.inr (Or.inl rfl), _, rfl⟩) (hb hby at_638) hr), hrun, hended, _, _, rfl, ?_, ⟨_, rfl⟩, hW, hsame.mono (by decide) (by decide)⟩
      show Q0 Z i0 i1 i2 i3 h0 n0 _ T436.heap _
      rw [e436]
      exact ⟨rfl, N436⟩
set_option maxRecDepth 65536 in
set_option maxHeartbeats 40000000 in
theorem comes_1 {Post : Tables → Env → Array Value → State → Outcome → State → Prop} (hpost : ∀ tb e args s v u, (limb_1_1.after args s (.returned v) u = true ∧ limb_1_2.after args s (.returned v) u = true ∧ True) → FrameEnd s (.returned v) u (Jvm.fieldLocs frame_1_writes args s ++ Jvm.arrayLocs frame_1_arrays args s ++ Jvm.staticLocs frame_1_statics s) 16 128 → Post tb e args s (.returned v) u) :
    ArmFor flags0 classFile x code maxLocals ret World_1 tables_1 room_1 Calls_1 rest_1 Pre_1 Post := by
  intro l hfl _ _ p e ha hc hk s m args below hf hA hF happ hP
  obtain ⟨hcalls, hrest, hpre⟩ := hP
  obtain ⟨-, -, -, hnamed, -, -, -, hat⟩ := (Spec.applies_iff hf).mp happ
  obtain ⟨hg, hn⟩ := and_e (Cond.before_iff.mp (show (Jvm.Cond.and given_1 narrow_1).before args s = true from hpre))
  obtain ⟨g1, g2⟩ := and_e hg
  obtain ⟨g3, g4⟩ := and_e g2
  obtain ⟨g5, g6⟩ := and_e g4
  obtain ⟨g7, g8⟩ := and_e g6
  obtain ⟨w0, w1, w2, w3, rfl⟩ : ∃ w0 w1 w2 w3 : Value, args = #[w0, w1, w2, w3] := by
    have hs : args.size = 4 := by simpa [Cond.value, given_1] using g1
    obtain ⟨L⟩ := args
    match L, hs with
    | [w0, w1, w2, w3], _ => exact ⟨w0, w1, w2, w3, rfl⟩
  have hw := fun d (hd : d ∈ tables_1) => atoms_spec (ws := Jvm.Cond.code x code maxLocals ret :: tables_1) hat d (List.mem_cons_of_mem _ hd)
  have hfit : Fit s := fun {y c} hc i hi => by
    obtain ⟨ha, rfl⟩ := Array.getElem?_eq_some_iff.mp hc
    have q := List.all_eq_true.mp ((Array.all_eq_true_iff_forall_mem.mp hF) _ (Array.getElem_mem ha)) i (List.mem_range.mpr hi)
    simpa [Array.getElem?_eq_getElem hi] using q
  obtain ⟨i0, ei0⟩ := isL_v g3
  obtain rfl : w0 = (.long i0) := Option.some.inj ei0
  obtain ⟨i1, ei1⟩ := isL_v g5
  obtain rfl : w1 = (.long i1) := Option.some.inj ei1
  obtain ⟨i2, ei2⟩ := is_v g7
  obtain rfl : w2 = (.int i2) := Option.some.inj ei2
  obtain ⟨i3, ei3⟩ := is_v g8
  obtain rfl : w3 = (.int i3) := Option.some.inj ei3
  obtain ⟨n, o, h1, h2, h3, _, L, rfl, ⟨rfl, N⟩, hq⟩ := rm0 l s _ hw tables_1 i0 i1 i2 i3 s.heap s.heap.size (Nat.le_refl _)  p e ha hc hk s m _ below hf ((Spec.applies_iff_loose hf).mp happ).1 ⟨rfl, State.Warmed39.refl s, rfl⟩ trivial
  refine ⟨n, _, h1, h2, h3, hpost _ _ _ _ _ _ ⟨Cond.after_iff.mpr rfl, Cond.after_iff.mpr (eq_i res_at (Term.int_eval (1)) rfl), trivial⟩ ⟨hq.1, hq.2.1, (hq.2.2.sift fun y hy => Or.inr (N y hy)).mono (by decide) (by decide)⟩⟩
theorem main_1_1 : Claimed_1_1 := comes_1 fun _ _ _ _ _ _ h hF => ⟨h.1, hF⟩
theorem main_1_2 : Claimed_1_2 := comes_1 fun _ _ _ _ _ _ h hF => ⟨h.2.1, hF⟩
end Jvm.Pilot.@@N@@
namespace Jvm.Pilot.@@N@@
open Jvm Jvm.ClassFile Sem Op Lib Jvm.Free Jvm.Stand Jvm.Pilot.@@N@@.Jvm.D
/-! MADE BY PROGRAM (witnessworld.py) out of the Statement's table words and the real class files: 12 classes; the members and pool entries that the words name. The judged class is class 1, her method 1. -/
namespace start1
open Jvm.ClassFile
def u (s : String) : CpInfo := .utf8 (stringToUtf16 s)
/-- a pool by its gaps: so many unusable entries, then the entry; so many at the end -/
def gap : Nat → List CpInfo → List CpInfo
  | 0, r => r
  | n + 1, r => .unusable :: gap n r
def poolList (es : List (Nat × CpInfo)) (last : Nat) : List CpInfo := es.foldr (fun e r => gap e.1 (e.2 :: r)) (gap last [])
def pool (es : List (Nat × CpInfo)) (last : Nat) : Array CpInfo := ⟨poolList es last⟩
def fileOf (pool : Array CpInfo) (this : Nat) (attrs : Array Attribute := #[]) (ms : Array MethodInfo := #[]) (fl : Nat := 33) (sup : Nat := 0) (ifs : Array Nat := #[]) (fds : Array FieldInfo := #[]) : ClassFile where
  minorVersion := 0
  majorVersion := 65
  constantPool := pool
  accessFlags := fl
  thisClass := this
  superClass := sup
  interfaces := ifs
  fields := fds
  methods := ms
  attributes := attrs
def plain (name : String) (sup : Option ClassId) : Class where
  name := name
  kind := .ordinary
  loader := none
  accessFlags := 33
  super := sup
  interfaces := #[]
  cf := none
  fields := #[]
  methods := #[]
  instanceTypes := #[]
  staticTypes := #[]
  resolved := #[]
  callSites := []
  init := .initialized
  statics := none
  mirror := none

def pool0 : Array CpInfo := pool [(5, u "<init>"), (0, u "()V"), (1, .class_ 10), (1, u "java/lang/Object")] 113

def k0m0 : Method := { name := "<init>", desc := "()V", sig := { parameters := [], returnType := none }, accessFlags := 1, code := none }
/-- java/lang/Object -/
def k0 : Class := { plain "java/lang/Object" none with
  accessFlags := 33
  interfaces := #[]
  cf := some (fileOf pool0 8 #[] #[{ accessFlags := 1, nameIndex := 5, descriptorIndex := 6, attributes := #[] }] 33 0 #[] #[])
  fields := #[]
  methods := #[k0m0]
  instanceTypes := #[]
  staticTypes := #[]
  resolved := Array.replicate 124 none
  statics := none }

def pool1 : Array CpInfo := pool [(2, .class_ 4), (1, u "java/lang/Object"), (0, u "<init>"), (0, u "()V"), (0, .integer 2147483647), (0, .long 255), (1, .methodref 11 12), (0, .class_ 13), (0, .nameAndType 14 15), (0, u "com/example/cued/cued/Bench"), (0, u "percentile"), (0, u "([JI)J"), (0, .long 100), (1, .class_ 19), (0, u "com/example/cued/cued/BenchPercentilePinLaw"), (2, u "law"), (0, u "(JJII)Z")] 5

def k1m0 : Method := { name := "<init>", desc := "()V", sig := { parameters := [], returnType := none }, accessFlags := 2, code := none }
def k1c1 : Code := { maxStack := 6, maxLocals := 30, code := code, exceptionTable := #[], attributes := #[] }
def k1m1 : Method := { name := "law", desc := "(JJII)Z", sig := { parameters := [.long, .long, .int, .int], returnType := some .boolean }, accessFlags := 9, code := some k1c1 }
/-- com/example/cued/cued/BenchPercentilePinLaw -/
def k1 : Class := { plain "com/example/cued/cued/BenchPercentilePinLaw" (some 0) with
  accessFlags := 49
  interfaces := #[]
  cf := some (fileOf pool1 18 #[] #[{ accessFlags := 2, nameIndex := 5, descriptorIndex := 6, attributes := #[] }, { accessFlags := 9, nameIndex := 22, descriptorIndex := 23, attributes := #[] }] 49 2 #[] #[])
  fields := #[]
  methods := #[k1m0, k1m1]
  instanceTypes := #[]
  staticTypes := #[]
  resolved := Array.replicate 29 none
  statics := none }

def pool2 : Array CpInfo := pool [(2, .class_ 4), (1, u "java/lang/Object"), (0, u "<init>"), (0, u "()V"), (0, .long 99), (1, .long 100), (1, .methodref 12 13), (0, .class_ 14), (0, .nameAndType 15 16), (0, u "java/lang/Math"), (0, u "max"), (0, u "(JJ)J"), (1, .class_ 20), (1, u "com/example/cued/cued/Bench$Jobs"), (2, .class_ 24), (0, u "com/example/cued/cued/Bench"), (13, .class_ 39), (0, u "com/example/cued/cued/Bench$Tally"), (11, .class_ 52), (0, u "com/example/cued/cued/Bench$Report"), (16, .class_ 70), (0, u "com/example/cued/cued/Bench$All"), (135, .class_ 207), (0, u "com/example/cued/cued/Bench$Loop"), (85, u "LATENCY_WAIT_SECONDS"), (0, u "I"), (2, u "SETTLE_MILLIS"), (0, u "J"), (0, u "MAX_JOBS"), (3, u "percentile"), (0, u "([JI)J")] 77

def k2m0 : Method := { name := "<init>", desc := "()V", sig := { parameters := [], returnType := none }, accessFlags := 2, code := none }
def k2c1 : Code := { maxStack := 6, maxLocals := 4, code := prog_5_method_2_code, exceptionTable := #[], attributes := #[] }
def k2m1 : Method := { name := "percentile", desc := "([JI)J", sig := { parameters := [(.array .long), .int], returnType := some .long }, accessFlags := 8, code := some k2c1 }
/-- com/example/cued/cued/Bench -/
def k2 : Class := { plain "com/example/cued/cued/Bench" (some 0) with
  accessFlags := 48
  interfaces := #[]
  cf := some (fileOf pool2 23 #[.nestMembers #[69, 206, 51, 38, 18]] #[{ accessFlags := 2, nameIndex := 5, descriptorIndex := 6, attributes := #[] }, { accessFlags := 8, nameIndex := 303, descriptorIndex := 304, attributes := #[] }] 48 2 #[] #[{ accessFlags := 24, nameIndex := 293, descriptorIndex := 294, attributes := #[] }, { accessFlags := 26, nameIndex := 297, descriptorIndex := 298, attributes := #[] }, { accessFlags := 24, nameIndex := 299, descriptorIndex := 294, attributes := #[] }])
  fields := #[{ name := "LATENCY_WAIT_SECONDS", type := .int, accessFlags := 24, slot := 0, constantValue := 0 }, { name := "SETTLE_MILLIS", type := .long, accessFlags := 26, slot := 1, constantValue := 0 }, { name := "MAX_JOBS", type := .int, accessFlags := 24, slot := 2, constantValue := 0 }]
  methods := #[k2m0, k2m1]
  instanceTypes := #[]
  staticTypes := #[.int, .long, .int]
  resolved := Array.replicate 382 none
  statics := none }

def pool3 : Array CpInfo := pool [(1, .class_ 2), (0, u "java/lang/Math"), (1, .class_ 6), (1, u "java/lang/Object"), (0, u "<init>"), (0, u "()V"), (89, .class_ 100), (1, u "java/lang/Math$RandomNumberGeneratorHolder"), (20, u "(JJ)J"), (50, u "negativeZeroFloatBits"), (0, u "J"), (2, u "negativeZeroDoubleBits"), (21, u "max"), (46, u "$assertionsDisabled"), (0, u "Z"), (91, u "twoToTheDoubleScaleDown"), (0, u "D"), (4, u "twoToTheDoubleScaleUp"), (9, u "E"), (3, u "PI"), (2, u "TAU"), (2, u "DEGREES_TO_RADIANS"), (0, u "RADIANS_TO_DEGREES")] 94

def k3m0 : Method := { name := "<init>", desc := "()V", sig := { parameters := [], returnType := none }, accessFlags := 2, code := none }
def k3c1 : Code := { maxStack := 4, maxLocals := 4, code := jdk_29_method_66_code, exceptionTable := #[], attributes := #[] }
def k3m1 : Method := { name := "max", desc := "(JJ)J", sig := { parameters := [.long, .long], returnType := some .long }, accessFlags := 9, code := some k3c1 }
/-- java/lang/Math -/
def k3 : Class := { plain "java/lang/Math" (some 0) with
  accessFlags := 49
  interfaces := #[]
  cf := some (fileOf pool3 1 #[.nestMembers #[98]] #[{ accessFlags := 2, nameIndex := 7, descriptorIndex := 8, attributes := #[] }, { accessFlags := 9, nameIndex := 198, descriptorIndex := 121, attributes := #[] }] 49 4 #[] #[{ accessFlags := 25, nameIndex := 354, descriptorIndex := 339, attributes := #[] }, { accessFlags := 25, nameIndex := 358, descriptorIndex := 339, attributes := #[] }, { accessFlags := 25, nameIndex := 361, descriptorIndex := 339, attributes := #[] }, { accessFlags := 26, nameIndex := 364, descriptorIndex := 339, attributes := #[] }, { accessFlags := 26, nameIndex := 365, descriptorIndex := 339, attributes := #[] }, { accessFlags := 26, nameIndex := 172, descriptorIndex := 173, attributes := #[] }, { accessFlags := 26, nameIndex := 176, descriptorIndex := 173, attributes := #[] }, { accessFlags := 8, nameIndex := 344, descriptorIndex := 339, attributes := #[] }, { accessFlags := 8, nameIndex := 338, descriptorIndex := 339, attributes := #[] }, { accessFlags := 4120, nameIndex := 245, descriptorIndex := 246, attributes := #[] }])
  fields := #[{ name := "E", type := .double, accessFlags := 25, slot := 0, constantValue := 0 }, { name := "PI", type := .double, accessFlags := 25, slot := 1, constantValue := 0 }, { name := "TAU", type := .double, accessFlags := 25, slot := 2, constantValue := 0 }, { name := "DEGREES_TO_RADIANS", type := .double, accessFlags := 26, slot := 3, constantValue := 0 }, { name := "RADIANS_TO_DEGREES", type := .double, accessFlags := 26, slot := 4, constantValue := 0 }, { name := "negativeZeroFloatBits", type := .long, accessFlags := 26, slot := 5, constantValue := 0 }, { name := "negativeZeroDoubleBits", type := .long, accessFlags := 26, slot := 6, constantValue := 0 }, { name := "twoToTheDoubleScaleUp", type := .double, accessFlags := 8, slot := 7, constantValue := 0 }, { name := "twoToTheDoubleScaleDown", type := .double, accessFlags := 8, slot := 8, constantValue := 0 }, { name := "$assertionsDisabled", type := .boolean, accessFlags := 4120, slot := 9, constantValue := 0 }]
  methods := #[k3m0, k3m1]
  instanceTypes := #[]
  staticTypes := #[.double, .double, .double, .double, .double, .long, .long, .double, .double, .boolean]
  resolved := Array.replicate 460 none
  statics := none }

def pool4 : Array CpInfo := pool [(1, u "java/lang/Cloneable"), (0, .class_ 1), (0, u "java/lang/Object"), (0, .class_ 3)] 3

/-- java/lang/Cloneable -/
def k4 : Class := { plain "java/lang/Cloneable" (some 0) with
  accessFlags := 1537
  interfaces := #[]
  cf := some (fileOf pool4 2 #[] #[] 1537 4 #[] #[])
  fields := #[]
  methods := #[]
  instanceTypes := #[]
  staticTypes := #[]
  resolved := Array.replicate 8 none
  statics := none }

def pool5 : Array CpInfo := pool [(1, u "java/io/Serializable"), (0, .class_ 1), (0, u "java/lang/Object"), (0, .class_ 3)] 3

/-- java/io/Serializable -/
def k5 : Class := { plain "java/io/Serializable" (some 0) with
  accessFlags := 1537
  interfaces := #[]
  cf := some (fileOf pool5 2 #[] #[] 1537 4 #[] #[])
  fields := #[]
  methods := #[]
  instanceTypes := #[]
  staticTypes := #[]
  resolved := Array.replicate 8 none
  statics := none }

/-- the primitive byte -/
def k6 : Class := { plain "byte" none with kind := .primitive 'B', accessFlags := 0x411 }
/-- [B -/
def k7 : Class := { plain "[B" (some 0) with kind := .array 6 .byte, interfaces := #[4, 5], accessFlags := 1041 }

/-- the primitive int -/
def k8 : Class := { plain "int" none with kind := .primitive 'I', accessFlags := 0x411 }
/-- [I -/
def k9 : Class := { plain "[I" (some 0) with kind := .array 8 .int, interfaces := #[4, 5], accessFlags := 1041 }

/-- the primitive long -/
def k10 : Class := { plain "long" none with kind := .primitive 'J', accessFlags := 0x411 }
/-- [J -/
def k11 : Class := { plain "[J" (some 0) with kind := .array 10 .long, interfaces := #[4, 5], accessFlags := 1041 }

def heap : Heap := #[]
def classes : Array Class := #[k0, k1, k2, k3, k4, k5, k6, k7, k8, k9, k10, k11]
def interned : List (Array UInt16 × Addr) := []
def slotsUsed : Nat := 0
def theMethod : MethodId := ⟨1, 1⟩
def args0 : Array Value := #[.long 5, .long 77, .int 3, .int 50]
def aboutOver (below : List Frame) : State where
  vm := { classes := classes, interned := interned.toArray }
  heap := heap
  slotsUsed := slotsUsed
  threads := #[{ frames := .invoking theMethod args0 :: below }]
def below0 : List Frame := [.native { method := ⟨0, 0⟩, args := #[] }]
def about1 : State := aboutOver below0
def p0 : Program := .bare "" "" ""
def e0 : Env := launch0.env 0 0 0
theorem w_frames : about1.frames = Frame.invoking theMethod args0 :: below0 := rfl
set_option maxRecDepth 65536 in
theorem w_args : argsFit about1.vm theMethod args0 = true := by decide +kernel
set_option maxRecDepth 65536 in
theorem w_heap : heapFits about1 = true := by decide +kernel
set_option maxRecDepth 65536 in
theorem w_runnable : about1.curStatus? = some .runnable := by decide +kernel
set_option maxRecDepth 65536 in
theorem w_alone : about1.alone = true := by decide +kernel
set_option maxRecDepth 65536 in
theorem w_named : about1.methodNamed? x = some theMethod := by decide +kernel
set_option maxRecDepth 65536 in
theorem w_hears : about1.hears theMethod below0 = true := by decide +kernel
set_option maxRecDepth 65536 in
theorem w_ripe : about1.ripe theMethod args0 below0 = true := by decide +kernel
theorem w_running : about1.status = .running := rfl
set_option maxRecDepth 65536 in
theorem w_room : about1.hasRoom e0.platform room_1 = true :=
  launch0.hasRoom_least _ room_1 (by decide +kernel) (by decide +kernel) (by decide +kernel) (by decide +kernel) (by decide +kernel) (by decide +kernel)
theorem allAtoms_all (ts : List Jvm.Cond) (a : Array Jvm.Value) (st : Jvm.State) : (allAtoms ts).before a st = ts.all (fun c => c.before a st) := by
  induction ts with
  | nil => rfl
  | cons c t ih =>
    show (Jvm.Cond.and c (allAtoms t)).before a st = _
    rw [Jvm.Cond.before_and, ih, List.all_cons]
def words1 : List Jvm.Cond := Jvm.Cond.code x code maxLocals ret :: tables_1
/-- a 'code' word, met by the world's own term for the bytes: nothing is compared byte by byte -/
theorem code_word {y : MethodName} {bytes : ByteArray} {mx : Nat} {rt : Option FieldType} {a : Array Value} {s : State} {m : MethodId} {meth : Method} {c : Code} (h1 : s.methodNamed? y = some m) (h2 : s.vm.method? m = some meth) (h3 : meth.code = some c) (h4 : c.code = bytes)
    (h5 : (c.maxLocals == mx && c.exceptionTable.isEmpty && decide (c.maxStack ≤ mostOperands) && decide (meth.sig.returnType = rt) && !meth.locks && decide (parseMethodDescriptor y.desc = some meth.sig)) = true) : (Jvm.Cond.code y bytes mx rt).before a s = true := by
  simp only [Bool.and_eq_true, beq_iff_eq, Bool.not_eq_true', decide_eq_true_eq] at h5
  obtain ⟨⟨⟨⟨⟨g1, g2⟩, g3⟩, g4⟩, g5⟩, g6⟩ := h5
  simp [Cond.before, Cond.holds, Cond.value, h1, h2, h3, h4, g1, g2, g3, g4, g5, g6]
def isCode : Jvm.Cond → Bool
  | .code _ _ _ _ => true
  | _ => false
theorem all_split {L : List Jvm.Cond} {P : Jvm.Cond → Bool} (h1 : L.all (fun c => isCode c || P c) = true) (h2 : ∀ c ∈ L.filter isCode, P c = true) : L.all P = true := by
  refine List.all_eq_true.mpr fun c hc => ?_
  have h := List.all_eq_true.mp h1 c hc
  rcases Bool.eq_false_or_eq_true (isCode c) with hi | hi
  · exact h2 c (List.mem_filter.mpr ⟨hc, hi⟩)
  · simpa [hi] using h
set_option maxRecDepth 65536 in
theorem w_c0 : (Jvm.Cond.code x code maxLocals ret).before args0 about1 = true := code_word (m := ⟨1, 1⟩) (meth := k1m1) (c := k1c1) (by decide +kernel) rfl rfl rfl (by decide +kernel)
set_option maxRecDepth 65536 in
theorem w_c1 : (Jvm.Cond.code ({ cls := "com/example/cued/cued/Bench", name := "percentile", desc := "([JI)J" } : Jvm.MethodName) prog_5_method_2_code (4 : Nat) (Option.some Jvm.ClassFile.FieldType.long)).before args0 about1 = true := code_word (m := ⟨2, 1⟩) (meth := k2m1) (c := k2c1) (by decide +kernel) rfl rfl rfl (by decide +kernel)
set_option maxRecDepth 65536 in
theorem w_c2 : (Jvm.Cond.code ({ cls := "java/lang/Math", name := "max", desc := "(JJ)J" } : Jvm.MethodName) jdk_29_method_66_code (4 : Nat) (Option.some Jvm.ClassFile.FieldType.long)).before args0 about1 = true := code_word (m := ⟨3, 1⟩) (meth := k3m1) (c := k3c1) (by decide +kernel) rfl rfl rfl (by decide +kernel)
def codes1 : List Jvm.Cond := [Jvm.Cond.code x code maxLocals ret, Jvm.Cond.code ({ cls := "com/example/cued/cued/Bench", name := "percentile", desc := "([JI)J" } : Jvm.MethodName) prog_5_method_2_code (4 : Nat) (Option.some Jvm.ClassFile.FieldType.long), Jvm.Cond.code ({ cls := "java/lang/Math", name := "max", desc := "(JJ)J" } : Jvm.MethodName) jdk_29_method_66_code (4 : Nat) (Option.some Jvm.ClassFile.FieldType.long)]
set_option maxRecDepth 65536 in
theorem codes_eq : words1.filter isCode = codes1 := rfl
theorem w_codes : ∀ c ∈ words1.filter isCode, c.before args0 about1 = true := by
  rw [codes_eq]
  intro c hc
  simp only [codes1, List.mem_cons, List.not_mem_nil, or_false] at hc
  rcases hc with rfl | rfl | rfl
  · exact w_c0
  · exact w_c1
  · exact w_c2
set_option maxRecDepth 65536 in
theorem w_t1 : words1.all (fun c => isCode c || c.before args0 about1) = true := by decide +kernel
theorem w_tables : (allAtoms (Jvm.Cond.code x code maxLocals ret :: tables_1)).before args0 about1 = true := by
  rw [allAtoms_all]
  show words1.all (fun c => c.before args0 about1) = true
  refine all_split ?_ w_codes
  rw [w_t1]
set_option maxRecDepth 65536 in
theorem w_case : (Jvm.Cond.and given_1 narrow_1).before args0 about1 = true := by decide +kernel
theorem w_applies : (headSpec (Jvm.Cond.code x code maxLocals ret :: tables_1) room_1).applies x e0.platform about1 = true :=
  (Spec.applies_iff w_frames).mpr ⟨w_running, w_runnable, w_alone, w_named, w_hears, w_ripe, w_room, w_tables⟩
theorem atStart : AtStart classFile x code maxLocals ret World_1 tables_1 room_1 Calls_1 rest_1 Pre_1 launch0 p0 e0 about1 theMethod args0 below0 :=
  ⟨lists_1, trivial, launch0.admits_env _ _ _, launch0.least_env, fairChoices_fair.cas, fairChoices_fair.clock, w_frames, w_args, w_heap, w_applies, trivial, trivial, w_case⟩
end start1
theorem witness_1 : WitnessClaimed_1 := ⟨start1.p0, start1.e0, start1.about1, start1.theMethod, start1.args0, start1.below0, start1.atStart⟩
end Jvm.Pilot.@@N@@

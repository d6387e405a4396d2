import JvmDerived
import JvmDerived.Pilot.@@N@@Statement
import JvmDerived.Pilot.@@N@@Code
set_option linter.unusedVariables false
set_option linter.unusedSimpArgs false
namespace Jvm.Pilot.@@N@@
open Jvm Jvm.ClassFile Sem Op Lib Jvm.Free Jvm.Stand Jvm.LawKit Jvm.RoadKit Bundle Jvm.Pilot.@@N@@.Jvm.D
abbrev Gets (p : Program) (e : Env) (below : List Frame) (S0 S : State) : Prop := ∀ t, Steps p.tables e below S t → Steps p.tables e below S0 t
section Own
variable {p : Program} {e : Env} {below : List Frame} {S0 T : State} {m : MethodId} {c : Code} {pc q : Nat} {Ls : Array Slot} {st : List Value}
theorem own_iadd {x y v : Int32} (G : Gets p e below S0 (T.setTop (mkF m pc Ls (.int y :: .int x :: st)))) (h : At T m c below) (hx : p.tables.exec = Jvm.exec) (hd : decode c.code pc = .ok (.iadd, 1)) (hv : x + y = v) (hq : pc + 1 = q) : Gets p e below S0 (T.setTop (mkF m q Ls (.int v :: st))) := by
  subst hv hq; exact fun t k => G t (XS.iadd h hx rfl hd rfl k)
theorem own_isub {x y v : Int32} (G : Gets p e below S0 (T.setTop (mkF m pc Ls (.int y :: .int x :: st)))) (h : At T m c below) (hx : p.tables.exec = Jvm.exec) (hd : decode c.code pc = .ok (.isub, 1)) (hv : x - y = v) (hq : pc + 1 = q) : Gets p e below S0 (T.setTop (mkF m q Ls (.int v :: st))) := by
  subst hv hq; exact fun t k => G t (XS.isub h hx rfl hd rfl k)
theorem own_imul {x y v : Int32} (G : Gets p e below S0 (T.setTop (mkF m pc Ls (.int y :: .int x :: st)))) (h : At T m c below) (hx : p.tables.exec = Jvm.exec) (hd : decode c.code pc = .ok (.imul, 1)) (hv : x * y = v) (hq : pc + 1 = q) : Gets p e below S0 (T.setTop (mkF m q Ls (.int v :: st))) := by
  subst hv hq; exact fun t k => G t (XS.imul h hx rfl hd rfl k)
theorem own_iand {x y v : Int32} (G : Gets p e below S0 (T.setTop (mkF m pc Ls (.int y :: .int x :: st)))) (h : At T m c below) (hx : p.tables.exec = Jvm.exec) (hd : decode c.code pc = .ok (.iand, 1)) (hv : x &&& y = v) (hq : pc + 1 = q) : Gets p e below S0 (T.setTop (mkF m q Ls (.int v :: st))) := by
  subst hv hq; exact fun t k => G t (XS.iand h hx rfl hd rfl k)
theorem own_lmul {x y v : Int64} (G : Gets p e below S0 (T.setTop (mkF m pc Ls (.long y :: .long x :: st)))) (h : At T m c below) (hx : p.tables.exec = Jvm.exec) (hd : decode c.code pc = .ok (.lmul, 1)) (hv : x * y = v) (hq : pc + 1 = q) : Gets p e below S0 (T.setTop (mkF m q Ls (.long v :: st))) := by
  subst hv hq; exact fun t k => G t (XS.lmul h hx rfl hd rfl k)
theorem own_irem {x y v : Int32} (G : Gets p e below S0 (T.setTop (mkF m pc Ls (.int y :: .int x :: st)))) (h : At T m c below) (hx : p.tables.exec = Jvm.exec) (hd : decode c.code pc = .ok (.irem, 1)) (hy : y ≠ 0) (hv : x % y = v) (hq : pc + 1 = q) : Gets p e below S0 (T.setTop (mkF m q Ls (.int v :: st))) := by
  subst hv hq; exact fun t k => G t (XS.irem h hx rfl hd rfl hy (by rw [Jvm.irem_eq_mod]; exact k))
theorem own_i2l {x : Int32} {v : Int64} (G : Gets p e below S0 (T.setTop (mkF m pc Ls (.int x :: st)))) (h : At T m c below) (hx : p.tables.exec = Jvm.exec) (hd : decode c.code pc = .ok (.i2l, 1)) (hv : (x.toInt64) = v) (hq : pc + 1 = q) : Gets p e below S0 (T.setTop (mkF m q Ls (.long v :: st))) := by
  subst hv hq; exact fun t k => G t (XS.i2l h hx rfl hd rfl k)
theorem own_l2i {x : Int64} {v : Int32} (G : Gets p e below S0 (T.setTop (mkF m pc Ls (.long x :: st)))) (h : At T m c below) (hx : p.tables.exec = Jvm.exec) (hd : decode c.code pc = .ok (.l2i, 1)) (hv : (x.toInt32) = v) (hq : pc + 1 = q) : Gets p e below S0 (T.setTop (mkF m q Ls (.int v :: st))) := by
  subst hv hq; exact fun t k => G t (XS.l2i h hx rfl hd rfl k)
theorem own_i2c {x : Int32} {v : Int32} (G : Gets p e below S0 (T.setTop (mkF m pc Ls (.int x :: st)))) (h : At T m c below) (hx : p.tables.exec = Jvm.exec) (hd : decode c.code pc = .ok (.i2c, 1)) (hv : (x.toUInt32.toUInt16.toUInt32.toInt32) = v) (hq : pc + 1 = q) : Gets p e below S0 (T.setTop (mkF m q Ls (.int v :: st))) := by
  subst hv hq; exact fun t k => G t (XS.i2c h hx rfl hd rfl k)
theorem own_lcmp {x y : Int64} (G : Gets p e below S0 (T.setTop (mkF m pc Ls (.long y :: .long x :: st)))) (h : At T m c below) (hx : p.tables.exec = Jvm.exec) (hd : decode c.code pc = .ok (.lcmp, 1))  (hq : pc + 1 = q) : Gets p e below S0 (T.setTop (mkF m q Ls (.int (lcmpW x y) :: st))) := by
  subst hq; exact fun t k => G t (XS.lcmp h hx rfl hd rfl k)
theorem own_iconst {i : Int} {v : Int32} (G : Gets p e below S0 (T.setTop (mkF m pc Ls st))) (h : At T m c below) (hx : p.tables.exec = Jvm.exec) (hd : decode c.code pc = .ok (.iconst i, 1)) (hv : Int32.ofInt i = v) (hq : pc + 1 = q) : Gets p e below S0 (T.setTop (mkF m q Ls (.int v :: st))) := by
  subst hv hq; exact fun t k => G t (XS.iconst h hx rfl hd k)
theorem own_bipush {i : Int} {v : Int32} (G : Gets p e below S0 (T.setTop (mkF m pc Ls st))) (h : At T m c below) (hx : p.tables.exec = Jvm.exec) (hd : decode c.code pc = .ok (.bipush i, 2)) (hv : (Int8.ofInt i).toInt32 = v) (hq : pc + 2 = q) : Gets p e below S0 (T.setTop (mkF m q Ls (.int v :: st))) := by
  subst hv hq; exact fun t k => G t (XS.bipush h hx rfl hd k)
theorem own_sipush {i : Int} {v : Int32} (G : Gets p e below S0 (T.setTop (mkF m pc Ls st))) (h : At T m c below) (hx : p.tables.exec = Jvm.exec) (hd : decode c.code pc = .ok (.sipush i, 3)) (hv : (Int16.ofInt i).toInt32 = v) (hq : pc + 3 = q) : Gets p e below S0 (T.setTop (mkF m q Ls (.int v :: st))) := by
  subst hv hq; exact fun t k => G t (XS.sipush h hx rfl hd k)
theorem own_aconst_null  (G : Gets p e below S0 (T.setTop (mkF m pc Ls st))) (h : At T m c below) (hx : p.tables.exec = Jvm.exec) (hd : decode c.code pc = .ok (.aconst_null, 1))  (hq : pc + 1 = q) : Gets p e below S0 (T.setTop (mkF m q Ls (.null :: st))) := by
  subst hq; exact fun t k => G t (XS.aconstNull h hx rfl hd k)
theorem own_iload {i : Nat} {v : Int32} (G : Gets p e below S0 (T.setTop (mkF m pc Ls st))) (h : At T m c below) (hx : p.tables.exec = Jvm.exec) (hd : decode c.code pc = .ok (.iload i, 2)) (hl : Ls[i]? = some (.val (.int v))) (hq : pc + 2 = q) : Gets p e below S0 (T.setTop (mkF m q Ls (.int v :: st))) := by
  subst hq; exact fun t k => G t (XS.iload h hx rfl hd hl k)
theorem own_iloadN {i : Fin 4} {v : Int32} (G : Gets p e below S0 (T.setTop (mkF m pc Ls st))) (h : At T m c below) (hx : p.tables.exec = Jvm.exec) (hd : decode c.code pc = .ok (.iload_n i, 1)) (hl : Ls[i.val]? = some (.val (.int v))) (hq : pc + 1 = q) : Gets p e below S0 (T.setTop (mkF m q Ls (.int v :: st))) := by
  subst hq; exact fun t k => G t (XS.iloadN h hx rfl hd hl k)
theorem own_lloadN {i : Fin 4} {v : Int64} (G : Gets p e below S0 (T.setTop (mkF m pc Ls st))) (h : At T m c below) (hx : p.tables.exec = Jvm.exec) (hd : decode c.code pc = .ok (.lload_n i, 1)) (hl : Ls[i.val]? = some (.val (.long v))) (hq : pc + 1 = q) : Gets p e below S0 (T.setTop (mkF m q Ls (.long v :: st))) := by
  subst hq; exact fun t k => G t (XS.lloadN h hx rfl hd hl k)
theorem own_aload {i : Nat} {v : Value} (G : Gets p e below S0 (T.setTop (mkF m pc Ls st))) (h : At T m c below) (hx : p.tables.exec = Jvm.exec) (hd : decode c.code pc = .ok (.aload i, 2)) (hl : Ls[i]? = some (.val v)) (hv : v.isRef = true) (hq : pc + 2 = q) : Gets p e below S0 (T.setTop (mkF m q Ls (v :: st))) := by
  subst hq; exact fun t k => G t (XS.aload h hx rfl hd hl hv k)
theorem own_aloadN {i : Fin 4} {v : Value} (G : Gets p e below S0 (T.setTop (mkF m pc Ls st))) (h : At T m c below) (hx : p.tables.exec = Jvm.exec) (hd : decode c.code pc = .ok (.aload_n i, 1)) (hl : Ls[i.val]? = some (.val v)) (hv : v.isRef = true) (hq : pc + 1 = q) : Gets p e below S0 (T.setTop (mkF m q Ls (v :: st))) := by
  subst hq; exact fun t k => G t (XS.aloadN h hx rfl hd hl hv k)
theorem own_istore {i : Nat} {v : Int32} {l' : Array Slot} (G : Gets p e below S0 (T.setTop (mkF m pc Ls (.int v :: st)))) (h : At T m c below) (hx : p.tables.exec = Jvm.exec) (hd : decode c.code pc = .ok (.istore i, 2)) (hl : storeLocals Ls i (.int v) = some l') (hq : pc + 2 = q) : Gets p e below S0 (T.setTop (mkF m q l' st)) := by
  subst hq; exact fun t k => G t (XS.istore h hx rfl hd rfl hl k)
theorem own_istoreN {i : Fin 4} {v : Int32} {l' : Array Slot} (G : Gets p e below S0 (T.setTop (mkF m pc Ls (.int v :: st)))) (h : At T m c below) (hx : p.tables.exec = Jvm.exec) (hd : decode c.code pc = .ok (.istore_n i, 1)) (hl : storeLocals Ls i.val (.int v) = some l') (hq : pc + 1 = q) : Gets p e below S0 (T.setTop (mkF m q l' st)) := by
  subst hq; exact fun t k => G t (XS.istoreN h hx rfl hd rfl hl k)
theorem own_lstoreN {i : Fin 4} {v : Int64} {l' : Array Slot} (G : Gets p e below S0 (T.setTop (mkF m pc Ls (.long v :: st)))) (h : At T m c below) (hx : p.tables.exec = Jvm.exec) (hd : decode c.code pc = .ok (.lstore_n i, 1)) (hl : storeLocals Ls i.val (.long v) = some l') (hq : pc + 1 = q) : Gets p e below S0 (T.setTop (mkF m q l' st)) := by
  subst hq; exact fun t k => G t (XS.lstoreN h hx rfl hd rfl hl k)
theorem own_astore {i : Nat} {v : Value} {l' : Array Slot} (G : Gets p e below S0 (T.setTop (mkF m pc Ls (v :: st)))) (h : At T m c below) (hx : p.tables.exec = Jvm.exec) (hd : decode c.code pc = .ok (.astore i, 2)) (hv : v.isRef = true) (hl : storeLocals Ls i v = some l') (hq : pc + 2 = q) : Gets p e below S0 (T.setTop (mkF m q l' st)) := by
  subst hq; exact fun t k => G t (XS.astore h hx rfl hd rfl hv hl k)
theorem own_astoreN {i : Fin 4} {v : Value} {l' : Array Slot} (G : Gets p e below S0 (T.setTop (mkF m pc Ls (v :: st)))) (h : At T m c below) (hx : p.tables.exec = Jvm.exec) (hd : decode c.code pc = .ok (.astore_n i, 1)) (hv : v.isRef = true) (hl : storeLocals Ls i.val v = some l') (hq : pc + 1 = q) : Gets p e below S0 (T.setTop (mkF m q l' st)) := by
  subst hq; exact fun t k => G t (XS.astoreN h hx rfl hd rfl hv hl k)
theorem own_iinc {i : Nat} {d : Int} {x w v : Int32} {l' : Array Slot} (G : Gets p e below S0 (T.setTop (mkF m pc Ls st))) (h : At T m c below) (hx : p.tables.exec = Jvm.exec) (hd : decode c.code pc = .ok (.iinc i d, 3)) (hw : Int32.ofInt d = w) (hl : Ls[i]? = some (.val (.int x))) (hv : x + w = v) (hl' : storeLocals Ls i (.int v) = some l') (hq : pc + 3 = q) : Gets p e below S0 (T.setTop (mkF m q l' st)) := by
  subst hw hv hq; exact fun t k => G t (XS.iinc h hx rfl hd hl hl' k)
theorem own_dup {x : Value} (G : Gets p e below S0 (T.setTop (mkF m pc Ls (x :: st)))) (h : At T m c below) (hx : p.tables.exec = Jvm.exec) (hd : decode c.code pc = .ok (.dup, 1)) (hc : x.category = 1) (hq : pc + 1 = q) : Gets p e below S0 (T.setTop (mkF m q Ls (x :: x :: st))) := by
  subst hq; exact fun t k => G t (XS.dup h hx rfl hd rfl hc k)
theorem own_dup_x1 {x y : Value} (G : Gets p e below S0 (T.setTop (mkF m pc Ls (x :: y :: st)))) (h : At T m c below) (hx : p.tables.exec = Jvm.exec) (hd : decode c.code pc = .ok (.dup_x1, 1)) (hc : x.category = 1) (hc2 : y.category = 1) (hq : pc + 1 = q) : Gets p e below S0 (T.setTop (mkF m q Ls (x :: y :: x :: st))) := by
  subst hq; exact fun t k => G t (XS.dupX1 h hx rfl hd rfl hc hc2 k)
theorem own_pop {x : Value} (G : Gets p e below S0 (T.setTop (mkF m pc Ls (x :: st)))) (h : At T m c below) (hx : p.tables.exec = Jvm.exec) (hd : decode c.code pc = .ok (.pop, 1)) (hc : x.category = 1) (hq : pc + 1 = q) : Gets p e below S0 (T.setTop (mkF m q Ls st)) := by
  subst hq; exact fun t k => G t (XS.pop h hx rfl hd rfl hc k)
theorem own_goto {o : Int} (G : Gets p e below S0 (T.setTop (mkF m pc Ls st))) (h : At T m c below) (hx : p.tables.exec = Jvm.exec) (hd : decode c.code pc = .ok (.goto o, 3))  (ho : 0 ≤ (pc : Int) + o) (hp : ((pc : Int) + o).toNat = q) : Gets p e below S0 (T.setTop (mkF m q Ls st)) := by
  exact fun t k => G t (XS.goto h hx rfl rfl hd ho hp k)
theorem own_ifYes {cd : ClassFile.Cond} {o : Int} {x : Int32} (G : Gets p e below S0 (T.setTop (mkF m pc Ls (.int x :: st)))) (h : At T m c below) (hx : p.tables.exec = Jvm.exec) (hd : decode c.code pc = .ok (.ifCond cd o, 3)) (hc : ifCond.holds cd x = true) (ho : 0 ≤ (pc : Int) + o) (hp : ((pc : Int) + o).toNat = q) : Gets p e below S0 (T.setTop (mkF m q Ls st)) := by
  exact fun t k => G t (XS.ifYes h hx rfl rfl hd rfl hc ho hp k)
theorem own_ifNo {cd : ClassFile.Cond} {o : Int} {x : Int32} (G : Gets p e below S0 (T.setTop (mkF m pc Ls (.int x :: st)))) (h : At T m c below) (hx : p.tables.exec = Jvm.exec) (hd : decode c.code pc = .ok (.ifCond cd o, 3)) (hc : ifCond.holds cd x = false) (hq : pc + 3 = q) : Gets p e below S0 (T.setTop (mkF m q Ls st)) := by
  subst hq; exact fun t k => G t (XS.ifNo h hx rfl hd rfl hc k)
theorem own_icmpYes {cd : ClassFile.Cond} {o : Int} {x y : Int32} (G : Gets p e below S0 (T.setTop (mkF m pc Ls (.int y :: .int x :: st)))) (h : At T m c below) (hx : p.tables.exec = Jvm.exec) (hd : decode c.code pc = .ok (.if_icmp cd o, 3)) (hc : if_icmp.holds cd x y = true) (ho : 0 ≤ (pc : Int) + o) (hp : ((pc : Int) + o).toNat = q) : Gets p e below S0 (T.setTop (mkF m q Ls st)) := by
  exact fun t k => G t (XS.icmpYes h hx rfl rfl hd rfl hc ho hp k)
theorem own_icmpNo {cd : ClassFile.Cond} {o : Int} {x y : Int32} (G : Gets p e below S0 (T.setTop (mkF m pc Ls (.int y :: .int x :: st)))) (h : At T m c below) (hx : p.tables.exec = Jvm.exec) (hd : decode c.code pc = .ok (.if_icmp cd o, 3)) (hc : if_icmp.holds cd x y = false) (hq : pc + 3 = q) : Gets p e below S0 (T.setTop (mkF m q Ls st)) := by
  subst hq; exact fun t k => G t (XS.icmpNo h hx rfl hd rfl hc k)
theorem own_sel {s : State} {args : Array Value} {y z : MethodName} (hz : z.cls = y.cls) (w1 : (Jvm.Cond.instanceMethod z).before args s = true) (w2 : (Jvm.Cond.selects z.cls z z).before args s = true) (hinst : (Jvm.Cond.instanceMethod y).before args s = true) (hp : s.PrivateAt y) (hy : y.cls ≠ "java/lang/invoke/MethodHandle" ∧ y.cls ≠ "java/lang/invoke/VarHandle") : (Jvm.Cond.selects y.cls y y).before args s = true := by
  obtain ⟨r, mz, hn, -, -, -⟩ := Cond.instanceMethod_spec w1
  obtain ⟨k, hk, hi⟩ := notFace_of_selects w2 r hn
  exact selects_self_of_private (hz ▸ findClass_of_methodNamed hn) hk hi hp hinst hy
end Own
theorem own_lt32 {x y : Int32} : x < y ↔ x.toInt < y.toInt := Int32.lt_iff_toInt_lt
theorem own_rem {i u : Int32} (d : Int32) (k : Int) (hk : d.toInt = k) (h0 : 0 < k) (h : (u &&& 2147483647) % d = i) : 0 ≤ i.toInt ∧ i.toInt < k := by
  have a1 := c_mask u 2147483647 31 (by decide) (by decide)
  have a2 := (c_irem (u &&& 2147483647) d k hk).1 (by omega)
  rw [h] at a2
  have m2 := Int.emod_nonneg (u &&& 2147483647).toInt (show k ≠ 0 by omega)
  have m3 := Int.emod_lt_of_pos (u &&& 2147483647).toInt h0
  omega
theorem own_num {i : Int32} (k : Int32) (h : i.toInt = k.toInt) : i = k := Int32.toInt_inj.mp h
theorem own_cases5 {i : Int32} (h : 0 ≤ i.toInt ∧ i.toInt < 5) : i = 0 ∨ i = 1 ∨ i = 2 ∨ i = 3 ∨ i = 4 := by
  have e0 : (0 : Int32).toInt = 0 := rfl
  have e1 : (1 : Int32).toInt = 1 := rfl
  have e2 : (2 : Int32).toInt = 2 := rfl
  have e3 : (3 : Int32).toInt = 3 := rfl
  have e4 : (4 : Int32).toInt = 4 := rfl
  have q : i.toInt = 0 ∨ i.toInt = 1 ∨ i.toInt = 2 ∨ i.toInt = 3 ∨ i.toInt = 4 := by omega
  rcases q with q | q | q | q | q
  · exact Or.inl (own_num 0 q)
  · exact Or.inr (Or.inl (own_num 1 q))
  · exact Or.inr (Or.inr (Or.inl (own_num 2 q)))
  · exact Or.inr (Or.inr (Or.inr (Or.inl (own_num 3 q))))
  · exact Or.inr (Or.inr (Or.inr (Or.inr ((own_num 4 q)))))
theorem own_nar (x : Int32) : nar .char x.toUInt32.toUInt16.toUInt32.toInt32 = x.toUInt32.toUInt16.toUInt32.toInt32 := by
  show x.toUInt32.toUInt16.toUInt32.toInt32.toUInt32.toUInt16.toUInt32.toInt32 = _
  simp only [UInt32.toUInt32_toInt32, UInt16.toUInt16_toUInt32]
theorem own_ns {args : Array Value} {s : State} {t : Term} {a : Addr} (hf : Fit s) (ht : t.eval args s none [] s = some (.ref a)) (ha : (Jvm.Cond.arrayOf t .char).value args s none s [] = some true) (hl : (Jvm.Cond.eq (.length t) (.int 0)).value args s none s [] = some true) : ∃ k, Arv s s.heap a k .char (0 : Int32) [] (.int (0 : Int32)) := by
  obtain ⟨cl, A⟩ := Arr.start ht ha
  have e2 : (Term.int 0).eval args s none [] s = some (.int 0) := Term.int_eval 0
  have hz : cl.slots.size < 2 ^ 31 ∧ cl.slots.size.toInt32 = 0 := by
    have hat : s.arrayAt? a = some cl := Arr.fin (U := s) (Vm.Alike.refl _) A
    by_cases q : cl.slots.size < 2 ^ 31
    · have e1 := len_f ht hat q
      simp [Cond.value, e1, e2] at hl
      exact ⟨q, hl⟩
    · have e1 : (Term.length t).eval args s none [] s = none := by simp [Term.eval, ht, hat, q]
      simp [Cond.value, e1] at hl
  exact ⟨cl.cls, Arv.start hf A hz.1 hz.2 (by decide) rfl trivial⟩

theorem own_h1 (x0 : Int32) : ((0 : Int32) + x0) = x0 := Int32.zero_add x0
theorem own_h2 (x0 x1 : Int32) : (((31 : Int32) * ((0 : Int32) + x0)) + x1) = ((x0 * (31 : Int32)) + x1) := by rw [Int32.zero_add, Int32.mul_comm]
theorem own_h3 (x0 x1 x2 : Int32) : (((31 : Int32) * (((31 : Int32) * ((0 : Int32) + x0)) + x1)) + x2) = (((x0 * (961 : Int32)) + (x1 * (31 : Int32))) + x2) := by
  rw [Int32.zero_add, Int32.mul_add, ← Int32.mul_assoc, show (31 : Int32) * 31 = 961 by decide, Int32.mul_comm 961 x0, Int32.mul_comm 31 x1]
theorem own_h4 (x0 x1 x2 x3 : Int32) : (((31 : Int32) * (((31 : Int32) * (((31 : Int32) * ((0 : Int32) + x0)) + x1)) + x2)) + x3) = ((((x0 * (29791 : Int32)) + (x1 * (961 : Int32))) + (x2 * (31 : Int32))) + x3) := by
  have e1 : (31 : Int32) * (31 * x0 + x1) = 961 * x0 + 31 * x1 := by rw [Int32.mul_add, ← Int32.mul_assoc, show (31 : Int32) * 31 = 961 by decide]
  rw [Int32.zero_add, e1, Int32.mul_add, Int32.mul_add, ← Int32.mul_assoc, ← Int32.mul_assoc, show (31 : Int32) * 31 = 961 by decide, show (31 : Int32) * 961 = 29791 by decide, Int32.mul_comm 29791 x0, Int32.mul_comm 961 x1, Int32.mul_comm 31 x2]
theorem d2_0 : decode prog_6_method_2_code 0 = .ok (.aload_n 0, 1) := by decide +kernel
theorem d2_1 : decode prog_6_method_2_code 1 = .ok (.invokespecial 10, 3) := by decide +kernel
theorem d2_4 : decode prog_6_method_2_code 4 = .ok (.aload_n 0, 1) := by decide +kernel
theorem d2_5 : decode prog_6_method_2_code 5 = .ok (.getstatic 15, 3) := by decide +kernel
theorem d2_8 : decode prog_6_method_2_code 8 = .ok (.putfield 19, 3) := by decide +kernel
theorem d2_11 : decode prog_6_method_2_code 11 = .ok (.iload_n 1, 1) := by decide +kernel
theorem d2_12 : decode prog_6_method_2_code 12 = .ok (.iconst 2, 1) := by decide +kernel
theorem d2_13 : decode prog_6_method_2_code 13 = .ok (.if_icmp .lt 9, 3) := by decide +kernel
theorem d2_16 : decode prog_6_method_2_code 16 = .ok (.iload_n 1, 1) := by decide +kernel
theorem d2_17 : decode prog_6_method_2_code 17 = .ok (.ldc 5, 2) := by decide +kernel
theorem d2_19 : decode prog_6_method_2_code 19 = .ok (.if_icmp .le 17, 3) := by decide +kernel
theorem d2_36 : decode prog_6_method_2_code 36 = .ok (.aload_n 0, 1) := by decide +kernel
theorem d2_37 : decode prog_6_method_2_code 37 = .ok (.iload_n 1, 1) := by decide +kernel
theorem d2_38 : decode prog_6_method_2_code 38 = .ok (.putfield 31, 3) := by decide +kernel
theorem d2_41 : decode prog_6_method_2_code 41 = .ok (.aload_n 0, 1) := by decide +kernel
theorem d2_42 : decode prog_6_method_2_code 42 = .ok (.aload_n 2, 1) := by decide +kernel
theorem d2_43 : decode prog_6_method_2_code 43 = .ok (.putfield 35, 3) := by decide +kernel
theorem d2_46 : decode prog_6_method_2_code 46 = .ok (.return_, 1) := by decide +kernel
theorem pn_com_example_leafcutter_leafcutter_io_TextBuffer : plainName "com/example/leafcutter/leafcutter/io/TextBuffer" = true := by first | (simp [plainName, overriddenIn]; done) | decide +kernel
theorem ef_2 (m : MethodId) (x0 : Addr) : entryFrame m #[(.ref x0), (.int (2147483639 : Int32)), .null] 3 = mkF m 0 #[.val (.ref x0), .val (.int (2147483639 : Int32)), .val .null] [] := by first | (simp [entryFrame, mkF, argsToLocals, Value.category]; done) | rfl
def Q2 (Z : State) (a : Addr) (sa : Addr) (h0 : Heap) (n0 : Nat) (v : Option Value) (h : Heap) (L : List Loc) : Prop := v = none ∧ Fr n0 L ∧ Keep h0 h [a] ∧ (Fld Z h a "com/example/leafcutter/leafcutter/io/TextBuffer" "chars" "[C" (.ref sa)) ∧ (Fld Z h a "com/example/leafcutter/leafcutter/io/TextBuffer" "length" "I" (.int (0 : Int32))) ∧ (Fld Z h a "com/example/leafcutter/leafcutter/io/TextBuffer" "limit" "I" (.int (2147483639 : Int32))) ∧ (Fld Z h a "com/example/leafcutter/leafcutter/io/TextBuffer" "whenFull" "Ljava/util/function/Consumer;" .null)
set_option maxRecDepth 65536 in
set_option maxHeartbeats 40000000 in
theorem rm2 (l : Launch) (Z : State) (a0 : Array Value) (hw : ∀ d ∈ tables_1, d.before a0 Z = true) (ws : List Jvm.Cond) (a : Addr) (sa : Addr) (h0 : Heap) (n0 : Nat) (Z0 : n0 ≤ h0.size) (P0 : Fld Z h0 a "com/example/leafcutter/leafcutter/io/TextBuffer" "chars" "[C" .null) (P1 : Fld Z h0 a "com/example/leafcutter/leafcutter/io/TextBuffer" "length" "I" (.int (0 : Int32))) (P2 : Fld Z h0 a "com/example/leafcutter/leafcutter/io/TextBuffer" "limit" "I" (.int (0 : Int32))) (P3 : Fld Z h0 a "com/example/leafcutter/leafcutter/io/TextBuffer" "whenFull" "Ljava/util/function/Consumer;" .null) (P4 : Exa Z h0 a "com/example/leafcutter/leafcutter/io/TextBuffer") (P5 : n0 ≤ a) (P6 : Sta Z h0 "com/example/leafcutter/leafcutter/io/TextBuffer" "NO_STORAGE" "[C" (.ref sa)) :
    MetFree l (⟨"com/example/leafcutter/leafcutter/io/TextBuffer", "<init>", "(ILjava/util/function/Consumer;)V"⟩ : MethodName) (head1 (Jvm.Cond.code (⟨"com/example/leafcutter/leafcutter/io/TextBuffer", "<init>", "(ILjava/util/function/Consumer;)V"⟩ : MethodName) prog_6_method_2_code 3 none :: ws) ({ frames := 1, cells := 0, slots := 0, locals := 12 } : Room)) (fun argz U => argz = #[(.ref a), (.int (2147483639 : Int32)), .null] ∧ Z.Warmed39 U.vm ∧ U.heap = h0) (fun _ _ _ _ _ => True) (fun _ U o U' => ∃ v L, o = .returned v ∧ Q2 Z a sa h0 n0 v U'.heap L ∧ FrameEnd U o U' L ({ frames := 1, cells := 0, slots := 0, locals := 12 } : Room).cells ({ frames := 1, cells := 0, slots := 0, locals := 12 } : Room).slots) := by
  refine MetFree.of_bodySF (plainFor_of_name pn_com_example_leafcutter_leafcutter_io_TextBuffer) hisR ?_
  intro p e s m args below meth c s₁ Bd hml0 hP hK
  obtain ⟨rfl, hZ, hh⟩ := hP
  have hx := Bd.exec
  have hby := Bd.bytes
  have hml : c.maxLocals = 3 := hml0
  have hown : s.vm.findClass "com/example/leafcutter/leafcutter/io/TextBuffer" = some m.cls := findClass_of_methodNamed Bd.named
  have hnm := (name_of_methodNamed Bd.named Bd.method).1
  have X0 : Stand p l e ({ frames := 1, cells := 0, slots := 0, locals := 12 } : Room) s m #[(.ref a), (.int (2147483639 : Int32)), .null] below meth c s₁ [] 0 0 := Stand.of_body Bd
  have e0 : s₁.heap = h0 := by rw [← hh, Bd.state]; rfl
  have N0 := Fr.nil n0
  have K0 : Keep h0 h0 [a] := Keep.refl _ _
  have G : Gets p e below (s₁.setTop (entryFrame m #[(.ref a), (.int (2147483639 : Int32)), .null] 3)) (s₁.setTop (mkF m 0 #[.val (.ref a), .val (.int (2147483639 : Int32)), .val .null] [])) := fun t k => castTop (ef_2 m a) k
  replace G := own_aloadN (q := 1) G X0.here hx (hb hby d2_0) rfl rfl rfl
  obtain ⟨T1, X1, e1, st1⟩ := initO X0 hx hZ hown (hw _ (List.mem_of_getElem? (i := 11) rfl)) (hw _ (List.mem_of_getElem? (i := 12) rfl)) (hw _ (List.mem_of_getElem? (i := 13) rfl)) e0 (g := (mkF m 1 #[.val (.ref a), .val (.int (2147483639 : Int32)), .val .null] [(.ref a)])) rfl (by rw [hml]; rfl) rfl (hb hby d2_1) (by decide) (W := 0) (by show 2 * 0 + _ ≤ _; exact Nat.le_of_eq rfl) (by decide)
  replace G : Gets p e below _ (T1.setTop (mkF m 4 #[.val (.ref a), .val (.int (2147483639 : Int32)), .val .null] [])) := fun t k => G t (st1 t k)
  replace G := own_aloadN (q := 5) G X1.here hx (hb hby d2_4) rfl rfl rfl
  obtain ⟨T2, X2, e2, st2⟩ := getS2 X1 hx hZ hown (host := "") (Or.inl (hw _ (List.mem_of_getElem? (i := 14) rfl))) Via.refl e1 P6 (g := (mkF m 5 #[.val (.ref a), .val (.int (2147483639 : Int32)), .val .null] [(.ref a)])) rfl (hb hby d2_5)
  replace G : Gets p e below _ (T2.setTop (mkF m 8 #[.val (.ref a), .val (.int (2147483639 : Int32)), .val .null] [(.ref sa), (.ref a)])) := fun t k => G t (st2 t k)
  obtain ⟨T3, h3, X3, e3, W3, st3⟩ := putF X2 hx hZ hown (host := "") (Or.inl (hw _ (List.mem_of_getElem? (i := 16) rfl))) Via.refl e2 P0 P4 (Or.inl (hw _ (List.mem_of_getElem? (i := 17) rfl))) (hw _ (List.mem_of_getElem? (i := 2) rfl)) (ty := (.array .char)) (by decide) rfl rfl (g := (mkF m 8 #[.val (.ref a), .val (.int (2147483639 : Int32)), .val .null] [(.ref sa), (.ref a)])) rfl rfl (hb hby d2_8)
  have N3 := Fr.snoc X3 N0 P5
  have Z3 : n0 ≤ h3.size := Nat.le_trans Z0 (Keep.of_wr W3).1
  have K3 : Keep h0 h3 [a] := K0.wr W3 (Or.inl (List.mem_of_getElem? (i := 0) rfl))
  have F3 : Fld Z h3 a "com/example/leafcutter/leafcutter/io/TextBuffer" "chars" "[C" (.ref sa) := P0.same W3
  replace G : Gets p e below _ (T3.setTop (mkF m 11 #[.val (.ref a), .val (.int (2147483639 : Int32)), .val .null] [])) := fun t k => G t (st3 t k)
  replace G := own_iloadN (q := 12) G X3.here hx (hb hby d2_11) rfl rfl
  replace G := own_iconst (q := 13) G X3.here hx (hb hby d2_12) (v := (2 : Int32)) (by decide) rfl
  have hc13_4 : ¬ ((2147483639 : Int32) < (2 : Int32)) := by decide
  replace G := own_icmpNo (q := 16) G X3.here hx (hb hby d2_13) (flt hc13_4).1 rfl
  replace G := own_iloadN (q := 17) G X3.here hx (hb hby d2_16) rfl rfl
  replace G : Gets p e below _ (T3.setTop (mkF m 19 #[.val (.ref a), .val (.int (2147483639 : Int32)), .val .null] [(.int (2147483639 : Int32)), (.int (2147483639 : Int32))])) := fun t k => G t (X3.ldcInt hx hown (mvT hZ (hw _ (List.mem_of_getElem? (i := 7) rfl))) (g := (mkF m 17 #[.val (.ref a), .val (.int (2147483639 : Int32)), .val .null] [(.int (2147483639 : Int32))])) rfl (hb hby d2_17) t k)
  have hc19_5 : ¬ ((2147483639 : Int32) < (2147483639 : Int32)) := by decide
  replace G := own_icmpYes (q := 36) G X3.here hx (hb hby d2_19) (flt hc19_5).2.2.2 (by decide) (by decide)
  replace G := own_aloadN (q := 37) G X3.here hx (hb hby d2_36) rfl rfl rfl
  replace G := own_iloadN (q := 38) G X3.here hx (hb hby d2_37) rfl rfl
  have F6 : Exa Z h3 a "com/example/leafcutter/leafcutter/io/TextBuffer" := (P4.wr W3)
  have F7 : Fld Z h3 a "com/example/leafcutter/leafcutter/io/TextBuffer" "limit" "I" (.int (0 : Int32)) := (P2.other W3 (Or.inr (slot_ne (Or.inr (hw _ (List.mem_of_getElem? (i := 19) rfl))) (Or.inl (hw _ (List.mem_of_getElem? (i := 17) rfl))) (by decide) (t := .int) (t' := (.array .char)) (by decide) (by decide))))
  obtain ⟨T8, h8, X8, e8, W8, st8⟩ := putF X3 hx hZ hown (host := "") (Or.inl (hw _ (List.mem_of_getElem? (i := 18) rfl))) Via.refl e3 F7 F6 (Or.inr ⟨(hw _ (List.mem_of_getElem? (i := 19) rfl)), rfl, hnm⟩) (hw _ (List.mem_of_getElem? (i := 2) rfl)) (ty := .int) (by decide) rfl rfl (g := (mkF m 38 #[.val (.ref a), .val (.int (2147483639 : Int32)), .val .null] [(.int (2147483639 : Int32)), (.ref a)])) rfl rfl (hb hby d2_38)
  have N8 := Fr.snoc X8 N3 P5
  have Z8 : n0 ≤ h8.size := Nat.le_trans Z3 (Keep.of_wr W8).1
  have K8 : Keep h0 h8 [a] := K3.wr W8 (Or.inl (List.mem_of_getElem? (i := 0) rfl))
  have F8 : Fld Z h8 a "com/example/leafcutter/leafcutter/io/TextBuffer" "limit" "I" (.int (2147483639 : Int32)) := F7.same W8
  replace G : Gets p e below _ (T8.setTop (mkF m 41 #[.val (.ref a), .val (.int (2147483639 : Int32)), .val .null] [])) := fun t k => G t (st8 t k)
  replace G := own_aloadN (q := 42) G X8.here hx (hb hby d2_41) rfl rfl rfl
  replace G := own_aloadN (q := 43) G X8.here hx (hb hby d2_42) rfl rfl rfl
  have F9 : Exa Z h8 a "com/example/leafcutter/leafcutter/io/TextBuffer" := (F6.wr W8)
  have F10 : Fld Z h8 a "com/example/leafcutter/leafcutter/io/TextBuffer" "whenFull" "Ljava/util/function/Consumer;" .null := ((P3.other W3 (Or.inr (slot_ne (Or.inr (hw _ (List.mem_of_getElem? (i := 21) rfl))) (Or.inl (hw _ (List.mem_of_getElem? (i := 17) rfl))) (by decide) (t := (.object "java/util/function/Consumer")) (t' := (.array .char)) (by decide) (by decide)))).other W8 (Or.inr (slot_ne (Or.inr (hw _ (List.mem_of_getElem? (i := 21) rfl))) (Or.inr (hw _ (List.mem_of_getElem? (i := 19) rfl))) (by decide) (t := (.object "java/util/function/Consumer")) (t' := .int) (by decide) (by decide))))
  obtain ⟨T11, h11, X11, e11, W11, st11⟩ := putF X8 hx hZ hown (host := "") (Or.inl (hw _ (List.mem_of_getElem? (i := 20) rfl))) Via.refl e8 F10 F9 (Or.inr ⟨(hw _ (List.mem_of_getElem? (i := 21) rfl)), rfl, hnm⟩) (hw _ (List.mem_of_getElem? (i := 2) rfl)) (ty := (.object "java/util/function/Consumer")) (by decide) rfl rfl (g := (mkF m 43 #[.val (.ref a), .val (.int (2147483639 : Int32)), .val .null] [.null, (.ref a)])) rfl rfl (hb hby d2_43)
  have N11 := Fr.snoc X11 N8 P5
  have Z11 : n0 ≤ h11.size := Nat.le_trans Z8 (Keep.of_wr W11).1
  have K11 : Keep h0 h11 [a] := K8.wr W11 (Or.inl (List.mem_of_getElem? (i := 0) rfl))
  have F11 : Fld Z h11 a "com/example/leafcutter/leafcutter/io/TextBuffer" "whenFull" "Ljava/util/function/Consumer;" .null := F10.same W11
  replace G : Gets p e below _ (T11.setTop (mkF m 46 #[.val (.ref a), .val (.int (2147483639 : Int32)), .val .null] [])) := fun t k => G t (st11 t k)
  obtain ⟨fs, hr, hrun, hended, hW, hsame⟩ := X11.leave (v := none) (fun _ => rfl)
  refine ⟨_, _, G _ (X11.returnOut hx Bd.returns (hb hby d2_46) hr), hrun, hended, _, _, rfl, ?_, ⟨_, rfl⟩, hW, hsame.mono (by decide) (by decide)⟩
  have F12 : Fld Z h11 a "com/example/leafcutter/leafcutter/io/TextBuffer" "chars" "[C" (.ref sa) := ((F3.other W8 (Or.inr (slot_ne (Or.inl (hw _ (List.mem_of_getElem? (i := 17) rfl))) (Or.inr (hw _ (List.mem_of_getElem? (i := 19) rfl))) (by decide) (t := (.array .char)) (t' := .int) (by decide) (by decide)))).other W11 (Or.inr (slot_ne (Or.inl (hw _ (List.mem_of_getElem? (i := 17) rfl))) (Or.inr (hw _ (List.mem_of_getElem? (i := 21) rfl))) (by decide) (t := (.array .char)) (t' := (.object "java/util/function/Consumer")) (by decide) (by decide))))
  have F13 : Fld Z h11 a "com/example/leafcutter/leafcutter/io/TextBuffer" "length" "I" (.int (0 : Int32)) := (((P1.other W3 (Or.inr (slot_ne (Or.inl (hw _ (List.mem_of_getElem? (i := 28) rfl))) (Or.inl (hw _ (List.mem_of_getElem? (i := 17) rfl))) (by decide) (t := .int) (t' := (.array .char)) (by decide) (by decide)))).other W8 (Or.inr (slot_ne (Or.inl (hw _ (List.mem_of_getElem? (i := 28) rfl))) (Or.inr (hw _ (List.mem_of_getElem? (i := 19) rfl))) (by decide) (t := .int) (t' := .int) (by decide) (by decide)))).other W11 (Or.inr (slot_ne (Or.inl (hw _ (List.mem_of_getElem? (i := 28) rfl))) (Or.inr (hw _ (List.mem_of_getElem? (i := 21) rfl))) (by decide) (t := .int) (t' := (.object "java/util/function/Consumer")) (by decide) (by decide))))
  have F14 : Fld Z h11 a "com/example/leafcutter/leafcutter/io/TextBuffer" "limit" "I" (.int (2147483639 : Int32)) := (F8.other W11 (Or.inr (slot_ne (Or.inr (hw _ (List.mem_of_getElem? (i := 19) rfl))) (Or.inr (hw _ (List.mem_of_getElem? (i := 21) rfl))) (by decide) (t := .int) (t' := (.object "java/util/function/Consumer")) (by decide) (by decide))))
  show Q2 Z a sa h0 n0 _ T11.heap _
  rw [e11]
  exact ⟨rfl, N11, K11, F12, F13, F14, F11⟩
theorem pd_0 : parseMethodDescriptor "(ILjava/util/function/Consumer;)V" = some ⟨[.int, (.object "java/util/function/Consumer")], none⟩ := by decide +kernel
theorem d1_0 : decode prog_6_method_1_code 0 = .ok (.aload_n 0, 1) := by decide +kernel
theorem d1_1 : decode prog_6_method_1_code 1 = .ok (.ldc 5, 2) := by decide +kernel
theorem d1_3 : decode prog_6_method_1_code 3 = .ok (.aconst_null, 1) := by decide +kernel
theorem d1_4 : decode prog_6_method_1_code 4 = .ok (.invokespecial 6, 3) := by decide +kernel
theorem d1_7 : decode prog_6_method_1_code 7 = .ok (.return_, 1) := by decide +kernel
theorem ef_1 (m : MethodId) (x0 : Addr) : entryFrame m #[(.ref x0)] 1 = mkF m 0 #[.val (.ref x0)] [] := by first | (simp [entryFrame, mkF, argsToLocals, Value.category]; done) | rfl
def Q1 (Z : State) (a : Addr) (sa : Addr) (h0 : Heap) (n0 : Nat) (v : Option Value) (h : Heap) (L : List Loc) : Prop := v = none ∧ Fr n0 L ∧ Keep h0 h [a] ∧ (Fld Z h a "com/example/leafcutter/leafcutter/io/TextBuffer" "chars" "[C" (.ref sa)) ∧ (Fld Z h a "com/example/leafcutter/leafcutter/io/TextBuffer" "length" "I" (.int (0 : Int32))) ∧ (Fld Z h a "com/example/leafcutter/leafcutter/io/TextBuffer" "limit" "I" (.int (2147483639 : Int32))) ∧ (Fld Z h a "com/example/leafcutter/leafcutter/io/TextBuffer" "whenFull" "Ljava/util/function/Consumer;" .null)
set_option maxRecDepth 65536 in
set_option maxHeartbeats 40000000 in
theorem rm1 (l : Launch) (Z : State) (a0 : Array Value) (hw : ∀ d ∈ tables_1, d.before a0 Z = true) (ws : List Jvm.Cond) (a : Addr) (sa : Addr) (h0 : Heap) (n0 : Nat) (Z0 : n0 ≤ h0.size) (P0 : Fld Z h0 a "com/example/leafcutter/leafcutter/io/TextBuffer" "chars" "[C" .null) (P1 : Fld Z h0 a "com/example/leafcutter/leafcutter/io/TextBuffer" "length" "I" (.int (0 : Int32))) (P2 : Fld Z h0 a "com/example/leafcutter/leafcutter/io/TextBuffer" "limit" "I" (.int (0 : Int32))) (P3 : Fld Z h0 a "com/example/leafcutter/leafcutter/io/TextBuffer" "whenFull" "Ljava/util/function/Consumer;" .null) (P4 : Exa Z h0 a "com/example/leafcutter/leafcutter/io/TextBuffer") (P5 : n0 ≤ a) (P6 : Sta Z h0 "com/example/leafcutter/leafcutter/io/TextBuffer" "NO_STORAGE" "[C" (.ref sa)) :
    MetFree l (⟨"com/example/leafcutter/leafcutter/io/TextBuffer", "<init>", "()V"⟩ : MethodName) (head1 (Jvm.Cond.code (⟨"com/example/leafcutter/leafcutter/io/TextBuffer", "<init>", "()V"⟩ : MethodName) prog_6_method_1_code 1 none :: ws) ({ frames := 2, cells := 0, slots := 0, locals := 26 } : Room)) (fun argz U => argz = #[(.ref a)] ∧ Z.Warmed39 U.vm ∧ U.heap = h0) (fun _ _ _ _ _ => True) (fun _ U o U' => ∃ v L, o = .returned v ∧ Q1 Z a sa h0 n0 v U'.heap L ∧ FrameEnd U o U' L ({ frames := 2, cells := 0, slots := 0, locals := 26 } : Room).cells ({ frames := 2, cells := 0, slots := 0, locals := 26 } : Room).slots) := by
  refine MetFree.of_bodySF (plainFor_of_name pn_com_example_leafcutter_leafcutter_io_TextBuffer) hisR ?_
  intro p e s m args below meth c s₁ Bd hml0 hP hK
  obtain ⟨rfl, hZ, hh⟩ := hP
  have hx := Bd.exec
  have hby := Bd.bytes
  have hml : c.maxLocals = 1 := hml0
  have hown : s.vm.findClass "com/example/leafcutter/leafcutter/io/TextBuffer" = some m.cls := findClass_of_methodNamed Bd.named
  have hnm := (name_of_methodNamed Bd.named Bd.method).1
  have X0 : Stand p l e ({ frames := 2, cells := 0, slots := 0, locals := 26 } : Room) s m #[(.ref a)] below meth c s₁ [] 0 0 := Stand.of_body Bd
  have e0 : s₁.heap = h0 := by rw [← hh, Bd.state]; rfl
  have N0 := Fr.nil n0
  have K0 : Keep h0 h0 [a] := Keep.refl _ _
  have G : Gets p e below (s₁.setTop (entryFrame m #[(.ref a)] 1)) (s₁.setTop (mkF m 0 #[.val (.ref a)] [])) := fun t k => castTop (ef_1 m a) k
  replace G := own_aloadN (q := 1) G X0.here hx (hb hby d1_0) rfl rfl rfl
  replace G : Gets p e below _ (s₁.setTop (mkF m 3 #[.val (.ref a)] [(.int (2147483639 : Int32)), (.ref a)])) := fun t k => G t (X0.ldcInt hx hown (mvT hZ (hw _ (List.mem_of_getElem? (i := 7) rfl))) (g := (mkF m 1 #[.val (.ref a)] [(.ref a)])) rfl (hb hby d1_1) t k)
  replace G := own_aconst_null (q := 4) G X0.here hx (hb hby d1_3) rfl
  obtain ⟨_, _, ⟨T1, L1, kk1, nn1⟩, -, X1, ⟨Lc1, hQ1, l1, y1, z1⟩, st1⟩ := X0.specialBack hx (y := (⟨"com/example/leafcutter/leafcutter/io/TextBuffer", "<init>", "(ILjava/util/function/Consumer;)V"⟩ : MethodName)) rfl hown (mvT hZ (hw _ (List.mem_of_getElem? (i := 8) rfl))) (mvT hZ (hw _ (List.mem_of_getElem? (i := 9) rfl))) (mvT hZ (hw _ (List.mem_of_getElem? (i := 10) rfl))) (by decide) (backOf (W := 0) (rm2 l Z a0 hw [] a sa h0 n0 Z0 P0 P1 P2 P3 P4 P5 P6) hZ (hw _ (List.mem_of_getElem? (i := 10) rfl)) (hw _ (List.mem_of_getElem? (i := 3) rfl)) (by decide) (by decide)) (g := (mkF m 4 #[.val (.ref a)] [.null, (.int (2147483639 : Int32)), (.ref a)])) rfl (by rw [hml]; rfl) (Steps.refl _) (a := a) (argsL := [(.int (2147483639 : Int32)), .null]) (rest := []) (lenOf pd_0 rfl) rfl (by show 2 * 0 + _ ≤ _; exact Nat.le_of_eq rfl) (hb hby d1_4) (fun _ _ => ⟨rfl, e0, (by decide : 0 + 0 ≤ _), (by decide : 0 + 0 ≤ _)⟩)
  dsimp only [Pt.U, Pt.locs, Pt.cells, Pt.slots] at X1 l1 y1 z1 st1 hQ1
  subst l1 y1 z1
  obtain ⟨rfl, N1q, K1q, B1_0, B1_1, B1_2, B1_3⟩ := hQ1
  have Z1 : n0 ≤ T1.heap.size := Nat.le_trans Z0 K1q.1
  have K1 : Keep h0 T1.heap [a] := K0.trans K1q (allS (Or.inl (List.mem_of_getElem? (i := 0) rfl)) all0)
  have N1 := Fr.app N0 N1q
  replace G : Gets p e below _ (T1.setTop (mkF m 7 #[.val (.ref a)] [])) := fun t k => G t (st1.trans k)
  obtain ⟨fs, hr, hrun, hended, hW, hsame⟩ := X1.leave (v := none) (fun _ => rfl)
  refine ⟨_, _, G _ (X1.returnOut hx Bd.returns (hb hby d1_7) hr), hrun, hended, _, _, rfl, ?_, ⟨_, rfl⟩, hW, hsame.mono (by decide) (by decide)⟩
  show Q1 Z a sa h0 n0 _ T1.heap _
  exact ⟨rfl, N1, K1, B1_0, B1_1, B1_2, B1_3⟩
theorem d6_0 : decode jdk_29_method_69_code 0 = .ok (.iload_n 0, 1) := by decide +kernel
theorem d6_1 : decode jdk_29_method_69_code 1 = .ok (.iload_n 1, 1) := by decide +kernel
theorem d6_2 : decode jdk_29_method_69_code 2 = .ok (.if_icmp .gt 7, 3) := by decide +kernel
theorem d6_5 : decode jdk_29_method_69_code 5 = .ok (.iload_n 0, 1) := by decide +kernel
theorem d6_6 : decode jdk_29_method_69_code 6 = .ok (.goto 4, 3) := by decide +kernel
theorem d6_10 : decode jdk_29_method_69_code 10 = .ok (.ireturn, 1) := by decide +kernel
theorem ef_6c0 (m : MethodId)  : entryFrame m #[(.int (0 : Int32)), (.int (16 : Int32))] 2 = mkF m 0 #[.val (.int (0 : Int32)), .val (.int (16 : Int32))] [] := by first | (simp [entryFrame, mkF, argsToLocals, Value.category]; done) | rfl
def Q6c0 (Z : State)  (h0 : Heap) (n0 : Nat) (v : Option Value) (h : Heap) (L : List Loc) : Prop := v = some (.int (0 : Int32)) ∧ Fr n0 L ∧ h = h0
set_option maxRecDepth 65536 in
set_option maxHeartbeats 40000000 in
theorem rm6c0 (l : Launch) (Z : State) (a0 : Array Value) (hw : ∀ d ∈ tables_1, d.before a0 Z = true) (ws : List Jvm.Cond)  (h0 : Heap) (n0 : Nat) (Z0 : n0 ≤ h0.size)  :
    MetFree l (⟨"java/lang/Math", "min", "(II)I"⟩ : MethodName) (head1 (Jvm.Cond.code (⟨"java/lang/Math", "min", "(II)I"⟩ : MethodName) jdk_29_method_69_code 2 (some .int) :: ws) ({ frames := 0, cells := 0, slots := 0, locals := 0 } : Room)) (fun argz U => argz = #[(.int (0 : Int32)), (.int (16 : Int32))] ∧ Z.Warmed39 U.vm ∧ U.heap = h0) (fun _ _ _ _ _ => True) (fun _ U o U' => ∃ v L, o = .returned v ∧ Q6c0 Z  h0 n0 v U'.heap L ∧ FrameEnd U o U' L ({ frames := 0, cells := 0, slots := 0, locals := 0 } : Room).cells ({ frames := 0, cells := 0, slots := 0, locals := 0 } : Room).slots) := by
  refine MetFree.of_bodySF (Jvm.Free.JP.mathPlain rfl (by decide +kernel)) hisR ?_
  intro p e s m args below meth c s₁ Bd hml0 hP hK
  obtain ⟨rfl, hZ, hh⟩ := hP
  have hx := Bd.exec
  have hby := Bd.bytes
  have hml : c.maxLocals = 2 := hml0
  have hown : s.vm.findClass "java/lang/Math" = some m.cls := findClass_of_methodNamed Bd.named
  have hnm := (name_of_methodNamed Bd.named Bd.method).1
  have X0 : Stand p l e ({ frames := 0, cells := 0, slots := 0, locals := 0 } : Room) s m #[(.int (0 : Int32)), (.int (16 : Int32))] below meth c s₁ [] 0 0 := Stand.of_body Bd
  have e0 : s₁.heap = h0 := by rw [← hh, Bd.state]; rfl
  have N0 := Fr.nil n0
  have G : Gets p e below (s₁.setTop (entryFrame m #[(.int (0 : Int32)), (.int (16 : Int32))] 2)) (s₁.setTop (mkF m 0 #[.val (.int (0 : Int32)), .val (.int (16 : Int32))] [])) := fun t k => castTop (ef_6c0 m ) k
  replace G := own_iloadN (q := 1) G X0.here hx (hb hby d6_0) rfl rfl
  replace G := own_iloadN (q := 2) G X0.here hx (hb hby d6_1) rfl rfl
  have hc2_1 : ¬ ((16 : Int32) < (0 : Int32)) := by decide
  replace G := own_icmpNo (q := 5) G X0.here hx (hb hby d6_2) (flt hc2_1).2.2.1 rfl
  replace G := own_iloadN (q := 6) G X0.here hx (hb hby d6_5) rfl rfl
  replace G := own_goto (q := 10) G X0.here hx (hb hby d6_6) (by decide) (by decide)
  obtain ⟨fs, hr, hrun, hended, hW, hsame⟩ := X0.leave (v := some (.int (0 : Int32))) (fun h => by rw [Bd.returns] at h; cases h)
  refine ⟨_, _, G _ (retOut X0 hx Bd.returns rfl (Or.inl ⟨rfl, Or.inl rfl, _, rfl⟩) (hb hby d6_10) hr), hrun, hended, _, _, rfl, ?_, ⟨_, rfl⟩, hW, hsame.mono (by decide) (by decide)⟩
  show Q6c0 Z  h0 n0 _ s₁.heap _
  rw [e0]
  exact ⟨rfl, N0, rfl⟩
theorem pd_1 : parseMethodDescriptor "(II)I" = some ⟨[.int, .int], some .int⟩ := by decide +kernel
theorem d10_0 : decode jdk_65_method_125_code 0 = .ok (.iload_n 1, 1) := by decide +kernel
theorem d10_1 : decode jdk_65_method_125_code 1 = .ok (.aload_n 0, 1) := by decide +kernel
theorem d10_2 : decode jdk_65_method_125_code 2 = .ok (.arraylength, 1) := by decide +kernel
theorem d10_3 : decode jdk_65_method_125_code 3 = .ok (.if_icmp .ne 11, 3) := by decide +kernel
theorem d10_14 : decode jdk_65_method_125_code 14 = .ok (.iload_n 1, 1) := by decide +kernel
theorem d10_15 : decode jdk_65_method_125_code 15 = .ok (.newarray .char, 2) := by decide +kernel
theorem d10_17 : decode jdk_65_method_125_code 17 = .ok (.astore_n 2, 1) := by decide +kernel
theorem d10_18 : decode jdk_65_method_125_code 18 = .ok (.aload_n 0, 1) := by decide +kernel
theorem d10_19 : decode jdk_65_method_125_code 19 = .ok (.iconst 0, 1) := by decide +kernel
theorem d10_20 : decode jdk_65_method_125_code 20 = .ok (.aload_n 2, 1) := by decide +kernel
theorem d10_21 : decode jdk_65_method_125_code 21 = .ok (.iconst 0, 1) := by decide +kernel
theorem d10_22 : decode jdk_65_method_125_code 22 = .ok (.aload_n 0, 1) := by decide +kernel
theorem d10_23 : decode jdk_65_method_125_code 23 = .ok (.arraylength, 1) := by decide +kernel
theorem d10_24 : decode jdk_65_method_125_code 24 = .ok (.iload_n 1, 1) := by decide +kernel
theorem d10_25 : decode jdk_65_method_125_code 25 = .ok (.invokestatic 304, 3) := by decide +kernel
theorem d10_28 : decode jdk_65_method_125_code 28 = .ok (.invokestatic 150, 3) := by decide +kernel
theorem d10_31 : decode jdk_65_method_125_code 31 = .ok (.aload_n 2, 1) := by decide +kernel
theorem d10_32 : decode jdk_65_method_125_code 32 = .ok (.areturn, 1) := by decide +kernel
theorem pn_java_util_Arrays : plainName "java/util/Arrays" = true := by first | (simp [plainName, overriddenIn]; done) | decide +kernel
theorem ef_10 (m : MethodId) (x0 : Addr) : entryFrame m #[(.ref x0), (.int (16 : Int32))] 3 = mkF m 0 #[.val (.ref x0), .val (.int (16 : Int32)), .unset] [] := by first | (simp [entryFrame, mkF, argsToLocals, Value.category]; done) | rfl
def Q10 (Z : State) (d : Addr) (ks : ClassId) (h0 : Heap) (n0 : Nat) (v : Option Value) (h : Heap) (L : List Loc) : Prop := ∃ (b : Addr) (kb : ClassId), v = some (.ref b) ∧ Fr n0 L ∧ Keep h0 h [] ∧ h0.size ≤ b ∧ (Arv Z h b kb .char (16 : Int32) [(.int (0 : Int32)), (.int (0 : Int32)), (.int (0 : Int32)), (.int (0 : Int32)), (.int (0 : Int32)), (.int (0 : Int32)), (.int (0 : Int32)), (.int (0 : Int32)), (.int (0 : Int32)), (.int (0 : Int32)), (.int (0 : Int32)), (.int (0 : Int32)), (.int (0 : Int32)), (.int (0 : Int32)), (.int (0 : Int32)), (.int (0 : Int32))] (.int (0 : Int32)))
set_option maxRecDepth 65536 in
set_option maxHeartbeats 40000000 in
theorem rm10 (l : Launch) (Z : State) (a0 : Array Value) (hw : ∀ d ∈ tables_1, d.before a0 Z = true) (ws : List Jvm.Cond) (d : Addr) (ks : ClassId) (h0 : Heap) (n0 : Nat) (Z0 : n0 ≤ h0.size) (P0 : Arv Z h0 d ks .char (0 : Int32) [] (.int (0 : Int32))) :
    MetFree l (⟨"java/util/Arrays", "copyOf", "([CI)[C"⟩ : MethodName) (head1 (Jvm.Cond.code (⟨"java/util/Arrays", "copyOf", "([CI)[C"⟩ : MethodName) jdk_65_method_125_code 3 (some (.array .char)) :: ws) ({ frames := 1, cells := 1, slots := 16, locals := 18 } : Room)) (fun argz U => argz = #[(.ref d), (.int (16 : Int32))] ∧ Z.Warmed39 U.vm ∧ U.heap = h0) (fun _ _ _ _ _ => True) (fun _ U o U' => ∃ v L, o = .returned v ∧ Q10 Z d ks h0 n0 v U'.heap L ∧ FrameEnd U o U' L ({ frames := 1, cells := 1, slots := 16, locals := 18 } : Room).cells ({ frames := 1, cells := 1, slots := 16, locals := 18 } : Room).slots) := by
  refine MetFree.of_bodySF (plainFor_of_name pn_java_util_Arrays) hisR ?_
  intro p e s m args below meth c s₁ Bd hml0 hP hK
  obtain ⟨rfl, hZ, hh⟩ := hP
  have hx := Bd.exec
  have hby := Bd.bytes
  have hml : c.maxLocals = 3 := hml0
  have hown : s.vm.findClass "java/util/Arrays" = some m.cls := findClass_of_methodNamed Bd.named
  have hnm := (name_of_methodNamed Bd.named Bd.method).1
  have X0 : Stand p l e ({ frames := 1, cells := 1, slots := 16, locals := 18 } : Room) s m #[(.ref d), (.int (16 : Int32))] below meth c s₁ [] 0 0 := Stand.of_body Bd
  have e0 : s₁.heap = h0 := by rw [← hh, Bd.state]; rfl
  have N0 := Fr.nil n0
  have K0 : Keep h0 h0 [] := Keep.refl _ _
  have G : Gets p e below (s₁.setTop (entryFrame m #[(.ref d), (.int (16 : Int32))] 3)) (s₁.setTop (mkF m 0 #[.val (.ref d), .val (.int (16 : Int32)), .unset] [])) := fun t k => castTop (ef_10 m d) k
  replace G := own_iloadN (q := 1) G X0.here hx (hb hby d10_0) rfl rfl
  replace G := own_aloadN (q := 2) G X0.here hx (hb hby d10_1) rfl rfl rfl
  obtain ⟨c1, Ar1, -, S1, N1', -, -⟩ := id P0
  replace G : Gets p e below _ (s₁.setTop (mkF m 3 #[.val (.ref d), .val (.int (16 : Int32)), .unset] [(.int (0 : Int32)), (.int (16 : Int32))])) := fun t k => G t (X0.arraylength hx (by rw [e0]; exact Ar1.1) (State.isArrayOf_alike hZ.alike Ar1.2.1) (g := (mkF m 2 #[.val (.ref d), .val (.int (16 : Int32)), .unset] [(.ref d), (.int (16 : Int32))])) rfl rfl (hb hby d10_2) t (by rw [len_of S1 N1']; exact k))
  have hc3_2 : ¬ ((16 : Int32) = (0 : Int32)) := by decide
  replace G := own_icmpYes (q := 14) G X0.here hx (hb hby d10_3) (feq hc3_2).2 (by decide) (by decide)
  replace G := own_iloadN (q := 15) G X0.here hx (hb hby d10_14) rfl rfl
  obtain ⟨T3, h3, k3, X3, e3, E3, A3, st3⟩ := newP X0 hx hZ (hw _ (List.mem_of_getElem? (i := 53) rfl)) e0 (g := (mkF m 15 #[.val (.ref d), .val (.int (16 : Int32)), .unset] [(.int (16 : Int32))])) rfl (hb hby d10_15) rfl (by decide) (cap := 16) (by decide) (by decide) (by decide) (by decide)
  obtain ⟨b3, g3⟩ : ∃ z, z = h0.size := ⟨_, rfl⟩
  rw [← g3] at A3 st3
  have ne4 : d ≠ b3 := Nat.ne_of_lt (Nat.lt_of_lt_of_le P0.lt (Nat.le_of_eq g3.symm))
  have ge_b3 : n0 ≤ b3 := Nat.le_trans Z0 (Nat.le_of_eq g3.symm)
  have sz_b3 : h0.size ≤ b3 := Nat.le_trans K0.1 (Nat.le_of_eq g3.symm)
  have Z3 : n0 ≤ h3.size := Nat.le_trans Z0 E3.1
  have K3 : Keep h0 h3 [] := K0.ext E3
  have V3 : Arv Z h3 b3 k3 .char (16 : Int32) [(.int (0 : Int32)), (.int (0 : Int32)), (.int (0 : Int32)), (.int (0 : Int32)), (.int (0 : Int32)), (.int (0 : Int32)), (.int (0 : Int32)), (.int (0 : Int32)), (.int (0 : Int32)), (.int (0 : Int32)), (.int (0 : Int32)), (.int (0 : Int32)), (.int (0 : Int32)), (.int (0 : Int32)), (.int (0 : Int32)), (.int (0 : Int32))] (.int (0 : Int32)) := (Arv.new A3 (by decide)).pad (pad_rep [] (.int (0 : Int32)) 16)
  replace G : Gets p e below _ (T3.setTop (mkF m 17 #[.val (.ref d), .val (.int (16 : Int32)), .unset] [(.ref b3)])) := fun t k => G t (st3 t k)
  replace G := own_astoreN (q := 18) (l' := #[.val (.ref d), .val (.int (16 : Int32)), .val (.ref b3)]) G X3.here hx (hb hby d10_17) rfl rfl rfl
  replace G := own_aloadN (q := 19) G X3.here hx (hb hby d10_18) rfl rfl rfl
  replace G := own_iconst (q := 20) G X3.here hx (hb hby d10_19) (v := (0 : Int32)) (by decide) rfl
  replace G := own_aloadN (q := 21) G X3.here hx (hb hby d10_20) rfl rfl rfl
  replace G := own_iconst (q := 22) G X3.here hx (hb hby d10_21) (v := (0 : Int32)) (by decide) rfl
  replace G := own_aloadN (q := 23) G X3.here hx (hb hby d10_22) rfl rfl rfl
  have F5 : Arv Z h3 d ks .char (0 : Int32) [] (.int (0 : Int32)) := (P0.ext E3)
  obtain ⟨c6, Ar6, -, S6, N6', -, -⟩ := id F5
  replace G : Gets p e below _ (T3.setTop (mkF m 24 #[.val (.ref d), .val (.int (16 : Int32)), .val (.ref b3)] [(.int (0 : Int32)), (.int (0 : Int32)), (.ref b3), (.int (0 : Int32)), (.ref d)])) := fun t k => G t (X3.arraylength hx (by rw [e3]; exact Ar6.1) (State.isArrayOf_alike hZ.alike Ar6.2.1) (g := (mkF m 23 #[.val (.ref d), .val (.int (16 : Int32)), .val (.ref b3)] [(.ref d), (.int (0 : Int32)), (.ref b3), (.int (0 : Int32)), (.ref d)])) rfl rfl (hb hby d10_23) t (by rw [len_of S6 N6']; exact k))
  replace G := own_iloadN (q := 25) G X3.here hx (hb hby d10_24) rfl rfl
  obtain ⟨_, _, ⟨T7, L7, kk7, nn7⟩, -, X7, ⟨Lc7, hQ7, l7, y7, z7⟩, st7⟩ := Jvm.LawKit.callS X3 hx (y := (⟨"java/lang/Math", "min", "(II)I"⟩ : MethodName)) hown (mvT hZ (hw _ (List.mem_of_getElem? (i := 54) rfl))) (mvT hZ (hw _ (List.mem_of_getElem? (i := 34) rfl))) (mvT hZ (hw _ (List.mem_of_getElem? (i := 35) rfl))) (mvT hZ (hw _ (List.mem_of_getElem? (i := 36) rfl))) (by decide) (backOf (W := 4) (rm6c0 l Z a0 hw []  h3 n0 Z3 ) hZ (hw _ (List.mem_of_getElem? (i := 36) rfl)) (hw _ (List.mem_of_getElem? (i := 35) rfl)) (by decide) (by decide)) (g := (mkF m 25 #[.val (.ref d), .val (.int (16 : Int32)), .val (.ref b3)] [(.int (16 : Int32)), (.int (0 : Int32)), (.int (0 : Int32)), (.ref b3), (.int (0 : Int32)), (.ref d)])) rfl (by rw [hml]; rfl) (argsL := [(.int (0 : Int32)), (.int (16 : Int32))]) (rest := [(.int (0 : Int32)), (.ref b3), (.int (0 : Int32)), (.ref d)]) (lenOf pd_1 rfl) rfl (by show 2 * 0 + _ ≤ _; exact Nat.le_of_eq rfl) (hb hby d10_25) (fun _ _ => ⟨rfl, e3, (by decide : 1 + 0 ≤ _), (by decide : 16 + 0 ≤ _)⟩)
  dsimp only [Pt.U, Pt.locs, Pt.cells, Pt.slots] at X7 l7 y7 z7 st7 hQ7
  subst l7 y7 z7
  obtain ⟨rfl, N7q, e7⟩ := hQ7
  have N7 := Fr.app N0 N7q
  replace G : Gets p e below _ (T7.setTop (mkF m 28 #[.val (.ref d), .val (.int (16 : Int32)), .val (.ref b3)] [(.int (0 : Int32)), (.int (0 : Int32)), (.ref b3), (.int (0 : Int32)), (.ref d)])) := fun t k => G t (st7 t k)
  obtain ⟨T8, h8, L8, X8, e8, N8, K8q, V8, st8⟩ := cpA X7 hx hZ hown (hw _ (List.mem_of_getElem? (i := 55) rfl)) (hw _ (List.mem_of_getElem? (i := 58) rfl)) (hw _ (List.mem_of_getElem? (i := 56) rfl)) (hw _ (List.mem_of_getElem? (i := 57) rfl)) e7 F5 V3 (us := []) (Or.inl ⟨rfl, rfl⟩) (by decide) (by decide) (by decide) (by decide) (by decide) (by rfl) (by decide) N7 ge_b3 (g := (mkF m 28 #[.val (.ref d), .val (.int (16 : Int32)), .val (.ref b3)] [(.int (0 : Int32)), (.int (0 : Int32)), (.ref b3), (.int (0 : Int32)), (.ref d)])) rfl (by rw [hml]; rfl) rfl (hb hby d10_28) (by decide) (W := 0) (by show 2 * 0 + _ ≤ _; exact Nat.le_of_eq rfl) (by decide)
  have Z8 : n0 ≤ h8.size := Nat.le_trans Z3 K8q.1
  have K8 : Keep h0 h8 [] := K3.trans K8q (allS (Or.inr sz_b3) all0)
  have U8 : Arv Z h8 b3 k3 .char (16 : Int32) [(.int (0 : Int32)), (.int (0 : Int32)), (.int (0 : Int32)), (.int (0 : Int32)), (.int (0 : Int32)), (.int (0 : Int32)), (.int (0 : Int32)), (.int (0 : Int32)), (.int (0 : Int32)), (.int (0 : Int32)), (.int (0 : Int32)), (.int (0 : Int32)), (.int (0 : Int32)), (.int (0 : Int32)), (.int (0 : Int32)), (.int (0 : Int32))] (.int (0 : Int32)) := V8
  replace G : Gets p e below _ (T8.setTop (mkF m 31 #[.val (.ref d), .val (.int (16 : Int32)), .val (.ref b3)] [])) := fun t k => G t (st8 t k)
  replace G := own_aloadN (q := 32) G X8.here hx (hb hby d10_31) rfl rfl rfl
  obtain ⟨fs, hr, hrun, hended, hW, hsame⟩ := X8.leave (v := some (.ref b3)) (fun h => by rw [Bd.returns] at h; cases h)
  refine ⟨_, _, G _ (retOut X8 hx Bd.returns rfl (Or.inr (Or.inr (Or.inr (Or.inr ⟨rfl, rfl, rfl⟩)))) (hb hby d10_32) hr), hrun, hended, _, _, rfl, ?_, ⟨_, rfl⟩, hW, hsame.mono (by decide) (by decide)⟩
  show Q10 Z d ks h0 n0 _ T8.heap _
  rw [e8]
  exact ⟨b3, k3, rfl, N8, K8, sz_b3, U8⟩
theorem d8_0 : decode jdk_29_method_66_code 0 = .ok (.lload_n 0, 1) := by decide +kernel
theorem d8_1 : decode jdk_29_method_66_code 1 = .ok (.lload_n 2, 1) := by decide +kernel
theorem d8_2 : decode jdk_29_method_66_code 2 = .ok (.lcmp, 1) := by decide +kernel
theorem d8_3 : decode jdk_29_method_66_code 3 = .ok (.ifCond .lt 7, 3) := by decide +kernel
theorem d8_10 : decode jdk_29_method_66_code 10 = .ok (.lload_n 2, 1) := by decide +kernel
theorem d8_11 : decode jdk_29_method_66_code 11 = .ok (.lreturn, 1) := by decide +kernel
theorem ef_8c0 (m : MethodId)  : entryFrame m #[(.long (0 : Int64)), (.long (16 : Int64))] 4 = mkF m 0 #[.val (.long (0 : Int64)), .second, .val (.long (16 : Int64)), .second] [] := by first | (simp [entryFrame, mkF, argsToLocals, Value.category]; done) | rfl
def Q8c0 (Z : State)  (h0 : Heap) (n0 : Nat) (v : Option Value) (h : Heap) (L : List Loc) : Prop := v = some (.long (16 : Int64)) ∧ Fr n0 L ∧ h = h0
set_option maxRecDepth 65536 in
set_option maxHeartbeats 40000000 in
theorem rm8c0 (l : Launch) (Z : State) (a0 : Array Value) (hw : ∀ d ∈ tables_1, d.before a0 Z = true) (ws : List Jvm.Cond)  (h0 : Heap) (n0 : Nat) (Z0 : n0 ≤ h0.size)  :
    MetFree l (⟨"java/lang/Math", "max", "(JJ)J"⟩ : MethodName) (head1 (Jvm.Cond.code (⟨"java/lang/Math", "max", "(JJ)J"⟩ : MethodName) jdk_29_method_66_code 4 (some .long) :: ws) ({ frames := 0, cells := 0, slots := 0, locals := 0 } : Room)) (fun argz U => argz = #[(.long (0 : Int64)), (.long (16 : Int64))] ∧ Z.Warmed39 U.vm ∧ U.heap = h0) (fun _ _ _ _ _ => True) (fun _ U o U' => ∃ v L, o = .returned v ∧ Q8c0 Z  h0 n0 v U'.heap L ∧ FrameEnd U o U' L ({ frames := 0, cells := 0, slots := 0, locals := 0 } : Room).cells ({ frames := 0, cells := 0, slots := 0, locals := 0 } : Room).slots) := by
  refine MetFree.of_bodySF (Jvm.Free.JP.mathPlain rfl (by decide +kernel)) hisR ?_
  intro p e s m args below meth c s₁ Bd hml0 hP hK
  obtain ⟨rfl, hZ, hh⟩ := hP
  have hx := Bd.exec
  have hby := Bd.bytes
  have hml : c.maxLocals = 4 := hml0
  have hown : s.vm.findClass "java/lang/Math" = some m.cls := findClass_of_methodNamed Bd.named
  have hnm := (name_of_methodNamed Bd.named Bd.method).1
  have X0 : Stand p l e ({ frames := 0, cells := 0, slots := 0, locals := 0 } : Room) s m #[(.long (0 : Int64)), (.long (16 : Int64))] below meth c s₁ [] 0 0 := Stand.of_body Bd
  have e0 : s₁.heap = h0 := by rw [← hh, Bd.state]; rfl
  have N0 := Fr.nil n0
  have G : Gets p e below (s₁.setTop (entryFrame m #[(.long (0 : Int64)), (.long (16 : Int64))] 4)) (s₁.setTop (mkF m 0 #[.val (.long (0 : Int64)), .second, .val (.long (16 : Int64)), .second] [])) := fun t k => castTop (ef_8c0 m ) k
  replace G := own_lloadN (q := 1) G X0.here hx (hb hby d8_0) rfl rfl
  replace G := own_lloadN (q := 2) G X0.here hx (hb hby d8_1) rfl rfl
  replace G := own_lcmp (q := 3) G X0.here hx (hb hby d8_2) rfl
  have hc3_1 : (0 : Int64) < (16 : Int64) := by decide
  replace G := own_ifYes (q := 10) G X0.here hx (hb hby d8_3) ((if0 _ _).trans (tlt ((lw_lt _ _).mpr hc3_1)).1) (by decide) (by decide)
  replace G := own_lloadN (q := 11) G X0.here hx (hb hby d8_10) rfl rfl
  obtain ⟨fs, hr, hrun, hended, hW, hsame⟩ := X0.leave (v := some (.long (16 : Int64))) (fun h => by rw [Bd.returns] at h; cases h)
  refine ⟨_, _, G _ (retOut X0 hx Bd.returns rfl (Or.inr (Or.inl ⟨rfl, rfl, _, rfl⟩)) (hb hby d8_11) hr), hrun, hended, _, _, rfl, ?_, ⟨_, rfl⟩, hW, hsame.mono (by decide) (by decide)⟩
  show Q8c0 Z  h0 n0 _ s₁.heap _
  rw [e0]
  exact ⟨rfl, N0, rfl⟩
theorem pd_2 : parseMethodDescriptor "(JJ)J" = some ⟨[.long, .long], some .long⟩ := by decide +kernel
theorem d9_0 : decode jdk_29_method_70_code 0 = .ok (.lload_n 0, 1) := by decide +kernel
theorem d9_1 : decode jdk_29_method_70_code 1 = .ok (.lload_n 2, 1) := by decide +kernel
theorem d9_2 : decode jdk_29_method_70_code 2 = .ok (.lcmp, 1) := by decide +kernel
theorem d9_3 : decode jdk_29_method_70_code 3 = .ok (.ifCond .gt 7, 3) := by decide +kernel
theorem d9_6 : decode jdk_29_method_70_code 6 = .ok (.lload_n 0, 1) := by decide +kernel
theorem d9_7 : decode jdk_29_method_70_code 7 = .ok (.goto 4, 3) := by decide +kernel
theorem d9_11 : decode jdk_29_method_70_code 11 = .ok (.lreturn, 1) := by decide +kernel
theorem ef_9c0 (m : MethodId)  : entryFrame m #[(.long (16 : Int64)), (.long (2147483639 : Int64))] 4 = mkF m 0 #[.val (.long (16 : Int64)), .second, .val (.long (2147483639 : Int64)), .second] [] := by first | (simp [entryFrame, mkF, argsToLocals, Value.category]; done) | rfl
def Q9c0 (Z : State)  (h0 : Heap) (n0 : Nat) (v : Option Value) (h : Heap) (L : List Loc) : Prop := v = some (.long (16 : Int64)) ∧ Fr n0 L ∧ h = h0
set_option maxRecDepth 65536 in
set_option maxHeartbeats 40000000 in
theorem rm9c0 (l : Launch) (Z : State) (a0 : Array Value) (hw : ∀ d ∈ tables_1, d.before a0 Z = true) (ws : List Jvm.Cond)  (h0 : Heap) (n0 : Nat) (Z0 : n0 ≤ h0.size)  :
    MetFree l (⟨"java/lang/Math", "min", "(JJ)J"⟩ : MethodName) (head1 (Jvm.Cond.code (⟨"java/lang/Math", "min", "(JJ)J"⟩ : MethodName) jdk_29_method_70_code 4 (some .long) :: ws) ({ frames := 0, cells := 0, slots := 0, locals := 0 } : Room)) (fun argz U => argz = #[(.long (16 : Int64)), (.long (2147483639 : Int64))] ∧ Z.Warmed39 U.vm ∧ U.heap = h0) (fun _ _ _ _ _ => True) (fun _ U o U' => ∃ v L, o = .returned v ∧ Q9c0 Z  h0 n0 v U'.heap L ∧ FrameEnd U o U' L ({ frames := 0, cells := 0, slots := 0, locals := 0 } : Room).cells ({ frames := 0, cells := 0, slots := 0, locals := 0 } : Room).slots) := by
  refine MetFree.of_bodySF (Jvm.Free.JP.mathPlain rfl (by decide +kernel)) hisR ?_
  intro p e s m args below meth c s₁ Bd hml0 hP hK
  obtain ⟨rfl, hZ, hh⟩ := hP
  have hx := Bd.exec
  have hby := Bd.bytes
  have hml : c.maxLocals = 4 := hml0
  have hown : s.vm.findClass "java/lang/Math" = some m.cls := findClass_of_methodNamed Bd.named
  have hnm := (name_of_methodNamed Bd.named Bd.method).1
  have X0 : Stand p l e ({ frames := 0, cells := 0, slots := 0, locals := 0 } : Room) s m #[(.long (16 : Int64)), (.long (2147483639 : Int64))] below meth c s₁ [] 0 0 := Stand.of_body Bd
  have e0 : s₁.heap = h0 := by rw [← hh, Bd.state]; rfl
  have N0 := Fr.nil n0
  have G : Gets p e below (s₁.setTop (entryFrame m #[(.long (16 : Int64)), (.long (2147483639 : Int64))] 4)) (s₁.setTop (mkF m 0 #[.val (.long (16 : Int64)), .second, .val (.long (2147483639 : Int64)), .second] [])) := fun t k => castTop (ef_9c0 m ) k
  replace G := own_lloadN (q := 1) G X0.here hx (hb hby d9_0) rfl rfl
  replace G := own_lloadN (q := 2) G X0.here hx (hb hby d9_1) rfl rfl
  replace G := own_lcmp (q := 3) G X0.here hx (hb hby d9_2) rfl
  have hc3_1 : ¬ ((2147483639 : Int64) < (16 : Int64)) := by decide
  replace G := own_ifNo (q := 6) G X0.here hx (hb hby d9_3) ((if0 _ _).trans (flt (fun z => hc3_1 ((lw_gt _ _).mp z))).2.2.1) rfl
  replace G := own_lloadN (q := 7) G X0.here hx (hb hby d9_6) rfl rfl
  replace G := own_goto (q := 11) G X0.here hx (hb hby d9_7) (by decide) (by decide)
  obtain ⟨fs, hr, hrun, hended, hW, hsame⟩ := X0.leave (v := some (.long (16 : Int64))) (fun h => by rw [Bd.returns] at h; cases h)
  refine ⟨_, _, G _ (retOut X0 hx Bd.returns rfl (Or.inr (Or.inl ⟨rfl, rfl, _, rfl⟩)) (hb hby d9_11) hr), hrun, hended, _, _, rfl, ?_, ⟨_, rfl⟩, hW, hsame.mono (by decide) (by decide)⟩
  show Q9c0 Z  h0 n0 _ s₁.heap _
  rw [e0]
  exact ⟨rfl, N0, rfl⟩
theorem ef_8c1 (m : MethodId)  : entryFrame m #[(.long (1 : Int64)), (.long (16 : Int64))] 4 = mkF m 0 #[.val (.long (1 : Int64)), .second, .val (.long (16 : Int64)), .second] [] := by first | (simp [entryFrame, mkF, argsToLocals, Value.category]; done) | rfl
def Q8c1 (Z : State)  (h0 : Heap) (n0 : Nat) (v : Option Value) (h : Heap) (L : List Loc) : Prop := v = some (.long (16 : Int64)) ∧ Fr n0 L ∧ h = h0
set_option maxRecDepth 65536 in
set_option maxHeartbeats 40000000 in
theorem rm8c1 (l : Launch) (Z : State) (a0 : Array Value) (hw : ∀ d ∈ tables_1, d.before a0 Z = true) (ws : List Jvm.Cond)  (h0 : Heap) (n0 : Nat) (Z0 : n0 ≤ h0.size)  :
    MetFree l (⟨"java/lang/Math", "max", "(JJ)J"⟩ : MethodName) (head1 (Jvm.Cond.code (⟨"java/lang/Math", "max", "(JJ)J"⟩ : MethodName) jdk_29_method_66_code 4 (some .long) :: ws) ({ frames := 0, cells := 0, slots := 0, locals := 0 } : Room)) (fun argz U => argz = #[(.long (1 : Int64)), (.long (16 : Int64))] ∧ Z.Warmed39 U.vm ∧ U.heap = h0) (fun _ _ _ _ _ => True) (fun _ U o U' => ∃ v L, o = .returned v ∧ Q8c1 Z  h0 n0 v U'.heap L ∧ FrameEnd U o U' L ({ frames := 0, cells := 0, slots := 0, locals := 0 } : Room).cells ({ frames := 0, cells := 0, slots := 0, locals := 0 } : Room).slots) := by
  refine MetFree.of_bodySF (Jvm.Free.JP.mathPlain rfl (by decide +kernel)) hisR ?_
  intro p e s m args below meth c s₁ Bd hml0 hP hK
  obtain ⟨rfl, hZ, hh⟩ := hP
  have hx := Bd.exec
  have hby := Bd.bytes
  have hml : c.maxLocals = 4 := hml0
  have hown : s.vm.findClass "java/lang/Math" = some m.cls := findClass_of_methodNamed Bd.named
  have hnm := (name_of_methodNamed Bd.named Bd.method).1
  have X0 : Stand p l e ({ frames := 0, cells := 0, slots := 0, locals := 0 } : Room) s m #[(.long (1 : Int64)), (.long (16 : Int64))] below meth c s₁ [] 0 0 := Stand.of_body Bd
  have e0 : s₁.heap = h0 := by rw [← hh, Bd.state]; rfl
  have N0 := Fr.nil n0
  have G : Gets p e below (s₁.setTop (entryFrame m #[(.long (1 : Int64)), (.long (16 : Int64))] 4)) (s₁.setTop (mkF m 0 #[.val (.long (1 : Int64)), .second, .val (.long (16 : Int64)), .second] [])) := fun t k => castTop (ef_8c1 m ) k
  replace G := own_lloadN (q := 1) G X0.here hx (hb hby d8_0) rfl rfl
  replace G := own_lloadN (q := 2) G X0.here hx (hb hby d8_1) rfl rfl
  replace G := own_lcmp (q := 3) G X0.here hx (hb hby d8_2) rfl
  have hc3_1 : (1 : Int64) < (16 : Int64) := by decide
  replace G := own_ifYes (q := 10) G X0.here hx (hb hby d8_3) ((if0 _ _).trans (tlt ((lw_lt _ _).mpr hc3_1)).1) (by decide) (by decide)
  replace G := own_lloadN (q := 11) G X0.here hx (hb hby d8_10) rfl rfl
  obtain ⟨fs, hr, hrun, hended, hW, hsame⟩ := X0.leave (v := some (.long (16 : Int64))) (fun h => by rw [Bd.returns] at h; cases h)
  refine ⟨_, _, G _ (retOut X0 hx Bd.returns rfl (Or.inr (Or.inl ⟨rfl, rfl, _, rfl⟩)) (hb hby d8_11) hr), hrun, hended, _, _, rfl, ?_, ⟨_, rfl⟩, hW, hsame.mono (by decide) (by decide)⟩
  show Q8c1 Z  h0 n0 _ s₁.heap _
  rw [e0]
  exact ⟨rfl, N0, rfl⟩
theorem pd_3 : parseMethodDescriptor "([CI)[C" = some ⟨[(.array .char), .int], some (.array .char)⟩ := by decide +kernel
theorem d7_0 : decode prog_6_method_23_code 0 = .ok (.aload_n 0, 1) := by decide +kernel
theorem d7_1 : decode prog_6_method_23_code 1 = .ok (.getfield 39, 3) := by decide +kernel
theorem d7_4 : decode prog_6_method_23_code 4 = .ok (.iload_n 1, 1) := by decide +kernel
theorem d7_5 : decode prog_6_method_23_code 5 = .ok (.iadd, 1) := by decide +kernel
theorem d7_6 : decode prog_6_method_23_code 6 = .ok (.istore_n 2, 1) := by decide +kernel
theorem d7_7 : decode prog_6_method_23_code 7 = .ok (.ldc2_w 138, 3) := by decide +kernel
theorem d7_10 : decode prog_6_method_23_code 10 = .ok (.aload_n 0, 1) := by decide +kernel
theorem d7_11 : decode prog_6_method_23_code 11 = .ok (.getfield 19, 3) := by decide +kernel
theorem d7_14 : decode prog_6_method_23_code 14 = .ok (.arraylength, 1) := by decide +kernel
theorem d7_15 : decode prog_6_method_23_code 15 = .ok (.i2l, 1) := by decide +kernel
theorem d7_16 : decode prog_6_method_23_code 16 = .ok (.lmul, 1) := by decide +kernel
theorem d7_17 : decode prog_6_method_23_code 17 = .ok (.ldc2_w 140, 3) := by decide +kernel
theorem d7_20 : decode prog_6_method_23_code 20 = .ok (.invokestatic 142, 3) := by decide +kernel
theorem d7_23 : decode prog_6_method_23_code 23 = .ok (.aload_n 0, 1) := by decide +kernel
theorem d7_24 : decode prog_6_method_23_code 24 = .ok (.getfield 31, 3) := by decide +kernel
theorem d7_27 : decode prog_6_method_23_code 27 = .ok (.i2l, 1) := by decide +kernel
theorem d7_28 : decode prog_6_method_23_code 28 = .ok (.invokestatic 146, 3) := by decide +kernel
theorem d7_31 : decode prog_6_method_23_code 31 = .ok (.lstore_n 3, 1) := by decide +kernel
theorem d7_32 : decode prog_6_method_23_code 32 = .ok (.aload_n 0, 1) := by decide +kernel
theorem d7_33 : decode prog_6_method_23_code 33 = .ok (.aload_n 0, 1) := by decide +kernel
theorem d7_34 : decode prog_6_method_23_code 34 = .ok (.getfield 19, 3) := by decide +kernel
theorem d7_37 : decode prog_6_method_23_code 37 = .ok (.iload_n 2, 1) := by decide +kernel
theorem d7_38 : decode prog_6_method_23_code 38 = .ok (.i2l, 1) := by decide +kernel
theorem d7_39 : decode prog_6_method_23_code 39 = .ok (.lload_n 3, 1) := by decide +kernel
theorem d7_40 : decode prog_6_method_23_code 40 = .ok (.invokestatic 142, 3) := by decide +kernel
theorem d7_43 : decode prog_6_method_23_code 43 = .ok (.l2i, 1) := by decide +kernel
theorem d7_44 : decode prog_6_method_23_code 44 = .ok (.invokestatic 105, 3) := by decide +kernel
theorem d7_47 : decode prog_6_method_23_code 47 = .ok (.putfield 19, 3) := by decide +kernel
theorem d7_50 : decode prog_6_method_23_code 50 = .ok (.return_, 1) := by decide +kernel
theorem ef_7 (m : MethodId) (x0 : Addr) : entryFrame m #[(.ref x0), (.int (1 : Int32))] 5 = mkF m 0 #[.val (.ref x0), .val (.int (1 : Int32)), .unset, .unset, .unset] [] := by first | (simp [entryFrame, mkF, argsToLocals, Value.category]; done) | rfl
def Q7 (Z : State) (a : Addr) (sa : Addr) (ks : ClassId) (h0 : Heap) (n0 : Nat) (v : Option Value) (h : Heap) (L : List Loc) : Prop := ∃ (b : Addr) (kb : ClassId), v = none ∧ Fr n0 L ∧ Keep h0 h [a] ∧ (Fld Z h a "com/example/leafcutter/leafcutter/io/TextBuffer" "chars" "[C" (.ref b)) ∧ (Fld Z h a "com/example/leafcutter/leafcutter/io/TextBuffer" "length" "I" (.int (0 : Int32))) ∧ (Fld Z h a "com/example/leafcutter/leafcutter/io/TextBuffer" "limit" "I" (.int (2147483639 : Int32))) ∧ (Fld Z h a "com/example/leafcutter/leafcutter/io/TextBuffer" "whenFull" "Ljava/util/function/Consumer;" .null) ∧ h0.size ≤ b ∧ (Arv Z h b kb .char (16 : Int32) [(.int (0 : Int32)), (.int (0 : Int32)), (.int (0 : Int32)), (.int (0 : Int32)), (.int (0 : Int32)), (.int (0 : Int32)), (.int (0 : Int32)), (.int (0 : Int32)), (.int (0 : Int32)), (.int (0 : Int32)), (.int (0 : Int32)), (.int (0 : Int32)), (.int (0 : Int32)), (.int (0 : Int32)), (.int (0 : Int32)), (.int (0 : Int32))] (.int (0 : Int32)))
set_option maxRecDepth 65536 in
set_option maxHeartbeats 40000000 in
theorem rm7 (l : Launch) (Z : State) (a0 : Array Value) (hw : ∀ d ∈ tables_1, d.before a0 Z = true) (ws : List Jvm.Cond) (a : Addr) (sa : Addr) (ks : ClassId) (h0 : Heap) (n0 : Nat) (Z0 : n0 ≤ h0.size) (P0 : Fld Z h0 a "com/example/leafcutter/leafcutter/io/TextBuffer" "chars" "[C" (.ref sa)) (P1 : Fld Z h0 a "com/example/leafcutter/leafcutter/io/TextBuffer" "length" "I" (.int (0 : Int32))) (P2 : Fld Z h0 a "com/example/leafcutter/leafcutter/io/TextBuffer" "limit" "I" (.int (2147483639 : Int32))) (P3 : Fld Z h0 a "com/example/leafcutter/leafcutter/io/TextBuffer" "whenFull" "Ljava/util/function/Consumer;" .null) (P4 : Exa Z h0 a "com/example/leafcutter/leafcutter/io/TextBuffer") (P5 : Arv Z h0 sa ks .char (0 : Int32) [] (.int (0 : Int32))) (P6 : n0 ≤ a) (P7 : a ≠ sa) :
    MetFree l (⟨"com/example/leafcutter/leafcutter/io/TextBuffer", "grow", "(I)V"⟩ : MethodName) (head1 (Jvm.Cond.code (⟨"com/example/leafcutter/leafcutter/io/TextBuffer", "grow", "(I)V"⟩ : MethodName) prog_6_method_23_code 5 none :: ws) ({ frames := 2, cells := 1, slots := 16, locals := 33 } : Room)) (fun argz U => argz = #[(.ref a), (.int (1 : Int32))] ∧ Z.Warmed39 U.vm ∧ U.heap = h0) (fun _ _ _ _ _ => True) (fun _ U o U' => ∃ v L, o = .returned v ∧ Q7 Z a sa ks h0 n0 v U'.heap L ∧ FrameEnd U o U' L ({ frames := 2, cells := 1, slots := 16, locals := 33 } : Room).cells ({ frames := 2, cells := 1, slots := 16, locals := 33 } : Room).slots) := by
  refine MetFree.of_bodySF (plainFor_of_name pn_com_example_leafcutter_leafcutter_io_TextBuffer) hisR ?_
  intro p e s m args below meth c s₁ Bd hml0 hP hK
  obtain ⟨rfl, hZ, hh⟩ := hP
  have hx := Bd.exec
  have hby := Bd.bytes
  have hml : c.maxLocals = 5 := hml0
  have hown : s.vm.findClass "com/example/leafcutter/leafcutter/io/TextBuffer" = some m.cls := findClass_of_methodNamed Bd.named
  have hnm := (name_of_methodNamed Bd.named Bd.method).1
  have X0 : Stand p l e ({ frames := 2, cells := 1, slots := 16, locals := 33 } : Room) s m #[(.ref a), (.int (1 : Int32))] below meth c s₁ [] 0 0 := Stand.of_body Bd
  have e0 : s₁.heap = h0 := by rw [← hh, Bd.state]; rfl
  have N0 := Fr.nil n0
  have K0 : Keep h0 h0 [a] := Keep.refl _ _
  have G : Gets p e below (s₁.setTop (entryFrame m #[(.ref a), (.int (1 : Int32))] 5)) (s₁.setTop (mkF m 0 #[.val (.ref a), .val (.int (1 : Int32)), .unset, .unset, .unset] [])) := fun t k => castTop (ef_7 m a) k
  replace G := own_aloadN (q := 1) G X0.here hx (hb hby d7_0) rfl rfl rfl
  obtain ⟨T1, X1, e1, st1⟩ := getF X0 hx hZ hown (host := "") (Or.inl (hw _ (List.mem_of_getElem? (i := 27) rfl))) Via.refl e0 P1 (g := (mkF m 1 #[.val (.ref a), .val (.int (1 : Int32)), .unset, .unset, .unset] [(.ref a)])) rfl rfl (hb hby d7_1)
  replace G : Gets p e below _ (T1.setTop (mkF m 4 #[.val (.ref a), .val (.int (1 : Int32)), .unset, .unset, .unset] [(.int (0 : Int32))])) := fun t k => G t (st1 t k)
  replace G := own_iloadN (q := 5) G X1.here hx (hb hby d7_4) rfl rfl
  replace G := own_iadd (q := 6) G X1.here hx (hb hby d7_5) (by decide : ((0 : Int32) + (1 : Int32)) = (1 : Int32)) rfl
  replace G := own_istoreN (q := 7) (l' := #[.val (.ref a), .val (.int (1 : Int32)), .val (.int (1 : Int32)), .unset, .unset]) G X1.here hx (hb hby d7_6) rfl rfl
  replace G : Gets p e below _ (T1.setTop (mkF m 10 #[.val (.ref a), .val (.int (1 : Int32)), .val (.int (1 : Int32)), .unset, .unset] [(.long (2 : Int64))])) := fun t k => G t (X1.ldc2Long hx hown (mvT hZ (hw _ (List.mem_of_getElem? (i := 41) rfl))) (g := (mkF m 7 #[.val (.ref a), .val (.int (1 : Int32)), .val (.int (1 : Int32)), .unset, .unset] [])) rfl (hb hby d7_7) t k)
  replace G := own_aloadN (q := 11) G X1.here hx (hb hby d7_10) rfl rfl rfl
  obtain ⟨T2, X2, e2, st2⟩ := getF X1 hx hZ hown (host := "") (Or.inl (hw _ (List.mem_of_getElem? (i := 16) rfl))) Via.refl e1 P0 (g := (mkF m 11 #[.val (.ref a), .val (.int (1 : Int32)), .val (.int (1 : Int32)), .unset, .unset] [(.ref a), (.long (2 : Int64))])) rfl rfl (hb hby d7_11)
  replace G : Gets p e below _ (T2.setTop (mkF m 14 #[.val (.ref a), .val (.int (1 : Int32)), .val (.int (1 : Int32)), .unset, .unset] [(.ref sa), (.long (2 : Int64))])) := fun t k => G t (st2 t k)
  obtain ⟨c3, Ar3, -, S3, N3', -, -⟩ := id P5
  replace G : Gets p e below _ (T2.setTop (mkF m 15 #[.val (.ref a), .val (.int (1 : Int32)), .val (.int (1 : Int32)), .unset, .unset] [(.int (0 : Int32)), (.long (2 : Int64))])) := fun t k => G t (X2.arraylength hx (by rw [e2]; exact Ar3.1) (State.isArrayOf_alike hZ.alike Ar3.2.1) (g := (mkF m 14 #[.val (.ref a), .val (.int (1 : Int32)), .val (.int (1 : Int32)), .unset, .unset] [(.ref sa), (.long (2 : Int64))])) rfl rfl (hb hby d7_14) t (by rw [len_of S3 N3']; exact k))
  replace G := own_i2l (q := 16) G X2.here hx (hb hby d7_15) (by decide : ((0 : Int32).toInt64) = (0 : Int64)) rfl
  replace G := own_lmul (q := 17) G X2.here hx (hb hby d7_16) (by decide : ((2 : Int64) * (0 : Int64)) = (0 : Int64)) rfl
  replace G : Gets p e below _ (T2.setTop (mkF m 20 #[.val (.ref a), .val (.int (1 : Int32)), .val (.int (1 : Int32)), .unset, .unset] [(.long (16 : Int64)), (.long (0 : Int64))])) := fun t k => G t (X2.ldc2Long hx hown (mvT hZ (hw _ (List.mem_of_getElem? (i := 42) rfl))) (g := (mkF m 17 #[.val (.ref a), .val (.int (1 : Int32)), .val (.int (1 : Int32)), .unset, .unset] [(.long (0 : Int64))])) rfl (hb hby d7_17) t k)
  obtain ⟨_, _, ⟨T4, L4, kk4, nn4⟩, -, X4, ⟨Lc4, hQ4, l4, y4, z4⟩, st4⟩ := Jvm.LawKit.callS X2 hx (y := (⟨"java/lang/Math", "max", "(JJ)J"⟩ : MethodName)) hown (mvT hZ (hw _ (List.mem_of_getElem? (i := 43) rfl))) (mvT hZ (hw _ (List.mem_of_getElem? (i := 44) rfl))) (mvT hZ (hw _ (List.mem_of_getElem? (i := 35) rfl))) (mvT hZ (hw _ (List.mem_of_getElem? (i := 45) rfl))) (by decide) (backOf (W := 0) (rm8c0 l Z a0 hw []  h0 n0 Z0 ) hZ (hw _ (List.mem_of_getElem? (i := 45) rfl)) (hw _ (List.mem_of_getElem? (i := 35) rfl)) (by decide) (by decide)) (g := (mkF m 20 #[.val (.ref a), .val (.int (1 : Int32)), .val (.int (1 : Int32)), .unset, .unset] [(.long (16 : Int64)), (.long (0 : Int64))])) rfl (by rw [hml]; rfl) (argsL := [(.long (0 : Int64)), (.long (16 : Int64))]) (rest := []) (lenOf pd_2 rfl) rfl (by show 2 * 0 + _ ≤ _; exact Nat.le_of_eq rfl) (hb hby d7_20) (fun _ _ => ⟨rfl, e2, (by decide : 0 + 0 ≤ _), (by decide : 0 + 0 ≤ _)⟩)
  dsimp only [Pt.U, Pt.locs, Pt.cells, Pt.slots] at X4 l4 y4 z4 st4 hQ4
  subst l4 y4 z4
  obtain ⟨rfl, N4q, e4⟩ := hQ4
  have N4 := Fr.app N0 N4q
  replace G : Gets p e below _ (T4.setTop (mkF m 23 #[.val (.ref a), .val (.int (1 : Int32)), .val (.int (1 : Int32)), .unset, .unset] [(.long (16 : Int64))])) := fun t k => G t (st4 t k)
  replace G := own_aloadN (q := 24) G X4.here hx (hb hby d7_23) rfl rfl rfl
  obtain ⟨T5, X5, e5, st5⟩ := getF X4 hx hZ hown (host := "") (Or.inl (hw _ (List.mem_of_getElem? (i := 18) rfl))) Via.refl e4 P2 (g := (mkF m 24 #[.val (.ref a), .val (.int (1 : Int32)), .val (.int (1 : Int32)), .unset, .unset] [(.ref a), (.long (16 : Int64))])) rfl rfl (hb hby d7_24)
  replace G : Gets p e below _ (T5.setTop (mkF m 27 #[.val (.ref a), .val (.int (1 : Int32)), .val (.int (1 : Int32)), .unset, .unset] [(.int (2147483639 : Int32)), (.long (16 : Int64))])) := fun t k => G t (st5 t k)
  replace G := own_i2l (q := 28) G X5.here hx (hb hby d7_27) (by decide : ((2147483639 : Int32).toInt64) = (2147483639 : Int64)) rfl
  obtain ⟨_, _, ⟨T6, L6, kk6, nn6⟩, -, X6, ⟨Lc6, hQ6, l6, y6, z6⟩, st6⟩ := Jvm.LawKit.callS X5 hx (y := (⟨"java/lang/Math", "min", "(JJ)J"⟩ : MethodName)) hown (mvT hZ (hw _ (List.mem_of_getElem? (i := 46) rfl))) (mvT hZ (hw _ (List.mem_of_getElem? (i := 47) rfl))) (mvT hZ (hw _ (List.mem_of_getElem? (i := 35) rfl))) (mvT hZ (hw _ (List.mem_of_getElem? (i := 48) rfl))) (by decide) (backOf (W := 0) (rm9c0 l Z a0 hw []  h0 n0 Z0 ) hZ (hw _ (List.mem_of_getElem? (i := 48) rfl)) (hw _ (List.mem_of_getElem? (i := 35) rfl)) (by decide) (by decide)) (g := (mkF m 28 #[.val (.ref a), .val (.int (1 : Int32)), .val (.int (1 : Int32)), .unset, .unset] [(.long (2147483639 : Int64)), (.long (16 : Int64))])) rfl (by rw [hml]; rfl) (argsL := [(.long (16 : Int64)), (.long (2147483639 : Int64))]) (rest := []) (lenOf pd_2 rfl) rfl (by show 2 * 0 + _ ≤ _; exact Nat.le_of_eq rfl) (hb hby d7_28) (fun _ _ => ⟨rfl, e5, (by decide : 0 + 0 ≤ _), (by decide : 0 + 0 ≤ _)⟩)
  dsimp only [Pt.U, Pt.locs, Pt.cells, Pt.slots] at X6 l6 y6 z6 st6 hQ6
  subst l6 y6 z6
  obtain ⟨rfl, N6q, e6⟩ := hQ6
  have N6 := Fr.app N4 N6q
  replace G : Gets p e below _ (T6.setTop (mkF m 31 #[.val (.ref a), .val (.int (1 : Int32)), .val (.int (1 : Int32)), .unset, .unset] [(.long (16 : Int64))])) := fun t k => G t (st6 t k)
  replace G := own_lstoreN (q := 32) (l' := #[.val (.ref a), .val (.int (1 : Int32)), .val (.int (1 : Int32)), .val (.long (16 : Int64)), .second]) G X6.here hx (hb hby d7_31) rfl rfl
  replace G := own_aloadN (q := 33) G X6.here hx (hb hby d7_32) rfl rfl rfl
  replace G := own_aloadN (q := 34) G X6.here hx (hb hby d7_33) rfl rfl rfl
  obtain ⟨T7, X7, e7, st7⟩ := getF X6 hx hZ hown (host := "") (Or.inl (hw _ (List.mem_of_getElem? (i := 16) rfl))) Via.refl e6 P0 (g := (mkF m 34 #[.val (.ref a), .val (.int (1 : Int32)), .val (.int (1 : Int32)), .val (.long (16 : Int64)), .second] [(.ref a), (.ref a)])) rfl rfl (hb hby d7_34)
  replace G : Gets p e below _ (T7.setTop (mkF m 37 #[.val (.ref a), .val (.int (1 : Int32)), .val (.int (1 : Int32)), .val (.long (16 : Int64)), .second] [(.ref sa), (.ref a)])) := fun t k => G t (st7 t k)
  replace G := own_iloadN (q := 38) G X7.here hx (hb hby d7_37) rfl rfl
  replace G := own_i2l (q := 39) G X7.here hx (hb hby d7_38) (by decide : ((1 : Int32).toInt64) = (1 : Int64)) rfl
  replace G := own_lloadN (q := 40) G X7.here hx (hb hby d7_39) rfl rfl
  obtain ⟨_, _, ⟨T8, L8, kk8, nn8⟩, -, X8, ⟨Lc8, hQ8, l8, y8, z8⟩, st8⟩ := Jvm.LawKit.callS X7 hx (y := (⟨"java/lang/Math", "max", "(JJ)J"⟩ : MethodName)) hown (mvT hZ (hw _ (List.mem_of_getElem? (i := 43) rfl))) (mvT hZ (hw _ (List.mem_of_getElem? (i := 44) rfl))) (mvT hZ (hw _ (List.mem_of_getElem? (i := 35) rfl))) (mvT hZ (hw _ (List.mem_of_getElem? (i := 45) rfl))) (by decide) (backOf (W := 2) (rm8c1 l Z a0 hw []  h0 n0 Z0 ) hZ (hw _ (List.mem_of_getElem? (i := 45) rfl)) (hw _ (List.mem_of_getElem? (i := 35) rfl)) (by decide) (by decide)) (g := (mkF m 40 #[.val (.ref a), .val (.int (1 : Int32)), .val (.int (1 : Int32)), .val (.long (16 : Int64)), .second] [(.long (16 : Int64)), (.long (1 : Int64)), (.ref sa), (.ref a)])) rfl (by rw [hml]; rfl) (argsL := [(.long (1 : Int64)), (.long (16 : Int64))]) (rest := [(.ref sa), (.ref a)]) (lenOf pd_2 rfl) rfl (by show 2 * 0 + _ ≤ _; exact Nat.le_of_eq rfl) (hb hby d7_40) (fun _ _ => ⟨rfl, e7, (by decide : 0 + 0 ≤ _), (by decide : 0 + 0 ≤ _)⟩)
  dsimp only [Pt.U, Pt.locs, Pt.cells, Pt.slots] at X8 l8 y8 z8 st8 hQ8
  subst l8 y8 z8
  obtain ⟨rfl, N8q, e8⟩ := hQ8
  have N8 := Fr.app N6 N8q
  replace G : Gets p e below _ (T8.setTop (mkF m 43 #[.val (.ref a), .val (.int (1 : Int32)), .val (.int (1 : Int32)), .val (.long (16 : Int64)), .second] [(.long (16 : Int64)), (.ref sa), (.ref a)])) := fun t k => G t (st8 t k)
  replace G := own_l2i (q := 44) G X8.here hx (hb hby d7_43) (by decide : ((16 : Int64).toInt32) = (16 : Int32)) rfl
  obtain ⟨_, _, ⟨T9, L9, kk9, nn9⟩, -, X9, ⟨Lc9, hQ9, l9, y9, z9⟩, st9⟩ := Jvm.LawKit.callS X8 hx (y := (⟨"java/util/Arrays", "copyOf", "([CI)[C"⟩ : MethodName)) hown (mvT hZ (hw _ (List.mem_of_getElem? (i := 49) rfl))) (mvT hZ (hw _ (List.mem_of_getElem? (i := 50) rfl))) (mvT hZ (hw _ (List.mem_of_getElem? (i := 51) rfl))) (mvT hZ (hw _ (List.mem_of_getElem? (i := 52) rfl))) (by decide) (backOf (W := 1) (rm10 l Z a0 hw [] sa ks h0 n0 Z0 P5) hZ (hw _ (List.mem_of_getElem? (i := 52) rfl)) (hw _ (List.mem_of_getElem? (i := 51) rfl)) (by decide) (by decide)) (g := (mkF m 44 #[.val (.ref a), .val (.int (1 : Int32)), .val (.int (1 : Int32)), .val (.long (16 : Int64)), .second] [(.int (16 : Int32)), (.ref sa), (.ref a)])) rfl (by rw [hml]; rfl) (argsL := [(.ref sa), (.int (16 : Int32))]) (rest := [(.ref a)]) (lenOf pd_3 rfl) rfl (by show 2 * 0 + _ ≤ _; exact Nat.le_of_eq rfl) (hb hby d7_44) (fun _ _ => ⟨rfl, e8, (by decide : 0 + 1 ≤ _), (by decide : 0 + 16 ≤ _)⟩)
  dsimp only [Pt.U, Pt.locs, Pt.cells, Pt.slots] at X9 l9 y9 z9 st9 hQ9
  subst l9 y9 z9
  obtain ⟨b_9, kb_9, rfl, N9q, K9q, B9_0, B9_1⟩ := hQ9
  have ne10 : a ≠ b_9 := Nat.ne_of_lt (Nat.lt_of_lt_of_le P0.lt B9_0)
  have ne11 : sa ≠ b_9 := Nat.ne_of_lt (Nat.lt_of_lt_of_le P5.lt B9_0)
  have ge_b_9 : n0 ≤ b_9 := Nat.le_trans Z0 B9_0
  have sz_b_9 : h0.size ≤ b_9 := Nat.le_trans K0.1 B9_0
  have Z9 : n0 ≤ T9.heap.size := Nat.le_trans Z0 K9q.1
  have K9 : Keep h0 T9.heap [a] := K0.trans K9q all0
  have N9 := Fr.app N8 N9q
  replace G : Gets p e below _ (T9.setTop (mkF m 47 #[.val (.ref a), .val (.int (1 : Int32)), .val (.int (1 : Int32)), .val (.long (16 : Int64)), .second] [(.ref b_9), (.ref a)])) := fun t k => G t (st9 t k)
  have F12 : Exa Z T9.heap a "com/example/leafcutter/leafcutter/io/TextBuffer" := (P4.keep K9q)
  have F13 : Fld Z T9.heap a "com/example/leafcutter/leafcutter/io/TextBuffer" "chars" "[C" (.ref sa) := (P0.keep K9q nin0)
  obtain ⟨T14, h14, X14, e14, W14, st14⟩ := putF X9 hx hZ hown (host := "") (Or.inl (hw _ (List.mem_of_getElem? (i := 16) rfl))) Via.refl rfl F13 F12 (Or.inl (hw _ (List.mem_of_getElem? (i := 17) rfl))) (hw _ (List.mem_of_getElem? (i := 2) rfl)) (ty := (.array .char)) (by decide) rfl rfl (g := (mkF m 47 #[.val (.ref a), .val (.int (1 : Int32)), .val (.int (1 : Int32)), .val (.long (16 : Int64)), .second] [(.ref b_9), (.ref a)])) rfl rfl (hb hby d7_47)
  have N14 := Fr.snoc X14 N9 P6
  have Z14 : n0 ≤ h14.size := Nat.le_trans Z9 (Keep.of_wr W14).1
  have K14 : Keep h0 h14 [a] := K9.wr W14 (Or.inl (List.mem_of_getElem? (i := 0) rfl))
  have F14 : Fld Z h14 a "com/example/leafcutter/leafcutter/io/TextBuffer" "chars" "[C" (.ref b_9) := F13.same W14
  replace G : Gets p e below _ (T14.setTop (mkF m 50 #[.val (.ref a), .val (.int (1 : Int32)), .val (.int (1 : Int32)), .val (.long (16 : Int64)), .second] [])) := fun t k => G t (st14 t k)
  obtain ⟨fs, hr, hrun, hended, hW, hsame⟩ := X14.leave (v := none) (fun _ => rfl)
  refine ⟨_, _, G _ (X14.returnOut hx Bd.returns (hb hby d7_50) hr), hrun, hended, _, _, rfl, ?_, ⟨_, rfl⟩, hW, hsame.mono (by decide) (by decide)⟩
  have F15 : Fld Z h14 a "com/example/leafcutter/leafcutter/io/TextBuffer" "length" "I" (.int (0 : Int32)) := ((P1.keep K9q nin0).other W14 (Or.inr (slot_ne (Or.inl (hw _ (List.mem_of_getElem? (i := 28) rfl))) (Or.inl (hw _ (List.mem_of_getElem? (i := 17) rfl))) (by decide) (t := .int) (t' := (.array .char)) (by decide) (by decide))))
  have F16 : Fld Z h14 a "com/example/leafcutter/leafcutter/io/TextBuffer" "limit" "I" (.int (2147483639 : Int32)) := ((P2.keep K9q nin0).other W14 (Or.inr (slot_ne (Or.inr (hw _ (List.mem_of_getElem? (i := 19) rfl))) (Or.inl (hw _ (List.mem_of_getElem? (i := 17) rfl))) (by decide) (t := .int) (t' := (.array .char)) (by decide) (by decide))))
  have F17 : Fld Z h14 a "com/example/leafcutter/leafcutter/io/TextBuffer" "whenFull" "Ljava/util/function/Consumer;" .null := ((P3.keep K9q nin0).other W14 (Or.inr (slot_ne (Or.inr (hw _ (List.mem_of_getElem? (i := 21) rfl))) (Or.inl (hw _ (List.mem_of_getElem? (i := 17) rfl))) (by decide) (t := (.object "java/util/function/Consumer")) (t' := (.array .char)) (by decide) (by decide))))
  have F18 : Arv Z h14 b_9 kb_9 .char (16 : Int32) [(.int (0 : Int32)), (.int (0 : Int32)), (.int (0 : Int32)), (.int (0 : Int32)), (.int (0 : Int32)), (.int (0 : Int32)), (.int (0 : Int32)), (.int (0 : Int32)), (.int (0 : Int32)), (.int (0 : Int32)), (.int (0 : Int32)), (.int (0 : Int32)), (.int (0 : Int32)), (.int (0 : Int32)), (.int (0 : Int32)), (.int (0 : Int32))] (.int (0 : Int32)) := (B9_1.other W14 (Ne.symm ne10))
  show Q7 Z a sa ks h0 n0 _ T14.heap _
  rw [e14]
  exact ⟨b_9, kb_9, rfl, N14, K14, F14, F15, F16, F17, sz_b_9, F18⟩
theorem ef_6c1 (m : MethodId)  : entryFrame m #[(.int (1 : Int32)), (.int (2147483639 : Int32))] 2 = mkF m 0 #[.val (.int (1 : Int32)), .val (.int (2147483639 : Int32))] [] := by first | (simp [entryFrame, mkF, argsToLocals, Value.category]; done) | rfl
def Q6c1 (Z : State)  (h0 : Heap) (n0 : Nat) (v : Option Value) (h : Heap) (L : List Loc) : Prop := v = some (.int (1 : Int32)) ∧ Fr n0 L ∧ h = h0
set_option maxRecDepth 65536 in
set_option maxHeartbeats 40000000 in
theorem rm6c1 (l : Launch) (Z : State) (a0 : Array Value) (hw : ∀ d ∈ tables_1, d.before a0 Z = true) (ws : List Jvm.Cond)  (h0 : Heap) (n0 : Nat) (Z0 : n0 ≤ h0.size)  :
    MetFree l (⟨"java/lang/Math", "min", "(II)I"⟩ : MethodName) (head1 (Jvm.Cond.code (⟨"java/lang/Math", "min", "(II)I"⟩ : MethodName) jdk_29_method_69_code 2 (some .int) :: ws) ({ frames := 0, cells := 0, slots := 0, locals := 0 } : Room)) (fun argz U => argz = #[(.int (1 : Int32)), (.int (2147483639 : Int32))] ∧ Z.Warmed39 U.vm ∧ U.heap = h0) (fun _ _ _ _ _ => True) (fun _ U o U' => ∃ v L, o = .returned v ∧ Q6c1 Z  h0 n0 v U'.heap L ∧ FrameEnd U o U' L ({ frames := 0, cells := 0, slots := 0, locals := 0 } : Room).cells ({ frames := 0, cells := 0, slots := 0, locals := 0 } : Room).slots) := by
  refine MetFree.of_bodySF (Jvm.Free.JP.mathPlain rfl (by decide +kernel)) hisR ?_
  intro p e s m args below meth c s₁ Bd hml0 hP hK
  obtain ⟨rfl, hZ, hh⟩ := hP
  have hx := Bd.exec
  have hby := Bd.bytes
  have hml : c.maxLocals = 2 := hml0
  have hown : s.vm.findClass "java/lang/Math" = some m.cls := findClass_of_methodNamed Bd.named
  have hnm := (name_of_methodNamed Bd.named Bd.method).1
  have X0 : Stand p l e ({ frames := 0, cells := 0, slots := 0, locals := 0 } : Room) s m #[(.int (1 : Int32)), (.int (2147483639 : Int32))] below meth c s₁ [] 0 0 := Stand.of_body Bd
  have e0 : s₁.heap = h0 := by rw [← hh, Bd.state]; rfl
  have N0 := Fr.nil n0
  have G : Gets p e below (s₁.setTop (entryFrame m #[(.int (1 : Int32)), (.int (2147483639 : Int32))] 2)) (s₁.setTop (mkF m 0 #[.val (.int (1 : Int32)), .val (.int (2147483639 : Int32))] [])) := fun t k => castTop (ef_6c1 m ) k
  replace G := own_iloadN (q := 1) G X0.here hx (hb hby d6_0) rfl rfl
  replace G := own_iloadN (q := 2) G X0.here hx (hb hby d6_1) rfl rfl
  have hc2_1 : ¬ ((2147483639 : Int32) < (1 : Int32)) := by decide
  replace G := own_icmpNo (q := 5) G X0.here hx (hb hby d6_2) (flt hc2_1).2.2.1 rfl
  replace G := own_iloadN (q := 6) G X0.here hx (hb hby d6_5) rfl rfl
  replace G := own_goto (q := 10) G X0.here hx (hb hby d6_6) (by decide) (by decide)
  obtain ⟨fs, hr, hrun, hended, hW, hsame⟩ := X0.leave (v := some (.int (1 : Int32))) (fun h => by rw [Bd.returns] at h; cases h)
  refine ⟨_, _, G _ (retOut X0 hx Bd.returns rfl (Or.inl ⟨rfl, Or.inl rfl, _, rfl⟩) (hb hby d6_10) hr), hrun, hended, _, _, rfl, ?_, ⟨_, rfl⟩, hW, hsame.mono (by decide) (by decide)⟩
  show Q6c1 Z  h0 n0 _ s₁.heap _
  rw [e0]
  exact ⟨rfl, N0, rfl⟩
theorem pd_4 : parseMethodDescriptor "(I)V" = some ⟨[.int], none⟩ := by decide +kernel
theorem d5_0 : decode prog_6_method_21_code 0 = .ok (.aload_n 0, 1) := by decide +kernel
theorem d5_1 : decode prog_6_method_21_code 1 = .ok (.getfield 39, 3) := by decide +kernel
theorem d5_4 : decode prog_6_method_21_code 4 = .ok (.aload_n 0, 1) := by decide +kernel
theorem d5_5 : decode prog_6_method_21_code 5 = .ok (.getfield 31, 3) := by decide +kernel
theorem d5_8 : decode prog_6_method_21_code 8 = .ok (.if_icmp .ne 16, 3) := by decide +kernel
theorem d5_24 : decode prog_6_method_21_code 24 = .ok (.iload_n 1, 1) := by decide +kernel
theorem d5_25 : decode prog_6_method_21_code 25 = .ok (.aload_n 0, 1) := by decide +kernel
theorem d5_26 : decode prog_6_method_21_code 26 = .ok (.getfield 31, 3) := by decide +kernel
theorem d5_29 : decode prog_6_method_21_code 29 = .ok (.aload_n 0, 1) := by decide +kernel
theorem d5_30 : decode prog_6_method_21_code 30 = .ok (.getfield 39, 3) := by decide +kernel
theorem d5_33 : decode prog_6_method_21_code 33 = .ok (.isub, 1) := by decide +kernel
theorem d5_34 : decode prog_6_method_21_code 34 = .ok (.invokestatic 119, 3) := by decide +kernel
theorem d5_37 : decode prog_6_method_21_code 37 = .ok (.istore_n 2, 1) := by decide +kernel
theorem d5_38 : decode prog_6_method_21_code 38 = .ok (.aload_n 0, 1) := by decide +kernel
theorem d5_39 : decode prog_6_method_21_code 39 = .ok (.getfield 19, 3) := by decide +kernel
theorem d5_42 : decode prog_6_method_21_code 42 = .ok (.arraylength, 1) := by decide +kernel
theorem d5_43 : decode prog_6_method_21_code 43 = .ok (.aload_n 0, 1) := by decide +kernel
theorem d5_44 : decode prog_6_method_21_code 44 = .ok (.getfield 39, 3) := by decide +kernel
theorem d5_47 : decode prog_6_method_21_code 47 = .ok (.isub, 1) := by decide +kernel
theorem d5_48 : decode prog_6_method_21_code 48 = .ok (.iload_n 2, 1) := by decide +kernel
theorem d5_49 : decode prog_6_method_21_code 49 = .ok (.if_icmp .ge 8, 3) := by decide +kernel
theorem d5_52 : decode prog_6_method_21_code 52 = .ok (.aload_n 0, 1) := by decide +kernel
theorem d5_53 : decode prog_6_method_21_code 53 = .ok (.iload_n 2, 1) := by decide +kernel
theorem d5_54 : decode prog_6_method_21_code 54 = .ok (.invokevirtual 124, 3) := by decide +kernel
theorem d5_57 : decode prog_6_method_21_code 57 = .ok (.iload_n 2, 1) := by decide +kernel
theorem d5_58 : decode prog_6_method_21_code 58 = .ok (.ireturn, 1) := by decide +kernel
theorem ef_5 (m : MethodId) (x0 : Addr) : entryFrame m #[(.ref x0), (.int (1 : Int32))] 3 = mkF m 0 #[.val (.ref x0), .val (.int (1 : Int32)), .unset] [] := by first | (simp [entryFrame, mkF, argsToLocals, Value.category]; done) | rfl
def Q5 (Z : State) (a : Addr) (sa : Addr) (ks : ClassId) (h0 : Heap) (n0 : Nat) (v : Option Value) (h : Heap) (L : List Loc) : Prop := ∃ (b : Addr) (kb : ClassId), v = some (.int (1 : Int32)) ∧ Fr n0 L ∧ Keep h0 h [a] ∧ (Fld Z h a "com/example/leafcutter/leafcutter/io/TextBuffer" "chars" "[C" (.ref b)) ∧ (Fld Z h a "com/example/leafcutter/leafcutter/io/TextBuffer" "length" "I" (.int (0 : Int32))) ∧ (Fld Z h a "com/example/leafcutter/leafcutter/io/TextBuffer" "limit" "I" (.int (2147483639 : Int32))) ∧ (Fld Z h a "com/example/leafcutter/leafcutter/io/TextBuffer" "whenFull" "Ljava/util/function/Consumer;" .null) ∧ h0.size ≤ b ∧ (Arv Z h b kb .char (16 : Int32) [(.int (0 : Int32)), (.int (0 : Int32)), (.int (0 : Int32)), (.int (0 : Int32)), (.int (0 : Int32)), (.int (0 : Int32)), (.int (0 : Int32)), (.int (0 : Int32)), (.int (0 : Int32)), (.int (0 : Int32)), (.int (0 : Int32)), (.int (0 : Int32)), (.int (0 : Int32)), (.int (0 : Int32)), (.int (0 : Int32)), (.int (0 : Int32))] (.int (0 : Int32)))
set_option maxRecDepth 65536 in
set_option maxHeartbeats 40000000 in
theorem rm5 (l : Launch) (Z : State) (a0 : Array Value) (hw : ∀ d ∈ tables_1, d.before a0 Z = true) (ws : List Jvm.Cond) (a : Addr) (sa : Addr) (ks : ClassId) (h0 : Heap) (n0 : Nat) (Z0 : n0 ≤ h0.size) (P0 : Fld Z h0 a "com/example/leafcutter/leafcutter/io/TextBuffer" "chars" "[C" (.ref sa)) (P1 : Fld Z h0 a "com/example/leafcutter/leafcutter/io/TextBuffer" "length" "I" (.int (0 : Int32))) (P2 : Fld Z h0 a "com/example/leafcutter/leafcutter/io/TextBuffer" "limit" "I" (.int (2147483639 : Int32))) (P3 : Fld Z h0 a "com/example/leafcutter/leafcutter/io/TextBuffer" "whenFull" "Ljava/util/function/Consumer;" .null) (P4 : Exa Z h0 a "com/example/leafcutter/leafcutter/io/TextBuffer") (P5 : Arv Z h0 sa ks .char (0 : Int32) [] (.int (0 : Int32))) (P6 : n0 ≤ a) (P7 : a ≠ sa) :
    MetFree l (⟨"com/example/leafcutter/leafcutter/io/TextBuffer", "makeRoom", "(I)I"⟩ : MethodName) (head1 (Jvm.Cond.code (⟨"com/example/leafcutter/leafcutter/io/TextBuffer", "makeRoom", "(I)I"⟩ : MethodName) prog_6_method_21_code 3 (some .int) :: ws) ({ frames := 3, cells := 1, slots := 16, locals := 49 } : Room)) (fun argz U => argz = #[(.ref a), (.int (1 : Int32))] ∧ Z.Warmed39 U.vm ∧ U.heap = h0) (fun _ _ _ _ _ => True) (fun _ U o U' => ∃ v L, o = .returned v ∧ Q5 Z a sa ks h0 n0 v U'.heap L ∧ FrameEnd U o U' L ({ frames := 3, cells := 1, slots := 16, locals := 49 } : Room).cells ({ frames := 3, cells := 1, slots := 16, locals := 49 } : Room).slots) := by
  refine MetFree.of_bodySF (plainFor_of_name pn_com_example_leafcutter_leafcutter_io_TextBuffer) hisR ?_
  intro p e s m args below meth c s₁ Bd hml0 hP hK
  obtain ⟨rfl, hZ, hh⟩ := hP
  have hx := Bd.exec
  have hby := Bd.bytes
  have hml : c.maxLocals = 3 := hml0
  have hown : s.vm.findClass "com/example/leafcutter/leafcutter/io/TextBuffer" = some m.cls := findClass_of_methodNamed Bd.named
  have hnm := (name_of_methodNamed Bd.named Bd.method).1
  have X0 : Stand p l e ({ frames := 3, cells := 1, slots := 16, locals := 49 } : Room) s m #[(.ref a), (.int (1 : Int32))] below meth c s₁ [] 0 0 := Stand.of_body Bd
  have e0 : s₁.heap = h0 := by rw [← hh, Bd.state]; rfl
  have N0 := Fr.nil n0
  have K0 : Keep h0 h0 [a] := Keep.refl _ _
  have G : Gets p e below (s₁.setTop (entryFrame m #[(.ref a), (.int (1 : Int32))] 3)) (s₁.setTop (mkF m 0 #[.val (.ref a), .val (.int (1 : Int32)), .unset] [])) := fun t k => castTop (ef_5 m a) k
  replace G := own_aloadN (q := 1) G X0.here hx (hb hby d5_0) rfl rfl rfl
  obtain ⟨T1, X1, e1, st1⟩ := getF X0 hx hZ hown (host := "") (Or.inl (hw _ (List.mem_of_getElem? (i := 27) rfl))) Via.refl e0 P1 (g := (mkF m 1 #[.val (.ref a), .val (.int (1 : Int32)), .unset] [(.ref a)])) rfl rfl (hb hby d5_1)
  replace G : Gets p e below _ (T1.setTop (mkF m 4 #[.val (.ref a), .val (.int (1 : Int32)), .unset] [(.int (0 : Int32))])) := fun t k => G t (st1 t k)
  replace G := own_aloadN (q := 5) G X1.here hx (hb hby d5_4) rfl rfl rfl
  obtain ⟨T2, X2, e2, st2⟩ := getF X1 hx hZ hown (host := "") (Or.inl (hw _ (List.mem_of_getElem? (i := 18) rfl))) Via.refl e1 P2 (g := (mkF m 5 #[.val (.ref a), .val (.int (1 : Int32)), .unset] [(.ref a), (.int (0 : Int32))])) rfl rfl (hb hby d5_5)
  replace G : Gets p e below _ (T2.setTop (mkF m 8 #[.val (.ref a), .val (.int (1 : Int32)), .unset] [(.int (2147483639 : Int32)), (.int (0 : Int32))])) := fun t k => G t (st2 t k)
  have hc8_3 : ¬ ((0 : Int32) = (2147483639 : Int32)) := by decide
  replace G := own_icmpYes (q := 24) G X2.here hx (hb hby d5_8) (feq hc8_3).2 (by decide) (by decide)
  replace G := own_iloadN (q := 25) G X2.here hx (hb hby d5_24) rfl rfl
  replace G := own_aloadN (q := 26) G X2.here hx (hb hby d5_25) rfl rfl rfl
  obtain ⟨T4, X4, e4, st4⟩ := getF X2 hx hZ hown (host := "") (Or.inl (hw _ (List.mem_of_getElem? (i := 18) rfl))) Via.refl e2 P2 (g := (mkF m 26 #[.val (.ref a), .val (.int (1 : Int32)), .unset] [(.ref a), (.int (1 : Int32))])) rfl rfl (hb hby d5_26)
  replace G : Gets p e below _ (T4.setTop (mkF m 29 #[.val (.ref a), .val (.int (1 : Int32)), .unset] [(.int (2147483639 : Int32)), (.int (1 : Int32))])) := fun t k => G t (st4 t k)
  replace G := own_aloadN (q := 30) G X4.here hx (hb hby d5_29) rfl rfl rfl
  obtain ⟨T5, X5, e5, st5⟩ := getF X4 hx hZ hown (host := "") (Or.inl (hw _ (List.mem_of_getElem? (i := 27) rfl))) Via.refl e4 P1 (g := (mkF m 30 #[.val (.ref a), .val (.int (1 : Int32)), .unset] [(.ref a), (.int (2147483639 : Int32)), (.int (1 : Int32))])) rfl rfl (hb hby d5_30)
  replace G : Gets p e below _ (T5.setTop (mkF m 33 #[.val (.ref a), .val (.int (1 : Int32)), .unset] [(.int (0 : Int32)), (.int (2147483639 : Int32)), (.int (1 : Int32))])) := fun t k => G t (st5 t k)
  replace G := own_isub (q := 34) G X5.here hx (hb hby d5_33) (by decide : ((2147483639 : Int32) - (0 : Int32)) = (2147483639 : Int32)) rfl
  obtain ⟨_, _, ⟨T6, L6, kk6, nn6⟩, -, X6, ⟨Lc6, hQ6, l6, y6, z6⟩, st6⟩ := Jvm.LawKit.callS X5 hx (y := (⟨"java/lang/Math", "min", "(II)I"⟩ : MethodName)) hown (mvT hZ (hw _ (List.mem_of_getElem? (i := 33) rfl))) (mvT hZ (hw _ (List.mem_of_getElem? (i := 34) rfl))) (mvT hZ (hw _ (List.mem_of_getElem? (i := 35) rfl))) (mvT hZ (hw _ (List.mem_of_getElem? (i := 36) rfl))) (by decide) (backOf (W := 0) (rm6c1 l Z a0 hw []  h0 n0 Z0 ) hZ (hw _ (List.mem_of_getElem? (i := 36) rfl)) (hw _ (List.mem_of_getElem? (i := 35) rfl)) (by decide) (by decide)) (g := (mkF m 34 #[.val (.ref a), .val (.int (1 : Int32)), .unset] [(.int (2147483639 : Int32)), (.int (1 : Int32))])) rfl (by rw [hml]; rfl) (argsL := [(.int (1 : Int32)), (.int (2147483639 : Int32))]) (rest := []) (lenOf pd_1 rfl) rfl (by show 2 * 0 + _ ≤ _; exact Nat.le_of_eq rfl) (hb hby d5_34) (fun _ _ => ⟨rfl, e5, (by decide : 0 + 0 ≤ _), (by decide : 0 + 0 ≤ _)⟩)
  dsimp only [Pt.U, Pt.locs, Pt.cells, Pt.slots] at X6 l6 y6 z6 st6 hQ6
  subst l6 y6 z6
  obtain ⟨rfl, N6q, e6⟩ := hQ6
  have N6 := Fr.app N0 N6q
  replace G : Gets p e below _ (T6.setTop (mkF m 37 #[.val (.ref a), .val (.int (1 : Int32)), .unset] [(.int (1 : Int32))])) := fun t k => G t (st6 t k)
  replace G := own_istoreN (q := 38) (l' := #[.val (.ref a), .val (.int (1 : Int32)), .val (.int (1 : Int32))]) G X6.here hx (hb hby d5_37) rfl rfl
  replace G := own_aloadN (q := 39) G X6.here hx (hb hby d5_38) rfl rfl rfl
  obtain ⟨T7, X7, e7, st7⟩ := getF X6 hx hZ hown (host := "") (Or.inl (hw _ (List.mem_of_getElem? (i := 16) rfl))) Via.refl e6 P0 (g := (mkF m 39 #[.val (.ref a), .val (.int (1 : Int32)), .val (.int (1 : Int32))] [(.ref a)])) rfl rfl (hb hby d5_39)
  replace G : Gets p e below _ (T7.setTop (mkF m 42 #[.val (.ref a), .val (.int (1 : Int32)), .val (.int (1 : Int32))] [(.ref sa)])) := fun t k => G t (st7 t k)
  obtain ⟨c8, Ar8, -, S8, N8', -, -⟩ := id P5
  replace G : Gets p e below _ (T7.setTop (mkF m 43 #[.val (.ref a), .val (.int (1 : Int32)), .val (.int (1 : Int32))] [(.int (0 : Int32))])) := fun t k => G t (X7.arraylength hx (by rw [e7]; exact Ar8.1) (State.isArrayOf_alike hZ.alike Ar8.2.1) (g := (mkF m 42 #[.val (.ref a), .val (.int (1 : Int32)), .val (.int (1 : Int32))] [(.ref sa)])) rfl rfl (hb hby d5_42) t (by rw [len_of S8 N8']; exact k))
  replace G := own_aloadN (q := 44) G X7.here hx (hb hby d5_43) rfl rfl rfl
  obtain ⟨T9, X9, e9, st9⟩ := getF X7 hx hZ hown (host := "") (Or.inl (hw _ (List.mem_of_getElem? (i := 27) rfl))) Via.refl e7 P1 (g := (mkF m 44 #[.val (.ref a), .val (.int (1 : Int32)), .val (.int (1 : Int32))] [(.ref a), (.int (0 : Int32))])) rfl rfl (hb hby d5_44)
  replace G : Gets p e below _ (T9.setTop (mkF m 47 #[.val (.ref a), .val (.int (1 : Int32)), .val (.int (1 : Int32))] [(.int (0 : Int32)), (.int (0 : Int32))])) := fun t k => G t (st9 t k)
  replace G := own_isub (q := 48) G X9.here hx (hb hby d5_47) (by decide : ((0 : Int32) - (0 : Int32)) = (0 : Int32)) rfl
  replace G := own_iloadN (q := 49) G X9.here hx (hb hby d5_48) rfl rfl
  have hc49_10 : (0 : Int32) < (1 : Int32) := by decide
  replace G := own_icmpNo (q := 52) G X9.here hx (hb hby d5_49) (tlt hc49_10).2.1 rfl
  replace G := own_aloadN (q := 53) G X9.here hx (hb hby d5_52) rfl rfl rfl
  replace G := own_iloadN (q := 54) G X9.here hx (hb hby d5_53) rfl rfl
  obtain ⟨cq11, q11, q11'⟩ := P4.cell
  obtain ⟨_, _, ⟨T11, L11, kk11, nn11⟩, -, X11, ⟨Lc11, hQ11, l11, y11, z11⟩, st11⟩ := X9.privateBack hx (y := (⟨"com/example/leafcutter/leafcutter/io/TextBuffer", "grow", "(I)V"⟩ : MethodName)) hown (mvT hZ (hw _ (List.mem_of_getElem? (i := 37) rfl))) (mvT hZ (hw _ (List.mem_of_getElem? (i := 38) rfl))) (own_sel (z := (⟨"com/example/leafcutter/leafcutter/io/TextBuffer", "append", "(C)Lcom/example/leafcutter/leafcutter/io/TextBuffer;"⟩ : MethodName)) rfl (mvT hZ (hw _ (List.mem_of_getElem? (i := 24) rfl))) (mvT hZ (hw _ (List.mem_of_getElem? (i := 25) rfl))) (mvT hZ (hw _ (List.mem_of_getElem? (i := 38) rfl))) (Cond.privateMethod_at (mvP hZ (hw _ (List.mem_of_getElem? (i := 39) rfl)) (args := #[]))) (by decide)) (Cond.privateMethod_at (mvP hZ (hw _ (List.mem_of_getElem? (i := 39) rfl)) (args := #[]))) (mvT hZ (hw _ (List.mem_of_getElem? (i := 40) rfl))) (by decide) (backOf (W := 0) (rm7 l Z a0 hw [] a sa ks h0 n0 Z0 P0 P1 P2 P3 P4 P5 P6 P7) hZ (hw _ (List.mem_of_getElem? (i := 40) rfl)) (hw _ (List.mem_of_getElem? (i := 3) rfl)) (by decide) (by decide)) (g := (mkF m 54 #[.val (.ref a), .val (.int (1 : Int32)), .val (.int (1 : Int32))] [(.int (1 : Int32)), (.ref a)])) rfl (by rw [hml]; rfl) (Steps.refl _) (a := a) (by rw [e9]; exact q11) q11' (argsL := [(.int (1 : Int32))]) (rest := []) (lenOf pd_4 rfl) rfl (by show 2 * 0 + _ ≤ _; exact Nat.le_of_eq rfl) (hb hby d5_54) (fun _ _ => ⟨rfl, e9, (by decide : 0 + 1 ≤ _), (by decide : 0 + 16 ≤ _)⟩)
  dsimp only [Pt.U, Pt.locs, Pt.cells, Pt.slots] at X11 l11 y11 z11 st11 hQ11
  subst l11 y11 z11
  obtain ⟨b_11, kb_11, rfl, N11q, K11q, B11_0, B11_1, B11_2, B11_3, B11_4, B11_5⟩ := hQ11
  have ne12 : a ≠ b_11 := Nat.ne_of_lt (Nat.lt_of_lt_of_le P0.lt B11_4)
  have ne13 : sa ≠ b_11 := Nat.ne_of_lt (Nat.lt_of_lt_of_le P5.lt B11_4)
  have ge_b_11 : n0 ≤ b_11 := Nat.le_trans Z0 B11_4
  have sz_b_11 : h0.size ≤ b_11 := Nat.le_trans K0.1 B11_4
  have Z11 : n0 ≤ T11.heap.size := Nat.le_trans Z0 K11q.1
  have K11 : Keep h0 T11.heap [a] := K0.trans K11q (allS (Or.inl (List.mem_of_getElem? (i := 0) rfl)) all0)
  have N11 := Fr.app N6 N11q
  replace G : Gets p e below _ (T11.setTop (mkF m 57 #[.val (.ref a), .val (.int (1 : Int32)), .val (.int (1 : Int32))] [])) := fun t k => G t (st11.trans k)
  replace G := own_iloadN (q := 58) G X11.here hx (hb hby d5_57) rfl rfl
  obtain ⟨fs, hr, hrun, hended, hW, hsame⟩ := X11.leave (v := some (.int (1 : Int32))) (fun h => by rw [Bd.returns] at h; cases h)
  refine ⟨_, _, G _ (retOut X11 hx Bd.returns rfl (Or.inl ⟨rfl, Or.inl rfl, _, rfl⟩) (hb hby d5_58) hr), hrun, hended, _, _, rfl, ?_, ⟨_, rfl⟩, hW, hsame.mono (by decide) (by decide)⟩
  show Q5 Z a sa ks h0 n0 _ T11.heap _
  exact ⟨b_11, kb_11, rfl, N11, K11, B11_0, B11_1, B11_2, B11_3, sz_b_11, B11_5⟩
theorem pd_5 : parseMethodDescriptor "(I)I" = some ⟨[.int], some .int⟩ := by decide +kernel
theorem d4_0 : decode prog_6_method_3_code 0 = .ok (.aload_n 0, 1) := by decide +kernel
theorem d4_1 : decode prog_6_method_3_code 1 = .ok (.getfield 39, 3) := by decide +kernel
theorem d4_4 : decode prog_6_method_3_code 4 = .ok (.aload_n 0, 1) := by decide +kernel
theorem d4_5 : decode prog_6_method_3_code 5 = .ok (.getfield 19, 3) := by decide +kernel
theorem d4_8 : decode prog_6_method_3_code 8 = .ok (.arraylength, 1) := by decide +kernel
theorem d4_9 : decode prog_6_method_3_code 9 = .ok (.if_icmp .ne 13, 3) := by decide +kernel
theorem d4_12 : decode prog_6_method_3_code 12 = .ok (.aload_n 0, 1) := by decide +kernel
theorem d4_13 : decode prog_6_method_3_code 13 = .ok (.iconst 1, 1) := by decide +kernel
theorem d4_14 : decode prog_6_method_3_code 14 = .ok (.invokevirtual 42, 3) := by decide +kernel
theorem d4_17 : decode prog_6_method_3_code 17 = .ok (.ifCond .ne 5, 3) := by decide +kernel
theorem d4_22 : decode prog_6_method_3_code 22 = .ok (.aload_n 0, 1) := by decide +kernel
theorem d4_23 : decode prog_6_method_3_code 23 = .ok (.getfield 19, 3) := by decide +kernel
theorem d4_26 : decode prog_6_method_3_code 26 = .ok (.aload_n 0, 1) := by decide +kernel
theorem d4_27 : decode prog_6_method_3_code 27 = .ok (.dup, 1) := by decide +kernel
theorem d4_28 : decode prog_6_method_3_code 28 = .ok (.getfield 39, 3) := by decide +kernel
theorem d4_31 : decode prog_6_method_3_code 31 = .ok (.dup_x1, 1) := by decide +kernel
theorem d4_32 : decode prog_6_method_3_code 32 = .ok (.iconst 1, 1) := by decide +kernel
theorem d4_33 : decode prog_6_method_3_code 33 = .ok (.iadd, 1) := by decide +kernel
theorem d4_34 : decode prog_6_method_3_code 34 = .ok (.putfield 39, 3) := by decide +kernel
theorem d4_37 : decode prog_6_method_3_code 37 = .ok (.iload_n 1, 1) := by decide +kernel
theorem d4_38 : decode prog_6_method_3_code 38 = .ok (.castore, 1) := by decide +kernel
theorem d4_39 : decode prog_6_method_3_code 39 = .ok (.aload_n 0, 1) := by decide +kernel
theorem d4_40 : decode prog_6_method_3_code 40 = .ok (.areturn, 1) := by decide +kernel
theorem ef_4s0 (m : MethodId) (x0 : Addr) (x1 : Int32) : entryFrame m #[(.ref x0), (.int x1)] 2 = mkF m 0 #[.val (.ref x0), .val (.int x1)] [] := by first | (simp [entryFrame, mkF, argsToLocals, Value.category]; done) | rfl
def Q4s0 (Z : State) (a : Addr) (ch : Int32) (sa : Addr) (ks : ClassId) (h0 : Heap) (n0 : Nat) (v : Option Value) (h : Heap) (L : List Loc) : Prop := ∃ (b : Addr) (kb : ClassId), v = some (.ref a) ∧ Fr n0 L ∧ Keep h0 h [a] ∧ (Fld Z h a "com/example/leafcutter/leafcutter/io/TextBuffer" "chars" "[C" (.ref b)) ∧ (Fld Z h a "com/example/leafcutter/leafcutter/io/TextBuffer" "length" "I" (.int (1 : Int32))) ∧ (Fld Z h a "com/example/leafcutter/leafcutter/io/TextBuffer" "limit" "I" (.int (2147483639 : Int32))) ∧ (Fld Z h a "com/example/leafcutter/leafcutter/io/TextBuffer" "whenFull" "Ljava/util/function/Consumer;" .null) ∧ h0.size ≤ b ∧ (Arv Z h b kb .char (16 : Int32) [(.int (nar .char ch)), (.int (0 : Int32)), (.int (0 : Int32)), (.int (0 : Int32)), (.int (0 : Int32)), (.int (0 : Int32)), (.int (0 : Int32)), (.int (0 : Int32)), (.int (0 : Int32)), (.int (0 : Int32)), (.int (0 : Int32)), (.int (0 : Int32)), (.int (0 : Int32)), (.int (0 : Int32)), (.int (0 : Int32)), (.int (0 : Int32))] (.int (0 : Int32)))
set_option maxRecDepth 65536 in
set_option maxHeartbeats 40000000 in
theorem rm4s0 (l : Launch) (Z : State) (a0 : Array Value) (hw : ∀ d ∈ tables_1, d.before a0 Z = true) (ws : List Jvm.Cond) (a : Addr) (ch : Int32) (sa : Addr) (ks : ClassId) (h0 : Heap) (n0 : Nat) (Z0 : n0 ≤ h0.size) (P0 : Fld Z h0 a "com/example/leafcutter/leafcutter/io/TextBuffer" "chars" "[C" (.ref sa)) (P1 : Fld Z h0 a "com/example/leafcutter/leafcutter/io/TextBuffer" "length" "I" (.int (0 : Int32))) (P2 : Fld Z h0 a "com/example/leafcutter/leafcutter/io/TextBuffer" "limit" "I" (.int (2147483639 : Int32))) (P3 : Fld Z h0 a "com/example/leafcutter/leafcutter/io/TextBuffer" "whenFull" "Ljava/util/function/Consumer;" .null) (P4 : Exa Z h0 a "com/example/leafcutter/leafcutter/io/TextBuffer") (P5 : Arv Z h0 sa ks .char (0 : Int32) [] (.int (0 : Int32))) (P6 : n0 ≤ a) (P7 : a ≠ sa) :
    MetFree l (⟨"com/example/leafcutter/leafcutter/io/TextBuffer", "append", "(C)Lcom/example/leafcutter/leafcutter/io/TextBuffer;"⟩ : MethodName) (head1 (Jvm.Cond.code (⟨"com/example/leafcutter/leafcutter/io/TextBuffer", "append", "(C)Lcom/example/leafcutter/leafcutter/io/TextBuffer;"⟩ : MethodName) prog_6_method_3_code 2 (some (.object "com/example/leafcutter/leafcutter/io/TextBuffer")) :: ws) ({ frames := 4, cells := 1, slots := 16, locals := 63 } : Room)) (fun argz U => argz = #[(.ref a), (.int ch)] ∧ Z.Warmed39 U.vm ∧ U.heap = h0) (fun _ _ _ _ _ => True) (fun _ U o U' => ∃ v L, o = .returned v ∧ Q4s0 Z a ch sa ks h0 n0 v U'.heap L ∧ FrameEnd U o U' L ({ frames := 4, cells := 1, slots := 16, locals := 63 } : Room).cells ({ frames := 4, cells := 1, slots := 16, locals := 63 } : Room).slots) := by
  refine MetFree.of_bodySF (plainFor_of_name pn_com_example_leafcutter_leafcutter_io_TextBuffer) hisR ?_
  intro p e s m args below meth c s₁ Bd hml0 hP hK
  obtain ⟨rfl, hZ, hh⟩ := hP
  have hx := Bd.exec
  have hby := Bd.bytes
  have hml : c.maxLocals = 2 := hml0
  have hown : s.vm.findClass "com/example/leafcutter/leafcutter/io/TextBuffer" = some m.cls := findClass_of_methodNamed Bd.named
  have hnm := (name_of_methodNamed Bd.named Bd.method).1
  have X0 : Stand p l e ({ frames := 4, cells := 1, slots := 16, locals := 63 } : Room) s m #[(.ref a), (.int ch)] below meth c s₁ [] 0 0 := Stand.of_body Bd
  have e0 : s₁.heap = h0 := by rw [← hh, Bd.state]; rfl
  have N0 := Fr.nil n0
  have K0 : Keep h0 h0 [a] := Keep.refl _ _
  have G : Gets p e below (s₁.setTop (entryFrame m #[(.ref a), (.int ch)] 2)) (s₁.setTop (mkF m 0 #[.val (.ref a), .val (.int ch)] [])) := fun t k => castTop (ef_4s0 m a ch) k
  replace G := own_aloadN (q := 1) G X0.here hx (hb hby d4_0) rfl rfl rfl
  obtain ⟨T1, X1, e1, st1⟩ := getF X0 hx hZ hown (host := "") (Or.inl (hw _ (List.mem_of_getElem? (i := 27) rfl))) Via.refl e0 P1 (g := (mkF m 1 #[.val (.ref a), .val (.int ch)] [(.ref a)])) rfl rfl (hb hby d4_1)
  replace G : Gets p e below _ (T1.setTop (mkF m 4 #[.val (.ref a), .val (.int ch)] [(.int (0 : Int32))])) := fun t k => G t (st1 t k)
  replace G := own_aloadN (q := 5) G X1.here hx (hb hby d4_4) rfl rfl rfl
  obtain ⟨T2, X2, e2, st2⟩ := getF X1 hx hZ hown (host := "") (Or.inl (hw _ (List.mem_of_getElem? (i := 16) rfl))) Via.refl e1 P0 (g := (mkF m 5 #[.val (.ref a), .val (.int ch)] [(.ref a), (.int (0 : Int32))])) rfl rfl (hb hby d4_5)
  replace G : Gets p e below _ (T2.setTop (mkF m 8 #[.val (.ref a), .val (.int ch)] [(.ref sa), (.int (0 : Int32))])) := fun t k => G t (st2 t k)
  obtain ⟨c3, Ar3, -, S3, N3', -, -⟩ := id P5
  replace G : Gets p e below _ (T2.setTop (mkF m 9 #[.val (.ref a), .val (.int ch)] [(.int (0 : Int32)), (.int (0 : Int32))])) := fun t k => G t (X2.arraylength hx (by rw [e2]; exact Ar3.1) (State.isArrayOf_alike hZ.alike Ar3.2.1) (g := (mkF m 8 #[.val (.ref a), .val (.int ch)] [(.ref sa), (.int (0 : Int32))])) rfl rfl (hb hby d4_8) t (by rw [len_of S3 N3']; exact k))
  have hc9_4 : (0 : Int32) = (0 : Int32) := by decide
  replace G := own_icmpNo (q := 12) G X2.here hx (hb hby d4_9) (teq hc9_4).2 rfl
  replace G := own_aloadN (q := 13) G X2.here hx (hb hby d4_12) rfl rfl rfl
  replace G := own_iconst (q := 14) G X2.here hx (hb hby d4_13) (v := (1 : Int32)) (by decide) rfl
  obtain ⟨cq5, q5, q5'⟩ := P4.cell
  obtain ⟨_, _, ⟨T5, L5, kk5, nn5⟩, -, X5, ⟨Lc5, hQ5, l5, y5, z5⟩, st5⟩ := X2.privateBack hx (y := (⟨"com/example/leafcutter/leafcutter/io/TextBuffer", "makeRoom", "(I)I"⟩ : MethodName)) hown (mvT hZ (hw _ (List.mem_of_getElem? (i := 29) rfl))) (mvT hZ (hw _ (List.mem_of_getElem? (i := 30) rfl))) (own_sel (z := (⟨"com/example/leafcutter/leafcutter/io/TextBuffer", "append", "(C)Lcom/example/leafcutter/leafcutter/io/TextBuffer;"⟩ : MethodName)) rfl (mvT hZ (hw _ (List.mem_of_getElem? (i := 24) rfl))) (mvT hZ (hw _ (List.mem_of_getElem? (i := 25) rfl))) (mvT hZ (hw _ (List.mem_of_getElem? (i := 30) rfl))) (Cond.privateMethod_at (mvP hZ (hw _ (List.mem_of_getElem? (i := 31) rfl)) (args := #[]))) (by decide)) (Cond.privateMethod_at (mvP hZ (hw _ (List.mem_of_getElem? (i := 31) rfl)) (args := #[]))) (mvT hZ (hw _ (List.mem_of_getElem? (i := 32) rfl))) (by decide) (backOf (W := 0) (rm5 l Z a0 hw [] a sa ks h0 n0 Z0 P0 P1 P2 P3 P4 P5 P6 P7) hZ (hw _ (List.mem_of_getElem? (i := 32) rfl)) (hw _ (List.mem_of_getElem? (i := 3) rfl)) (by decide) (by decide)) (g := (mkF m 14 #[.val (.ref a), .val (.int ch)] [(.int (1 : Int32)), (.ref a)])) rfl (by rw [hml]; rfl) (Steps.refl _) (a := a) (by rw [e2]; exact q5) q5' (argsL := [(.int (1 : Int32))]) (rest := []) (lenOf pd_5 rfl) rfl (by show 2 * 0 + _ ≤ _; exact Nat.le_of_eq rfl) (hb hby d4_14) (fun _ _ => ⟨rfl, e2, (by decide : 0 + 1 ≤ _), (by decide : 0 + 16 ≤ _)⟩)
  dsimp only [Pt.U, Pt.locs, Pt.cells, Pt.slots] at X5 l5 y5 z5 st5 hQ5
  subst l5 y5 z5
  obtain ⟨b_5, kb_5, rfl, N5q, K5q, B5_0, B5_1, B5_2, B5_3, B5_4, B5_5⟩ := hQ5
  have ne6 : a ≠ b_5 := Nat.ne_of_lt (Nat.lt_of_lt_of_le P0.lt B5_4)
  have ne7 : sa ≠ b_5 := Nat.ne_of_lt (Nat.lt_of_lt_of_le P5.lt B5_4)
  have ge_b_5 : n0 ≤ b_5 := Nat.le_trans Z0 B5_4
  have sz_b_5 : h0.size ≤ b_5 := Nat.le_trans K0.1 B5_4
  have Z5 : n0 ≤ T5.heap.size := Nat.le_trans Z0 K5q.1
  have K5 : Keep h0 T5.heap [a] := K0.trans K5q (allS (Or.inl (List.mem_of_getElem? (i := 0) rfl)) all0)
  have N5 := Fr.app N0 N5q
  replace G : Gets p e below _ (T5.setTop (mkF m 17 #[.val (.ref a), .val (.int ch)] [(.int (1 : Int32))])) := fun t k => G t (st5.trans k)
  have hc17_8 : ¬ ((1 : Int32) = (0 : Int32)) := by decide
  replace G := own_ifYes (q := 22) G X5.here hx (hb hby d4_17) ((if0 _ _).trans (feq hc17_8).2) (by decide) (by decide)
  replace G := own_aloadN (q := 23) G X5.here hx (hb hby d4_22) rfl rfl rfl
  obtain ⟨T9, X9, e9, st9⟩ := getF X5 hx hZ hown (host := "") (Or.inl (hw _ (List.mem_of_getElem? (i := 16) rfl))) Via.refl rfl B5_0 (g := (mkF m 23 #[.val (.ref a), .val (.int ch)] [(.ref a)])) rfl rfl (hb hby d4_23)
  replace G : Gets p e below _ (T9.setTop (mkF m 26 #[.val (.ref a), .val (.int ch)] [(.ref b_5)])) := fun t k => G t (st9 t k)
  replace G := own_aloadN (q := 27) G X9.here hx (hb hby d4_26) rfl rfl rfl
  replace G := own_dup (q := 28) G X9.here hx (hb hby d4_27) rfl rfl
  obtain ⟨T10, X10, e10, st10⟩ := getF X9 hx hZ hown (host := "") (Or.inl (hw _ (List.mem_of_getElem? (i := 27) rfl))) Via.refl e9 B5_1 (g := (mkF m 28 #[.val (.ref a), .val (.int ch)] [(.ref a), (.ref a), (.ref b_5)])) rfl rfl (hb hby d4_28)
  replace G : Gets p e below _ (T10.setTop (mkF m 31 #[.val (.ref a), .val (.int ch)] [(.int (0 : Int32)), (.ref a), (.ref b_5)])) := fun t k => G t (st10 t k)
  replace G := own_dup_x1 (q := 32) G X10.here hx (hb hby d4_31) rfl rfl rfl
  replace G := own_iconst (q := 33) G X10.here hx (hb hby d4_32) (v := (1 : Int32)) (by decide) rfl
  replace G := own_iadd (q := 34) G X10.here hx (hb hby d4_33) (by decide : ((0 : Int32) + (1 : Int32)) = (1 : Int32)) rfl
  have F11 : Exa Z T5.heap a "com/example/leafcutter/leafcutter/io/TextBuffer" := (P4.keep K5q)
  obtain ⟨T12, h12, X12, e12, W12, st12⟩ := putF X10 hx hZ hown (host := "") (Or.inl (hw _ (List.mem_of_getElem? (i := 27) rfl))) Via.refl e10 B5_1 F11 (Or.inl (hw _ (List.mem_of_getElem? (i := 28) rfl))) (hw _ (List.mem_of_getElem? (i := 2) rfl)) (ty := .int) (by decide) rfl rfl (g := (mkF m 34 #[.val (.ref a), .val (.int ch)] [(.int (1 : Int32)), (.ref a), (.int (0 : Int32)), (.ref b_5)])) rfl rfl (hb hby d4_34)
  have N12 := Fr.snoc X12 N5 P6
  have Z12 : n0 ≤ h12.size := Nat.le_trans Z5 (Keep.of_wr W12).1
  have K12 : Keep h0 h12 [a] := K5.wr W12 (Or.inl (List.mem_of_getElem? (i := 0) rfl))
  have F12 : Fld Z h12 a "com/example/leafcutter/leafcutter/io/TextBuffer" "length" "I" (.int (1 : Int32)) := B5_1.same W12
  replace G : Gets p e below _ (T12.setTop (mkF m 37 #[.val (.ref a), .val (.int ch)] [(.int (0 : Int32)), (.ref b_5)])) := fun t k => G t (st12 t k)
  replace G := own_iloadN (q := 38) G X12.here hx (hb hby d4_37) rfl rfl
  have F13 : Arv Z h12 b_5 kb_5 .char (16 : Int32) [(.int (0 : Int32)), (.int (0 : Int32)), (.int (0 : Int32)), (.int (0 : Int32)), (.int (0 : Int32)), (.int (0 : Int32)), (.int (0 : Int32)), (.int (0 : Int32)), (.int (0 : Int32)), (.int (0 : Int32)), (.int (0 : Int32)), (.int (0 : Int32)), (.int (0 : Int32)), (.int (0 : Int32)), (.int (0 : Int32)), (.int (0 : Int32))] (.int (0 : Int32)) := (B5_5.other W12 (Ne.symm ne6))
  obtain ⟨c14, Ar14, q14, S14, N14', H14, G14'⟩ := id F13
  have hin14 : ¬ ((0 : Int32) < 0 ∨ c14.slots.size ≤ ((0 : Int32)).toNatClampNeg) := inb_of S14 ⟨by decide, by decide⟩
  obtain ⟨T14, h14, X14, e14, W14, st14⟩ := stC X12 hx hZ e12 Ar14 (j := (0 : Int32)) hin14 (g := (mkF m 38 #[.val (.ref a), .val (.int ch)] [(.int ch), (.int (0 : Int32)), (.ref b_5)])) rfl rfl (hb hby d4_38)
  have N14 := Fr.snoc X14 N12 ge_b_5
  have Z14 : n0 ≤ h14.size := Nat.le_trans Z12 (Keep.of_wr W14).1
  have K14 : Keep h0 h14 [a] := K12.wr W14 (Or.inr sz_b_5)
  have V14 : Arv Z h14 b_5 kb_5 .char (16 : Int32) [(.int (nar .char ch)), (.int (0 : Int32)), (.int (0 : Int32)), (.int (0 : Int32)), (.int (0 : Int32)), (.int (0 : Int32)), (.int (0 : Int32)), (.int (0 : Int32)), (.int (0 : Int32)), (.int (0 : Int32)), (.int (0 : Int32)), (.int (0 : Int32)), (.int (0 : Int32)), (.int (0 : Int32)), (.int (0 : Int32)), (.int (0 : Int32))] (.int (0 : Int32)) := Arv.set Ar14 q14 S14 N14' H14 G14' (fits_nar_char _) W14 0 rfl (Nat.le_of_ble_eq_true rfl)
  replace G : Gets p e below _ (T14.setTop (mkF m 39 #[.val (.ref a), .val (.int ch)] [])) := fun t k => G t (st14 t k)
  replace G := own_aloadN (q := 40) G X14.here hx (hb hby d4_39) rfl rfl rfl
  obtain ⟨fs, hr, hrun, hended, hW, hsame⟩ := X14.leave (v := some (.ref a)) (fun h => by rw [Bd.returns] at h; cases h)
  refine ⟨_, _, G _ (retOut X14 hx Bd.returns rfl (Or.inr (Or.inr (Or.inr (Or.inr ⟨rfl, rfl, rfl⟩)))) (hb hby d4_40) hr), hrun, hended, _, _, rfl, ?_, ⟨_, rfl⟩, hW, hsame.mono (by decide) (by decide)⟩
  have F15 : Fld Z h14 a "com/example/leafcutter/leafcutter/io/TextBuffer" "chars" "[C" (.ref b_5) := ((B5_0.other W12 (Or.inr (slot_ne (Or.inl (hw _ (List.mem_of_getElem? (i := 17) rfl))) (Or.inl (hw _ (List.mem_of_getElem? (i := 28) rfl))) (by decide) (t := (.array .char)) (t' := .int) (by decide) (by decide)))).other W14 (Or.inl ne6))
  have F16 : Fld Z h14 a "com/example/leafcutter/leafcutter/io/TextBuffer" "length" "I" (.int (1 : Int32)) := (F12.other W14 (Or.inl ne6))
  have F17 : Fld Z h14 a "com/example/leafcutter/leafcutter/io/TextBuffer" "limit" "I" (.int (2147483639 : Int32)) := ((B5_2.other W12 (Or.inr (slot_ne (Or.inr (hw _ (List.mem_of_getElem? (i := 19) rfl))) (Or.inl (hw _ (List.mem_of_getElem? (i := 28) rfl))) (by decide) (t := .int) (t' := .int) (by decide) (by decide)))).other W14 (Or.inl ne6))
  have F18 : Fld Z h14 a "com/example/leafcutter/leafcutter/io/TextBuffer" "whenFull" "Ljava/util/function/Consumer;" .null := ((B5_3.other W12 (Or.inr (slot_ne (Or.inr (hw _ (List.mem_of_getElem? (i := 21) rfl))) (Or.inl (hw _ (List.mem_of_getElem? (i := 28) rfl))) (by decide) (t := (.object "java/util/function/Consumer")) (t' := .int) (by decide) (by decide)))).other W14 (Or.inl ne6))
  show Q4s0 Z a ch sa ks h0 n0 _ T14.heap _
  rw [e14]
  exact ⟨b_5, kb_5, rfl, N14, K14, F15, F16, F17, F18, sz_b_5, V14⟩
theorem ef_4s1 (m : MethodId) (x0 : Addr) (x1 : Int32) : entryFrame m #[(.ref x0), (.int x1)] 2 = mkF m 0 #[.val (.ref x0), .val (.int x1)] [] := by first | (simp [entryFrame, mkF, argsToLocals, Value.category]; done) | rfl
def Q4s1 (Z : State) (a : Addr) (ch : Int32) (b : Addr) (kb : ClassId) (ec0 : Int32) (h0 : Heap) (n0 : Nat) (v : Option Value) (h : Heap) (L : List Loc) : Prop := v = some (.ref a) ∧ Fr n0 L ∧ Keep h0 h [a, b] ∧ (Fld Z h a "com/example/leafcutter/leafcutter/io/TextBuffer" "chars" "[C" (.ref b)) ∧ (Fld Z h a "com/example/leafcutter/leafcutter/io/TextBuffer" "length" "I" (.int (2 : Int32))) ∧ (Fld Z h a "com/example/leafcutter/leafcutter/io/TextBuffer" "limit" "I" (.int (2147483639 : Int32))) ∧ (Fld Z h a "com/example/leafcutter/leafcutter/io/TextBuffer" "whenFull" "Ljava/util/function/Consumer;" .null) ∧ (Arv Z h b kb .char (16 : Int32) [(.int ec0), (.int (nar .char ch)), (.int (0 : Int32)), (.int (0 : Int32)), (.int (0 : Int32)), (.int (0 : Int32)), (.int (0 : Int32)), (.int (0 : Int32)), (.int (0 : Int32)), (.int (0 : Int32)), (.int (0 : Int32)), (.int (0 : Int32)), (.int (0 : Int32)), (.int (0 : Int32)), (.int (0 : Int32)), (.int (0 : Int32))] (.int (0 : Int32)))
set_option maxRecDepth 65536 in
set_option maxHeartbeats 40000000 in
theorem rm4s1 (l : Launch) (Z : State) (a0 : Array Value) (hw : ∀ d ∈ tables_1, d.before a0 Z = true) (ws : List Jvm.Cond) (a : Addr) (ch : Int32) (b : Addr) (kb : ClassId) (ec0 : Int32) (h0 : Heap) (n0 : Nat) (Z0 : n0 ≤ h0.size) (P0 : Fld Z h0 a "com/example/leafcutter/leafcutter/io/TextBuffer" "chars" "[C" (.ref b)) (P1 : Fld Z h0 a "com/example/leafcutter/leafcutter/io/TextBuffer" "length" "I" (.int (1 : Int32))) (P2 : Fld Z h0 a "com/example/leafcutter/leafcutter/io/TextBuffer" "limit" "I" (.int (2147483639 : Int32))) (P3 : Fld Z h0 a "com/example/leafcutter/leafcutter/io/TextBuffer" "whenFull" "Ljava/util/function/Consumer;" .null) (P4 : Exa Z h0 a "com/example/leafcutter/leafcutter/io/TextBuffer") (P5 : Arv Z h0 b kb .char (16 : Int32) [(.int ec0), (.int (0 : Int32)), (.int (0 : Int32)), (.int (0 : Int32)), (.int (0 : Int32)), (.int (0 : Int32)), (.int (0 : Int32)), (.int (0 : Int32)), (.int (0 : Int32)), (.int (0 : Int32)), (.int (0 : Int32)), (.int (0 : Int32)), (.int (0 : Int32)), (.int (0 : Int32)), (.int (0 : Int32)), (.int (0 : Int32))] (.int (0 : Int32))) (P6 : n0 ≤ a) (P7 : n0 ≤ b) (P8 : a ≠ b) :
    MetFree l (⟨"com/example/leafcutter/leafcutter/io/TextBuffer", "append", "(C)Lcom/example/leafcutter/leafcutter/io/TextBuffer;"⟩ : MethodName) (head1 (Jvm.Cond.code (⟨"com/example/leafcutter/leafcutter/io/TextBuffer", "append", "(C)Lcom/example/leafcutter/leafcutter/io/TextBuffer;"⟩ : MethodName) prog_6_method_3_code 2 (some (.object "com/example/leafcutter/leafcutter/io/TextBuffer")) :: ws) ({ frames := 0, cells := 0, slots := 0, locals := 0 } : Room)) (fun argz U => argz = #[(.ref a), (.int ch)] ∧ Z.Warmed39 U.vm ∧ U.heap = h0) (fun _ _ _ _ _ => True) (fun _ U o U' => ∃ v L, o = .returned v ∧ Q4s1 Z a ch b kb ec0 h0 n0 v U'.heap L ∧ FrameEnd U o U' L ({ frames := 0, cells := 0, slots := 0, locals := 0 } : Room).cells ({ frames := 0, cells := 0, slots := 0, locals := 0 } : Room).slots) := by
  refine MetFree.of_bodySF (plainFor_of_name pn_com_example_leafcutter_leafcutter_io_TextBuffer) hisR ?_
  intro p e s m args below meth c s₁ Bd hml0 hP hK
  obtain ⟨rfl, hZ, hh⟩ := hP
  have hx := Bd.exec
  have hby := Bd.bytes
  have hml : c.maxLocals = 2 := hml0
  have hown : s.vm.findClass "com/example/leafcutter/leafcutter/io/TextBuffer" = some m.cls := findClass_of_methodNamed Bd.named
  have hnm := (name_of_methodNamed Bd.named Bd.method).1
  have X0 : Stand p l e ({ frames := 0, cells := 0, slots := 0, locals := 0 } : Room) s m #[(.ref a), (.int ch)] below meth c s₁ [] 0 0 := Stand.of_body Bd
  have e0 : s₁.heap = h0 := by rw [← hh, Bd.state]; rfl
  have N0 := Fr.nil n0
  have K0 : Keep h0 h0 [a, b] := Keep.refl _ _
  have G : Gets p e below (s₁.setTop (entryFrame m #[(.ref a), (.int ch)] 2)) (s₁.setTop (mkF m 0 #[.val (.ref a), .val (.int ch)] [])) := fun t k => castTop (ef_4s1 m a ch) k
  replace G := own_aloadN (q := 1) G X0.here hx (hb hby d4_0) rfl rfl rfl
  obtain ⟨T1, X1, e1, st1⟩ := getF X0 hx hZ hown (host := "") (Or.inl (hw _ (List.mem_of_getElem? (i := 27) rfl))) Via.refl e0 P1 (g := (mkF m 1 #[.val (.ref a), .val (.int ch)] [(.ref a)])) rfl rfl (hb hby d4_1)
  replace G : Gets p e below _ (T1.setTop (mkF m 4 #[.val (.ref a), .val (.int ch)] [(.int (1 : Int32))])) := fun t k => G t (st1 t k)
  replace G := own_aloadN (q := 5) G X1.here hx (hb hby d4_4) rfl rfl rfl
  obtain ⟨T2, X2, e2, st2⟩ := getF X1 hx hZ hown (host := "") (Or.inl (hw _ (List.mem_of_getElem? (i := 16) rfl))) Via.refl e1 P0 (g := (mkF m 5 #[.val (.ref a), .val (.int ch)] [(.ref a), (.int (1 : Int32))])) rfl rfl (hb hby d4_5)
  replace G : Gets p e below _ (T2.setTop (mkF m 8 #[.val (.ref a), .val (.int ch)] [(.ref b), (.int (1 : Int32))])) := fun t k => G t (st2 t k)
  obtain ⟨c3, Ar3, -, S3, N3', -, -⟩ := id P5
  replace G : Gets p e below _ (T2.setTop (mkF m 9 #[.val (.ref a), .val (.int ch)] [(.int (16 : Int32)), (.int (1 : Int32))])) := fun t k => G t (X2.arraylength hx (by rw [e2]; exact Ar3.1) (State.isArrayOf_alike hZ.alike Ar3.2.1) (g := (mkF m 8 #[.val (.ref a), .val (.int ch)] [(.ref b), (.int (1 : Int32))])) rfl rfl (hb hby d4_8) t (by rw [len_of S3 N3']; exact k))
  have hc9_4 : ¬ ((1 : Int32) = (16 : Int32)) := by decide
  replace G := own_icmpYes (q := 22) G X2.here hx (hb hby d4_9) (feq hc9_4).2 (by decide) (by decide)
  replace G := own_aloadN (q := 23) G X2.here hx (hb hby d4_22) rfl rfl rfl
  obtain ⟨T5, X5, e5, st5⟩ := getF X2 hx hZ hown (host := "") (Or.inl (hw _ (List.mem_of_getElem? (i := 16) rfl))) Via.refl e2 P0 (g := (mkF m 23 #[.val (.ref a), .val (.int ch)] [(.ref a)])) rfl rfl (hb hby d4_23)
  replace G : Gets p e below _ (T5.setTop (mkF m 26 #[.val (.ref a), .val (.int ch)] [(.ref b)])) := fun t k => G t (st5 t k)
  replace G := own_aloadN (q := 27) G X5.here hx (hb hby d4_26) rfl rfl rfl
  replace G := own_dup (q := 28) G X5.here hx (hb hby d4_27) rfl rfl
  obtain ⟨T6, X6, e6, st6⟩ := getF X5 hx hZ hown (host := "") (Or.inl (hw _ (List.mem_of_getElem? (i := 27) rfl))) Via.refl e5 P1 (g := (mkF m 28 #[.val (.ref a), .val (.int ch)] [(.ref a), (.ref a), (.ref b)])) rfl rfl (hb hby d4_28)
  replace G : Gets p e below _ (T6.setTop (mkF m 31 #[.val (.ref a), .val (.int ch)] [(.int (1 : Int32)), (.ref a), (.ref b)])) := fun t k => G t (st6 t k)
  replace G := own_dup_x1 (q := 32) G X6.here hx (hb hby d4_31) rfl rfl rfl
  replace G := own_iconst (q := 33) G X6.here hx (hb hby d4_32) (v := (1 : Int32)) (by decide) rfl
  replace G := own_iadd (q := 34) G X6.here hx (hb hby d4_33) (by decide : ((1 : Int32) + (1 : Int32)) = (2 : Int32)) rfl
  obtain ⟨T7, h7, X7, e7, W7, st7⟩ := putF X6 hx hZ hown (host := "") (Or.inl (hw _ (List.mem_of_getElem? (i := 27) rfl))) Via.refl e6 P1 P4 (Or.inl (hw _ (List.mem_of_getElem? (i := 28) rfl))) (hw _ (List.mem_of_getElem? (i := 2) rfl)) (ty := .int) (by decide) rfl rfl (g := (mkF m 34 #[.val (.ref a), .val (.int ch)] [(.int (2 : Int32)), (.ref a), (.int (1 : Int32)), (.ref b)])) rfl rfl (hb hby d4_34)
  have N7 := Fr.snoc X7 N0 P6
  have Z7 : n0 ≤ h7.size := Nat.le_trans Z0 (Keep.of_wr W7).1
  have K7 : Keep h0 h7 [a, b] := K0.wr W7 (Or.inl (List.mem_of_getElem? (i := 0) rfl))
  have F7 : Fld Z h7 a "com/example/leafcutter/leafcutter/io/TextBuffer" "length" "I" (.int (2 : Int32)) := P1.same W7
  replace G : Gets p e below _ (T7.setTop (mkF m 37 #[.val (.ref a), .val (.int ch)] [(.int (1 : Int32)), (.ref b)])) := fun t k => G t (st7 t k)
  replace G := own_iloadN (q := 38) G X7.here hx (hb hby d4_37) rfl rfl
  have F8 : Arv Z h7 b kb .char (16 : Int32) [(.int ec0), (.int (0 : Int32)), (.int (0 : Int32)), (.int (0 : Int32)), (.int (0 : Int32)), (.int (0 : Int32)), (.int (0 : Int32)), (.int (0 : Int32)), (.int (0 : Int32)), (.int (0 : Int32)), (.int (0 : Int32)), (.int (0 : Int32)), (.int (0 : Int32)), (.int (0 : Int32)), (.int (0 : Int32)), (.int (0 : Int32))] (.int (0 : Int32)) := (P5.other W7 (Ne.symm P8))
  obtain ⟨c9, Ar9, q9, S9, N9', H9, G9'⟩ := id F8
  have hin9 : ¬ ((1 : Int32) < 0 ∨ c9.slots.size ≤ ((1 : Int32)).toNatClampNeg) := inb_of S9 ⟨by decide, by decide⟩
  obtain ⟨T9, h9, X9, e9, W9, st9⟩ := stC X7 hx hZ e7 Ar9 (j := (1 : Int32)) hin9 (g := (mkF m 38 #[.val (.ref a), .val (.int ch)] [(.int ch), (.int (1 : Int32)), (.ref b)])) rfl rfl (hb hby d4_38)
  have N9 := Fr.snoc X9 N7 P7
  have Z9 : n0 ≤ h9.size := Nat.le_trans Z7 (Keep.of_wr W9).1
  have K9 : Keep h0 h9 [a, b] := K7.wr W9 (Or.inl (List.mem_of_getElem? (i := 1) rfl))
  have V9 : Arv Z h9 b kb .char (16 : Int32) [(.int ec0), (.int (nar .char ch)), (.int (0 : Int32)), (.int (0 : Int32)), (.int (0 : Int32)), (.int (0 : Int32)), (.int (0 : Int32)), (.int (0 : Int32)), (.int (0 : Int32)), (.int (0 : Int32)), (.int (0 : Int32)), (.int (0 : Int32)), (.int (0 : Int32)), (.int (0 : Int32)), (.int (0 : Int32)), (.int (0 : Int32))] (.int (0 : Int32)) := Arv.set Ar9 q9 S9 N9' H9 G9' (fits_nar_char _) W9 1 rfl (Nat.le_of_ble_eq_true rfl)
  replace G : Gets p e below _ (T9.setTop (mkF m 39 #[.val (.ref a), .val (.int ch)] [])) := fun t k => G t (st9 t k)
  replace G := own_aloadN (q := 40) G X9.here hx (hb hby d4_39) rfl rfl rfl
  obtain ⟨fs, hr, hrun, hended, hW, hsame⟩ := X9.leave (v := some (.ref a)) (fun h => by rw [Bd.returns] at h; cases h)
  refine ⟨_, _, G _ (retOut X9 hx Bd.returns rfl (Or.inr (Or.inr (Or.inr (Or.inr ⟨rfl, rfl, rfl⟩)))) (hb hby d4_40) hr), hrun, hended, _, _, rfl, ?_, ⟨_, rfl⟩, hW, hsame.mono (by decide) (by decide)⟩
  have F10 : Fld Z h9 a "com/example/leafcutter/leafcutter/io/TextBuffer" "chars" "[C" (.ref b) := ((P0.other W7 (Or.inr (slot_ne (Or.inl (hw _ (List.mem_of_getElem? (i := 17) rfl))) (Or.inl (hw _ (List.mem_of_getElem? (i := 28) rfl))) (by decide) (t := (.array .char)) (t' := .int) (by decide) (by decide)))).other W9 (Or.inl P8))
  have F11 : Fld Z h9 a "com/example/leafcutter/leafcutter/io/TextBuffer" "length" "I" (.int (2 : Int32)) := (F7.other W9 (Or.inl P8))
  have F12 : Fld Z h9 a "com/example/leafcutter/leafcutter/io/TextBuffer" "limit" "I" (.int (2147483639 : Int32)) := ((P2.other W7 (Or.inr (slot_ne (Or.inr (hw _ (List.mem_of_getElem? (i := 19) rfl))) (Or.inl (hw _ (List.mem_of_getElem? (i := 28) rfl))) (by decide) (t := .int) (t' := .int) (by decide) (by decide)))).other W9 (Or.inl P8))
  have F13 : Fld Z h9 a "com/example/leafcutter/leafcutter/io/TextBuffer" "whenFull" "Ljava/util/function/Consumer;" .null := ((P3.other W7 (Or.inr (slot_ne (Or.inr (hw _ (List.mem_of_getElem? (i := 21) rfl))) (Or.inl (hw _ (List.mem_of_getElem? (i := 28) rfl))) (by decide) (t := (.object "java/util/function/Consumer")) (t' := .int) (by decide) (by decide)))).other W9 (Or.inl P8))
  show Q4s1 Z a ch b kb ec0 h0 n0 _ T9.heap _
  rw [e9]
  exact ⟨rfl, N9, K9, F10, F11, F12, F13, V9⟩
theorem ef_4s2 (m : MethodId) (x0 : Addr) (x1 : Int32) : entryFrame m #[(.ref x0), (.int x1)] 2 = mkF m 0 #[.val (.ref x0), .val (.int x1)] [] := by first | (simp [entryFrame, mkF, argsToLocals, Value.category]; done) | rfl
def Q4s2 (Z : State) (a : Addr) (ch : Int32) (b : Addr) (kb : ClassId) (ec0 : Int32) (ec1 : Int32) (h0 : Heap) (n0 : Nat) (v : Option Value) (h : Heap) (L : List Loc) : Prop := v = some (.ref a) ∧ Fr n0 L ∧ Keep h0 h [a, b] ∧ (Fld Z h a "com/example/leafcutter/leafcutter/io/TextBuffer" "chars" "[C" (.ref b)) ∧ (Fld Z h a "com/example/leafcutter/leafcutter/io/TextBuffer" "length" "I" (.int (3 : Int32))) ∧ (Fld Z h a "com/example/leafcutter/leafcutter/io/TextBuffer" "limit" "I" (.int (2147483639 : Int32))) ∧ (Fld Z h a "com/example/leafcutter/leafcutter/io/TextBuffer" "whenFull" "Ljava/util/function/Consumer;" .null) ∧ (Arv Z h b kb .char (16 : Int32) [(.int ec0), (.int ec1), (.int (nar .char ch)), (.int (0 : Int32)), (.int (0 : Int32)), (.int (0 : Int32)), (.int (0 : Int32)), (.int (0 : Int32)), (.int (0 : Int32)), (.int (0 : Int32)), (.int (0 : Int32)), (.int (0 : Int32)), (.int (0 : Int32)), (.int (0 : Int32)), (.int (0 : Int32)), (.int (0 : Int32))] (.int (0 : Int32)))
set_option maxRecDepth 65536 in
set_option maxHeartbeats 40000000 in
theorem rm4s2 (l : Launch) (Z : State) (a0 : Array Value) (hw : ∀ d ∈ tables_1, d.before a0 Z = true) (ws : List Jvm.Cond) (a : Addr) (ch : Int32) (b : Addr) (kb : ClassId) (ec0 : Int32) (ec1 : Int32) (h0 : Heap) (n0 : Nat) (Z0 : n0 ≤ h0.size) (P0 : Fld Z h0 a "com/example/leafcutter/leafcutter/io/TextBuffer" "chars" "[C" (.ref b)) (P1 : Fld Z h0 a "com/example/leafcutter/leafcutter/io/TextBuffer" "length" "I" (.int (2 : Int32))) (P2 : Fld Z h0 a "com/example/leafcutter/leafcutter/io/TextBuffer" "limit" "I" (.int (2147483639 : Int32))) (P3 : Fld Z h0 a "com/example/leafcutter/leafcutter/io/TextBuffer" "whenFull" "Ljava/util/function/Consumer;" .null) (P4 : Exa Z h0 a "com/example/leafcutter/leafcutter/io/TextBuffer") (P5 : Arv Z h0 b kb .char (16 : Int32) [(.int ec0), (.int ec1), (.int (0 : Int32)), (.int (0 : Int32)), (.int (0 : Int32)), (.int (0 : Int32)), (.int (0 : Int32)), (.int (0 : Int32)), (.int (0 : Int32)), (.int (0 : Int32)), (.int (0 : Int32)), (.int (0 : Int32)), (.int (0 : Int32)), (.int (0 : Int32)), (.int (0 : Int32)), (.int (0 : Int32))] (.int (0 : Int32))) (P6 : n0 ≤ a) (P7 : n0 ≤ b) (P8 : a ≠ b) :
    MetFree l (⟨"com/example/leafcutter/leafcutter/io/TextBuffer", "append", "(C)Lcom/example/leafcutter/leafcutter/io/TextBuffer;"⟩ : MethodName) (head1 (Jvm.Cond.code (⟨"com/example/leafcutter/leafcutter/io/TextBuffer", "append", "(C)Lcom/example/leafcutter/leafcutter/io/TextBuffer;"⟩ : MethodName) prog_6_method_3_code 2 (some (.object "com/example/leafcutter/leafcutter/io/TextBuffer")) :: ws) ({ frames := 0, cells := 0, slots := 0, locals := 0 } : Room)) (fun argz U => argz = #[(.ref a), (.int ch)] ∧ Z.Warmed39 U.vm ∧ U.heap = h0) (fun _ _ _ _ _ => True) (fun _ U o U' => ∃ v L, o = .returned v ∧ Q4s2 Z a ch b kb ec0 ec1 h0 n0 v U'.heap L ∧ FrameEnd U o U' L ({ frames := 0, cells := 0, slots := 0, locals := 0 } : Room).cells ({ frames := 0, cells := 0, slots := 0, locals := 0 } : Room).slots) := by
  refine MetFree.of_bodySF (plainFor_of_name pn_com_example_leafcutter_leafcutter_io_TextBuffer) hisR ?_
  intro p e s m args below meth c s₁ Bd hml0 hP hK
  obtain ⟨rfl, hZ, hh⟩ := hP
  have hx := Bd.exec
  have hby := Bd.bytes
  have hml : c.maxLocals = 2 := hml0
  have hown : s.vm.findClass "com/example/leafcutter/leafcutter/io/TextBuffer" = some m.cls := findClass_of_methodNamed Bd.named
  have hnm := (name_of_methodNamed Bd.named Bd.method).1
  have X0 : Stand p l e ({ frames := 0, cells := 0, slots := 0, locals := 0 } : Room) s m #[(.ref a), (.int ch)] below meth c s₁ [] 0 0 := Stand.of_body Bd
  have e0 : s₁.heap = h0 := by rw [← hh, Bd.state]; rfl
  have N0 := Fr.nil n0
  have K0 : Keep h0 h0 [a, b] := Keep.refl _ _
  have G : Gets p e below (s₁.setTop (entryFrame m #[(.ref a), (.int ch)] 2)) (s₁.setTop (mkF m 0 #[.val (.ref a), .val (.int ch)] [])) := fun t k => castTop (ef_4s2 m a ch) k
  replace G := own_aloadN (q := 1) G X0.here hx (hb hby d4_0) rfl rfl rfl
  obtain ⟨T1, X1, e1, st1⟩ := getF X0 hx hZ hown (host := "") (Or.inl (hw _ (List.mem_of_getElem? (i := 27) rfl))) Via.refl e0 P1 (g := (mkF m 1 #[.val (.ref a), .val (.int ch)] [(.ref a)])) rfl rfl (hb hby d4_1)
  replace G : Gets p e below _ (T1.setTop (mkF m 4 #[.val (.ref a), .val (.int ch)] [(.int (2 : Int32))])) := fun t k => G t (st1 t k)
  replace G := own_aloadN (q := 5) G X1.here hx (hb hby d4_4) rfl rfl rfl
  obtain ⟨T2, X2, e2, st2⟩ := getF X1 hx hZ hown (host := "") (Or.inl (hw _ (List.mem_of_getElem? (i := 16) rfl))) Via.refl e1 P0 (g := (mkF m 5 #[.val (.ref a), .val (.int ch)] [(.ref a), (.int (2 : Int32))])) rfl rfl (hb hby d4_5)
  replace G : Gets p e below _ (T2.setTop (mkF m 8 #[.val (.ref a), .val (.int ch)] [(.ref b), (.int (2 : Int32))])) := fun t k => G t (st2 t k)
  obtain ⟨c3, Ar3, -, S3, N3', -, -⟩ := id P5
  replace G : Gets p e below _ (T2.setTop (mkF m 9 #[.val (.ref a), .val (.int ch)] [(.int (16 : Int32)), (.int (2 : Int32))])) := fun t k => G t (X2.arraylength hx (by rw [e2]; exact Ar3.1) (State.isArrayOf_alike hZ.alike Ar3.2.1) (g := (mkF m 8 #[.val (.ref a), .val (.int ch)] [(.ref b), (.int (2 : Int32))])) rfl rfl (hb hby d4_8) t (by rw [len_of S3 N3']; exact k))
  have hc9_4 : ¬ ((2 : Int32) = (16 : Int32)) := by decide
  replace G := own_icmpYes (q := 22) G X2.here hx (hb hby d4_9) (feq hc9_4).2 (by decide) (by decide)
  replace G := own_aloadN (q := 23) G X2.here hx (hb hby d4_22) rfl rfl rfl
  obtain ⟨T5, X5, e5, st5⟩ := getF X2 hx hZ hown (host := "") (Or.inl (hw _ (List.mem_of_getElem? (i := 16) rfl))) Via.refl e2 P0 (g := (mkF m 23 #[.val (.ref a), .val (.int ch)] [(.ref a)])) rfl rfl (hb hby d4_23)
  replace G : Gets p e below _ (T5.setTop (mkF m 26 #[.val (.ref a), .val (.int ch)] [(.ref b)])) := fun t k => G t (st5 t k)
  replace G := own_aloadN (q := 27) G X5.here hx (hb hby d4_26) rfl rfl rfl
  replace G := own_dup (q := 28) G X5.here hx (hb hby d4_27) rfl rfl
  obtain ⟨T6, X6, e6, st6⟩ := getF X5 hx hZ hown (host := "") (Or.inl (hw _ (List.mem_of_getElem? (i := 27) rfl))) Via.refl e5 P1 (g := (mkF m 28 #[.val (.ref a), .val (.int ch)] [(.ref a), (.ref a), (.ref b)])) rfl rfl (hb hby d4_28)
  replace G : Gets p e below _ (T6.setTop (mkF m 31 #[.val (.ref a), .val (.int ch)] [(.int (2 : Int32)), (.ref a), (.ref b)])) := fun t k => G t (st6 t k)
  replace G := own_dup_x1 (q := 32) G X6.here hx (hb hby d4_31) rfl rfl rfl
  replace G := own_iconst (q := 33) G X6.here hx (hb hby d4_32) (v := (1 : Int32)) (by decide) rfl
  replace G := own_iadd (q := 34) G X6.here hx (hb hby d4_33) (by decide : ((2 : Int32) + (1 : Int32)) = (3 : Int32)) rfl
  obtain ⟨T7, h7, X7, e7, W7, st7⟩ := putF X6 hx hZ hown (host := "") (Or.inl (hw _ (List.mem_of_getElem? (i := 27) rfl))) Via.refl e6 P1 P4 (Or.inl (hw _ (List.mem_of_getElem? (i := 28) rfl))) (hw _ (List.mem_of_getElem? (i := 2) rfl)) (ty := .int) (by decide) rfl rfl (g := (mkF m 34 #[.val (.ref a), .val (.int ch)] [(.int (3 : Int32)), (.ref a), (.int (2 : Int32)), (.ref b)])) rfl rfl (hb hby d4_34)
  have N7 := Fr.snoc X7 N0 P6
  have Z7 : n0 ≤ h7.size := Nat.le_trans Z0 (Keep.of_wr W7).1
  have K7 : Keep h0 h7 [a, b] := K0.wr W7 (Or.inl (List.mem_of_getElem? (i := 0) rfl))
  have F7 : Fld Z h7 a "com/example/leafcutter/leafcutter/io/TextBuffer" "length" "I" (.int (3 : Int32)) := P1.same W7
  replace G : Gets p e below _ (T7.setTop (mkF m 37 #[.val (.ref a), .val (.int ch)] [(.int (2 : Int32)), (.ref b)])) := fun t k => G t (st7 t k)
  replace G := own_iloadN (q := 38) G X7.here hx (hb hby d4_37) rfl rfl
  have F8 : Arv Z h7 b kb .char (16 : Int32) [(.int ec0), (.int ec1), (.int (0 : Int32)), (.int (0 : Int32)), (.int (0 : Int32)), (.int (0 : Int32)), (.int (0 : Int32)), (.int (0 : Int32)), (.int (0 : Int32)), (.int (0 : Int32)), (.int (0 : Int32)), (.int (0 : Int32)), (.int (0 : Int32)), (.int (0 : Int32)), (.int (0 : Int32)), (.int (0 : Int32))] (.int (0 : Int32)) := (P5.other W7 (Ne.symm P8))
  obtain ⟨c9, Ar9, q9, S9, N9', H9, G9'⟩ := id F8
  have hin9 : ¬ ((2 : Int32) < 0 ∨ c9.slots.size ≤ ((2 : Int32)).toNatClampNeg) := inb_of S9 ⟨by decide, by decide⟩
  obtain ⟨T9, h9, X9, e9, W9, st9⟩ := stC X7 hx hZ e7 Ar9 (j := (2 : Int32)) hin9 (g := (mkF m 38 #[.val (.ref a), .val (.int ch)] [(.int ch), (.int (2 : Int32)), (.ref b)])) rfl rfl (hb hby d4_38)
  have N9 := Fr.snoc X9 N7 P7
  have Z9 : n0 ≤ h9.size := Nat.le_trans Z7 (Keep.of_wr W9).1
  have K9 : Keep h0 h9 [a, b] := K7.wr W9 (Or.inl (List.mem_of_getElem? (i := 1) rfl))
  have V9 : Arv Z h9 b kb .char (16 : Int32) [(.int ec0), (.int ec1), (.int (nar .char ch)), (.int (0 : Int32)), (.int (0 : Int32)), (.int (0 : Int32)), (.int (0 : Int32)), (.int (0 : Int32)), (.int (0 : Int32)), (.int (0 : Int32)), (.int (0 : Int32)), (.int (0 : Int32)), (.int (0 : Int32)), (.int (0 : Int32)), (.int (0 : Int32)), (.int (0 : Int32))] (.int (0 : Int32)) := Arv.set Ar9 q9 S9 N9' H9 G9' (fits_nar_char _) W9 2 rfl (Nat.le_of_ble_eq_true rfl)
  replace G : Gets p e below _ (T9.setTop (mkF m 39 #[.val (.ref a), .val (.int ch)] [])) := fun t k => G t (st9 t k)
  replace G := own_aloadN (q := 40) G X9.here hx (hb hby d4_39) rfl rfl rfl
  obtain ⟨fs, hr, hrun, hended, hW, hsame⟩ := X9.leave (v := some (.ref a)) (fun h => by rw [Bd.returns] at h; cases h)
  refine ⟨_, _, G _ (retOut X9 hx Bd.returns rfl (Or.inr (Or.inr (Or.inr (Or.inr ⟨rfl, rfl, rfl⟩)))) (hb hby d4_40) hr), hrun, hended, _, _, rfl, ?_, ⟨_, rfl⟩, hW, hsame.mono (by decide) (by decide)⟩
  have F10 : Fld Z h9 a "com/example/leafcutter/leafcutter/io/TextBuffer" "chars" "[C" (.ref b) := ((P0.other W7 (Or.inr (slot_ne (Or.inl (hw _ (List.mem_of_getElem? (i := 17) rfl))) (Or.inl (hw _ (List.mem_of_getElem? (i := 28) rfl))) (by decide) (t := (.array .char)) (t' := .int) (by decide) (by decide)))).other W9 (Or.inl P8))
  have F11 : Fld Z h9 a "com/example/leafcutter/leafcutter/io/TextBuffer" "length" "I" (.int (3 : Int32)) := (F7.other W9 (Or.inl P8))
  have F12 : Fld Z h9 a "com/example/leafcutter/leafcutter/io/TextBuffer" "limit" "I" (.int (2147483639 : Int32)) := ((P2.other W7 (Or.inr (slot_ne (Or.inr (hw _ (List.mem_of_getElem? (i := 19) rfl))) (Or.inl (hw _ (List.mem_of_getElem? (i := 28) rfl))) (by decide) (t := .int) (t' := .int) (by decide) (by decide)))).other W9 (Or.inl P8))
  have F13 : Fld Z h9 a "com/example/leafcutter/leafcutter/io/TextBuffer" "whenFull" "Ljava/util/function/Consumer;" .null := ((P3.other W7 (Or.inr (slot_ne (Or.inr (hw _ (List.mem_of_getElem? (i := 21) rfl))) (Or.inl (hw _ (List.mem_of_getElem? (i := 28) rfl))) (by decide) (t := (.object "java/util/function/Consumer")) (t' := .int) (by decide) (by decide)))).other W9 (Or.inl P8))
  show Q4s2 Z a ch b kb ec0 ec1 h0 n0 _ T9.heap _
  rw [e9]
  exact ⟨rfl, N9, K9, F10, F11, F12, F13, V9⟩
theorem ef_4s3 (m : MethodId) (x0 : Addr) (x1 : Int32) : entryFrame m #[(.ref x0), (.int x1)] 2 = mkF m 0 #[.val (.ref x0), .val (.int x1)] [] := by first | (simp [entryFrame, mkF, argsToLocals, Value.category]; done) | rfl
def Q4s3 (Z : State) (a : Addr) (ch : Int32) (b : Addr) (kb : ClassId) (ec0 : Int32) (ec1 : Int32) (ec2 : Int32) (h0 : Heap) (n0 : Nat) (v : Option Value) (h : Heap) (L : List Loc) : Prop := v = some (.ref a) ∧ Fr n0 L ∧ Keep h0 h [a, b] ∧ (Fld Z h a "com/example/leafcutter/leafcutter/io/TextBuffer" "chars" "[C" (.ref b)) ∧ (Fld Z h a "com/example/leafcutter/leafcutter/io/TextBuffer" "length" "I" (.int (4 : Int32))) ∧ (Fld Z h a "com/example/leafcutter/leafcutter/io/TextBuffer" "limit" "I" (.int (2147483639 : Int32))) ∧ (Fld Z h a "com/example/leafcutter/leafcutter/io/TextBuffer" "whenFull" "Ljava/util/function/Consumer;" .null) ∧ (Arv Z h b kb .char (16 : Int32) [(.int ec0), (.int ec1), (.int ec2), (.int (nar .char ch)), (.int (0 : Int32)), (.int (0 : Int32)), (.int (0 : Int32)), (.int (0 : Int32)), (.int (0 : Int32)), (.int (0 : Int32)), (.int (0 : Int32)), (.int (0 : Int32)), (.int (0 : Int32)), (.int (0 : Int32)), (.int (0 : Int32)), (.int (0 : Int32))] (.int (0 : Int32)))
set_option maxRecDepth 65536 in
set_option maxHeartbeats 40000000 in
theorem rm4s3 (l : Launch) (Z : State) (a0 : Array Value) (hw : ∀ d ∈ tables_1, d.before a0 Z = true) (ws : List Jvm.Cond) (a : Addr) (ch : Int32) (b : Addr) (kb : ClassId) (ec0 : Int32) (ec1 : Int32) (ec2 : Int32) (h0 : Heap) (n0 : Nat) (Z0 : n0 ≤ h0.size) (P0 : Fld Z h0 a "com/example/leafcutter/leafcutter/io/TextBuffer" "chars" "[C" (.ref b)) (P1 : Fld Z h0 a "com/example/leafcutter/leafcutter/io/TextBuffer" "length" "I" (.int (3 : Int32))) (P2 : Fld Z h0 a "com/example/leafcutter/leafcutter/io/TextBuffer" "limit" "I" (.int (2147483639 : Int32))) (P3 : Fld Z h0 a "com/example/leafcutter/leafcutter/io/TextBuffer" "whenFull" "Ljava/util/function/Consumer;" .null) (P4 : Exa Z h0 a "com/example/leafcutter/leafcutter/io/TextBuffer") (P5 : Arv Z h0 b kb .char (16 : Int32) [(.int ec0), (.int ec1), (.int ec2), (.int (0 : Int32)), (.int (0 : Int32)), (.int (0 : Int32)), (.int (0 : Int32)), (.int (0 : Int32)), (.int (0 : Int32)), (.int (0 : Int32)), (.int (0 : Int32)), (.int (0 : Int32)), (.int (0 : Int32)), (.int (0 : Int32)), (.int (0 : Int32)), (.int (0 : Int32))] (.int (0 : Int32))) (P6 : n0 ≤ a) (P7 : n0 ≤ b) (P8 : a ≠ b) :
    MetFree l (⟨"com/example/leafcutter/leafcutter/io/TextBuffer", "append", "(C)Lcom/example/leafcutter/leafcutter/io/TextBuffer;"⟩ : MethodName) (head1 (Jvm.Cond.code (⟨"com/example/leafcutter/leafcutter/io/TextBuffer", "append", "(C)Lcom/example/leafcutter/leafcutter/io/TextBuffer;"⟩ : MethodName) prog_6_method_3_code 2 (some (.object "com/example/leafcutter/leafcutter/io/TextBuffer")) :: ws) ({ frames := 0, cells := 0, slots := 0, locals := 0 } : Room)) (fun argz U => argz = #[(.ref a), (.int ch)] ∧ Z.Warmed39 U.vm ∧ U.heap = h0) (fun _ _ _ _ _ => True) (fun _ U o U' => ∃ v L, o = .returned v ∧ Q4s3 Z a ch b kb ec0 ec1 ec2 h0 n0 v U'.heap L ∧ FrameEnd U o U' L ({ frames := 0, cells := 0, slots := 0, locals := 0 } : Room).cells ({ frames := 0, cells := 0, slots := 0, locals := 0 } : Room).slots) := by
  refine MetFree.of_bodySF (plainFor_of_name pn_com_example_leafcutter_leafcutter_io_TextBuffer) hisR ?_
  intro p e s m args below meth c s₁ Bd hml0 hP hK
  obtain ⟨rfl, hZ, hh⟩ := hP
  have hx := Bd.exec
  have hby := Bd.bytes
  have hml : c.maxLocals = 2 := hml0
  have hown : s.vm.findClass "com/example/leafcutter/leafcutter/io/TextBuffer" = some m.cls := findClass_of_methodNamed Bd.named
  have hnm := (name_of_methodNamed Bd.named Bd.method).1
  have X0 : Stand p l e ({ frames := 0, cells := 0, slots := 0, locals := 0 } : Room) s m #[(.ref a), (.int ch)] below meth c s₁ [] 0 0 := Stand.of_body Bd
  have e0 : s₁.heap = h0 := by rw [← hh, Bd.state]; rfl
  have N0 := Fr.nil n0
  have K0 : Keep h0 h0 [a, b] := Keep.refl _ _
  have G : Gets p e below (s₁.setTop (entryFrame m #[(.ref a), (.int ch)] 2)) (s₁.setTop (mkF m 0 #[.val (.ref a), .val (.int ch)] [])) := fun t k => castTop (ef_4s3 m a ch) k
  replace G := own_aloadN (q := 1) G X0.here hx (hb hby d4_0) rfl rfl rfl
  obtain ⟨T1, X1, e1, st1⟩ := getF X0 hx hZ hown (host := "") (Or.inl (hw _ (List.mem_of_getElem? (i := 27) rfl))) Via.refl e0 P1 (g := (mkF m 1 #[.val (.ref a), .val (.int ch)] [(.ref a)])) rfl rfl (hb hby d4_1)
  replace G : Gets p e below _ (T1.setTop (mkF m 4 #[.val (.ref a), .val (.int ch)] [(.int (3 : Int32))])) := fun t k => G t (st1 t k)
  replace G := own_aloadN (q := 5) G X1.here hx (hb hby d4_4) rfl rfl rfl
  obtain ⟨T2, X2, e2, st2⟩ := getF X1 hx hZ hown (host := "") (Or.inl (hw _ (List.mem_of_getElem? (i := 16) rfl))) Via.refl e1 P0 (g := (mkF m 5 #[.val (.ref a), .val (.int ch)] [(.ref a), (.int (3 : Int32))])) rfl rfl (hb hby d4_5)
  replace G : Gets p e below _ (T2.setTop (mkF m 8 #[.val (.ref a), .val (.int ch)] [(.ref b), (.int (3 : Int32))])) := fun t k => G t (st2 t k)
  obtain ⟨c3, Ar3, -, S3, N3', -, -⟩ := id P5
  replace G : Gets p e below _ (T2.setTop (mkF m 9 #[.val (.ref a), .val (.int ch)] [(.int (16 : Int32)), (.int (3 : Int32))])) := fun t k => G t (X2.arraylength hx (by rw [e2]; exact Ar3.1) (State.isArrayOf_alike hZ.alike Ar3.2.1) (g := (mkF m 8 #[.val (.ref a), .val (.int ch)] [(.ref b), (.int (3 : Int32))])) rfl rfl (hb hby d4_8) t (by rw [len_of S3 N3']; exact k))
  have hc9_4 : ¬ ((3 : Int32) = (16 : Int32)) := by decide
  replace G := own_icmpYes (q := 22) G X2.here hx (hb hby d4_9) (feq hc9_4).2 (by decide) (by decide)
  replace G := own_aloadN (q := 23) G X2.here hx (hb hby d4_22) rfl rfl rfl
  obtain ⟨T5, X5, e5, st5⟩ := getF X2 hx hZ hown (host := "") (Or.inl (hw _ (List.mem_of_getElem? (i := 16) rfl))) Via.refl e2 P0 (g := (mkF m 23 #[.val (.ref a), .val (.int ch)] [(.ref a)])) rfl rfl (hb hby d4_23)
  replace G : Gets p e below _ (T5.setTop (mkF m 26 #[.val (.ref a), .val (.int ch)] [(.ref b)])) := fun t k => G t (st5 t k)
  replace G := own_aloadN (q := 27) G X5.here hx (hb hby d4_26) rfl rfl rfl
  replace G := own_dup (q := 28) G X5.here hx (hb hby d4_27) rfl rfl
  obtain ⟨T6, X6, e6, st6⟩ := getF X5 hx hZ hown (host := "") (Or.inl (hw _ (List.mem_of_getElem? (i := 27) rfl))) Via.refl e5 P1 (g := (mkF m 28 #[.val (.ref a), .val (.int ch)] [(.ref a), (.ref a), (.ref b)])) rfl rfl (hb hby d4_28)
  replace G : Gets p e below _ (T6.setTop (mkF m 31 #[.val (.ref a), .val (.int ch)] [(.int (3 : Int32)), (.ref a), (.ref b)])) := fun t k => G t (st6 t k)
  replace G := own_dup_x1 (q := 32) G X6.here hx (hb hby d4_31) rfl rfl rfl
  replace G := own_iconst (q := 33) G X6.here hx (hb hby d4_32) (v := (1 : Int32)) (by decide) rfl
  replace G := own_iadd (q := 34) G X6.here hx (hb hby d4_33) (by decide : ((3 : Int32) + (1 : Int32)) = (4 : Int32)) rfl
  obtain ⟨T7, h7, X7, e7, W7, st7⟩ := putF X6 hx hZ hown (host := "") (Or.inl (hw _ (List.mem_of_getElem? (i := 27) rfl))) Via.refl e6 P1 P4 (Or.inl (hw _ (List.mem_of_getElem? (i := 28) rfl))) (hw _ (List.mem_of_getElem? (i := 2) rfl)) (ty := .int) (by decide) rfl rfl (g := (mkF m 34 #[.val (.ref a), .val (.int ch)] [(.int (4 : Int32)), (.ref a), (.int (3 : Int32)), (.ref b)])) rfl rfl (hb hby d4_34)
  have N7 := Fr.snoc X7 N0 P6
  have Z7 : n0 ≤ h7.size := Nat.le_trans Z0 (Keep.of_wr W7).1
  have K7 : Keep h0 h7 [a, b] := K0.wr W7 (Or.inl (List.mem_of_getElem? (i := 0) rfl))
  have F7 : Fld Z h7 a "com/example/leafcutter/leafcutter/io/TextBuffer" "length" "I" (.int (4 : Int32)) := P1.same W7
  replace G : Gets p e below _ (T7.setTop (mkF m 37 #[.val (.ref a), .val (.int ch)] [(.int (3 : Int32)), (.ref b)])) := fun t k => G t (st7 t k)
  replace G := own_iloadN (q := 38) G X7.here hx (hb hby d4_37) rfl rfl
  have F8 : Arv Z h7 b kb .char (16 : Int32) [(.int ec0), (.int ec1), (.int ec2), (.int (0 : Int32)), (.int (0 : Int32)), (.int (0 : Int32)), (.int (0 : Int32)), (.int (0 : Int32)), (.int (0 : Int32)), (.int (0 : Int32)), (.int (0 : Int32)), (.int (0 : Int32)), (.int (0 : Int32)), (.int (0 : Int32)), (.int (0 : Int32)), (.int (0 : Int32))] (.int (0 : Int32)) := (P5.other W7 (Ne.symm P8))
  obtain ⟨c9, Ar9, q9, S9, N9', H9, G9'⟩ := id F8
  have hin9 : ¬ ((3 : Int32) < 0 ∨ c9.slots.size ≤ ((3 : Int32)).toNatClampNeg) := inb_of S9 ⟨by decide, by decide⟩
  obtain ⟨T9, h9, X9, e9, W9, st9⟩ := stC X7 hx hZ e7 Ar9 (j := (3 : Int32)) hin9 (g := (mkF m 38 #[.val (.ref a), .val (.int ch)] [(.int ch), (.int (3 : Int32)), (.ref b)])) rfl rfl (hb hby d4_38)
  have N9 := Fr.snoc X9 N7 P7
  have Z9 : n0 ≤ h9.size := Nat.le_trans Z7 (Keep.of_wr W9).1
  have K9 : Keep h0 h9 [a, b] := K7.wr W9 (Or.inl (List.mem_of_getElem? (i := 1) rfl))
  have V9 : Arv Z h9 b kb .char (16 : Int32) [(.int ec0), (.int ec1), (.int ec2), (.int (nar .char ch)), (.int (0 : Int32)), (.int (0 : Int32)), (.int (0 : Int32)), (.int (0 : Int32)), (.int (0 : Int32)), (.int (0 : Int32)), (.int (0 : Int32)), (.int (0 : Int32)), (.int (0 : Int32)), (.int (0 : Int32)), (.int (0 : Int32)), (.int (0 : Int32))] (.int (0 : Int32)) := Arv.set Ar9 q9 S9 N9' H9 G9' (fits_nar_char _) W9 3 rfl (Nat.le_of_ble_eq_true rfl)
  replace G : Gets p e below _ (T9.setTop (mkF m 39 #[.val (.ref a), .val (.int ch)] [])) := fun t k => G t (st9 t k)
  replace G := own_aloadN (q := 40) G X9.here hx (hb hby d4_39) rfl rfl rfl
  obtain ⟨fs, hr, hrun, hended, hW, hsame⟩ := X9.leave (v := some (.ref a)) (fun h => by rw [Bd.returns] at h; cases h)
  refine ⟨_, _, G _ (retOut X9 hx Bd.returns rfl (Or.inr (Or.inr (Or.inr (Or.inr ⟨rfl, rfl, rfl⟩)))) (hb hby d4_40) hr), hrun, hended, _, _, rfl, ?_, ⟨_, rfl⟩, hW, hsame.mono (by decide) (by decide)⟩
  have F10 : Fld Z h9 a "com/example/leafcutter/leafcutter/io/TextBuffer" "chars" "[C" (.ref b) := ((P0.other W7 (Or.inr (slot_ne (Or.inl (hw _ (List.mem_of_getElem? (i := 17) rfl))) (Or.inl (hw _ (List.mem_of_getElem? (i := 28) rfl))) (by decide) (t := (.array .char)) (t' := .int) (by decide) (by decide)))).other W9 (Or.inl P8))
  have F11 : Fld Z h9 a "com/example/leafcutter/leafcutter/io/TextBuffer" "length" "I" (.int (4 : Int32)) := (F7.other W9 (Or.inl P8))
  have F12 : Fld Z h9 a "com/example/leafcutter/leafcutter/io/TextBuffer" "limit" "I" (.int (2147483639 : Int32)) := ((P2.other W7 (Or.inr (slot_ne (Or.inr (hw _ (List.mem_of_getElem? (i := 19) rfl))) (Or.inl (hw _ (List.mem_of_getElem? (i := 28) rfl))) (by decide) (t := .int) (t' := .int) (by decide) (by decide)))).other W9 (Or.inl P8))
  have F13 : Fld Z h9 a "com/example/leafcutter/leafcutter/io/TextBuffer" "whenFull" "Ljava/util/function/Consumer;" .null := ((P3.other W7 (Or.inr (slot_ne (Or.inr (hw _ (List.mem_of_getElem? (i := 21) rfl))) (Or.inl (hw _ (List.mem_of_getElem? (i := 28) rfl))) (by decide) (t := (.object "java/util/function/Consumer")) (t' := .int) (by decide) (by decide)))).other W9 (Or.inl P8))
  show Q4s3 Z a ch b kb ec0 ec1 ec2 h0 n0 _ T9.heap _
  rw [e9]
  exact ⟨rfl, N9, K9, F10, F11, F12, F13, V9⟩
theorem d13_0 : decode jdk_41_method_11_code 0 = .ok (.iload_n 0, 1) := by decide +kernel
theorem d13_1 : decode jdk_41_method_11_code 1 = .ok (.ifCond .lt 8, 3) := by decide +kernel
theorem d13_4 : decode jdk_41_method_11_code 4 = .ok (.iload_n 0, 1) := by decide +kernel
theorem d13_5 : decode jdk_41_method_11_code 5 = .ok (.iload_n 1, 1) := by decide +kernel
theorem d13_6 : decode jdk_41_method_11_code 6 = .ok (.if_icmp .lt 10, 3) := by decide +kernel
theorem d13_16 : decode jdk_41_method_11_code 16 = .ok (.iload_n 0, 1) := by decide +kernel
theorem d13_17 : decode jdk_41_method_11_code 17 = .ok (.ireturn, 1) := by decide +kernel
theorem pn_jdk_internal_util_Preconditions : plainName "jdk/internal/util/Preconditions" = true := by first | (simp [plainName, overriddenIn]; done) | decide +kernel
theorem ef_13c0 (m : MethodId)  : entryFrame m #[(.int (0 : Int32)), (.int (5 : Int32)), .null] 3 = mkF m 0 #[.val (.int (0 : Int32)), .val (.int (5 : Int32)), .val .null] [] := by first | (simp [entryFrame, mkF, argsToLocals, Value.category]; done) | rfl
def Q13c0 (Z : State)  (h0 : Heap) (n0 : Nat) (v : Option Value) (h : Heap) (L : List Loc) : Prop := v = some (.int (0 : Int32)) ∧ Fr n0 L ∧ h = h0
set_option maxRecDepth 65536 in
set_option maxHeartbeats 40000000 in
theorem rm13c0 (l : Launch) (Z : State) (a0 : Array Value) (hw : ∀ d ∈ tables_1, d.before a0 Z = true) (ws : List Jvm.Cond)  (h0 : Heap) (n0 : Nat) (Z0 : n0 ≤ h0.size)  :
    MetFree l (⟨"jdk/internal/util/Preconditions", "checkIndex", "(IILjava/util/function/BiFunction;)I"⟩ : MethodName) (head1 (Jvm.Cond.code (⟨"jdk/internal/util/Preconditions", "checkIndex", "(IILjava/util/function/BiFunction;)I"⟩ : MethodName) jdk_41_method_11_code 3 (some .int) :: ws) ({ frames := 0, cells := 0, slots := 0, locals := 0 } : Room)) (fun argz U => argz = #[(.int (0 : Int32)), (.int (5 : Int32)), .null] ∧ Z.Warmed39 U.vm ∧ U.heap = h0) (fun _ _ _ _ _ => True) (fun _ U o U' => ∃ v L, o = .returned v ∧ Q13c0 Z  h0 n0 v U'.heap L ∧ FrameEnd U o U' L ({ frames := 0, cells := 0, slots := 0, locals := 0 } : Room).cells ({ frames := 0, cells := 0, slots := 0, locals := 0 } : Room).slots) := by
  refine MetFree.of_bodySF (plainFor_of_name pn_jdk_internal_util_Preconditions) hisR ?_
  intro p e s m args below meth c s₁ Bd hml0 hP hK
  obtain ⟨rfl, hZ, hh⟩ := hP
  have hx := Bd.exec
  have hby := Bd.bytes
  have hml : c.maxLocals = 3 := hml0
  have hown : s.vm.findClass "jdk/internal/util/Preconditions" = some m.cls := findClass_of_methodNamed Bd.named
  have hnm := (name_of_methodNamed Bd.named Bd.method).1
  have X0 : Stand p l e ({ frames := 0, cells := 0, slots := 0, locals := 0 } : Room) s m #[(.int (0 : Int32)), (.int (5 : Int32)), .null] below meth c s₁ [] 0 0 := Stand.of_body Bd
  have e0 : s₁.heap = h0 := by rw [← hh, Bd.state]; rfl
  have N0 := Fr.nil n0
  have G : Gets p e below (s₁.setTop (entryFrame m #[(.int (0 : Int32)), (.int (5 : Int32)), .null] 3)) (s₁.setTop (mkF m 0 #[.val (.int (0 : Int32)), .val (.int (5 : Int32)), .val .null] [])) := fun t k => castTop (ef_13c0 m ) k
  replace G := own_iloadN (q := 1) G X0.here hx (hb hby d13_0) rfl rfl
  have hc1_1 : ¬ ((0 : Int32) < (0 : Int32)) := by decide
  replace G := own_ifNo (q := 4) G X0.here hx (hb hby d13_1) ((if0 _ _).trans (flt hc1_1).1) rfl
  replace G := own_iloadN (q := 5) G X0.here hx (hb hby d13_4) rfl rfl
  replace G := own_iloadN (q := 6) G X0.here hx (hb hby d13_5) rfl rfl
  have hc6_2 : (0 : Int32) < (5 : Int32) := by decide
  replace G := own_icmpYes (q := 16) G X0.here hx (hb hby d13_6) (tlt hc6_2).1 (by decide) (by decide)
  replace G := own_iloadN (q := 17) G X0.here hx (hb hby d13_16) rfl rfl
  obtain ⟨fs, hr, hrun, hended, hW, hsame⟩ := X0.leave (v := some (.int (0 : Int32))) (fun h => by rw [Bd.returns] at h; cases h)
  refine ⟨_, _, G _ (retOut X0 hx Bd.returns rfl (Or.inl ⟨rfl, Or.inl rfl, _, rfl⟩) (hb hby d13_17) hr), hrun, hended, _, _, rfl, ?_, ⟨_, rfl⟩, hW, hsame.mono (by decide) (by decide)⟩
  show Q13c0 Z  h0 n0 _ s₁.heap _
  rw [e0]
  exact ⟨rfl, N0, rfl⟩
theorem pd_6 : parseMethodDescriptor "(IILjava/util/function/BiFunction;)I" = some ⟨[.int, .int, (.object "java/util/function/BiFunction")], some .int⟩ := by decide +kernel
theorem d12_0 : decode jdk_31_method_17_code 0 = .ok (.iload_n 0, 1) := by decide +kernel
theorem d12_1 : decode jdk_31_method_17_code 1 = .ok (.iload_n 1, 1) := by decide +kernel
theorem d12_2 : decode jdk_31_method_17_code 2 = .ok (.aconst_null, 1) := by decide +kernel
theorem d12_3 : decode jdk_31_method_17_code 3 = .ok (.invokestatic 105, 3) := by decide +kernel
theorem d12_6 : decode jdk_31_method_17_code 6 = .ok (.ireturn, 1) := by decide +kernel
theorem pn_java_util_Objects : plainName "java/util/Objects" = true := by first | (simp [plainName, overriddenIn]; done) | decide +kernel
theorem ef_12c0 (m : MethodId)  : entryFrame m #[(.int (0 : Int32)), (.int (5 : Int32))] 2 = mkF m 0 #[.val (.int (0 : Int32)), .val (.int (5 : Int32))] [] := by first | (simp [entryFrame, mkF, argsToLocals, Value.category]; done) | rfl
def Q12c0 (Z : State)  (h0 : Heap) (n0 : Nat) (v : Option Value) (h : Heap) (L : List Loc) : Prop := v = some (.int (0 : Int32)) ∧ Fr n0 L ∧ h = h0
set_option maxRecDepth 65536 in
set_option maxHeartbeats 40000000 in
theorem rm12c0 (l : Launch) (Z : State) (a0 : Array Value) (hw : ∀ d ∈ tables_1, d.before a0 Z = true) (ws : List Jvm.Cond)  (h0 : Heap) (n0 : Nat) (Z0 : n0 ≤ h0.size)  :
    MetFree l (⟨"java/util/Objects", "checkIndex", "(II)I"⟩ : MethodName) (head1 (Jvm.Cond.code (⟨"java/util/Objects", "checkIndex", "(II)I"⟩ : MethodName) jdk_31_method_17_code 2 (some .int) :: ws) ({ frames := 1, cells := 0, slots := 0, locals := 14 } : Room)) (fun argz U => argz = #[(.int (0 : Int32)), (.int (5 : Int32))] ∧ Z.Warmed39 U.vm ∧ U.heap = h0) (fun _ _ _ _ _ => True) (fun _ U o U' => ∃ v L, o = .returned v ∧ Q12c0 Z  h0 n0 v U'.heap L ∧ FrameEnd U o U' L ({ frames := 1, cells := 0, slots := 0, locals := 14 } : Room).cells ({ frames := 1, cells := 0, slots := 0, locals := 14 } : Room).slots) := by
  refine MetFree.of_bodySF (plainFor_of_name pn_java_util_Objects) hisR ?_
  intro p e s m args below meth c s₁ Bd hml0 hP hK
  obtain ⟨rfl, hZ, hh⟩ := hP
  have hx := Bd.exec
  have hby := Bd.bytes
  have hml : c.maxLocals = 2 := hml0
  have hown : s.vm.findClass "java/util/Objects" = some m.cls := findClass_of_methodNamed Bd.named
  have hnm := (name_of_methodNamed Bd.named Bd.method).1
  have X0 : Stand p l e ({ frames := 1, cells := 0, slots := 0, locals := 14 } : Room) s m #[(.int (0 : Int32)), (.int (5 : Int32))] below meth c s₁ [] 0 0 := Stand.of_body Bd
  have e0 : s₁.heap = h0 := by rw [← hh, Bd.state]; rfl
  have N0 := Fr.nil n0
  have G : Gets p e below (s₁.setTop (entryFrame m #[(.int (0 : Int32)), (.int (5 : Int32))] 2)) (s₁.setTop (mkF m 0 #[.val (.int (0 : Int32)), .val (.int (5 : Int32))] [])) := fun t k => castTop (ef_12c0 m ) k
  replace G := own_iloadN (q := 1) G X0.here hx (hb hby d12_0) rfl rfl
  replace G := own_iloadN (q := 2) G X0.here hx (hb hby d12_1) rfl rfl
  replace G := own_aconst_null (q := 3) G X0.here hx (hb hby d12_2) rfl
  obtain ⟨_, _, ⟨T1, L1, kk1, nn1⟩, -, X1, ⟨Lc1, hQ1, l1, y1, z1⟩, st1⟩ := Jvm.LawKit.callS X0 hx (y := (⟨"jdk/internal/util/Preconditions", "checkIndex", "(IILjava/util/function/BiFunction;)I"⟩ : MethodName)) hown (mvT hZ (hw _ (List.mem_of_getElem? (i := 68) rfl))) (mvT hZ (hw _ (List.mem_of_getElem? (i := 69) rfl))) (mvT hZ (hw _ (List.mem_of_getElem? (i := 70) rfl))) (mvT hZ (hw _ (List.mem_of_getElem? (i := 71) rfl))) (by decide) (backOf (W := 0) (rm13c0 l Z a0 hw []  h0 n0 Z0 ) hZ (hw _ (List.mem_of_getElem? (i := 71) rfl)) (hw _ (List.mem_of_getElem? (i := 70) rfl)) (by decide) (by decide)) (g := (mkF m 3 #[.val (.int (0 : Int32)), .val (.int (5 : Int32))] [.null, (.int (5 : Int32)), (.int (0 : Int32))])) rfl (by rw [hml]; rfl) (argsL := [(.int (0 : Int32)), (.int (5 : Int32)), .null]) (rest := []) (lenOf pd_6 rfl) rfl (by show 2 * 0 + _ ≤ _; exact Nat.le_of_eq rfl) (hb hby d12_3) (fun _ _ => ⟨rfl, e0, (by decide : 0 + 0 ≤ _), (by decide : 0 + 0 ≤ _)⟩)
  dsimp only [Pt.U, Pt.locs, Pt.cells, Pt.slots] at X1 l1 y1 z1 st1 hQ1
  subst l1 y1 z1
  obtain ⟨rfl, N1q, e1⟩ := hQ1
  have N1 := Fr.app N0 N1q
  replace G : Gets p e below _ (T1.setTop (mkF m 6 #[.val (.int (0 : Int32)), .val (.int (5 : Int32))] [(.int (0 : Int32))])) := fun t k => G t (st1 t k)
  obtain ⟨fs, hr, hrun, hended, hW, hsame⟩ := X1.leave (v := some (.int (0 : Int32))) (fun h => by rw [Bd.returns] at h; cases h)
  refine ⟨_, _, G _ (retOut X1 hx Bd.returns rfl (Or.inl ⟨rfl, Or.inl rfl, _, rfl⟩) (hb hby d12_6) hr), hrun, hended, _, _, rfl, ?_, ⟨_, rfl⟩, hW, hsame.mono (by decide) (by decide)⟩
  show Q12c0 Z  h0 n0 _ T1.heap _
  rw [e1]
  exact ⟨rfl, N1, rfl⟩
theorem d11_0 : decode prog_6_method_12_code 0 = .ok (.iload_n 1, 1) := by decide +kernel
theorem d11_1 : decode prog_6_method_12_code 1 = .ok (.aload_n 0, 1) := by decide +kernel
theorem d11_2 : decode prog_6_method_12_code 2 = .ok (.getfield 39, 3) := by decide +kernel
theorem d11_5 : decode prog_6_method_12_code 5 = .ok (.iconst 1, 1) := by decide +kernel
theorem d11_6 : decode prog_6_method_12_code 6 = .ok (.iadd, 1) := by decide +kernel
theorem d11_7 : decode prog_6_method_12_code 7 = .ok (.invokestatic 89, 3) := by decide +kernel
theorem d11_10 : decode prog_6_method_12_code 10 = .ok (.pop, 1) := by decide +kernel
theorem d11_11 : decode prog_6_method_12_code 11 = .ok (.aload_n 0, 1) := by decide +kernel
theorem d11_12 : decode prog_6_method_12_code 12 = .ok (.iload_n 1, 1) := by decide +kernel
theorem d11_13 : decode prog_6_method_12_code 13 = .ok (.putfield 39, 3) := by decide +kernel
theorem d11_16 : decode prog_6_method_12_code 16 = .ok (.return_, 1) := by decide +kernel
theorem ef_11k0 (m : MethodId) (x0 : Addr) : entryFrame m #[(.ref x0), (.int (0 : Int32))] 2 = mkF m 0 #[.val (.ref x0), .val (.int (0 : Int32))] [] := by first | (simp [entryFrame, mkF, argsToLocals, Value.category]; done) | rfl
def Q11k0 (Z : State) (a : Addr) (b : Addr) (h0 : Heap) (n0 : Nat) (v : Option Value) (h : Heap) (L : List Loc) : Prop := v = none ∧ Fr n0 L ∧ Keep h0 h [a] ∧ (Fld Z h a "com/example/leafcutter/leafcutter/io/TextBuffer" "chars" "[C" (.ref b)) ∧ (Fld Z h a "com/example/leafcutter/leafcutter/io/TextBuffer" "length" "I" (.int (0 : Int32))) ∧ (Fld Z h a "com/example/leafcutter/leafcutter/io/TextBuffer" "limit" "I" (.int (2147483639 : Int32))) ∧ (Fld Z h a "com/example/leafcutter/leafcutter/io/TextBuffer" "whenFull" "Ljava/util/function/Consumer;" .null)
set_option maxRecDepth 65536 in
set_option maxHeartbeats 40000000 in
theorem rm11k0 (l : Launch) (Z : State) (a0 : Array Value) (hw : ∀ d ∈ tables_1, d.before a0 Z = true) (ws : List Jvm.Cond) (a : Addr) (b : Addr) (h0 : Heap) (n0 : Nat) (Z0 : n0 ≤ h0.size) (P0 : Fld Z h0 a "com/example/leafcutter/leafcutter/io/TextBuffer" "chars" "[C" (.ref b)) (P1 : Fld Z h0 a "com/example/leafcutter/leafcutter/io/TextBuffer" "length" "I" (.int (4 : Int32))) (P2 : Fld Z h0 a "com/example/leafcutter/leafcutter/io/TextBuffer" "limit" "I" (.int (2147483639 : Int32))) (P3 : Fld Z h0 a "com/example/leafcutter/leafcutter/io/TextBuffer" "whenFull" "Ljava/util/function/Consumer;" .null) (P4 : Exa Z h0 a "com/example/leafcutter/leafcutter/io/TextBuffer") (P5 : n0 ≤ a) :
    MetFree l (⟨"com/example/leafcutter/leafcutter/io/TextBuffer", "truncate", "(I)V"⟩ : MethodName) (head1 (Jvm.Cond.code (⟨"com/example/leafcutter/leafcutter/io/TextBuffer", "truncate", "(I)V"⟩ : MethodName) prog_6_method_12_code 2 none :: ws) ({ frames := 2, cells := 0, slots := 0, locals := 27 } : Room)) (fun argz U => argz = #[(.ref a), (.int (0 : Int32))] ∧ Z.Warmed39 U.vm ∧ U.heap = h0) (fun _ _ _ _ _ => True) (fun _ U o U' => ∃ v L, o = .returned v ∧ Q11k0 Z a b h0 n0 v U'.heap L ∧ FrameEnd U o U' L ({ frames := 2, cells := 0, slots := 0, locals := 27 } : Room).cells ({ frames := 2, cells := 0, slots := 0, locals := 27 } : Room).slots) := by
  refine MetFree.of_bodySF (plainFor_of_name pn_com_example_leafcutter_leafcutter_io_TextBuffer) hisR ?_
  intro p e s m args below meth c s₁ Bd hml0 hP hK
  obtain ⟨rfl, hZ, hh⟩ := hP
  have hx := Bd.exec
  have hby := Bd.bytes
  have hml : c.maxLocals = 2 := hml0
  have hown : s.vm.findClass "com/example/leafcutter/leafcutter/io/TextBuffer" = some m.cls := findClass_of_methodNamed Bd.named
  have hnm := (name_of_methodNamed Bd.named Bd.method).1
  have X0 : Stand p l e ({ frames := 2, cells := 0, slots := 0, locals := 27 } : Room) s m #[(.ref a), (.int (0 : Int32))] below meth c s₁ [] 0 0 := Stand.of_body Bd
  have e0 : s₁.heap = h0 := by rw [← hh, Bd.state]; rfl
  have N0 := Fr.nil n0
  have K0 : Keep h0 h0 [a] := Keep.refl _ _
  have G : Gets p e below (s₁.setTop (entryFrame m #[(.ref a), (.int (0 : Int32))] 2)) (s₁.setTop (mkF m 0 #[.val (.ref a), .val (.int (0 : Int32))] [])) := fun t k => castTop (ef_11k0 m a) k
  replace G := own_iloadN (q := 1) G X0.here hx (hb hby d11_0) rfl rfl
  replace G := own_aloadN (q := 2) G X0.here hx (hb hby d11_1) rfl rfl rfl
  obtain ⟨T1, X1, e1, st1⟩ := getF X0 hx hZ hown (host := "") (Or.inl (hw _ (List.mem_of_getElem? (i := 27) rfl))) Via.refl e0 P1 (g := (mkF m 2 #[.val (.ref a), .val (.int (0 : Int32))] [(.ref a), (.int (0 : Int32))])) rfl rfl (hb hby d11_2)
  replace G : Gets p e below _ (T1.setTop (mkF m 5 #[.val (.ref a), .val (.int (0 : Int32))] [(.int (4 : Int32)), (.int (0 : Int32))])) := fun t k => G t (st1 t k)
  replace G := own_iconst (q := 6) G X1.here hx (hb hby d11_5) (v := (1 : Int32)) (by decide) rfl
  replace G := own_iadd (q := 7) G X1.here hx (hb hby d11_6) (by decide : ((4 : Int32) + (1 : Int32)) = (5 : Int32)) rfl
  obtain ⟨_, _, ⟨T2, L2, kk2, nn2⟩, -, X2, ⟨Lc2, hQ2, l2, y2, z2⟩, st2⟩ := Jvm.LawKit.callS X1 hx (y := (⟨"java/util/Objects", "checkIndex", "(II)I"⟩ : MethodName)) hown (mvT hZ (hw _ (List.mem_of_getElem? (i := 64) rfl))) (mvT hZ (hw _ (List.mem_of_getElem? (i := 65) rfl))) (mvT hZ (hw _ (List.mem_of_getElem? (i := 66) rfl))) (mvT hZ (hw _ (List.mem_of_getElem? (i := 67) rfl))) (by decide) (backOf (W := 0) (rm12c0 l Z a0 hw []  h0 n0 Z0 ) hZ (hw _ (List.mem_of_getElem? (i := 67) rfl)) (hw _ (List.mem_of_getElem? (i := 66) rfl)) (by decide) (by decide)) (g := (mkF m 7 #[.val (.ref a), .val (.int (0 : Int32))] [(.int (5 : Int32)), (.int (0 : Int32))])) rfl (by rw [hml]; rfl) (argsL := [(.int (0 : Int32)), (.int (5 : Int32))]) (rest := []) (lenOf pd_1 rfl) rfl (by show 2 * 0 + _ ≤ _; exact Nat.le_of_eq rfl) (hb hby d11_7) (fun _ _ => ⟨rfl, e1, (by decide : 0 + 0 ≤ _), (by decide : 0 + 0 ≤ _)⟩)
  dsimp only [Pt.U, Pt.locs, Pt.cells, Pt.slots] at X2 l2 y2 z2 st2 hQ2
  subst l2 y2 z2
  obtain ⟨rfl, N2q, e2⟩ := hQ2
  have N2 := Fr.app N0 N2q
  replace G : Gets p e below _ (T2.setTop (mkF m 10 #[.val (.ref a), .val (.int (0 : Int32))] [(.int (0 : Int32))])) := fun t k => G t (st2 t k)
  replace G := own_pop (q := 11) G X2.here hx (hb hby d11_10) rfl rfl
  replace G := own_aloadN (q := 12) G X2.here hx (hb hby d11_11) rfl rfl rfl
  replace G := own_iloadN (q := 13) G X2.here hx (hb hby d11_12) rfl rfl
  obtain ⟨T3, h3, X3, e3, W3, st3⟩ := putF X2 hx hZ hown (host := "") (Or.inl (hw _ (List.mem_of_getElem? (i := 27) rfl))) Via.refl e2 P1 P4 (Or.inl (hw _ (List.mem_of_getElem? (i := 28) rfl))) (hw _ (List.mem_of_getElem? (i := 2) rfl)) (ty := .int) (by decide) rfl rfl (g := (mkF m 13 #[.val (.ref a), .val (.int (0 : Int32))] [(.int (0 : Int32)), (.ref a)])) rfl rfl (hb hby d11_13)
  have N3 := Fr.snoc X3 N2 P5
  have Z3 : n0 ≤ h3.size := Nat.le_trans Z0 (Keep.of_wr W3).1
  have K3 : Keep h0 h3 [a] := K0.wr W3 (Or.inl (List.mem_of_getElem? (i := 0) rfl))
  have F3 : Fld Z h3 a "com/example/leafcutter/leafcutter/io/TextBuffer" "length" "I" (.int (0 : Int32)) := P1.same W3
  replace G : Gets p e below _ (T3.setTop (mkF m 16 #[.val (.ref a), .val (.int (0 : Int32))] [])) := fun t k => G t (st3 t k)
  obtain ⟨fs, hr, hrun, hended, hW, hsame⟩ := X3.leave (v := none) (fun _ => rfl)
  refine ⟨_, _, G _ (X3.returnOut hx Bd.returns (hb hby d11_16) hr), hrun, hended, _, _, rfl, ?_, ⟨_, rfl⟩, hW, hsame.mono (by decide) (by decide)⟩
  have F4 : Fld Z h3 a "com/example/leafcutter/leafcutter/io/TextBuffer" "chars" "[C" (.ref b) := (P0.other W3 (Or.inr (slot_ne (Or.inl (hw _ (List.mem_of_getElem? (i := 17) rfl))) (Or.inl (hw _ (List.mem_of_getElem? (i := 28) rfl))) (by decide) (t := (.array .char)) (t' := .int) (by decide) (by decide))))
  have F5 : Fld Z h3 a "com/example/leafcutter/leafcutter/io/TextBuffer" "limit" "I" (.int (2147483639 : Int32)) := (P2.other W3 (Or.inr (slot_ne (Or.inr (hw _ (List.mem_of_getElem? (i := 19) rfl))) (Or.inl (hw _ (List.mem_of_getElem? (i := 28) rfl))) (by decide) (t := .int) (t' := .int) (by decide) (by decide))))
  have F6 : Fld Z h3 a "com/example/leafcutter/leafcutter/io/TextBuffer" "whenFull" "Ljava/util/function/Consumer;" .null := (P3.other W3 (Or.inr (slot_ne (Or.inr (hw _ (List.mem_of_getElem? (i := 21) rfl))) (Or.inl (hw _ (List.mem_of_getElem? (i := 28) rfl))) (by decide) (t := (.object "java/util/function/Consumer")) (t' := .int) (by decide) (by decide))))
  show Q11k0 Z a b h0 n0 _ T3.heap _
  rw [e3]
  exact ⟨rfl, N3, K3, F4, F3, F5, F6⟩
theorem ef_13c1 (m : MethodId)  : entryFrame m #[(.int (1 : Int32)), (.int (5 : Int32)), .null] 3 = mkF m 0 #[.val (.int (1 : Int32)), .val (.int (5 : Int32)), .val .null] [] := by first | (simp [entryFrame, mkF, argsToLocals, Value.category]; done) | rfl
def Q13c1 (Z : State)  (h0 : Heap) (n0 : Nat) (v : Option Value) (h : Heap) (L : List Loc) : Prop := v = some (.int (1 : Int32)) ∧ Fr n0 L ∧ h = h0
set_option maxRecDepth 65536 in
set_option maxHeartbeats 40000000 in
theorem rm13c1 (l : Launch) (Z : State) (a0 : Array Value) (hw : ∀ d ∈ tables_1, d.before a0 Z = true) (ws : List Jvm.Cond)  (h0 : Heap) (n0 : Nat) (Z0 : n0 ≤ h0.size)  :
    MetFree l (⟨"jdk/internal/util/Preconditions", "checkIndex", "(IILjava/util/function/BiFunction;)I"⟩ : MethodName) (head1 (Jvm.Cond.code (⟨"jdk/internal/util/Preconditions", "checkIndex", "(IILjava/util/function/BiFunction;)I"⟩ : MethodName) jdk_41_method_11_code 3 (some .int) :: ws) ({ frames := 0, cells := 0, slots := 0, locals := 0 } : Room)) (fun argz U => argz = #[(.int (1 : Int32)), (.int (5 : Int32)), .null] ∧ Z.Warmed39 U.vm ∧ U.heap = h0) (fun _ _ _ _ _ => True) (fun _ U o U' => ∃ v L, o = .returned v ∧ Q13c1 Z  h0 n0 v U'.heap L ∧ FrameEnd U o U' L ({ frames := 0, cells := 0, slots := 0, locals := 0 } : Room).cells ({ frames := 0, cells := 0, slots := 0, locals := 0 } : Room).slots) := by
  refine MetFree.of_bodySF (plainFor_of_name pn_jdk_internal_util_Preconditions) hisR ?_
  intro p e s m args below meth c s₁ Bd hml0 hP hK
  obtain ⟨rfl, hZ, hh⟩ := hP
  have hx := Bd.exec
  have hby := Bd.bytes
  have hml : c.maxLocals = 3 := hml0
  have hown : s.vm.findClass "jdk/internal/util/Preconditions" = some m.cls := findClass_of_methodNamed Bd.named
  have hnm := (name_of_methodNamed Bd.named Bd.method).1
  have X0 : Stand p l e ({ frames := 0, cells := 0, slots := 0, locals := 0 } : Room) s m #[(.int (1 : Int32)), (.int (5 : Int32)), .null] below meth c s₁ [] 0 0 := Stand.of_body Bd
  have e0 : s₁.heap = h0 := by rw [← hh, Bd.state]; rfl
  have N0 := Fr.nil n0
  have G : Gets p e below (s₁.setTop (entryFrame m #[(.int (1 : Int32)), (.int (5 : Int32)), .null] 3)) (s₁.setTop (mkF m 0 #[.val (.int (1 : Int32)), .val (.int (5 : Int32)), .val .null] [])) := fun t k => castTop (ef_13c1 m ) k
  replace G := own_iloadN (q := 1) G X0.here hx (hb hby d13_0) rfl rfl
  have hc1_1 : ¬ ((1 : Int32) < (0 : Int32)) := by decide
  replace G := own_ifNo (q := 4) G X0.here hx (hb hby d13_1) ((if0 _ _).trans (flt hc1_1).1) rfl
  replace G := own_iloadN (q := 5) G X0.here hx (hb hby d13_4) rfl rfl
  replace G := own_iloadN (q := 6) G X0.here hx (hb hby d13_5) rfl rfl
  have hc6_2 : (1 : Int32) < (5 : Int32) := by decide
  replace G := own_icmpYes (q := 16) G X0.here hx (hb hby d13_6) (tlt hc6_2).1 (by decide) (by decide)
  replace G := own_iloadN (q := 17) G X0.here hx (hb hby d13_16) rfl rfl
  obtain ⟨fs, hr, hrun, hended, hW, hsame⟩ := X0.leave (v := some (.int (1 : Int32))) (fun h => by rw [Bd.returns] at h; cases h)
  refine ⟨_, _, G _ (retOut X0 hx Bd.returns rfl (Or.inl ⟨rfl, Or.inl rfl, _, rfl⟩) (hb hby d13_17) hr), hrun, hended, _, _, rfl, ?_, ⟨_, rfl⟩, hW, hsame.mono (by decide) (by decide)⟩
  show Q13c1 Z  h0 n0 _ s₁.heap _
  rw [e0]
  exact ⟨rfl, N0, rfl⟩
theorem ef_12c1 (m : MethodId)  : entryFrame m #[(.int (1 : Int32)), (.int (5 : Int32))] 2 = mkF m 0 #[.val (.int (1 : Int32)), .val (.int (5 : Int32))] [] := by first | (simp [entryFrame, mkF, argsToLocals, Value.category]; done) | rfl
def Q12c1 (Z : State)  (h0 : Heap) (n0 : Nat) (v : Option Value) (h : Heap) (L : List Loc) : Prop := v = some (.int (1 : Int32)) ∧ Fr n0 L ∧ h = h0
set_option maxRecDepth 65536 in
set_option maxHeartbeats 40000000 in
theorem rm12c1 (l : Launch) (Z : State) (a0 : Array Value) (hw : ∀ d ∈ tables_1, d.before a0 Z = true) (ws : List Jvm.Cond)  (h0 : Heap) (n0 : Nat) (Z0 : n0 ≤ h0.size)  :
    MetFree l (⟨"java/util/Objects", "checkIndex", "(II)I"⟩ : MethodName) (head1 (Jvm.Cond.code (⟨"java/util/Objects", "checkIndex", "(II)I"⟩ : MethodName) jdk_31_method_17_code 2 (some .int) :: ws) ({ frames := 1, cells := 0, slots := 0, locals := 14 } : Room)) (fun argz U => argz = #[(.int (1 : Int32)), (.int (5 : Int32))] ∧ Z.Warmed39 U.vm ∧ U.heap = h0) (fun _ _ _ _ _ => True) (fun _ U o U' => ∃ v L, o = .returned v ∧ Q12c1 Z  h0 n0 v U'.heap L ∧ FrameEnd U o U' L ({ frames := 1, cells := 0, slots := 0, locals := 14 } : Room).cells ({ frames := 1, cells := 0, slots := 0, locals := 14 } : Room).slots) := by
  refine MetFree.of_bodySF (plainFor_of_name pn_java_util_Objects) hisR ?_
  intro p e s m args below meth c s₁ Bd hml0 hP hK
  obtain ⟨rfl, hZ, hh⟩ := hP
  have hx := Bd.exec
  have hby := Bd.bytes
  have hml : c.maxLocals = 2 := hml0
  have hown : s.vm.findClass "java/util/Objects" = some m.cls := findClass_of_methodNamed Bd.named
  have hnm := (name_of_methodNamed Bd.named Bd.method).1
  have X0 : Stand p l e ({ frames := 1, cells := 0, slots := 0, locals := 14 } : Room) s m #[(.int (1 : Int32)), (.int (5 : Int32))] below meth c s₁ [] 0 0 := Stand.of_body Bd
  have e0 : s₁.heap = h0 := by rw [← hh, Bd.state]; rfl
  have N0 := Fr.nil n0
  have G : Gets p e below (s₁.setTop (entryFrame m #[(.int (1 : Int32)), (.int (5 : Int32))] 2)) (s₁.setTop (mkF m 0 #[.val (.int (1 : Int32)), .val (.int (5 : Int32))] [])) := fun t k => castTop (ef_12c1 m ) k
  replace G := own_iloadN (q := 1) G X0.here hx (hb hby d12_0) rfl rfl
  replace G := own_iloadN (q := 2) G X0.here hx (hb hby d12_1) rfl rfl
  replace G := own_aconst_null (q := 3) G X0.here hx (hb hby d12_2) rfl
  obtain ⟨_, _, ⟨T1, L1, kk1, nn1⟩, -, X1, ⟨Lc1, hQ1, l1, y1, z1⟩, st1⟩ := Jvm.LawKit.callS X0 hx (y := (⟨"jdk/internal/util/Preconditions", "checkIndex", "(IILjava/util/function/BiFunction;)I"⟩ : MethodName)) hown (mvT hZ (hw _ (List.mem_of_getElem? (i := 68) rfl))) (mvT hZ (hw _ (List.mem_of_getElem? (i := 69) rfl))) (mvT hZ (hw _ (List.mem_of_getElem? (i := 70) rfl))) (mvT hZ (hw _ (List.mem_of_getElem? (i := 71) rfl))) (by decide) (backOf (W := 0) (rm13c1 l Z a0 hw []  h0 n0 Z0 ) hZ (hw _ (List.mem_of_getElem? (i := 71) rfl)) (hw _ (List.mem_of_getElem? (i := 70) rfl)) (by decide) (by decide)) (g := (mkF m 3 #[.val (.int (1 : Int32)), .val (.int (5 : Int32))] [.null, (.int (5 : Int32)), (.int (1 : Int32))])) rfl (by rw [hml]; rfl) (argsL := [(.int (1 : Int32)), (.int (5 : Int32)), .null]) (rest := []) (lenOf pd_6 rfl) rfl (by show 2 * 0 + _ ≤ _; exact Nat.le_of_eq rfl) (hb hby d12_3) (fun _ _ => ⟨rfl, e0, (by decide : 0 + 0 ≤ _), (by decide : 0 + 0 ≤ _)⟩)
  dsimp only [Pt.U, Pt.locs, Pt.cells, Pt.slots] at X1 l1 y1 z1 st1 hQ1
  subst l1 y1 z1
  obtain ⟨rfl, N1q, e1⟩ := hQ1
  have N1 := Fr.app N0 N1q
  replace G : Gets p e below _ (T1.setTop (mkF m 6 #[.val (.int (1 : Int32)), .val (.int (5 : Int32))] [(.int (1 : Int32))])) := fun t k => G t (st1 t k)
  obtain ⟨fs, hr, hrun, hended, hW, hsame⟩ := X1.leave (v := some (.int (1 : Int32))) (fun h => by rw [Bd.returns] at h; cases h)
  refine ⟨_, _, G _ (retOut X1 hx Bd.returns rfl (Or.inl ⟨rfl, Or.inl rfl, _, rfl⟩) (hb hby d12_6) hr), hrun, hended, _, _, rfl, ?_, ⟨_, rfl⟩, hW, hsame.mono (by decide) (by decide)⟩
  show Q12c1 Z  h0 n0 _ T1.heap _
  rw [e1]
  exact ⟨rfl, N1, rfl⟩
theorem ef_11k1 (m : MethodId) (x0 : Addr) : entryFrame m #[(.ref x0), (.int (1 : Int32))] 2 = mkF m 0 #[.val (.ref x0), .val (.int (1 : Int32))] [] := by first | (simp [entryFrame, mkF, argsToLocals, Value.category]; done) | rfl
def Q11k1 (Z : State) (a : Addr) (b : Addr) (h0 : Heap) (n0 : Nat) (v : Option Value) (h : Heap) (L : List Loc) : Prop := v = none ∧ Fr n0 L ∧ Keep h0 h [a] ∧ (Fld Z h a "com/example/leafcutter/leafcutter/io/TextBuffer" "chars" "[C" (.ref b)) ∧ (Fld Z h a "com/example/leafcutter/leafcutter/io/TextBuffer" "length" "I" (.int (1 : Int32))) ∧ (Fld Z h a "com/example/leafcutter/leafcutter/io/TextBuffer" "limit" "I" (.int (2147483639 : Int32))) ∧ (Fld Z h a "com/example/leafcutter/leafcutter/io/TextBuffer" "whenFull" "Ljava/util/function/Consumer;" .null)
set_option maxRecDepth 65536 in
set_option maxHeartbeats 40000000 in
theorem rm11k1 (l : Launch) (Z : State) (a0 : Array Value) (hw : ∀ d ∈ tables_1, d.before a0 Z = true) (ws : List Jvm.Cond) (a : Addr) (b : Addr) (h0 : Heap) (n0 : Nat) (Z0 : n0 ≤ h0.size) (P0 : Fld Z h0 a "com/example/leafcutter/leafcutter/io/TextBuffer" "chars" "[C" (.ref b)) (P1 : Fld Z h0 a "com/example/leafcutter/leafcutter/io/TextBuffer" "length" "I" (.int (4 : Int32))) (P2 : Fld Z h0 a "com/example/leafcutter/leafcutter/io/TextBuffer" "limit" "I" (.int (2147483639 : Int32))) (P3 : Fld Z h0 a "com/example/leafcutter/leafcutter/io/TextBuffer" "whenFull" "Ljava/util/function/Consumer;" .null) (P4 : Exa Z h0 a "com/example/leafcutter/leafcutter/io/TextBuffer") (P5 : n0 ≤ a) :
    MetFree l (⟨"com/example/leafcutter/leafcutter/io/TextBuffer", "truncate", "(I)V"⟩ : MethodName) (head1 (Jvm.Cond.code (⟨"com/example/leafcutter/leafcutter/io/TextBuffer", "truncate", "(I)V"⟩ : MethodName) prog_6_method_12_code 2 none :: ws) ({ frames := 2, cells := 0, slots := 0, locals := 27 } : Room)) (fun argz U => argz = #[(.ref a), (.int (1 : Int32))] ∧ Z.Warmed39 U.vm ∧ U.heap = h0) (fun _ _ _ _ _ => True) (fun _ U o U' => ∃ v L, o = .returned v ∧ Q11k1 Z a b h0 n0 v U'.heap L ∧ FrameEnd U o U' L ({ frames := 2, cells := 0, slots := 0, locals := 27 } : Room).cells ({ frames := 2, cells := 0, slots := 0, locals := 27 } : Room).slots) := by
  refine MetFree.of_bodySF (plainFor_of_name pn_com_example_leafcutter_leafcutter_io_TextBuffer) hisR ?_
  intro p e s m args below meth c s₁ Bd hml0 hP hK
  obtain ⟨rfl, hZ, hh⟩ := hP
  have hx := Bd.exec
  have hby := Bd.bytes
  have hml : c.maxLocals = 2 := hml0
  have hown : s.vm.findClass "com/example/leafcutter/leafcutter/io/TextBuffer" = some m.cls := findClass_of_methodNamed Bd.named
  have hnm := (name_of_methodNamed Bd.named Bd.method).1
  have X0 : Stand p l e ({ frames := 2, cells := 0, slots := 0, locals := 27 } : Room) s m #[(.ref a), (.int (1 : Int32))] below meth c s₁ [] 0 0 := Stand.of_body Bd
  have e0 : s₁.heap = h0 := by rw [← hh, Bd.state]; rfl
  have N0 := Fr.nil n0
  have K0 : Keep h0 h0 [a] := Keep.refl _ _
  have G : Gets p e below (s₁.setTop (entryFrame m #[(.ref a), (.int (1 : Int32))] 2)) (s₁.setTop (mkF m 0 #[.val (.ref a), .val (.int (1 : Int32))] [])) := fun t k => castTop (ef_11k1 m a) k
  replace G := own_iloadN (q := 1) G X0.here hx (hb hby d11_0) rfl rfl
  replace G := own_aloadN (q := 2) G X0.here hx (hb hby d11_1) rfl rfl rfl
  obtain ⟨T1, X1, e1, st1⟩ := getF X0 hx hZ hown (host := "") (Or.inl (hw _ (List.mem_of_getElem? (i := 27) rfl))) Via.refl e0 P1 (g := (mkF m 2 #[.val (.ref a), .val (.int (1 : Int32))] [(.ref a), (.int (1 : Int32))])) rfl rfl (hb hby d11_2)
  replace G : Gets p e below _ (T1.setTop (mkF m 5 #[.val (.ref a), .val (.int (1 : Int32))] [(.int (4 : Int32)), (.int (1 : Int32))])) := fun t k => G t (st1 t k)
  replace G := own_iconst (q := 6) G X1.here hx (hb hby d11_5) (v := (1 : Int32)) (by decide) rfl
  replace G := own_iadd (q := 7) G X1.here hx (hb hby d11_6) (by decide : ((4 : Int32) + (1 : Int32)) = (5 : Int32)) rfl
  obtain ⟨_, _, ⟨T2, L2, kk2, nn2⟩, -, X2, ⟨Lc2, hQ2, l2, y2, z2⟩, st2⟩ := Jvm.LawKit.callS X1 hx (y := (⟨"java/util/Objects", "checkIndex", "(II)I"⟩ : MethodName)) hown (mvT hZ (hw _ (List.mem_of_getElem? (i := 64) rfl))) (mvT hZ (hw _ (List.mem_of_getElem? (i := 65) rfl))) (mvT hZ (hw _ (List.mem_of_getElem? (i := 66) rfl))) (mvT hZ (hw _ (List.mem_of_getElem? (i := 67) rfl))) (by decide) (backOf (W := 0) (rm12c1 l Z a0 hw []  h0 n0 Z0 ) hZ (hw _ (List.mem_of_getElem? (i := 67) rfl)) (hw _ (List.mem_of_getElem? (i := 66) rfl)) (by decide) (by decide)) (g := (mkF m 7 #[.val (.ref a), .val (.int (1 : Int32))] [(.int (5 : Int32)), (.int (1 : Int32))])) rfl (by rw [hml]; rfl) (argsL := [(.int (1 : Int32)), (.int (5 : Int32))]) (rest := []) (lenOf pd_1 rfl) rfl (by show 2 * 0 + _ ≤ _; exact Nat.le_of_eq rfl) (hb hby d11_7) (fun _ _ => ⟨rfl, e1, (by decide : 0 + 0 ≤ _), (by decide : 0 + 0 ≤ _)⟩)
  dsimp only [Pt.U, Pt.locs, Pt.cells, Pt.slots] at X2 l2 y2 z2 st2 hQ2
  subst l2 y2 z2
  obtain ⟨rfl, N2q, e2⟩ := hQ2
  have N2 := Fr.app N0 N2q
  replace G : Gets p e below _ (T2.setTop (mkF m 10 #[.val (.ref a), .val (.int (1 : Int32))] [(.int (1 : Int32))])) := fun t k => G t (st2 t k)
  replace G := own_pop (q := 11) G X2.here hx (hb hby d11_10) rfl rfl
  replace G := own_aloadN (q := 12) G X2.here hx (hb hby d11_11) rfl rfl rfl
  replace G := own_iloadN (q := 13) G X2.here hx (hb hby d11_12) rfl rfl
  obtain ⟨T3, h3, X3, e3, W3, st3⟩ := putF X2 hx hZ hown (host := "") (Or.inl (hw _ (List.mem_of_getElem? (i := 27) rfl))) Via.refl e2 P1 P4 (Or.inl (hw _ (List.mem_of_getElem? (i := 28) rfl))) (hw _ (List.mem_of_getElem? (i := 2) rfl)) (ty := .int) (by decide) rfl rfl (g := (mkF m 13 #[.val (.ref a), .val (.int (1 : Int32))] [(.int (1 : Int32)), (.ref a)])) rfl rfl (hb hby d11_13)
  have N3 := Fr.snoc X3 N2 P5
  have Z3 : n0 ≤ h3.size := Nat.le_trans Z0 (Keep.of_wr W3).1
  have K3 : Keep h0 h3 [a] := K0.wr W3 (Or.inl (List.mem_of_getElem? (i := 0) rfl))
  have F3 : Fld Z h3 a "com/example/leafcutter/leafcutter/io/TextBuffer" "length" "I" (.int (1 : Int32)) := P1.same W3
  replace G : Gets p e below _ (T3.setTop (mkF m 16 #[.val (.ref a), .val (.int (1 : Int32))] [])) := fun t k => G t (st3 t k)
  obtain ⟨fs, hr, hrun, hended, hW, hsame⟩ := X3.leave (v := none) (fun _ => rfl)
  refine ⟨_, _, G _ (X3.returnOut hx Bd.returns (hb hby d11_16) hr), hrun, hended, _, _, rfl, ?_, ⟨_, rfl⟩, hW, hsame.mono (by decide) (by decide)⟩
  have F4 : Fld Z h3 a "com/example/leafcutter/leafcutter/io/TextBuffer" "chars" "[C" (.ref b) := (P0.other W3 (Or.inr (slot_ne (Or.inl (hw _ (List.mem_of_getElem? (i := 17) rfl))) (Or.inl (hw _ (List.mem_of_getElem? (i := 28) rfl))) (by decide) (t := (.array .char)) (t' := .int) (by decide) (by decide))))
  have F5 : Fld Z h3 a "com/example/leafcutter/leafcutter/io/TextBuffer" "limit" "I" (.int (2147483639 : Int32)) := (P2.other W3 (Or.inr (slot_ne (Or.inr (hw _ (List.mem_of_getElem? (i := 19) rfl))) (Or.inl (hw _ (List.mem_of_getElem? (i := 28) rfl))) (by decide) (t := .int) (t' := .int) (by decide) (by decide))))
  have F6 : Fld Z h3 a "com/example/leafcutter/leafcutter/io/TextBuffer" "whenFull" "Ljava/util/function/Consumer;" .null := (P3.other W3 (Or.inr (slot_ne (Or.inr (hw _ (List.mem_of_getElem? (i := 21) rfl))) (Or.inl (hw _ (List.mem_of_getElem? (i := 28) rfl))) (by decide) (t := (.object "java/util/function/Consumer")) (t' := .int) (by decide) (by decide))))
  show Q11k1 Z a b h0 n0 _ T3.heap _
  rw [e3]
  exact ⟨rfl, N3, K3, F4, F3, F5, F6⟩
theorem ef_13c2 (m : MethodId)  : entryFrame m #[(.int (2 : Int32)), (.int (5 : Int32)), .null] 3 = mkF m 0 #[.val (.int (2 : Int32)), .val (.int (5 : Int32)), .val .null] [] := by first | (simp [entryFrame, mkF, argsToLocals, Value.category]; done) | rfl
def Q13c2 (Z : State)  (h0 : Heap) (n0 : Nat) (v : Option Value) (h : Heap) (L : List Loc) : Prop := v = some (.int (2 : Int32)) ∧ Fr n0 L ∧ h = h0
set_option maxRecDepth 65536 in
set_option maxHeartbeats 40000000 in
theorem rm13c2 (l : Launch) (Z : State) (a0 : Array Value) (hw : ∀ d ∈ tables_1, d.before a0 Z = true) (ws : List Jvm.Cond)  (h0 : Heap) (n0 : Nat) (Z0 : n0 ≤ h0.size)  :
    MetFree l (⟨"jdk/internal/util/Preconditions", "checkIndex", "(IILjava/util/function/BiFunction;)I"⟩ : MethodName) (head1 (Jvm.Cond.code (⟨"jdk/internal/util/Preconditions", "checkIndex", "(IILjava/util/function/BiFunction;)I"⟩ : MethodName) jdk_41_method_11_code 3 (some .int) :: ws) ({ frames := 0, cells := 0, slots := 0, locals := 0 } : Room)) (fun argz U => argz = #[(.int (2 : Int32)), (.int (5 : Int32)), .null] ∧ Z.Warmed39 U.vm ∧ U.heap = h0) (fun _ _ _ _ _ => True) (fun _ U o U' => ∃ v L, o = .returned v ∧ Q13c2 Z  h0 n0 v U'.heap L ∧ FrameEnd U o U' L ({ frames := 0, cells := 0, slots := 0, locals := 0 } : Room).cells ({ frames := 0, cells := 0, slots := 0, locals := 0 } : Room).slots) := by
  refine MetFree.of_bodySF (plainFor_of_name pn_jdk_internal_util_Preconditions) hisR ?_
  intro p e s m args below meth c s₁ Bd hml0 hP hK
  obtain ⟨rfl, hZ, hh⟩ := hP
  have hx := Bd.exec
  have hby := Bd.bytes
  have hml : c.maxLocals = 3 := hml0
  have hown : s.vm.findClass "jdk/internal/util/Preconditions" = some m.cls := findClass_of_methodNamed Bd.named
  have hnm := (name_of_methodNamed Bd.named Bd.method).1
  have X0 : Stand p l e ({ frames := 0, cells := 0, slots := 0, locals := 0 } : Room) s m #[(.int (2 : Int32)), (.int (5 : Int32)), .null] below meth c s₁ [] 0 0 := Stand.of_body Bd
  have e0 : s₁.heap = h0 := by rw [← hh, Bd.state]; rfl
  have N0 := Fr.nil n0
  have G : Gets p e below (s₁.setTop (entryFrame m #[(.int (2 : Int32)), (.int (5 : Int32)), .null] 3)) (s₁.setTop (mkF m 0 #[.val (.int (2 : Int32)), .val (.int (5 : Int32)), .val .null] [])) := fun t k => castTop (ef_13c2 m ) k
  replace G := own_iloadN (q := 1) G X0.here hx (hb hby d13_0) rfl rfl
  have hc1_1 : ¬ ((2 : Int32) < (0 : Int32)) := by decide
  replace G := own_ifNo (q := 4) G X0.here hx (hb hby d13_1) ((if0 _ _).trans (flt hc1_1).1) rfl
  replace G := own_iloadN (q := 5) G X0.here hx (hb hby d13_4) rfl rfl
  replace G := own_iloadN (q := 6) G X0.here hx (hb hby d13_5) rfl rfl
  have hc6_2 : (2 : Int32) < (5 : Int32) := by decide
  replace G := own_icmpYes (q := 16) G X0.here hx (hb hby d13_6) (tlt hc6_2).1 (by decide) (by decide)
  replace G := own_iloadN (q := 17) G X0.here hx (hb hby d13_16) rfl rfl
  obtain ⟨fs, hr, hrun, hended, hW, hsame⟩ := X0.leave (v := some (.int (2 : Int32))) (fun h => by rw [Bd.returns] at h; cases h)
  refine ⟨_, _, G _ (retOut X0 hx Bd.returns rfl (Or.inl ⟨rfl, Or.inl rfl, _, rfl⟩) (hb hby d13_17) hr), hrun, hended, _, _, rfl, ?_, ⟨_, rfl⟩, hW, hsame.mono (by decide) (by decide)⟩
  show Q13c2 Z  h0 n0 _ s₁.heap _
  rw [e0]
  exact ⟨rfl, N0, rfl⟩
theorem ef_12c2 (m : MethodId)  : entryFrame m #[(.int (2 : Int32)), (.int (5 : Int32))] 2 = mkF m 0 #[.val (.int (2 : Int32)), .val (.int (5 : Int32))] [] := by first | (simp [entryFrame, mkF, argsToLocals, Value.category]; done) | rfl
def Q12c2 (Z : State)  (h0 : Heap) (n0 : Nat) (v : Option Value) (h : Heap) (L : List Loc) : Prop := v = some (.int (2 : Int32)) ∧ Fr n0 L ∧ h = h0
set_option maxRecDepth 65536 in
set_option maxHeartbeats 40000000 in
theorem rm12c2 (l : Launch) (Z : State) (a0 : Array Value) (hw : ∀ d ∈ tables_1, d.before a0 Z = true) (ws : List Jvm.Cond)  (h0 : Heap) (n0 : Nat) (Z0 : n0 ≤ h0.size)  :
    MetFree l (⟨"java/util/Objects", "checkIndex", "(II)I"⟩ : MethodName) (head1 (Jvm.Cond.code (⟨"java/util/Objects", "checkIndex", "(II)I"⟩ : MethodName) jdk_31_method_17_code 2 (some .int) :: ws) ({ frames := 1, cells := 0, slots := 0, locals := 14 } : Room)) (fun argz U => argz = #[(.int (2 : Int32)), (.int (5 : Int32))] ∧ Z.Warmed39 U.vm ∧ U.heap = h0) (fun _ _ _ _ _ => True) (fun _ U o U' => ∃ v L, o = .returned v ∧ Q12c2 Z  h0 n0 v U'.heap L ∧ FrameEnd U o U' L ({ frames := 1, cells := 0, slots := 0, locals := 14 } : Room).cells ({ frames := 1, cells := 0, slots := 0, locals := 14 } : Room).slots) := by
  refine MetFree.of_bodySF (plainFor_of_name pn_java_util_Objects) hisR ?_
  intro p e s m args below meth c s₁ Bd hml0 hP hK
  obtain ⟨rfl, hZ, hh⟩ := hP
  have hx := Bd.exec
  have hby := Bd.bytes
  have hml : c.maxLocals = 2 := hml0
  have hown : s.vm.findClass "java/util/Objects" = some m.cls := findClass_of_methodNamed Bd.named
  have hnm := (name_of_methodNamed Bd.named Bd.method).1
  have X0 : Stand p l e ({ frames := 1, cells := 0, slots := 0, locals := 14 } : Room) s m #[(.int (2 : Int32)), (.int (5 : Int32))] below meth c s₁ [] 0 0 := Stand.of_body Bd
  have e0 : s₁.heap = h0 := by rw [← hh, Bd.state]; rfl
  have N0 := Fr.nil n0
  have G : Gets p e below (s₁.setTop (entryFrame m #[(.int (2 : Int32)), (.int (5 : Int32))] 2)) (s₁.setTop (mkF m 0 #[.val (.int (2 : Int32)), .val (.int (5 : Int32))] [])) := fun t k => castTop (ef_12c2 m ) k
  replace G := own_iloadN (q := 1) G X0.here hx (hb hby d12_0) rfl rfl
  replace G := own_iloadN (q := 2) G X0.here hx (hb hby d12_1) rfl rfl
  replace G := own_aconst_null (q := 3) G X0.here hx (hb hby d12_2) rfl
  obtain ⟨_, _, ⟨T1, L1, kk1, nn1⟩, -, X1, ⟨Lc1, hQ1, l1, y1, z1⟩, st1⟩ := Jvm.LawKit.callS X0 hx (y := (⟨"jdk/internal/util/Preconditions", "checkIndex", "(IILjava/util/function/BiFunction;)I"⟩ : MethodName)) hown (mvT hZ (hw _ (List.mem_of_getElem? (i := 68) rfl))) (mvT hZ (hw _ (List.mem_of_getElem? (i := 69) rfl))) (mvT hZ (hw _ (List.mem_of_getElem? (i := 70) rfl))) (mvT hZ (hw _ (List.mem_of_getElem? (i := 71) rfl))) (by decide) (backOf (W := 0) (rm13c2 l Z a0 hw []  h0 n0 Z0 ) hZ (hw _ (List.mem_of_getElem? (i := 71) rfl)) (hw _ (List.mem_of_getElem? (i := 70) rfl)) (by decide) (by decide)) (g := (mkF m 3 #[.val (.int (2 : Int32)), .val (.int (5 : Int32))] [.null, (.int (5 : Int32)), (.int (2 : Int32))])) rfl (by rw [hml]; rfl) (argsL := [(.int (2 : Int32)), (.int (5 : Int32)), .null]) (rest := []) (lenOf pd_6 rfl) rfl (by show 2 * 0 + _ ≤ _; exact Nat.le_of_eq rfl) (hb hby d12_3) (fun _ _ => ⟨rfl, e0, (by decide : 0 + 0 ≤ _), (by decide : 0 + 0 ≤ _)⟩)
  dsimp only [Pt.U, Pt.locs, Pt.cells, Pt.slots] at X1 l1 y1 z1 st1 hQ1
  subst l1 y1 z1
  obtain ⟨rfl, N1q, e1⟩ := hQ1
  have N1 := Fr.app N0 N1q
  replace G : Gets p e below _ (T1.setTop (mkF m 6 #[.val (.int (2 : Int32)), .val (.int (5 : Int32))] [(.int (2 : Int32))])) := fun t k => G t (st1 t k)
  obtain ⟨fs, hr, hrun, hended, hW, hsame⟩ := X1.leave (v := some (.int (2 : Int32))) (fun h => by rw [Bd.returns] at h; cases h)
  refine ⟨_, _, G _ (retOut X1 hx Bd.returns rfl (Or.inl ⟨rfl, Or.inl rfl, _, rfl⟩) (hb hby d12_6) hr), hrun, hended, _, _, rfl, ?_, ⟨_, rfl⟩, hW, hsame.mono (by decide) (by decide)⟩
  show Q12c2 Z  h0 n0 _ T1.heap _
  rw [e1]
  exact ⟨rfl, N1, rfl⟩
theorem ef_11k2 (m : MethodId) (x0 : Addr) : entryFrame m #[(.ref x0), (.int (2 : Int32))] 2 = mkF m 0 #[.val (.ref x0), .val (.int (2 : Int32))] [] := by first | (simp [entryFrame, mkF, argsToLocals, Value.category]; done) | rfl
def Q11k2 (Z : State) (a : Addr) (b : Addr) (h0 : Heap) (n0 : Nat) (v : Option Value) (h : Heap) (L : List Loc) : Prop := v = none ∧ Fr n0 L ∧ Keep h0 h [a] ∧ (Fld Z h a "com/example/leafcutter/leafcutter/io/TextBuffer" "chars" "[C" (.ref b)) ∧ (Fld Z h a "com/example/leafcutter/leafcutter/io/TextBuffer" "length" "I" (.int (2 : Int32))) ∧ (Fld Z h a "com/example/leafcutter/leafcutter/io/TextBuffer" "limit" "I" (.int (2147483639 : Int32))) ∧ (Fld Z h a "com/example/leafcutter/leafcutter/io/TextBuffer" "whenFull" "Ljava/util/function/Consumer;" .null)
set_option maxRecDepth 65536 in
set_option maxHeartbeats 40000000 in
theorem rm11k2 (l : Launch) (Z : State) (a0 : Array Value) (hw : ∀ d ∈ tables_1, d.before a0 Z = true) (ws : List Jvm.Cond) (a : Addr) (b : Addr) (h0 : Heap) (n0 : Nat) (Z0 : n0 ≤ h0.size) (P0 : Fld Z h0 a "com/example/leafcutter/leafcutter/io/TextBuffer" "chars" "[C" (.ref b)) (P1 : Fld Z h0 a "com/example/leafcutter/leafcutter/io/TextBuffer" "length" "I" (.int (4 : Int32))) (P2 : Fld Z h0 a "com/example/leafcutter/leafcutter/io/TextBuffer" "limit" "I" (.int (2147483639 : Int32))) (P3 : Fld Z h0 a "com/example/leafcutter/leafcutter/io/TextBuffer" "whenFull" "Ljava/util/function/Consumer;" .null) (P4 : Exa Z h0 a "com/example/leafcutter/leafcutter/io/TextBuffer") (P5 : n0 ≤ a) :
    MetFree l (⟨"com/example/leafcutter/leafcutter/io/TextBuffer", "truncate", "(I)V"⟩ : MethodName) (head1 (Jvm.Cond.code (⟨"com/example/leafcutter/leafcutter/io/TextBuffer", "truncate", "(I)V"⟩ : MethodName) prog_6_method_12_code 2 none :: ws) ({ frames := 2, cells := 0, slots := 0, locals := 27 } : Room)) (fun argz U => argz = #[(.ref a), (.int (2 : Int32))] ∧ Z.Warmed39 U.vm ∧ U.heap = h0) (fun _ _ _ _ _ => True) (fun _ U o U' => ∃ v L, o = .returned v ∧ Q11k2 Z a b h0 n0 v U'.heap L ∧ FrameEnd U o U' L ({ frames := 2, cells := 0, slots := 0, locals := 27 } : Room).cells ({ frames := 2, cells := 0, slots := 0, locals := 27 } : Room).slots) := by
  refine MetFree.of_bodySF (plainFor_of_name pn_com_example_leafcutter_leafcutter_io_TextBuffer) hisR ?_
  intro p e s m args below meth c s₁ Bd hml0 hP hK
  obtain ⟨rfl, hZ, hh⟩ := hP
  have hx := Bd.exec
  have hby := Bd.bytes
  have hml : c.maxLocals = 2 := hml0
  have hown : s.vm.findClass "com/example/leafcutter/leafcutter/io/TextBuffer" = some m.cls := findClass_of_methodNamed Bd.named
  have hnm := (name_of_methodNamed Bd.named Bd.method).1
  have X0 : Stand p l e ({ frames := 2, cells := 0, slots := 0, locals := 27 } : Room) s m #[(.ref a), (.int (2 : Int32))] below meth c s₁ [] 0 0 := Stand.of_body Bd
  have e0 : s₁.heap = h0 := by rw [← hh, Bd.state]; rfl
  have N0 := Fr.nil n0
  have K0 : Keep h0 h0 [a] := Keep.refl _ _
  have G : Gets p e below (s₁.setTop (entryFrame m #[(.ref a), (.int (2 : Int32))] 2)) (s₁.setTop (mkF m 0 #[.val (.ref a), .val (.int (2 : Int32))] [])) := fun t k => castTop (ef_11k2 m a) k
  replace G := own_iloadN (q := 1) G X0.here hx (hb hby d11_0) rfl rfl
  replace G := own_aloadN (q := 2) G X0.here hx (hb hby d11_1) rfl rfl rfl
  obtain ⟨T1, X1, e1, st1⟩ := getF X0 hx hZ hown (host := "") (Or.inl (hw _ (List.mem_of_getElem? (i := 27) rfl))) Via.refl e0 P1 (g := (mkF m 2 #[.val (.ref a), .val (.int (2 : Int32))] [(.ref a), (.int (2 : Int32))])) rfl rfl (hb hby d11_2)
  replace G : Gets p e below _ (T1.setTop (mkF m 5 #[.val (.ref a), .val (.int (2 : Int32))] [(.int (4 : Int32)), (.int (2 : Int32))])) := fun t k => G t (st1 t k)
  replace G := own_iconst (q := 6) G X1.here hx (hb hby d11_5) (v := (1 : Int32)) (by decide) rfl
  replace G := own_iadd (q := 7) G X1.here hx (hb hby d11_6) (by decide : ((4 : Int32) + (1 : Int32)) = (5 : Int32)) rfl
  obtain ⟨_, _, ⟨T2, L2, kk2, nn2⟩, -, X2, ⟨Lc2, hQ2, l2, y2, z2⟩, st2⟩ := Jvm.LawKit.callS X1 hx (y := (⟨"java/util/Objects", "checkIndex", "(II)I"⟩ : MethodName)) hown (mvT hZ (hw _ (List.mem_of_getElem? (i := 64) rfl))) (mvT hZ (hw _ (List.mem_of_getElem? (i := 65) rfl))) (mvT hZ (hw _ (List.mem_of_getElem? (i := 66) rfl))) (mvT hZ (hw _ (List.mem_of_getElem? (i := 67) rfl))) (by decide) (backOf (W := 0) (rm12c2 l Z a0 hw []  h0 n0 Z0 ) hZ (hw _ (List.mem_of_getElem? (i := 67) rfl)) (hw _ (List.mem_of_getElem? (i := 66) rfl)) (by decide) (by decide)) (g := (mkF m 7 #[.val (.ref a), .val (.int (2 : Int32))] [(.int (5 : Int32)), (.int (2 : Int32))])) rfl (by rw [hml]; rfl) (argsL := [(.int (2 : Int32)), (.int (5 : Int32))]) (rest := []) (lenOf pd_1 rfl) rfl (by show 2 * 0 + _ ≤ _; exact Nat.le_of_eq rfl) (hb hby d11_7) (fun _ _ => ⟨rfl, e1, (by decide : 0 + 0 ≤ _), (by decide : 0 + 0 ≤ _)⟩)
  dsimp only [Pt.U, Pt.locs, Pt.cells, Pt.slots] at X2 l2 y2 z2 st2 hQ2
  subst l2 y2 z2
  obtain ⟨rfl, N2q, e2⟩ := hQ2
  have N2 := Fr.app N0 N2q
  replace G : Gets p e below _ (T2.setTop (mkF m 10 #[.val (.ref a), .val (.int (2 : Int32))] [(.int (2 : Int32))])) := fun t k => G t (st2 t k)
  replace G := own_pop (q := 11) G X2.here hx (hb hby d11_10) rfl rfl
  replace G := own_aloadN (q := 12) G X2.here hx (hb hby d11_11) rfl rfl rfl
  replace G := own_iloadN (q := 13) G X2.here hx (hb hby d11_12) rfl rfl
  obtain ⟨T3, h3, X3, e3, W3, st3⟩ := putF X2 hx hZ hown (host := "") (Or.inl (hw _ (List.mem_of_getElem? (i := 27) rfl))) Via.refl e2 P1 P4 (Or.inl (hw _ (List.mem_of_getElem? (i := 28) rfl))) (hw _ (List.mem_of_getElem? (i := 2) rfl)) (ty := .int) (by decide) rfl rfl (g := (mkF m 13 #[.val (.ref a), .val (.int (2 : Int32))] [(.int (2 : Int32)), (.ref a)])) rfl rfl (hb hby d11_13)
  have N3 := Fr.snoc X3 N2 P5
  have Z3 : n0 ≤ h3.size := Nat.le_trans Z0 (Keep.of_wr W3).1
  have K3 : Keep h0 h3 [a] := K0.wr W3 (Or.inl (List.mem_of_getElem? (i := 0) rfl))
  have F3 : Fld Z h3 a "com/example/leafcutter/leafcutter/io/TextBuffer" "length" "I" (.int (2 : Int32)) := P1.same W3
  replace G : Gets p e below _ (T3.setTop (mkF m 16 #[.val (.ref a), .val (.int (2 : Int32))] [])) := fun t k => G t (st3 t k)
  obtain ⟨fs, hr, hrun, hended, hW, hsame⟩ := X3.leave (v := none) (fun _ => rfl)
  refine ⟨_, _, G _ (X3.returnOut hx Bd.returns (hb hby d11_16) hr), hrun, hended, _, _, rfl, ?_, ⟨_, rfl⟩, hW, hsame.mono (by decide) (by decide)⟩
  have F4 : Fld Z h3 a "com/example/leafcutter/leafcutter/io/TextBuffer" "chars" "[C" (.ref b) := (P0.other W3 (Or.inr (slot_ne (Or.inl (hw _ (List.mem_of_getElem? (i := 17) rfl))) (Or.inl (hw _ (List.mem_of_getElem? (i := 28) rfl))) (by decide) (t := (.array .char)) (t' := .int) (by decide) (by decide))))
  have F5 : Fld Z h3 a "com/example/leafcutter/leafcutter/io/TextBuffer" "limit" "I" (.int (2147483639 : Int32)) := (P2.other W3 (Or.inr (slot_ne (Or.inr (hw _ (List.mem_of_getElem? (i := 19) rfl))) (Or.inl (hw _ (List.mem_of_getElem? (i := 28) rfl))) (by decide) (t := .int) (t' := .int) (by decide) (by decide))))
  have F6 : Fld Z h3 a "com/example/leafcutter/leafcutter/io/TextBuffer" "whenFull" "Ljava/util/function/Consumer;" .null := (P3.other W3 (Or.inr (slot_ne (Or.inr (hw _ (List.mem_of_getElem? (i := 21) rfl))) (Or.inl (hw _ (List.mem_of_getElem? (i := 28) rfl))) (by decide) (t := (.object "java/util/function/Consumer")) (t' := .int) (by decide) (by decide))))
  show Q11k2 Z a b h0 n0 _ T3.heap _
  rw [e3]
  exact ⟨rfl, N3, K3, F4, F3, F5, F6⟩
theorem ef_13c3 (m : MethodId)  : entryFrame m #[(.int (3 : Int32)), (.int (5 : Int32)), .null] 3 = mkF m 0 #[.val (.int (3 : Int32)), .val (.int (5 : Int32)), .val .null] [] := by first | (simp [entryFrame, mkF, argsToLocals, Value.category]; done) | rfl
def Q13c3 (Z : State)  (h0 : Heap) (n0 : Nat) (v : Option Value) (h : Heap) (L : List Loc) : Prop := v = some (.int (3 : Int32)) ∧ Fr n0 L ∧ h = h0
set_option maxRecDepth 65536 in
set_option maxHeartbeats 40000000 in
theorem rm13c3 (l : Launch) (Z : State) (a0 : Array Value) (hw : ∀ d ∈ tables_1, d.before a0 Z = true) (ws : List Jvm.Cond)  (h0 : Heap) (n0 : Nat) (Z0 : n0 ≤ h0.size)  :
    MetFree l (⟨"jdk/internal/util/Preconditions", "checkIndex", "(IILjava/util/function/BiFunction;)I"⟩ : MethodName) (head1 (Jvm.Cond.code (⟨"jdk/internal/util/Preconditions", "checkIndex", "(IILjava/util/function/BiFunction;)I"⟩ : MethodName) jdk_41_method_11_code 3 (some .int) :: ws) ({ frames := 0, cells := 0, slots := 0, locals := 0 } : Room)) (fun argz U => argz = #[(.int (3 : Int32)), (.int (5 : Int32)), .null] ∧ Z.Warmed39 U.vm ∧ U.heap = h0) (fun _ _ _ _ _ => True) (fun _ U o U' => ∃ v L, o = .returned v ∧ Q13c3 Z  h0 n0 v U'.heap L ∧ FrameEnd U o U' L ({ frames := 0, cells := 0, slots := 0, locals := 0 } : Room).cells ({ frames := 0, cells := 0, slots := 0, locals := 0 } : Room).slots) := by
  refine MetFree.of_bodySF (plainFor_of_name pn_jdk_internal_util_Preconditions) hisR ?_
  intro p e s m args below meth c s₁ Bd hml0 hP hK
  obtain ⟨rfl, hZ, hh⟩ := hP
  have hx := Bd.exec
  have hby := Bd.bytes
  have hml : c.maxLocals = 3 := hml0
  have hown : s.vm.findClass "jdk/internal/util/Preconditions" = some m.cls := findClass_of_methodNamed Bd.named
  have hnm := (name_of_methodNamed Bd.named Bd.method).1
  have X0 : Stand p l e ({ frames := 0, cells := 0, slots := 0, locals := 0 } : Room) s m #[(.int (3 : Int32)), (.int (5 : Int32)), .null] below meth c s₁ [] 0 0 := Stand.of_body Bd
  have e0 : s₁.heap = h0 := by rw [← hh, Bd.state]; rfl
  have N0 := Fr.nil n0
  have G : Gets p e below (s₁.setTop (entryFrame m #[(.int (3 : Int32)), (.int (5 : Int32)), .null] 3)) (s₁.setTop (mkF m 0 #[.val (.int (3 : Int32)), .val (.int (5 : Int32)), .val .null] [])) := fun t k => castTop (ef_13c3 m ) k
  replace G := own_iloadN (q := 1) G X0.here hx (hb hby d13_0) rfl rfl
  have hc1_1 : ¬ ((3 : Int32) < (0 : Int32)) := by decide
  replace G := own_ifNo (q := 4) G X0.here hx (hb hby d13_1) ((if0 _ _).trans (flt hc1_1).1) rfl
  replace G := own_iloadN (q := 5) G X0.here hx (hb hby d13_4) rfl rfl
  replace G := own_iloadN (q := 6) G X0.here hx (hb hby d13_5) rfl rfl
  have hc6_2 : (3 : Int32) < (5 : Int32) := by decide
  replace G := own_icmpYes (q := 16) G X0.here hx (hb hby d13_6) (tlt hc6_2).1 (by decide) (by decide)
  replace G := own_iloadN (q := 17) G X0.here hx (hb hby d13_16) rfl rfl
  obtain ⟨fs, hr, hrun, hended, hW, hsame⟩ := X0.leave (v := some (.int (3 : Int32))) (fun h => by rw [Bd.returns] at h; cases h)
  refine ⟨_, _, G _ (retOut X0 hx Bd.returns rfl (Or.inl ⟨rfl, Or.inl rfl, _, rfl⟩) (hb hby d13_17) hr), hrun, hended, _, _, rfl, ?_, ⟨_, rfl⟩, hW, hsame.mono (by decide) (by decide)⟩
  show Q13c3 Z  h0 n0 _ s₁.heap _
  rw [e0]
  exact ⟨rfl, N0, rfl⟩
theorem ef_12c3 (m : MethodId)  : entryFrame m #[(.int (3 : Int32)), (.int (5 : Int32))] 2 = mkF m 0 #[.val (.int (3 : Int32)), .val (.int (5 : Int32))] [] := by first | (simp [entryFrame, mkF, argsToLocals, Value.category]; done) | rfl
def Q12c3 (Z : State)  (h0 : Heap) (n0 : Nat) (v : Option Value) (h : Heap) (L : List Loc) : Prop := v = some (.int (3 : Int32)) ∧ Fr n0 L ∧ h = h0
set_option maxRecDepth 65536 in
set_option maxHeartbeats 40000000 in
theorem rm12c3 (l : Launch) (Z : State) (a0 : Array Value) (hw : ∀ d ∈ tables_1, d.before a0 Z = true) (ws : List Jvm.Cond)  (h0 : Heap) (n0 : Nat) (Z0 : n0 ≤ h0.size)  :
    MetFree l (⟨"java/util/Objects", "checkIndex", "(II)I"⟩ : MethodName) (head1 (Jvm.Cond.code (⟨"java/util/Objects", "checkIndex", "(II)I"⟩ : MethodName) jdk_31_method_17_code 2 (some .int) :: ws) ({ frames := 1, cells := 0, slots := 0, locals := 14 } : Room)) (fun argz U => argz = #[(.int (3 : Int32)), (.int (5 : Int32))] ∧ Z.Warmed39 U.vm ∧ U.heap = h0) (fun _ _ _ _ _ => True) (fun _ U o U' => ∃ v L, o = .returned v ∧ Q12c3 Z  h0 n0 v U'.heap L ∧ FrameEnd U o U' L ({ frames := 1, cells := 0, slots := 0, locals := 14 } : Room).cells ({ frames := 1, cells := 0, slots := 0, locals := 14 } : Room).slots) := by
  refine MetFree.of_bodySF (plainFor_of_name pn_java_util_Objects) hisR ?_
  intro p e s m args below meth c s₁ Bd hml0 hP hK
  obtain ⟨rfl, hZ, hh⟩ := hP
  have hx := Bd.exec
  have hby := Bd.bytes
  have hml : c.maxLocals = 2 := hml0
  have hown : s.vm.findClass "java/util/Objects" = some m.cls := findClass_of_methodNamed Bd.named
  have hnm := (name_of_methodNamed Bd.named Bd.method).1
  have X0 : Stand p l e ({ frames := 1, cells := 0, slots := 0, locals := 14 } : Room) s m #[(.int (3 : Int32)), (.int (5 : Int32))] below meth c s₁ [] 0 0 := Stand.of_body Bd
  have e0 : s₁.heap = h0 := by rw [← hh, Bd.state]; rfl
  have N0 := Fr.nil n0
  have G : Gets p e below (s₁.setTop (entryFrame m #[(.int (3 : Int32)), (.int (5 : Int32))] 2)) (s₁.setTop (mkF m 0 #[.val (.int (3 : Int32)), .val (.int (5 : Int32))] [])) := fun t k => castTop (ef_12c3 m ) k
  replace G := own_iloadN (q := 1) G X0.here hx (hb hby d12_0) rfl rfl
  replace G := own_iloadN (q := 2) G X0.here hx (hb hby d12_1) rfl rfl
  replace G := own_aconst_null (q := 3) G X0.here hx (hb hby d12_2) rfl
  obtain ⟨_, _, ⟨T1, L1, kk1, nn1⟩, -, X1, ⟨Lc1, hQ1, l1, y1, z1⟩, st1⟩ := Jvm.LawKit.callS X0 hx (y := (⟨"jdk/internal/util/Preconditions", "checkIndex", "(IILjava/util/function/BiFunction;)I"⟩ : MethodName)) hown (mvT hZ (hw _ (List.mem_of_getElem? (i := 68) rfl))) (mvT hZ (hw _ (List.mem_of_getElem? (i := 69) rfl))) (mvT hZ (hw _ (List.mem_of_getElem? (i := 70) rfl))) (mvT hZ (hw _ (List.mem_of_getElem? (i := 71) rfl))) (by decide) (backOf (W := 0) (rm13c3 l Z a0 hw []  h0 n0 Z0 ) hZ (hw _ (List.mem_of_getElem? (i := 71) rfl)) (hw _ (List.mem_of_getElem? (i := 70) rfl)) (by decide) (by decide)) (g := (mkF m 3 #[.val (.int (3 : Int32)), .val (.int (5 : Int32))] [.null, (.int (5 : Int32)), (.int (3 : Int32))])) rfl (by rw [hml]; rfl) (argsL := [(.int (3 : Int32)), (.int (5 : Int32)), .null]) (rest := []) (lenOf pd_6 rfl) rfl (by show 2 * 0 + _ ≤ _; exact Nat.le_of_eq rfl) (hb hby d12_3) (fun _ _ => ⟨rfl, e0, (by decide : 0 + 0 ≤ _), (by decide : 0 + 0 ≤ _)⟩)
  dsimp only [Pt.U, Pt.locs, Pt.cells, Pt.slots] at X1 l1 y1 z1 st1 hQ1
  subst l1 y1 z1
  obtain ⟨rfl, N1q, e1⟩ := hQ1
  have N1 := Fr.app N0 N1q
  replace G : Gets p e below _ (T1.setTop (mkF m 6 #[.val (.int (3 : Int32)), .val (.int (5 : Int32))] [(.int (3 : Int32))])) := fun t k => G t (st1 t k)
  obtain ⟨fs, hr, hrun, hended, hW, hsame⟩ := X1.leave (v := some (.int (3 : Int32))) (fun h => by rw [Bd.returns] at h; cases h)
  refine ⟨_, _, G _ (retOut X1 hx Bd.returns rfl (Or.inl ⟨rfl, Or.inl rfl, _, rfl⟩) (hb hby d12_6) hr), hrun, hended, _, _, rfl, ?_, ⟨_, rfl⟩, hW, hsame.mono (by decide) (by decide)⟩
  show Q12c3 Z  h0 n0 _ T1.heap _
  rw [e1]
  exact ⟨rfl, N1, rfl⟩
theorem ef_11k3 (m : MethodId) (x0 : Addr) : entryFrame m #[(.ref x0), (.int (3 : Int32))] 2 = mkF m 0 #[.val (.ref x0), .val (.int (3 : Int32))] [] := by first | (simp [entryFrame, mkF, argsToLocals, Value.category]; done) | rfl
def Q11k3 (Z : State) (a : Addr) (b : Addr) (h0 : Heap) (n0 : Nat) (v : Option Value) (h : Heap) (L : List Loc) : Prop := v = none ∧ Fr n0 L ∧ Keep h0 h [a] ∧ (Fld Z h a "com/example/leafcutter/leafcutter/io/TextBuffer" "chars" "[C" (.ref b)) ∧ (Fld Z h a "com/example/leafcutter/leafcutter/io/TextBuffer" "length" "I" (.int (3 : Int32))) ∧ (Fld Z h a "com/example/leafcutter/leafcutter/io/TextBuffer" "limit" "I" (.int (2147483639 : Int32))) ∧ (Fld Z h a "com/example/leafcutter/leafcutter/io/TextBuffer" "whenFull" "Ljava/util/function/Consumer;" .null)
set_option maxRecDepth 65536 in
set_option maxHeartbeats 40000000 in
theorem rm11k3 (l : Launch) (Z : State) (a0 : Array Value) (hw : ∀ d ∈ tables_1, d.before a0 Z = true) (ws : List Jvm.Cond) (a : Addr) (b : Addr) (h0 : Heap) (n0 : Nat) (Z0 : n0 ≤ h0.size) (P0 : Fld Z h0 a "com/example/leafcutter/leafcutter/io/TextBuffer" "chars" "[C" (.ref b)) (P1 : Fld Z h0 a "com/example/leafcutter/leafcutter/io/TextBuffer" "length" "I" (.int (4 : Int32))) (P2 : Fld Z h0 a "com/example/leafcutter/leafcutter/io/TextBuffer" "limit" "I" (.int (2147483639 : Int32))) (P3 : Fld Z h0 a "com/example/leafcutter/leafcutter/io/TextBuffer" "whenFull" "Ljava/util/function/Consumer;" .null) (P4 : Exa Z h0 a "com/example/leafcutter/leafcutter/io/TextBuffer") (P5 : n0 ≤ a) :
    MetFree l (⟨"com/example/leafcutter/leafcutter/io/TextBuffer", "truncate", "(I)V"⟩ : MethodName) (head1 (Jvm.Cond.code (⟨"com/example/leafcutter/leafcutter/io/TextBuffer", "truncate", "(I)V"⟩ : MethodName) prog_6_method_12_code 2 none :: ws) ({ frames := 2, cells := 0, slots := 0, locals := 27 } : Room)) (fun argz U => argz = #[(.ref a), (.int (3 : Int32))] ∧ Z.Warmed39 U.vm ∧ U.heap = h0) (fun _ _ _ _ _ => True) (fun _ U o U' => ∃ v L, o = .returned v ∧ Q11k3 Z a b h0 n0 v U'.heap L ∧ FrameEnd U o U' L ({ frames := 2, cells := 0, slots := 0, locals := 27 } : Room).cells ({ frames := 2, cells := 0, slots := 0, locals := 27 } : Room).slots) := by
  refine MetFree.of_bodySF (plainFor_of_name pn_com_example_leafcutter_leafcutter_io_TextBuffer) hisR ?_
  intro p e s m args below meth c s₁ Bd hml0 hP hK
  obtain ⟨rfl, hZ, hh⟩ := hP
  have hx := Bd.exec
  have hby := Bd.bytes
  have hml : c.maxLocals = 2 := hml0
  have hown : s.vm.findClass "com/example/leafcutter/leafcutter/io/TextBuffer" = some m.cls := findClass_of_methodNamed Bd.named
  have hnm := (name_of_methodNamed Bd.named Bd.method).1
  have X0 : Stand p l e ({ frames := 2, cells := 0, slots := 0, locals := 27 } : Room) s m #[(.ref a), (.int (3 : Int32))] below meth c s₁ [] 0 0 := Stand.of_body Bd
  have e0 : s₁.heap = h0 := by rw [← hh, Bd.state]; rfl
  have N0 := Fr.nil n0
  have K0 : Keep h0 h0 [a] := Keep.refl _ _
  have G : Gets p e below (s₁.setTop (entryFrame m #[(.ref a), (.int (3 : Int32))] 2)) (s₁.setTop (mkF m 0 #[.val (.ref a), .val (.int (3 : Int32))] [])) := fun t k => castTop (ef_11k3 m a) k
  replace G := own_iloadN (q := 1) G X0.here hx (hb hby d11_0) rfl rfl
  replace G := own_aloadN (q := 2) G X0.here hx (hb hby d11_1) rfl rfl rfl
  obtain ⟨T1, X1, e1, st1⟩ := getF X0 hx hZ hown (host := "") (Or.inl (hw _ (List.mem_of_getElem? (i := 27) rfl))) Via.refl e0 P1 (g := (mkF m 2 #[.val (.ref a), .val (.int (3 : Int32))] [(.ref a), (.int (3 : Int32))])) rfl rfl (hb hby d11_2)
  replace G : Gets p e below _ (T1.setTop (mkF m 5 #[.val (.ref a), .val (.int (3 : Int32))] [(.int (4 : Int32)), (.int (3 : Int32))])) := fun t k => G t (st1 t k)
  replace G := own_iconst (q := 6) G X1.here hx (hb hby d11_5) (v := (1 : Int32)) (by decide) rfl
  replace G := own_iadd (q := 7) G X1.here hx (hb hby d11_6) (by decide : ((4 : Int32) + (1 : Int32)) = (5 : Int32)) rfl
  obtain ⟨_, _, ⟨T2, L2, kk2, nn2⟩, -, X2, ⟨Lc2, hQ2, l2, y2, z2⟩, st2⟩ := Jvm.LawKit.callS X1 hx (y := (⟨"java/util/Objects", "checkIndex", "(II)I"⟩ : MethodName)) hown (mvT hZ (hw _ (List.mem_of_getElem? (i := 64) rfl))) (mvT hZ (hw _ (List.mem_of_getElem? (i := 65) rfl))) (mvT hZ (hw _ (List.mem_of_getElem? (i := 66) rfl))) (mvT hZ (hw _ (List.mem_of_getElem? (i := 67) rfl))) (by decide) (backOf (W := 0) (rm12c3 l Z a0 hw []  h0 n0 Z0 ) hZ (hw _ (List.mem_of_getElem? (i := 67) rfl)) (hw _ (List.mem_of_getElem? (i := 66) rfl)) (by decide) (by decide)) (g := (mkF m 7 #[.val (.ref a), .val (.int (3 : Int32))] [(.int (5 : Int32)), (.int (3 : Int32))])) rfl (by rw [hml]; rfl) (argsL := [(.int (3 : Int32)), (.int (5 : Int32))]) (rest := []) (lenOf pd_1 rfl) rfl (by show 2 * 0 + _ ≤ _; exact Nat.le_of_eq rfl) (hb hby d11_7) (fun _ _ => ⟨rfl, e1, (by decide : 0 + 0 ≤ _), (by decide : 0 + 0 ≤ _)⟩)
  dsimp only [Pt.U, Pt.locs, Pt.cells, Pt.slots] at X2 l2 y2 z2 st2 hQ2
  subst l2 y2 z2
  obtain ⟨rfl, N2q, e2⟩ := hQ2
  have N2 := Fr.app N0 N2q
  replace G : Gets p e below _ (T2.setTop (mkF m 10 #[.val (.ref a), .val (.int (3 : Int32))] [(.int (3 : Int32))])) := fun t k => G t (st2 t k)
  replace G := own_pop (q := 11) G X2.here hx (hb hby d11_10) rfl rfl
  replace G := own_aloadN (q := 12) G X2.here hx (hb hby d11_11) rfl rfl rfl
  replace G := own_iloadN (q := 13) G X2.here hx (hb hby d11_12) rfl rfl
  obtain ⟨T3, h3, X3, e3, W3, st3⟩ := putF X2 hx hZ hown (host := "") (Or.inl (hw _ (List.mem_of_getElem? (i := 27) rfl))) Via.refl e2 P1 P4 (Or.inl (hw _ (List.mem_of_getElem? (i := 28) rfl))) (hw _ (List.mem_of_getElem? (i := 2) rfl)) (ty := .int) (by decide) rfl rfl (g := (mkF m 13 #[.val (.ref a), .val (.int (3 : Int32))] [(.int (3 : Int32)), (.ref a)])) rfl rfl (hb hby d11_13)
  have N3 := Fr.snoc X3 N2 P5
  have Z3 : n0 ≤ h3.size := Nat.le_trans Z0 (Keep.of_wr W3).1
  have K3 : Keep h0 h3 [a] := K0.wr W3 (Or.inl (List.mem_of_getElem? (i := 0) rfl))
  have F3 : Fld Z h3 a "com/example/leafcutter/leafcutter/io/TextBuffer" "length" "I" (.int (3 : Int32)) := P1.same W3
  replace G : Gets p e below _ (T3.setTop (mkF m 16 #[.val (.ref a), .val (.int (3 : Int32))] [])) := fun t k => G t (st3 t k)
  obtain ⟨fs, hr, hrun, hended, hW, hsame⟩ := X3.leave (v := none) (fun _ => rfl)
  refine ⟨_, _, G _ (X3.returnOut hx Bd.returns (hb hby d11_16) hr), hrun, hended, _, _, rfl, ?_, ⟨_, rfl⟩, hW, hsame.mono (by decide) (by decide)⟩
  have F4 : Fld Z h3 a "com/example/leafcutter/leafcutter/io/TextBuffer" "chars" "[C" (.ref b) := (P0.other W3 (Or.inr (slot_ne (Or.inl (hw _ (List.mem_of_getElem? (i := 17) rfl))) (Or.inl (hw _ (List.mem_of_getElem? (i := 28) rfl))) (by decide) (t := (.array .char)) (t' := .int) (by decide) (by decide))))
  have F5 : Fld Z h3 a "com/example/leafcutter/leafcutter/io/TextBuffer" "limit" "I" (.int (2147483639 : Int32)) := (P2.other W3 (Or.inr (slot_ne (Or.inr (hw _ (List.mem_of_getElem? (i := 19) rfl))) (Or.inl (hw _ (List.mem_of_getElem? (i := 28) rfl))) (by decide) (t := .int) (t' := .int) (by decide) (by decide))))
  have F6 : Fld Z h3 a "com/example/leafcutter/leafcutter/io/TextBuffer" "whenFull" "Ljava/util/function/Consumer;" .null := (P3.other W3 (Or.inr (slot_ne (Or.inr (hw _ (List.mem_of_getElem? (i := 21) rfl))) (Or.inl (hw _ (List.mem_of_getElem? (i := 28) rfl))) (by decide) (t := (.object "java/util/function/Consumer")) (t' := .int) (by decide) (by decide))))
  show Q11k3 Z a b h0 n0 _ T3.heap _
  rw [e3]
  exact ⟨rfl, N3, K3, F4, F3, F5, F6⟩
theorem ef_13c4 (m : MethodId)  : entryFrame m #[(.int (4 : Int32)), (.int (5 : Int32)), .null] 3 = mkF m 0 #[.val (.int (4 : Int32)), .val (.int (5 : Int32)), .val .null] [] := by first | (simp [entryFrame, mkF, argsToLocals, Value.category]; done) | rfl
def Q13c4 (Z : State)  (h0 : Heap) (n0 : Nat) (v : Option Value) (h : Heap) (L : List Loc) : Prop := v = some (.int (4 : Int32)) ∧ Fr n0 L ∧ h = h0
set_option maxRecDepth 65536 in
set_option maxHeartbeats 40000000 in
theorem rm13c4 (l : Launch) (Z : State) (a0 : Array Value) (hw : ∀ d ∈ tables_1, d.before a0 Z = true) (ws : List Jvm.Cond)  (h0 : Heap) (n0 : Nat) (Z0 : n0 ≤ h0.size)  :
    MetFree l (⟨"jdk/internal/util/Preconditions", "checkIndex", "(IILjava/util/function/BiFunction;)I"⟩ : MethodName) (head1 (Jvm.Cond.code (⟨"jdk/internal/util/Preconditions", "checkIndex", "(IILjava/util/function/BiFunction;)I"⟩ : MethodName) jdk_41_method_11_code 3 (some .int) :: ws) ({ frames := 0, cells := 0, slots := 0, locals := 0 } : Room)) (fun argz U => argz = #[(.int (4 : Int32)), (.int (5 : Int32)), .null] ∧ Z.Warmed39 U.vm ∧ U.heap = h0) (fun _ _ _ _ _ => True) (fun _ U o U' => ∃ v L, o = .returned v ∧ Q13c4 Z  h0 n0 v U'.heap L ∧ FrameEnd U o U' L ({ frames := 0, cells := 0, slots := 0, locals := 0 } : Room).cells ({ frames := 0, cells := 0, slots := 0, locals := 0 } : Room).slots) := by
  refine MetFree.of_bodySF (plainFor_of_name pn_jdk_internal_util_Preconditions) hisR ?_
  intro p e s m args below meth c s₁ Bd hml0 hP hK
  obtain ⟨rfl, hZ, hh⟩ := hP
  have hx := Bd.exec
  have hby := Bd.bytes
  have hml : c.maxLocals = 3 := hml0
  have hown : s.vm.findClass "jdk/internal/util/Preconditions" = some m.cls := findClass_of_methodNamed Bd.named
  have hnm := (name_of_methodNamed Bd.named Bd.method).1
  have X0 : Stand p l e ({ frames := 0, cells := 0, slots := 0, locals := 0 } : Room) s m #[(.int (4 : Int32)), (.int (5 : Int32)), .null] below meth c s₁ [] 0 0 := Stand.of_body Bd
  have e0 : s₁.heap = h0 := by rw [← hh, Bd.state]; rfl
  have N0 := Fr.nil n0
  have G : Gets p e below (s₁.setTop (entryFrame m #[(.int (4 : Int32)), (.int (5 : Int32)), .null] 3)) (s₁.setTop (mkF m 0 #[.val (.int (4 : Int32)), .val (.int (5 : Int32)), .val .null] [])) := fun t k => castTop (ef_13c4 m ) k
  replace G := own_iloadN (q := 1) G X0.here hx (hb hby d13_0) rfl rfl
  have hc1_1 : ¬ ((4 : Int32) < (0 : Int32)) := by decide
  replace G := own_ifNo (q := 4) G X0.here hx (hb hby d13_1) ((if0 _ _).trans (flt hc1_1).1) rfl
  replace G := own_iloadN (q := 5) G X0.here hx (hb hby d13_4) rfl rfl
  replace G := own_iloadN (q := 6) G X0.here hx (hb hby d13_5) rfl rfl
  have hc6_2 : (4 : Int32) < (5 : Int32) := by decide
  replace G := own_icmpYes (q := 16) G X0.here hx (hb hby d13_6) (tlt hc6_2).1 (by decide) (by decide)
  replace G := own_iloadN (q := 17) G X0.here hx (hb hby d13_16) rfl rfl
  obtain ⟨fs, hr, hrun, hended, hW, hsame⟩ := X0.leave (v := some (.int (4 : Int32))) (fun h => by rw [Bd.returns] at h; cases h)
  refine ⟨_, _, G _ (retOut X0 hx Bd.returns rfl (Or.inl ⟨rfl, Or.inl rfl, _, rfl⟩) (hb hby d13_17) hr), hrun, hended, _, _, rfl, ?_, ⟨_, rfl⟩, hW, hsame.mono (by decide) (by decide)⟩
  show Q13c4 Z  h0 n0 _ s₁.heap _
  rw [e0]
  exact ⟨rfl, N0, rfl⟩
theorem ef_12c4 (m : MethodId)  : entryFrame m #[(.int (4 : Int32)), (.int (5 : Int32))] 2 = mkF m 0 #[.val (.int (4 : Int32)), .val (.int (5 : Int32))] [] := by first | (simp [entryFrame, mkF, argsToLocals, Value.category]; done) | rfl
def Q12c4 (Z : State)  (h0 : Heap) (n0 : Nat) (v : Option Value) (h : Heap) (L : List Loc) : Prop := v = some (.int (4 : Int32)) ∧ Fr n0 L ∧ h = h0
set_option maxRecDepth 65536 in
set_option maxHeartbeats 40000000 in
theorem rm12c4 (l : Launch) (Z : State) (a0 : Array Value) (hw : ∀ d ∈ tables_1, d.before a0 Z = true) (ws : List Jvm.Cond)  (h0 : Heap) (n0 : Nat) (Z0 : n0 ≤ h0.size)  :
    MetFree l (⟨"java/util/Objects", "checkIndex", "(II)I"⟩ : MethodName) (head1 (Jvm.Cond.code (⟨"java/util/Objects", "checkIndex", "(II)I"⟩ : MethodName) jdk_31_method_17_code 2 (some .int) :: ws) ({ frames := 1, cells := 0, slots := 0, locals := 14 } : Room)) (fun argz U => argz = #[(.int (4 : Int32)), (.int (5 : Int32))] ∧ Z.Warmed39 U.vm ∧ U.heap = h0) (fun _ _ _ _ _ => True) (fun _ U o U' => ∃ v L, o = .returned v ∧ Q12c4 Z  h0 n0 v U'.heap L ∧ FrameEnd U o U' L ({ frames := 1, cells := 0, slots := 0, locals := 14 } : Room).cells ({ frames := 1, cells := 0, slots := 0, locals := 14 } : Room).slots) := by
  refine MetFree.of_bodySF (plainFor_of_name pn_java_util_Objects) hisR ?_
  intro p e s m args below meth c s₁ Bd hml0 hP hK
  obtain ⟨rfl, hZ, hh⟩ := hP
  have hx := Bd.exec
  have hby := Bd.bytes
  have hml : c.maxLocals = 2 := hml0
  have hown : s.vm.findClass "java/util/Objects" = some m.cls := findClass_of_methodNamed Bd.named
  have hnm := (name_of_methodNamed Bd.named Bd.method).1
  have X0 : Stand p l e ({ frames := 1, cells := 0, slots := 0, locals := 14 } : Room) s m #[(.int (4 : Int32)), (.int (5 : Int32))] below meth c s₁ [] 0 0 := Stand.of_body Bd
  have e0 : s₁.heap = h0 := by rw [← hh, Bd.state]; rfl
  have N0 := Fr.nil n0
  have G : Gets p e below (s₁.setTop (entryFrame m #[(.int (4 : Int32)), (.int (5 : Int32))] 2)) (s₁.setTop (mkF m 0 #[.val (.int (4 : Int32)), .val (.int (5 : Int32))] [])) := fun t k => castTop (ef_12c4 m ) k
  replace G := own_iloadN (q := 1) G X0.here hx (hb hby d12_0) rfl rfl
  replace G := own_iloadN (q := 2) G X0.here hx (hb hby d12_1) rfl rfl
  replace G := own_aconst_null (q := 3) G X0.here hx (hb hby d12_2) rfl
  obtain ⟨_, _, ⟨T1, L1, kk1, nn1⟩, -, X1, ⟨Lc1, hQ1, l1, y1, z1⟩, st1⟩ := Jvm.LawKit.callS X0 hx (y := (⟨"jdk/internal/util/Preconditions", "checkIndex", "(IILjava/util/function/BiFunction;)I"⟩ : MethodName)) hown (mvT hZ (hw _ (List.mem_of_getElem? (i := 68) rfl))) (mvT hZ (hw _ (List.mem_of_getElem? (i := 69) rfl))) (mvT hZ (hw _ (List.mem_of_getElem? (i := 70) rfl))) (mvT hZ (hw _ (List.mem_of_getElem? (i := 71) rfl))) (by decide) (backOf (W := 0) (rm13c4 l Z a0 hw []  h0 n0 Z0 ) hZ (hw _ (List.mem_of_getElem? (i := 71) rfl)) (hw _ (List.mem_of_getElem? (i := 70) rfl)) (by decide) (by decide)) (g := (mkF m 3 #[.val (.int (4 : Int32)), .val (.int (5 : Int32))] [.null, (.int (5 : Int32)), (.int (4 : Int32))])) rfl (by rw [hml]; rfl) (argsL := [(.int (4 : Int32)), (.int (5 : Int32)), .null]) (rest := []) (lenOf pd_6 rfl) rfl (by show 2 * 0 + _ ≤ _; exact Nat.le_of_eq rfl) (hb hby d12_3) (fun _ _ => ⟨rfl, e0, (by decide : 0 + 0 ≤ _), (by decide : 0 + 0 ≤ _)⟩)
  dsimp only [Pt.U, Pt.locs, Pt.cells, Pt.slots] at X1 l1 y1 z1 st1 hQ1
  subst l1 y1 z1
  obtain ⟨rfl, N1q, e1⟩ := hQ1
  have N1 := Fr.app N0 N1q
  replace G : Gets p e below _ (T1.setTop (mkF m 6 #[.val (.int (4 : Int32)), .val (.int (5 : Int32))] [(.int (4 : Int32))])) := fun t k => G t (st1 t k)
  obtain ⟨fs, hr, hrun, hended, hW, hsame⟩ := X1.leave (v := some (.int (4 : Int32))) (fun h => by rw [Bd.returns] at h; cases h)
  refine ⟨_, _, G _ (retOut X1 hx Bd.returns rfl (Or.inl ⟨rfl, Or.inl rfl, _, rfl⟩) (hb hby d12_6) hr), hrun, hended, _, _, rfl, ?_, ⟨_, rfl⟩, hW, hsame.mono (by decide) (by decide)⟩
  show Q12c4 Z  h0 n0 _ T1.heap _
  rw [e1]
  exact ⟨rfl, N1, rfl⟩
theorem ef_11k4 (m : MethodId) (x0 : Addr) : entryFrame m #[(.ref x0), (.int (4 : Int32))] 2 = mkF m 0 #[.val (.ref x0), .val (.int (4 : Int32))] [] := by first | (simp [entryFrame, mkF, argsToLocals, Value.category]; done) | rfl
def Q11k4 (Z : State) (a : Addr) (b : Addr) (h0 : Heap) (n0 : Nat) (v : Option Value) (h : Heap) (L : List Loc) : Prop := v = none ∧ Fr n0 L ∧ Keep h0 h [a] ∧ (Fld Z h a "com/example/leafcutter/leafcutter/io/TextBuffer" "chars" "[C" (.ref b)) ∧ (Fld Z h a "com/example/leafcutter/leafcutter/io/TextBuffer" "length" "I" (.int (4 : Int32))) ∧ (Fld Z h a "com/example/leafcutter/leafcutter/io/TextBuffer" "limit" "I" (.int (2147483639 : Int32))) ∧ (Fld Z h a "com/example/leafcutter/leafcutter/io/TextBuffer" "whenFull" "Ljava/util/function/Consumer;" .null)
set_option maxRecDepth 65536 in
set_option maxHeartbeats 40000000 in
theorem rm11k4 (l : Launch) (Z : State) (a0 : Array Value) (hw : ∀ d ∈ tables_1, d.before a0 Z = true) (ws : List Jvm.Cond) (a : Addr) (b : Addr) (h0 : Heap) (n0 : Nat) (Z0 : n0 ≤ h0.size) (P0 : Fld Z h0 a "com/example/leafcutter/leafcutter/io/TextBuffer" "chars" "[C" (.ref b)) (P1 : Fld Z h0 a "com/example/leafcutter/leafcutter/io/TextBuffer" "length" "I" (.int (4 : Int32))) (P2 : Fld Z h0 a "com/example/leafcutter/leafcutter/io/TextBuffer" "limit" "I" (.int (2147483639 : Int32))) (P3 : Fld Z h0 a "com/example/leafcutter/leafcutter/io/TextBuffer" "whenFull" "Ljava/util/function/Consumer;" .null) (P4 : Exa Z h0 a "com/example/leafcutter/leafcutter/io/TextBuffer") (P5 : n0 ≤ a) :
    MetFree l (⟨"com/example/leafcutter/leafcutter/io/TextBuffer", "truncate", "(I)V"⟩ : MethodName) (head1 (Jvm.Cond.code (⟨"com/example/leafcutter/leafcutter/io/TextBuffer", "truncate", "(I)V"⟩ : MethodName) prog_6_method_12_code 2 none :: ws) ({ frames := 2, cells := 0, slots := 0, locals := 27 } : Room)) (fun argz U => argz = #[(.ref a), (.int (4 : Int32))] ∧ Z.Warmed39 U.vm ∧ U.heap = h0) (fun _ _ _ _ _ => True) (fun _ U o U' => ∃ v L, o = .returned v ∧ Q11k4 Z a b h0 n0 v U'.heap L ∧ FrameEnd U o U' L ({ frames := 2, cells := 0, slots := 0, locals := 27 } : Room).cells ({ frames := 2, cells := 0, slots := 0, locals := 27 } : Room).slots) := by
  refine MetFree.of_bodySF (plainFor_of_name pn_com_example_leafcutter_leafcutter_io_TextBuffer) hisR ?_
  intro p e s m args below meth c s₁ Bd hml0 hP hK
  obtain ⟨rfl, hZ, hh⟩ := hP
  have hx := Bd.exec
  have hby := Bd.bytes
  have hml : c.maxLocals = 2 := hml0
  have hown : s.vm.findClass "com/example/leafcutter/leafcutter/io/TextBuffer" = some m.cls := findClass_of_methodNamed Bd.named
  have hnm := (name_of_methodNamed Bd.named Bd.method).1
  have X0 : Stand p l e ({ frames := 2, cells := 0, slots := 0, locals := 27 } : Room) s m #[(.ref a), (.int (4 : Int32))] below meth c s₁ [] 0 0 := Stand.of_body Bd
  have e0 : s₁.heap = h0 := by rw [← hh, Bd.state]; rfl
  have N0 := Fr.nil n0
  have K0 : Keep h0 h0 [a] := Keep.refl _ _
  have G : Gets p e below (s₁.setTop (entryFrame m #[(.ref a), (.int (4 : Int32))] 2)) (s₁.setTop (mkF m 0 #[.val (.ref a), .val (.int (4 : Int32))] [])) := fun t k => castTop (ef_11k4 m a) k
  replace G := own_iloadN (q := 1) G X0.here hx (hb hby d11_0) rfl rfl
  replace G := own_aloadN (q := 2) G X0.here hx (hb hby d11_1) rfl rfl rfl
  obtain ⟨T1, X1, e1, st1⟩ := getF X0 hx hZ hown (host := "") (Or.inl (hw _ (List.mem_of_getElem? (i := 27) rfl))) Via.refl e0 P1 (g := (mkF m 2 #[.val (.ref a), .val (.int (4 : Int32))] [(.ref a), (.int (4 : Int32))])) rfl rfl (hb hby d11_2)
  replace G : Gets p e below _ (T1.setTop (mkF m 5 #[.val (.ref a), .val (.int (4 : Int32))] [(.int (4 : Int32)), (.int (4 : Int32))])) := fun t k => G t (st1 t k)
  replace G := own_iconst (q := 6) G X1.here hx (hb hby d11_5) (v := (1 : Int32)) (by decide) rfl
  replace G := own_iadd (q := 7) G X1.here hx (hb hby d11_6) (by decide : ((4 : Int32) + (1 : Int32)) = (5 : Int32)) rfl
  obtain ⟨_, _, ⟨T2, L2, kk2, nn2⟩, -, X2, ⟨Lc2, hQ2, l2, y2, z2⟩, st2⟩ := Jvm.LawKit.callS X1 hx (y := (⟨"java/util/Objects", "checkIndex", "(II)I"⟩ : MethodName)) hown (mvT hZ (hw _ (List.mem_of_getElem? (i := 64) rfl))) (mvT hZ (hw _ (List.mem_of_getElem? (i := 65) rfl))) (mvT hZ (hw _ (List.mem_of_getElem? (i := 66) rfl))) (mvT hZ (hw _ (List.mem_of_getElem? (i := 67) rfl))) (by decide) (backOf (W := 0) (rm12c4 l Z a0 hw []  h0 n0 Z0 ) hZ (hw _ (List.mem_of_getElem? (i := 67) rfl)) (hw _ (List.mem_of_getElem? (i := 66) rfl)) (by decide) (by decide)) (g := (mkF m 7 #[.val (.ref a), .val (.int (4 : Int32))] [(.int (5 : Int32)), (.int (4 : Int32))])) rfl (by rw [hml]; rfl) (argsL := [(.int (4 : Int32)), (.int (5 : Int32))]) (rest := []) (lenOf pd_1 rfl) rfl (by show 2 * 0 + _ ≤ _; exact Nat.le_of_eq rfl) (hb hby d11_7) (fun _ _ => ⟨rfl, e1, (by decide : 0 + 0 ≤ _), (by decide : 0 + 0 ≤ _)⟩)
  dsimp only [Pt.U, Pt.locs, Pt.cells, Pt.slots] at X2 l2 y2 z2 st2 hQ2
  subst l2 y2 z2
  obtain ⟨rfl, N2q, e2⟩ := hQ2
  have N2 := Fr.app N0 N2q
  replace G : Gets p e below _ (T2.setTop (mkF m 10 #[.val (.ref a), .val (.int (4 : Int32))] [(.int (4 : Int32))])) := fun t k => G t (st2 t k)
  replace G := own_pop (q := 11) G X2.here hx (hb hby d11_10) rfl rfl
  replace G := own_aloadN (q := 12) G X2.here hx (hb hby d11_11) rfl rfl rfl
  replace G := own_iloadN (q := 13) G X2.here hx (hb hby d11_12) rfl rfl
  obtain ⟨T3, h3, X3, e3, W3, st3⟩ := putF X2 hx hZ hown (host := "") (Or.inl (hw _ (List.mem_of_getElem? (i := 27) rfl))) Via.refl e2 P1 P4 (Or.inl (hw _ (List.mem_of_getElem? (i := 28) rfl))) (hw _ (List.mem_of_getElem? (i := 2) rfl)) (ty := .int) (by decide) rfl rfl (g := (mkF m 13 #[.val (.ref a), .val (.int (4 : Int32))] [(.int (4 : Int32)), (.ref a)])) rfl rfl (hb hby d11_13)
  have N3 := Fr.snoc X3 N2 P5
  have Z3 : n0 ≤ h3.size := Nat.le_trans Z0 (Keep.of_wr W3).1
  have K3 : Keep h0 h3 [a] := K0.wr W3 (Or.inl (List.mem_of_getElem? (i := 0) rfl))
  have F3 : Fld Z h3 a "com/example/leafcutter/leafcutter/io/TextBuffer" "length" "I" (.int (4 : Int32)) := P1.same W3
  replace G : Gets p e below _ (T3.setTop (mkF m 16 #[.val (.ref a), .val (.int (4 : Int32))] [])) := fun t k => G t (st3 t k)
  obtain ⟨fs, hr, hrun, hended, hW, hsame⟩ := X3.leave (v := none) (fun _ => rfl)
  refine ⟨_, _, G _ (X3.returnOut hx Bd.returns (hb hby d11_16) hr), hrun, hended, _, _, rfl, ?_, ⟨_, rfl⟩, hW, hsame.mono (by decide) (by decide)⟩
  have F4 : Fld Z h3 a "com/example/leafcutter/leafcutter/io/TextBuffer" "chars" "[C" (.ref b) := (P0.other W3 (Or.inr (slot_ne (Or.inl (hw _ (List.mem_of_getElem? (i := 17) rfl))) (Or.inl (hw _ (List.mem_of_getElem? (i := 28) rfl))) (by decide) (t := (.array .char)) (t' := .int) (by decide) (by decide))))
  have F5 : Fld Z h3 a "com/example/leafcutter/leafcutter/io/TextBuffer" "limit" "I" (.int (2147483639 : Int32)) := (P2.other W3 (Or.inr (slot_ne (Or.inr (hw _ (List.mem_of_getElem? (i := 19) rfl))) (Or.inl (hw _ (List.mem_of_getElem? (i := 28) rfl))) (by decide) (t := .int) (t' := .int) (by decide) (by decide))))
  have F6 : Fld Z h3 a "com/example/leafcutter/leafcutter/io/TextBuffer" "whenFull" "Ljava/util/function/Consumer;" .null := (P3.other W3 (Or.inr (slot_ne (Or.inr (hw _ (List.mem_of_getElem? (i := 21) rfl))) (Or.inl (hw _ (List.mem_of_getElem? (i := 28) rfl))) (by decide) (t := (.object "java/util/function/Consumer")) (t' := .int) (by decide) (by decide))))
  show Q11k4 Z a b h0 n0 _ T3.heap _
  rw [e3]
  exact ⟨rfl, N3, K3, F4, F3, F5, F6⟩
theorem d14_0 : decode prog_6_method_16_code 0 = .ok (.iconst 0, 1) := by decide +kernel
theorem d14_1 : decode prog_6_method_16_code 1 = .ok (.istore_n 1, 1) := by decide +kernel
theorem d14_2 : decode prog_6_method_16_code 2 = .ok (.iconst 0, 1) := by decide +kernel
theorem d14_3 : decode prog_6_method_16_code 3 = .ok (.istore_n 2, 1) := by decide +kernel
theorem d14_4 : decode prog_6_method_16_code 4 = .ok (.iload_n 2, 1) := by decide +kernel
theorem d14_5 : decode prog_6_method_16_code 5 = .ok (.aload_n 0, 1) := by decide +kernel
theorem d14_6 : decode prog_6_method_16_code 6 = .ok (.getfield 39, 3) := by decide +kernel
theorem d14_9 : decode prog_6_method_16_code 9 = .ok (.if_icmp .ge 21, 3) := by decide +kernel
theorem d14_30 : decode prog_6_method_16_code 30 = .ok (.iload_n 1, 1) := by decide +kernel
theorem d14_31 : decode prog_6_method_16_code 31 = .ok (.ireturn, 1) := by decide +kernel
theorem ef_14k0 (m : MethodId) (x0 : Addr) : entryFrame m #[(.ref x0)] 3 = mkF m 0 #[.val (.ref x0), .unset, .unset] [] := by first | (simp [entryFrame, mkF, argsToLocals, Value.category]; done) | rfl
def Q14k0 (Z : State) (a : Addr) (b : Addr) (kb : ClassId) (ec0 : Int32) (ec1 : Int32) (ec2 : Int32) (ec3 : Int32) (h0 : Heap) (n0 : Nat) (v : Option Value) (h : Heap) (L : List Loc) : Prop := v = some (.int (0 : Int32)) ∧ Fr n0 L ∧ h = h0
set_option maxRecDepth 65536 in
set_option maxHeartbeats 40000000 in
theorem rm14k0 (l : Launch) (Z : State) (a0 : Array Value) (hw : ∀ d ∈ tables_1, d.before a0 Z = true) (ws : List Jvm.Cond) (a : Addr) (b : Addr) (kb : ClassId) (ec0 : Int32) (ec1 : Int32) (ec2 : Int32) (ec3 : Int32) (h0 : Heap) (n0 : Nat) (Z0 : n0 ≤ h0.size) (P0 : Fld Z h0 a "com/example/leafcutter/leafcutter/io/TextBuffer" "chars" "[C" (.ref b)) (P1 : Fld Z h0 a "com/example/leafcutter/leafcutter/io/TextBuffer" "length" "I" (.int (0 : Int32))) (P2 : Arv Z h0 b kb .char (16 : Int32) [(.int ec0), (.int ec1), (.int ec2), (.int ec3), (.int (0 : Int32)), (.int (0 : Int32)), (.int (0 : Int32)), (.int (0 : Int32)), (.int (0 : Int32)), (.int (0 : Int32)), (.int (0 : Int32)), (.int (0 : Int32)), (.int (0 : Int32)), (.int (0 : Int32)), (.int (0 : Int32)), (.int (0 : Int32))] (.int (0 : Int32))) :
    MetFree l (⟨"com/example/leafcutter/leafcutter/io/TextBuffer", "contentHash", "()I"⟩ : MethodName) (head1 (Jvm.Cond.code (⟨"com/example/leafcutter/leafcutter/io/TextBuffer", "contentHash", "()I"⟩ : MethodName) prog_6_method_16_code 3 (some .int) :: ws) ({ frames := 0, cells := 0, slots := 0, locals := 0 } : Room)) (fun argz U => argz = #[(.ref a)] ∧ Z.Warmed39 U.vm ∧ U.heap = h0) (fun _ _ _ _ _ => True) (fun _ U o U' => ∃ v L, o = .returned v ∧ Q14k0 Z a b kb ec0 ec1 ec2 ec3 h0 n0 v U'.heap L ∧ FrameEnd U o U' L ({ frames := 0, cells := 0, slots := 0, locals := 0 } : Room).cells ({ frames := 0, cells := 0, slots := 0, locals := 0 } : Room).slots) := by
  refine MetFree.of_bodySF (plainFor_of_name pn_com_example_leafcutter_leafcutter_io_TextBuffer) hisR ?_
  intro p e s m args below meth c s₁ Bd hml0 hP hK
  obtain ⟨rfl, hZ, hh⟩ := hP
  have hx := Bd.exec
  have hby := Bd.bytes
  have hml : c.maxLocals = 3 := hml0
  have hown : s.vm.findClass "com/example/leafcutter/leafcutter/io/TextBuffer" = some m.cls := findClass_of_methodNamed Bd.named
  have hnm := (name_of_methodNamed Bd.named Bd.method).1
  have X0 : Stand p l e ({ frames := 0, cells := 0, slots := 0, locals := 0 } : Room) s m #[(.ref a)] below meth c s₁ [] 0 0 := Stand.of_body Bd
  have e0 : s₁.heap = h0 := by rw [← hh, Bd.state]; rfl
  have N0 := Fr.nil n0
  have G : Gets p e below (s₁.setTop (entryFrame m #[(.ref a)] 3)) (s₁.setTop (mkF m 0 #[.val (.ref a), .unset, .unset] [])) := fun t k => castTop (ef_14k0 m a) k
  replace G := own_iconst (q := 1) G X0.here hx (hb hby d14_0) (v := (0 : Int32)) (by decide) rfl
  replace G := own_istoreN (q := 2) (l' := #[.val (.ref a), .val (.int (0 : Int32)), .unset]) G X0.here hx (hb hby d14_1) rfl rfl
  replace G := own_iconst (q := 3) G X0.here hx (hb hby d14_2) (v := (0 : Int32)) (by decide) rfl
  replace G := own_istoreN (q := 4) (l' := #[.val (.ref a), .val (.int (0 : Int32)), .val (.int (0 : Int32))]) G X0.here hx (hb hby d14_3) rfl rfl
  replace G := own_iloadN (q := 5) G X0.here hx (hb hby d14_4) rfl rfl
  replace G := own_aloadN (q := 6) G X0.here hx (hb hby d14_5) rfl rfl rfl
  obtain ⟨T1, X1, e1, st1⟩ := getF X0 hx hZ hown (host := "") (Or.inl (hw _ (List.mem_of_getElem? (i := 27) rfl))) Via.refl e0 P1 (g := (mkF m 6 #[.val (.ref a), .val (.int (0 : Int32)), .val (.int (0 : Int32))] [(.ref a), (.int (0 : Int32))])) rfl rfl (hb hby d14_6)
  replace G : Gets p e below _ (T1.setTop (mkF m 9 #[.val (.ref a), .val (.int (0 : Int32)), .val (.int (0 : Int32))] [(.int (0 : Int32)), (.int (0 : Int32))])) := fun t k => G t (st1 t k)
  have hc9_2 : ¬ ((0 : Int32) < (0 : Int32)) := by decide
  replace G := own_icmpYes (q := 30) G X1.here hx (hb hby d14_9) (flt hc9_2).2.1 (by decide) (by decide)
  replace G := own_iloadN (q := 31) G X1.here hx (hb hby d14_30) rfl rfl
  obtain ⟨fs, hr, hrun, hended, hW, hsame⟩ := X1.leave (v := some (.int (0 : Int32))) (fun h => by rw [Bd.returns] at h; cases h)
  refine ⟨_, _, G _ (retOut X1 hx Bd.returns rfl (Or.inl ⟨rfl, Or.inl rfl, _, rfl⟩) (hb hby d14_31) hr), hrun, hended, _, _, rfl, ?_, ⟨_, rfl⟩, hW, hsame.mono (by decide) (by decide)⟩
  show Q14k0 Z a b kb ec0 ec1 ec2 ec3 h0 n0 _ T1.heap _
  rw [e1]
  exact ⟨rfl, N0, rfl⟩
theorem d14_12 : decode prog_6_method_16_code 12 = .ok (.bipush 31, 2) := by decide +kernel
theorem d14_14 : decode prog_6_method_16_code 14 = .ok (.iload_n 1, 1) := by decide +kernel
theorem d14_15 : decode prog_6_method_16_code 15 = .ok (.imul, 1) := by decide +kernel
theorem d14_16 : decode prog_6_method_16_code 16 = .ok (.aload_n 0, 1) := by decide +kernel
theorem d14_17 : decode prog_6_method_16_code 17 = .ok (.getfield 19, 3) := by decide +kernel
theorem d14_20 : decode prog_6_method_16_code 20 = .ok (.iload_n 2, 1) := by decide +kernel
theorem d14_21 : decode prog_6_method_16_code 21 = .ok (.caload, 1) := by decide +kernel
theorem d14_22 : decode prog_6_method_16_code 22 = .ok (.iadd, 1) := by decide +kernel
theorem d14_23 : decode prog_6_method_16_code 23 = .ok (.istore_n 1, 1) := by decide +kernel
theorem d14_24 : decode prog_6_method_16_code 24 = .ok (.iinc 2 1, 3) := by decide +kernel
theorem d14_27 : decode prog_6_method_16_code 27 = .ok (.goto (-23), 3) := by decide +kernel
theorem ef_14k1 (m : MethodId) (x0 : Addr) : entryFrame m #[(.ref x0)] 3 = mkF m 0 #[.val (.ref x0), .unset, .unset] [] := by first | (simp [entryFrame, mkF, argsToLocals, Value.category]; done) | rfl
def Q14k1 (Z : State) (a : Addr) (b : Addr) (kb : ClassId) (ec0 : Int32) (ec1 : Int32) (ec2 : Int32) (ec3 : Int32) (h0 : Heap) (n0 : Nat) (v : Option Value) (h : Heap) (L : List Loc) : Prop := v = some (.int ((0 : Int32) + ec0)) ∧ Fr n0 L ∧ h = h0
set_option maxRecDepth 65536 in
set_option maxHeartbeats 40000000 in
theorem rm14k1 (l : Launch) (Z : State) (a0 : Array Value) (hw : ∀ d ∈ tables_1, d.before a0 Z = true) (ws : List Jvm.Cond) (a : Addr) (b : Addr) (kb : ClassId) (ec0 : Int32) (ec1 : Int32) (ec2 : Int32) (ec3 : Int32) (h0 : Heap) (n0 : Nat) (Z0 : n0 ≤ h0.size) (P0 : Fld Z h0 a "com/example/leafcutter/leafcutter/io/TextBuffer" "chars" "[C" (.ref b)) (P1 : Fld Z h0 a "com/example/leafcutter/leafcutter/io/TextBuffer" "length" "I" (.int (1 : Int32))) (P2 : Arv Z h0 b kb .char (16 : Int32) [(.int ec0), (.int ec1), (.int ec2), (.int ec3), (.int (0 : Int32)), (.int (0 : Int32)), (.int (0 : Int32)), (.int (0 : Int32)), (.int (0 : Int32)), (.int (0 : Int32)), (.int (0 : Int32)), (.int (0 : Int32)), (.int (0 : Int32)), (.int (0 : Int32)), (.int (0 : Int32)), (.int (0 : Int32))] (.int (0 : Int32))) :
    MetFree l (⟨"com/example/leafcutter/leafcutter/io/TextBuffer", "contentHash", "()I"⟩ : MethodName) (head1 (Jvm.Cond.code (⟨"com/example/leafcutter/leafcutter/io/TextBuffer", "contentHash", "()I"⟩ : MethodName) prog_6_method_16_code 3 (some .int) :: ws) ({ frames := 0, cells := 0, slots := 0, locals := 0 } : Room)) (fun argz U => argz = #[(.ref a)] ∧ Z.Warmed39 U.vm ∧ U.heap = h0) (fun _ _ _ _ _ => True) (fun _ U o U' => ∃ v L, o = .returned v ∧ Q14k1 Z a b kb ec0 ec1 ec2 ec3 h0 n0 v U'.heap L ∧ FrameEnd U o U' L ({ frames := 0, cells := 0, slots := 0, locals := 0 } : Room).cells ({ frames := 0, cells := 0, slots := 0, locals := 0 } : Room).slots) := by
  refine MetFree.of_bodySF (plainFor_of_name pn_com_example_leafcutter_leafcutter_io_TextBuffer) hisR ?_
  intro p e s m args below meth c s₁ Bd hml0 hP hK
  obtain ⟨rfl, hZ, hh⟩ := hP
  have hx := Bd.exec
  have hby := Bd.bytes
  have hml : c.maxLocals = 3 := hml0
  have hown : s.vm.findClass "com/example/leafcutter/leafcutter/io/TextBuffer" = some m.cls := findClass_of_methodNamed Bd.named
  have hnm := (name_of_methodNamed Bd.named Bd.method).1
  have X0 : Stand p l e ({ frames := 0, cells := 0, slots := 0, locals := 0 } : Room) s m #[(.ref a)] below meth c s₁ [] 0 0 := Stand.of_body Bd
  have e0 : s₁.heap = h0 := by rw [← hh, Bd.state]; rfl
  have N0 := Fr.nil n0
  have G : Gets p e below (s₁.setTop (entryFrame m #[(.ref a)] 3)) (s₁.setTop (mkF m 0 #[.val (.ref a), .unset, .unset] [])) := fun t k => castTop (ef_14k1 m a) k
  replace G := own_iconst (q := 1) G X0.here hx (hb hby d14_0) (v := (0 : Int32)) (by decide) rfl
  replace G := own_istoreN (q := 2) (l' := #[.val (.ref a), .val (.int (0 : Int32)), .unset]) G X0.here hx (hb hby d14_1) rfl rfl
  replace G := own_iconst (q := 3) G X0.here hx (hb hby d14_2) (v := (0 : Int32)) (by decide) rfl
  replace G := own_istoreN (q := 4) (l' := #[.val (.ref a), .val (.int (0 : Int32)), .val (.int (0 : Int32))]) G X0.here hx (hb hby d14_3) rfl rfl
  replace G := own_iloadN (q := 5) G X0.here hx (hb hby d14_4) rfl rfl
  replace G := own_aloadN (q := 6) G X0.here hx (hb hby d14_5) rfl rfl rfl
  obtain ⟨T1, X1, e1, st1⟩ := getF X0 hx hZ hown (host := "") (Or.inl (hw _ (List.mem_of_getElem? (i := 27) rfl))) Via.refl e0 P1 (g := (mkF m 6 #[.val (.ref a), .val (.int (0 : Int32)), .val (.int (0 : Int32))] [(.ref a), (.int (0 : Int32))])) rfl rfl (hb hby d14_6)
  replace G : Gets p e below _ (T1.setTop (mkF m 9 #[.val (.ref a), .val (.int (0 : Int32)), .val (.int (0 : Int32))] [(.int (1 : Int32)), (.int (0 : Int32))])) := fun t k => G t (st1 t k)
  have hc9_2 : (0 : Int32) < (1 : Int32) := by decide
  replace G := own_icmpNo (q := 12) G X1.here hx (hb hby d14_9) (tlt hc9_2).2.1 rfl
  replace G := own_bipush (q := 14) G X1.here hx (hb hby d14_12) (v := (31 : Int32)) (by decide) rfl
  replace G := own_iloadN (q := 15) G X1.here hx (hb hby d14_14) rfl rfl
  replace G := own_imul (q := 16) G X1.here hx (hb hby d14_15) (by decide : ((31 : Int32) * (0 : Int32)) = (0 : Int32)) rfl
  replace G := own_aloadN (q := 17) G X1.here hx (hb hby d14_16) rfl rfl rfl
  obtain ⟨T3, X3, e3, st3⟩ := getF X1 hx hZ hown (host := "") (Or.inl (hw _ (List.mem_of_getElem? (i := 16) rfl))) Via.refl e1 P0 (g := (mkF m 17 #[.val (.ref a), .val (.int (0 : Int32)), .val (.int (0 : Int32))] [(.ref a), (.int (0 : Int32))])) rfl rfl (hb hby d14_17)
  replace G : Gets p e below _ (T3.setTop (mkF m 20 #[.val (.ref a), .val (.int (0 : Int32)), .val (.int (0 : Int32))] [(.ref b), (.int (0 : Int32))])) := fun t k => G t (st3 t k)
  replace G := own_iloadN (q := 21) G X3.here hx (hb hby d14_20) rfl rfl
  obtain ⟨c4, Ar4, -, S4, -, H4, -⟩ := id P2
  have hin4 : ¬ ((0 : Int32) < 0 ∨ c4.slots.size ≤ ((0 : Int32)).toNatClampNeg) := inb_of S4 ⟨by decide, by decide⟩
  replace G : Gets p e below _ (T3.setTop (mkF m 22 #[.val (.ref a), .val (.int (0 : Int32)), .val (.int (0 : Int32))] [(.int ec0), (.int (0 : Int32))])) := fun t k => G t (X3.caload hx (j := (0 : Int32)) (v := (.int ec0)) (by rw [e3]; exact Ar4.1) (State.isArrayOf_alike hZ.alike Ar4.2.1) Ar4.2.2 hin4 (Has.at H4 hin4 rfl) (g := (mkF m 21 #[.val (.ref a), .val (.int (0 : Int32)), .val (.int (0 : Int32))] [(.int (0 : Int32)), (.ref b), (.int (0 : Int32))])) rfl rfl (hb hby d14_21) t k)
  replace G := own_iadd (q := 23) G X3.here hx (hb hby d14_22) rfl rfl
  replace G := own_istoreN (q := 24) (l' := #[.val (.ref a), .val (.int ((0 : Int32) + ec0)), .val (.int (0 : Int32))]) G X3.here hx (hb hby d14_23) rfl rfl
  replace G := own_iinc (q := 27) (l' := #[.val (.ref a), .val (.int ((0 : Int32) + ec0)), .val (.int (1 : Int32))]) (w := (1 : Int32)) G X3.here hx (hb hby d14_24) (by decide) rfl (by decide : ((0 : Int32) + (1 : Int32)) = (1 : Int32)) rfl rfl
  replace G := own_goto (q := 4) G X3.here hx (hb hby d14_27) (by decide) (by decide)
  replace G := own_iloadN (q := 5) G X3.here hx (hb hby d14_4) rfl rfl
  replace G := own_aloadN (q := 6) G X3.here hx (hb hby d14_5) rfl rfl rfl
  obtain ⟨T5, X5, e5, st5⟩ := getF X3 hx hZ hown (host := "") (Or.inl (hw _ (List.mem_of_getElem? (i := 27) rfl))) Via.refl e3 P1 (g := (mkF m 6 #[.val (.ref a), .val (.int ((0 : Int32) + ec0)), .val (.int (1 : Int32))] [(.ref a), (.int (1 : Int32))])) rfl rfl (hb hby d14_6)
  replace G : Gets p e below _ (T5.setTop (mkF m 9 #[.val (.ref a), .val (.int ((0 : Int32) + ec0)), .val (.int (1 : Int32))] [(.int (1 : Int32)), (.int (1 : Int32))])) := fun t k => G t (st5 t k)
  have hc9_6 : ¬ ((1 : Int32) < (1 : Int32)) := by decide
  replace G := own_icmpYes (q := 30) G X5.here hx (hb hby d14_9) (flt hc9_6).2.1 (by decide) (by decide)
  replace G := own_iloadN (q := 31) G X5.here hx (hb hby d14_30) rfl rfl
  obtain ⟨fs, hr, hrun, hended, hW, hsame⟩ := X5.leave (v := some (.int ((0 : Int32) + ec0))) (fun h => by rw [Bd.returns] at h; cases h)
  refine ⟨_, _, G _ (retOut X5 hx Bd.returns rfl (Or.inl ⟨rfl, Or.inl rfl, _, rfl⟩) (hb hby d14_31) hr), hrun, hended, _, _, rfl, ?_, ⟨_, rfl⟩, hW, hsame.mono (by decide) (by decide)⟩
  show Q14k1 Z a b kb ec0 ec1 ec2 ec3 h0 n0 _ T5.heap _
  rw [e5]
  exact ⟨rfl, N0, rfl⟩
theorem ef_14k2 (m : MethodId) (x0 : Addr) : entryFrame m #[(.ref x0)] 3 = mkF m 0 #[.val (.ref x0), .unset, .unset] [] := by first | (simp [entryFrame, mkF, argsToLocals, Value.category]; done) | rfl
def Q14k2 (Z : State) (a : Addr) (b : Addr) (kb : ClassId) (ec0 : Int32) (ec1 : Int32) (ec2 : Int32) (ec3 : Int32) (h0 : Heap) (n0 : Nat) (v : Option Value) (h : Heap) (L : List Loc) : Prop := v = some (.int (((31 : Int32) * ((0 : Int32) + ec0)) + ec1)) ∧ Fr n0 L ∧ h = h0
set_option maxRecDepth 65536 in
set_option maxHeartbeats 40000000 in
theorem rm14k2 (l : Launch) (Z : State) (a0 : Array Value) (hw : ∀ d ∈ tables_1, d.before a0 Z = true) (ws : List Jvm.Cond) (a : Addr) (b : Addr) (kb : ClassId) (ec0 : Int32) (ec1 : Int32) (ec2 : Int32) (ec3 : Int32) (h0 : Heap) (n0 : Nat) (Z0 : n0 ≤ h0.size) (P0 : Fld Z h0 a "com/example/leafcutter/leafcutter/io/TextBuffer" "chars" "[C" (.ref b)) (P1 : Fld Z h0 a "com/example/leafcutter/leafcutter/io/TextBuffer" "length" "I" (.int (2 : Int32))) (P2 : Arv Z h0 b kb .char (16 : Int32) [(.int ec0), (.int ec1), (.int ec2), (.int ec3), (.int (0 : Int32)), (.int (0 : Int32)), (.int (0 : Int32)), (.int (0 : Int32)), (.int (0 : Int32)), (.int (0 : Int32)), (.int (0 : Int32)), (.int (0 : Int32)), (.int (0 : Int32)), (.int (0 : Int32)), (.int (0 : Int32)), (.int (0 : Int32))] (.int (0 : Int32))) :
    MetFree l (⟨"com/example/leafcutter/leafcutter/io/TextBuffer", "contentHash", "()I"⟩ : MethodName) (head1 (Jvm.Cond.code (⟨"com/example/leafcutter/leafcutter/io/TextBuffer", "contentHash", "()I"⟩ : MethodName) prog_6_method_16_code 3 (some .int) :: ws) ({ frames := 0, cells := 0, slots := 0, locals := 0 } : Room)) (fun argz U => argz = #[(.ref a)] ∧ Z.Warmed39 U.vm ∧ U.heap = h0) (fun _ _ _ _ _ => True) (fun _ U o U' => ∃ v L, o = .returned v ∧ Q14k2 Z a b kb ec0 ec1 ec2 ec3 h0 n0 v U'.heap L ∧ FrameEnd U o U' L ({ frames := 0, cells := 0, slots := 0, locals := 0 } : Room).cells ({ frames := 0, cells := 0, slots := 0, locals := 0 } : Room).slots) := by
  refine MetFree.of_bodySF (plainFor_of_name pn_com_example_leafcutter_leafcutter_io_TextBuffer) hisR ?_
  intro p e s m args below meth c s₁ Bd hml0 hP hK
  obtain ⟨rfl, hZ, hh⟩ := hP
  have hx := Bd.exec
  have hby := Bd.bytes
  have hml : c.maxLocals = 3 := hml0
  have hown : s.vm.findClass "com/example/leafcutter/leafcutter/io/TextBuffer" = some m.cls := findClass_of_methodNamed Bd.named
  have hnm := (name_of_methodNamed Bd.named Bd.method).1
  have X0 : Stand p l e ({ frames := 0, cells := 0, slots := 0, locals := 0 } : Room) s m #[(.ref a)] below meth c s₁ [] 0 0 := Stand.of_body Bd
  have e0 : s₁.heap = h0 := by rw [← hh, Bd.state]; rfl
  have N0 := Fr.nil n0
  have G : Gets p e below (s₁.setTop (entryFrame m #[(.ref a)] 3)) (s₁.setTop (mkF m 0 #[.val (.ref a), .unset, .unset] [])) := fun t k => castTop (ef_14k2 m a) k
  replace G := own_iconst (q := 1) G X0.here hx (hb hby d14_0) (v := (0 : Int32)) (by decide) rfl
  replace G := own_istoreN (q := 2) (l' := #[.val (.ref a), .val (.int (0 : Int32)), .unset]) G X0.here hx (hb hby d14_1) rfl rfl
  replace G := own_iconst (q := 3) G X0.here hx (hb hby d14_2) (v := (0 : Int32)) (by decide) rfl
  replace G := own_istoreN (q := 4) (l' := #[.val (.ref a), .val (.int (0 : Int32)), .val (.int (0 : Int32))]) G X0.here hx (hb hby d14_3) rfl rfl
  replace G := own_iloadN (q := 5) G X0.here hx (hb hby d14_4) rfl rfl
  replace G := own_aloadN (q := 6) G X0.here hx (hb hby d14_5) rfl rfl rfl
  obtain ⟨T1, X1, e1, st1⟩ := getF X0 hx hZ hown (host := "") (Or.inl (hw _ (List.mem_of_getElem? (i := 27) rfl))) Via.refl e0 P1 (g := (mkF m 6 #[.val (.ref a), .val (.int (0 : Int32)), .val (.int (0 : Int32))] [(.ref a), (.int (0 : Int32))])) rfl rfl (hb hby d14_6)
  replace G : Gets p e below _ (T1.setTop (mkF m 9 #[.val (.ref a), .val (.int (0 : Int32)), .val (.int (0 : Int32))] [(.int (2 : Int32)), (.int (0 : Int32))])) := fun t k => G t (st1 t k)
  have hc9_2 : (0 : Int32) < (2 : Int32) := by decide
  replace G := own_icmpNo (q := 12) G X1.here hx (hb hby d14_9) (tlt hc9_2).2.1 rfl
  replace G := own_bipush (q := 14) G X1.here hx (hb hby d14_12) (v := (31 : Int32)) (by decide) rfl
  replace G := own_iloadN (q := 15) G X1.here hx (hb hby d14_14) rfl rfl
  replace G := own_imul (q := 16) G X1.here hx (hb hby d14_15) (by decide : ((31 : Int32) * (0 : Int32)) = (0 : Int32)) rfl
  replace G := own_aloadN (q := 17) G X1.here hx (hb hby d14_16) rfl rfl rfl
  obtain ⟨T3, X3, e3, st3⟩ := getF X1 hx hZ hown (host := "") (Or.inl (hw _ (List.mem_of_getElem? (i := 16) rfl))) Via.refl e1 P0 (g := (mkF m 17 #[.val (.ref a), .val (.int (0 : Int32)), .val (.int (0 : Int32))] [(.ref a), (.int (0 : Int32))])) rfl rfl (hb hby d14_17)
  replace G : Gets p e below _ (T3.setTop (mkF m 20 #[.val (.ref a), .val (.int (0 : Int32)), .val (.int (0 : Int32))] [(.ref b), (.int (0 : Int32))])) := fun t k => G t (st3 t k)
  replace G := own_iloadN (q := 21) G X3.here hx (hb hby d14_20) rfl rfl
  obtain ⟨c4, Ar4, -, S4, -, H4, -⟩ := id P2
  have hin4 : ¬ ((0 : Int32) < 0 ∨ c4.slots.size ≤ ((0 : Int32)).toNatClampNeg) := inb_of S4 ⟨by decide, by decide⟩
  replace G : Gets p e below _ (T3.setTop (mkF m 22 #[.val (.ref a), .val (.int (0 : Int32)), .val (.int (0 : Int32))] [(.int ec0), (.int (0 : Int32))])) := fun t k => G t (X3.caload hx (j := (0 : Int32)) (v := (.int ec0)) (by rw [e3]; exact Ar4.1) (State.isArrayOf_alike hZ.alike Ar4.2.1) Ar4.2.2 hin4 (Has.at H4 hin4 rfl) (g := (mkF m 21 #[.val (.ref a), .val (.int (0 : Int32)), .val (.int (0 : Int32))] [(.int (0 : Int32)), (.ref b), (.int (0 : Int32))])) rfl rfl (hb hby d14_21) t k)
  replace G := own_iadd (q := 23) G X3.here hx (hb hby d14_22) rfl rfl
  replace G := own_istoreN (q := 24) (l' := #[.val (.ref a), .val (.int ((0 : Int32) + ec0)), .val (.int (0 : Int32))]) G X3.here hx (hb hby d14_23) rfl rfl
  replace G := own_iinc (q := 27) (l' := #[.val (.ref a), .val (.int ((0 : Int32) + ec0)), .val (.int (1 : Int32))]) (w := (1 : Int32)) G X3.here hx (hb hby d14_24) (by decide) rfl (by decide : ((0 : Int32) + (1 : Int32)) = (1 : Int32)) rfl rfl
  replace G := own_goto (q := 4) G X3.here hx (hb hby d14_27) (by decide) (by decide)
  replace G := own_iloadN (q := 5) G X3.here hx (hb hby d14_4) rfl rfl
  replace G := own_aloadN (q := 6) G X3.here hx (hb hby d14_5) rfl rfl rfl
  obtain ⟨T5, X5, e5, st5⟩ := getF X3 hx hZ hown (host := "") (Or.inl (hw _ (List.mem_of_getElem? (i := 27) rfl))) Via.refl e3 P1 (g := (mkF m 6 #[.val (.ref a), .val (.int ((0 : Int32) + ec0)), .val (.int (1 : Int32))] [(.ref a), (.int (1 : Int32))])) rfl rfl (hb hby d14_6)
  replace G : Gets p e below _ (T5.setTop (mkF m 9 #[.val (.ref a), .val (.int ((0 : Int32) + ec0)), .val (.int (1 : Int32))] [(.int (2 : Int32)), (.int (1 : Int32))])) := fun t k => G t (st5 t k)
  have hc9_6 : (1 : Int32) < (2 : Int32) := by decide
  replace G := own_icmpNo (q := 12) G X5.here hx (hb hby d14_9) (tlt hc9_6).2.1 rfl
  replace G := own_bipush (q := 14) G X5.here hx (hb hby d14_12) (v := (31 : Int32)) (by decide) rfl
  replace G := own_iloadN (q := 15) G X5.here hx (hb hby d14_14) rfl rfl
  replace G := own_imul (q := 16) G X5.here hx (hb hby d14_15) rfl rfl
  replace G := own_aloadN (q := 17) G X5.here hx (hb hby d14_16) rfl rfl rfl
  obtain ⟨T7, X7, e7, st7⟩ := getF X5 hx hZ hown (host := "") (Or.inl (hw _ (List.mem_of_getElem? (i := 16) rfl))) Via.refl e5 P0 (g := (mkF m 17 #[.val (.ref a), .val (.int ((0 : Int32) + ec0)), .val (.int (1 : Int32))] [(.ref a), (.int ((31 : Int32) * ((0 : Int32) + ec0)))])) rfl rfl (hb hby d14_17)
  replace G : Gets p e below _ (T7.setTop (mkF m 20 #[.val (.ref a), .val (.int ((0 : Int32) + ec0)), .val (.int (1 : Int32))] [(.ref b), (.int ((31 : Int32) * ((0 : Int32) + ec0)))])) := fun t k => G t (st7 t k)
  replace G := own_iloadN (q := 21) G X7.here hx (hb hby d14_20) rfl rfl
  obtain ⟨c8, Ar8, -, S8, -, H8, -⟩ := id P2
  have hin8 : ¬ ((1 : Int32) < 0 ∨ c8.slots.size ≤ ((1 : Int32)).toNatClampNeg) := inb_of S8 ⟨by decide, by decide⟩
  replace G : Gets p e below _ (T7.setTop (mkF m 22 #[.val (.ref a), .val (.int ((0 : Int32) + ec0)), .val (.int (1 : Int32))] [(.int ec1), (.int ((31 : Int32) * ((0 : Int32) + ec0)))])) := fun t k => G t (X7.caload hx (j := (1 : Int32)) (v := (.int ec1)) (by rw [e7]; exact Ar8.1) (State.isArrayOf_alike hZ.alike Ar8.2.1) Ar8.2.2 hin8 (Has.at H8 hin8 rfl) (g := (mkF m 21 #[.val (.ref a), .val (.int ((0 : Int32) + ec0)), .val (.int (1 : Int32))] [(.int (1 : Int32)), (.ref b), (.int ((31 : Int32) * ((0 : Int32) + ec0)))])) rfl rfl (hb hby d14_21) t k)
  replace G := own_iadd (q := 23) G X7.here hx (hb hby d14_22) rfl rfl
  replace G := own_istoreN (q := 24) (l' := #[.val (.ref a), .val (.int (((31 : Int32) * ((0 : Int32) + ec0)) + ec1)), .val (.int (1 : Int32))]) G X7.here hx (hb hby d14_23) rfl rfl
  replace G := own_iinc (q := 27) (l' := #[.val (.ref a), .val (.int (((31 : Int32) * ((0 : Int32) + ec0)) + ec1)), .val (.int (2 : Int32))]) (w := (1 : Int32)) G X7.here hx (hb hby d14_24) (by decide) rfl (by decide : ((1 : Int32) + (1 : Int32)) = (2 : Int32)) rfl rfl
  replace G := own_goto (q := 4) G X7.here hx (hb hby d14_27) (by decide) (by decide)
  replace G := own_iloadN (q := 5) G X7.here hx (hb hby d14_4) rfl rfl
  replace G := own_aloadN (q := 6) G X7.here hx (hb hby d14_5) rfl rfl rfl
  obtain ⟨T9, X9, e9, st9⟩ := getF X7 hx hZ hown (host := "") (Or.inl (hw _ (List.mem_of_getElem? (i := 27) rfl))) Via.refl e7 P1 (g := (mkF m 6 #[.val (.ref a), .val (.int (((31 : Int32) * ((0 : Int32) + ec0)) + ec1)), .val (.int (2 : Int32))] [(.ref a), (.int (2 : Int32))])) rfl rfl (hb hby d14_6)
  replace G : Gets p e below _ (T9.setTop (mkF m 9 #[.val (.ref a), .val (.int (((31 : Int32) * ((0 : Int32) + ec0)) + ec1)), .val (.int (2 : Int32))] [(.int (2 : Int32)), (.int (2 : Int32))])) := fun t k => G t (st9 t k)
  have hc9_10 : ¬ ((2 : Int32) < (2 : Int32)) := by decide
  replace G := own_icmpYes (q := 30) G X9.here hx (hb hby d14_9) (flt hc9_10).2.1 (by decide) (by decide)
  replace G := own_iloadN (q := 31) G X9.here hx (hb hby d14_30) rfl rfl
  obtain ⟨fs, hr, hrun, hended, hW, hsame⟩ := X9.leave (v := some (.int (((31 : Int32) * ((0 : Int32) + ec0)) + ec1))) (fun h => by rw [Bd.returns] at h; cases h)
  refine ⟨_, _, G _ (retOut X9 hx Bd.returns rfl (Or.inl ⟨rfl, Or.inl rfl, _, rfl⟩) (hb hby d14_31) hr), hrun, hended, _, _, rfl, ?_, ⟨_, rfl⟩, hW, hsame.mono (by decide) (by decide)⟩
  show Q14k2 Z a b kb ec0 ec1 ec2 ec3 h0 n0 _ T9.heap _
  rw [e9]
  exact ⟨rfl, N0, rfl⟩
theorem ef_14k3 (m : MethodId) (x0 : Addr) : entryFrame m #[(.ref x0)] 3 = mkF m 0 #[.val (.ref x0), .unset, .unset] [] := by first | (simp [entryFrame, mkF, argsToLocals, Value.category]; done) | rfl
def Q14k3 (Z : State) (a : Addr) (b : Addr) (kb : ClassId) (ec0 : Int32) (ec1 : Int32) (ec2 : Int32) (ec3 : Int32) (h0 : Heap) (n0 : Nat) (v : Option Value) (h : Heap) (L : List Loc) : Prop := v = some (.int (((31 : Int32) * (((31 : Int32) * ((0 : Int32) + ec0)) + ec1)) + ec2)) ∧ Fr n0 L ∧ h = h0
set_option maxRecDepth 65536 in
set_option maxHeartbeats 40000000 in
theorem rm14k3 (l : Launch) (Z : State) (a0 : Array Value) (hw : ∀ d ∈ tables_1, d.before a0 Z = true) (ws : List Jvm.Cond) (a : Addr) (b : Addr) (kb : ClassId) (ec0 : Int32) (ec1 : Int32) (ec2 : Int32) (ec3 : Int32) (h0 : Heap) (n0 : Nat) (Z0 : n0 ≤ h0.size) (P0 : Fld Z h0 a "com/example/leafcutter/leafcutter/io/TextBuffer" "chars" "[C" (.ref b)) (P1 : Fld Z h0 a "com/example/leafcutter/leafcutter/io/TextBuffer" "length" "I" (.int (3 : Int32))) (P2 : Arv Z h0 b kb .char (16 : Int32) [(.int ec0), (.int ec1), (.int ec2), (.int ec3), (.int (0 : Int32)), (.int (0 : Int32)), (.int (0 : Int32)), (.int (0 : Int32)), (.int (0 : Int32)), (.int (0 : Int32)), (.int (0 : Int32)), (.int (0 : Int32)), (.int (0 : Int32)), (.int (0 : Int32)), (.int (0 : Int32)), (.int (0 : Int32))] (.int (0 : Int32))) :
    MetFree l (⟨"com/example/leafcutter/leafcutter/io/TextBuffer", "contentHash", "()I"⟩ : MethodName) (head1 (Jvm.Cond.code (⟨"com/example/leafcutter/leafcutter/io/TextBuffer", "contentHash", "()I"⟩ : MethodName) prog_6_method_16_code 3 (some .int) :: ws) ({ frames := 0, cells := 0, slots := 0, locals := 0 } : Room)) (fun argz U => argz = #[(.ref a)] ∧ Z.Warmed39 U.vm ∧ U.heap = h0) (fun _ _ _ _ _ => True) (fun _ U o U' => ∃ v L, o = .returned v ∧ Q14k3 Z a b kb ec0 ec1 ec2 ec3 h0 n0 v U'.heap L ∧ FrameEnd U o U' L ({ frames := 0, cells := 0, slots := 0, locals := 0 } : Room).cells ({ frames := 0, cells := 0, slots := 0, locals := 0 } : Room).slots) := by
  refine MetFree.of_bodySF (plainFor_of_name pn_com_example_leafcutter_leafcutter_io_TextBuffer) hisR ?_
  intro p e s m args below meth c s₁ Bd hml0 hP hK
  obtain ⟨rfl, hZ, hh⟩ := hP
  have hx := Bd.exec
  have hby := Bd.bytes
  have hml : c.maxLocals = 3 := hml0
  have hown : s.vm.findClass "com/example/leafcutter/leafcutter/io/TextBuffer" = some m.cls := findClass_of_methodNamed Bd.named
  have hnm := (name_of_methodNamed Bd.named Bd.method).1
  have X0 : Stand p l e ({ frames := 0, cells := 0, slots := 0, locals := 0 } : Room) s m #[(.ref a)] below meth c s₁ [] 0 0 := Stand.of_body Bd
  have e0 : s₁.heap = h0 := by rw [← hh, Bd.state]; rfl
  have N0 := Fr.nil n0
  have G : Gets p e below (s₁.setTop (entryFrame m #[(.ref a)] 3)) (s₁.setTop (mkF m 0 #[.val (.ref a), .unset, .unset] [])) := fun t k => castTop (ef_14k3 m a) k
  replace G := own_iconst (q := 1) G X0.here hx (hb hby d14_0) (v := (0 : Int32)) (by decide) rfl
  replace G := own_istoreN (q := 2) (l' := #[.val (.ref a), .val (.int (0 : Int32)), .unset]) G X0.here hx (hb hby d14_1) rfl rfl
  replace G := own_iconst (q := 3) G X0.here hx (hb hby d14_2) (v := (0 : Int32)) (by decide) rfl
  replace G := own_istoreN (q := 4) (l' := #[.val (.ref a), .val (.int (0 : Int32)), .val (.int (0 : Int32))]) G X0.here hx (hb hby d14_3) rfl rfl
  replace G := own_iloadN (q := 5) G X0.here hx (hb hby d14_4) rfl rfl
  replace G := own_aloadN (q := 6) G X0.here hx (hb hby d14_5) rfl rfl rfl
  obtain ⟨T1, X1, e1, st1⟩ := getF X0 hx hZ hown (host := "") (Or.inl (hw _ (List.mem_of_getElem? (i := 27) rfl))) Via.refl e0 P1 (g := (mkF m 6 #[.val (.ref a), .val (.int (0 : Int32)), .val (.int (0 : Int32))] [(.ref a), (.int (0 : Int32))])) rfl rfl (hb hby d14_6)
  replace G : Gets p e below _ (T1.setTop (mkF m 9 #[.val (.ref a), .val (.int (0 : Int32)), .val (.int (0 : Int32))] [(.int (3 : Int32)), (.int (0 : Int32))])) := fun t k => G t (st1 t k)
  have hc9_2 : (0 : Int32) < (3 : Int32) := by decide
  replace G := own_icmpNo (q := 12) G X1.here hx (hb hby d14_9) (tlt hc9_2).2.1 rfl
  replace G := own_bipush (q := 14) G X1.here hx (hb hby d14_12) (v := (31 : Int32)) (by decide) rfl
  replace G := own_iloadN (q := 15) G X1.here hx (hb hby d14_14) rfl rfl
  replace G := own_imul (q := 16) G X1.here hx (hb hby d14_15) (by decide : ((31 : Int32) * (0 : Int32)) = (0 : Int32)) rfl
  replace G := own_aloadN (q := 17) G X1.here hx (hb hby d14_16) rfl rfl rfl
  obtain ⟨T3, X3, e3, st3⟩ := getF X1 hx hZ hown (host := "") (Or.inl (hw _ (List.mem_of_getElem? (i := 16) rfl))) Via.refl e1 P0 (g := (mkF m 17 #[.val (.ref a), .val (.int (0 : Int32)), .val (.int (0 : Int32))] [(.ref a), (.int (0 : Int32))])) rfl rfl (hb hby d14_17)
  replace G : Gets p e below _ (T3.setTop (mkF m 20 #[.val (.ref a), .val (.int (0 : Int32)), .val (.int (0 : Int32))] [(.ref b), (.int (0 : Int32))])) := fun t k => G t (st3 t k)
  replace G := own_iloadN (q := 21) G X3.here hx (hb hby d14_20) rfl rfl
  obtain ⟨c4, Ar4, -, S4, -, H4, -⟩ := id P2
  have hin4 : ¬ ((0 : Int32) < 0 ∨ c4.slots.size ≤ ((0 : Int32)).toNatClampNeg) := inb_of S4 ⟨by decide, by decide⟩
  replace G : Gets p e below _ (T3.setTop (mkF m 22 #[.val (.ref a), .val (.int (0 : Int32)), .val (.int (0 : Int32))] [(.int ec0), (.int (0 : Int32))])) := fun t k => G t (X3.caload hx (j := (0 : Int32)) (v := (.int ec0)) (by rw [e3]; exact Ar4.1) (State.isArrayOf_alike hZ.alike Ar4.2.1) Ar4.2.2 hin4 (Has.at H4 hin4 rfl) (g := (mkF m 21 #[.val (.ref a), .val (.int (0 : Int32)), .val (.int (0 : Int32))] [(.int (0 : Int32)), (.ref b), (.int (0 : Int32))])) rfl rfl (hb hby d14_21) t k)
  replace G := own_iadd (q := 23) G X3.here hx (hb hby d14_22) rfl rfl
  replace G := own_istoreN (q := 24) (l' := #[.val (.ref a), .val (.int ((0 : Int32) + ec0)), .val (.int (0 : Int32))]) G X3.here hx (hb hby d14_23) rfl rfl
  replace G := own_iinc (q := 27) (l' := #[.val (.ref a), .val (.int ((0 : Int32) + ec0)), .val (.int (1 : Int32))]) (w := (1 : Int32)) G X3.here hx (hb hby d14_24) (by decide) rfl (by decide : ((0 : Int32) + (1 : Int32)) = (1 : Int32)) rfl rfl
  replace G := own_goto (q := 4) G X3.here hx (hb hby d14_27) (by decide) (by decide)
  replace G := own_iloadN (q := 5) G X3.here hx (hb hby d14_4) rfl rfl
  replace G := own_aloadN (q := 6) G X3.here hx (hb hby d14_5) rfl rfl rfl
  obtain ⟨T5, X5, e5, st5⟩ := getF X3 hx hZ hown (host := "") (Or.inl (hw _ (List.mem_of_getElem? (i := 27) rfl))) Via.refl e3 P1 (g := (mkF m 6 #[.val (.ref a), .val (.int ((0 : Int32) + ec0)), .val (.int (1 : Int32))] [(.ref a), (.int (1 : Int32))])) rfl rfl (hb hby d14_6)
  replace G : Gets p e below _ (T5.setTop (mkF m 9 #[.val (.ref a), .val (.int ((0 : Int32) + ec0)), .val (.int (1 : Int32))] [(.int (3 : Int32)), (.int (1 : Int32))])) := fun t k => G t (st5 t k)
  have hc9_6 : (1 : Int32) < (3 : Int32) := by decide
  replace G := own_icmpNo (q := 12) G X5.here hx (hb hby d14_9) (tlt hc9_6).2.1 rfl
  replace G := own_bipush (q := 14) G X5.here hx (hb hby d14_12) (v := (31 : Int32)) (by decide) rfl
  replace G := own_iloadN (q := 15) G X5.here hx (hb hby d14_14) rfl rfl
  replace G := own_imul (q := 16) G X5.here hx (hb hby d14_15) rfl rfl
  replace G := own_aloadN (q := 17) G X5.here hx (hb hby d14_16) rfl rfl rfl
  obtain ⟨T7, X7, e7, st7⟩ := getF X5 hx hZ hown (host := "") (Or.inl (hw _ (List.mem_of_getElem? (i := 16) rfl))) Via.refl e5 P0 (g := (mkF m 17 #[.val (.ref a), .val (.int ((0 : Int32) + ec0)), .val (.int (1 : Int32))] [(.ref a), (.int ((31 : Int32) * ((0 : Int32) + ec0)))])) rfl rfl (hb hby d14_17)
  replace G : Gets p e below _ (T7.setTop (mkF m 20 #[.val (.ref a), .val (.int ((0 : Int32) + ec0)), .val (.int (1 : Int32))] [(.ref b), (.int ((31 : Int32) * ((0 : Int32) + ec0)))])) := fun t k => G t (st7 t k)
  replace G := own_iloadN (q := 21) G X7.here hx (hb hby d14_20) rfl rfl
  obtain ⟨c8, Ar8, -, S8, -, H8, -⟩ := id P2
  have hin8 : ¬ ((1 : Int32) < 0 ∨ c8.slots.size ≤ ((1 : Int32)).toNatClampNeg) := inb_of S8 ⟨by decide, by decide⟩
  replace G : Gets p e below _ (T7.setTop (mkF m 22 #[.val (.ref a), .val (.int ((0 : Int32) + ec0)), .val (.int (1 : Int32))] [(.int ec1), (.int ((31 : Int32) * ((0 : Int32) + ec0)))])) := fun t k => G t (X7.caload hx (j := (1 : Int32)) (v := (.int ec1)) (by rw [e7]; exact Ar8.1) (State.isArrayOf_alike hZ.alike Ar8.2.1) Ar8.2.2 hin8 (Has.at H8 hin8 rfl) (g := (mkF m 21 #[.val (.ref a), .val (.int ((0 : Int32) + ec0)), .val (.int (1 : Int32))] [(.int (1 : Int32)), (.ref b), (.int ((31 : Int32) * ((0 : Int32) + ec0)))])) rfl rfl (hb hby d14_21) t k)
  replace G := own_iadd (q := 23) G X7.here hx (hb hby d14_22) rfl rfl
  replace G := own_istoreN (q := 24) (l' := #[.val (.ref a), .val (.int (((31 : Int32) * ((0 : Int32) + ec0)) + ec1)), .val (.int (1 : Int32))]) G X7.here hx (hb hby d14_23) rfl rfl
  replace G := own_iinc (q := 27) (l' := #[.val (.ref a), .val (.int (((31 : Int32) * ((0 : Int32) + ec0)) + ec1)), .val (.int (2 : Int32))]) (w := (1 : Int32)) G X7.here hx (hb hby d14_24) (by decide) rfl (by decide : ((1 : Int32) + (1 : Int32)) = (2 : Int32)) rfl rfl
  replace G := own_goto (q := 4) G X7.here hx (hb hby d14_27) (by decide) (by decide)
  replace G := own_iloadN (q := 5) G X7.here hx (hb hby d14_4) rfl rfl
  replace G := own_aloadN (q := 6) G X7.here hx (hb hby d14_5) rfl rfl rfl
  obtain ⟨T9, X9, e9, st9⟩ := getF X7 hx hZ hown (host := "") (Or.inl (hw _ (List.mem_of_getElem? (i := 27) rfl))) Via.refl e7 P1 (g := (mkF m 6 #[.val (.ref a), .val (.int (((31 : Int32) * ((0 : Int32) + ec0)) + ec1)), .val (.int (2 : Int32))] [(.ref a), (.int (2 : Int32))])) rfl rfl (hb hby d14_6)
  replace G : Gets p e below _ (T9.setTop (mkF m 9 #[.val (.ref a), .val (.int (((31 : Int32) * ((0 : Int32) + ec0)) + ec1)), .val (.int (2 : Int32))] [(.int (3 : Int32)), (.int (2 : Int32))])) := fun t k => G t (st9 t k)
  have hc9_10 : (2 : Int32) < (3 : Int32) := by decide
  replace G := own_icmpNo (q := 12) G X9.here hx (hb hby d14_9) (tlt hc9_10).2.1 rfl
  replace G := own_bipush (q := 14) G X9.here hx (hb hby d14_12) (v := (31 : Int32)) (by decide) rfl
  replace G := own_iloadN (q := 15) G X9.here hx (hb hby d14_14) rfl rfl
  replace G := own_imul (q := 16) G X9.here hx (hb hby d14_15) rfl rfl
  replace G := own_aloadN (q := 17) G X9.here hx (hb hby d14_16) rfl rfl rfl
  obtain ⟨T11, X11, e11, st11⟩ := getF X9 hx hZ hown (host := "") (Or.inl (hw _ (List.mem_of_getElem? (i := 16) rfl))) Via.refl e9 P0 (g := (mkF m 17 #[.val (.ref a), .val (.int (((31 : Int32) * ((0 : Int32) + ec0)) + ec1)), .val (.int (2 : Int32))] [(.ref a), (.int ((31 : Int32) * (((31 : Int32) * ((0 : Int32) + ec0)) + ec1)))])) rfl rfl (hb hby d14_17)
  replace G : Gets p e below _ (T11.setTop (mkF m 20 #[.val (.ref a), .val (.int (((31 : Int32) * ((0 : Int32) + ec0)) + ec1)), .val (.int (2 : Int32))] [(.ref b), (.int ((31 : Int32) * (((31 : Int32) * ((0 : Int32) + ec0)) + ec1)))])) := fun t k => G t (st11 t k)
  replace G := own_iloadN (q := 21) G X11.here hx (hb hby d14_20) rfl rfl
  obtain ⟨c12, Ar12, -, S12, -, H12, -⟩ := id P2
  have hin12 : ¬ ((2 : Int32) < 0 ∨ c12.slots.size ≤ ((2 : Int32)).toNatClampNeg) := inb_of S12 ⟨by decide, by decide⟩
  replace G : Gets p e below _ (T11.setTop (mkF m 22 #[.val (.ref a), .val (.int (((31 : Int32) * ((0 : Int32) + ec0)) + ec1)), .val (.int (2 : Int32))] [(.int ec2), (.int ((31 : Int32) * (((31 : Int32) * ((0 : Int32) + ec0)) + ec1)))])) := fun t k => G t (X11.caload hx (j := (2 : Int32)) (v := (.int ec2)) (by rw [e11]; exact Ar12.1) (State.isArrayOf_alike hZ.alike Ar12.2.1) Ar12.2.2 hin12 (Has.at H12 hin12 rfl) (g := (mkF m 21 #[.val (.ref a), .val (.int (((31 : Int32) * ((0 : Int32) + ec0)) + ec1)), .val (.int (2 : Int32))] [(.int (2 : Int32)), (.ref b), (.int ((31 : Int32) * (((31 : Int32) * ((0 : Int32) + ec0)) + ec1)))])) rfl rfl (hb hby d14_21) t k)
  replace G := own_iadd (q := 23) G X11.here hx (hb hby d14_22) rfl rfl
  replace G := own_istoreN (q := 24) (l' := #[.val (.ref a), .val (.int (((31 : Int32) * (((31 : Int32) * ((0 : Int32) + ec0)) + ec1)) + ec2)), .val (.int (2 : Int32))]) G X11.here hx (hb hby d14_23) rfl rfl
  replace G := own_iinc (q := 27) (l' := #[.val (.ref a), .val (.int (((31 : Int32) * (((31 : Int32) * ((0 : Int32) + ec0)) + ec1)) + ec2)), .val (.int (3 : Int32))]) (w := (1 : Int32)) G X11.here hx (hb hby d14_24) (by decide) rfl (by decide : ((2 : Int32) + (1 : Int32)) = (3 : Int32)) rfl rfl
  replace G := own_goto (q := 4) G X11.here hx (hb hby d14_27) (by decide) (by decide)
  replace G := own_iloadN (q := 5) G X11.here hx (hb hby d14_4) rfl rfl
  replace G := own_aloadN (q := 6) G X11.here hx (hb hby d14_5) rfl rfl rfl
  obtain ⟨T13, X13, e13, st13⟩ := getF X11 hx hZ hown (host := "") (Or.inl (hw _ (List.mem_of_getElem? (i := 27) rfl))) Via.refl e11 P1 (g := (mkF m 6 #[.val (.ref a), .val (.int (((31 : Int32) * (((31 : Int32) * ((0 : Int32) + ec0)) + ec1)) + ec2)), .val (.int (3 : Int32))] [(.ref a), (.int (3 : Int32))])) rfl rfl (hb hby d14_6)
  replace G : Gets p e below _ (T13.setTop (mkF m 9 #[.val (.ref a), .val (.int (((31 : Int32) * (((31 : Int32) * ((0 : Int32) + ec0)) + ec1)) + ec2)), .val (.int (3 : Int32))] [(.int (3 : Int32)), (.int (3 : Int32))])) := fun t k => G t (st13 t k)
  have hc9_14 : ¬ ((3 : Int32) < (3 : Int32)) := by decide
  replace G := own_icmpYes (q := 30) G X13.here hx (hb hby d14_9) (flt hc9_14).2.1 (by decide) (by decide)
  replace G := own_iloadN (q := 31) G X13.here hx (hb hby d14_30) rfl rfl
  obtain ⟨fs, hr, hrun, hended, hW, hsame⟩ := X13.leave (v := some (.int (((31 : Int32) * (((31 : Int32) * ((0 : Int32) + ec0)) + ec1)) + ec2))) (fun h => by rw [Bd.returns] at h; cases h)
  refine ⟨_, _, G _ (retOut X13 hx Bd.returns rfl (Or.inl ⟨rfl, Or.inl rfl, _, rfl⟩) (hb hby d14_31) hr), hrun, hended, _, _, rfl, ?_, ⟨_, rfl⟩, hW, hsame.mono (by decide) (by decide)⟩
  show Q14k3 Z a b kb ec0 ec1 ec2 ec3 h0 n0 _ T13.heap _
  rw [e13]
  exact ⟨rfl, N0, rfl⟩
theorem ef_14k4 (m : MethodId) (x0 : Addr) : entryFrame m #[(.ref x0)] 3 = mkF m 0 #[.val (.ref x0), .unset, .unset] [] := by first | (simp [entryFrame, mkF, argsToLocals, Value.category]; done) | rfl
def Q14k4 (Z : State) (a : Addr) (b : Addr) (kb : ClassId) (ec0 : Int32) (ec1 : Int32) (ec2 : Int32) (ec3 : Int32) (h0 : Heap) (n0 : Nat) (v : Option Value) (h : Heap) (L : List Loc) : Prop := v = some (.int (((31 : Int32) * (((31 : Int32) * (((31 : Int32) * ((0 : Int32) + ec0)) + ec1)) + ec2)) + ec3)) ∧ Fr n0 L ∧ h = h0
set_option maxRecDepth 65536 in
set_option maxHeartbeats 40000000 in
theorem rm14k4 (l : Launch) (Z : State) (a0 : Array Value) (hw : ∀ d ∈ tables_1, d.before a0 Z = true) (ws : List Jvm.Cond) (a : Addr) (b : Addr) (kb : ClassId) (ec0 : Int32) (ec1 : Int32) (ec2 : Int32) (ec3 : Int32) (h0 : Heap) (n0 : Nat) (Z0 : n0 ≤ h0.size) (P0 : Fld Z h0 a "com/example/leafcutter/leafcutter/io/TextBuffer" "chars" "[C" (.ref b)) (P1 : Fld Z h0 a "com/example/leafcutter/leafcutter/io/TextBuffer" "length" "I" (.int (4 : Int32))) (P2 : Arv Z h0 b kb .char (16 : Int32) [(.int ec0), (.int ec1), (.int ec2), (.int ec3), (.int (0 : Int32)), (.int (0 : Int32)), (.int (0 : Int32)), (.int (0 : Int32)), (.int (0 : Int32)), (.int (0 : Int32)), (.int (0 : Int32)), (.int (0 : Int32)), (.int (0 : Int32)), (.int (0 : Int32)), (.int (0 : Int32)), (.int (0 : Int32))] (.int (0 : Int32))) :
    MetFree l (⟨"com/example/leafcutter/leafcutter/io/TextBuffer", "contentHash", "()I"⟩ : MethodName) (head1 (Jvm.Cond.code (⟨"com/example/leafcutter/leafcutter/io/TextBuffer", "contentHash", "()I"⟩ : MethodName) prog_6_method_16_code 3 (some .int) :: ws) ({ frames := 0, cells := 0, slots := 0, locals := 0 } : Room)) (fun argz U => argz = #[(.ref a)] ∧ Z.Warmed39 U.vm ∧ U.heap = h0) (fun _ _ _ _ _ => True) (fun _ U o U' => ∃ v L, o = .returned v ∧ Q14k4 Z a b kb ec0 ec1 ec2 ec3 h0 n0 v U'.heap L ∧ FrameEnd U o U' L ({ frames := 0, cells := 0, slots := 0, locals := 0 } : Room).cells ({ frames := 0, cells := 0, slots := 0, locals := 0 } : Room).slots) := by
  refine MetFree.of_bodySF (plainFor_of_name pn_com_example_leafcutter_leafcutter_io_TextBuffer) hisR ?_
  intro p e s m args below meth c s₁ Bd hml0 hP hK
  obtain ⟨rfl, hZ, hh⟩ := hP
  have hx := Bd.exec
  have hby := Bd.bytes
  have hml : c.maxLocals = 3 := hml0
  have hown : s.vm.findClass "com/example/leafcutter/leafcutter/io/TextBuffer" = some m.cls := findClass_of_methodNamed Bd.named
  have hnm := (name_of_methodNamed Bd.named Bd.method).1
  have X0 : Stand p l e ({ frames := 0, cells := 0, slots := 0, locals := 0 } : Room) s m #[(.ref a)] below meth c s₁ [] 0 0 := Stand.of_body Bd
  have e0 : s₁.heap = h0 := by rw [← hh, Bd.state]; rfl
  have N0 := Fr.nil n0
  have G : Gets p e below (s₁.setTop (entryFrame m #[(.ref a)] 3)) (s₁.setTop (mkF m 0 #[.val (.ref a), .unset, .unset] [])) := fun t k => castTop (ef_14k4 m a) k
  replace G := own_iconst (q := 1) G X0.here hx (hb hby d14_0) (v := (0 : Int32)) (by decide) rfl
  replace G := own_istoreN (q := 2) (l' := #[.val (.ref a), .val (.int (0 : Int32)), .unset]) G X0.here hx (hb hby d14_1) rfl rfl
  replace G := own_iconst (q := 3) G X0.here hx (hb hby d14_2) (v := (0 : Int32)) (by decide) rfl
  replace G := own_istoreN (q := 4) (l' := #[.val (.ref a), .val (.int (0 : Int32)), .val (.int (0 : Int32))]) G X0.here hx (hb hby d14_3) rfl rfl
  replace G := own_iloadN (q := 5) G X0.here hx (hb hby d14_4) rfl rfl
  replace G := own_aloadN (q := 6) G X0.here hx (hb hby d14_5) rfl rfl rfl
  obtain ⟨T1, X1, e1, st1⟩ := getF X0 hx hZ hown (host := "") (Or.inl (hw _ (List.mem_of_getElem? (i := 27) rfl))) Via.refl e0 P1 (g := (mkF m 6 #[.val (.ref a), .val (.int (0 : Int32)), .val (.int (0 : Int32))] [(.ref a), (.int (0 : Int32))])) rfl rfl (hb hby d14_6)
  replace G : Gets p e below _ (T1.setTop (mkF m 9 #[.val (.ref a), .val (.int (0 : Int32)), .val (.int (0 : Int32))] [(.int (4 : Int32)), (.int (0 : Int32))])) := fun t k => G t (st1 t k)
  have hc9_2 : (0 : Int32) < (4 : Int32) := by decide
  replace G := own_icmpNo (q := 12) G X1.here hx (hb hby d14_9) (tlt hc9_2).2.1 rfl
  replace G := own_bipush (q := 14) G X1.here hx (hb hby d14_12) (v := (31 : Int32)) (by decide) rfl
  replace G := own_iloadN (q := 15) G X1.here hx (hb hby d14_14) rfl rfl
  replace G := own_imul (q := 16) G X1.here hx (hb hby d14_15) (by decide : ((31 : Int32) * (0 : Int32)) = (0 : Int32)) rfl
  replace G := own_aloadN (q := 17) G X1.here hx (hb hby d14_16) rfl rfl rfl
  obtain ⟨T3, X3, e3, st3⟩ := getF X1 hx hZ hown (host := "") (Or.inl (hw _ (List.mem_of_getElem? (i := 16) rfl))) Via.refl e1 P0 (g := (mkF m 17 #[.val (.ref a), .val (.int (0 : Int32)), .val (.int (0 : Int32))] [(.ref a), (.int (0 : Int32))])) rfl rfl (hb hby d14_17)
  replace G : Gets p e below _ (T3.setTop (mkF m 20 #[.val (.ref a), .val (.int (0 : Int32)), .val (.int (0 : Int32))] [(.ref b), (.int (0 : Int32))])) := fun t k => G t (st3 t k)
  replace G := own_iloadN (q := 21) G X3.here hx (hb hby d14_20) rfl rfl
  obtain ⟨c4, Ar4, -, S4, -, H4, -⟩ := id P2
  have hin4 : ¬ ((0 : Int32) < 0 ∨ c4.slots.size ≤ ((0 : Int32)).toNatClampNeg) := inb_of S4 ⟨by decide, by decide⟩
  replace G : Gets p e below _ (T3.setTop (mkF m 22 #[.val (.ref a), .val (.int (0 : Int32)), .val (.int (0 : Int32))] [(.int ec0), (.int (0 : Int32))])) := fun t k => G t (X3.caload hx (j := (0 : Int32)) (v := (.int ec0)) (by rw [e3]; exact Ar4.1) (State.isArrayOf_alike hZ.alike Ar4.2.1) Ar4.2.2 hin4 (Has.at H4 hin4 rfl) (g := (mkF m 21 #[.val (.ref a), .val (.int (0 : Int32)), .val (.int (0 : Int32))] [(.int (0 : Int32)), (.ref b), (.int (0 : Int32))])) rfl rfl (hb hby d14_21) t k)
  replace G := own_iadd (q := 23) G X3.here hx (hb hby d14_22) rfl rfl
  replace G := own_istoreN (q := 24) (l' := #[.val (.ref a), .val (.int ((0 : Int32) + ec0)), .val (.int (0 : Int32))]) G X3.here hx (hb hby d14_23) rfl rfl
  replace G := own_iinc (q := 27) (l' := #[.val (.ref a), .val (.int ((0 : Int32) + ec0)), .val (.int (1 : Int32))]) (w := (1 : Int32)) G X3.here hx (hb hby d14_24) (by decide) rfl (by decide : ((0 : Int32) + (1 : Int32)) = (1 : Int32)) rfl rfl
  replace G := own_goto (q := 4) G X3.here hx (hb hby d14_27) (by decide) (by decide)
  replace G := own_iloadN (q := 5) G X3.here hx (hb hby d14_4) rfl rfl
  replace G := own_aloadN (q := 6) G X3.here hx (hb hby d14_5) rfl rfl rfl
  obtain ⟨T5, X5, e5, st5⟩ := getF X3 hx hZ hown (host := "") (Or.inl (hw _ (List.mem_of_getElem? (i := 27) rfl))) Via.refl e3 P1 (g := (mkF m 6 #[.val (.ref a), .val (.int ((0 : Int32) + ec0)), .val (.int (1 : Int32))] [(.ref a), (.int (1 : Int32))])) rfl rfl (hb hby d14_6)
  replace G : Gets p e below _ (T5.setTop (mkF m 9 #[.val (.ref a), .val (.int ((0 : Int32) + ec0)), .val (.int (1 : Int32))] [(.int (4 : Int32)), (.int (1 : Int32))])) := fun t k => G t (st5 t k)
  have hc9_6 : (1 : Int32) < (4 : Int32) := by decide
  replace G := own_icmpNo (q := 12) G X5.here hx (hb hby d14_9) (tlt hc9_6).2.1 rfl
  replace G := own_bipush (q := 14) G X5.here hx (hb hby d14_12) (v := (31 : Int32)) (by decide) rfl
  replace G := own_iloadN (q := 15) G X5.here hx (hb hby d14_14) rfl rfl
  replace G := own_imul (q := 16) G X5.here hx (hb hby d14_15) rfl rfl
  replace G := own_aloadN (q := 17) G X5.here hx (hb hby d14_16) rfl rfl rfl
  obtain ⟨T7, X7, e7, st7⟩ := getF X5 hx hZ hown (host := "") (Or.inl (hw _ (List.mem_of_getElem? (i := 16) rfl))) Via.refl e5 P0 (g := (mkF m 17 #[.val (.ref a), .val (.int ((0 : Int32) + ec0)), .val (.int (1 : Int32))] [(.ref a), (.int ((31 : Int32) * ((0 : Int32) + ec0)))])) rfl rfl (hb hby d14_17)
  replace G : Gets p e below _ (T7.setTop (mkF m 20 #[.val (.ref a), .val (.int ((0 : Int32) + ec0)), .val (.int (1 : Int32))] [(.ref b), (.int ((31 : Int32) * ((0 : Int32) + ec0)))])) := fun t k => G t (st7 t k)
  replace G := own_iloadN (q := 21) G X7.here hx (hb hby d14_20) rfl rfl
  obtain ⟨c8, Ar8, -, S8, -, H8, -⟩ := id P2
  have hin8 : ¬ ((1 : Int32) < 0 ∨ c8.slots.size ≤ ((1 : Int32)).toNatClampNeg) := inb_of S8 ⟨by decide, by decide⟩
  replace G : Gets p e below _ (T7.setTop (mkF m 22 #[.val (.ref a), .val (.int ((0 : Int32) + ec0)), .val (.int (1 : Int32))] [(.int ec1), (.int ((31 : Int32) * ((0 : Int32) + ec0)))])) := fun t k => G t (X7.caload hx (j := (1 : Int32)) (v := (.int ec1)) (by rw [e7]; exact Ar8.1) (State.isArrayOf_alike hZ.alike Ar8.2.1) Ar8.2.2 hin8 (Has.at H8 hin8 rfl) (g := (mkF m 21 #[.val (.ref a), .val (.int ((0 : Int32) + ec0)), .val (.int (1 : Int32))] [(.int (1 : Int32)), (.ref b), (.int ((31 : Int32) * ((0 : Int32) + ec0)))])) rfl rfl (hb hby d14_21) t k)
  replace G := own_iadd (q := 23) G X7.here hx (hb hby d14_22) rfl rfl
  replace G := own_istoreN (q := 24) (l' := #[.val (.ref a), .val (.int (((31 : Int32) * ((0 : Int32) + ec0)) + ec1)), .val (.int (1 : Int32))]) G X7.here hx (hb hby d14_23) rfl rfl
  replace G := own_iinc (q := 27) (l' := #[.val (.ref a), .val (.int (((31 : Int32) * ((0 : Int32) + ec0)) + ec1)), .val (.int (2 : Int32))]) (w := (1 : Int32)) G X7.here hx (hb hby d14_24) (by decide) rfl (by decide : ((1 : Int32) + (1 : Int32)) = (2 : Int32)) rfl rfl
  replace G := own_goto (q := 4) G X7.here hx (hb hby d14_27) (by decide) (by decide)
  replace G := own_iloadN (q := 5) G X7.here hx (hb hby d14_4) rfl rfl
  replace G := own_aloadN (q := 6) G X7.here hx (hb hby d14_5) rfl rfl rfl
  obtain ⟨T9, X9, e9, st9⟩ := getF X7 hx hZ hown (host := "") (Or.inl (hw _ (List.mem_of_getElem? (i := 27) rfl))) Via.refl e7 P1 (g := (mkF m 6 #[.val (.ref a), .val (.int (((31 : Int32) * ((0 : Int32) + ec0)) + ec1)), .val (.int (2 : Int32))] [(.ref a), (.int (2 : Int32))])) rfl rfl (hb hby d14_6)
  replace G : Gets p e below _ (T9.setTop (mkF m 9 #[.val (.ref a), .val (.int (((31 : Int32) * ((0 : Int32) + ec0)) + ec1)), .val (.int (2 : Int32))] [(.int (4 : Int32)), (.int (2 : Int32))])) := fun t k => G t (st9 t k)
  have hc9_10 : (2 : Int32) < (4 : Int32) := by decide
  replace G := own_icmpNo (q := 12) G X9.here hx (hb hby d14_9) (tlt hc9_10).2.1 rfl
  replace G := own_bipush (q := 14) G X9.here hx (hb hby d14_12) (v := (31 : Int32)) (by decide) rfl
  replace G := own_iloadN (q := 15) G X9.here hx (hb hby d14_14) rfl rfl
  replace G := own_imul (q := 16) G X9.here hx (hb hby d14_15) rfl rfl
  replace G := own_aloadN (q := 17) G X9.here hx (hb hby d14_16) rfl rfl rfl
  obtain ⟨T11, X11, e11, st11⟩ := getF X9 hx hZ hown (host := "") (Or.inl (hw _ (List.mem_of_getElem? (i := 16) rfl))) Via.refl e9 P0 (g := (mkF m 17 #[.val (.ref a), .val (.int (((31 : Int32) * ((0 : Int32) + ec0)) + ec1)), .val (.int (2 : Int32))] [(.ref a), (.int ((31 : Int32) * (((31 : Int32) * ((0 : Int32) + ec0)) + ec1)))])) rfl rfl (hb hby d14_17)
  replace G : Gets p e below _ (T11.setTop (mkF m 20 #[.val (.ref a), .val (.int (((31 : Int32) * ((0 : Int32) + ec0)) + ec1)), .val (.int (2 : Int32))] [(.ref b), (.int ((31 : Int32) * (((31 : Int32) * ((0 : Int32) + ec0)) + ec1)))])) := fun t k => G t (st11 t k)
  replace G := own_iloadN (q := 21) G X11.here hx (hb hby d14_20) rfl rfl
  obtain ⟨c12, Ar12, -, S12, -, H12, -⟩ := id P2
  have hin12 : ¬ ((2 : Int32) < 0 ∨ c12.slots.size ≤ ((2 : Int32)).toNatClampNeg) := inb_of S12 ⟨by decide, by decide⟩
  replace G : Gets p e below _ (T11.setTop (mkF m 22 #[.val (.ref a), .val (.int (((31 : Int32) * ((0 : Int32) + ec0)) + ec1)), .val (.int (2 : Int32))] [(.int ec2), (.int ((31 : Int32) * (((31 : Int32) * ((0 : Int32) + ec0)) + ec1)))])) := fun t k => G t (X11.caload hx (j := (2 : Int32)) (v := (.int ec2)) (by rw [e11]; exact Ar12.1) (State.isArrayOf_alike hZ.alike Ar12.2.1) Ar12.2.2 hin12 (Has.at H12 hin12 rfl) (g := (mkF m 21 #[.val (.ref a), .val (.int (((31 : Int32) * ((0 : Int32) + ec0)) + ec1)), .val (.int (2 : Int32))] [(.int (2 : Int32)), (.ref b), (.int ((31 : Int32) * (((31 : Int32) * ((0 : Int32) + ec0)) + ec1)))])) rfl rfl (hb hby d14_21) t k)
  replace G := own_iadd (q := 23) G X11.here hx (hb hby d14_22) rfl rfl
  replace G := own_istoreN (q := 24) (l' := #[.val (.ref a), .val (.int (((31 : Int32) * (((31 : Int32) * ((0 : Int32) + ec0)) + ec1)) + ec2)), .val (.int (2 : Int32))]) G X11.here hx (hb hby d14_23) rfl rfl
  replace G := own_iinc (q := 27) (l' := #[.val (.ref a), .val (.int (((31 : Int32) * (((31 : Int32) * ((0 : Int32) + ec0)) + ec1)) + ec2)), .val (.int (3 : Int32))]) (w := (1 : Int32)) G X11.here hx (hb hby d14_24) (by decide) rfl (by decide : ((2 : Int32) + (1 : Int32)) = (3 : Int32)) rfl rfl
  replace G := own_goto (q := 4) G X11.here hx (hb hby d14_27) (by decide) (by decide)
  replace G := own_iloadN (q := 5) G X11.here hx (hb hby d14_4) rfl rfl
  replace G := own_aloadN (q := 6) G X11.here hx (hb hby d14_5) rfl rfl rfl
  obtain ⟨T13, X13, e13, st13⟩ := getF X11 hx hZ hown (host := "") (Or.inl (hw _ (List.mem_of_getElem? (i := 27) rfl))) Via.refl e11 P1 (g := (mkF m 6 #[.val (.ref a), .val (.int (((31 : Int32) * (((31 : Int32) * ((0 : Int32) + ec0)) + ec1)) + ec2)), .val (.int (3 : Int32))] [(.ref a), (.int (3 : Int32))])) rfl rfl (hb hby d14_6)
  replace G : Gets p e below _ (T13.setTop (mkF m 9 #[.val (.ref a), .val (.int (((31 : Int32) * (((31 : Int32) * ((0 : Int32) + ec0)) + ec1)) + ec2)), .val (.int (3 : Int32))] [(.int (4 : Int32)), (.int (3 : Int32))])) := fun t k => G t (st13 t k)
  have hc9_14 : (3 : Int32) < (4 : Int32) := by decide
  replace G := own_icmpNo (q := 12) G X13.here hx (hb hby d14_9) (tlt hc9_14).2.1 rfl
  replace G := own_bipush (q := 14) G X13.here hx (hb hby d14_12) (v := (31 : Int32)) (by decide) rfl
  replace G := own_iloadN (q := 15) G X13.here hx (hb hby d14_14) rfl rfl
  replace G := own_imul (q := 16) G X13.here hx (hb hby d14_15) rfl rfl
  replace G := own_aloadN (q := 17) G X13.here hx (hb hby d14_16) rfl rfl rfl
  obtain ⟨T15, X15, e15, st15⟩ := getF X13 hx hZ hown (host := "") (Or.inl (hw _ (List.mem_of_getElem? (i := 16) rfl))) Via.refl e13 P0 (g := (mkF m 17 #[.val (.ref a), .val (.int (((31 : Int32) * (((31 : Int32) * ((0 : Int32) + ec0)) + ec1)) + ec2)), .val (.int (3 : Int32))] [(.ref a), (.int ((31 : Int32) * (((31 : Int32) * (((31 : Int32) * ((0 : Int32) + ec0)) + ec1)) + ec2)))])) rfl rfl (hb hby d14_17)
  replace G : Gets p e below _ (T15.setTop (mkF m 20 #[.val (.ref a), .val (.int (((31 : Int32) * (((31 : Int32) * ((0 : Int32) + ec0)) + ec1)) + ec2)), .val (.int (3 : Int32))] [(.ref b), (.int ((31 : Int32) * (((31 : Int32) * (((31 : Int32) * ((0 : Int32) + ec0)) + ec1)) + ec2)))])) := fun t k => G t (st15 t k)
  replace G := own_iloadN (q := 21) G X15.here hx (hb hby d14_20) rfl rfl
  obtain ⟨c16, Ar16, -, S16, -, H16, -⟩ := id P2
  have hin16 : ¬ ((3 : Int32) < 0 ∨ c16.slots.size ≤ ((3 : Int32)).toNatClampNeg) := inb_of S16 ⟨by decide, by decide⟩
  replace G : Gets p e below _ (T15.setTop (mkF m 22 #[.val (.ref a), .val (.int (((31 : Int32) * (((31 : Int32) * ((0 : Int32) + ec0)) + ec1)) + ec2)), .val (.int (3 : Int32))] [(.int ec3), (.int ((31 : Int32) * (((31 : Int32) * (((31 : Int32) * ((0 : Int32) + ec0)) + ec1)) + ec2)))])) := fun t k => G t (X15.caload hx (j := (3 : Int32)) (v := (.int ec3)) (by rw [e15]; exact Ar16.1) (State.isArrayOf_alike hZ.alike Ar16.2.1) Ar16.2.2 hin16 (Has.at H16 hin16 rfl) (g := (mkF m 21 #[.val (.ref a), .val (.int (((31 : Int32) * (((31 : Int32) * ((0 : Int32) + ec0)) + ec1)) + ec2)), .val (.int (3 : Int32))] [(.int (3 : Int32)), (.ref b), (.int ((31 : Int32) * (((31 : Int32) * (((31 : Int32) * ((0 : Int32) + ec0)) + ec1)) + ec2)))])) rfl rfl (hb hby d14_21) t k)
  replace G := own_iadd (q := 23) G X15.here hx (hb hby d14_22) rfl rfl
  replace G := own_istoreN (q := 24) (l' := #[.val (.ref a), .val (.int (((31 : Int32) * (((31 : Int32) * (((31 : Int32) * ((0 : Int32) + ec0)) + ec1)) + ec2)) + ec3)), .val (.int (3 : Int32))]) G X15.here hx (hb hby d14_23) rfl rfl
  replace G := own_iinc (q := 27) (l' := #[.val (.ref a), .val (.int (((31 : Int32) * (((31 : Int32) * (((31 : Int32) * ((0 : Int32) + ec0)) + ec1)) + ec2)) + ec3)), .val (.int (4 : Int32))]) (w := (1 : Int32)) G X15.here hx (hb hby d14_24) (by decide) rfl (by decide : ((3 : Int32) + (1 : Int32)) = (4 : Int32)) rfl rfl
  replace G := own_goto (q := 4) G X15.here hx (hb hby d14_27) (by decide) (by decide)
  replace G := own_iloadN (q := 5) G X15.here hx (hb hby d14_4) rfl rfl
  replace G := own_aloadN (q := 6) G X15.here hx (hb hby d14_5) rfl rfl rfl
  obtain ⟨T17, X17, e17, st17⟩ := getF X15 hx hZ hown (host := "") (Or.inl (hw _ (List.mem_of_getElem? (i := 27) rfl))) Via.refl e15 P1 (g := (mkF m 6 #[.val (.ref a), .val (.int (((31 : Int32) * (((31 : Int32) * (((31 : Int32) * ((0 : Int32) + ec0)) + ec1)) + ec2)) + ec3)), .val (.int (4 : Int32))] [(.ref a), (.int (4 : Int32))])) rfl rfl (hb hby d14_6)
  replace G : Gets p e below _ (T17.setTop (mkF m 9 #[.val (.ref a), .val (.int (((31 : Int32) * (((31 : Int32) * (((31 : Int32) * ((0 : Int32) + ec0)) + ec1)) + ec2)) + ec3)), .val (.int (4 : Int32))] [(.int (4 : Int32)), (.int (4 : Int32))])) := fun t k => G t (st17 t k)
  have hc9_18 : ¬ ((4 : Int32) < (4 : Int32)) := by decide
  replace G := own_icmpYes (q := 30) G X17.here hx (hb hby d14_9) (flt hc9_18).2.1 (by decide) (by decide)
  replace G := own_iloadN (q := 31) G X17.here hx (hb hby d14_30) rfl rfl
  obtain ⟨fs, hr, hrun, hended, hW, hsame⟩ := X17.leave (v := some (.int (((31 : Int32) * (((31 : Int32) * (((31 : Int32) * ((0 : Int32) + ec0)) + ec1)) + ec2)) + ec3))) (fun h => by rw [Bd.returns] at h; cases h)
  refine ⟨_, _, G _ (retOut X17 hx Bd.returns rfl (Or.inl ⟨rfl, Or.inl rfl, _, rfl⟩) (hb hby d14_31) hr), hrun, hended, _, _, rfl, ?_, ⟨_, rfl⟩, hW, hsame.mono (by decide) (by decide)⟩
  show Q14k4 Z a b kb ec0 ec1 ec2 ec3 h0 n0 _ T17.heap _
  rw [e17]
  exact ⟨rfl, N0, rfl⟩
theorem d15_0 : decode method_3_code 0 = .ok (.iload_n 0, 1) := by decide +kernel
theorem d15_1 : decode method_3_code 1 = .ok (.istore 5, 2) := by decide +kernel
theorem d15_3 : decode method_3_code 3 = .ok (.iload_n 1, 1) := by decide +kernel
theorem d15_4 : decode method_3_code 4 = .ok (.istore 6, 2) := by decide +kernel
theorem d15_6 : decode method_3_code 6 = .ok (.iload_n 2, 1) := by decide +kernel
theorem d15_7 : decode method_3_code 7 = .ok (.istore 7, 2) := by decide +kernel
theorem d15_9 : decode method_3_code 9 = .ok (.iload_n 3, 1) := by decide +kernel
theorem d15_10 : decode method_3_code 10 = .ok (.istore 8, 2) := by decide +kernel
theorem d15_12 : decode method_3_code 12 = .ok (.iload 4, 2) := by decide +kernel
theorem d15_14 : decode method_3_code 14 = .ok (.ifCond .ne 5, 3) := by decide +kernel
theorem d15_17 : decode method_3_code 17 = .ok (.iconst 0, 1) := by decide +kernel
theorem d15_18 : decode method_3_code 18 = .ok (.ireturn, 1) := by decide +kernel
theorem pn_com_example_leafcutter_leafcutter_io_TextBufferContentHashPinLaw : plainName "com/example/leafcutter/leafcutter/io/TextBufferContentHashPinLaw" = true := by first | (simp [plainName, overriddenIn]; done) | decide +kernel
theorem ef_15k0 (m : MethodId) (x0 : Int32) (x1 : Int32) (x2 : Int32) (x3 : Int32) : entryFrame m #[(.int x0), (.int x1), (.int x2), (.int x3), (.int (0 : Int32))] 9 = mkF m 0 #[.val (.int x0), .val (.int x1), .val (.int x2), .val (.int x3), .val (.int (0 : Int32)), .unset, .unset, .unset, .unset] [] := by first | (simp [entryFrame, mkF, argsToLocals, Value.category]; done) | rfl
def Q15k0 (Z : State) (x0 : Int32) (x1 : Int32) (x2 : Int32) (x3 : Int32) (h0 : Heap) (n0 : Nat) (v : Option Value) (h : Heap) (L : List Loc) : Prop := v = some (.int (0 : Int32)) ∧ Fr n0 L ∧ h = h0
set_option maxRecDepth 65536 in
set_option maxHeartbeats 40000000 in
theorem rm15k0 (l : Launch) (Z : State) (a0 : Array Value) (hw : ∀ d ∈ tables_1, d.before a0 Z = true) (ws : List Jvm.Cond) (x0 : Int32) (x1 : Int32) (x2 : Int32) (x3 : Int32) (h0 : Heap) (n0 : Nat) (Z0 : n0 ≤ h0.size)  :
    MetFree l (⟨"com/example/leafcutter/leafcutter/io/TextBufferContentHashPinLaw", "expected", "(CCCCI)I"⟩ : MethodName) (head1 (Jvm.Cond.code (⟨"com/example/leafcutter/leafcutter/io/TextBufferContentHashPinLaw", "expected", "(CCCCI)I"⟩ : MethodName) method_3_code 9 (some .int) :: ws) ({ frames := 0, cells := 0, slots := 0, locals := 0 } : Room)) (fun argz U => argz = #[(.int x0), (.int x1), (.int x2), (.int x3), (.int (0 : Int32))] ∧ Z.Warmed39 U.vm ∧ U.heap = h0) (fun _ _ _ _ _ => True) (fun _ U o U' => ∃ v L, o = .returned v ∧ Q15k0 Z x0 x1 x2 x3 h0 n0 v U'.heap L ∧ FrameEnd U o U' L ({ frames := 0, cells := 0, slots := 0, locals := 0 } : Room).cells ({ frames := 0, cells := 0, slots := 0, locals := 0 } : Room).slots) := by
  refine MetFree.of_bodySF (plainFor_of_name pn_com_example_leafcutter_leafcutter_io_TextBufferContentHashPinLaw) hisR ?_
  intro p e s m args below meth c s₁ Bd hml0 hP hK
  obtain ⟨rfl, hZ, hh⟩ := hP
  have hx := Bd.exec
  have hby := Bd.bytes
  have hml : c.maxLocals = 9 := hml0
  have hown : s.vm.findClass "com/example/leafcutter/leafcutter/io/TextBufferContentHashPinLaw" = some m.cls := findClass_of_methodNamed Bd.named
  have hnm := (name_of_methodNamed Bd.named Bd.method).1
  have X0 : Stand p l e ({ frames := 0, cells := 0, slots := 0, locals := 0 } : Room) s m #[(.int x0), (.int x1), (.int x2), (.int x3), (.int (0 : Int32))] below meth c s₁ [] 0 0 := Stand.of_body Bd
  have e0 : s₁.heap = h0 := by rw [← hh, Bd.state]; rfl
  have N0 := Fr.nil n0
  have G : Gets p e below (s₁.setTop (entryFrame m #[(.int x0), (.int x1), (.int x2), (.int x3), (.int (0 : Int32))] 9)) (s₁.setTop (mkF m 0 #[.val (.int x0), .val (.int x1), .val (.int x2), .val (.int x3), .val (.int (0 : Int32)), .unset, .unset, .unset, .unset] [])) := fun t k => castTop (ef_15k0 m x0 x1 x2 x3) k
  replace G := own_iloadN (q := 1) G X0.here hx (hb hby d15_0) rfl rfl
  replace G := own_istore (q := 3) (l' := #[.val (.int x0), .val (.int x1), .val (.int x2), .val (.int x3), .val (.int (0 : Int32)), .val (.int x0), .unset, .unset, .unset]) G X0.here hx (hb hby d15_1) rfl rfl
  replace G := own_iloadN (q := 4) G X0.here hx (hb hby d15_3) rfl rfl
  replace G := own_istore (q := 6) (l' := #[.val (.int x0), .val (.int x1), .val (.int x2), .val (.int x3), .val (.int (0 : Int32)), .val (.int x0), .val (.int x1), .unset, .unset]) G X0.here hx (hb hby d15_4) rfl rfl
  replace G := own_iloadN (q := 7) G X0.here hx (hb hby d15_6) rfl rfl
  replace G := own_istore (q := 9) (l' := #[.val (.int x0), .val (.int x1), .val (.int x2), .val (.int x3), .val (.int (0 : Int32)), .val (.int x0), .val (.int x1), .val (.int x2), .unset]) G X0.here hx (hb hby d15_7) rfl rfl
  replace G := own_iloadN (q := 10) G X0.here hx (hb hby d15_9) rfl rfl
  replace G := own_istore (q := 12) (l' := #[.val (.int x0), .val (.int x1), .val (.int x2), .val (.int x3), .val (.int (0 : Int32)), .val (.int x0), .val (.int x1), .val (.int x2), .val (.int x3)]) G X0.here hx (hb hby d15_10) rfl rfl
  replace G := own_iload (q := 14) G X0.here hx (hb hby d15_12) rfl rfl
  have hc14_1 : (0 : Int32) = (0 : Int32) := by decide
  replace G := own_ifNo (q := 17) G X0.here hx (hb hby d15_14) ((if0 _ _).trans (teq hc14_1).2) rfl
  replace G := own_iconst (q := 18) G X0.here hx (hb hby d15_17) (v := (0 : Int32)) (by decide) rfl
  obtain ⟨fs, hr, hrun, hended, hW, hsame⟩ := X0.leave (v := some (.int (0 : Int32))) (fun h => by rw [Bd.returns] at h; cases h)
  refine ⟨_, _, G _ (retOut X0 hx Bd.returns rfl (Or.inl ⟨rfl, Or.inl rfl, _, rfl⟩) (hb hby d15_18) hr), hrun, hended, _, _, rfl, ?_, ⟨_, rfl⟩, hW, hsame.mono (by decide) (by decide)⟩
  show Q15k0 Z x0 x1 x2 x3 h0 n0 _ s₁.heap _
  rw [e0]
  exact ⟨rfl, N0, rfl⟩
theorem d15_19 : decode method_3_code 19 = .ok (.iload 4, 2) := by decide +kernel
theorem d15_21 : decode method_3_code 21 = .ok (.iconst 1, 1) := by decide +kernel
theorem d15_22 : decode method_3_code 22 = .ok (.if_icmp .ne 6, 3) := by decide +kernel
theorem d15_25 : decode method_3_code 25 = .ok (.iload 5, 2) := by decide +kernel
theorem d15_27 : decode method_3_code 27 = .ok (.ireturn, 1) := by decide +kernel
theorem ef_15k1 (m : MethodId) (x0 : Int32) (x1 : Int32) (x2 : Int32) (x3 : Int32) : entryFrame m #[(.int x0), (.int x1), (.int x2), (.int x3), (.int (1 : Int32))] 9 = mkF m 0 #[.val (.int x0), .val (.int x1), .val (.int x2), .val (.int x3), .val (.int (1 : Int32)), .unset, .unset, .unset, .unset] [] := by first | (simp [entryFrame, mkF, argsToLocals, Value.category]; done) | rfl
def Q15k1 (Z : State) (x0 : Int32) (x1 : Int32) (x2 : Int32) (x3 : Int32) (h0 : Heap) (n0 : Nat) (v : Option Value) (h : Heap) (L : List Loc) : Prop := v = some (.int x0) ∧ Fr n0 L ∧ h = h0
set_option maxRecDepth 65536 in
set_option maxHeartbeats 40000000 in
theorem rm15k1 (l : Launch) (Z : State) (a0 : Array Value) (hw : ∀ d ∈ tables_1, d.before a0 Z = true) (ws : List Jvm.Cond) (x0 : Int32) (x1 : Int32) (x2 : Int32) (x3 : Int32) (h0 : Heap) (n0 : Nat) (Z0 : n0 ≤ h0.size)  :
    MetFree l (⟨"com/example/leafcutter/leafcutter/io/TextBufferContentHashPinLaw", "expected", "(CCCCI)I"⟩ : MethodName) (head1 (Jvm.Cond.code (⟨"com/example/leafcutter/leafcutter/io/TextBufferContentHashPinLaw", "expected", "(CCCCI)I"⟩ : MethodName) method_3_code 9 (some .int) :: ws) ({ frames := 0, cells := 0, slots := 0, locals := 0 } : Room)) (fun argz U => argz = #[(.int x0), (.int x1), (.int x2), (.int x3), (.int (1 : Int32))] ∧ Z.Warmed39 U.vm ∧ U.heap = h0) (fun _ _ _ _ _ => True) (fun _ U o U' => ∃ v L, o = .returned v ∧ Q15k1 Z x0 x1 x2 x3 h0 n0 v U'.heap L ∧ FrameEnd U o U' L ({ frames := 0, cells := 0, slots := 0, locals := 0 } : Room).cells ({ frames := 0, cells := 0, slots := 0, locals := 0 } : Room).slots) := by
  refine MetFree.of_bodySF (plainFor_of_name pn_com_example_leafcutter_leafcutter_io_TextBufferContentHashPinLaw) hisR ?_
  intro p e s m args below meth c s₁ Bd hml0 hP hK
  obtain ⟨rfl, hZ, hh⟩ := hP
  have hx := Bd.exec
  have hby := Bd.bytes
  have hml : c.maxLocals = 9 := hml0
  have hown : s.vm.findClass "com/example/leafcutter/leafcutter/io/TextBufferContentHashPinLaw" = some m.cls := findClass_of_methodNamed Bd.named
  have hnm := (name_of_methodNamed Bd.named Bd.method).1
  have X0 : Stand p l e ({ frames := 0, cells := 0, slots := 0, locals := 0 } : Room) s m #[(.int x0), (.int x1), (.int x2), (.int x3), (.int (1 : Int32))] below meth c s₁ [] 0 0 := Stand.of_body Bd
  have e0 : s₁.heap = h0 := by rw [← hh, Bd.state]; rfl
  have N0 := Fr.nil n0
  have G : Gets p e below (s₁.setTop (entryFrame m #[(.int x0), (.int x1), (.int x2), (.int x3), (.int (1 : Int32))] 9)) (s₁.setTop (mkF m 0 #[.val (.int x0), .val (.int x1), .val (.int x2), .val (.int x3), .val (.int (1 : Int32)), .unset, .unset, .unset, .unset] [])) := fun t k => castTop (ef_15k1 m x0 x1 x2 x3) k
  replace G := own_iloadN (q := 1) G X0.here hx (hb hby d15_0) rfl rfl
  replace G := own_istore (q := 3) (l' := #[.val (.int x0), .val (.int x1), .val (.int x2), .val (.int x3), .val (.int (1 : Int32)), .val (.int x0), .unset, .unset, .unset]) G X0.here hx (hb hby d15_1) rfl rfl
  replace G := own_iloadN (q := 4) G X0.here hx (hb hby d15_3) rfl rfl
  replace G := own_istore (q := 6) (l' := #[.val (.int x0), .val (.int x1), .val (.int x2), .val (.int x3), .val (.int (1 : Int32)), .val (.int x0), .val (.int x1), .unset, .unset]) G X0.here hx (hb hby d15_4) rfl rfl
  replace G := own_iloadN (q := 7) G X0.here hx (hb hby d15_6) rfl rfl
  replace G := own_istore (q := 9) (l' := #[.val (.int x0), .val (.int x1), .val (.int x2), .val (.int x3), .val (.int (1 : Int32)), .val (.int x0), .val (.int x1), .val (.int x2), .unset]) G X0.here hx (hb hby d15_7) rfl rfl
  replace G := own_iloadN (q := 10) G X0.here hx (hb hby d15_9) rfl rfl
  replace G := own_istore (q := 12) (l' := #[.val (.int x0), .val (.int x1), .val (.int x2), .val (.int x3), .val (.int (1 : Int32)), .val (.int x0), .val (.int x1), .val (.int x2), .val (.int x3)]) G X0.here hx (hb hby d15_10) rfl rfl
  replace G := own_iload (q := 14) G X0.here hx (hb hby d15_12) rfl rfl
  have hc14_1 : ¬ ((1 : Int32) = (0 : Int32)) := by decide
  replace G := own_ifYes (q := 19) G X0.here hx (hb hby d15_14) ((if0 _ _).trans (feq hc14_1).2) (by decide) (by decide)
  replace G := own_iload (q := 21) G X0.here hx (hb hby d15_19) rfl rfl
  replace G := own_iconst (q := 22) G X0.here hx (hb hby d15_21) (v := (1 : Int32)) (by decide) rfl
  have hc22_2 : (1 : Int32) = (1 : Int32) := by decide
  replace G := own_icmpNo (q := 25) G X0.here hx (hb hby d15_22) (teq hc22_2).2 rfl
  replace G := own_iload (q := 27) G X0.here hx (hb hby d15_25) rfl rfl
  obtain ⟨fs, hr, hrun, hended, hW, hsame⟩ := X0.leave (v := some (.int x0)) (fun h => by rw [Bd.returns] at h; cases h)
  refine ⟨_, _, G _ (retOut X0 hx Bd.returns rfl (Or.inl ⟨rfl, Or.inl rfl, _, rfl⟩) (hb hby d15_27) hr), hrun, hended, _, _, rfl, ?_, ⟨_, rfl⟩, hW, hsame.mono (by decide) (by decide)⟩
  show Q15k1 Z x0 x1 x2 x3 h0 n0 _ s₁.heap _
  rw [e0]
  exact ⟨rfl, N0, rfl⟩
theorem d15_28 : decode method_3_code 28 = .ok (.iload 4, 2) := by decide +kernel
theorem d15_30 : decode method_3_code 30 = .ok (.iconst 2, 1) := by decide +kernel
theorem d15_31 : decode method_3_code 31 = .ok (.if_icmp .ne 12, 3) := by decide +kernel
theorem d15_34 : decode method_3_code 34 = .ok (.iload 5, 2) := by decide +kernel
theorem d15_36 : decode method_3_code 36 = .ok (.bipush 31, 2) := by decide +kernel
theorem d15_38 : decode method_3_code 38 = .ok (.imul, 1) := by decide +kernel
theorem d15_39 : decode method_3_code 39 = .ok (.iload 6, 2) := by decide +kernel
theorem d15_41 : decode method_3_code 41 = .ok (.iadd, 1) := by decide +kernel
theorem d15_42 : decode method_3_code 42 = .ok (.ireturn, 1) := by decide +kernel
theorem ef_15k2 (m : MethodId) (x0 : Int32) (x1 : Int32) (x2 : Int32) (x3 : Int32) : entryFrame m #[(.int x0), (.int x1), (.int x2), (.int x3), (.int (2 : Int32))] 9 = mkF m 0 #[.val (.int x0), .val (.int x1), .val (.int x2), .val (.int x3), .val (.int (2 : Int32)), .unset, .unset, .unset, .unset] [] := by first | (simp [entryFrame, mkF, argsToLocals, Value.category]; done) | rfl
def Q15k2 (Z : State) (x0 : Int32) (x1 : Int32) (x2 : Int32) (x3 : Int32) (h0 : Heap) (n0 : Nat) (v : Option Value) (h : Heap) (L : List Loc) : Prop := v = some (.int ((x0 * (31 : Int32)) + x1)) ∧ Fr n0 L ∧ h = h0
set_option maxRecDepth 65536 in
set_option maxHeartbeats 40000000 in
theorem rm15k2 (l : Launch) (Z : State) (a0 : Array Value) (hw : ∀ d ∈ tables_1, d.before a0 Z = true) (ws : List Jvm.Cond) (x0 : Int32) (x1 : Int32) (x2 : Int32) (x3 : Int32) (h0 : Heap) (n0 : Nat) (Z0 : n0 ≤ h0.size)  :
    MetFree l (⟨"com/example/leafcutter/leafcutter/io/TextBufferContentHashPinLaw", "expected", "(CCCCI)I"⟩ : MethodName) (head1 (Jvm.Cond.code (⟨"com/example/leafcutter/leafcutter/io/TextBufferContentHashPinLaw", "expected", "(CCCCI)I"⟩ : MethodName) method_3_code 9 (some .int) :: ws) ({ frames := 0, cells := 0, slots := 0, locals := 0 } : Room)) (fun argz U => argz = #[(.int x0), (.int x1), (.int x2), (.int x3), (.int (2 : Int32))] ∧ Z.Warmed39 U.vm ∧ U.heap = h0) (fun _ _ _ _ _ => True) (fun _ U o U' => ∃ v L, o = .returned v ∧ Q15k2 Z x0 x1 x2 x3 h0 n0 v U'.heap L ∧ FrameEnd U o U' L ({ frames := 0, cells := 0, slots := 0, locals := 0 } : Room).cells ({ frames := 0, cells := 0, slots := 0, locals := 0 } : Room).slots) := by
  refine MetFree.of_bodySF (plainFor_of_name pn_com_example_leafcutter_leafcutter_io_TextBufferContentHashPinLaw) hisR ?_
  intro p e s m args below meth c s₁ Bd hml0 hP hK
  obtain ⟨rfl, hZ, hh⟩ := hP
  have hx := Bd.exec
  have hby := Bd.bytes
  have hml : c.maxLocals = 9 := hml0
  have hown : s.vm.findClass "com/example/leafcutter/leafcutter/io/TextBufferContentHashPinLaw" = some m.cls := findClass_of_methodNamed Bd.named
  have hnm := (name_of_methodNamed Bd.named Bd.method).1
  have X0 : Stand p l e ({ frames := 0, cells := 0, slots := 0, locals := 0 } : Room) s m #[(.int x0), (.int x1), (.int x2), (.int x3), (.int (2 : Int32))] below meth c s₁ [] 0 0 := Stand.of_body Bd
  have e0 : s₁.heap = h0 := by rw [← hh, Bd.state]; rfl
  have N0 := Fr.nil n0
  have G : Gets p e below (s₁.setTop (entryFrame m #[(.int x0), (.int x1), (.int x2), (.int x3), (.int (2 : Int32))] 9)) (s₁.setTop (mkF m 0 #[.val (.int x0), .val (.int x1), .val (.int x2), .val (.int x3), .val (.int (2 : Int32)), .unset, .unset, .unset, .unset] [])) := fun t k => castTop (ef_15k2 m x0 x1 x2 x3) k
  replace G := own_iloadN (q := 1) G X0.here hx (hb hby d15_0) rfl rfl
  replace G := own_istore (q := 3) (l' := #[.val (.int x0), .val (.int x1), .val (.int x2), .val (.int x3), .val (.int (2 : Int32)), .val (.int x0), .unset, .unset, .unset]) G X0.here hx (hb hby d15_1) rfl rfl
  replace G := own_iloadN (q := 4) G X0.here hx (hb hby d15_3) rfl rfl
  replace G := own_istore (q := 6) (l' := #[.val (.int x0), .val (.int x1), .val (.int x2), .val (.int x3), .val (.int (2 : Int32)), .val (.int x0), .val (.int x1), .unset, .unset]) G X0.here hx (hb hby d15_4) rfl rfl
  replace G := own_iloadN (q := 7) G X0.here hx (hb hby d15_6) rfl rfl
  replace G := own_istore (q := 9) (l' := #[.val (.int x0), .val (.int x1), .val (.int x2), .val (.int x3), .val (.int (2 : Int32)), .val (.int x0), .val (.int x1), .val (.int x2), .unset]) G X0.here hx (hb hby d15_7) rfl rfl
  replace G := own_iloadN (q := 10) G X0.here hx (hb hby d15_9) rfl rfl
  replace G := own_istore (q := 12) (l' := #[.val (.int x0), .val (.int x1), .val (.int x2), .val (.int x3), .val (.int (2 : Int32)), .val (.int x0), .val (.int x1), .val (.int x2), .val (.int x3)]) G X0.here hx (hb hby d15_10) rfl rfl
  replace G := own_iload (q := 14) G X0.here hx (hb hby d15_12) rfl rfl
  have hc14_1 : ¬ ((2 : Int32) = (0 : Int32)) := by decide
  replace G := own_ifYes (q := 19) G X0.here hx (hb hby d15_14) ((if0 _ _).trans (feq hc14_1).2) (by decide) (by decide)
  replace G := own_iload (q := 21) G X0.here hx (hb hby d15_19) rfl rfl
  replace G := own_iconst (q := 22) G X0.here hx (hb hby d15_21) (v := (1 : Int32)) (by decide) rfl
  have hc22_2 : ¬ ((2 : Int32) = (1 : Int32)) := by decide
  replace G := own_icmpYes (q := 28) G X0.here hx (hb hby d15_22) (feq hc22_2).2 (by decide) (by decide)
  replace G := own_iload (q := 30) G X0.here hx (hb hby d15_28) rfl rfl
  replace G := own_iconst (q := 31) G X0.here hx (hb hby d15_30) (v := (2 : Int32)) (by decide) rfl
  have hc31_3 : (2 : Int32) = (2 : Int32) := by decide
  replace G := own_icmpNo (q := 34) G X0.here hx (hb hby d15_31) (teq hc31_3).2 rfl
  replace G := own_iload (q := 36) G X0.here hx (hb hby d15_34) rfl rfl
  replace G := own_bipush (q := 38) G X0.here hx (hb hby d15_36) (v := (31 : Int32)) (by decide) rfl
  replace G := own_imul (q := 39) G X0.here hx (hb hby d15_38) rfl rfl
  replace G := own_iload (q := 41) G X0.here hx (hb hby d15_39) rfl rfl
  replace G := own_iadd (q := 42) G X0.here hx (hb hby d15_41) rfl rfl
  obtain ⟨fs, hr, hrun, hended, hW, hsame⟩ := X0.leave (v := some (.int ((x0 * (31 : Int32)) + x1))) (fun h => by rw [Bd.returns] at h; cases h)
  refine ⟨_, _, G _ (retOut X0 hx Bd.returns rfl (Or.inl ⟨rfl, Or.inl rfl, _, rfl⟩) (hb hby d15_42) hr), hrun, hended, _, _, rfl, ?_, ⟨_, rfl⟩, hW, hsame.mono (by decide) (by decide)⟩
  show Q15k2 Z x0 x1 x2 x3 h0 n0 _ s₁.heap _
  rw [e0]
  exact ⟨rfl, N0, rfl⟩
theorem d15_43 : decode method_3_code 43 = .ok (.iload 4, 2) := by decide +kernel
theorem d15_45 : decode method_3_code 45 = .ok (.iconst 3, 1) := by decide +kernel
theorem d15_46 : decode method_3_code 46 = .ok (.if_icmp .ne 19, 3) := by decide +kernel
theorem d15_49 : decode method_3_code 49 = .ok (.iload 5, 2) := by decide +kernel
theorem d15_51 : decode method_3_code 51 = .ok (.sipush 961, 3) := by decide +kernel
theorem d15_54 : decode method_3_code 54 = .ok (.imul, 1) := by decide +kernel
theorem d15_55 : decode method_3_code 55 = .ok (.iload 6, 2) := by decide +kernel
theorem d15_57 : decode method_3_code 57 = .ok (.bipush 31, 2) := by decide +kernel
theorem d15_59 : decode method_3_code 59 = .ok (.imul, 1) := by decide +kernel
theorem d15_60 : decode method_3_code 60 = .ok (.iadd, 1) := by decide +kernel
theorem d15_61 : decode method_3_code 61 = .ok (.iload 7, 2) := by decide +kernel
theorem d15_63 : decode method_3_code 63 = .ok (.iadd, 1) := by decide +kernel
theorem d15_64 : decode method_3_code 64 = .ok (.ireturn, 1) := by decide +kernel
theorem ef_15k3 (m : MethodId) (x0 : Int32) (x1 : Int32) (x2 : Int32) (x3 : Int32) : entryFrame m #[(.int x0), (.int x1), (.int x2), (.int x3), (.int (3 : Int32))] 9 = mkF m 0 #[.val (.int x0), .val (.int x1), .val (.int x2), .val (.int x3), .val (.int (3 : Int32)), .unset, .unset, .unset, .unset] [] := by first | (simp [entryFrame, mkF, argsToLocals, Value.category]; done) | rfl
def Q15k3 (Z : State) (x0 : Int32) (x1 : Int32) (x2 : Int32) (x3 : Int32) (h0 : Heap) (n0 : Nat) (v : Option Value) (h : Heap) (L : List Loc) : Prop := v = some (.int (((x0 * (961 : Int32)) + (x1 * (31 : Int32))) + x2)) ∧ Fr n0 L ∧ h = h0
set_option maxRecDepth 65536 in
set_option maxHeartbeats 40000000 in
theorem rm15k3 (l : Launch) (Z : State) (a0 : Array Value) (hw : ∀ d ∈ tables_1, d.before a0 Z = true) (ws : List Jvm.Cond) (x0 : Int32) (x1 : Int32) (x2 : Int32) (x3 : Int32) (h0 : Heap) (n0 : Nat) (Z0 : n0 ≤ h0.size)  :
    MetFree l (⟨"com/example/leafcutter/leafcutter/io/TextBufferContentHashPinLaw", "expected", "(CCCCI)I"⟩ : MethodName) (head1 (Jvm.Cond.code (⟨"com/example/leafcutter/leafcutter/io/TextBufferContentHashPinLaw", "expected", "(CCCCI)I"⟩ : MethodName) method_3_code 9 (some .int) :: ws) ({ frames := 0, cells := 0, slots := 0, locals := 0 } : Room)) (fun argz U => argz = #[(.int x0), (.int x1), (.int x2), (.int x3), (.int (3 : Int32))] ∧ Z.Warmed39 U.vm ∧ U.heap = h0) (fun _ _ _ _ _ => True) (fun _ U o U' => ∃ v L, o = .returned v ∧ Q15k3 Z x0 x1 x2 x3 h0 n0 v U'.heap L ∧ FrameEnd U o U' L ({ frames := 0, cells := 0, slots := 0, locals := 0 } : Room).cells ({ frames := 0, cells := 0, slots := 0, locals := 0 } : Room).slots) := by
  refine MetFree.of_bodySF (plainFor_of_name pn_com_example_leafcutter_leafcutter_io_TextBufferContentHashPinLaw) hisR ?_
  intro p e s m args below meth c s₁ Bd hml0 hP hK
  obtain ⟨rfl, hZ, hh⟩ := hP
  have hx := Bd.exec
  have hby := Bd.bytes
  have hml : c.maxLocals = 9 := hml0
  have hown : s.vm.findClass "com/example/leafcutter/leafcutter/io/TextBufferContentHashPinLaw" = some m.cls := findClass_of_methodNamed Bd.named
  have hnm := (name_of_methodNamed Bd.named Bd.method).1
  have X0 : Stand p l e ({ frames := 0, cells := 0, slots := 0, locals := 0 } : Room) s m #[(.int x0), (.int x1), (.int x2), (.int x3), (.int (3 : Int32))] below meth c s₁ [] 0 0 := Stand.of_body Bd
  have e0 : s₁.heap = h0 := by rw [← hh, Bd.state]; rfl
  have N0 := Fr.nil n0
  have G : Gets p e below (s₁.setTop (entryFrame m #[(.int x0), (.int x1), (.int x2), (.int x3), (.int (3 : Int32))] 9)) (s₁.setTop (mkF m 0 #[.val (.int x0), .val (.int x1), .val (.int x2), .val (.int x3), .val (.int (3 : Int32)), .unset, .unset, .unset, .unset] [])) := fun t k => castTop (ef_15k3 m x0 x1 x2 x3) k
  replace G := own_iloadN (q := 1) G X0.here hx (hb hby d15_0) rfl rfl
  replace G := own_istore (q := 3) (l' := #[.val (.int x0), .val (.int x1), .val (.int x2), .val (.int x3), .val (.int (3 : Int32)), .val (.int x0), .unset, .unset, .unset]) G X0.here hx (hb hby d15_1) rfl rfl
  replace G := own_iloadN (q := 4) G X0.here hx (hb hby d15_3) rfl rfl
  replace G := own_istore (q := 6) (l' := #[.val (.int x0), .val (.int x1), .val (.int x2), .val (.int x3), .val (.int (3 : Int32)), .val (.int x0), .val (.int x1), .unset, .unset]) G X0.here hx (hb hby d15_4) rfl rfl
  replace G := own_iloadN (q := 7) G X0.here hx (hb hby d15_6) rfl rfl
  replace G := own_istore (q := 9) (l' := #[.val (.int x0), .val (.int x1), .val (.int x2), .val (.int x3), .val (.int (3 : Int32)), .val (.int x0), .val (.int x1), .val (.int x2), .unset]) G X0.here hx (hb hby d15_7) rfl rfl
  replace G := own_iloadN (q := 10) G X0.here hx (hb hby d15_9) rfl rfl
  replace G := own_istore (q := 12) (l' := #[.val (.int x0), .val (.int x1), .val (.int x2), .val (.int x3), .val (.int (3 : Int32)), .val (.int x0), .val (.int x1), .val (.int x2), .val (.int x3)]) G X0.here hx (hb hby d15_10) rfl rfl
  replace G := own_iload (q := 14) G X0.here hx (hb hby d15_12) rfl rfl
  have hc14_1 : ¬ ((3 : Int32) = (0 : Int32)) := by decide
  replace G := own_ifYes (q := 19) G X0.here hx (hb hby d15_14) ((if0 _ _).trans (feq hc14_1).2) (by decide) (by decide)
  replace G := own_iload (q := 21) G X0.here hx (hb hby d15_19) rfl rfl
  replace G := own_iconst (q := 22) G X0.here hx (hb hby d15_21) (v := (1 : Int32)) (by decide) rfl
  have hc22_2 : ¬ ((3 : Int32) = (1 : Int32)) := by decide
  replace G := own_icmpYes (q := 28) G X0.here hx (hb hby d15_22) (feq hc22_2).2 (by decide) (by decide)
  replace G := own_iload (q := 30) G X0.here hx (hb hby d15_28) rfl rfl
  replace G := own_iconst (q := 31) G X0.here hx (hb hby d15_30) (v := (2 : Int32)) (by decide) rfl
  have hc31_3 : ¬ ((3 : Int32) = (2 : Int32)) := by decide
  replace G := own_icmpYes (q := 43) G X0.here hx (hb hby d15_31) (feq hc31_3).2 (by decide) (by decide)
  replace G := own_iload (q := 45) G X0.here hx (hb hby d15_43) rfl rfl
  replace G := own_iconst (q := 46) G X0.here hx (hb hby d15_45) (v := (3 : Int32)) (by decide) rfl
  have hc46_4 : (3 : Int32) = (3 : Int32) := by decide
  replace G := own_icmpNo (q := 49) G X0.here hx (hb hby d15_46) (teq hc46_4).2 rfl
  replace G := own_iload (q := 51) G X0.here hx (hb hby d15_49) rfl rfl
  replace G := own_sipush (q := 54) G X0.here hx (hb hby d15_51) (v := (961 : Int32)) (by decide) rfl
  replace G := own_imul (q := 55) G X0.here hx (hb hby d15_54) rfl rfl
  replace G := own_iload (q := 57) G X0.here hx (hb hby d15_55) rfl rfl
  replace G := own_bipush (q := 59) G X0.here hx (hb hby d15_57) (v := (31 : Int32)) (by decide) rfl
  replace G := own_imul (q := 60) G X0.here hx (hb hby d15_59) rfl rfl
  replace G := own_iadd (q := 61) G X0.here hx (hb hby d15_60) rfl rfl
  replace G := own_iload (q := 63) G X0.here hx (hb hby d15_61) rfl rfl
  replace G := own_iadd (q := 64) G X0.here hx (hb hby d15_63) rfl rfl
  obtain ⟨fs, hr, hrun, hended, hW, hsame⟩ := X0.leave (v := some (.int (((x0 * (961 : Int32)) + (x1 * (31 : Int32))) + x2))) (fun h => by rw [Bd.returns] at h; cases h)
  refine ⟨_, _, G _ (retOut X0 hx Bd.returns rfl (Or.inl ⟨rfl, Or.inl rfl, _, rfl⟩) (hb hby d15_64) hr), hrun, hended, _, _, rfl, ?_, ⟨_, rfl⟩, hW, hsame.mono (by decide) (by decide)⟩
  show Q15k3 Z x0 x1 x2 x3 h0 n0 _ s₁.heap _
  rw [e0]
  exact ⟨rfl, N0, rfl⟩
theorem d15_65 : decode method_3_code 65 = .ok (.iload 5, 2) := by decide +kernel
theorem d15_67 : decode method_3_code 67 = .ok (.sipush 29791, 3) := by decide +kernel
theorem d15_70 : decode method_3_code 70 = .ok (.imul, 1) := by decide +kernel
theorem d15_71 : decode method_3_code 71 = .ok (.iload 6, 2) := by decide +kernel
theorem d15_73 : decode method_3_code 73 = .ok (.sipush 961, 3) := by decide +kernel
theorem d15_76 : decode method_3_code 76 = .ok (.imul, 1) := by decide +kernel
theorem d15_77 : decode method_3_code 77 = .ok (.iadd, 1) := by decide +kernel
theorem d15_78 : decode method_3_code 78 = .ok (.iload 7, 2) := by decide +kernel
theorem d15_80 : decode method_3_code 80 = .ok (.bipush 31, 2) := by decide +kernel
theorem d15_82 : decode method_3_code 82 = .ok (.imul, 1) := by decide +kernel
theorem d15_83 : decode method_3_code 83 = .ok (.iadd, 1) := by decide +kernel
theorem d15_84 : decode method_3_code 84 = .ok (.iload 8, 2) := by decide +kernel
theorem d15_86 : decode method_3_code 86 = .ok (.iadd, 1) := by decide +kernel
theorem d15_87 : decode method_3_code 87 = .ok (.ireturn, 1) := by decide +kernel
theorem ef_15k4 (m : MethodId) (x0 : Int32) (x1 : Int32) (x2 : Int32) (x3 : Int32) : entryFrame m #[(.int x0), (.int x1), (.int x2), (.int x3), (.int (4 : Int32))] 9 = mkF m 0 #[.val (.int x0), .val (.int x1), .val (.int x2), .val (.int x3), .val (.int (4 : Int32)), .unset, .unset, .unset, .unset] [] := by first | (simp [entryFrame, mkF, argsToLocals, Value.category]; done) | rfl
def Q15k4 (Z : State) (x0 : Int32) (x1 : Int32) (x2 : Int32) (x3 : Int32) (h0 : Heap) (n0 : Nat) (v : Option Value) (h : Heap) (L : List Loc) : Prop := v = some (.int ((((x0 * (29791 : Int32)) + (x1 * (961 : Int32))) + (x2 * (31 : Int32))) + x3)) ∧ Fr n0 L ∧ h = h0
set_option maxRecDepth 65536 in
set_option maxHeartbeats 40000000 in
theorem rm15k4 (l : Launch) (Z : State) (a0 : Array Value) (hw : ∀ d ∈ tables_1, d.before a0 Z = true) (ws : List Jvm.Cond) (x0 : Int32) (x1 : Int32) (x2 : Int32) (x3 : Int32) (h0 : Heap) (n0 : Nat) (Z0 : n0 ≤ h0.size)  :
    MetFree l (⟨"com/example/leafcutter/leafcutter/io/TextBufferContentHashPinLaw", "expected", "(CCCCI)I"⟩ : MethodName) (head1 (Jvm.Cond.code (⟨"com/example/leafcutter/leafcutter/io/TextBufferContentHashPinLaw", "expected", "(CCCCI)I"⟩ : MethodName) method_3_code 9 (some .int) :: ws) ({ frames := 0, cells := 0, slots := 0, locals := 0 } : Room)) (fun argz U => argz = #[(.int x0), (.int x1), (.int x2), (.int x3), (.int (4 : Int32))] ∧ Z.Warmed39 U.vm ∧ U.heap = h0) (fun _ _ _ _ _ => True) (fun _ U o U' => ∃ v L, o = .returned v ∧ Q15k4 Z x0 x1 x2 x3 h0 n0 v U'.heap L ∧ FrameEnd U o U' L ({ frames := 0, cells := 0, slots := 0, locals := 0 } : Room).cells ({ frames := 0, cells := 0, slots := 0, locals := 0 } : Room).slots) := by
  refine MetFree.of_bodySF (plainFor_of_name pn_com_example_leafcutter_leafcutter_io_TextBufferContentHashPinLaw) hisR ?_
  intro p e s m args below meth c s₁ Bd hml0 hP hK
  obtain ⟨rfl, hZ, hh⟩ := hP
  have hx := Bd.exec
  have hby := Bd.bytes
  have hml : c.maxLocals = 9 := hml0
  have hown : s.vm.findClass "com/example/leafcutter/leafcutter/io/TextBufferContentHashPinLaw" = some m.cls := findClass_of_methodNamed Bd.named
  have hnm := (name_of_methodNamed Bd.named Bd.method).1
  have X0 : Stand p l e ({ frames := 0, cells := 0, slots := 0, locals := 0 } : Room) s m #[(.int x0), (.int x1), (.int x2), (.int x3), (.int (4 : Int32))] below meth c s₁ [] 0 0 := Stand.of_body Bd
  have e0 : s₁.heap = h0 := by rw [← hh, Bd.state]; rfl
  have N0 := Fr.nil n0
  have G : Gets p e below (s₁.setTop (entryFrame m #[(.int x0), (.int x1), (.int x2), (.int x3), (.int (4 : Int32))] 9)) (s₁.setTop (mkF m 0 #[.val (.int x0), .val (.int x1), .val (.int x2), .val (.int x3), .val (.int (4 : Int32)), .unset, .unset, .unset, .unset] [])) := fun t k => castTop (ef_15k4 m x0 x1 x2 x3) k
  replace G := own_iloadN (q := 1) G X0.here hx (hb hby d15_0) rfl rfl
  replace G := own_istore (q := 3) (l' := #[.val (.int x0), .val (.int x1), .val (.int x2), .val (.int x3), .val (.int (4 : Int32)), .val (.int x0), .unset, .unset, .unset]) G X0.here hx (hb hby d15_1) rfl rfl
  replace G := own_iloadN (q := 4) G X0.here hx (hb hby d15_3) rfl rfl
  replace G := own_istore (q := 6) (l' := #[.val (.int x0), .val (.int x1), .val (.int x2), .val (.int x3), .val (.int (4 : Int32)), .val (.int x0), .val (.int x1), .unset, .unset]) G X0.here hx (hb hby d15_4) rfl rfl
  replace G := own_iloadN (q := 7) G X0.here hx (hb hby d15_6) rfl rfl
  replace G := own_istore (q := 9) (l' := #[.val (.int x0), .val (.int x1), .val (.int x2), .val (.int x3), .val (.int (4 : Int32)), .val (.int x0), .val (.int x1), .val (.int x2), .unset]) G X0.here hx (hb hby d15_7) rfl rfl
  replace G := own_iloadN (q := 10) G X0.here hx (hb hby d15_9) rfl rfl
  replace G := own_istore (q := 12) (l' := #[.val (.int x0), .val (.int x1), .val (.int x2), .val (.int x3), .val (.int (4 : Int32)), .val (.int x0), .val (.int x1), .val (.int x2), .val (.int x3)]) G X0.here hx (hb hby d15_10) rfl rfl
  replace G := own_iload (q := 14) G X0.here hx (hb hby d15_12) rfl rfl
  have hc14_1 : ¬ ((4 : Int32) = (0 : Int32)) := by decide
  replace G := own_ifYes (q := 19) G X0.here hx (hb hby d15_14) ((if0 _ _).trans (feq hc14_1).2) (by decide) (by decide)
  replace G := own_iload (q := 21) G X0.here hx (hb hby d15_19) rfl rfl
  replace G := own_iconst (q := 22) G X0.here hx (hb hby d15_21) (v := (1 : Int32)) (by decide) rfl
  have hc22_2 : ¬ ((4 : Int32) = (1 : Int32)) := by decide
  replace G := own_icmpYes (q := 28) G X0.here hx (hb hby d15_22) (feq hc22_2).2 (by decide) (by decide)
  replace G := own_iload (q := 30) G X0.here hx (hb hby d15_28) rfl rfl
  replace G := own_iconst (q := 31) G X0.here hx (hb hby d15_30) (v := (2 : Int32)) (by decide) rfl
  have hc31_3 : ¬ ((4 : Int32) = (2 : Int32)) := by decide
  replace G := own_icmpYes (q := 43) G X0.here hx (hb hby d15_31) (feq hc31_3).2 (by decide) (by decide)
  replace G := own_iload (q := 45) G X0.here hx (hb hby d15_43) rfl rfl
  replace G := own_iconst (q := 46) G X0.here hx (hb hby d15_45) (v := (3 : Int32)) (by decide) rfl
  have hc46_4 : ¬ ((4 : Int32) = (3 : Int32)) := by decide
  replace G := own_icmpYes (q := 65) G X0.here hx (hb hby d15_46) (feq hc46_4).2 (by decide) (by decide)
  replace G := own_iload (q := 67) G X0.here hx (hb hby d15_65) rfl rfl
  replace G := own_sipush (q := 70) G X0.here hx (hb hby d15_67) (v := (29791 : Int32)) (by decide) rfl
  replace G := own_imul (q := 71) G X0.here hx (hb hby d15_70) rfl rfl
  replace G := own_iload (q := 73) G X0.here hx (hb hby d15_71) rfl rfl
  replace G := own_sipush (q := 76) G X0.here hx (hb hby d15_73) (v := (961 : Int32)) (by decide) rfl
  replace G := own_imul (q := 77) G X0.here hx (hb hby d15_76) rfl rfl
  replace G := own_iadd (q := 78) G X0.here hx (hb hby d15_77) rfl rfl
  replace G := own_iload (q := 80) G X0.here hx (hb hby d15_78) rfl rfl
  replace G := own_bipush (q := 82) G X0.here hx (hb hby d15_80) (v := (31 : Int32)) (by decide) rfl
  replace G := own_imul (q := 83) G X0.here hx (hb hby d15_82) rfl rfl
  replace G := own_iadd (q := 84) G X0.here hx (hb hby d15_83) rfl rfl
  replace G := own_iload (q := 86) G X0.here hx (hb hby d15_84) rfl rfl
  replace G := own_iadd (q := 87) G X0.here hx (hb hby d15_86) rfl rfl
  obtain ⟨fs, hr, hrun, hended, hW, hsame⟩ := X0.leave (v := some (.int ((((x0 * (29791 : Int32)) + (x1 * (961 : Int32))) + (x2 * (31 : Int32))) + x3))) (fun h => by rw [Bd.returns] at h; cases h)
  refine ⟨_, _, G _ (retOut X0 hx Bd.returns rfl (Or.inl ⟨rfl, Or.inl rfl, _, rfl⟩) (hb hby d15_87) hr), hrun, hended, _, _, rfl, ?_, ⟨_, rfl⟩, hW, hsame.mono (by decide) (by decide)⟩
  show Q15k4 Z x0 x1 x2 x3 h0 n0 _ s₁.heap _
  rw [e0]
  exact ⟨rfl, N0, rfl⟩
theorem pd_7 : parseMethodDescriptor "()V" = some ⟨[], none⟩ := by decide +kernel
theorem pd_8 : parseMethodDescriptor "(C)Lcom/example/leafcutter/leafcutter/io/TextBuffer;" = some ⟨[.char], some (.object "com/example/leafcutter/leafcutter/io/TextBuffer")⟩ := by decide +kernel
theorem pd_9 : parseMethodDescriptor "()I" = some ⟨[], some .int⟩ := by decide +kernel
theorem pd_10 : parseMethodDescriptor "(CCCCI)I" = some ⟨[.char, .char, .char, .char, .int], some .int⟩ := by decide +kernel
theorem ef_0 (m : MethodId) (x0 : Int32) (x1 : Int32) (x2 : Int32) (x3 : Int32) (x4 : Int32) : entryFrame m #[(.int x0), (.int x1), (.int x2), (.int x3), (.int x4)] maxLocals = mkF m 0 #[.val (.int x0), .val (.int x1), .val (.int x2), .val (.int x3), .val (.int x4), .unset, .unset, .unset, .unset, .unset, .unset, .unset] [] := by first | (simp [entryFrame, mkF, argsToLocals, Value.category, maxLocals]; done) | rfl
def Q0 (Z : State) (i0 : Int32) (i1 : Int32) (i2 : Int32) (i3 : Int32) (i4 : Int32) (sa : Addr) (ks : ClassId) (h0 : Heap) (n0 : Nat) (v : Option Value) (h : Heap) (L : List Loc) : Prop := v = some (.int (1 : Int32)) ∧ Fr n0 L
set_option maxRecDepth 65536 in
set_option maxHeartbeats 40000000 in
theorem rm0 (l : Launch) (Z : State) (a0 : Array Value) (hw : ∀ d ∈ tables_1, d.before a0 Z = true) (ws : List Jvm.Cond) (i0 : Int32) (i1 : Int32) (i2 : Int32) (i3 : Int32) (i4 : Int32) (sa : Addr) (ks : ClassId) (h0 : Heap) (n0 : Nat) (Z0 : n0 ≤ h0.size) (P0 : Sta Z h0 "com/example/leafcutter/leafcutter/io/TextBuffer" "NO_STORAGE" "[C" (.ref sa)) (P1 : Arv Z h0 sa ks .char (0 : Int32) [] (.int (0 : Int32))) :
    MetFree l x (head1 (Jvm.Cond.code x code maxLocals ret :: ws) room_1) (fun argz U => argz = #[(.int i0), (.int i1), (.int i2), (.int i3), (.int i4)] ∧ Z.Warmed39 U.vm ∧ U.heap = h0) (fun _ _ _ _ _ => True) (fun _ U o U' => ∃ v L, o = .returned v ∧ Q0 Z i0 i1 i2 i3 i4 sa ks h0 n0 v U'.heap L ∧ FrameEnd U o U' L room_1.cells room_1.slots) := by
  refine MetFree.of_bodySF (plainFor_of_name pn_com_example_leafcutter_leafcutter_io_TextBufferContentHashPinLaw) hisR ?_
  intro p e s m args below meth c s₁ Bd hml0 hP hK
  obtain ⟨rfl, hZ, hh⟩ := hP
  have hx := Bd.exec
  have hby := Bd.bytes
  have hml : c.maxLocals = 12 := hml0
  have hown : s.vm.findClass "com/example/leafcutter/leafcutter/io/TextBufferContentHashPinLaw" = some m.cls := findClass_of_methodNamed Bd.named
  have hnm := (name_of_methodNamed Bd.named Bd.method).1
  have X0 : Stand p l e room_1 s m #[(.int i0), (.int i1), (.int i2), (.int i3), (.int i4)] below meth c s₁ [] 0 0 := Stand.of_body Bd
  have e0 : s₁.heap = h0 := by rw [← hh, Bd.state]; rfl
  have N0 := Fr.nil n0
  have G : Gets p e below (s₁.setTop (entryFrame m #[(.int i0), (.int i1), (.int i2), (.int i3), (.int i4)] maxLocals)) (s₁.setTop (mkF m 0 #[.val (.int i0), .val (.int i1), .val (.int i2), .val (.int i3), .val (.int i4), .unset, .unset, .unset, .unset, .unset, .unset, .unset] [])) := fun t k => castTop (ef_0 m i0 i1 i2 i3 i4) k
  replace G := own_iloadN (q := 1) G X0.here hx (hb hby at_0) rfl rfl
  obtain ⟨c0, hn_c0⟩ : ∃ z : Int32, (i0.toUInt32.toUInt16.toUInt32.toInt32) = z := ⟨_, rfl⟩
  replace G := own_i2c (q := 2) G X0.here hx (hb hby at_1) hn_c0 rfl
  replace G := own_istore (q := 4) (l' := #[.val (.int i0), .val (.int i1), .val (.int i2), .val (.int i3), .val (.int i4), .val (.int c0), .unset, .unset, .unset, .unset, .unset, .unset]) G X0.here hx (hb hby at_2) rfl rfl
  replace G := own_iloadN (q := 5) G X0.here hx (hb hby at_4) rfl rfl
  obtain ⟨c1, hn_c1⟩ : ∃ z : Int32, (i1.toUInt32.toUInt16.toUInt32.toInt32) = z := ⟨_, rfl⟩
  replace G := own_i2c (q := 6) G X0.here hx (hb hby at_5) hn_c1 rfl
  replace G := own_istore (q := 8) (l' := #[.val (.int i0), .val (.int i1), .val (.int i2), .val (.int i3), .val (.int i4), .val (.int c0), .val (.int c1), .unset, .unset, .unset, .unset, .unset]) G X0.here hx (hb hby at_6) rfl rfl
  replace G := own_iloadN (q := 9) G X0.here hx (hb hby at_8) rfl rfl
  obtain ⟨c2, hn_c2⟩ : ∃ z : Int32, (i2.toUInt32.toUInt16.toUInt32.toInt32) = z := ⟨_, rfl⟩
  replace G := own_i2c (q := 10) G X0.here hx (hb hby at_9) hn_c2 rfl
  replace G := own_istore (q := 12) (l' := #[.val (.int i0), .val (.int i1), .val (.int i2), .val (.int i3), .val (.int i4), .val (.int c0), .val (.int c1), .val (.int c2), .unset, .unset, .unset, .unset]) G X0.here hx (hb hby at_10) rfl rfl
  replace G := own_iloadN (q := 13) G X0.here hx (hb hby at_12) rfl rfl
  obtain ⟨c3, hn_c3⟩ : ∃ z : Int32, (i3.toUInt32.toUInt16.toUInt32.toInt32) = z := ⟨_, rfl⟩
  replace G := own_i2c (q := 14) G X0.here hx (hb hby at_13) hn_c3 rfl
  replace G := own_istore (q := 16) (l' := #[.val (.int i0), .val (.int i1), .val (.int i2), .val (.int i3), .val (.int i4), .val (.int c0), .val (.int c1), .val (.int c2), .val (.int c3), .unset, .unset, .unset]) G X0.here hx (hb hby at_14) rfl rfl
  replace G := own_iload (q := 18) G X0.here hx (hb hby at_16) rfl rfl
  replace G : Gets p e below _ (s₁.setTop (mkF m 20 #[.val (.int i0), .val (.int i1), .val (.int i2), .val (.int i3), .val (.int i4), .val (.int c0), .val (.int c1), .val (.int c2), .val (.int c3), .unset, .unset, .unset] [(.int (2147483647 : Int32)), (.int i4)])) := fun t k => G t (X0.ldcInt hx hown (mvT hZ (hw _ (List.mem_of_getElem? (i := 0) rfl))) (g := (mkF m 18 #[.val (.int i0), .val (.int i1), .val (.int i2), .val (.int i3), .val (.int i4), .val (.int c0), .val (.int c1), .val (.int c2), .val (.int c3), .unset, .unset, .unset] [(.int i4)])) rfl (hb hby at_18) t k)
  obtain ⟨u, hn_u⟩ : ∃ z : Int32, (i4 &&& (2147483647 : Int32)) = z := ⟨_, rfl⟩
  replace G := own_iand (q := 21) G X0.here hx (hb hby at_20) hn_u rfl
  replace G := own_iconst (q := 22) G X0.here hx (hb hby at_21) (v := (5 : Int32)) (by decide) rfl
  obtain ⟨i, hn_i⟩ : ∃ z : Int32, (u % (5 : Int32)) = z := ⟨_, rfl⟩
  replace G := own_irem (q := 23) G X0.here hx (hb hby at_22) (by decide) hn_i rfl
  have q0 : nar .char c0 = c0 := by rw [← hn_c0]; exact own_nar i0
  have q1 : nar .char c1 = c1 := by rw [← hn_c1]; exact own_nar i1
  have q2 : nar .char c2 = c2 := by rw [← hn_c2]; exact own_nar i2
  have q3 : nar .char c3 = c3 := by rw [← hn_c3]; exact own_nar i3
  replace G := own_istore (q := 25) (l' := #[.val (.int i0), .val (.int i1), .val (.int i2), .val (.int i3), .val (.int i4), .val (.int c0), .val (.int c1), .val (.int c2), .val (.int c3), .val (.int i), .unset, .unset]) G X0.here hx (hb hby at_23) rfl rfl
  rw [← hn_u] at hn_i
  rcases own_cases5 (own_rem 5 5 rfl (by decide) hn_i) with rfl | rfl | rfl | rfl | rfl
  · obtain ⟨T1, h1, X1, e1, E1, A1, D1, -, st1⟩ := newO X0 hx hZ hown (hw _ (List.mem_of_getElem? (i := 1) rfl)) (hw _ (List.mem_of_getElem? (i := 2) rfl)) (hw _ (List.mem_of_getElem? (i := 3) rfl)) e0 (g := (mkF m 25 #[.val (.int i0), .val (.int i1), .val (.int i2), .val (.int i3), .val (.int i4), .val (.int c0), .val (.int c1), .val (.int c2), .val (.int c3), .val (.int (0 : Int32)), .unset, .unset] [])) rfl (hb hby at_25) (by decide) (by decide)
    obtain ⟨b1, g1⟩ : ∃ z, z = h0.size := ⟨_, rfl⟩
    rw [← g1] at A1 D1 st1
    have ne2 : sa ≠ b1 := Nat.ne_of_lt (Nat.lt_of_lt_of_le P1.lt (Nat.le_of_eq g1.symm))
    have ge_b1 : n0 ≤ b1 := Nat.le_trans Z0 (Nat.le_of_eq g1.symm)
    have Z1 : n0 ≤ h1.size := Nat.le_trans Z0 E1.1
    have F1_chars : Fld Z h1 b1 "com/example/leafcutter/leafcutter/io/TextBuffer" "chars" "[C" .null := D1 (Or.inl (hw _ (List.mem_of_getElem? (i := 17) rfl))) (ty := (.array .char)) (by decide)
    have F1_limit : Fld Z h1 b1 "com/example/leafcutter/leafcutter/io/TextBuffer" "limit" "I" (.int (0 : Int32)) := D1 (Or.inr (hw _ (List.mem_of_getElem? (i := 19) rfl))) (ty := .int) (by decide)
    have F1_whenFull : Fld Z h1 b1 "com/example/leafcutter/leafcutter/io/TextBuffer" "whenFull" "Ljava/util/function/Consumer;" .null := D1 (Or.inr (hw _ (List.mem_of_getElem? (i := 21) rfl))) (ty := (.object "java/util/function/Consumer")) (by decide)
    have F1_length : Fld Z h1 b1 "com/example/leafcutter/leafcutter/io/TextBuffer" "length" "I" (.int (0 : Int32)) := D1 (Or.inl (hw _ (List.mem_of_getElem? (i := 28) rfl))) (ty := .int) (by decide)
    replace G : Gets p e below _ (T1.setTop (mkF m 28 #[.val (.int i0), .val (.int i1), .val (.int i2), .val (.int i3), .val (.int i4), .val (.int c0), .val (.int c1), .val (.int c2), .val (.int c3), .val (.int (0 : Int32)), .unset, .unset] [(.ref b1)])) := fun t k => G t (st1 t k)
    replace G := own_dup (q := 29) G X1.here hx (hb hby at_28) rfl rfl
    have F4 : Sta Z h1 "com/example/leafcutter/leafcutter/io/TextBuffer" "NO_STORAGE" "[C" (.ref sa) := (P0.ext E1)
    obtain ⟨_, _, ⟨T3, L3, kk3, nn3⟩, -, X3, ⟨Lc3, hQ3, l3, y3, z3⟩, st3⟩ := X1.specialBack hx (y := (⟨"com/example/leafcutter/leafcutter/io/TextBuffer", "<init>", "()V"⟩ : MethodName)) rfl hown (mvT hZ (hw _ (List.mem_of_getElem? (i := 4) rfl))) (mvT hZ (hw _ (List.mem_of_getElem? (i := 5) rfl))) (mvT hZ (hw _ (List.mem_of_getElem? (i := 6) rfl))) (by decide) (backOf (W := 1) (rm1 l Z a0 hw [] b1 sa h1 n0 Z1 F1_chars F1_length F1_limit F1_whenFull A1 ge_b1 F4) hZ (hw _ (List.mem_of_getElem? (i := 6) rfl)) (hw _ (List.mem_of_getElem? (i := 3) rfl)) (by decide) (by decide)) (g := (mkF m 29 #[.val (.int i0), .val (.int i1), .val (.int i2), .val (.int i3), .val (.int i4), .val (.int c0), .val (.int c1), .val (.int c2), .val (.int c3), .val (.int (0 : Int32)), .unset, .unset] [(.ref b1), (.ref b1)])) rfl (by rw [hml]; rfl) (Steps.refl _) (a := b1) (argsL := []) (rest := [(.ref b1)]) (lenOf pd_7 rfl) rfl (by show 2 * 0 + _ ≤ _; exact Nat.le_of_eq rfl) (hb hby at_29) (fun _ _ => ⟨rfl, e1, (by decide : 1 + 0 ≤ _), (by decide : 4 + 0 ≤ _)⟩)
    dsimp only [Pt.U, Pt.locs, Pt.cells, Pt.slots] at X3 l3 y3 z3 st3 hQ3
    subst l3 y3 z3
    obtain ⟨rfl, N3q, K3q, B3_0, B3_1, B3_2, B3_3⟩ := hQ3
    have Z3 : n0 ≤ T3.heap.size := Nat.le_trans Z1 K3q.1
    have N3 := Fr.app N0 N3q
    replace G : Gets p e below _ (T3.setTop (mkF m 32 #[.val (.int i0), .val (.int i1), .val (.int i2), .val (.int i3), .val (.int i4), .val (.int c0), .val (.int c1), .val (.int c2), .val (.int c3), .val (.int (0 : Int32)), .unset, .unset] [(.ref b1)])) := fun t k => G t (st3.trans k)
    replace G := own_astore (q := 34) (l' := #[.val (.int i0), .val (.int i1), .val (.int i2), .val (.int i3), .val (.int i4), .val (.int c0), .val (.int c1), .val (.int c2), .val (.int c3), .val (.int (0 : Int32)), .val (.ref b1), .unset]) G X3.here hx (hb hby at_32) rfl rfl rfl
    replace G := own_aload (q := 36) G X3.here hx (hb hby at_34) rfl rfl rfl
    replace G := own_iload (q := 38) G X3.here hx (hb hby at_36) rfl rfl
    have F6 : Exa Z T3.heap b1 "com/example/leafcutter/leafcutter/io/TextBuffer" := (A1.keep K3q)
    have F7 : Arv Z T3.heap sa ks .char (0 : Int32) [] (.int (0 : Int32)) := ((P1.ext E1).keep K3q (ninS ne2 nin0))
    obtain ⟨cq5, kq5, q5a, q5b, q5c⟩ := isOf hZ rfl F6
    obtain ⟨_, _, ⟨T5, L5, kk5, nn5⟩, -, X5, ⟨Lc5, hQ5, l5, y5, z5⟩, st5⟩ := X3.virtualBack hx (y := (⟨"com/example/leafcutter/leafcutter/io/TextBuffer", "append", "(C)Lcom/example/leafcutter/leafcutter/io/TextBuffer;"⟩ : MethodName)) (z := (⟨"com/example/leafcutter/leafcutter/io/TextBuffer", "append", "(C)Lcom/example/leafcutter/leafcutter/io/TextBuffer;"⟩ : MethodName)) hown (mvT hZ (hw _ (List.mem_of_getElem? (i := 22) rfl))) (mvT hZ (hw _ (List.mem_of_getElem? (i := 23) rfl))) (notFace_of_selects (args := #[]) (mvT hZ (hw _ (List.mem_of_getElem? (i := 25) rfl)))) (mvT hZ (hw _ (List.mem_of_getElem? (i := 25) rfl))) (mvT hZ (hw _ (List.mem_of_getElem? (i := 24) rfl))) (by decide) (backOf (W := 0) (rm4s0 l Z a0 hw [] b1 c0 sa ks T3.heap n0 Z3 B3_0 B3_1 B3_2 B3_3 F6 F7 ge_b1 (Ne.symm ne2)) hZ (hw _ (List.mem_of_getElem? (i := 26) rfl)) (hw _ (List.mem_of_getElem? (i := 3) rfl)) (by decide) (by decide)) q5a q5c (g := (mkF m 38 #[.val (.int i0), .val (.int i1), .val (.int i2), .val (.int i3), .val (.int i4), .val (.int c0), .val (.int c1), .val (.int c2), .val (.int c3), .val (.int (0 : Int32)), .val (.ref b1), .unset] [(.int c0), (.ref b1)])) rfl (by rw [hml]; rfl) (Steps.refl _) (argsL := [(.int c0)]) (rest := []) (lenOf pd_8 rfl) rfl (by show 2 * 0 + _ ≤ _; exact Nat.le_of_eq rfl) (hb hby at_38) (fun _ _ => ⟨rfl, rfl, (by decide : 1 + 1 ≤ _), (by decide : 4 + 16 ≤ _)⟩)
    dsimp only [Pt.U, Pt.locs, Pt.cells, Pt.slots] at X5 l5 y5 z5 st5 hQ5
    subst l5 y5 z5
    obtain ⟨b_5, kb_5, rfl, N5q, K5q, B5_0, B5_1, B5_2, B5_3, B5_4, B5_5⟩ := hQ5
    have ne8 : b1 ≠ b_5 := Nat.ne_of_lt (Nat.lt_of_lt_of_le B3_3.lt B5_4)
    have ne9 : sa ≠ b_5 := Nat.ne_of_lt (Nat.lt_of_lt_of_le F7.lt B5_4)
    have ge_b_5 : n0 ≤ b_5 := Nat.le_trans Z3 B5_4
    have Z5 : n0 ≤ T5.heap.size := Nat.le_trans Z3 K5q.1
    have N5 := Fr.app N3 N5q
    replace G : Gets p e below _ (T5.setTop (mkF m 41 #[.val (.int i0), .val (.int i1), .val (.int i2), .val (.int i3), .val (.int i4), .val (.int c0), .val (.int c1), .val (.int c2), .val (.int c3), .val (.int (0 : Int32)), .val (.ref b1), .unset] [(.ref b1)])) := fun t k => G t (st5.trans k)
    replace G := own_pop (q := 42) G X5.here hx (hb hby at_41) rfl rfl
    replace G := own_aload (q := 44) G X5.here hx (hb hby at_42) rfl rfl rfl
    replace G := own_iload (q := 46) G X5.here hx (hb hby at_44) rfl rfl
    have F11 : Exa Z T5.heap b1 "com/example/leafcutter/leafcutter/io/TextBuffer" := (F6.keep K5q)
    obtain ⟨cq10, kq10, q10a, q10b, q10c⟩ := isOf hZ rfl F11
    obtain ⟨_, _, ⟨T10, L10, kk10, nn10⟩, -, X10, ⟨Lc10, hQ10, l10, y10, z10⟩, st10⟩ := X5.virtualBack hx (y := (⟨"com/example/leafcutter/leafcutter/io/TextBuffer", "append", "(C)Lcom/example/leafcutter/leafcutter/io/TextBuffer;"⟩ : MethodName)) (z := (⟨"com/example/leafcutter/leafcutter/io/TextBuffer", "append", "(C)Lcom/example/leafcutter/leafcutter/io/TextBuffer;"⟩ : MethodName)) hown (mvT hZ (hw _ (List.mem_of_getElem? (i := 22) rfl))) (mvT hZ (hw _ (List.mem_of_getElem? (i := 23) rfl))) (notFace_of_selects (args := #[]) (mvT hZ (hw _ (List.mem_of_getElem? (i := 25) rfl)))) (mvT hZ (hw _ (List.mem_of_getElem? (i := 25) rfl))) (mvT hZ (hw _ (List.mem_of_getElem? (i := 24) rfl))) (by decide) (backOf (W := 0) (rm4s1 l Z a0 hw [] b1 c1 b_5 kb_5 (nar .char c0) T5.heap n0 Z5 B5_0 B5_1 B5_2 B5_3 F11 B5_5 ge_b1 ge_b_5 ne8) hZ (hw _ (List.mem_of_getElem? (i := 26) rfl)) (hw _ (List.mem_of_getElem? (i := 3) rfl)) (by decide) (by decide)) q10a q10c (g := (mkF m 46 #[.val (.int i0), .val (.int i1), .val (.int i2), .val (.int i3), .val (.int i4), .val (.int c0), .val (.int c1), .val (.int c2), .val (.int c3), .val (.int (0 : Int32)), .val (.ref b1), .unset] [(.int c1), (.ref b1)])) rfl (by rw [hml]; rfl) (Steps.refl _) (argsL := [(.int c1)]) (rest := []) (lenOf pd_8 rfl) rfl (by show 2 * 0 + _ ≤ _; exact Nat.le_of_eq rfl) (hb hby at_46) (fun _ _ => ⟨rfl, rfl, (by decide : 2 + 0 ≤ _), (by decide : 20 + 0 ≤ _)⟩)
    dsimp only [Pt.U, Pt.locs, Pt.cells, Pt.slots] at X10 l10 y10 z10 st10 hQ10
    subst l10 y10 z10
    obtain ⟨rfl, N10q, K10q, B10_0, B10_1, B10_2, B10_3, B10_4⟩ := hQ10
    have Z10 : n0 ≤ T10.heap.size := Nat.le_trans Z5 K10q.1
    have N10 := Fr.app N5 N10q
    replace G : Gets p e below _ (T10.setTop (mkF m 49 #[.val (.int i0), .val (.int i1), .val (.int i2), .val (.int i3), .val (.int i4), .val (.int c0), .val (.int c1), .val (.int c2), .val (.int c3), .val (.int (0 : Int32)), .val (.ref b1), .unset] [(.ref b1)])) := fun t k => G t (st10.trans k)
    replace G := own_pop (q := 50) G X10.here hx (hb hby at_49) rfl rfl
    replace G := own_aload (q := 52) G X10.here hx (hb hby at_50) rfl rfl rfl
    replace G := own_iload (q := 54) G X10.here hx (hb hby at_52) rfl rfl
    have F13 : Exa Z T10.heap b1 "com/example/leafcutter/leafcutter/io/TextBuffer" := (F11.keep K10q)
    obtain ⟨cq12, kq12, q12a, q12b, q12c⟩ := isOf hZ rfl F13
    obtain ⟨_, _, ⟨T12, L12, kk12, nn12⟩, -, X12, ⟨Lc12, hQ12, l12, y12, z12⟩, st12⟩ := X10.virtualBack hx (y := (⟨"com/example/leafcutter/leafcutter/io/TextBuffer", "append", "(C)Lcom/example/leafcutter/leafcutter/io/TextBuffer;"⟩ : MethodName)) (z := (⟨"com/example/leafcutter/leafcutter/io/TextBuffer", "append", "(C)Lcom/example/leafcutter/leafcutter/io/TextBuffer;"⟩ : MethodName)) hown (mvT hZ (hw _ (List.mem_of_getElem? (i := 22) rfl))) (mvT hZ (hw _ (List.mem_of_getElem? (i := 23) rfl))) (notFace_of_selects (args := #[]) (mvT hZ (hw _ (List.mem_of_getElem? (i := 25) rfl)))) (mvT hZ (hw _ (List.mem_of_getElem? (i := 25) rfl))) (mvT hZ (hw _ (List.mem_of_getElem? (i := 24) rfl))) (by decide) (backOf (W := 0) (rm4s2 l Z a0 hw [] b1 c2 b_5 kb_5 (nar .char c0) (nar .char c1) T10.heap n0 Z10 B10_0 B10_1 B10_2 B10_3 F13 B10_4 ge_b1 ge_b_5 ne8) hZ (hw _ (List.mem_of_getElem? (i := 26) rfl)) (hw _ (List.mem_of_getElem? (i := 3) rfl)) (by decide) (by decide)) q12a q12c (g := (mkF m 54 #[.val (.int i0), .val (.int i1), .val (.int i2), .val (.int i3), .val (.int i4), .val (.int c0), .val (.int c1), .val (.int c2), .val (.int c3), .val (.int (0 : Int32)), .val (.ref b1), .unset] [(.int c2), (.ref b1)])) rfl (by rw [hml]; rfl) (Steps.refl _) (argsL := [(.int c2)]) (rest := []) (lenOf pd_8 rfl) rfl (by show 2 * 0 + _ ≤ _; exact Nat.le_of_eq rfl) (hb hby at_54) (fun _ _ => ⟨rfl, rfl, (by decide : 2 + 0 ≤ _), (by decide : 20 + 0 ≤ _)⟩)
    dsimp only [Pt.U, Pt.locs, Pt.cells, Pt.slots] at X12 l12 y12 z12 st12 hQ12
    subst l12 y12 z12
    obtain ⟨rfl, N12q, K12q, B12_0, B12_1, B12_2, B12_3, B12_4⟩ := hQ12
    have Z12 : n0 ≤ T12.heap.size := Nat.le_trans Z10 K12q.1
    have N12 := Fr.app N10 N12q
    replace G : Gets p e below _ (T12.setTop (mkF m 57 #[.val (.int i0), .val (.int i1), .val (.int i2), .val (.int i3), .val (.int i4), .val (.int c0), .val (.int c1), .val (.int c2), .val (.int c3), .val (.int (0 : Int32)), .val (.ref b1), .unset] [(.ref b1)])) := fun t k => G t (st12.trans k)
    replace G := own_pop (q := 58) G X12.here hx (hb hby at_57) rfl rfl
    replace G := own_aload (q := 60) G X12.here hx (hb hby at_58) rfl rfl rfl
    replace G := own_iload (q := 62) G X12.here hx (hb hby at_60) rfl rfl
    have F15 : Exa Z T12.heap b1 "com/example/leafcutter/leafcutter/io/TextBuffer" := (F13.keep K12q)
    obtain ⟨cq14, kq14, q14a, q14b, q14c⟩ := isOf hZ rfl F15
    obtain ⟨_, _, ⟨T14, L14, kk14, nn14⟩, -, X14, ⟨Lc14, hQ14, l14, y14, z14⟩, st14⟩ := X12.virtualBack hx (y := (⟨"com/example/leafcutter/leafcutter/io/TextBuffer", "append", "(C)Lcom/example/leafcutter/leafcutter/io/TextBuffer;"⟩ : MethodName)) (z := (⟨"com/example/leafcutter/leafcutter/io/TextBuffer", "append", "(C)Lcom/example/leafcutter/leafcutter/io/TextBuffer;"⟩ : MethodName)) hown (mvT hZ (hw _ (List.mem_of_getElem? (i := 22) rfl))) (mvT hZ (hw _ (List.mem_of_getElem? (i := 23) rfl))) (notFace_of_selects (args := #[]) (mvT hZ (hw _ (List.mem_of_getElem? (i := 25) rfl)))) (mvT hZ (hw _ (List.mem_of_getElem? (i := 25) rfl))) (mvT hZ (hw _ (List.mem_of_getElem? (i := 24) rfl))) (by decide) (backOf (W := 0) (rm4s3 l Z a0 hw [] b1 c3 b_5 kb_5 (nar .char c0) (nar .char c1) (nar .char c2) T12.heap n0 Z12 B12_0 B12_1 B12_2 B12_3 F15 B12_4 ge_b1 ge_b_5 ne8) hZ (hw _ (List.mem_of_getElem? (i := 26) rfl)) (hw _ (List.mem_of_getElem? (i := 3) rfl)) (by decide) (by decide)) q14a q14c (g := (mkF m 62 #[.val (.int i0), .val (.int i1), .val (.int i2), .val (.int i3), .val (.int i4), .val (.int c0), .val (.int c1), .val (.int c2), .val (.int c3), .val (.int (0 : Int32)), .val (.ref b1), .unset] [(.int c3), (.ref b1)])) rfl (by rw [hml]; rfl) (Steps.refl _) (argsL := [(.int c3)]) (rest := []) (lenOf pd_8 rfl) rfl (by show 2 * 0 + _ ≤ _; exact Nat.le_of_eq rfl) (hb hby at_62) (fun _ _ => ⟨rfl, rfl, (by decide : 2 + 0 ≤ _), (by decide : 20 + 0 ≤ _)⟩)
    dsimp only [Pt.U, Pt.locs, Pt.cells, Pt.slots] at X14 l14 y14 z14 st14 hQ14
    subst l14 y14 z14
    obtain ⟨rfl, N14q, K14q, B14_0, B14_1, B14_2, B14_3, B14_4⟩ := hQ14
    have Z14 : n0 ≤ T14.heap.size := Nat.le_trans Z12 K14q.1
    have N14 := Fr.app N12 N14q
    replace G : Gets p e below _ (T14.setTop (mkF m 65 #[.val (.int i0), .val (.int i1), .val (.int i2), .val (.int i3), .val (.int i4), .val (.int c0), .val (.int c1), .val (.int c2), .val (.int c3), .val (.int (0 : Int32)), .val (.ref b1), .unset] [(.ref b1)])) := fun t k => G t (st14.trans k)
    replace G := own_pop (q := 66) G X14.here hx (hb hby at_65) rfl rfl
    replace G := own_aload (q := 68) G X14.here hx (hb hby at_66) rfl rfl rfl
    replace G := own_iload (q := 70) G X14.here hx (hb hby at_68) rfl rfl
    have F17 : Exa Z T14.heap b1 "com/example/leafcutter/leafcutter/io/TextBuffer" := (F15.keep K14q)
    obtain ⟨cq16, kq16, q16a, q16b, q16c⟩ := isOf hZ rfl F17
    obtain ⟨_, _, ⟨T16, L16, kk16, nn16⟩, -, X16, ⟨Lc16, hQ16, l16, y16, z16⟩, st16⟩ := X14.virtualBack hx (y := (⟨"com/example/leafcutter/leafcutter/io/TextBuffer", "truncate", "(I)V"⟩ : MethodName)) (z := (⟨"com/example/leafcutter/leafcutter/io/TextBuffer", "truncate", "(I)V"⟩ : MethodName)) hown (mvT hZ (hw _ (List.mem_of_getElem? (i := 59) rfl))) (mvT hZ (hw _ (List.mem_of_getElem? (i := 60) rfl))) (notFace_of_selects (args := #[]) (mvT hZ (hw _ (List.mem_of_getElem? (i := 62) rfl)))) (mvT hZ (hw _ (List.mem_of_getElem? (i := 62) rfl))) (mvT hZ (hw _ (List.mem_of_getElem? (i := 61) rfl))) (by decide) (backOf (W := 0) (rm11k0 l Z a0 hw [] b1 b_5 T14.heap n0 Z14 B14_0 B14_1 B14_2 B14_3 F17 ge_b1) hZ (hw _ (List.mem_of_getElem? (i := 63) rfl)) (hw _ (List.mem_of_getElem? (i := 3) rfl)) (by decide) (by decide)) q16a q16c (g := (mkF m 70 #[.val (.int i0), .val (.int i1), .val (.int i2), .val (.int i3), .val (.int i4), .val (.int c0), .val (.int c1), .val (.int c2), .val (.int c3), .val (.int (0 : Int32)), .val (.ref b1), .unset] [(.int (0 : Int32)), (.ref b1)])) rfl (by rw [hml]; rfl) (Steps.refl _) (argsL := [(.int (0 : Int32))]) (rest := []) (lenOf pd_4 rfl) rfl (by show 2 * 0 + _ ≤ _; exact Nat.le_of_eq rfl) (hb hby at_70) (fun _ _ => ⟨rfl, rfl, (by decide : 2 + 0 ≤ _), (by decide : 20 + 0 ≤ _)⟩)
    dsimp only [Pt.U, Pt.locs, Pt.cells, Pt.slots] at X16 l16 y16 z16 st16 hQ16
    subst l16 y16 z16
    obtain ⟨rfl, N16q, K16q, B16_0, B16_1, B16_2, B16_3⟩ := hQ16
    have Z16 : n0 ≤ T16.heap.size := Nat.le_trans Z14 K16q.1
    have N16 := Fr.app N14 N16q
    replace G : Gets p e below _ (T16.setTop (mkF m 73 #[.val (.int i0), .val (.int i1), .val (.int i2), .val (.int i3), .val (.int i4), .val (.int c0), .val (.int c1), .val (.int c2), .val (.int c3), .val (.int (0 : Int32)), .val (.ref b1), .unset] [])) := fun t k => G t (st16.trans k)
    replace G := own_aload (q := 75) G X16.here hx (hb hby at_73) rfl rfl rfl
    have F19 : Exa Z T16.heap b1 "com/example/leafcutter/leafcutter/io/TextBuffer" := (F17.keep K16q)
    have F20 : Arv Z T16.heap b_5 kb_5 .char (16 : Int32) [(.int (nar .char c0)), (.int (nar .char c1)), (.int (nar .char c2)), (.int (nar .char c3)), (.int (0 : Int32)), (.int (0 : Int32)), (.int (0 : Int32)), (.int (0 : Int32)), (.int (0 : Int32)), (.int (0 : Int32)), (.int (0 : Int32)), (.int (0 : Int32)), (.int (0 : Int32)), (.int (0 : Int32)), (.int (0 : Int32)), (.int (0 : Int32))] (.int (0 : Int32)) := (B14_4.keep K16q (ninS (Ne.symm ne8) nin0))
    obtain ⟨cq18, kq18, q18a, q18b, q18c⟩ := isOf hZ rfl F19
    obtain ⟨_, _, ⟨T18, L18, kk18, nn18⟩, -, X18, ⟨Lc18, hQ18, l18, y18, z18⟩, st18⟩ := X16.virtualBack hx (y := (⟨"com/example/leafcutter/leafcutter/io/TextBuffer", "contentHash", "()I"⟩ : MethodName)) (z := (⟨"com/example/leafcutter/leafcutter/io/TextBuffer", "contentHash", "()I"⟩ : MethodName)) hown (mvT hZ (hw _ (List.mem_of_getElem? (i := 72) rfl))) (mvT hZ (hw _ (List.mem_of_getElem? (i := 73) rfl))) (notFace_of_selects (args := #[]) (mvT hZ (hw _ (List.mem_of_getElem? (i := 75) rfl)))) (mvT hZ (hw _ (List.mem_of_getElem? (i := 75) rfl))) (mvT hZ (hw _ (List.mem_of_getElem? (i := 74) rfl))) (by decide) (backOf (W := 0) (rm14k0 l Z a0 hw [] b1 b_5 kb_5 (nar .char c0) (nar .char c1) (nar .char c2) (nar .char c3) T16.heap n0 Z16 B16_0 B16_1 F20) hZ (hw _ (List.mem_of_getElem? (i := 76) rfl)) (hw _ (List.mem_of_getElem? (i := 3) rfl)) (by decide) (by decide)) q18a q18c (g := (mkF m 75 #[.val (.int i0), .val (.int i1), .val (.int i2), .val (.int i3), .val (.int i4), .val (.int c0), .val (.int c1), .val (.int c2), .val (.int c3), .val (.int (0 : Int32)), .val (.ref b1), .unset] [(.ref b1)])) rfl (by rw [hml]; rfl) (Steps.refl _) (argsL := []) (rest := []) (lenOf pd_9 rfl) rfl (by show 2 * 0 + _ ≤ _; exact Nat.le_of_eq rfl) (hb hby at_75) (fun _ _ => ⟨rfl, rfl, (by decide : 2 + 0 ≤ _), (by decide : 20 + 0 ≤ _)⟩)
    dsimp only [Pt.U, Pt.locs, Pt.cells, Pt.slots] at X18 l18 y18 z18 st18 hQ18
    subst l18 y18 z18
    obtain ⟨rfl, N18q, e18⟩ := hQ18
    have N18 := Fr.app N16 N18q
    replace G : Gets p e below _ (T18.setTop (mkF m 78 #[.val (.int i0), .val (.int i1), .val (.int i2), .val (.int i3), .val (.int i4), .val (.int c0), .val (.int c1), .val (.int c2), .val (.int c3), .val (.int (0 : Int32)), .val (.ref b1), .unset] [(.int (0 : Int32))])) := fun t k => G t (st18.trans k)
    replace G := own_istore (q := 80) (l' := #[.val (.int i0), .val (.int i1), .val (.int i2), .val (.int i3), .val (.int i4), .val (.int c0), .val (.int c1), .val (.int c2), .val (.int c3), .val (.int (0 : Int32)), .val (.ref b1), .val (.int (0 : Int32))]) G X18.here hx (hb hby at_78) rfl rfl
    replace G := own_iload (q := 82) G X18.here hx (hb hby at_80) rfl rfl
    replace G := own_iload (q := 84) G X18.here hx (hb hby at_82) rfl rfl
    replace G := own_iload (q := 86) G X18.here hx (hb hby at_84) rfl rfl
    replace G := own_iload (q := 88) G X18.here hx (hb hby at_86) rfl rfl
    replace G := own_iload (q := 90) G X18.here hx (hb hby at_88) rfl rfl
    replace G := own_iload (q := 92) G X18.here hx (hb hby at_90) rfl rfl
    obtain ⟨_, _, ⟨T21, L21, kk21, nn21⟩, -, X21, ⟨Lc21, hQ21, l21, y21, z21⟩, st21⟩ := Jvm.LawKit.callS X18 hx (y := (⟨"com/example/leafcutter/leafcutter/io/TextBufferContentHashPinLaw", "expected", "(CCCCI)I"⟩ : MethodName)) hown (mvT hZ (hw _ (List.mem_of_getElem? (i := 77) rfl))) (mvT hZ (hw _ (List.mem_of_getElem? (i := 78) rfl))) (mvT hZ (hw _ (List.mem_of_getElem? (i := 79) rfl))) (mvT hZ (hw _ (List.mem_of_getElem? (i := 80) rfl))) (by decide) (backOf (W := 1) (rm15k0 l Z a0 hw [] c0 c1 c2 c3 T16.heap n0 Z16 ) hZ (hw _ (List.mem_of_getElem? (i := 80) rfl)) (hw _ (List.mem_of_getElem? (i := 79) rfl)) (by decide) (by decide)) (g := (mkF m 92 #[.val (.int i0), .val (.int i1), .val (.int i2), .val (.int i3), .val (.int i4), .val (.int c0), .val (.int c1), .val (.int c2), .val (.int c3), .val (.int (0 : Int32)), .val (.ref b1), .val (.int (0 : Int32))] [(.int (0 : Int32)), (.int c3), (.int c2), (.int c1), (.int c0), (.int (0 : Int32))])) rfl (by rw [hml]; rfl) (argsL := [(.int c0), (.int c1), (.int c2), (.int c3), (.int (0 : Int32))]) (rest := [(.int (0 : Int32))]) (lenOf pd_10 rfl) rfl (by show 2 * 0 + _ ≤ _; exact Nat.le_of_eq rfl) (hb hby at_92) (fun _ _ => ⟨rfl, e18, (by decide : 2 + 0 ≤ _), (by decide : 20 + 0 ≤ _)⟩)
    dsimp only [Pt.U, Pt.locs, Pt.cells, Pt.slots] at X21 l21 y21 z21 st21 hQ21
    subst l21 y21 z21
    obtain ⟨rfl, N21q, e21⟩ := hQ21
    have N21 := Fr.app N18 N21q
    replace G : Gets p e below _ (T21.setTop (mkF m 95 #[.val (.int i0), .val (.int i1), .val (.int i2), .val (.int i3), .val (.int i4), .val (.int c0), .val (.int c1), .val (.int c2), .val (.int c3), .val (.int (0 : Int32)), .val (.ref b1), .val (.int (0 : Int32))] [(.int (0 : Int32)), (.int (0 : Int32))])) := fun t k => G t (st21 t k)
    have hc95_22 : (0 : Int32) = (0 : Int32) := by decide
    replace G := own_icmpNo (q := 98) G X21.here hx (hb hby at_95) (teq hc95_22).2 rfl
    replace G := own_iconst (q := 99) G X21.here hx (hb hby at_98) (v := (1 : Int32)) (by decide) rfl
    replace G := own_goto (q := 103) G X21.here hx (hb hby at_99) (by decide) (by decide)
    obtain ⟨fs, hr, hrun, hended, hW, hsame⟩ := X21.leave (v := some (.int (1 : Int32))) (fun h => by rw [Bd.returns] at h; cases h)
    refine ⟨_, _, G _ (retOut X21 hx Bd.returns rfl (Or.inl ⟨rfl, Or.inr (Or.inl rfl), _, rfl⟩) (hb hby at_103) hr), hrun, hended, _, _, rfl, ?_, ⟨_, rfl⟩, hW, hsame.mono (by decide) (by decide)⟩
    show Q0 Z i0 i1 i2 i3 i4 sa ks h0 n0 _ T21.heap _
    rw [e21]
    exact ⟨rfl, N21⟩
  · obtain ⟨T23, h23, X23, e23, E23, A23, D23, -, st23⟩ := newO X0 hx hZ hown (hw _ (List.mem_of_getElem? (i := 1) rfl)) (hw _ (List.mem_of_getElem? (i := 2) rfl)) (hw _ (List.mem_of_getElem? (i := 3) rfl)) e0 (g := (mkF m 25 #[.val (.int i0), .val (.int i1), .val (.int i2), .val (.int i3), .val (.int i4), .val (.int c0), .val (.int c1), .val (.int c2), .val (.int c3), .val (.int (1 : Int32)), .unset, .unset] [])) rfl (hb hby at_25) (by decide) (by decide)
    obtain ⟨b23, g23⟩ : ∃ z, z = h0.size := ⟨_, rfl⟩
    rw [← g23] at A23 D23 st23
    have ne24 : sa ≠ b23 := Nat.ne_of_lt (Nat.lt_of_lt_of_le P1.lt (Nat.le_of_eq g23.symm))
    have ge_b23 : n0 ≤ b23 := Nat.le_trans Z0 (Nat.le_of_eq g23.symm)
    have Z23 : n0 ≤ h23.size := Nat.le_trans Z0 E23.1
    have F23_chars : Fld Z h23 b23 "com/example/leafcutter/leafcutter/io/TextBuffer" "chars" "[C" .null := D23 (Or.inl (hw _ (List.mem_of_getElem? (i := 17) rfl))) (ty := (.array .char)) (by decide)
    have F23_limit : Fld Z h23 b23 "com/example/leafcutter/leafcutter/io/TextBuffer" "limit" "I" (.int (0 : Int32)) := D23 (Or.inr (hw _ (List.mem_of_getElem? (i := 19) rfl))) (ty := .int) (by decide)
    have F23_whenFull : Fld Z h23 b23 "com/example/leafcutter/leafcutter/io/TextBuffer" "whenFull" "Ljava/util/function/Consumer;" .null := D23 (Or.inr (hw _ (List.mem_of_getElem? (i := 21) rfl))) (ty := (.object "java/util/function/Consumer")) (by decide)
    have F23_length : Fld Z h23 b23 "com/example/leafcutter/leafcutter/io/TextBuffer" "length" "I" (.int (0 : Int32)) := D23 (Or.inl (hw _ (List.mem_of_getElem? (i := 28) rfl))) (ty := .int) (by decide)
    replace G : Gets p e below _ (T23.setTop (mkF m 28 #[.val (.int i0), .val (.int i1), .val (.int i2), .val (.int i3), .val (.int i4), .val (.int c0), .val (.int c1), .val (.int c2), .val (.int c3), .val (.int (1 : Int32)), .unset, .unset] [(.ref b23)])) := fun t k => G t (st23 t k)
    replace G := own_dup (q := 29) G X23.here hx (hb hby at_28) rfl rfl
    have F26 : Sta Z h23 "com/example/leafcutter/leafcutter/io/TextBuffer" "NO_STORAGE" "[C" (.ref sa) := (P0.ext E23)
    obtain ⟨_, _, ⟨T25, L25, kk25, nn25⟩, -, X25, ⟨Lc25, hQ25, l25, y25, z25⟩, st25⟩ := X23.specialBack hx (y := (⟨"com/example/leafcutter/leafcutter/io/TextBuffer", "<init>", "()V"⟩ : MethodName)) rfl hown (mvT hZ (hw _ (List.mem_of_getElem? (i := 4) rfl))) (mvT hZ (hw _ (List.mem_of_getElem? (i := 5) rfl))) (mvT hZ (hw _ (List.mem_of_getElem? (i := 6) rfl))) (by decide) (backOf (W := 1) (rm1 l Z a0 hw [] b23 sa h23 n0 Z23 F23_chars F23_length F23_limit F23_whenFull A23 ge_b23 F26) hZ (hw _ (List.mem_of_getElem? (i := 6) rfl)) (hw _ (List.mem_of_getElem? (i := 3) rfl)) (by decide) (by decide)) (g := (mkF m 29 #[.val (.int i0), .val (.int i1), .val (.int i2), .val (.int i3), .val (.int i4), .val (.int c0), .val (.int c1), .val (.int c2), .val (.int c3), .val (.int (1 : Int32)), .unset, .unset] [(.ref b23), (.ref b23)])) rfl (by rw [hml]; rfl) (Steps.refl _) (a := b23) (argsL := []) (rest := [(.ref b23)]) (lenOf pd_7 rfl) rfl (by show 2 * 0 + _ ≤ _; exact Nat.le_of_eq rfl) (hb hby at_29) (fun _ _ => ⟨rfl, e23, (by decide : 1 + 0 ≤ _), (by decide : 4 + 0 ≤ _)⟩)
    dsimp only [Pt.U, Pt.locs, Pt.cells, Pt.slots] at X25 l25 y25 z25 st25 hQ25
    subst l25 y25 z25
    obtain ⟨rfl, N25q, K25q, B25_0, B25_1, B25_2, B25_3⟩ := hQ25
    have Z25 : n0 ≤ T25.heap.size := Nat.le_trans Z23 K25q.1
    have N25 := Fr.app N0 N25q
    replace G : Gets p e below _ (T25.setTop (mkF m 32 #[.val (.int i0), .val (.int i1), .val (.int i2), .val (.int i3), .val (.int i4), .val (.int c0), .val (.int c1), .val (.int c2), .val (.int c3), .val (.int (1 : Int32)), .unset, .unset] [(.ref b23)])) := fun t k => G t (st25.trans k)
    replace G := own_astore (q := 34) (l' := #[.val (.int i0), .val (.int i1), .val (.int i2), .val (.int i3), .val (.int i4), .val (.int c0), .val (.int c1), .val (.int c2), .val (.int c3), .val (.int (1 : Int32)), .val (.ref b23), .unset]) G X25.here hx (hb hby at_32) rfl rfl rfl
    replace G := own_aload (q := 36) G X25.here hx (hb hby at_34) rfl rfl rfl
    replace G := own_iload (q := 38) G X25.here hx (hb hby at_36) rfl rfl
    have F28 : Exa Z T25.heap b23 "com/example/leafcutter/leafcutter/io/TextBuffer" := (A23.keep K25q)
    have F29 : Arv Z T25.heap sa ks .char (0 : Int32) [] (.int (0 : Int32)) := ((P1.ext E23).keep K25q (ninS ne24 nin0))
    obtain ⟨cq27, kq27, q27a, q27b, q27c⟩ := isOf hZ rfl F28
    obtain ⟨_, _, ⟨T27, L27, kk27, nn27⟩, -, X27, ⟨Lc27, hQ27, l27, y27, z27⟩, st27⟩ := X25.virtualBack hx (y := (⟨"com/example/leafcutter/leafcutter/io/TextBuffer", "append", "(C)Lcom/example/leafcutter/leafcutter/io/TextBuffer;"⟩ : MethodName)) (z := (⟨"com/example/leafcutter/leafcutter/io/TextBuffer", "append", "(C)Lcom/example/leafcutter/leafcutter/io/TextBuffer;"⟩ : MethodName)) hown (mvT hZ (hw _ (List.mem_of_getElem? (i := 22) rfl))) (mvT hZ (hw _ (List.mem_of_getElem? (i := 23) rfl))) (notFace_of_selects (args := #[]) (mvT hZ (hw _ (List.mem_of_getElem? (i := 25) rfl)))) (mvT hZ (hw _ (List.mem_of_getElem? (i := 25) rfl))) (mvT hZ (hw _ (List.mem_of_getElem? (i := 24) rfl))) (by decide) (backOf (W := 0) (rm4s0 l Z a0 hw [] b23 c0 sa ks T25.heap n0 Z25 B25_0 B25_1 B25_2 B25_3 F28 F29 ge_b23 (Ne.symm ne24)) hZ (hw _ (List.mem_of_getElem? (i := 26) rfl)) (hw _ (List.mem_of_getElem? (i := 3) rfl)) (by decide) (by decide)) q27a q27c (g := (mkF m 38 #[.val (.int i0), .val (.int i1), .val (.int i2), .val (.int i3), .val (.int i4), .val (.int c0), .val (.int c1), .val (.int c2), .val (.int c3), .val (.int (1 : Int32)), .val (.ref b23), .unset] [(.int c0), (.ref b23)])) rfl (by rw [hml]; rfl) (Steps.refl _) (argsL := [(.int c0)]) (rest := []) (lenOf pd_8 rfl) rfl (by show 2 * 0 + _ ≤ _; exact Nat.le_of_eq rfl) (hb hby at_38) (fun _ _ => ⟨rfl, rfl, (by decide : 1 + 1 ≤ _), (by decide : 4 + 16 ≤ _)⟩)
    dsimp only [Pt.U, Pt.locs, Pt.cells, Pt.slots] at X27 l27 y27 z27 st27 hQ27
    subst l27 y27 z27
    obtain ⟨b_27, kb_27, rfl, N27q, K27q, B27_0, B27_1, B27_2, B27_3, B27_4, B27_5⟩ := hQ27
    have ne30 : b23 ≠ b_27 := Nat.ne_of_lt (Nat.lt_of_lt_of_le B25_3.lt B27_4)
    have ne31 : sa ≠ b_27 := Nat.ne_of_lt (Nat.lt_of_lt_of_le F29.lt B27_4)
    have ge_b_27 : n0 ≤ b_27 := Nat.le_trans Z25 B27_4
    have Z27 : n0 ≤ T27.heap.size := Nat.le_trans Z25 K27q.1
    have N27 := Fr.app N25 N27q
    replace G : Gets p e below _ (T27.setTop (mkF m 41 #[.val (.int i0), .val (.int i1), .val (.int i2), .val (.int i3), .val (.int i4), .val (.int c0), .val (.int c1), .val (.int c2), .val (.int c3), .val (.int (1 : Int32)), .val (.ref b23), .unset] [(.ref b23)])) := fun t k => G t (st27.trans k)
    replace G := own_pop (q := 42) G X27.here hx (hb hby at_41) rfl rfl
    replace G := own_aload (q := 44) G X27.here hx (hb hby at_42) rfl rfl rfl
    replace G := own_iload (q := 46) G X27.here hx (hb hby at_44) rfl rfl
    have F33 : Exa Z T27.heap b23 "com/example/leafcutter/leafcutter/io/TextBuffer" := (F28.keep K27q)
    obtain ⟨cq32, kq32, q32a, q32b, q32c⟩ := isOf hZ rfl F33
    obtain ⟨_, _, ⟨T32, L32, kk32, nn32⟩, -, X32, ⟨Lc32, hQ32, l32, y32, z32⟩, st32⟩ := X27.virtualBack hx (y := (⟨"com/example/leafcutter/leafcutter/io/TextBuffer", "append", "(C)Lcom/example/leafcutter/leafcutter/io/TextBuffer;"⟩ : MethodName)) (z := (⟨"com/example/leafcutter/leafcutter/io/TextBuffer", "append", "(C)Lcom/example/leafcutter/leafcutter/io/TextBuffer;"⟩ : MethodName)) hown (mvT hZ (hw _ (List.mem_of_getElem? (i := 22) rfl))) (mvT hZ (hw _ (List.mem_of_getElem? (i := 23) rfl))) (notFace_of_selects (args := #[]) (mvT hZ (hw _ (List.mem_of_getElem? (i := 25) rfl)))) (mvT hZ (hw _ (List.mem_of_getElem? (i := 25) rfl))) (mvT hZ (hw _ (List.mem_of_getElem? (i := 24) rfl))) (by decide) (backOf (W := 0) (rm4s1 l Z a0 hw [] b23 c1 b_27 kb_27 (nar .char c0) T27.heap n0 Z27 B27_0 B27_1 B27_2 B27_3 F33 B27_5 ge_b23 ge_b_27 ne30) hZ (hw _ (List.mem_of_getElem? (i := 26) rfl)) (hw _ (List.mem_of_getElem? (i := 3) rfl)) (by decide) (by decide)) q32a q32c (g := (mkF m 46 #[.val (.int i0), .val (.int i1), .val (.int i2), .val (.int i3), .val (.int i4), .val (.int c0), .val (.int c1), .val (.int c2), .val (.int c3), .val (.int (1 : Int32)), .val (.ref b23), .unset] [(.int c1), (.ref b23)])) rfl (by rw [hml]; rfl) (Steps.refl _) (argsL := [(.int c1)]) (rest := []) (lenOf pd_8 rfl) rfl (by show 2 * 0 + _ ≤ _; exact Nat.le_of_eq rfl) (hb hby at_46) (fun _ _ => ⟨rfl, rfl, (by decide : 2 + 0 ≤ _), (by decide : 20 + 0 ≤ _)⟩)
    dsimp only [Pt.U, Pt.locs, Pt.cells, Pt.slots] at X32 l32 y32 z32 st32 hQ32
    subst l32 y32 z32
    obtain ⟨rfl, N32q, K32q, B32_0, B32_1, B32_2, B32_3, B32_4⟩ := hQ32
    have Z32 : n0 ≤ T32.heap.size := Nat.le_trans Z27 K32q.1
    have N32 := Fr.app N27 N32q
    replace G : Gets p e below _ (T32.setTop (mkF m 49 #[.val (.int i0), .val (.int i1), .val (.int i2), .val (.int i3), .val (.int i4), .val (.int c0), .val (.int c1), .val (.int c2), .val (.int c3), .val (.int (1 : Int32)), .val (.ref b23), .unset] [(.ref b23)])) := fun t k => G t (st32.trans k)
    replace G := own_pop (q := 50) G X32.here hx (hb hby at_49) rfl rfl
    replace G := own_aload (q := 52) G X32.here hx (hb hby at_50) rfl rfl rfl
    replace G := own_iload (q := 54) G X32.here hx (hb hby at_52) rfl rfl
    have F35 : Exa Z T32.heap b23 "com/example/leafcutter/leafcutter/io/TextBuffer" := (F33.keep K32q)
    obtain ⟨cq34, kq34, q34a, q34b, q34c⟩ := isOf hZ rfl F35
    obtain ⟨_, _, ⟨T34, L34, kk34, nn34⟩, -, X34, ⟨Lc34, hQ34, l34, y34, z34⟩, st34⟩ := X32.virtualBack hx (y := (⟨"com/example/leafcutter/leafcutter/io/TextBuffer", "append", "(C)Lcom/example/leafcutter/leafcutter/io/TextBuffer;"⟩ : MethodName)) (z := (⟨"com/example/leafcutter/leafcutter/io/TextBuffer", "append", "(C)Lcom/example/leafcutter/leafcutter/io/TextBuffer;"⟩ : MethodName)) hown (mvT hZ (hw _ (List.mem_of_getElem? (i := 22) rfl))) (mvT hZ (hw _ (List.mem_of_getElem? (i := 23) rfl))) (notFace_of_selects (args := #[]) (mvT hZ (hw _ (List.mem_of_getElem? (i := 25) rfl)))) (mvT hZ (hw _ (List.mem_of_getElem? (i := 25) rfl))) (mvT hZ (hw _ (List.mem_of_getElem? (i := 24) rfl))) (by decide) (backOf (W := 0) (rm4s2 l Z a0 hw [] b23 c2 b_27 kb_27 (nar .char c0) (nar .char c1) T32.heap n0 Z32 B32_0 B32_1 B32_2 B32_3 F35 B32_4 ge_b23 ge_b_27 ne30) hZ (hw _ (List.mem_of_getElem? (i := 26) rfl)) (hw _ (List.mem_of_getElem? (i := 3) rfl)) (by decide) (by decide)) q34a q34c (g := (mkF m 54 #[.val (.int i0), .val (.int i1), .val (.int i2), .val (.int i3), .val (.int i4), .val (.int c0), .val (.int c1), .val (.int c2), .val (.int c3), .val (.int (1 : Int32)), .val (.ref b23), .unset] [(.int c2), (.ref b23)])) rfl (by rw [hml]; rfl) (Steps.refl _) (argsL := [(.int c2)]) (rest := []) (lenOf pd_8 rfl) rfl (by show 2 * 0 + _ ≤ _; exact Nat.le_of_eq rfl) (hb hby at_54) (fun _ _ => ⟨rfl, rfl, (by decide : 2 + 0 ≤ _), (by decide : 20 + 0 ≤ _)⟩)
    dsimp only [Pt.U, Pt.locs, Pt.cells, Pt.slots] at X34 l34 y34 z34 st34 hQ34
    subst l34 y34 z34
    obtain ⟨rfl, N34q, K34q, B34_0, B34_1, B34_2, B34_3, B34_4⟩ := hQ34
    have Z34 : n0 ≤ T34.heap.size := Nat.le_trans Z32 K34q.1
    have N34 := Fr.app N32 N34q
    replace G : Gets p e below _ (T34.setTop (mkF m 57 #[.val (.int i0), .val (.int i1), .val (.int i2), .val (.int i3), .val (.int i4), .val (.int c0), .val (.int c1), .val (.int c2), .val (.int c3), .val (.int (1 : Int32)), .val (.ref b23), .unset] [(.ref b23)])) := fun t k => G t (st34.trans k)
    replace G := own_pop (q := 58) G X34.here hx (hb hby at_57) rfl rfl
    replace G := own_aload (q := 60) G X34.here hx (hb hby at_58) rfl rfl rfl
    replace G := own_iload (q := 62) G X34.here hx (hb hby at_60) rfl rfl
    have F37 : Exa Z T34.heap b23 "com/example/leafcutter/leafcutter/io/TextBuffer" := (F35.keep K34q)
    obtain ⟨cq36, kq36, q36a, q36b, q36c⟩ := isOf hZ rfl F37
    obtain ⟨_, _, ⟨T36, L36, kk36, nn36⟩, -, X36, ⟨Lc36, hQ36, l36, y36, z36⟩, st36⟩ := X34.virtualBack hx (y := (⟨"com/example/leafcutter/leafcutter/io/TextBuffer", "append", "(C)Lcom/example/leafcutter/leafcutter/io/TextBuffer;"⟩ : MethodName)) (z := (⟨"com/example/leafcutter/leafcutter/io/TextBuffer", "append", "(C)Lcom/example/leafcutter/leafcutter/io/TextBuffer;"⟩ : MethodName)) hown (mvT hZ (hw _ (List.mem_of_getElem? (i := 22) rfl))) (mvT hZ (hw _ (List.mem_of_getElem? (i := 23) rfl))) (notFace_of_selects (args := #[]) (mvT hZ (hw _ (List.mem_of_getElem? (i := 25) rfl)))) (mvT hZ (hw _ (List.mem_of_getElem? (i := 25) rfl))) (mvT hZ (hw _ (List.mem_of_getElem? (i := 24) rfl))) (by decide) (backOf (W := 0) (rm4s3 l Z a0 hw [] b23 c3 b_27 kb_27 (nar .char c0) (nar .char c1) (nar .char c2) T34.heap n0 Z34 B34_0 B34_1 B34_2 B34_3 F37 B34_4 ge_b23 ge_b_27 ne30) hZ (hw _ (List.mem_of_getElem? (i := 26) rfl)) (hw _ (List.mem_of_getElem? (i := 3) rfl)) (by decide) (by decide)) q36a q36c (g := (mkF m 62 #[.val (.int i0), .val (.int i1), .val (.int i2), .val (.int i3), .val (.int i4), .val (.int c0), .val (.int c1), .val (.int c2), .val (.int c3), .val (.int (1 : Int32)), .val (.ref b23), .unset] [(.int c3), (.ref b23)])) rfl (by rw [hml]; rfl) (Steps.refl _) (argsL := [(.int c3)]) (rest := []) (lenOf pd_8 rfl) rfl (by show 2 * 0 + _ ≤ _; exact Nat.le_of_eq rfl) (hb hby at_62) (fun _ _ => ⟨rfl, rfl, (by decide : 2 + 0 ≤ _), (by decide : 20 + 0 ≤ _)⟩)
    dsimp only [Pt.U, Pt.locs, Pt.cells, Pt.slots] at X36 l36 y36 z36 st36 hQ36
    subst l36 y36 z36
    obtain ⟨rfl, N36q, K36q, B36_0, B36_1, B36_2, B36_3, B36_4⟩ := hQ36
    have Z36 : n0 ≤ T36.heap.size := Nat.le_trans Z34 K36q.1
    have N36 := Fr.app N34 N36q
    replace G : Gets p e below _ (T36.setTop (mkF m 65 #[.val (.int i0), .val (.int i1), .val (.int i2), .val (.int i3), .val (.int i4), .val (.int c0), .val (.int c1), .val (.int c2), .val (.int c3), .val (.int (1 : Int32)), .val (.ref b23), .unset] [(.ref b23)])) := fun t k => G t (st36.trans k)
    replace G := own_pop (q := 66) G X36.here hx (hb hby at_65) rfl rfl
    replace G := own_aload (q := 68) G X36.here hx (hb hby at_66) rfl rfl rfl
    replace G := own_iload (q := 70) G X36.here hx (hb hby at_68) rfl rfl
    have F39 : Exa Z T36.heap b23 "com/example/leafcutter/leafcutter/io/TextBuffer" := (F37.keep K36q)
    obtain ⟨cq38, kq38, q38a, q38b, q38c⟩ := isOf hZ rfl F39
    obtain ⟨_, _, ⟨T38, L38, kk38, nn38⟩, -, X38, ⟨Lc38, hQ38, l38, y38, z38⟩, st38⟩ := X36.virtualBack hx (y := (⟨"com/example/leafcutter/leafcutter/io/TextBuffer", "truncate", "(I)V"⟩ : MethodName)) (z := (⟨"com/example/leafcutter/leafcutter/io/TextBuffer", "truncate", "(I)V"⟩ : MethodName)) hown (mvT hZ (hw _ (List.mem_of_getElem? (i := 59) rfl))) (mvT hZ (hw _ (List.mem_of_getElem? (i := 60) rfl))) (notFace_of_selects (args := #[]) (mvT hZ (hw _ (List.mem_of_getElem? (i := 62) rfl)))) (mvT hZ (hw _ (List.mem_of_getElem? (i := 62) rfl))) (mvT hZ (hw _ (List.mem_of_getElem? (i := 61) rfl))) (by decide) (backOf (W := 0) (rm11k1 l Z a0 hw [] b23 b_27 T36.heap n0 Z36 B36_0 B36_1 B36_2 B36_3 F39 ge_b23) hZ (hw _ (List.mem_of_getElem? (i := 63) rfl)) (hw _ (List.mem_of_getElem? (i := 3) rfl)) (by decide) (by decide)) q38a q38c (g := (mkF m 70 #[.val (.int i0), .val (.int i1), .val (.int i2), .val (.int i3), .val (.int i4), .val (.int c0), .val (.int c1), .val (.int c2), .val (.int c3), .val (.int (1 : Int32)), .val (.ref b23), .unset] [(.int (1 : Int32)), (.ref b23)])) rfl (by rw [hml]; rfl) (Steps.refl _) (argsL := [(.int (1 : Int32))]) (rest := []) (lenOf pd_4 rfl) rfl (by show 2 * 0 + _ ≤ _; exact Nat.le_of_eq rfl) (hb hby at_70) (fun _ _ => ⟨rfl, rfl, (by decide : 2 + 0 ≤ _), (by decide : 20 + 0 ≤ _)⟩)
    dsimp only [Pt.U, Pt.locs, Pt.cells, Pt.slots] at X38 l38 y38 z38 st38 hQ38
    subst l38 y38 z38
    obtain ⟨rfl, N38q, K38q, B38_0, B38_1, B38_2, B38_3⟩ := hQ38
    have Z38 : n0 ≤ T38.heap.size := Nat.le_trans Z36 K38q.1
    have N38 := Fr.app N36 N38q
    replace G : Gets p e below _ (T38.setTop (mkF m 73 #[.val (.int i0), .val (.int i1), .val (.int i2), .val (.int i3), .val (.int i4), .val (.int c0), .val (.int c1), .val (.int c2), .val (.int c3), .val (.int (1 : Int32)), .val (.ref b23), .unset] [])) := fun t k => G t (st38.trans k)
    replace G := own_aload (q := 75) G X38.here hx (hb hby at_73) rfl rfl rfl
    have F41 : Exa Z T38.heap b23 "com/example/leafcutter/leafcutter/io/TextBuffer" := (F39.keep K38q)
    have F42 : Arv Z T38.heap b_27 kb_27 .char (16 : Int32) [(.int (nar .char c0)), (.int (nar .char c1)), (.int (nar .char c2)), (.int (nar .char c3)), (.int (0 : Int32)), (.int (0 : Int32)), (.int (0 : Int32)), (.int (0 : Int32)), (.int (0 : Int32)), (.int (0 : Int32)), (.int (0 : Int32)), (.int (0 : Int32)), (.int (0 : Int32)), (.int (0 : Int32)), (.int (0 : Int32)), (.int (0 : Int32))] (.int (0 : Int32)) := (B36_4.keep K38q (ninS (Ne.symm ne30) nin0))
    obtain ⟨cq40, kq40, q40a, q40b, q40c⟩ := isOf hZ rfl F41
    obtain ⟨_, _, ⟨T40, L40, kk40, nn40⟩, -, X40, ⟨Lc40, hQ40, l40, y40, z40⟩, st40⟩ := X38.virtualBack hx (y := (⟨"com/example/leafcutter/leafcutter/io/TextBuffer", "contentHash", "()I"⟩ : MethodName)) (z := (⟨"com/example/leafcutter/leafcutter/io/TextBuffer", "contentHash", "()I"⟩ : MethodName)) hown (mvT hZ (hw _ (List.mem_of_getElem? (i := 72) rfl))) (mvT hZ (hw _ (List.mem_of_getElem? (i := 73) rfl))) (notFace_of_selects (args := #[]) (mvT hZ (hw _ (List.mem_of_getElem? (i := 75) rfl)))) (mvT hZ (hw _ (List.mem_of_getElem? (i := 75) rfl))) (mvT hZ (hw _ (List.mem_of_getElem? (i := 74) rfl))) (by decide) (backOf (W := 0) (rm14k1 l Z a0 hw [] b23 b_27 kb_27 (nar .char c0) (nar .char c1) (nar .char c2) (nar .char c3) T38.heap n0 Z38 B38_0 B38_1 F42) hZ (hw _ (List.mem_of_getElem? (i := 76) rfl)) (hw _ (List.mem_of_getElem? (i := 3) rfl)) (by decide) (by decide)) q40a q40c (g := (mkF m 75 #[.val (.int i0), .val (.int i1), .val (.int i2), .val (.int i3), .val (.int i4), .val (.int c0), .val (.int c1), .val (.int c2), .val (.int c3), .val (.int (1 : Int32)), .val (.ref b23), .unset] [(.ref b23)])) rfl (by rw [hml]; rfl) (Steps.refl _) (argsL := []) (rest := []) (lenOf pd_9 rfl) rfl (by show 2 * 0 + _ ≤ _; exact Nat.le_of_eq rfl) (hb hby at_75) (fun _ _ => ⟨rfl, rfl, (by decide : 2 + 0 ≤ _), (by decide : 20 + 0 ≤ _)⟩)
    dsimp only [Pt.U, Pt.locs, Pt.cells, Pt.slots] at X40 l40 y40 z40 st40 hQ40
    subst l40 y40 z40
    obtain ⟨rfl, N40q, e40⟩ := hQ40
    have N40 := Fr.app N38 N40q
    replace G : Gets p e below _ (T40.setTop (mkF m 78 #[.val (.int i0), .val (.int i1), .val (.int i2), .val (.int i3), .val (.int i4), .val (.int c0), .val (.int c1), .val (.int c2), .val (.int c3), .val (.int (1 : Int32)), .val (.ref b23), .unset] [(.int ((0 : Int32) + (nar .char c0)))])) := fun t k => G t (st40.trans k)
    replace G := own_istore (q := 80) (l' := #[.val (.int i0), .val (.int i1), .val (.int i2), .val (.int i3), .val (.int i4), .val (.int c0), .val (.int c1), .val (.int c2), .val (.int c3), .val (.int (1 : Int32)), .val (.ref b23), .val (.int ((0 : Int32) + (nar .char c0)))]) G X40.here hx (hb hby at_78) rfl rfl
    replace G := own_iload (q := 82) G X40.here hx (hb hby at_80) rfl rfl
    replace G := own_iload (q := 84) G X40.here hx (hb hby at_82) rfl rfl
    replace G := own_iload (q := 86) G X40.here hx (hb hby at_84) rfl rfl
    replace G := own_iload (q := 88) G X40.here hx (hb hby at_86) rfl rfl
    replace G := own_iload (q := 90) G X40.here hx (hb hby at_88) rfl rfl
    replace G := own_iload (q := 92) G X40.here hx (hb hby at_90) rfl rfl
    obtain ⟨_, _, ⟨T43, L43, kk43, nn43⟩, -, X43, ⟨Lc43, hQ43, l43, y43, z43⟩, st43⟩ := Jvm.LawKit.callS X40 hx (y := (⟨"com/example/leafcutter/leafcutter/io/TextBufferContentHashPinLaw", "expected", "(CCCCI)I"⟩ : MethodName)) hown (mvT hZ (hw _ (List.mem_of_getElem? (i := 77) rfl))) (mvT hZ (hw _ (List.mem_of_getElem? (i := 78) rfl))) (mvT hZ (hw _ (List.mem_of_getElem? (i := 79) rfl))) (mvT hZ (hw _ (List.mem_of_getElem? (i := 80) rfl))) (by decide) (backOf (W := 1) (rm15k1 l Z a0 hw [] c0 c1 c2 c3 T38.heap n0 Z38 ) hZ (hw _ (List.mem_of_getElem? (i := 80) rfl)) (hw _ (List.mem_of_getElem? (i := 79) rfl)) (by decide) (by decide)) (g := (mkF m 92 #[.val (.int i0), .val (.int i1), .val (.int i2), .val (.int i3), .val (.int i4), .val (.int c0), .val (.int c1), .val (.int c2), .val (.int c3), .val (.int (1 : Int32)), .val (.ref b23), .val (.int ((0 : Int32) + (nar .char c0)))] [(.int (1 : Int32)), (.int c3), (.int c2), (.int c1), (.int c0), (.int ((0 : Int32) + (nar .char c0)))])) rfl (by rw [hml]; rfl) (argsL := [(.int c0), (.int c1), (.int c2), (.int c3), (.int (1 : Int32))]) (rest := [(.int ((0 : Int32) + (nar .char c0)))]) (lenOf pd_10 rfl) rfl (by show 2 * 0 + _ ≤ _; exact Nat.le_of_eq rfl) (hb hby at_92) (fun _ _ => ⟨rfl, e40, (by decide : 2 + 0 ≤ _), (by decide : 20 + 0 ≤ _)⟩)
    dsimp only [Pt.U, Pt.locs, Pt.cells, Pt.slots] at X43 l43 y43 z43 st43 hQ43
    subst l43 y43 z43
    obtain ⟨rfl, N43q, e43⟩ := hQ43
    have N43 := Fr.app N40 N43q
    replace G : Gets p e below _ (T43.setTop (mkF m 95 #[.val (.int i0), .val (.int i1), .val (.int i2), .val (.int i3), .val (.int i4), .val (.int c0), .val (.int c1), .val (.int c2), .val (.int c3), .val (.int (1 : Int32)), .val (.ref b23), .val (.int ((0 : Int32) + (nar .char c0)))] [(.int c0), (.int ((0 : Int32) + (nar .char c0)))])) := fun t k => G t (st43 t k)
    have hc95_44 : ((0 : Int32) + (nar .char c0)) = c0 := by rw [q0]; exact own_h1 c0
    replace G := own_icmpNo (q := 98) G X43.here hx (hb hby at_95) (teq hc95_44).2 rfl
    replace G := own_iconst (q := 99) G X43.here hx (hb hby at_98) (v := (1 : Int32)) (by decide) rfl
    replace G := own_goto (q := 103) G X43.here hx (hb hby at_99) (by decide) (by decide)
    obtain ⟨fs, hr, hrun, hended, hW, hsame⟩ := X43.leave (v := some (.int (1 : Int32))) (fun h => by rw [Bd.returns] at h; cases h)
    refine ⟨_, _, G _ (retOut X43 hx Bd.returns rfl (Or.inl ⟨rfl, Or.inr (Or.inl rfl), _, rfl⟩) (hb hby at_103) hr), hrun, hended, _, _, rfl, ?_, ⟨_, rfl⟩, hW, hsame.mono (by decide) (by decide)⟩
    show Q0 Z i0 i1 i2 i3 i4 sa ks h0 n0 _ T43.heap _
    rw [e43]
    exact ⟨rfl, N43⟩
  · obtain ⟨T45, h45, X45, e45, E45, A45, D45, -, st45⟩ := newO X0 hx hZ hown (hw _ (List.mem_of_getElem? (i := 1) rfl)) (hw _ (List.mem_of_getElem? (i := 2) rfl)) (hw _ (List.mem_of_getElem? (i := 3) rfl)) e0 (g := (mkF m 25 #[.val (.int i0), .val (.int i1), .val (.int i2), .val (.int i3), .val (.int i4), .val (.int c0), .val (.int c1), .val (.int c2), .val (.int c3), .val (.int (2 : Int32)), .unset, .unset] [])) rfl (hb hby at_25) (by decide) (by decide)
    obtain ⟨b45, g45⟩ : ∃ z, z = h0.size := ⟨_, rfl⟩
    rw [← g45] at A45 D45 st45
    have ne46 : sa ≠ b45 := Nat.ne_of_lt (Nat.lt_of_lt_of_le P1.lt (Nat.le_of_eq g45.symm))
    have ge_b45 : n0 ≤ b45 := Nat.le_trans Z0 (Nat.le_of_eq g45.symm)
    have Z45 : n0 ≤ h45.size := Nat.le_trans Z0 E45.1
    have F45_chars : Fld Z h45 b45 "com/example/leafcutter/leafcutter/io/TextBuffer" "chars" "[C" .null := D45 (Or.inl (hw _ (List.mem_of_getElem? (i := 17) rfl))) (ty := (.array .char)) (by decide)
    have F45_limit : Fld Z h45 b45 "com/example/leafcutter/leafcutter/io/TextBuffer" "limit" "I" (.int (0 : Int32)) := D45 (Or.inr (hw _ (List.mem_of_getElem? (i := 19) rfl))) (ty := .int) (by decide)
    have F45_whenFull : Fld Z h45 b45 "com/example/leafcutter/leafcutter/io/TextBuffer" "whenFull" "Ljava/util/function/Consumer;" .null := D45 (Or.inr (hw _ (List.mem_of_getElem? (i := 21) rfl))) (ty := (.object "java/util/function/Consumer")) (by decide)
    have F45_length : Fld Z h45 b45 "com/example/leafcutter/leafcutter/io/TextBuffer" "length" "I" (.int (0 : Int32)) := D45 (Or.inl (hw _ (List.mem_of_getElem? (i := 28) rfl))) (ty := .int) (by decide)
    replace G : Gets p e below _ (T45.setTop (mkF m 28 #[.val (.int i0), .val (.int i1), .val (.int i2), .val (.int i3), .val (.int i4), .val (.int c0), .val (.int c1), .val (.int c2), .val (.int c3), .val (.int (2 : Int32)), .unset, .unset] [(.ref b45)])) := fun t k => G t (st45 t k)
    replace G := own_dup (q := 29) G X45.here hx (hb hby at_28) rfl rfl
    have F48 : Sta Z h45 "com/example/leafcutter/leafcutter/io/TextBuffer" "NO_STORAGE" "[C" (.ref sa) := (P0.ext E45)
    obtain ⟨_, _, ⟨T47, L47, kk47, nn47⟩, -, X47, ⟨Lc47, hQ47, l47, y47, z47⟩, st47⟩ := X45.specialBack hx (y := (⟨"com/example/leafcutter/leafcutter/io/TextBuffer", "<init>", "()V"⟩ : MethodName)) rfl hown (mvT hZ (hw _ (List.mem_of_getElem? (i := 4) rfl))) (mvT hZ (hw _ (List.mem_of_getElem? (i := 5) rfl))) (mvT hZ (hw _ (List.mem_of_getElem? (i := 6) rfl))) (by decide) (backOf (W := 1) (rm1 l Z a0 hw [] b45 sa h45 n0 Z45 F45_chars F45_length F45_limit F45_whenFull A45 ge_b45 F48) hZ (hw _ (List.mem_of_getElem? (i := 6) rfl)) (hw _ (List.mem_of_getElem? (i := 3) rfl)) (by decide) (by decide)) (g := (mkF m 29 #[.val (.int i0), .val (.int i1), .val (.int i2), .val (.int i3), .val (.int i4), .val (.int c0), .val (.int c1), .val (.int c2), .val (.int c3), .val (.int (2 : Int32)), .unset, .unset] [(.ref b45), (.ref b45)])) rfl (by rw [hml]; rfl) (Steps.refl _) (a := b45) (argsL := []) (rest := [(.ref b45)]) (lenOf pd_7 rfl) rfl (by show 2 * 0 + _ ≤ _; exact Nat.le_of_eq rfl) (hb hby at_29) (fun _ _ => ⟨rfl, e45, (by decide : 1 + 0 ≤ _), (by decide : 4 + 0 ≤ _)⟩)
    dsimp only [Pt.U, Pt.locs, Pt.cells, Pt.slots] at X47 l47 y47 z47 st47 hQ47
    subst l47 y47 z47
    obtain ⟨rfl, N47q, K47q, B47_0, B47_1, B47_2, B47_3⟩ := hQ47
    have Z47 : n0 ≤ T47.heap.size := Nat.le_trans Z45 K47q.1
    have N47 := Fr.app N0 N47q
    replace G : Gets p e below _ (T47.setTop (mkF m 32 #[.val (.int i0), .val (.int i1), .val (.int i2), .val (.int i3), .val (.int i4), .val (.int c0), .val (.int c1), .val (.int c2), .val (.int c3), .val (.int (2 : Int32)), .unset, .unset] [(.ref b45)])) := fun t k => G t (st47.trans k)
    replace G := own_astore (q := 34) (l' := #[.val (.int i0), .val (.int i1), .val (.int i2), .val (.int i3), .val (.int i4), .val (.int c0), .val (.int c1), .val (.int c2), .val (.int c3), .val (.int (2 : Int32)), .val (.ref b45), .unset]) G X47.here hx (hb hby at_32) rfl rfl rfl
    replace G := own_aload (q := 36) G X47.here hx (hb hby at_34) rfl rfl rfl
    replace G := own_iload (q := 38) G X47.here hx (hb hby at_36) rfl rfl
    have F50 : Exa Z T47.heap b45 "com/example/leafcutter/leafcutter/io/TextBuffer" := (A45.keep K47q)
    have F51 : Arv Z T47.heap sa ks .char (0 : Int32) [] (.int (0 : Int32)) := ((P1.ext E45).keep K47q (ninS ne46 nin0))
    obtain ⟨cq49, kq49, q49a, q49b, q49c⟩ := isOf hZ rfl F50
    obtain ⟨_, _, ⟨T49, L49, kk49, nn49⟩, -, X49, ⟨Lc49, hQ49, l49, y49, z49⟩, st49⟩ := X47.virtualBack hx (y := (⟨"com/example/leafcutter/leafcutter/io/TextBuffer", "append", "(C)Lcom/example/leafcutter/leafcutter/io/TextBuffer;"⟩ : MethodName)) (z := (⟨"com/example/leafcutter/leafcutter/io/TextBuffer", "append", "(C)Lcom/example/leafcutter/leafcutter/io/TextBuffer;"⟩ : MethodName)) hown (mvT hZ (hw _ (List.mem_of_getElem? (i := 22) rfl))) (mvT hZ (hw _ (List.mem_of_getElem? (i := 23) rfl))) (notFace_of_selects (args := #[]) (mvT hZ (hw _ (List.mem_of_getElem? (i := 25) rfl)))) (mvT hZ (hw _ (List.mem_of_getElem? (i := 25) rfl))) (mvT hZ (hw _ (List.mem_of_getElem? (i := 24) rfl))) (by decide) (backOf (W := 0) (rm4s0 l Z a0 hw [] b45 c0 sa ks T47.heap n0 Z47 B47_0 B47_1 B47_2 B47_3 F50 F51 ge_b45 (Ne.symm ne46)) hZ (hw _ (List.mem_of_getElem? (i := 26) rfl)) (hw _ (List.mem_of_getElem? (i := 3) rfl)) (by decide) (by decide)) q49a q49c (g := (mkF m 38 #[.val (.int i0), .val (.int i1), .val (.int i2), .val (.int i3), .val (.int i4), .val (.int c0), .val (.int c1), .val (.int c2), .val (.int c3), .val (.int (2 : Int32)), .val (.ref b45), .unset] [(.int c0), (.ref b45)])) rfl (by rw [hml]; rfl) (Steps.refl _) (argsL := [(.int c0)]) (rest := []) (lenOf pd_8 rfl) rfl (by show 2 * 0 + _ ≤ _; exact Nat.le_of_eq rfl) (hb hby at_38) (fun _ _ => ⟨rfl, rfl, (by decide : 1 + 1 ≤ _), (by decide : 4 + 16 ≤ _)⟩)
    dsimp only [Pt.U, Pt.locs, Pt.cells, Pt.slots] at X49 l49 y49 z49 st49 hQ49
    subst l49 y49 z49
    obtain ⟨b_49, kb_49, rfl, N49q, K49q, B49_0, B49_1, B49_2, B49_3, B49_4, B49_5⟩ := hQ49
    have ne52 : b45 ≠ b_49 := Nat.ne_of_lt (Nat.lt_of_lt_of_le B47_3.lt B49_4)
    have ne53 : sa ≠ b_49 := Nat.ne_of_lt (Nat.lt_of_lt_of_le F51.lt B49_4)
    have ge_b_49 : n0 ≤ b_49 := Nat.le_trans Z47 B49_4
    have Z49 : n0 ≤ T49.heap.size := Nat.le_trans Z47 K49q.1
    have N49 := Fr.app N47 N49q
    replace G : Gets p e below _ (T49.setTop (mkF m 41 #[.val (.int i0), .val (.int i1), .val (.int i2), .val (.int i3), .val (.int i4), .val (.int c0), .val (.int c1), .val (.int c2), .val (.int c3), .val (.int (2 : Int32)), .val (.ref b45), .unset] [(.ref b45)])) := fun t k => G t (st49.trans k)
    replace G := own_pop (q := 42) G X49.here hx (hb hby at_41) rfl rfl
    replace G := own_aload (q := 44) G X49.here hx (hb hby at_42) rfl rfl rfl
    replace G := own_iload (q := 46) G X49.here hx (hb hby at_44) rfl rfl
    have F55 : Exa Z T49.heap b45 "com/example/leafcutter/leafcutter/io/TextBuffer" := (F50.keep K49q)
    obtain ⟨cq54, kq54, q54a, q54b, q54c⟩ := isOf hZ rfl F55
    obtain ⟨_, _, ⟨T54, L54, kk54, nn54⟩, -, X54, ⟨Lc54, hQ54, l54, y54, z54⟩, st54⟩ := X49.virtualBack hx (y := (⟨"com/example/leafcutter/leafcutter/io/TextBuffer", "append", "(C)Lcom/example/leafcutter/leafcutter/io/TextBuffer;"⟩ : MethodName)) (z := (⟨"com/example/leafcutter/leafcutter/io/TextBuffer", "append", "(C)Lcom/example/leafcutter/leafcutter/io/TextBuffer;"⟩ : MethodName)) hown (mvT hZ (hw _ (List.mem_of_getElem? (i := 22) rfl))) (mvT hZ (hw _ (List.mem_of_getElem? (i := 23) rfl))) (notFace_of_selects (args := #[]) (mvT hZ (hw _ (List.mem_of_getElem? (i := 25) rfl)))) (mvT hZ (hw _ (List.mem_of_getElem? (i := 25) rfl))) (mvT hZ (hw _ (List.mem_of_getElem? (i := 24) rfl))) (by decide) (backOf (W := 0) (rm4s1 l Z a0 hw [] b45 c1 b_49 kb_49 (nar .char c0) T49.heap n0 Z49 B49_0 B49_1 B49_2 B49_3 F55 B49_5 ge_b45 ge_b_49 ne52) hZ (hw _ (List.mem_of_getElem? (i := 26) rfl)) (hw _ (List.mem_of_getElem? (i := 3) rfl)) (by decide) (by decide)) q54a q54c (g := (mkF m 46 #[.val (.int i0), .val (.int i1), .val (.int i2), .val (.int i3), .val (.int i4), .val (.int c0), .val (.int c1), .val (.int c2), .val (.int c3), .val (.int (2 : Int32)), .val (.ref b45), .unset] [(.int c1), (.ref b45)])) rfl (by rw [hml]; rfl) (Steps.refl _) (argsL := [(.int c1)]) (rest := []) (lenOf pd_8 rfl) rfl (by show 2 * 0 + _ ≤ _; exact Nat.le_of_eq rfl) (hb hby at_46) (fun _ _ => ⟨rfl, rfl, (by decide : 2 + 0 ≤ _), (by decide : 20 + 0 ≤ _)⟩)
    dsimp only [Pt.U, Pt.locs, Pt.cells, Pt.slots] at X54 l54 y54 z54 st54 hQ54
    subst l54 y54 z54
    obtain ⟨rfl, N54q, K54q, B54_0, B54_1, B54_2, B54_3, B54_4⟩ := hQ54
    have Z54 : n0 ≤ T54.heap.size := Nat.le_trans Z49 K54q.1
    have N54 := Fr.app N49 N54q
    replace G : Gets p e below _ (T54.setTop (mkF m 49 #[.val (.int i0), .val (.int i1), .val (.int i2), .val (.int i3), .val (.int i4), .val (.int c0), .val (.int c1), .val (.int c2), .val (.int c3), .val (.int (2 : Int32)), .val (.ref b45), .unset] [(.ref b45)])) := fun t k => G t (st54.trans k)
    replace G := own_pop (q := 50) G X54.here hx (hb hby at_49) rfl rfl
    replace G := own_aload (q := 52) G X54.here hx (hb hby at_50) rfl rfl rfl
    replace G := own_iload (q := 54) G X54.here hx (hb hby at_52) rfl rfl
    have F57 : Exa Z T54.heap b45 "com/example/leafcutter/leafcutter/io/TextBuffer" := (F55.keep K54q)
    obtain ⟨cq56, kq56, q56a, q56b, q56c⟩ := isOf hZ rfl F57
    obtain ⟨_, _, ⟨T56, L56, kk56, nn56⟩, -, X56, ⟨Lc56, hQ56, l56, y56, z56⟩, st56⟩ := X54.virtualBack hx (y := (⟨"com/example/leafcutter/leafcutter/io/TextBuffer", "append", "(C)Lcom/example/leafcutter/leafcutter/io/TextBuffer;"⟩ : MethodName)) (z := (⟨"com/example/leafcutter/leafcutter/io/TextBuffer", "append", "(C)Lcom/example/leafcutter/leafcutter/io/TextBuffer;"⟩ : MethodName)) hown (mvT hZ (hw _ (List.mem_of_getElem? (i := 22) rfl))) (mvT hZ (hw _ (List.mem_of_getElem? (i := 23) rfl))) (notFace_of_selects (args := #[]) (mvT hZ (hw _ (List.mem_of_getElem? (i := 25) rfl)))) (mvT hZ (hw _ (List.mem_of_getElem? (i := 25) rfl))) (mvT hZ (hw _ (List.mem_of_getElem? (i := 24) rfl))) (by decide) (backOf (W := 0) (rm4s2 l Z a0 hw [] b45 c2 b_49 kb_49 (nar .char c0) (nar .char c1) T54.heap n0 Z54 B54_0 B54_1 B54_2 B54_3 F57 B54_4 ge_b45 ge_b_49 ne52) hZ (hw _ (List.mem_of_getElem? (i := 26) rfl)) (hw _ (List.mem_of_getElem? (i := 3) rfl)) (by decide) (by decide)) q56a q56c (g := (mkF m 54 #[.val (.int i0), .val (.int i1), .val (.int i2), .val (.int i3), .val (.int i4), .val (.int c0), .val (.int c1), .val (.int c2), .val (.int c3), .val (.int (2 : Int32)), .val (.ref b45), .unset] [(.int c2), (.ref b45)])) rfl (by rw [hml]; rfl) (Steps.refl _) (argsL := [(.int c2)]) (rest := []) (lenOf pd_8 rfl) rfl (by show 2 * 0 + _ ≤ _; exact Nat.le_of_eq rfl) (hb hby at_54) (fun _ _ => ⟨rfl, rfl, (by decide : 2 + 0 ≤ _), (by decide : 20 + 0 ≤ _)⟩)
    dsimp only [Pt.U, Pt.locs, Pt.cells, Pt.slots] at X56 l56 y56 z56 st56 hQ56
    subst l56 y56 z56
    obtain ⟨rfl, N56q, K56q, B56_0, B56_1, B56_2, B56_3, B56_4⟩ := hQ56
    have Z56 : n0 ≤ T56.heap.size := Nat.le_trans Z54 K56q.1
    have N56 := Fr.app N54 N56q
    replace G : Gets p e below _ (T56.setTop (mkF m 57 #[.val (.int i0), .val (.int i1), .val (.int i2), .val (.int i3), .val (.int i4), .val (.int c0), .val (.int c1), .val (.int c2), .val (.int c3), .val (.int (2 : Int32)), .val (.ref b45), .unset] [(.ref b45)])) := fun t k => G t (st56.trans k)
    replace G := own_pop (q := 58) G X56.here hx (hb hby at_57) rfl rfl
    replace G := own_aload (q := 60) G X56.here hx (hb hby at_58) rfl rfl rfl
    replace G := own_iload (q := 62) G X56.here hx (hb hby at_60) rfl rfl
    have F59 : Exa Z T56.heap b45 "com/example/leafcutter/leafcutter/io/TextBuffer" := (F57.keep K56q)
    obtain ⟨cq58, kq58, q58a, q58b, q58c⟩ := isOf hZ rfl F59
    obtain ⟨_, _, ⟨T58, L58, kk58, nn58⟩, -, X58, ⟨Lc58, hQ58, l58, y58, z58⟩, st58⟩ := X56.virtualBack hx (y := (⟨"com/example/leafcutter/leafcutter/io/TextBuffer", "append", "(C)Lcom/example/leafcutter/leafcutter/io/TextBuffer;"⟩ : MethodName)) (z := (⟨"com/example/leafcutter/leafcutter/io/TextBuffer", "append", "(C)Lcom/example/leafcutter/leafcutter/io/TextBuffer;"⟩ : MethodName)) hown (mvT hZ (hw _ (List.mem_of_getElem? (i := 22) rfl))) (mvT hZ (hw _ (List.mem_of_getElem? (i := 23) rfl))) (notFace_of_selects (args := #[]) (mvT hZ (hw _ (List.mem_of_getElem? (i := 25) rfl)))) (mvT hZ (hw _ (List.mem_of_getElem? (i := 25) rfl))) (mvT hZ (hw _ (List.mem_of_getElem? (i := 24) rfl))) (by decide) (backOf (W := 0) (rm4s3 l Z a0 hw [] b45 c3 b_49 kb_49 (nar .char c0) (nar .char c1) (nar .char c2) T56.heap n0 Z56 B56_0 B56_1 B56_2 B56_3 F59 B56_4 ge_b45 ge_b_49 ne52) hZ (hw _ (List.mem_of_getElem? (i := 26) rfl)) (hw _ (List.mem_of_getElem? (i := 3) rfl)) (by decide) (by decide)) q58a q58c (g := (mkF m 62 #[.val (.int i0), .val (.int i1), .val (.int i2), .val (.int i3), .val (.int i4), .val (.int c0), .val (.int c1), .val (.int c2), .val (.int c3), .val (.int (2 : Int32)), .val (.ref b45), .unset] [(.int c3), (.ref b45)])) rfl (by rw [hml]; rfl) (Steps.refl _) (argsL := [(.int c3)]) (rest := []) (lenOf pd_8 rfl) rfl (by show 2 * 0 + _ ≤ _; exact Nat.le_of_eq rfl) (hb hby at_62) (fun _ _ => ⟨rfl, rfl, (by decide : 2 + 0 ≤ _), (by decide : 20 + 0 ≤ _)⟩)
    dsimp only [Pt.U, Pt.locs, Pt.cells, Pt.slots] at X58 l58 y58 z58 st58 hQ58
    subst l58 y58 z58
    obtain ⟨rfl, N58q, K58q, B58_0, B58_1, B58_2, B58_3, B58_4⟩ := hQ58
    have Z58 : n0 ≤ T58.heap.size := Nat.le_trans Z56 K58q.1
    have N58 := Fr.app N56 N58q
    replace G : Gets p e below _ (T58.setTop (mkF m 65 #[.val (.int i0), .val (.int i1), .val (.int i2), .val (.int i3), .val (.int i4), .val (.int c0), .val (.int c1), .val (.int c2), .val (.int c3), .val (.int (2 : Int32)), .val (.ref b45), .unset] [(.ref b45)])) := fun t k => G t (st58.trans k)
    replace G := own_pop (q := 66) G X58.here hx (hb hby at_65) rfl rfl
    replace G := own_aload (q := 68) G X58.here hx (hb hby at_66) rfl rfl rfl
    replace G := own_iload (q := 70) G X58.here hx (hb hby at_68) rfl rfl
    have F61 : Exa Z T58.heap b45 "com/example/leafcutter/leafcutter/io/TextBuffer" := (F59.keep K58q)
    obtain ⟨cq60, kq60, q60a, q60b, q60c⟩ := isOf hZ rfl F61
    obtain ⟨_, _, ⟨T60, L60, kk60, nn60⟩, -, X60, ⟨Lc60, hQ60, l60, y60, z60⟩, st60⟩ := X58.virtualBack hx (y := (⟨"com/example/leafcutter/leafcutter/io/TextBuffer", "truncate", "(I)V"⟩ : MethodName)) (z := (⟨"com/example/leafcutter/leafcutter/io/TextBuffer", "truncate", "(I)V"⟩ : MethodName)) hown (mvT hZ (hw _ (List.mem_of_getElem? (i := 59) rfl))) (mvT hZ (hw _ (List.mem_of_getElem? (i := 60) rfl))) (notFace_of_selects (args := #[]) (mvT hZ (hw _ (List.mem_of_getElem? (i := 62) rfl)))) (mvT hZ (hw _ (List.mem_of_getElem? (i := 62) rfl))) (mvT hZ (hw _ (List.mem_of_getElem? (i := 61) rfl))) (by decide) (backOf (W := 0) (rm11k2 l Z a0 hw [] b45 b_49 T58.heap n0 Z58 B58_0 B58_1 B58_2 B58_3 F61 ge_b45) hZ (hw _ (List.mem_of_getElem? (i := 63) rfl)) (hw _ (List.mem_of_getElem? (i := 3) rfl)) (by decide) (by decide)) q60a q60c (g := (mkF m 70 #[.val (.int i0), .val (.int i1), .val (.int i2), .val (.int i3), .val (.int i4), .val (.int c0), .val (.int c1), .val (.int c2), .val (.int c3), .val (.int (2 : Int32)), .val (.ref b45), .unset] [(.int (2 : Int32)), (.ref b45)])) rfl (by rw [hml]; rfl) (Steps.refl _) (argsL := [(.int (2 : Int32))]) (rest := []) (lenOf pd_4 rfl) rfl (by show 2 * 0 + _ ≤ _; exact Nat.le_of_eq rfl) (hb hby at_70) (fun _ _ => ⟨rfl, rfl, (by decide : 2 + 0 ≤ _), (by decide : 20 + 0 ≤ _)⟩)
    dsimp only [Pt.U, Pt.locs, Pt.cells, Pt.slots] at X60 l60 y60 z60 st60 hQ60
    subst l60 y60 z60
    obtain ⟨rfl, N60q, K60q, B60_0, B60_1, B60_2, B60_3⟩ := hQ60
    have Z60 : n0 ≤ T60.heap.size := Nat.le_trans Z58 K60q.1
    have N60 := Fr.app N58 N60q
    replace G : Gets p e below _ (T60.setTop (mkF m 73 #[.val (.int i0), .val (.int i1), .val (.int i2), .val (.int i3), .val (.int i4), .val (.int c0), .val (.int c1), .val (.int c2), .val (.int c3), .val (.int (2 : Int32)), .val (.ref b45), .unset] [])) := fun t k => G t (st60.trans k)
    replace G := own_aload (q := 75) G X60.here hx (hb hby at_73) rfl rfl rfl
    have F63 : Exa Z T60.heap b45 "com/example/leafcutter/leafcutter/io/TextBuffer" := (F61.keep K60q)
    have F64 : Arv Z T60.heap b_49 kb_49 .char (16 : Int32) [(.int (nar .char c0)), (.int (nar .char c1)), (.int (nar .char c2)), (.int (nar .char c3)), (.int (0 : Int32)), (.int (0 : Int32)), (.int (0 : Int32)), (.int (0 : Int32)), (.int (0 : Int32)), (.int (0 : Int32)), (.int (0 : Int32)), (.int (0 : Int32)), (.int (0 : Int32)), (.int (0 : Int32)), (.int (0 : Int32)), (.int (0 : Int32))] (.int (0 : Int32)) := (B58_4.keep K60q (ninS (Ne.symm ne52) nin0))
    obtain ⟨cq62, kq62, q62a, q62b, q62c⟩ := isOf hZ rfl F63
    obtain ⟨_, _, ⟨T62, L62, kk62, nn62⟩, -, X62, ⟨Lc62, hQ62, l62, y62, z62⟩, st62⟩ := X60.virtualBack hx (y := (⟨"com/example/leafcutter/leafcutter/io/TextBuffer", "contentHash", "()I"⟩ : MethodName)) (z := (⟨"com/example/leafcutter/leafcutter/io/TextBuffer", "contentHash", "()I"⟩ : MethodName)) hown (mvT hZ (hw _ (List.mem_of_getElem? (i := 72) rfl))) (mvT hZ (hw _ (List.mem_of_getElem? (i := 73) rfl))) (notFace_of_selects (args := #[]) (mvT hZ (hw _ (List.mem_of_getElem? (i := 75) rfl)))) (mvT hZ (hw _ (List.mem_of_getElem? (i := 75) rfl))) (mvT hZ (hw _ (List.mem_of_getElem? (i := 74) rfl))) (by decide) (backOf (W := 0) (rm14k2 l Z a0 hw [] b45 b_49 kb_49 (nar .char c0) (nar .char c1) (nar .char c2) (nar .char c3) T60.heap n0 Z60 B60_0 B60_1 F64) hZ (hw _ (List.mem_of_getElem? (i := 76) rfl)) (hw _ (List.mem_of_getElem? (i := 3) rfl)) (by decide) (by decide)) q62a q62c (g := (mkF m 75 #[.val (.int i0), .val (.int i1), .val (.int i2), .val (.int i3), .val (.int i4), .val (.int c0), .val (.int c1), .val (.int c2), .val (.int c3), .val (.int (2 : Int32)), .val (.ref b45), .unset] [(.ref b45)])) rfl (by rw [hml]; rfl) (Steps.refl _) (argsL := []) (rest := []) (lenOf pd_9 rfl) rfl (by show 2 * 0 + _ ≤ _; exact Nat.le_of_eq rfl) (hb hby at_75) (fun _ _ => ⟨rfl, rfl, (by decide : 2 + 0 ≤ _), (by decide : 20 + 0 ≤ _)⟩)
    dsimp only [Pt.U, Pt.locs, Pt.cells, Pt.slots] at X62 l62 y62 z62 st62 hQ62
    subst l62 y62 z62
    obtain ⟨rfl, N62q, e62⟩ := hQ62
    have N62 := Fr.app N60 N62q
    replace G : Gets p e below _ (T62.setTop (mkF m 78 #[.val (.int i0), .val (.int i1), .val (.int i2), .val (.int i3), .val (.int i4), .val (.int c0), .val (.int c1), .val (.int c2), .val (.int c3), .val (.int (2 : Int32)), .val (.ref b45), .unset] [(.int (((31 : Int32) * ((0 : Int32) + (nar .char c0))) + (nar .char c1)))])) := fun t k => G t (st62.trans k)
    replace G := own_istore (q := 80) (l' := #[.val (.int i0), .val (.int i1), .val (.int i2), .val (.int i3), .val (.int i4), .val (.int c0), .val (.int c1), .val (.int c2), .val (.int c3), .val (.int (2 : Int32)), .val (.ref b45), .val (.int (((31 : Int32) * ((0 : Int32) + (nar .char c0))) + (nar .char c1)))]) G X62.here hx (hb hby at_78) rfl rfl
    replace G := own_iload (q := 82) G X62.here hx (hb hby at_80) rfl rfl
    replace G := own_iload (q := 84) G X62.here hx (hb hby at_82) rfl rfl
    replace G := own_iload (q := 86) G X62.here hx (hb hby at_84) rfl rfl
    replace G := own_iload (q := 88) G X62.here hx (hb hby at_86) rfl rfl
    replace G := own_iload (q := 90) G X62.here hx (hb hby at_88) rfl rfl
    replace G := own_iload (q := 92) G X62.here hx (hb hby at_90) rfl rfl
    obtain ⟨_, _, ⟨T65, L65, kk65, nn65⟩, -, X65, ⟨Lc65, hQ65, l65, y65, z65⟩, st65⟩ := Jvm.LawKit.callS X62 hx (y := (⟨"com/example/leafcutter/leafcutter/io/TextBufferContentHashPinLaw", "expected", "(CCCCI)I"⟩ : MethodName)) hown (mvT hZ (hw _ (List.mem_of_getElem? (i := 77) rfl))) (mvT hZ (hw _ (List.mem_of_getElem? (i := 78) rfl))) (mvT hZ (hw _ (List.mem_of_getElem? (i := 79) rfl))) (mvT hZ (hw _ (List.mem_of_getElem? (i := 80) rfl))) (by decide) (backOf (W := 1) (rm15k2 l Z a0 hw [] c0 c1 c2 c3 T60.heap n0 Z60 ) hZ (hw _ (List.mem_of_getElem? (i := 80) rfl)) (hw _ (List.mem_of_getElem? (i := 79) rfl)) (by decide) (by decide)) (g := (mkF m 92 #[.val (.int i0), .val (.int i1), .val (.int i2), .val (.int i3), .val (.int i4), .val (.int c0), .val (.int c1), .val (.int c2), .val (.int c3), .val (.int (2 : Int32)), .val (.ref b45), .val (.int (((31 : Int32) * ((0 : Int32) + (nar .char c0))) + (nar .char c1)))] [(.int (2 : Int32)), (.int c3), (.int c2), (.int c1), (.int c0), (.int (((31 : Int32) * ((0 : Int32) + (nar .char c0))) + (nar .char c1)))])) rfl (by rw [hml]; rfl) (argsL := [(.int c0), (.int c1), (.int c2), (.int c3), (.int (2 : Int32))]) (rest := [(.int (((31 : Int32) * ((0 : Int32) + (nar .char c0))) + (nar .char c1)))]) (lenOf pd_10 rfl) rfl (by show 2 * 0 + _ ≤ _; exact Nat.le_of_eq rfl) (hb hby at_92) (fun _ _ => ⟨rfl, e62, (by decide : 2 + 0 ≤ _), (by decide : 20 + 0 ≤ _)⟩)
    dsimp only [Pt.U, Pt.locs, Pt.cells, Pt.slots] at X65 l65 y65 z65 st65 hQ65
    subst l65 y65 z65
    obtain ⟨rfl, N65q, e65⟩ := hQ65
    have N65 := Fr.app N62 N65q
    replace G : Gets p e below _ (T65.setTop (mkF m 95 #[.val (.int i0), .val (.int i1), .val (.int i2), .val (.int i3), .val (.int i4), .val (.int c0), .val (.int c1), .val (.int c2), .val (.int c3), .val (.int (2 : Int32)), .val (.ref b45), .val (.int (((31 : Int32) * ((0 : Int32) + (nar .char c0))) + (nar .char c1)))] [(.int ((c0 * (31 : Int32)) + c1)), (.int (((31 : Int32) * ((0 : Int32) + (nar .char c0))) + (nar .char c1)))])) := fun t k => G t (st65 t k)
    have hc95_66 : (((31 : Int32) * ((0 : Int32) + (nar .char c0))) + (nar .char c1)) = ((c0 * (31 : Int32)) + c1) := by rw [q0, q1]; exact own_h2 c0 c1
    replace G := own_icmpNo (q := 98) G X65.here hx (hb hby at_95) (teq hc95_66).2 rfl
    replace G := own_iconst (q := 99) G X65.here hx (hb hby at_98) (v := (1 : Int32)) (by decide) rfl
    replace G := own_goto (q := 103) G X65.here hx (hb hby at_99) (by decide) (by decide)
    obtain ⟨fs, hr, hrun, hended, hW, hsame⟩ := X65.leave (v := some (.int (1 : Int32))) (fun h => by rw [Bd.returns] at h; cases h)
    refine ⟨_, _, G _ (retOut X65 hx Bd.returns rfl (Or.inl ⟨rfl, Or.inr (Or.inl rfl), _, rfl⟩) (hb hby at_103) hr), hrun, hended, _, _, rfl, ?_, ⟨_, rfl⟩, hW, hsame.mono (by decide) (by decide)⟩
    show Q0 Z i0 i1 i2 i3 i4 sa ks h0 n0 _ T65.heap _
    rw [e65]
    exact ⟨rfl, N65⟩
  · obtain ⟨T67, h67, X67, e67, E67, A67, D67, -, st67⟩ := newO X0 hx hZ hown (hw _ (List.mem_of_getElem? (i := 1) rfl)) (hw _ (List.mem_of_getElem? (i := 2) rfl)) (hw _ (List.mem_of_getElem? (i := 3) rfl)) e0 (g := (mkF m 25 #[.val (.int i0), .val (.int i1), .val (.int i2), .val (.int i3), .val (.int i4), .val (.int c0), .val (.int c1), .val (.int c2), .val (.int c3), .val (.int (3 : Int32)), .unset, .unset] [])) rfl (hb hby at_25) (by decide) (by decide)
    obtain ⟨b67, g67⟩ : ∃ z, z = h0.size := ⟨_, rfl⟩
    rw [← g67] at A67 D67 st67
    have ne68 : sa ≠ b67 := Nat.ne_of_lt (Nat.lt_of_lt_of_le P1.lt (Nat.le_of_eq g67.symm))
    have ge_b67 : n0 ≤ b67 := Nat.le_trans Z0 (Nat.le_of_eq g67.symm)
    have Z67 : n0 ≤ h67.size := Nat.le_trans Z0 E67.1
    have F67_chars : Fld Z h67 b67 "com/example/leafcutter/leafcutter/io/TextBuffer" "chars" "[C" .null := D67 (Or.inl (hw _ (List.mem_of_getElem? (i := 17) rfl))) (ty := (.array .char)) (by decide)
    have F67_limit : Fld Z h67 b67 "com/example/leafcutter/leafcutter/io/TextBuffer" "limit" "I" (.int (0 : Int32)) := D67 (Or.inr (hw _ (List.mem_of_getElem? (i := 19) rfl))) (ty := .int) (by decide)
    have F67_whenFull : Fld Z h67 b67 "com/example/leafcutter/leafcutter/io/TextBuffer" "whenFull" "Ljava/util/function/Consumer;" .null := D67 (Or.inr (hw _ (List.mem_of_getElem? (i := 21) rfl))) (ty := (.object "java/util/function/Consumer")) (by decide)
    have F67_length : Fld Z h67 b67 "com/example/leafcutter/leafcutter/io/TextBuffer" "length" "I" (.int (0 : Int32)) := D67 (Or.inl (hw _ (List.mem_of_getElem? (i := 28) rfl))) (ty := .int) (by decide)
    replace G : Gets p e below _ (T67.setTop (mkF m 28 #[.val (.int i0), .val (.int i1), .val (.int i2), .val (.int i3), .val (.int i4), .val (.int c0), .val (.int c1), .val (.int c2), .val (.int c3), .val (.int (3 : Int32)), .unset, .unset] [(.ref b67)])) := fun t k => G t (st67 t k)
    replace G := own_dup (q := 29) G X67.here hx (hb hby at_28) rfl rfl
    have F70 : Sta Z h67 "com/example/leafcutter/leafcutter/io/TextBuffer" "NO_STORAGE" "[C" (.ref sa) := (P0.ext E67)
    obtain ⟨_, _, ⟨T69, L69, kk69, nn69⟩, -, X69, ⟨Lc69, hQ69, l69, y69, z69⟩, st69⟩ := X67.specialBack hx (y := (⟨"com/example/leafcutter/leafcutter/io/TextBuffer", "<init>", "()V"⟩ : MethodName)) rfl hown (mvT hZ (hw _ (List.mem_of_getElem? (i := 4) rfl))) (mvT hZ (hw _ (List.mem_of_getElem? (i := 5) rfl))) (mvT hZ (hw _ (List.mem_of_getElem? (i := 6) rfl))) (by decide) (backOf (W := 1) (rm1 l Z a0 hw [] b67 sa h67 n0 Z67 F67_chars F67_length F67_limit F67_whenFull A67 ge_b67 F70) hZ (hw _ (List.mem_of_getElem? (i := 6) rfl)) (hw _ (List.mem_of_getElem? (i := 3) rfl)) (by decide) (by decide)) (g := (mkF m 29 #[.val (.int i0), .val (.int i1), .val (.int i2), .val (.int i3), .val (.int i4), .val (.int c0), .val (.int c1), .val (.int c2), .val (.int c3), .val (.int (3 : Int32)), .unset, .unset] [(.ref b67), (.ref b67)])) rfl (by rw [hml]; rfl) (Steps.refl _) (a := b67) (argsL := []) (rest := [(.ref b67)]) (lenOf pd_7 rfl) rfl (by show 2 * 0 + _ ≤ _; exact Nat.le_of_eq rfl) (hb hby at_29) (fun _ _ => ⟨rfl, e67, (by decide : 1 + 0 ≤ _), (by decide : 4 + 0 ≤ _)⟩)
    dsimp only [Pt.U, Pt.locs, Pt.cells, Pt.slots] at X69 l69 y69 z69 st69 hQ69
    subst l69 y69 z69
    obtain ⟨rfl, N69q, K69q, B69_0, B69_1, B69_2, B69_3⟩ := hQ69
    have Z69 : n0 ≤ T69.heap.size := Nat.le_trans Z67 K69q.1
    have N69 := Fr.app N0 N69q
    replace G : Gets p e below _ (T69.setTop (mkF m 32 #[.val (.int i0), .val (.int i1), .val (.int i2), .val (.int i3), .val (.int i4), .val (.int c0), .val (.int c1), .val (.int c2), .val (.int c3), .val (.int (3 : Int32)), .unset, .unset] [(.ref b67)])) := fun t k => G t (st69.trans k)
    replace G := own_astore (q := 34) (l' := #[.val (.int i0), .val (.int i1), .val (.int i2), .val (.int i3), .val (.int i4), .val (.int c0), .val (.int c1), .val (.int c2), .val (.int c3), .val (.int (3 : Int32)), .val (.ref b67), .unset]) G X69.here hx (hb hby at_32) rfl rfl rfl
    replace G := own_aload (q := 36) G X69.here hx (hb hby at_34) rfl rfl rfl
    replace G := own_iload (q := 38) G X69.here hx (hb hby at_36) rfl rfl
    have F72 : Exa Z T69.heap b67 "com/example/leafcutter/leafcutter/io/TextBuffer" := (A67.keep K69q)
    have F73 : Arv Z T69.heap sa ks .char (0 : Int32) [] (.int (0 : Int32)) := ((P1.ext E67).keep K69q (ninS ne68 nin0))
    obtain ⟨cq71, kq71, q71a, q71b, q71c⟩ := isOf hZ rfl F72
    obtain ⟨_, _, ⟨T71, L71, kk71, nn71⟩, -, X71, ⟨Lc71, hQ71, l71, y71, z71⟩, st71⟩ := X69.virtualBack hx (y := (⟨"com/example/leafcutter/leafcutter/io/TextBuffer", "append", "(C)Lcom/example/leafcutter/leafcutter/io/TextBuffer;"⟩ : MethodName)) (z := (⟨"com/example/leafcutter/leafcutter/io/TextBuffer", "append", "(C)Lcom/example/leafcutter/leafcutter/io/TextBuffer;"⟩ : MethodName)) hown (mvT hZ (hw _ (List.mem_of_getElem? (i := 22) rfl))) (mvT hZ (hw _ (List.mem_of_getElem? (i := 23) rfl))) (notFace_of_selects (args := #[]) (mvT hZ (hw _ (List.mem_of_getElem? (i := 25) rfl)))) (mvT hZ (hw _ (List.mem_of_getElem? (i := 25) rfl))) (mvT hZ (hw _ (List.mem_of_getElem? (i := 24) rfl))) (by decide) (backOf (W := 0) (rm4s0 l Z a0 hw [] b67 c0 sa ks T69.heap n0 Z69 B69_0 B69_1 B69_2 B69_3 F72 F73 ge_b67 (Ne.symm ne68)) hZ (hw _ (List.mem_of_getElem? (i := 26) rfl)) (hw _ (List.mem_of_getElem? (i := 3) rfl)) (by decide) (by decide)) q71a q71c (g := (mkF m 38 #[.val (.int i0), .val (.int i1), .val (.int i2), .val (.int i3), .val (.int i4), .val (.int c0), .val (.int c1), .val (.int c2), .val (.int c3), .val (.int (3 : Int32)), .val (.ref b67), .unset] [(.int c0), (.ref b67)])) rfl (by rw [hml]; rfl) (Steps.refl _) (argsL := [(.int c0)]) (rest := []) (lenOf pd_8 rfl) rfl (by show 2 * 0 + _ ≤ _; exact Nat.le_of_eq rfl) (hb hby at_38) (fun _ _ => ⟨rfl, rfl, (by decide : 1 + 1 ≤ _), (by decide : 4 + 16 ≤ _)⟩)
    dsimp only [Pt.U, Pt.locs, Pt.cells, Pt.slots] at X71 l71 y71 z71 st71 hQ71
    subst l71 y71 z71
    obtain ⟨b_71, kb_71, rfl, N71q, K71q, B71_0, B71_1, B71_2, B71_3, B71_4, B71_5⟩ := hQ71
    have ne74 : b67 ≠ b_71 := Nat.ne_of_lt (Nat.lt_of_lt_of_le B69_3.lt B71_4)
    have ne75 : sa ≠ b_71 := Nat.ne_of_lt (Nat.lt_of_lt_of_le F73.lt B71_4)
    have ge_b_71 : n0 ≤ b_71 := Nat.le_trans Z69 B71_4
    have Z71 : n0 ≤ T71.heap.size := Nat.le_trans Z69 K71q.1
    have N71 := Fr.app N69 N71q
    replace G : Gets p e below _ (T71.setTop (mkF m 41 #[.val (.int i0), .val (.int i1), .val (.int i2), .val (.int i3), .val (.int i4), .val (.int c0), .val (.int c1), .val (.int c2), .val (.int c3), .val (.int (3 : Int32)), .val (.ref b67), .unset] [(.ref b67)])) := fun t k => G t (st71.trans k)
    replace G := own_pop (q := 42) G X71.here hx (hb hby at_41) rfl rfl
    replace G := own_aload (q := 44) G X71.here hx (hb hby at_42) rfl rfl rfl
    replace G := own_iload (q := 46) G X71.here hx (hb hby at_44) rfl rfl
    have F77 : Exa Z T71.heap b67 "com/example/leafcutter/leafcutter/io/TextBuffer" := (F72.keep K71q)
    obtain ⟨cq76, kq76, q76a, q76b, q76c⟩ := isOf hZ rfl F77
    obtain ⟨_, _, ⟨T76, L76, kk76, nn76⟩, -, X76, ⟨Lc76, hQ76, l76, y76, z76⟩, st76⟩ := X71.virtualBack hx (y := (⟨"com/example/leafcutter/leafcutter/io/TextBuffer", "append", "(C)Lcom/example/leafcutter/leafcutter/io/TextBuffer;"⟩ : MethodName)) (z := (⟨"com/example/leafcutter/leafcutter/io/TextBuffer", "append", "(C)Lcom/example/leafcutter/leafcutter/io/TextBuffer;"⟩ : MethodName)) hown (mvT hZ (hw _ (List.mem_of_getElem? (i := 22) rfl))) (mvT hZ (hw _ (List.mem_of_getElem? (i := 23) rfl))) (notFace_of_selects (args := #[]) (mvT hZ (hw _ (List.mem_of_getElem? (i := 25) rfl)))) (mvT hZ (hw _ (List.mem_of_getElem? (i := 25) rfl))) (mvT hZ (hw _ (List.mem_of_getElem? (i := 24) rfl))) (by decide) (backOf (W := 0) (rm4s1 l Z a0 hw [] b67 c1 b_71 kb_71 (nar .char c0) T71.heap n0 Z71 B71_0 B71_1 B71_2 B71_3 F77 B71_5 ge_b67 ge_b_71 ne74) hZ (hw _ (List.mem_of_getElem? (i := 26) rfl)) (hw _ (List.mem_of_getElem? (i := 3) rfl)) (by decide) (by decide)) q76a q76c (g := (mkF m 46 #[.val (.int i0), .val (.int i1), .val (.int i2), .val (.int i3), .val (.int i4), .val (.int c0), .val (.int c1), .val (.int c2), .val (.int c3), .val (.int (3 : Int32)), .val (.ref b67), .unset] [(.int c1), (.ref b67)])) rfl (by rw [hml]; rfl) (Steps.refl _) (argsL := [(.int c1)]) (rest := []) (lenOf pd_8 rfl) rfl (by show 2 * 0 + _ ≤ _; exact Nat.le_of_eq rfl) (hb hby at_46) (fun _ _ => ⟨rfl, rfl, (by decide : 2 + 0 ≤ _), (by decide : 20 + 0 ≤ _)⟩)
    dsimp only [Pt.U, Pt.locs, Pt.cells, Pt.slots] at X76 l76 y76 z76 st76 hQ76
    subst l76 y76 z76
    obtain ⟨rfl, N76q, K76q, B76_0, B76_1, B76_2, B76_3, B76_4⟩ := hQ76
    have Z76 : n0 ≤ T76.heap.size := Nat.le_trans Z71 K76q.1
    have N76 := Fr.app N71 N76q
    replace G : Gets p e below _ (T76.setTop (mkF m 49 #[.val (.int i0), .val (.int i1), .val (.int i2), .val (.int i3), .val (.int i4), .val (.int c0), .val (.int c1), .val (.int c2), .val (.int c3), .val (.int (3 : Int32)), .val (.ref b67), .unset] [(.ref b67)])) := fun t k => G t (st76.trans k)
    replace G := own_pop (q := 50) G X76.here hx (hb hby at_49) rfl rfl
    replace G := own_aload (q := 52) G X76.here hx (hb hby at_50) rfl rfl rfl
    replace G := own_iload (q := 54) G X76.here hx (hb hby at_52) rfl rfl
    have F79 : Exa Z T76.heap b67 "com/example/leafcutter/leafcutter/io/TextBuffer" := (F77.keep K76q)
    obtain ⟨cq78, kq78, q78a, q78b, q78c⟩ := isOf hZ rfl F79
    obtain ⟨_, _, ⟨T78, L78, kk78, nn78⟩, -, X78, ⟨Lc78, hQ78, l78, y78, z78⟩, st78⟩ := X76.virtualBack hx (y := (⟨"com/example/leafcutter/leafcutter/io/TextBuffer", "append", "(C)Lcom/example/leafcutter/leafcutter/io/TextBuffer;"⟩ : MethodName)) (z := (⟨"com/example/leafcutter/leafcutter/io/TextBuffer", "append", "(C)Lcom/example/leafcutter/leafcutter/io/TextBuffer;"⟩ : MethodName)) hown (mvT hZ (hw _ (List.mem_of_getElem? (i := 22) rfl))) (mvT hZ (hw _ (List.mem_of_getElem? (i := 23) rfl))) (notFace_of_selects (args := #[]) (mvT hZ (hw _ (List.mem_of_getElem? (i := 25) rfl)))) (mvT hZ (hw _ (List.mem_of_getElem? (i := 25) rfl))) (mvT hZ (hw _ (List.mem_of_getElem? (i := 24) rfl))) (by decide) (backOf (W := 0) (rm4s2 l Z a0 hw [] b67 c2 b_71 kb_71 (nar .char c0) (nar .char c1) T76.heap n0 Z76 B76_0 B76_1 B76_2 B76_3 F79 B76_4 ge_b67 ge_b_71 ne74) hZ (hw _ (List.mem_of_getElem? (i := 26) rfl)) (hw _ (List.mem_of_getElem? (i := 3) rfl)) (by decide) (by decide)) q78a q78c (g := (mkF m 54 #[.val (.int i0), .val (.int i1), .val (.int i2), .val (.int i3), .val (.int i4), .val (.int c0), .val (.int c1), .val (.int c2), .val (.int c3), .val (.int (3 : Int32)), .val (.ref b67), .unset] [(.int c2), (.ref b67)])) rfl (by rw [hml]; rfl) (Steps.refl _) (argsL := [(.int c2)]) (rest := []) (lenOf pd_8 rfl) rfl (by show 2 * 0 + _ ≤ _; exact Nat.le_of_eq rfl) (hb hby at_54) (fun _ _ => ⟨rfl, rfl, (by decide : 2 + 0 ≤ _), (by decide : 20 + 0 ≤ _)⟩)
    dsimp only [Pt.U, Pt.locs, Pt.cells, Pt.slots] at X78 l78 y78 z78 st78 hQ78
    subst l78 y78 z78
    obtain ⟨rfl, N78q, K78q, B78_0, B78_1, B78_2, B78_3, B78_4⟩ := hQ78
    have Z78 : n0 ≤ T78.heap.size := Nat.le_trans Z76 K78q.1
    have N78 := Fr.app N76 N78q
    replace G : Gets p e below _ (T78.setTop (mkF m 57 #[.val (.int i0), .val (.int i1), .val (.int i2), .val (.int i3), .val (.int i4), .val (.int c0), .val (.int c1), .val (.int c2), .val (.int c3), .val (.int (3 : Int32)), .val (.ref b67), .unset] [(.ref b67)])) := fun t k => G t (st78.trans k)
    replace G := own_pop (q := 58) G X78.here hx (hb hby at_57) rfl rfl
    replace G := own_aload (q := 60) G X78.here hx (hb hby at_58) rfl rfl rfl
    replace G := own_iload (q := 62) G X78.here hx (hb hby at_60) rfl rfl
    have F81 : Exa Z T78.heap b67 "com/example/leafcutter/leafcutter/io/TextBuffer" := (F79.keep K78q)
    obtain ⟨cq80, kq80, q80a, q80b, q80c⟩ := isOf hZ rfl F81
    obtain ⟨_, _, ⟨T80, L80, kk80, nn80⟩, -, X80, ⟨Lc80, hQ80, l80, y80, z80⟩, st80⟩ := X78.virtualBack hx (y := (⟨"com/example/leafcutter/leafcutter/io/TextBuffer", "append", "(C)Lcom/example/leafcutter/leafcutter/io/TextBuffer;"⟩ : MethodName)) (z := (⟨"com/example/leafcutter/leafcutter/io/TextBuffer", "append", "(C)Lcom/example/leafcutter/leafcutter/io/TextBuffer;"⟩ : MethodName)) hown (mvT hZ (hw _ (List.mem_of_getElem? (i := 22) rfl))) (mvT hZ (hw _ (List.mem_of_getElem? (i := 23) rfl))) (notFace_of_selects (args := #[]) (mvT hZ (hw _ (List.mem_of_getElem? (i := 25) rfl)))) (mvT hZ (hw _ (List.mem_of_getElem? (i := 25) rfl))) (mvT hZ (hw _ (List.mem_of_getElem? (i := 24) rfl))) (by decide) (backOf (W := 0) (rm4s3 l Z a0 hw [] b67 c3 b_71 kb_71 (nar .char c0) (nar .char c1) (nar .char c2) T78.heap n0 Z78 B78_0 B78_1 B78_2 B78_3 F81 B78_4 ge_b67 ge_b_71 ne74) hZ (hw _ (List.mem_of_getElem? (i := 26) rfl)) (hw _ (List.mem_of_getElem? (i := 3) rfl)) (by decide) (by decide)) q80a q80c (g := (mkF m 62 #[.val (.int i0), .val (.int i1), .val (.int i2), .val (.int i3), .val (.int i4), .val (.int c0), .val (.int c1), .val (.int c2), .val (.int c3), .val (.int (3 : Int32)), .val (.ref b67), .unset] [(.int c3), (.ref b67)])) rfl (by rw [hml]; rfl) (Steps.refl _) (argsL := [(.int c3)]) (rest := []) (lenOf pd_8 rfl) rfl (by show 2 * 0 + _ ≤ _; exact Nat.le_of_eq rfl) (hb hby at_62) (fun _ _ => ⟨rfl, rfl, (by decide : 2 + 0 ≤ _), (by decide : 20 + 0 ≤ _)⟩)
    dsimp only [Pt.U, Pt.locs, Pt.cells, Pt.slots] at X80 l80 y80 z80 st80 hQ80
    subst l80 y80 z80
    obtain ⟨rfl, N80q, K80q, B80_0, B80_1, B80_2, B80_3, B80_4⟩ := hQ80
    have Z80 : n0 ≤ T80.heap.size := Nat.le_trans Z78 K80q.1
    have N80 := Fr.app N78 N80q
    replace G : Gets p e below _ (T80.setTop (mkF m 65 #[.val (.int i0), .val (.int i1), .val (.int i2), .val (.int i3), .val (.int i4), .val (.int c0), .val (.int c1), .val (.int c2), .val (.int c3), .val (.int (3 : Int32)), .val (.ref b67), .unset] [(.ref b67)])) := fun t k => G t (st80.trans k)
    replace G := own_pop (q := 66) G X80.here hx (hb hby at_65) rfl rfl
    replace G := own_aload (q := 68) G X80.here hx (hb hby at_66) rfl rfl rfl
    replace G := own_iload (q := 70) G X80.here hx (hb hby at_68) rfl rfl
    have F83 : Exa Z T80.heap b67 "com/example/leafcutter/leafcutter/io/TextBuffer" := (F81.keep K80q)
    obtain ⟨cq82, kq82, q82a, q82b, q82c⟩ := isOf hZ rfl F83
    obtain ⟨_, _, ⟨T82, L82, kk82, nn82⟩, -, X82, ⟨Lc82, hQ82, l82, y82, z82⟩, st82⟩ := X80.virtualBack hx (y := (⟨"com/example/leafcutter/leafcutter/io/TextBuffer", "truncate", "(I)V"⟩ : MethodName)) (z := (⟨"com/example/leafcutter/leafcutter/io/TextBuffer", "truncate", "(I)V"⟩ : MethodName)) hown (mvT hZ (hw _ (List.mem_of_getElem? (i := 59) rfl))) (mvT hZ (hw _ (List.mem_of_getElem? (i := 60) rfl))) (notFace_of_selects (args := #[]) (mvT hZ (hw _ (List.mem_of_getElem? (i := 62) rfl)))) (mvT hZ (hw _ (List.mem_of_getElem? (i := 62) rfl))) (mvT hZ (hw _ (List.mem_of_getElem? (i := 61) rfl))) (by decide) (backOf (W := 0) (rm11k3 l Z a0 hw [] b67 b_71 T80.heap n0 Z80 B80_0 B80_1 B80_2 B80_3 F83 ge_b67) hZ (hw _ (List.mem_of_getElem? (i := 63) rfl)) (hw _ (List.mem_of_getElem? (i := 3) rfl)) (by decide) (by decide)) q82a q82c (g := (mkF m 70 #[.val (.int i0), .val (.int i1), .val (.int i2), .val (.int i3), .val (.int i4), .val (.int c0), .val (.int c1), .val (.int c2), .val (.int c3), .val (.int (3 : Int32)), .val (.ref b67), .unset] [(.int (3 : Int32)), (.ref b67)])) rfl (by rw [hml]; rfl) (Steps.refl _) (argsL := [(.int (3 : Int32))]) (rest := []) (lenOf pd_4 rfl) rfl (by show 2 * 0 + _ ≤ _; exact Nat.le_of_eq rfl) (hb hby at_70) (fun _ _ => ⟨rfl, rfl, (by decide : 2 + 0 ≤ _), (by decide : 20 + 0 ≤ _)⟩)
    dsimp only [Pt.U, Pt.locs, Pt.cells, Pt.slots] at X82 l82 y82 z82 st82 hQ82
    subst l82 y82 z82
    obtain ⟨rfl, N82q, K82q, B82_0, B82_1, B82_2, B82_3⟩ := hQ82
    have Z82 : n0 ≤ T82.heap.size := Nat.le_trans Z80 K82q.1
    have N82 := Fr.app N80 N82q
    replace G : Gets p e below _ (T82.setTop (mkF m 73 #[.val (.int i0), .val (.int i1), .val (.int i2), .val (.int i3), .val (.int i4), .val (.int c0), .val (.int c1), .val (.int c2), .val (.int c3), .val (.int (3 : Int32)), .val (.ref b67), .unset] [])) := fun t k => G t (st82.trans k)
    replace G := own_aload (q := 75) G X82.here hx (hb hby at_73) rfl rfl rfl
    have F85 : Exa Z T82.heap b67 "com/example/leafcutter/leafcutter/io/TextBuffer" := (F83.keep K82q)
    have F86 : Arv Z T82.heap b_71 kb_71 .char (16 : Int32) [(.int (nar .char c0)), (.int (nar .char c1)), (.int (nar .char c2)), (.int (nar .char c3)), (.int (0 : Int32)), (.int (0 : Int32)), (.int (0 : Int32)), (.int (0 : Int32)), (.int (0 : Int32)), (.int (0 : Int32)), (.int (0 : Int32)), (.int (0 : Int32)), (.int (0 : Int32)), (.int (0 : Int32)), (.int (0 : Int32)), (.int (0 : Int32))] (.int (0 : Int32)) := (B80_4.keep K82q (ninS (Ne.symm ne74) nin0))
    obtain ⟨cq84, kq84, q84a, q84b, q84c⟩ := isOf hZ rfl F85
    obtain ⟨_, _, ⟨T84, L84, kk84, nn84⟩, -, X84, ⟨Lc84, hQ84, l84, y84, z84⟩, st84⟩ := X82.virtualBack hx (y := (⟨"com/example/leafcutter/leafcutter/io/TextBuffer", "contentHash", "()I"⟩ : MethodName)) (z := (⟨"com/example/leafcutter/leafcutter/io/TextBuffer", "contentHash", "()I"⟩ : MethodName)) hown (mvT hZ (hw _ (List.mem_of_getElem? (i := 72) rfl))) (mvT hZ (hw _ (List.mem_of_getElem? (i := 73) rfl))) (notFace_of_selects (args := #[]) (mvT hZ (hw _ (List.mem_of_getElem? (i := 75) rfl)))) (mvT hZ (hw _ (List.mem_of_getElem? (i := 75) rfl))) (mvT hZ (hw _ (List.mem_of_getElem? (i := 74) rfl))) (by decide) (backOf (W := 0) (rm14k3 l Z a0 hw [] b67 b_71 kb_71 (nar .char c0) (nar .char c1) (nar .char c2) (nar .char c3) T82.heap n0 Z82 B82_0 B82_1 F86) hZ (hw _ (List.mem_of_getElem? (i := 76) rfl)) (hw _ (List.mem_of_getElem? (i := 3) rfl)) (by decide) (by decide)) q84a q84c (g := (mkF m 75 #[.val (.int i0), .val (.int i1), .val (.int i2), .val (.int i3), .val (.int i4), .val (.int c0), .val (.int c1), .val (.int c2), .val (.int c3), .val (.int (3 : Int32)), .val (.ref b67), .unset] [(.ref b67)])) rfl (by rw [hml]; rfl) (Steps.refl _) (argsL := []) (rest := []) (lenOf pd_9 rfl) rfl (by show 2 * 0 + _ ≤ _; exact Nat.le_of_eq rfl) (hb hby at_75) (fun _ _ => ⟨rfl, rfl, (by decide : 2 + 0 ≤ _), (by decide : 20 + 0 ≤ _)⟩)
    dsimp only [Pt.U, Pt.locs, Pt.cells, Pt.slots] at X84 l84 y84 z84 st84 hQ84
    subst l84 y84 z84
    obtain ⟨rfl, N84q, e84⟩ := hQ84
    have N84 := Fr.app N82 N84q
    replace G : Gets p e below _ (T84.setTop (mkF m 78 #[.val (.int i0), .val (.int i1), .val (.int i2), .val (.int i3), .val (.int i4), .val (.int c0), .val (.int c1), .val (.int c2), .val (.int c3), .val (.int (3 : Int32)), .val (.ref b67), .unset] [(.int (((31 : Int32) * (((31 : Int32) * ((0 : Int32) + (nar .char c0))) + (nar .char c1))) + (nar .char c2)))])) := fun t k => G t (st84.trans k)
    replace G := own_istore (q := 80) (l' := #[.val (.int i0), .val (.int i1), .val (.int i2), .val (.int i3), .val (.int i4), .val (.int c0), .val (.int c1), .val (.int c2), .val (.int c3), .val (.int (3 : Int32)), .val (.ref b67), .val (.int (((31 : Int32) * (((31 : Int32) * ((0 : Int32) + (nar .char c0))) + (nar .char c1))) + (nar .char c2)))]) G X84.here hx (hb hby at_78) rfl rfl
    replace G := own_iload (q := 82) G X84.here hx (hb hby at_80) rfl rfl
    replace G := own_iload (q := 84) G X84.here hx (hb hby at_82) rfl rfl
    replace G := own_iload (q := 86) G X84.here hx (hb hby at_84) rfl rfl
    replace G := own_iload (q := 88) G X84.here hx (hb hby at_86) rfl rfl
    replace G := own_iload (q := 90) G X84.here hx (hb hby at_88) rfl rfl
    replace G := own_iload (q := 92) G X84.here hx (hb hby at_90) rfl rfl
    obtain ⟨_, _, ⟨T87, L87, kk87, nn87⟩, -, X87, ⟨Lc87, hQ87, l87, y87, z87⟩, st87⟩ := Jvm.LawKit.callS X84 hx (y := (⟨"com/example/leafcutter/leafcutter/io/TextBufferContentHashPinLaw", "expected", "(CCCCI)I"⟩ : MethodName)) hown (mvT hZ (hw _ (List.mem_of_getElem? (i := 77) rfl))) (mvT hZ (hw _ (List.mem_of_getElem? (i := 78) rfl))) (mvT hZ (hw _ (List.mem_of_getElem? (i := 79) rfl))) (mvT hZ (hw _ (List.mem_of_getElem? (i := 80) rfl))) (by decide) (backOf (W := 1) (rm15k3 l Z a0 hw [] c0 c1 c2 c3 T82.heap n0 Z82 ) hZ (hw _ (List.mem_of_getElem? (i := 80) rfl)) (hw _ (List.mem_of_getElem? (i := 79) rfl)) (by decide) (by decide)) (g := (mkF m 92 #[.val (.int i0), .val (.int i1), .val (.int i2), .val (.int i3), .val (.int i4), .val (.int c0), .val (.int c1), .val (.int c2), .val (.int c3), .val (.int (3 : Int32)), .val (.ref b67), .val (.int (((31 : Int32) * (((31 : Int32) * ((0 : Int32) + (nar .char c0))) + (nar .char c1))) + (nar .char c2)))] [(.int (3 : Int32)), (.int c3), (.int c2), (.int c1), (.int c0), (.int (((31 : Int32) * (((31 : Int32) * ((0 : Int32) + (nar .char c0))) + (nar .char c1))) + (nar .char c2)))])) rfl (by rw [hml]; rfl) (argsL := [(.int c0), (.int c1), (.int c2), (.int c3), (.int (3 : Int32))]) (rest := [(.int (((31 : Int32) * (((31 : Int32) * ((0 : Int32) + (nar .char c0))) + (nar .char c1))) + (nar .char c2)))]) (lenOf pd_10 rfl) rfl (by show 2 * 0 + _ ≤ _; exact Nat.le_of_eq rfl) (hb hby at_92) (fun _ _ => ⟨rfl, e84, (by decide : 2 + 0 ≤ _), (by decide : 20 + 0 ≤ _)⟩)
    dsimp only [Pt.U, Pt.locs, Pt.cells, Pt.slots] at X87 l87 y87 z87 st87 hQ87
    subst l87 y87 z87
    obtain ⟨rfl, N87q, e87⟩ := hQ87
    have N87 := Fr.app N84 N87q
    replace G : Gets p e below _ (T87.setTop (mkF m 95 #[.val (.int i0), .val (.int i1), .val (.int i2), .val (.int i3), .val (.int i4), .val (.int c0), .val (.int c1), .val (.int c2), .val (.int c3), .val (.int (3 : Int32)), .val (.ref b67), .val (.int (((31 : Int32) * (((31 : Int32) * ((0 : Int32) + (nar .char c0))) + (nar .char c1))) + (nar .char c2)))] [(.int (((c0 * (961 : Int32)) + (c1 * (31 : Int32))) + c2)), (.int (((31 : Int32) * (((31 : Int32) * ((0 : Int32) + (nar .char c0))) + (nar .char c1))) + (nar .char c2)))])) := fun t k => G t (st87 t k)
    have hc95_88 : (((31 : Int32) * (((31 : Int32) * ((0 : Int32) + (nar .char c0))) + (nar .char c1))) + (nar .char c2)) = (((c0 * (961 : Int32)) + (c1 * (31 : Int32))) + c2) := by rw [q0, q1, q2]; exact own_h3 c0 c1 c2
    replace G := own_icmpNo (q := 98) G X87.here hx (hb hby at_95) (teq hc95_88).2 rfl
    replace G := own_iconst (q := 99) G X87.here hx (hb hby at_98) (v := (1 : Int32)) (by decide) rfl
    replace G := own_goto (q := 103) G X87.here hx (hb hby at_99) (by decide) (by decide)
    obtain ⟨fs, hr, hrun, hended, hW, hsame⟩ := X87.leave (v := some (.int (1 : Int32))) (fun h => by rw [Bd.returns] at h; cases h)
    refine ⟨_, _, G _ (retOut X87 hx Bd.returns rfl (Or.inl ⟨rfl, Or.inr (Or.inl rfl), _, rfl⟩) (hb hby at_103) hr), hrun, hended, _, _, rfl, ?_, ⟨_, rfl⟩, hW, hsame.mono (by decide) (by decide)⟩
    show Q0 Z i0 i1 i2 i3 i4 sa ks h0 n0 _ T87.heap _
    rw [e87]
    exact ⟨rfl, N87⟩
  · obtain ⟨T89, h89, X89, e89, E89, A89, D89, -, st89⟩ := newO X0 hx hZ hown (hw _ (List.mem_of_getElem? (i := 1) rfl)) (hw _ (List.mem_of_getElem? (i := 2) rfl)) (hw _ (List.mem_of_getElem? (i := 3) rfl)) e0 (g := (mkF m 25 #[.val (.int i0), .val (.int i1), .val (.int i2), .val (.int i3), .val (.int i4), .val (.int c0), .val (.int c1), .val (.int c2), .val (.int c3), .val (.int (4 : Int32)), .unset, .unset] [])) rfl (hb hby at_25) (by decide) (by decide)
    obtain ⟨b89, g89⟩ : ∃ z, z = h0.size := ⟨_, rfl⟩
    rw [← g89] at A89 D89 st89
    have ne90 : sa ≠ b89 := Nat.ne_of_lt (Nat.lt_of_lt_of_le P1.lt (Nat.le_of_eq g89.symm))
    have ge_b89 : n0 ≤ b89 := Nat.le_trans Z0 (Nat.le_of_eq g89.symm)
    have Z89 : n0 ≤ h89.size := Nat.le_trans Z0 E89.1
    have F89_chars : Fld Z h89 b89 "com/example/leafcutter/leafcutter/io/TextBuffer" "chars" "[C" .null := D89 (Or.inl (hw _ (List.mem_of_getElem? (i := 17) rfl))) (ty := (.array .char)) (by decide)
    have F89_limit : Fld Z h89 b89 "com/example/leafcutter/leafcutter/io/TextBuffer" "limit" "I" (.int (0 : Int32)) := D89 (Or.inr (hw _ (List.mem_of_getElem? (i := 19) rfl))) (ty := .int) (by decide)
    have F89_whenFull : Fld Z h89 b89 "com/example/leafcutter/leafcutter/io/TextBuffer" "whenFull" "Ljava/util/function/Consumer;" .null := D89 (Or.inr (hw _ (List.mem_of_getElem? (i := 21) rfl))) (ty := (.object "java/util/function/Consumer")) (by decide)
    have F89_length : Fld Z h89 b89 "com/example/leafcutter/leafcutter/io/TextBuffer" "length" "I" (.int (0 : Int32)) := D89 (Or.inl (hw _ (List.mem_of_getElem? (i := 28) rfl))) (ty := .int) (by decide)
    replace G : Gets p e below _ (T89.setTop (mkF m 28 #[.val (.int i0), .val (.int i1), .val (.int i2), .val (.int i3), .val (.int i4), .val (.int c0), .val (.int c1), .val (.int c2), .val (.int c3), .val (.int (4 : Int32)), .unset, .unset] [(.ref b89)])) := fun t k => G t (st89 t k)
    replace G := own_dup (q := 29) G X89.here hx (hb hby at_28) rfl rfl
    have F92 : Sta Z h89 "com/example/leafcutter/leafcutter/io/TextBuffer" "NO_STORAGE" "[C" (.ref sa) := (P0.ext E89)
    obtain ⟨_, _, ⟨T91, L91, kk91, nn91⟩, -, X91, ⟨Lc91, hQ91, l91, y91, z91⟩, st91⟩ := X89.specialBack hx (y := (⟨"com/example/leafcutter/leafcutter/io/TextBuffer", "<init>", "()V"⟩ : MethodName)) rfl hown (mvT hZ (hw _ (List.mem_of_getElem? (i := 4) rfl))) (mvT hZ (hw _ (List.mem_of_getElem? (i := 5) rfl))) (mvT hZ (hw _ (List.mem_of_getElem? (i := 6) rfl))) (by decide) (backOf (W := 1) (rm1 l Z a0 hw [] b89 sa h89 n0 Z89 F89_chars F89_length F89_limit F89_whenFull A89 ge_b89 F92) hZ (hw _ (List.mem_of_getElem? (i := 6) rfl)) (hw _ (List.mem_of_getElem? (i := 3) rfl)) (by decide) (by decide)) (g := (mkF m 29 #[.val (.int i0), .val (.int i1), .val (.int i2), .val (.int i3), .val (.int i4), .val (.int c0), .val (.int c1), .val (.int c2), .val (.int c3), .val (.int (4 : Int32)), .unset, .unset] [(.ref b89), (.ref b89)])) rfl (by rw [hml]; rfl) (Steps.refl _) (a := b89) (argsL := []) (rest := [(.ref b89)]) (lenOf pd_7 rfl) rfl (by show 2 * 0 + _ ≤ _; exact Nat.le_of_eq rfl) (hb hby at_29) (fun _ _ => ⟨rfl, e89, (by decide : 1 + 0 ≤ _), (by decide : 4 + 0 ≤ _)⟩)
    dsimp only [Pt.U, Pt.locs, Pt.cells, Pt.slots] at X91 l91 y91 z91 st91 hQ91
    subst l91 y91 z91
    obtain ⟨rfl, N91q, K91q, B91_0, B91_1, B91_2, B91_3⟩ := hQ91
    have Z91 : n0 ≤ T91.heap.size := Nat.le_trans Z89 K91q.1
    have N91 := Fr.app N0 N91q
    replace G : Gets p e below _ (T91.setTop (mkF m 32 #[.val (.int i0), .val (.int i1), .val (.int i2), .val (.int i3), .val (.int i4), .val (.int c0), .val (.int c1), .val (.int c2), .val (.int c3), .val (.int (4 : Int32)), .unset, .unset] [(.ref b89)])) := fun t k => G t (st91.trans k)
    replace G := own_astore (q := 34) (l' := #[.val (.int i0), .val (.int i1), .val (.int i2), .val (.int i3), .val (.int i4), .val (.int c0), .val (.int c1), .val (.int c2), .val (.int c3), .val (.int (4 : Int32)), .val (.ref b89), .unset]) G X91.here hx (hb hby at_32) rfl rfl rfl
    replace G := own_aload (q := 36) G X91.here hx (hb hby at_34) rfl rfl rfl
    replace G := own_iload (q := 38) G X91.here hx (hb hby at_36) rfl rfl
    have F94 : Exa Z T91.heap b89 "com/example/leafcutter/leafcutter/io/TextBuffer" := (A89.keep K91q)
    have F95 : Arv Z T91.heap sa ks .char (0 : Int32) [] (.int (0 : Int32)) := ((P1.ext E89).keep K91q (ninS ne90 nin0))
    obtain ⟨cq93, kq93, q93a, q93b, q93c⟩ := isOf hZ rfl F94
    obtain ⟨_, _, ⟨T93, L93, kk93, nn93⟩, -, X93, ⟨Lc93, hQ93, l93, y93, z93⟩, st93⟩ := X91.virtualBack hx (y := (⟨"com/example/leafcutter/leafcutter/io/TextBuffer", "append", "(C)Lcom/example/leafcutter/leafcutter/io/TextBuffer;"⟩ : MethodName)) (z := (⟨"com/example/leafcutter/leafcutter/io/TextBuffer", "append", "(C)Lcom/example/leafcutter/leafcutter/io/TextBuffer;"⟩ : MethodName)) hown (mvT hZ (hw _ (List.mem_of_getElem? (i := 22) rfl))) (mvT hZ (hw _ (List.mem_of_getElem? (i := 23) rfl))) (notFace_of_selects (args := #[]) (mvT hZ (hw _ (List.mem_of_getElem? (i := 25) rfl)))) (mvT hZ (hw _ (List.mem_of_getElem? (i := 25) rfl))) (mvT hZ (hw _ (List.mem_of_getElem? (i := 24) rfl))) (by decide) (backOf (W := 0) (rm4s0 l Z a0 hw [] b89 c0 sa ks T91.heap n0 Z91 B91_0 B91_1 B91_2 B91_3 F94 F95 ge_b89 (Ne.symm ne90)) hZ (hw _ (List.mem_of_getElem? (i := 26) rfl)) (hw _ (List.mem_of_getElem? (i := 3) rfl)) (by decide) (by decide)) q93a q93c (g := (mkF m 38 #[.val (.int i0), .val (.int i1), .val (.int i2), .val (.int i3), .val (.int i4), .val (.int c0), .val (.int c1), .val (.int c2), .val (.int c3), .val (.int (4 : Int32)), .val (.ref b89), .unset] [(.int c0), (.ref b89)])) rfl (by rw [hml]; rfl) (Steps.refl _) (argsL := [(.int c0)]) (rest := []) (lenOf pd_8 rfl) rfl (by show 2 * 0 + _ ≤ _; exact Nat.le_of_eq rfl) (hb hby at_38) (fun _ _ => ⟨rfl, rfl, (by decide : 1 + 1 ≤ _), (by decide : 4 + 16 ≤ _)⟩)
    dsimp only [Pt.U, Pt.locs, Pt.cells, Pt.slots] at X93 l93 y93 z93 st93 hQ93
    subst l93 y93 z93
    obtain ⟨b_93, kb_93, rfl, N93q, K93q, B93_0, B93_1, B93_2, B93_3, B93_4, B93_5⟩ := hQ93
    have ne96 : b89 ≠ b_93 := Nat.ne_of_lt (Nat.lt_of_lt_of_le B91_3.lt B93_4)
    have ne97 : sa ≠ b_93 := Nat.ne_of_lt (Nat.lt_of_lt_of_le F95.lt B93_4)
    have ge_b_93 : n0 ≤ b_93 := Nat.le_trans Z91 B93_4
    have Z93 : n0 ≤ T93.heap.size := Nat.le_trans Z91 K93q.1
    have N93 := Fr.app N91 N93q
    replace G : Gets p e below _ (T93.setTop (mkF m 41 #[.val (.int i0), .val (.int i1), .val (.int i2), .val (.int i3), .val (.int i4), .val (.int c0), .val (.int c1), .val (.int c2), .val (.int c3), .val (.int (4 : Int32)), .val (.ref b89), .unset] [(.ref b89)])) := fun t k => G t (st93.trans k)
    replace G := own_pop (q := 42) G X93.here hx (hb hby at_41) rfl rfl
    replace G := own_aload (q := 44) G X93.here hx (hb hby at_42) rfl rfl rfl
    replace G := own_iload (q := 46) G X93.here hx (hb hby at_44) rfl rfl
    have F99 : Exa Z T93.heap b89 "com/example/leafcutter/leafcutter/io/TextBuffer" := (F94.keep K93q)
    obtain ⟨cq98, kq98, q98a, q98b, q98c⟩ := isOf hZ rfl F99
    obtain ⟨_, _, ⟨T98, L98, kk98, nn98⟩, -, X98, ⟨Lc98, hQ98, l98, y98, z98⟩, st98⟩ := X93.virtualBack hx (y := (⟨"com/example/leafcutter/leafcutter/io/TextBuffer", "append", "(C)Lcom/example/leafcutter/leafcutter/io/TextBuffer;"⟩ : MethodName)) (z := (⟨"com/example/leafcutter/leafcutter/io/TextBuffer", "append", "(C)Lcom/example/leafcutter/leafcutter/io/TextBuffer;"⟩ : MethodName)) hown (mvT hZ (hw _ (List.mem_of_getElem? (i := 22) rfl))) (mvT hZ (hw _ (List.mem_of_getElem? (i := 23) rfl))) (notFace_of_selects (args := #[]) (mvT hZ (hw _ (List.mem_of_getElem? (i := 25) rfl)))) (mvT hZ (hw _ (List.mem_of_getElem? (i := 25) rfl))) (mvT hZ (hw _ (List.mem_of_getElem? (i := 24) rfl))) (by decide) (backOf (W := 0) (rm4s1 l Z a0 hw [] b89 c1 b_93 kb_93 (nar .char c0) T93.heap n0 Z93 B93_0 B93_1 B93_2 B93_3 F99 B93_5 ge_b89 ge_b_93 ne96) hZ (hw _ (List.mem_of_getElem? (i := 26) rfl)) (hw _ (List.mem_of_getElem? (i := 3) rfl)) (by decide) (by decide)) q98a q98c (g := (mkF m 46 #[.val (.int i0), .val (.int i1), .val (.int i2), .val (.int i3), .val (.int i4), .val (.int c0), .val (.int c1), .val (.int c2), .val (.int c3), .val (.int (4 : Int32)), .val (.ref b89), .unset] [(.int c1), (.ref b89)])) rfl (by rw [hml]; rfl) (Steps.refl _) (argsL := [(.int c1)]) (rest := []) (lenOf pd_8 rfl) rfl (by show 2 * 0 + _ ≤ _; exact Nat.le_of_eq rfl) (hb hby at_46) (fun _ _ => ⟨rfl, rfl, (by decide : 2 + 0 ≤ _), (by decide : 20 + 0 ≤ _)⟩)
    dsimp only [Pt.U, Pt.locs, Pt.cells, Pt.slots] at X98 l98 y98 z98 st98 hQ98
    subst l98 y98 z98
    obtain ⟨rfl, N98q, K98q, B98_0, B98_1, B98_2, B98_3, B98_4⟩ := hQ98
    have Z98 : n0 ≤ T98.heap.size := Nat.le_trans Z93 K98q.1
    have N98 := Fr.app N93 N98q
    replace G : Gets p e below _ (T98.setTop (mkF m 49 #[.val (.int i0), .val (.int i1), .val (.int i2), .val (.int i3), .val (.int i4), .val (.int c0), .val (.int c1), .val (.int c2), .val (.int c3), .val (.int (4 : Int32)), .val (.ref b89), .unset] [(.ref b89)])) := fun t k => G t (st98.trans k)
    replace G := own_pop (q := 50) G X98.here hx (hb hby at_49) rfl rfl
    replace G := own_aload (q := 52) G X98.here hx (hb hby at_50) rfl rfl rfl
    replace G := own_iload (q := 54) G X98.here hx (hb hby at_52) rfl rfl
    have F101 : Exa Z T98.heap b89 "com/example/leafcutter/leafcutter/io/TextBuffer" := (F99.keep K98q)
    obtain ⟨cq100, kq100, q100a, q100b, q100c⟩ := isOf hZ rfl F101
    obtain ⟨_, _, ⟨T100, L100, kk100, nn100⟩, -, X100, ⟨Lc100, hQ100, l100, y100, z100⟩, st100⟩ := X98.virtualBack hx (y := (⟨"com/example/leafcutter/leafcutter/io/TextBuffer", "append", "(C)Lcom/example/leafcutter/leafcutter/io/TextBuffer;"⟩ : MethodName)) (z := (⟨"com/example/leafcutter/leafcutter/io/TextBuffer", "append", "(C)Lcom/example/leafcutter/leafcutter/io/TextBuffer;"⟩ : MethodName)) hown (mvT hZ (hw _ (List.mem_of_getElem? (i := 22) rfl))) (mvT hZ (hw _ (List.mem_of_getElem? (i := 23) rfl))) (notFace_of_selects (args := #[]) (mvT hZ (hw _ (List.mem_of_getElem? (i := 25) rfl)))) (mvT hZ (hw _ (List.mem_of_getElem? (i := 25) rfl))) (mvT hZ (hw _ (List.mem_of_getElem? (i := 24) rfl))) (by decide) (backOf (W := 0) (rm4s2 l Z a0 hw [] b89 c2 b_93 kb_93 (nar .char c0) (nar .char c1) T98.heap n0 Z98 B98_0 B98_1 B98_2 B98_3 F101 B98_4 ge_b89 ge_b_93 ne96) hZ (hw _ (List.mem_of_getElem? (i := 26) rfl)) (hw _ (List.mem_of_getElem? (i := 3) rfl)) (by decide) (by decide)) q100a q100c (g := (mkF m 54 #[.val (.int i0), .val (.int i1), .val (.int i2), .val (.int i3), .val (.int i4), .val (.int c0), .val (.int c1), .val (.int c2), .val (.int c3), .val (.int (4 : Int32)), .val (.ref b89), .unset] [(.int c2), (.ref b89)])) rfl (by rw [hml]; rfl) (Steps.refl _) (argsL := [(.int c2)]) (rest := []) (lenOf pd_8 rfl) rfl (by show 2 * 0 + _ ≤ _; exact Nat.le_of_eq rfl) (hb hby at_54) (fun _ _ => ⟨rfl, rfl, (by decide : 2 + 0 ≤ _), (by decide : 20 + 0 ≤ _)⟩)
    dsimp only [Pt.U, Pt.locs, Pt.cells, Pt.slots] at X100 l100 y100 z100 st100 hQ100
    subst l100 y100 z100
    obtain ⟨rfl, N100q, K100q, B100_0, B100_1, B100_2, B100_3, B100_4⟩ := hQ100
    have Z100 : n0 ≤ T100.heap.size := Nat.le_trans Z98 K100q.1
    have N100 := Fr.app N98 N100q
    replace G : Gets p e below _ (T100.setTop (mkF m 57 #[.val (.int i0), .val (.int i1), .val (.int i2), .val (.int i3), .val (.int i4), .val (.int c0), .val (.int c1), .val (.int c2), .val (.int c3), .val (.int (4 : Int32)), .val (.ref b89), .unset] [(.ref b89)])) := fun t k => G t (st100.trans k)
    replace G := own_pop (q := 58) G X100.here hx (hb hby at_57) rfl rfl
    replace G := own_aload (q := 60) G X100.here hx (hb hby at_58) rfl rfl rfl
    replace G := own_iload (q := 62) G X100.here hx (hb hby at_60) rfl rfl
    have F103 : Exa Z T100.heap b89 "com/example/leafcutter/leafcutter/io/TextBuffer" := (F101.keep K100q)
    obtain ⟨cq102, kq102, q102a, q102b, q102c⟩ := isOf hZ rfl F103
    obtain ⟨_, _, ⟨T102, L102, kk102, nn102⟩, -, X102, ⟨Lc102, hQ102, l102, y102, z102⟩, st102⟩ := X100.virtualBack hx (y := (⟨"com/example/leafcutter/leafcutter/io/TextBuffer", "append", "(C)Lcom/example/leafcutter/leafcutter/io/TextBuffer;"⟩ : MethodName)) (z := (⟨"com/example/leafcutter/leafcutter/io/TextBuffer", "append", "(C)Lcom/example/leafcutter/leafcutter/io/TextBuffer;"⟩ : MethodName)) hown (mvT hZ (hw _ (List.mem_of_getElem? (i := 22) rfl))) (mvT hZ (hw _ (List.mem_of_getElem? (i := 23) rfl))) (notFace_of_selects (args := #[]) (mvT hZ (hw _ (List.mem_of_getElem? (i := 25) rfl)))) (mvT hZ (hw _ (List.mem_of_getElem? (i := 25) rfl))) (mvT hZ (hw _ (List.mem_of_getElem? (i := 24) rfl))) (by decide) (backOf (W := 0) (rm4s3 l Z a0 hw [] b89 c3 b_93 kb_93 (nar .char c0) (nar .char c1) (nar .char c2) T100.heap n0 Z100 B100_0 B100_1 B100_2 B100_3 F103 B100_4 ge_b89 ge_b_93 ne96) hZ (hw _ (List.mem_of_getElem? (i := 26) rfl)) (hw _ (List.mem_of_getElem? (i := 3) rfl)) (by decide) (by decide)) q102a q102c (g := (mkF m 62 #[.val (.int i0), .val (.int i1), .val (.int i2), .val (.int i3), .val (.int i4), .val (.int c0), .val (.int c1), .val (.int c2), .val (.int c3), .val (.int (4 : Int32)), .val (.ref b89), .unset] [(.int c3), (.ref b89)])) rfl (by rw [hml]; rfl) (Steps.refl _) (argsL := [(.int c3)]) (rest := []) (lenOf pd_8 rfl) rfl (by show 2 * 0 + _ ≤ _; exact Nat.le_of_eq rfl) (hb hby at_62) (fun _ _ => ⟨rfl, rfl, (by decide : 2 + 0 ≤ _), (by decide : 20 + 0 ≤ _)⟩)
    dsimp only [Pt.U, Pt.locs, Pt.cells, Pt.slots] at X102 l102 y102 z102 st102 hQ102
    subst l102 y102 z102
    obtain ⟨rfl, N102q, K102q, B102_0, B102_1, B102_2, B102_3, B102_4⟩ := hQ102
    have Z102 : n0 ≤ T102.heap.size := Nat.le_trans Z100 K102q.1
    have N102 := Fr.app N100 N102q
    replace G : Gets p e below _ (T102.setTop (mkF m 65 #[.val (.int i0), .val (.int i1), .val (.int i2), .val (.int i3), .val (.int i4), .val (.int c0), .val (.int c1), .val (.int c2), .val (.int c3), .val (.int (4 : Int32)), .val (.ref b89), .unset] [(.ref b89)])) := fun t k => G t (st102.trans k)
    replace G := own_pop (q := 66) G X102.here hx (hb hby at_65) rfl rfl
    replace G := own_aload (q := 68) G X102.here hx (hb hby at_66) rfl rfl rfl
    replace G := own_iload (q := 70) G X102.here hx (hb hby at_68) rfl rfl
    have F105 : Exa Z T102.heap b89 "com/example/leafcutter/leafcutter/io/TextBuffer" := (F103.keep K102q)
    obtain ⟨cq104, kq104, q104a, q104b, q104c⟩ := isOf hZ rfl F105
    obtain ⟨_, _, ⟨T104, L104, kk104, nn104⟩, -, X104, ⟨Lc104, hQ104, l104, y104, z104⟩, st104⟩ := X102.virtualBack hx (y := (⟨"com/example/leafcutter/leafcutter/io/TextBuffer", "truncate", "(I)V"⟩ : MethodName)) (z := (⟨"com/example/leafcutter/leafcutter/io/TextBuffer", "truncate", "(I)V"⟩ : MethodName)) hown (mvT hZ (hw _ (List.mem_of_getElem? (i := 59) rfl))) (mvT hZ (hw _ (List.mem_of_getElem? (i := 60) rfl))) (notFace_of_selects (args := #[]) (mvT hZ (hw _ (List.mem_of_getElem? (i := 62) rfl)))) (mvT hZ (hw _ (List.mem_of_getElem? (i := 62) rfl))) (mvT hZ (hw _ (List.mem_of_getElem? (i := 61) rfl))) (by decide) (backOf (W := 0) (rm11k4 l Z a0 hw [] b89 b_93 T102.heap n0 Z102 B102_0 B102_1 B102_2 B102_3 F105 ge_b89) hZ (hw _ (List.mem_of_getElem? (i := 63) rfl)) (hw _ (List.mem_of_getElem? (i := 3) rfl)) (by decide) (by decide)) q104a q104c (g := (mkF m 70 #[.val (.int i0), .val (.int i1), .val (.int i2), .val (.int i3), .val (.int i4), .val (.int c0), .val (.int c1), .val (.int c2), .val (.int c3), .val (.int (4 : Int32)), .val (.ref b89), .unset] [(.int (4 : Int32)), (.ref b89)])) rfl (by rw [hml]; rfl) (Steps.refl _) (argsL := [(.int (4 : Int32))]) (rest := []) (lenOf pd_4 rfl) rfl (by show 2 * 0 + _ ≤ _; exact Nat.le_of_eq rfl) (hb hby at_70) (fun _ _ => ⟨rfl, rfl, (by decide : 2 + 0 ≤ _), (by decide : 20 + 0 ≤ _)⟩)
    dsimp only [Pt.U, Pt.locs, Pt.cells, Pt.slots] at X104 l104 y104 z104 st104 hQ104
    subst l104 y104 z104
    obtain ⟨rfl, N104q, K104q, B104_0, B104_1, B104_2, B104_3⟩ := hQ104
    have Z104 : n0 ≤ T104.heap.size := Nat.le_trans Z102 K104q.1
    have N104 := Fr.app N102 N104q
    replace G : Gets p e below _ (T104.setTop (mkF m 73 #[.val (.int i0), .val (.int i1), .val (.int i2), .val (.int i3), .val (.int i4), .val (.int c0), .val (.int c1), .val (.int c2), .val (.int c3), .val (.int (4 : Int32)), .val (.ref b89), .unset] [])) := fun t k => G t (st104.trans k)
    replace G := own_aload (q := 75) G X104.here hx (hb hby at_73) rfl rfl rfl
    have F107 : Exa Z T104.heap b89 "com/example/leafcutter/leafcutter/io/TextBuffer" := (F105.keep K104q)
    have F108 : Arv Z T104.heap b_93 kb_93 .char (16 : Int32) [(.int (nar .char c0)), (.int (nar .char c1)), (.int (nar .char c2)), (.int (nar .char c3)), (.int (0 : Int32)), (.int (0 : Int32)), (.int (0 : Int32)), (.int (0 : Int32)), (.int (0 : Int32)), (.int (0 : Int32)), (.int (0 : Int32)), (.int (0 : Int32)), (.int (0 : Int32)), (.int (0 : Int32)), (.int (0 : Int32)), (.int (0 : Int32))] (.int (0 : Int32)) := (B102_4.keep K104q (ninS (Ne.symm ne96) nin0))
    obtain ⟨cq106, kq106, q106a, q106b, q106c⟩ := isOf hZ rfl F107
    obtain ⟨_, _, ⟨T106, L106, kk106, nn106⟩, -, X106, ⟨Lc106, hQ106, l106, y106, z106⟩, st106⟩ := X104.virtualBack hx (y := (⟨"com/example/leafcutter/leafcutter/io/TextBuffer", "contentHash", "()I"⟩ : MethodName)) (z := (⟨"com/example/leafcutter/leafcutter/io/TextBuffer", "contentHash", "()I"⟩ : MethodName)) hown (mvT hZ (hw _ (List.mem_of_getElem? (i := 72) rfl))) (mvT hZ (hw _ (List.mem_of_getElem? (i := 73) rfl))) (notFace_of_selects (args := #[]) (mvT hZ (hw _ (List.mem_of_getElem? (i := 75) rfl)))) (mvT hZ (hw _ (List.mem_of_getElem? (i := 75) rfl))) (mvT hZ (hw _ (List.mem_of_getElem? (i := 74) rfl))) (by decide) (backOf (W := 0) (rm14k4 l Z a0 hw [] b89 b_93 kb_93 (nar .char c0) (nar .char c1) (nar .char c2) (nar .char c3) T104.heap n0 Z104 B104_0 B104_1 F108) hZ (hw _ (List.mem_of_getElem? (i := 76) rfl)) (hw _ (List.mem_of_getElem? (i := 3) rfl)) (by decide) (by decide)) q106a q106c (g := (mkF m 75 #[.val (.int i0), .val (.int i1), .val (.int i2), .val (.int i3), .val (.int i4), .val (.int c0), .val (.int c1), .val (.int c2), .val (.int c3), .val (.int (4 : Int32)), .val (.ref b89), .unset] [(.ref b89)])) rfl (by rw [hml]; rfl) (Steps.refl _) (argsL := []) (rest := []) (lenOf pd_9 rfl) rfl (by show 2 * 0 + _ ≤ _; exact Nat.le_of_eq rfl) (hb hby at_75) (fun _ _ => ⟨rfl, rfl, (by decide : 2 + 0 ≤ _), (by decide : 20 + 0 ≤ _)⟩)
    dsimp only [Pt.U, Pt.locs, Pt.cells, Pt.slots] at X106 l106 y106 z106 st106 hQ106
    subst l106 y106 z106
    obtain ⟨rfl, N106q, e106⟩ := hQ106
    have N106 := Fr.app N104 N106q
    replace G : Gets p e below _ (T106.setTop (mkF m 78 #[.val (.int i0), .val (.int i1), .val (.int i2), .val (.int i3), .val (.int i4), .val (.int c0), .val (.int c1), .val (.int c2), .val (.int c3), .val (.int (4 : Int32)), .val (.ref b89), .unset] [(.int (((31 : Int32) * (((31 : Int32) * (((31 : Int32) * ((0 : Int32) + (nar .char c0))) + (nar .char c1))) + (nar .char c2))) + (nar .char c3)))])) := fun t k => G t (st106.trans k)
    replace G := own_istore (q := 80) (l' := #[.val (.int i0), .val (.int i1), .val (.int i2), .val (.int i3), .val (.int i4), .val (.int c0), .val (.int c1), .val (.int c2), .val (.int c3), .val (.int (4 : Int32)), .val (.ref b89), .val (.int (((31 : Int32) * (((31 : Int32) * (((31 : Int32) * ((0 : Int32) + (nar .char c0))) + (nar .char c1))) + (nar .char c2))) + (nar .char c3)))]) G X106.here hx (hb hby at_78) rfl rfl
    replace G := own_iload (q := 82) G X106.here hx (hb hby at_80) rfl rfl
    replace G := own_iload (q := 84) G X106.here hx (hb hby at_82) rfl rfl
    replace G := own_iload (q := 86) G X106.here hx (hb hby at_84) rfl rfl
    replace G := own_iload (q := 88) G X106.here hx (hb hby at_86) rfl rfl
    replace G := own_iload (q := 90) G X106.here hx (hb hby at_88) rfl rfl
    replace G := own_iload (q := 92) G X106.here hx (hb hby at_90) rfl rfl
    obtain ⟨_, _, ⟨T109, L109, kk109, nn109⟩, -, X109, ⟨Lc109, hQ109, l109, y109, z109⟩, st109⟩ := Jvm.LawKit.callS X106 hx (y := (⟨"com/example/leafcutter/leafcutter/io/TextBufferContentHashPinLaw", "expected", "(CCCCI)I"⟩ : MethodName)) hown (mvT hZ (hw _ (List.mem_of_getElem? (i := 77) rfl))) (mvT hZ (hw _ (List.mem_of_getElem? (i := 78) rfl))) (mvT hZ (hw _ (List.mem_of_getElem? (i := 79) rfl))) (mvT hZ (hw _ (List.mem_of_getElem? (i := 80) rfl))) (by decide) (backOf (W := 1) (rm15k4 l Z a0 hw [] c0 c1 c2 c3 T104.heap n0 Z104 ) hZ (hw _ (List.mem_of_getElem? (i := 80) rfl)) (hw _ (List.mem_of_getElem? (i := 79) rfl)) (by decide) (by decide)) (g := (mkF m 92 #[.val (.int i0), .val (.int i1), .val (.int i2), .val (.int i3), .val (.int i4), .val (.int c0), .val (.int c1), .val (.int c2), .val (.int c3), .val (.int (4 : Int32)), .val (.ref b89), .val (.int (((31 : Int32) * (((31 : Int32) * (((31 : Int32) * ((0 : Int32) + (nar .char c0))) + (nar .char c1))) + (nar .char c2))) + (nar .char c3)))] [(.int (4 : Int32)), (.int c3), (.int c2), (.int c1), (.int c0), (.int (((31 : Int32) * (((31 : Int32) * (((31 : Int32) * ((0 : Int32) + (nar .char c0))) + (nar .char c1))) + (nar .char c2))) + (nar .char c3)))])) rfl (by rw [hml]; rfl) (argsL := [(.int c0), (.int c1), (.int c2), (.int c3), (.int (4 : Int32))]) (rest := [(.int (((31 : Int32) * (((31 : Int32) * (((31 : Int32) * ((0 : Int32) + (nar .char c0))) + (nar .char c1))) + (nar .char c2))) + (nar .char c3)))]) (lenOf pd_10 rfl) rfl (by show 2 * 0 + _ ≤ _; exact Nat.le_of_eq rfl) (hb hby at_92) (fun _ _ => ⟨rfl, e106, (by decide : 2 + 0 ≤ _), (by decide : 20 + 0 ≤ _)⟩)
    dsimp only [Pt.U, Pt.locs, Pt.cells, Pt.slots] at X109 l109 y109 z109 st109 hQ109
    subst l109 y109 z109
    obtain ⟨rfl, N109q, e109⟩ := hQ109
    have N109 := Fr.app N106 N109q
    replace G : Gets p e below _ (T109.setTop (mkF m 95 #[.val (.int i0), .val (.int i1), .val (.int i2), .val (.int i3), .val (.int i4), .val (.int c0), .val (.int c1), .val (.int c2), .val (.int c3), .val (.int (4 : Int32)), .val (.ref b89), .val (.int (((31 : Int32) * (((31 : Int32) * (((31 : Int32) * ((0 : Int32) + (nar .char c0))) + (nar .char c1))) + (nar .char c2))) + (nar .char c3)))] [(.int ((((c0 * (29791 : Int32)) + (c1 * (961 : Int32))) + (c2 * (31 : Int32))) + c3)), (.int (((31 : Int32) * (((31 : Int32) * (((31 : Int32) * ((0 : Int32) + (nar .char c0))) + (nar .char c1))) + (nar .char c2))) + (nar .char c3)))])) := fun t k => G t (st109 t k)
    have hc95_110 : (((31 : Int32) * (((31 : Int32) * (((31 : Int32) * ((0 : Int32) + (nar .char c0))) + (nar .char c1))) + (nar .char c2))) + (nar .char c3)) = ((((c0 * (29791 : Int32)) + (c1 * (961 : Int32))) + (c2 * (31 : Int32))) + c3) := by rw [q0, q1, q2, q3]; exact own_h4 c0 c1 c2 c3
    replace G := own_icmpNo (q := 98) G X109.here hx (hb hby at_95) (teq hc95_110).2 rfl
    replace G := own_iconst (q := 99) G X109.here hx (hb hby at_98) (v := (1 : Int32)) (by decide) rfl
    replace G := own_goto (q := 103) G X109.here hx (hb hby at_99) (by decide) (by decide)
    obtain ⟨fs, hr, hrun, hended, hW, hsame⟩ := X109.leave (v := some (.int (1 : Int32))) (fun h => by rw [Bd.returns] at h; cases h)
    refine ⟨_, _, G _ (retOut X109 hx Bd.returns rfl (Or.inl ⟨rfl, Or.inr (Or.inl rfl), _, rfl⟩) (hb hby at_103) hr), hrun, hended, _, _, rfl, ?_, ⟨_, rfl⟩, hW, hsame.mono (by decide) (by decide)⟩
    show Q0 Z i0 i1 i2 i3 i4 sa ks h0 n0 _ T109.heap _
    rw [e109]
    exact ⟨rfl, N109⟩
set_option maxRecDepth 65536 in
set_option maxHeartbeats 40000000 in
theorem comes_1 {Post : Tables → Env → Array Value → State → Outcome → State → Prop} (hpost : ∀ tb e args s v u, (limb_1_1.after args s (.returned v) u = true ∧ limb_1_2.after args s (.returned v) u = true ∧ True) → FrameEnd s (.returned v) u (Jvm.fieldLocs frame_1_writes args s ++ Jvm.arrayLocs frame_1_arrays args s ++ Jvm.staticLocs frame_1_statics s) 16 128 → Post tb e args s (.returned v) u) :
    ArmFor flags0 classFile x code maxLocals ret World_1 tables_1 room_1 Calls_1 rest_1 Pre_1 Post := by
  intro l hfl _ _ p e ha hc hk s m args below hf hA hF happ hP
  obtain ⟨hcalls, hrest, hpre⟩ := hP
  obtain ⟨-, -, -, hnamed, -, -, -, hat⟩ := (Spec.applies_iff hf).mp happ
  obtain ⟨hg, hn⟩ := and_e (Cond.before_iff.mp (show (Jvm.Cond.and given_1 narrow_1).before args s = true from hpre))
  obtain ⟨g1, g2⟩ := and_e hg
  obtain ⟨g3, g4⟩ := and_e g2
  obtain ⟨g5, g6⟩ := and_e g4
  obtain ⟨g7, g8⟩ := and_e g6
  obtain ⟨g9, g10⟩ := and_e g8
  obtain ⟨w0, w1, w2, w3, w4, rfl⟩ : ∃ w0 w1 w2 w3 w4 : Value, args = #[w0, w1, w2, w3, w4] := by
    have hs : args.size = 5 := by simpa [Cond.value, given_1] using g1
    obtain ⟨L⟩ := args
    match L, hs with
    | [w0, w1, w2, w3, w4], _ => exact ⟨w0, w1, w2, w3, w4, rfl⟩
  have hw := fun d (hd : d ∈ tables_1) => atoms_spec (ws := Jvm.Cond.code x code maxLocals ret :: tables_1) hat d (List.mem_cons_of_mem _ hd)
  have hfit : Fit s := fun {y c} hc i hi => by
    obtain ⟨ha, rfl⟩ := Array.getElem?_eq_some_iff.mp hc
    have q := List.all_eq_true.mp ((Array.all_eq_true_iff_forall_mem.mp hF) _ (Array.getElem_mem ha)) i (List.mem_range.mpr hi)
    simpa [Array.getElem?_eq_getElem hi] using q
  obtain ⟨i0, ei0⟩ := is_v g3
  obtain rfl : w0 = (.int i0) := Option.some.inj ei0
  obtain ⟨i1, ei1⟩ := is_v g5
  obtain rfl : w1 = (.int i1) := Option.some.inj ei1
  obtain ⟨i2, ei2⟩ := is_v g7
  obtain rfl : w2 = (.int i2) := Option.some.inj ei2
  obtain ⟨i3, ei3⟩ := is_v g9
  obtain rfl : w3 = (.int i3) := Option.some.inj ei3
  obtain ⟨i4, ei4⟩ := is_v g10
  obtain rfl : w4 = (.int i4) := Option.some.inj ei4
  obtain ⟨nn1, nn2⟩ := and_e hn
  obtain ⟨nn3, nn4⟩ := and_e nn2
  obtain ⟨sa, ev_sa⟩ := exa_v nn3
  have St_sa := Sta.start ev_sa (Or.inr ⟨(hw _ (List.mem_of_getElem? (i := 3) rfl)), (hw _ (List.mem_of_getElem? (i := 15) rfl))⟩)
  obtain ⟨ks, Ar_sa⟩ := own_ns hfit ev_sa nn1 nn4
  obtain ⟨n, o, h1, h2, h3, _, L, rfl, ⟨rfl, N⟩, hq⟩ := rm0 l s _ hw tables_1 i0 i1 i2 i3 i4 sa ks s.heap s.heap.size (Nat.le_refl _) St_sa Ar_sa p e ha hc hk s m _ below hf ((Spec.applies_iff_loose hf).mp happ).1 ⟨rfl, State.Warmed39.refl s, rfl⟩ trivial
  refine ⟨n, _, h1, h2, h3, hpost _ _ _ _ _ _ ⟨Cond.after_iff.mpr rfl, Cond.after_iff.mpr (eq_i res_at (Term.int_eval (1)) rfl), trivial⟩ ⟨hq.1, hq.2.1, (hq.2.2.sift fun y hy => Or.inr (N y hy)).mono (by decide) (by decide)⟩⟩
theorem main_1_1 : Claimed_1_1 := comes_1 fun _ _ _ _ _ _ h hF => ⟨h.1, hF⟩
theorem main_1_2 : Claimed_1_2 := comes_1 fun _ _ _ _ _ _ h hF => ⟨h.2.1, hF⟩
end Jvm.Pilot.@@N@@
namespace Jvm.Pilot.@@N@@
open Jvm Jvm.ClassFile Sem Op Lib Jvm.Free Jvm.Stand Jvm.Pilot.@@N@@.Jvm.D
/-! MADE BY PROGRAM (witnessworld.py) out of the Statement's table words and the real class files: 17 classes; the members and pool entries that the words name. The judged class is class 1, her method 1. -/
namespace start1
open Jvm.ClassFile
def u (s : String) : CpInfo := .utf8 (stringToUtf16 s)
/-- a pool by its gaps: so many unusable entries, then the entry; so many at the end -/
def gap : Nat → List CpInfo → List CpInfo
  | 0, r => r
  | n + 1, r => .unusable :: gap n r
def poolList (es : List (Nat × CpInfo)) (last : Nat) : List CpInfo := es.foldr (fun e r => gap e.1 (e.2 :: r)) (gap last [])
def pool (es : List (Nat × CpInfo)) (last : Nat) : Array CpInfo := ⟨poolList es last⟩
def fileOf (pool : Array CpInfo) (this : Nat) (attrs : Array Attribute := #[]) (ms : Array MethodInfo := #[]) (fl : Nat := 33) (sup : Nat := 0) (ifs : Array Nat := #[]) (fds : Array FieldInfo := #[]) : ClassFile where
  minorVersion := 0
  majorVersion := 65
  constantPool := pool
  accessFlags := fl
  thisClass := this
  superClass := sup
  interfaces := ifs
  fields := fds
  methods := ms
  attributes := attrs
def plain (name : String) (sup : Option ClassId) : Class where
  name := name
  kind := .ordinary
  loader := none
  accessFlags := 33
  super := sup
  interfaces := #[]
  cf := none
  fields := #[]
  methods := #[]
  instanceTypes := #[]
  staticTypes := #[]
  resolved := #[]
  callSites := []
  init := .initialized
  statics := none
  mirror := none

def pool0 : Array CpInfo := pool [(5, u "<init>"), (0, u "()V"), (1, .class_ 10), (1, u "java/lang/Object")] 113

def k0c0 : Code := { maxStack := 0, maxLocals := 1, code := object_method_1_code, exceptionTable := #[], attributes := #[] }
def k0m0 : Method := { name := "<init>", desc := "()V", sig := { parameters := [], returnType := none }, accessFlags := 1, code := some k0c0 }
/-- java/lang/Object -/
def k0 : Class := { plain "java/lang/Object" none with
  accessFlags := 33
  interfaces := #[]
  cf := some (fileOf pool0 8 #[] #[{ accessFlags := 1, nameIndex := 5, descriptorIndex := 6, attributes := #[] }] 33 0 #[] #[])
  fields := #[]
  methods := #[k0m0]
  instanceTypes := #[]
  staticTypes := #[]
  resolved := Array.replicate 124 none
  statics := none }

def pool1 : Array CpInfo := pool [(2, .class_ 4), (0, .nameAndType 5 6), (0, u "java/lang/Object"), (0, u "<init>"), (0, u "()V"), (0, .integer 2147483647), (0, .class_ 9), (0, u "com/example/leafcutter/leafcutter/io/TextBuffer"), (0, .methodref 8 3), (0, .methodref 8 12), (0, .nameAndType 13 14), (0, u "append"), (0, u "(C)Lcom/example/leafcutter/leafcutter/io/TextBuffer;"), (0, .methodref 8 16), (0, .nameAndType 17 18), (0, u "truncate"), (0, u "(I)V"), (0, .methodref 8 20), (0, .nameAndType 21 22), (0, u "contentHash"), (0, u "()I"), (0, .methodref 24 25), (0, .class_ 26), (0, .nameAndType 27 28), (0, u "com/example/leafcutter/leafcutter/io/TextBufferContentHashPinLaw"), (0, u "expected"), (0, u "(CCCCI)I"), (2, u "law"), (0, u "(IIIII)Z")] 3

def k1m0 : Method := { name := "<init>", desc := "()V", sig := { parameters := [], returnType := none }, accessFlags := 1, code := none }
def k1c1 : Code := { maxStack := 6, maxLocals := 12, code := code, exceptionTable := #[], attributes := #[] }
def k1m1 : Method := { name := "law", desc := "(IIIII)Z", sig := { parameters := [.int, .int, .int, .int, .int], returnType := some .boolean }, accessFlags := 9, code := some k1c1 }
def k1c2 : Code := { maxStack := 3, maxLocals := 9, code := method_3_code, exceptionTable := #[], attributes := #[] }
def k1m2 : Method := { name := "expected", desc := "(CCCCI)I", sig := { parameters := [.char, .char, .char, .char, .int], returnType := some .int }, accessFlags := 10, code := some k1c2 }
/-- com/example/leafcutter/leafcutter/io/TextBufferContentHashPinLaw -/
def k1 : Class := { plain "com/example/leafcutter/leafcutter/io/TextBufferContentHashPinLaw" (some 0) with
  accessFlags := 49
  interfaces := #[]
  cf := some (fileOf pool1 24 #[] #[{ accessFlags := 1, nameIndex := 5, descriptorIndex := 6, attributes := #[] }, { accessFlags := 9, nameIndex := 31, descriptorIndex := 32, attributes := #[] }, { accessFlags := 10, nameIndex := 27, descriptorIndex := 28, attributes := #[] }] 49 2 #[] #[])
  fields := #[]
  methods := #[k1m0, k1m1, k1m2]
  instanceTypes := #[]
  staticTypes := #[]
  resolved := Array.replicate 36 none
  statics := none }

def pool2 : Array CpInfo := pool [(2, .class_ 4), (1, u "java/lang/CharSequence"), (42, .class_ 48), (0, u "java/lang/CharSequence$1CodePointIterator"), (10, .class_ 60), (0, u "java/lang/CharSequence$1CharIterator"), (5, .class_ 67), (0, u "java/lang/Object")] 63

/-- java/lang/CharSequence -/
def k2 : Class := { plain "java/lang/CharSequence" (some 0) with
  accessFlags := 1537
  interfaces := #[]
  cf := some (fileOf pool2 2 #[.nestMembers #[47, 59]] #[] 1537 66 #[] #[])
  fields := #[]
  methods := #[]
  instanceTypes := #[]
  staticTypes := #[]
  resolved := Array.replicate 131 none
  statics := none }

def pool3 : Array CpInfo := pool [(3, .class_ 4), (0, u "com/example/leafcutter/leafcutter/io/TextBuffer"), (0, .integer 2147483639), (0, .methodref 3 7), (0, .nameAndType 8 9), (0, u "<init>"), (0, u "(ILjava/util/function/Consumer;)V"), (0, .methodref 11 12), (0, .class_ 13), (0, .nameAndType 8 14), (0, u "java/lang/Object"), (0, u "()V"), (0, .fieldref 3 16), (0, .nameAndType 17 18), (0, u "NO_STORAGE"), (0, u "[C"), (0, .fieldref 3 20), (0, .nameAndType 21 18), (0, u "chars"), (9, .fieldref 3 32), (0, .nameAndType 33 34), (0, u "limit"), (0, u "I"), (0, .fieldref 3 36), (0, .nameAndType 37 38), (0, u "whenFull"), (0, u "Ljava/util/function/Consumer;"), (0, .fieldref 3 40), (0, .nameAndType 41 34), (0, u "length"), (0, .methodref 3 43), (0, .nameAndType 44 45), (0, u "makeRoom"), (0, u "(I)I"), (10, u "()I"), (6, u "append"), (0, u "(C)Lcom/example/leafcutter/leafcutter/io/TextBuffer;"), (4, .class_ 71), (1, u "java/util/Objects"), (17, .methodref 69 90), (0, .nameAndType 91 92), (0, u "checkIndex"), (0, u "(II)I"), (12, .methodref 106 107), (0, .class_ 108), (0, .nameAndType 109 110), (0, u "java/util/Arrays"), (0, u "copyOf"), (0, u "([CI)[C"), (8, .methodref 120 121), (0, .class_ 122), (0, .nameAndType 123 92), (0, u "java/lang/Math"), (0, u "min"), (0, .methodref 3 125), (0, .nameAndType 126 127), (0, u "grow"), (0, u "(I)V"), (10, .long 2), (1, .long 16), (1, .methodref 120 143), (0, .nameAndType 144 145), (0, u "max"), (0, u "(JJ)J"), (0, .methodref 120 147), (0, .nameAndType 123 145), (0, .class_ 149), (0, u "java/lang/CharSequence"), (0, u "KEPT_CAPACITY"), (1, u "INITIAL_CAPACITY"), (1, u "MAX_CAPACITY"), (12, u "truncate"), (2, u "contentHash")] 28

def k3c0 : Code := { maxStack := 3, maxLocals := 1, code := prog_6_method_1_code, exceptionTable := #[], attributes := #[] }
def k3m0 : Method := { name := "<init>", desc := "()V", sig := { parameters := [], returnType := none }, accessFlags := 1, code := some k3c0 }
def k3c1 : Code := { maxStack := 3, maxLocals := 3, code := prog_6_method_2_code, exceptionTable := #[], attributes := #[] }
def k3m1 : Method := { name := "<init>", desc := "(ILjava/util/function/Consumer;)V", sig := { parameters := [.int, (.object "java/util/function/Consumer")], returnType := none }, accessFlags := 1, code := some k3c1 }
def k3c2 : Code := { maxStack := 5, maxLocals := 2, code := prog_6_method_3_code, exceptionTable := #[], attributes := #[] }
def k3m2 : Method := { name := "append", desc := "(C)Lcom/example/leafcutter/leafcutter/io/TextBuffer;", sig := { parameters := [.char], returnType := some (.object "com/example/leafcutter/leafcutter/io/TextBuffer") }, accessFlags := 1, code := some k3c2 }
def k3c3 : Code := { maxStack := 3, maxLocals := 2, code := prog_6_method_12_code, exceptionTable := #[], attributes := #[] }
def k3m3 : Method := { name := "truncate", desc := "(I)V", sig := { parameters := [.int], returnType := none }, accessFlags := 1, code := some k3c3 }
def k3c4 : Code := { maxStack := 3, maxLocals := 3, code := prog_6_method_16_code, exceptionTable := #[], attributes := #[] }
def k3m4 : Method := { name := "contentHash", desc := "()I", sig := { parameters := [], returnType := some .int }, accessFlags := 0, code := some k3c4 }
def k3c5 : Code := { maxStack := 3, maxLocals := 3, code := prog_6_method_21_code, exceptionTable := #[], attributes := #[] }
def k3m5 : Method := { name := "makeRoom", desc := "(I)I", sig := { parameters := [.int], returnType := some .int }, accessFlags := 2, code := some k3c5 }
def k3c6 : Code := { maxStack := 6, maxLocals := 5, code := prog_6_method_23_code, exceptionTable := #[], attributes := #[] }
def k3m6 : Method := { name := "grow", desc := "(I)V", sig := { parameters := [.int], returnType := none }, accessFlags := 2, code := some k3c6 }
/-- com/example/leafcutter/leafcutter/io/TextBuffer -/
def k3 : Class := { plain "com/example/leafcutter/leafcutter/io/TextBuffer" (some 0) with
  accessFlags := 49
  interfaces := #[2]
  cf := some (fileOf pool3 3 #[] #[{ accessFlags := 1, nameIndex := 8, descriptorIndex := 14, attributes := #[] }, { accessFlags := 1, nameIndex := 8, descriptorIndex := 9, attributes := #[] }, { accessFlags := 1, nameIndex := 63, descriptorIndex := 64, attributes := #[] }, { accessFlags := 1, nameIndex := 167, descriptorIndex := 127, attributes := #[] }, { accessFlags := 0, nameIndex := 170, descriptorIndex := 56, attributes := #[] }, { accessFlags := 2, nameIndex := 44, descriptorIndex := 45, attributes := #[] }, { accessFlags := 2, nameIndex := 126, descriptorIndex := 127, attributes := #[] }] 49 11 #[148] #[{ accessFlags := 24, nameIndex := 150, descriptorIndex := 34, attributes := #[] }, { accessFlags := 26, nameIndex := 152, descriptorIndex := 34, attributes := #[] }, { accessFlags := 26, nameIndex := 17, descriptorIndex := 18, attributes := #[] }, { accessFlags := 26, nameIndex := 154, descriptorIndex := 34, attributes := #[] }, { accessFlags := 18, nameIndex := 33, descriptorIndex := 34, attributes := #[] }, { accessFlags := 18, nameIndex := 37, descriptorIndex := 38, attributes := #[] }, { accessFlags := 2, nameIndex := 21, descriptorIndex := 18, attributes := #[] }, { accessFlags := 2, nameIndex := 41, descriptorIndex := 34, attributes := #[] }])
  fields := #[{ name := "KEPT_CAPACITY", type := .int, accessFlags := 24, slot := 0, constantValue := 0 }, { name := "INITIAL_CAPACITY", type := .int, accessFlags := 26, slot := 1, constantValue := 0 }, { name := "NO_STORAGE", type := (.array .char), accessFlags := 26, slot := 2, constantValue := 0 }, { name := "MAX_CAPACITY", type := .int, accessFlags := 26, slot := 3, constantValue := 0 }, { name := "limit", type := .int, accessFlags := 18, slot := 0, constantValue := 0 }, { name := "whenFull", type := (.object "java/util/function/Consumer"), accessFlags := 18, slot := 1, constantValue := 0 }, { name := "chars", type := (.array .char), accessFlags := 2, slot := 2, constantValue := 0 }, { name := "length", type := .int, accessFlags := 2, slot := 3, constantValue := 0 }]
  methods := #[k3m0, k3m1, k3m2, k3m3, k3m4, k3m5, k3m6]
  instanceTypes := #[.int, (.object "java/util/function/Consumer"), (.array .char), .int]
  staticTypes := #[.int, .int, (.array .char), .int]
  resolved := Array.replicate 199 none
  statics := some 0 }

def pool4 : Array CpInfo := pool [(1, .class_ 2), (0, u "java/lang/Math"), (1, .class_ 6), (1, u "java/lang/Object"), (0, u "<init>"), (0, u "()V"), (89, .class_ 100), (1, u "java/lang/Math$RandomNumberGeneratorHolder"), (20, u "(JJ)J"), (50, u "negativeZeroFloatBits"), (0, u "J"), (2, u "negativeZeroDoubleBits"), (21, u "max"), (2, u "min"), (43, u "$assertionsDisabled"), (0, u "Z"), (88, u "(II)I"), (2, u "twoToTheDoubleScaleDown"), (0, u "D"), (4, u "twoToTheDoubleScaleUp"), (9, u "E"), (3, u "PI"), (2, u "TAU"), (2, u "DEGREES_TO_RADIANS"), (0, u "RADIANS_TO_DEGREES")] 94

def k4m0 : Method := { name := "<init>", desc := "()V", sig := { parameters := [], returnType := none }, accessFlags := 2, code := none }
def k4c1 : Code := { maxStack := 4, maxLocals := 4, code := jdk_29_method_66_code, exceptionTable := #[], attributes := #[] }
def k4m1 : Method := { name := "max", desc := "(JJ)J", sig := { parameters := [.long, .long], returnType := some .long }, accessFlags := 9, code := some k4c1 }
def k4c2 : Code := { maxStack := 2, maxLocals := 2, code := jdk_29_method_69_code, exceptionTable := #[], attributes := #[] }
def k4m2 : Method := { name := "min", desc := "(II)I", sig := { parameters := [.int, .int], returnType := some .int }, accessFlags := 9, code := some k4c2 }
def k4c3 : Code := { maxStack := 4, maxLocals := 4, code := jdk_29_method_70_code, exceptionTable := #[], attributes := #[] }
def k4m3 : Method := { name := "min", desc := "(JJ)J", sig := { parameters := [.long, .long], returnType := some .long }, accessFlags := 9, code := some k4c3 }
/-- java/lang/Math -/
def k4 : Class := { plain "java/lang/Math" (some 0) with
  accessFlags := 49
  interfaces := #[]
  cf := some (fileOf pool4 1 #[.nestMembers #[98]] #[{ accessFlags := 2, nameIndex := 7, descriptorIndex := 8, attributes := #[] }, { accessFlags := 9, nameIndex := 198, descriptorIndex := 121, attributes := #[] }, { accessFlags := 9, nameIndex := 201, descriptorIndex := 335, attributes := #[] }, { accessFlags := 9, nameIndex := 201, descriptorIndex := 121, attributes := #[] }] 49 4 #[] #[{ accessFlags := 25, nameIndex := 354, descriptorIndex := 339, attributes := #[] }, { accessFlags := 25, nameIndex := 358, descriptorIndex := 339, attributes := #[] }, { accessFlags := 25, nameIndex := 361, descriptorIndex := 339, attributes := #[] }, { accessFlags := 26, nameIndex := 364, descriptorIndex := 339, attributes := #[] }, { accessFlags := 26, nameIndex := 365, descriptorIndex := 339, attributes := #[] }, { accessFlags := 26, nameIndex := 172, descriptorIndex := 173, attributes := #[] }, { accessFlags := 26, nameIndex := 176, descriptorIndex := 173, attributes := #[] }, { accessFlags := 8, nameIndex := 344, descriptorIndex := 339, attributes := #[] }, { accessFlags := 8, nameIndex := 338, descriptorIndex := 339, attributes := #[] }, { accessFlags := 4120, nameIndex := 245, descriptorIndex := 246, attributes := #[] }])
  fields := #[{ name := "E", type := .double, accessFlags := 25, slot := 0, constantValue := 0 }, { name := "PI", type := .double, accessFlags := 25, slot := 1, constantValue := 0 }, { name := "TAU", type := .double, accessFlags := 25, slot := 2, constantValue := 0 }, { name := "DEGREES_TO_RADIANS", type := .double, accessFlags := 26, slot := 3, constantValue := 0 }, { name := "RADIANS_TO_DEGREES", type := .double, accessFlags := 26, slot := 4, constantValue := 0 }, { name := "negativeZeroFloatBits", type := .long, accessFlags := 26, slot := 5, constantValue := 0 }, { name := "negativeZeroDoubleBits", type := .long, accessFlags := 26, slot := 6, constantValue := 0 }, { name := "twoToTheDoubleScaleUp", type := .double, accessFlags := 8, slot := 7, constantValue := 0 }, { name := "twoToTheDoubleScaleDown", type := .double, accessFlags := 8, slot := 8, constantValue := 0 }, { name := "$assertionsDisabled", type := .boolean, accessFlags := 4120, slot := 9, constantValue := 0 }]
  methods := #[k4m0, k4m1, k4m2, k4m3]
  instanceTypes := #[]
  staticTypes := #[.double, .double, .double, .double, .double, .long, .long, .double, .double, .boolean]
  resolved := Array.replicate 460 none
  statics := none }

def pool5 : Array CpInfo := pool [(2, .class_ 4), (1, u "java/lang/Object"), (0, u "<init>"), (0, u "()V"), (7, .class_ 16), (1, u "java/util/Arrays"), (57, .class_ 76), (1, u "java/util/Arrays$NaturalOrder"), (36, .class_ 115), (1, u "java/util/Arrays$LegacyMergeSort"), (1, u "Z"), (32, .methodref 151 152), (0, .class_ 153), (0, .nameAndType 154 155), (0, u "java/lang/System"), (0, u "arraycopy"), (0, u "(Ljava/lang/Object;ILjava/lang/Object;II)V"), (146, u "copyOf"), (1, .methodref 305 306), (0, .class_ 307), (0, .nameAndType 308 309), (0, u "java/lang/Math"), (0, u "min"), (0, u "(II)I"), (65, .class_ 376), (0, u "java/util/Arrays$ArrayList"), (68, u "$assertionsDisabled"), (269, u "MIN_ARRAY_SORT_GRAN"), (0, u "I"), (2, u "INSERTIONSORT_THRESHOLD"), (153, u "([CI)[C"), (101, .class_ 976), (0, u "java/util/Arrays$ArrayItr")] 52

def k5m0 : Method := { name := "<init>", desc := "()V", sig := { parameters := [], returnType := none }, accessFlags := 2, code := none }
def k5c1 : Code := { maxStack := 6, maxLocals := 3, code := jdk_65_method_125_code, exceptionTable := #[], attributes := #[] }
def k5m1 : Method := { name := "copyOf", desc := "([CI)[C", sig := { parameters := [(.array .char), .int], returnType := some (.array .char) }, accessFlags := 9, code := some k5c1 }
/-- java/util/Arrays -/
def k5 : Class := { plain "java/util/Arrays" (some 0) with
  accessFlags := 49
  interfaces := #[]
  cf := some (fileOf pool5 14 #[.nestMembers #[975, 375, 113, 74]] #[{ accessFlags := 2, nameIndex := 5, descriptorIndex := 6, attributes := #[] }, { accessFlags := 9, nameIndex := 302, descriptorIndex := 873, attributes := #[] }] 49 2 #[] #[{ accessFlags := 26, nameIndex := 715, descriptorIndex := 716, attributes := #[] }, { accessFlags := 26, nameIndex := 719, descriptorIndex := 716, attributes := #[] }, { accessFlags := 4120, nameIndex := 445, descriptorIndex := 117, attributes := #[] }])
  fields := #[{ name := "MIN_ARRAY_SORT_GRAN", type := .int, accessFlags := 26, slot := 0, constantValue := 0 }, { name := "INSERTIONSORT_THRESHOLD", type := .int, accessFlags := 26, slot := 1, constantValue := 0 }, { name := "$assertionsDisabled", type := .boolean, accessFlags := 4120, slot := 2, constantValue := 0 }]
  methods := #[k5m0, k5m1]
  instanceTypes := #[]
  staticTypes := #[.int, .int, .boolean]
  resolved := Array.replicate 1029 none
  statics := none }

def pool6 : Array CpInfo := pool [(2, .class_ 4), (1, u "java/lang/Object"), (0, u "<init>"), (0, u "()V"), (1, .class_ 10), (1, u "java/lang/System"), (0, u "allowSecurityManager"), (0, u "I"), (16, u "cons"), (0, u "Ljava/io/Console;"), (77, .class_ 110), (1, u "java/lang/System$CallersHolder"), (43, u "initialErrStream"), (0, u "Ljava/io/PrintStream;"), (19, u "security"), (0, u "Ljava/lang/SecurityManager;"), (31, .class_ 209), (0, u "java/lang/System$1"), (7, u "props"), (0, u "Ljava/util/Properties;"), (2, u "lineSeparator"), (0, u "Ljava/lang/String;"), (96, .class_ 321), (1, u "java/lang/System$LoggerFinder"), (5, .class_ 328), (0, u "java/lang/System$Logger"), (67, u "err"), (2, u "out"), (91, u "notSupportedJnuEncoding"), (15, u "in"), (17, u "initialIn"), (0, u "Ljava/io/InputStream;"), (35, u "bootLayer"), (0, u "Ljava/lang/ModuleLayer;"), (99, .class_ 664), (0, u "java/lang/System$2"), (9, u "NEVER"), (2, u "MAYBE"), (49, u "arraycopy"), (0, u "(Ljava/lang/Object;ILjava/lang/Object;II)V"), (72, .class_ 802), (0, u "java/lang/System$Logger$Level")] 31

def k6m0 : Method := { name := "<init>", desc := "()V", sig := { parameters := [], returnType := none }, accessFlags := 2, code := none }
def k6m1 : Method := { name := "arraycopy", desc := "(Ljava/lang/Object;ILjava/lang/Object;II)V", sig := { parameters := [(.object "java/lang/Object"), .int, (.object "java/lang/Object"), .int, .int], returnType := none }, accessFlags := 265, code := none }
/-- java/lang/System -/
def k6 : Class := { plain "java/lang/System" (some 0) with
  accessFlags := 49
  interfaces := #[]
  cf := some (fileOf pool6 8 #[.nestMembers #[319, 327, 801, 108, 663, 208]] #[{ accessFlags := 2, nameIndex := 5, descriptorIndex := 6, attributes := #[] }, { accessFlags := 265, nameIndex := 727, descriptorIndex := 728, attributes := #[] }] 49 2 #[] #[{ accessFlags := 25, nameIndex := 507, descriptorIndex := 526, attributes := #[] }, { accessFlags := 25, nameIndex := 399, descriptorIndex := 155, attributes := #[] }, { accessFlags := 25, nameIndex := 396, descriptorIndex := 155, attributes := #[] }, { accessFlags := 10, nameIndex := 525, descriptorIndex := 526, attributes := #[] }, { accessFlags := 26, nameIndex := 674, descriptorIndex := 12, attributes := #[] }, { accessFlags := 26, nameIndex := 677, descriptorIndex := 12, attributes := #[] }, { accessFlags := 10, nameIndex := 11, descriptorIndex := 12, attributes := #[] }, { accessFlags := 74, nameIndex := 175, descriptorIndex := 176, attributes := #[] }, { accessFlags := 10, nameIndex := 491, descriptorIndex := 222, attributes := #[] }, { accessFlags := 74, nameIndex := 29, descriptorIndex := 30, attributes := #[] }, { accessFlags := 74, nameIndex := 154, descriptorIndex := 155, attributes := #[] }, { accessFlags := 10, nameIndex := 217, descriptorIndex := 218, attributes := #[] }, { accessFlags := 10, nameIndex := 221, descriptorIndex := 222, attributes := #[] }, { accessFlags := 8, nameIndex := 562, descriptorIndex := 563, attributes := #[] }])
  fields := #[{ name := "in", type := (.object "java/io/InputStream"), accessFlags := 25, slot := 0, constantValue := 0 }, { name := "out", type := (.object "java/io/PrintStream"), accessFlags := 25, slot := 1, constantValue := 0 }, { name := "err", type := (.object "java/io/PrintStream"), accessFlags := 25, slot := 2, constantValue := 0 }, { name := "initialIn", type := (.object "java/io/InputStream"), accessFlags := 10, slot := 3, constantValue := 0 }, { name := "NEVER", type := .int, accessFlags := 26, slot := 4, constantValue := 0 }, { name := "MAYBE", type := .int, accessFlags := 26, slot := 5, constantValue := 0 }, { name := "allowSecurityManager", type := .int, accessFlags := 10, slot := 6, constantValue := 0 }, { name := "security", type := (.object "java/lang/SecurityManager"), accessFlags := 74, slot := 7, constantValue := 0 }, { name := "notSupportedJnuEncoding", type := (.object "java/lang/String"), accessFlags := 10, slot := 8, constantValue := 0 }, { name := "cons", type := (.object "java/io/Console"), accessFlags := 74, slot := 9, constantValue := 0 }, { name := "initialErrStream", type := (.object "java/io/PrintStream"), accessFlags := 74, slot := 10, constantValue := 0 }, { name := "props", type := (.object "java/util/Properties"), accessFlags := 10, slot := 11, constantValue := 0 }, { name := "lineSeparator", type := (.object "java/lang/String"), accessFlags := 10, slot := 12, constantValue := 0 }, { name := "bootLayer", type := (.object "java/lang/ModuleLayer"), accessFlags := 8, slot := 13, constantValue := 0 }]
  methods := #[k6m0, k6m1]
  instanceTypes := #[]
  staticTypes := #[(.object "java/io/InputStream"), (.object "java/io/PrintStream"), (.object "java/io/PrintStream"), (.object "java/io/InputStream"), .int, .int, .int, (.object "java/lang/SecurityManager"), (.object "java/lang/String"), (.object "java/io/Console"), (.object "java/io/PrintStream"), (.object "java/util/Properties"), (.object "java/lang/String"), (.object "java/lang/ModuleLayer")]
  resolved := Array.replicate 834 none
  statics := none }

def pool7 : Array CpInfo := pool [(2, .class_ 4), (1, u "java/lang/Object"), (0, u "<init>"), (0, u "()V"), (35, .class_ 44), (1, u "java/util/Objects"), (60, .methodref 106 107), (0, .class_ 108), (0, .nameAndType 109 110), (0, u "jdk/internal/util/Preconditions"), (0, u "checkIndex"), (0, u "(IILjava/util/function/BiFunction;)I"), (60, u "(II)I")] 12

def k7m0 : Method := { name := "<init>", desc := "()V", sig := { parameters := [], returnType := none }, accessFlags := 2, code := none }
def k7c1 : Code := { maxStack := 3, maxLocals := 2, code := jdk_31_method_17_code, exceptionTable := #[], attributes := #[] }
def k7m1 : Method := { name := "checkIndex", desc := "(II)I", sig := { parameters := [.int, .int], returnType := some .int }, accessFlags := 9, code := some k7c1 }
/-- java/util/Objects -/
def k7 : Class := { plain "java/util/Objects" (some 0) with
  accessFlags := 49
  interfaces := #[]
  cf := some (fileOf pool7 42 #[] #[{ accessFlags := 2, nameIndex := 5, descriptorIndex := 6, attributes := #[] }, { accessFlags := 9, nameIndex := 109, descriptorIndex := 171, attributes := #[] }] 49 2 #[] #[])
  fields := #[]
  methods := #[k7m0, k7m1]
  instanceTypes := #[]
  staticTypes := #[]
  resolved := Array.replicate 184 none
  statics := none }

def pool8 : Array CpInfo := pool [(2, .class_ 4), (1, u "java/lang/Object"), (0, u "<init>"), (0, u "()V"), (17, .class_ 26), (1, u "jdk/internal/util/Preconditions"), (6, u "checkIndex"), (21, .class_ 56), (0, u "jdk/internal/util/Preconditions$4"), (57, .class_ 115), (0, u "jdk/internal/util/Preconditions$1"), (7, u "SIOOBE_FORMATTER"), (0, u "Ljava/util/function/BiFunction;"), (0, .class_ 126), (0, u "jdk/internal/util/Preconditions$2"), (3, u "AIOOBE_FORMATTER"), (0, .class_ 132), (0, u "jdk/internal/util/Preconditions$3"), (3, u "IOOBE_FORMATTER"), (41, u "(IILjava/util/function/BiFunction;)I")] 15

def k8m0 : Method := { name := "<init>", desc := "()V", sig := { parameters := [], returnType := none }, accessFlags := 1, code := none }
def k8c1 : Code := { maxStack := 3, maxLocals := 3, code := jdk_41_method_11_code, exceptionTable := #[], attributes := #[] }
def k8m1 : Method := { name := "checkIndex", desc := "(IILjava/util/function/BiFunction;)I", sig := { parameters := [.int, .int, (.object "java/util/function/BiFunction")], returnType := some .int }, accessFlags := 9, code := some k8c1 }
/-- jdk/internal/util/Preconditions -/
def k8 : Class := { plain "jdk/internal/util/Preconditions" (some 0) with
  accessFlags := 33
  interfaces := #[]
  cf := some (fileOf pool8 24 #[.nestMembers #[55, 131, 125, 114]] #[{ accessFlags := 1, nameIndex := 5, descriptorIndex := 6, attributes := #[] }, { accessFlags := 9, nameIndex := 33, descriptorIndex := 178, attributes := #[] }] 33 2 #[] #[{ accessFlags := 25, nameIndex := 123, descriptorIndex := 124, attributes := #[] }, { accessFlags := 25, nameIndex := 130, descriptorIndex := 124, attributes := #[] }, { accessFlags := 25, nameIndex := 136, descriptorIndex := 124, attributes := #[] }])
  fields := #[{ name := "SIOOBE_FORMATTER", type := (.object "java/util/function/BiFunction"), accessFlags := 25, slot := 0, constantValue := 0 }, { name := "AIOOBE_FORMATTER", type := (.object "java/util/function/BiFunction"), accessFlags := 25, slot := 1, constantValue := 0 }, { name := "IOOBE_FORMATTER", type := (.object "java/util/function/BiFunction"), accessFlags := 25, slot := 2, constantValue := 0 }]
  methods := #[k8m0, k8m1]
  instanceTypes := #[]
  staticTypes := #[(.object "java/util/function/BiFunction"), (.object "java/util/function/BiFunction"), (.object "java/util/function/BiFunction")]
  resolved := Array.replicate 194 none
  statics := none }

def pool9 : Array CpInfo := pool [(1, u "java/lang/Cloneable"), (0, .class_ 1), (0, u "java/lang/Object"), (0, .class_ 3)] 3

/-- java/lang/Cloneable -/
def k9 : Class := { plain "java/lang/Cloneable" (some 0) with
  accessFlags := 1537
  interfaces := #[]
  cf := some (fileOf pool9 2 #[] #[] 1537 4 #[] #[])
  fields := #[]
  methods := #[]
  instanceTypes := #[]
  staticTypes := #[]
  resolved := Array.replicate 8 none
  statics := none }

def pool10 : Array CpInfo := pool [(1, u "java/io/Serializable"), (0, .class_ 1), (0, u "java/lang/Object"), (0, .class_ 3)] 3

/-- java/io/Serializable -/
def k10 : Class := { plain "java/io/Serializable" (some 0) with
  accessFlags := 1537
  interfaces := #[]
  cf := some (fileOf pool10 2 #[] #[] 1537 4 #[] #[])
  fields := #[]
  methods := #[]
  instanceTypes := #[]
  staticTypes := #[]
  resolved := Array.replicate 8 none
  statics := none }

/-- the primitive byte -/
def k11 : Class := { plain "byte" none with kind := .primitive 'B', accessFlags := 0x411 }
/-- [B -/
def k12 : Class := { plain "[B" (some 0) with kind := .array 11 .byte, interfaces := #[9, 10], accessFlags := 1041 }

/-- the primitive char -/
def k13 : Class := { plain "char" none with kind := .primitive 'C', accessFlags := 0x411 }
/-- [C -/
def k14 : Class := { plain "[C" (some 0) with kind := .array 13 .char, interfaces := #[9, 10], accessFlags := 1041 }

/-- the primitive int -/
def k15 : Class := { plain "int" none with kind := .primitive 'I', accessFlags := 0x411 }
/-- [I -/
def k16 : Class := { plain "[I" (some 0) with kind := .array 15 .int, interfaces := #[9, 10], accessFlags := 1041 }

def heap : Heap := #[{ cls := 3, slots := #[.int 0, .int 0, .ref 1, .int 0], vm := .statics 3 },
  { cls := 14, slots := #[], vm := .none }]
def classes : Array Class := #[k0, k1, k2, k3, k4, k5, k6, k7, k8, k9, k10, k11, k12, k13, k14, k15, k16]
def interned : List (Array UInt16 × Addr) := []
def slotsUsed : Nat := 4
def theMethod : MethodId := ⟨1, 1⟩
def args0 : Array Value := #[.int 70, .int 71, .int 72, .int 73, .int 3]
def aboutOver (below : List Frame) : State where
  vm := { classes := classes, interned := interned.toArray }
  heap := heap
  slotsUsed := slotsUsed
  threads := #[{ frames := .invoking theMethod args0 :: below }]
def below0 : List Frame := [.native { method := ⟨0, 0⟩, args := #[] }]
def about1 : State := aboutOver below0
def p0 : Program := .bare "" "" ""
def e0 : Env := launch0.env 0 0 0
theorem w_frames : about1.frames = Frame.invoking theMethod args0 :: below0 := rfl
set_option maxRecDepth 65536 in
theorem w_args : argsFit about1.vm theMethod args0 = true := by decide +kernel
set_option maxRecDepth 65536 in
theorem w_heap : heapFits about1 = true := by decide +kernel
set_option maxRecDepth 65536 in
theorem w_runnable : about1.curStatus? = some .runnable := by decide +kernel
set_option maxRecDepth 65536 in
theorem w_alone : about1.alone = true := by decide +kernel
set_option maxRecDepth 65536 in
theorem w_named : about1.methodNamed? x = some theMethod := by decide +kernel
set_option maxRecDepth 65536 in
theorem w_hears : about1.hears theMethod below0 = true := by decide +kernel
set_option maxRecDepth 65536 in
theorem w_ripe : about1.ripe theMethod args0 below0 = true := by decide +kernel
theorem w_running : about1.status = .running := rfl
set_option maxRecDepth 65536 in
theorem w_room : about1.hasRoom e0.platform room_1 = true :=
  launch0.hasRoom_least _ room_1 (by decide +kernel) (by decide +kernel) (by decide +kernel) (by decide +kernel) (by decide +kernel) (by decide +kernel)
theorem allAtoms_all (ts : List Jvm.Cond) (a : Array Jvm.Value) (st : Jvm.State) : (allAtoms ts).before a st = ts.all (fun c => c.before a st) := by
  induction ts with
  | nil => rfl
  | cons c t ih =>
    show (Jvm.Cond.and c (allAtoms t)).before a st = _
    rw [Jvm.Cond.before_and, ih, List.all_cons]
def words1 : List Jvm.Cond := Jvm.Cond.code x code maxLocals ret :: tables_1
/-- a 'code' word, met by the world's own term for the bytes: nothing is compared byte by byte -/
theorem code_word {y : MethodName} {bytes : ByteArray} {mx : Nat} {rt : Option FieldType} {a : Array Value} {s : State} {m : MethodId} {meth : Method} {c : Code} (h1 : s.methodNamed? y = some m) (h2 : s.vm.method? m = some meth) (h3 : meth.code = some c) (h4 : c.code = bytes)
    (h5 : (c.maxLocals == mx && c.exceptionTable.isEmpty && decide (c.maxStack ≤ mostOperands) && decide (meth.sig.returnType = rt) && !meth.locks && decide (parseMethodDescriptor y.desc = some meth.sig)) = true) : (Jvm.Cond.code y bytes mx rt).before a s = true := by
  simp only [Bool.and_eq_true, beq_iff_eq, Bool.not_eq_true', decide_eq_true_eq] at h5
  obtain ⟨⟨⟨⟨⟨g1, g2⟩, g3⟩, g4⟩, g5⟩, g6⟩ := h5
  simp [Cond.before, Cond.holds, Cond.value, h1, h2, h3, h4, g1, g2, g3, g4, g5, g6]
def isCode : Jvm.Cond → Bool
  | .code _ _ _ _ => true
  | _ => false
theorem all_split {L : List Jvm.Cond} {P : Jvm.Cond → Bool} (h1 : L.all (fun c => isCode c || P c) = true) (h2 : ∀ c ∈ L.filter isCode, P c = true) : L.all P = true := by
  refine List.all_eq_true.mpr fun c hc => ?_
  have h := List.all_eq_true.mp h1 c hc
  rcases Bool.eq_false_or_eq_true (isCode c) with hi | hi
  · exact h2 c (List.mem_filter.mpr ⟨hc, hi⟩)
  · simpa [hi] using h
set_option maxRecDepth 65536 in
theorem w_c0 : (Jvm.Cond.code x code maxLocals ret).before args0 about1 = true := code_word (m := ⟨1, 1⟩) (meth := k1m1) (c := k1c1) (by decide +kernel) rfl rfl rfl (by decide +kernel)
set_option maxRecDepth 65536 in
theorem w_c1 : (Jvm.Cond.code ({ cls := "com/example/leafcutter/leafcutter/io/TextBuffer", name := "<init>", desc := "()V" } : Jvm.MethodName) prog_6_method_1_code (1 : Nat) (Option.none : Option Jvm.ClassFile.FieldType)).before args0 about1 = true := code_word (m := ⟨3, 0⟩) (meth := k3m0) (c := k3c0) (by decide +kernel) rfl rfl rfl (by decide +kernel)
set_option maxRecDepth 65536 in
theorem w_c2 : (Jvm.Cond.code ({ cls := "com/example/leafcutter/leafcutter/io/TextBuffer", name := "<init>", desc := "(ILjava/util/function/Consumer;)V" } : Jvm.MethodName) prog_6_method_2_code (3 : Nat) (Option.none : Option Jvm.ClassFile.FieldType)).before args0 about1 = true := code_word (m := ⟨3, 1⟩) (meth := k3m1) (c := k3c1) (by decide +kernel) rfl rfl rfl (by decide +kernel)
set_option maxRecDepth 65536 in
theorem w_c3 : (Jvm.Cond.code ({ cls := "java/lang/Object", name := "<init>", desc := "()V" } : Jvm.MethodName) object_method_1_code (1 : Nat) (Option.none : Option Jvm.ClassFile.FieldType)).before args0 about1 = true := code_word (m := ⟨0, 0⟩) (meth := k0m0) (c := k0c0) (by decide +kernel) rfl rfl rfl (by decide +kernel)
set_option maxRecDepth 65536 in
theorem w_c4 : (Jvm.Cond.code ({ cls := "com/example/leafcutter/leafcutter/io/TextBuffer", name := "append", desc := "(C)Lcom/example/leafcutter/leafcutter/io/TextBuffer;" } : Jvm.MethodName) prog_6_method_3_code (2 : Nat) (Option.some (Jvm.ClassFile.FieldType.object "com/example/leafcutter/leafcutter/io/TextBuffer"))).before args0 about1 = true := code_word (m := ⟨3, 2⟩) (meth := k3m2) (c := k3c2) (by decide +kernel) rfl rfl rfl (by decide +kernel)
set_option maxRecDepth 65536 in
theorem w_c5 : (Jvm.Cond.code ({ cls := "com/example/leafcutter/leafcutter/io/TextBuffer", name := "makeRoom", desc := "(I)I" } : Jvm.MethodName) prog_6_method_21_code (3 : Nat) (Option.some Jvm.ClassFile.FieldType.int)).before args0 about1 = true := code_word (m := ⟨3, 5⟩) (meth := k3m5) (c := k3c5) (by decide +kernel) rfl rfl rfl (by decide +kernel)
set_option maxRecDepth 65536 in
theorem w_c6 : (Jvm.Cond.code ({ cls := "java/lang/Math", name := "min", desc := "(II)I" } : Jvm.MethodName) jdk_29_method_69_code (2 : Nat) (Option.some Jvm.ClassFile.FieldType.int)).before args0 about1 = true := code_word (m := ⟨4, 2⟩) (meth := k4m2) (c := k4c2) (by decide +kernel) rfl rfl rfl (by decide +kernel)
set_option maxRecDepth 65536 in
theorem w_c7 : (Jvm.Cond.code ({ cls := "com/example/leafcutter/leafcutter/io/TextBuffer", name := "grow", desc := "(I)V" } : Jvm.MethodName) prog_6_method_23_code (5 : Nat) (Option.none : Option Jvm.ClassFile.FieldType)).before args0 about1 = true := code_word (m := ⟨3, 6⟩) (meth := k3m6) (c := k3c6) (by decide +kernel) rfl rfl rfl (by decide +kernel)
set_option maxRecDepth 65536 in
theorem w_c8 : (Jvm.Cond.code ({ cls := "java/lang/Math", name := "max", desc := "(JJ)J" } : Jvm.MethodName) jdk_29_method_66_code (4 : Nat) (Option.some Jvm.ClassFile.FieldType.long)).before args0 about1 = true := code_word (m := ⟨4, 1⟩) (meth := k4m1) (c := k4c1) (by decide +kernel) rfl rfl rfl (by decide +kernel)
set_option maxRecDepth 65536 in
theorem w_c9 : (Jvm.Cond.code ({ cls := "java/lang/Math", name := "min", desc := "(JJ)J" } : Jvm.MethodName) jdk_29_method_70_code (4 : Nat) (Option.some Jvm.ClassFile.FieldType.long)).before args0 about1 = true := code_word (m := ⟨4, 3⟩) (meth := k4m3) (c := k4c3) (by decide +kernel) rfl rfl rfl (by decide +kernel)
set_option maxRecDepth 65536 in
theorem w_c10 : (Jvm.Cond.code ({ cls := "java/util/Arrays", name := "copyOf", desc := "([CI)[C" } : Jvm.MethodName) jdk_65_method_125_code (3 : Nat) (Option.some (Jvm.ClassFile.FieldType.array Jvm.ClassFile.FieldType.char))).before args0 about1 = true := code_word (m := ⟨5, 1⟩) (meth := k5m1) (c := k5c1) (by decide +kernel) rfl rfl rfl (by decide +kernel)
set_option maxRecDepth 65536 in
theorem w_c11 : (Jvm.Cond.code ({ cls := "com/example/leafcutter/leafcutter/io/TextBuffer", name := "truncate", desc := "(I)V" } : Jvm.MethodName) prog_6_method_12_code (2 : Nat) (Option.none : Option Jvm.ClassFile.FieldType)).before args0 about1 = true := code_word (m := ⟨3, 3⟩) (meth := k3m3) (c := k3c3) (by decide +kernel) rfl rfl rfl (by decide +kernel)
set_option maxRecDepth 65536 in
theorem w_c12 : (Jvm.Cond.code ({ cls := "java/util/Objects", name := "checkIndex", desc := "(II)I" } : Jvm.MethodName) jdk_31_method_17_code (2 : Nat) (Option.some Jvm.ClassFile.FieldType.int)).before args0 about1 = true := code_word (m := ⟨7, 1⟩) (meth := k7m1) (c := k7c1) (by decide +kernel) rfl rfl rfl (by decide +kernel)
set_option maxRecDepth 65536 in
theorem w_c13 : (Jvm.Cond.code ({ cls := "jdk/internal/util/Preconditions", name := "checkIndex", desc := "(IILjava/util/function/BiFunction;)I" } : Jvm.MethodName) jdk_41_method_11_code (3 : Nat) (Option.some Jvm.ClassFile.FieldType.int)).before args0 about1 = true := code_word (m := ⟨8, 1⟩) (meth := k8m1) (c := k8c1) (by decide +kernel) rfl rfl rfl (by decide +kernel)
set_option maxRecDepth 65536 in
theorem w_c14 : (Jvm.Cond.code ({ cls := "com/example/leafcutter/leafcutter/io/TextBuffer", name := "contentHash", desc := "()I" } : Jvm.MethodName) prog_6_method_16_code (3 : Nat) (Option.some Jvm.ClassFile.FieldType.int)).before args0 about1 = true := code_word (m := ⟨3, 4⟩) (meth := k3m4) (c := k3c4) (by decide +kernel) rfl rfl rfl (by decide +kernel)
set_option maxRecDepth 65536 in
theorem w_c15 : (Jvm.Cond.code ({ cls := "com/example/leafcutter/leafcutter/io/TextBufferContentHashPinLaw", name := "expected", desc := "(CCCCI)I" } : Jvm.MethodName) method_3_code (9 : Nat) (Option.some Jvm.ClassFile.FieldType.int)).before args0 about1 = true := code_word (m := ⟨1, 2⟩) (meth := k1m2) (c := k1c2) (by decide +kernel) rfl rfl rfl (by decide +kernel)
def codes1 : List Jvm.Cond := [Jvm.Cond.code x code maxLocals ret, Jvm.Cond.code ({ cls := "com/example/leafcutter/leafcutter/io/TextBuffer", name := "<init>", desc := "()V" } : Jvm.MethodName) prog_6_method_1_code (1 : Nat) (Option.none : Option Jvm.ClassFile.FieldType), Jvm.Cond.code ({ cls := "com/example/leafcutter/leafcutter/io/TextBuffer", name := "<init>", desc := "(ILjava/util/function/Consumer;)V" } : Jvm.MethodName) prog_6_method_2_code (3 : Nat) (Option.none : Option Jvm.ClassFile.FieldType), Jvm.Cond.code ({ cls := "java/lang/Object", name := "<init>", desc := "()V" } : Jvm.MethodName) object_method_1_code (1 : Nat) (Option.none : Option Jvm.ClassFile.FieldType), Jvm.Cond.code ({ cls := "com/example/leafcutter/leafcutter/io/TextBuffer", name := "append", desc := "(C)Lcom/example/leafcutter/leafcutter/io/TextBuffer;" } : Jvm.MethodName) prog_6_method_3_code (2 : Nat) (Option.some (Jvm.ClassFile.FieldType.object "com/example/leafcutter/leafcutter/io/TextBuffer")), Jvm.Cond.code ({ cls := "com/example/leafcutter/leafcutter/io/TextBuffer", name := "makeRoom", desc := "(I)I" } : Jvm.MethodName) prog_6_method_21_code (3 : Nat) (Option.some Jvm.ClassFile.FieldType.int), Jvm.Cond.code ({ cls := "java/lang/Math", name := "min", desc := "(II)I" } : Jvm.MethodName) jdk_29_method_69_code (2 : Nat) (Option.some Jvm.ClassFile.FieldType.int), Jvm.Cond.code ({ cls := "com/example/leafcutter/leafcutter/io/TextBuffer", name := "grow", desc := "(I)V" } : Jvm.MethodName) prog_6_method_23_code (5 : Nat) (Option.none : Option Jvm.ClassFile.FieldType), Jvm.Cond.code ({ cls := "java/lang/Math", name := "max", desc := "(JJ)J" } : Jvm.MethodName) jdk_29_method_66_code (4 : Nat) (Option.some Jvm.ClassFile.FieldType.long), Jvm.Cond.code ({ cls := "java/lang/Math", name := "min", desc := "(JJ)J" } : Jvm.MethodName) jdk_29_method_70_code (4 : Nat) (Option.some Jvm.ClassFile.FieldType.long), Jvm.Cond.code ({ cls := "java/util/Arrays", name := "copyOf", desc := "([CI)[C" } : Jvm.MethodName) jdk_65_method_125_code (3 : Nat) (Option.some (Jvm.ClassFile.FieldType.array Jvm.ClassFile.FieldType.char)), Jvm.Cond.code ({ cls := "com/example/leafcutter/leafcutter/io/TextBuffer", name := "truncate", desc := "(I)V" } : Jvm.MethodName) prog_6_method_12_code (2 : Nat) (Option.none : Option Jvm.ClassFile.FieldType), Jvm.Cond.code ({ cls := "java/util/Objects", name := "checkIndex", desc := "(II)I" } : Jvm.MethodName) jdk_31_method_17_code (2 : Nat) (Option.some Jvm.ClassFile.FieldType.int), Jvm.Cond.code ({ cls := "jdk/internal/util/Preconditions", name := "checkIndex", desc := "(IILjava/util/function/BiFunction;)I" } : Jvm.MethodName) jdk_41_method_11_code (3 : Nat) (Option.some Jvm.ClassFile.FieldType.int), Jvm.Cond.code ({ cls := "com/example/leafcutter/leafcutter/io/TextBuffer", name := "contentHash", desc := "()I" } : Jvm.MethodName) prog_6_method_16_code (3 : Nat) (Option.some Jvm.ClassFile.FieldType.int), Jvm.Cond.code ({ cls := "com/example/leafcutter/leafcutter/io/TextBufferContentHashPinLaw", name := "expected", desc := "(CCCCI)I" } : Jvm.MethodName) method_3_code (9 : Nat) (Option.some Jvm.ClassFile.FieldType.int)]
set_option maxRecDepth 65536 in
theorem codes_eq : words1.filter isCode = codes1 := rfl
theorem w_codes : ∀ c ∈ words1.filter isCode, c.before args0 about1 = true := by
  rw [codes_eq]
  intro c hc
  simp only [codes1, List.mem_cons, List.not_mem_nil, or_false] at hc
  rcases hc with rfl | rfl | rfl | rfl | rfl | rfl | rfl | rfl | rfl | rfl | rfl | rfl | rfl | rfl | rfl | rfl
  · exact w_c0
  · exact w_c1
  · exact w_c2
  · exact w_c3
  · exact w_c4
  · exact w_c5
  · exact w_c6
  · exact w_c7
  · exact w_c8
  · exact w_c9
  · exact w_c10
  · exact w_c11
  · exact w_c12
  · exact w_c13
  · exact w_c14
  · exact w_c15
set_option maxRecDepth 65536 in
theorem w_t1 : (words1.take 24).all (fun c => isCode c || c.before args0 about1) = true := by decide +kernel
set_option maxRecDepth 65536 in
theorem w_t2 : ((words1.drop 24).take 24).all (fun c => isCode c || c.before args0 about1) = true := by decide +kernel
set_option maxRecDepth 65536 in
theorem w_t3 : (((words1.drop 24).drop 24).take 24).all (fun c => isCode c || c.before args0 about1) = true := by decide +kernel
set_option maxRecDepth 65536 in
theorem w_t4 : (((words1.drop 24).drop 24).drop 24).all (fun c => isCode c || c.before args0 about1) = true := by decide +kernel
theorem w_tables : (allAtoms (Jvm.Cond.code x code maxLocals ret :: tables_1)).before args0 about1 = true := by
  rw [allAtoms_all]
  show words1.all (fun c => c.before args0 about1) = true
  refine all_split ?_ w_codes
  rw [← List.take_append_drop 24 words1, List.all_append, w_t1, ← List.take_append_drop 24 (words1.drop 24), List.all_append, w_t2, ← List.take_append_drop 24 ((words1.drop 24).drop 24), List.all_append, w_t3, w_t4]
  rfl
set_option maxRecDepth 65536 in
theorem w_case : (Jvm.Cond.and given_1 narrow_1).before args0 about1 = true := by decide +kernel
theorem w_applies : (headSpec (Jvm.Cond.code x code maxLocals ret :: tables_1) room_1).applies x e0.platform about1 = true :=
  (Spec.applies_iff w_frames).mpr ⟨w_running, w_runnable, w_alone, w_named, w_hears, w_ripe, w_room, w_tables⟩
theorem atStart : AtStart classFile x code maxLocals ret World_1 tables_1 room_1 Calls_1 rest_1 Pre_1 launch0 p0 e0 about1 theMethod args0 below0 :=
  ⟨lists_1, trivial, launch0.admits_env _ _ _, launch0.least_env, fairChoices_fair.cas, fairChoices_fair.clock, w_frames, w_args, w_heap, w_applies, trivial, trivial, w_case⟩
end start1
theorem witness_1 : WitnessClaimed_1 := ⟨start1.p0, start1.e0, start1.about1, start1.theMethod, start1.args0, start1.below0, start1.atStart⟩
end Jvm.Pilot.@@N@@

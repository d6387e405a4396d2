import JvmDerived
import JvmDerived.Pilot.@@N@@Statement
import JvmDerived.Pilot.@@N@@Code
set_option linter.unusedVariables false
set_option linter.unusedSimpArgs false
namespace Jvm.Pilot.@@N@@
open Jvm Jvm.ClassFile Sem Op Lib Jvm.Free Jvm.Stand Jvm.LawKit Jvm.RoadKit Bundle Jvm.Pilot.@@N@@.Jvm.D
abbrev Gets (p : Program) (e : Env) (below : List Frame) (S0 S : State) : Prop := ∀ t, Steps p.tables e below S t → Steps p.tables e below S0 t
section Own
variable {p : Program} {e : Env} {below : List Frame} {S0 T : State} {m : MethodId} {c : Code} {pc q : Nat} {Ls : Array Slot} {st : List Value}
theorem own_iadd {x y v : Int32} (G : Gets p e below S0 (T.setTop (mkF m pc Ls (.int y :: .int x :: st)))) (h : At T m c below) (hx : p.tables.exec = Jvm.exec) (hd : decode c.code pc = .ok (.iadd, 1)) (hv : x + y = v) (hq : pc + 1 = q) : Gets p e below S0 (T.setTop (mkF m q Ls (.int v :: st))) := by
  subst hv hq; exact fun t k => G t (XS.iadd h hx rfl hd rfl k)
theorem own_isub {x y v : Int32} (G : Gets p e below S0 (T.setTop (mkF m pc Ls (.int y :: .int x :: st)))) (h : At T m c below) (hx : p.tables.exec = Jvm.exec) (hd : decode c.code pc = .ok (.isub, 1)) (hv : x - y = v) (hq : pc + 1 = q) : Gets p e below S0 (T.setTop (mkF m q Ls (.int v :: st))) := by
  subst hv hq; exact fun t k => G t (XS.isub h hx rfl hd rfl k)
theorem own_iand {x y v : Int32} (G : Gets p e below S0 (T.setTop (mkF m pc Ls (.int y :: .int x :: st)))) (h : At T m c below) (hx : p.tables.exec = Jvm.exec) (hd : decode c.code pc = .ok (.iand, 1)) (hv : x &&& y = v) (hq : pc + 1 = q) : Gets p e below S0 (T.setTop (mkF m q Ls (.int v :: st))) := by
  subst hv hq; exact fun t k => G t (XS.iand h hx rfl hd rfl k)
theorem own_lmul {x y v : Int64} (G : Gets p e below S0 (T.setTop (mkF m pc Ls (.long y :: .long x :: st)))) (h : At T m c below) (hx : p.tables.exec = Jvm.exec) (hd : decode c.code pc = .ok (.lmul, 1)) (hv : x * y = v) (hq : pc + 1 = q) : Gets p e below S0 (T.setTop (mkF m q Ls (.long v :: st))) := by
  subst hv hq; exact fun t k => G t (XS.lmul h hx rfl hd rfl k)
theorem own_iushr {x y v : Int32} (G : Gets p e below S0 (T.setTop (mkF m pc Ls (.int y :: .int x :: st)))) (h : At T m c below) (hx : p.tables.exec = Jvm.exec) (hd : decode c.code pc = .ok (.iushr, 1)) (hv : ((x.toUInt32 >>> (y &&& 31).toUInt32).toInt32) = v) (hq : pc + 1 = q) : Gets p e below S0 (T.setTop (mkF m q Ls (.int v :: st))) := by
  subst hv hq; exact fun t k => G t (XS.iushr h hx rfl hd rfl k)
theorem own_i2l {x : Int32} {v : Int64} (G : Gets p e below S0 (T.setTop (mkF m pc Ls (.int x :: st)))) (h : At T m c below) (hx : p.tables.exec = Jvm.exec) (hd : decode c.code pc = .ok (.i2l, 1)) (hv : (x.toInt64) = v) (hq : pc + 1 = q) : Gets p e below S0 (T.setTop (mkF m q Ls (.long v :: st))) := by
  subst hv hq; exact fun t k => G t (XS.i2l h hx rfl hd rfl k)
theorem own_l2i {x : Int64} {v : Int32} (G : Gets p e below S0 (T.setTop (mkF m pc Ls (.long x :: st)))) (h : At T m c below) (hx : p.tables.exec = Jvm.exec) (hd : decode c.code pc = .ok (.l2i, 1)) (hv : (x.toInt32) = v) (hq : pc + 1 = q) : Gets p e below S0 (T.setTop (mkF m q Ls (.int v :: st))) := by
  subst hv hq; exact fun t k => G t (XS.l2i h hx rfl hd rfl k)
theorem own_i2c {x : Int32} {v : Int32} (G : Gets p e below S0 (T.setTop (mkF m pc Ls (.int x :: st)))) (h : At T m c below) (hx : p.tables.exec = Jvm.exec) (hd : decode c.code pc = .ok (.i2c, 1)) (hv : (x.toUInt32.toUInt16.toUInt32.toInt32) = v) (hq : pc + 1 = q) : Gets p e below S0 (T.setTop (mkF m q Ls (.int v :: st))) := by
  subst hv hq; exact fun t k => G t (XS.i2c h hx rfl hd rfl k)
theorem own_lcmp {x y : Int64} (G : Gets p e below S0 (T.setTop (mkF m pc Ls (.long y :: .long x :: st)))) (h : At T m c below) (hx : p.tables.exec = Jvm.exec) (hd : decode c.code pc = .ok (.lcmp, 1))  (hq : pc + 1 = q) : Gets p e below S0 (T.setTop (mkF m q Ls (.int (lcmpW x y) :: st))) := by
  subst hq; exact fun t k => G t (XS.lcmp h hx rfl hd rfl k)
theorem own_iconst {i : Int} {v : Int32} (G : Gets p e below S0 (T.setTop (mkF m pc Ls st))) (h : At T m c below) (hx : p.tables.exec = Jvm.exec) (hd : decode c.code pc = .ok (.iconst i, 1)) (hv : Int32.ofInt i = v) (hq : pc + 1 = q) : Gets p e below S0 (T.setTop (mkF m q Ls (.int v :: st))) := by
  subst hv hq; exact fun t k => G t (XS.iconst h hx rfl hd k)
theorem own_bipush {i : Int} {v : Int32} (G : Gets p e below S0 (T.setTop (mkF m pc Ls st))) (h : At T m c below) (hx : p.tables.exec = Jvm.exec) (hd : decode c.code pc = .ok (.bipush i, 2)) (hv : (Int8.ofInt i).toInt32 = v) (hq : pc + 2 = q) : Gets p e below S0 (T.setTop (mkF m q Ls (.int v :: st))) := by
  subst hv hq; exact fun t k => G t (XS.bipush h hx rfl hd k)
theorem own_aconst_null  (G : Gets p e below S0 (T.setTop (mkF m pc Ls st))) (h : At T m c below) (hx : p.tables.exec = Jvm.exec) (hd : decode c.code pc = .ok (.aconst_null, 1))  (hq : pc + 1 = q) : Gets p e below S0 (T.setTop (mkF m q Ls (.null :: st))) := by
  subst hq; exact fun t k => G t (XS.aconstNull h hx rfl hd k)
theorem own_iload {i : Nat} {v : Int32} (G : Gets p e below S0 (T.setTop (mkF m pc Ls st))) (h : At T m c below) (hx : p.tables.exec = Jvm.exec) (hd : decode c.code pc = .ok (.iload i, 2)) (hl : Ls[i]? = some (.val (.int v))) (hq : pc + 2 = q) : Gets p e below S0 (T.setTop (mkF m q Ls (.int v :: st))) := by
  subst hq; exact fun t k => G t (XS.iload h hx rfl hd hl k)
theorem own_iloadN {i : Fin 4} {v : Int32} (G : Gets p e below S0 (T.setTop (mkF m pc Ls st))) (h : At T m c below) (hx : p.tables.exec = Jvm.exec) (hd : decode c.code pc = .ok (.iload_n i, 1)) (hl : Ls[i.val]? = some (.val (.int v))) (hq : pc + 1 = q) : Gets p e below S0 (T.setTop (mkF m q Ls (.int v :: st))) := by
  subst hq; exact fun t k => G t (XS.iloadN h hx rfl hd hl k)
theorem own_lloadN {i : Fin 4} {v : Int64} (G : Gets p e below S0 (T.setTop (mkF m pc Ls st))) (h : At T m c below) (hx : p.tables.exec = Jvm.exec) (hd : decode c.code pc = .ok (.lload_n i, 1)) (hl : Ls[i.val]? = some (.val (.long v))) (hq : pc + 1 = q) : Gets p e below S0 (T.setTop (mkF m q Ls (.long v :: st))) := by
  subst hq; exact fun t k => G t (XS.lloadN h hx rfl hd hl k)
theorem own_aload {i : Nat} {v : Value} (G : Gets p e below S0 (T.setTop (mkF m pc Ls st))) (h : At T m c below) (hx : p.tables.exec = Jvm.exec) (hd : decode c.code pc = .ok (.aload i, 2)) (hl : Ls[i]? = some (.val v)) (hv : v.isRef = true) (hq : pc + 2 = q) : Gets p e below S0 (T.setTop (mkF m q Ls (v :: st))) := by
  subst hq; exact fun t k => G t (XS.aload h hx rfl hd hl hv k)
theorem own_aloadN {i : Fin 4} {v : Value} (G : Gets p e below S0 (T.setTop (mkF m pc Ls st))) (h : At T m c below) (hx : p.tables.exec = Jvm.exec) (hd : decode c.code pc = .ok (.aload_n i, 1)) (hl : Ls[i.val]? = some (.val v)) (hv : v.isRef = true) (hq : pc + 1 = q) : Gets p e below S0 (T.setTop (mkF m q Ls (v :: st))) := by
  subst hq; exact fun t k => G t (XS.aloadN h hx rfl hd hl hv k)
theorem own_istore {i : Nat} {v : Int32} {l' : Array Slot} (G : Gets p e below S0 (T.setTop (mkF m pc Ls (.int v :: st)))) (h : At T m c below) (hx : p.tables.exec = Jvm.exec) (hd : decode c.code pc = .ok (.istore i, 2)) (hl : storeLocals Ls i (.int v) = some l') (hq : pc + 2 = q) : Gets p e below S0 (T.setTop (mkF m q l' st)) := by
  subst hq; exact fun t k => G t (XS.istore h hx rfl hd rfl hl k)
theorem own_istoreN {i : Fin 4} {v : Int32} {l' : Array Slot} (G : Gets p e below S0 (T.setTop (mkF m pc Ls (.int v :: st)))) (h : At T m c below) (hx : p.tables.exec = Jvm.exec) (hd : decode c.code pc = .ok (.istore_n i, 1)) (hl : storeLocals Ls i.val (.int v) = some l') (hq : pc + 1 = q) : Gets p e below S0 (T.setTop (mkF m q l' st)) := by
  subst hq; exact fun t k => G t (XS.istoreN h hx rfl hd rfl hl k)
theorem own_lstoreN {i : Fin 4} {v : Int64} {l' : Array Slot} (G : Gets p e below S0 (T.setTop (mkF m pc Ls (.long v :: st)))) (h : At T m c below) (hx : p.tables.exec = Jvm.exec) (hd : decode c.code pc = .ok (.lstore_n i, 1)) (hl : storeLocals Ls i.val (.long v) = some l') (hq : pc + 1 = q) : Gets p e below S0 (T.setTop (mkF m q l' st)) := by
  subst hq; exact fun t k => G t (XS.lstoreN h hx rfl hd rfl hl k)
theorem own_astore {i : Nat} {v : Value} {l' : Array Slot} (G : Gets p e below S0 (T.setTop (mkF m pc Ls (v :: st)))) (h : At T m c below) (hx : p.tables.exec = Jvm.exec) (hd : decode c.code pc = .ok (.astore i, 2)) (hv : v.isRef = true) (hl : storeLocals Ls i v = some l') (hq : pc + 2 = q) : Gets p e below S0 (T.setTop (mkF m q l' st)) := by
  subst hq; exact fun t k => G t (XS.astore h hx rfl hd rfl hv hl k)
theorem own_astoreN {i : Fin 4} {v : Value} {l' : Array Slot} (G : Gets p e below S0 (T.setTop (mkF m pc Ls (v :: st)))) (h : At T m c below) (hx : p.tables.exec = Jvm.exec) (hd : decode c.code pc = .ok (.astore_n i, 1)) (hv : v.isRef = true) (hl : storeLocals Ls i.val v = some l') (hq : pc + 1 = q) : Gets p e below S0 (T.setTop (mkF m q l' st)) := by
  subst hq; exact fun t k => G t (XS.astoreN h hx rfl hd rfl hv hl k)
theorem own_iinc {i : Nat} {d : Int} {x w v : Int32} {l' : Array Slot} (G : Gets p e below S0 (T.setTop (mkF m pc Ls st))) (h : At T m c below) (hx : p.tables.exec = Jvm.exec) (hd : decode c.code pc = .ok (.iinc i d, 3)) (hw : Int32.ofInt d = w) (hl : Ls[i]? = some (.val (.int x))) (hv : x + w = v) (hl' : storeLocals Ls i (.int v) = some l') (hq : pc + 3 = q) : Gets p e below S0 (T.setTop (mkF m q l' st)) := by
  subst hw hv hq; exact fun t k => G t (XS.iinc h hx rfl hd hl hl' k)
theorem own_dup {x : Value} (G : Gets p e below S0 (T.setTop (mkF m pc Ls (x :: st)))) (h : At T m c below) (hx : p.tables.exec = Jvm.exec) (hd : decode c.code pc = .ok (.dup, 1)) (hc : x.category = 1) (hq : pc + 1 = q) : Gets p e below S0 (T.setTop (mkF m q Ls (x :: x :: st))) := by
  subst hq; exact fun t k => G t (XS.dup h hx rfl hd rfl hc k)
theorem own_dup_x1 {x y : Value} (G : Gets p e below S0 (T.setTop (mkF m pc Ls (x :: y :: st)))) (h : At T m c below) (hx : p.tables.exec = Jvm.exec) (hd : decode c.code pc = .ok (.dup_x1, 1)) (hc : x.category = 1) (hc2 : y.category = 1) (hq : pc + 1 = q) : Gets p e below S0 (T.setTop (mkF m q Ls (x :: y :: x :: st))) := by
  subst hq; exact fun t k => G t (XS.dupX1 h hx rfl hd rfl hc hc2 k)
theorem own_pop {x : Value} (G : Gets p e below S0 (T.setTop (mkF m pc Ls (x :: st)))) (h : At T m c below) (hx : p.tables.exec = Jvm.exec) (hd : decode c.code pc = .ok (.pop, 1)) (hc : x.category = 1) (hq : pc + 1 = q) : Gets p e below S0 (T.setTop (mkF m q Ls st)) := by
  subst hq; exact fun t k => G t (XS.pop h hx rfl hd rfl hc k)
theorem own_goto {o : Int} (G : Gets p e below S0 (T.setTop (mkF m pc Ls st))) (h : At T m c below) (hx : p.tables.exec = Jvm.exec) (hd : decode c.code pc = .ok (.goto o, 3))  (ho : 0 ≤ (pc : Int) + o) (hp : ((pc : Int) + o).toNat = q) : Gets p e below S0 (T.setTop (mkF m q Ls st)) := by
  exact fun t k => G t (XS.goto h hx rfl rfl hd ho hp k)
theorem own_ifYes {cd : ClassFile.Cond} {o : Int} {x : Int32} (G : Gets p e below S0 (T.setTop (mkF m pc Ls (.int x :: st)))) (h : At T m c below) (hx : p.tables.exec = Jvm.exec) (hd : decode c.code pc = .ok (.ifCond cd o, 3)) (hc : ifCond.holds cd x = true) (ho : 0 ≤ (pc : Int) + o) (hp : ((pc : Int) + o).toNat = q) : Gets p e below S0 (T.setTop (mkF m q Ls st)) := by
  exact fun t k => G t (XS.ifYes h hx rfl rfl hd rfl hc ho hp k)
theorem own_ifNo {cd : ClassFile.Cond} {o : Int} {x : Int32} (G : Gets p e below S0 (T.setTop (mkF m pc Ls (.int x :: st)))) (h : At T m c below) (hx : p.tables.exec = Jvm.exec) (hd : decode c.code pc = .ok (.ifCond cd o, 3)) (hc : ifCond.holds cd x = false) (hq : pc + 3 = q) : Gets p e below S0 (T.setTop (mkF m q Ls st)) := by
  subst hq; exact fun t k => G t (XS.ifNo h hx rfl hd rfl hc k)
theorem own_icmpYes {cd : ClassFile.Cond} {o : Int} {x y : Int32} (G : Gets p e below S0 (T.setTop (mkF m pc Ls (.int y :: .int x :: st)))) (h : At T m c below) (hx : p.tables.exec = Jvm.exec) (hd : decode c.code pc = .ok (.if_icmp cd o, 3)) (hc : if_icmp.holds cd x y = true) (ho : 0 ≤ (pc : Int) + o) (hp : ((pc : Int) + o).toNat = q) : Gets p e below S0 (T.setTop (mkF m q Ls st)) := by
  exact fun t k => G t (XS.icmpYes h hx rfl rfl hd rfl hc ho hp k)
theorem own_icmpNo {cd : ClassFile.Cond} {o : Int} {x y : Int32} (G : Gets p e below S0 (T.setTop (mkF m pc Ls (.int y :: .int x :: st)))) (h : At T m c below) (hx : p.tables.exec = Jvm.exec) (hd : decode c.code pc = .ok (.if_icmp cd o, 3)) (hc : if_icmp.holds cd x y = false) (hq : pc + 3 = q) : Gets p e below S0 (T.setTop (mkF m q Ls st)) := by
  subst hq; exact fun t k => G t (XS.icmpNo h hx rfl hd rfl hc k)
theorem own_ifnullYes {o : Int} (G : Gets p e below S0 (T.setTop (mkF m pc Ls (.null :: st)))) (h : At T m c below) (hx : p.tables.exec = Jvm.exec) (hd : decode c.code pc = .ok (.ifnull o, 3))  (ho : 0 ≤ (pc : Int) + o) (hp : ((pc : Int) + o).toNat = q) : Gets p e below S0 (T.setTop (mkF m q Ls st)) := by
  exact fun t k => G t (XS.ifnullYes h hx rfl rfl hd rfl ho hp k)
theorem own_ifnullNo {o : Int} {b : Addr} (G : Gets p e below S0 (T.setTop (mkF m pc Ls (.ref b :: st)))) (h : At T m c below) (hx : p.tables.exec = Jvm.exec) (hd : decode c.code pc = .ok (.ifnull o, 3))  (hq : pc + 3 = q) : Gets p e below S0 (T.setTop (mkF m q Ls st)) := by
  subst hq; exact fun t k => G t (XS.ifnullNo h hx rfl hd rfl k)
theorem own_sel {s : State} {args : Array Value} {y z : MethodName} (hz : z.cls = y.cls) (w1 : (Jvm.Cond.instanceMethod z).before args s = true) (w2 : (Jvm.Cond.selects z.cls z z).before args s = true) (hinst : (Jvm.Cond.instanceMethod y).before args s = true) (hp : s.PrivateAt y) (hy : y.cls ≠ "java/lang/invoke/MethodHandle" ∧ y.cls ≠ "java/lang/invoke/VarHandle") : (Jvm.Cond.selects y.cls y y).before args s = true := by
  obtain ⟨r, mz, hn, -, -, -⟩ := Cond.instanceMethod_spec w1
  obtain ⟨k, hk, hi⟩ := notFace_of_selects w2 r hn
  exact selects_self_of_private (hz ▸ findClass_of_methodNamed hn) hk hi hp hinst hy
end Own
theorem own_lt32 {x y : Int32} : x < y ↔ x.toInt < y.toInt := Int32.lt_iff_toInt_lt
theorem own_rem {i u : Int32} (d : Int32) (k : Int) (hk : d.toInt = k) (h0 : 0 < k) (h : (u &&& 2147483647) % d = i) : 0 ≤ i.toInt ∧ i.toInt < k := by
  have a1 := c_mask u 2147483647 31 (by decide) (by decide)
  have a2 := (c_irem (u &&& 2147483647) d k hk).1 (by omega)
  rw [h] at a2
  have m2 := Int.emod_nonneg (u &&& 2147483647).toInt (show k ≠ 0 by omega)
  have m3 := Int.emod_lt_of_pos (u &&& 2147483647).toInt h0
  omega
theorem own_num {i : Int32} (k : Int32) (h : i.toInt = k.toInt) : i = k := Int32.toInt_inj.mp h
theorem own_cases4 {i : Int32} (h : 0 ≤ i.toInt ∧ i.toInt < 4) : i = 0 ∨ i = 1 ∨ i = 2 ∨ i = 3 := by
  have e0 : (0 : Int32).toInt = 0 := rfl
  have e1 : (1 : Int32).toInt = 1 := rfl
  have e2 : (2 : Int32).toInt = 2 := rfl
  have e3 : (3 : Int32).toInt = 3 := rfl
  have q : i.toInt = 0 ∨ i.toInt = 1 ∨ i.toInt = 2 ∨ i.toInt = 3 := by omega
  rcases q with q | q | q | q
  · exact Or.inl (own_num 0 q)
  · exact Or.inr (Or.inl (own_num 1 q))
  · exact Or.inr (Or.inr (Or.inl (own_num 2 q)))
  · exact Or.inr (Or.inr (Or.inr ((own_num 3 q))))
theorem own_nar (x : Int32) : nar .char x.toUInt32.toUInt16.toUInt32.toInt32 = x.toUInt32.toUInt16.toUInt32.toInt32 := by
  show x.toUInt32.toUInt16.toUInt32.toInt32.toUInt32.toUInt16.toUInt32.toInt32 = _
  simp only [UInt32.toUInt32_toInt32, UInt16.toUInt16_toUInt32]
theorem own_ns {args : Array Value} {s : State} {t : Term} {a : Addr} (hf : Fit s) (ht : t.eval args s none [] s = some (.ref a)) (ha : (Jvm.Cond.arrayOf t .char).value args s none s [] = some true) (hl : (Jvm.Cond.eq (.length t) (.int 0)).value args s none s [] = some true) : ∃ k, Arv s s.heap a k .char (0 : Int32) [] (.int (0 : Int32)) := by
  obtain ⟨cl, A⟩ := Arr.start ht ha
  have e2 : (Term.int 0).eval args s none [] s = some (.int 0) := Term.int_eval 0
  have hz : cl.slots.size < 2 ^ 31 ∧ cl.slots.size.toInt32 = 0 := by
    have hat : s.arrayAt? a = some cl := Arr.fin (U := s) (Vm.Alike.refl _) A
    by_cases q : cl.slots.size < 2 ^ 31
    · have e1 := len_f ht hat q
      simp [Cond.value, e1, e2] at hl
      exact ⟨q, hl⟩
    · have e1 : (Term.length t).eval args s none [] s = none := by simp [Term.eval, ht, hat, q]
      simp [Cond.value, e1] at hl
  exact ⟨cl.cls, Arv.start hf A hz.1 hz.2 (by decide) rfl trivial⟩

theorem own_m3 {x i : Int32} (h : x &&& 3 = i) : 0 ≤ i.toInt ∧ i.toInt < 4 := by
  have a := c_mask x 3 2 (by decide) (by decide)
  rw [h] at a; omega
def own_ce1 (e0 f0 : Int32) : Int32 := if e0 = f0 then 1 else 0
def own_ce2 (e0 e1 f0 f1 : Int32) : Int32 := if e0 = f0 then own_ce1 e1 f1 else 0
def own_ce3 (e0 e1 e2 f0 f1 f2 : Int32) : Int32 := if e0 = f0 then own_ce2 e1 e2 f1 f2 else 0
theorem d2_0 : decode prog_6_method_2_code 0 = .ok (.aload_n 0, 1) := by decide +kernel
theorem d2_1 : decode prog_6_method_2_code 1 = .ok (.invokespecial 10, 3) := by decide +kernel
theorem d2_4 : decode prog_6_method_2_code 4 = .ok (.aload_n 0, 1) := by decide +kernel
theorem d2_5 : decode prog_6_method_2_code 5 = .ok (.getstatic 15, 3) := by decide +kernel
theorem d2_8 : decode prog_6_method_2_code 8 = .ok (.putfield 19, 3) := by decide +kernel
theorem d2_11 : decode prog_6_method_2_code 11 = .ok (.iload_n 1, 1) := by decide +kernel
theorem d2_12 : decode prog_6_method_2_code 12 = .ok (.iconst 2, 1) := by decide +kernel
theorem d2_13 : decode prog_6_method_2_code 13 = .ok (.if_icmp .lt 9, 3) := by decide +kernel
theorem d2_16 : decode prog_6_method_2_code 16 = .ok (.iload_n 1, 1) := by decide +kernel
theorem d2_17 : decode prog_6_method_2_code 17 = .ok (.ldc 5, 2) := by decide +kernel
theorem d2_19 : decode prog_6_method_2_code 19 = .ok (.if_icmp .le 17, 3) := by decide +kernel
theorem d2_36 : decode prog_6_method_2_code 36 = .ok (.aload_n 0, 1) := by decide +kernel
theorem d2_37 : decode prog_6_method_2_code 37 = .ok (.iload_n 1, 1) := by decide +kernel
theorem d2_38 : decode prog_6_method_2_code 38 = .ok (.putfield 31, 3) := by decide +kernel
theorem d2_41 : decode prog_6_method_2_code 41 = .ok (.aload_n 0, 1) := by decide +kernel
theorem d2_42 : decode prog_6_method_2_code 42 = .ok (.aload_n 2, 1) := by decide +kernel
theorem d2_43 : decode prog_6_method_2_code 43 = .ok (.putfield 35, 3) := by decide +kernel
theorem d2_46 : decode prog_6_method_2_code 46 = .ok (.return_, 1) := by decide +kernel
theorem pn_com_example_leafcutter_leafcutter_io_TextBuffer : plainName "com/example/leafcutter/leafcutter/io/TextBuffer" = true := by first | (simp [plainName, overriddenIn]; done) | decide +kernel
theorem ef_2 (m : MethodId) (x0 : Addr) : entryFrame m #[(.ref x0), (.int (2147483639 : Int32)), .null] 3 = mkF m 0 #[.val (.ref x0), .val (.int (2147483639 : Int32)), .val .null] [] := by first | (simp [entryFrame, mkF, argsToLocals, Value.category]; done) | rfl
def Q2 (Z : State) (a : Addr) (sa : Addr) (h0 : Heap) (n0 : Nat) (v : Option Value) (h : Heap) (L : List Loc) : Prop := v = none ∧ Fr n0 L ∧ Keep h0 h [a] ∧ (Fld Z h a "com/example/leafcutter/leafcutter/io/TextBuffer" "chars" "[C" (.ref sa)) ∧ (Fld Z h a "com/example/leafcutter/leafcutter/io/TextBuffer" "length" "I" (.int (0 : Int32))) ∧ (Fld Z h a "com/example/leafcutter/leafcutter/io/TextBuffer" "limit" "I" (.int (2147483639 : Int32))) ∧ (Fld Z h a "com/example/leafcutter/leafcutter/io/TextBuffer" "whenFull" "Ljava/util/function/Consumer;" .null)
set_option maxRecDepth 65536 in
set_option maxHeartbeats 40000000 in
theorem rm2 (l : Launch) (Z : State) (a0 : Array Value) (hw : ∀ d ∈ tables_1, d.before a0 Z = true) (ws : List Jvm.Cond) (a : Addr) (sa : Addr) (h0 : Heap) (n0 : Nat) (Z0 : n0 ≤ h0.size) (P0 : Fld Z h0 a "com/example/leafcutter/leafcutter/io/TextBuffer" "chars" "[C" .null) (P1 : Fld Z h0 a "com/example/leafcutter/leafcutter/io/TextBuffer" "length" "I" (.int (0 : Int32))) (P2 : Fld Z h0 a "com/example/leafcutter/leafcutter/io/TextBuffer" "limit" "I" (.int (0 : Int32))) (P3 : Fld Z h0 a "com/example/leafcutter/leafcutter/io/TextBuffer" "whenFull" "Ljava/util/function/Consumer;" .null) (P4 : Exa Z h0 a "com/example/leafcutter/leafcutter/io/TextBuffer") (P5 : n0 ≤ a) (P6 : Sta Z h0 "com/example/leafcutter/leafcutter/io/TextBuffer" "NO_STORAGE" "[C" (.ref sa)) :
    MetFree l (⟨"com/example/leafcutter/leafcutter/io/TextBuffer", "<init>", "(ILjava/util/function/Consumer;)V"⟩ : MethodName) (head1 (Jvm.Cond.code (⟨"com/example/leafcutter/leafcutter/io/TextBuffer", "<init>", "(ILjava/util/function/Consumer;)V"⟩ : MethodName) prog_6_method_2_code 3 none :: ws) ({ frames := 1, cells := 0, slots := 0, locals := 12 } : Room)) (fun argz U => argz = #[(.ref a), (.int (2147483639 : Int32)), .null] ∧ Z.Warmed39 U.vm ∧ U.heap = h0) (fun _ _ _ _ _ => True) (fun _ U o U' => ∃ v L, o = .returned v ∧ Q2 Z a sa h0 n0 v U'.heap L ∧ FrameEnd U o U' L ({ frames := 1, cells := 0, slots := 0, locals := 12 } : Room).cells ({ frames := 1, cells := 0, slots := 0, locals := 12 } : Room).slots) := by
  refine MetFree.of_bodySF (plainFor_of_name pn_com_example_leafcutter_leafcutter_io_TextBuffer) hisR ?_
  intro p e s m args below meth c s₁ Bd hml0 hP hK
  obtain ⟨rfl, hZ, hh⟩ := hP
  have hx := Bd.exec
  have hby := Bd.bytes
  have hml : c.maxLocals = 3 := hml0
  have hown : s.vm.findClass "com/example/leafcutter/leafcutter/io/TextBuffer" = some m.cls := findClass_of_methodNamed Bd.named
  have hnm := (name_of_methodNamed Bd.named Bd.method).1
  have X0 : Stand p l e ({ frames := 1, cells := 0, slots := 0, locals := 12 } : Room) s m #[(.ref a), (.int (2147483639 : Int32)), .null] below meth c s₁ [] 0 0 := Stand.of_body Bd
  have e0 : s₁.heap = h0 := by rw [← hh, Bd.state]; rfl
  have N0 := Fr.nil n0
  have K0 : Keep h0 h0 [a] := Keep.refl _ _
  have G : Gets p e below (s₁.setTop (entryFrame m #[(.ref a), (.int (2147483639 : Int32)), .null] 3)) (s₁.setTop (mkF m 0 #[.val (.ref a), .val (.int (2147483639 : Int32)), .val .null] [])) := fun t k => castTop (ef_2 m a) k
  replace G := own_aloadN (q := 1) G X0.here hx (hb hby d2_0) rfl rfl rfl
  obtain ⟨T1, X1, e1, st1⟩ := initO X0 hx hZ hown (hw _ (List.mem_of_getElem? (i := 10) rfl)) (hw _ (List.mem_of_getElem? (i := 11) rfl)) (hw _ (List.mem_of_getElem? (i := 12) rfl)) e0 (g := (mkF m 1 #[.val (.ref a), .val (.int (2147483639 : Int32)), .val .null] [(.ref a)])) rfl (by rw [hml]; rfl) rfl (hb hby d2_1) (by decide) (W := 0) (by show 2 * 0 + _ ≤ _; exact Nat.le_of_eq rfl) (by decide)
  replace G : Gets p e below _ (T1.setTop (mkF m 4 #[.val (.ref a), .val (.int (2147483639 : Int32)), .val .null] [])) := fun t k => G t (st1 t k)
  replace G := own_aloadN (q := 5) G X1.here hx (hb hby d2_4) rfl rfl rfl
  obtain ⟨T2, X2, e2, st2⟩ := getS2 X1 hx hZ hown (host := "") (Or.inl (hw _ (List.mem_of_getElem? (i := 13) rfl))) Via.refl e1 P6 (g := (mkF m 5 #[.val (.ref a), .val (.int (2147483639 : Int32)), .val .null] [(.ref a)])) rfl (hb hby d2_5)
  replace G : Gets p e below _ (T2.setTop (mkF m 8 #[.val (.ref a), .val (.int (2147483639 : Int32)), .val .null] [(.ref sa), (.ref a)])) := fun t k => G t (st2 t k)
  obtain ⟨T3, h3, X3, e3, W3, st3⟩ := putF X2 hx hZ hown (host := "") (Or.inl (hw _ (List.mem_of_getElem? (i := 15) rfl))) Via.refl e2 P0 P4 (Or.inl (hw _ (List.mem_of_getElem? (i := 16) rfl))) (hw _ (List.mem_of_getElem? (i := 1) rfl)) (ty := (.array .char)) (by decide) rfl rfl (g := (mkF m 8 #[.val (.ref a), .val (.int (2147483639 : Int32)), .val .null] [(.ref sa), (.ref a)])) rfl rfl (hb hby d2_8)
  have N3 := Fr.snoc X3 N0 P5
  have Z3 : n0 ≤ h3.size := Nat.le_trans Z0 (Keep.of_wr W3).1
  have K3 : Keep h0 h3 [a] := K0.wr W3 (Or.inl (List.mem_of_getElem? (i := 0) rfl))
  have F3 : Fld Z h3 a "com/example/leafcutter/leafcutter/io/TextBuffer" "chars" "[C" (.ref sa) := P0.same W3
  replace G : Gets p e below _ (T3.setTop (mkF m 11 #[.val (.ref a), .val (.int (2147483639 : Int32)), .val .null] [])) := fun t k => G t (st3 t k)
  replace G := own_iloadN (q := 12) G X3.here hx (hb hby d2_11) rfl rfl
  replace G := own_iconst (q := 13) G X3.here hx (hb hby d2_12) (v := (2 : Int32)) (by decide) rfl
  have hc13_4 : ¬ ((2147483639 : Int32) < (2 : Int32)) := by decide
  replace G := own_icmpNo (q := 16) G X3.here hx (hb hby d2_13) (flt hc13_4).1 rfl
  replace G := own_iloadN (q := 17) G X3.here hx (hb hby d2_16) rfl rfl
  replace G : Gets p e below _ (T3.setTop (mkF m 19 #[.val (.ref a), .val (.int (2147483639 : Int32)), .val .null] [(.int (2147483639 : Int32)), (.int (2147483639 : Int32))])) := fun t k => G t (X3.ldcInt hx hown (mvT hZ (hw _ (List.mem_of_getElem? (i := 6) rfl))) (g := (mkF m 17 #[.val (.ref a), .val (.int (2147483639 : Int32)), .val .null] [(.int (2147483639 : Int32))])) rfl (hb hby d2_17) t k)
  have hc19_5 : ¬ ((2147483639 : Int32) < (2147483639 : Int32)) := by decide
  replace G := own_icmpYes (q := 36) G X3.here hx (hb hby d2_19) (flt hc19_5).2.2.2 (by decide) (by decide)
  replace G := own_aloadN (q := 37) G X3.here hx (hb hby d2_36) rfl rfl rfl
  replace G := own_iloadN (q := 38) G X3.here hx (hb hby d2_37) rfl rfl
  have F6 : Exa Z h3 a "com/example/leafcutter/leafcutter/io/TextBuffer" := (P4.wr W3)
  have F7 : Fld Z h3 a "com/example/leafcutter/leafcutter/io/TextBuffer" "limit" "I" (.int (0 : Int32)) := (P2.other W3 (Or.inr (slot_ne (Or.inr (hw _ (List.mem_of_getElem? (i := 18) rfl))) (Or.inl (hw _ (List.mem_of_getElem? (i := 16) rfl))) (by decide) (t := .int) (t' := (.array .char)) (by decide) (by decide))))
  obtain ⟨T8, h8, X8, e8, W8, st8⟩ := putF X3 hx hZ hown (host := "") (Or.inl (hw _ (List.mem_of_getElem? (i := 17) rfl))) Via.refl e3 F7 F6 (Or.inr ⟨(hw _ (List.mem_of_getElem? (i := 18) rfl)), rfl, hnm⟩) (hw _ (List.mem_of_getElem? (i := 1) rfl)) (ty := .int) (by decide) rfl rfl (g := (mkF m 38 #[.val (.ref a), .val (.int (2147483639 : Int32)), .val .null] [(.int (2147483639 : Int32)), (.ref a)])) rfl rfl (hb hby d2_38)
  have N8 := Fr.snoc X8 N3 P5
  have Z8 : n0 ≤ h8.size := Nat.le_trans Z3 (Keep.of_wr W8).1
  have K8 : Keep h0 h8 [a] := K3.wr W8 (Or.inl (List.mem_of_getElem? (i := 0) rfl))
  have F8 : Fld Z h8 a "com/example/leafcutter/leafcutter/io/TextBuffer" "limit" "I" (.int (2147483639 : Int32)) := F7.same W8
  replace G : Gets p e below _ (T8.setTop (mkF m 41 #[.val (.ref a), .val (.int (2147483639 : Int32)), .val .null] [])) := fun t k => G t (st8 t k)
  replace G := own_aloadN (q := 42) G X8.here hx (hb hby d2_41) rfl rfl rfl
  replace G := own_aloadN (q := 43) G X8.here hx (hb hby d2_42) rfl rfl rfl
  have F9 : Exa Z h8 a "com/example/leafcutter/leafcutter/io/TextBuffer" := (F6.wr W8)
  have F10 : Fld Z h8 a "com/example/leafcutter/leafcutter/io/TextBuffer" "whenFull" "Ljava/util/function/Consumer;" .null := ((P3.other W3 (Or.inr (slot_ne (Or.inr (hw _ (List.mem_of_getElem? (i := 20) rfl))) (Or.inl (hw _ (List.mem_of_getElem? (i := 16) rfl))) (by decide) (t := (.object "java/util/function/Consumer")) (t' := (.array .char)) (by decide) (by decide)))).other W8 (Or.inr (slot_ne (Or.inr (hw _ (List.mem_of_getElem? (i := 20) rfl))) (Or.inr (hw _ (List.mem_of_getElem? (i := 18) rfl))) (by decide) (t := (.object "java/util/function/Consumer")) (t' := .int) (by decide) (by decide))))
  obtain ⟨T11, h11, X11, e11, W11, st11⟩ := putF X8 hx hZ hown (host := "") (Or.inl (hw _ (List.mem_of_getElem? (i := 19) rfl))) Via.refl e8 F10 F9 (Or.inr ⟨(hw _ (List.mem_of_getElem? (i := 20) rfl)), rfl, hnm⟩) (hw _ (List.mem_of_getElem? (i := 1) rfl)) (ty := (.object "java/util/function/Consumer")) (by decide) rfl rfl (g := (mkF m 43 #[.val (.ref a), .val (.int (2147483639 : Int32)), .val .null] [.null, (.ref a)])) rfl rfl (hb hby d2_43)
  have N11 := Fr.snoc X11 N8 P5
  have Z11 : n0 ≤ h11.size := Nat.le_trans Z8 (Keep.of_wr W11).1
  have K11 : Keep h0 h11 [a] := K8.wr W11 (Or.inl (List.mem_of_getElem? (i := 0) rfl))
  have F11 : Fld Z h11 a "com/example/leafcutter/leafcutter/io/TextBuffer" "whenFull" "Ljava/util/function/Consumer;" .null := F10.same W11
  replace G : Gets p e below _ (T11.setTop (mkF m 46 #[.val (.ref a), .val (.int (2147483639 : Int32)), .val .null] [])) := fun t k => G t (st11 t k)
  obtain ⟨fs, hr, hrun, hended, hW, hsame⟩ := X11.leave (v := none) (fun _ => rfl)
  refine ⟨_, _, G _ (X11.returnOut hx Bd.returns (hb hby d2_46) hr), hrun, hended, _, _, rfl, ?_, ⟨_, rfl⟩, hW, hsame.mono (by decide) (by decide)⟩
  have F12 : Fld Z h11 a "com/example/leafcutter/leafcutter/io/TextBuffer" "chars" "[C" (.ref sa) := ((F3.other W8 (Or.inr (slot_ne (Or.inl (hw _ (List.mem_of_getElem? (i := 16) rfl))) (Or.inr (hw _ (List.mem_of_getElem? (i := 18) rfl))) (by decide) (t := (.array .char)) (t' := .int) (by decide) (by decide)))).other W11 (Or.inr (slot_ne (Or.inl (hw _ (List.mem_of_getElem? (i := 16) rfl))) (Or.inr (hw _ (List.mem_of_getElem? (i := 20) rfl))) (by decide) (t := (.array .char)) (t' := (.object "java/util/function/Consumer")) (by decide) (by decide))))
  have F13 : Fld Z h11 a "com/example/leafcutter/leafcutter/io/TextBuffer" "length" "I" (.int (0 : Int32)) := (((P1.other W3 (Or.inr (slot_ne (Or.inl (hw _ (List.mem_of_getElem? (i := 28) rfl))) (Or.inl (hw _ (List.mem_of_getElem? (i := 16) rfl))) (by decide) (t := .int) (t' := (.array .char)) (by decide) (by decide)))).other W8 (Or.inr (slot_ne (Or.inl (hw _ (List.mem_of_getElem? (i := 28) rfl))) (Or.inr (hw _ (List.mem_of_getElem? (i := 18) rfl))) (by decide) (t := .int) (t' := .int) (by decide) (by decide)))).other W11 (Or.inr (slot_ne (Or.inl (hw _ (List.mem_of_getElem? (i := 28) rfl))) (Or.inr (hw _ (List.mem_of_getElem? (i := 20) rfl))) (by decide) (t := .int) (t' := (.object "java/util/function/Consumer")) (by decide) (by decide))))
  have F14 : Fld Z h11 a "com/example/leafcutter/leafcutter/io/TextBuffer" "limit" "I" (.int (2147483639 : Int32)) := (F8.other W11 (Or.inr (slot_ne (Or.inr (hw _ (List.mem_of_getElem? (i := 18) rfl))) (Or.inr (hw _ (List.mem_of_getElem? (i := 20) rfl))) (by decide) (t := .int) (t' := (.object "java/util/function/Consumer")) (by decide) (by decide))))
  show Q2 Z a sa h0 n0 _ T11.heap _
  rw [e11]
  exact ⟨rfl, N11, K11, F12, F13, F14, F11⟩
theorem pd_0 : parseMethodDescriptor "(ILjava/util/function/Consumer;)V" = some ⟨[.int, (.object "java/util/function/Consumer")], none⟩ := by decide +kernel
theorem d1_0 : decode prog_6_method_1_code 0 = .ok (.aload_n 0, 1) := by decide +kernel
theorem d1_1 : decode prog_6_method_1_code 1 = .ok (.ldc 5, 2) := by decide +kernel
theorem d1_3 : decode prog_6_method_1_code 3 = .ok (.aconst_null, 1) := by decide +kernel
theorem d1_4 : decode prog_6_method_1_code 4 = .ok (.invokespecial 6, 3) := by decide +kernel
theorem d1_7 : decode prog_6_method_1_code 7 = .ok (.return_, 1) := by decide +kernel
theorem ef_1 (m : MethodId) (x0 : Addr) : entryFrame m #[(.ref x0)] 1 = mkF m 0 #[.val (.ref x0)] [] := by first | (simp [entryFrame, mkF, argsToLocals, Value.category]; done) | rfl
def Q1 (Z : State) (a : Addr) (sa : Addr) (h0 : Heap) (n0 : Nat) (v : Option Value) (h : Heap) (L : List Loc) : Prop := v = none ∧ Fr n0 L ∧ Keep h0 h [a] ∧ (Fld Z h a "com/example/leafcutter/leafcutter/io/TextBuffer" "chars" "[C" (.ref sa)) ∧ (Fld Z h a "com/example/leafcutter/leafcutter/io/TextBuffer" "length" "I" (.int (0 : Int32))) ∧ (Fld Z h a "com/example/leafcutter/leafcutter/io/TextBuffer" "limit" "I" (.int (2147483639 : Int32))) ∧ (Fld Z h a "com/example/leafcutter/leafcutter/io/TextBuffer" "whenFull" "Ljava/util/function/Consumer;" .null)
set_option maxRecDepth 65536 in
set_option maxHeartbeats 40000000 in
theorem rm1 (l : Launch) (Z : State) (a0 : Array Value) (hw : ∀ d ∈ tables_1, d.before a0 Z = true) (ws : List Jvm.Cond) (a : Addr) (sa : Addr) (h0 : Heap) (n0 : Nat) (Z0 : n0 ≤ h0.size) (P0 : Fld Z h0 a "com/example/leafcutter/leafcutter/io/TextBuffer" "chars" "[C" .null) (P1 : Fld Z h0 a "com/example/leafcutter/leafcutter/io/TextBuffer" "length" "I" (.int (0 : Int32))) (P2 : Fld Z h0 a "com/example/leafcutter/leafcutter/io/TextBuffer" "limit" "I" (.int (0 : Int32))) (P3 : Fld Z h0 a "com/example/leafcutter/leafcutter/io/TextBuffer" "whenFull" "Ljava/util/function/Consumer;" .null) (P4 : Exa Z h0 a "com/example/leafcutter/leafcutter/io/TextBuffer") (P5 : n0 ≤ a) (P6 : Sta Z h0 "com/example/leafcutter/leafcutter/io/TextBuffer" "NO_STORAGE" "[C" (.ref sa)) :
    MetFree l (⟨"com/example/leafcutter/leafcutter/io/TextBuffer", "<init>", "()V"⟩ : MethodName) (head1 (Jvm.Cond.code (⟨"com/example/leafcutter/leafcutter/io/TextBuffer", "<init>", "()V"⟩ : MethodName) prog_6_method_1_code 1 none :: ws) ({ frames := 2, cells := 0, slots := 0, locals := 26 } : Room)) (fun argz U => argz = #[(.ref a)] ∧ Z.Warmed39 U.vm ∧ U.heap = h0) (fun _ _ _ _ _ => True) (fun _ U o U' => ∃ v L, o = .returned v ∧ Q1 Z a sa h0 n0 v U'.heap L ∧ FrameEnd U o U' L ({ frames := 2, cells := 0, slots := 0, locals := 26 } : Room).cells ({ frames := 2, cells := 0, slots := 0, locals := 26 } : Room).slots) := by
  refine MetFree.of_bodySF (plainFor_of_name pn_com_example_leafcutter_leafcutter_io_TextBuffer) hisR ?_
  intro p e s m args below meth c s₁ Bd hml0 hP hK
  obtain ⟨rfl, hZ, hh⟩ := hP
  have hx := Bd.exec
  have hby := Bd.bytes
  have hml : c.maxLocals = 1 := hml0
  have hown : s.vm.findClass "com/example/leafcutter/leafcutter/io/TextBuffer" = some m.cls := findClass_of_methodNamed Bd.named
  have hnm := (name_of_methodNamed Bd.named Bd.method).1
  have X0 : Stand p l e ({ frames := 2, cells := 0, slots := 0, locals := 26 } : Room) s m #[(.ref a)] below meth c s₁ [] 0 0 := Stand.of_body Bd
  have e0 : s₁.heap = h0 := by rw [← hh, Bd.state]; rfl
  have N0 := Fr.nil n0
  have K0 : Keep h0 h0 [a] := Keep.refl _ _
  have G : Gets p e below (s₁.setTop (entryFrame m #[(.ref a)] 1)) (s₁.setTop (mkF m 0 #[.val (.ref a)] [])) := fun t k => castTop (ef_1 m a) k
  replace G := own_aloadN (q := 1) G X0.here hx (hb hby d1_0) rfl rfl rfl
  replace G : Gets p e below _ (s₁.setTop (mkF m 3 #[.val (.ref a)] [(.int (2147483639 : Int32)), (.ref a)])) := fun t k => G t (X0.ldcInt hx hown (mvT hZ (hw _ (List.mem_of_getElem? (i := 6) rfl))) (g := (mkF m 1 #[.val (.ref a)] [(.ref a)])) rfl (hb hby d1_1) t k)
  replace G := own_aconst_null (q := 4) G X0.here hx (hb hby d1_3) rfl
  obtain ⟨_, _, ⟨T1, L1, kk1, nn1⟩, -, X1, ⟨Lc1, hQ1, l1, y1, z1⟩, st1⟩ := X0.specialBack hx (y := (⟨"com/example/leafcutter/leafcutter/io/TextBuffer", "<init>", "(ILjava/util/function/Consumer;)V"⟩ : MethodName)) rfl hown (mvT hZ (hw _ (List.mem_of_getElem? (i := 7) rfl))) (mvT hZ (hw _ (List.mem_of_getElem? (i := 8) rfl))) (mvT hZ (hw _ (List.mem_of_getElem? (i := 9) rfl))) (by decide) (backOf (W := 0) (rm2 l Z a0 hw [] a sa h0 n0 Z0 P0 P1 P2 P3 P4 P5 P6) hZ (hw _ (List.mem_of_getElem? (i := 9) rfl)) (hw _ (List.mem_of_getElem? (i := 2) rfl)) (by decide) (by decide)) (g := (mkF m 4 #[.val (.ref a)] [.null, (.int (2147483639 : Int32)), (.ref a)])) rfl (by rw [hml]; rfl) (Steps.refl _) (a := a) (argsL := [(.int (2147483639 : Int32)), .null]) (rest := []) (lenOf pd_0 rfl) rfl (by show 2 * 0 + _ ≤ _; exact Nat.le_of_eq rfl) (hb hby d1_4) (fun _ _ => ⟨rfl, e0, (by decide : 0 + 0 ≤ _), (by decide : 0 + 0 ≤ _)⟩)
  dsimp only [Pt.U, Pt.locs, Pt.cells, Pt.slots] at X1 l1 y1 z1 st1 hQ1
  subst l1 y1 z1
  obtain ⟨rfl, N1q, K1q, B1_0, B1_1, B1_2, B1_3⟩ := hQ1
  have Z1 : n0 ≤ T1.heap.size := Nat.le_trans Z0 K1q.1
  have K1 : Keep h0 T1.heap [a] := K0.trans K1q (allS (Or.inl (List.mem_of_getElem? (i := 0) rfl)) all0)
  have N1 := Fr.app N0 N1q
  replace G : Gets p e below _ (T1.setTop (mkF m 7 #[.val (.ref a)] [])) := fun t k => G t (st1.trans k)
  obtain ⟨fs, hr, hrun, hended, hW, hsame⟩ := X1.leave (v := none) (fun _ => rfl)
  refine ⟨_, _, G _ (X1.returnOut hx Bd.returns (hb hby d1_7) hr), hrun, hended, _, _, rfl, ?_, ⟨_, rfl⟩, hW, hsame.mono (by decide) (by decide)⟩
  show Q1 Z a sa h0 n0 _ T1.heap _
  exact ⟨rfl, N1, K1, B1_0, B1_1, B1_2, B1_3⟩
theorem d8_0 : decode jdk_29_method_69_code 0 = .ok (.iload_n 0, 1) := by decide +kernel
theorem d8_1 : decode jdk_29_method_69_code 1 = .ok (.iload_n 1, 1) := by decide +kernel
theorem d8_2 : decode jdk_29_method_69_code 2 = .ok (.if_icmp .gt 7, 3) := by decide +kernel
theorem d8_5 : decode jdk_29_method_69_code 5 = .ok (.iload_n 0, 1) := by decide +kernel
theorem d8_6 : decode jdk_29_method_69_code 6 = .ok (.goto 4, 3) := by decide +kernel
theorem d8_10 : decode jdk_29_method_69_code 10 = .ok (.ireturn, 1) := by decide +kernel
theorem ef_8c0 (m : MethodId)  : entryFrame m #[(.int (0 : Int32)), (.int (16 : Int32))] 2 = mkF m 0 #[.val (.int (0 : Int32)), .val (.int (16 : Int32))] [] := by first | (simp [entryFrame, mkF, argsToLocals, Value.category]; done) | rfl
def Q8c0 (Z : State)  (h0 : Heap) (n0 : Nat) (v : Option Value) (h : Heap) (L : List Loc) : Prop := v = some (.int (0 : Int32)) ∧ Fr n0 L ∧ h = h0
set_option maxRecDepth 65536 in
set_option maxHeartbeats 40000000 in
theorem rm8c0 (l : Launch) (Z : State) (a0 : Array Value) (hw : ∀ d ∈ tables_1, d.before a0 Z = true) (ws : List Jvm.Cond)  (h0 : Heap) (n0 : Nat) (Z0 : n0 ≤ h0.size)  :
    MetFree l (⟨"java/lang/Math", "min", "(II)I"⟩ : MethodName) (head1 (Jvm.Cond.code (⟨"java/lang/Math", "min", "(II)I"⟩ : MethodName) jdk_29_method_69_code 2 (some .int) :: ws) ({ frames := 0, cells := 0, slots := 0, locals := 0 } : Room)) (fun argz U => argz = #[(.int (0 : Int32)), (.int (16 : Int32))] ∧ Z.Warmed39 U.vm ∧ U.heap = h0) (fun _ _ _ _ _ => True) (fun _ U o U' => ∃ v L, o = .returned v ∧ Q8c0 Z  h0 n0 v U'.heap L ∧ FrameEnd U o U' L ({ frames := 0, cells := 0, slots := 0, locals := 0 } : Room).cells ({ frames := 0, cells := 0, slots := 0, locals := 0 } : Room).slots) := by
  refine MetFree.of_bodySF (Jvm.Free.JP.mathPlain rfl (by decide +kernel)) hisR ?_
  intro p e s m args below meth c s₁ Bd hml0 hP hK
  obtain ⟨rfl, hZ, hh⟩ := hP
  have hx := Bd.exec
  have hby := Bd.bytes
  have hml : c.maxLocals = 2 := hml0
  have hown : s.vm.findClass "java/lang/Math" = some m.cls := findClass_of_methodNamed Bd.named
  have hnm := (name_of_methodNamed Bd.named Bd.method).1
  have X0 : Stand p l e ({ frames := 0, cells := 0, slots := 0, locals := 0 } : Room) s m #[(.int (0 : Int32)), (.int (16 : Int32))] below meth c s₁ [] 0 0 := Stand.of_body Bd
  have e0 : s₁.heap = h0 := by rw [← hh, Bd.state]; rfl
  have N0 := Fr.nil n0
  have G : Gets p e below (s₁.setTop (entryFrame m #[(.int (0 : Int32)), (.int (16 : Int32))] 2)) (s₁.setTop (mkF m 0 #[.val (.int (0 : Int32)), .val (.int (16 : Int32))] [])) := fun t k => castTop (ef_8c0 m ) k
  replace G := own_iloadN (q := 1) G X0.here hx (hb hby d8_0) rfl rfl
  replace G := own_iloadN (q := 2) G X0.here hx (hb hby d8_1) rfl rfl
  have hc2_1 : ¬ ((16 : Int32) < (0 : Int32)) := by decide
  replace G := own_icmpNo (q := 5) G X0.here hx (hb hby d8_2) (flt hc2_1).2.2.1 rfl
  replace G := own_iloadN (q := 6) G X0.here hx (hb hby d8_5) rfl rfl
  replace G := own_goto (q := 10) G X0.here hx (hb hby d8_6) (by decide) (by decide)
  obtain ⟨fs, hr, hrun, hended, hW, hsame⟩ := X0.leave (v := some (.int (0 : Int32))) (fun h => by rw [Bd.returns] at h; cases h)
  refine ⟨_, _, G _ (retOut X0 hx Bd.returns rfl (Or.inl ⟨rfl, Or.inl rfl, _, rfl⟩) (hb hby d8_10) hr), hrun, hended, _, _, rfl, ?_, ⟨_, rfl⟩, hW, hsame.mono (by decide) (by decide)⟩
  show Q8c0 Z  h0 n0 _ s₁.heap _
  rw [e0]
  exact ⟨rfl, N0, rfl⟩
theorem pd_1 : parseMethodDescriptor "(II)I" = some ⟨[.int, .int], some .int⟩ := by decide +kernel
theorem d12_0 : decode jdk_65_method_125_code 0 = .ok (.iload_n 1, 1) := by decide +kernel
theorem d12_1 : decode jdk_65_method_125_code 1 = .ok (.aload_n 0, 1) := by decide +kernel
theorem d12_2 : decode jdk_65_method_125_code 2 = .ok (.arraylength, 1) := by decide +kernel
theorem d12_3 : decode jdk_65_method_125_code 3 = .ok (.if_icmp .ne 11, 3) := by decide +kernel
theorem d12_14 : decode jdk_65_method_125_code 14 = .ok (.iload_n 1, 1) := by decide +kernel
theorem d12_15 : decode jdk_65_method_125_code 15 = .ok (.newarray .char, 2) := by decide +kernel
theorem d12_17 : decode jdk_65_method_125_code 17 = .ok (.astore_n 2, 1) := by decide +kernel
theorem d12_18 : decode jdk_65_method_125_code 18 = .ok (.aload_n 0, 1) := by decide +kernel
theorem d12_19 : decode jdk_65_method_125_code 19 = .ok (.iconst 0, 1) := by decide +kernel
theorem d12_20 : decode jdk_65_method_125_code 20 = .ok (.aload_n 2, 1) := by decide +kernel
theorem d12_21 : decode jdk_65_method_125_code 21 = .ok (.iconst 0, 1) := by decide +kernel
theorem d12_22 : decode jdk_65_method_125_code 22 = .ok (.aload_n 0, 1) := by decide +kernel
theorem d12_23 : decode jdk_65_method_125_code 23 = .ok (.arraylength, 1) := by decide +kernel
theorem d12_24 : decode jdk_65_method_125_code 24 = .ok (.iload_n 1, 1) := by decide +kernel
theorem d12_25 : decode jdk_65_method_125_code 25 = .ok (.invokestatic 304, 3) := by decide +kernel
theorem d12_28 : decode jdk_65_method_125_code 28 = .ok (.invokestatic 150, 3) := by decide +kernel
theorem d12_31 : decode jdk_65_method_125_code 31 = .ok (.aload_n 2, 1) := by decide +kernel
theorem d12_32 : decode jdk_65_method_125_code 32 = .ok (.areturn, 1) := by decide +kernel
theorem pn_java_util_Arrays : plainName "java/util/Arrays" = true := by first | (simp [plainName, overriddenIn]; done) | decide +kernel
theorem ef_12 (m : MethodId) (x0 : Addr) : entryFrame m #[(.ref x0), (.int (16 : Int32))] 3 = mkF m 0 #[.val (.ref x0), .val (.int (16 : Int32)), .unset] [] := by first | (simp [entryFrame, mkF, argsToLocals, Value.category]; done) | rfl
def Q12 (Z : State) (d : Addr) (ks : ClassId) (h0 : Heap) (n0 : Nat) (v : Option Value) (h : Heap) (L : List Loc) : Prop := ∃ (b : Addr) (kb : ClassId), v = some (.ref b) ∧ Fr n0 L ∧ Keep h0 h [] ∧ h0.size ≤ b ∧ (Arv Z h b kb .char (16 : Int32) [(.int (0 : Int32)), (.int (0 : Int32)), (.int (0 : Int32)), (.int (0 : Int32)), (.int (0 : Int32)), (.int (0 : Int32)), (.int (0 : Int32)), (.int (0 : Int32)), (.int (0 : Int32)), (.int (0 : Int32)), (.int (0 : Int32)), (.int (0 : Int32)), (.int (0 : Int32)), (.int (0 : Int32)), (.int (0 : Int32)), (.int (0 : Int32))] (.int (0 : Int32)))
set_option maxRecDepth 65536 in
set_option maxHeartbeats 40000000 in
theorem rm12 (l : Launch) (Z : State) (a0 : Array Value) (hw : ∀ d ∈ tables_1, d.before a0 Z = true) (ws : List Jvm.Cond) (d : Addr) (ks : ClassId) (h0 : Heap) (n0 : Nat) (Z0 : n0 ≤ h0.size) (P0 : Arv Z h0 d ks .char (0 : Int32) [] (.int (0 : Int32))) :
    MetFree l (⟨"java/util/Arrays", "copyOf", "([CI)[C"⟩ : MethodName) (head1 (Jvm.Cond.code (⟨"java/util/Arrays", "copyOf", "([CI)[C"⟩ : MethodName) jdk_65_method_125_code 3 (some (.array .char)) :: ws) ({ frames := 1, cells := 1, slots := 16, locals := 18 } : Room)) (fun argz U => argz = #[(.ref d), (.int (16 : Int32))] ∧ Z.Warmed39 U.vm ∧ U.heap = h0) (fun _ _ _ _ _ => True) (fun _ U o U' => ∃ v L, o = .returned v ∧ Q12 Z d ks h0 n0 v U'.heap L ∧ FrameEnd U o U' L ({ frames := 1, cells := 1, slots := 16, locals := 18 } : Room).cells ({ frames := 1, cells := 1, slots := 16, locals := 18 } : Room).slots) := by
  refine MetFree.of_bodySF (plainFor_of_name pn_java_util_Arrays) hisR ?_
  intro p e s m args below meth c s₁ Bd hml0 hP hK
  obtain ⟨rfl, hZ, hh⟩ := hP
  have hx := Bd.exec
  have hby := Bd.bytes
  have hml : c.maxLocals = 3 := hml0
  have hown : s.vm.findClass "java/util/Arrays" = some m.cls := findClass_of_methodNamed Bd.named
  have hnm := (name_of_methodNamed Bd.named Bd.method).1
  have X0 : Stand p l e ({ frames := 1, cells := 1, slots := 16, locals := 18 } : Room) s m #[(.ref d), (.int (16 : Int32))] below meth c s₁ [] 0 0 := Stand.of_body Bd
  have e0 : s₁.heap = h0 := by rw [← hh, Bd.state]; rfl
  have N0 := Fr.nil n0
  have K0 : Keep h0 h0 [] := Keep.refl _ _
  have G : Gets p e below (s₁.setTop (entryFrame m #[(.ref d), (.int (16 : Int32))] 3)) (s₁.setTop (mkF m 0 #[.val (.ref d), .val (.int (16 : Int32)), .unset] [])) := fun t k => castTop (ef_12 m d) k
  replace G := own_iloadN (q := 1) G X0.here hx (hb hby d12_0) rfl rfl
  replace G := own_aloadN (q := 2) G X0.here hx (hb hby d12_1) rfl rfl rfl
  obtain ⟨c1, Ar1, -, S1, N1', -, -⟩ := id P0
  replace G : Gets p e below _ (s₁.setTop (mkF m 3 #[.val (.ref d), .val (.int (16 : Int32)), .unset] [(.int (0 : Int32)), (.int (16 : Int32))])) := fun t k => G t (X0.arraylength hx (by rw [e0]; exact Ar1.1) (State.isArrayOf_alike hZ.alike Ar1.2.1) (g := (mkF m 2 #[.val (.ref d), .val (.int (16 : Int32)), .unset] [(.ref d), (.int (16 : Int32))])) rfl rfl (hb hby d12_2) t (by rw [len_of S1 N1']; exact k))
  have hc3_2 : ¬ ((16 : Int32) = (0 : Int32)) := by decide
  replace G := own_icmpYes (q := 14) G X0.here hx (hb hby d12_3) (feq hc3_2).2 (by decide) (by decide)
  replace G := own_iloadN (q := 15) G X0.here hx (hb hby d12_14) rfl rfl
  obtain ⟨T3, h3, k3, X3, e3, E3, A3, st3⟩ := newP X0 hx hZ (hw _ (List.mem_of_getElem? (i := 21) rfl)) e0 (g := (mkF m 15 #[.val (.ref d), .val (.int (16 : Int32)), .unset] [(.int (16 : Int32))])) rfl (hb hby d12_15) rfl (by decide) (cap := 16) (by decide) (by decide) (by decide) (by decide)
  obtain ⟨b3, g3⟩ : ∃ z, z = h0.size := ⟨_, rfl⟩
  rw [← g3] at A3 st3
  have ne4 : d ≠ b3 := Nat.ne_of_lt (Nat.lt_of_lt_of_le P0.lt (Nat.le_of_eq g3.symm))
  have ge_b3 : n0 ≤ b3 := Nat.le_trans Z0 (Nat.le_of_eq g3.symm)
  have sz_b3 : h0.size ≤ b3 := Nat.le_trans K0.1 (Nat.le_of_eq g3.symm)
  have Z3 : n0 ≤ h3.size := Nat.le_trans Z0 E3.1
  have K3 : Keep h0 h3 [] := K0.ext E3
  have V3 : Arv Z h3 b3 k3 .char (16 : Int32) [(.int (0 : Int32)), (.int (0 : Int32)), (.int (0 : Int32)), (.int (0 : Int32)), (.int (0 : Int32)), (.int (0 : Int32)), (.int (0 : Int32)), (.int (0 : Int32)), (.int (0 : Int32)), (.int (0 : Int32)), (.int (0 : Int32)), (.int (0 : Int32)), (.int (0 : Int32)), (.int (0 : Int32)), (.int (0 : Int32)), (.int (0 : Int32))] (.int (0 : Int32)) := (Arv.new A3 (by decide)).pad (pad_rep [] (.int (0 : Int32)) 16)
  replace G : Gets p e below _ (T3.setTop (mkF m 17 #[.val (.ref d), .val (.int (16 : Int32)), .unset] [(.ref b3)])) := fun t k => G t (st3 t k)
  replace G := own_astoreN (q := 18) (l' := #[.val (.ref d), .val (.int (16 : Int32)), .val (.ref b3)]) G X3.here hx (hb hby d12_17) rfl rfl rfl
  replace G := own_aloadN (q := 19) G X3.here hx (hb hby d12_18) rfl rfl rfl
  replace G := own_iconst (q := 20) G X3.here hx (hb hby d12_19) (v := (0 : Int32)) (by decide) rfl
  replace G := own_aloadN (q := 21) G X3.here hx (hb hby d12_20) rfl rfl rfl
  replace G := own_iconst (q := 22) G X3.here hx (hb hby d12_21) (v := (0 : Int32)) (by decide) rfl
  replace G := own_aloadN (q := 23) G X3.here hx (hb hby d12_22) rfl rfl rfl
  have F5 : Arv Z h3 d ks .char (0 : Int32) [] (.int (0 : Int32)) := (P0.ext E3)
  obtain ⟨c6, Ar6, -, S6, N6', -, -⟩ := id F5
  replace G : Gets p e below _ (T3.setTop (mkF m 24 #[.val (.ref d), .val (.int (16 : Int32)), .val (.ref b3)] [(.int (0 : Int32)), (.int (0 : Int32)), (.ref b3), (.int (0 : Int32)), (.ref d)])) := fun t k => G t (X3.arraylength hx (by rw [e3]; exact Ar6.1) (State.isArrayOf_alike hZ.alike Ar6.2.1) (g := (mkF m 23 #[.val (.ref d), .val (.int (16 : Int32)), .val (.ref b3)] [(.ref d), (.int (0 : Int32)), (.ref b3), (.int (0 : Int32)), (.ref d)])) rfl rfl (hb hby d12_23) t (by rw [len_of S6 N6']; exact k))
  replace G := own_iloadN (q := 25) G X3.here hx (hb hby d12_24) rfl rfl
  obtain ⟨_, _, ⟨T7, L7, kk7, nn7⟩, -, X7, ⟨Lc7, hQ7, l7, y7, z7⟩, st7⟩ := Jvm.LawKit.callS X3 hx (y := (⟨"java/lang/Math", "min", "(II)I"⟩ : MethodName)) hown (mvT hZ (hw _ (List.mem_of_getElem? (i := 63) rfl))) (mvT hZ (hw _ (List.mem_of_getElem? (i := 44) rfl))) (mvT hZ (hw _ (List.mem_of_getElem? (i := 45) rfl))) (mvT hZ (hw _ (List.mem_of_getElem? (i := 46) rfl))) (by decide) (backOf (W := 4) (rm8c0 l Z a0 hw []  h3 n0 Z3 ) hZ (hw _ (List.mem_of_getElem? (i := 46) rfl)) (hw _ (List.mem_of_getElem? (i := 45) rfl)) (by decide) (by decide)) (g := (mkF m 25 #[.val (.ref d), .val (.int (16 : Int32)), .val (.ref b3)] [(.int (16 : Int32)), (.int (0 : Int32)), (.int (0 : Int32)), (.ref b3), (.int (0 : Int32)), (.ref d)])) rfl (by rw [hml]; rfl) (argsL := [(.int (0 : Int32)), (.int (16 : Int32))]) (rest := [(.int (0 : Int32)), (.ref b3), (.int (0 : Int32)), (.ref d)]) (lenOf pd_1 rfl) rfl (by show 2 * 0 + _ ≤ _; exact Nat.le_of_eq rfl) (hb hby d12_25) (fun _ _ => ⟨rfl, e3, (by decide : 1 + 0 ≤ _), (by decide : 16 + 0 ≤ _)⟩)
  dsimp only [Pt.U, Pt.locs, Pt.cells, Pt.slots] at X7 l7 y7 z7 st7 hQ7
  subst l7 y7 z7
  obtain ⟨rfl, N7q, e7⟩ := hQ7
  have N7 := Fr.app N0 N7q
  replace G : Gets p e below _ (T7.setTop (mkF m 28 #[.val (.ref d), .val (.int (16 : Int32)), .val (.ref b3)] [(.int (0 : Int32)), (.int (0 : Int32)), (.ref b3), (.int (0 : Int32)), (.ref d)])) := fun t k => G t (st7 t k)
  obtain ⟨T8, h8, L8, X8, e8, N8, K8q, V8, st8⟩ := cpA X7 hx hZ hown (hw _ (List.mem_of_getElem? (i := 64) rfl)) (hw _ (List.mem_of_getElem? (i := 67) rfl)) (hw _ (List.mem_of_getElem? (i := 65) rfl)) (hw _ (List.mem_of_getElem? (i := 66) rfl)) e7 F5 V3 (us := []) (Or.inl ⟨rfl, rfl⟩) (by decide) (by decide) (by decide) (by decide) (by decide) (by rfl) (by decide) N7 ge_b3 (g := (mkF m 28 #[.val (.ref d), .val (.int (16 : Int32)), .val (.ref b3)] [(.int (0 : Int32)), (.int (0 : Int32)), (.ref b3), (.int (0 : Int32)), (.ref d)])) rfl (by rw [hml]; rfl) rfl (hb hby d12_28) (by decide) (W := 0) (by show 2 * 0 + _ ≤ _; exact Nat.le_of_eq rfl) (by decide)
  have Z8 : n0 ≤ h8.size := Nat.le_trans Z3 K8q.1
  have K8 : Keep h0 h8 [] := K3.trans K8q (allS (Or.inr sz_b3) all0)
  have U8 : Arv Z h8 b3 k3 .char (16 : Int32) [(.int (0 : Int32)), (.int (0 : Int32)), (.int (0 : Int32)), (.int (0 : Int32)), (.int (0 : Int32)), (.int (0 : Int32)), (.int (0 : Int32)), (.int (0 : Int32)), (.int (0 : Int32)), (.int (0 : Int32)), (.int (0 : Int32)), (.int (0 : Int32)), (.int (0 : Int32)), (.int (0 : Int32)), (.int (0 : Int32)), (.int (0 : Int32))] (.int (0 : Int32)) := V8
  replace G : Gets p e below _ (T8.setTop (mkF m 31 #[.val (.ref d), .val (.int (16 : Int32)), .val (.ref b3)] [])) := fun t k => G t (st8 t k)
  replace G := own_aloadN (q := 32) G X8.here hx (hb hby d12_31) rfl rfl rfl
  obtain ⟨fs, hr, hrun, hended, hW, hsame⟩ := X8.leave (v := some (.ref b3)) (fun h => by rw [Bd.returns] at h; cases h)
  refine ⟨_, _, G _ (retOut X8 hx Bd.returns rfl (Or.inr (Or.inr (Or.inr (Or.inr ⟨rfl, rfl, rfl⟩)))) (hb hby d12_32) hr), hrun, hended, _, _, rfl, ?_, ⟨_, rfl⟩, hW, hsame.mono (by decide) (by decide)⟩
  show Q12 Z d ks h0 n0 _ T8.heap _
  rw [e8]
  exact ⟨b3, k3, rfl, N8, K8, sz_b3, U8⟩
theorem d10_0 : decode jdk_29_method_66_code 0 = .ok (.lload_n 0, 1) := by decide +kernel
theorem d10_1 : decode jdk_29_method_66_code 1 = .ok (.lload_n 2, 1) := by decide +kernel
theorem d10_2 : decode jdk_29_method_66_code 2 = .ok (.lcmp, 1) := by decide +kernel
theorem d10_3 : decode jdk_29_method_66_code 3 = .ok (.ifCond .lt 7, 3) := by decide +kernel
theorem d10_10 : decode jdk_29_method_66_code 10 = .ok (.lload_n 2, 1) := by decide +kernel
theorem d10_11 : decode jdk_29_method_66_code 11 = .ok (.lreturn, 1) := by decide +kernel
theorem ef_10c0 (m : MethodId)  : entryFrame m #[(.long (0 : Int64)), (.long (16 : Int64))] 4 = mkF m 0 #[.val (.long (0 : Int64)), .second, .val (.long (16 : Int64)), .second] [] := by first | (simp [entryFrame, mkF, argsToLocals, Value.category]; done) | rfl
def Q10c0 (Z : State)  (h0 : Heap) (n0 : Nat) (v : Option Value) (h : Heap) (L : List Loc) : Prop := v = some (.long (16 : Int64)) ∧ Fr n0 L ∧ h = h0
set_option maxRecDepth 65536 in
set_option maxHeartbeats 40000000 in
theorem rm10c0 (l : Launch) (Z : State) (a0 : Array Value) (hw : ∀ d ∈ tables_1, d.before a0 Z = true) (ws : List Jvm.Cond)  (h0 : Heap) (n0 : Nat) (Z0 : n0 ≤ h0.size)  :
    MetFree l (⟨"java/lang/Math", "max", "(JJ)J"⟩ : MethodName) (head1 (Jvm.Cond.code (⟨"java/lang/Math", "max", "(JJ)J"⟩ : MethodName) jdk_29_method_66_code 4 (some .long) :: ws) ({ frames := 0, cells := 0, slots := 0, locals := 0 } : Room)) (fun argz U => argz = #[(.long (0 : Int64)), (.long (16 : Int64))] ∧ Z.Warmed39 U.vm ∧ U.heap = h0) (fun _ _ _ _ _ => True) (fun _ U o U' => ∃ v L, o = .returned v ∧ Q10c0 Z  h0 n0 v U'.heap L ∧ FrameEnd U o U' L ({ frames := 0, cells := 0, slots := 0, locals := 0 } : Room).cells ({ frames := 0, cells := 0, slots := 0, locals := 0 } : Room).slots) := by
  refine MetFree.of_bodySF (Jvm.Free.JP.mathPlain rfl (by decide +kernel)) hisR ?_
  intro p e s m args below meth c s₁ Bd hml0 hP hK
  obtain ⟨rfl, hZ, hh⟩ := hP
  have hx := Bd.exec
  have hby := Bd.bytes
  have hml : c.maxLocals = 4 := hml0
  have hown : s.vm.findClass "java/lang/Math" = some m.cls := findClass_of_methodNamed Bd.named
  have hnm := (name_of_methodNamed Bd.named Bd.method).1
  have X0 : Stand p l e ({ frames := 0, cells := 0, slots := 0, locals := 0 } : Room) s m #[(.long (0 : Int64)), (.long (16 : Int64))] below meth c s₁ [] 0 0 := Stand.of_body Bd
  have e0 : s₁.heap = h0 := by rw [← hh, Bd.state]; rfl
  have N0 := Fr.nil n0
  have G : Gets p e below (s₁.setTop (entryFrame m #[(.long (0 : Int64)), (.long (16 : Int64))] 4)) (s₁.setTop (mkF m 0 #[.val (.long (0 : Int64)), .second, .val (.long (16 : Int64)), .second] [])) := fun t k => castTop (ef_10c0 m ) k
  replace G := own_lloadN (q := 1) G X0.here hx (hb hby d10_0) rfl rfl
  replace G := own_lloadN (q := 2) G X0.here hx (hb hby d10_1) rfl rfl
  replace G := own_lcmp (q := 3) G X0.here hx (hb hby d10_2) rfl
  have hc3_1 : (0 : Int64) < (16 : Int64) := by decide
  replace G := own_ifYes (q := 10) G X0.here hx (hb hby d10_3) ((if0 _ _).trans (tlt ((lw_lt _ _).mpr hc3_1)).1) (by decide) (by decide)
  replace G := own_lloadN (q := 11) G X0.here hx (hb hby d10_10) rfl rfl
  obtain ⟨fs, hr, hrun, hended, hW, hsame⟩ := X0.leave (v := some (.long (16 : Int64))) (fun h => by rw [Bd.returns] at h; cases h)
  refine ⟨_, _, G _ (retOut X0 hx Bd.returns rfl (Or.inr (Or.inl ⟨rfl, rfl, _, rfl⟩)) (hb hby d10_11) hr), hrun, hended, _, _, rfl, ?_, ⟨_, rfl⟩, hW, hsame.mono (by decide) (by decide)⟩
  show Q10c0 Z  h0 n0 _ s₁.heap _
  rw [e0]
  exact ⟨rfl, N0, rfl⟩
theorem pd_2 : parseMethodDescriptor "(JJ)J" = some ⟨[.long, .long], some .long⟩ := by decide +kernel
theorem d11_0 : decode jdk_29_method_70_code 0 = .ok (.lload_n 0, 1) := by decide +kernel
theorem d11_1 : decode jdk_29_method_70_code 1 = .ok (.lload_n 2, 1) := by decide +kernel
theorem d11_2 : decode jdk_29_method_70_code 2 = .ok (.lcmp, 1) := by decide +kernel
theorem d11_3 : decode jdk_29_method_70_code 3 = .ok (.ifCond .gt 7, 3) := by decide +kernel
theorem d11_6 : decode jdk_29_method_70_code 6 = .ok (.lload_n 0, 1) := by decide +kernel
theorem d11_7 : decode jdk_29_method_70_code 7 = .ok (.goto 4, 3) := by decide +kernel
theorem d11_11 : decode jdk_29_method_70_code 11 = .ok (.lreturn, 1) := by decide +kernel
theorem ef_11c0 (m : MethodId)  : entryFrame m #[(.long (16 : Int64)), (.long (2147483639 : Int64))] 4 = mkF m 0 #[.val (.long (16 : Int64)), .second, .val (.long (2147483639 : Int64)), .second] [] := by first | (simp [entryFrame, mkF, argsToLocals, Value.category]; done) | rfl
def Q11c0 (Z : State)  (h0 : Heap) (n0 : Nat) (v : Option Value) (h : Heap) (L : List Loc) : Prop := v = some (.long (16 : Int64)) ∧ Fr n0 L ∧ h = h0
set_option maxRecDepth 65536 in
set_option maxHeartbeats 40000000 in
theorem rm11c0 (l : Launch) (Z : State) (a0 : Array Value) (hw : ∀ d ∈ tables_1, d.before a0 Z = true) (ws : List Jvm.Cond)  (h0 : Heap) (n0 : Nat) (Z0 : n0 ≤ h0.size)  :
    MetFree l (⟨"java/lang/Math", "min", "(JJ)J"⟩ : MethodName) (head1 (Jvm.Cond.code (⟨"java/lang/Math", "min", "(JJ)J"⟩ : MethodName) jdk_29_method_70_code 4 (some .long) :: ws) ({ frames := 0, cells := 0, slots := 0, locals := 0 } : Room)) (fun argz U => argz = #[(.long (16 : Int64)), (.long (2147483639 : Int64))] ∧ Z.Warmed39 U.vm ∧ U.heap = h0) (fun _ _ _ _ _ => True) (fun _ U o U' => ∃ v L, o = .returned v ∧ Q11c0 Z  h0 n0 v U'.heap L ∧ FrameEnd U o U' L ({ frames := 0, cells := 0, slots := 0, locals := 0 } : Room).cells ({ frames := 0, cells := 0, slots := 0, locals := 0 } : Room).slots) := by
  refine MetFree.of_bodySF (Jvm.Free.JP.mathPlain rfl (by decide +kernel)) hisR ?_
  intro p e s m args below meth c s₁ Bd hml0 hP hK
  obtain ⟨rfl, hZ, hh⟩ := hP
  have hx := Bd.exec
  have hby := Bd.bytes
  have hml : c.maxLocals = 4 := hml0
  have hown : s.vm.findClass "java/lang/Math" = some m.cls := findClass_of_methodNamed Bd.named
  have hnm := (name_of_methodNamed Bd.named Bd.method).1
  have X0 : Stand p l e ({ frames := 0, cells := 0, slots := 0, locals := 0 } : Room) s m #[(.long (16 : Int64)), (.long (2147483639 : Int64))] below meth c s₁ [] 0 0 := Stand.of_body Bd
  have e0 : s₁.heap = h0 := by rw [← hh, Bd.state]; rfl
  have N0 := Fr.nil n0
  have G : Gets p e below (s₁.setTop (entryFrame m #[(.long (16 : Int64)), (.long (2147483639 : Int64))] 4)) (s₁.setTop (mkF m 0 #[.val (.long (16 : Int64)), .second, .val (.long (2147483639 : Int64)), .second] [])) := fun t k => castTop (ef_11c0 m ) k
  replace G := own_lloadN (q := 1) G X0.here hx (hb hby d11_0) rfl rfl
  replace G := own_lloadN (q := 2) G X0.here hx (hb hby d11_1) rfl rfl
  replace G := own_lcmp (q := 3) G X0.here hx (hb hby d11_2) rfl
  have hc3_1 : ¬ ((2147483639 : Int64) < (16 : Int64)) := by decide
  replace G := own_ifNo (q := 6) G X0.here hx (hb hby d11_3) ((if0 _ _).trans (flt (fun z => hc3_1 ((lw_gt _ _).mp z))).2.2.1) rfl
  replace G := own_lloadN (q := 7) G X0.here hx (hb hby d11_6) rfl rfl
  replace G := own_goto (q := 11) G X0.here hx (hb hby d11_7) (by decide) (by decide)
  obtain ⟨fs, hr, hrun, hended, hW, hsame⟩ := X0.leave (v := some (.long (16 : Int64))) (fun h => by rw [Bd.returns] at h; cases h)
  refine ⟨_, _, G _ (retOut X0 hx Bd.returns rfl (Or.inr (Or.inl ⟨rfl, rfl, _, rfl⟩)) (hb hby d11_11) hr), hrun, hended, _, _, rfl, ?_, ⟨_, rfl⟩, hW, hsame.mono (by decide) (by decide)⟩
  show Q11c0 Z  h0 n0 _ s₁.heap _
  rw [e0]
  exact ⟨rfl, N0, rfl⟩
theorem ef_10c1 (m : MethodId)  : entryFrame m #[(.long (1 : Int64)), (.long (16 : Int64))] 4 = mkF m 0 #[.val (.long (1 : Int64)), .second, .val (.long (16 : Int64)), .second] [] := by first | (simp [entryFrame, mkF, argsToLocals, Value.category]; done) | rfl
def Q10c1 (Z : State)  (h0 : Heap) (n0 : Nat) (v : Option Value) (h : Heap) (L : List Loc) : Prop := v = some (.long (16 : Int64)) ∧ Fr n0 L ∧ h = h0
set_option maxRecDepth 65536 in
set_option maxHeartbeats 40000000 in
theorem rm10c1 (l : Launch) (Z : State) (a0 : Array Value) (hw : ∀ d ∈ tables_1, d.before a0 Z = true) (ws : List Jvm.Cond)  (h0 : Heap) (n0 : Nat) (Z0 : n0 ≤ h0.size)  :
    MetFree l (⟨"java/lang/Math", "max", "(JJ)J"⟩ : MethodName) (head1 (Jvm.Cond.code (⟨"java/lang/Math", "max", "(JJ)J"⟩ : MethodName) jdk_29_method_66_code 4 (some .long) :: ws) ({ frames := 0, cells := 0, slots := 0, locals := 0 } : Room)) (fun argz U => argz = #[(.long (1 : Int64)), (.long (16 : Int64))] ∧ Z.Warmed39 U.vm ∧ U.heap = h0) (fun _ _ _ _ _ => True) (fun _ U o U' => ∃ v L, o = .returned v ∧ Q10c1 Z  h0 n0 v U'.heap L ∧ FrameEnd U o U' L ({ frames := 0, cells := 0, slots := 0, locals := 0 } : Room).cells ({ frames := 0, cells := 0, slots := 0, locals := 0 } : Room).slots) := by
  refine MetFree.of_bodySF (Jvm.Free.JP.mathPlain rfl (by decide +kernel)) hisR ?_
  intro p e s m args below meth c s₁ Bd hml0 hP hK
  obtain ⟨rfl, hZ, hh⟩ := hP
  have hx := Bd.exec
  have hby := Bd.bytes
  have hml : c.maxLocals = 4 := hml0
  have hown : s.vm.findClass "java/lang/Math" = some m.cls := findClass_of_methodNamed Bd.named
  have hnm := (name_of_methodNamed Bd.named Bd.method).1
  have X0 : Stand p l e ({ frames := 0, cells := 0, slots := 0, locals := 0 } : Room) s m #[(.long (1 : Int64)), (.long (16 : Int64))] below meth c s₁ [] 0 0 := Stand.of_body Bd
  have e0 : s₁.heap = h0 := by rw [← hh, Bd.state]; rfl
  have N0 := Fr.nil n0
  have G : Gets p e below (s₁.setTop (entryFrame m #[(.long (1 : Int64)), (.long (16 : Int64))] 4)) (s₁.setTop (mkF m 0 #[.val (.long (1 : Int64)), .second, .val (.long (16 : Int64)), .second] [])) := fun t k => castTop (ef_10c1 m ) k
  replace G := own_lloadN (q := 1) G X0.here hx (hb hby d10_0) rfl rfl
  replace G := own_lloadN (q := 2) G X0.here hx (hb hby d10_1) rfl rfl
  replace G := own_lcmp (q := 3) G X0.here hx (hb hby d10_2) rfl
  have hc3_1 : (1 : Int64) < (16 : Int64) := by decide
  replace G := own_ifYes (q := 10) G X0.here hx (hb hby d10_3) ((if0 _ _).trans (tlt ((lw_lt _ _).mpr hc3_1)).1) (by decide) (by decide)
  replace G := own_lloadN (q := 11) G X0.here hx (hb hby d10_10) rfl rfl
  obtain ⟨fs, hr, hrun, hended, hW, hsame⟩ := X0.leave (v := some (.long (16 : Int64))) (fun h => by rw [Bd.returns] at h; cases h)
  refine ⟨_, _, G _ (retOut X0 hx Bd.returns rfl (Or.inr (Or.inl ⟨rfl, rfl, _, rfl⟩)) (hb hby d10_11) hr), hrun, hended, _, _, rfl, ?_, ⟨_, rfl⟩, hW, hsame.mono (by decide) (by decide)⟩
  show Q10c1 Z  h0 n0 _ s₁.heap _
  rw [e0]
  exact ⟨rfl, N0, rfl⟩
theorem pd_3 : parseMethodDescriptor "([CI)[C" = some ⟨[(.array .char), .int], some (.array .char)⟩ := by decide +kernel
theorem d9_0 : decode prog_6_method_23_code 0 = .ok (.aload_n 0, 1) := by decide +kernel
theorem d9_1 : decode prog_6_method_23_code 1 = .ok (.getfield 39, 3) := by decide +kernel
theorem d9_4 : decode prog_6_method_23_code 4 = .ok (.iload_n 1, 1) := by decide +kernel
theorem d9_5 : decode prog_6_method_23_code 5 = .ok (.iadd, 1) := by decide +kernel
theorem d9_6 : decode prog_6_method_23_code 6 = .ok (.istore_n 2, 1) := by decide +kernel
theorem d9_7 : decode prog_6_method_23_code 7 = .ok (.ldc2_w 138, 3) := by decide +kernel
theorem d9_10 : decode prog_6_method_23_code 10 = .ok (.aload_n 0, 1) := by decide +kernel
theorem d9_11 : decode prog_6_method_23_code 11 = .ok (.getfield 19, 3) := by decide +kernel
theorem d9_14 : decode prog_6_method_23_code 14 = .ok (.arraylength, 1) := by decide +kernel
theorem d9_15 : decode prog_6_method_23_code 15 = .ok (.i2l, 1) := by decide +kernel
theorem d9_16 : decode prog_6_method_23_code 16 = .ok (.lmul, 1) := by decide +kernel
theorem d9_17 : decode prog_6_method_23_code 17 = .ok (.ldc2_w 140, 3) := by decide +kernel
theorem d9_20 : decode prog_6_method_23_code 20 = .ok (.invokestatic 142, 3) := by decide +kernel
theorem d9_23 : decode prog_6_method_23_code 23 = .ok (.aload_n 0, 1) := by decide +kernel
theorem d9_24 : decode prog_6_method_23_code 24 = .ok (.getfield 31, 3) := by decide +kernel
theorem d9_27 : decode prog_6_method_23_code 27 = .ok (.i2l, 1) := by decide +kernel
theorem d9_28 : decode prog_6_method_23_code 28 = .ok (.invokestatic 146, 3) := by decide +kernel
theorem d9_31 : decode prog_6_method_23_code 31 = .ok (.lstore_n 3, 1) := by decide +kernel
theorem d9_32 : decode prog_6_method_23_code 32 = .ok (.aload_n 0, 1) := by decide +kernel
theorem d9_33 : decode prog_6_method_23_code 33 = .ok (.aload_n 0, 1) := by decide +kernel
theorem d9_34 : decode prog_6_method_23_code 34 = .ok (.getfield 19, 3) := by decide +kernel
theorem d9_37 : decode prog_6_method_23_code 37 = .ok (.iload_n 2, 1) := by decide +kernel
theorem d9_38 : decode prog_6_method_23_code 38 = .ok (.i2l, 1) := by decide +kernel
theorem d9_39 : decode prog_6_method_23_code 39 = .ok (.lload_n 3, 1) := by decide +kernel
theorem d9_40 : decode prog_6_method_23_code 40 = .ok (.invokestatic 142, 3) := by decide +kernel
theorem d9_43 : decode prog_6_method_23_code 43 = .ok (.l2i, 1) := by decide +kernel
theorem d9_44 : decode prog_6_method_23_code 44 = .ok (.invokestatic 105, 3) := by decide +kernel
theorem d9_47 : decode prog_6_method_23_code 47 = .ok (.putfield 19, 3) := by decide +kernel
theorem d9_50 : decode prog_6_method_23_code 50 = .ok (.return_, 1) := by decide +kernel
theorem ef_9 (m : MethodId) (x0 : Addr) : entryFrame m #[(.ref x0), (.int (1 : Int32))] 5 = mkF m 0 #[.val (.ref x0), .val (.int (1 : Int32)), .unset, .unset, .unset] [] := by first | (simp [entryFrame, mkF, argsToLocals, Value.category]; done) | rfl
def Q9 (Z : State) (a : Addr) (sa : Addr) (ks : ClassId) (h0 : Heap) (n0 : Nat) (v : Option Value) (h : Heap) (L : List Loc) : Prop := ∃ (b : Addr) (kb : ClassId), v = none ∧ Fr n0 L ∧ Keep h0 h [a] ∧ (Fld Z h a "com/example/leafcutter/leafcutter/io/TextBuffer" "chars" "[C" (.ref b)) ∧ (Fld Z h a "com/example/leafcutter/leafcutter/io/TextBuffer" "length" "I" (.int (0 : Int32))) ∧ (Fld Z h a "com/example/leafcutter/leafcutter/io/TextBuffer" "limit" "I" (.int (2147483639 : Int32))) ∧ (Fld Z h a "com/example/leafcutter/leafcutter/io/TextBuffer" "whenFull" "Ljava/util/function/Consumer;" .null) ∧ h0.size ≤ b ∧ (Arv Z h b kb .char (16 : Int32) [(.int (0 : Int32)), (.int (0 : Int32)), (.int (0 : Int32)), (.int (0 : Int32)), (.int (0 : Int32)), (.int (0 : Int32)), (.int (0 : Int32)), (.int (0 : Int32)), (.int (0 : Int32)), (.int (0 : Int32)), (.int (0 : Int32)), (.int (0 : Int32)), (.int (0 : Int32)), (.int (0 : Int32)), (.int (0 : Int32)), (.int (0 : Int32))] (.int (0 : Int32)))
set_option maxRecDepth 65536 in
set_option maxHeartbeats 40000000 in
theorem rm9 (l : Launch) (Z : State) (a0 : Array Value) (hw : ∀ d ∈ tables_1, d.before a0 Z = true) (ws : List Jvm.Cond) (a : Addr) (sa : Addr) (ks : ClassId) (h0 : Heap) (n0 : Nat) (Z0 : n0 ≤ h0.size) (P0 : Fld Z h0 a "com/example/leafcutter/leafcutter/io/TextBuffer" "chars" "[C" (.ref sa)) (P1 : Fld Z h0 a "com/example/leafcutter/leafcutter/io/TextBuffer" "length" "I" (.int (0 : Int32))) (P2 : Fld Z h0 a "com/example/leafcutter/leafcutter/io/TextBuffer" "limit" "I" (.int (2147483639 : Int32))) (P3 : Fld Z h0 a "com/example/leafcutter/leafcutter/io/TextBuffer" "whenFull" "Ljava/util/function/Consumer;" .null) (P4 : Exa Z h0 a "com/example/leafcutter/leafcutter/io/TextBuffer") (P5 : Arv Z h0 sa ks .char (0 : Int32) [] (.int (0 : Int32))) (P6 : n0 ≤ a) (P7 : a ≠ sa) :
    MetFree l (⟨"com/example/leafcutter/leafcutter/io/TextBuffer", "grow", "(I)V"⟩ : MethodName) (head1 (Jvm.Cond.code (⟨"com/example/leafcutter/leafcutter/io/TextBuffer", "grow", "(I)V"⟩ : MethodName) prog_6_method_23_code 5 none :: ws) ({ frames := 2, cells := 1, slots := 16, locals := 33 } : Room)) (fun argz U => argz = #[(.ref a), (.int (1 : Int32))] ∧ Z.Warmed39 U.vm ∧ U.heap = h0) (fun _ _ _ _ _ => True) (fun _ U o U' => ∃ v L, o = .returned v ∧ Q9 Z a sa ks h0 n0 v U'.heap L ∧ FrameEnd U o U' L ({ frames := 2, cells := 1, slots := 16, locals := 33 } : Room).cells ({ frames := 2, cells := 1, slots := 16, locals := 33 } : Room).slots) := by
  refine MetFree.of_bodySF (plainFor_of_name pn_com_example_leafcutter_leafcutter_io_TextBuffer) hisR ?_
  intro p e s m args below meth c s₁ Bd hml0 hP hK
  obtain ⟨rfl, hZ, hh⟩ := hP
  have hx := Bd.exec
  have hby := Bd.bytes
  have hml : c.maxLocals = 5 := hml0
  have hown : s.vm.findClass "com/example/leafcutter/leafcutter/io/TextBuffer" = some m.cls := findClass_of_methodNamed Bd.named
  have hnm := (name_of_methodNamed Bd.named Bd.method).1
  have X0 : Stand p l e ({ frames := 2, cells := 1, slots := 16, locals := 33 } : Room) s m #[(.ref a), (.int (1 : Int32))] below meth c s₁ [] 0 0 := Stand.of_body Bd
  have e0 : s₁.heap = h0 := by rw [← hh, Bd.state]; rfl
  have N0 := Fr.nil n0
  have K0 : Keep h0 h0 [a] := Keep.refl _ _
  have G : Gets p e below (s₁.setTop (entryFrame m #[(.ref a), (.int (1 : Int32))] 5)) (s₁.setTop (mkF m 0 #[.val (.ref a), .val (.int (1 : Int32)), .unset, .unset, .unset] [])) := fun t k => castTop (ef_9 m a) k
  replace G := own_aloadN (q := 1) G X0.here hx (hb hby d9_0) rfl rfl rfl
  obtain ⟨T1, X1, e1, st1⟩ := getF X0 hx hZ hown (host := "") (Or.inl (hw _ (List.mem_of_getElem? (i := 27) rfl))) Via.refl e0 P1 (g := (mkF m 1 #[.val (.ref a), .val (.int (1 : Int32)), .unset, .unset, .unset] [(.ref a)])) rfl rfl (hb hby d9_1)
  replace G : Gets p e below _ (T1.setTop (mkF m 4 #[.val (.ref a), .val (.int (1 : Int32)), .unset, .unset, .unset] [(.int (0 : Int32))])) := fun t k => G t (st1 t k)
  replace G := own_iloadN (q := 5) G X1.here hx (hb hby d9_4) rfl rfl
  replace G := own_iadd (q := 6) G X1.here hx (hb hby d9_5) (by decide : ((0 : Int32) + (1 : Int32)) = (1 : Int32)) rfl
  replace G := own_istoreN (q := 7) (l' := #[.val (.ref a), .val (.int (1 : Int32)), .val (.int (1 : Int32)), .unset, .unset]) G X1.here hx (hb hby d9_6) rfl rfl
  replace G : Gets p e below _ (T1.setTop (mkF m 10 #[.val (.ref a), .val (.int (1 : Int32)), .val (.int (1 : Int32)), .unset, .unset] [(.long (2 : Int64))])) := fun t k => G t (X1.ldc2Long hx hown (mvT hZ (hw _ (List.mem_of_getElem? (i := 51) rfl))) (g := (mkF m 7 #[.val (.ref a), .val (.int (1 : Int32)), .val (.int (1 : Int32)), .unset, .unset] [])) rfl (hb hby d9_7) t k)
  replace G := own_aloadN (q := 11) G X1.here hx (hb hby d9_10) rfl rfl rfl
  obtain ⟨T2, X2, e2, st2⟩ := getF X1 hx hZ hown (host := "") (Or.inl (hw _ (List.mem_of_getElem? (i := 15) rfl))) Via.refl e1 P0 (g := (mkF m 11 #[.val (.ref a), .val (.int (1 : Int32)), .val (.int (1 : Int32)), .unset, .unset] [(.ref a), (.long (2 : Int64))])) rfl rfl (hb hby d9_11)
  replace G : Gets p e below _ (T2.setTop (mkF m 14 #[.val (.ref a), .val (.int (1 : Int32)), .val (.int (1 : Int32)), .unset, .unset] [(.ref sa), (.long (2 : Int64))])) := fun t k => G t (st2 t k)
  obtain ⟨c3, Ar3, -, S3, N3', -, -⟩ := id P5
  replace G : Gets p e below _ (T2.setTop (mkF m 15 #[.val (.ref a), .val (.int (1 : Int32)), .val (.int (1 : Int32)), .unset, .unset] [(.int (0 : Int32)), (.long (2 : Int64))])) := fun t k => G t (X2.arraylength hx (by rw [e2]; exact Ar3.1) (State.isArrayOf_alike hZ.alike Ar3.2.1) (g := (mkF m 14 #[.val (.ref a), .val (.int (1 : Int32)), .val (.int (1 : Int32)), .unset, .unset] [(.ref sa), (.long (2 : Int64))])) rfl rfl (hb hby d9_14) t (by rw [len_of S3 N3']; exact k))
  replace G := own_i2l (q := 16) G X2.here hx (hb hby d9_15) (by decide : ((0 : Int32).toInt64) = (0 : Int64)) rfl
  replace G := own_lmul (q := 17) G X2.here hx (hb hby d9_16) (by decide : ((2 : Int64) * (0 : Int64)) = (0 : Int64)) rfl
  replace G : Gets p e below _ (T2.setTop (mkF m 20 #[.val (.ref a), .val (.int (1 : Int32)), .val (.int (1 : Int32)), .unset, .unset] [(.long (16 : Int64)), (.long (0 : Int64))])) := fun t k => G t (X2.ldc2Long hx hown (mvT hZ (hw _ (List.mem_of_getElem? (i := 52) rfl))) (g := (mkF m 17 #[.val (.ref a), .val (.int (1 : Int32)), .val (.int (1 : Int32)), .unset, .unset] [(.long (0 : Int64))])) rfl (hb hby d9_17) t k)
  obtain ⟨_, _, ⟨T4, L4, kk4, nn4⟩, -, X4, ⟨Lc4, hQ4, l4, y4, z4⟩, st4⟩ := Jvm.LawKit.callS X2 hx (y := (⟨"java/lang/Math", "max", "(JJ)J"⟩ : MethodName)) hown (mvT hZ (hw _ (List.mem_of_getElem? (i := 53) rfl))) (mvT hZ (hw _ (List.mem_of_getElem? (i := 54) rfl))) (mvT hZ (hw _ (List.mem_of_getElem? (i := 45) rfl))) (mvT hZ (hw _ (List.mem_of_getElem? (i := 55) rfl))) (by decide) (backOf (W := 0) (rm10c0 l Z a0 hw []  h0 n0 Z0 ) hZ (hw _ (List.mem_of_getElem? (i := 55) rfl)) (hw _ (List.mem_of_getElem? (i := 45) rfl)) (by decide) (by decide)) (g := (mkF m 20 #[.val (.ref a), .val (.int (1 : Int32)), .val (.int (1 : Int32)), .unset, .unset] [(.long (16 : Int64)), (.long (0 : Int64))])) rfl (by rw [hml]; rfl) (argsL := [(.long (0 : Int64)), (.long (16 : Int64))]) (rest := []) (lenOf pd_2 rfl) rfl (by show 2 * 0 + _ ≤ _; exact Nat.le_of_eq rfl) (hb hby d9_20) (fun _ _ => ⟨rfl, e2, (by decide : 0 + 0 ≤ _), (by decide : 0 + 0 ≤ _)⟩)
  dsimp only [Pt.U, Pt.locs, Pt.cells, Pt.slots] at X4 l4 y4 z4 st4 hQ4
  subst l4 y4 z4
  obtain ⟨rfl, N4q, e4⟩ := hQ4
  have N4 := Fr.app N0 N4q
  replace G : Gets p e below _ (T4.setTop (mkF m 23 #[.val (.ref a), .val (.int (1 : Int32)), .val (.int (1 : Int32)), .unset, .unset] [(.long (16 : Int64))])) := fun t k => G t (st4 t k)
  replace G := own_aloadN (q := 24) G X4.here hx (hb hby d9_23) rfl rfl rfl
  obtain ⟨T5, X5, e5, st5⟩ := getF X4 hx hZ hown (host := "") (Or.inl (hw _ (List.mem_of_getElem? (i := 17) rfl))) Via.refl e4 P2 (g := (mkF m 24 #[.val (.ref a), .val (.int (1 : Int32)), .val (.int (1 : Int32)), .unset, .unset] [(.ref a), (.long (16 : Int64))])) rfl rfl (hb hby d9_24)
  replace G : Gets p e below _ (T5.setTop (mkF m 27 #[.val (.ref a), .val (.int (1 : Int32)), .val (.int (1 : Int32)), .unset, .unset] [(.int (2147483639 : Int32)), (.long (16 : Int64))])) := fun t k => G t (st5 t k)
  replace G := own_i2l (q := 28) G X5.here hx (hb hby d9_27) (by decide : ((2147483639 : Int32).toInt64) = (2147483639 : Int64)) rfl
  obtain ⟨_, _, ⟨T6, L6, kk6, nn6⟩, -, X6, ⟨Lc6, hQ6, l6, y6, z6⟩, st6⟩ := Jvm.LawKit.callS X5 hx (y := (⟨"java/lang/Math", "min", "(JJ)J"⟩ : MethodName)) hown (mvT hZ (hw _ (List.mem_of_getElem? (i := 56) rfl))) (mvT hZ (hw _ (List.mem_of_getElem? (i := 57) rfl))) (mvT hZ (hw _ (List.mem_of_getElem? (i := 45) rfl))) (mvT hZ (hw _ (List.mem_of_getElem? (i := 58) rfl))) (by decide) (backOf (W := 0) (rm11c0 l Z a0 hw []  h0 n0 Z0 ) hZ (hw _ (List.mem_of_getElem? (i := 58) rfl)) (hw _ (List.mem_of_getElem? (i := 45) rfl)) (by decide) (by decide)) (g := (mkF m 28 #[.val (.ref a), .val (.int (1 : Int32)), .val (.int (1 : Int32)), .unset, .unset] [(.long (2147483639 : Int64)), (.long (16 : Int64))])) rfl (by rw [hml]; rfl) (argsL := [(.long (16 : Int64)), (.long (2147483639 : Int64))]) (rest := []) (lenOf pd_2 rfl) rfl (by show 2 * 0 + _ ≤ _; exact Nat.le_of_eq rfl) (hb hby d9_28) (fun _ _ => ⟨rfl, e5, (by decide : 0 + 0 ≤ _), (by decide : 0 + 0 ≤ _)⟩)
  dsimp only [Pt.U, Pt.locs, Pt.cells, Pt.slots] at X6 l6 y6 z6 st6 hQ6
  subst l6 y6 z6
  obtain ⟨rfl, N6q, e6⟩ := hQ6
  have N6 := Fr.app N4 N6q
  replace G : Gets p e below _ (T6.setTop (mkF m 31 #[.val (.ref a), .val (.int (1 : Int32)), .val (.int (1 : Int32)), .unset, .unset] [(.long (16 : Int64))])) := fun t k => G t (st6 t k)
  replace G := own_lstoreN (q := 32) (l' := #[.val (.ref a), .val (.int (1 : Int32)), .val (.int (1 : Int32)), .val (.long (16 : Int64)), .second]) G X6.here hx (hb hby d9_31) rfl rfl
  replace G := own_aloadN (q := 33) G X6.here hx (hb hby d9_32) rfl rfl rfl
  replace G := own_aloadN (q := 34) G X6.here hx (hb hby d9_33) rfl rfl rfl
  obtain ⟨T7, X7, e7, st7⟩ := getF X6 hx hZ hown (host := "") (Or.inl (hw _ (List.mem_of_getElem? (i := 15) rfl))) Via.refl e6 P0 (g := (mkF m 34 #[.val (.ref a), .val (.int (1 : Int32)), .val (.int (1 : Int32)), .val (.long (16 : Int64)), .second] [(.ref a), (.ref a)])) rfl rfl (hb hby d9_34)
  replace G : Gets p e below _ (T7.setTop (mkF m 37 #[.val (.ref a), .val (.int (1 : Int32)), .val (.int (1 : Int32)), .val (.long (16 : Int64)), .second] [(.ref sa), (.ref a)])) := fun t k => G t (st7 t k)
  replace G := own_iloadN (q := 38) G X7.here hx (hb hby d9_37) rfl rfl
  replace G := own_i2l (q := 39) G X7.here hx (hb hby d9_38) (by decide : ((1 : Int32).toInt64) = (1 : Int64)) rfl
  replace G := own_lloadN (q := 40) G X7.here hx (hb hby d9_39) rfl rfl
  obtain ⟨_, _, ⟨T8, L8, kk8, nn8⟩, -, X8, ⟨Lc8, hQ8, l8, y8, z8⟩, st8⟩ := Jvm.LawKit.callS X7 hx (y := (⟨"java/lang/Math", "max", "(JJ)J"⟩ : MethodName)) hown (mvT hZ (hw _ (List.mem_of_getElem? (i := 53) rfl))) (mvT hZ (hw _ (List.mem_of_getElem? (i := 54) rfl))) (mvT hZ (hw _ (List.mem_of_getElem? (i := 45) rfl))) (mvT hZ (hw _ (List.mem_of_getElem? (i := 55) rfl))) (by decide) (backOf (W := 2) (rm10c1 l Z a0 hw []  h0 n0 Z0 ) hZ (hw _ (List.mem_of_getElem? (i := 55) rfl)) (hw _ (List.mem_of_getElem? (i := 45) rfl)) (by decide) (by decide)) (g := (mkF m 40 #[.val (.ref a), .val (.int (1 : Int32)), .val (.int (1 : Int32)), .val (.long (16 : Int64)), .second] [(.long (16 : Int64)), (.long (1 : Int64)), (.ref sa), (.ref a)])) rfl (by rw [hml]; rfl) (argsL := [(.long (1 : Int64)), (.long (16 : Int64))]) (rest := [(.ref sa), (.ref a)]) (lenOf pd_2 rfl) rfl (by show 2 * 0 + _ ≤ _; exact Nat.le_of_eq rfl) (hb hby d9_40) (fun _ _ => ⟨rfl, e7, (by decide : 0 + 0 ≤ _), (by decide : 0 + 0 ≤ _)⟩)
  dsimp only [Pt.U, Pt.locs, Pt.cells, Pt.slots] at X8 l8 y8 z8 st8 hQ8
  subst l8 y8 z8
  obtain ⟨rfl, N8q, e8⟩ := hQ8
  have N8 := Fr.app N6 N8q
  replace G : Gets p e below _ (T8.setTop (mkF m 43 #[.val (.ref a), .val (.int (1 : Int32)), .val (.int (1 : Int32)), .val (.long (16 : Int64)), .second] [(.long (16 : Int64)), (.ref sa), (.ref a)])) := fun t k => G t (st8 t k)
  replace G := own_l2i (q := 44) G X8.here hx (hb hby d9_43) (by decide : ((16 : Int64).toInt32) = (16 : Int32)) rfl
  obtain ⟨_, _, ⟨T9, L9, kk9, nn9⟩, -, X9, ⟨Lc9, hQ9, l9, y9, z9⟩, st9⟩ := Jvm.LawKit.callS X8 hx (y := (⟨"java/util/Arrays", "copyOf", "([CI)[C"⟩ : MethodName)) hown (mvT hZ (hw _ (List.mem_of_getElem? (i := 59) rfl))) (mvT hZ (hw _ (List.mem_of_getElem? (i := 60) rfl))) (mvT hZ (hw _ (List.mem_of_getElem? (i := 61) rfl))) (mvT hZ (hw _ (List.mem_of_getElem? (i := 62) rfl))) (by decide) (backOf (W := 1) (rm12 l Z a0 hw [] sa ks h0 n0 Z0 P5) hZ (hw _ (List.mem_of_getElem? (i := 62) rfl)) (hw _ (List.mem_of_getElem? (i := 61) rfl)) (by decide) (by decide)) (g := (mkF m 44 #[.val (.ref a), .val (.int (1 : Int32)), .val (.int (1 : Int32)), .val (.long (16 : Int64)), .second] [(.int (16 : Int32)), (.ref sa), (.ref a)])) rfl (by rw [hml]; rfl) (argsL := [(.ref sa), (.int (16 : Int32))]) (rest := [(.ref a)]) (lenOf pd_3 rfl) rfl (by show 2 * 0 + _ ≤ _; exact Nat.le_of_eq rfl) (hb hby d9_44) (fun _ _ => ⟨rfl, e8, (by decide : 0 + 1 ≤ _), (by decide : 0 + 16 ≤ _)⟩)
  dsimp only [Pt.U, Pt.locs, Pt.cells, Pt.slots] at X9 l9 y9 z9 st9 hQ9
  subst l9 y9 z9
  obtain ⟨b_9, kb_9, rfl, N9q, K9q, B9_0, B9_1⟩ := hQ9
  have ne10 : a ≠ b_9 := Nat.ne_of_lt (Nat.lt_of_lt_of_le P0.lt B9_0)
  have ne11 : sa ≠ b_9 := Nat.ne_of_lt (Nat.lt_of_lt_of_le P5.lt B9_0)
  have ge_b_9 : n0 ≤ b_9 := Nat.le_trans Z0 B9_0
  have sz_b_9 : h0.size ≤ b_9 := Nat.le_trans K0.1 B9_0
  have Z9 : n0 ≤ T9.heap.size := Nat.le_trans Z0 K9q.1
  have K9 : Keep h0 T9.heap [a] := K0.trans K9q all0
  have N9 := Fr.app N8 N9q
  replace G : Gets p e below _ (T9.setTop (mkF m 47 #[.val (.ref a), .val (.int (1 : Int32)), .val (.int (1 : Int32)), .val (.long (16 : Int64)), .second] [(.ref b_9), (.ref a)])) := fun t k => G t (st9 t k)
  have F12 : Exa Z T9.heap a "com/example/leafcutter/leafcutter/io/TextBuffer" := (P4.keep K9q)
  have F13 : Fld Z T9.heap a "com/example/leafcutter/leafcutter/io/TextBuffer" "chars" "[C" (.ref sa) := (P0.keep K9q nin0)
  obtain ⟨T14, h14, X14, e14, W14, st14⟩ := putF X9 hx hZ hown (host := "") (Or.inl (hw _ (List.mem_of_getElem? (i := 15) rfl))) Via.refl rfl F13 F12 (Or.inl (hw _ (List.mem_of_getElem? (i := 16) rfl))) (hw _ (List.mem_of_getElem? (i := 1) rfl)) (ty := (.array .char)) (by decide) rfl rfl (g := (mkF m 47 #[.val (.ref a), .val (.int (1 : Int32)), .val (.int (1 : Int32)), .val (.long (16 : Int64)), .second] [(.ref b_9), (.ref a)])) rfl rfl (hb hby d9_47)
  have N14 := Fr.snoc X14 N9 P6
  have Z14 : n0 ≤ h14.size := Nat.le_trans Z9 (Keep.of_wr W14).1
  have K14 : Keep h0 h14 [a] := K9.wr W14 (Or.inl (List.mem_of_getElem? (i := 0) rfl))
  have F14 : Fld Z h14 a "com/example/leafcutter/leafcutter/io/TextBuffer" "chars" "[C" (.ref b_9) := F13.same W14
  replace G : Gets p e below _ (T14.setTop (mkF m 50 #[.val (.ref a), .val (.int (1 : Int32)), .val (.int (1 : Int32)), .val (.long (16 : Int64)), .second] [])) := fun t k => G t (st14 t k)
  obtain ⟨fs, hr, hrun, hended, hW, hsame⟩ := X14.leave (v := none) (fun _ => rfl)
  refine ⟨_, _, G _ (X14.returnOut hx Bd.returns (hb hby d9_50) hr), hrun, hended, _, _, rfl, ?_, ⟨_, rfl⟩, hW, hsame.mono (by decide) (by decide)⟩
  have F15 : Fld Z h14 a "com/example/leafcutter/leafcutter/io/TextBuffer" "length" "I" (.int (0 : Int32)) := ((P1.keep K9q nin0).other W14 (Or.inr (slot_ne (Or.inl (hw _ (List.mem_of_getElem? (i := 28) rfl))) (Or.inl (hw _ (List.mem_of_getElem? (i := 16) rfl))) (by decide) (t := .int) (t' := (.array .char)) (by decide) (by decide))))
  have F16 : Fld Z h14 a "com/example/leafcutter/leafcutter/io/TextBuffer" "limit" "I" (.int (2147483639 : Int32)) := ((P2.keep K9q nin0).other W14 (Or.inr (slot_ne (Or.inr (hw _ (List.mem_of_getElem? (i := 18) rfl))) (Or.inl (hw _ (List.mem_of_getElem? (i := 16) rfl))) (by decide) (t := .int) (t' := (.array .char)) (by decide) (by decide))))
  have F17 : Fld Z h14 a "com/example/leafcutter/leafcutter/io/TextBuffer" "whenFull" "Ljava/util/function/Consumer;" .null := ((P3.keep K9q nin0).other W14 (Or.inr (slot_ne (Or.inr (hw _ (List.mem_of_getElem? (i := 20) rfl))) (Or.inl (hw _ (List.mem_of_getElem? (i := 16) rfl))) (by decide) (t := (.object "java/util/function/Consumer")) (t' := (.array .char)) (by decide) (by decide))))
  have F18 : Arv Z h14 b_9 kb_9 .char (16 : Int32) [(.int (0 : Int32)), (.int (0 : Int32)), (.int (0 : Int32)), (.int (0 : Int32)), (.int (0 : Int32)), (.int (0 : Int32)), (.int (0 : Int32)), (.int (0 : Int32)), (.int (0 : Int32)), (.int (0 : Int32)), (.int (0 : Int32)), (.int (0 : Int32)), (.int (0 : Int32)), (.int (0 : Int32)), (.int (0 : Int32)), (.int (0 : Int32))] (.int (0 : Int32)) := (B9_1.other W14 (Ne.symm ne10))
  show Q9 Z a sa ks h0 n0 _ T14.heap _
  rw [e14]
  exact ⟨b_9, kb_9, rfl, N14, K14, F14, F15, F16, F17, sz_b_9, F18⟩
theorem ef_8c1 (m : MethodId)  : entryFrame m #[(.int (1 : Int32)), (.int (2147483639 : Int32))] 2 = mkF m 0 #[.val (.int (1 : Int32)), .val (.int (2147483639 : Int32))] [] := by first | (simp [entryFrame, mkF, argsToLocals, Value.category]; done) | rfl
def Q8c1 (Z : State)  (h0 : Heap) (n0 : Nat) (v : Option Value) (h : Heap) (L : List Loc) : Prop := v = some (.int (1 : Int32)) ∧ Fr n0 L ∧ h = h0
set_option maxRecDepth 65536 in
set_option maxHeartbeats 40000000 in
theorem rm8c1 (l : Launch) (Z : State) (a0 : Array Value) (hw : ∀ d ∈ tables_1, d.before a0 Z = true) (ws : List Jvm.Cond)  (h0 : Heap) (n0 : Nat) (Z0 : n0 ≤ h0.size)  :
    MetFree l (⟨"java/lang/Math", "min", "(II)I"⟩ : MethodName) (head1 (Jvm.Cond.code (⟨"java/lang/Math", "min", "(II)I"⟩ : MethodName) jdk_29_method_69_code 2 (some .int) :: ws) ({ frames := 0, cells := 0, slots := 0, locals := 0 } : Room)) (fun argz U => argz = #[(.int (1 : Int32)), (.int (2147483639 : Int32))] ∧ Z.Warmed39 U.vm ∧ U.heap = h0) (fun _ _ _ _ _ => True) (fun _ U o U' => ∃ v L, o = .returned v ∧ Q8c1 Z  h0 n0 v U'.heap L ∧ FrameEnd U o U' L ({ frames := 0, cells := 0, slots := 0, locals := 0 } : Room).cells ({ frames := 0, cells := 0, slots := 0, locals := 0 } : Room).slots) := by
  refine MetFree.of_bodySF (Jvm.Free.JP.mathPlain rfl (by decide +kernel)) hisR ?_
  intro p e s m args below meth c s₁ Bd hml0 hP hK
  obtain ⟨rfl, hZ, hh⟩ := hP
  have hx := Bd.exec
  have hby := Bd.bytes
  have hml : c.maxLocals = 2 := hml0
  have hown : s.vm.findClass "java/lang/Math" = some m.cls := findClass_of_methodNamed Bd.named
  have hnm := (name_of_methodNamed Bd.named Bd.method).1
  have X0 : Stand p l e ({ frames := 0, cells := 0, slots := 0, locals := 0 } : Room) s m #[(.int (1 : Int32)), (.int (2147483639 : Int32))] below meth c s₁ [] 0 0 := Stand.of_body Bd
  have e0 : s₁.heap = h0 := by rw [← hh, Bd.state]; rfl
  have N0 := Fr.nil n0
  have G : Gets p e below (s₁.setTop (entryFrame m #[(.int (1 : Int32)), (.int (2147483639 : Int32))] 2)) (s₁.setTop (mkF m 0 #[.val (.int (1 : Int32)), .val (.int (2147483639 : Int32))] [])) := fun t k => castTop (ef_8c1 m ) k
  replace G := own_iloadN (q := 1) G X0.here hx (hb hby d8_0) rfl rfl
  replace G := own_iloadN (q := 2) G X0.here hx (hb hby d8_1) rfl rfl
  have hc2_1 : ¬ ((2147483639 : Int32) < (1 : Int32)) := by decide
  replace G := own_icmpNo (q := 5) G X0.here hx (hb hby d8_2) (flt hc2_1).2.2.1 rfl
  replace G := own_iloadN (q := 6) G X0.here hx (hb hby d8_5) rfl rfl
  replace G := own_goto (q := 10) G X0.here hx (hb hby d8_6) (by decide) (by decide)
  obtain ⟨fs, hr, hrun, hended, hW, hsame⟩ := X0.leave (v := some (.int (1 : Int32))) (fun h => by rw [Bd.returns] at h; cases h)
  refine ⟨_, _, G _ (retOut X0 hx Bd.returns rfl (Or.inl ⟨rfl, Or.inl rfl, _, rfl⟩) (hb hby d8_10) hr), hrun, hended, _, _, rfl, ?_, ⟨_, rfl⟩, hW, hsame.mono (by decide) (by decide)⟩
  show Q8c1 Z  h0 n0 _ s₁.heap _
  rw [e0]
  exact ⟨rfl, N0, rfl⟩
theorem pd_4 : parseMethodDescriptor "(I)V" = some ⟨[.int], none⟩ := by decide +kernel
theorem d7_0 : decode prog_6_method_21_code 0 = .ok (.aload_n 0, 1) := by decide +kernel
theorem d7_1 : decode prog_6_method_21_code 1 = .ok (.getfield 39, 3) := by decide +kernel
theorem d7_4 : decode prog_6_method_21_code 4 = .ok (.aload_n 0, 1) := by decide +kernel
theorem d7_5 : decode prog_6_method_21_code 5 = .ok (.getfield 31, 3) := by decide +kernel
theorem d7_8 : decode prog_6_method_21_code 8 = .ok (.if_icmp .ne 16, 3) := by decide +kernel
theorem d7_24 : decode prog_6_method_21_code 24 = .ok (.iload_n 1, 1) := by decide +kernel
theorem d7_25 : decode prog_6_method_21_code 25 = .ok (.aload_n 0, 1) := by decide +kernel
theorem d7_26 : decode prog_6_method_21_code 26 = .ok (.getfield 31, 3) := by decide +kernel
theorem d7_29 : decode prog_6_method_21_code 29 = .ok (.aload_n 0, 1) := by decide +kernel
theorem d7_30 : decode prog_6_method_21_code 30 = .ok (.getfield 39, 3) := by decide +kernel
theorem d7_33 : decode prog_6_method_21_code 33 = .ok (.isub, 1) := by decide +kernel
theorem d7_34 : decode prog_6_method_21_code 34 = .ok (.invokestatic 119, 3) := by decide +kernel
theorem d7_37 : decode prog_6_method_21_code 37 = .ok (.istore_n 2, 1) := by decide +kernel
theorem d7_38 : decode prog_6_method_21_code 38 = .ok (.aload_n 0, 1) := by decide +kernel
theorem d7_39 : decode prog_6_method_21_code 39 = .ok (.getfield 19, 3) := by decide +kernel
theorem d7_42 : decode prog_6_method_21_code 42 = .ok (.arraylength, 1) := by decide +kernel
theorem d7_43 : decode prog_6_method_21_code 43 = .ok (.aload_n 0, 1) := by decide +kernel
theorem d7_44 : decode prog_6_method_21_code 44 = .ok (.getfield 39, 3) := by decide +kernel
theorem d7_47 : decode prog_6_method_21_code 47 = .ok (.isub, 1) := by decide +kernel
theorem d7_48 : decode prog_6_method_21_code 48 = .ok (.iload_n 2, 1) := by decide +kernel
theorem d7_49 : decode prog_6_method_21_code 49 = .ok (.if_icmp .ge 8, 3) := by decide +kernel
theorem d7_52 : decode prog_6_method_21_code 52 = .ok (.aload_n 0, 1) := by decide +kernel
theorem d7_53 : decode prog_6_method_21_code 53 = .ok (.iload_n 2, 1) := by decide +kernel
theorem d7_54 : decode prog_6_method_21_code 54 = .ok (.invokevirtual 124, 3) := by decide +kernel
theorem d7_57 : decode prog_6_method_21_code 57 = .ok (.iload_n 2, 1) := by decide +kernel
theorem d7_58 : decode prog_6_method_21_code 58 = .ok (.ireturn, 1) := by decide +kernel
theorem ef_7 (m : MethodId) (x0 : Addr) : entryFrame m #[(.ref x0), (.int (1 : Int32))] 3 = mkF m 0 #[.val (.ref x0), .val (.int (1 : Int32)), .unset] [] := by first | (simp [entryFrame, mkF, argsToLocals, Value.category]; done) | rfl
def Q7 (Z : State) (a : Addr) (sa : Addr) (ks : ClassId) (h0 : Heap) (n0 : Nat) (v : Option Value) (h : Heap) (L : List Loc) : Prop := ∃ (b : Addr) (kb : ClassId), v = some (.int (1 : Int32)) ∧ Fr n0 L ∧ Keep h0 h [a] ∧ (Fld Z h a "com/example/leafcutter/leafcutter/io/TextBuffer" "chars" "[C" (.ref b)) ∧ (Fld Z h a "com/example/leafcutter/leafcutter/io/TextBuffer" "length" "I" (.int (0 : Int32))) ∧ (Fld Z h a "com/example/leafcutter/leafcutter/io/TextBuffer" "limit" "I" (.int (2147483639 : Int32))) ∧ (Fld Z h a "com/example/leafcutter/leafcutter/io/TextBuffer" "whenFull" "Ljava/util/function/Consumer;" .null) ∧ h0.size ≤ b ∧ (Arv Z h b kb .char (16 : Int32) [(.int (0 : Int32)), (.int (0 : Int32)), (.int (0 : Int32)), (.int (0 : Int32)), (.int (0 : Int32)), (.int (0 : Int32)), (.int (0 : Int32)), (.int (0 : Int32)), (.int (0 : Int32)), (.int (0 : Int32)), (.int (0 : Int32)), (.int (0 : Int32)), (.int (0 : Int32)), (.int (0 : Int32)), (.int (0 : Int32)), (.int (0 : Int32))] (.int (0 : Int32)))
set_option maxRecDepth 65536 in
set_option maxHeartbeats 40000000 in
theorem rm7 (l : Launch) (Z : State) (a0 : Array Value) (hw : ∀ d ∈ tables_1, d.before a0 Z = true) (ws : List Jvm.Cond) (a : Addr) (sa : Addr) (ks : ClassId) (h0 : Heap) (n0 : Nat) (Z0 : n0 ≤ h0.size) (P0 : Fld Z h0 a "com/example/leafcutter/leafcutter/io/TextBuffer" "chars" "[C" (.ref sa)) (P1 : Fld Z h0 a "com/example/leafcutter/leafcutter/io/TextBuffer" "length" "I" (.int (0 : Int32))) (P2 : Fld Z h0 a "com/example/leafcutter/leafcutter/io/TextBuffer" "limit" "I" (.int (2147483639 : Int32))) (P3 : Fld Z h0 a "com/example/leafcutter/leafcutter/io/TextBuffer" "whenFull" "Ljava/util/function/Consumer;" .null) (P4 : Exa Z h0 a "com/example/leafcutter/leafcutter/io/TextBuffer") (P5 : Arv Z h0 sa ks .char (0 : Int32) [] (.int (0 : Int32))) (P6 : n0 ≤ a) (P7 : a ≠ sa) :
    MetFree l (⟨"com/example/leafcutter/leafcutter/io/TextBuffer", "makeRoom", "(I)I"⟩ : MethodName) (head1 (Jvm.Cond.code (⟨"com/example/leafcutter/leafcutter/io/TextBuffer", "makeRoom", "(I)I"⟩ : MethodName) prog_6_method_21_code 3 (some .int) :: ws) ({ frames := 3, cells := 1, slots := 16, locals := 49 } : Room)) (fun argz U => argz = #[(.ref a), (.int (1 : Int32))] ∧ Z.Warmed39 U.vm ∧ U.heap = h0) (fun _ _ _ _ _ => True) (fun _ U o U' => ∃ v L, o = .returned v ∧ Q7 Z a sa ks h0 n0 v U'.heap L ∧ FrameEnd U o U' L ({ frames := 3, cells := 1, slots := 16, locals := 49 } : Room).cells ({ frames := 3, cells := 1, slots := 16, locals := 49 } : Room).slots) := by
  refine MetFree.of_bodySF (plainFor_of_name pn_com_example_leafcutter_leafcutter_io_TextBuffer) hisR ?_
  intro p e s m args below meth c s₁ Bd hml0 hP hK
  obtain ⟨rfl, hZ, hh⟩ := hP
  have hx := Bd.exec
  have hby := Bd.bytes
  have hml : c.maxLocals = 3 := hml0
  have hown : s.vm.findClass "com/example/leafcutter/leafcutter/io/TextBuffer" = some m.cls := findClass_of_methodNamed Bd.named
  have hnm := (name_of_methodNamed Bd.named Bd.method).1
  have X0 : Stand p l e ({ frames := 3, cells := 1, slots := 16, locals := 49 } : Room) s m #[(.ref a), (.int (1 : Int32))] below meth c s₁ [] 0 0 := Stand.of_body Bd
  have e0 : s₁.heap = h0 := by rw [← hh, Bd.state]; rfl
  have N0 := Fr.nil n0
  have K0 : Keep h0 h0 [a] := Keep.refl _ _
  have G : Gets p e below (s₁.setTop (entryFrame m #[(.ref a), (.int (1 : Int32))] 3)) (s₁.setTop (mkF m 0 #[.val (.ref a), .val (.int (1 : Int32)), .unset] [])) := fun t k => castTop (ef_7 m a) k
  replace G := own_aloadN (q := 1) G X0.here hx (hb hby d7_0) rfl rfl rfl
  obtain ⟨T1, X1, e1, st1⟩ := getF X0 hx hZ hown (host := "") (Or.inl (hw _ (List.mem_of_getElem? (i := 27) rfl))) Via.refl e0 P1 (g := (mkF m 1 #[.val (.ref a), .val (.int (1 : Int32)), .unset] [(.ref a)])) rfl rfl (hb hby d7_1)
  replace G : Gets p e below _ (T1.setTop (mkF m 4 #[.val (.ref a), .val (.int (1 : Int32)), .unset] [(.int (0 : Int32))])) := fun t k => G t (st1 t k)
  replace G := own_aloadN (q := 5) G X1.here hx (hb hby d7_4) rfl rfl rfl
  obtain ⟨T2, X2, e2, st2⟩ := getF X1 hx hZ hown (host := "") (Or.inl (hw _ (List.mem_of_getElem? (i := 17) rfl))) Via.refl e1 P2 (g := (mkF m 5 #[.val (.ref a), .val (.int (1 : Int32)), .unset] [(.ref a), (.int (0 : Int32))])) rfl rfl (hb hby d7_5)
  replace G : Gets p e below _ (T2.setTop (mkF m 8 #[.val (.ref a), .val (.int (1 : Int32)), .unset] [(.int (2147483639 : Int32)), (.int (0 : Int32))])) := fun t k => G t (st2 t k)
  have hc8_3 : ¬ ((0 : Int32) = (2147483639 : Int32)) := by decide
  replace G := own_icmpYes (q := 24) G X2.here hx (hb hby d7_8) (feq hc8_3).2 (by decide) (by decide)
  replace G := own_iloadN (q := 25) G X2.here hx (hb hby d7_24) rfl rfl
  replace G := own_aloadN (q := 26) G X2.here hx (hb hby d7_25) rfl rfl rfl
  obtain ⟨T4, X4, e4, st4⟩ := getF X2 hx hZ hown (host := "") (Or.inl (hw _ (List.mem_of_getElem? (i := 17) rfl))) Via.refl e2 P2 (g := (mkF m 26 #[.val (.ref a), .val (.int (1 : Int32)), .unset] [(.ref a), (.int (1 : Int32))])) rfl rfl (hb hby d7_26)
  replace G : Gets p e below _ (T4.setTop (mkF m 29 #[.val (.ref a), .val (.int (1 : Int32)), .unset] [(.int (2147483639 : Int32)), (.int (1 : Int32))])) := fun t k => G t (st4 t k)
  replace G := own_aloadN (q := 30) G X4.here hx (hb hby d7_29) rfl rfl rfl
  obtain ⟨T5, X5, e5, st5⟩ := getF X4 hx hZ hown (host := "") (Or.inl (hw _ (List.mem_of_getElem? (i := 27) rfl))) Via.refl e4 P1 (g := (mkF m 30 #[.val (.ref a), .val (.int (1 : Int32)), .unset] [(.ref a), (.int (2147483639 : Int32)), (.int (1 : Int32))])) rfl rfl (hb hby d7_30)
  replace G : Gets p e below _ (T5.setTop (mkF m 33 #[.val (.ref a), .val (.int (1 : Int32)), .unset] [(.int (0 : Int32)), (.int (2147483639 : Int32)), (.int (1 : Int32))])) := fun t k => G t (st5 t k)
  replace G := own_isub (q := 34) G X5.here hx (hb hby d7_33) (by decide : ((2147483639 : Int32) - (0 : Int32)) = (2147483639 : Int32)) rfl
  obtain ⟨_, _, ⟨T6, L6, kk6, nn6⟩, -, X6, ⟨Lc6, hQ6, l6, y6, z6⟩, st6⟩ := Jvm.LawKit.callS X5 hx (y := (⟨"java/lang/Math", "min", "(II)I"⟩ : MethodName)) hown (mvT hZ (hw _ (List.mem_of_getElem? (i := 43) rfl))) (mvT hZ (hw _ (List.mem_of_getElem? (i := 44) rfl))) (mvT hZ (hw _ (List.mem_of_getElem? (i := 45) rfl))) (mvT hZ (hw _ (List.mem_of_getElem? (i := 46) rfl))) (by decide) (backOf (W := 0) (rm8c1 l Z a0 hw []  h0 n0 Z0 ) hZ (hw _ (List.mem_of_getElem? (i := 46) rfl)) (hw _ (List.mem_of_getElem? (i := 45) rfl)) (by decide) (by decide)) (g := (mkF m 34 #[.val (.ref a), .val (.int (1 : Int32)), .unset] [(.int (2147483639 : Int32)), (.int (1 : Int32))])) rfl (by rw [hml]; rfl) (argsL := [(.int (1 : Int32)), (.int (2147483639 : Int32))]) (rest := []) (lenOf pd_1 rfl) rfl (by show 2 * 0 + _ ≤ _; exact Nat.le_of_eq rfl) (hb hby d7_34) (fun _ _ => ⟨rfl, e5, (by decide : 0 + 0 ≤ _), (by decide : 0 + 0 ≤ _)⟩)
  dsimp only [Pt.U, Pt.locs, Pt.cells, Pt.slots] at X6 l6 y6 z6 st6 hQ6
  subst l6 y6 z6
  obtain ⟨rfl, N6q, e6⟩ := hQ6
  have N6 := Fr.app N0 N6q
  replace G : Gets p e below _ (T6.setTop (mkF m 37 #[.val (.ref a), .val (.int (1 : Int32)), .unset] [(.int (1 : Int32))])) := fun t k => G t (st6 t k)
  replace G := own_istoreN (q := 38) (l' := #[.val (.ref a), .val (.int (1 : Int32)), .val (.int (1 : Int32))]) G X6.here hx (hb hby d7_37) rfl rfl
  replace G := own_aloadN (q := 39) G X6.here hx (hb hby d7_38) rfl rfl rfl
  obtain ⟨T7, X7, e7, st7⟩ := getF X6 hx hZ hown (host := "") (Or.inl (hw _ (List.mem_of_getElem? (i := 15) rfl))) Via.refl e6 P0 (g := (mkF m 39 #[.val (.ref a), .val (.int (1 : Int32)), .val (.int (1 : Int32))] [(.ref a)])) rfl rfl (hb hby d7_39)
  replace G : Gets p e below _ (T7.setTop (mkF m 42 #[.val (.ref a), .val (.int (1 : Int32)), .val (.int (1 : Int32))] [(.ref sa)])) := fun t k => G t (st7 t k)
  obtain ⟨c8, Ar8, -, S8, N8', -, -⟩ := id P5
  replace G : Gets p e below _ (T7.setTop (mkF m 43 #[.val (.ref a), .val (.int (1 : Int32)), .val (.int (1 : Int32))] [(.int (0 : Int32))])) := fun t k => G t (X7.arraylength hx (by rw [e7]; exact Ar8.1) (State.isArrayOf_alike hZ.alike Ar8.2.1) (g := (mkF m 42 #[.val (.ref a), .val (.int (1 : Int32)), .val (.int (1 : Int32))] [(.ref sa)])) rfl rfl (hb hby d7_42) t (by rw [len_of S8 N8']; exact k))
  replace G := own_aloadN (q := 44) G X7.here hx (hb hby d7_43) rfl rfl rfl
  obtain ⟨T9, X9, e9, st9⟩ := getF X7 hx hZ hown (host := "") (Or.inl (hw _ (List.mem_of_getElem? (i := 27) rfl))) Via.refl e7 P1 (g := (mkF m 44 #[.val (.ref a), .val (.int (1 : Int32)), .val (.int (1 : Int32))] [(.ref a), (.int (0 : Int32))])) rfl rfl (hb hby d7_44)
  replace G : Gets p e below _ (T9.setTop (mkF m 47 #[.val (.ref a), .val (.int (1 : Int32)), .val (.int (1 : Int32))] [(.int (0 : Int32)), (.int (0 : Int32))])) := fun t k => G t (st9 t k)
  replace G := own_isub (q := 48) G X9.here hx (hb hby d7_47) (by decide : ((0 : Int32) - (0 : Int32)) = (0 : Int32)) rfl
  replace G := own_iloadN (q := 49) G X9.here hx (hb hby d7_48) rfl rfl
  have hc49_10 : (0 : Int32) < (1 : Int32) := by decide
  replace G := own_icmpNo (q := 52) G X9.here hx (hb hby d7_49) (tlt hc49_10).2.1 rfl
  replace G := own_aloadN (q := 53) G X9.here hx (hb hby d7_52) rfl rfl rfl
  replace G := own_iloadN (q := 54) G X9.here hx (hb hby d7_53) rfl rfl
  obtain ⟨cq11, q11, q11'⟩ := P4.cell
  obtain ⟨_, _, ⟨T11, L11, kk11, nn11⟩, -, X11, ⟨Lc11, hQ11, l11, y11, z11⟩, st11⟩ := X9.privateBack hx (y := (⟨"com/example/leafcutter/leafcutter/io/TextBuffer", "grow", "(I)V"⟩ : MethodName)) hown (mvT hZ (hw _ (List.mem_of_getElem? (i := 47) rfl))) (mvT hZ (hw _ (List.mem_of_getElem? (i := 48) rfl))) (own_sel (z := (⟨"com/example/leafcutter/leafcutter/io/TextBuffer", "contentEquals", "([C)Z"⟩ : MethodName)) rfl (mvT hZ (hw _ (List.mem_of_getElem? (i := 24) rfl))) (mvT hZ (hw _ (List.mem_of_getElem? (i := 25) rfl))) (mvT hZ (hw _ (List.mem_of_getElem? (i := 48) rfl))) (Cond.privateMethod_at (mvP hZ (hw _ (List.mem_of_getElem? (i := 49) rfl)) (args := #[]))) (by decide)) (Cond.privateMethod_at (mvP hZ (hw _ (List.mem_of_getElem? (i := 49) rfl)) (args := #[]))) (mvT hZ (hw _ (List.mem_of_getElem? (i := 50) rfl))) (by decide) (backOf (W := 0) (rm9 l Z a0 hw [] a sa ks h0 n0 Z0 P0 P1 P2 P3 P4 P5 P6 P7) hZ (hw _ (List.mem_of_getElem? (i := 50) rfl)) (hw _ (List.mem_of_getElem? (i := 2) rfl)) (by decide) (by decide)) (g := (mkF m 54 #[.val (.ref a), .val (.int (1 : Int32)), .val (.int (1 : Int32))] [(.int (1 : Int32)), (.ref a)])) rfl (by rw [hml]; rfl) (Steps.refl _) (a := a) (by rw [e9]; exact q11) q11' (argsL := [(.int (1 : Int32))]) (rest := []) (lenOf pd_4 rfl) rfl (by show 2 * 0 + _ ≤ _; exact Nat.le_of_eq rfl) (hb hby d7_54) (fun _ _ => ⟨rfl, e9, (by decide : 0 + 1 ≤ _), (by decide : 0 + 16 ≤ _)⟩)
  dsimp only [Pt.U, Pt.locs, Pt.cells, Pt.slots] at X11 l11 y11 z11 st11 hQ11
  subst l11 y11 z11
  obtain ⟨b_11, kb_11, rfl, N11q, K11q, B11_0, B11_1, B11_2, B11_3, B11_4, B11_5⟩ := hQ11
  have ne12 : a ≠ b_11 := Nat.ne_of_lt (Nat.lt_of_lt_of_le P0.lt B11_4)
  have ne13 : sa ≠ b_11 := Nat.ne_of_lt (Nat.lt_of_lt_of_le P5.lt B11_4)
  have ge_b_11 : n0 ≤ b_11 := Nat.le_trans Z0 B11_4
  have sz_b_11 : h0.size ≤ b_11 := Nat.le_trans K0.1 B11_4
  have Z11 : n0 ≤ T11.heap.size := Nat.le_trans Z0 K11q.1
  have K11 : Keep h0 T11.heap [a] := K0.trans K11q (allS (Or.inl (List.mem_of_getElem? (i := 0) rfl)) all0)
  have N11 := Fr.app N6 N11q
  replace G : Gets p e below _ (T11.setTop (mkF m 57 #[.val (.ref a), .val (.int (1 : Int32)), .val (.int (1 : Int32))] [])) := fun t k => G t (st11.trans k)
  replace G := own_iloadN (q := 58) G X11.here hx (hb hby d7_57) rfl rfl
  obtain ⟨fs, hr, hrun, hended, hW, hsame⟩ := X11.leave (v := some (.int (1 : Int32))) (fun h => by rw [Bd.returns] at h; cases h)
  refine ⟨_, _, G _ (retOut X11 hx Bd.returns rfl (Or.inl ⟨rfl, Or.inl rfl, _, rfl⟩) (hb hby d7_58) hr), hrun, hended, _, _, rfl, ?_, ⟨_, rfl⟩, hW, hsame.mono (by decide) (by decide)⟩
  show Q7 Z a sa ks h0 n0 _ T11.heap _
  exact ⟨b_11, kb_11, rfl, N11, K11, B11_0, B11_1, B11_2, B11_3, sz_b_11, B11_5⟩
theorem pd_5 : parseMethodDescriptor "(I)I" = some ⟨[.int], some .int⟩ := by decide +kernel
theorem d6_0 : decode prog_6_method_3_code 0 = .ok (.aload_n 0, 1) := by decide +kernel
theorem d6_1 : decode prog_6_method_3_code 1 = .ok (.getfield 39, 3) := by decide +kernel
theorem d6_4 : decode prog_6_method_3_code 4 = .ok (.aload_n 0, 1) := by decide +kernel
theorem d6_5 : decode prog_6_method_3_code 5 = .ok (.getfield 19, 3) := by decide +kernel
theorem d6_8 : decode prog_6_method_3_code 8 = .ok (.arraylength, 1) := by decide +kernel
theorem d6_9 : decode prog_6_method_3_code 9 = .ok (.if_icmp .ne 13, 3) := by decide +kernel
theorem d6_12 : decode prog_6_method_3_code 12 = .ok (.aload_n 0, 1) := by decide +kernel
theorem d6_13 : decode prog_6_method_3_code 13 = .ok (.iconst 1, 1) := by decide +kernel
theorem d6_14 : decode prog_6_method_3_code 14 = .ok (.invokevirtual 42, 3) := by decide +kernel
theorem d6_17 : decode prog_6_method_3_code 17 = .ok (.ifCond .ne 5, 3) := by decide +kernel
theorem d6_22 : decode prog_6_method_3_code 22 = .ok (.aload_n 0, 1) := by decide +kernel
theorem d6_23 : decode prog_6_method_3_code 23 = .ok (.getfield 19, 3) := by decide +kernel
theorem d6_26 : decode prog_6_method_3_code 26 = .ok (.aload_n 0, 1) := by decide +kernel
theorem d6_27 : decode prog_6_method_3_code 27 = .ok (.dup, 1) := by decide +kernel
theorem d6_28 : decode prog_6_method_3_code 28 = .ok (.getfield 39, 3) := by decide +kernel
theorem d6_31 : decode prog_6_method_3_code 31 = .ok (.dup_x1, 1) := by decide +kernel
theorem d6_32 : decode prog_6_method_3_code 32 = .ok (.iconst 1, 1) := by decide +kernel
theorem d6_33 : decode prog_6_method_3_code 33 = .ok (.iadd, 1) := by decide +kernel
theorem d6_34 : decode prog_6_method_3_code 34 = .ok (.putfield 39, 3) := by decide +kernel
theorem d6_37 : decode prog_6_method_3_code 37 = .ok (.iload_n 1, 1) := by decide +kernel
theorem d6_38 : decode prog_6_method_3_code 38 = .ok (.castore, 1) := by decide +kernel
theorem d6_39 : decode prog_6_method_3_code 39 = .ok (.aload_n 0, 1) := by decide +kernel
theorem d6_40 : decode prog_6_method_3_code 40 = .ok (.areturn, 1) := by decide +kernel
theorem ef_6s0 (m : MethodId) (x0 : Addr) (x1 : Int32) : entryFrame m #[(.ref x0), (.int x1)] 2 = mkF m 0 #[.val (.ref x0), .val (.int x1)] [] := by first | (simp [entryFrame, mkF, argsToLocals, Value.category]; done) | rfl
def Q6s0 (Z : State) (a : Addr) (ch : Int32) (sa : Addr) (ks : ClassId) (h0 : Heap) (n0 : Nat) (v : Option Value) (h : Heap) (L : List Loc) : Prop := ∃ (b : Addr) (kb : ClassId), v = some (.ref a) ∧ Fr n0 L ∧ Keep h0 h [a] ∧ (Fld Z h a "com/example/leafcutter/leafcutter/io/TextBuffer" "chars" "[C" (.ref b)) ∧ (Fld Z h a "com/example/leafcutter/leafcutter/io/TextBuffer" "length" "I" (.int (1 : Int32))) ∧ (Fld Z h a "com/example/leafcutter/leafcutter/io/TextBuffer" "limit" "I" (.int (2147483639 : Int32))) ∧ (Fld Z h a "com/example/leafcutter/leafcutter/io/TextBuffer" "whenFull" "Ljava/util/function/Consumer;" .null) ∧ h0.size ≤ b ∧ (Arv Z h b kb .char (16 : Int32) [(.int (nar .char ch)), (.int (0 : Int32)), (.int (0 : Int32)), (.int (0 : Int32)), (.int (0 : Int32)), (.int (0 : Int32)), (.int (0 : Int32)), (.int (0 : Int32)), (.int (0 : Int32)), (.int (0 : Int32)), (.int (0 : Int32)), (.int (0 : Int32)), (.int (0 : Int32)), (.int (0 : Int32)), (.int (0 : Int32)), (.int (0 : Int32))] (.int (0 : Int32)))
set_option maxRecDepth 65536 in
set_option maxHeartbeats 40000000 in
theorem rm6s0 (l : Launch) (Z : State) (a0 : Array Value) (hw : ∀ d ∈ tables_1, d.before a0 Z = true) (ws : List Jvm.Cond) (a : Addr) (ch : Int32) (sa : Addr) (ks : ClassId) (h0 : Heap) (n0 : Nat) (Z0 : n0 ≤ h0.size) (P0 : Fld Z h0 a "com/example/leafcutter/leafcutter/io/TextBuffer" "chars" "[C" (.ref sa)) (P1 : Fld Z h0 a "com/example/leafcutter/leafcutter/io/TextBuffer" "length" "I" (.int (0 : Int32))) (P2 : Fld Z h0 a "com/example/leafcutter/leafcutter/io/TextBuffer" "limit" "I" (.int (2147483639 : Int32))) (P3 : Fld Z h0 a "com/example/leafcutter/leafcutter/io/TextBuffer" "whenFull" "Ljava/util/function/Consumer;" .null) (P4 : Exa Z h0 a "com/example/leafcutter/leafcutter/io/TextBuffer") (P5 : Arv Z h0 sa ks .char (0 : Int32) [] (.int (0 : Int32))) (P6 : n0 ≤ a) (P7 : a ≠ sa) :
    MetFree l (⟨"com/example/leafcutter/leafcutter/io/TextBuffer", "append", "(C)Lcom/example/leafcutter/leafcutter/io/TextBuffer;"⟩ : MethodName) (head1 (Jvm.Cond.code (⟨"com/example/leafcutter/leafcutter/io/TextBuffer", "append", "(C)Lcom/example/leafcutter/leafcutter/io/TextBuffer;"⟩ : MethodName) prog_6_method_3_code 2 (some (.object "com/example/leafcutter/leafcutter/io/TextBuffer")) :: ws) ({ frames := 4, cells := 1, slots := 16, locals := 63 } : Room)) (fun argz U => argz = #[(.ref a), (.int ch)] ∧ Z.Warmed39 U.vm ∧ U.heap = h0) (fun _ _ _ _ _ => True) (fun _ U o U' => ∃ v L, o = .returned v ∧ Q6s0 Z a ch sa ks h0 n0 v U'.heap L ∧ FrameEnd U o U' L ({ frames := 4, cells := 1, slots := 16, locals := 63 } : Room).cells ({ frames := 4, cells := 1, slots := 16, locals := 63 } : Room).slots) := by
  refine MetFree.of_bodySF (plainFor_of_name pn_com_example_leafcutter_leafcutter_io_TextBuffer) hisR ?_
  intro p e s m args below meth c s₁ Bd hml0 hP hK
  obtain ⟨rfl, hZ, hh⟩ := hP
  have hx := Bd.exec
  have hby := Bd.bytes
  have hml : c.maxLocals = 2 := hml0
  have hown : s.vm.findClass "com/example/leafcutter/leafcutter/io/TextBuffer" = some m.cls := findClass_of_methodNamed Bd.named
  have hnm := (name_of_methodNamed Bd.named Bd.method).1
  have X0 : Stand p l e ({ frames := 4, cells := 1, slots := 16, locals := 63 } : Room) s m #[(.ref a), (.int ch)] below meth c s₁ [] 0 0 := Stand.of_body Bd
  have e0 : s₁.heap = h0 := by rw [← hh, Bd.state]; rfl
  have N0 := Fr.nil n0
  have K0 : Keep h0 h0 [a] := Keep.refl _ _
  have G : Gets p e below (s₁.setTop (entryFrame m #[(.ref a), (.int ch)] 2)) (s₁.setTop (mkF m 0 #[.val (.ref a), .val (.int ch)] [])) := fun t k => castTop (ef_6s0 m a ch) k
  replace G := own_aloadN (q := 1) G X0.here hx (hb hby d6_0) rfl rfl rfl
  obtain ⟨T1, X1, e1, st1⟩ := getF X0 hx hZ hown (host := "") (Or.inl (hw _ (List.mem_of_getElem? (i := 27) rfl))) Via.refl e0 P1 (g := (mkF m 1 #[.val (.ref a), .val (.int ch)] [(.ref a)])) rfl rfl (hb hby d6_1)
  replace G : Gets p e below _ (T1.setTop (mkF m 4 #[.val (.ref a), .val (.int ch)] [(.int (0 : Int32))])) := fun t k => G t (st1 t k)
  replace G := own_aloadN (q := 5) G X1.here hx (hb hby d6_4) rfl rfl rfl
  obtain ⟨T2, X2, e2, st2⟩ := getF X1 hx hZ hown (host := "") (Or.inl (hw _ (List.mem_of_getElem? (i := 15) rfl))) Via.refl e1 P0 (g := (mkF m 5 #[.val (.ref a), .val (.int ch)] [(.ref a), (.int (0 : Int32))])) rfl rfl (hb hby d6_5)
  replace G : Gets p e below _ (T2.setTop (mkF m 8 #[.val (.ref a), .val (.int ch)] [(.ref sa), (.int (0 : Int32))])) := fun t k => G t (st2 t k)
  obtain ⟨c3, Ar3, -, S3, N3', -, -⟩ := id P5
  replace G : Gets p e below _ (T2.setTop (mkF m 9 #[.val (.ref a), .val (.int ch)] [(.int (0 : Int32)), (.int (0 : Int32))])) := fun t k => G t (X2.arraylength hx (by rw [e2]; exact Ar3.1) (State.isArrayOf_alike hZ.alike Ar3.2.1) (g := (mkF m 8 #[.val (.ref a), .val (.int ch)] [(.ref sa), (.int (0 : Int32))])) rfl rfl (hb hby d6_8) t (by rw [len_of S3 N3']; exact k))
  have hc9_4 : (0 : Int32) = (0 : Int32) := by decide
  replace G := own_icmpNo (q := 12) G X2.here hx (hb hby d6_9) (teq hc9_4).2 rfl
  replace G := own_aloadN (q := 13) G X2.here hx (hb hby d6_12) rfl rfl rfl
  replace G := own_iconst (q := 14) G X2.here hx (hb hby d6_13) (v := (1 : Int32)) (by decide) rfl
  obtain ⟨cq5, q5, q5'⟩ := P4.cell
  obtain ⟨_, _, ⟨T5, L5, kk5, nn5⟩, -, X5, ⟨Lc5, hQ5, l5, y5, z5⟩, st5⟩ := X2.privateBack hx (y := (⟨"com/example/leafcutter/leafcutter/io/TextBuffer", "makeRoom", "(I)I"⟩ : MethodName)) hown (mvT hZ (hw _ (List.mem_of_getElem? (i := 39) rfl))) (mvT hZ (hw _ (List.mem_of_getElem? (i := 40) rfl))) (own_sel (z := (⟨"com/example/leafcutter/leafcutter/io/TextBuffer", "contentEquals", "([C)Z"⟩ : MethodName)) rfl (mvT hZ (hw _ (List.mem_of_getElem? (i := 24) rfl))) (mvT hZ (hw _ (List.mem_of_getElem? (i := 25) rfl))) (mvT hZ (hw _ (List.mem_of_getElem? (i := 40) rfl))) (Cond.privateMethod_at (mvP hZ (hw _ (List.mem_of_getElem? (i := 41) rfl)) (args := #[]))) (by decide)) (Cond.privateMethod_at (mvP hZ (hw _ (List.mem_of_getElem? (i := 41) rfl)) (args := #[]))) (mvT hZ (hw _ (List.mem_of_getElem? (i := 42) rfl))) (by decide) (backOf (W := 0) (rm7 l Z a0 hw [] a sa ks h0 n0 Z0 P0 P1 P2 P3 P4 P5 P6 P7) hZ (hw _ (List.mem_of_getElem? (i := 42) rfl)) (hw _ (List.mem_of_getElem? (i := 2) rfl)) (by decide) (by decide)) (g := (mkF m 14 #[.val (.ref a), .val (.int ch)] [(.int (1 : Int32)), (.ref a)])) rfl (by rw [hml]; rfl) (Steps.refl _) (a := a) (by rw [e2]; exact q5) q5' (argsL := [(.int (1 : Int32))]) (rest := []) (lenOf pd_5 rfl) rfl (by show 2 * 0 + _ ≤ _; exact Nat.le_of_eq rfl) (hb hby d6_14) (fun _ _ => ⟨rfl, e2, (by decide : 0 + 1 ≤ _), (by decide : 0 + 16 ≤ _)⟩)
  dsimp only [Pt.U, Pt.locs, Pt.cells, Pt.slots] at X5 l5 y5 z5 st5 hQ5
  subst l5 y5 z5
  obtain ⟨b_5, kb_5, rfl, N5q, K5q, B5_0, B5_1, B5_2, B5_3, B5_4, B5_5⟩ := hQ5
  have ne6 : a ≠ b_5 := Nat.ne_of_lt (Nat.lt_of_lt_of_le P0.lt B5_4)
  have ne7 : sa ≠ b_5 := Nat.ne_of_lt (Nat.lt_of_lt_of_le P5.lt B5_4)
  have ge_b_5 : n0 ≤ b_5 := Nat.le_trans Z0 B5_4
  have sz_b_5 : h0.size ≤ b_5 := Nat.le_trans K0.1 B5_4
  have Z5 : n0 ≤ T5.heap.size := Nat.le_trans Z0 K5q.1
  have K5 : Keep h0 T5.heap [a] := K0.trans K5q (allS (Or.inl (List.mem_of_getElem? (i := 0) rfl)) all0)
  have N5 := Fr.app N0 N5q
  replace G : Gets p e below _ (T5.setTop (mkF m 17 #[.val (.ref a), .val (.int ch)] [(.int (1 : Int32))])) := fun t k => G t (st5.trans k)
  have hc17_8 : ¬ ((1 : Int32) = (0 : Int32)) := by decide
  replace G := own_ifYes (q := 22) G X5.here hx (hb hby d6_17) ((if0 _ _).trans (feq hc17_8).2) (by decide) (by decide)
  replace G := own_aloadN (q := 23) G X5.here hx (hb hby d6_22) rfl rfl rfl
  obtain ⟨T9, X9, e9, st9⟩ := getF X5 hx hZ hown (host := "") (Or.inl (hw _ (List.mem_of_getElem? (i := 15) rfl))) Via.refl rfl B5_0 (g := (mkF m 23 #[.val (.ref a), .val (.int ch)] [(.ref a)])) rfl rfl (hb hby d6_23)
  replace G : Gets p e below _ (T9.setTop (mkF m 26 #[.val (.ref a), .val (.int ch)] [(.ref b_5)])) := fun t k => G t (st9 t k)
  replace G := own_aloadN (q := 27) G X9.here hx (hb hby d6_26) rfl rfl rfl
  replace G := own_dup (q := 28) G X9.here hx (hb hby d6_27) rfl rfl
  obtain ⟨T10, X10, e10, st10⟩ := getF X9 hx hZ hown (host := "") (Or.inl (hw _ (List.mem_of_getElem? (i := 27) rfl))) Via.refl e9 B5_1 (g := (mkF m 28 #[.val (.ref a), .val (.int ch)] [(.ref a), (.ref a), (.ref b_5)])) rfl rfl (hb hby d6_28)
  replace G : Gets p e below _ (T10.setTop (mkF m 31 #[.val (.ref a), .val (.int ch)] [(.int (0 : Int32)), (.ref a), (.ref b_5)])) := fun t k => G t (st10 t k)
  replace G := own_dup_x1 (q := 32) G X10.here hx (hb hby d6_31) rfl rfl rfl
  replace G := own_iconst (q := 33) G X10.here hx (hb hby d6_32) (v := (1 : Int32)) (by decide) rfl
  replace G := own_iadd (q := 34) G X10.here hx (hb hby d6_33) (by decide : ((0 : Int32) + (1 : Int32)) = (1 : Int32)) rfl
  have F11 : Exa Z T5.heap a "com/example/leafcutter/leafcutter/io/TextBuffer" := (P4.keep K5q)
  obtain ⟨T12, h12, X12, e12, W12, st12⟩ := putF X10 hx hZ hown (host := "") (Or.inl (hw _ (List.mem_of_getElem? (i := 27) rfl))) Via.refl e10 B5_1 F11 (Or.inl (hw _ (List.mem_of_getElem? (i := 28) rfl))) (hw _ (List.mem_of_getElem? (i := 1) rfl)) (ty := .int) (by decide) rfl rfl (g := (mkF m 34 #[.val (.ref a), .val (.int ch)] [(.int (1 : Int32)), (.ref a), (.int (0 : Int32)), (.ref b_5)])) rfl rfl (hb hby d6_34)
  have N12 := Fr.snoc X12 N5 P6
  have Z12 : n0 ≤ h12.size := Nat.le_trans Z5 (Keep.of_wr W12).1
  have K12 : Keep h0 h12 [a] := K5.wr W12 (Or.inl (List.mem_of_getElem? (i := 0) rfl))
  have F12 : Fld Z h12 a "com/example/leafcutter/leafcutter/io/TextBuffer" "length" "I" (.int (1 : Int32)) := B5_1.same W12
  replace G : Gets p e below _ (T12.setTop (mkF m 37 #[.val (.ref a), .val (.int ch)] [(.int (0 : Int32)), (.ref b_5)])) := fun t k => G t (st12 t k)
  replace G := own_iloadN (q := 38) G X12.here hx (hb hby d6_37) rfl rfl
  have F13 : Arv Z h12 b_5 kb_5 .char (16 : Int32) [(.int (0 : Int32)), (.int (0 : Int32)), (.int (0 : Int32)), (.int (0 : Int32)), (.int (0 : Int32)), (.int (0 : Int32)), (.int (0 : Int32)), (.int (0 : Int32)), (.int (0 : Int32)), (.int (0 : Int32)), (.int (0 : Int32)), (.int (0 : Int32)), (.int (0 : Int32)), (.int (0 : Int32)), (.int (0 : Int32)), (.int (0 : Int32))] (.int (0 : Int32)) := (B5_5.other W12 (Ne.symm ne6))
  obtain ⟨c14, Ar14, q14, S14, N14', H14, G14'⟩ := id F13
  have hin14 : ¬ ((0 : Int32) < 0 ∨ c14.slots.size ≤ ((0 : Int32)).toNatClampNeg) := inb_of S14 ⟨by decide, by decide⟩
  obtain ⟨T14, h14, X14, e14, W14, st14⟩ := stC X12 hx hZ e12 Ar14 (j := (0 : Int32)) hin14 (g := (mkF m 38 #[.val (.ref a), .val (.int ch)] [(.int ch), (.int (0 : Int32)), (.ref b_5)])) rfl rfl (hb hby d6_38)
  have N14 := Fr.snoc X14 N12 ge_b_5
  have Z14 : n0 ≤ h14.size := Nat.le_trans Z12 (Keep.of_wr W14).1
  have K14 : Keep h0 h14 [a] := K12.wr W14 (Or.inr sz_b_5)
  have V14 : Arv Z h14 b_5 kb_5 .char (16 : Int32) [(.int (nar .char ch)), (.int (0 : Int32)), (.int (0 : Int32)), (.int (0 : Int32)), (.int (0 : Int32)), (.int (0 : Int32)), (.int (0 : Int32)), (.int (0 : Int32)), (.int (0 : Int32)), (.int (0 : Int32)), (.int (0 : Int32)), (.int (0 : Int32)), (.int (0 : Int32)), (.int (0 : Int32)), (.int (0 : Int32)), (.int (0 : Int32))] (.int (0 : Int32)) := Arv.set Ar14 q14 S14 N14' H14 G14' (fits_nar_char _) W14 0 rfl (Nat.le_of_ble_eq_true rfl)
  replace G : Gets p e below _ (T14.setTop (mkF m 39 #[.val (.ref a), .val (.int ch)] [])) := fun t k => G t (st14 t k)
  replace G := own_aloadN (q := 40) G X14.here hx (hb hby d6_39) rfl rfl rfl
  obtain ⟨fs, hr, hrun, hended, hW, hsame⟩ := X14.leave (v := some (.ref a)) (fun h => by rw [Bd.returns] at h; cases h)
  refine ⟨_, _, G _ (retOut X14 hx Bd.returns rfl (Or.inr (Or.inr (Or.inr (Or.inr ⟨rfl, rfl, rfl⟩)))) (hb hby d6_40) hr), hrun, hended, _, _, rfl, ?_, ⟨_, rfl⟩, hW, hsame.mono (by decide) (by decide)⟩
  have F15 : Fld Z h14 a "com/example/leafcutter/leafcutter/io/TextBuffer" "chars" "[C" (.ref b_5) := ((B5_0.other W12 (Or.inr (slot_ne (Or.inl (hw _ (List.mem_of_getElem? (i := 16) rfl))) (Or.inl (hw _ (List.mem_of_getElem? (i := 28) rfl))) (by decide) (t := (.array .char)) (t' := .int) (by decide) (by decide)))).other W14 (Or.inl ne6))
  have F16 : Fld Z h14 a "com/example/leafcutter/leafcutter/io/TextBuffer" "length" "I" (.int (1 : Int32)) := (F12.other W14 (Or.inl ne6))
  have F17 : Fld Z h14 a "com/example/leafcutter/leafcutter/io/TextBuffer" "limit" "I" (.int (2147483639 : Int32)) := ((B5_2.other W12 (Or.inr (slot_ne (Or.inr (hw _ (List.mem_of_getElem? (i := 18) rfl))) (Or.inl (hw _ (List.mem_of_getElem? (i := 28) rfl))) (by decide) (t := .int) (t' := .int) (by decide) (by decide)))).other W14 (Or.inl ne6))
  have F18 : Fld Z h14 a "com/example/leafcutter/leafcutter/io/TextBuffer" "whenFull" "Ljava/util/function/Consumer;" .null := ((B5_3.other W12 (Or.inr (slot_ne (Or.inr (hw _ (List.mem_of_getElem? (i := 20) rfl))) (Or.inl (hw _ (List.mem_of_getElem? (i := 28) rfl))) (by decide) (t := (.object "java/util/function/Consumer")) (t' := .int) (by decide) (by decide)))).other W14 (Or.inl ne6))
  show Q6s0 Z a ch sa ks h0 n0 _ T14.heap _
  rw [e14]
  exact ⟨b_5, kb_5, rfl, N14, K14, F15, F16, F17, F18, sz_b_5, V14⟩
theorem ef_6s1 (m : MethodId) (x0 : Addr) (x1 : Int32) : entryFrame m #[(.ref x0), (.int x1)] 2 = mkF m 0 #[.val (.ref x0), .val (.int x1)] [] := by first | (simp [entryFrame, mkF, argsToLocals, Value.category]; done) | rfl
def Q6s1 (Z : State) (a : Addr) (ch : Int32) (b : Addr) (kb : ClassId) (ec0 : Int32) (h0 : Heap) (n0 : Nat) (v : Option Value) (h : Heap) (L : List Loc) : Prop := v = some (.ref a) ∧ Fr n0 L ∧ Keep h0 h [a, b] ∧ (Fld Z h a "com/example/leafcutter/leafcutter/io/TextBuffer" "chars" "[C" (.ref b)) ∧ (Fld Z h a "com/example/leafcutter/leafcutter/io/TextBuffer" "length" "I" (.int (2 : Int32))) ∧ (Fld Z h a "com/example/leafcutter/leafcutter/io/TextBuffer" "limit" "I" (.int (2147483639 : Int32))) ∧ (Fld Z h a "com/example/leafcutter/leafcutter/io/TextBuffer" "whenFull" "Ljava/util/function/Consumer;" .null) ∧ (Arv Z h b kb .char (16 : Int32) [(.int ec0), (.int (nar .char ch)), (.int (0 : Int32)), (.int (0 : Int32)), (.int (0 : Int32)), (.int (0 : Int32)), (.int (0 : Int32)), (.int (0 : Int32)), (.int (0 : Int32)), (.int (0 : Int32)), (.int (0 : Int32)), (.int (0 : Int32)), (.int (0 : Int32)), (.int (0 : Int32)), (.int (0 : Int32)), (.int (0 : Int32))] (.int (0 : Int32)))
set_option maxRecDepth 65536 in
set_option maxHeartbeats 40000000 in
theorem rm6s1 (l : Launch) (Z : State) (a0 : Array Value) (hw : ∀ d ∈ tables_1, d.before a0 Z = true) (ws : List Jvm.Cond) (a : Addr) (ch : Int32) (b : Addr) (kb : ClassId) (ec0 : Int32) (h0 : Heap) (n0 : Nat) (Z0 : n0 ≤ h0.size) (P0 : Fld Z h0 a "com/example/leafcutter/leafcutter/io/TextBuffer" "chars" "[C" (.ref b)) (P1 : Fld Z h0 a "com/example/leafcutter/leafcutter/io/TextBuffer" "length" "I" (.int (1 : Int32))) (P2 : Fld Z h0 a "com/example/leafcutter/leafcutter/io/TextBuffer" "limit" "I" (.int (2147483639 : Int32))) (P3 : Fld Z h0 a "com/example/leafcutter/leafcutter/io/TextBuffer" "whenFull" "Ljava/util/function/Consumer;" .null) (P4 : Exa Z h0 a "com/example/leafcutter/leafcutter/io/TextBuffer") (P5 : Arv Z h0 b kb .char (16 : Int32) [(.int ec0), (.int (0 : Int32)), (.int (0 : Int32)), (.int (0 : Int32)), (.int (0 : Int32)), (.int (0 : Int32)), (.int (0 : Int32)), (.int (0 : Int32)), (.int (0 : Int32)), (.int (0 : Int32)), (.int (0 : Int32)), (.int (0 : Int32)), (.int (0 : Int32)), (.int (0 : Int32)), (.int (0 : Int32)), (.int (0 : Int32))] (.int (0 : Int32))) (P6 : n0 ≤ a) (P7 : n0 ≤ b) (P8 : a ≠ b) :
    MetFree l (⟨"com/example/leafcutter/leafcutter/io/TextBuffer", "append", "(C)Lcom/example/leafcutter/leafcutter/io/TextBuffer;"⟩ : MethodName) (head1 (Jvm.Cond.code (⟨"com/example/leafcutter/leafcutter/io/TextBuffer", "append", "(C)Lcom/example/leafcutter/leafcutter/io/TextBuffer;"⟩ : MethodName) prog_6_method_3_code 2 (some (.object "com/example/leafcutter/leafcutter/io/TextBuffer")) :: ws) ({ frames := 0, cells := 0, slots := 0, locals := 0 } : Room)) (fun argz U => argz = #[(.ref a), (.int ch)] ∧ Z.Warmed39 U.vm ∧ U.heap = h0) (fun _ _ _ _ _ => True) (fun _ U o U' => ∃ v L, o = .returned v ∧ Q6s1 Z a ch b kb ec0 h0 n0 v U'.heap L ∧ FrameEnd U o U' L ({ frames := 0, cells := 0, slots := 0, locals := 0 } : Room).cells ({ frames := 0, cells := 0, slots := 0, locals := 0 } : Room).slots) := by
  refine MetFree.of_bodySF (plainFor_of_name pn_com_example_leafcutter_leafcutter_io_TextBuffer) hisR ?_
  intro p e s m args below meth c s₁ Bd hml0 hP hK
  obtain ⟨rfl, hZ, hh⟩ := hP
  have hx := Bd.exec
  have hby := Bd.bytes
  have hml : c.maxLocals = 2 := hml0
  have hown : s.vm.findClass "com/example/leafcutter/leafcutter/io/TextBuffer" = some m.cls := findClass_of_methodNamed Bd.named
  have hnm := (name_of_methodNamed Bd.named Bd.method).1
  have X0 : Stand p l e ({ frames := 0, cells := 0, slots := 0, locals := 0 } : Room) s m #[(.ref a), (.int ch)] below meth c s₁ [] 0 0 := Stand.of_body Bd
  have e0 : s₁.heap = h0 := by rw [← hh, Bd.state]; rfl
  have N0 := Fr.nil n0
  have K0 : Keep h0 h0 [a, b] := Keep.refl _ _
  have G : Gets p e below (s₁.setTop (entryFrame m #[(.ref a), (.int ch)] 2)) (s₁.setTop (mkF m 0 #[.val (.ref a), .val (.int ch)] [])) := fun t k => castTop (ef_6s1 m a ch) k
  replace G := own_aloadN (q := 1) G X0.here hx (hb hby d6_0) rfl rfl rfl
  obtain ⟨T1, X1, e1, st1⟩ := getF X0 hx hZ hown (host := "") (Or.inl (hw _ (List.mem_of_getElem? (i := 27) rfl))) Via.refl e0 P1 (g := (mkF m 1 #[.val (.ref a), .val (.int ch)] [(.ref a)])) rfl rfl (hb hby d6_1)
  replace G : Gets p e below _ (T1.setTop (mkF m 4 #[.val (.ref a), .val (.int ch)] [(.int (1 : Int32))])) := fun t k => G t (st1 t k)
  replace G := own_aloadN (q := 5) G X1.here hx (hb hby d6_4) rfl rfl rfl
  obtain ⟨T2, X2, e2, st2⟩ := getF X1 hx hZ hown (host := "") (Or.inl (hw _ (List.mem_of_getElem? (i := 15) rfl))) Via.refl e1 P0 (g := (mkF m 5 #[.val (.ref a), .val (.int ch)] [(.ref a), (.int (1 : Int32))])) rfl rfl (hb hby d6_5)
  replace G : Gets p e below _ (T2.setTop (mkF m 8 #[.val (.ref a), .val (.int ch)] [(.ref b), (.int (1 : Int32))])) := fun t k => G t (st2 t k)
  obtain ⟨c3, Ar3, -, S3, N3', -, -⟩ := id P5
  replace G : Gets p e below _ (T2.setTop (mkF m 9 #[.val (.ref a), .val (.int ch)] [(.int (16 : Int32)), (.int (1 : Int32))])) := fun t k => G t (X2.arraylength hx (by rw [e2]; exact Ar3.1) (State.isArrayOf_alike hZ.alike Ar3.2.1) (g := (mkF m 8 #[.val (.ref a), .val (.int ch)] [(.ref b), (.int (1 : Int32))])) rfl rfl (hb hby d6_8) t (by rw [len_of S3 N3']; exact k))
  have hc9_4 : ¬ ((1 : Int32) = (16 : Int32)) := by decide
  replace G := own_icmpYes (q := 22) G X2.here hx (hb hby d6_9) (feq hc9_4).2 (by decide) (by decide)
  replace G := own_aloadN (q := 23) G X2.here hx (hb hby d6_22) rfl rfl rfl
  obtain ⟨T5, X5, e5, st5⟩ := getF X2 hx hZ hown (host := "") (Or.inl (hw _ (List.mem_of_getElem? (i := 15) rfl))) Via.refl e2 P0 (g := (mkF m 23 #[.val (.ref a), .val (.int ch)] [(.ref a)])) rfl rfl (hb hby d6_23)
  replace G : Gets p e below _ (T5.setTop (mkF m 26 #[.val (.ref a), .val (.int ch)] [(.ref b)])) := fun t k => G t (st5 t k)
  replace G := own_aloadN (q := 27) G X5.here hx (hb hby d6_26) rfl rfl rfl
  replace G := own_dup (q := 28) G X5.here hx (hb hby d6_27) rfl rfl
  obtain ⟨T6, X6, e6, st6⟩ := getF X5 hx hZ hown (host := "") (Or.inl (hw _ (List.mem_of_getElem? (i := 27) rfl))) Via.refl e5 P1 (g := (mkF m 28 #[.val (.ref a), .val (.int ch)] [(.ref a), (.ref a), (.ref b)])) rfl rfl (hb hby d6_28)
  replace G : Gets p e below _ (T6.setTop (mkF m 31 #[.val (.ref a), .val (.int ch)] [(.int (1 : Int32)), (.ref a), (.ref b)])) := fun t k => G t (st6 t k)
  replace G := own_dup_x1 (q := 32) G X6.here hx (hb hby d6_31) rfl rfl rfl
  replace G := own_iconst (q := 33) G X6.here hx (hb hby d6_32) (v := (1 : Int32)) (by decide) rfl
  replace G := own_iadd (q := 34) G X6.here hx (hb hby d6_33) (by decide : ((1 : Int32) + (1 : Int32)) = (2 : Int32)) rfl
  obtain ⟨T7, h7, X7, e7, W7, st7⟩ := putF X6 hx hZ hown (host := "") (Or.inl (hw _ (List.mem_of_getElem? (i := 27) rfl))) Via.refl e6 P1 P4 (Or.inl (hw _ (List.mem_of_getElem? (i := 28) rfl))) (hw _ (List.mem_of_getElem? (i := 1) rfl)) (ty := .int) (by decide) rfl rfl (g := (mkF m 34 #[.val (.ref a), .val (.int ch)] [(.int (2 : Int32)), (.ref a), (.int (1 : Int32)), (.ref b)])) rfl rfl (hb hby d6_34)
  have N7 := Fr.snoc X7 N0 P6
  have Z7 : n0 ≤ h7.size := Nat.le_trans Z0 (Keep.of_wr W7).1
  have K7 : Keep h0 h7 [a, b] := K0.wr W7 (Or.inl (List.mem_of_getElem? (i := 0) rfl))
  have F7 : Fld Z h7 a "com/example/leafcutter/leafcutter/io/TextBuffer" "length" "I" (.int (2 : Int32)) := P1.same W7
  replace G : Gets p e below _ (T7.setTop (mkF m 37 #[.val (.ref a), .val (.int ch)] [(.int (1 : Int32)), (.ref b)])) := fun t k => G t (st7 t k)
  replace G := own_iloadN (q := 38) G X7.here hx (hb hby d6_37) rfl rfl
  have F8 : Arv Z h7 b kb .char (16 : Int32) [(.int ec0), (.int (0 : Int32)), (.int (0 : Int32)), (.int (0 : Int32)), (.int (0 : Int32)), (.int (0 : Int32)), (.int (0 : Int32)), (.int (0 : Int32)), (.int (0 : Int32)), (.int (0 : Int32)), (.int (0 : Int32)), (.int (0 : Int32)), (.int (0 : Int32)), (.int (0 : Int32)), (.int (0 : Int32)), (.int (0 : Int32))] (.int (0 : Int32)) := (P5.other W7 (Ne.symm P8))
  obtain ⟨c9, Ar9, q9, S9, N9', H9, G9'⟩ := id F8
  have hin9 : ¬ ((1 : Int32) < 0 ∨ c9.slots.size ≤ ((1 : Int32)).toNatClampNeg) := inb_of S9 ⟨by decide, by decide⟩
  obtain ⟨T9, h9, X9, e9, W9, st9⟩ := stC X7 hx hZ e7 Ar9 (j := (1 : Int32)) hin9 (g := (mkF m 38 #[.val (.ref a), .val (.int ch)] [(.int ch), (.int (1 : Int32)), (.ref b)])) rfl rfl (hb hby d6_38)
  have N9 := Fr.snoc X9 N7 P7
  have Z9 : n0 ≤ h9.size := Nat.le_trans Z7 (Keep.of_wr W9).1
  have K9 : Keep h0 h9 [a, b] := K7.wr W9 (Or.inl (List.mem_of_getElem? (i := 1) rfl))
  have V9 : Arv Z h9 b kb .char (16 : Int32) [(.int ec0), (.int (nar .char ch)), (.int (0 : Int32)), (.int (0 : Int32)), (.int (0 : Int32)), (.int (0 : Int32)), (.int (0 : Int32)), (.int (0 : Int32)), (.int (0 : Int32)), (.int (0 : Int32)), (.int (0 : Int32)), (.int (0 : Int32)), (.int (0 : Int32)), (.int (0 : Int32)), (.int (0 : Int32)), (.int (0 : Int32))] (.int (0 : Int32)) := Arv.set Ar9 q9 S9 N9' H9 G9' (fits_nar_char _) W9 1 rfl (Nat.le_of_ble_eq_true rfl)
  replace G : Gets p e below _ (T9.setTop (mkF m 39 #[.val (.ref a), .val (.int ch)] [])) := fun t k => G t (st9 t k)
  replace G := own_aloadN (q := 40) G X9.here hx (hb hby d6_39) rfl rfl rfl
  obtain ⟨fs, hr, hrun, hended, hW, hsame⟩ := X9.leave (v := some (.ref a)) (fun h => by rw [Bd.returns] at h; cases h)
  refine ⟨_, _, G _ (retOut X9 hx Bd.returns rfl (Or.inr (Or.inr (Or.inr (Or.inr ⟨rfl, rfl, rfl⟩)))) (hb hby d6_40) hr), hrun, hended, _, _, rfl, ?_, ⟨_, rfl⟩, hW, hsame.mono (by decide) (by decide)⟩
  have F10 : Fld Z h9 a "com/example/leafcutter/leafcutter/io/TextBuffer" "chars" "[C" (.ref b) := ((P0.other W7 (Or.inr (slot_ne (Or.inl (hw _ (List.mem_of_getElem? (i := 16) rfl))) (Or.inl (hw _ (List.mem_of_getElem? (i := 28) rfl))) (by decide) (t := (.array .char)) (t' := .int) (by decide) (by decide)))).other W9 (Or.inl P8))
  have F11 : Fld Z h9 a "com/example/leafcutter/leafcutter/io/TextBuffer" "length" "I" (.int (2 : Int32)) := (F7.other W9 (Or.inl P8))
  have F12 : Fld Z h9 a "com/example/leafcutter/leafcutter/io/TextBuffer" "limit" "I" (.int (2147483639 : Int32)) := ((P2.other W7 (Or.inr (slot_ne (Or.inr (hw _ (List.mem_of_getElem? (i := 18) rfl))) (Or.inl (hw _ (List.mem_of_getElem? (i := 28) rfl))) (by decide) (t := .int) (t' := .int) (by decide) (by decide)))).other W9 (Or.inl P8))
  have F13 : Fld Z h9 a "com/example/leafcutter/leafcutter/io/TextBuffer" "whenFull" "Ljava/util/function/Consumer;" .null := ((P3.other W7 (Or.inr (slot_ne (Or.inr (hw _ (List.mem_of_getElem? (i := 20) rfl))) (Or.inl (hw _ (List.mem_of_getElem? (i := 28) rfl))) (by decide) (t := (.object "java/util/function/Consumer")) (t' := .int) (by decide) (by decide)))).other W9 (Or.inl P8))
  show Q6s1 Z a ch b kb ec0 h0 n0 _ T9.heap _
  rw [e9]
  exact ⟨rfl, N9, K9, F10, F11, F12, F13, V9⟩
theorem ef_6s2 (m : MethodId) (x0 : Addr) (x1 : Int32) : entryFrame m #[(.ref x0), (.int x1)] 2 = mkF m 0 #[.val (.ref x0), .val (.int x1)] [] := by first | (simp [entryFrame, mkF, argsToLocals, Value.category]; done) | rfl
def Q6s2 (Z : State) (a : Addr) (ch : Int32) (b : Addr) (kb : ClassId) (ec0 : Int32) (ec1 : Int32) (h0 : Heap) (n0 : Nat) (v : Option Value) (h : Heap) (L : List Loc) : Prop := v = some (.ref a) ∧ Fr n0 L ∧ Keep h0 h [a, b] ∧ (Fld Z h a "com/example/leafcutter/leafcutter/io/TextBuffer" "chars" "[C" (.ref b)) ∧ (Fld Z h a "com/example/leafcutter/leafcutter/io/TextBuffer" "length" "I" (.int (3 : Int32))) ∧ (Fld Z h a "com/example/leafcutter/leafcutter/io/TextBuffer" "limit" "I" (.int (2147483639 : Int32))) ∧ (Fld Z h a "com/example/leafcutter/leafcutter/io/TextBuffer" "whenFull" "Ljava/util/function/Consumer;" .null) ∧ (Arv Z h b kb .char (16 : Int32) [(.int ec0), (.int ec1), (.int (nar .char ch)), (.int (0 : Int32)), (.int (0 : Int32)), (.int (0 : Int32)), (.int (0 : Int32)), (.int (0 : Int32)), (.int (0 : Int32)), (.int (0 : Int32)), (.int (0 : Int32)), (.int (0 : Int32)), (.int (0 : Int32)), (.int (0 : Int32)), (.int (0 : Int32)), (.int (0 : Int32))] (.int (0 : Int32)))
set_option maxRecDepth 65536 in
set_option maxHeartbeats 40000000 in
theorem rm6s2 (l : Launch) (Z : State) (a0 : Array Value) (hw : ∀ d ∈ tables_1, d.before a0 Z = true) (ws : List Jvm.Cond) (a : Addr) (ch : Int32) (b : Addr) (kb : ClassId) (ec0 : Int32) (ec1 : Int32) (h0 : Heap) (n0 : Nat) (Z0 : n0 ≤ h0.size) (P0 : Fld Z h0 a "com/example/leafcutter/leafcutter/io/TextBuffer" "chars" "[C" (.ref b)) (P1 : Fld Z h0 a "com/example/leafcutter/leafcutter/io/TextBuffer" "length" "I" (.int (2 : Int32))) (P2 : Fld Z h0 a "com/example/leafcutter/leafcutter/io/TextBuffer" "limit" "I" (.int (2147483639 : Int32))) (P3 : Fld Z h0 a "com/example/leafcutter/leafcutter/io/TextBuffer" "whenFull" "Ljava/util/function/Consumer;" .null) (P4 : Exa Z h0 a "com/example/leafcutter/leafcutter/io/TextBuffer") (P5 : Arv Z h0 b kb .char (16 : Int32) [(.int ec0), (.int ec1), (.int (0 : Int32)), (.int (0 : Int32)), (.int (0 : Int32)), (.int (0 : Int32)), (.int (0 : Int32)), (.int (0 : Int32)), (.int (0 : Int32)), (.int (0 : Int32)), (.int (0 : Int32)), (.int (0 : Int32)), (.int (0 : Int32)), (.int (0 : Int32)), (.int (0 : Int32)), (.int (0 : Int32))] (.int (0 : Int32))) (P6 : n0 ≤ a) (P7 : n0 ≤ b) (P8 : a ≠ b) :
    MetFree l (⟨"com/example/leafcutter/leafcutter/io/TextBuffer", "append", "(C)Lcom/example/leafcutter/leafcutter/io/TextBuffer;"⟩ : MethodName) (head1 (Jvm.Cond.code (⟨"com/example/leafcutter/leafcutter/io/TextBuffer", "append", "(C)Lcom/example/leafcutter/leafcutter/io/TextBuffer;"⟩ : MethodName) prog_6_method_3_code 2 (some (.object "com/example/leafcutter/leafcutter/io/TextBuffer")) :: ws) ({ frames := 0, cells := 0, slots := 0, locals := 0 } : Room)) (fun argz U => argz = #[(.ref a), (.int ch)] ∧ Z.Warmed39 U.vm ∧ U.heap = h0) (fun _ _ _ _ _ => True) (fun _ U o U' => ∃ v L, o = .returned v ∧ Q6s2 Z a ch b kb ec0 ec1 h0 n0 v U'.heap L ∧ FrameEnd U o U' L ({ frames := 0, cells := 0, slots := 0, locals := 0 } : Room).cells ({ frames := 0, cells := 0, slots := 0, locals := 0 } : Room).slots) := by
  refine MetFree.of_bodySF (plainFor_of_name pn_com_example_leafcutter_leafcutter_io_TextBuffer) hisR ?_
  intro p e s m args below meth c s₁ Bd hml0 hP hK
  obtain ⟨rfl, hZ, hh⟩ := hP
  have hx := Bd.exec
  have hby := Bd.bytes
  have hml : c.maxLocals = 2 := hml0
  have hown : s.vm.findClass "com/example/leafcutter/leafcutter/io/TextBuffer" = some m.cls := findClass_of_methodNamed Bd.named
  have hnm := (name_of_methodNamed Bd.named Bd.method).1
  have X0 : Stand p l e ({ frames := 0, cells := 0, slots := 0, locals := 0 } : Room) s m #[(.ref a), (.int ch)] below meth c s₁ [] 0 0 := Stand.of_body Bd
  have e0 : s₁.heap = h0 := by rw [← hh, Bd.state]; rfl
  have N0 := Fr.nil n0
  have K0 : Keep h0 h0 [a, b] := Keep.refl _ _
  have G : Gets p e below (s₁.setTop (entryFrame m #[(.ref a), (.int ch)] 2)) (s₁.setTop (mkF m 0 #[.val (.ref a), .val (.int ch)] [])) := fun t k => castTop (ef_6s2 m a ch) k
  replace G := own_aloadN (q := 1) G X0.here hx (hb hby d6_0) rfl rfl rfl
  obtain ⟨T1, X1, e1, st1⟩ := getF X0 hx hZ hown (host := "") (Or.inl (hw _ (List.mem_of_getElem? (i := 27) rfl))) Via.refl e0 P1 (g := (mkF m 1 #[.val (.ref a), .val (.int ch)] [(.ref a)])) rfl rfl (hb hby d6_1)
  replace G : Gets p e below _ (T1.setTop (mkF m 4 #[.val (.ref a), .val (.int ch)] [(.int (2 : Int32))])) := fun t k => G t (st1 t k)
  replace G := own_aloadN (q := 5) G X1.here hx (hb hby d6_4) rfl rfl rfl
  obtain ⟨T2, X2, e2, st2⟩ := getF X1 hx hZ hown (host := "") (Or.inl (hw _ (List.mem_of_getElem? (i := 15) rfl))) Via.refl e1 P0 (g := (mkF m 5 #[.val (.ref a), .val (.int ch)] [(.ref a), (.int (2 : Int32))])) rfl rfl (hb hby d6_5)
  replace G : Gets p e below _ (T2.setTop (mkF m 8 #[.val (.ref a), .val (.int ch)] [(.ref b), (.int (2 : Int32))])) := fun t k => G t (st2 t k)
  obtain ⟨c3, Ar3, -, S3, N3', -, -⟩ := id P5
  replace G : Gets p e below _ (T2.setTop (mkF m 9 #[.val (.ref a), .val (.int ch)] [(.int (16 : Int32)), (.int (2 : Int32))])) := fun t k => G t (X2.arraylength hx (by rw [e2]; exact Ar3.1) (State.isArrayOf_alike hZ.alike Ar3.2.1) (g := (mkF m 8 #[.val (.ref a), .val (.int ch)] [(.ref b), (.int (2 : Int32))])) rfl rfl (hb hby d6_8) t (by rw [len_of S3 N3']; exact k))
  have hc9_4 : ¬ ((2 : Int32) = (16 : Int32)) := by decide
  replace G := own_icmpYes (q := 22) G X2.here hx (hb hby d6_9) (feq hc9_4).2 (by decide) (by decide)
  replace G := own_aloadN (q := 23) G X2.here hx (hb hby d6_22) rfl rfl rfl
  obtain ⟨T5, X5, e5, st5⟩ := getF X2 hx hZ hown (host := "") (Or.inl (hw _ (List.mem_of_getElem? (i := 15) rfl))) Via.refl e2 P0 (g := (mkF m 23 #[.val (.ref a), .val (.int ch)] [(.ref a)])) rfl rfl (hb hby d6_23)
  replace G : Gets p e below _ (T5.setTop (mkF m 26 #[.val (.ref a), .val (.int ch)] [(.ref b)])) := fun t k => G t (st5 t k)
  replace G := own_aloadN (q := 27) G X5.here hx (hb hby d6_26) rfl rfl rfl
  replace G := own_dup (q := 28) G X5.here hx (hb hby d6_27) rfl rfl
  obtain ⟨T6, X6, e6, st6⟩ := getF X5 hx hZ hown (host := "") (Or.inl (hw _ (List.mem_of_getElem? (i := 27) rfl))) Via.refl e5 P1 (g := (mkF m 28 #[.val (.ref a), .val (.int ch)] [(.ref a), (.ref a), (.ref b)])) rfl rfl (hb hby d6_28)
  replace G : Gets p e below _ (T6.setTop (mkF m 31 #[.val (.ref a), .val (.int ch)] [(.int (2 : Int32)), (.ref a), (.ref b)])) := fun t k => G t (st6 t k)
  replace G := own_dup_x1 (q := 32) G X6.here hx (hb hby d6_31) rfl rfl rfl
  replace G := own_iconst (q := 33) G X6.here hx (hb hby d6_32) (v := (1 : Int32)) (by decide) rfl
  replace G := own_iadd (q := 34) G X6.here hx (hb hby d6_33) (by decide : ((2 : Int32) + (1 : Int32)) = (3 : Int32)) rfl
  obtain ⟨T7, h7, X7, e7, W7, st7⟩ := putF X6 hx hZ hown (host := "") (Or.inl (hw _ (List.mem_of_getElem? (i := 27) rfl))) Via.refl e6 P1 P4 (Or.inl (hw _ (List.mem_of_getElem? (i := 28) rfl))) (hw _ (List.mem_of_getElem? (i := 1) rfl)) (ty := .int) (by decide) rfl rfl (g := (mkF m 34 #[.val (.ref a), .val (.int ch)] [(.int (3 : Int32)), (.ref a), (.int (2 : Int32)), (.ref b)])) rfl rfl (hb hby d6_34)
  have N7 := Fr.snoc X7 N0 P6
  have Z7 : n0 ≤ h7.size := Nat.le_trans Z0 (Keep.of_wr W7).1
  have K7 : Keep h0 h7 [a, b] := K0.wr W7 (Or.inl (List.mem_of_getElem? (i := 0) rfl))
  have F7 : Fld Z h7 a "com/example/leafcutter/leafcutter/io/TextBuffer" "length" "I" (.int (3 : Int32)) := P1.same W7
  replace G : Gets p e below _ (T7.setTop (mkF m 37 #[.val (.ref a), .val (.int ch)] [(.int (2 : Int32)), (.ref b)])) := fun t k => G t (st7 t k)
  replace G := own_iloadN (q := 38) G X7.here hx (hb hby d6_37) rfl rfl
  have F8 : Arv Z h7 b kb .char (16 : Int32) [(.int ec0), (.int ec1), (.int (0 : Int32)), (.int (0 : Int32)), (.int (0 : Int32)), (.int (0 : Int32)), (.int (0 : Int32)), (.int (0 : Int32)), (.int (0 : Int32)), (.int (0 : Int32)), (.int (0 : Int32)), (.int (0 : Int32)), (.int (0 : Int32)), (.int (0 : Int32)), (.int (0 : Int32)), (.int (0 : Int32))] (.int (0 : Int32)) := (P5.other W7 (Ne.symm P8))
  obtain ⟨c9, Ar9, q9, S9, N9', H9, G9'⟩ := id F8
  have hin9 : ¬ ((2 : Int32) < 0 ∨ c9.slots.size ≤ ((2 : Int32)).toNatClampNeg) := inb_of S9 ⟨by decide, by decide⟩
  obtain ⟨T9, h9, X9, e9, W9, st9⟩ := stC X7 hx hZ e7 Ar9 (j := (2 : Int32)) hin9 (g := (mkF m 38 #[.val (.ref a), .val (.int ch)] [(.int ch), (.int (2 : Int32)), (.ref b)])) rfl rfl (hb hby d6_38)
  have N9 := Fr.snoc X9 N7 P7
  have Z9 : n0 ≤ h9.size := Nat.le_trans Z7 (Keep.of_wr W9).1
  have K9 : Keep h0 h9 [a, b] := K7.wr W9 (Or.inl (List.mem_of_getElem? (i := 1) rfl))
  have V9 : Arv Z h9 b kb .char (16 : Int32) [(.int ec0), (.int ec1), (.int (nar .char ch)), (.int (0 : Int32)), (.int (0 : Int32)), (.int (0 : Int32)), (.int (0 : Int32)), (.int (0 : Int32)), (.int (0 : Int32)), (.int (0 : Int32)), (.int (0 : Int32)), (.int (0 : Int32)), (.int (0 : Int32)), (.int (0 : Int32)), (.int (0 : Int32)), (.int (0 : Int32))] (.int (0 : Int32)) := Arv.set Ar9 q9 S9 N9' H9 G9' (fits_nar_char _) W9 2 rfl (Nat.le_of_ble_eq_true rfl)
  replace G : Gets p e below _ (T9.setTop (mkF m 39 #[.val (.ref a), .val (.int ch)] [])) := fun t k => G t (st9 t k)
  replace G := own_aloadN (q := 40) G X9.here hx (hb hby d6_39) rfl rfl rfl
  obtain ⟨fs, hr, hrun, hended, hW, hsame⟩ := X9.leave (v := some (.ref a)) (fun h => by rw [Bd.returns] at h; cases h)
  refine ⟨_, _, G _ (retOut X9 hx Bd.returns rfl (Or.inr (Or.inr (Or.inr (Or.inr ⟨rfl, rfl, rfl⟩)))) (hb hby d6_40) hr), hrun, hended, _, _, rfl, ?_, ⟨_, rfl⟩, hW, hsame.mono (by decide) (by decide)⟩
  have F10 : Fld Z h9 a "com/example/leafcutter/leafcutter/io/TextBuffer" "chars" "[C" (.ref b) := ((P0.other W7 (Or.inr (slot_ne (Or.inl (hw _ (List.mem_of_getElem? (i := 16) rfl))) (Or.inl (hw _ (List.mem_of_getElem? (i := 28) rfl))) (by decide) (t := (.array .char)) (t' := .int) (by decide) (by decide)))).other W9 (Or.inl P8))
  have F11 : Fld Z h9 a "com/example/leafcutter/leafcutter/io/TextBuffer" "length" "I" (.int (3 : Int32)) := (F7.other W9 (Or.inl P8))
  have F12 : Fld Z h9 a "com/example/leafcutter/leafcutter/io/TextBuffer" "limit" "I" (.int (2147483639 : Int32)) := ((P2.other W7 (Or.inr (slot_ne (Or.inr (hw _ (List.mem_of_getElem? (i := 18) rfl))) (Or.inl (hw _ (List.mem_of_getElem? (i := 28) rfl))) (by decide) (t := .int) (t' := .int) (by decide) (by decide)))).other W9 (Or.inl P8))
  have F13 : Fld Z h9 a "com/example/leafcutter/leafcutter/io/TextBuffer" "whenFull" "Ljava/util/function/Consumer;" .null := ((P3.other W7 (Or.inr (slot_ne (Or.inr (hw _ (List.mem_of_getElem? (i := 20) rfl))) (Or.inl (hw _ (List.mem_of_getElem? (i := 28) rfl))) (by decide) (t := (.object "java/util/function/Consumer")) (t' := .int) (by decide) (by decide)))).other W9 (Or.inl P8))
  show Q6s2 Z a ch b kb ec0 ec1 h0 n0 _ T9.heap _
  rw [e9]
  exact ⟨rfl, N9, K9, F10, F11, F12, F13, V9⟩
theorem d4_0 : decode prog_6_method_17_code 0 = .ok (.aload_n 1, 1) := by decide +kernel
theorem d4_1 : decode prog_6_method_17_code 1 = .ok (.ifnull 12, 3) := by decide +kernel
theorem d4_13 : decode prog_6_method_17_code 13 = .ok (.iconst 0, 1) := by decide +kernel
theorem d4_14 : decode prog_6_method_17_code 14 = .ok (.ireturn, 1) := by decide +kernel
theorem ef_4nul (m : MethodId) (x0 : Addr) : entryFrame m #[(.ref x0), .null] 3 = mkF m 0 #[.val (.ref x0), .val .null, .unset] [] := by first | (simp [entryFrame, mkF, argsToLocals, Value.category]; done) | rfl
def Q4nul (Z : State) (a : Addr) (h0 : Heap) (n0 : Nat) (v : Option Value) (h : Heap) (L : List Loc) : Prop := v = some (.int (0 : Int32)) ∧ Fr n0 L ∧ h = h0
set_option maxRecDepth 65536 in
set_option maxHeartbeats 40000000 in
theorem rm4nul (l : Launch) (Z : State) (a0 : Array Value) (hw : ∀ d ∈ tables_1, d.before a0 Z = true) (ws : List Jvm.Cond) (a : Addr) (h0 : Heap) (n0 : Nat) (Z0 : n0 ≤ h0.size)  :
    MetFree l (⟨"com/example/leafcutter/leafcutter/io/TextBuffer", "contentEquals", "([C)Z"⟩ : MethodName) (head1 (Jvm.Cond.code (⟨"com/example/leafcutter/leafcutter/io/TextBuffer", "contentEquals", "([C)Z"⟩ : MethodName) prog_6_method_17_code 3 (some .boolean) :: ws) ({ frames := 0, cells := 0, slots := 0, locals := 0 } : Room)) (fun argz U => argz = #[(.ref a), .null] ∧ Z.Warmed39 U.vm ∧ U.heap = h0) (fun _ _ _ _ _ => True) (fun _ U o U' => ∃ v L, o = .returned v ∧ Q4nul Z a h0 n0 v U'.heap L ∧ FrameEnd U o U' L ({ frames := 0, cells := 0, slots := 0, locals := 0 } : Room).cells ({ frames := 0, cells := 0, slots := 0, locals := 0 } : Room).slots) := by
  refine MetFree.of_bodySF (plainFor_of_name pn_com_example_leafcutter_leafcutter_io_TextBuffer) hisR ?_
  intro p e s m args below meth c s₁ Bd hml0 hP hK
  obtain ⟨rfl, hZ, hh⟩ := hP
  have hx := Bd.exec
  have hby := Bd.bytes
  have hml : c.maxLocals = 3 := hml0
  have hown : s.vm.findClass "com/example/leafcutter/leafcutter/io/TextBuffer" = some m.cls := findClass_of_methodNamed Bd.named
  have hnm := (name_of_methodNamed Bd.named Bd.method).1
  have X0 : Stand p l e ({ frames := 0, cells := 0, slots := 0, locals := 0 } : Room) s m #[(.ref a), .null] below meth c s₁ [] 0 0 := Stand.of_body Bd
  have e0 : s₁.heap = h0 := by rw [← hh, Bd.state]; rfl
  have N0 := Fr.nil n0
  have G : Gets p e below (s₁.setTop (entryFrame m #[(.ref a), .null] 3)) (s₁.setTop (mkF m 0 #[.val (.ref a), .val .null, .unset] [])) := fun t k => castTop (ef_4nul m a) k
  replace G := own_aloadN (q := 1) G X0.here hx (hb hby d4_0) rfl rfl rfl
  replace G := own_ifnullYes (q := 13) G X0.here hx (hb hby d4_1) (by decide) (by decide)
  replace G := own_iconst (q := 14) G X0.here hx (hb hby d4_13) (v := (0 : Int32)) (by decide) rfl
  obtain ⟨fs, hr, hrun, hended, hW, hsame⟩ := X0.leave (v := some (.int (0 : Int32))) (fun h => by rw [Bd.returns] at h; cases h)
  refine ⟨_, _, G _ (retOut X0 hx Bd.returns rfl (Or.inl ⟨rfl, Or.inr (Or.inl rfl), _, rfl⟩) (hb hby d4_14) hr), hrun, hended, _, _, rfl, ?_, ⟨_, rfl⟩, hW, hsame.mono (by decide) (by decide)⟩
  show Q4nul Z a h0 n0 _ s₁.heap _
  rw [e0]
  exact ⟨rfl, N0, rfl⟩
theorem d4_4 : decode prog_6_method_17_code 4 = .ok (.aload_n 1, 1) := by decide +kernel
theorem d4_5 : decode prog_6_method_17_code 5 = .ok (.arraylength, 1) := by decide +kernel
theorem d4_6 : decode prog_6_method_17_code 6 = .ok (.aload_n 0, 1) := by decide +kernel
theorem d4_7 : decode prog_6_method_17_code 7 = .ok (.getfield 39, 3) := by decide +kernel
theorem d4_10 : decode prog_6_method_17_code 10 = .ok (.if_icmp .eq 5, 3) := by decide +kernel
theorem d4_15 : decode prog_6_method_17_code 15 = .ok (.iconst 0, 1) := by decide +kernel
theorem d4_16 : decode prog_6_method_17_code 16 = .ok (.istore_n 2, 1) := by decide +kernel
theorem d4_17 : decode prog_6_method_17_code 17 = .ok (.iload_n 2, 1) := by decide +kernel
theorem d4_18 : decode prog_6_method_17_code 18 = .ok (.aload_n 0, 1) := by decide +kernel
theorem d4_19 : decode prog_6_method_17_code 19 = .ok (.getfield 39, 3) := by decide +kernel
theorem d4_22 : decode prog_6_method_17_code 22 = .ok (.if_icmp .ge 23, 3) := by decide +kernel
theorem d4_45 : decode prog_6_method_17_code 45 = .ok (.iconst 1, 1) := by decide +kernel
theorem d4_46 : decode prog_6_method_17_code 46 = .ok (.ireturn, 1) := by decide +kernel
theorem ef_4n0m0 (m : MethodId) (x0 : Addr) (x1 : Addr) : entryFrame m #[(.ref x0), (.ref x1)] 3 = mkF m 0 #[.val (.ref x0), .val (.ref x1), .unset] [] := by first | (simp [entryFrame, mkF, argsToLocals, Value.category]; done) | rfl
def Q4n0m0 (Z : State) (a : Addr) (d : Addr) (kd : ClassId) (h0 : Heap) (n0 : Nat) (v : Option Value) (h : Heap) (L : List Loc) : Prop := v = some (.int (1 : Int32)) ∧ Fr n0 L ∧ h = h0
set_option maxRecDepth 65536 in
set_option maxHeartbeats 40000000 in
theorem rm4n0m0 (l : Launch) (Z : State) (a0 : Array Value) (hw : ∀ d ∈ tables_1, d.before a0 Z = true) (ws : List Jvm.Cond) (a : Addr) (d : Addr) (kd : ClassId) (h0 : Heap) (n0 : Nat) (Z0 : n0 ≤ h0.size) (P0 : Fld Z h0 a "com/example/leafcutter/leafcutter/io/TextBuffer" "length" "I" (.int (0 : Int32))) (P1 : Arv Z h0 d kd .char (0 : Int32) [] (.int (0 : Int32))) :
    MetFree l (⟨"com/example/leafcutter/leafcutter/io/TextBuffer", "contentEquals", "([C)Z"⟩ : MethodName) (head1 (Jvm.Cond.code (⟨"com/example/leafcutter/leafcutter/io/TextBuffer", "contentEquals", "([C)Z"⟩ : MethodName) prog_6_method_17_code 3 (some .boolean) :: ws) ({ frames := 0, cells := 0, slots := 0, locals := 0 } : Room)) (fun argz U => argz = #[(.ref a), (.ref d)] ∧ Z.Warmed39 U.vm ∧ U.heap = h0) (fun _ _ _ _ _ => True) (fun _ U o U' => ∃ v L, o = .returned v ∧ Q4n0m0 Z a d kd h0 n0 v U'.heap L ∧ FrameEnd U o U' L ({ frames := 0, cells := 0, slots := 0, locals := 0 } : Room).cells ({ frames := 0, cells := 0, slots := 0, locals := 0 } : Room).slots) := by
  refine MetFree.of_bodySF (plainFor_of_name pn_com_example_leafcutter_leafcutter_io_TextBuffer) hisR ?_
  intro p e s m args below meth c s₁ Bd hml0 hP hK
  obtain ⟨rfl, hZ, hh⟩ := hP
  have hx := Bd.exec
  have hby := Bd.bytes
  have hml : c.maxLocals = 3 := hml0
  have hown : s.vm.findClass "com/example/leafcutter/leafcutter/io/TextBuffer" = some m.cls := findClass_of_methodNamed Bd.named
  have hnm := (name_of_methodNamed Bd.named Bd.method).1
  have X0 : Stand p l e ({ frames := 0, cells := 0, slots := 0, locals := 0 } : Room) s m #[(.ref a), (.ref d)] below meth c s₁ [] 0 0 := Stand.of_body Bd
  have e0 : s₁.heap = h0 := by rw [← hh, Bd.state]; rfl
  have N0 := Fr.nil n0
  have G : Gets p e below (s₁.setTop (entryFrame m #[(.ref a), (.ref d)] 3)) (s₁.setTop (mkF m 0 #[.val (.ref a), .val (.ref d), .unset] [])) := fun t k => castTop (ef_4n0m0 m a d) k
  replace G := own_aloadN (q := 1) G X0.here hx (hb hby d4_0) rfl rfl rfl
  replace G := own_ifnullNo (q := 4) G X0.here hx (hb hby d4_1) rfl
  replace G := own_aloadN (q := 5) G X0.here hx (hb hby d4_4) rfl rfl rfl
  obtain ⟨c1, Ar1, -, S1, N1', -, -⟩ := id P1
  replace G : Gets p e below _ (s₁.setTop (mkF m 6 #[.val (.ref a), .val (.ref d), .unset] [(.int (0 : Int32))])) := fun t k => G t (X0.arraylength hx (by rw [e0]; exact Ar1.1) (State.isArrayOf_alike hZ.alike Ar1.2.1) (g := (mkF m 5 #[.val (.ref a), .val (.ref d), .unset] [(.ref d)])) rfl rfl (hb hby d4_5) t (by rw [len_of S1 N1']; exact k))
  replace G := own_aloadN (q := 7) G X0.here hx (hb hby d4_6) rfl rfl rfl
  obtain ⟨T2, X2, e2, st2⟩ := getF X0 hx hZ hown (host := "") (Or.inl (hw _ (List.mem_of_getElem? (i := 27) rfl))) Via.refl e0 P0 (g := (mkF m 7 #[.val (.ref a), .val (.ref d), .unset] [(.ref a), (.int (0 : Int32))])) rfl rfl (hb hby d4_7)
  replace G : Gets p e below _ (T2.setTop (mkF m 10 #[.val (.ref a), .val (.ref d), .unset] [(.int (0 : Int32)), (.int (0 : Int32))])) := fun t k => G t (st2 t k)
  have hc10_3 : (0 : Int32) = (0 : Int32) := by decide
  replace G := own_icmpYes (q := 15) G X2.here hx (hb hby d4_10) (teq hc10_3).1 (by decide) (by decide)
  replace G := own_iconst (q := 16) G X2.here hx (hb hby d4_15) (v := (0 : Int32)) (by decide) rfl
  replace G := own_istoreN (q := 17) (l' := #[.val (.ref a), .val (.ref d), .val (.int (0 : Int32))]) G X2.here hx (hb hby d4_16) rfl rfl
  replace G := own_iloadN (q := 18) G X2.here hx (hb hby d4_17) rfl rfl
  replace G := own_aloadN (q := 19) G X2.here hx (hb hby d4_18) rfl rfl rfl
  obtain ⟨T4, X4, e4, st4⟩ := getF X2 hx hZ hown (host := "") (Or.inl (hw _ (List.mem_of_getElem? (i := 27) rfl))) Via.refl e2 P0 (g := (mkF m 19 #[.val (.ref a), .val (.ref d), .val (.int (0 : Int32))] [(.ref a), (.int (0 : Int32))])) rfl rfl (hb hby d4_19)
  replace G : Gets p e below _ (T4.setTop (mkF m 22 #[.val (.ref a), .val (.ref d), .val (.int (0 : Int32))] [(.int (0 : Int32)), (.int (0 : Int32))])) := fun t k => G t (st4 t k)
  have hc22_5 : ¬ ((0 : Int32) < (0 : Int32)) := by decide
  replace G := own_icmpYes (q := 45) G X4.here hx (hb hby d4_22) (flt hc22_5).2.1 (by decide) (by decide)
  replace G := own_iconst (q := 46) G X4.here hx (hb hby d4_45) (v := (1 : Int32)) (by decide) rfl
  obtain ⟨fs, hr, hrun, hended, hW, hsame⟩ := X4.leave (v := some (.int (1 : Int32))) (fun h => by rw [Bd.returns] at h; cases h)
  refine ⟨_, _, G _ (retOut X4 hx Bd.returns rfl (Or.inl ⟨rfl, Or.inr (Or.inl rfl), _, rfl⟩) (hb hby d4_46) hr), hrun, hended, _, _, rfl, ?_, ⟨_, rfl⟩, hW, hsame.mono (by decide) (by decide)⟩
  show Q4n0m0 Z a d kd h0 n0 _ T4.heap _
  rw [e4]
  exact ⟨rfl, N0, rfl⟩
theorem ef_4n0m1 (m : MethodId) (x0 : Addr) (x1 : Addr) : entryFrame m #[(.ref x0), (.ref x1)] 3 = mkF m 0 #[.val (.ref x0), .val (.ref x1), .unset] [] := by first | (simp [entryFrame, mkF, argsToLocals, Value.category]; done) | rfl
def Q4n0m1 (Z : State) (a : Addr) (d : Addr) (kd : ClassId) (f0 : Int32) (h0 : Heap) (n0 : Nat) (v : Option Value) (h : Heap) (L : List Loc) : Prop := v = some (.int (0 : Int32)) ∧ Fr n0 L ∧ h = h0
set_option maxRecDepth 65536 in
set_option maxHeartbeats 40000000 in
theorem rm4n0m1 (l : Launch) (Z : State) (a0 : Array Value) (hw : ∀ d ∈ tables_1, d.before a0 Z = true) (ws : List Jvm.Cond) (a : Addr) (d : Addr) (kd : ClassId) (f0 : Int32) (h0 : Heap) (n0 : Nat) (Z0 : n0 ≤ h0.size) (P0 : Fld Z h0 a "com/example/leafcutter/leafcutter/io/TextBuffer" "length" "I" (.int (0 : Int32))) (P1 : Arv Z h0 d kd .char (1 : Int32) [(.int f0)] (.int (0 : Int32))) :
    MetFree l (⟨"com/example/leafcutter/leafcutter/io/TextBuffer", "contentEquals", "([C)Z"⟩ : MethodName) (head1 (Jvm.Cond.code (⟨"com/example/leafcutter/leafcutter/io/TextBuffer", "contentEquals", "([C)Z"⟩ : MethodName) prog_6_method_17_code 3 (some .boolean) :: ws) ({ frames := 0, cells := 0, slots := 0, locals := 0 } : Room)) (fun argz U => argz = #[(.ref a), (.ref d)] ∧ Z.Warmed39 U.vm ∧ U.heap = h0) (fun _ _ _ _ _ => True) (fun _ U o U' => ∃ v L, o = .returned v ∧ Q4n0m1 Z a d kd f0 h0 n0 v U'.heap L ∧ FrameEnd U o U' L ({ frames := 0, cells := 0, slots := 0, locals := 0 } : Room).cells ({ frames := 0, cells := 0, slots := 0, locals := 0 } : Room).slots) := by
  refine MetFree.of_bodySF (plainFor_of_name pn_com_example_leafcutter_leafcutter_io_TextBuffer) hisR ?_
  intro p e s m args below meth c s₁ Bd hml0 hP hK
  obtain ⟨rfl, hZ, hh⟩ := hP
  have hx := Bd.exec
  have hby := Bd.bytes
  have hml : c.maxLocals = 3 := hml0
  have hown : s.vm.findClass "com/example/leafcutter/leafcutter/io/TextBuffer" = some m.cls := findClass_of_methodNamed Bd.named
  have hnm := (name_of_methodNamed Bd.named Bd.method).1
  have X0 : Stand p l e ({ frames := 0, cells := 0, slots := 0, locals := 0 } : Room) s m #[(.ref a), (.ref d)] below meth c s₁ [] 0 0 := Stand.of_body Bd
  have e0 : s₁.heap = h0 := by rw [← hh, Bd.state]; rfl
  have N0 := Fr.nil n0
  have G : Gets p e below (s₁.setTop (entryFrame m #[(.ref a), (.ref d)] 3)) (s₁.setTop (mkF m 0 #[.val (.ref a), .val (.ref d), .unset] [])) := fun t k => castTop (ef_4n0m1 m a d) k
  replace G := own_aloadN (q := 1) G X0.here hx (hb hby d4_0) rfl rfl rfl
  replace G := own_ifnullNo (q := 4) G X0.here hx (hb hby d4_1) rfl
  replace G := own_aloadN (q := 5) G X0.here hx (hb hby d4_4) rfl rfl rfl
  obtain ⟨c1, Ar1, -, S1, N1', -, -⟩ := id P1
  replace G : Gets p e below _ (s₁.setTop (mkF m 6 #[.val (.ref a), .val (.ref d), .unset] [(.int (1 : Int32))])) := fun t k => G t (X0.arraylength hx (by rw [e0]; exact Ar1.1) (State.isArrayOf_alike hZ.alike Ar1.2.1) (g := (mkF m 5 #[.val (.ref a), .val (.ref d), .unset] [(.ref d)])) rfl rfl (hb hby d4_5) t (by rw [len_of S1 N1']; exact k))
  replace G := own_aloadN (q := 7) G X0.here hx (hb hby d4_6) rfl rfl rfl
  obtain ⟨T2, X2, e2, st2⟩ := getF X0 hx hZ hown (host := "") (Or.inl (hw _ (List.mem_of_getElem? (i := 27) rfl))) Via.refl e0 P0 (g := (mkF m 7 #[.val (.ref a), .val (.ref d), .unset] [(.ref a), (.int (1 : Int32))])) rfl rfl (hb hby d4_7)
  replace G : Gets p e below _ (T2.setTop (mkF m 10 #[.val (.ref a), .val (.ref d), .unset] [(.int (0 : Int32)), (.int (1 : Int32))])) := fun t k => G t (st2 t k)
  have hc10_3 : ¬ ((1 : Int32) = (0 : Int32)) := by decide
  replace G := own_icmpNo (q := 13) G X2.here hx (hb hby d4_10) (feq hc10_3).1 rfl
  replace G := own_iconst (q := 14) G X2.here hx (hb hby d4_13) (v := (0 : Int32)) (by decide) rfl
  obtain ⟨fs, hr, hrun, hended, hW, hsame⟩ := X2.leave (v := some (.int (0 : Int32))) (fun h => by rw [Bd.returns] at h; cases h)
  refine ⟨_, _, G _ (retOut X2 hx Bd.returns rfl (Or.inl ⟨rfl, Or.inr (Or.inl rfl), _, rfl⟩) (hb hby d4_14) hr), hrun, hended, _, _, rfl, ?_, ⟨_, rfl⟩, hW, hsame.mono (by decide) (by decide)⟩
  show Q4n0m1 Z a d kd f0 h0 n0 _ T2.heap _
  rw [e2]
  exact ⟨rfl, N0, rfl⟩
theorem ef_4n0m2 (m : MethodId) (x0 : Addr) (x1 : Addr) : entryFrame m #[(.ref x0), (.ref x1)] 3 = mkF m 0 #[.val (.ref x0), .val (.ref x1), .unset] [] := by first | (simp [entryFrame, mkF, argsToLocals, Value.category]; done) | rfl
def Q4n0m2 (Z : State) (a : Addr) (d : Addr) (kd : ClassId) (f0 : Int32) (f1 : Int32) (h0 : Heap) (n0 : Nat) (v : Option Value) (h : Heap) (L : List Loc) : Prop := v = some (.int (0 : Int32)) ∧ Fr n0 L ∧ h = h0
set_option maxRecDepth 65536 in
set_option maxHeartbeats 40000000 in
theorem rm4n0m2 (l : Launch) (Z : State) (a0 : Array Value) (hw : ∀ d ∈ tables_1, d.before a0 Z = true) (ws : List Jvm.Cond) (a : Addr) (d : Addr) (kd : ClassId) (f0 : Int32) (f1 : Int32) (h0 : Heap) (n0 : Nat) (Z0 : n0 ≤ h0.size) (P0 : Fld Z h0 a "com/example/leafcutter/leafcutter/io/TextBuffer" "length" "I" (.int (0 : Int32))) (P1 : Arv Z h0 d kd .char (2 : Int32) [(.int f0), (.int f1)] (.int (0 : Int32))) :
    MetFree l (⟨"com/example/leafcutter/leafcutter/io/TextBuffer", "contentEquals", "([C)Z"⟩ : MethodName) (head1 (Jvm.Cond.code (⟨"com/example/leafcutter/leafcutter/io/TextBuffer", "contentEquals", "([C)Z"⟩ : MethodName) prog_6_method_17_code 3 (some .boolean) :: ws) ({ frames := 0, cells := 0, slots := 0, locals := 0 } : Room)) (fun argz U => argz = #[(.ref a), (.ref d)] ∧ Z.Warmed39 U.vm ∧ U.heap = h0) (fun _ _ _ _ _ => True) (fun _ U o U' => ∃ v L, o = .returned v ∧ Q4n0m2 Z a d kd f0 f1 h0 n0 v U'.heap L ∧ FrameEnd U o U' L ({ frames := 0, cells := 0, slots := 0, locals := 0 } : Room).cells ({ frames := 0, cells := 0, slots := 0, locals := 0 } : Room).slots) := by
  refine MetFree.of_bodySF (plainFor_of_name pn_com_example_leafcutter_leafcutter_io_TextBuffer) hisR ?_
  intro p e s m args below meth c s₁ Bd hml0 hP hK
  obtain ⟨rfl, hZ, hh⟩ := hP
  have hx := Bd.exec
  have hby := Bd.bytes
  have hml : c.maxLocals = 3 := hml0
  have hown : s.vm.findClass "com/example/leafcutter/leafcutter/io/TextBuffer" = some m.cls := findClass_of_methodNamed Bd.named
  have hnm := (name_of_methodNamed Bd.named Bd.method).1
  have X0 : Stand p l e ({ frames := 0, cells := 0, slots := 0, locals := 0 } : Room) s m #[(.ref a), (.ref d)] below meth c s₁ [] 0 0 := Stand.of_body Bd
  have e0 : s₁.heap = h0 := by rw [← hh, Bd.state]; rfl
  have N0 := Fr.nil n0
  have G : Gets p e below (s₁.setTop (entryFrame m #[(.ref a), (.ref d)] 3)) (s₁.setTop (mkF m 0 #[.val (.ref a), .val (.ref d), .unset] [])) := fun t k => castTop (ef_4n0m2 m a d) k
  replace G := own_aloadN (q := 1) G X0.here hx (hb hby d4_0) rfl rfl rfl
  replace G := own_ifnullNo (q := 4) G X0.here hx (hb hby d4_1) rfl
  replace G := own_aloadN (q := 5) G X0.here hx (hb hby d4_4) rfl rfl rfl
  obtain ⟨c1, Ar1, -, S1, N1', -, -⟩ := id P1
  replace G : Gets p e below _ (s₁.setTop (mkF m 6 #[.val (.ref a), .val (.ref d), .unset] [(.int (2 : Int32))])) := fun t k => G t (X0.arraylength hx (by rw [e0]; exact Ar1.1) (State.isArrayOf_alike hZ.alike Ar1.2.1) (g := (mkF m 5 #[.val (.ref a), .val (.ref d), .unset] [(.ref d)])) rfl rfl (hb hby d4_5) t (by rw [len_of S1 N1']; exact k))
  replace G := own_aloadN (q := 7) G X0.here hx (hb hby d4_6) rfl rfl rfl
  obtain ⟨T2, X2, e2, st2⟩ := getF X0 hx hZ hown (host := "") (Or.inl (hw _ (List.mem_of_getElem? (i := 27) rfl))) Via.refl e0 P0 (g := (mkF m 7 #[.val (.ref a), .val (.ref d), .unset] [(.ref a), (.int (2 : Int32))])) rfl rfl (hb hby d4_7)
  replace G : Gets p e below _ (T2.setTop (mkF m 10 #[.val (.ref a), .val (.ref d), .unset] [(.int (0 : Int32)), (.int (2 : Int32))])) := fun t k => G t (st2 t k)
  have hc10_3 : ¬ ((2 : Int32) = (0 : Int32)) := by decide
  replace G := own_icmpNo (q := 13) G X2.here hx (hb hby d4_10) (feq hc10_3).1 rfl
  replace G := own_iconst (q := 14) G X2.here hx (hb hby d4_13) (v := (0 : Int32)) (by decide) rfl
  obtain ⟨fs, hr, hrun, hended, hW, hsame⟩ := X2.leave (v := some (.int (0 : Int32))) (fun h => by rw [Bd.returns] at h; cases h)
  refine ⟨_, _, G _ (retOut X2 hx Bd.returns rfl (Or.inl ⟨rfl, Or.inr (Or.inl rfl), _, rfl⟩) (hb hby d4_14) hr), hrun, hended, _, _, rfl, ?_, ⟨_, rfl⟩, hW, hsame.mono (by decide) (by decide)⟩
  show Q4n0m2 Z a d kd f0 f1 h0 n0 _ T2.heap _
  rw [e2]
  exact ⟨rfl, N0, rfl⟩
theorem ef_4n0m3 (m : MethodId) (x0 : Addr) (x1 : Addr) : entryFrame m #[(.ref x0), (.ref x1)] 3 = mkF m 0 #[.val (.ref x0), .val (.ref x1), .unset] [] := by first | (simp [entryFrame, mkF, argsToLocals, Value.category]; done) | rfl
def Q4n0m3 (Z : State) (a : Addr) (d : Addr) (kd : ClassId) (f0 : Int32) (f1 : Int32) (f2 : Int32) (h0 : Heap) (n0 : Nat) (v : Option Value) (h : Heap) (L : List Loc) : Prop := v = some (.int (0 : Int32)) ∧ Fr n0 L ∧ h = h0
set_option maxRecDepth 65536 in
set_option maxHeartbeats 40000000 in
theorem rm4n0m3 (l : Launch) (Z : State) (a0 : Array Value) (hw : ∀ d ∈ tables_1, d.before a0 Z = true) (ws : List Jvm.Cond) (a : Addr) (d : Addr) (kd : ClassId) (f0 : Int32) (f1 : Int32) (f2 : Int32) (h0 : Heap) (n0 : Nat) (Z0 : n0 ≤ h0.size) (P0 : Fld Z h0 a "com/example/leafcutter/leafcutter/io/TextBuffer" "length" "I" (.int (0 : Int32))) (P1 : Arv Z h0 d kd .char (3 : Int32) [(.int f0), (.int f1), (.int f2)] (.int (0 : Int32))) :
    MetFree l (⟨"com/example/leafcutter/leafcutter/io/TextBuffer", "contentEquals", "([C)Z"⟩ : MethodName) (head1 (Jvm.Cond.code (⟨"com/example/leafcutter/leafcutter/io/TextBuffer", "contentEquals", "([C)Z"⟩ : MethodName) prog_6_method_17_code 3 (some .boolean) :: ws) ({ frames := 0, cells := 0, slots := 0, locals := 0 } : Room)) (fun argz U => argz = #[(.ref a), (.ref d)] ∧ Z.Warmed39 U.vm ∧ U.heap = h0) (fun _ _ _ _ _ => True) (fun _ U o U' => ∃ v L, o = .returned v ∧ Q4n0m3 Z a d kd f0 f1 f2 h0 n0 v U'.heap L ∧ FrameEnd U o U' L ({ frames := 0, cells := 0, slots := 0, locals := 0 } : Room).cells ({ frames := 0, cells := 0, slots := 0, locals := 0 } : Room).slots) := by
  refine MetFree.of_bodySF (plainFor_of_name pn_com_example_leafcutter_leafcutter_io_TextBuffer) hisR ?_
  intro p e s m args below meth c s₁ Bd hml0 hP hK
  obtain ⟨rfl, hZ, hh⟩ := hP
  have hx := Bd.exec
  have hby := Bd.bytes
  have hml : c.maxLocals = 3 := hml0
  have hown : s.vm.findClass "com/example/leafcutter/leafcutter/io/TextBuffer" = some m.cls := findClass_of_methodNamed Bd.named
  have hnm := (name_of_methodNamed Bd.named Bd.method).1
  have X0 : Stand p l e ({ frames := 0, cells := 0, slots := 0, locals := 0 } : Room) s m #[(.ref a), (.ref d)] below meth c s₁ [] 0 0 := Stand.of_body Bd
  have e0 : s₁.heap = h0 := by rw [← hh, Bd.state]; rfl
  have N0 := Fr.nil n0
  have G : Gets p e below (s₁.setTop (entryFrame m #[(.ref a), (.ref d)] 3)) (s₁.setTop (mkF m 0 #[.val (.ref a), .val (.ref d), .unset] [])) := fun t k => castTop (ef_4n0m3 m a d) k
  replace G := own_aloadN (q := 1) G X0.here hx (hb hby d4_0) rfl rfl rfl
  replace G := own_ifnullNo (q := 4) G X0.here hx (hb hby d4_1) rfl
  replace G := own_aloadN (q := 5) G X0.here hx (hb hby d4_4) rfl rfl rfl
  obtain ⟨c1, Ar1, -, S1, N1', -, -⟩ := id P1
  replace G : Gets p e below _ (s₁.setTop (mkF m 6 #[.val (.ref a), .val (.ref d), .unset] [(.int (3 : Int32))])) := fun t k => G t (X0.arraylength hx (by rw [e0]; exact Ar1.1) (State.isArrayOf_alike hZ.alike Ar1.2.1) (g := (mkF m 5 #[.val (.ref a), .val (.ref d), .unset] [(.ref d)])) rfl rfl (hb hby d4_5) t (by rw [len_of S1 N1']; exact k))
  replace G := own_aloadN (q := 7) G X0.here hx (hb hby d4_6) rfl rfl rfl
  obtain ⟨T2, X2, e2, st2⟩ := getF X0 hx hZ hown (host := "") (Or.inl (hw _ (List.mem_of_getElem? (i := 27) rfl))) Via.refl e0 P0 (g := (mkF m 7 #[.val (.ref a), .val (.ref d), .unset] [(.ref a), (.int (3 : Int32))])) rfl rfl (hb hby d4_7)
  replace G : Gets p e below _ (T2.setTop (mkF m 10 #[.val (.ref a), .val (.ref d), .unset] [(.int (0 : Int32)), (.int (3 : Int32))])) := fun t k => G t (st2 t k)
  have hc10_3 : ¬ ((3 : Int32) = (0 : Int32)) := by decide
  replace G := own_icmpNo (q := 13) G X2.here hx (hb hby d4_10) (feq hc10_3).1 rfl
  replace G := own_iconst (q := 14) G X2.here hx (hb hby d4_13) (v := (0 : Int32)) (by decide) rfl
  obtain ⟨fs, hr, hrun, hended, hW, hsame⟩ := X2.leave (v := some (.int (0 : Int32))) (fun h => by rw [Bd.returns] at h; cases h)
  refine ⟨_, _, G _ (retOut X2 hx Bd.returns rfl (Or.inl ⟨rfl, Or.inr (Or.inl rfl), _, rfl⟩) (hb hby d4_14) hr), hrun, hended, _, _, rfl, ?_, ⟨_, rfl⟩, hW, hsame.mono (by decide) (by decide)⟩
  show Q4n0m3 Z a d kd f0 f1 f2 h0 n0 _ T2.heap _
  rw [e2]
  exact ⟨rfl, N0, rfl⟩
theorem ef_4n1m0 (m : MethodId) (x0 : Addr) (x1 : Addr) : entryFrame m #[(.ref x0), (.ref x1)] 3 = mkF m 0 #[.val (.ref x0), .val (.ref x1), .unset] [] := by first | (simp [entryFrame, mkF, argsToLocals, Value.category]; done) | rfl
def Q4n1m0 (Z : State) (a : Addr) (d : Addr) (kd : ClassId) (h0 : Heap) (n0 : Nat) (v : Option Value) (h : Heap) (L : List Loc) : Prop := v = some (.int (0 : Int32)) ∧ Fr n0 L ∧ h = h0
set_option maxRecDepth 65536 in
set_option maxHeartbeats 40000000 in
theorem rm4n1m0 (l : Launch) (Z : State) (a0 : Array Value) (hw : ∀ d ∈ tables_1, d.before a0 Z = true) (ws : List Jvm.Cond) (a : Addr) (d : Addr) (kd : ClassId) (h0 : Heap) (n0 : Nat) (Z0 : n0 ≤ h0.size) (P0 : Fld Z h0 a "com/example/leafcutter/leafcutter/io/TextBuffer" "length" "I" (.int (1 : Int32))) (P1 : Arv Z h0 d kd .char (0 : Int32) [] (.int (0 : Int32))) :
    MetFree l (⟨"com/example/leafcutter/leafcutter/io/TextBuffer", "contentEquals", "([C)Z"⟩ : MethodName) (head1 (Jvm.Cond.code (⟨"com/example/leafcutter/leafcutter/io/TextBuffer", "contentEquals", "([C)Z"⟩ : MethodName) prog_6_method_17_code 3 (some .boolean) :: ws) ({ frames := 0, cells := 0, slots := 0, locals := 0 } : Room)) (fun argz U => argz = #[(.ref a), (.ref d)] ∧ Z.Warmed39 U.vm ∧ U.heap = h0) (fun _ _ _ _ _ => True) (fun _ U o U' => ∃ v L, o = .returned v ∧ Q4n1m0 Z a d kd h0 n0 v U'.heap L ∧ FrameEnd U o U' L ({ frames := 0, cells := 0, slots := 0, locals := 0 } : Room).cells ({ frames := 0, cells := 0, slots := 0, locals := 0 } : Room).slots) := by
  refine MetFree.of_bodySF (plainFor_of_name pn_com_example_leafcutter_leafcutter_io_TextBuffer) hisR ?_
  intro p e s m args below meth c s₁ Bd hml0 hP hK
  obtain ⟨rfl, hZ, hh⟩ := hP
  have hx := Bd.exec
  have hby := Bd.bytes
  have hml : c.maxLocals = 3 := hml0
  have hown : s.vm.findClass "com/example/leafcutter/leafcutter/io/TextBuffer" = some m.cls := findClass_of_methodNamed Bd.named
  have hnm := (name_of_methodNamed Bd.named Bd.method).1
  have X0 : Stand p l e ({ frames := 0, cells := 0, slots := 0, locals := 0 } : Room) s m #[(.ref a), (.ref d)] below meth c s₁ [] 0 0 := Stand.of_body Bd
  have e0 : s₁.heap = h0 := by rw [← hh, Bd.state]; rfl
  have N0 := Fr.nil n0
  have G : Gets p e below (s₁.setTop (entryFrame m #[(.ref a), (.ref d)] 3)) (s₁.setTop (mkF m 0 #[.val (.ref a), .val (.ref d), .unset] [])) := fun t k => castTop (ef_4n1m0 m a d) k
  replace G := own_aloadN (q := 1) G X0.here hx (hb hby d4_0) rfl rfl rfl
  replace G := own_ifnullNo (q := 4) G X0.here hx (hb hby d4_1) rfl
  replace G := own_aloadN (q := 5) G X0.here hx (hb hby d4_4) rfl rfl rfl
  obtain ⟨c1, Ar1, -, S1, N1', -, -⟩ := id P1
  replace G : Gets p e below _ (s₁.setTop (mkF m 6 #[.val (.ref a), .val (.ref d), .unset] [(.int (0 : Int32))])) := fun t k => G t (X0.arraylength hx (by rw [e0]; exact Ar1.1) (State.isArrayOf_alike hZ.alike Ar1.2.1) (g := (mkF m 5 #[.val (.ref a), .val (.ref d), .unset] [(.ref d)])) rfl rfl (hb hby d4_5) t (by rw [len_of S1 N1']; exact k))
  replace G := own_aloadN (q := 7) G X0.here hx (hb hby d4_6) rfl rfl rfl
  obtain ⟨T2, X2, e2, st2⟩ := getF X0 hx hZ hown (host := "") (Or.inl (hw _ (List.mem_of_getElem? (i := 27) rfl))) Via.refl e0 P0 (g := (mkF m 7 #[.val (.ref a), .val (.ref d), .unset] [(.ref a), (.int (0 : Int32))])) rfl rfl (hb hby d4_7)
  replace G : Gets p e below _ (T2.setTop (mkF m 10 #[.val (.ref a), .val (.ref d), .unset] [(.int (1 : Int32)), (.int (0 : Int32))])) := fun t k => G t (st2 t k)
  have hc10_3 : ¬ ((0 : Int32) = (1 : Int32)) := by decide
  replace G := own_icmpNo (q := 13) G X2.here hx (hb hby d4_10) (feq hc10_3).1 rfl
  replace G := own_iconst (q := 14) G X2.here hx (hb hby d4_13) (v := (0 : Int32)) (by decide) rfl
  obtain ⟨fs, hr, hrun, hended, hW, hsame⟩ := X2.leave (v := some (.int (0 : Int32))) (fun h => by rw [Bd.returns] at h; cases h)
  refine ⟨_, _, G _ (retOut X2 hx Bd.returns rfl (Or.inl ⟨rfl, Or.inr (Or.inl rfl), _, rfl⟩) (hb hby d4_14) hr), hrun, hended, _, _, rfl, ?_, ⟨_, rfl⟩, hW, hsame.mono (by decide) (by decide)⟩
  show Q4n1m0 Z a d kd h0 n0 _ T2.heap _
  rw [e2]
  exact ⟨rfl, N0, rfl⟩
theorem d4_25 : decode prog_6_method_17_code 25 = .ok (.aload_n 0, 1) := by decide +kernel
theorem d4_26 : decode prog_6_method_17_code 26 = .ok (.getfield 19, 3) := by decide +kernel
theorem d4_29 : decode prog_6_method_17_code 29 = .ok (.iload_n 2, 1) := by decide +kernel
theorem d4_30 : decode prog_6_method_17_code 30 = .ok (.caload, 1) := by decide +kernel
theorem d4_31 : decode prog_6_method_17_code 31 = .ok (.aload_n 1, 1) := by decide +kernel
theorem d4_32 : decode prog_6_method_17_code 32 = .ok (.iload_n 2, 1) := by decide +kernel
theorem d4_33 : decode prog_6_method_17_code 33 = .ok (.caload, 1) := by decide +kernel
theorem d4_34 : decode prog_6_method_17_code 34 = .ok (.if_icmp .eq 5, 3) := by decide +kernel
theorem d4_37 : decode prog_6_method_17_code 37 = .ok (.iconst 0, 1) := by decide +kernel
theorem d4_38 : decode prog_6_method_17_code 38 = .ok (.ireturn, 1) := by decide +kernel
theorem d4_39 : decode prog_6_method_17_code 39 = .ok (.iinc 2 1, 3) := by decide +kernel
theorem d4_42 : decode prog_6_method_17_code 42 = .ok (.goto (-25), 3) := by decide +kernel
theorem ef_4n1m1 (m : MethodId) (x0 : Addr) (x1 : Addr) : entryFrame m #[(.ref x0), (.ref x1)] 3 = mkF m 0 #[.val (.ref x0), .val (.ref x1), .unset] [] := by first | (simp [entryFrame, mkF, argsToLocals, Value.category]; done) | rfl
def Q4n1m1 (Z : State) (a : Addr) (d : Addr) (b : Addr) (kb : ClassId) (kd : ClassId) (ec0 : Int32) (f0 : Int32) (h0 : Heap) (n0 : Nat) (v : Option Value) (h : Heap) (L : List Loc) : Prop := v = some (.int (own_ce1 ec0 f0)) ∧ Fr n0 L ∧ h = h0
set_option maxRecDepth 65536 in
set_option maxHeartbeats 40000000 in
theorem rm4n1m1 (l : Launch) (Z : State) (a0 : Array Value) (hw : ∀ d ∈ tables_1, d.before a0 Z = true) (ws : List Jvm.Cond) (a : Addr) (d : Addr) (b : Addr) (kb : ClassId) (kd : ClassId) (ec0 : Int32) (f0 : Int32) (h0 : Heap) (n0 : Nat) (Z0 : n0 ≤ h0.size) (P0 : Fld Z h0 a "com/example/leafcutter/leafcutter/io/TextBuffer" "chars" "[C" (.ref b)) (P1 : Fld Z h0 a "com/example/leafcutter/leafcutter/io/TextBuffer" "length" "I" (.int (1 : Int32))) (P2 : Arv Z h0 b kb .char (16 : Int32) [(.int ec0), (.int (0 : Int32)), (.int (0 : Int32)), (.int (0 : Int32)), (.int (0 : Int32)), (.int (0 : Int32)), (.int (0 : Int32)), (.int (0 : Int32)), (.int (0 : Int32)), (.int (0 : Int32)), (.int (0 : Int32)), (.int (0 : Int32)), (.int (0 : Int32)), (.int (0 : Int32)), (.int (0 : Int32)), (.int (0 : Int32))] (.int (0 : Int32))) (P3 : Arv Z h0 d kd .char (1 : Int32) [(.int f0)] (.int (0 : Int32))) :
    MetFree l (⟨"com/example/leafcutter/leafcutter/io/TextBuffer", "contentEquals", "([C)Z"⟩ : MethodName) (head1 (Jvm.Cond.code (⟨"com/example/leafcutter/leafcutter/io/TextBuffer", "contentEquals", "([C)Z"⟩ : MethodName) prog_6_method_17_code 3 (some .boolean) :: ws) ({ frames := 0, cells := 0, slots := 0, locals := 0 } : Room)) (fun argz U => argz = #[(.ref a), (.ref d)] ∧ Z.Warmed39 U.vm ∧ U.heap = h0) (fun _ _ _ _ _ => True) (fun _ U o U' => ∃ v L, o = .returned v ∧ Q4n1m1 Z a d b kb kd ec0 f0 h0 n0 v U'.heap L ∧ FrameEnd U o U' L ({ frames := 0, cells := 0, slots := 0, locals := 0 } : Room).cells ({ frames := 0, cells := 0, slots := 0, locals := 0 } : Room).slots) := by
  refine MetFree.of_bodySF (plainFor_of_name pn_com_example_leafcutter_leafcutter_io_TextBuffer) hisR ?_
  intro p e s m args below meth c s₁ Bd hml0 hP hK
  obtain ⟨rfl, hZ, hh⟩ := hP
  have hx := Bd.exec
  have hby := Bd.bytes
  have hml : c.maxLocals = 3 := hml0
  have hown : s.vm.findClass "com/example/leafcutter/leafcutter/io/TextBuffer" = some m.cls := findClass_of_methodNamed Bd.named
  have hnm := (name_of_methodNamed Bd.named Bd.method).1
  have X0 : Stand p l e ({ frames := 0, cells := 0, slots := 0, locals := 0 } : Room) s m #[(.ref a), (.ref d)] below meth c s₁ [] 0 0 := Stand.of_body Bd
  have e0 : s₁.heap = h0 := by rw [← hh, Bd.state]; rfl
  have N0 := Fr.nil n0
  have G : Gets p e below (s₁.setTop (entryFrame m #[(.ref a), (.ref d)] 3)) (s₁.setTop (mkF m 0 #[.val (.ref a), .val (.ref d), .unset] [])) := fun t k => castTop (ef_4n1m1 m a d) k
  replace G := own_aloadN (q := 1) G X0.here hx (hb hby d4_0) rfl rfl rfl
  replace G := own_ifnullNo (q := 4) G X0.here hx (hb hby d4_1) rfl
  replace G := own_aloadN (q := 5) G X0.here hx (hb hby d4_4) rfl rfl rfl
  obtain ⟨c1, Ar1, -, S1, N1', -, -⟩ := id P3
  replace G : Gets p e below _ (s₁.setTop (mkF m 6 #[.val (.ref a), .val (.ref d), .unset] [(.int (1 : Int32))])) := fun t k => G t (X0.arraylength hx (by rw [e0]; exact Ar1.1) (State.isArrayOf_alike hZ.alike Ar1.2.1) (g := (mkF m 5 #[.val (.ref a), .val (.ref d), .unset] [(.ref d)])) rfl rfl (hb hby d4_5) t (by rw [len_of S1 N1']; exact k))
  replace G := own_aloadN (q := 7) G X0.here hx (hb hby d4_6) rfl rfl rfl
  obtain ⟨T2, X2, e2, st2⟩ := getF X0 hx hZ hown (host := "") (Or.inl (hw _ (List.mem_of_getElem? (i := 27) rfl))) Via.refl e0 P1 (g := (mkF m 7 #[.val (.ref a), .val (.ref d), .unset] [(.ref a), (.int (1 : Int32))])) rfl rfl (hb hby d4_7)
  replace G : Gets p e below _ (T2.setTop (mkF m 10 #[.val (.ref a), .val (.ref d), .unset] [(.int (1 : Int32)), (.int (1 : Int32))])) := fun t k => G t (st2 t k)
  have hc10_3 : (1 : Int32) = (1 : Int32) := by decide
  replace G := own_icmpYes (q := 15) G X2.here hx (hb hby d4_10) (teq hc10_3).1 (by decide) (by decide)
  replace G := own_iconst (q := 16) G X2.here hx (hb hby d4_15) (v := (0 : Int32)) (by decide) rfl
  replace G := own_istoreN (q := 17) (l' := #[.val (.ref a), .val (.ref d), .val (.int (0 : Int32))]) G X2.here hx (hb hby d4_16) rfl rfl
  replace G := own_iloadN (q := 18) G X2.here hx (hb hby d4_17) rfl rfl
  replace G := own_aloadN (q := 19) G X2.here hx (hb hby d4_18) rfl rfl rfl
  obtain ⟨T4, X4, e4, st4⟩ := getF X2 hx hZ hown (host := "") (Or.inl (hw _ (List.mem_of_getElem? (i := 27) rfl))) Via.refl e2 P1 (g := (mkF m 19 #[.val (.ref a), .val (.ref d), .val (.int (0 : Int32))] [(.ref a), (.int (0 : Int32))])) rfl rfl (hb hby d4_19)
  replace G : Gets p e below _ (T4.setTop (mkF m 22 #[.val (.ref a), .val (.ref d), .val (.int (0 : Int32))] [(.int (1 : Int32)), (.int (0 : Int32))])) := fun t k => G t (st4 t k)
  have hc22_5 : (0 : Int32) < (1 : Int32) := by decide
  replace G := own_icmpNo (q := 25) G X4.here hx (hb hby d4_22) (tlt hc22_5).2.1 rfl
  replace G := own_aloadN (q := 26) G X4.here hx (hb hby d4_25) rfl rfl rfl
  obtain ⟨T6, X6, e6, st6⟩ := getF X4 hx hZ hown (host := "") (Or.inl (hw _ (List.mem_of_getElem? (i := 15) rfl))) Via.refl e4 P0 (g := (mkF m 26 #[.val (.ref a), .val (.ref d), .val (.int (0 : Int32))] [(.ref a)])) rfl rfl (hb hby d4_26)
  replace G : Gets p e below _ (T6.setTop (mkF m 29 #[.val (.ref a), .val (.ref d), .val (.int (0 : Int32))] [(.ref b)])) := fun t k => G t (st6 t k)
  replace G := own_iloadN (q := 30) G X6.here hx (hb hby d4_29) rfl rfl
  obtain ⟨c7, Ar7, -, S7, -, H7, -⟩ := id P2
  have hin7 : ¬ ((0 : Int32) < 0 ∨ c7.slots.size ≤ ((0 : Int32)).toNatClampNeg) := inb_of S7 ⟨by decide, by decide⟩
  replace G : Gets p e below _ (T6.setTop (mkF m 31 #[.val (.ref a), .val (.ref d), .val (.int (0 : Int32))] [(.int ec0)])) := fun t k => G t (X6.caload hx (j := (0 : Int32)) (v := (.int ec0)) (by rw [e6]; exact Ar7.1) (State.isArrayOf_alike hZ.alike Ar7.2.1) Ar7.2.2 hin7 (Has.at H7 hin7 rfl) (g := (mkF m 30 #[.val (.ref a), .val (.ref d), .val (.int (0 : Int32))] [(.int (0 : Int32)), (.ref b)])) rfl rfl (hb hby d4_30) t k)
  replace G := own_aloadN (q := 32) G X6.here hx (hb hby d4_31) rfl rfl rfl
  replace G := own_iloadN (q := 33) G X6.here hx (hb hby d4_32) rfl rfl
  obtain ⟨c8, Ar8, -, S8, -, H8, -⟩ := id P3
  have hin8 : ¬ ((0 : Int32) < 0 ∨ c8.slots.size ≤ ((0 : Int32)).toNatClampNeg) := inb_of S8 ⟨by decide, by decide⟩
  replace G : Gets p e below _ (T6.setTop (mkF m 34 #[.val (.ref a), .val (.ref d), .val (.int (0 : Int32))] [(.int f0), (.int ec0)])) := fun t k => G t (X6.caload hx (j := (0 : Int32)) (v := (.int f0)) (by rw [e6]; exact Ar8.1) (State.isArrayOf_alike hZ.alike Ar8.2.1) Ar8.2.2 hin8 (Has.at H8 hin8 rfl) (g := (mkF m 33 #[.val (.ref a), .val (.ref d), .val (.int (0 : Int32))] [(.int (0 : Int32)), (.ref d), (.int ec0)])) rfl rfl (hb hby d4_33) t k)
  by_cases hc34_9 : ec0 = f0
  · replace G := own_icmpYes (q := 39) G X6.here hx (hb hby d4_34) (teq hc34_9).1 (by decide) (by decide)
    replace G := own_iinc (q := 42) (l' := #[.val (.ref a), .val (.ref d), .val (.int (1 : Int32))]) (w := (1 : Int32)) G X6.here hx (hb hby d4_39) (by decide) rfl (by decide : ((0 : Int32) + (1 : Int32)) = (1 : Int32)) rfl rfl
    replace G := own_goto (q := 17) G X6.here hx (hb hby d4_42) (by decide) (by decide)
    replace G := own_iloadN (q := 18) G X6.here hx (hb hby d4_17) rfl rfl
    replace G := own_aloadN (q := 19) G X6.here hx (hb hby d4_18) rfl rfl rfl
    obtain ⟨T10, X10, e10, st10⟩ := getF X6 hx hZ hown (host := "") (Or.inl (hw _ (List.mem_of_getElem? (i := 27) rfl))) Via.refl e6 P1 (g := (mkF m 19 #[.val (.ref a), .val (.ref d), .val (.int (1 : Int32))] [(.ref a), (.int (1 : Int32))])) rfl rfl (hb hby d4_19)
    replace G : Gets p e below _ (T10.setTop (mkF m 22 #[.val (.ref a), .val (.ref d), .val (.int (1 : Int32))] [(.int (1 : Int32)), (.int (1 : Int32))])) := fun t k => G t (st10 t k)
    have hc22_11 : ¬ ((1 : Int32) < (1 : Int32)) := by decide
    replace G := own_icmpYes (q := 45) G X10.here hx (hb hby d4_22) (flt hc22_11).2.1 (by decide) (by decide)
    replace G := own_iconst (q := 46) G X10.here hx (hb hby d4_45) (v := (1 : Int32)) (by decide) rfl
    obtain ⟨fs, hr, hrun, hended, hW, hsame⟩ := X10.leave (v := some (.int (1 : Int32))) (fun h => by rw [Bd.returns] at h; cases h)
    refine ⟨_, _, G _ (retOut X10 hx Bd.returns rfl (Or.inl ⟨rfl, Or.inr (Or.inl rfl), _, rfl⟩) (hb hby d4_46) hr), hrun, hended, _, _, rfl, ?_, ⟨_, rfl⟩, hW, hsame.mono (by decide) (by decide)⟩
    show Q4n1m1 Z a d b kb kd ec0 f0 h0 n0 _ T10.heap _
    rw [e10]
    exact ⟨(congrArg (fun z => some (Value.int z)) (by simp [own_ce1, own_ce2, own_ce3, hc34_9])), N0, rfl⟩
  · replace G := own_icmpNo (q := 37) G X6.here hx (hb hby d4_34) (feq hc34_9).1 rfl
    replace G := own_iconst (q := 38) G X6.here hx (hb hby d4_37) (v := (0 : Int32)) (by decide) rfl
    obtain ⟨fs, hr, hrun, hended, hW, hsame⟩ := X6.leave (v := some (.int (0 : Int32))) (fun h => by rw [Bd.returns] at h; cases h)
    refine ⟨_, _, G _ (retOut X6 hx Bd.returns rfl (Or.inl ⟨rfl, Or.inr (Or.inl rfl), _, rfl⟩) (hb hby d4_38) hr), hrun, hended, _, _, rfl, ?_, ⟨_, rfl⟩, hW, hsame.mono (by decide) (by decide)⟩
    show Q4n1m1 Z a d b kb kd ec0 f0 h0 n0 _ T6.heap _
    rw [e6]
    exact ⟨(congrArg (fun z => some (Value.int z)) (by simp [own_ce1, own_ce2, own_ce3, hc34_9])), N0, rfl⟩
theorem ef_4n1m2 (m : MethodId) (x0 : Addr) (x1 : Addr) : entryFrame m #[(.ref x0), (.ref x1)] 3 = mkF m 0 #[.val (.ref x0), .val (.ref x1), .unset] [] := by first | (simp [entryFrame, mkF, argsToLocals, Value.category]; done) | rfl
def Q4n1m2 (Z : State) (a : Addr) (d : Addr) (kd : ClassId) (f0 : Int32) (f1 : Int32) (h0 : Heap) (n0 : Nat) (v : Option Value) (h : Heap) (L : List Loc) : Prop := v = some (.int (0 : Int32)) ∧ Fr n0 L ∧ h = h0
set_option maxRecDepth 65536 in
set_option maxHeartbeats 40000000 in
theorem rm4n1m2 (l : Launch) (Z : State) (a0 : Array Value) (hw : ∀ d ∈ tables_1, d.before a0 Z = true) (ws : List Jvm.Cond) (a : Addr) (d : Addr) (kd : ClassId) (f0 : Int32) (f1 : Int32) (h0 : Heap) (n0 : Nat) (Z0 : n0 ≤ h0.size) (P0 : Fld Z h0 a "com/example/leafcutter/leafcutter/io/TextBuffer" "length" "I" (.int (1 : Int32))) (P1 : Arv Z h0 d kd .char (2 : Int32) [(.int f0), (.int f1)] (.int (0 : Int32))) :
    MetFree l (⟨"com/example/leafcutter/leafcutter/io/TextBuffer", "contentEquals", "([C)Z"⟩ : MethodName) (head1 (Jvm.Cond.code (⟨"com/example/leafcutter/leafcutter/io/TextBuffer", "contentEquals", "([C)Z"⟩ : MethodName) prog_6_method_17_code 3 (some .boolean) :: ws) ({ frames := 0, cells := 0, slots := 0, locals := 0 } : Room)) (fun argz U => argz = #[(.ref a), (.ref d)] ∧ Z.Warmed39 U.vm ∧ U.heap = h0) (fun _ _ _ _ _ => True) (fun _ U o U' => ∃ v L, o = .returned v ∧ Q4n1m2 Z a d kd f0 f1 h0 n0 v U'.heap L ∧ FrameEnd U o U' L ({ frames := 0, cells := 0, slots := 0, locals := 0 } : Room).cells ({ frames := 0, cells := 0, slots := 0, locals := 0 } : Room).slots) := by
  refine MetFree.of_bodySF (plainFor_of_name pn_com_example_leafcutter_leafcutter_io_TextBuffer) hisR ?_
  intro p e s m args below meth c s₁ Bd hml0 hP hK
  obtain ⟨rfl, hZ, hh⟩ := hP
  have hx := Bd.exec
  have hby := Bd.bytes
  have hml : c.maxLocals = 3 := hml0
  have hown : s.vm.findClass "com/example/leafcutter/leafcutter/io/TextBuffer" = some m.cls := findClass_of_methodNamed Bd.named
  have hnm := (name_of_methodNamed Bd.named Bd.method).1
  have X0 : Stand p l e ({ frames := 0, cells := 0, slots := 0, locals := 0 } : Room) s m #[(.ref a), (.ref d)] below meth c s₁ [] 0 0 := Stand.of_body Bd
  have e0 : s₁.heap = h0 := by rw [← hh, Bd.state]; rfl
  have N0 := Fr.nil n0
  have G : Gets p e below (s₁.setTop (entryFrame m #[(.ref a), (.ref d)] 3)) (s₁.setTop (mkF m 0 #[.val (.ref a), .val (.ref d), .unset] [])) := fun t k => castTop (ef_4n1m2 m a d) k
  replace G := own_aloadN (q := 1) G X0.here hx (hb hby d4_0) rfl rfl rfl
  replace G := own_ifnullNo (q := 4) G X0.here hx (hb hby d4_1) rfl
  replace G := own_aloadN (q := 5) G X0.here hx (hb hby d4_4) rfl rfl rfl
  obtain ⟨c1, Ar1, -, S1, N1', -, -⟩ := id P1
  replace G : Gets p e below _ (s₁.setTop (mkF m 6 #[.val (.ref a), .val (.ref d), .unset] [(.int (2 : Int32))])) := fun t k => G t (X0.arraylength hx (by rw [e0]; exact Ar1.1) (State.isArrayOf_alike hZ.alike Ar1.2.1) (g := (mkF m 5 #[.val (.ref a), .val (.ref d), .unset] [(.ref d)])) rfl rfl (hb hby d4_5) t (by rw [len_of S1 N1']; exact k))
  replace G := own_aloadN (q := 7) G X0.here hx (hb hby d4_6) rfl rfl rfl
  obtain ⟨T2, X2, e2, st2⟩ := getF X0 hx hZ hown (host := "") (Or.inl (hw _ (List.mem_of_getElem? (i := 27) rfl))) Via.refl e0 P0 (g := (mkF m 7 #[.val (.ref a), .val (.ref d), .unset] [(.ref a), (.int (2 : Int32))])) rfl rfl (hb hby d4_7)
  replace G : Gets p e below _ (T2.setTop (mkF m 10 #[.val (.ref a), .val (.ref d), .unset] [(.int (1 : Int32)), (.int (2 : Int32))])) := fun t k => G t (st2 t k)
  have hc10_3 : ¬ ((2 : Int32) = (1 : Int32)) := by decide
  replace G := own_icmpNo (q := 13) G X2.here hx (hb hby d4_10) (feq hc10_3).1 rfl
  replace G := own_iconst (q := 14) G X2.here hx (hb hby d4_13) (v := (0 : Int32)) (by decide) rfl
  obtain ⟨fs, hr, hrun, hended, hW, hsame⟩ := X2.leave (v := some (.int (0 : Int32))) (fun h => by rw [Bd.returns] at h; cases h)
  refine ⟨_, _, G _ (retOut X2 hx Bd.returns rfl (Or.inl ⟨rfl, Or.inr (Or.inl rfl), _, rfl⟩) (hb hby d4_14) hr), hrun, hended, _, _, rfl, ?_, ⟨_, rfl⟩, hW, hsame.mono (by decide) (by decide)⟩
  show Q4n1m2 Z a d kd f0 f1 h0 n0 _ T2.heap _
  rw [e2]
  exact ⟨rfl, N0, rfl⟩
theorem ef_4n1m3 (m : MethodId) (x0 : Addr) (x1 : Addr) : entryFrame m #[(.ref x0), (.ref x1)] 3 = mkF m 0 #[.val (.ref x0), .val (.ref x1), .unset] [] := by first | (simp [entryFrame, mkF, argsToLocals, Value.category]; done) | rfl
def Q4n1m3 (Z : State) (a : Addr) (d : Addr) (kd : ClassId) (f0 : Int32) (f1 : Int32) (f2 : Int32) (h0 : Heap) (n0 : Nat) (v : Option Value) (h : Heap) (L : List Loc) : Prop := v = some (.int (0 : Int32)) ∧ Fr n0 L ∧ h = h0
set_option maxRecDepth 65536 in
set_option maxHeartbeats 40000000 in
theorem rm4n1m3 (l : Launch) (Z : State) (a0 : Array Value) (hw : ∀ d ∈ tables_1, d.before a0 Z = true) (ws : List Jvm.Cond) (a : Addr) (d : Addr) (kd : ClassId) (f0 : Int32) (f1 : Int32) (f2 : Int32) (h0 : Heap) (n0 : Nat) (Z0 : n0 ≤ h0.size) (P0 : Fld Z h0 a "com/example/leafcutter/leafcutter/io/TextBuffer" "length" "I" (.int (1 : Int32))) (P1 : Arv Z h0 d kd .char (3 : Int32) [(.int f0), (.int f1), (.int f2)] (.int (0 : Int32))) :
    MetFree l (⟨"com/example/leafcutter/leafcutter/io/TextBuffer", "contentEquals", "([C)Z"⟩ : MethodName) (head1 (Jvm.Cond.code (⟨"com/example/leafcutter/leafcutter/io/TextBuffer", "contentEquals", "([C)Z"⟩ : MethodName) prog_6_method_17_code 3 (some .boolean) :: ws) ({ frames := 0, cells := 0, slots := 0, locals := 0 } : Room)) (fun argz U => argz = #[(.ref a), (.ref d)] ∧ Z.Warmed39 U.vm ∧ U.heap = h0) (fun _ _ _ _ _ => True) (fun _ U o U' => ∃ v L, o = .returned v ∧ Q4n1m3 Z a d kd f0 f1 f2 h0 n0 v U'.heap L ∧ FrameEnd U o U' L ({ frames := 0, cells := 0, slots := 0, locals := 0 } : Room).cells ({ frames := 0, cells := 0, slots := 0, locals := 0 } : Room).slots) := by
  refine MetFree.of_bodySF (plainFor_of_name pn_com_example_leafcutter_leafcutter_io_TextBuffer) hisR ?_
  intro p e s m args below meth c s₁ Bd hml0 hP hK
  obtain ⟨rfl, hZ, hh⟩ := hP
  have hx := Bd.exec
  have hby := Bd.bytes
  have hml : c.maxLocals = 3 := hml0
  have hown : s.vm.findClass "com/example/leafcutter/leafcutter/io/TextBuffer" = some m.cls := findClass_of_methodNamed Bd.named
  have hnm := (name_of_methodNamed Bd.named Bd.method).1
  have X0 : Stand p l e ({ frames := 0, cells := 0, slots := 0, locals := 0 } : Room) s m #[(.ref a), (.ref d)] below meth c s₁ [] 0 0 := Stand.of_body Bd
  have e0 : s₁.heap = h0 := by rw [← hh, Bd.state]; rfl
  have N0 := Fr.nil n0
  have G : Gets p e below (s₁.setTop (entryFrame m #[(.ref a), (.ref d)] 3)) (s₁.setTop (mkF m 0 #[.val (.ref a), .val (.ref d), .unset] [])) := fun t k => castTop (ef_4n1m3 m a d) k
  replace G := own_aloadN (q := 1) G X0.here hx (hb hby d4_0) rfl rfl rfl
  replace G := own_ifnullNo (q := 4) G X0.here hx (hb hby d4_1) rfl
  replace G := own_aloadN (q := 5) G X0.here hx (hb hby d4_4) rfl rfl rfl
  obtain ⟨c1, Ar1, -, S1, N1', -, -⟩ := id P1
  replace G : Gets p e below _ (s₁.setTop (mkF m 6 #[.val (.ref a), .val (.ref d), .unset] [(.int (3 : Int32))])) := fun t k => G t (X0.arraylength hx (by rw [e0]; exact Ar1.1) (State.isArrayOf_alike hZ.alike Ar1.2.1) (g := (mkF m 5 #[.val (.ref a), .val (.ref d), .unset] [(.ref d)])) rfl rfl (hb hby d4_5) t (by rw [len_of S1 N1']; exact k))
  replace G := own_aloadN (q := 7) G X0.here hx (hb hby d4_6) rfl rfl rfl
  obtain ⟨T2, X2, e2, st2⟩ := getF X0 hx hZ hown (host := "") (Or.inl (hw _ (List.mem_of_getElem? (i := 27) rfl))) Via.refl e0 P0 (g := (mkF m 7 #[.val (.ref a), .val (.ref d), .unset] [(.ref a), (.int (3 : Int32))])) rfl rfl (hb hby d4_7)
  replace G : Gets p e below _ (T2.setTop (mkF m 10 #[.val (.ref a), .val (.ref d), .unset] [(.int (1 : Int32)), (.int (3 : Int32))])) := fun t k => G t (st2 t k)
  have hc10_3 : ¬ ((3 : Int32) = (1 : Int32)) := by decide
  replace G := own_icmpNo (q := 13) G X2.here hx (hb hby d4_10) (feq hc10_3).1 rfl
  replace G := own_iconst (q := 14) G X2.here hx (hb hby d4_13) (v := (0 : Int32)) (by decide) rfl
  obtain ⟨fs, hr, hrun, hended, hW, hsame⟩ := X2.leave (v := some (.int (0 : Int32))) (fun h => by rw [Bd.returns] at h; cases h)
  refine ⟨_, _, G _ (retOut X2 hx Bd.returns rfl (Or.inl ⟨rfl, Or.inr (Or.inl rfl), _, rfl⟩) (hb hby d4_14) hr), hrun, hended, _, _, rfl, ?_, ⟨_, rfl⟩, hW, hsame.mono (by decide) (by decide)⟩
  show Q4n1m3 Z a d kd f0 f1 f2 h0 n0 _ T2.heap _
  rw [e2]
  exact ⟨rfl, N0, rfl⟩
theorem ef_4n2m0 (m : MethodId) (x0 : Addr) (x1 : Addr) : entryFrame m #[(.ref x0), (.ref x1)] 3 = mkF m 0 #[.val (.ref x0), .val (.ref x1), .unset] [] := by first | (simp [entryFrame, mkF, argsToLocals, Value.category]; done) | rfl
def Q4n2m0 (Z : State) (a : Addr) (d : Addr) (kd : ClassId) (h0 : Heap) (n0 : Nat) (v : Option Value) (h : Heap) (L : List Loc) : Prop := v = some (.int (0 : Int32)) ∧ Fr n0 L ∧ h = h0
set_option maxRecDepth 65536 in
set_option maxHeartbeats 40000000 in
theorem rm4n2m0 (l : Launch) (Z : State) (a0 : Array Value) (hw : ∀ d ∈ tables_1, d.before a0 Z = true) (ws : List Jvm.Cond) (a : Addr) (d : Addr) (kd : ClassId) (h0 : Heap) (n0 : Nat) (Z0 : n0 ≤ h0.size) (P0 : Fld Z h0 a "com/example/leafcutter/leafcutter/io/TextBuffer" "length" "I" (.int (2 : Int32))) (P1 : Arv Z h0 d kd .char (0 : Int32) [] (.int (0 : Int32))) :
    MetFree l (⟨"com/example/leafcutter/leafcutter/io/TextBuffer", "contentEquals", "([C)Z"⟩ : MethodName) (head1 (Jvm.Cond.code (⟨"com/example/leafcutter/leafcutter/io/TextBuffer", "contentEquals", "([C)Z"⟩ : MethodName) prog_6_method_17_code 3 (some .boolean) :: ws) ({ frames := 0, cells := 0, slots := 0, locals := 0 } : Room)) (fun argz U => argz = #[(.ref a), (.ref d)] ∧ Z.Warmed39 U.vm ∧ U.heap = h0) (fun _ _ _ _ _ => True) (fun _ U o U' => ∃ v L, o = .returned v ∧ Q4n2m0 Z a d kd h0 n0 v U'.heap L ∧ FrameEnd U o U' L ({ frames := 0, cells := 0, slots := 0, locals := 0 } : Room).cells ({ frames := 0, cells := 0, slots := 0, locals := 0 } : Room).slots) := by
  refine MetFree.of_bodySF (plainFor_of_name pn_com_example_leafcutter_leafcutter_io_TextBuffer) hisR ?_
  intro p e s m args below meth c s₁ Bd hml0 hP hK
  obtain ⟨rfl, hZ, hh⟩ := hP
  have hx := Bd.exec
  have hby := Bd.bytes
  have hml : c.maxLocals = 3 := hml0
  have hown : s.vm.findClass "com/example/leafcutter/leafcutter/io/TextBuffer" = some m.cls := findClass_of_methodNamed Bd.named
  have hnm := (name_of_methodNamed Bd.named Bd.method).1
  have X0 : Stand p l e ({ frames := 0, cells := 0, slots := 0, locals := 0 } : Room) s m #[(.ref a), (.ref d)] below meth c s₁ [] 0 0 := Stand.of_body Bd
  have e0 : s₁.heap = h0 := by rw [← hh, Bd.state]; rfl
  have N0 := Fr.nil n0
  have G : Gets p e below (s₁.setTop (entryFrame m #[(.ref a), (.ref d)] 3)) (s₁.setTop (mkF m 0 #[.val (.ref a), .val (.ref d), .unset] [])) := fun t k => castTop (ef_4n2m0 m a d) k
  replace G := own_aloadN (q := 1) G X0.here hx (hb hby d4_0) rfl rfl rfl
  replace G := own_ifnullNo (q := 4) G X0.here hx (hb hby d4_1) rfl
  replace G := own_aloadN (q := 5) G X0.here hx (hb hby d4_4) rfl rfl rfl
  obtain ⟨c1, Ar1, -, S1, N1', -, -⟩ := id P1
  replace G : Gets p e below _ (s₁.setTop (mkF m 6 #[.val (.ref a), .val (.ref d), .unset] [(.int (0 : Int32))])) := fun t k => G t (X0.arraylength hx (by rw [e0]; exact Ar1.1) (State.isArrayOf_alike hZ.alike Ar1.2.1) (g := (mkF m 5 #[.val (.ref a), .val (.ref d), .unset] [(.ref d)])) rfl rfl (hb hby d4_5) t (by rw [len_of S1 N1']; exact k))
  replace G := own_aloadN (q := 7) G X0.here hx (hb hby d4_6) rfl rfl rfl
  obtain ⟨T2, X2, e2, st2⟩ := getF X0 hx hZ hown (host := "") (Or.inl (hw _ (List.mem_of_getElem? (i := 27) rfl))) Via.refl e0 P0 (g := (mkF m 7 #[.val (.ref a), .val (.ref d), .unset] [(.ref a), (.int (0 : Int32))])) rfl rfl (hb hby d4_7)
  replace G : Gets p e below _ (T2.setTop (mkF m 10 #[.val (.ref a), .val (.ref d), .unset] [(.int (2 : Int32)), (.int (0 : Int32))])) := fun t k => G t (st2 t k)
  have hc10_3 : ¬ ((0 : Int32) = (2 : Int32)) := by decide
  replace G := own_icmpNo (q := 13) G X2.here hx (hb hby d4_10) (feq hc10_3).1 rfl
  replace G := own_iconst (q := 14) G X2.here hx (hb hby d4_13) (v := (0 : Int32)) (by decide) rfl
  obtain ⟨fs, hr, hrun, hended, hW, hsame⟩ := X2.leave (v := some (.int (0 : Int32))) (fun h => by rw [Bd.returns] at h; cases h)
  refine ⟨_, _, G _ (retOut X2 hx Bd.returns rfl (Or.inl ⟨rfl, Or.inr (Or.inl rfl), _, rfl⟩) (hb hby d4_14) hr), hrun, hended, _, _, rfl, ?_, ⟨_, rfl⟩, hW, hsame.mono (by decide) (by decide)⟩
  show Q4n2m0 Z a d kd h0 n0 _ T2.heap _
  rw [e2]
  exact ⟨rfl, N0, rfl⟩
theorem ef_4n2m1 (m : MethodId) (x0 : Addr) (x1 : Addr) : entryFrame m #[(.ref x0), (.ref x1)] 3 = mkF m 0 #[.val (.ref x0), .val (.ref x1), .unset] [] := by first | (simp [entryFrame, mkF, argsToLocals, Value.category]; done) | rfl
def Q4n2m1 (Z : State) (a : Addr) (d : Addr) (kd : ClassId) (f0 : Int32) (h0 : Heap) (n0 : Nat) (v : Option Value) (h : Heap) (L : List Loc) : Prop := v = some (.int (0 : Int32)) ∧ Fr n0 L ∧ h = h0
set_option maxRecDepth 65536 in
set_option maxHeartbeats 40000000 in
theorem rm4n2m1 (l : Launch) (Z : State) (a0 : Array Value) (hw : ∀ d ∈ tables_1, d.before a0 Z = true) (ws : List Jvm.Cond) (a : Addr) (d : Addr) (kd : ClassId) (f0 : Int32) (h0 : Heap) (n0 : Nat) (Z0 : n0 ≤ h0.size) (P0 : Fld Z h0 a "com/example/leafcutter/leafcutter/io/TextBuffer" "length" "I" (.int (2 : Int32))) (P1 : Arv Z h0 d kd .char (1 : Int32) [(.int f0)] (.int (0 : Int32))) :
    MetFree l (⟨"com/example/leafcutter/leafcutter/io/TextBuffer", "contentEquals", "([C)Z"⟩ : MethodName) (head1 (Jvm.Cond.code (⟨"com/example/leafcutter/leafcutter/io/TextBuffer", "contentEquals", "([C)Z"⟩ : MethodName) prog_6_method_17_code 3 (some .boolean) :: ws) ({ frames := 0, cells := 0, slots := 0, locals := 0 } : Room)) (fun argz U => argz = #[(.ref a), (.ref d)] ∧ Z.Warmed39 U.vm ∧ U.heap = h0) (fun _ _ _ _ _ => True) (fun _ U o U' => ∃ v L, o = .returned v ∧ Q4n2m1 Z a d kd f0 h0 n0 v U'.heap L ∧ FrameEnd U o U' L ({ frames := 0, cells := 0, slots := 0, locals := 0 } : Room).cells ({ frames := 0, cells := 0, slots := 0, locals := 0 } : Room).slots) := by
  refine MetFree.of_bodySF (plainFor_of_name pn_com_example_leafcutter_leafcutter_io_TextBuffer) hisR ?_
  intro p e s m args below meth c s₁ Bd hml0 hP hK
  obtain ⟨rfl, hZ, hh⟩ := hP
  have hx := Bd.exec
  have hby := Bd.bytes
  have hml : c.maxLocals = 3 := hml0
  have hown : s.vm.findClass "com/example/leafcutter/leafcutter/io/TextBuffer" = some m.cls := findClass_of_methodNamed Bd.named
  have hnm := (name_of_methodNamed Bd.named Bd.method).1
  have X0 : Stand p l e ({ frames := 0, cells := 0, slots := 0, locals := 0 } : Room) s m #[(.ref a), (.ref d)] below meth c s₁ [] 0 0 := Stand.of_body Bd
  have e0 : s₁.heap = h0 := by rw [← hh, Bd.state]; rfl
  have N0 := Fr.nil n0
  have G : Gets p e below (s₁.setTop (entryFrame m #[(.ref a), (.ref d)] 3)) (s₁.setTop (mkF m 0 #[.val (.ref a), .val (.ref d), .unset] [])) := fun t k => castTop (ef_4n2m1 m a d) k
  replace G := own_aloadN (q := 1) G X0.here hx (hb hby d4_0) rfl rfl rfl
  replace G := own_ifnullNo (q := 4) G X0.here hx (hb hby d4_1) rfl
  replace G := own_aloadN (q := 5) G X0.here hx (hb hby d4_4) rfl rfl rfl
  obtain ⟨c1, Ar1, -, S1, N1', -, -⟩ := id P1
  replace G : Gets p e below _ (s₁.setTop (mkF m 6 #[.val (.ref a), .val (.ref d), .unset] [(.int (1 : Int32))])) := fun t k => G t (X0.arraylength hx (by rw [e0]; exact Ar1.1) (State.isArrayOf_alike hZ.alike Ar1.2.1) (g := (mkF m 5 #[.val (.ref a), .val (.ref d), .unset] [(.ref d)])) rfl rfl (hb hby d4_5) t (by rw [len_of S1 N1']; exact k))
  replace G := own_aloadN (q := 7) G X0.here hx (hb hby d4_6) rfl rfl rfl
  obtain ⟨T2, X2, e2, st2⟩ := getF X0 hx hZ hown (host := "") (Or.inl (hw _ (List.mem_of_getElem? (i := 27) rfl))) Via.refl e0 P0 (g := (mkF m 7 #[.val (.ref a), .val (.ref d), .unset] [(.ref a), (.int (1 : Int32))])) rfl rfl (hb hby d4_7)
  replace G : Gets p e below _ (T2.setTop (mkF m 10 #[.val (.ref a), .val (.ref d), .unset] [(.int (2 : Int32)), (.int (1 : Int32))])) := fun t k => G t (st2 t k)
  have hc10_3 : ¬ ((1 : Int32) = (2 : Int32)) := by decide
  replace G := own_icmpNo (q := 13) G X2.here hx (hb hby d4_10) (feq hc10_3).1 rfl
  replace G := own_iconst (q := 14) G X2.here hx (hb hby d4_13) (v := (0 : Int32)) (by decide) rfl
  obtain ⟨fs, hr, hrun, hended, hW, hsame⟩ := X2.leave (v := some (.int (0 : Int32))) (fun h => by rw [Bd.returns] at h; cases h)
  refine ⟨_, _, G _ (retOut X2 hx Bd.returns rfl (Or.inl ⟨rfl, Or.inr (Or.inl rfl), _, rfl⟩) (hb hby d4_14) hr), hrun, hended, _, _, rfl, ?_, ⟨_, rfl⟩, hW, hsame.mono (by decide) (by decide)⟩
  show Q4n2m1 Z a d kd f0 h0 n0 _ T2.heap _
  rw [e2]
  exact ⟨rfl, N0, rfl⟩
theorem ef_4n2m2 (m : MethodId) (x0 : Addr) (x1 : Addr) : entryFrame m #[(.ref x0), (.ref x1)] 3 = mkF m 0 #[.val (.ref x0), .val (.ref x1), .unset] [] := by first | (simp [entryFrame, mkF, argsToLocals, Value.category]; done) | rfl
def Q4n2m2 (Z : State) (a : Addr) (d : Addr) (b : Addr) (kb : ClassId) (kd : ClassId) (ec0 : Int32) (ec1 : Int32) (f0 : Int32) (f1 : Int32) (h0 : Heap) (n0 : Nat) (v : Option Value) (h : Heap) (L : List Loc) : Prop := v = some (.int (own_ce2 ec0 ec1 f0 f1)) ∧ Fr n0 L ∧ h = h0
set_option maxRecDepth 65536 in
set_option maxHeartbeats 40000000 in
theorem rm4n2m2 (l : Launch) (Z : State) (a0 : Array Value) (hw : ∀ d ∈ tables_1, d.before a0 Z = true) (ws : List Jvm.Cond) (a : Addr) (d : Addr) (b : Addr) (kb : ClassId) (kd : ClassId) (ec0 : Int32) (ec1 : Int32) (f0 : Int32) (f1 : Int32) (h0 : Heap) (n0 : Nat) (Z0 : n0 ≤ h0.size) (P0 : Fld Z h0 a "com/example/leafcutter/leafcutter/io/TextBuffer" "chars" "[C" (.ref b)) (P1 : Fld Z h0 a "com/example/leafcutter/leafcutter/io/TextBuffer" "length" "I" (.int (2 : Int32))) (P2 : Arv Z h0 b kb .char (16 : Int32) [(.int ec0), (.int ec1), (.int (0 : Int32)), (.int (0 : Int32)), (.int (0 : Int32)), (.int (0 : Int32)), (.int (0 : Int32)), (.int (0 : Int32)), (.int (0 : Int32)), (.int (0 : Int32)), (.int (0 : Int32)), (.int (0 : Int32)), (.int (0 : Int32)), (.int (0 : Int32)), (.int (0 : Int32)), (.int (0 : Int32))] (.int (0 : Int32))) (P3 : Arv Z h0 d kd .char (2 : Int32) [(.int f0), (.int f1)] (.int (0 : Int32))) :
    MetFree l (⟨"com/example/leafcutter/leafcutter/io/TextBuffer", "contentEquals", "([C)Z"⟩ : MethodName) (head1 (Jvm.Cond.code (⟨"com/example/leafcutter/leafcutter/io/TextBuffer", "contentEquals", "([C)Z"⟩ : MethodName) prog_6_method_17_code 3 (some .boolean) :: ws) ({ frames := 0, cells := 0, slots := 0, locals := 0 } : Room)) (fun argz U => argz = #[(.ref a), (.ref d)] ∧ Z.Warmed39 U.vm ∧ U.heap = h0) (fun _ _ _ _ _ => True) (fun _ U o U' => ∃ v L, o = .returned v ∧ Q4n2m2 Z a d b kb kd ec0 ec1 f0 f1 h0 n0 v U'.heap L ∧ FrameEnd U o U' L ({ frames := 0, cells := 0, slots := 0, locals := 0 } : Room).cells ({ frames := 0, cells := 0, slots := 0, locals := 0 } : Room).slots) := by
  refine MetFree.of_bodySF (plainFor_of_name pn_com_example_leafcutter_leafcutter_io_TextBuffer) hisR ?_
  intro p e s m args below meth c s₁ Bd hml0 hP hK
  obtain ⟨rfl, hZ, hh⟩ := hP
  have hx := Bd.exec
  have hby := Bd.bytes
  have hml : c.maxLocals = 3 := hml0
  have hown : s.vm.findClass "com/example/leafcutter/leafcutter/io/TextBuffer" = some m.cls := findClass_of_methodNamed Bd.named
  have hnm := (name_of_methodNamed Bd.named Bd.method).1
  have X0 : Stand p l e ({ frames := 0, cells := 0, slots := 0, locals := 0 } : Room) s m #[(.ref a), (.ref d)] below meth c s₁ [] 0 0 := Stand.of_body Bd
  have e0 : s₁.heap = h0 := by rw [← hh, Bd.state]; rfl
  have N0 := Fr.nil n0
  have G : Gets p e below (s₁.setTop (entryFrame m #[(.ref a), (.ref d)] 3)) (s₁.setTop (mkF m 0 #[.val (.ref a), .val (.ref d), .unset] [])) := fun t k => castTop (ef_4n2m2 m a d) k
  replace G := own_aloadN (q := 1) G X0.here hx (hb hby d4_0) rfl rfl rfl
  replace G := own_ifnullNo (q := 4) G X0.here hx (hb hby d4_1) rfl
  replace G := own_aloadN (q := 5) G X0.here hx (hb hby d4_4) rfl rfl rfl
  obtain ⟨c1, Ar1, -, S1, N1', -, -⟩ := id P3
  replace G : Gets p e below _ (s₁.setTop (mkF m 6 #[.val (.ref a), .val (.ref d), .unset] [(.int (2 : Int32))])) := fun t k => G t (X0.arraylength hx (by rw [e0]; exact Ar1.1) (State.isArrayOf_alike hZ.alike Ar1.2.1) (g := (mkF m 5 #[.val (.ref a), .val (.ref d), .unset] [(.ref d)])) rfl rfl (hb hby d4_5) t (by rw [len_of S1 N1']; exact k))
  replace G := own_aloadN (q := 7) G X0.here hx (hb hby d4_6) rfl rfl rfl
  obtain ⟨T2, X2, e2, st2⟩ := getF X0 hx hZ hown (host := "") (Or.inl (hw _ (List.mem_of_getElem? (i := 27) rfl))) Via.refl e0 P1 (g := (mkF m 7 #[.val (.ref a), .val (.ref d), .unset] [(.ref a), (.int (2 : Int32))])) rfl rfl (hb hby d4_7)
  replace G : Gets p e below _ (T2.setTop (mkF m 10 #[.val (.ref a), .val (.ref d), .unset] [(.int (2 : Int32)), (.int (2 : Int32))])) := fun t k => G t (st2 t k)
  have hc10_3 : (2 : Int32) = (2 : Int32) := by decide
  replace G := own_icmpYes (q := 15) G X2.here hx (hb hby d4_10) (teq hc10_3).1 (by decide) (by decide)
  replace G := own_iconst (q := 16) G X2.here hx (hb hby d4_15) (v := (0 : Int32)) (by decide) rfl
  replace G := own_istoreN (q := 17) (l' := #[.val (.ref a), .val (.ref d), .val (.int (0 : Int32))]) G X2.here hx (hb hby d4_16) rfl rfl
  replace G := own_iloadN (q := 18) G X2.here hx (hb hby d4_17) rfl rfl
  replace G := own_aloadN (q := 19) G X2.here hx (hb hby d4_18) rfl rfl rfl
  obtain ⟨T4, X4, e4, st4⟩ := getF X2 hx hZ hown (host := "") (Or.inl (hw _ (List.mem_of_getElem? (i := 27) rfl))) Via.refl e2 P1 (g := (mkF m 19 #[.val (.ref a), .val (.ref d), .val (.int (0 : Int32))] [(.ref a), (.int (0 : Int32))])) rfl rfl (hb hby d4_19)
  replace G : Gets p e below _ (T4.setTop (mkF m 22 #[.val (.ref a), .val (.ref d), .val (.int (0 : Int32))] [(.int (2 : Int32)), (.int (0 : Int32))])) := fun t k => G t (st4 t k)
  have hc22_5 : (0 : Int32) < (2 : Int32) := by decide
  replace G := own_icmpNo (q := 25) G X4.here hx (hb hby d4_22) (tlt hc22_5).2.1 rfl
  replace G := own_aloadN (q := 26) G X4.here hx (hb hby d4_25) rfl rfl rfl
  obtain ⟨T6, X6, e6, st6⟩ := getF X4 hx hZ hown (host := "") (Or.inl (hw _ (List.mem_of_getElem? (i := 15) rfl))) Via.refl e4 P0 (g := (mkF m 26 #[.val (.ref a), .val (.ref d), .val (.int (0 : Int32))] [(.ref a)])) rfl rfl (hb hby d4_26)
  replace G : Gets p e below _ (T6.setTop (mkF m 29 #[.val (.ref a), .val (.ref d), .val (.int (0 : Int32))] [(.ref b)])) := fun t k => G t (st6 t k)
  replace G := own_iloadN (q := 30) G X6.here hx (hb hby d4_29) rfl rfl
  obtain ⟨c7, Ar7, -, S7, -, H7, -⟩ := id P2
  have hin7 : ¬ ((0 : Int32) < 0 ∨ c7.slots.size ≤ ((0 : Int32)).toNatClampNeg) := inb_of S7 ⟨by decide, by decide⟩
  replace G : Gets p e below _ (T6.setTop (mkF m 31 #[.val (.ref a), .val (.ref d), .val (.int (0 : Int32))] [(.int ec0)])) := fun t k => G t (X6.caload hx (j := (0 : Int32)) (v := (.int ec0)) (by rw [e6]; exact Ar7.1) (State.isArrayOf_alike hZ.alike Ar7.2.1) Ar7.2.2 hin7 (Has.at H7 hin7 rfl) (g := (mkF m 30 #[.val (.ref a), .val (.ref d), .val (.int (0 : Int32))] [(.int (0 : Int32)), (.ref b)])) rfl rfl (hb hby d4_30) t k)
  replace G := own_aloadN (q := 32) G X6.here hx (hb hby d4_31) rfl rfl rfl
  replace G := own_iloadN (q := 33) G X6.here hx (hb hby d4_32) rfl rfl
  obtain ⟨c8, Ar8, -, S8, -, H8, -⟩ := id P3
  have hin8 : ¬ ((0 : Int32) < 0 ∨ c8.slots.size ≤ ((0 : Int32)).toNatClampNeg) := inb_of S8 ⟨by decide, by decide⟩
  replace G : Gets p e below _ (T6.setTop (mkF m 34 #[.val (.ref a), .val (.ref d), .val (.int (0 : Int32))] [(.int f0), (.int ec0)])) := fun t k => G t (X6.caload hx (j := (0 : Int32)) (v := (.int f0)) (by rw [e6]; exact Ar8.1) (State.isArrayOf_alike hZ.alike Ar8.2.1) Ar8.2.2 hin8 (Has.at H8 hin8 rfl) (g := (mkF m 33 #[.val (.ref a), .val (.ref d), .val (.int (0 : Int32))] [(.int (0 : Int32)), (.ref d), (.int ec0)])) rfl rfl (hb hby d4_33) t k)
  by_cases hc34_9 : ec0 = f0
  · replace G := own_icmpYes (q := 39) G X6.here hx (hb hby d4_34) (teq hc34_9).1 (by decide) (by decide)
    replace G := own_iinc (q := 42) (l' := #[.val (.ref a), .val (.ref d), .val (.int (1 : Int32))]) (w := (1 : Int32)) G X6.here hx (hb hby d4_39) (by decide) rfl (by decide : ((0 : Int32) + (1 : Int32)) = (1 : Int32)) rfl rfl
    replace G := own_goto (q := 17) G X6.here hx (hb hby d4_42) (by decide) (by decide)
    replace G := own_iloadN (q := 18) G X6.here hx (hb hby d4_17) rfl rfl
    replace G := own_aloadN (q := 19) G X6.here hx (hb hby d4_18) rfl rfl rfl
    obtain ⟨T10, X10, e10, st10⟩ := getF X6 hx hZ hown (host := "") (Or.inl (hw _ (List.mem_of_getElem? (i := 27) rfl))) Via.refl e6 P1 (g := (mkF m 19 #[.val (.ref a), .val (.ref d), .val (.int (1 : Int32))] [(.ref a), (.int (1 : Int32))])) rfl rfl (hb hby d4_19)
    replace G : Gets p e below _ (T10.setTop (mkF m 22 #[.val (.ref a), .val (.ref d), .val (.int (1 : Int32))] [(.int (2 : Int32)), (.int (1 : Int32))])) := fun t k => G t (st10 t k)
    have hc22_11 : (1 : Int32) < (2 : Int32) := by decide
    replace G := own_icmpNo (q := 25) G X10.here hx (hb hby d4_22) (tlt hc22_11).2.1 rfl
    replace G := own_aloadN (q := 26) G X10.here hx (hb hby d4_25) rfl rfl rfl
    obtain ⟨T12, X12, e12, st12⟩ := getF X10 hx hZ hown (host := "") (Or.inl (hw _ (List.mem_of_getElem? (i := 15) rfl))) Via.refl e10 P0 (g := (mkF m 26 #[.val (.ref a), .val (.ref d), .val (.int (1 : Int32))] [(.ref a)])) rfl rfl (hb hby d4_26)
    replace G : Gets p e below _ (T12.setTop (mkF m 29 #[.val (.ref a), .val (.ref d), .val (.int (1 : Int32))] [(.ref b)])) := fun t k => G t (st12 t k)
    replace G := own_iloadN (q := 30) G X12.here hx (hb hby d4_29) rfl rfl
    obtain ⟨c13, Ar13, -, S13, -, H13, -⟩ := id P2
    have hin13 : ¬ ((1 : Int32) < 0 ∨ c13.slots.size ≤ ((1 : Int32)).toNatClampNeg) := inb_of S13 ⟨by decide, by decide⟩
    replace G : Gets p e below _ (T12.setTop (mkF m 31 #[.val (.ref a), .val (.ref d), .val (.int (1 : Int32))] [(.int ec1)])) := fun t k => G t (X12.caload hx (j := (1 : Int32)) (v := (.int ec1)) (by rw [e12]; exact Ar13.1) (State.isArrayOf_alike hZ.alike Ar13.2.1) Ar13.2.2 hin13 (Has.at H13 hin13 rfl) (g := (mkF m 30 #[.val (.ref a), .val (.ref d), .val (.int (1 : Int32))] [(.int (1 : Int32)), (.ref b)])) rfl rfl (hb hby d4_30) t k)
    replace G := own_aloadN (q := 32) G X12.here hx (hb hby d4_31) rfl rfl rfl
    replace G := own_iloadN (q := 33) G X12.here hx (hb hby d4_32) rfl rfl
    obtain ⟨c14, Ar14, -, S14, -, H14, -⟩ := id P3
    have hin14 : ¬ ((1 : Int32) < 0 ∨ c14.slots.size ≤ ((1 : Int32)).toNatClampNeg) := inb_of S14 ⟨by decide, by decide⟩
    replace G : Gets p e below _ (T12.setTop (mkF m 34 #[.val (.ref a), .val (.ref d), .val (.int (1 : Int32))] [(.int f1), (.int ec1)])) := fun t k => G t (X12.caload hx (j := (1 : Int32)) (v := (.int f1)) (by rw [e12]; exact Ar14.1) (State.isArrayOf_alike hZ.alike Ar14.2.1) Ar14.2.2 hin14 (Has.at H14 hin14 rfl) (g := (mkF m 33 #[.val (.ref a), .val (.ref d), .val (.int (1 : Int32))] [(.int (1 : Int32)), (.ref d), (.int ec1)])) rfl rfl (hb hby d4_33) t k)
    by_cases hc34_15 : ec1 = f1
    · replace G := own_icmpYes (q := 39) G X12.here hx (hb hby d4_34) (teq hc34_15).1 (by decide) (by decide)
      replace G := own_iinc (q := 42) (l' := #[.val (.ref a), .val (.ref d), .val (.int (2 : Int32))]) (w := (1 : Int32)) G X12.here hx (hb hby d4_39) (by decide) rfl (by decide : ((1 : Int32) + (1 : Int32)) = (2 : Int32)) rfl rfl
      replace G := own_goto (q := 17) G X12.here hx (hb hby d4_42) (by decide) (by decide)
      replace G := own_iloadN (q := 18) G X12.here hx (hb hby d4_17) rfl rfl
      replace G := own_aloadN (q := 19) G X12.here hx (hb hby d4_18) rfl rfl rfl
      obtain ⟨T16, X16, e16, st16⟩ := getF X12 hx hZ hown (host := "") (Or.inl (hw _ (List.mem_of_getElem? (i := 27) rfl))) Via.refl e12 P1 (g := (mkF m 19 #[.val (.ref a), .val (.ref d), .val (.int (2 : Int32))] [(.ref a), (.int (2 : Int32))])) rfl rfl (hb hby d4_19)
      replace G : Gets p e below _ (T16.setTop (mkF m 22 #[.val (.ref a), .val (.ref d), .val (.int (2 : Int32))] [(.int (2 : Int32)), (.int (2 : Int32))])) := fun t k => G t (st16 t k)
      have hc22_17 : ¬ ((2 : Int32) < (2 : Int32)) := by decide
      replace G := own_icmpYes (q := 45) G X16.here hx (hb hby d4_22) (flt hc22_17).2.1 (by decide) (by decide)
      replace G := own_iconst (q := 46) G X16.here hx (hb hby d4_45) (v := (1 : Int32)) (by decide) rfl
      obtain ⟨fs, hr, hrun, hended, hW, hsame⟩ := X16.leave (v := some (.int (1 : Int32))) (fun h => by rw [Bd.returns] at h; cases h)
      refine ⟨_, _, G _ (retOut X16 hx Bd.returns rfl (Or.inl ⟨rfl, Or.inr (Or.inl rfl), _, rfl⟩) (hb hby d4_46) hr), hrun, hended, _, _, rfl, ?_, ⟨_, rfl⟩, hW, hsame.mono (by decide) (by decide)⟩
      show Q4n2m2 Z a d b kb kd ec0 ec1 f0 f1 h0 n0 _ T16.heap _
      rw [e16]
      exact ⟨(congrArg (fun z => some (Value.int z)) (by simp [own_ce1, own_ce2, own_ce3, hc34_9, hc34_15])), N0, rfl⟩
    · replace G := own_icmpNo (q := 37) G X12.here hx (hb hby d4_34) (feq hc34_15).1 rfl
      replace G := own_iconst (q := 38) G X12.here hx (hb hby d4_37) (v := (0 : Int32)) (by decide) rfl
      obtain ⟨fs, hr, hrun, hended, hW, hsame⟩ := X12.leave (v := some (.int (0 : Int32))) (fun h => by rw [Bd.returns] at h; cases h)
      refine ⟨_, _, G _ (retOut X12 hx Bd.returns rfl (Or.inl ⟨rfl, Or.inr (Or.inl rfl), _, rfl⟩) (hb hby d4_38) hr), hrun, hended, _, _, rfl, ?_, ⟨_, rfl⟩, hW, hsame.mono (by decide) (by decide)⟩
      show Q4n2m2 Z a d b kb kd ec0 ec1 f0 f1 h0 n0 _ T12.heap _
      rw [e12]
      exact ⟨(congrArg (fun z => some (Value.int z)) (by simp [own_ce1, own_ce2, own_ce3, hc34_9, hc34_15])), N0, rfl⟩
  · replace G := own_icmpNo (q := 37) G X6.here hx (hb hby d4_34) (feq hc34_9).1 rfl
    replace G := own_iconst (q := 38) G X6.here hx (hb hby d4_37) (v := (0 : Int32)) (by decide) rfl
    obtain ⟨fs, hr, hrun, hended, hW, hsame⟩ := X6.leave (v := some (.int (0 : Int32))) (fun h => by rw [Bd.returns] at h; cases h)
    refine ⟨_, _, G _ (retOut X6 hx Bd.returns rfl (Or.inl ⟨rfl, Or.inr (Or.inl rfl), _, rfl⟩) (hb hby d4_38) hr), hrun, hended, _, _, rfl, ?_, ⟨_, rfl⟩, hW, hsame.mono (by decide) (by decide)⟩
    show Q4n2m2 Z a d b kb kd ec0 ec1 f0 f1 h0 n0 _ T6.heap _
    rw [e6]
    exact ⟨(congrArg (fun z => some (Value.int z)) (by simp [own_ce1, own_ce2, own_ce3, hc34_9])), N0, rfl⟩
theorem ef_4n2m3 (m : MethodId) (x0 : Addr) (x1 : Addr) : entryFrame m #[(.ref x0), (.ref x1)] 3 = mkF m 0 #[.val (.ref x0), .val (.ref x1), .unset] [] := by first | (simp [entryFrame, mkF, argsToLocals, Value.category]; done) | rfl
def Q4n2m3 (Z : State) (a : Addr) (d : Addr) (kd : ClassId) (f0 : Int32) (f1 : Int32) (f2 : Int32) (h0 : Heap) (n0 : Nat) (v : Option Value) (h : Heap) (L : List Loc) : Prop := v = some (.int (0 : Int32)) ∧ Fr n0 L ∧ h = h0
set_option maxRecDepth 65536 in
set_option maxHeartbeats 40000000 in
theorem rm4n2m3 (l : Launch) (Z : State) (a0 : Array Value) (hw : ∀ d ∈ tables_1, d.before a0 Z = true) (ws : List Jvm.Cond) (a : Addr) (d : Addr) (kd : ClassId) (f0 : Int32) (f1 : Int32) (f2 : Int32) (h0 : Heap) (n0 : Nat) (Z0 : n0 ≤ h0.size) (P0 : Fld Z h0 a "com/example/leafcutter/leafcutter/io/TextBuffer" "length" "I" (.int (2 : Int32))) (P1 : Arv Z h0 d kd .char (3 : Int32) [(.int f0), (.int f1), (.int f2)] (.int (0 : Int32))) :
    MetFree l (⟨"com/example/leafcutter/leafcutter/io/TextBuffer", "contentEquals", "([C)Z"⟩ : MethodName) (head1 (Jvm.Cond.code (⟨"com/example/leafcutter/leafcutter/io/TextBuffer", "contentEquals", "([C)Z"⟩ : MethodName) prog_6_method_17_code 3 (some .boolean) :: ws) ({ frames := 0, cells := 0, slots := 0, locals := 0 } : Room)) (fun argz U => argz = #[(.ref a), (.ref d)] ∧ Z.Warmed39 U.vm ∧ U.heap = h0) (fun _ _ _ _ _ => True) (fun _ U o U' => ∃ v L, o = .returned v ∧ Q4n2m3 Z a d kd f0 f1 f2 h0 n0 v U'.heap L ∧ FrameEnd U o U' L ({ frames := 0, cells := 0, slots := 0, locals := 0 } : Room).cells ({ frames := 0, cells := 0, slots := 0, locals := 0 } : Room).slots) := by
  refine MetFree.of_bodySF (plainFor_of_name pn_com_example_leafcutter_leafcutter_io_TextBuffer) hisR ?_
  intro p e s m args below meth c s₁ Bd hml0 hP hK
  obtain ⟨rfl, hZ, hh⟩ := hP
  have hx := Bd.exec
  have hby := Bd.bytes
  have hml : c.maxLocals = 3 := hml0
  have hown : s.vm.findClass "com/example/leafcutter/leafcutter/io/TextBuffer" = some m.cls := findClass_of_methodNamed Bd.named
  have hnm := (name_of_methodNamed Bd.named Bd.method).1
  have X0 : Stand p l e ({ frames := 0, cells := 0, slots := 0, locals := 0 } : Room) s m #[(.ref a), (.ref d)] below meth c s₁ [] 0 0 := Stand.of_body Bd
  have e0 : s₁.heap = h0 := by rw [← hh, Bd.state]; rfl
  have N0 := Fr.nil n0
  have G : Gets p e below (s₁.setTop (entryFrame m #[(.ref a), (.ref d)] 3)) (s₁.setTop (mkF m 0 #[.val (.ref a), .val (.ref d), .unset] [])) := fun t k => castTop (ef_4n2m3 m a d) k
  replace G := own_aloadN (q := 1) G X0.here hx (hb hby d4_0) rfl rfl rfl
  replace G := own_ifnullNo (q := 4) G X0.here hx (hb hby d4_1) rfl
  replace G := own_aloadN (q := 5) G X0.here hx (hb hby d4_4) rfl rfl rfl
  obtain ⟨c1, Ar1, -, S1, N1', -, -⟩ := id P1
  replace G : Gets p e below _ (s₁.setTop (mkF m 6 #[.val (.ref a), .val (.ref d), .unset] [(.int (3 : Int32))])) := fun t k => G t (X0.arraylength hx (by rw [e0]; exact Ar1.1) (State.isArrayOf_alike hZ.alike Ar1.2.1) (g := (mkF m 5 #[.val (.ref a), .val (.ref d), .unset] [(.ref d)])) rfl rfl (hb hby d4_5) t (by rw [len_of S1 N1']; exact k))
  replace G := own_aloadN (q := 7) G X0.here hx (hb hby d4_6) rfl rfl rfl
  obtain ⟨T2, X2, e2, st2⟩ := getF X0 hx hZ hown (host := "") (Or.inl (hw _ (List.mem_of_getElem? (i := 27) rfl))) Via.refl e0 P0 (g := (mkF m 7 #[.val (.ref a), .val (.ref d), .unset] [(.ref a), (.int (3 : Int32))])) rfl rfl (hb hby d4_7)
  replace G : Gets p e below _ (T2.setTop (mkF m 10 #[.val (.ref a), .val (.ref d), .unset] [(.int (2 : Int32)), (.int (3 : Int32))])) := fun t k => G t (st2 t k)
  have hc10_3 : ¬ ((3 : Int32) = (2 : Int32)) := by decide
  replace G := own_icmpNo (q := 13) G X2.here hx (hb hby d4_10) (feq hc10_3).1 rfl
  replace G := own_iconst (q := 14) G X2.here hx (hb hby d4_13) (v := (0 : Int32)) (by decide) rfl
  obtain ⟨fs, hr, hrun, hended, hW, hsame⟩ := X2.leave (v := some (.int (0 : Int32))) (fun h => by rw [Bd.returns] at h; cases h)
  refine ⟨_, _, G _ (retOut X2 hx Bd.returns rfl (Or.inl ⟨rfl, Or.inr (Or.inl rfl), _, rfl⟩) (hb hby d4_14) hr), hrun, hended, _, _, rfl, ?_, ⟨_, rfl⟩, hW, hsame.mono (by decide) (by decide)⟩
  show Q4n2m3 Z a d kd f0 f1 f2 h0 n0 _ T2.heap _
  rw [e2]
  exact ⟨rfl, N0, rfl⟩
theorem ef_4n3m0 (m : MethodId) (x0 : Addr) (x1 : Addr) : entryFrame m #[(.ref x0), (.ref x1)] 3 = mkF m 0 #[.val (.ref x0), .val (.ref x1), .unset] [] := by first | (simp [entryFrame, mkF, argsToLocals, Value.category]; done) | rfl
def Q4n3m0 (Z : State) (a : Addr) (d : Addr) (kd : ClassId) (h0 : Heap) (n0 : Nat) (v : Option Value) (h : Heap) (L : List Loc) : Prop := v = some (.int (0 : Int32)) ∧ Fr n0 L ∧ h = h0
set_option maxRecDepth 65536 in
set_option maxHeartbeats 40000000 in
theorem rm4n3m0 (l : Launch) (Z : State) (a0 : Array Value) (hw : ∀ d ∈ tables_1, d.before a0 Z = true) (ws : List Jvm.Cond) (a : Addr) (d : Addr) (kd : ClassId) (h0 : Heap) (n0 : Nat) (Z0 : n0 ≤ h0.size) (P0 : Fld Z h0 a "com/example/leafcutter/leafcutter/io/TextBuffer" "length" "I" (.int (3 : Int32))) (P1 : Arv Z h0 d kd .char (0 : Int32) [] (.int (0 : Int32))) :
    MetFree l (⟨"com/example/leafcutter/leafcutter/io/TextBuffer", "contentEquals", "([C)Z"⟩ : MethodName) (head1 (Jvm.Cond.code (⟨"com/example/leafcutter/leafcutter/io/TextBuffer", "contentEquals", "([C)Z"⟩ : MethodName) prog_6_method_17_code 3 (some .boolean) :: ws) ({ frames := 0, cells := 0, slots := 0, locals := 0 } : Room)) (fun argz U => argz = #[(.ref a), (.ref d)] ∧ Z.Warmed39 U.vm ∧ U.heap = h0) (fun _ _ _ _ _ => True) (fun _ U o U' => ∃ v L, o = .returned v ∧ Q4n3m0 Z a d kd h0 n0 v U'.heap L ∧ FrameEnd U o U' L ({ frames := 0, cells := 0, slots := 0, locals := 0 } : Room).cells ({ frames := 0, cells := 0, slots := 0, locals := 0 } : Room).slots) := by
  refine MetFree.of_bodySF (plainFor_of_name pn_com_example_leafcutter_leafcutter_io_TextBuffer) hisR ?_
  intro p e s m args below meth c s₁ Bd hml0 hP hK
  obtain ⟨rfl, hZ, hh⟩ := hP
  have hx := Bd.exec
  have hby := Bd.bytes
  have hml : c.maxLocals = 3 := hml0
  have hown : s.vm.findClass "com/example/leafcutter/leafcutter/io/TextBuffer" = some m.cls := findClass_of_methodNamed Bd.named
  have hnm := (name_of_methodNamed Bd.named Bd.method).1
  have X0 : Stand p l e ({ frames := 0, cells := 0, slots := 0, locals := 0 } : Room) s m #[(.ref a), (.ref d)] below meth c s₁ [] 0 0 := Stand.of_body Bd
  have e0 : s₁.heap = h0 := by rw [← hh, Bd.state]; rfl
  have N0 := Fr.nil n0
  have G : Gets p e below (s₁.setTop (entryFrame m #[(.ref a), (.ref d)] 3)) (s₁.setTop (mkF m 0 #[.val (.ref a), .val (.ref d), .unset] [])) := fun t k => castTop (ef_4n3m0 m a d) k
  replace G := own_aloadN (q := 1) G X0.here hx (hb hby d4_0) rfl rfl rfl
  replace G := own_ifnullNo (q := 4) G X0.here hx (hb hby d4_1) rfl
  replace G := own_aloadN (q := 5) G X0.here hx (hb hby d4_4) rfl rfl rfl
  obtain ⟨c1, Ar1, -, S1, N1', -, -⟩ := id P1
  replace G : Gets p e below _ (s₁.setTop (mkF m 6 #[.val (.ref a), .val (.ref d), .unset] [(.int (0 : Int32))])) := fun t k => G t (X0.arraylength hx (by rw [e0]; exact Ar1.1) (State.isArrayOf_alike hZ.alike Ar1.2.1) (g := (mkF m 5 #[.val (.ref a), .val (.ref d), .unset] [(.ref d)])) rfl rfl (hb hby d4_5) t (by rw [len_of S1 N1']; exact k))
  replace G := own_aloadN (q := 7) G X0.here hx (hb hby d4_6) rfl rfl rfl
  obtain ⟨T2, X2, e2, st2⟩ := getF X0 hx hZ hown (host := "") (Or.inl (hw _ (List.mem_of_getElem? (i := 27) rfl))) Via.refl e0 P0 (g := (mkF m 7 #[.val (.ref a), .val (.ref d), .unset] [(.ref a), (.int (0 : Int32))])) rfl rfl (hb hby d4_7)
  replace G : Gets p e below _ (T2.setTop (mkF m 10 #[.val (.ref a), .val (.ref d), .unset] [(.int (3 : Int32)), (.int (0 : Int32))])) := fun t k => G t (st2 t k)
  have hc10_3 : ¬ ((0 : Int32) = (3 : Int32)) := by decide
  replace G := own_icmpNo (q := 13) G X2.here hx (hb hby d4_10) (feq hc10_3).1 rfl
  replace G := own_iconst (q := 14) G X2.here hx (hb hby d4_13) (v := (0 : Int32)) (by decide) rfl
  obtain ⟨fs, hr, hrun, hended, hW, hsame⟩ := X2.leave (v := some (.int (0 : Int32))) (fun h => by rw [Bd.returns] at h; cases h)
  refine ⟨_, _, G _ (retOut X2 hx Bd.returns rfl (Or.inl ⟨rfl, Or.inr (Or.inl rfl), _, rfl⟩) (hb hby d4_14) hr), hrun, hended, _, _, rfl, ?_, ⟨_, rfl⟩, hW, hsame.mono (by decide) (by decide)⟩
  show Q4n3m0 Z a d kd h0 n0 _ T2.heap _
  rw [e2]
  exact ⟨rfl, N0, rfl⟩
theorem ef_4n3m1 (m : MethodId) (x0 : Addr) (x1 : Addr) : entryFrame m #[(.ref x0), (.ref x1)] 3 = mkF m 0 #[.val (.ref x0), .val (.ref x1), .unset] [] := by first | (simp [entryFrame, mkF, argsToLocals, Value.category]; done) | rfl
def Q4n3m1 (Z : State) (a : Addr) (d : Addr) (kd : ClassId) (f0 : Int32) (h0 : Heap) (n0 : Nat) (v : Option Value) (h : Heap) (L : List Loc) : Prop := v = some (.int (0 : Int32)) ∧ Fr n0 L ∧ h = h0
set_option maxRecDepth 65536 in
set_option maxHeartbeats 40000000 in
theorem rm4n3m1 (l : Launch) (Z : State) (a0 : Array Value) (hw : ∀ d ∈ tables_1, d.before a0 Z = true) (ws : List Jvm.Cond) (a : Addr) (d : Addr) (kd : ClassId) (f0 : Int32) (h0 : Heap) (n0 : Nat) (Z0 : n0 ≤ h0.size) (P0 : Fld Z h0 a "com/example/leafcutter/leafcutter/io/TextBuffer" "length" "I" (.int (3 : Int32))) (P1 : Arv Z h0 d kd .char (1 : Int32) [(.int f0)] (.int (0 : Int32))) :
    MetFree l (⟨"com/example/leafcutter/leafcutter/io/TextBuffer", "contentEquals", "([C)Z"⟩ : MethodName) (head1 (Jvm.Cond.code (⟨"com/example/leafcutter/leafcutter/io/TextBuffer", "contentEquals", "([C)Z"⟩ : MethodName) prog_6_method_17_code 3 (some .boolean) :: ws) ({ frames := 0, cells := 0, slots := 0, locals := 0 } : Room)) (fun argz U => argz = #[(.ref a), (.ref d)] ∧ Z.Warmed39 U.vm ∧ U.heap = h0) (fun _ _ _ _ _ => True) (fun _ U o U' => ∃ v L, o = .returned v ∧ Q4n3m1 Z a d kd f0 h0 n0 v U'.heap L ∧ FrameEnd U o U' L ({ frames := 0, cells := 0, slots := 0, locals := 0 } : Room).cells ({ frames := 0, cells := 0, slots := 0, locals := 0 } : Room).slots) := by
  refine MetFree.of_bodySF (plainFor_of_name pn_com_example_leafcutter_leafcutter_io_TextBuffer) hisR ?_
  intro p e s m args below meth c s₁ Bd hml0 hP hK
  obtain ⟨rfl, hZ, hh⟩ := hP
  have hx := Bd.exec
  have hby := Bd.bytes
  have hml : c.maxLocals = 3 := hml0
  have hown : s.vm.findClass "com/example/leafcutter/leafcutter/io/TextBuffer" = some m.cls := findClass_of_methodNamed Bd.named
  have hnm := (name_of_methodNamed Bd.named Bd.method).1
  have X0 : Stand p l e ({ frames := 0, cells := 0, slots := 0, locals := 0 } : Room) s m #[(.ref a), (.ref d)] below meth c s₁ [] 0 0 := Stand.of_body Bd
  have e0 : s₁.heap = h0 := by rw [← hh, Bd.state]; rfl
  have N0 := Fr.nil n0
  have G : Gets p e below (s₁.setTop (entryFrame m #[(.ref a), (.ref d)] 3)) (s₁.setTop (mkF m 0 #[.val (.ref a), .val (.ref d), .unset] [])) := fun t k => castTop (ef_4n3m1 m a d) k
  replace G := own_aloadN (q := 1) G X0.here hx (hb hby d4_0) rfl rfl rfl
  replace G := own_ifnullNo (q := 4) G X0.here hx (hb hby d4_1) rfl
  replace G := own_aloadN (q := 5) G X0.here hx (hb hby d4_4) rfl rfl rfl
  obtain ⟨c1, Ar1, -, S1, N1', -, -⟩ := id P1
  replace G : Gets p e below _ (s₁.setTop (mkF m 6 #[.val (.ref a), .val (.ref d), .unset] [(.int (1 : Int32))])) := fun t k => G t (X0.arraylength hx (by rw [e0]; exact Ar1.1) (State.isArrayOf_alike hZ.alike Ar1.2.1) (g := (mkF m 5 #[.val (.ref a), .val (.ref d), .unset] [(.ref d)])) rfl rfl (hb hby d4_5) t (by rw [len_of S1 N1']; exact k))
  replace G := own_aloadN (q := 7) G X0.here hx (hb hby d4_6) rfl rfl rfl
  obtain ⟨T2, X2, e2, st2⟩ := getF X0 hx hZ hown (host := "") (Or.inl (hw _ (List.mem_of_getElem? (i := 27) rfl))) Via.refl e0 P0 (g := (mkF m 7 #[.val (.ref a), .val (.ref d), .unset] [(.ref a), (.int (1 : Int32))])) rfl rfl (hb hby d4_7)
  replace G : Gets p e below _ (T2.setTop (mkF m 10 #[.val (.ref a), .val (.ref d), .unset] [(.int (3 : Int32)), (.int (1 : Int32))])) := fun t k => G t (st2 t k)
  have hc10_3 : ¬ ((1 : Int32) = (3 : Int32)) := by decide
  replace G := own_icmpNo (q := 13) G X2.here hx (hb hby d4_10) (feq hc10_3).1 rfl
  replace G := own_iconst (q := 14) G X2.here hx (hb hby d4_13) (v := (0 : Int32)) (by decide) rfl
  obtain ⟨fs, hr, hrun, hended, hW, hsame⟩ := X2.leave (v := some (.int (0 : Int32))) (fun h => by rw [Bd.returns] at h; cases h)
  refine ⟨_, _, G _ (retOut X2 hx Bd.returns rfl (Or.inl ⟨rfl, Or.inr (Or.inl rfl), _, rfl⟩) (hb hby d4_14) hr), hrun, hended, _, _, rfl, ?_, ⟨_, rfl⟩, hW, hsame.mono (by decide) (by decide)⟩
  show Q4n3m1 Z a d kd f0 h0 n0 _ T2.heap _
  rw [e2]
  exact ⟨rfl, N0, rfl⟩
theorem ef_4n3m2 (m : MethodId) (x0 : Addr) (x1 : Addr) : entryFrame m #[(.ref x0), (.ref x1)] 3 = mkF m 0 #[.val (.ref x0), .val (.ref x1), .unset] [] := by first | (simp [entryFrame, mkF, argsToLocals, Value.category]; done) | rfl
def Q4n3m2 (Z : State) (a : Addr) (d : Addr) (kd : ClassId) (f0 : Int32) (f1 : Int32) (h0 : Heap) (n0 : Nat) (v : Option Value) (h : Heap) (L : List Loc) : Prop := v = some (.int (0 : Int32)) ∧ Fr n0 L ∧ h = h0
set_option maxRecDepth 65536 in
set_option maxHeartbeats 40000000 in
theorem rm4n3m2 (l : Launch) (Z : State) (a0 : Array Value) (hw : ∀ d ∈ tables_1, d.before a0 Z = true) (ws : List Jvm.Cond) (a : Addr) (d : Addr) (kd : ClassId) (f0 : Int32) (f1 : Int32) (h0 : Heap) (n0 : Nat) (Z0 : n0 ≤ h0.size) (P0 : Fld Z h0 a "com/example/leafcutter/leafcutter/io/TextBuffer" "length" "I" (.int (3 : Int32))) (P1 : Arv Z h0 d kd .char (2 : Int32) [(.int f0), (.int f1)] (.int (0 : Int32))) :
    MetFree l (⟨"com/example/leafcutter/leafcutter/io/TextBuffer", "contentEquals", "([C)Z"⟩ : MethodName) (head1 (Jvm.Cond.code (⟨"com/example/leafcutter/leafcutter/io/TextBuffer", "contentEquals", "([C)Z"⟩ : MethodName) prog_6_method_17_code 3 (some .boolean) :: ws) ({ frames := 0, cells := 0, slots := 0, locals := 0 } : Room)) (fun argz U => argz = #[(.ref a), (.ref d)] ∧ Z.Warmed39 U.vm ∧ U.heap = h0) (fun _ _ _ _ _ => True) (fun _ U o U' => ∃ v L, o = .returned v ∧ Q4n3m2 Z a d kd f0 f1 h0 n0 v U'.heap L ∧ FrameEnd U o U' L ({ frames := 0, cells := 0, slots := 0, locals := 0 } : Room).cells ({ frames := 0, cells := 0, slots := 0, locals := 0 } : Room).slots) := by
  refine MetFree.of_bodySF (plainFor_of_name pn_com_example_leafcutter_leafcutter_io_TextBuffer) hisR ?_
  intro p e s m args below meth c s₁ Bd hml0 hP hK
  obtain ⟨rfl, hZ, hh⟩ := hP
  have hx := Bd.exec
  have hby := Bd.bytes
  have hml : c.maxLocals = 3 := hml0
  have hown : s.vm.findClass "com/example/leafcutter/leafcutter/io/TextBuffer" = some m.cls := findClass_of_methodNamed Bd.named
  have hnm := (name_of_methodNamed Bd.named Bd.method).1
  have X0 : Stand p l e ({ frames := 0, cells := 0, slots := 0, locals := 0 } : Room) s m #[(.ref a), (.ref d)] below meth c s₁ [] 0 0 := Stand.of_body Bd
  have e0 : s₁.heap = h0 := by rw [← hh, Bd.state]; rfl
  have N0 := Fr.nil n0
  have G : Gets p e below (s₁.setTop (entryFrame m #[(.ref a), (.ref d)] 3)) (s₁.setTop (mkF m 0 #[.val (.ref a), .val (.ref d), .unset] [])) := fun t k => castTop (ef_4n3m2 m a d) k
  replace G := own_aloadN (q := 1) G X0.here hx (hb hby d4_0) rfl rfl rfl
  replace G := own_ifnullNo (q := 4) G X0.here hx (hb hby d4_1) rfl
  replace G := own_aloadN (q := 5) G X0.here hx (hb hby d4_4) rfl rfl rfl
  obtain ⟨c1, Ar1, -, S1, N1', -, -⟩ := id P1
  replace G : Gets p e below _ (s₁.setTop (mkF m 6 #[.val (.ref a), .val (.ref d), .unset] [(.int (2 : Int32))])) := fun t k => G t (X0.arraylength hx (by rw [e0]; exact Ar1.1) (State.isArrayOf_alike hZ.alike Ar1.2.1) (g := (mkF m 5 #[.val (.ref a), .val (.ref d), .unset] [(.ref d)])) rfl rfl (hb hby d4_5) t (by rw [len_of S1 N1']; exact k))
  replace G := own_aloadN (q := 7) G X0.here hx (hb hby d4_6) rfl rfl rfl
  obtain ⟨T2, X2, e2, st2⟩ := getF X0 hx hZ hown (host := "") (Or.inl (hw _ (List.mem_of_getElem? (i := 27) rfl))) Via.refl e0 P0 (g := (mkF m 7 #[.val (.ref a), .val (.ref d), .unset] [(.ref a), (.int (2 : Int32))])) rfl rfl (hb hby d4_7)
  replace G : Gets p e below _ (T2.setTop (mkF m 10 #[.val (.ref a), .val (.ref d), .unset] [(.int (3 : Int32)), (.int (2 : Int32))])) := fun t k => G t (st2 t k)
  have hc10_3 : ¬ ((2 : Int32) = (3 : Int32)) := by decide
  replace G := own_icmpNo (q := 13) G X2.here hx (hb hby d4_10) (feq hc10_3).1 rfl
  replace G := own_iconst (q := 14) G X2.here hx (hb hby d4_13) (v := (0 : Int32)) (by decide) rfl
  obtain ⟨fs, hr, hrun, hended, hW, hsame⟩ := X2.leave (v := some (.int (0 : Int32))) (fun h => by rw [Bd.returns] at h; cases h)
  refine ⟨_, _, G _ (retOut X2 hx Bd.returns rfl (Or.inl ⟨rfl, Or.inr (Or.inl rfl), _, rfl⟩) (hb hby d4_14) hr), hrun, hended, _, _, rfl, ?_, ⟨_, rfl⟩, hW, hsame.mono (by decide) (by decide)⟩
  show Q4n3m2 Z a d kd f0 f1 h0 n0 _ T2.heap _
  rw [e2]
  exact ⟨rfl, N0, rfl⟩
theorem ef_4n3m3 (m : MethodId) (x0 : Addr) (x1 : Addr) : entryFrame m #[(.ref x0), (.ref x1)] 3 = mkF m 0 #[.val (.ref x0), .val (.ref x1), .unset] [] := by first | (simp [entryFrame, mkF, argsToLocals, Value.category]; done) | rfl
def Q4n3m3 (Z : State) (a : Addr) (d : Addr) (b : Addr) (kb : ClassId) (kd : ClassId) (ec0 : Int32) (ec1 : Int32) (ec2 : Int32) (f0 : Int32) (f1 : Int32) (f2 : Int32) (h0 : Heap) (n0 : Nat) (v : Option Value) (h : Heap) (L : List Loc) : Prop := v = some (.int (own_ce3 ec0 ec1 ec2 f0 f1 f2)) ∧ Fr n0 L ∧ h = h0
set_option maxRecDepth 65536 in
set_option maxHeartbeats 40000000 in
theorem rm4n3m3 (l : Launch) (Z : State) (a0 : Array Value) (hw : ∀ d ∈ tables_1, d.before a0 Z = true) (ws : List Jvm.Cond) (a : Addr) (d : Addr) (b : Addr) (kb : ClassId) (kd : ClassId) (ec0 : Int32) (ec1 : Int32) (ec2 : Int32) (f0 : Int32) (f1 : Int32) (f2 : Int32) (h0 : Heap) (n0 : Nat) (Z0 : n0 ≤ h0.size) (P0 : Fld Z h0 a "com/example/leafcutter/leafcutter/io/TextBuffer" "chars" "[C" (.ref b)) (P1 : Fld Z h0 a "com/example/leafcutter/leafcutter/io/TextBuffer" "length" "I" (.int (3 : Int32))) (P2 : Arv Z h0 b kb .char (16 : Int32) [(.int ec0), (.int ec1), (.int ec2), (.int (0 : Int32)), (.int (0 : Int32)), (.int (0 : Int32)), (.int (0 : Int32)), (.int (0 : Int32)), (.int (0 : Int32)), (.int (0 : Int32)), (.int (0 : Int32)), (.int (0 : Int32)), (.int (0 : Int32)), (.int (0 : Int32)), (.int (0 : Int32)), (.int (0 : Int32))] (.int (0 : Int32))) (P3 : Arv Z h0 d kd .char (3 : Int32) [(.int f0), (.int f1), (.int f2)] (.int (0 : Int32))) :
    MetFree l (⟨"com/example/leafcutter/leafcutter/io/TextBuffer", "contentEquals", "([C)Z"⟩ : MethodName) (head1 (Jvm.Cond.code (⟨"com/example/leafcutter/leafcutter/io/TextBuffer", "contentEquals", "([C)Z"⟩ : MethodName) prog_6_method_17_code 3 (some .boolean) :: ws) ({ frames := 0, cells := 0, slots := 0, locals := 0 } : Room)) (fun argz U => argz = #[(.ref a), (.ref d)] ∧ Z.Warmed39 U.vm ∧ U.heap = h0) (fun _ _ _ _ _ => True) (fun _ U o U' => ∃ v L, o = .returned v ∧ Q4n3m3 Z a d b kb kd ec0 ec1 ec2 f0 f1 f2 h0 n0 v U'.heap L ∧ FrameEnd U o U' L ({ frames := 0, cells := 0, slots := 0, locals := 0 } : Room).cells ({ frames := 0, cells := 0, slots := 0, locals := 0 } : Room).slots) := by
  refine MetFree.of_bodySF (plainFor_of_name pn_com_example_leafcutter_leafcutter_io_TextBuffer) hisR ?_
  intro p e s m args below meth c s₁ Bd hml0 hP hK
  obtain ⟨rfl, hZ, hh⟩ := hP
  have hx := Bd.exec
  have hby := Bd.bytes
  have hml : c.maxLocals = 3 := hml0
  have hown : s.vm.findClass "com/example/leafcutter/leafcutter/io/TextBuffer" = some m.cls := findClass_of_methodNamed Bd.named
  have hnm := (name_of_methodNamed Bd.named Bd.method).1
  have X0 : Stand p l e ({ frames := 0, cells := 0, slots := 0, locals := 0 } : Room) s m #[(.ref a), (.ref d)] below meth c s₁ [] 0 0 := Stand.of_body Bd
  have e0 : s₁.heap = h0 := by rw [← hh, Bd.state]; rfl
  have N0 := Fr.nil n0
  have G : Gets p e below (s₁.setTop (entryFrame m #[(.ref a), (.ref d)] 3)) (s₁.setTop (mkF m 0 #[.val (.ref a), .val (.ref d), .unset] [])) := fun t k => castTop (ef_4n3m3 m a d) k
  replace G := own_aloadN (q := 1) G X0.here hx (hb hby d4_0) rfl rfl rfl
  replace G := own_ifnullNo (q := 4) G X0.here hx (hb hby d4_1) rfl
  replace G := own_aloadN (q := 5) G X0.here hx (hb hby d4_4) rfl rfl rfl
  obtain ⟨c1, Ar1, -, S1, N1', -, -⟩ := id P3
  replace G : Gets p e below _ (s₁.setTop (mkF m 6 #[.val (.ref a), .val (.ref d), .unset] [(.int (3 : Int32))])) := fun t k => G t (X0.arraylength hx (by rw [e0]; exact Ar1.1) (State.isArrayOf_alike hZ.alike Ar1.2.1) (g := (mkF m 5 #[.val (.ref a), .val (.ref d), .unset] [(.ref d)])) rfl rfl (hb hby d4_5) t (by rw [len_of S1 N1']; exact k))
  replace G := own_aloadN (q := 7) G X0.here hx (hb hby d4_6) rfl rfl rfl
  obtain ⟨T2, X2, e2, st2⟩ := getF X0 hx hZ hown (host := "") (Or.inl (hw _ (List.mem_of_getElem? (i := 27) rfl))) Via.refl e0 P1 (g := (mkF m 7 #[.val (.ref a), .val (.ref d), .unset] [(.ref a), (.int (3 : Int32))])) rfl rfl (hb hby d4_7)
  replace G : Gets p e below _ (T2.setTop (mkF m 10 #[.val (.ref a), .val (.ref d), .unset] [(.int (3 : Int32)), (.int (3 : Int32))])) := fun t k => G t (st2 t k)
  have hc10_3 : (3 : Int32) = (3 : Int32) := by decide
  replace G := own_icmpYes (q := 15) G X2.here hx (hb hby d4_10) (teq hc10_3).1 (by decide) (by decide)
  replace G := own_iconst (q := 16) G X2.here hx (hb hby d4_15) (v := (0 : Int32)) (by decide) rfl
  replace G := own_istoreN (q := 17) (l' := #[.val (.ref a), .val (.ref d), .val (.int (0 : Int32))]) G X2.here hx (hb hby d4_16) rfl rfl
  replace G := own_iloadN (q := 18) G X2.here hx (hb hby d4_17) rfl rfl
  replace G := own_aloadN (q := 19) G X2.here hx (hb hby d4_18) rfl rfl rfl
  obtain ⟨T4, X4, e4, st4⟩ := getF X2 hx hZ hown (host := "") (Or.inl (hw _ (List.mem_of_getElem? (i := 27) rfl))) Via.refl e2 P1 (g := (mkF m 19 #[.val (.ref a), .val (.ref d), .val (.int (0 : Int32))] [(.ref a), (.int (0 : Int32))])) rfl rfl (hb hby d4_19)
  replace G : Gets p e below _ (T4.setTop (mkF m 22 #[.val (.ref a), .val (.ref d), .val (.int (0 : Int32))] [(.int (3 : Int32)), (.int (0 : Int32))])) := fun t k => G t (st4 t k)
  have hc22_5 : (0 : Int32) < (3 : Int32) := by decide
  replace G := own_icmpNo (q := 25) G X4.here hx (hb hby d4_22) (tlt hc22_5).2.1 rfl
  replace G := own_aloadN (q := 26) G X4.here hx (hb hby d4_25) rfl rfl rfl
  obtain ⟨T6, X6, e6, st6⟩ := getF X4 hx hZ hown (host := "") (Or.inl (hw _ (List.mem_of_getElem? (i := 15) rfl))) Via.refl e4 P0 (g := (mkF m 26 #[.val (.ref a), .val (.ref d), .val (.int (0 : Int32))] [(.ref a)])) rfl rfl (hb hby d4_26)
  replace G : Gets p e below _ (T6.setTop (mkF m 29 #[.val (.ref a), .val (.ref d), .val (.int (0 : Int32))] [(.ref b)])) := fun t k => G t (st6 t k)
  replace G := own_iloadN (q := 30) G X6.here hx (hb hby d4_29) rfl rfl
  obtain ⟨c7, Ar7, -, S7, -, H7, -⟩ := id P2
  have hin7 : ¬ ((0 : Int32) < 0 ∨ c7.slots.size ≤ ((0 : Int32)).toNatClampNeg) := inb_of S7 ⟨by decide, by decide⟩
  replace G : Gets p e below _ (T6.setTop (mkF m 31 #[.val (.ref a), .val (.ref d), .val (.int (0 : Int32))] [(.int ec0)])) := fun t k => G t (X6.caload hx (j := (0 : Int32)) (v := (.int ec0)) (by rw [e6]; exact Ar7.1) (State.isArrayOf_alike hZ.alike Ar7.2.1) Ar7.2.2 hin7 (Has.at H7 hin7 rfl) (g := (mkF m 30 #[.val (.ref a), .val (.ref d), .val (.int (0 : Int32))] [(.int (0 : Int32)), (.ref b)])) rfl rfl (hb hby d4_30) t k)
  replace G := own_aloadN (q := 32) G X6.here hx (hb hby d4_31) rfl rfl rfl
  replace G := own_iloadN (q := 33) G X6.here hx (hb hby d4_32) rfl rfl
  obtain ⟨c8, Ar8, -, S8, -, H8, -⟩ := id P3
  have hin8 : ¬ ((0 : Int32) < 0 ∨ c8.slots.size ≤ ((0 : Int32)).toNatClampNeg) := inb_of S8 ⟨by decide, by decide⟩
  replace G : Gets p e below _ (T6.setTop (mkF m 34 #[.val (.ref a), .val (.ref d), .val (.int (0 : Int32))] [(.int f0), (.int ec0)])) := fun t k => G t (X6.caload hx (j := (0 : Int32)) (v := (.int f0)) (by rw [e6]; exact Ar8.1) (State.isArrayOf_alike hZ.alike Ar8.2.1) Ar8.2.2 hin8 (Has.at H8 hin8 rfl) (g := (mkF m 33 #[.val (.ref a), .val (.ref d), .val (.int (0 : Int32))] [(.int (0 : Int32)), (.ref d), (.int ec0)])) rfl rfl (hb hby d4_33) t k)
  by_cases hc34_9 : ec0 = f0
  · replace G := own_icmpYes (q := 39) G X6.here hx (hb hby d4_34) (teq hc34_9).1 (by decide) (by decide)
    replace G := own_iinc (q := 42) (l' := #[.val (.ref a), .val (.ref d), .val (.int (1 : Int32))]) (w := (1 : Int32)) G X6.here hx (hb hby d4_39) (by decide) rfl (by decide : ((0 : Int32) + (1 : Int32)) = (1 : Int32)) rfl rfl
    replace G := own_goto (q := 17) G X6.here hx (hb hby d4_42) (by decide) (by decide)
    replace G := own_iloadN (q := 18) G X6.here hx (hb hby d4_17) rfl rfl
    replace G := own_aloadN (q := 19) G X6.here hx (hb hby d4_18) rfl rfl rfl
    obtain ⟨T10, X10, e10, st10⟩ := getF X6 hx hZ hown (host := "") (Or.inl (hw _ (List.mem_of_getElem? (i := 27) rfl))) Via.refl e6 P1 (g := (mkF m 19 #[.val (.ref a), .val (.ref d), .val (.int (1 : Int32))] [(.ref a), (.int (1 : Int32))])) rfl rfl (hb hby d4_19)
    replace G : Gets p e below _ (T10.setTop (mkF m 22 #[.val (.ref a), .val (.ref d), .val (.int (1 : Int32))] [(.int (3 : Int32)), (.int (1 : Int32))])) := fun t k => G t (st10 t k)
    have hc22_11 : (1 : Int32) < (3 : Int32) := by decide
    replace G := own_icmpNo (q := 25) G X10.here hx (hb hby d4_22) (tlt hc22_11).2.1 rfl
    replace G := own_aloadN (q := 26) G X10.here hx (hb hby d4_25) rfl rfl rfl
    obtain ⟨T12, X12, e12, st12⟩ := getF X10 hx hZ hown (host := "") (Or.inl (hw _ (List.mem_of_getElem? (i := 15) rfl))) Via.refl e10 P0 (g := (mkF m 26 #[.val (.ref a), .val (.ref d), .val (.int (1 : Int32))] [(.ref a)])) rfl rfl (hb hby d4_26)
    replace G : Gets p e below _ (T12.setTop (mkF m 29 #[.val (.ref a), .val (.ref d), .val (.int (1 : Int32))] [(.ref b)])) := fun t k => G t (st12 t k)
    replace G := own_iloadN (q := 30) G X12.here hx (hb hby d4_29) rfl rfl
    obtain ⟨c13, Ar13, -, S13, -, H13, -⟩ := id P2
    have hin13 : ¬ ((1 : Int32) < 0 ∨ c13.slots.size ≤ ((1 : Int32)).toNatClampNeg) := inb_of S13 ⟨by decide, by decide⟩
    replace G : Gets p e below _ (T12.setTop (mkF m 31 #[.val (.ref a), .val (.ref d), .val (.int (1 : Int32))] [(.int ec1)])) := fun t k => G t (X12.caload hx (j := (1 : Int32)) (v := (.int ec1)) (by rw [e12]; exact Ar13.1) (State.isArrayOf_alike hZ.alike Ar13.2.1) Ar13.2.2 hin13 (Has.at H13 hin13 rfl) (g := (mkF m 30 #[.val (.ref a), .val (.ref d), .val (.int (1 : Int32))] [(.int (1 : Int32)), (.ref b)])) rfl rfl (hb hby d4_30) t k)
    replace G := own_aloadN (q := 32) G X12.here hx (hb hby d4_31) rfl rfl rfl
    replace G := own_iloadN (q := 33) G X12.here hx (hb hby d4_32) rfl rfl
    obtain ⟨c14, Ar14, -, S14, -, H14, -⟩ := id P3
    have hin14 : ¬ ((1 : Int32) < 0 ∨ c14.slots.size ≤ ((1 : Int32)).toNatClampNeg) := inb_of S14 ⟨by decide, by decide⟩
    replace G : Gets p e below _ (T12.setTop (mkF m 34 #[.val (.ref a), .val (.ref d), .val (.int (1 : Int32))] [(.int f1), (.int ec1)])) := fun t k => G t (X12.caload hx (j := (1 : Int32)) (v := (.int f1)) (by rw [e12]; exact Ar14.1) (State.isArrayOf_alike hZ.alike Ar14.2.1) Ar14.2.2 hin14 (Has.at H14 hin14 rfl) (g := (mkF m 33 #[.val (.ref a), .val (.ref d), .val (.int (1 : Int32))] [(.int (1 : Int32)), (.ref d), (.int ec1)])) rfl rfl (hb hby d4_33) t k)
    by_cases hc34_15 : ec1 = f1
    · replace G := own_icmpYes (q := 39) G X12.here hx (hb hby d4_34) (teq hc34_15).1 (by decide) (by decide)
      replace G := own_iinc (q := 42) (l' := #[.val (.ref a), .val (.ref d), .val (.int (2 : Int32))]) (w := (1 : Int32)) G X12.here hx (hb hby d4_39) (by decide) rfl (by decide : ((1 : Int32) + (1 : Int32)) = (2 : Int32)) rfl rfl
      replace G := own_goto (q := 17) G X12.here hx (hb hby d4_42) (by decide) (by decide)
      replace G := own_iloadN (q := 18) G X12.here hx (hb hby d4_17) rfl rfl
      replace G := own_aloadN (q := 19) G X12.here hx (hb hby d4_18) rfl rfl rfl
      obtain ⟨T16, X16, e16, st16⟩ := getF X12 hx hZ hown (host := "") (Or.inl (hw _ (List.mem_of_getElem? (i := 27) rfl))) Via.refl e12 P1 (g := (mkF m 19 #[.val (.ref a), .val (.ref d), .val (.int (2 : Int32))] [(.ref a), (.int (2 : Int32))])) rfl rfl (hb hby d4_19)
      replace G : Gets p e below _ (T16.setTop (mkF m 22 #[.val (.ref a), .val (.ref d), .val (.int (2 : Int32))] [(.int (3 : Int32)), (.int (2 : Int32))])) := fun t k => G t (st16 t k)
      have hc22_17 : (2 : Int32) < (3 : Int32) := by decide
      replace G := own_icmpNo (q := 25) G X16.here hx (hb hby d4_22) (tlt hc22_17).2.1 rfl
      replace G := own_aloadN (q := 26) G X16.here hx (hb hby d4_25) rfl rfl rfl
      obtain ⟨T18, X18, e18, st18⟩ := getF X16 hx hZ hown (host := "") (Or.inl (hw _ (List.mem_of_getElem? (i := 15) rfl))) Via.refl e16 P0 (g := (mkF m 26 #[.val (.ref a), .val (.ref d), .val (.int (2 : Int32))] [(.ref a)])) rfl rfl (hb hby d4_26)
      replace G : Gets p e below _ (T18.setTop (mkF m 29 #[.val (.ref a), .val (.ref d), .val (.int (2 : Int32))] [(.ref b)])) := fun t k => G t (st18 t k)
      replace G := own_iloadN (q := 30) G X18.here hx (hb hby d4_29) rfl rfl
      obtain ⟨c19, Ar19, -, S19, -, H19, -⟩ := id P2
      have hin19 : ¬ ((2 : Int32) < 0 ∨ c19.slots.size ≤ ((2 : Int32)).toNatClampNeg) := inb_of S19 ⟨by decide, by decide⟩
      replace G : Gets p e below _ (T18.setTop (mkF m 31 #[.val (.ref a), .val (.ref d), .val (.int (2 : Int32))] [(.int ec2)])) := fun t k => G t (X18.caload hx (j := (2 : Int32)) (v := (.int ec2)) (by rw [e18]; exact Ar19.1) (State.isArrayOf_alike hZ.alike Ar19.2.1) Ar19.2.2 hin19 (Has.at H19 hin19 rfl) (g := (mkF m 30 #[.val (.ref a), .val (.ref d), .val (.int (2 : Int32))] [(.int (2 : Int32)), (.ref b)])) rfl rfl (hb hby d4_30) t k)
      replace G := own_aloadN (q := 32) G X18.here hx (hb hby d4_31) rfl rfl rfl
      replace G := own_iloadN (q := 33) G X18.here hx (hb hby d4_32) rfl rfl
      obtain ⟨c20, Ar20, -, S20, -, H20, -⟩ := id P3
      have hin20 : ¬ ((2 : Int32) < 0 ∨ c20.slots.size ≤ ((2 : Int32)).toNatClampNeg) := inb_of S20 ⟨by decide, by decide⟩
      replace G : Gets p e below _ (T18.setTop (mkF m 34 #[.val (.ref a), .val (.ref d), .val (.int (2 : Int32))] [(.int f2), (.int ec2)])) := fun t k => G t (X18.caload hx (j := (2 : Int32)) (v := (.int f2)) (by rw [e18]; exact Ar20.1) (State.isArrayOf_alike hZ.alike Ar20.2.1) Ar20.2.2 hin20 (Has.at H20 hin20 rfl) (g := (mkF m 33 #[.val (.ref a), .val (.ref d), .val (.int (2 : Int32))] [(.int (2 : Int32)), (.ref d), (.int ec2)])) rfl rfl (hb hby d4_33) t k)
      by_cases hc34_21 : ec2 = f2
      · replace G := own_icmpYes (q := 39) G X18.here hx (hb hby d4_34) (teq hc34_21).1 (by decide) (by decide)
        replace G := own_iinc (q := 42) (l' := #[.val (.ref a), .val (.ref d), .val (.int (3 : Int32))]) (w := (1 : Int32)) G X18.here hx (hb hby d4_39) (by decide) rfl (by decide : ((2 : Int32) + (1 : Int32)) = (3 : Int32)) rfl rfl
        replace G := own_goto (q := 17) G X18.here hx (hb hby d4_42) (by decide) (by decide)
        replace G := own_iloadN (q := 18) G X18.here hx (hb hby d4_17) rfl rfl
        replace G := own_aloadN (q := 19) G X18.here hx (hb hby d4_18) rfl rfl rfl
        obtain ⟨T22, X22, e22, st22⟩ := getF X18 hx hZ hown (host := "") (Or.inl (hw _ (List.mem_of_getElem? (i := 27) rfl))) Via.refl e18 P1 (g := (mkF m 19 #[.val (.ref a), .val (.ref d), .val (.int (3 : Int32))] [(.ref a), (.int (3 : Int32))])) rfl rfl (hb hby d4_19)
        replace G : Gets p e below _ (T22.setTop (mkF m 22 #[.val (.ref a), .val (.ref d), .val (.int (3 : Int32))] [(.int (3 : Int32)), (.int (3 : Int32))])) := fun t k => G t (st22 t k)
        have hc22_23 : ¬ ((3 : Int32) < (3 : Int32)) := by decide
        replace G := own_icmpYes (q := 45) G X22.here hx (hb hby d4_22) (flt hc22_23).2.1 (by decide) (by decide)
        replace G := own_iconst (q := 46) G X22.here hx (hb hby d4_45) (v := (1 : Int32)) (by decide) rfl
        obtain ⟨fs, hr, hrun, hended, hW, hsame⟩ := X22.leave (v := some (.int (1 : Int32))) (fun h => by rw [Bd.returns] at h; cases h)
        refine ⟨_, _, G _ (retOut X22 hx Bd.returns rfl (Or.inl ⟨rfl, Or.inr (Or.inl rfl), _, rfl⟩) (hb hby d4_46) hr), hrun, hended, _, _, rfl, ?_, ⟨_, rfl⟩, hW, hsame.mono (by decide) (by decide)⟩
        show Q4n3m3 Z a d b kb kd ec0 ec1 ec2 f0 f1 f2 h0 n0 _ T22.heap _
        rw [e22]
        exact ⟨(congrArg (fun z => some (Value.int z)) (by simp [own_ce1, own_ce2, own_ce3, hc34_9, hc34_15, hc34_21])), N0, rfl⟩
      · replace G := own_icmpNo (q := 37) G X18.here hx (hb hby d4_34) (feq hc34_21).1 rfl
        replace G := own_iconst (q := 38) G X18.here hx (hb hby d4_37) (v := (0 : Int32)) (by decide) rfl
        obtain ⟨fs, hr, hrun, hended, hW, hsame⟩ := X18.leave (v := some (.int (0 : Int32))) (fun h => by rw [Bd.returns] at h; cases h)
        refine ⟨_, _, G _ (retOut X18 hx Bd.returns rfl (Or.inl ⟨rfl, Or.inr (Or.inl rfl), _, rfl⟩) (hb hby d4_38) hr), hrun, hended, _, _, rfl, ?_, ⟨_, rfl⟩, hW, hsame.mono (by decide) (by decide)⟩
        show Q4n3m3 Z a d b kb kd ec0 ec1 ec2 f0 f1 f2 h0 n0 _ T18.heap _
        rw [e18]
        exact ⟨(congrArg (fun z => some (Value.int z)) (by simp [own_ce1, own_ce2, own_ce3, hc34_9, hc34_15, hc34_21])), N0, rfl⟩
    · replace G := own_icmpNo (q := 37) G X12.here hx (hb hby d4_34) (feq hc34_15).1 rfl
      replace G := own_iconst (q := 38) G X12.here hx (hb hby d4_37) (v := (0 : Int32)) (by decide) rfl
      obtain ⟨fs, hr, hrun, hended, hW, hsame⟩ := X12.leave (v := some (.int (0 : Int32))) (fun h => by rw [Bd.returns] at h; cases h)
      refine ⟨_, _, G _ (retOut X12 hx Bd.returns rfl (Or.inl ⟨rfl, Or.inr (Or.inl rfl), _, rfl⟩) (hb hby d4_38) hr), hrun, hended, _, _, rfl, ?_, ⟨_, rfl⟩, hW, hsame.mono (by decide) (by decide)⟩
      show Q4n3m3 Z a d b kb kd ec0 ec1 ec2 f0 f1 f2 h0 n0 _ T12.heap _
      rw [e12]
      exact ⟨(congrArg (fun z => some (Value.int z)) (by simp [own_ce1, own_ce2, own_ce3, hc34_9, hc34_15])), N0, rfl⟩
  · replace G := own_icmpNo (q := 37) G X6.here hx (hb hby d4_34) (feq hc34_9).1 rfl
    replace G := own_iconst (q := 38) G X6.here hx (hb hby d4_37) (v := (0 : Int32)) (by decide) rfl
    obtain ⟨fs, hr, hrun, hended, hW, hsame⟩ := X6.leave (v := some (.int (0 : Int32))) (fun h => by rw [Bd.returns] at h; cases h)
    refine ⟨_, _, G _ (retOut X6 hx Bd.returns rfl (Or.inl ⟨rfl, Or.inr (Or.inl rfl), _, rfl⟩) (hb hby d4_38) hr), hrun, hended, _, _, rfl, ?_, ⟨_, rfl⟩, hW, hsame.mono (by decide) (by decide)⟩
    show Q4n3m3 Z a d b kb kd ec0 ec1 ec2 f0 f1 f2 h0 n0 _ T6.heap _
    rw [e6]
    exact ⟨(congrArg (fun z => some (Value.int z)) (by simp [own_ce1, own_ce2, own_ce3, hc34_9])), N0, rfl⟩
theorem d5_0 : decode prog_6_method_9_code 0 = .ok (.aload_n 0, 1) := by decide +kernel
theorem d5_1 : decode prog_6_method_9_code 1 = .ok (.getfield 39, 3) := by decide +kernel
theorem d5_4 : decode prog_6_method_9_code 4 = .ok (.ireturn, 1) := by decide +kernel
theorem ef_5k0 (m : MethodId) (x0 : Addr) : entryFrame m #[(.ref x0)] 1 = mkF m 0 #[.val (.ref x0)] [] := by first | (simp [entryFrame, mkF, argsToLocals, Value.category]; done) | rfl
def Q5k0 (Z : State) (a : Addr) (h0 : Heap) (n0 : Nat) (v : Option Value) (h : Heap) (L : List Loc) : Prop := v = some (.int (0 : Int32)) ∧ Fr n0 L ∧ h = h0
set_option maxRecDepth 65536 in
set_option maxHeartbeats 40000000 in
theorem rm5k0 (l : Launch) (Z : State) (a0 : Array Value) (hw : ∀ d ∈ tables_1, d.before a0 Z = true) (ws : List Jvm.Cond) (a : Addr) (h0 : Heap) (n0 : Nat) (Z0 : n0 ≤ h0.size) (P0 : Fld Z h0 a "com/example/leafcutter/leafcutter/io/TextBuffer" "length" "I" (.int (0 : Int32))) :
    MetFree l (⟨"com/example/leafcutter/leafcutter/io/TextBuffer", "length", "()I"⟩ : MethodName) (head1 (Jvm.Cond.code (⟨"com/example/leafcutter/leafcutter/io/TextBuffer", "length", "()I"⟩ : MethodName) prog_6_method_9_code 1 (some .int) :: ws) ({ frames := 0, cells := 0, slots := 0, locals := 0 } : Room)) (fun argz U => argz = #[(.ref a)] ∧ Z.Warmed39 U.vm ∧ U.heap = h0) (fun _ _ _ _ _ => True) (fun _ U o U' => ∃ v L, o = .returned v ∧ Q5k0 Z a h0 n0 v U'.heap L ∧ FrameEnd U o U' L ({ frames := 0, cells := 0, slots := 0, locals := 0 } : Room).cells ({ frames := 0, cells := 0, slots := 0, locals := 0 } : Room).slots) := by
  refine MetFree.of_bodySF (plainFor_of_name pn_com_example_leafcutter_leafcutter_io_TextBuffer) hisR ?_
  intro p e s m args below meth c s₁ Bd hml0 hP hK
  obtain ⟨rfl, hZ, hh⟩ := hP
  have hx := Bd.exec
  have hby := Bd.bytes
  have hml : c.maxLocals = 1 := hml0
  have hown : s.vm.findClass "com/example/leafcutter/leafcutter/io/TextBuffer" = some m.cls := findClass_of_methodNamed Bd.named
  have hnm := (name_of_methodNamed Bd.named Bd.method).1
  have X0 : Stand p l e ({ frames := 0, cells := 0, slots := 0, locals := 0 } : Room) s m #[(.ref a)] below meth c s₁ [] 0 0 := Stand.of_body Bd
  have e0 : s₁.heap = h0 := by rw [← hh, Bd.state]; rfl
  have N0 := Fr.nil n0
  have G : Gets p e below (s₁.setTop (entryFrame m #[(.ref a)] 1)) (s₁.setTop (mkF m 0 #[.val (.ref a)] [])) := fun t k => castTop (ef_5k0 m a) k
  replace G := own_aloadN (q := 1) G X0.here hx (hb hby d5_0) rfl rfl rfl
  obtain ⟨T1, X1, e1, st1⟩ := getF X0 hx hZ hown (host := "") (Or.inl (hw _ (List.mem_of_getElem? (i := 27) rfl))) Via.refl e0 P0 (g := (mkF m 1 #[.val (.ref a)] [(.ref a)])) rfl rfl (hb hby d5_1)
  replace G : Gets p e below _ (T1.setTop (mkF m 4 #[.val (.ref a)] [(.int (0 : Int32))])) := fun t k => G t (st1 t k)
  obtain ⟨fs, hr, hrun, hended, hW, hsame⟩ := X1.leave (v := some (.int (0 : Int32))) (fun h => by rw [Bd.returns] at h; cases h)
  refine ⟨_, _, G _ (retOut X1 hx Bd.returns rfl (Or.inl ⟨rfl, Or.inl rfl, _, rfl⟩) (hb hby d5_4) hr), hrun, hended, _, _, rfl, ?_, ⟨_, rfl⟩, hW, hsame.mono (by decide) (by decide)⟩
  show Q5k0 Z a h0 n0 _ T1.heap _
  rw [e1]
  exact ⟨rfl, N0, rfl⟩
theorem ef_5k1 (m : MethodId) (x0 : Addr) : entryFrame m #[(.ref x0)] 1 = mkF m 0 #[.val (.ref x0)] [] := by first | (simp [entryFrame, mkF, argsToLocals, Value.category]; done) | rfl
def Q5k1 (Z : State) (a : Addr) (h0 : Heap) (n0 : Nat) (v : Option Value) (h : Heap) (L : List Loc) : Prop := v = some (.int (1 : Int32)) ∧ Fr n0 L ∧ h = h0
set_option maxRecDepth 65536 in
set_option maxHeartbeats 40000000 in
theorem rm5k1 (l : Launch) (Z : State) (a0 : Array Value) (hw : ∀ d ∈ tables_1, d.before a0 Z = true) (ws : List Jvm.Cond) (a : Addr) (h0 : Heap) (n0 : Nat) (Z0 : n0 ≤ h0.size) (P0 : Fld Z h0 a "com/example/leafcutter/leafcutter/io/TextBuffer" "length" "I" (.int (1 : Int32))) :
    MetFree l (⟨"com/example/leafcutter/leafcutter/io/TextBuffer", "length", "()I"⟩ : MethodName) (head1 (Jvm.Cond.code (⟨"com/example/leafcutter/leafcutter/io/TextBuffer", "length", "()I"⟩ : MethodName) prog_6_method_9_code 1 (some .int) :: ws) ({ frames := 0, cells := 0, slots := 0, locals := 0 } : Room)) (fun argz U => argz = #[(.ref a)] ∧ Z.Warmed39 U.vm ∧ U.heap = h0) (fun _ _ _ _ _ => True) (fun _ U o U' => ∃ v L, o = .returned v ∧ Q5k1 Z a h0 n0 v U'.heap L ∧ FrameEnd U o U' L ({ frames := 0, cells := 0, slots := 0, locals := 0 } : Room).cells ({ frames := 0, cells := 0, slots := 0, locals := 0 } : Room).slots) := by
  refine MetFree.of_bodySF (plainFor_of_name pn_com_example_leafcutter_leafcutter_io_TextBuffer) hisR ?_
  intro p e s m args below meth c s₁ Bd hml0 hP hK
  obtain ⟨rfl, hZ, hh⟩ := hP
  have hx := Bd.exec
  have hby := Bd.bytes
  have hml : c.maxLocals = 1 := hml0
  have hown : s.vm.findClass "com/example/leafcutter/leafcutter/io/TextBuffer" = some m.cls := findClass_of_methodNamed Bd.named
  have hnm := (name_of_methodNamed Bd.named Bd.method).1
  have X0 : Stand p l e ({ frames := 0, cells := 0, slots := 0, locals := 0 } : Room) s m #[(.ref a)] below meth c s₁ [] 0 0 := Stand.of_body Bd
  have e0 : s₁.heap = h0 := by rw [← hh, Bd.state]; rfl
  have N0 := Fr.nil n0
  have G : Gets p e below (s₁.setTop (entryFrame m #[(.ref a)] 1)) (s₁.setTop (mkF m 0 #[.val (.ref a)] [])) := fun t k => castTop (ef_5k1 m a) k
  replace G := own_aloadN (q := 1) G X0.here hx (hb hby d5_0) rfl rfl rfl
  obtain ⟨T1, X1, e1, st1⟩ := getF X0 hx hZ hown (host := "") (Or.inl (hw _ (List.mem_of_getElem? (i := 27) rfl))) Via.refl e0 P0 (g := (mkF m 1 #[.val (.ref a)] [(.ref a)])) rfl rfl (hb hby d5_1)
  replace G : Gets p e below _ (T1.setTop (mkF m 4 #[.val (.ref a)] [(.int (1 : Int32))])) := fun t k => G t (st1 t k)
  obtain ⟨fs, hr, hrun, hended, hW, hsame⟩ := X1.leave (v := some (.int (1 : Int32))) (fun h => by rw [Bd.returns] at h; cases h)
  refine ⟨_, _, G _ (retOut X1 hx Bd.returns rfl (Or.inl ⟨rfl, Or.inl rfl, _, rfl⟩) (hb hby d5_4) hr), hrun, hended, _, _, rfl, ?_, ⟨_, rfl⟩, hW, hsame.mono (by decide) (by decide)⟩
  show Q5k1 Z a h0 n0 _ T1.heap _
  rw [e1]
  exact ⟨rfl, N0, rfl⟩
theorem ef_5k2 (m : MethodId) (x0 : Addr) : entryFrame m #[(.ref x0)] 1 = mkF m 0 #[.val (.ref x0)] [] := by first | (simp [entryFrame, mkF, argsToLocals, Value.category]; done) | rfl
def Q5k2 (Z : State) (a : Addr) (h0 : Heap) (n0 : Nat) (v : Option Value) (h : Heap) (L : List Loc) : Prop := v = some (.int (2 : Int32)) ∧ Fr n0 L ∧ h = h0
set_option maxRecDepth 65536 in
set_option maxHeartbeats 40000000 in
theorem rm5k2 (l : Launch) (Z : State) (a0 : Array Value) (hw : ∀ d ∈ tables_1, d.before a0 Z = true) (ws : List Jvm.Cond) (a : Addr) (h0 : Heap) (n0 : Nat) (Z0 : n0 ≤ h0.size) (P0 : Fld Z h0 a "com/example/leafcutter/leafcutter/io/TextBuffer" "length" "I" (.int (2 : Int32))) :
    MetFree l (⟨"com/example/leafcutter/leafcutter/io/TextBuffer", "length", "()I"⟩ : MethodName) (head1 (Jvm.Cond.code (⟨"com/example/leafcutter/leafcutter/io/TextBuffer", "length", "()I"⟩ : MethodName) prog_6_method_9_code 1 (some .int) :: ws) ({ frames := 0, cells := 0, slots := 0, locals := 0 } : Room)) (fun argz U => argz = #[(.ref a)] ∧ Z.Warmed39 U.vm ∧ U.heap = h0) (fun _ _ _ _ _ => True) (fun _ U o U' => ∃ v L, o = .returned v ∧ Q5k2 Z a h0 n0 v U'.heap L ∧ FrameEnd U o U' L ({ frames := 0, cells := 0, slots := 0, locals := 0 } : Room).cells ({ frames := 0, cells := 0, slots := 0, locals := 0 } : Room).slots) := by
  refine MetFree.of_bodySF (plainFor_of_name pn_com_example_leafcutter_leafcutter_io_TextBuffer) hisR ?_
  intro p e s m args below meth c s₁ Bd hml0 hP hK
  obtain ⟨rfl, hZ, hh⟩ := hP
  have hx := Bd.exec
  have hby := Bd.bytes
  have hml : c.maxLocals = 1 := hml0
  have hown : s.vm.findClass "com/example/leafcutter/leafcutter/io/TextBuffer" = some m.cls := findClass_of_methodNamed Bd.named
  have hnm := (name_of_methodNamed Bd.named Bd.method).1
  have X0 : Stand p l e ({ frames := 0, cells := 0, slots := 0, locals := 0 } : Room) s m #[(.ref a)] below meth c s₁ [] 0 0 := Stand.of_body Bd
  have e0 : s₁.heap = h0 := by rw [← hh, Bd.state]; rfl
  have N0 := Fr.nil n0
  have G : Gets p e below (s₁.setTop (entryFrame m #[(.ref a)] 1)) (s₁.setTop (mkF m 0 #[.val (.ref a)] [])) := fun t k => castTop (ef_5k2 m a) k
  replace G := own_aloadN (q := 1) G X0.here hx (hb hby d5_0) rfl rfl rfl
  obtain ⟨T1, X1, e1, st1⟩ := getF X0 hx hZ hown (host := "") (Or.inl (hw _ (List.mem_of_getElem? (i := 27) rfl))) Via.refl e0 P0 (g := (mkF m 1 #[.val (.ref a)] [(.ref a)])) rfl rfl (hb hby d5_1)
  replace G : Gets p e below _ (T1.setTop (mkF m 4 #[.val (.ref a)] [(.int (2 : Int32))])) := fun t k => G t (st1 t k)
  obtain ⟨fs, hr, hrun, hended, hW, hsame⟩ := X1.leave (v := some (.int (2 : Int32))) (fun h => by rw [Bd.returns] at h; cases h)
  refine ⟨_, _, G _ (retOut X1 hx Bd.returns rfl (Or.inl ⟨rfl, Or.inl rfl, _, rfl⟩) (hb hby d5_4) hr), hrun, hended, _, _, rfl, ?_, ⟨_, rfl⟩, hW, hsame.mono (by decide) (by decide)⟩
  show Q5k2 Z a h0 n0 _ T1.heap _
  rw [e1]
  exact ⟨rfl, N0, rfl⟩
theorem ef_5k3 (m : MethodId) (x0 : Addr) : entryFrame m #[(.ref x0)] 1 = mkF m 0 #[.val (.ref x0)] [] := by first | (simp [entryFrame, mkF, argsToLocals, Value.category]; done) | rfl
def Q5k3 (Z : State) (a : Addr) (h0 : Heap) (n0 : Nat) (v : Option Value) (h : Heap) (L : List Loc) : Prop := v = some (.int (3 : Int32)) ∧ Fr n0 L ∧ h = h0
set_option maxRecDepth 65536 in
set_option maxHeartbeats 40000000 in
theorem rm5k3 (l : Launch) (Z : State) (a0 : Array Value) (hw : ∀ d ∈ tables_1, d.before a0 Z = true) (ws : List Jvm.Cond) (a : Addr) (h0 : Heap) (n0 : Nat) (Z0 : n0 ≤ h0.size) (P0 : Fld Z h0 a "com/example/leafcutter/leafcutter/io/TextBuffer" "length" "I" (.int (3 : Int32))) :
    MetFree l (⟨"com/example/leafcutter/leafcutter/io/TextBuffer", "length", "()I"⟩ : MethodName) (head1 (Jvm.Cond.code (⟨"com/example/leafcutter/leafcutter/io/TextBuffer", "length", "()I"⟩ : MethodName) prog_6_method_9_code 1 (some .int) :: ws) ({ frames := 0, cells := 0, slots := 0, locals := 0 } : Room)) (fun argz U => argz = #[(.ref a)] ∧ Z.Warmed39 U.vm ∧ U.heap = h0) (fun _ _ _ _ _ => True) (fun _ U o U' => ∃ v L, o = .returned v ∧ Q5k3 Z a h0 n0 v U'.heap L ∧ FrameEnd U o U' L ({ frames := 0, cells := 0, slots := 0, locals := 0 } : Room).cells ({ frames := 0, cells := 0, slots := 0, locals := 0 } : Room).slots) := by
  refine MetFree.of_bodySF (plainFor_of_name pn_com_example_leafcutter_leafcutter_io_TextBuffer) hisR ?_
  intro p e s m args below meth c s₁ Bd hml0 hP hK
  obtain ⟨rfl, hZ, hh⟩ := hP
  have hx := Bd.exec
  have hby := Bd.bytes
  have hml : c.maxLocals = 1 := hml0
  have hown : s.vm.findClass "com/example/leafcutter/leafcutter/io/TextBuffer" = some m.cls := findClass_of_methodNamed Bd.named
  have hnm := (name_of_methodNamed Bd.named Bd.method).1
  have X0 : Stand p l e ({ frames := 0, cells := 0, slots := 0, locals := 0 } : Room) s m #[(.ref a)] below meth c s₁ [] 0 0 := Stand.of_body Bd
  have e0 : s₁.heap = h0 := by rw [← hh, Bd.state]; rfl
  have N0 := Fr.nil n0
  have G : Gets p e below (s₁.setTop (entryFrame m #[(.ref a)] 1)) (s₁.setTop (mkF m 0 #[.val (.ref a)] [])) := fun t k => castTop (ef_5k3 m a) k
  replace G := own_aloadN (q := 1) G X0.here hx (hb hby d5_0) rfl rfl rfl
  obtain ⟨T1, X1, e1, st1⟩ := getF X0 hx hZ hown (host := "") (Or.inl (hw _ (List.mem_of_getElem? (i := 27) rfl))) Via.refl e0 P0 (g := (mkF m 1 #[.val (.ref a)] [(.ref a)])) rfl rfl (hb hby d5_1)
  replace G : Gets p e below _ (T1.setTop (mkF m 4 #[.val (.ref a)] [(.int (3 : Int32))])) := fun t k => G t (st1 t k)
  obtain ⟨fs, hr, hrun, hended, hW, hsame⟩ := X1.leave (v := some (.int (3 : Int32))) (fun h => by rw [Bd.returns] at h; cases h)
  refine ⟨_, _, G _ (retOut X1 hx Bd.returns rfl (Or.inl ⟨rfl, Or.inl rfl, _, rfl⟩) (hb hby d5_4) hr), hrun, hended, _, _, rfl, ?_, ⟨_, rfl⟩, hW, hsame.mono (by decide) (by decide)⟩
  show Q5k3 Z a h0 n0 _ T1.heap _
  rw [e1]
  exact ⟨rfl, N0, rfl⟩
theorem pd_6 : parseMethodDescriptor "()V" = some ⟨[], none⟩ := by decide +kernel
theorem pd_7 : parseMethodDescriptor "([C)Z" = some ⟨[(.array .char)], some .boolean⟩ := by decide +kernel
theorem pd_8 : parseMethodDescriptor "()I" = some ⟨[], some .int⟩ := by decide +kernel
theorem pd_9 : parseMethodDescriptor "(C)Lcom/example/leafcutter/leafcutter/io/TextBuffer;" = some ⟨[.char], some (.object "com/example/leafcutter/leafcutter/io/TextBuffer")⟩ := by decide +kernel
theorem pn_com_example_leafcutter_leafcutter_io_TextBufferContentEqualsPinLaw : plainName "com/example/leafcutter/leafcutter/io/TextBufferContentEqualsPinLaw" = true := by first | (simp [plainName, overriddenIn]; done) | decide +kernel
theorem ef_0 (m : MethodId) (x0 : Int32) (x1 : Int32) (x2 : Int32) (x3 : Int32) (x4 : Int32) : entryFrame m #[(.int x0), (.int x1), (.int x2), (.int x3), (.int x4)] maxLocals = mkF m 0 #[.val (.int x0), .val (.int x1), .val (.int x2), .val (.int x3), .val (.int x4), .unset, .unset, .unset, .unset, .unset, .unset, .unset, .unset, .unset, .unset, .unset, .unset, .unset] [] := by first | (simp [entryFrame, mkF, argsToLocals, Value.category, maxLocals]; done) | rfl
def Q0 (Z : State) (i0 : Int32) (i1 : Int32) (i2 : Int32) (i3 : Int32) (i4 : Int32) (sa : Addr) (ks : ClassId) (h0 : Heap) (n0 : Nat) (v : Option Value) (h : Heap) (L : List Loc) : Prop := v = some (.int (1 : Int32)) ∧ Fr n0 L
set_option maxRecDepth 65536 in
set_option maxHeartbeats 40000000 in
theorem rm0 (l : Launch) (Z : State) (a0 : Array Value) (hw : ∀ d ∈ tables_1, d.before a0 Z = true) (ws : List Jvm.Cond) (i0 : Int32) (i1 : Int32) (i2 : Int32) (i3 : Int32) (i4 : Int32) (sa : Addr) (ks : ClassId) (h0 : Heap) (n0 : Nat) (Z0 : n0 ≤ h0.size) (P0 : Sta Z h0 "com/example/leafcutter/leafcutter/io/TextBuffer" "NO_STORAGE" "[C" (.ref sa)) (P1 : Arv Z h0 sa ks .char (0 : Int32) [] (.int (0 : Int32))) :
    MetFree l x (head1 (Jvm.Cond.code x code maxLocals ret :: ws) room_1) (fun argz U => argz = #[(.int i0), (.int i1), (.int i2), (.int i3), (.int i4)] ∧ Z.Warmed39 U.vm ∧ U.heap = h0) (fun _ _ _ _ _ => True) (fun _ U o U' => ∃ v L, o = .returned v ∧ Q0 Z i0 i1 i2 i3 i4 sa ks h0 n0 v U'.heap L ∧ FrameEnd U o U' L room_1.cells room_1.slots) := by
  refine MetFree.of_bodySF (plainFor_of_name pn_com_example_leafcutter_leafcutter_io_TextBufferContentEqualsPinLaw) hisR ?_
  intro p e s m args below meth c s₁ Bd hml0 hP hK
  obtain ⟨rfl, hZ, hh⟩ := hP
  have hx := Bd.exec
  have hby := Bd.bytes
  have hml : c.maxLocals = 18 := hml0
  have hown : s.vm.findClass "com/example/leafcutter/leafcutter/io/TextBufferContentEqualsPinLaw" = some m.cls := findClass_of_methodNamed Bd.named
  have hnm := (name_of_methodNamed Bd.named Bd.method).1
  have X0 : Stand p l e room_1 s m #[(.int i0), (.int i1), (.int i2), (.int i3), (.int i4)] below meth c s₁ [] 0 0 := Stand.of_body Bd
  have e0 : s₁.heap = h0 := by rw [← hh, Bd.state]; rfl
  have N0 := Fr.nil n0
  have G : Gets p e below (s₁.setTop (entryFrame m #[(.int i0), (.int i1), (.int i2), (.int i3), (.int i4)] maxLocals)) (s₁.setTop (mkF m 0 #[.val (.int i0), .val (.int i1), .val (.int i2), .val (.int i3), .val (.int i4), .unset, .unset, .unset, .unset, .unset, .unset, .unset, .unset, .unset, .unset, .unset, .unset, .unset] [])) := fun t k => castTop (ef_0 m i0 i1 i2 i3 i4) k
  replace G := own_iload (q := 2) G X0.here hx (hb hby at_0) rfl rfl
  replace G := own_iconst (q := 3) G X0.here hx (hb hby at_2) (v := (3 : Int32)) (by decide) rfl
  obtain ⟨nq0, hn_nq0⟩ : ∃ z : Int32, (i4 &&& (3 : Int32)) = z := ⟨_, rfl⟩
  replace G := own_iand (q := 4) G X0.here hx (hb hby at_3) hn_nq0 rfl
  replace G := own_istore (q := 6) (l' := #[.val (.int i0), .val (.int i1), .val (.int i2), .val (.int i3), .val (.int i4), .val (.int nq0), .unset, .unset, .unset, .unset, .unset, .unset, .unset, .unset, .unset, .unset, .unset, .unset]) G X0.here hx (hb hby at_4) rfl rfl
  replace G := own_iload (q := 8) G X0.here hx (hb hby at_6) rfl rfl
  replace G := own_iconst (q := 9) G X0.here hx (hb hby at_8) (v := (2 : Int32)) (by decide) rfl
  obtain ⟨sh, hn_sh⟩ : ∃ z : Int32, ((i4.toUInt32 >>> ((2 : Int32) &&& 31).toUInt32).toInt32) = z := ⟨_, rfl⟩
  replace G := own_iushr (q := 10) G X0.here hx (hb hby at_9) hn_sh rfl
  replace G := own_iconst (q := 11) G X0.here hx (hb hby at_10) (v := (3 : Int32)) (by decide) rfl
  obtain ⟨m0, hn_m0⟩ : ∃ z : Int32, (sh &&& (3 : Int32)) = z := ⟨_, rfl⟩
  replace G := own_iand (q := 12) G X0.here hx (hb hby at_11) hn_m0 rfl
  replace G := own_istore (q := 14) (l' := #[.val (.int i0), .val (.int i1), .val (.int i2), .val (.int i3), .val (.int i4), .val (.int nq0), .val (.int m0), .unset, .unset, .unset, .unset, .unset, .unset, .unset, .unset, .unset, .unset, .unset]) G X0.here hx (hb hby at_12) rfl rfl
  replace G := own_iload (q := 16) G X0.here hx (hb hby at_14) rfl rfl
  replace G := own_iconst (q := 17) G X0.here hx (hb hby at_16) (v := (4 : Int32)) (by decide) rfl
  obtain ⟨sv, hn_sv⟩ : ∃ z : Int32, ((i4.toUInt32 >>> ((4 : Int32) &&& 31).toUInt32).toInt32) = z := ⟨_, rfl⟩
  replace G := own_iushr (q := 18) G X0.here hx (hb hby at_17) hn_sv rfl
  replace G := own_iconst (q := 19) G X0.here hx (hb hby at_18) (v := (1 : Int32)) (by decide) rfl
  obtain ⟨sw, hn_sw⟩ : ∃ z : Int32, (sv &&& (1 : Int32)) = z := ⟨_, rfl⟩
  replace G := own_iand (q := 20) G X0.here hx (hb hby at_19) hn_sw rfl
  by_cases hc20_1 : sw = (0 : Int32)
  · replace G := own_ifYes (q := 27) G X0.here hx (hb hby at_20) ((if0 _ _).trans (teq hc20_1).1) (by decide) (by decide)
    replace G := own_iconst (q := 28) G X0.here hx (hb hby at_27) (v := (0 : Int32)) (by decide) rfl
    replace G := own_istore (q := 30) (l' := #[.val (.int i0), .val (.int i1), .val (.int i2), .val (.int i3), .val (.int i4), .val (.int nq0), .val (.int m0), .val (.int (0 : Int32)), .unset, .unset, .unset, .unset, .unset, .unset, .unset, .unset, .unset, .unset]) G X0.here hx (hb hby at_28) rfl rfl
    replace G := own_iloadN (q := 31) G X0.here hx (hb hby at_30) rfl rfl
    obtain ⟨c0, hn_c0⟩ : ∃ z : Int32, (i0.toUInt32.toUInt16.toUInt32.toInt32) = z := ⟨_, rfl⟩
    replace G := own_i2c (q := 32) G X0.here hx (hb hby at_31) hn_c0 rfl
    replace G := own_istore (q := 34) (l' := #[.val (.int i0), .val (.int i1), .val (.int i2), .val (.int i3), .val (.int i4), .val (.int nq0), .val (.int m0), .val (.int (0 : Int32)), .val (.int c0), .unset, .unset, .unset, .unset, .unset, .unset, .unset, .unset, .unset]) G X0.here hx (hb hby at_32) rfl rfl
    replace G := own_iloadN (q := 35) G X0.here hx (hb hby at_34) rfl rfl
    obtain ⟨c1, hn_c1⟩ : ∃ z : Int32, (i1.toUInt32.toUInt16.toUInt32.toInt32) = z := ⟨_, rfl⟩
    replace G := own_i2c (q := 36) G X0.here hx (hb hby at_35) hn_c1 rfl
    replace G := own_istore (q := 38) (l' := #[.val (.int i0), .val (.int i1), .val (.int i2), .val (.int i3), .val (.int i4), .val (.int nq0), .val (.int m0), .val (.int (0 : Int32)), .val (.int c0), .val (.int c1), .unset, .unset, .unset, .unset, .unset, .unset, .unset, .unset]) G X0.here hx (hb hby at_36) rfl rfl
    replace G := own_iloadN (q := 39) G X0.here hx (hb hby at_38) rfl rfl
    obtain ⟨c2, hn_c2⟩ : ∃ z : Int32, (i2.toUInt32.toUInt16.toUInt32.toInt32) = z := ⟨_, rfl⟩
    replace G := own_i2c (q := 40) G X0.here hx (hb hby at_39) hn_c2 rfl
    replace G := own_istore (q := 42) (l' := #[.val (.int i0), .val (.int i1), .val (.int i2), .val (.int i3), .val (.int i4), .val (.int nq0), .val (.int m0), .val (.int (0 : Int32)), .val (.int c0), .val (.int c1), .val (.int c2), .unset, .unset, .unset, .unset, .unset, .unset, .unset]) G X0.here hx (hb hby at_40) rfl rfl
    replace G := own_iload (q := 44) G X0.here hx (hb hby at_42) rfl rfl
    replace G := own_iconst (q := 45) G X0.here hx (hb hby at_44) (v := (5 : Int32)) (by decide) rfl
    obtain ⟨x5, hn_x5⟩ : ∃ z : Int32, ((i4.toUInt32 >>> ((5 : Int32) &&& 31).toUInt32).toInt32) = z := ⟨_, rfl⟩
    replace G := own_iushr (q := 46) G X0.here hx (hb hby at_45) hn_x5 rfl
    replace G := own_iconst (q := 47) G X0.here hx (hb hby at_46) (v := (1 : Int32)) (by decide) rfl
    obtain ⟨y5, hn_y5⟩ : ∃ z : Int32, (x5 &&& (1 : Int32)) = z := ⟨_, rfl⟩
    replace G := own_iand (q := 48) G X0.here hx (hb hby at_47) hn_y5 rfl
    replace G : Gets p e below (s₁.setTop (entryFrame m #[(.int i0), (.int i1), (.int i2), (.int i3), (.int i4)] maxLocals)) (s₁.setTop (mkF m 58 #[.val (.int i0), .val (.int i1), .val (.int i2), .val (.int i3), .val (.int i4), .val (.int nq0), .val (.int m0), .val (.int (0 : Int32)), .val (.int c0), .val (.int c1), .val (.int c2), .unset, .unset, .unset, .unset, .unset, .unset, .unset] [(.int (if y5 = (0 : Int32) then c0 else (i3.toUInt32.toUInt16.toUInt32.toInt32)))])) := by
      by_cases hc48_2 : y5 = (0 : Int32)
      · replace G := own_ifYes (q := 56) G X0.here hx (hb hby at_48) ((if0 _ _).trans (teq hc48_2).1) (by decide) (by decide)
        replace G := own_iload (q := 58) G X0.here hx (hb hby at_56) rfl rfl
        simp only [if_pos hc48_2]
        exact G
      · replace G := own_ifNo (q := 51) G X0.here hx (hb hby at_48) ((if0 _ _).trans (feq hc48_2).1) rfl
        replace G := own_iloadN (q := 52) G X0.here hx (hb hby at_51) rfl rfl
        replace G := own_i2c (q := 53) G X0.here hx (hb hby at_52) rfl rfl
        replace G := own_goto (q := 58) G X0.here hx (hb hby at_53) (by decide) (by decide)
        simp only [if_neg hc48_2]
        exact G
    obtain ⟨o0, hn_o0⟩ : ∃ z : Int32, (if y5 = (0 : Int32) then c0 else (i3.toUInt32.toUInt16.toUInt32.toInt32)) = z := ⟨_, rfl⟩
    rw [hn_o0] at G
    replace G := own_istore (q := 60) (l' := #[.val (.int i0), .val (.int i1), .val (.int i2), .val (.int i3), .val (.int i4), .val (.int nq0), .val (.int m0), .val (.int (0 : Int32)), .val (.int c0), .val (.int c1), .val (.int c2), .val (.int o0), .unset, .unset, .unset, .unset, .unset, .unset]) G X0.here hx (hb hby at_58) rfl rfl
    replace G := own_iload (q := 62) G X0.here hx (hb hby at_60) rfl rfl
    replace G := own_bipush (q := 64) G X0.here hx (hb hby at_62) (v := (6 : Int32)) (by decide) rfl
    obtain ⟨x6, hn_x6⟩ : ∃ z : Int32, ((i4.toUInt32 >>> ((6 : Int32) &&& 31).toUInt32).toInt32) = z := ⟨_, rfl⟩
    replace G := own_iushr (q := 65) G X0.here hx (hb hby at_64) hn_x6 rfl
    replace G := own_iconst (q := 66) G X0.here hx (hb hby at_65) (v := (1 : Int32)) (by decide) rfl
    obtain ⟨y6, hn_y6⟩ : ∃ z : Int32, (x6 &&& (1 : Int32)) = z := ⟨_, rfl⟩
    replace G := own_iand (q := 67) G X0.here hx (hb hby at_66) hn_y6 rfl
    replace G : Gets p e below (s₁.setTop (entryFrame m #[(.int i0), (.int i1), (.int i2), (.int i3), (.int i4)] maxLocals)) (s₁.setTop (mkF m 80 #[.val (.int i0), .val (.int i1), .val (.int i2), .val (.int i3), .val (.int i4), .val (.int nq0), .val (.int m0), .val (.int (0 : Int32)), .val (.int c0), .val (.int c1), .val (.int c2), .val (.int o0), .unset, .unset, .unset, .unset, .unset, .unset] [(.int (if y6 = (0 : Int32) then c1 else (((i3.toUInt32 >>> ((8 : Int32) &&& 31).toUInt32).toInt32).toUInt32.toUInt16.toUInt32.toInt32)))])) := by
      by_cases hc67_3 : y6 = (0 : Int32)
      · replace G := own_ifYes (q := 78) G X0.here hx (hb hby at_67) ((if0 _ _).trans (teq hc67_3).1) (by decide) (by decide)
        replace G := own_iload (q := 80) G X0.here hx (hb hby at_78) rfl rfl
        simp only [if_pos hc67_3]
        exact G
      · replace G := own_ifNo (q := 70) G X0.here hx (hb hby at_67) ((if0 _ _).trans (feq hc67_3).1) rfl
        replace G := own_iloadN (q := 71) G X0.here hx (hb hby at_70) rfl rfl
        replace G := own_bipush (q := 73) G X0.here hx (hb hby at_71) (v := (8 : Int32)) (by decide) rfl
        replace G := own_iushr (q := 74) G X0.here hx (hb hby at_73) rfl rfl
        replace G := own_i2c (q := 75) G X0.here hx (hb hby at_74) rfl rfl
        replace G := own_goto (q := 80) G X0.here hx (hb hby at_75) (by decide) (by decide)
        simp only [if_neg hc67_3]
        exact G
    obtain ⟨o1, hn_o1⟩ : ∃ z : Int32, (if y6 = (0 : Int32) then c1 else (((i3.toUInt32 >>> ((8 : Int32) &&& 31).toUInt32).toInt32).toUInt32.toUInt16.toUInt32.toInt32)) = z := ⟨_, rfl⟩
    rw [hn_o1] at G
    replace G := own_istore (q := 82) (l' := #[.val (.int i0), .val (.int i1), .val (.int i2), .val (.int i3), .val (.int i4), .val (.int nq0), .val (.int m0), .val (.int (0 : Int32)), .val (.int c0), .val (.int c1), .val (.int c2), .val (.int o0), .val (.int o1), .unset, .unset, .unset, .unset, .unset]) G X0.here hx (hb hby at_80) rfl rfl
    replace G := own_iload (q := 84) G X0.here hx (hb hby at_82) rfl rfl
    replace G := own_bipush (q := 86) G X0.here hx (hb hby at_84) (v := (7 : Int32)) (by decide) rfl
    obtain ⟨x7, hn_x7⟩ : ∃ z : Int32, ((i4.toUInt32 >>> ((7 : Int32) &&& 31).toUInt32).toInt32) = z := ⟨_, rfl⟩
    replace G := own_iushr (q := 87) G X0.here hx (hb hby at_86) hn_x7 rfl
    replace G := own_iconst (q := 88) G X0.here hx (hb hby at_87) (v := (1 : Int32)) (by decide) rfl
    obtain ⟨y7, hn_y7⟩ : ∃ z : Int32, (x7 &&& (1 : Int32)) = z := ⟨_, rfl⟩
    replace G := own_iand (q := 89) G X0.here hx (hb hby at_88) hn_y7 rfl
    replace G : Gets p e below (s₁.setTop (entryFrame m #[(.int i0), (.int i1), (.int i2), (.int i3), (.int i4)] maxLocals)) (s₁.setTop (mkF m 102 #[.val (.int i0), .val (.int i1), .val (.int i2), .val (.int i3), .val (.int i4), .val (.int nq0), .val (.int m0), .val (.int (0 : Int32)), .val (.int c0), .val (.int c1), .val (.int c2), .val (.int o0), .val (.int o1), .unset, .unset, .unset, .unset, .unset] [(.int (if y7 = (0 : Int32) then c2 else (((i3.toUInt32 >>> ((16 : Int32) &&& 31).toUInt32).toInt32).toUInt32.toUInt16.toUInt32.toInt32)))])) := by
      by_cases hc89_4 : y7 = (0 : Int32)
      · replace G := own_ifYes (q := 100) G X0.here hx (hb hby at_89) ((if0 _ _).trans (teq hc89_4).1) (by decide) (by decide)
        replace G := own_iload (q := 102) G X0.here hx (hb hby at_100) rfl rfl
        simp only [if_pos hc89_4]
        exact G
      · replace G := own_ifNo (q := 92) G X0.here hx (hb hby at_89) ((if0 _ _).trans (feq hc89_4).1) rfl
        replace G := own_iloadN (q := 93) G X0.here hx (hb hby at_92) rfl rfl
        replace G := own_bipush (q := 95) G X0.here hx (hb hby at_93) (v := (16 : Int32)) (by decide) rfl
        replace G := own_iushr (q := 96) G X0.here hx (hb hby at_95) rfl rfl
        replace G := own_i2c (q := 97) G X0.here hx (hb hby at_96) rfl rfl
        replace G := own_goto (q := 102) G X0.here hx (hb hby at_97) (by decide) (by decide)
        simp only [if_neg hc89_4]
        exact G
    obtain ⟨o2, hn_o2⟩ : ∃ z : Int32, (if y7 = (0 : Int32) then c2 else (((i3.toUInt32 >>> ((16 : Int32) &&& 31).toUInt32).toInt32).toUInt32.toUInt16.toUInt32.toInt32)) = z := ⟨_, rfl⟩
    rw [hn_o2] at G
    replace G := own_istore (q := 104) (l' := #[.val (.int i0), .val (.int i1), .val (.int i2), .val (.int i3), .val (.int i4), .val (.int nq0), .val (.int m0), .val (.int (0 : Int32)), .val (.int c0), .val (.int c1), .val (.int c2), .val (.int o0), .val (.int o1), .val (.int o2), .unset, .unset, .unset, .unset]) G X0.here hx (hb hby at_102) rfl rfl
    have q0 : nar .char c0 = c0 := by rw [← hn_c0]; exact own_nar i0
    have q1 : nar .char c1 = c1 := by rw [← hn_c1]; exact own_nar i1
    have q2 : nar .char c2 = c2 := by rw [← hn_c2]; exact own_nar i2
    have r0 : nar .char o0 = o0 := by
      rw [← hn_o0]; split
      · exact q0
      · exact own_nar _
    have r1 : nar .char o1 = o1 := by
      rw [← hn_o1]; split
      · exact q1
      · exact own_nar _
    have r2 : nar .char o2 = o2 := by
      rw [← hn_o2]; split
      · exact q2
      · exact own_nar _
    obtain ⟨T5, h5, X5, e5, E5, A5, D5, -, st5⟩ := newO X0 hx hZ hown (hw _ (List.mem_of_getElem? (i := 0) rfl)) (hw _ (List.mem_of_getElem? (i := 1) rfl)) (hw _ (List.mem_of_getElem? (i := 2) rfl)) e0 (g := (mkF m 104 #[.val (.int i0), .val (.int i1), .val (.int i2), .val (.int i3), .val (.int i4), .val (.int nq0), .val (.int m0), .val (.int (0 : Int32)), .val (.int c0), .val (.int c1), .val (.int c2), .val (.int o0), .val (.int o1), .val (.int o2), .unset, .unset, .unset, .unset] [])) rfl (hb hby at_104) (by decide) (by decide)
    obtain ⟨b5, g5⟩ : ∃ z, z = h0.size := ⟨_, rfl⟩
    rw [← g5] at A5 D5 st5
    have ne6 : sa ≠ b5 := Nat.ne_of_lt (Nat.lt_of_lt_of_le P1.lt (Nat.le_of_eq g5.symm))
    have ge_b5 : n0 ≤ b5 := Nat.le_trans Z0 (Nat.le_of_eq g5.symm)
    have Z5 : n0 ≤ h5.size := Nat.le_trans Z0 E5.1
    have F5_chars : Fld Z h5 b5 "com/example/leafcutter/leafcutter/io/TextBuffer" "chars" "[C" .null := D5 (Or.inl (hw _ (List.mem_of_getElem? (i := 16) rfl))) (ty := (.array .char)) (by decide)
    have F5_limit : Fld Z h5 b5 "com/example/leafcutter/leafcutter/io/TextBuffer" "limit" "I" (.int (0 : Int32)) := D5 (Or.inr (hw _ (List.mem_of_getElem? (i := 18) rfl))) (ty := .int) (by decide)
    have F5_whenFull : Fld Z h5 b5 "com/example/leafcutter/leafcutter/io/TextBuffer" "whenFull" "Ljava/util/function/Consumer;" .null := D5 (Or.inr (hw _ (List.mem_of_getElem? (i := 20) rfl))) (ty := (.object "java/util/function/Consumer")) (by decide)
    have F5_length : Fld Z h5 b5 "com/example/leafcutter/leafcutter/io/TextBuffer" "length" "I" (.int (0 : Int32)) := D5 (Or.inl (hw _ (List.mem_of_getElem? (i := 28) rfl))) (ty := .int) (by decide)
    replace G : Gets p e below _ (T5.setTop (mkF m 107 #[.val (.int i0), .val (.int i1), .val (.int i2), .val (.int i3), .val (.int i4), .val (.int nq0), .val (.int m0), .val (.int (0 : Int32)), .val (.int c0), .val (.int c1), .val (.int c2), .val (.int o0), .val (.int o1), .val (.int o2), .unset, .unset, .unset, .unset] [(.ref b5)])) := fun t k => G t (st5 t k)
    replace G := own_dup (q := 108) G X5.here hx (hb hby at_107) rfl rfl
    have F8 : Sta Z h5 "com/example/leafcutter/leafcutter/io/TextBuffer" "NO_STORAGE" "[C" (.ref sa) := (P0.ext E5)
    obtain ⟨_, _, ⟨T7, L7, kk7, nn7⟩, -, X7, ⟨Lc7, hQ7, l7, y7, z7⟩, st7⟩ := X5.specialBack hx (y := (⟨"com/example/leafcutter/leafcutter/io/TextBuffer", "<init>", "()V"⟩ : MethodName)) rfl hown (mvT hZ (hw _ (List.mem_of_getElem? (i := 3) rfl))) (mvT hZ (hw _ (List.mem_of_getElem? (i := 4) rfl))) (mvT hZ (hw _ (List.mem_of_getElem? (i := 5) rfl))) (by decide) (backOf (W := 1) (rm1 l Z a0 hw [] b5 sa h5 n0 Z5 F5_chars F5_length F5_limit F5_whenFull A5 ge_b5 F8) hZ (hw _ (List.mem_of_getElem? (i := 5) rfl)) (hw _ (List.mem_of_getElem? (i := 2) rfl)) (by decide) (by decide)) (g := (mkF m 108 #[.val (.int i0), .val (.int i1), .val (.int i2), .val (.int i3), .val (.int i4), .val (.int nq0), .val (.int m0), .val (.int (0 : Int32)), .val (.int c0), .val (.int c1), .val (.int c2), .val (.int o0), .val (.int o1), .val (.int o2), .unset, .unset, .unset, .unset] [(.ref b5), (.ref b5)])) rfl (by rw [hml]; rfl) (Steps.refl _) (a := b5) (argsL := []) (rest := [(.ref b5)]) (lenOf pd_6 rfl) rfl (by show 2 * 0 + _ ≤ _; exact Nat.le_of_eq rfl) (hb hby at_108) (fun _ _ => ⟨rfl, e5, (by decide : 1 + 0 ≤ _), (by decide : 4 + 0 ≤ _)⟩)
    dsimp only [Pt.U, Pt.locs, Pt.cells, Pt.slots] at X7 l7 y7 z7 st7 hQ7
    subst l7 y7 z7
    obtain ⟨rfl, N7q, K7q, B7_0, B7_1, B7_2, B7_3⟩ := hQ7
    have Z7 : n0 ≤ T7.heap.size := Nat.le_trans Z5 K7q.1
    have N7 := Fr.app N0 N7q
    replace G : Gets p e below _ (T7.setTop (mkF m 111 #[.val (.int i0), .val (.int i1), .val (.int i2), .val (.int i3), .val (.int i4), .val (.int nq0), .val (.int m0), .val (.int (0 : Int32)), .val (.int c0), .val (.int c1), .val (.int c2), .val (.int o0), .val (.int o1), .val (.int o2), .unset, .unset, .unset, .unset] [(.ref b5)])) := fun t k => G t (st7.trans k)
    rcases own_cases4 (own_m3 hn_nq0) with rfl | rfl | rfl | rfl
    · replace G := own_astore (q := 113) (l' := #[.val (.int i0), .val (.int i1), .val (.int i2), .val (.int i3), .val (.int i4), .val (.int (0 : Int32)), .val (.int m0), .val (.int (0 : Int32)), .val (.int c0), .val (.int c1), .val (.int c2), .val (.int o0), .val (.int o1), .val (.int o2), .val (.ref b5), .unset, .unset, .unset]) G X7.here hx (hb hby at_111) rfl rfl rfl
      replace G := own_iload (q := 115) G X7.here hx (hb hby at_113) rfl rfl
      have hc115_9 : ¬ ((0 : Int32) < (0 : Int32)) := by decide
      replace G := own_ifYes (q := 126) G X7.here hx (hb hby at_115) ((if0 _ _).trans (flt hc115_9).2.2.2) (by decide) (by decide)
      replace G := own_iload (q := 128) G X7.here hx (hb hby at_126) rfl rfl
      replace G := own_iconst (q := 129) G X7.here hx (hb hby at_128) (v := (1 : Int32)) (by decide) rfl
      have hc129_10 : ¬ ((1 : Int32) < (0 : Int32)) := by decide
      replace G := own_icmpYes (q := 140) G X7.here hx (hb hby at_129) (flt hc129_10).2.2.2 (by decide) (by decide)
      replace G := own_iload (q := 142) G X7.here hx (hb hby at_140) rfl rfl
      replace G := own_iconst (q := 143) G X7.here hx (hb hby at_142) (v := (2 : Int32)) (by decide) rfl
      have hc143_11 : ¬ ((2 : Int32) < (0 : Int32)) := by decide
      replace G := own_icmpYes (q := 154) G X7.here hx (hb hby at_143) (flt hc143_11).2.2.2 (by decide) (by decide)
      replace G := own_aconst_null (q := 155) G X7.here hx (hb hby at_154) rfl
      replace G := own_astore (q := 157) (l' := #[.val (.int i0), .val (.int i1), .val (.int i2), .val (.int i3), .val (.int i4), .val (.int (0 : Int32)), .val (.int m0), .val (.int (0 : Int32)), .val (.int c0), .val (.int c1), .val (.int c2), .val (.int o0), .val (.int o1), .val (.int o2), .val (.ref b5), .val .null, .unset, .unset]) G X7.here hx (hb hby at_155) rfl rfl rfl
      replace G := own_iload (q := 159) G X7.here hx (hb hby at_157) rfl rfl
      have hc159_12 : (0 : Int32) = (0 : Int32) := by decide
      replace G := own_ifNo (q := 162) G X7.here hx (hb hby at_159) ((if0 _ _).trans (teq hc159_12).2) rfl
      rcases own_cases4 (own_m3 hn_m0) with rfl | rfl | rfl | rfl
      · replace G := own_iload (q := 164) G X7.here hx (hb hby at_162) rfl rfl
        obtain ⟨T13, h13, k13, X13, e13, E13, A13, st13⟩ := newP X7 hx hZ (hw _ (List.mem_of_getElem? (i := 21) rfl)) rfl (g := (mkF m 164 #[.val (.int i0), .val (.int i1), .val (.int i2), .val (.int i3), .val (.int i4), .val (.int (0 : Int32)), .val (.int (0 : Int32)), .val (.int (0 : Int32)), .val (.int c0), .val (.int c1), .val (.int c2), .val (.int o0), .val (.int o1), .val (.int o2), .val (.ref b5), .val .null, .unset, .unset] [(.int (0 : Int32))])) rfl (hb hby at_164) rfl (by decide) (cap := 0) (by decide) (by decide) (by decide) (by decide)
        obtain ⟨b13, g13⟩ : ∃ z, z = T7.heap.size := ⟨_, rfl⟩
        rw [← g13] at A13 st13
        have ne14 : b5 ≠ b13 := Nat.ne_of_lt (Nat.lt_of_lt_of_le B7_3.lt (Nat.le_of_eq g13.symm))
        have F15 : Arv Z T7.heap sa ks .char (0 : Int32) [] (.int (0 : Int32)) := ((P1.ext E5).keep K7q (ninS ne6 nin0))
        have ne16 : sa ≠ b13 := Nat.ne_of_lt (Nat.lt_of_lt_of_le F15.lt (Nat.le_of_eq g13.symm))
        have ge_b13 : n0 ≤ b13 := Nat.le_trans Z7 (Nat.le_of_eq g13.symm)
        have Z13 : n0 ≤ h13.size := Nat.le_trans Z7 E13.1
        have V13 : Arv Z h13 b13 k13 .char (0 : Int32) [] (.int (0 : Int32)) := (Arv.new A13 (by decide)).pad (pad_rep [] (.int (0 : Int32)) 0)
        replace G : Gets p e below _ (T13.setTop (mkF m 166 #[.val (.int i0), .val (.int i1), .val (.int i2), .val (.int i3), .val (.int i4), .val (.int (0 : Int32)), .val (.int (0 : Int32)), .val (.int (0 : Int32)), .val (.int c0), .val (.int c1), .val (.int c2), .val (.int o0), .val (.int o1), .val (.int o2), .val (.ref b5), .val .null, .unset, .unset] [(.ref b13)])) := fun t k => G t (st13 t k)
        replace G := own_astore (q := 168) (l' := #[.val (.int i0), .val (.int i1), .val (.int i2), .val (.int i3), .val (.int i4), .val (.int (0 : Int32)), .val (.int (0 : Int32)), .val (.int (0 : Int32)), .val (.int c0), .val (.int c1), .val (.int c2), .val (.int o0), .val (.int o1), .val (.int o2), .val (.ref b5), .val (.ref b13), .unset, .unset]) G X13.here hx (hb hby at_166) rfl rfl rfl
        replace G := own_iload (q := 170) G X13.here hx (hb hby at_168) rfl rfl
        have hc170_17 : ¬ ((0 : Int32) < (0 : Int32)) := by decide
        replace G := own_ifYes (q := 179) G X13.here hx (hb hby at_170) ((if0 _ _).trans (flt hc170_17).2.2.2) (by decide) (by decide)
        replace G := own_iload (q := 181) G X13.here hx (hb hby at_179) rfl rfl
        replace G := own_iconst (q := 182) G X13.here hx (hb hby at_181) (v := (1 : Int32)) (by decide) rfl
        have hc182_18 : ¬ ((1 : Int32) < (0 : Int32)) := by decide
        replace G := own_icmpYes (q := 191) G X13.here hx (hb hby at_182) (flt hc182_18).2.2.2 (by decide) (by decide)
        replace G := own_iload (q := 193) G X13.here hx (hb hby at_191) rfl rfl
        replace G := own_iconst (q := 194) G X13.here hx (hb hby at_193) (v := (2 : Int32)) (by decide) rfl
        have hc194_19 : ¬ ((2 : Int32) < (0 : Int32)) := by decide
        replace G := own_icmpYes (q := 203) G X13.here hx (hb hby at_194) (flt hc194_19).2.2.2 (by decide) (by decide)
        replace G := own_aload (q := 205) G X13.here hx (hb hby at_203) rfl rfl rfl
        replace G := own_aload (q := 207) G X13.here hx (hb hby at_205) rfl rfl rfl
        have F21 : Exa Z h13 b5 "com/example/leafcutter/leafcutter/io/TextBuffer" := ((A5.keep K7q).ext E13)
        have F22 : Fld Z h13 b5 "com/example/leafcutter/leafcutter/io/TextBuffer" "length" "I" (.int (0 : Int32)) := (B7_1.ext E13)
        obtain ⟨cq20, kq20, q20a, q20b, q20c⟩ := isOf hZ e13 F21
        obtain ⟨_, _, ⟨T20, L20, kk20, nn20⟩, -, X20, ⟨Lc20, hQ20, l20, y20, z20⟩, st20⟩ := X13.virtualBack hx (y := (⟨"com/example/leafcutter/leafcutter/io/TextBuffer", "contentEquals", "([C)Z"⟩ : MethodName)) (z := (⟨"com/example/leafcutter/leafcutter/io/TextBuffer", "contentEquals", "([C)Z"⟩ : MethodName)) hown (mvT hZ (hw _ (List.mem_of_getElem? (i := 22) rfl))) (mvT hZ (hw _ (List.mem_of_getElem? (i := 23) rfl))) (notFace_of_selects (args := #[]) (mvT hZ (hw _ (List.mem_of_getElem? (i := 25) rfl)))) (mvT hZ (hw _ (List.mem_of_getElem? (i := 25) rfl))) (mvT hZ (hw _ (List.mem_of_getElem? (i := 24) rfl))) (by decide) (backOf (W := 0) (rm4n0m0 l Z a0 hw [] b5 b13 k13 h13 n0 Z13 F22 V13) hZ (hw _ (List.mem_of_getElem? (i := 26) rfl)) (hw _ (List.mem_of_getElem? (i := 2) rfl)) (by decide) (by decide)) q20a q20c (g := (mkF m 207 #[.val (.int i0), .val (.int i1), .val (.int i2), .val (.int i3), .val (.int i4), .val (.int (0 : Int32)), .val (.int (0 : Int32)), .val (.int (0 : Int32)), .val (.int c0), .val (.int c1), .val (.int c2), .val (.int o0), .val (.int o1), .val (.int o2), .val (.ref b5), .val (.ref b13), .unset, .unset] [(.ref b13), (.ref b5)])) rfl (by rw [hml]; rfl) (Steps.refl _) (argsL := [(.ref b13)]) (rest := []) (lenOf pd_7 rfl) rfl (by show 2 * 0 + _ ≤ _; exact Nat.le_of_eq rfl) (hb hby at_207) (fun _ _ => ⟨rfl, e13, (by decide : 2 + 0 ≤ _), (by decide : 4 + 0 ≤ _)⟩)
        dsimp only [Pt.U, Pt.locs, Pt.cells, Pt.slots] at X20 l20 y20 z20 st20 hQ20
        subst l20 y20 z20
        obtain ⟨rfl, N20q, e20⟩ := hQ20
        have N20 := Fr.app N7 N20q
        replace G : Gets p e below _ (T20.setTop (mkF m 210 #[.val (.int i0), .val (.int i1), .val (.int i2), .val (.int i3), .val (.int i4), .val (.int (0 : Int32)), .val (.int (0 : Int32)), .val (.int (0 : Int32)), .val (.int c0), .val (.int c1), .val (.int c2), .val (.int o0), .val (.int o1), .val (.int o2), .val (.ref b5), .val (.ref b13), .unset, .unset] [(.int (1 : Int32))])) := fun t k => G t (st20.trans k)
        replace G := own_istore (q := 212) (l' := #[.val (.int i0), .val (.int i1), .val (.int i2), .val (.int i3), .val (.int i4), .val (.int (0 : Int32)), .val (.int (0 : Int32)), .val (.int (0 : Int32)), .val (.int c0), .val (.int c1), .val (.int c2), .val (.int o0), .val (.int o1), .val (.int o2), .val (.ref b5), .val (.ref b13), .val (.int (1 : Int32)), .unset]) G X20.here hx (hb hby at_210) rfl rfl
        replace G := own_iload (q := 214) G X20.here hx (hb hby at_212) rfl rfl
        have hc214_23 : (0 : Int32) = (0 : Int32) := by decide
        replace G := own_ifNo (q := 217) G X20.here hx (hb hby at_214) ((if0 _ _).trans (teq hc214_23).2) rfl
        replace G := own_iload (q := 219) G X20.here hx (hb hby at_217) rfl rfl
        replace G := own_iload (q := 221) G X20.here hx (hb hby at_219) rfl rfl
        have hc221_24 : (0 : Int32) = (0 : Int32) := by decide
        replace G := own_icmpNo (q := 224) G X20.here hx (hb hby at_221) (teq hc221_24).2 rfl
        replace G := own_iload (q := 226) G X20.here hx (hb hby at_224) rfl rfl
        replace G := own_iconst (q := 227) G X20.here hx (hb hby at_226) (v := (1 : Int32)) (by decide) rfl
        have hc227_25 : (0 : Int32) < (1 : Int32) := by decide
        replace G := own_icmpYes (q := 237) G X20.here hx (hb hby at_227) (tlt hc227_25).1 (by decide) (by decide)
        replace G := own_iload (q := 239) G X20.here hx (hb hby at_237) rfl rfl
        replace G := own_iconst (q := 240) G X20.here hx (hb hby at_239) (v := (2 : Int32)) (by decide) rfl
        have hc240_26 : (0 : Int32) < (2 : Int32) := by decide
        replace G := own_icmpYes (q := 250) G X20.here hx (hb hby at_240) (tlt hc240_26).1 (by decide) (by decide)
        replace G := own_iload (q := 252) G X20.here hx (hb hby at_250) rfl rfl
        replace G := own_iconst (q := 253) G X20.here hx (hb hby at_252) (v := (3 : Int32)) (by decide) rfl
        have hc253_27 : (0 : Int32) < (3 : Int32) := by decide
        replace G := own_icmpYes (q := 263) G X20.here hx (hb hby at_253) (tlt hc253_27).1 (by decide) (by decide)
        replace G := own_iconst (q := 264) G X20.here hx (hb hby at_263) (v := (1 : Int32)) (by decide) rfl
        replace G := own_goto (q := 268) G X20.here hx (hb hby at_264) (by decide) (by decide)
        replace G := own_istore (q := 270) (l' := #[.val (.int i0), .val (.int i1), .val (.int i2), .val (.int i3), .val (.int i4), .val (.int (0 : Int32)), .val (.int (0 : Int32)), .val (.int (0 : Int32)), .val (.int c0), .val (.int c1), .val (.int c2), .val (.int o0), .val (.int o1), .val (.int o2), .val (.ref b5), .val (.ref b13), .val (.int (1 : Int32)), .val (.int (1 : Int32))]) G X20.here hx (hb hby at_268) rfl rfl
        replace G := own_iload (q := 272) G X20.here hx (hb hby at_270) rfl rfl
        replace G := own_iload (q := 274) G X20.here hx (hb hby at_272) rfl rfl
        have hc274_28 : (1 : Int32) = (1 : Int32) := by decide
        replace G := own_icmpNo (q := 277) G X20.here hx (hb hby at_274) (teq hc274_28).2 rfl
        replace G := own_aload (q := 279) G X20.here hx (hb hby at_277) rfl rfl rfl
        obtain ⟨cq29, kq29, q29a, q29b, q29c⟩ := isOf hZ e20 F21
        obtain ⟨_, _, ⟨T29, L29, kk29, nn29⟩, -, X29, ⟨Lc29, hQ29, l29, y29, z29⟩, st29⟩ := X20.virtualBack hx (y := (⟨"com/example/leafcutter/leafcutter/io/TextBuffer", "length", "()I"⟩ : MethodName)) (z := (⟨"com/example/leafcutter/leafcutter/io/TextBuffer", "length", "()I"⟩ : MethodName)) hown (mvT hZ (hw _ (List.mem_of_getElem? (i := 29) rfl))) (mvT hZ (hw _ (List.mem_of_getElem? (i := 30) rfl))) (notFace_of_selects (args := #[]) (mvT hZ (hw _ (List.mem_of_getElem? (i := 32) rfl)))) (mvT hZ (hw _ (List.mem_of_getElem? (i := 32) rfl))) (mvT hZ (hw _ (List.mem_of_getElem? (i := 31) rfl))) (by decide) (backOf (W := 0) (rm5k0 l Z a0 hw [] b5 h13 n0 Z13 F22) hZ (hw _ (List.mem_of_getElem? (i := 33) rfl)) (hw _ (List.mem_of_getElem? (i := 2) rfl)) (by decide) (by decide)) q29a q29c (g := (mkF m 279 #[.val (.int i0), .val (.int i1), .val (.int i2), .val (.int i3), .val (.int i4), .val (.int (0 : Int32)), .val (.int (0 : Int32)), .val (.int (0 : Int32)), .val (.int c0), .val (.int c1), .val (.int c2), .val (.int o0), .val (.int o1), .val (.int o2), .val (.ref b5), .val (.ref b13), .val (.int (1 : Int32)), .val (.int (1 : Int32))] [(.ref b5)])) rfl (by rw [hml]; rfl) (Steps.refl _) (argsL := []) (rest := []) (lenOf pd_8 rfl) rfl (by show 2 * 0 + _ ≤ _; exact Nat.le_of_eq rfl) (hb hby at_279) (fun _ _ => ⟨rfl, e20, (by decide : 2 + 0 ≤ _), (by decide : 4 + 0 ≤ _)⟩)
        dsimp only [Pt.U, Pt.locs, Pt.cells, Pt.slots] at X29 l29 y29 z29 st29 hQ29
        subst l29 y29 z29
        obtain ⟨rfl, N29q, e29⟩ := hQ29
        have N29 := Fr.app N20 N29q
        replace G : Gets p e below _ (T29.setTop (mkF m 282 #[.val (.int i0), .val (.int i1), .val (.int i2), .val (.int i3), .val (.int i4), .val (.int (0 : Int32)), .val (.int (0 : Int32)), .val (.int (0 : Int32)), .val (.int c0), .val (.int c1), .val (.int c2), .val (.int o0), .val (.int o1), .val (.int o2), .val (.ref b5), .val (.ref b13), .val (.int (1 : Int32)), .val (.int (1 : Int32))] [(.int (0 : Int32))])) := fun t k => G t (st29.trans k)
        replace G := own_iload (q := 284) G X29.here hx (hb hby at_282) rfl rfl
        have hc284_30 : (0 : Int32) = (0 : Int32) := by decide
        replace G := own_icmpNo (q := 287) G X29.here hx (hb hby at_284) (teq hc284_30).2 rfl
        replace G := own_iconst (q := 288) G X29.here hx (hb hby at_287) (v := (1 : Int32)) (by decide) rfl
        replace G := own_goto (q := 292) G X29.here hx (hb hby at_288) (by decide) (by decide)
        obtain ⟨fs, hr, hrun, hended, hW, hsame⟩ := X29.leave (v := some (.int (1 : Int32))) (fun h => by rw [Bd.returns] at h; cases h)
        refine ⟨_, _, G _ (retOut X29 hx Bd.returns rfl (Or.inl ⟨rfl, Or.inr (Or.inl rfl), _, rfl⟩) (hb hby at_292) hr), hrun, hended, _, _, rfl, ?_, ⟨_, rfl⟩, hW, hsame.mono (by decide) (by decide)⟩
        show Q0 Z i0 i1 i2 i3 i4 sa ks h0 n0 _ T29.heap _
        rw [e29]
        exact ⟨rfl, N29⟩
      · replace G := own_iload (q := 164) G X7.here hx (hb hby at_162) rfl rfl
        obtain ⟨T31, h31, k31, X31, e31, E31, A31, st31⟩ := newP X7 hx hZ (hw _ (List.mem_of_getElem? (i := 21) rfl)) rfl (g := (mkF m 164 #[.val (.int i0), .val (.int i1), .val (.int i2), .val (.int i3), .val (.int i4), .val (.int (0 : Int32)), .val (.int (1 : Int32)), .val (.int (0 : Int32)), .val (.int c0), .val (.int c1), .val (.int c2), .val (.int o0), .val (.int o1), .val (.int o2), .val (.ref b5), .val .null, .unset, .unset] [(.int (1 : Int32))])) rfl (hb hby at_164) rfl (by decide) (cap := 1) (by decide) (by decide) (by decide) (by decide)
        obtain ⟨b31, g31⟩ : ∃ z, z = T7.heap.size := ⟨_, rfl⟩
        rw [← g31] at A31 st31
        have ne32 : b5 ≠ b31 := Nat.ne_of_lt (Nat.lt_of_lt_of_le B7_3.lt (Nat.le_of_eq g31.symm))
        have F33 : Arv Z T7.heap sa ks .char (0 : Int32) [] (.int (0 : Int32)) := ((P1.ext E5).keep K7q (ninS ne6 nin0))
        have ne34 : sa ≠ b31 := Nat.ne_of_lt (Nat.lt_of_lt_of_le F33.lt (Nat.le_of_eq g31.symm))
        have ge_b31 : n0 ≤ b31 := Nat.le_trans Z7 (Nat.le_of_eq g31.symm)
        have Z31 : n0 ≤ h31.size := Nat.le_trans Z7 E31.1
        have V31 : Arv Z h31 b31 k31 .char (1 : Int32) [(.int (0 : Int32))] (.int (0 : Int32)) := (Arv.new A31 (by decide)).pad (pad_rep [] (.int (0 : Int32)) 1)
        replace G : Gets p e below _ (T31.setTop (mkF m 166 #[.val (.int i0), .val (.int i1), .val (.int i2), .val (.int i3), .val (.int i4), .val (.int (0 : Int32)), .val (.int (1 : Int32)), .val (.int (0 : Int32)), .val (.int c0), .val (.int c1), .val (.int c2), .val (.int o0), .val (.int o1), .val (.int o2), .val (.ref b5), .val .null, .unset, .unset] [(.ref b31)])) := fun t k => G t (st31 t k)
        replace G := own_astore (q := 168) (l' := #[.val (.int i0), .val (.int i1), .val (.int i2), .val (.int i3), .val (.int i4), .val (.int (0 : Int32)), .val (.int (1 : Int32)), .val (.int (0 : Int32)), .val (.int c0), .val (.int c1), .val (.int c2), .val (.int o0), .val (.int o1), .val (.int o2), .val (.ref b5), .val (.ref b31), .unset, .unset]) G X31.here hx (hb hby at_166) rfl rfl rfl
        replace G := own_iload (q := 170) G X31.here hx (hb hby at_168) rfl rfl
        have hc170_35 : (0 : Int32) < (1 : Int32) := by decide
        replace G := own_ifNo (q := 173) G X31.here hx (hb hby at_170) ((if0 _ _).trans (tlt hc170_35).2.2.2) rfl
        replace G := own_aload (q := 175) G X31.here hx (hb hby at_173) rfl rfl rfl
        replace G := own_iconst (q := 176) G X31.here hx (hb hby at_175) (v := (0 : Int32)) (by decide) rfl
        replace G := own_iload (q := 178) G X31.here hx (hb hby at_176) rfl rfl
        obtain ⟨c36, Ar36, q36, S36, N36', H36, G36'⟩ := id V31
        have hin36 : ¬ ((0 : Int32) < 0 ∨ c36.slots.size ≤ ((0 : Int32)).toNatClampNeg) := inb_of S36 ⟨by decide, by decide⟩
        obtain ⟨T36, h36, X36, e36, W36, st36⟩ := stC X31 hx hZ e31 Ar36 (j := (0 : Int32)) hin36 (g := (mkF m 178 #[.val (.int i0), .val (.int i1), .val (.int i2), .val (.int i3), .val (.int i4), .val (.int (0 : Int32)), .val (.int (1 : Int32)), .val (.int (0 : Int32)), .val (.int c0), .val (.int c1), .val (.int c2), .val (.int o0), .val (.int o1), .val (.int o2), .val (.ref b5), .val (.ref b31), .unset, .unset] [(.int o0), (.int (0 : Int32)), (.ref b31)])) rfl rfl (hb hby at_178)
        have N36 := Fr.snoc X36 N7 ge_b31
        have Z36 : n0 ≤ h36.size := Nat.le_trans Z31 (Keep.of_wr W36).1
        have V36 : Arv Z h36 b31 k31 .char (1 : Int32) [(.int (nar .char o0))] (.int (0 : Int32)) := Arv.set Ar36 q36 S36 N36' H36 G36' (fits_nar_char _) W36 0 rfl (Nat.le_of_ble_eq_true rfl)
        replace G : Gets p e below _ (T36.setTop (mkF m 179 #[.val (.int i0), .val (.int i1), .val (.int i2), .val (.int i3), .val (.int i4), .val (.int (0 : Int32)), .val (.int (1 : Int32)), .val (.int (0 : Int32)), .val (.int c0), .val (.int c1), .val (.int c2), .val (.int o0), .val (.int o1), .val (.int o2), .val (.ref b5), .val (.ref b31), .unset, .unset] [])) := fun t k => G t (st36 t k)
        replace G := own_iload (q := 181) G X36.here hx (hb hby at_179) rfl rfl
        replace G := own_iconst (q := 182) G X36.here hx (hb hby at_181) (v := (1 : Int32)) (by decide) rfl
        have hc182_37 : ¬ ((1 : Int32) < (1 : Int32)) := by decide
        replace G := own_icmpYes (q := 191) G X36.here hx (hb hby at_182) (flt hc182_37).2.2.2 (by decide) (by decide)
        replace G := own_iload (q := 193) G X36.here hx (hb hby at_191) rfl rfl
        replace G := own_iconst (q := 194) G X36.here hx (hb hby at_193) (v := (2 : Int32)) (by decide) rfl
        have hc194_38 : ¬ ((2 : Int32) < (1 : Int32)) := by decide
        replace G := own_icmpYes (q := 203) G X36.here hx (hb hby at_194) (flt hc194_38).2.2.2 (by decide) (by decide)
        replace G := own_aload (q := 205) G X36.here hx (hb hby at_203) rfl rfl rfl
        replace G := own_aload (q := 207) G X36.here hx (hb hby at_205) rfl rfl rfl
        have F40 : Exa Z h36 b5 "com/example/leafcutter/leafcutter/io/TextBuffer" := (((A5.keep K7q).ext E31).wr W36)
        have F41 : Fld Z h36 b5 "com/example/leafcutter/leafcutter/io/TextBuffer" "length" "I" (.int (0 : Int32)) := ((B7_1.ext E31).other W36 (Or.inl ne32))
        obtain ⟨cq39, kq39, q39a, q39b, q39c⟩ := isOf hZ e36 F40
        obtain ⟨_, _, ⟨T39, L39, kk39, nn39⟩, -, X39, ⟨Lc39, hQ39, l39, y39, z39⟩, st39⟩ := X36.virtualBack hx (y := (⟨"com/example/leafcutter/leafcutter/io/TextBuffer", "contentEquals", "([C)Z"⟩ : MethodName)) (z := (⟨"com/example/leafcutter/leafcutter/io/TextBuffer", "contentEquals", "([C)Z"⟩ : MethodName)) hown (mvT hZ (hw _ (List.mem_of_getElem? (i := 22) rfl))) (mvT hZ (hw _ (List.mem_of_getElem? (i := 23) rfl))) (notFace_of_selects (args := #[]) (mvT hZ (hw _ (List.mem_of_getElem? (i := 25) rfl)))) (mvT hZ (hw _ (List.mem_of_getElem? (i := 25) rfl))) (mvT hZ (hw _ (List.mem_of_getElem? (i := 24) rfl))) (by decide) (backOf (W := 0) (rm4n0m1 l Z a0 hw [] b5 b31 k31 (nar .char o0) h36 n0 Z36 F41 V36) hZ (hw _ (List.mem_of_getElem? (i := 26) rfl)) (hw _ (List.mem_of_getElem? (i := 2) rfl)) (by decide) (by decide)) q39a q39c (g := (mkF m 207 #[.val (.int i0), .val (.int i1), .val (.int i2), .val (.int i3), .val (.int i4), .val (.int (0 : Int32)), .val (.int (1 : Int32)), .val (.int (0 : Int32)), .val (.int c0), .val (.int c1), .val (.int c2), .val (.int o0), .val (.int o1), .val (.int o2), .val (.ref b5), .val (.ref b31), .unset, .unset] [(.ref b31), (.ref b5)])) rfl (by rw [hml]; rfl) (Steps.refl _) (argsL := [(.ref b31)]) (rest := []) (lenOf pd_7 rfl) rfl (by show 2 * 0 + _ ≤ _; exact Nat.le_of_eq rfl) (hb hby at_207) (fun _ _ => ⟨rfl, e36, (by decide : 2 + 0 ≤ _), (by decide : 5 + 0 ≤ _)⟩)
        dsimp only [Pt.U, Pt.locs, Pt.cells, Pt.slots] at X39 l39 y39 z39 st39 hQ39
        subst l39 y39 z39
        obtain ⟨rfl, N39q, e39⟩ := hQ39
        have N39 := Fr.app N36 N39q
        replace G : Gets p e below _ (T39.setTop (mkF m 210 #[.val (.int i0), .val (.int i1), .val (.int i2), .val (.int i3), .val (.int i4), .val (.int (0 : Int32)), .val (.int (1 : Int32)), .val (.int (0 : Int32)), .val (.int c0), .val (.int c1), .val (.int c2), .val (.int o0), .val (.int o1), .val (.int o2), .val (.ref b5), .val (.ref b31), .unset, .unset] [(.int (0 : Int32))])) := fun t k => G t (st39.trans k)
        replace G := own_istore (q := 212) (l' := #[.val (.int i0), .val (.int i1), .val (.int i2), .val (.int i3), .val (.int i4), .val (.int (0 : Int32)), .val (.int (1 : Int32)), .val (.int (0 : Int32)), .val (.int c0), .val (.int c1), .val (.int c2), .val (.int o0), .val (.int o1), .val (.int o2), .val (.ref b5), .val (.ref b31), .val (.int (0 : Int32)), .unset]) G X39.here hx (hb hby at_210) rfl rfl
        replace G := own_iload (q := 214) G X39.here hx (hb hby at_212) rfl rfl
        have hc214_42 : (0 : Int32) = (0 : Int32) := by decide
        replace G := own_ifNo (q := 217) G X39.here hx (hb hby at_214) ((if0 _ _).trans (teq hc214_42).2) rfl
        replace G := own_iload (q := 219) G X39.here hx (hb hby at_217) rfl rfl
        replace G := own_iload (q := 221) G X39.here hx (hb hby at_219) rfl rfl
        have hc221_43 : ¬ ((1 : Int32) = (0 : Int32)) := by decide
        replace G := own_icmpYes (q := 267) G X39.here hx (hb hby at_221) (feq hc221_43).2 (by decide) (by decide)
        replace G := own_iconst (q := 268) G X39.here hx (hb hby at_267) (v := (0 : Int32)) (by decide) rfl
        replace G := own_istore (q := 270) (l' := #[.val (.int i0), .val (.int i1), .val (.int i2), .val (.int i3), .val (.int i4), .val (.int (0 : Int32)), .val (.int (1 : Int32)), .val (.int (0 : Int32)), .val (.int c0), .val (.int c1), .val (.int c2), .val (.int o0), .val (.int o1), .val (.int o2), .val (.ref b5), .val (.ref b31), .val (.int (0 : Int32)), .val (.int (0 : Int32))]) G X39.here hx (hb hby at_268) rfl rfl
        replace G := own_iload (q := 272) G X39.here hx (hb hby at_270) rfl rfl
        replace G := own_iload (q := 274) G X39.here hx (hb hby at_272) rfl rfl
        have hc274_44 : (0 : Int32) = (0 : Int32) := by decide
        replace G := own_icmpNo (q := 277) G X39.here hx (hb hby at_274) (teq hc274_44).2 rfl
        replace G := own_aload (q := 279) G X39.here hx (hb hby at_277) rfl rfl rfl
        obtain ⟨cq45, kq45, q45a, q45b, q45c⟩ := isOf hZ e39 F40
        obtain ⟨_, _, ⟨T45, L45, kk45, nn45⟩, -, X45, ⟨Lc45, hQ45, l45, y45, z45⟩, st45⟩ := X39.virtualBack hx (y := (⟨"com/example/leafcutter/leafcutter/io/TextBuffer", "length", "()I"⟩ : MethodName)) (z := (⟨"com/example/leafcutter/leafcutter/io/TextBuffer", "length", "()I"⟩ : MethodName)) hown (mvT hZ (hw _ (List.mem_of_getElem? (i := 29) rfl))) (mvT hZ (hw _ (List.mem_of_getElem? (i := 30) rfl))) (notFace_of_selects (args := #[]) (mvT hZ (hw _ (List.mem_of_getElem? (i := 32) rfl)))) (mvT hZ (hw _ (List.mem_of_getElem? (i := 32) rfl))) (mvT hZ (hw _ (List.mem_of_getElem? (i := 31) rfl))) (by decide) (backOf (W := 0) (rm5k0 l Z a0 hw [] b5 h36 n0 Z36 F41) hZ (hw _ (List.mem_of_getElem? (i := 33) rfl)) (hw _ (List.mem_of_getElem? (i := 2) rfl)) (by decide) (by decide)) q45a q45c (g := (mkF m 279 #[.val (.int i0), .val (.int i1), .val (.int i2), .val (.int i3), .val (.int i4), .val (.int (0 : Int32)), .val (.int (1 : Int32)), .val (.int (0 : Int32)), .val (.int c0), .val (.int c1), .val (.int c2), .val (.int o0), .val (.int o1), .val (.int o2), .val (.ref b5), .val (.ref b31), .val (.int (0 : Int32)), .val (.int (0 : Int32))] [(.ref b5)])) rfl (by rw [hml]; rfl) (Steps.refl _) (argsL := []) (rest := []) (lenOf pd_8 rfl) rfl (by show 2 * 0 + _ ≤ _; exact Nat.le_of_eq rfl) (hb hby at_279) (fun _ _ => ⟨rfl, e39, (by decide : 2 + 0 ≤ _), (by decide : 5 + 0 ≤ _)⟩)
        dsimp only [Pt.U, Pt.locs, Pt.cells, Pt.slots] at X45 l45 y45 z45 st45 hQ45
        subst l45 y45 z45
        obtain ⟨rfl, N45q, e45⟩ := hQ45
        have N45 := Fr.app N39 N45q
        replace G : Gets p e below _ (T45.setTop (mkF m 282 #[.val (.int i0), .val (.int i1), .val (.int i2), .val (.int i3), .val (.int i4), .val (.int (0 : Int32)), .val (.int (1 : Int32)), .val (.int (0 : Int32)), .val (.int c0), .val (.int c1), .val (.int c2), .val (.int o0), .val (.int o1), .val (.int o2), .val (.ref b5), .val (.ref b31), .val (.int (0 : Int32)), .val (.int (0 : Int32))] [(.int (0 : Int32))])) := fun t k => G t (st45.trans k)
        replace G := own_iload (q := 284) G X45.here hx (hb hby at_282) rfl rfl
        have hc284_46 : (0 : Int32) = (0 : Int32) := by decide
        replace G := own_icmpNo (q := 287) G X45.here hx (hb hby at_284) (teq hc284_46).2 rfl
        replace G := own_iconst (q := 288) G X45.here hx (hb hby at_287) (v := (1 : Int32)) (by decide) rfl
        replace G := own_goto (q := 292) G X45.here hx (hb hby at_288) (by decide) (by decide)
        obtain ⟨fs, hr, hrun, hended, hW, hsame⟩ := X45.leave (v := some (.int (1 : Int32))) (fun h => by rw [Bd.returns] at h; cases h)
        refine ⟨_, _, G _ (retOut X45 hx Bd.returns rfl (Or.inl ⟨rfl, Or.inr (Or.inl rfl), _, rfl⟩) (hb hby at_292) hr), hrun, hended, _, _, rfl, ?_, ⟨_, rfl⟩, hW, hsame.mono (by decide) (by decide)⟩
        show Q0 Z i0 i1 i2 i3 i4 sa ks h0 n0 _ T45.heap _
        rw [e45]
        exact ⟨rfl, N45⟩
      · replace G := own_iload (q := 164) G X7.here hx (hb hby at_162) rfl rfl
        obtain ⟨T47, h47, k47, X47, e47, E47, A47, st47⟩ := newP X7 hx hZ (hw _ (List.mem_of_getElem? (i := 21) rfl)) rfl (g := (mkF m 164 #[.val (.int i0), .val (.int i1), .val (.int i2), .val (.int i3), .val (.int i4), .val (.int (0 : Int32)), .val (.int (2 : Int32)), .val (.int (0 : Int32)), .val (.int c0), .val (.int c1), .val (.int c2), .val (.int o0), .val (.int o1), .val (.int o2), .val (.ref b5), .val .null, .unset, .unset] [(.int (2 : Int32))])) rfl (hb hby at_164) rfl (by decide) (cap := 2) (by decide) (by decide) (by decide) (by decide)
        obtain ⟨b47, g47⟩ : ∃ z, z = T7.heap.size := ⟨_, rfl⟩
        rw [← g47] at A47 st47
        have ne48 : b5 ≠ b47 := Nat.ne_of_lt (Nat.lt_of_lt_of_le B7_3.lt (Nat.le_of_eq g47.symm))
        have F49 : Arv Z T7.heap sa ks .char (0 : Int32) [] (.int (0 : Int32)) := ((P1.ext E5).keep K7q (ninS ne6 nin0))
        have ne50 : sa ≠ b47 := Nat.ne_of_lt (Nat.lt_of_lt_of_le F49.lt (Nat.le_of_eq g47.symm))
        have ge_b47 : n0 ≤ b47 := Nat.le_trans Z7 (Nat.le_of_eq g47.symm)
        have Z47 : n0 ≤ h47.size := Nat.le_trans Z7 E47.1
        have V47 : Arv Z h47 b47 k47 .char (2 : Int32) [(.int (0 : Int32)), (.int (0 : Int32))] (.int (0 : Int32)) := (Arv.new A47 (by decide)).pad (pad_rep [] (.int (0 : Int32)) 2)
        replace G : Gets p e below _ (T47.setTop (mkF m 166 #[.val (.int i0), .val (.int i1), .val (.int i2), .val (.int i3), .val (.int i4), .val (.int (0 : Int32)), .val (.int (2 : Int32)), .val (.int (0 : Int32)), .val (.int c0), .val (.int c1), .val (.int c2), .val (.int o0), .val (.int o1), .val (.int o2), .val (.ref b5), .val .null, .unset, .unset] [(.ref b47)])) := fun t k => G t (st47 t k)
        replace G := own_astore (q := 168) (l' := #[.val (.int i0), .val (.int i1), .val (.int i2), .val (.int i3), .val (.int i4), .val (.int (0 : Int32)), .val (.int (2 : Int32)), .val (.int (0 : Int32)), .val (.int c0), .val (.int c1), .val (.int c2), .val (.int o0), .val (.int o1), .val (.int o2), .val (.ref b5), .val (.ref b47), .unset, .unset]) G X47.here hx (hb hby at_166) rfl rfl rfl
        replace G := own_iload (q := 170) G X47.here hx (hb hby at_168) rfl rfl
        have hc170_51 : (0 : Int32) < (2 : Int32) := by decide
        replace G := own_ifNo (q := 173) G X47.here hx (hb hby at_170) ((if0 _ _).trans (tlt hc170_51).2.2.2) rfl
        replace G := own_aload (q := 175) G X47.here hx (hb hby at_173) rfl rfl rfl
        replace G := own_iconst (q := 176) G X47.here hx (hb hby at_175) (v := (0 : Int32)) (by decide) rfl
        replace G := own_iload (q := 178) G X47.here hx (hb hby at_176) rfl rfl
        obtain ⟨c52, Ar52, q52, S52, N52', H52, G52'⟩ := id V47
        have hin52 : ¬ ((0 : Int32) < 0 ∨ c52.slots.size ≤ ((0 : Int32)).toNatClampNeg) := inb_of S52 ⟨by decide, by decide⟩
        obtain ⟨T52, h52, X52, e52, W52, st52⟩ := stC X47 hx hZ e47 Ar52 (j := (0 : Int32)) hin52 (g := (mkF m 178 #[.val (.int i0), .val (.int i1), .val (.int i2), .val (.int i3), .val (.int i4), .val (.int (0 : Int32)), .val (.int (2 : Int32)), .val (.int (0 : Int32)), .val (.int c0), .val (.int c1), .val (.int c2), .val (.int o0), .val (.int o1), .val (.int o2), .val (.ref b5), .val (.ref b47), .unset, .unset] [(.int o0), (.int (0 : Int32)), (.ref b47)])) rfl rfl (hb hby at_178)
        have N52 := Fr.snoc X52 N7 ge_b47
        have Z52 : n0 ≤ h52.size := Nat.le_trans Z47 (Keep.of_wr W52).1
        have V52 : Arv Z h52 b47 k47 .char (2 : Int32) [(.int (nar .char o0)), (.int (0 : Int32))] (.int (0 : Int32)) := Arv.set Ar52 q52 S52 N52' H52 G52' (fits_nar_char _) W52 0 rfl (Nat.le_of_ble_eq_true rfl)
        replace G : Gets p e below _ (T52.setTop (mkF m 179 #[.val (.int i0), .val (.int i1), .val (.int i2), .val (.int i3), .val (.int i4), .val (.int (0 : Int32)), .val (.int (2 : Int32)), .val (.int (0 : Int32)), .val (.int c0), .val (.int c1), .val (.int c2), .val (.int o0), .val (.int o1), .val (.int o2), .val (.ref b5), .val (.ref b47), .unset, .unset] [])) := fun t k => G t (st52 t k)
        replace G := own_iload (q := 181) G X52.here hx (hb hby at_179) rfl rfl
        replace G := own_iconst (q := 182) G X52.here hx (hb hby at_181) (v := (1 : Int32)) (by decide) rfl
        have hc182_53 : (1 : Int32) < (2 : Int32) := by decide
        replace G := own_icmpNo (q := 185) G X52.here hx (hb hby at_182) (tlt hc182_53).2.2.2 rfl
        replace G := own_aload (q := 187) G X52.here hx (hb hby at_185) rfl rfl rfl
        replace G := own_iconst (q := 188) G X52.here hx (hb hby at_187) (v := (1 : Int32)) (by decide) rfl
        replace G := own_iload (q := 190) G X52.here hx (hb hby at_188) rfl rfl
        obtain ⟨c54, Ar54, q54, S54, N54', H54, G54'⟩ := id V52
        have hin54 : ¬ ((1 : Int32) < 0 ∨ c54.slots.size ≤ ((1 : Int32)).toNatClampNeg) := inb_of S54 ⟨by decide, by decide⟩
        obtain ⟨T54, h54, X54, e54, W54, st54⟩ := stC X52 hx hZ e52 Ar54 (j := (1 : Int32)) hin54 (g := (mkF m 190 #[.val (.int i0), .val (.int i1), .val (.int i2), .val (.int i3), .val (.int i4), .val (.int (0 : Int32)), .val (.int (2 : Int32)), .val (.int (0 : Int32)), .val (.int c0), .val (.int c1), .val (.int c2), .val (.int o0), .val (.int o1), .val (.int o2), .val (.ref b5), .val (.ref b47), .unset, .unset] [(.int o1), (.int (1 : Int32)), (.ref b47)])) rfl rfl (hb hby at_190)
        have N54 := Fr.snoc X54 N52 ge_b47
        have Z54 : n0 ≤ h54.size := Nat.le_trans Z52 (Keep.of_wr W54).1
        have V54 : Arv Z h54 b47 k47 .char (2 : Int32) [(.int (nar .char o0)), (.int (nar .char o1))] (.int (0 : Int32)) := Arv.set Ar54 q54 S54 N54' H54 G54' (fits_nar_char _) W54 1 rfl (Nat.le_of_ble_eq_true rfl)
        replace G : Gets p e below _ (T54.setTop (mkF m 191 #[.val (.int i0), .val (.int i1), .val (.int i2), .val (.int i3), .val (.int i4), .val (.int (0 : Int32)), .val (.int (2 : Int32)), .val (.int (0 : Int32)), .val (.int c0), .val (.int c1), .val (.int c2), .val (.int o0), .val (.int o1), .val (.int o2), .val (.ref b5), .val (.ref b47), .unset, .unset] [])) := fun t k => G t (st54 t k)
        replace G := own_iload (q := 193) G X54.here hx (hb hby at_191) rfl rfl
        replace G := own_iconst (q := 194) G X54.here hx (hb hby at_193) (v := (2 : Int32)) (by decide) rfl
        have hc194_55 : ¬ ((2 : Int32) < (2 : Int32)) := by decide
        replace G := own_icmpYes (q := 203) G X54.here hx (hb hby at_194) (flt hc194_55).2.2.2 (by decide) (by decide)
        replace G := own_aload (q := 205) G X54.here hx (hb hby at_203) rfl rfl rfl
        replace G := own_aload (q := 207) G X54.here hx (hb hby at_205) rfl rfl rfl
        have F57 : Exa Z h54 b5 "com/example/leafcutter/leafcutter/io/TextBuffer" := ((((A5.keep K7q).ext E47).wr W52).wr W54)
        have F58 : Fld Z h54 b5 "com/example/leafcutter/leafcutter/io/TextBuffer" "length" "I" (.int (0 : Int32)) := (((B7_1.ext E47).other W52 (Or.inl ne48)).other W54 (Or.inl ne48))
        obtain ⟨cq56, kq56, q56a, q56b, q56c⟩ := isOf hZ e54 F57
        obtain ⟨_, _, ⟨T56, L56, kk56, nn56⟩, -, X56, ⟨Lc56, hQ56, l56, y56, z56⟩, st56⟩ := X54.virtualBack hx (y := (⟨"com/example/leafcutter/leafcutter/io/TextBuffer", "contentEquals", "([C)Z"⟩ : MethodName)) (z := (⟨"com/example/leafcutter/leafcutter/io/TextBuffer", "contentEquals", "([C)Z"⟩ : MethodName)) hown (mvT hZ (hw _ (List.mem_of_getElem? (i := 22) rfl))) (mvT hZ (hw _ (List.mem_of_getElem? (i := 23) rfl))) (notFace_of_selects (args := #[]) (mvT hZ (hw _ (List.mem_of_getElem? (i := 25) rfl)))) (mvT hZ (hw _ (List.mem_of_getElem? (i := 25) rfl))) (mvT hZ (hw _ (List.mem_of_getElem? (i := 24) rfl))) (by decide) (backOf (W := 0) (rm4n0m2 l Z a0 hw [] b5 b47 k47 (nar .char o0) (nar .char o1) h54 n0 Z54 F58 V54) hZ (hw _ (List.mem_of_getElem? (i := 26) rfl)) (hw _ (List.mem_of_getElem? (i := 2) rfl)) (by decide) (by decide)) q56a q56c (g := (mkF m 207 #[.val (.int i0), .val (.int i1), .val (.int i2), .val (.int i3), .val (.int i4), .val (.int (0 : Int32)), .val (.int (2 : Int32)), .val (.int (0 : Int32)), .val (.int c0), .val (.int c1), .val (.int c2), .val (.int o0), .val (.int o1), .val (.int o2), .val (.ref b5), .val (.ref b47), .unset, .unset] [(.ref b47), (.ref b5)])) rfl (by rw [hml]; rfl) (Steps.refl _) (argsL := [(.ref b47)]) (rest := []) (lenOf pd_7 rfl) rfl (by show 2 * 0 + _ ≤ _; exact Nat.le_of_eq rfl) (hb hby at_207) (fun _ _ => ⟨rfl, e54, (by decide : 2 + 0 ≤ _), (by decide : 6 + 0 ≤ _)⟩)
        dsimp only [Pt.U, Pt.locs, Pt.cells, Pt.slots] at X56 l56 y56 z56 st56 hQ56
        subst l56 y56 z56
        obtain ⟨rfl, N56q, e56⟩ := hQ56
        have N56 := Fr.app N54 N56q
        replace G : Gets p e below _ (T56.setTop (mkF m 210 #[.val (.int i0), .val (.int i1), .val (.int i2), .val (.int i3), .val (.int i4), .val (.int (0 : Int32)), .val (.int (2 : Int32)), .val (.int (0 : Int32)), .val (.int c0), .val (.int c1), .val (.int c2), .val (.int o0), .val (.int o1), .val (.int o2), .val (.ref b5), .val (.ref b47), .unset, .unset] [(.int (0 : Int32))])) := fun t k => G t (st56.trans k)
        replace G := own_istore (q := 212) (l' := #[.val (.int i0), .val (.int i1), .val (.int i2), .val (.int i3), .val (.int i4), .val (.int (0 : Int32)), .val (.int (2 : Int32)), .val (.int (0 : Int32)), .val (.int c0), .val (.int c1), .val (.int c2), .val (.int o0), .val (.int o1), .val (.int o2), .val (.ref b5), .val (.ref b47), .val (.int (0 : Int32)), .unset]) G X56.here hx (hb hby at_210) rfl rfl
        replace G := own_iload (q := 214) G X56.here hx (hb hby at_212) rfl rfl
        have hc214_59 : (0 : Int32) = (0 : Int32) := by decide
        replace G := own_ifNo (q := 217) G X56.here hx (hb hby at_214) ((if0 _ _).trans (teq hc214_59).2) rfl
        replace G := own_iload (q := 219) G X56.here hx (hb hby at_217) rfl rfl
        replace G := own_iload (q := 221) G X56.here hx (hb hby at_219) rfl rfl
        have hc221_60 : ¬ ((2 : Int32) = (0 : Int32)) := by decide
        replace G := own_icmpYes (q := 267) G X56.here hx (hb hby at_221) (feq hc221_60).2 (by decide) (by decide)
        replace G := own_iconst (q := 268) G X56.here hx (hb hby at_267) (v := (0 : Int32)) (by decide) rfl
        replace G := own_istore (q := 270) (l' := #[.val (.int i0), .val (.int i1), .val (.int i2), .val (.int i3), .val (.int i4), .val (.int (0 : Int32)), .val (.int (2 : Int32)), .val (.int (0 : Int32)), .val (.int c0), .val (.int c1), .val (.int c2), .val (.int o0), .val (.int o1), .val (.int o2), .val (.ref b5), .val (.ref b47), .val (.int (0 : Int32)), .val (.int (0 : Int32))]) G X56.here hx (hb hby at_268) rfl rfl
        replace G := own_iload (q := 272) G X56.here hx (hb hby at_270) rfl rfl
        replace G := own_iload (q := 274) G X56.here hx (hb hby at_272) rfl rfl
        have hc274_61 : (0 : Int32) = (0 : Int32) := by decide
        replace G := own_icmpNo (q := 277) G X56.here hx (hb hby at_274) (teq hc274_61).2 rfl
        replace G := own_aload (q := 279) G X56.here hx (hb hby at_277) rfl rfl rfl
        obtain ⟨cq62, kq62, q62a, q62b, q62c⟩ := isOf hZ e56 F57
        obtain ⟨_, _, ⟨T62, L62, kk62, nn62⟩, -, X62, ⟨Lc62, hQ62, l62, y62, z62⟩, st62⟩ := X56.virtualBack hx (y := (⟨"com/example/leafcutter/leafcutter/io/TextBuffer", "length", "()I"⟩ : MethodName)) (z := (⟨"com/example/leafcutter/leafcutter/io/TextBuffer", "length", "()I"⟩ : MethodName)) hown (mvT hZ (hw _ (List.mem_of_getElem? (i := 29) rfl))) (mvT hZ (hw _ (List.mem_of_getElem? (i := 30) rfl))) (notFace_of_selects (args := #[]) (mvT hZ (hw _ (List.mem_of_getElem? (i := 32) rfl)))) (mvT hZ (hw _ (List.mem_of_getElem? (i := 32) rfl))) (mvT hZ (hw _ (List.mem_of_getElem? (i := 31) rfl))) (by decide) (backOf (W := 0) (rm5k0 l Z a0 hw [] b5 h54 n0 Z54 F58) hZ (hw _ (List.mem_of_getElem? (i := 33) rfl)) (hw _ (List.mem_of_getElem? (i := 2) rfl)) (by decide) (by decide)) q62a q62c (g := (mkF m 279 #[.val (.int i0), .val (.int i1), .val (.int i2), .val (.int i3), .val (.int i4), .val (.int (0 : Int32)), .val (.int (2 : Int32)), .val (.int (0 : Int32)), .val (.int c0), .val (.int c1), .val (.int c2), .val (.int o0), .val (.int o1), .val (.int o2), .val (.ref b5), .val (.ref b47), .val (.int (0 : Int32)), .val (.int (0 : Int32))] [(.ref b5)])) rfl (by rw [hml]; rfl) (Steps.refl _) (argsL := []) (rest := []) (lenOf pd_8 rfl) rfl (by show 2 * 0 + _ ≤ _; exact Nat.le_of_eq rfl) (hb hby at_279) (fun _ _ => ⟨rfl, e56, (by decide : 2 + 0 ≤ _), (by decide : 6 + 0 ≤ _)⟩)
        dsimp only [Pt.U, Pt.locs, Pt.cells, Pt.slots] at X62 l62 y62 z62 st62 hQ62
        subst l62 y62 z62
        obtain ⟨rfl, N62q, e62⟩ := hQ62
        have N62 := Fr.app N56 N62q
        replace G : Gets p e below _ (T62.setTop (mkF m 282 #[.val (.int i0), .val (.int i1), .val (.int i2), .val (.int i3), .val (.int i4), .val (.int (0 : Int32)), .val (.int (2 : Int32)), .val (.int (0 : Int32)), .val (.int c0), .val (.int c1), .val (.int c2), .val (.int o0), .val (.int o1), .val (.int o2), .val (.ref b5), .val (.ref b47), .val (.int (0 : Int32)), .val (.int (0 : Int32))] [(.int (0 : Int32))])) := fun t k => G t (st62.trans k)
        replace G := own_iload (q := 284) G X62.here hx (hb hby at_282) rfl rfl
        have hc284_63 : (0 : Int32) = (0 : Int32) := by decide
        replace G := own_icmpNo (q := 287) G X62.here hx (hb hby at_284) (teq hc284_63).2 rfl
        replace G := own_iconst (q := 288) G X62.here hx (hb hby at_287) (v := (1 : Int32)) (by decide) rfl
        replace G := own_goto (q := 292) G X62.here hx (hb hby at_288) (by decide) (by decide)
        obtain ⟨fs, hr, hrun, hended, hW, hsame⟩ := X62.leave (v := some (.int (1 : Int32))) (fun h => by rw [Bd.returns] at h; cases h)
        refine ⟨_, _, G _ (retOut X62 hx Bd.returns rfl (Or.inl ⟨rfl, Or.inr (Or.inl rfl), _, rfl⟩) (hb hby at_292) hr), hrun, hended, _, _, rfl, ?_, ⟨_, rfl⟩, hW, hsame.mono (by decide) (by decide)⟩
        show Q0 Z i0 i1 i2 i3 i4 sa ks h0 n0 _ T62.heap _
        rw [e62]
        exact ⟨rfl, N62⟩
      · replace G := own_iload (q := 164) G X7.here hx (hb hby at_162) rfl rfl
        obtain ⟨T64, h64, k64, X64, e64, E64, A64, st64⟩ := newP X7 hx hZ (hw _ (List.mem_of_getElem? (i := 21) rfl)) rfl (g := (mkF m 164 #[.val (.int i0), .val (.int i1), .val (.int i2), .val (.int i3), .val (.int i4), .val (.int (0 : Int32)), .val (.int (3 : Int32)), .val (.int (0 : Int32)), .val (.int c0), .val (.int c1), .val (.int c2), .val (.int o0), .val (.int o1), .val (.int o2), .val (.ref b5), .val .null, .unset, .unset] [(.int (3 : Int32))])) rfl (hb hby at_164) rfl (by decide) (cap := 3) (by decide) (by decide) (by decide) (by decide)
        obtain ⟨b64, g64⟩ : ∃ z, z = T7.heap.size := ⟨_, rfl⟩
        rw [← g64] at A64 st64
        have ne65 : b5 ≠ b64 := Nat.ne_of_lt (Nat.lt_of_lt_of_le B7_3.lt (Nat.le_of_eq g64.symm))
        have F66 : Arv Z T7.heap sa ks .char (0 : Int32) [] (.int (0 : Int32)) := ((P1.ext E5).keep K7q (ninS ne6 nin0))
        have ne67 : sa ≠ b64 := Nat.ne_of_lt (Nat.lt_of_lt_of_le F66.lt (Nat.le_of_eq g64.symm))
        have ge_b64 : n0 ≤ b64 := Nat.le_trans Z7 (Nat.le_of_eq g64.symm)
        have Z64 : n0 ≤ h64.size := Nat.le_trans Z7 E64.1
        have V64 : Arv Z h64 b64 k64 .char (3 : Int32) [(.int (0 : Int32)), (.int (0 : Int32)), (.int (0 : Int32))] (.int (0 : Int32)) := (Arv.new A64 (by decide)).pad (pad_rep [] (.int (0 : Int32)) 3)
        replace G : Gets p e below _ (T64.setTop (mkF m 166 #[.val (.int i0), .val (.int i1), .val (.int i2), .val (.int i3), .val (.int i4), .val (.int (0 : Int32)), .val (.int (3 : Int32)), .val (.int (0 : Int32)), .val (.int c0), .val (.int c1), .val (.int c2), .val (.int o0), .val (.int o1), .val (.int o2), .val (.ref b5), .val .null, .unset, .unset] [(.ref b64)])) := fun t k => G t (st64 t k)
        replace G := own_astore (q := 168) (l' := #[.val (.int i0), .val (.int i1), .val (.int i2), .val (.int i3), .val (.int i4), .val (.int (0 : Int32)), .val (.int (3 : Int32)), .val (.int (0 : Int32)), .val (.int c0), .val (.int c1), .val (.int c2), .val (.int o0), .val (.int o1), .val (.int o2), .val (.ref b5), .val (.ref b64), .unset, .unset]) G X64.here hx (hb hby at_166) rfl rfl rfl
        replace G := own_iload (q := 170) G X64.here hx (hb hby at_168) rfl rfl
        have hc170_68 : (0 : Int32) < (3 : Int32) := by decide
        replace G := own_ifNo (q := 173) G X64.here hx (hb hby at_170) ((if0 _ _).trans (tlt hc170_68).2.2.2) rfl
        replace G := own_aload (q := 175) G X64.here hx (hb hby at_173) rfl rfl rfl
        replace G := own_iconst (q := 176) G X64.here hx (hb hby at_175) (v := (0 : Int32)) (by decide) rfl
        replace G := own_iload (q := 178) G X64.here hx (hb hby at_176) rfl rfl
        obtain ⟨c69, Ar69, q69, S69, N69', H69, G69'⟩ := id V64
        have hin69 : ¬ ((0 : Int32) < 0 ∨ c69.slots.size ≤ ((0 : Int32)).toNatClampNeg) := inb_of S69 ⟨by decide, by decide⟩
        obtain ⟨T69, h69, X69, e69, W69, st69⟩ := stC X64 hx hZ e64 Ar69 (j := (0 : Int32)) hin69 (g := (mkF m 178 #[.val (.int i0), .val (.int i1), .val (.int i2), .val (.int i3), .val (.int i4), .val (.int (0 : Int32)), .val (.int (3 : Int32)), .val (.int (0 : Int32)), .val (.int c0), .val (.int c1), .val (.int c2), .val (.int o0), .val (.int o1), .val (.int o2), .val (.ref b5), .val (.ref b64), .unset, .unset] [(.int o0), (.int (0 : Int32)), (.ref b64)])) rfl rfl (hb hby at_178)
        have N69 := Fr.snoc X69 N7 ge_b64
        have Z69 : n0 ≤ h69.size := Nat.le_trans Z64 (Keep.of_wr W69).1
        have V69 : Arv Z h69 b64 k64 .char (3 : Int32) [(.int (nar .char o0)), (.int (0 : Int32)), (.int (0 : Int32))] (.int (0 : Int32)) := Arv.set Ar69 q69 S69 N69' H69 G69' (fits_nar_char _) W69 0 rfl (Nat.le_of_ble_eq_true rfl)
        replace G : Gets p e below _ (T69.setTop (mkF m 179 #[.val (.int i0), .val (.int i1), .val (.int i2), .val (.int i3), .val (.int i4), .val (.int (0 : Int32)), .val (.int (3 : Int32)), .val (.int (0 : Int32)), .val (.int c0), .val (.int c1), .val (.int c2), .val (.int o0), .val (.int o1), .val (.int o2), .val (.ref b5), .val (.ref b64), .unset, .unset] [])) := fun t k => G t (st69 t k)
        replace G := own_iload (q := 181) G X69.here hx (hb hby at_179) rfl rfl
        replace G := own_iconst (q := 182) G X69.here hx (hb hby at_181) (v := (1 : Int32)) (by decide) rfl
        have hc182_70 : (1 : Int32) < (3 : Int32) := by decide
        replace G := own_icmpNo (q := 185) G X69.here hx (hb hby at_182) (tlt hc182_70).2.2.2 rfl
        replace G := own_aload (q := 187) G X69.here hx (hb hby at_185) rfl rfl rfl
        replace G := own_iconst (q := 188) G X69.here hx (hb hby at_187) (v := (1 : Int32)) (by decide) rfl
        replace G := own_iload (q := 190) G X69.here hx (hb hby at_188) rfl rfl
        obtain ⟨c71, Ar71, q71, S71, N71', H71, G71'⟩ := id V69
        have hin71 : ¬ ((1 : Int32) < 0 ∨ c71.slots.size ≤ ((1 : Int32)).toNatClampNeg) := inb_of S71 ⟨by decide, by decide⟩
        obtain ⟨T71, h71, X71, e71, W71, st71⟩ := stC X69 hx hZ e69 Ar71 (j := (1 : Int32)) hin71 (g := (mkF m 190 #[.val (.int i0), .val (.int i1), .val (.int i2), .val (.int i3), .val (.int i4), .val (.int (0 : Int32)), .val (.int (3 : Int32)), .val (.int (0 : Int32)), .val (.int c0), .val (.int c1), .val (.int c2), .val (.int o0), .val (.int o1), .val (.int o2), .val (.ref b5), .val (.ref b64), .unset, .unset] [(.int o1), (.int (1 : Int32)), (.ref b64)])) rfl rfl (hb hby at_190)
        have N71 := Fr.snoc X71 N69 ge_b64
        have Z71 : n0 ≤ h71.size := Nat.le_trans Z69 (Keep.of_wr W71).1
        have V71 : Arv Z h71 b64 k64 .char (3 : Int32) [(.int (nar .char o0)), (.int (nar .char o1)), (.int (0 : Int32))] (.int (0 : Int32)) := Arv.set Ar71 q71 S71 N71' H71 G71' (fits_nar_char _) W71 1 rfl (Nat.le_of_ble_eq_true rfl)
        replace G : Gets p e below _ (T71.setTop (mkF m 191 #[.val (.int i0), .val (.int i1), .val (.int i2), .val (.int i3), .val (.int i4), .val (.int (0 : Int32)), .val (.int (3 : Int32)), .val (.int (0 : Int32)), .val (.int c0), .val (.int c1), .val (.int c2), .val (.int o0), .val (.int o1), .val (.int o2), .val (.ref b5), .val (.ref b64), .unset, .unset] [])) := fun t k => G t (st71 t k)
        replace G := own_iload (q := 193) G X71.here hx (hb hby at_191) rfl rfl
        replace G := own_iconst (q := 194) G X71.here hx (hb hby at_193) (v := (2 : Int32)) (by decide) rfl
        have hc194_72 : (2 : Int32) < (3 : Int32) := by decide
        replace G := own_icmpNo (q := 197) G X71.here hx (hb hby at_194) (tlt hc194_72).2.2.2 rfl
        replace G := own_aload (q := 199) G X71.here hx (hb hby at_197) rfl rfl rfl
        replace G := own_iconst (q := 200) G X71.here hx (hb hby at_199) (v := (2 : Int32)) (by decide) rfl
        replace G := own_iload (q := 202) G X71.here hx (hb hby at_200) rfl rfl
        obtain ⟨c73, Ar73, q73, S73, N73', H73, G73'⟩ := id V71
        have hin73 : ¬ ((2 : Int32) < 0 ∨ c73.slots.size ≤ ((2 : Int32)).toNatClampNeg) := inb_of S73 ⟨by decide, by decide⟩
        obtain ⟨T73, h73, X73, e73, W73, st73⟩ := stC X71 hx hZ e71 Ar73 (j := (2 : Int32)) hin73 (g := (mkF m 202 #[.val (.int i0), .val (.int i1), .val (.int i2), .val (.int i3), .val (.int i4), .val (.int (0 : Int32)), .val (.int (3 : Int32)), .val (.int (0 : Int32)), .val (.int c0), .val (.int c1), .val (.int c2), .val (.int o0), .val (.int o1), .val (.int o2), .val (.ref b5), .val (.ref b64), .unset, .unset] [(.int o2), (.int (2 : Int32)), (.ref b64)])) rfl rfl (hb hby at_202)
        have N73 := Fr.snoc X73 N71 ge_b64
        have Z73 : n0 ≤ h73.size := Nat.le_trans Z71 (Keep.of_wr W73).1
        have V73 : Arv Z h73 b64 k64 .char (3 : Int32) [(.int (nar .char o0)), (.int (nar .char o1)), (.int (nar .char o2))] (.int (0 : Int32)) := Arv.set Ar73 q73 S73 N73' H73 G73' (fits_nar_char _) W73 2 rfl (Nat.le_of_ble_eq_true rfl)
        replace G : Gets p e below _ (T73.setTop (mkF m 203 #[.val (.int i0), .val (.int i1), .val (.int i2), .val (.int i3), .val (.int i4), .val (.int (0 : Int32)), .val (.int (3 : Int32)), .val (.int (0 : Int32)), .val (.int c0), .val (.int c1), .val (.int c2), .val (.int o0), .val (.int o1), .val (.int o2), .val (.ref b5), .val (.ref b64), .unset, .unset] [])) := fun t k => G t (st73 t k)
        replace G := own_aload (q := 205) G X73.here hx (hb hby at_203) rfl rfl rfl
        replace G := own_aload (q := 207) G X73.here hx (hb hby at_205) rfl rfl rfl
        have F75 : Exa Z h73 b5 "com/example/leafcutter/leafcutter/io/TextBuffer" := (((((A5.keep K7q).ext E64).wr W69).wr W71).wr W73)
        have F76 : Fld Z h73 b5 "com/example/leafcutter/leafcutter/io/TextBuffer" "length" "I" (.int (0 : Int32)) := ((((B7_1.ext E64).other W69 (Or.inl ne65)).other W71 (Or.inl ne65)).other W73 (Or.inl ne65))
        obtain ⟨cq74, kq74, q74a, q74b, q74c⟩ := isOf hZ e73 F75
        obtain ⟨_, _, ⟨T74, L74, kk74, nn74⟩, -, X74, ⟨Lc74, hQ74, l74, y74, z74⟩, st74⟩ := X73.virtualBack hx (y := (⟨"com/example/leafcutter/leafcutter/io/TextBuffer", "contentEquals", "([C)Z"⟩ : MethodName)) (z := (⟨"com/example/leafcutter/leafcutter/io/TextBuffer", "contentEquals", "([C)Z"⟩ : MethodName)) hown (mvT hZ (hw _ (List.mem_of_getElem? (i := 22) rfl))) (mvT hZ (hw _ (List.mem_of_getElem? (i := 23) rfl))) (notFace_of_selects (args := #[]) (mvT hZ (hw _ (List.mem_of_getElem? (i := 25) rfl)))) (mvT hZ (hw _ (List.mem_of_getElem? (i := 25) rfl))) (mvT hZ (hw _ (List.mem_of_getElem? (i := 24) rfl))) (by decide) (backOf (W := 0) (rm4n0m3 l Z a0 hw [] b5 b64 k64 (nar .char o0) (nar .char o1) (nar .char o2) h73 n0 Z73 F76 V73) hZ (hw _ (List.mem_of_getElem? (i := 26) rfl)) (hw _ (List.mem_of_getElem? (i := 2) rfl)) (by decide) (by decide)) q74a q74c (g := (mkF m 207 #[.val (.int i0), .val (.int i1), .val (.int i2), .val (.int i3), .val (.int i4), .val (.int (0 : Int32)), .val (.int (3 : Int32)), .val (.int (0 : Int32)), .val (.int c0), .val (.int c1), .val (.int c2), .val (.int o0), .val (.int o1), .val (.int o2), .val (.ref b5), .val (.ref b64), .unset, .unset] [(.ref b64), (.ref b5)])) rfl (by rw [hml]; rfl) (Steps.refl _) (argsL := [(.ref b64)]) (rest := []) (lenOf pd_7 rfl) rfl (by show 2 * 0 + _ ≤ _; exact Nat.le_of_eq rfl) (hb hby at_207) (fun _ _ => ⟨rfl, e73, (by decide : 2 + 0 ≤ _), (by decide : 7 + 0 ≤ _)⟩)
        dsimp only [Pt.U, Pt.locs, Pt.cells, Pt.slots] at X74 l74 y74 z74 st74 hQ74
        subst l74 y74 z74
        obtain ⟨rfl, N74q, e74⟩ := hQ74
        have N74 := Fr.app N73 N74q
        replace G : Gets p e below _ (T74.setTop (mkF m 210 #[.val (.int i0), .val (.int i1), .val (.int i2), .val (.int i3), .val (.int i4), .val (.int (0 : Int32)), .val (.int (3 : Int32)), .val (.int (0 : Int32)), .val (.int c0), .val (.int c1), .val (.int c2), .val (.int o0), .val (.int o1), .val (.int o2), .val (.ref b5), .val (.ref b64), .unset, .unset] [(.int (0 : Int32))])) := fun t k => G t (st74.trans k)
        replace G := own_istore (q := 212) (l' := #[.val (.int i0), .val (.int i1), .val (.int i2), .val (.int i3), .val (.int i4), .val (.int (0 : Int32)), .val (.int (3 : Int32)), .val (.int (0 : Int32)), .val (.int c0), .val (.int c1), .val (.int c2), .val (.int o0), .val (.int o1), .val (.int o2), .val (.ref b5), .val (.ref b64), .val (.int (0 : Int32)), .unset]) G X74.here hx (hb hby at_210) rfl rfl
        replace G := own_iload (q := 214) G X74.here hx (hb hby at_212) rfl rfl
        have hc214_77 : (0 : Int32) = (0 : Int32) := by decide
        replace G := own_ifNo (q := 217) G X74.here hx (hb hby at_214) ((if0 _ _).trans (teq hc214_77).2) rfl
        replace G := own_iload (q := 219) G X74.here hx (hb hby at_217) rfl rfl
        replace G := own_iload (q := 221) G X74.here hx (hb hby at_219) rfl rfl
        have hc221_78 : ¬ ((3 : Int32) = (0 : Int32)) := by decide
        replace G := own_icmpYes (q := 267) G X74.here hx (hb hby at_221) (feq hc221_78).2 (by decide) (by decide)
        replace G := own_iconst (q := 268) G X74.here hx (hb hby at_267) (v := (0 : Int32)) (by decide) rfl
        replace G := own_istore (q := 270) (l' := #[.val (.int i0), .val (.int i1), .val (.int i2), .val (.int i3), .val (.int i4), .val (.int (0 : Int32)), .val (.int (3 : Int32)), .val (.int (0 : Int32)), .val (.int c0), .val (.int c1), .val (.int c2), .val (.int o0), .val (.int o1), .val (.int o2), .val (.ref b5), .val (.ref b64), .val (.int (0 : Int32)), .val (.int (0 : Int32))]) G X74.here hx (hb hby at_268) rfl rfl
        replace G := own_iload (q := 272) G X74.here hx (hb hby at_270) rfl rfl
        replace G := own_iload (q := 274) G X74.here hx (hb hby at_272) rfl rfl
        have hc274_79 : (0 : Int32) = (0 : Int32) := by decide
        replace G := own_icmpNo (q := 277) G X74.here hx (hb hby at_274) (teq hc274_79).2 rfl
        replace G := own_aload (q := 279) G X74.here hx (hb hby at_277) rfl rfl rfl
        obtain ⟨cq80, kq80, q80a, q80b, q80c⟩ := isOf hZ e74 F75
        obtain ⟨_, _, ⟨T80, L80, kk80, nn80⟩, -, X80, ⟨Lc80, hQ80, l80, y80, z80⟩, st80⟩ := X74.virtualBack hx (y := (⟨"com/example/leafcutter/leafcutter/io/TextBuffer", "length", "()I"⟩ : MethodName)) (z := (⟨"com/example/leafcutter/leafcutter/io/TextBuffer", "length", "()I"⟩ : MethodName)) hown (mvT hZ (hw _ (List.mem_of_getElem? (i := 29) rfl))) (mvT hZ (hw _ (List.mem_of_getElem? (i := 30) rfl))) (notFace_of_selects (args := #[]) (mvT hZ (hw _ (List.mem_of_getElem? (i := 32) rfl)))) (mvT hZ (hw _ (List.mem_of_getElem? (i := 32) rfl))) (mvT hZ (hw _ (List.mem_of_getElem? (i := 31) rfl))) (by decide) (backOf (W := 0) (rm5k0 l Z a0 hw [] b5 h73 n0 Z73 F76) hZ (hw _ (List.mem_of_getElem? (i := 33) rfl)) (hw _ (List.mem_of_getElem? (i := 2) rfl)) (by decide) (by decide)) q80a q80c (g := (mkF m 279 #[.val (.int i0), .val (.int i1), .val (.int i2), .val (.int i3), .val (.int i4), .val (.int (0 : Int32)), .val (.int (3 : Int32)), .val (.int (0 : Int32)), .val (.int c0), .val (.int c1), .val (.int c2), .val (.int o0), .val (.int o1), .val (.int o2), .val (.ref b5), .val (.ref b64), .val (.int (0 : Int32)), .val (.int (0 : Int32))] [(.ref b5)])) rfl (by rw [hml]; rfl) (Steps.refl _) (argsL := []) (rest := []) (lenOf pd_8 rfl) rfl (by show 2 * 0 + _ ≤ _; exact Nat.le_of_eq rfl) (hb hby at_279) (fun _ _ => ⟨rfl, e74, (by decide : 2 + 0 ≤ _), (by decide : 7 + 0 ≤ _)⟩)
        dsimp only [Pt.U, Pt.locs, Pt.cells, Pt.slots] at X80 l80 y80 z80 st80 hQ80
        subst l80 y80 z80
        obtain ⟨rfl, N80q, e80⟩ := hQ80
        have N80 := Fr.app N74 N80q
        replace G : Gets p e below _ (T80.setTop (mkF m 282 #[.val (.int i0), .val (.int i1), .val (.int i2), .val (.int i3), .val (.int i4), .val (.int (0 : Int32)), .val (.int (3 : Int32)), .val (.int (0 : Int32)), .val (.int c0), .val (.int c1), .val (.int c2), .val (.int o0), .val (.int o1), .val (.int o2), .val (.ref b5), .val (.ref b64), .val (.int (0 : Int32)), .val (.int (0 : Int32))] [(.int (0 : Int32))])) := fun t k => G t (st80.trans k)
        replace G := own_iload (q := 284) G X80.here hx (hb hby at_282) rfl rfl
        have hc284_81 : (0 : Int32) = (0 : Int32) := by decide
        replace G := own_icmpNo (q := 287) G X80.here hx (hb hby at_284) (teq hc284_81).2 rfl
        replace G := own_iconst (q := 288) G X80.here hx (hb hby at_287) (v := (1 : Int32)) (by decide) rfl
        replace G := own_goto (q := 292) G X80.here hx (hb hby at_288) (by decide) (by decide)
        obtain ⟨fs, hr, hrun, hended, hW, hsame⟩ := X80.leave (v := some (.int (1 : Int32))) (fun h => by rw [Bd.returns] at h; cases h)
        refine ⟨_, _, G _ (retOut X80 hx Bd.returns rfl (Or.inl ⟨rfl, Or.inr (Or.inl rfl), _, rfl⟩) (hb hby at_292) hr), hrun, hended, _, _, rfl, ?_, ⟨_, rfl⟩, hW, hsame.mono (by decide) (by decide)⟩
        show Q0 Z i0 i1 i2 i3 i4 sa ks h0 n0 _ T80.heap _
        rw [e80]
        exact ⟨rfl, N80⟩
    · replace G := own_astore (q := 113) (l' := #[.val (.int i0), .val (.int i1), .val (.int i2), .val (.int i3), .val (.int i4), .val (.int (1 : Int32)), .val (.int m0), .val (.int (0 : Int32)), .val (.int c0), .val (.int c1), .val (.int c2), .val (.int o0), .val (.int o1), .val (.int o2), .val (.ref b5), .unset, .unset, .unset]) G X7.here hx (hb hby at_111) rfl rfl rfl
      replace G := own_iload (q := 115) G X7.here hx (hb hby at_113) rfl rfl
      have hc115_82 : (0 : Int32) < (1 : Int32) := by decide
      replace G := own_ifNo (q := 118) G X7.here hx (hb hby at_115) ((if0 _ _).trans (tlt hc115_82).2.2.2) rfl
      replace G := own_aload (q := 120) G X7.here hx (hb hby at_118) rfl rfl rfl
      replace G := own_iload (q := 122) G X7.here hx (hb hby at_120) rfl rfl
      have F84 : Exa Z T7.heap b5 "com/example/leafcutter/leafcutter/io/TextBuffer" := (A5.keep K7q)
      have F85 : Arv Z T7.heap sa ks .char (0 : Int32) [] (.int (0 : Int32)) := ((P1.ext E5).keep K7q (ninS ne6 nin0))
      obtain ⟨cq83, kq83, q83a, q83b, q83c⟩ := isOf hZ rfl F84
      obtain ⟨_, _, ⟨T83, L83, kk83, nn83⟩, -, X83, ⟨Lc83, hQ83, l83, y83, z83⟩, st83⟩ := X7.virtualBack hx (y := (⟨"com/example/leafcutter/leafcutter/io/TextBuffer", "append", "(C)Lcom/example/leafcutter/leafcutter/io/TextBuffer;"⟩ : MethodName)) (z := (⟨"com/example/leafcutter/leafcutter/io/TextBuffer", "append", "(C)Lcom/example/leafcutter/leafcutter/io/TextBuffer;"⟩ : MethodName)) hown (mvT hZ (hw _ (List.mem_of_getElem? (i := 34) rfl))) (mvT hZ (hw _ (List.mem_of_getElem? (i := 35) rfl))) (notFace_of_selects (args := #[]) (mvT hZ (hw _ (List.mem_of_getElem? (i := 37) rfl)))) (mvT hZ (hw _ (List.mem_of_getElem? (i := 37) rfl))) (mvT hZ (hw _ (List.mem_of_getElem? (i := 36) rfl))) (by decide) (backOf (W := 0) (rm6s0 l Z a0 hw [] b5 c0 sa ks T7.heap n0 Z7 B7_0 B7_1 B7_2 B7_3 F84 F85 ge_b5 (Ne.symm ne6)) hZ (hw _ (List.mem_of_getElem? (i := 38) rfl)) (hw _ (List.mem_of_getElem? (i := 2) rfl)) (by decide) (by decide)) q83a q83c (g := (mkF m 122 #[.val (.int i0), .val (.int i1), .val (.int i2), .val (.int i3), .val (.int i4), .val (.int (1 : Int32)), .val (.int m0), .val (.int (0 : Int32)), .val (.int c0), .val (.int c1), .val (.int c2), .val (.int o0), .val (.int o1), .val (.int o2), .val (.ref b5), .unset, .unset, .unset] [(.int c0), (.ref b5)])) rfl (by rw [hml]; rfl) (Steps.refl _) (argsL := [(.int c0)]) (rest := []) (lenOf pd_9 rfl) rfl (by show 2 * 0 + _ ≤ _; exact Nat.le_of_eq rfl) (hb hby at_122) (fun _ _ => ⟨rfl, rfl, (by decide : 1 + 1 ≤ _), (by decide : 4 + 16 ≤ _)⟩)
      dsimp only [Pt.U, Pt.locs, Pt.cells, Pt.slots] at X83 l83 y83 z83 st83 hQ83
      subst l83 y83 z83
      obtain ⟨b_83, kb_83, rfl, N83q, K83q, B83_0, B83_1, B83_2, B83_3, B83_4, B83_5⟩ := hQ83
      have ne86 : b5 ≠ b_83 := Nat.ne_of_lt (Nat.lt_of_lt_of_le B7_3.lt B83_4)
      have ne87 : sa ≠ b_83 := Nat.ne_of_lt (Nat.lt_of_lt_of_le F85.lt B83_4)
      have ge_b_83 : n0 ≤ b_83 := Nat.le_trans Z7 B83_4
      have Z83 : n0 ≤ T83.heap.size := Nat.le_trans Z7 K83q.1
      have N83 := Fr.app N7 N83q
      replace G : Gets p e below _ (T83.setTop (mkF m 125 #[.val (.int i0), .val (.int i1), .val (.int i2), .val (.int i3), .val (.int i4), .val (.int (1 : Int32)), .val (.int m0), .val (.int (0 : Int32)), .val (.int c0), .val (.int c1), .val (.int c2), .val (.int o0), .val (.int o1), .val (.int o2), .val (.ref b5), .unset, .unset, .unset] [(.ref b5)])) := fun t k => G t (st83.trans k)
      replace G := own_pop (q := 126) G X83.here hx (hb hby at_125) rfl rfl
      replace G := own_iload (q := 128) G X83.here hx (hb hby at_126) rfl rfl
      replace G := own_iconst (q := 129) G X83.here hx (hb hby at_128) (v := (1 : Int32)) (by decide) rfl
      have hc129_88 : ¬ ((1 : Int32) < (1 : Int32)) := by decide
      replace G := own_icmpYes (q := 140) G X83.here hx (hb hby at_129) (flt hc129_88).2.2.2 (by decide) (by decide)
      replace G := own_iload (q := 142) G X83.here hx (hb hby at_140) rfl rfl
      replace G := own_iconst (q := 143) G X83.here hx (hb hby at_142) (v := (2 : Int32)) (by decide) rfl
      have hc143_89 : ¬ ((2 : Int32) < (1 : Int32)) := by decide
      replace G := own_icmpYes (q := 154) G X83.here hx (hb hby at_143) (flt hc143_89).2.2.2 (by decide) (by decide)
      replace G := own_aconst_null (q := 155) G X83.here hx (hb hby at_154) rfl
      replace G := own_astore (q := 157) (l' := #[.val (.int i0), .val (.int i1), .val (.int i2), .val (.int i3), .val (.int i4), .val (.int (1 : Int32)), .val (.int m0), .val (.int (0 : Int32)), .val (.int c0), .val (.int c1), .val (.int c2), .val (.int o0), .val (.int o1), .val (.int o2), .val (.ref b5), .val .null, .unset, .unset]) G X83.here hx (hb hby at_155) rfl rfl rfl
      replace G := own_iload (q := 159) G X83.here hx (hb hby at_157) rfl rfl
      have hc159_90 : (0 : Int32) = (0 : Int32) := by decide
      replace G := own_ifNo (q := 162) G X83.here hx (hb hby at_159) ((if0 _ _).trans (teq hc159_90).2) rfl
      rcases own_cases4 (own_m3 hn_m0) with rfl | rfl | rfl | rfl
      · replace G := own_iload (q := 164) G X83.here hx (hb hby at_162) rfl rfl
        obtain ⟨T91, h91, k91, X91, e91, E91, A91, st91⟩ := newP X83 hx hZ (hw _ (List.mem_of_getElem? (i := 21) rfl)) rfl (g := (mkF m 164 #[.val (.int i0), .val (.int i1), .val (.int i2), .val (.int i3), .val (.int i4), .val (.int (1 : Int32)), .val (.int (0 : Int32)), .val (.int (0 : Int32)), .val (.int c0), .val (.int c1), .val (.int c2), .val (.int o0), .val (.int o1), .val (.int o2), .val (.ref b5), .val .null, .unset, .unset] [(.int (0 : Int32))])) rfl (hb hby at_164) rfl (by decide) (cap := 0) (by decide) (by decide) (by decide) (by decide)
        obtain ⟨b91, g91⟩ : ∃ z, z = T83.heap.size := ⟨_, rfl⟩
        rw [← g91] at A91 st91
        have ne92 : b_83 ≠ b91 := Nat.ne_of_lt (Nat.lt_of_lt_of_le B83_5.lt (Nat.le_of_eq g91.symm))
        have ne93 : b5 ≠ b91 := Nat.ne_of_lt (Nat.lt_of_lt_of_le B83_3.lt (Nat.le_of_eq g91.symm))
        have F94 : Arv Z T83.heap sa ks .char (0 : Int32) [] (.int (0 : Int32)) := (F85.keep K83q (ninS ne6 nin0))
        have ne95 : sa ≠ b91 := Nat.ne_of_lt (Nat.lt_of_lt_of_le F94.lt (Nat.le_of_eq g91.symm))
        have ge_b91 : n0 ≤ b91 := Nat.le_trans Z83 (Nat.le_of_eq g91.symm)
        have Z91 : n0 ≤ h91.size := Nat.le_trans Z83 E91.1
        have V91 : Arv Z h91 b91 k91 .char (0 : Int32) [] (.int (0 : Int32)) := (Arv.new A91 (by decide)).pad (pad_rep [] (.int (0 : Int32)) 0)
        replace G : Gets p e below _ (T91.setTop (mkF m 166 #[.val (.int i0), .val (.int i1), .val (.int i2), .val (.int i3), .val (.int i4), .val (.int (1 : Int32)), .val (.int (0 : Int32)), .val (.int (0 : Int32)), .val (.int c0), .val (.int c1), .val (.int c2), .val (.int o0), .val (.int o1), .val (.int o2), .val (.ref b5), .val .null, .unset, .unset] [(.ref b91)])) := fun t k => G t (st91 t k)
        replace G := own_astore (q := 168) (l' := #[.val (.int i0), .val (.int i1), .val (.int i2), .val (.int i3), .val (.int i4), .val (.int (1 : Int32)), .val (.int (0 : Int32)), .val (.int (0 : Int32)), .val (.int c0), .val (.int c1), .val (.int c2), .val (.int o0), .val (.int o1), .val (.int o2), .val (.ref b5), .val (.ref b91), .unset, .unset]) G X91.here hx (hb hby at_166) rfl rfl rfl
        replace G := own_iload (q := 170) G X91.here hx (hb hby at_168) rfl rfl
        have hc170_96 : ¬ ((0 : Int32) < (0 : Int32)) := by decide
        replace G := own_ifYes (q := 179) G X91.here hx (hb hby at_170) ((if0 _ _).trans (flt hc170_96).2.2.2) (by decide) (by decide)
        replace G := own_iload (q := 181) G X91.here hx (hb hby at_179) rfl rfl
        replace G := own_iconst (q := 182) G X91.here hx (hb hby at_181) (v := (1 : Int32)) (by decide) rfl
        have hc182_97 : ¬ ((1 : Int32) < (0 : Int32)) := by decide
        replace G := own_icmpYes (q := 191) G X91.here hx (hb hby at_182) (flt hc182_97).2.2.2 (by decide) (by decide)
        replace G := own_iload (q := 193) G X91.here hx (hb hby at_191) rfl rfl
        replace G := own_iconst (q := 194) G X91.here hx (hb hby at_193) (v := (2 : Int32)) (by decide) rfl
        have hc194_98 : ¬ ((2 : Int32) < (0 : Int32)) := by decide
        replace G := own_icmpYes (q := 203) G X91.here hx (hb hby at_194) (flt hc194_98).2.2.2 (by decide) (by decide)
        replace G := own_aload (q := 205) G X91.here hx (hb hby at_203) rfl rfl rfl
        replace G := own_aload (q := 207) G X91.here hx (hb hby at_205) rfl rfl rfl
        have F100 : Exa Z h91 b5 "com/example/leafcutter/leafcutter/io/TextBuffer" := ((F84.keep K83q).ext E91)
        have F101 : Fld Z h91 b5 "com/example/leafcutter/leafcutter/io/TextBuffer" "length" "I" (.int (1 : Int32)) := (B83_1.ext E91)
        obtain ⟨cq99, kq99, q99a, q99b, q99c⟩ := isOf hZ e91 F100
        obtain ⟨_, _, ⟨T99, L99, kk99, nn99⟩, -, X99, ⟨Lc99, hQ99, l99, y99, z99⟩, st99⟩ := X91.virtualBack hx (y := (⟨"com/example/leafcutter/leafcutter/io/TextBuffer", "contentEquals", "([C)Z"⟩ : MethodName)) (z := (⟨"com/example/leafcutter/leafcutter/io/TextBuffer", "contentEquals", "([C)Z"⟩ : MethodName)) hown (mvT hZ (hw _ (List.mem_of_getElem? (i := 22) rfl))) (mvT hZ (hw _ (List.mem_of_getElem? (i := 23) rfl))) (notFace_of_selects (args := #[]) (mvT hZ (hw _ (List.mem_of_getElem? (i := 25) rfl)))) (mvT hZ (hw _ (List.mem_of_getElem? (i := 25) rfl))) (mvT hZ (hw _ (List.mem_of_getElem? (i := 24) rfl))) (by decide) (backOf (W := 0) (rm4n1m0 l Z a0 hw [] b5 b91 k91 h91 n0 Z91 F101 V91) hZ (hw _ (List.mem_of_getElem? (i := 26) rfl)) (hw _ (List.mem_of_getElem? (i := 2) rfl)) (by decide) (by decide)) q99a q99c (g := (mkF m 207 #[.val (.int i0), .val (.int i1), .val (.int i2), .val (.int i3), .val (.int i4), .val (.int (1 : Int32)), .val (.int (0 : Int32)), .val (.int (0 : Int32)), .val (.int c0), .val (.int c1), .val (.int c2), .val (.int o0), .val (.int o1), .val (.int o2), .val (.ref b5), .val (.ref b91), .unset, .unset] [(.ref b91), (.ref b5)])) rfl (by rw [hml]; rfl) (Steps.refl _) (argsL := [(.ref b91)]) (rest := []) (lenOf pd_7 rfl) rfl (by show 2 * 0 + _ ≤ _; exact Nat.le_of_eq rfl) (hb hby at_207) (fun _ _ => ⟨rfl, e91, (by decide : 3 + 0 ≤ _), (by decide : 20 + 0 ≤ _)⟩)
        dsimp only [Pt.U, Pt.locs, Pt.cells, Pt.slots] at X99 l99 y99 z99 st99 hQ99
        subst l99 y99 z99
        obtain ⟨rfl, N99q, e99⟩ := hQ99
        have N99 := Fr.app N83 N99q
        replace G : Gets p e below _ (T99.setTop (mkF m 210 #[.val (.int i0), .val (.int i1), .val (.int i2), .val (.int i3), .val (.int i4), .val (.int (1 : Int32)), .val (.int (0 : Int32)), .val (.int (0 : Int32)), .val (.int c0), .val (.int c1), .val (.int c2), .val (.int o0), .val (.int o1), .val (.int o2), .val (.ref b5), .val (.ref b91), .unset, .unset] [(.int (0 : Int32))])) := fun t k => G t (st99.trans k)
        replace G := own_istore (q := 212) (l' := #[.val (.int i0), .val (.int i1), .val (.int i2), .val (.int i3), .val (.int i4), .val (.int (1 : Int32)), .val (.int (0 : Int32)), .val (.int (0 : Int32)), .val (.int c0), .val (.int c1), .val (.int c2), .val (.int o0), .val (.int o1), .val (.int o2), .val (.ref b5), .val (.ref b91), .val (.int (0 : Int32)), .unset]) G X99.here hx (hb hby at_210) rfl rfl
        replace G := own_iload (q := 214) G X99.here hx (hb hby at_212) rfl rfl
        have hc214_102 : (0 : Int32) = (0 : Int32) := by decide
        replace G := own_ifNo (q := 217) G X99.here hx (hb hby at_214) ((if0 _ _).trans (teq hc214_102).2) rfl
        replace G := own_iload (q := 219) G X99.here hx (hb hby at_217) rfl rfl
        replace G := own_iload (q := 221) G X99.here hx (hb hby at_219) rfl rfl
        have hc221_103 : ¬ ((0 : Int32) = (1 : Int32)) := by decide
        replace G := own_icmpYes (q := 267) G X99.here hx (hb hby at_221) (feq hc221_103).2 (by decide) (by decide)
        replace G := own_iconst (q := 268) G X99.here hx (hb hby at_267) (v := (0 : Int32)) (by decide) rfl
        replace G := own_istore (q := 270) (l' := #[.val (.int i0), .val (.int i1), .val (.int i2), .val (.int i3), .val (.int i4), .val (.int (1 : Int32)), .val (.int (0 : Int32)), .val (.int (0 : Int32)), .val (.int c0), .val (.int c1), .val (.int c2), .val (.int o0), .val (.int o1), .val (.int o2), .val (.ref b5), .val (.ref b91), .val (.int (0 : Int32)), .val (.int (0 : Int32))]) G X99.here hx (hb hby at_268) rfl rfl
        replace G := own_iload (q := 272) G X99.here hx (hb hby at_270) rfl rfl
        replace G := own_iload (q := 274) G X99.here hx (hb hby at_272) rfl rfl
        have hc274_104 : (0 : Int32) = (0 : Int32) := by decide
        replace G := own_icmpNo (q := 277) G X99.here hx (hb hby at_274) (teq hc274_104).2 rfl
        replace G := own_aload (q := 279) G X99.here hx (hb hby at_277) rfl rfl rfl
        obtain ⟨cq105, kq105, q105a, q105b, q105c⟩ := isOf hZ e99 F100
        obtain ⟨_, _, ⟨T105, L105, kk105, nn105⟩, -, X105, ⟨Lc105, hQ105, l105, y105, z105⟩, st105⟩ := X99.virtualBack hx (y := (⟨"com/example/leafcutter/leafcutter/io/TextBuffer", "length", "()I"⟩ : MethodName)) (z := (⟨"com/example/leafcutter/leafcutter/io/TextBuffer", "length", "()I"⟩ : MethodName)) hown (mvT hZ (hw _ (List.mem_of_getElem? (i := 29) rfl))) (mvT hZ (hw _ (List.mem_of_getElem? (i := 30) rfl))) (notFace_of_selects (args := #[]) (mvT hZ (hw _ (List.mem_of_getElem? (i := 32) rfl)))) (mvT hZ (hw _ (List.mem_of_getElem? (i := 32) rfl))) (mvT hZ (hw _ (List.mem_of_getElem? (i := 31) rfl))) (by decide) (backOf (W := 0) (rm5k1 l Z a0 hw [] b5 h91 n0 Z91 F101) hZ (hw _ (List.mem_of_getElem? (i := 33) rfl)) (hw _ (List.mem_of_getElem? (i := 2) rfl)) (by decide) (by decide)) q105a q105c (g := (mkF m 279 #[.val (.int i0), .val (.int i1), .val (.int i2), .val (.int i3), .val (.int i4), .val (.int (1 : Int32)), .val (.int (0 : Int32)), .val (.int (0 : Int32)), .val (.int c0), .val (.int c1), .val (.int c2), .val (.int o0), .val (.int o1), .val (.int o2), .val (.ref b5), .val (.ref b91), .val (.int (0 : Int32)), .val (.int (0 : Int32))] [(.ref b5)])) rfl (by rw [hml]; rfl) (Steps.refl _) (argsL := []) (rest := []) (lenOf pd_8 rfl) rfl (by show 2 * 0 + _ ≤ _; exact Nat.le_of_eq rfl) (hb hby at_279) (fun _ _ => ⟨rfl, e99, (by decide : 3 + 0 ≤ _), (by decide : 20 + 0 ≤ _)⟩)
        dsimp only [Pt.U, Pt.locs, Pt.cells, Pt.slots] at X105 l105 y105 z105 st105 hQ105
        subst l105 y105 z105
        obtain ⟨rfl, N105q, e105⟩ := hQ105
        have N105 := Fr.app N99 N105q
        replace G : Gets p e below _ (T105.setTop (mkF m 282 #[.val (.int i0), .val (.int i1), .val (.int i2), .val (.int i3), .val (.int i4), .val (.int (1 : Int32)), .val (.int (0 : Int32)), .val (.int (0 : Int32)), .val (.int c0), .val (.int c1), .val (.int c2), .val (.int o0), .val (.int o1), .val (.int o2), .val (.ref b5), .val (.ref b91), .val (.int (0 : Int32)), .val (.int (0 : Int32))] [(.int (1 : Int32))])) := fun t k => G t (st105.trans k)
        replace G := own_iload (q := 284) G X105.here hx (hb hby at_282) rfl rfl
        have hc284_106 : (1 : Int32) = (1 : Int32) := by decide
        replace G := own_icmpNo (q := 287) G X105.here hx (hb hby at_284) (teq hc284_106).2 rfl
        replace G := own_iconst (q := 288) G X105.here hx (hb hby at_287) (v := (1 : Int32)) (by decide) rfl
        replace G := own_goto (q := 292) G X105.here hx (hb hby at_288) (by decide) (by decide)
        obtain ⟨fs, hr, hrun, hended, hW, hsame⟩ := X105.leave (v := some (.int (1 : Int32))) (fun h => by rw [Bd.returns] at h; cases h)
        refine ⟨_, _, G _ (retOut X105 hx Bd.returns rfl (Or.inl ⟨rfl, Or.inr (Or.inl rfl), _, rfl⟩) (hb hby at_292) hr), hrun, hended, _, _, rfl, ?_, ⟨_, rfl⟩, hW, hsame.mono (by decide) (by decide)⟩
        show Q0 Z i0 i1 i2 i3 i4 sa ks h0 n0 _ T105.heap _
        rw [e105]
        exact ⟨rfl, N105⟩
      · replace G := own_iload (q := 164) G X83.here hx (hb hby at_162) rfl rfl
        obtain ⟨T107, h107, k107, X107, e107, E107, A107, st107⟩ := newP X83 hx hZ (hw _ (List.mem_of_getElem? (i := 21) rfl)) rfl (g := (mkF m 164 #[.val (.int i0), .val (.int i1), .val (.int i2), .val (.int i3), .val (.int i4), .val (.int (1 : Int32)), .val (.int (1 : Int32)), .val (.int (0 : Int32)), .val (.int c0), .val (.int c1), .val (.int c2), .val (.int o0), .val (.int o1), .val (.int o2), .val (.ref b5), .val .null, .unset, .unset] [(.int (1 : Int32))])) rfl (hb hby at_164) rfl (by decide) (cap := 1) (by decide) (by decide) (by decide) (by decide)
        obtain ⟨b107, g107⟩ : ∃ z, z = T83.heap.size := ⟨_, rfl⟩
        rw [← g107] at A107 st107
        have ne108 : b_83 ≠ b107 := Nat.ne_of_lt (Nat.lt_of_lt_of_le B83_5.lt (Nat.le_of_eq g107.symm))
        have ne109 : b5 ≠ b107 := Nat.ne_of_lt (Nat.lt_of_lt_of_le B83_3.lt (Nat.le_of_eq g107.symm))
        have F110 : Arv Z T83.heap sa ks .char (0 : Int32) [] (.int (0 : Int32)) := (F85.keep K83q (ninS ne6 nin0))
        have ne111 : sa ≠ b107 := Nat.ne_of_lt (Nat.lt_of_lt_of_le F110.lt (Nat.le_of_eq g107.symm))
        have ge_b107 : n0 ≤ b107 := Nat.le_trans Z83 (Nat.le_of_eq g107.symm)
        have Z107 : n0 ≤ h107.size := Nat.le_trans Z83 E107.1
        have V107 : Arv Z h107 b107 k107 .char (1 : Int32) [(.int (0 : Int32))] (.int (0 : Int32)) := (Arv.new A107 (by decide)).pad (pad_rep [] (.int (0 : Int32)) 1)
        replace G : Gets p e below _ (T107.setTop (mkF m 166 #[.val (.int i0), .val (.int i1), .val (.int i2), .val (.int i3), .val (.int i4), .val (.int (1 : Int32)), .val (.int (1 : Int32)), .val (.int (0 : Int32)), .val (.int c0), .val (.int c1), .val (.int c2), .val (.int o0), .val (.int o1), .val (.int o2), .val (.ref b5), .val .null, .unset, .unset] [(.ref b107)])) := fun t k => G t (st107 t k)
        replace G := own_astore (q := 168) (l' := #[.val (.int i0), .val (.int i1), .val (.int i2), .val (.int i3), .val (.int i4), .val (.int (1 : Int32)), .val (.int (1 : Int32)), .val (.int (0 : Int32)), .val (.int c0), .val (.int c1), .val (.int c2), .val (.int o0), .val (.int o1), .val (.int o2), .val (.ref b5), .val (.ref b107), .unset, .unset]) G X107.here hx (hb hby at_166) rfl rfl rfl
        replace G := own_iload (q := 170) G X107.here hx (hb hby at_168) rfl rfl
        have hc170_112 : (0 : Int32) < (1 : Int32) := by decide
        replace G := own_ifNo (q := 173) G X107.here hx (hb hby at_170) ((if0 _ _).trans (tlt hc170_112).2.2.2) rfl
        replace G := own_aload (q := 175) G X107.here hx (hb hby at_173) rfl rfl rfl
        replace G := own_iconst (q := 176) G X107.here hx (hb hby at_175) (v := (0 : Int32)) (by decide) rfl
        replace G := own_iload (q := 178) G X107.here hx (hb hby at_176) rfl rfl
        obtain ⟨c113, Ar113, q113, S113, N113', H113, G113'⟩ := id V107
        have hin113 : ¬ ((0 : Int32) < 0 ∨ c113.slots.size ≤ ((0 : Int32)).toNatClampNeg) := inb_of S113 ⟨by decide, by decide⟩
        obtain ⟨T113, h113, X113, e113, W113, st113⟩ := stC X107 hx hZ e107 Ar113 (j := (0 : Int32)) hin113 (g := (mkF m 178 #[.val (.int i0), .val (.int i1), .val (.int i2), .val (.int i3), .val (.int i4), .val (.int (1 : Int32)), .val (.int (1 : Int32)), .val (.int (0 : Int32)), .val (.int c0), .val (.int c1), .val (.int c2), .val (.int o0), .val (.int o1), .val (.int o2), .val (.ref b5), .val (.ref b107), .unset, .unset] [(.int o0), (.int (0 : Int32)), (.ref b107)])) rfl rfl (hb hby at_178)
        have N113 := Fr.snoc X113 N83 ge_b107
        have Z113 : n0 ≤ h113.size := Nat.le_trans Z107 (Keep.of_wr W113).1
        have V113 : Arv Z h113 b107 k107 .char (1 : Int32) [(.int (nar .char o0))] (.int (0 : Int32)) := Arv.set Ar113 q113 S113 N113' H113 G113' (fits_nar_char _) W113 0 rfl (Nat.le_of_ble_eq_true rfl)
        replace G : Gets p e below _ (T113.setTop (mkF m 179 #[.val (.int i0), .val (.int i1), .val (.int i2), .val (.int i3), .val (.int i4), .val (.int (1 : Int32)), .val (.int (1 : Int32)), .val (.int (0 : Int32)), .val (.int c0), .val (.int c1), .val (.int c2), .val (.int o0), .val (.int o1), .val (.int o2), .val (.ref b5), .val (.ref b107), .unset, .unset] [])) := fun t k => G t (st113 t k)
        replace G := own_iload (q := 181) G X113.here hx (hb hby at_179) rfl rfl
        replace G := own_iconst (q := 182) G X113.here hx (hb hby at_181) (v := (1 : Int32)) (by decide) rfl
        have hc182_114 : ¬ ((1 : Int32) < (1 : Int32)) := by decide
        replace G := own_icmpYes (q := 191) G X113.here hx (hb hby at_182) (flt hc182_114).2.2.2 (by decide) (by decide)
        replace G := own_iload (q := 193) G X113.here hx (hb hby at_191) rfl rfl
        replace G := own_iconst (q := 194) G X113.here hx (hb hby at_193) (v := (2 : Int32)) (by decide) rfl
        have hc194_115 : ¬ ((2 : Int32) < (1 : Int32)) := by decide
        replace G := own_icmpYes (q := 203) G X113.here hx (hb hby at_194) (flt hc194_115).2.2.2 (by decide) (by decide)
        replace G := own_aload (q := 205) G X113.here hx (hb hby at_203) rfl rfl rfl
        replace G := own_aload (q := 207) G X113.here hx (hb hby at_205) rfl rfl rfl
        have F117 : Exa Z h113 b5 "com/example/leafcutter/leafcutter/io/TextBuffer" := (((F84.keep K83q).ext E107).wr W113)
        have F118 : Fld Z h113 b5 "com/example/leafcutter/leafcutter/io/TextBuffer" "chars" "[C" (.ref b_83) := ((B83_0.ext E107).other W113 (Or.inl ne109))
        have F119 : Fld Z h113 b5 "com/example/leafcutter/leafcutter/io/TextBuffer" "length" "I" (.int (1 : Int32)) := ((B83_1.ext E107).other W113 (Or.inl ne109))
        have F120 : Arv Z h113 b_83 kb_83 .char (16 : Int32) [(.int (nar .char c0)), (.int (0 : Int32)), (.int (0 : Int32)), (.int (0 : Int32)), (.int (0 : Int32)), (.int (0 : Int32)), (.int (0 : Int32)), (.int (0 : Int32)), (.int (0 : Int32)), (.int (0 : Int32)), (.int (0 : Int32)), (.int (0 : Int32)), (.int (0 : Int32)), (.int (0 : Int32)), (.int (0 : Int32)), (.int (0 : Int32))] (.int (0 : Int32)) := ((B83_5.ext E107).other W113 ne108)
        obtain ⟨cq116, kq116, q116a, q116b, q116c⟩ := isOf hZ e113 F117
        obtain ⟨_, _, ⟨T116, L116, kk116, nn116⟩, -, X116, ⟨Lc116, hQ116, l116, y116, z116⟩, st116⟩ := X113.virtualBack hx (y := (⟨"com/example/leafcutter/leafcutter/io/TextBuffer", "contentEquals", "([C)Z"⟩ : MethodName)) (z := (⟨"com/example/leafcutter/leafcutter/io/TextBuffer", "contentEquals", "([C)Z"⟩ : MethodName)) hown (mvT hZ (hw _ (List.mem_of_getElem? (i := 22) rfl))) (mvT hZ (hw _ (List.mem_of_getElem? (i := 23) rfl))) (notFace_of_selects (args := #[]) (mvT hZ (hw _ (List.mem_of_getElem? (i := 25) rfl)))) (mvT hZ (hw _ (List.mem_of_getElem? (i := 25) rfl))) (mvT hZ (hw _ (List.mem_of_getElem? (i := 24) rfl))) (by decide) (backOf (W := 0) (rm4n1m1 l Z a0 hw [] b5 b107 b_83 kb_83 k107 (nar .char c0) (nar .char o0) h113 n0 Z113 F118 F119 F120 V113) hZ (hw _ (List.mem_of_getElem? (i := 26) rfl)) (hw _ (List.mem_of_getElem? (i := 2) rfl)) (by decide) (by decide)) q116a q116c (g := (mkF m 207 #[.val (.int i0), .val (.int i1), .val (.int i2), .val (.int i3), .val (.int i4), .val (.int (1 : Int32)), .val (.int (1 : Int32)), .val (.int (0 : Int32)), .val (.int c0), .val (.int c1), .val (.int c2), .val (.int o0), .val (.int o1), .val (.int o2), .val (.ref b5), .val (.ref b107), .unset, .unset] [(.ref b107), (.ref b5)])) rfl (by rw [hml]; rfl) (Steps.refl _) (argsL := [(.ref b107)]) (rest := []) (lenOf pd_7 rfl) rfl (by show 2 * 0 + _ ≤ _; exact Nat.le_of_eq rfl) (hb hby at_207) (fun _ _ => ⟨rfl, e113, (by decide : 3 + 0 ≤ _), (by decide : 21 + 0 ≤ _)⟩)
        dsimp only [Pt.U, Pt.locs, Pt.cells, Pt.slots] at X116 l116 y116 z116 st116 hQ116
        subst l116 y116 z116
        obtain ⟨rfl, N116q, e116⟩ := hQ116
        have N116 := Fr.app N113 N116q
        replace G : Gets p e below _ (T116.setTop (mkF m 210 #[.val (.int i0), .val (.int i1), .val (.int i2), .val (.int i3), .val (.int i4), .val (.int (1 : Int32)), .val (.int (1 : Int32)), .val (.int (0 : Int32)), .val (.int c0), .val (.int c1), .val (.int c2), .val (.int o0), .val (.int o1), .val (.int o2), .val (.ref b5), .val (.ref b107), .unset, .unset] [(.int (own_ce1 (nar .char c0) (nar .char o0)))])) := fun t k => G t (st116.trans k)
        replace G := own_istore (q := 212) (l' := #[.val (.int i0), .val (.int i1), .val (.int i2), .val (.int i3), .val (.int i4), .val (.int (1 : Int32)), .val (.int (1 : Int32)), .val (.int (0 : Int32)), .val (.int c0), .val (.int c1), .val (.int c2), .val (.int o0), .val (.int o1), .val (.int o2), .val (.ref b5), .val (.ref b107), .val (.int (own_ce1 (nar .char c0) (nar .char o0))), .unset]) G X116.here hx (hb hby at_210) rfl rfl
        replace G := own_iload (q := 214) G X116.here hx (hb hby at_212) rfl rfl
        have hc214_121 : (0 : Int32) = (0 : Int32) := by decide
        replace G := own_ifNo (q := 217) G X116.here hx (hb hby at_214) ((if0 _ _).trans (teq hc214_121).2) rfl
        replace G := own_iload (q := 219) G X116.here hx (hb hby at_217) rfl rfl
        replace G := own_iload (q := 221) G X116.here hx (hb hby at_219) rfl rfl
        have hc221_122 : (1 : Int32) = (1 : Int32) := by decide
        replace G := own_icmpNo (q := 224) G X116.here hx (hb hby at_221) (teq hc221_122).2 rfl
        replace G := own_iload (q := 226) G X116.here hx (hb hby at_224) rfl rfl
        replace G := own_iconst (q := 227) G X116.here hx (hb hby at_226) (v := (1 : Int32)) (by decide) rfl
        have hc227_123 : ¬ ((1 : Int32) < (1 : Int32)) := by decide
        replace G := own_icmpNo (q := 230) G X116.here hx (hb hby at_227) (flt hc227_123).1 rfl
        replace G := own_iload (q := 232) G X116.here hx (hb hby at_230) rfl rfl
        replace G := own_iload (q := 234) G X116.here hx (hb hby at_232) rfl rfl
        by_cases hc234_124 : o0 = c0
        · replace G := own_icmpNo (q := 237) G X116.here hx (hb hby at_234) (teq hc234_124).2 rfl
          replace G := own_iload (q := 239) G X116.here hx (hb hby at_237) rfl rfl
          replace G := own_iconst (q := 240) G X116.here hx (hb hby at_239) (v := (2 : Int32)) (by decide) rfl
          have hc240_125 : (1 : Int32) < (2 : Int32) := by decide
          replace G := own_icmpYes (q := 250) G X116.here hx (hb hby at_240) (tlt hc240_125).1 (by decide) (by decide)
          replace G := own_iload (q := 252) G X116.here hx (hb hby at_250) rfl rfl
          replace G := own_iconst (q := 253) G X116.here hx (hb hby at_252) (v := (3 : Int32)) (by decide) rfl
          have hc253_126 : (1 : Int32) < (3 : Int32) := by decide
          replace G := own_icmpYes (q := 263) G X116.here hx (hb hby at_253) (tlt hc253_126).1 (by decide) (by decide)
          replace G := own_iconst (q := 264) G X116.here hx (hb hby at_263) (v := (1 : Int32)) (by decide) rfl
          replace G := own_goto (q := 268) G X116.here hx (hb hby at_264) (by decide) (by decide)
          replace G := own_istore (q := 270) (l' := #[.val (.int i0), .val (.int i1), .val (.int i2), .val (.int i3), .val (.int i4), .val (.int (1 : Int32)), .val (.int (1 : Int32)), .val (.int (0 : Int32)), .val (.int c0), .val (.int c1), .val (.int c2), .val (.int o0), .val (.int o1), .val (.int o2), .val (.ref b5), .val (.ref b107), .val (.int (own_ce1 (nar .char c0) (nar .char o0))), .val (.int (1 : Int32))]) G X116.here hx (hb hby at_268) rfl rfl
          replace G := own_iload (q := 272) G X116.here hx (hb hby at_270) rfl rfl
          replace G := own_iload (q := 274) G X116.here hx (hb hby at_272) rfl rfl
          have hc274_127 : (own_ce1 (nar .char c0) (nar .char o0)) = (1 : Int32) := by rw [q0, r0]; simp [own_ce1, own_ce2, own_ce3, hc234_124]
          replace G := own_icmpNo (q := 277) G X116.here hx (hb hby at_274) (teq hc274_127).2 rfl
          replace G := own_aload (q := 279) G X116.here hx (hb hby at_277) rfl rfl rfl
          obtain ⟨cq128, kq128, q128a, q128b, q128c⟩ := isOf hZ e116 F117
          obtain ⟨_, _, ⟨T128, L128, kk128, nn128⟩, -, X128, ⟨Lc128, hQ128, l128, y128, z128⟩, st128⟩ := X116.virtualBack hx (y := (⟨"com/example/leafcutter/leafcutter/io/TextBuffer", "length", "()I"⟩ : MethodName)) (z := (⟨"com/example/leafcutter/leafcutter/io/TextBuffer", "length", "()I"⟩ : MethodName)) hown (mvT hZ (hw _ (List.mem_of_getElem? (i := 29) rfl))) (mvT hZ (hw _ (List.mem_of_getElem? (i := 30) rfl))) (notFace_of_selects (args := #[]) (mvT hZ (hw _ (List.mem_of_getElem? (i := 32) rfl)))) (mvT hZ (hw _ (List.mem_of_getElem? (i := 32) rfl))) (mvT hZ (hw _ (List.mem_of_getElem? (i := 31) rfl))) (by decide) (backOf (W := 0) (rm5k1 l Z a0 hw [] b5 h113 n0 Z113 F119) hZ (hw _ (List.mem_of_getElem? (i := 33) rfl)) (hw _ (List.mem_of_getElem? (i := 2) rfl)) (by decide) (by decide)) q128a q128c (g := (mkF m 279 #[.val (.int i0), .val (.int i1), .val (.int i2), .val (.int i3), .val (.int i4), .val (.int (1 : Int32)), .val (.int (1 : Int32)), .val (.int (0 : Int32)), .val (.int c0), .val (.int c1), .val (.int c2), .val (.int o0), .val (.int o1), .val (.int o2), .val (.ref b5), .val (.ref b107), .val (.int (own_ce1 (nar .char c0) (nar .char o0))), .val (.int (1 : Int32))] [(.ref b5)])) rfl (by rw [hml]; rfl) (Steps.refl _) (argsL := []) (rest := []) (lenOf pd_8 rfl) rfl (by show 2 * 0 + _ ≤ _; exact Nat.le_of_eq rfl) (hb hby at_279) (fun _ _ => ⟨rfl, e116, (by decide : 3 + 0 ≤ _), (by decide : 21 + 0 ≤ _)⟩)
          dsimp only [Pt.U, Pt.locs, Pt.cells, Pt.slots] at X128 l128 y128 z128 st128 hQ128
          subst l128 y128 z128
          obtain ⟨rfl, N128q, e128⟩ := hQ128
          have N128 := Fr.app N116 N128q
          replace G : Gets p e below _ (T128.setTop (mkF m 282 #[.val (.int i0), .val (.int i1), .val (.int i2), .val (.int i3), .val (.int i4), .val (.int (1 : Int32)), .val (.int (1 : Int32)), .val (.int (0 : Int32)), .val (.int c0), .val (.int c1), .val (.int c2), .val (.int o0), .val (.int o1), .val (.int o2), .val (.ref b5), .val (.ref b107), .val (.int (own_ce1 (nar .char c0) (nar .char o0))), .val (.int (1 : Int32))] [(.int (1 : Int32))])) := fun t k => G t (st128.trans k)
          replace G := own_iload (q := 284) G X128.here hx (hb hby at_282) rfl rfl
          have hc284_129 : (1 : Int32) = (1 : Int32) := by decide
          replace G := own_icmpNo (q := 287) G X128.here hx (hb hby at_284) (teq hc284_129).2 rfl
          replace G := own_iconst (q := 288) G X128.here hx (hb hby at_287) (v := (1 : Int32)) (by decide) rfl
          replace G := own_goto (q := 292) G X128.here hx (hb hby at_288) (by decide) (by decide)
          obtain ⟨fs, hr, hrun, hended, hW, hsame⟩ := X128.leave (v := some (.int (1 : Int32))) (fun h => by rw [Bd.returns] at h; cases h)
          refine ⟨_, _, G _ (retOut X128 hx Bd.returns rfl (Or.inl ⟨rfl, Or.inr (Or.inl rfl), _, rfl⟩) (hb hby at_292) hr), hrun, hended, _, _, rfl, ?_, ⟨_, rfl⟩, hW, hsame.mono (by decide) (by decide)⟩
          show Q0 Z i0 i1 i2 i3 i4 sa ks h0 n0 _ T128.heap _
          rw [e128]
          exact ⟨rfl, N128⟩
        · replace G := own_icmpYes (q := 267) G X116.here hx (hb hby at_234) (feq hc234_124).2 (by decide) (by decide)
          replace G := own_iconst (q := 268) G X116.here hx (hb hby at_267) (v := (0 : Int32)) (by decide) rfl
          replace G := own_istore (q := 270) (l' := #[.val (.int i0), .val (.int i1), .val (.int i2), .val (.int i3), .val (.int i4), .val (.int (1 : Int32)), .val (.int (1 : Int32)), .val (.int (0 : Int32)), .val (.int c0), .val (.int c1), .val (.int c2), .val (.int o0), .val (.int o1), .val (.int o2), .val (.ref b5), .val (.ref b107), .val (.int (own_ce1 (nar .char c0) (nar .char o0))), .val (.int (0 : Int32))]) G X116.here hx (hb hby at_268) rfl rfl
          replace G := own_iload (q := 272) G X116.here hx (hb hby at_270) rfl rfl
          replace G := own_iload (q := 274) G X116.here hx (hb hby at_272) rfl rfl
          have hc274_130 : (own_ce1 (nar .char c0) (nar .char o0)) = (0 : Int32) := by rw [q0, r0]; simp [own_ce1, own_ce2, own_ce3, (Ne.symm hc234_124)]
          replace G := own_icmpNo (q := 277) G X116.here hx (hb hby at_274) (teq hc274_130).2 rfl
          replace G := own_aload (q := 279) G X116.here hx (hb hby at_277) rfl rfl rfl
          obtain ⟨cq131, kq131, q131a, q131b, q131c⟩ := isOf hZ e116 F117
          obtain ⟨_, _, ⟨T131, L131, kk131, nn131⟩, -, X131, ⟨Lc131, hQ131, l131, y131, z131⟩, st131⟩ := X116.virtualBack hx (y := (⟨"com/example/leafcutter/leafcutter/io/TextBuffer", "length", "()I"⟩ : MethodName)) (z := (⟨"com/example/leafcutter/leafcutter/io/TextBuffer", "length", "()I"⟩ : MethodName)) hown (mvT hZ (hw _ (List.mem_of_getElem? (i := 29) rfl))) (mvT hZ (hw _ (List.mem_of_getElem? (i := 30) rfl))) (notFace_of_selects (args := #[]) (mvT hZ (hw _ (List.mem_of_getElem? (i := 32) rfl)))) (mvT hZ (hw _ (List.mem_of_getElem? (i := 32) rfl))) (mvT hZ (hw _ (List.mem_of_getElem? (i := 31) rfl))) (by decide) (backOf (W := 0) (rm5k1 l Z a0 hw [] b5 h113 n0 Z113 F119) hZ (hw _ (List.mem_of_getElem? (i := 33) rfl)) (hw _ (List.mem_of_getElem? (i := 2) rfl)) (by decide) (by decide)) q131a q131c (g := (mkF m 279 #[.val (.int i0), .val (.int i1), .val (.int i2), .val (.int i3), .val (.int i4), .val (.int (1 : Int32)), .val (.int (1 : Int32)), .val (.int (0 : Int32)), .val (.int c0), .val (.int c1), .val (.int c2), .val (.int o0), .val (.int o1), .val (.int o2), .val (.ref b5), .val (.ref b107), .val (.int (own_ce1 (nar .char c0) (nar .char o0))), .val (.int (0 : Int32))] [(.ref b5)])) rfl (by rw [hml]; rfl) (Steps.refl _) (argsL := []) (rest := []) (lenOf pd_8 rfl) rfl (by show 2 * 0 + _ ≤ _; exact Nat.le_of_eq rfl) (hb hby at_279) (fun _ _ => ⟨rfl, e116, (by decide : 3 + 0 ≤ _), (by decide : 21 + 0 ≤ _)⟩)
          dsimp only [Pt.U, Pt.locs, Pt.cells, Pt.slots] at X131 l131 y131 z131 st131 hQ131
          subst l131 y131 z131
          obtain ⟨rfl, N131q, e131⟩ := hQ131
          have N131 := Fr.app N116 N131q
          replace G : Gets p e below _ (T131.setTop (mkF m 282 #[.val (.int i0), .val (.int i1), .val (.int i2), .val (.int i3), .val (.int i4), .val (.int (1 : Int32)), .val (.int (1 : Int32)), .val (.int (0 : Int32)), .val (.int c0), .val (.int c1), .val (.int c2), .val (.int o0), .val (.int o1), .val (.int o2), .val (.ref b5), .val (.ref b107), .val (.int (own_ce1 (nar .char c0) (nar .char o0))), .val (.int (0 : Int32))] [(.int (1 : Int32))])) := fun t k => G t (st131.trans k)
          replace G := own_iload (q := 284) G X131.here hx (hb hby at_282) rfl rfl
          have hc284_132 : (1 : Int32) = (1 : Int32) := by decide
          replace G := own_icmpNo (q := 287) G X131.here hx (hb hby at_284) (teq hc284_132).2 rfl
          replace G := own_iconst (q := 288) G X131.here hx (hb hby at_287) (v := (1 : Int32)) (by decide) rfl
          replace G := own_goto (q := 292) G X131.here hx (hb hby at_288) (by decide) (by decide)
          obtain ⟨fs, hr, hrun, hended, hW, hsame⟩ := X131.leave (v := some (.int (1 : Int32))) (fun h => by rw [Bd.returns] at h; cases h)
          refine ⟨_, _, G _ (retOut X131 hx Bd.returns rfl (Or.inl ⟨rfl, Or.inr (Or.inl rfl), _, rfl⟩) (hb hby at_292) hr), hrun, hended, _, _, rfl, ?_, ⟨_, rfl⟩, hW, hsame.mono (by decide) (by decide)⟩
          show Q0 Z i0 i1 i2 i3 i4 sa ks h0 n0 _ T131.heap _
          rw [e131]
          exact ⟨rfl, N131⟩
      · replace G := own_iload (q := 164) G X83.here hx (hb hby at_162) rfl rfl
        obtain ⟨T133, h133, k133, X133, e133, E133, A133, st133⟩ := newP X83 hx hZ (hw _ (List.mem_of_getElem? (i := 21) rfl)) rfl (g := (mkF m 164 #[.val (.int i0), .val (.int i1), .val (.int i2), .val (.int i3), .val (.int i4), .val (.int (1 : Int32)), .val (.int (2 : Int32)), .val (.int (0 : Int32)), .val (.int c0), .val (.int c1), .val (.int c2), .val (.int o0), .val (.int o1), .val (.int o2), .val (.ref b5), .val .null, .unset, .unset] [(.int (2 : Int32))])) rfl (hb hby at_164) rfl (by decide) (cap := 2) (by decide) (by decide) (by decide) (by decide)
        obtain ⟨b133, g133⟩ : ∃ z, z = T83.heap.size := ⟨_, rfl⟩
        rw [← g133] at A133 st133
        have ne134 : b_83 ≠ b133 := Nat.ne_of_lt (Nat.lt_of_lt_of_le B83_5.lt (Nat.le_of_eq g133.symm))
        have ne135 : b5 ≠ b133 := Nat.ne_of_lt (Nat.lt_of_lt_of_le B83_3.lt (Nat.le_of_eq g133.symm))
        have F136 : Arv Z T83.heap sa ks .char (0 : Int32) [] (.int (0 : Int32)) := (F85.keep K83q (ninS ne6 nin0))
        have ne137 : sa ≠ b133 := Nat.ne_of_lt (Nat.lt_of_lt_of_le F136.lt (Nat.le_of_eq g133.symm))
        have ge_b133 : n0 ≤ b133 := Nat.le_trans Z83 (Nat.le_of_eq g133.symm)
        have Z133 : n0 ≤ h133.size := Nat.le_trans Z83 E133.1
        have V133 : Arv Z h133 b133 k133 .char (2 : Int32) [(.int (0 : Int32)), (.int (0 : Int32))] (.int (0 : Int32)) := (Arv.new A133 (by decide)).pad (pad_rep [] (.int (0 : Int32)) 2)
        replace G : Gets p e below _ (T133.setTop (mkF m 166 #[.val (.int i0), .val (.int i1), .val (.int i2), .val (.int i3), .val (.int i4), .val (.int (1 : Int32)), .val (.int (2 : Int32)), .val (.int (0 : Int32)), .val (.int c0), .val (.int c1), .val (.int c2), .val (.int o0), .val (.int o1), .val (.int o2), .val (.ref b5), .val .null, .unset, .unset] [(.ref b133)])) := fun t k => G t (st133 t k)
        replace G := own_astore (q := 168) (l' := #[.val (.int i0), .val (.int i1), .val (.int i2), .val (.int i3), .val (.int i4), .val (.int (1 : Int32)), .val (.int (2 : Int32)), .val (.int (0 : Int32)), .val (.int c0), .val (.int c1), .val (.int c2), .val (.int o0), .val (.int o1), .val (.int o2), .val (.ref b5), .val (.ref b133), .unset, .unset]) G X133.here hx (hb hby at_166) rfl rfl rfl
        replace G := own_iload (q := 170) G X133.here hx (hb hby at_168) rfl rfl
        have hc170_138 : (0 : Int32) < (2 : Int32) := by decide
        replace G := own_ifNo (q := 173) G X133.here hx (hb hby at_170) ((if0 _ _).trans (tlt hc170_138).2.2.2) rfl
        replace G := own_aload (q := 175) G X133.here hx (hb hby at_173) rfl rfl rfl
        replace G := own_iconst (q := 176) G X133.here hx (hb hby at_175) (v := (0 : Int32)) (by decide) rfl
        replace G := own_iload (q := 178) G X133.here hx (hb hby at_176) rfl rfl
        obtain ⟨c139, Ar139, q139, S139, N139', H139, G139'⟩ := id V133
        have hin139 : ¬ ((0 : Int32) < 0 ∨ c139.slots.size ≤ ((0 : Int32)).toNatClampNeg) := inb_of S139 ⟨by decide, by decide⟩
        obtain ⟨T139, h139, X139, e139, W139, st139⟩ := stC X133 hx hZ e133 Ar139 (j := (0 : Int32)) hin139 (g := (mkF m 178 #[.val (.int i0), .val (.int i1), .val (.int i2), .val (.int i3), .val (.int i4), .val (.int (1 : Int32)), .val (.int (2 : Int32)), .val (.int (0 : Int32)), .val (.int c0), .val (.int c1), .val (.int c2), .val (.int o0), .val (.int o1), .val (.int o2), .val (.ref b5), .val (.ref b133), .unset, .unset] [(.int o0), (.int (0 : Int32)), (.ref b133)])) rfl rfl (hb hby at_178)
        have N139 := Fr.snoc X139 N83 ge_b133
        have Z139 : n0 ≤ h139.size := Nat.le_trans Z133 (Keep.of_wr W139).1
        have V139 : Arv Z h139 b133 k133 .char (2 : Int32) [(.int (nar .char o0)), (.int (0 : Int32))] (.int (0 : Int32)) := Arv.set Ar139 q139 S139 N139' H139 G139' (fits_nar_char _) W139 0 rfl (Nat.le_of_ble_eq_true rfl)
        replace G : Gets p e below _ (T139.setTop (mkF m 179 #[.val (.int i0), .val (.int i1), .val (.int i2), .val (.int i3), .val (.int i4), .val (.int (1 : Int32)), .val (.int (2 : Int32)), .val (.int (0 : Int32)), .val (.int c0), .val (.int c1), .val (.int c2), .val (.int o0), .val (.int o1), .val (.int o2), .val (.ref b5), .val (.ref b133), .unset, .unset] [])) := fun t k => G t (st139 t k)
        replace G := own_iload (q := 181) G X139.here hx (hb hby at_179) rfl rfl
        replace G := own_iconst (q := 182) G X139.here hx (hb hby at_181) (v := (1 : Int32)) (by decide) rfl
        have hc182_140 : (1 : Int32) < (2 : Int32) := by decide
        replace G := own_icmpNo (q := 185) G X139.here hx (hb hby at_182) (tlt hc182_140).2.2.2 rfl
        replace G := own_aload (q := 187) G X139.here hx (hb hby at_185) rfl rfl rfl
        replace G := own_iconst (q := 188) G X139.here hx (hb hby at_187) (v := (1 : Int32)) (by decide) rfl
        replace G := own_iload (q := 190) G X139.here hx (hb hby at_188) rfl rfl
        obtain ⟨c141, Ar141, q141, S141, N141', H141, G141'⟩ := id V139
        have hin141 : ¬ ((1 : Int32) < 0 ∨ c141.slots.size ≤ ((1 : Int32)).toNatClampNeg) := inb_of S141 ⟨by decide, by decide⟩
        obtain ⟨T141, h141, X141, e141, W141, st141⟩ := stC X139 hx hZ e139 Ar141 (j := (1 : Int32)) hin141 (g := (mkF m 190 #[.val (.int i0), .val (.int i1), .val (.int i2), .val (.int i3), .val (.int i4), .val (.int (1 : Int32)), .val (.int (2 : Int32)), .val (.int (0 : Int32)), .val (.int c0), .val (.int c1), .val (.int c2), .val (.int o0), .val (.int o1), .val (.int o2), .val (.ref b5), .val (.ref b133), .unset, .unset] [(.int o1), (.int (1 : Int32)), (.ref b133)])) rfl rfl (hb hby at_190)
        have N141 := Fr.snoc X141 N139 ge_b133
        have Z141 : n0 ≤ h141.size := Nat.le_trans Z139 (Keep.of_wr W141).1
        have V141 : Arv Z h141 b133 k133 .char (2 : Int32) [(.int (nar .char o0)), (.int (nar .char o1))] (.int (0 : Int32)) := Arv.set Ar141 q141 S141 N141' H141 G141' (fits_nar_char _) W141 1 rfl (Nat.le_of_ble_eq_true rfl)
        replace G : Gets p e below _ (T141.setTop (mkF m 191 #[.val (.int i0), .val (.int i1), .val (.int i2), .val (.int i3), .val (.int i4), .val (.int (1 : Int32)), .val (.int (2 : Int32)), .val (.int (0 : Int32)), .val (.int c0), .val (.int c1), .val (.int c2), .val (.int o0), .val (.int o1), .val (.int o2), .val (.ref b5), .val (.ref b133), .unset, .unset] [])) := fun t k => G t (st141 t k)
        replace G := own_iload (q := 193) G X141.here hx (hb hby at_191) rfl rfl
        replace G := own_iconst (q := 194) G X141.here hx (hb hby at_193) (v := (2 : Int32)) (by decide) rfl
        have hc194_142 : ¬ ((2 : Int32) < (2 : Int32)) := by decide
        replace G := own_icmpYes (q := 203) G X141.here hx (hb hby at_194) (flt hc194_142).2.2.2 (by decide) (by decide)
        replace G := own_aload (q := 205) G X141.here hx (hb hby at_203) rfl rfl rfl
        replace G := own_aload (q := 207) G X141.here hx (hb hby at_205) rfl rfl rfl
        have F144 : Exa Z h141 b5 "com/example/leafcutter/leafcutter/io/TextBuffer" := ((((F84.keep K83q).ext E133).wr W139).wr W141)
        have F145 : Fld Z h141 b5 "com/example/leafcutter/leafcutter/io/TextBuffer" "length" "I" (.int (1 : Int32)) := (((B83_1.ext E133).other W139 (Or.inl ne135)).other W141 (Or.inl ne135))
        obtain ⟨cq143, kq143, q143a, q143b, q143c⟩ := isOf hZ e141 F144
        obtain ⟨_, _, ⟨T143, L143, kk143, nn143⟩, -, X143, ⟨Lc143, hQ143, l143, y143, z143⟩, st143⟩ := X141.virtualBack hx (y := (⟨"com/example/leafcutter/leafcutter/io/TextBuffer", "contentEquals", "([C)Z"⟩ : MethodName)) (z := (⟨"com/example/leafcutter/leafcutter/io/TextBuffer", "contentEquals", "([C)Z"⟩ : MethodName)) hown (mvT hZ (hw _ (List.mem_of_getElem? (i := 22) rfl))) (mvT hZ (hw _ (List.mem_of_getElem? (i := 23) rfl))) (notFace_of_selects (args := #[]) (mvT hZ (hw _ (List.mem_of_getElem? (i := 25) rfl)))) (mvT hZ (hw _ (List.mem_of_getElem? (i := 25) rfl))) (mvT hZ (hw _ (List.mem_of_getElem? (i := 24) rfl))) (by decide) (backOf (W := 0) (rm4n1m2 l Z a0 hw [] b5 b133 k133 (nar .char o0) (nar .char o1) h141 n0 Z141 F145 V141) hZ (hw _ (List.mem_of_getElem? (i := 26) rfl)) (hw _ (List.mem_of_getElem? (i := 2) rfl)) (by decide) (by decide)) q143a q143c (g := (mkF m 207 #[.val (.int i0), .val (.int i1), .val (.int i2), .val (.int i3), .val (.int i4), .val (.int (1 : Int32)), .val (.int (2 : Int32)), .val (.int (0 : Int32)), .val (.int c0), .val (.int c1), .val (.int c2), .val (.int o0), .val (.int o1), .val (.int o2), .val (.ref b5), .val (.ref b133), .unset, .unset] [(.ref b133), (.ref b5)])) rfl (by rw [hml]; rfl) (Steps.refl _) (argsL := [(.ref b133)]) (rest := []) (lenOf pd_7 rfl) rfl (by show 2 * 0 + _ ≤ _; exact Nat.le_of_eq rfl) (hb hby at_207) (fun _ _ => ⟨rfl, e141, (by decide : 3 + 0 ≤ _), (by decide : 22 + 0 ≤ _)⟩)
        dsimp only [Pt.U, Pt.locs, Pt.cells, Pt.slots] at X143 l143 y143 z143 st143 hQ143
        subst l143 y143 z143
        obtain ⟨rfl, N143q, e143⟩ := hQ143
        have N143 := Fr.app N141 N143q
        replace G : Gets p e below _ (T143.setTop (mkF m 210 #[.val (.int i0), .val (.int i1), .val (.int i2), .val (.int i3), .val (.int i4), .val (.int (1 : Int32)), .val (.int (2 : Int32)), .val (.int (0 : Int32)), .val (.int c0), .val (.int c1), .val (.int c2), .val (.int o0), .val (.int o1), .val (.int o2), .val (.ref b5), .val (.ref b133), .unset, .unset] [(.int (0 : Int32))])) := fun t k => G t (st143.trans k)
        replace G := own_istore (q := 212) (l' := #[.val (.int i0), .val (.int i1), .val (.int i2), .val (.int i3), .val (.int i4), .val (.int (1 : Int32)), .val (.int (2 : Int32)), .val (.int (0 : Int32)), .val (.int c0), .val (.int c1), .val (.int c2), .val (.int o0), .val (.int o1), .val (.int o2), .val (.ref b5), .val (.ref b133), .val (.int (0 : Int32)), .unset]) G X143.here hx (hb hby at_210) rfl rfl
        replace G := own_iload (q := 214) G X143.here hx (hb hby at_212) rfl rfl
        have hc214_146 : (0 : Int32) = (0 : Int32) := by decide
        replace G := own_ifNo (q := 217) G X143.here hx (hb hby at_214) ((if0 _ _).trans (teq hc214_146).2) rfl
        replace G := own_iload (q := 219) G X143.here hx (hb hby at_217) rfl rfl
        replace G := own_iload (q := 221) G X143.here hx (hb hby at_219) rfl rfl
        have hc221_147 : ¬ ((2 : Int32) = (1 : Int32)) := by decide
        replace G := own_icmpYes (q := 267) G X143.here hx (hb hby at_221) (feq hc221_147).2 (by decide) (by decide)
        replace G := own_iconst (q := 268) G X143.here hx (hb hby at_267) (v := (0 : Int32)) (by decide) rfl
        replace G := own_istore (q := 270) (l' := #[.val (.int i0), .val (.int i1), .val (.int i2), .val (.int i3), .val (.int i4), .val (.int (1 : Int32)), .val (.int (2 : Int32)), .val (.int (0 : Int32)), .val (.int c0), .val (.int c1), .val (.int c2), .val (.int o0), .val (.int o1), .val (.int o2), .val (.ref b5), .val (.ref b133), .val (.int (0 : Int32)), .val (.int (0 : Int32))]) G X143.here hx (hb hby at_268) rfl rfl
        replace G := own_iload (q := 272) G X143.here hx (hb hby at_270) rfl rfl
        replace G := own_iload (q := 274) G X143.here hx (hb hby at_272) rfl rfl
        have hc274_148 : (0 : Int32) = (0 : Int32) := by decide
        replace G := own_icmpNo (q := 277) G X143.here hx (hb hby at_274) (teq hc274_148).2 rfl
        replace G := own_aload (q := 279) G X143.here hx (hb hby at_277) rfl rfl rfl
        obtain ⟨cq149, kq149, q149a, q149b, q149c⟩ := isOf hZ e143 F144
        obtain ⟨_, _, ⟨T149, L149, kk149, nn149⟩, -, X149, ⟨Lc149, hQ149, l149, y149, z149⟩, st149⟩ := X143.virtualBack hx (y := (⟨"com/example/leafcutter/leafcutter/io/TextBuffer", "length", "()I"⟩ : MethodName)) (z := (⟨"com/example/leafcutter/leafcutter/io/TextBuffer", "length", "()I"⟩ : MethodName)) hown (mvT hZ (hw _ (List.mem_of_getElem? (i := 29) rfl))) (mvT hZ (hw _ (List.mem_of_getElem? (i := 30) rfl))) (notFace_of_selects (args := #[]) (mvT hZ (hw _ (List.mem_of_getElem? (i := 32) rfl)))) (mvT hZ (hw _ (List.mem_of_getElem? (i := 32) rfl))) (mvT hZ (hw _ (List.mem_of_getElem? (i := 31) rfl))) (by decide) (backOf (W := 0) (rm5k1 l Z a0 hw [] b5 h141 n0 Z141 F145) hZ (hw _ (List.mem_of_getElem? (i := 33) rfl)) (hw _ (List.mem_of_getElem? (i := 2) rfl)) (by decide) (by decide)) q149a q149c (g := (mkF m 279 #[.val (.int i0), .val (.int i1), .val (.int i2), .val (.int i3), .val (.int i4), .val (.int (1 : Int32)), .val (.int (2 : Int32)), .val (.int (0 : Int32)), .val (.int c0), .val (.int c1), .val (.int c2), .val (.int o0), .val (.int o1), .val (.int o2), .val (.ref b5), .val (.ref b133), .val (.int (0 : Int32)), .val (.int (0 : Int32))] [(.ref b5)])) rfl (by rw [hml]; rfl) (Steps.refl _) (argsL := []) (rest := []) (lenOf pd_8 rfl) rfl (by show 2 * 0 + _ ≤ _; exact Nat.le_of_eq rfl) (hb hby at_279) (fun _ _ => ⟨rfl, e143, (by decide : 3 + 0 ≤ _), (by decide : 22 + 0 ≤ _)⟩)
        dsimp only [Pt.U, Pt.locs, Pt.cells, Pt.slots] at X149 l149 y149 z149 st149 hQ149
        subst l149 y149 z149
        obtain ⟨rfl, N149q, e149⟩ := hQ149
        have N149 := Fr.app N143 N149q
        replace G : Gets p e below _ (T149.setTop (mkF m 282 #[.val (.int i0), .val (.int i1), .val (.int i2), .val (.int i3), .val (.int i4), .val (.int (1 : Int32)), .val (.int (2 : Int32)), .val (.int (0 : Int32)), .val (.int c0), .val (.int c1), .val (.int c2), .val (.int o0), .val (.int o1), .val (.int o2), .val (.ref b5), .val (.ref b133), .val (.int (0 : Int32)), .val (.int (0 : Int32))] [(.int (1 : Int32))])) := fun t k => G t (st149.trans k)
        replace G := own_iload (q := 284) G X149.here hx (hb hby at_282) rfl rfl
        have hc284_150 : (1 : Int32) = (1 : Int32) := by decide
        replace G := own_icmpNo (q := 287) G X149.here hx (hb hby at_284) (teq hc284_150).2 rfl
        replace G := own_iconst (q := 288) G X149.here hx (hb hby at_287) (v := (1 : Int32)) (by decide) rfl
        replace G := own_goto (q := 292) G X149.here hx (hb hby at_288) (by decide) (by decide)
        obtain ⟨fs, hr, hrun, hended, hW, hsame⟩ := X149.leave (v := some (.int (1 : Int32))) (fun h => by rw [Bd.returns] at h; cases h)
        refine ⟨_, _, G _ (retOut X149 hx Bd.returns rfl (Or.inl ⟨rfl, Or.inr (Or.inl rfl), _, rfl⟩) (hb hby at_292) hr), hrun, hended, _, _, rfl, ?_, ⟨_, rfl⟩, hW, hsame.mono (by decide) (by decide)⟩
        show Q0 Z i0 i1 i2 i3 i4 sa ks h0 n0 _ T149.heap _
        rw [e149]
        exact ⟨rfl, N149⟩
      · replace G := own_iload (q := 164) G X83.here hx (hb hby at_162) rfl rfl
        obtain ⟨T151, h151, k151, X151, e151, E151, A151, st151⟩ := newP X83 hx hZ (hw _ (List.mem_of_getElem? (i := 21) rfl)) rfl (g := (mkF m 164 #[.val (.int i0), .val (.int i1), .val (.int i2), .val (.int i3), .val (.int i4), .val (.int (1 : Int32)), .val (.int (3 : Int32)), .val (.int (0 : Int32)), .val (.int c0), .val (.int c1), .val (.int c2), .val (.int o0), .val (.int o1), .val (.int o2), .val (.ref b5), .val .null, .unset, .unset] [(.int (3 : Int32))])) rfl (hb hby at_164) rfl (by decide) (cap := 3) (by decide) (by decide) (by decide) (by decide)
        obtain ⟨b151, g151⟩ : ∃ z, z = T83.heap.size := ⟨_, rfl⟩
        rw [← g151] at A151 st151
        have ne152 : b_83 ≠ b151 := Nat.ne_of_lt (Nat.lt_of_lt_of_le B83_5.lt (Nat.le_of_eq g151.symm))
        have ne153 : b5 ≠ b151 := Nat.ne_of_lt (Nat.lt_of_lt_of_le B83_3.lt (Nat.le_of_eq g151.symm))
        have F154 : Arv Z T83.heap sa ks .char (0 : Int32) [] (.int (0 : Int32)) := (F85.keep K83q (ninS ne6 nin0))
        have ne155 : sa ≠ b151 := Nat.ne_of_lt (Nat.lt_of_lt_of_le F154.lt (Nat.le_of_eq g151.symm))
        have ge_b151 : n0 ≤ b151 := Nat.le_trans Z83 (Nat.le_of_eq g151.symm)
        have Z151 : n0 ≤ h151.size := Nat.le_trans Z83 E151.1
        have V151 : Arv Z h151 b151 k151 .char (3 : Int32) [(.int (0 : Int32)), (.int (0 : Int32)), (.int (0 : Int32))] (.int (0 : Int32)) := (Arv.new A151 (by decide)).pad (pad_rep [] (.int (0 : Int32)) 3)
        replace G : Gets p e below _ (T151.setTop (mkF m 166 #[.val (.int i0), .val (.int i1), .val (.int i2), .val (.int i3), .val (.int i4), .val (.int (1 : Int32)), .val (.int (3 : Int32)), .val (.int (0 : Int32)), .val (.int c0), .val (.int c1), .val (.int c2), .val (.int o0), .val (.int o1), .val (.int o2), .val (.ref b5), .val .null, .unset, .unset] [(.ref b151)])) := fun t k => G t (st151 t k)
        replace G := own_astore (q := 168) (l' := #[.val (.int i0), .val (.int i1), .val (.int i2), .val (.int i3), .val (.int i4), .val (.int (1 : Int32)), .val (.int (3 : Int32)), .val (.int (0 : Int32)), .val (.int c0), .val (.int c1), .val (.int c2), .val (.int o0), .val (.int o1), .val (.int o2), .val (.ref b5), .val (.ref b151), .unset, .unset]) G X151.here hx (hb hby at_166) rfl rfl rfl
        replace G := own_iload (q := 170) G X151.here hx (hb hby at_168) rfl rfl
        have hc170_156 : (0 : Int32) < (3 : Int32) := by decide
        replace G := own_ifNo (q := 173) G X151.here hx (hb hby at_170) ((if0 _ _).trans (tlt hc170_156).2.2.2) rfl
        replace G := own_aload (q := 175) G X151.here hx (hb hby at_173) rfl rfl rfl
        replace G := own_iconst (q := 176) G X151.here hx (hb hby at_175) (v := (0 : Int32)) (by decide) rfl
        replace G := own_iload (q := 178) G X151.here hx (hb hby at_176) rfl rfl
        obtain ⟨c157, Ar157, q157, S157, N157', H157, G157'⟩ := id V151
        have hin157 : ¬ ((0 : Int32) < 0 ∨ c157.slots.size ≤ ((0 : Int32)).toNatClampNeg) := inb_of S157 ⟨by decide, by decide⟩
        obtain ⟨T157, h157, X157, e157, W157, st157⟩ := stC X151 hx hZ e151 Ar157 (j := (0 : Int32)) hin157 (g := (mkF m 178 #[.val (.int i0), .val (.int i1), .val (.int i2), .val (.int i3), .val (.int i4), .val (.int (1 : Int32)), .val (.int (3 : Int32)), .val (.int (0 : Int32)), .val (.int c0), .val (.int c1), .val (.int c2), .val (.int o0), .val (.int o1), .val (.int o2), .val (.ref b5), .val (.ref b151), .unset, .unset] [(.int o0), (.int (0 : Int32)), (.ref b151)])) rfl rfl (hb hby at_178)
        have N157 := Fr.snoc X157 N83 ge_b151
        have Z157 : n0 ≤ h157.size := Nat.le_trans Z151 (Keep.of_wr W157).1
        have V157 : Arv Z h157 b151 k151 .char (3 : Int32) [(.int (nar .char o0)), (.int (0 : Int32)), (.int (0 : Int32))] (.int (0 : Int32)) := Arv.set Ar157 q157 S157 N157' H157 G157' (fits_nar_char _) W157 0 rfl (Nat.le_of_ble_eq_true rfl)
        replace G : Gets p e below _ (T157.setTop (mkF m 179 #[.val (.int i0), .val (.int i1), .val (.int i2), .val (.int i3), .val (.int i4), .val (.int (1 : Int32)), .val (.int (3 : Int32)), .val (.int (0 : Int32)), .val (.int c0), .val (.int c1), .val (.int c2), .val (.int o0), .val (.int o1), .val (.int o2), .val (.ref b5), .val (.ref b151), .unset, .unset] [])) := fun t k => G t (st157 t k)
        replace G := own_iload (q := 181) G X157.here hx (hb hby at_179) rfl rfl
        replace G := own_iconst (q := 182) G X157.here hx (hb hby at_181) (v := (1 : Int32)) (by decide) rfl
        have hc182_158 : (1 : Int32) < (3 : Int32) := by decide
        replace G := own_icmpNo (q := 185) G X157.here hx (hb hby at_182) (tlt hc182_158).2.2.2 rfl
        replace G := own_aload (q := 187) G X157.here hx (hb hby at_185) rfl rfl rfl
        replace G := own_iconst (q := 188) G X157.here hx (hb hby at_187) (v := (1 : Int32)) (by decide) rfl
        replace G := own_iload (q := 190) G X157.here hx (hb hby at_188) rfl rfl
        obtain ⟨c159, Ar159, q159, S159, N159', H159, G159'⟩ := id V157
        have hin159 : ¬ ((1 : Int32) < 0 ∨ c159.slots.size ≤ ((1 : Int32)).toNatClampNeg) := inb_of S159 ⟨by decide, by decide⟩
        obtain ⟨T159, h159, X159, e159, W159, st159⟩ := stC X157 hx hZ e157 Ar159 (j := (1 : Int32)) hin159 (g := (mkF m 190 #[.val (.int i0), .val (.int i1), .val (.int i2), .val (.int i3), .val (.int i4), .val (.int (1 : Int32)), .val (.int (3 : Int32)), .val (.int (0 : Int32)), .val (.int c0), .val (.int c1), .val (.int c2), .val (.int o0), .val (.int o1), .val (.int o2), .val (.ref b5), .val (.ref b151), .unset, .unset] [(.int o1), (.int (1 : Int32)), (.ref b151)])) rfl rfl (hb hby at_190)
        have N159 := Fr.snoc X159 N157 ge_b151
        have Z159 : n0 ≤ h159.size := Nat.le_trans Z157 (Keep.of_wr W159).1
        have V159 : Arv Z h159 b151 k151 .char (3 : Int32) [(.int (nar .char o0)), (.int (nar .char o1)), (.int (0 : Int32))] (.int (0 : Int32)) := Arv.set Ar159 q159 S159 N159' H159 G159' (fits_nar_char _) W159 1 rfl (Nat.le_of_ble_eq_true rfl)
        replace G : Gets p e below _ (T159.setTop (mkF m 191 #[.val (.int i0), .val (.int i1), .val (.int i2), .val (.int i3), .val (.int i4), .val (.int (1 : Int32)), .val (.int (3 : Int32)), .val (.int (0 : Int32)), .val (.int c0), .val (.int c1), .val (.int c2), .val (.int o0), .val (.int o1), .val (.int o2), .val (.ref b5), .val (.ref b151), .unset, .unset] [])) := fun t k => G t (st159 t k)
        replace G := own_iload (q := 193) G X159.here hx (hb hby at_191) rfl rfl
        replace G := own_iconst (q := 194) G X159.here hx (hb hby at_193) (v := (2 : Int32)) (by decide) rfl
        have hc194_160 : (2 : Int32) < (3 : Int32) := by decide
        replace G := own_icmpNo (q := 197) G X159.here hx (hb hby at_194) (tlt hc194_160).2.2.2 rfl
        replace G := own_aload (q := 199) G X159.here hx (hb hby at_197) rfl rfl rfl
        replace G := own_iconst (q := 200) G X159.here hx (hb hby at_199) (v := (2 : Int32)) (by decide) rfl
        replace G := own_iload (q := 202) G X159.here hx (hb hby at_200) rfl rfl
        obtain ⟨c161, Ar161, q161, S161, N161', H161, G161'⟩ := id V159
        have hin161 : ¬ ((2 : Int32) < 0 ∨ c161.slots.size ≤ ((2 : Int32)).toNatClampNeg) := inb_of S161 ⟨by decide, by decide⟩
        obtain ⟨T161, h161, X161, e161, W161, st161⟩ := stC X159 hx hZ e159 Ar161 (j := (2 : Int32)) hin161 (g := (mkF m 202 #[.val (.int i0), .val (.int i1), .val (.int i2), .val (.int i3), .val (.int i4), .val (.int (1 : Int32)), .val (.int (3 : Int32)), .val (.int (0 : Int32)), .val (.int c0), .val (.int c1), .val (.int c2), .val (.int o0), .val (.int o1), .val (.int o2), .val (.ref b5), .val (.ref b151), .unset, .unset] [(.int o2), (.int (2 : Int32)), (.ref b151)])) rfl rfl (hb hby at_202)
        have N161 := Fr.snoc X161 N159 ge_b151
        have Z161 : n0 ≤ h161.size := Nat.le_trans Z159 (Keep.of_wr W161).1
        have V161 : Arv Z h161 b151 k151 .char (3 : Int32) [(.int (nar .char o0)), (.int (nar .char o1)), (.int (nar .char o2))] (.int (0 : Int32)) := Arv.set Ar161 q161 S161 N161' H161 G161' (fits_nar_char _) W161 2 rfl (Nat.le_of_ble_eq_true rfl)
        replace G : Gets p e below _ (T161.setTop (mkF m 203 #[.val (.int i0), .val (.int i1), .val (.int i2), .val (.int i3), .val (.int i4), .val (.int (1 : Int32)), .val (.int (3 : Int32)), .val (.int (0 : Int32)), .val (.int c0), .val (.int c1), .val (.int c2), .val (.int o0), .val (.int o1), .val (.int o2), .val (.ref b5), .val (.ref b151), .unset, .unset] [])) := fun t k => G t (st161 t k)
        replace G := own_aload (q := 205) G X161.here hx (hb hby at_203) rfl rfl rfl
        replace G := own_aload (q := 207) G X161.here hx (hb hby at_205) rfl rfl rfl
        have F163 : Exa Z h161 b5 "com/example/leafcutter/leafcutter/io/TextBuffer" := (((((F84.keep K83q).ext E151).wr W157).wr W159).wr W161)
        have F164 : Fld Z h161 b5 "com/example/leafcutter/leafcutter/io/TextBuffer" "length" "I" (.int (1 : Int32)) := ((((B83_1.ext E151).other W157 (Or.inl ne153)).other W159 (Or.inl ne153)).other W161 (Or.inl ne153))
        obtain ⟨cq162, kq162, q162a, q162b, q162c⟩ := isOf hZ e161 F163
        obtain ⟨_, _, ⟨T162, L162, kk162, nn162⟩, -, X162, ⟨Lc162, hQ162, l162, y162, z162⟩, st162⟩ := X161.virtualBack hx (y := (⟨"com/example/leafcutter/leafcutter/io/TextBuffer", "contentEquals", "([C)Z"⟩ : MethodName)) (z := (⟨"com/example/leafcutter/leafcutter/io/TextBuffer", "contentEquals", "([C)Z"⟩ : MethodName)) hown (mvT hZ (hw _ (List.mem_of_getElem? (i := 22) rfl))) (mvT hZ (hw _ (List.mem_of_getElem? (i := 23) rfl))) (notFace_of_selects (args := #[]) (mvT hZ (hw _ (List.mem_of_getElem? (i := 25) rfl)))) (mvT hZ (hw _ (List.mem_of_getElem? (i := 25) rfl))) (mvT hZ (hw _ (List.mem_of_getElem? (i := 24) rfl))) (by decide) (backOf (W := 0) (rm4n1m3 l Z a0 hw [] b5 b151 k151 (nar .char o0) (nar .char o1) (nar .char o2) h161 n0 Z161 F164 V161) hZ (hw _ (List.mem_of_getElem? (i := 26) rfl)) (hw _ (List.mem_of_getElem? (i := 2) rfl)) (by decide) (by decide)) q162a q162c (g := (mkF m 207 #[.val (.int i0), .val (.int i1), .val (.int i2), .val (.int i3), .val (.int i4), .val (.int (1 : Int32)), .val (.int (3 : Int32)), .val (.int (0 : Int32)), .val (.int c0), .val (.int c1), .val (.int c2), .val (.int o0), .val (.int o1), .val (.int o2), .val (.ref b5), .val (.ref b151), .unset, .unset] [(.ref b151), (.ref b5)])) rfl (by rw [hml]; rfl) (Steps.refl _) (argsL := [(.ref b151)]) (rest := []) (lenOf pd_7 rfl) rfl (by show 2 * 0 + _ ≤ _; exact Nat.le_of_eq rfl) (hb hby at_207) (fun _ _ => ⟨rfl, e161, (by decide : 3 + 0 ≤ _), (by decide : 23 + 0 ≤ _)⟩)
        dsimp only [Pt.U, Pt.locs, Pt.cells, Pt.slots] at X162 l162 y162 z162 st162 hQ162
        subst l162 y162 z162
        obtain ⟨rfl, N162q, e162⟩ := hQ162
        have N162 := Fr.app N161 N162q
        replace G : Gets p e below _ (T162.setTop (mkF m 210 #[.val (.int i0), .val (.int i1), .val (.int i2), .val (.int i3), .val (.int i4), .val (.int (1 : Int32)), .val (.int (3 : Int32)), .val (.int (0 : Int32)), .val (.int c0), .val (.int c1), .val (.int c2), .val (.int o0), .val (.int o1), .val (.int o2), .val (.ref b5), .val (.ref b151), .unset, .unset] [(.int (0 : Int32))])) := fun t k => G t (st162.trans k)
        replace G := own_istore (q := 212) (l' := #[.val (.int i0), .val (.int i1), .val (.int i2), .val (.int i3), .val (.int i4), .val (.int (1 : Int32)), .val (.int (3 : Int32)), .val (.int (0 : Int32)), .val (.int c0), .val (.int c1), .val (.int c2), .val (.int o0), .val (.int o1), .val (.int o2), .val (.ref b5), .val (.ref b151), .val (.int (0 : Int32)), .unset]) G X162.here hx (hb hby at_210) rfl rfl
        replace G := own_iload (q := 214) G X162.here hx (hb hby at_212) rfl rfl
        have hc214_165 : (0 : Int32) = (0 : Int32) := by decide
        replace G := own_ifNo (q := 217) G X162.here hx (hb hby at_214) ((if0 _ _).trans (teq hc214_165).2) rfl
        replace G := own_iload (q := 219) G X162.here hx (hb hby at_217) rfl rfl
        replace G := own_iload (q := 221) G X162.here hx (hb hby at_219) rfl rfl
        have hc221_166 : ¬ ((3 : Int32) = (1 : Int32)) := by decide
        replace G := own_icmpYes (q := 267) G X162.here hx (hb hby at_221) (feq hc221_166).2 (by decide) (by decide)
        replace G := own_iconst (q := 268) G X162.here hx (hb hby at_267) (v := (0 : Int32)) (by decide) rfl
        replace G := own_istore (q := 270) (l' := #[.val (.int i0), .val (.int i1), .val (.int i2), .val (.int i3), .val (.int i4), .val (.int (1 : Int32)), .val (.int (3 : Int32)), .val (.int (0 : Int32)), .val (.int c0), .val (.int c1), .val (.int c2), .val (.int o0), .val (.int o1), .val (.int o2), .val (.ref b5), .val (.ref b151), .val (.int (0 : Int32)), .val (.int (0 : Int32))]) G X162.here hx (hb hby at_268) rfl rfl
        replace G := own_iload (q := 272) G X162.here hx (hb hby at_270) rfl rfl
        replace G := own_iload (q := 274) G X162.here hx (hb hby at_272) rfl rfl
        have hc274_167 : (0 : Int32) = (0 : Int32) := by decide
        replace G := own_icmpNo (q := 277) G X162.here hx (hb hby at_274) (teq hc274_167).2 rfl
        replace G := own_aload (q := 279) G X162.here hx (hb hby at_277) rfl rfl rfl
        obtain ⟨cq168, kq168, q168a, q168b, q168c⟩ := isOf hZ e162 F163
        obtain ⟨_, _, ⟨T168, L168, kk168, nn168⟩, -, X168, ⟨Lc168, hQ168, l168, y168, z168⟩, st168⟩ := X162.virtualBack hx (y := (⟨"com/example/leafcutter/leafcutter/io/TextBuffer", "length", "()I"⟩ : MethodName)) (z := (⟨"com/example/leafcutter/leafcutter/io/TextBuffer", "length", "()I"⟩ : MethodName)) hown (mvT hZ (hw _ (List.mem_of_getElem? (i := 29) rfl))) (mvT hZ (hw _ (List.mem_of_getElem? (i := 30) rfl))) (notFace_of_selects (args := #[]) (mvT hZ (hw _ (List.mem_of_getElem? (i := 32) rfl)))) (mvT hZ (hw _ (List.mem_of_getElem? (i := 32) rfl))) (mvT hZ (hw _ (List.mem_of_getElem? (i := 31) rfl))) (by decide) (backOf (W := 0) (rm5k1 l Z a0 hw [] b5 h161 n0 Z161 F164) hZ (hw _ (List.mem_of_getElem? (i := 33) rfl)) (hw _ (List.mem_of_getElem? (i := 2) rfl)) (by decide) (by decide)) q168a q168c (g := (mkF m 279 #[.val (.int i0), .val (.int i1), .val (.int i2), .val (.int i3), .val (.int i4), .val (.int (1 : Int32)), .val (.int (3 : Int32)), .val (.int (0 : Int32)), .val (.int c0), .val (.int c1), .val (.int c2), .val (.int o0), .val (.int o1), .val (.int o2), .val (.ref b5), .val (.ref b151), .val (.int (0 : Int32)), .val (.int (0 : Int32))] [(.ref b5)])) rfl (by rw [hml]; rfl) (Steps.refl _) (argsL := []) (rest := []) (lenOf pd_8 rfl) rfl (by show 2 * 0 + _ ≤ _; exact Nat.le_of_eq rfl) (hb hby at_279) (fun _ _ => ⟨rfl, e162, (by decide : 3 + 0 ≤ _), (by decide : 23 + 0 ≤ _)⟩)
        dsimp only [Pt.U, Pt.locs, Pt.cells, Pt.slots] at X168 l168 y168 z168 st168 hQ168
        subst l168 y168 z168
        obtain ⟨rfl, N168q, e168⟩ := hQ168
        have N168 := Fr.app N162 N168q
        replace G : Gets p e below _ (T168.setTop (mkF m 282 #[.val (.int i0), .val (.int i1), .val (.int i2), .val (.int i3), .val (.int i4), .val (.int (1 : Int32)), .val (.int (3 : Int32)), .val (.int (0 : Int32)), .val (.int c0), .val (.int c1), .val (.int c2), .val (.int o0), .val (.int o1), .val (.int o2), .val (.ref b5), .val (.ref b151), .val (.int (0 : Int32)), .val (.int (0 : Int32))] [(.int (1 : Int32))])) := fun t k => G t (st168.trans k)
        replace G := own_iload (q := 284) G X168.here hx (hb hby at_282) rfl rfl
        have hc284_169 : (1 : Int32) = (1 : Int32) := by decide
        replace G := own_icmpNo (q := 287) G X168.here hx (hb hby at_284) (teq hc284_169).2 rfl
        replace G := own_iconst (q := 288) G X168.here hx (hb hby at_287) (v := (1 : Int32)) (by decide) rfl
        replace G := own_goto (q := 292) G X168.here hx (hb hby at_288) (by decide) (by decide)
        obtain ⟨fs, hr, hrun, hended, hW, hsame⟩ := X168.leave (v := some (.int (1 : Int32))) (fun h => by rw [Bd.returns] at h; cases h)
        refine ⟨_, _, G _ (retOut X168 hx Bd.returns rfl (Or.inl ⟨rfl, Or.inr (Or.inl rfl), _, rfl⟩) (hb hby at_292) hr), hrun, hended, _, _, rfl, ?_, ⟨_, rfl⟩, hW, hsame.mono (by decide) (by decide)⟩
        show Q0 Z i0 i1 i2 i3 i4 sa ks h0 n0 _ T168.heap _
        rw [e168]
        exact ⟨rfl, N168⟩
    · replace G := own_astore (q := 113) (l' := #[.val (.int i0), .val (.int i1), .val (.int i2), .val (.int i3), .val (.int i4), .val (.int (2 : Int32)), .val (.int m0), .val (.int (0 : Int32)), .val (.int c0), .val (.int c1), .val (.int c2), .val (.int o0), .val (.int o1), .val (.int o2), .val (.ref b5), .unset, .unset, .unset]) G X7.here hx (hb hby at_111) rfl rfl rfl
      replace G := own_iload (q := 115) G X7.here hx (hb hby at_113) rfl rfl
      have hc115_170 : (0 : Int32) < (2 : Int32) := by decide
      replace G := own_ifNo (q := 118) G X7.here hx (hb hby at_115) ((if0 _ _).trans (tlt hc115_170).2.2.2) rfl
      replace G := own_aload (q := 120) G X7.here hx (hb hby at_118) rfl rfl rfl
      replace G := own_iload (q := 122) G X7.here hx (hb hby at_120) rfl rfl
      have F172 : Exa Z T7.heap b5 "com/example/leafcutter/leafcutter/io/TextBuffer" := (A5.keep K7q)
      have F173 : Arv Z T7.heap sa ks .char (0 : Int32) [] (.int (0 : Int32)) := ((P1.ext E5).keep K7q (ninS ne6 nin0))
      obtain ⟨cq171, kq171, q171a, q171b, q171c⟩ := isOf hZ rfl F172
      obtain ⟨_, _, ⟨T171, L171, kk171, nn171⟩, -, X171, ⟨Lc171, hQ171, l171, y171, z171⟩, st171⟩ := X7.virtualBack hx (y := (⟨"com/example/leafcutter/leafcutter/io/TextBuffer", "append", "(C)Lcom/example/leafcutter/leafcutter/io/TextBuffer;"⟩ : MethodName)) (z := (⟨"com/example/leafcutter/leafcutter/io/TextBuffer", "append", "(C)Lcom/example/leafcutter/leafcutter/io/TextBuffer;"⟩ : MethodName)) hown (mvT hZ (hw _ (List.mem_of_getElem? (i := 34) rfl))) (mvT hZ (hw _ (List.mem_of_getElem? (i := 35) rfl))) (notFace_of_selects (args := #[]) (mvT hZ (hw _ (List.mem_of_getElem? (i := 37) rfl)))) (mvT hZ (hw _ (List.mem_of_getElem? (i := 37) rfl))) (mvT hZ (hw _ (List.mem_of_getElem? (i := 36) rfl))) (by decide) (backOf (W := 0) (rm6s0 l Z a0 hw [] b5 c0 sa ks T7.heap n0 Z7 B7_0 B7_1 B7_2 B7_3 F172 F173 ge_b5 (Ne.symm ne6)) hZ (hw _ (List.mem_of_getElem? (i := 38) rfl)) (hw _ (List.mem_of_getElem? (i := 2) rfl)) (by decide) (by decide)) q171a q171c (g := (mkF m 122 #[.val (.int i0), .val (.int i1), .val (.int i2), .val (.int i3), .val (.int i4), .val (.int (2 : Int32)), .val (.int m0), .val (.int (0 : Int32)), .val (.int c0), .val (.int c1), .val (.int c2), .val (.int o0), .val (.int o1), .val (.int o2), .val (.ref b5), .unset, .unset, .unset] [(.int c0), (.ref b5)])) rfl (by rw [hml]; rfl) (Steps.refl _) (argsL := [(.int c0)]) (rest := []) (lenOf pd_9 rfl) rfl (by show 2 * 0 + _ ≤ _; exact Nat.le_of_eq rfl) (hb hby at_122) (fun _ _ => ⟨rfl, rfl, (by decide : 1 + 1 ≤ _), (by decide : 4 + 16 ≤ _)⟩)
      dsimp only [Pt.U, Pt.locs, Pt.cells, Pt.slots] at X171 l171 y171 z171 st171 hQ171
      subst l171 y171 z171
      obtain ⟨b_171, kb_171, rfl, N171q, K171q, B171_0, B171_1, B171_2, B171_3, B171_4, B171_5⟩ := hQ171
      have ne174 : b5 ≠ b_171 := Nat.ne_of_lt (Nat.lt_of_lt_of_le B7_3.lt B171_4)
      have ne175 : sa ≠ b_171 := Nat.ne_of_lt (Nat.lt_of_lt_of_le F173.lt B171_4)
      have ge_b_171 : n0 ≤ b_171 := Nat.le_trans Z7 B171_4
      have Z171 : n0 ≤ T171.heap.size := Nat.le_trans Z7 K171q.1
      have N171 := Fr.app N7 N171q
      replace G : Gets p e below _ (T171.setTop (mkF m 125 #[.val (.int i0), .val (.int i1), .val (.int i2), .val (.int i3), .val (.int i4), .val (.int (2 : Int32)), .val (.int m0), .val (.int (0 : Int32)), .val (.int c0), .val (.int c1), .val (.int c2), .val (.int o0), .val (.int o1), .val (.int o2), .val (.ref b5), .unset, .unset, .unset] [(.ref b5)])) := fun t k => G t (st171.trans k)
      replace G := own_pop (q := 126) G X171.here hx (hb hby at_125) rfl rfl
      replace G := own_iload (q := 128) G X171.here hx (hb hby at_126) rfl rfl
      replace G := own_iconst (q := 129) G X171.here hx (hb hby at_128) (v := (1 : Int32)) (by decide) rfl
      have hc129_176 : (1 : Int32) < (2 : Int32) := by decide
      replace G := own_icmpNo (q := 132) G X171.here hx (hb hby at_129) (tlt hc129_176).2.2.2 rfl
      replace G := own_aload (q := 134) G X171.here hx (hb hby at_132) rfl rfl rfl
      replace G := own_iload (q := 136) G X171.here hx (hb hby at_134) rfl rfl
      have F178 : Exa Z T171.heap b5 "com/example/leafcutter/leafcutter/io/TextBuffer" := (F172.keep K171q)
      obtain ⟨cq177, kq177, q177a, q177b, q177c⟩ := isOf hZ rfl F178
      obtain ⟨_, _, ⟨T177, L177, kk177, nn177⟩, -, X177, ⟨Lc177, hQ177, l177, y177, z177⟩, st177⟩ := X171.virtualBack hx (y := (⟨"com/example/leafcutter/leafcutter/io/TextBuffer", "append", "(C)Lcom/example/leafcutter/leafcutter/io/TextBuffer;"⟩ : MethodName)) (z := (⟨"com/example/leafcutter/leafcutter/io/TextBuffer", "append", "(C)Lcom/example/leafcutter/leafcutter/io/TextBuffer;"⟩ : MethodName)) hown (mvT hZ (hw _ (List.mem_of_getElem? (i := 34) rfl))) (mvT hZ (hw _ (List.mem_of_getElem? (i := 35) rfl))) (notFace_of_selects (args := #[]) (mvT hZ (hw _ (List.mem_of_getElem? (i := 37) rfl)))) (mvT hZ (hw _ (List.mem_of_getElem? (i := 37) rfl))) (mvT hZ (hw _ (List.mem_of_getElem? (i := 36) rfl))) (by decide) (backOf (W := 0) (rm6s1 l Z a0 hw [] b5 c1 b_171 kb_171 (nar .char c0) T171.heap n0 Z171 B171_0 B171_1 B171_2 B171_3 F178 B171_5 ge_b5 ge_b_171 ne174) hZ (hw _ (List.mem_of_getElem? (i := 38) rfl)) (hw _ (List.mem_of_getElem? (i := 2) rfl)) (by decide) (by decide)) q177a q177c (g := (mkF m 136 #[.val (.int i0), .val (.int i1), .val (.int i2), .val (.int i3), .val (.int i4), .val (.int (2 : Int32)), .val (.int m0), .val (.int (0 : Int32)), .val (.int c0), .val (.int c1), .val (.int c2), .val (.int o0), .val (.int o1), .val (.int o2), .val (.ref b5), .unset, .unset, .unset] [(.int c1), (.ref b5)])) rfl (by rw [hml]; rfl) (Steps.refl _) (argsL := [(.int c1)]) (rest := []) (lenOf pd_9 rfl) rfl (by show 2 * 0 + _ ≤ _; exact Nat.le_of_eq rfl) (hb hby at_136) (fun _ _ => ⟨rfl, rfl, (by decide : 2 + 0 ≤ _), (by decide : 20 + 0 ≤ _)⟩)
      dsimp only [Pt.U, Pt.locs, Pt.cells, Pt.slots] at X177 l177 y177 z177 st177 hQ177
      subst l177 y177 z177
      obtain ⟨rfl, N177q, K177q, B177_0, B177_1, B177_2, B177_3, B177_4⟩ := hQ177
      have Z177 : n0 ≤ T177.heap.size := Nat.le_trans Z171 K177q.1
      have N177 := Fr.app N171 N177q
      replace G : Gets p e below _ (T177.setTop (mkF m 139 #[.val (.int i0), .val (.int i1), .val (.int i2), .val (.int i3), .val (.int i4), .val (.int (2 : Int32)), .val (.int m0), .val (.int (0 : Int32)), .val (.int c0), .val (.int c1), .val (.int c2), .val (.int o0), .val (.int o1), .val (.int o2), .val (.ref b5), .unset, .unset, .unset] [(.ref b5)])) := fun t k => G t (st177.trans k)
      replace G := own_pop (q := 140) G X177.here hx (hb hby at_139) rfl rfl
      replace G := own_iload (q := 142) G X177.here hx (hb hby at_140) rfl rfl
      replace G := own_iconst (q := 143) G X177.here hx (hb hby at_142) (v := (2 : Int32)) (by decide) rfl
      have hc143_179 : ¬ ((2 : Int32) < (2 : Int32)) := by decide
      replace G := own_icmpYes (q := 154) G X177.here hx (hb hby at_143) (flt hc143_179).2.2.2 (by decide) (by decide)
      replace G := own_aconst_null (q := 155) G X177.here hx (hb hby at_154) rfl
      replace G := own_astore (q := 157) (l' := #[.val (.int i0), .val (.int i1), .val (.int i2), .val (.int i3), .val (.int i4), .val (.int (2 : Int32)), .val (.int m0), .val (.int (0 : Int32)), .val (.int c0), .val (.int c1), .val (.int c2), .val (.int o0), .val (.int o1), .val (.int o2), .val (.ref b5), .val .null, .unset, .unset]) G X177.here hx (hb hby at_155) rfl rfl rfl
      replace G := own_iload (q := 159) G X177.here hx (hb hby at_157) rfl rfl
      have hc159_180 : (0 : Int32) = (0 : Int32) := by decide
      replace G := own_ifNo (q := 162) G X177.here hx (hb hby at_159) ((if0 _ _).trans (teq hc159_180).2) rfl
      rcases own_cases4 (own_m3 hn_m0) with rfl | rfl | rfl | rfl
      · replace G := own_iload (q := 164) G X177.here hx (hb hby at_162) rfl rfl
        obtain ⟨T181, h181, k181, X181, e181, E181, A181, st181⟩ := newP X177 hx hZ (hw _ (List.mem_of_getElem? (i := 21) rfl)) rfl (g := (mkF m 164 #[.val (.int i0), .val (.int i1), .val (.int i2), .val (.int i3), .val (.int i4), .val (.int (2 : Int32)), .val (.int (0 : Int32)), .val (.int (0 : Int32)), .val (.int c0), .val (.int c1), .val (.int c2), .val (.int o0), .val (.int o1), .val (.int o2), .val (.ref b5), .val .null, .unset, .unset] [(.int (0 : Int32))])) rfl (hb hby at_164) rfl (by decide) (cap := 0) (by decide) (by decide) (by decide) (by decide)
        obtain ⟨b181, g181⟩ : ∃ z, z = T177.heap.size := ⟨_, rfl⟩
        rw [← g181] at A181 st181
        have ne182 : b_171 ≠ b181 := Nat.ne_of_lt (Nat.lt_of_lt_of_le B177_4.lt (Nat.le_of_eq g181.symm))
        have ne183 : b5 ≠ b181 := Nat.ne_of_lt (Nat.lt_of_lt_of_le B177_3.lt (Nat.le_of_eq g181.symm))
        have F184 : Arv Z T177.heap sa ks .char (0 : Int32) [] (.int (0 : Int32)) := ((F173.keep K171q (ninS ne6 nin0)).keep K177q (ninS ne6 (ninS ne175 nin0)))
        have ne185 : sa ≠ b181 := Nat.ne_of_lt (Nat.lt_of_lt_of_le F184.lt (Nat.le_of_eq g181.symm))
        have ge_b181 : n0 ≤ b181 := Nat.le_trans Z177 (Nat.le_of_eq g181.symm)
        have Z181 : n0 ≤ h181.size := Nat.le_trans Z177 E181.1
        have V181 : Arv Z h181 b181 k181 .char (0 : Int32) [] (.int (0 : Int32)) := (Arv.new A181 (by decide)).pad (pad_rep [] (.int (0 : Int32)) 0)
        replace G : Gets p e below _ (T181.setTop (mkF m 166 #[.val (.int i0), .val (.int i1), .val (.int i2), .val (.int i3), .val (.int i4), .val (.int (2 : Int32)), .val (.int (0 : Int32)), .val (.int (0 : Int32)), .val (.int c0), .val (.int c1), .val (.int c2), .val (.int o0), .val (.int o1), .val (.int o2), .val (.ref b5), .val .null, .unset, .unset] [(.ref b181)])) := fun t k => G t (st181 t k)
        replace G := own_astore (q := 168) (l' := #[.val (.int i0), .val (.int i1), .val (.int i2), .val (.int i3), .val (.int i4), .val (.int (2 : Int32)), .val (.int (0 : Int32)), .val (.int (0 : Int32)), .val (.int c0), .val (.int c1), .val (.int c2), .val (.int o0), .val (.int o1), .val (.int o2), .val (.ref b5), .val (.ref b181), .unset, .unset]) G X181.here hx (hb hby at_166) rfl rfl rfl
        replace G := own_iload (q := 170) G X181.here hx (hb hby at_168) rfl rfl
        have hc170_186 : ¬ ((0 : Int32) < (0 : Int32)) := by decide
        replace G := own_ifYes (q := 179) G X181.here hx (hb hby at_170) ((if0 _ _).trans (flt hc170_186).2.2.2) (by decide) (by decide)
        replace G := own_iload (q := 181) G X181.here hx (hb hby at_179) rfl rfl
        replace G := own_iconst (q := 182) G X181.here hx (hb hby at_181) (v := (1 : Int32)) (by decide) rfl
        have hc182_187 : ¬ ((1 : Int32) < (0 : Int32)) := by decide
        replace G := own_icmpYes (q := 191) G X181.here hx (hb hby at_182) (flt hc182_187).2.2.2 (by decide) (by decide)
        replace G := own_iload (q := 193) G X181.here hx (hb hby at_191) rfl rfl
        replace G := own_iconst (q := 194) G X181.here hx (hb hby at_193) (v := (2 : Int32)) (by decide) rfl
        have hc194_188 : ¬ ((2 : Int32) < (0 : Int32)) := by decide
        replace G := own_icmpYes (q := 203) G X181.here hx (hb hby at_194) (flt hc194_188).2.2.2 (by decide) (by decide)
        replace G := own_aload (q := 205) G X181.here hx (hb hby at_203) rfl rfl rfl
        replace G := own_aload (q := 207) G X181.here hx (hb hby at_205) rfl rfl rfl
        have F190 : Exa Z h181 b5 "com/example/leafcutter/leafcutter/io/TextBuffer" := ((F178.keep K177q).ext E181)
        have F191 : Fld Z h181 b5 "com/example/leafcutter/leafcutter/io/TextBuffer" "length" "I" (.int (2 : Int32)) := (B177_1.ext E181)
        obtain ⟨cq189, kq189, q189a, q189b, q189c⟩ := isOf hZ e181 F190
        obtain ⟨_, _, ⟨T189, L189, kk189, nn189⟩, -, X189, ⟨Lc189, hQ189, l189, y189, z189⟩, st189⟩ := X181.virtualBack hx (y := (⟨"com/example/leafcutter/leafcutter/io/TextBuffer", "contentEquals", "([C)Z"⟩ : MethodName)) (z := (⟨"com/example/leafcutter/leafcutter/io/TextBuffer", "contentEquals", "([C)Z"⟩ : MethodName)) hown (mvT hZ (hw _ (List.mem_of_getElem? (i := 22) rfl))) (mvT hZ (hw _ (List.mem_of_getElem? (i := 23) rfl))) (notFace_of_selects (args := #[]) (mvT hZ (hw _ (List.mem_of_getElem? (i := 25) rfl)))) (mvT hZ (hw _ (List.mem_of_getElem? (i := 25) rfl))) (mvT hZ (hw _ (List.mem_of_getElem? (i := 24) rfl))) (by decide) (backOf (W := 0) (rm4n2m0 l Z a0 hw [] b5 b181 k181 h181 n0 Z181 F191 V181) hZ (hw _ (List.mem_of_getElem? (i := 26) rfl)) (hw _ (List.mem_of_getElem? (i := 2) rfl)) (by decide) (by decide)) q189a q189c (g := (mkF m 207 #[.val (.int i0), .val (.int i1), .val (.int i2), .val (.int i3), .val (.int i4), .val (.int (2 : Int32)), .val (.int (0 : Int32)), .val (.int (0 : Int32)), .val (.int c0), .val (.int c1), .val (.int c2), .val (.int o0), .val (.int o1), .val (.int o2), .val (.ref b5), .val (.ref b181), .unset, .unset] [(.ref b181), (.ref b5)])) rfl (by rw [hml]; rfl) (Steps.refl _) (argsL := [(.ref b181)]) (rest := []) (lenOf pd_7 rfl) rfl (by show 2 * 0 + _ ≤ _; exact Nat.le_of_eq rfl) (hb hby at_207) (fun _ _ => ⟨rfl, e181, (by decide : 3 + 0 ≤ _), (by decide : 20 + 0 ≤ _)⟩)
        dsimp only [Pt.U, Pt.locs, Pt.cells, Pt.slots] at X189 l189 y189 z189 st189 hQ189
        subst l189 y189 z189
        obtain ⟨rfl, N189q, e189⟩ := hQ189
        have N189 := Fr.app N177 N189q
        replace G : Gets p e below _ (T189.setTop (mkF m 210 #[.val (.int i0), .val (.int i1), .val (.int i2), .val (.int i3), .val (.int i4), .val (.int (2 : Int32)), .val (.int (0 : Int32)), .val (.int (0 : Int32)), .val (.int c0), .val (.int c1), .val (.int c2), .val (.int o0), .val (.int o1), .val (.int o2), .val (.ref b5), .val (.ref b181), .unset, .unset] [(.int (0 : Int32))])) := fun t k => G t (st189.trans k)
        replace G := own_istore (q := 212) (l' := #[.val (.int i0), .val (.int i1), .val (.int i2), .val (.int i3), .val (.int i4), .val (.int (2 : Int32)), .val (.int (0 : Int32)), .val (.int (0 : Int32)), .val (.int c0), .val (.int c1), .val (.int c2), .val (.int o0), .val (.int o1), .val (.int o2), .val (.ref b5), .val (.ref b181), .val (.int (0 : Int32)), .unset]) G X189.here hx (hb hby at_210) rfl rfl
        replace G := own_iload (q := 214) G X189.here hx (hb hby at_212) rfl rfl
        have hc214_192 : (0 : Int32) = (0 : Int32) := by decide
        replace G := own_ifNo (q := 217) G X189.here hx (hb hby at_214) ((if0 _ _).trans (teq hc214_192).2) rfl
        replace G := own_iload (q := 219) G X189.here hx (hb hby at_217) rfl rfl
        replace G := own_iload (q := 221) G X189.here hx (hb hby at_219) rfl rfl
        have hc221_193 : ¬ ((0 : Int32) = (2 : Int32)) := by decide
        replace G := own_icmpYes (q := 267) G X189.here hx (hb hby at_221) (feq hc221_193).2 (by decide) (by decide)
        replace G := own_iconst (q := 268) G X189.here hx (hb hby at_267) (v := (0 : Int32)) (by decide) rfl
        replace G := own_istore (q := 270) (l' := #[.val (.int i0), .val (.int i1), .val (.int i2), .val (.int i3), .val (.int i4), .val (.int (2 : Int32)), .val (.int (0 : Int32)), .val (.int (0 : Int32)), .val (.int c0), .val (.int c1), .val (.int c2), .val (.int o0), .val (.int o1), .val (.int o2), .val (.ref b5), .val (.ref b181), .val (.int (0 : Int32)), .val (.int (0 : Int32))]) G X189.here hx (hb hby at_268) rfl rfl
        replace G := own_iload (q := 272) G X189.here hx (hb hby at_270) rfl rfl
        replace G := own_iload (q := 274) G X189.here hx (hb hby at_272) rfl rfl
        have hc274_194 : (0 : Int32) = (0 : Int32) := by decide
        replace G := own_icmpNo (q := 277) G X189.here hx (hb hby at_274) (teq hc274_194).2 rfl
        replace G := own_aload (q := 279) G X189.here hx (hb hby at_277) rfl rfl rfl
        obtain ⟨cq195, kq195, q195a, q195b, q195c⟩ := isOf hZ e189 F190
        obtain ⟨_, _, ⟨T195, L195, kk195, nn195⟩, -, X195, ⟨Lc195, hQ195, l195, y195, z195⟩, st195⟩ := X189.virtualBack hx (y := (⟨"com/example/leafcutter/leafcutter/io/TextBuffer", "length", "()I"⟩ : MethodName)) (z := (⟨"com/example/leafcutter/leafcutter/io/TextBuffer", "length", "()I"⟩ : MethodName)) hown (mvT hZ (hw _ (List.mem_of_getElem? (i := 29) rfl))) (mvT hZ (hw _ (List.mem_of_getElem? (i := 30) rfl))) (notFace_of_selects (args := #[]) (mvT hZ (hw _ (List.mem_of_getElem? (i := 32) rfl)))) (mvT hZ (hw _ (List.mem_of_getElem? (i := 32) rfl))) (mvT hZ (hw _ (List.mem_of_getElem? (i := 31) rfl))) (by decide) (backOf (W := 0) (rm5k2 l Z a0 hw [] b5 h181 n0 Z181 F191) hZ (hw _ (List.mem_of_getElem? (i := 33) rfl)) (hw _ (List.mem_of_getElem? (i := 2) rfl)) (by decide) (by decide)) q195a q195c (g := (mkF m 279 #[.val (.int i0), .val (.int i1), .val (.int i2), .val (.int i3), .val (.int i4), .val (.int (2 : Int32)), .val (.int (0 : Int32)), .val (.int (0 : Int32)), .val (.int c0), .val (.int c1), .val (.int c2), .val (.int o0), .val (.int o1), .val (.int o2), .val (.ref b5), .val (.ref b181), .val (.int (0 : Int32)), .val (.int (0 : Int32))] [(.ref b5)])) rfl (by rw [hml]; rfl) (Steps.refl _) (argsL := []) (rest := []) (lenOf pd_8 rfl) rfl (by show 2 * 0 + _ ≤ _; exact Nat.le_of_eq rfl) (hb hby at_279) (fun _ _ => ⟨rfl, e189, (by decide : 3 + 0 ≤ _), (by decide : 20 + 0 ≤ _)⟩)
        dsimp only [Pt.U, Pt.locs, Pt.cells, Pt.slots] at X195 l195 y195 z195 st195 hQ195
        subst l195 y195 z195
        obtain ⟨rfl, N195q, e195⟩ := hQ195
        have N195 := Fr.app N189 N195q
        replace G : Gets p e below _ (T195.setTop (mkF m 282 #[.val (.int i0), .val (.int i1), .val (.int i2), .val (.int i3), .val (.int i4), .val (.int (2 : Int32)), .val (.int (0 : Int32)), .val (.int (0 : Int32)), .val (.int c0), .val (.int c1), .val (.int c2), .val (.int o0), .val (.int o1), .val (.int o2), .val (.ref b5), .val (.ref b181), .val (.int (0 : Int32)), .val (.int (0 : Int32))] [(.int (2 : Int32))])) := fun t k => G t (st195.trans k)
        replace G := own_iload (q := 284) G X195.here hx (hb hby at_282) rfl rfl
        have hc284_196 : (2 : Int32) = (2 : Int32) := by decide
        replace G := own_icmpNo (q := 287) G X195.here hx (hb hby at_284) (teq hc284_196).2 rfl
        replace G := own_iconst (q := 288) G X195.here hx (hb hby at_287) (v := (1 : Int32)) (by decide) rfl
        replace G := own_goto (q := 292) G X195.here hx (hb hby at_288) (by decide) (by decide)
        obtain ⟨fs, hr, hrun, hended, hW, hsame⟩ := X195.leave (v := some (.int (1 : Int32))) (fun h => by rw [Bd.returns] at h; cases h)
        refine ⟨_, _, G _ (retOut X195 hx Bd.returns rfl (Or.inl ⟨rfl, Or.inr (Or.inl rfl), _, rfl⟩) (hb hby at_292) hr), hrun, hended, _, _, rfl, ?_, ⟨_, rfl⟩, hW, hsame.mono (by decide) (by decide)⟩
        show Q0 Z i0 i1 i2 i3 i4 sa ks h0 n0 _ T195.heap _
        rw [e195]
        exact ⟨rfl, N195⟩
      · replace G := own_iload (q := 164) G X177.here hx (hb hby at_162) rfl rfl
        obtain ⟨T197, h197, k197, X197, e197, E197, A197, st197⟩ := newP X177 hx hZ (hw _ (List.mem_of_getElem? (i := 21) rfl)) rfl (g := (mkF m 164 #[.val (.int i0), .val (.int i1), .val (.int i2), .val (.int i3), .val (.int i4), .val (.int (2 : Int32)), .val (.int (1 : Int32)), .val (.int (0 : Int32)), .val (.int c0), .val (.int c1), .val (.int c2), .val (.int o0), .val (.int o1), .val (.int o2), .val (.ref b5), .val .null, .unset, .unset] [(.int (1 : Int32))])) rfl (hb hby at_164) rfl (by decide) (cap := 1) (by decide) (by decide) (by decide) (by decide)
        obtain ⟨b197, g197⟩ : ∃ z, z = T177.heap.size := ⟨_, rfl⟩
        rw [← g197] at A197 st197
        have ne198 : b_171 ≠ b197 := Nat.ne_of_lt (Nat.lt_of_lt_of_le B177_4.lt (Nat.le_of_eq g197.symm))
        have ne199 : b5 ≠ b197 := Nat.ne_of_lt (Nat.lt_of_lt_of_le B177_3.lt (Nat.le_of_eq g197.symm))
        have F200 : Arv Z T177.heap sa ks .char (0 : Int32) [] (.int (0 : Int32)) := ((F173.keep K171q (ninS ne6 nin0)).keep K177q (ninS ne6 (ninS ne175 nin0)))
        have ne201 : sa ≠ b197 := Nat.ne_of_lt (Nat.lt_of_lt_of_le F200.lt (Nat.le_of_eq g197.symm))
        have ge_b197 : n0 ≤ b197 := Nat.le_trans Z177 (Nat.le_of_eq g197.symm)
        have Z197 : n0 ≤ h197.size := Nat.le_trans Z177 E197.1
        have V197 : Arv Z h197 b197 k197 .char (1 : Int32) [(.int (0 : Int32))] (.int (0 : Int32)) := (Arv.new A197 (by decide)).pad (pad_rep [] (.int (0 : Int32)) 1)
        replace G : Gets p e below _ (T197.setTop (mkF m 166 #[.val (.int i0), .val (.int i1), .val (.int i2), .val (.int i3), .val (.int i4), .val (.int (2 : Int32)), .val (.int (1 : Int32)), .val (.int (0 : Int32)), .val (.int c0), .val (.int c1), .val (.int c2), .val (.int o0), .val (.int o1), .val (.int o2), .val (.ref b5), .val .null, .unset, .unset] [(.ref b197)])) := fun t k => G t (st197 t k)
        replace G := own_astore (q := 168) (l' := #[.val (.int i0), .val (.int i1), .val (.int i2), .val (.int i3), .val (.int i4), .val (.int (2 : Int32)), .val (.int (1 : Int32)), .val (.int (0 : Int32)), .val (.int c0), .val (.int c1), .val (.int c2), .val (.int o0), .val (.int o1), .val (.int o2), .val (.ref b5), .val (.ref b197), .unset, .unset]) G X197.here hx (hb hby at_166) rfl rfl rfl
        replace G := own_iload (q := 170) G X197.here hx (hb hby at_168) rfl rfl
        have hc170_202 : (0 : Int32) < (1 : Int32) := by decide
        replace G := own_ifNo (q := 173) G X197.here hx (hb hby at_170) ((if0 _ _).trans (tlt hc170_202).2.2.2) rfl
        replace G := own_aload (q := 175) G X197.here hx (hb hby at_173) rfl rfl rfl
        replace G := own_iconst (q := 176) G X197.here hx (hb hby at_175) (v := (0 : Int32)) (by decide) rfl
        replace G := own_iload (q := 178) G X197.here hx (hb hby at_176) rfl rfl
        obtain ⟨c203, Ar203, q203, S203, N203', H203, G203'⟩ := id V197
        have hin203 : ¬ ((0 : Int32) < 0 ∨ c203.slots.size ≤ ((0 : Int32)).toNatClampNeg) := inb_of S203 ⟨by decide, by decide⟩
        obtain ⟨T203, h203, X203, e203, W203, st203⟩ := stC X197 hx hZ e197 Ar203 (j := (0 : Int32)) hin203 (g := (mkF m 178 #[.val (.int i0), .val (.int i1), .val (.int i2), .val (.int i3), .val (.int i4), .val (.int (2 : Int32)), .val (.int (1 : Int32)), .val (.int (0 : Int32)), .val (.int c0), .val (.int c1), .val (.int c2), .val (.int o0), .val (.int o1), .val (.int o2), .val (.ref b5), .val (.ref b197), .unset, .unset] [(.int o0), (.int (0 : Int32)), (.ref b197)])) rfl rfl (hb hby at_178)
        have N203 := Fr.snoc X203 N177 ge_b197
        have Z203 : n0 ≤ h203.size := Nat.le_trans Z197 (Keep.of_wr W203).1
        have V203 : Arv Z h203 b197 k197 .char (1 : Int32) [(.int (nar .char o0))] (.int (0 : Int32)) := Arv.set Ar203 q203 S203 N203' H203 G203' (fits_nar_char _) W203 0 rfl (Nat.le_of_ble_eq_true rfl)
        replace G : Gets p e below _ (T203.setTop (mkF m 179 #[.val (.int i0), .val (.int i1), .val (.int i2), .val (.int i3), .val (.int i4), .val (.int (2 : Int32)), .val (.int (1 : Int32)), .val (.int (0 : Int32)), .val (.int c0), .val (.int c1), .val (.int c2), .val (.int o0), .val (.int o1), .val (.int o2), .val (.ref b5), .val (.ref b197), .unset, .unset] [])) := fun t k => G t (st203 t k)
        replace G := own_iload (q := 181) G X203.here hx (hb hby at_179) rfl rfl
        replace G := own_iconst (q := 182) G X203.here hx (hb hby at_181) (v := (1 : Int32)) (by decide) rfl
        have hc182_204 : ¬ ((1 : Int32) < (1 : Int32)) := by decide
        replace G := own_icmpYes (q := 191) G X203.here hx (hb hby at_182) (flt hc182_204).2.2.2 (by decide) (by decide)
        replace G := own_iload (q := 193) G X203.here hx (hb hby at_191) rfl rfl
        replace G := own_iconst (q := 194) G X203.here hx (hb hby at_193) (v := (2 : Int32)) (by decide) rfl
        have hc194_205 : ¬ ((2 : Int32) < (1 : Int32)) := by decide
        replace G := own_icmpYes (q := 203) G X203.here hx (hb hby at_194) (flt hc194_205).2.2.2 (by decide) (by decide)
        replace G := own_aload (q := 205) G X203.here hx (hb hby at_203) rfl rfl rfl
        replace G := own_aload (q := 207) G X203.here hx (hb hby at_205) rfl rfl rfl
        have F207 : Exa Z h203 b5 "com/example/leafcutter/leafcutter/io/TextBuffer" := (((F178.keep K177q).ext E197).wr W203)
        have F208 : Fld Z h203 b5 "com/example/leafcutter/leafcutter/io/TextBuffer" "length" "I" (.int (2 : Int32)) := ((B177_1.ext E197).other W203 (Or.inl ne199))
        obtain ⟨cq206, kq206, q206a, q206b, q206c⟩ := isOf hZ e203 F207
        obtain ⟨_, _, ⟨T206, L206, kk206, nn206⟩, -, X206, ⟨Lc206, hQ206, l206, y206, z206⟩, st206⟩ := X203.virtualBack hx (y := (⟨"com/example/leafcutter/leafcutter/io/TextBuffer", "contentEquals", "([C)Z"⟩ : MethodName)) (z := (⟨"com/example/leafcutter/leafcutter/io/TextBuffer", "contentEquals", "([C)Z"⟩ : MethodName)) hown (mvT hZ (hw _ (List.mem_of_getElem? (i := 22) rfl))) (mvT hZ (hw _ (List.mem_of_getElem? (i := 23) rfl))) (notFace_of_selects (args := #[]) (mvT hZ (hw _ (List.mem_of_getElem? (i := 25) rfl)))) (mvT hZ (hw _ (List.mem_of_getElem? (i := 25) rfl))) (mvT hZ (hw _ (List.mem_of_getElem? (i := 24) rfl))) (by decide) (backOf (W := 0) (rm4n2m1 l Z a0 hw [] b5 b197 k197 (nar .char o0) h203 n0 Z203 F208 V203) hZ (hw _ (List.mem_of_getElem? (i := 26) rfl)) (hw _ (List.mem_of_getElem? (i := 2) rfl)) (by decide) (by decide)) q206a q206c (g := (mkF m 207 #[.val (.int i0), .val (.int i1), .val (.int i2), .val (.int i3), .val (.int i4), .val (.int (2 : Int32)), .val (.int (1 : Int32)), .val (.int (0 : Int32)), .val (.int c0), .val (.int c1), .val (.int c2), .val (.int o0), .val (.int o1), .val (.int o2), .val (.ref b5), .val (.ref b197), .unset, .unset] [(.ref b197), (.ref b5)])) rfl (by rw [hml]; rfl) (Steps.refl _) (argsL := [(.ref b197)]) (rest := []) (lenOf pd_7 rfl) rfl (by show 2 * 0 + _ ≤ _; exact Nat.le_of_eq rfl) (hb hby at_207) (fun _ _ => ⟨rfl, e203, (by decide : 3 + 0 ≤ _), (by decide : 21 + 0 ≤ _)⟩)
        dsimp only [Pt.U, Pt.locs, Pt.cells, Pt.slots] at X206 l206 y206 z206 st206 hQ206
        subst l206 y206 z206
        obtain ⟨rfl, N206q, e206⟩ := hQ206
        have N206 := Fr.app N203 N206q
        replace G : Gets p e below _ (T206.setTop (mkF m 210 #[.val (.int i0), .val (.int i1), .val (.int i2), .val (.int i3), .val (.int i4), .val (.int (2 : Int32)), .val (.int (1 : Int32)), .val (.int (0 : Int32)), .val (.int c0), .val (.int c1), .val (.int c2), .val (.int o0), .val (.int o1), .val (.int o2), .val (.ref b5), .val (.ref b197), .unset, .unset] [(.int (0 : Int32))])) := fun t k => G t (st206.trans k)
        replace G := own_istore (q := 212) (l' := #[.val (.int i0), .val (.int i1), .val (.int i2), .val (.int i3), .val (.int i4), .val (.int (2 : Int32)), .val (.int (1 : Int32)), .val (.int (0 : Int32)), .val (.int c0), .val (.int c1), .val (.int c2), .val (.int o0), .val (.int o1), .val (.int o2), .val (.ref b5), .val (.ref b197), .val (.int (0 : Int32)), .unset]) G X206.here hx (hb hby at_210) rfl rfl
        replace G := own_iload (q := 214) G X206.here hx (hb hby at_212) rfl rfl
        have hc214_209 : (0 : Int32) = (0 : Int32) := by decide
        replace G := own_ifNo (q := 217) G X206.here hx (hb hby at_214) ((if0 _ _).trans (teq hc214_209).2) rfl
        replace G := own_iload (q := 219) G X206.here hx (hb hby at_217) rfl rfl
        replace G := own_iload (q := 221) G X206.here hx (hb hby at_219) rfl rfl
        have hc221_210 : ¬ ((1 : Int32) = (2 : Int32)) := by decide
        replace G := own_icmpYes (q := 267) G X206.here hx (hb hby at_221) (feq hc221_210).2 (by decide) (by decide)
        replace G := own_iconst (q := 268) G X206.here hx (hb hby at_267) (v := (0 : Int32)) (by decide) rfl
        replace G := own_istore (q := 270) (l' := #[.val (.int i0), .val (.int i1), .val (.int i2), .val (.int i3), .val (.int i4), .val (.int (2 : Int32)), .val (.int (1 : Int32)), .val (.int (0 : Int32)), .val (.int c0), .val (.int c1), .val (.int c2), .val (.int o0), .val (.int o1), .val (.int o2), .val (.ref b5), .val (.ref b197), .val (.int (0 : Int32)), .val (.int (0 : Int32))]) G X206.here hx (hb hby at_268) rfl rfl
        replace G := own_iload (q := 272) G X206.here hx (hb hby at_270) rfl rfl
        replace G := own_iload (q := 274) G X206.here hx (hb hby at_272) rfl rfl
        have hc274_211 : (0 : Int32) = (0 : Int32) := by decide
        replace G := own_icmpNo (q := 277) G X206.here hx (hb hby at_274) (teq hc274_211).2 rfl
        replace G := own_aload (q := 279) G X206.here hx (hb hby at_277) rfl rfl rfl
        obtain ⟨cq212, kq212, q212a, q212b, q212c⟩ := isOf hZ e206 F207
        obtain ⟨_, _, ⟨T212, L212, kk212, nn212⟩, -, X212, ⟨Lc212, hQ212, l212, y212, z212⟩, st212⟩ := X206.virtualBack hx (y := (⟨"com/example/leafcutter/leafcutter/io/TextBuffer", "length", "()I"⟩ : MethodName)) (z := (⟨"com/example/leafcutter/leafcutter/io/TextBuffer", "length", "()I"⟩ : MethodName)) hown (mvT hZ (hw _ (List.mem_of_getElem? (i := 29) rfl))) (mvT hZ (hw _ (List.mem_of_getElem? (i := 30) rfl))) (notFace_of_selects (args := #[]) (mvT hZ (hw _ (List.mem_of_getElem? (i := 32) rfl)))) (mvT hZ (hw _ (List.mem_of_getElem? (i := 32) rfl))) (mvT hZ (hw _ (List.mem_of_getElem? (i := 31) rfl))) (by decide) (backOf (W := 0) (rm5k2 l Z a0 hw [] b5 h203 n0 Z203 F208) hZ (hw _ (List.mem_of_getElem? (i := 33) rfl)) (hw _ (List.mem_of_getElem? (i := 2) rfl)) (by decide) (by decide)) q212a q212c (g := (mkF m 279 #[.val (.int i0), .val (.int i1), .val (.int i2), .val (.int i3), .val (.int i4), .val (.int (2 : Int32)), .val (.int (1 : Int32)), .val (.int (0 : Int32)), .val (.int c0), .val (.int c1), .val (.int c2), .val (.int o0), .val (.int o1), .val (.int o2), .val (.ref b5), .val (.ref b197), .val (.int (0 : Int32)), .val (.int (0 : Int32))] [(.ref b5)])) rfl (by rw [hml]; rfl) (Steps.refl _) (argsL := []) (rest := []) (lenOf pd_8 rfl) rfl (by show 2 * 0 + _ ≤ _; exact Nat.le_of_eq rfl) (hb hby at_279) (fun _ _ => ⟨rfl, e206, (by decide : 3 + 0 ≤ _), (by decide : 21 + 0 ≤ _)⟩)
        dsimp only [Pt.U, Pt.locs, Pt.cells, Pt.slots] at X212 l212 y212 z212 st212 hQ212
        subst l212 y212 z212
        obtain ⟨rfl, N212q, e212⟩ := hQ212
        have N212 := Fr.app N206 N212q
        replace G : Gets p e below _ (T212.setTop (mkF m 282 #[.val (.int i0), .val (.int i1), .val (.int i2), .val (.int i3), .val (.int i4), .val (.int (2 : Int32)), .val (.int (1 : Int32)), .val (.int (0 : Int32)), .val (.int c0), .val (.int c1), .val (.int c2), .val (.int o0), .val (.int o1), .val (.int o2), .val (.ref b5), .val (.ref b197), .val (.int (0 : Int32)), .val (.int (0 : Int32))] [(.int (2 : Int32))])) := fun t k => G t (st212.trans k)
        replace G := own_iload (q := 284) G X212.here hx (hb hby at_282) rfl rfl
        have hc284_213 : (2 : Int32) = (2 : Int32) := by decide
        replace G := own_icmpNo (q := 287) G X212.here hx (hb hby at_284) (teq hc284_213).2 rfl
        replace G := own_iconst (q := 288) G X212.here hx (hb hby at_287) (v := (1 : Int32)) (by decide) rfl
        replace G := own_goto (q := 292) G X212.here hx (hb hby at_288) (by decide) (by decide)
        obtain ⟨fs, hr, hrun, hended, hW, hsame⟩ := X212.leave (v := some (.int (1 : Int32))) (fun h => by rw [Bd.returns] at h; cases h)
        refine ⟨_, _, G _ (retOut X212 hx Bd.returns rfl (Or.inl ⟨rfl, Or.inr (Or.inl rfl), _, rfl⟩) (hb hby at_292) hr), hrun, hended, _, _, rfl, ?_, ⟨_, rfl⟩, hW, hsame.mono (by decide) (by decide)⟩
        show Q0 Z i0 i1 i2 i3 i4 sa ks h0 n0 _ T212.heap _
        rw [e212]
        exact ⟨rfl, N212⟩
      · replace G := own_iload (q := 164) G X177.here hx (hb hby at_162) rfl rfl
        obtain ⟨T214, h214, k214, X214, e214, E214, A214, st214⟩ := newP X177 hx hZ (hw _ (List.mem_of_getElem? (i := 21) rfl)) rfl (g := (mkF m 164 #[.val (.int i0), .val (.int i1), .val (.int i2), .val (.int i3), .val (.int i4), .val (.int (2 : Int32)), .val (.int (2 : Int32)), .val (.int (0 : Int32)), .val (.int c0), .val (.int c1), .val (.int c2), .val (.int o0), .val (.int o1), .val (.int o2), .val (.ref b5), .val .null, .unset, .unset] [(.int (2 : Int32))])) rfl (hb hby at_164) rfl (by decide) (cap := 2) (by decide) (by decide) (by decide) (by decide)
        obtain ⟨b214, g214⟩ : ∃ z, z = T177.heap.size := ⟨_, rfl⟩
        rw [← g214] at A214 st214
        have ne215 : b_171 ≠ b214 := Nat.ne_of_lt (Nat.lt_of_lt_of_le B177_4.lt (Nat.le_of_eq g214.symm))
        have ne216 : b5 ≠ b214 := Nat.ne_of_lt (Nat.lt_of_lt_of_le B177_3.lt (Nat.le_of_eq g214.symm))
        have F217 : Arv Z T177.heap sa ks .char (0 : Int32) [] (.int (0 : Int32)) := ((F173.keep K171q (ninS ne6 nin0)).keep K177q (ninS ne6 (ninS ne175 nin0)))
        have ne218 : sa ≠ b214 := Nat.ne_of_lt (Nat.lt_of_lt_of_le F217.lt (Nat.le_of_eq g214.symm))
        have ge_b214 : n0 ≤ b214 := Nat.le_trans Z177 (Nat.le_of_eq g214.symm)
        have Z214 : n0 ≤ h214.size := Nat.le_trans Z177 E214.1
        have V214 : Arv Z h214 b214 k214 .char (2 : Int32) [(.int (0 : Int32)), (.int (0 : Int32))] (.int (0 : Int32)) := (Arv.new A214 (by decide)).pad (pad_rep [] (.int (0 : Int32)) 2)
        replace G : Gets p e below _ (T214.setTop (mkF m 166 #[.val (.int i0), .val (.int i1), .val (.int i2), .val (.int i3), .val (.int i4), .val (.int (2 : Int32)), .val (.int (2 : Int32)), .val (.int (0 : Int32)), .val (.int c0), .val (.int c1), .val (.int c2), .val (.int o0), .val (.int o1), .val (.int o2), .val (.ref b5), .val .null, .unset, .unset] [(.ref b214)])) := fun t k => G t (st214 t k)
        replace G := own_astore (q := 168) (l' := #[.val (.int i0), .val (.int i1), .val (.int i2), .val (.int i3), .val (.int i4), .val (.int (2 : Int32)), .val (.int (2 : Int32)), .val (.int (0 : Int32)), .val (.int c0), .val (.int c1), .val (.int c2), .val (.int o0), .val (.int o1), .val (.int o2), .val (.ref b5), .val (.ref b214), .unset, .unset]) G X214.here hx (hb hby at_166) rfl rfl rfl
        replace G := own_iload (q := 170) G X214.here hx (hb hby at_168) rfl rfl
        have hc170_219 : (0 : Int32) < (2 : Int32) := by decide
        replace G := own_ifNo (q := 173) G X214.here hx (hb hby at_170) ((if0 _ _).trans (tlt hc170_219).2.2.2) rfl
        replace G := own_aload (q := 175) G X214.here hx (hb hby at_173) rfl rfl rfl
        replace G := own_iconst (q := 176) G X214.here hx (hb hby at_175) (v := (0 : Int32)) (by decide) rfl
        replace G := own_iload (q := 178) G X214.here hx (hb hby at_176) rfl rfl
        obtain ⟨c220, Ar220, q220, S220, N220', H220, G220'⟩ := id V214
        have hin220 : ¬ ((0 : Int32) < 0 ∨ c220.slots.size ≤ ((0 : Int32)).toNatClampNeg) := inb_of S220 ⟨by decide, by decide⟩
        obtain ⟨T220, h220, X220, e220, W220, st220⟩ := stC X214 hx hZ e214 Ar220 (j := (0 : Int32)) hin220 (g := (mkF m 178 #[.val (.int i0), .val (.int i1), .val (.int i2), .val (.int i3), .val (.int i4), .val (.int (2 : Int32)), .val (.int (2 : Int32)), .val (.int (0 : Int32)), .val (.int c0), .val (.int c1), .val (.int c2), .val (.int o0), .val (.int o1), .val (.int o2), .val (.ref b5), .val (.ref b214), .unset, .unset] [(.int o0), (.int (0 : Int32)), (.ref b214)])) rfl rfl (hb hby at_178)
        have N220 := Fr.snoc X220 N177 ge_b214
        have Z220 : n0 ≤ h220.size := Nat.le_trans Z214 (Keep.of_wr W220).1
        have V220 : Arv Z h220 b214 k214 .char (2 : Int32) [(.int (nar .char o0)), (.int (0 : Int32))] (.int (0 : Int32)) := Arv.set Ar220 q220 S220 N220' H220 G220' (fits_nar_char _) W220 0 rfl (Nat.le_of_ble_eq_true rfl)
        replace G : Gets p e below _ (T220.setTop (mkF m 179 #[.val (.int i0), .val (.int i1), .val (.int i2), .val (.int i3), .val (.int i4), .val (.int (2 : Int32)), .val (.int (2 : Int32)), .val (.int (0 : Int32)), .val (.int c0), .val (.int c1), .val (.int c2), .val (.int o0), .val (.int o1), .val (.int o2), .val (.ref b5), .val (.ref b214), .unset, .unset] [])) := fun t k => G t (st220 t k)
        replace G := own_iload (q := 181) G X220.here hx (hb hby at_179) rfl rfl
        replace G := own_iconst (q := 182) G X220.here hx (hb hby at_181) (v := (1 : Int32)) (by decide) rfl
        have hc182_221 : (1 : Int32) < (2 : Int32) := by decide
        replace G := own_icmpNo (q := 185) G X220.here hx (hb hby at_182) (tlt hc182_221).2.2.2 rfl
        replace G := own_aload (q := 187) G X220.here hx (hb hby at_185) rfl rfl rfl
        replace G := own_iconst (q := 188) G X220.here hx (hb hby at_187) (v := (1 : Int32)) (by decide) rfl
        replace G := own_iload (q := 190) G X220.here hx (hb hby at_188) rfl rfl
        obtain ⟨c222, Ar222, q222, S222, N222', H222, G222'⟩ := id V220
        have hin222 : ¬ ((1 : Int32) < 0 ∨ c222.slots.size ≤ ((1 : Int32)).toNatClampNeg) := inb_of S222 ⟨by decide, by decide⟩
        obtain ⟨T222, h222, X222, e222, W222, st222⟩ := stC X220 hx hZ e220 Ar222 (j := (1 : Int32)) hin222 (g := (mkF m 190 #[.val (.int i0), .val (.int i1), .val (.int i2), .val (.int i3), .val (.int i4), .val (.int (2 : Int32)), .val (.int (2 : Int32)), .val (.int (0 : Int32)), .val (.int c0), .val (.int c1), .val (.int c2), .val (.int o0), .val (.int o1), .val (.int o2), .val (.ref b5), .val (.ref b214), .unset, .unset] [(.int o1), (.int (1 : Int32)), (.ref b214)])) rfl rfl (hb hby at_190)
        have N222 := Fr.snoc X222 N220 ge_b214
        have Z222 : n0 ≤ h222.size := Nat.le_trans Z220 (Keep.of_wr W222).1
        have V222 : Arv Z h222 b214 k214 .char (2 : Int32) [(.int (nar .char o0)), (.int (nar .char o1))] (.int (0 : Int32)) := Arv.set Ar222 q222 S222 N222' H222 G222' (fits_nar_char _) W222 1 rfl (Nat.le_of_ble_eq_true rfl)
        replace G : Gets p e below _ (T222.setTop (mkF m 191 #[.val (.int i0), .val (.int i1), .val (.int i2), .val (.int i3), .val (.int i4), .val (.int (2 : Int32)), .val (.int (2 : Int32)), .val (.int (0 : Int32)), .val (.int c0), .val (.int c1), .val (.int c2), .val (.int o0), .val (.int o1), .val (.int o2), .val (.ref b5), .val (.ref b214), .unset, .unset] [])) := fun t k => G t (st222 t k)
        replace G := own_iload (q := 193) G X222.here hx (hb hby at_191) rfl rfl
        replace G := own_iconst (q := 194) G X222.here hx (hb hby at_193) (v := (2 : Int32)) (by decide) rfl
        have hc194_223 : ¬ ((2 : Int32) < (2 : Int32)) := by decide
        replace G := own_icmpYes (q := 203) G X222.here hx (hb hby at_194) (flt hc194_223).2.2.2 (by decide) (by decide)
        replace G := own_aload (q := 205) G X222.here hx (hb hby at_203) rfl rfl rfl
        replace G := own_aload (q := 207) G X222.here hx (hb hby at_205) rfl rfl rfl
        have F225 : Exa Z h222 b5 "com/example/leafcutter/leafcutter/io/TextBuffer" := ((((F178.keep K177q).ext E214).wr W220).wr W222)
        have F226 : Fld Z h222 b5 "com/example/leafcutter/leafcutter/io/TextBuffer" "chars" "[C" (.ref b_171) := (((B177_0.ext E214).other W220 (Or.inl ne216)).other W222 (Or.inl ne216))
        have F227 : Fld Z h222 b5 "com/example/leafcutter/leafcutter/io/TextBuffer" "length" "I" (.int (2 : Int32)) := (((B177_1.ext E214).other W220 (Or.inl ne216)).other W222 (Or.inl ne216))
        have F228 : Arv Z h222 b_171 kb_171 .char (16 : Int32) [(.int (nar .char c0)), (.int (nar .char c1)), (.int (0 : Int32)), (.int (0 : Int32)), (.int (0 : Int32)), (.int (0 : Int32)), (.int (0 : Int32)), (.int (0 : Int32)), (.int (0 : Int32)), (.int (0 : Int32)), (.int (0 : Int32)), (.int (0 : Int32)), (.int (0 : Int32)), (.int (0 : Int32)), (.int (0 : Int32)), (.int (0 : Int32))] (.int (0 : Int32)) := (((B177_4.ext E214).other W220 ne215).other W222 ne215)
        obtain ⟨cq224, kq224, q224a, q224b, q224c⟩ := isOf hZ e222 F225
        obtain ⟨_, _, ⟨T224, L224, kk224, nn224⟩, -, X224, ⟨Lc224, hQ224, l224, y224, z224⟩, st224⟩ := X222.virtualBack hx (y := (⟨"com/example/leafcutter/leafcutter/io/TextBuffer", "contentEquals", "([C)Z"⟩ : MethodName)) (z := (⟨"com/example/leafcutter/leafcutter/io/TextBuffer", "contentEquals", "([C)Z"⟩ : MethodName)) hown (mvT hZ (hw _ (List.mem_of_getElem? (i := 22) rfl))) (mvT hZ (hw _ (List.mem_of_getElem? (i := 23) rfl))) (notFace_of_selects (args := #[]) (mvT hZ (hw _ (List.mem_of_getElem? (i := 25) rfl)))) (mvT hZ (hw _ (List.mem_of_getElem? (i := 25) rfl))) (mvT hZ (hw _ (List.mem_of_getElem? (i := 24) rfl))) (by decide) (backOf (W := 0) (rm4n2m2 l Z a0 hw [] b5 b214 b_171 kb_171 k214 (nar .char c0) (nar .char c1) (nar .char o0) (nar .char o1) h222 n0 Z222 F226 F227 F228 V222) hZ (hw _ (List.mem_of_getElem? (i := 26) rfl)) (hw _ (List.mem_of_getElem? (i := 2) rfl)) (by decide) (by decide)) q224a q224c (g := (mkF m 207 #[.val (.int i0), .val (.int i1), .val (.int i2), .val (.int i3), .val (.int i4), .val (.int (2 : Int32)), .val (.int (2 : Int32)), .val (.int (0 : Int32)), .val (.int c0), .val (.int c1), .val (.int c2), .val (.int o0), .val (.int o1), .val (.int o2), .val (.ref b5), .val (.ref b214), .unset, .unset] [(.ref b214), (.ref b5)])) rfl (by rw [hml]; rfl) (Steps.refl _) (argsL := [(.ref b214)]) (rest := []) (lenOf pd_7 rfl) rfl (by show 2 * 0 + _ ≤ _; exact Nat.le_of_eq rfl) (hb hby at_207) (fun _ _ => ⟨rfl, e222, (by decide : 3 + 0 ≤ _), (by decide : 22 + 0 ≤ _)⟩)
        dsimp only [Pt.U, Pt.locs, Pt.cells, Pt.slots] at X224 l224 y224 z224 st224 hQ224
        subst l224 y224 z224
        obtain ⟨rfl, N224q, e224⟩ := hQ224
        have N224 := Fr.app N222 N224q
        replace G : Gets p e below _ (T224.setTop (mkF m 210 #[.val (.int i0), .val (.int i1), .val (.int i2), .val (.int i3), .val (.int i4), .val (.int (2 : Int32)), .val (.int (2 : Int32)), .val (.int (0 : Int32)), .val (.int c0), .val (.int c1), .val (.int c2), .val (.int o0), .val (.int o1), .val (.int o2), .val (.ref b5), .val (.ref b214), .unset, .unset] [(.int (own_ce2 (nar .char c0) (nar .char c1) (nar .char o0) (nar .char o1)))])) := fun t k => G t (st224.trans k)
        replace G := own_istore (q := 212) (l' := #[.val (.int i0), .val (.int i1), .val (.int i2), .val (.int i3), .val (.int i4), .val (.int (2 : Int32)), .val (.int (2 : Int32)), .val (.int (0 : Int32)), .val (.int c0), .val (.int c1), .val (.int c2), .val (.int o0), .val (.int o1), .val (.int o2), .val (.ref b5), .val (.ref b214), .val (.int (own_ce2 (nar .char c0) (nar .char c1) (nar .char o0) (nar .char o1))), .unset]) G X224.here hx (hb hby at_210) rfl rfl
        replace G := own_iload (q := 214) G X224.here hx (hb hby at_212) rfl rfl
        have hc214_229 : (0 : Int32) = (0 : Int32) := by decide
        replace G := own_ifNo (q := 217) G X224.here hx (hb hby at_214) ((if0 _ _).trans (teq hc214_229).2) rfl
        replace G := own_iload (q := 219) G X224.here hx (hb hby at_217) rfl rfl
        replace G := own_iload (q := 221) G X224.here hx (hb hby at_219) rfl rfl
        have hc221_230 : (2 : Int32) = (2 : Int32) := by decide
        replace G := own_icmpNo (q := 224) G X224.here hx (hb hby at_221) (teq hc221_230).2 rfl
        replace G := own_iload (q := 226) G X224.here hx (hb hby at_224) rfl rfl
        replace G := own_iconst (q := 227) G X224.here hx (hb hby at_226) (v := (1 : Int32)) (by decide) rfl
        have hc227_231 : ¬ ((2 : Int32) < (1 : Int32)) := by decide
        replace G := own_icmpNo (q := 230) G X224.here hx (hb hby at_227) (flt hc227_231).1 rfl
        replace G := own_iload (q := 232) G X224.here hx (hb hby at_230) rfl rfl
        replace G := own_iload (q := 234) G X224.here hx (hb hby at_232) rfl rfl
        by_cases hc234_232 : o0 = c0
        · replace G := own_icmpNo (q := 237) G X224.here hx (hb hby at_234) (teq hc234_232).2 rfl
          replace G := own_iload (q := 239) G X224.here hx (hb hby at_237) rfl rfl
          replace G := own_iconst (q := 240) G X224.here hx (hb hby at_239) (v := (2 : Int32)) (by decide) rfl
          have hc240_233 : ¬ ((2 : Int32) < (2 : Int32)) := by decide
          replace G := own_icmpNo (q := 243) G X224.here hx (hb hby at_240) (flt hc240_233).1 rfl
          replace G := own_iload (q := 245) G X224.here hx (hb hby at_243) rfl rfl
          replace G := own_iload (q := 247) G X224.here hx (hb hby at_245) rfl rfl
          by_cases hc247_234 : o1 = c1
          · replace G := own_icmpNo (q := 250) G X224.here hx (hb hby at_247) (teq hc247_234).2 rfl
            replace G := own_iload (q := 252) G X224.here hx (hb hby at_250) rfl rfl
            replace G := own_iconst (q := 253) G X224.here hx (hb hby at_252) (v := (3 : Int32)) (by decide) rfl
            have hc253_235 : (2 : Int32) < (3 : Int32) := by decide
            replace G := own_icmpYes (q := 263) G X224.here hx (hb hby at_253) (tlt hc253_235).1 (by decide) (by decide)
            replace G := own_iconst (q := 264) G X224.here hx (hb hby at_263) (v := (1 : Int32)) (by decide) rfl
            replace G := own_goto (q := 268) G X224.here hx (hb hby at_264) (by decide) (by decide)
            replace G := own_istore (q := 270) (l' := #[.val (.int i0), .val (.int i1), .val (.int i2), .val (.int i3), .val (.int i4), .val (.int (2 : Int32)), .val (.int (2 : Int32)), .val (.int (0 : Int32)), .val (.int c0), .val (.int c1), .val (.int c2), .val (.int o0), .val (.int o1), .val (.int o2), .val (.ref b5), .val (.ref b214), .val (.int (own_ce2 (nar .char c0) (nar .char c1) (nar .char o0) (nar .char o1))), .val (.int (1 : Int32))]) G X224.here hx (hb hby at_268) rfl rfl
            replace G := own_iload (q := 272) G X224.here hx (hb hby at_270) rfl rfl
            replace G := own_iload (q := 274) G X224.here hx (hb hby at_272) rfl rfl
            have hc274_236 : (own_ce2 (nar .char c0) (nar .char c1) (nar .char o0) (nar .char o1)) = (1 : Int32) := by rw [q0, r0, q1, r1]; simp [own_ce1, own_ce2, own_ce3, hc234_232, hc247_234]
            replace G := own_icmpNo (q := 277) G X224.here hx (hb hby at_274) (teq hc274_236).2 rfl
            replace G := own_aload (q := 279) G X224.here hx (hb hby at_277) rfl rfl rfl
            obtain ⟨cq237, kq237, q237a, q237b, q237c⟩ := isOf hZ e224 F225
            obtain ⟨_, _, ⟨T237, L237, kk237, nn237⟩, -, X237, ⟨Lc237, hQ237, l237, y237, z237⟩, st237⟩ := X224.virtualBack hx (y := (⟨"com/example/leafcutter/leafcutter/io/TextBuffer", "length", "()I"⟩ : MethodName)) (z := (⟨"com/example/leafcutter/leafcutter/io/TextBuffer", "length", "()I"⟩ : MethodName)) hown (mvT hZ (hw _ (List.mem_of_getElem? (i := 29) rfl))) (mvT hZ (hw _ (List.mem_of_getElem? (i := 30) rfl))) (notFace_of_selects (args := #[]) (mvT hZ (hw _ (List.mem_of_getElem? (i := 32) rfl)))) (mvT hZ (hw _ (List.mem_of_getElem? (i := 32) rfl))) (mvT hZ (hw _ (List.mem_of_getElem? (i := 31) rfl))) (by decide) (backOf (W := 0) (rm5k2 l Z a0 hw [] b5 h222 n0 Z222 F227) hZ (hw _ (List.mem_of_getElem? (i := 33) rfl)) (hw _ (List.mem_of_getElem? (i := 2) rfl)) (by decide) (by decide)) q237a q237c (g := (mkF m 279 #[.val (.int i0), .val (.int i1), .val (.int i2), .val (.int i3), .val (.int i4), .val (.int (2 : Int32)), .val (.int (2 : Int32)), .val (.int (0 : Int32)), .val (.int c0), .val (.int c1), .val (.int c2), .val (.int o0), .val (.int o1), .val (.int o2), .val (.ref b5), .val (.ref b214), .val (.int (own_ce2 (nar .char c0) (nar .char c1) (nar .char o0) (nar .char o1))), .val (.int (1 : Int32))] [(.ref b5)])) rfl (by rw [hml]; rfl) (Steps.refl _) (argsL := []) (rest := []) (lenOf pd_8 rfl) rfl (by show 2 * 0 + _ ≤ _; exact Nat.le_of_eq rfl) (hb hby at_279) (fun _ _ => ⟨rfl, e224, (by decide : 3 + 0 ≤ _), (by decide : 22 + 0 ≤ _)⟩)
            dsimp only [Pt.U, Pt.locs, Pt.cells, Pt.slots] at X237 l237 y237 z237 st237 hQ237
            subst l237 y237 z237
            obtain ⟨rfl, N237q, e237⟩ := hQ237
            have N237 := Fr.app N224 N237q
            replace G : Gets p e below _ (T237.setTop (mkF m 282 #[.val (.int i0), .val (.int i1), .val (.int i2), .val (.int i3), .val (.int i4), .val (.int (2 : Int32)), .val (.int (2 : Int32)), .val (.int (0 : Int32)), .val (.int c0), .val (.int c1), .val (.int c2), .val (.int o0), .val (.int o1), .val (.int o2), .val (.ref b5), .val (.ref b214), .val (.int (own_ce2 (nar .char c0) (nar .char c1) (nar .char o0) (nar .char o1))), .val (.int (1 : Int32))] [(.int (2 : Int32))])) := fun t k => G t (st237.trans k)
            replace G := own_iload (q := 284) G X237.here hx (hb hby at_282) rfl rfl
            have hc284_238 : (2 : Int32) = (2 : Int32) := by decide
            replace G := own_icmpNo (q := 287) G X237.here hx (hb hby at_284) (teq hc284_238).2 rfl
            replace G := own_iconst (q := 288) G X237.here hx (hb hby at_287) (v := (1 : Int32)) (by decide) rfl
            replace G := own_goto (q := 292) G X237.here hx (hb hby at_288) (by decide) (by decide)
            obtain ⟨fs, hr, hrun, hended, hW, hsame⟩ := X237.leave (v := some (.int (1 : Int32))) (fun h => by rw [Bd.returns] at h; cases h)
            refine ⟨_, _, G _ (retOut X237 hx Bd.returns rfl (Or.inl ⟨rfl, Or.inr (Or.inl rfl), _, rfl⟩) (hb hby at_292) hr), hrun, hended, _, _, rfl, ?_, ⟨_, rfl⟩, hW, hsame.mono (by decide) (by decide)⟩
            show Q0 Z i0 i1 i2 i3 i4 sa ks h0 n0 _ T237.heap _
            rw [e237]
            exact ⟨rfl, N237⟩
          · replace G := own_icmpYes (q := 267) G X224.here hx (hb hby at_247) (feq hc247_234).2 (by decide) (by decide)
            replace G := own_iconst (q := 268) G X224.here hx (hb hby at_267) (v := (0 : Int32)) (by decide) rfl
            replace G := own_istore (q := 270) (l' := #[.val (.int i0), .val (.int i1), .val (.int i2), .val (.int i3), .val (.int i4), .val (.int (2 : Int32)), .val (.int (2 : Int32)), .val (.int (0 : Int32)), .val (.int c0), .val (.int c1), .val (.int c2), .val (.int o0), .val (.int o1), .val (.int o2), .val (.ref b5), .val (.ref b214), .val (.int (own_ce2 (nar .char c0) (nar .char c1) (nar .char o0) (nar .char o1))), .val (.int (0 : Int32))]) G X224.here hx (hb hby at_268) rfl rfl
            replace G := own_iload (q := 272) G X224.here hx (hb hby at_270) rfl rfl
            replace G := own_iload (q := 274) G X224.here hx (hb hby at_272) rfl rfl
            have hc274_239 : (own_ce2 (nar .char c0) (nar .char c1) (nar .char o0) (nar .char o1)) = (0 : Int32) := by rw [q0, r0, q1, r1]; simp [own_ce1, own_ce2, own_ce3, hc234_232, (Ne.symm hc247_234)]
            replace G := own_icmpNo (q := 277) G X224.here hx (hb hby at_274) (teq hc274_239).2 rfl
            replace G := own_aload (q := 279) G X224.here hx (hb hby at_277) rfl rfl rfl
            obtain ⟨cq240, kq240, q240a, q240b, q240c⟩ := isOf hZ e224 F225
            obtain ⟨_, _, ⟨T240, L240, kk240, nn240⟩, -, X240, ⟨Lc240, hQ240, l240, y240, z240⟩, st240⟩ := X224.virtualBack hx (y := (⟨"com/example/leafcutter/leafcutter/io/TextBuffer", "length", "()I"⟩ : MethodName)) (z := (⟨"com/example/leafcutter/leafcutter/io/TextBuffer", "length", "()I"⟩ : MethodName)) hown (mvT hZ (hw _ (List.mem_of_getElem? (i := 29) rfl))) (mvT hZ (hw _ (List.mem_of_getElem? (i := 30) rfl))) (notFace_of_selects (args := #[]) (mvT hZ (hw _ (List.mem_of_getElem? (i := 32) rfl)))) (mvT hZ (hw _ (List.mem_of_getElem? (i := 32) rfl))) (mvT hZ (hw _ (List.mem_of_getElem? (i := 31) rfl))) (by decide) (backOf (W := 0) (rm5k2 l Z a0 hw [] b5 h222 n0 Z222 F227) hZ (hw _ (List.mem_of_getElem? (i := 33) rfl)) (hw _ (List.mem_of_getElem? (i := 2) rfl)) (by decide) (by decide)) q240a q240c (g := (mkF m 279 #[.val (.int i0), .val (.int i1), .val (.int i2), .val (.int i3), .val (.int i4), .val (.int (2 : Int32)), .val (.int (2 : Int32)), .val (.int (0 : Int32)), .val (.int c0), .val (.int c1), .val (.int c2), .val (.int o0), .val (.int o1), .val (.int o2), .val (.ref b5), .val (.ref b214), .val (.int (own_ce2 (nar .char c0) (nar .char c1) (nar .char o0) (nar .char o1))), .val (.int (0 : Int32))] [(.ref b5)])) rfl (by rw [hml]; rfl) (Steps.refl _) (argsL := []) (rest := []) (lenOf pd_8 rfl) rfl (by show 2 * 0 + _ ≤ _; exact Nat.le_of_eq rfl) (hb hby at_279) (fun _ _ => ⟨rfl, e224, (by decide : 3 + 0 ≤ _), (by decide : 22 + 0 ≤ _)⟩)
            dsimp only [Pt.U, Pt.locs, Pt.cells, Pt.slots] at X240 l240 y240 z240 st240 hQ240
            subst l240 y240 z240
            obtain ⟨rfl, N240q, e240⟩ := hQ240
            have N240 := Fr.app N224 N240q
            replace G : Gets p e below _ (T240.setTop (mkF m 282 #[.val (.int i0), .val (.int i1), .val (.int i2), .val (.int i3), .val (.int i4), .val (.int (2 : Int32)), .val (.int (2 : Int32)), .val (.int (0 : Int32)), .val (.int c0), .val (.int c1), .val (.int c2), .val (.int o0), .val (.int o1), .val (.int o2), .val (.ref b5), .val (.ref b214), .val (.int (own_ce2 (nar .char c0) (nar .char c1) (nar .char o0) (nar .char o1))), .val (.int (0 : Int32))] [(.int (2 : Int32))])) := fun t k => G t (st240.trans k)
            replace G := own_iload (q := 284) G X240.here hx (hb hby at_282) rfl rfl
            have hc284_241 : (2 : Int32) = (2 : Int32) := by decide
            replace G := own_icmpNo (q := 287) G X240.here hx (hb hby at_284) (teq hc284_241).2 rfl
            replace G := own_iconst (q := 288) G X240.here hx (hb hby at_287) (v := (1 : Int32)) (by decide) rfl
            replace G := own_goto (q := 292) G X240.here hx (hb hby at_288) (by decide) (by decide)
            obtain ⟨fs, hr, hrun, hended, hW, hsame⟩ := X240.leave (v := some (.int (1 : Int32))) (fun h => by rw [Bd.returns] at h; cases h)
            refine ⟨_, _, G _ (retOut X240 hx Bd.returns rfl (Or.inl ⟨rfl, Or.inr (Or.inl rfl), _, rfl⟩) (hb hby at_292) hr), hrun, hended, _, _, rfl, ?_, ⟨_, rfl⟩, hW, hsame.mono (by decide) (by decide)⟩
            show Q0 Z i0 i1 i2 i3 i4 sa ks h0 n0 _ T240.heap _
            rw [e240]
            exact ⟨rfl, N240⟩
        · replace G := own_icmpYes (q := 267) G X224.here hx (hb hby at_234) (feq hc234_232).2 (by decide) (by decide)
          replace G := own_iconst (q := 268) G X224.here hx (hb hby at_267) (v := (0 : Int32)) (by decide) rfl
          replace G := own_istore (q := 270) (l' := #[.val (.int i0), .val (.int i1), .val (.int i2), .val (.int i3), .val (.int i4), .val (.int (2 : Int32)), .val (.int (2 : Int32)), .val (.int (0 : Int32)), .val (.int c0), .val (.int c1), .val (.int c2), .val (.int o0), .val (.int o1), .val (.int o2), .val (.ref b5), .val (.ref b214), .val (.int (own_ce2 (nar .char c0) (nar .char c1) (nar .char o0) (nar .char o1))), .val (.int (0 : Int32))]) G X224.here hx (hb hby at_268) rfl rfl
          replace G := own_iload (q := 272) G X224.here hx (hb hby at_270) rfl rfl
          replace G := own_iload (q := 274) G X224.here hx (hb hby at_272) rfl rfl
          have hc274_242 : (own_ce2 (nar .char c0) (nar .char c1) (nar .char o0) (nar .char o1)) = (0 : Int32) := by rw [q0, r0, q1, r1]; simp [own_ce1, own_ce2, own_ce3, (Ne.symm hc234_232)]
          replace G := own_icmpNo (q := 277) G X224.here hx (hb hby at_274) (teq hc274_242).2 rfl
          replace G := own_aload (q := 279) G X224.here hx (hb hby at_277) rfl rfl rfl
          obtain ⟨cq243, kq243, q243a, q243b, q243c⟩ := isOf hZ e224 F225
          obtain ⟨_, _, ⟨T243, L243, kk243, nn243⟩, -, X243, ⟨Lc243, hQ243, l243, y243, z243⟩, st243⟩ := X224.virtualBack hx (y := (⟨"com/example/leafcutter/leafcutter/io/TextBuffer", "length", "()I"⟩ : MethodName)) (z := (⟨"com/example/leafcutter/leafcutter/io/TextBuffer", "length", "()I"⟩ : MethodName)) hown (mvT hZ (hw _ (List.mem_of_getElem? (i := 29) rfl))) (mvT hZ (hw _ (List.mem_of_getElem? (i := 30) rfl))) (notFace_of_selects (args := #[]) (mvT hZ (hw _ (List.mem_of_getElem? (i := 32) rfl)))) (mvT hZ (hw _ (List.mem_of_getElem? (i := 32) rfl))) (mvT hZ (hw _ (List.mem_of_getElem? (i := 31) rfl))) (by decide) (backOf (W := 0) (rm5k2 l Z a0 hw [] b5 h222 n0 Z222 F227) hZ (hw _ (List.mem_of_getElem? (i := 33) rfl)) (hw _ (List.mem_of_getElem? (i := 2) rfl)) (by decide) (by decide)) q243a q243c (g := (mkF m 279 #[.val (.int i0), .val (.int i1), .val (.int i2), .val (.int i3), .val (.int i4), .val (.int (2 : Int32)), .val (.int (2 : Int32)), .val (.int (0 : Int32)), .val (.int c0), .val (.int c1), .val (.int c2), .val (.int o0), .val (.int o1), .val (.int o2), .val (.ref b5), .val (.ref b214), .val (.int (own_ce2 (nar .char c0) (nar .char c1) (nar .char o0) (nar .char o1))), .val (.int (0 : Int32))] [(.ref b5)])) rfl (by rw [hml]; rfl) (Steps.refl _) (argsL := []) (rest := []) (lenOf pd_8 rfl) rfl (by show 2 * 0 + _ ≤ _; exact Nat.le_of_eq rfl) (hb hby at_279) (fun _ _ => ⟨rfl, e224, (by decide : 3 + 0 ≤ _), (by decide : 22 + 0 ≤ _)⟩)
          dsimp only [Pt.U, Pt.locs, Pt.cells, Pt.slots] at X243 l243 y243 z243 st243 hQ243
          subst l243 y243 z243
          obtain ⟨rfl, N243q, e243⟩ := hQ243
          have N243 := Fr.app N224 N243q
          replace G : Gets p e below _ (T243.setTop (mkF m 282 #[.val (.int i0), .val (.int i1), .val (.int i2), .val (.int i3), .val (.int i4), .val (.int (2 : Int32)), .val (.int (2 : Int32)), .val (.int (0 : Int32)), .val (.int c0), .val (.int c1), .val (.int c2), .val (.int o0), .val (.int o1), .val (.int o2), .val (.ref b5), .val (.ref b214), .val (.int (own_ce2 (nar .char c0) (nar .char c1) (nar .char o0) (nar .char o1))), .val (.int (0 : Int32))] [(.int (2 : Int32))])) := fun t k => G t (st243.trans k)
          replace G := own_iload (q := 284) G X243.here hx (hb hby at_282) rfl rfl
          have hc284_244 : (2 : Int32) = (2 : Int32) := by decide
          replace G := own_icmpNo (q := 287) G X243.here hx (hb hby at_284) (teq hc284_244).2 rfl
          replace G := own_iconst (q := 288) G X243.here hx (hb hby at_287) (v := (1 : Int32)) (by decide) rfl
          replace G := own_goto (q := 292) G X243.here hx (hb hby at_288) (by decide) (by decide)
          obtain ⟨fs, hr, hrun, hended, hW, hsame⟩ := X243.leave (v := some (.int (1 : Int32))) (fun h => by rw [Bd.returns] at h; cases h)
          refine ⟨_, _, G _ (retOut X243 hx Bd.returns rfl (Or.inl ⟨rfl, Or.inr (Or.inl rfl), _, rfl⟩) (hb hby at_292) hr), hrun, hended, _, _, rfl, ?_, ⟨_, rfl⟩, hW, hsame.mono (by decide) (by decide)⟩
          show Q0 Z i0 i1 i2 i3 i4 sa ks h0 n0 _ T243.heap _
          rw [e243]
          exact ⟨rfl, N243⟩
      · replace G := own_iload (q := 164) G X177.here hx (hb hby at_162) rfl rfl
        obtain ⟨T245, h245, k245, X245, e245, E245, A245, st245⟩ := newP X177 hx hZ (hw _ (List.mem_of_getElem? (i := 21) rfl)) rfl (g := (mkF m 164 #[.val (.int i0), .val (.int i1), .val (.int i2), .val (.int i3), .val (.int i4), .val (.int (2 : Int32)), .val (.int (3 : Int32)), .val (.int (0 : Int32)), .val (.int c0), .val (.int c1), .val (.int c2), .val (.int o0), .val (.int o1), .val (.int o2), .val (.ref b5), .val .null, .unset, .unset] [(.int (3 : Int32))])) rfl (hb hby at_164) rfl (by decide) (cap := 3) (by decide) (by decide) (by decide) (by decide)
        obtain ⟨b245, g245⟩ : ∃ z, z = T177.heap.size := ⟨_, rfl⟩
        rw [← g245] at A245 st245
        have ne246 : b_171 ≠ b245 := Nat.ne_of_lt (Nat.lt_of_lt_of_le B177_4.lt (Nat.le_of_eq g245.symm))
        have ne247 : b5 ≠ b245 := Nat.ne_of_lt (Nat.lt_of_lt_of_le B177_3.lt (Nat.le_of_eq g245.symm))
        have F248 : Arv Z T177.heap sa ks .char (0 : Int32) [] (.int (0 : Int32)) := ((F173.keep K171q (ninS ne6 nin0)).keep K177q (ninS ne6 (ninS ne175 nin0)))
        have ne249 : sa ≠ b245 := Nat.ne_of_lt (Nat.lt_of_lt_of_le F248.lt (Nat.le_of_eq g245.symm))
        have ge_b245 : n0 ≤ b245 := Nat.le_trans Z177 (Nat.le_of_eq g245.symm)
        have Z245 : n0 ≤ h245.size := Nat.le_trans Z177 E245.1
        have V245 : Arv Z h245 b245 k245 .char (3 : Int32) [(.int (0 : Int32)), (.int (0 : Int32)), (.int (0 : Int32))] (.int (0 : Int32)) := (Arv.new A245 (by decide)).pad (pad_rep [] (.int (0 : Int32)) 3)
        replace G : Gets p e below _ (T245.setTop (mkF m 166 #[.val (.int i0), .val (.int i1), .val (.int i2), .val (.int i3), .val (.int i4), .val (.int (2 : Int32)), .val (.int (3 : Int32)), .val (.int (0 : Int32)), .val (.int c0), .val (.int c1), .val (.int c2), .val (.int o0), .val (.int o1), .val (.int o2), .val (.ref b5), .val .null, .unset, .unset] [(.ref b245)])) := fun t k => G t (st245 t k)
        replace G := own_astore (q := 168) (l' := #[.val (.int i0), .val (.int i1), .val (.int i2), .val (.int i3), .val (.int i4), .val (.int (2 : Int32)), .val (.int (3 : Int32)), .val (.int (0 : Int32)), .val (.int c0), .val (.int c1), .val (.int c2), .val (.int o0), .val (.int o1), .val (.int o2), .val (.ref b5), .val (.ref b245), .unset, .unset]) G X245.here hx (hb hby at_166) rfl rfl rfl
        replace G := own_iload (q := 170) G X245.here hx (hb hby at_168) rfl rfl
        have hc170_250 : (0 : Int32) < (3 : Int32) := by decide
        replace G := own_ifNo (q := 173) G X245.here hx (hb hby at_170) ((if0 _ _).trans (tlt hc170_250).2.2.2) rfl
        replace G := own_aload (q := 175) G X245.here hx (hb hby at_173) rfl rfl rfl
        replace G := own_iconst (q := 176) G X245.here hx (hb hby at_175) (v := (0 : Int32)) (by decide) rfl
        replace G := own_iload (q := 178) G X245.here hx (hb hby at_176) rfl rfl
        obtain ⟨c251, Ar251, q251, S251, N251', H251, G251'⟩ := id V245
        have hin251 : ¬ ((0 : Int32) < 0 ∨ c251.slots.size ≤ ((0 : Int32)).toNatClampNeg) := inb_of S251 ⟨by decide, by decide⟩
        obtain ⟨T251, h251, X251, e251, W251, st251⟩ := stC X245 hx hZ e245 Ar251 (j := (0 : Int32)) hin251 (g := (mkF m 178 #[.val (.int i0), .val (.int i1), .val (.int i2), .val (.int i3), .val (.int i4), .val (.int (2 : Int32)), .val (.int (3 : Int32)), .val (.int (0 : Int32)), .val (.int c0), .val (.int c1), .val (.int c2), .val (.int o0), .val (.int o1), .val (.int o2), .val (.ref b5), .val (.ref b245), .unset, .unset] [(.int o0), (.int (0 : Int32)), (.ref b245)])) rfl rfl (hb hby at_178)
        have N251 := Fr.snoc X251 N177 ge_b245
        have Z251 : n0 ≤ h251.size := Nat.le_trans Z245 (Keep.of_wr W251).1
        have V251 : Arv Z h251 b245 k245 .char (3 : Int32) [(.int (nar .char o0)), (.int (0 : Int32)), (.int (0 : Int32))] (.int (0 : Int32)) := Arv.set Ar251 q251 S251 N251' H251 G251' (fits_nar_char _) W251 0 rfl (Nat.le_of_ble_eq_true rfl)
        replace G : Gets p e below _ (T251.setTop (mkF m 179 #[.val (.int i0), .val (.int i1), .val (.int i2), .val (.int i3), .val (.int i4), .val (.int (2 : Int32)), .val (.int (3 : Int32)), .val (.int (0 : Int32)), .val (.int c0), .val (.int c1), .val (.int c2), .val (.int o0), .val (.int o1), .val (.int o2), .val (.ref b5), .val (.ref b245), .unset, .unset] [])) := fun t k => G t (st251 t k)
        replace G := own_iload (q := 181) G X251.here hx (hb hby at_179) rfl rfl
        replace G := own_iconst (q := 182) G X251.here hx (hb hby at_181) (v := (1 : Int32)) (by decide) rfl
        have hc182_252 : (1 : Int32) < (3 : Int32) := by decide
        replace G := own_icmpNo (q := 185) G X251.here hx (hb hby at_182) (tlt hc182_252).2.2.2 rfl
        replace G := own_aload (q := 187) G X251.here hx (hb hby at_185) rfl rfl rfl
        replace G := own_iconst (q := 188) G X251.here hx (hb hby at_187) (v := (1 : Int32)) (by decide) rfl
        replace G := own_iload (q := 190) G X251.here hx (hb hby at_188) rfl rfl
        obtain ⟨c253, Ar253, q253, S253, N253', H253, G253'⟩ := id V251
        have hin253 : ¬ ((1 : Int32) < 0 ∨ c253.slots.size ≤ ((1 : Int32)).toNatClampNeg) := inb_of S253 ⟨by decide, by decide⟩
        obtain ⟨T253, h253, X253, e253, W253, st253⟩ := stC X251 hx hZ e251 Ar253 (j := (1 : Int32)) hin253 (g := (mkF m 190 #[.val (.int i0), .val (.int i1), .val (.int i2), .val (.int i3), .val (.int i4), .val (.int (2 : Int32)), .val (.int (3 : Int32)), .val (.int (0 : Int32)), .val (.int c0), .val (.int c1), .val (.int c2), .val (.int o0), .val (.int o1), .val (.int o2), .val (.ref b5), .val (.ref b245), .unset, .unset] [(.int o1), (.int (1 : Int32)), (.ref b245)])) rfl rfl (hb hby at_190)
        have N253 := Fr.snoc X253 N251 ge_b245
        have Z253 : n0 ≤ h253.size := Nat.le_trans Z251 (Keep.of_wr W253).1
        have V253 : Arv Z h253 b245 k245 .char (3 : Int32) [(.int (nar .char o0)), (.int (nar .char o1)), (.int (0 : Int32))] (.int (0 : Int32)) := Arv.set Ar253 q253 S253 N253' H253 G253' (fits_nar_char _) W253 1 rfl (Nat.le_of_ble_eq_true rfl)
        replace G : Gets p e below _ (T253.setTop (mkF m 191 #[.val (.int i0), .val (.int i1), .val (.int i2), .val (.int i3), .val (.int i4), .val (.int (2 : Int32)), .val (.int (3 : Int32)), .val (.int (0 : Int32)), .val (.int c0), .val (.int c1), .val (.int c2), .val (.int o0), .val (.int o1), .val (.int o2), .val (.ref b5), .val (.ref b245), .unset, .unset] [])) := fun t k => G t (st253 t k)
        replace G := own_iload (q := 193) G X253.here hx (hb hby at_191) rfl rfl
        replace G := own_iconst (q := 194) G X253.here hx (hb hby at_193) (v := (2 : Int32)) (by decide) rfl
        have hc194_254 : (2 : Int32) < (3 : Int32) := by decide
        replace G := own_icmpNo (q := 197) G X253.here hx (hb hby at_194) (tlt hc194_254).2.2.2 rfl
        replace G := own_aload (q := 199) G X253.here hx (hb hby at_197) rfl rfl rfl
        replace G := own_iconst (q := 200) G X253.here hx (hb hby at_199) (v := (2 : Int32)) (by decide) rfl
        replace G := own_iload (q := 202) G X253.here hx (hb hby at_200) rfl rfl
        obtain ⟨c255, Ar255, q255, S255, N255', H255, G255'⟩ := id V253
        have hin255 : ¬ ((2 : Int32) < 0 ∨ c255.slots.size ≤ ((2 : Int32)).toNatClampNeg) := inb_of S255 ⟨by decide, by decide⟩
        obtain ⟨T255, h255, X255, e255, W255, st255⟩ := stC X253 hx hZ e253 Ar255 (j := (2 : Int32)) hin255 (g := (mkF m 202 #[.val (.int i0), .val (.int i1), .val (.int i2), .val (.int i3), .val (.int i4), .val (.int (2 : Int32)), .val (.int (3 : Int32)), .val (.int (0 : Int32)), .val (.int c0), .val (.int c1), .val (.int c2), .val (.int o0), .val (.int o1), .val (.int o2), .val (.ref b5), .val (.ref b245), .unset, .unset] [(.int o2), (.int (2 : Int32)), (.ref b245)])) rfl rfl (hb hby at_202)
        have N255 := Fr.snoc X255 N253 ge_b245
        have Z255 : n0 ≤ h255.size := Nat.le_trans Z253 (Keep.of_wr W255).1
        have V255 : Arv Z h255 b245 k245 .char (3 : Int32) [(.int (nar .char o0)), (.int (nar .char o1)), (.int (nar .char o2))] (.int (0 : Int32)) := Arv.set Ar255 q255 S255 N255' H255 G255' (fits_nar_char _) W255 2 rfl (Nat.le_of_ble_eq_true rfl)
        replace G : Gets p e below _ (T255.setTop (mkF m 203 #[.val (.int i0), .val (.int i1), .val (.int i2), .val (.int i3), .val (.int i4), .val (.int (2 : Int32)), .val (.int (3 : Int32)), .val (.int (0 : Int32)), .val (.int c0), .val (.int c1), .val (.int c2), .val (.int o0), .val (.int o1), .val (.int o2), .val (.ref b5), .val (.ref b245), .unset, .unset] [])) := fun t k => G t (st255 t k)
        replace G := own_aload (q := 205) G X255.here hx (hb hby at_203) rfl rfl rfl
        replace G := own_aload (q := 207) G X255.here hx (hb hby at_205) rfl rfl rfl
        have F257 : Exa Z h255 b5 "com/example/leafcutter/leafcutter/io/TextBuffer" := (((((F178.keep K177q).ext E245).wr W251).wr W253).wr W255)
        have F258 : Fld Z h255 b5 "com/example/leafcutter/leafcutter/io/TextBuffer" "length" "I" (.int (2 : Int32)) := ((((B177_1.ext E245).other W251 (Or.inl ne247)).other W253 (Or.inl ne247)).other W255 (Or.inl ne247))
        obtain ⟨cq256, kq256, q256a, q256b, q256c⟩ := isOf hZ e255 F257
        obtain ⟨_, _, ⟨T256, L256, kk256, nn256⟩, -, X256, ⟨Lc256, hQ256, l256, y256, z256⟩, st256⟩ := X255.virtualBack hx (y := (⟨"com/example/leafcutter/leafcutter/io/TextBuffer", "contentEquals", "([C)Z"⟩ : MethodName)) (z := (⟨"com/example/leafcutter/leafcutter/io/TextBuffer", "contentEquals", "([C)Z"⟩ : MethodName)) hown (mvT hZ (hw _ (List.mem_of_getElem? (i := 22) rfl))) (mvT hZ (hw _ (List.mem_of_getElem? (i := 23) rfl))) (notFace_of_selects (args := #[]) (mvT hZ (hw _ (List.mem_of_getElem? (i := 25) rfl)))) (mvT hZ (hw _ (List.mem_of_getElem? (i := 25) rfl))) (mvT hZ (hw _ (List.mem_of_getElem? (i := 24) rfl))) (by decide) (backOf (W := 0) (rm4n2m3 l Z a0 hw [] b5 b245 k245 (nar .char o0) (nar .char o1) (nar .char o2) h255 n0 Z255 F258 V255) hZ (hw _ (List.mem_of_getElem? (i := 26) rfl)) (hw _ (List.mem_of_getElem? (i := 2) rfl)) (by decide) (by decide)) q256a q256c (g := (mkF m 207 #[.val (.int i0), .val (.int i1), .val (.int i2), .val (.int i3), .val (.int i4), .val (.int (2 : Int32)), .val (.int (3 : Int32)), .val (.int (0 : Int32)), .val (.int c0), .val (.int c1), .val (.int c2), .val (.int o0), .val (.int o1), .val (.int o2), .val (.ref b5), .val (.ref b245), .unset, .unset] [(.ref b245), (.ref b5)])) rfl (by rw [hml]; rfl) (Steps.refl _) (argsL := [(.ref b245)]) (rest := []) (lenOf pd_7 rfl) rfl (by show 2 * 0 + _ ≤ _; exact Nat.le_of_eq rfl) (hb hby at_207) (fun _ _ => ⟨rfl, e255, (by decide : 3 + 0 ≤ _), (by decide : 23 + 0 ≤ _)⟩)
        dsimp only [Pt.U, Pt.locs, Pt.cells, Pt.slots] at X256 l256 y256 z256 st256 hQ256
        subst l256 y256 z256
        obtain ⟨rfl, N256q, e256⟩ := hQ256
        have N256 := Fr.app N255 N256q
        replace G : Gets p e below _ (T256.setTop (mkF m 210 #[.val (.int i0), .val (.int i1), .val (.int i2), .val (.int i3), .val (.int i4), .val (.int (2 : Int32)), .val (.int (3 : Int32)), .val (.int (0 : Int32)), .val (.int c0), .val (.int c1), .val (.int c2), .val (.int o0), .val (.int o1), .val (.int o2), .val (.ref b5), .val (.ref b245), .unset, .unset] [(.int (0 : Int32))])) := fun t k => G t (st256.trans k)
        replace G := own_istore (q := 212) (l' := #[.val (.int i0), .val (.int i1), .val (.int i2), .val (.int i3), .val (.int i4), .val (.int (2 : Int32)), .val (.int (3 : Int32)), .val (.int (0 : Int32)), .val (.int c0), .val (.int c1), .val (.int c2), .val (.int o0), .val (.int o1), .val (.int o2), .val (.ref b5), .val (.ref b245), .val (.int (0 : Int32)), .unset]) G X256.here hx (hb hby at_210) rfl rfl
        replace G := own_iload (q := 214) G X256.here hx (hb hby at_212) rfl rfl
        have hc214_259 : (0 : Int32) = (0 : Int32) := by decide
        replace G := own_ifNo (q := 217) G X256.here hx (hb hby at_214) ((if0 _ _).trans (teq hc214_259).2) rfl
        replace G := own_iload (q := 219) G X256.here hx (hb hby at_217) rfl rfl
        replace G := own_iload (q := 221) G X256.here hx (hb hby at_219) rfl rfl
        have hc221_260 : ¬ ((3 : Int32) = (2 : Int32)) := by decide
        replace G := own_icmpYes (q := 267) G X256.here hx (hb hby at_221) (feq hc221_260).2 (by decide) (by decide)
        replace G := own_iconst (q := 268) G X256.here hx (hb hby at_267) (v := (0 : Int32)) (by decide) rfl
        replace G := own_istore (q := 270) (l' := #[.val (.int i0), .val (.int i1), .val (.int i2), .val (.int i3), .val (.int i4), .val (.int (2 : Int32)), .val (.int (3 : Int32)), .val (.int (0 : Int32)), .val (.int c0), .val (.int c1), .val (.int c2), .val (.int o0), .val (.int o1), .val (.int o2), .val (.ref b5), .val (.ref b245), .val (.int (0 : Int32)), .val (.int (0 : Int32))]) G X256.here hx (hb hby at_268) rfl rfl
        replace G := own_iload (q := 272) G X256.here hx (hb hby at_270) rfl rfl
        replace G := own_iload (q := 274) G X256.here hx (hb hby at_272) rfl rfl
        have hc274_261 : (0 : Int32) = (0 : Int32) := by decide
        replace G := own_icmpNo (q := 277) G X256.here hx (hb hby at_274) (teq hc274_261).2 rfl
        replace G := own_aload (q := 279) G X256.here hx (hb hby at_277) rfl rfl rfl
        obtain ⟨cq262, kq262, q262a, q262b, q262c⟩ := isOf hZ e256 F257
        obtain ⟨_, _, ⟨T262, L262, kk262, nn262⟩, -, X262, ⟨Lc262, hQ262, l262, y262, z262⟩, st262⟩ := X256.virtualBack hx (y := (⟨"com/example/leafcutter/leafcutter/io/TextBuffer", "length", "()I"⟩ : MethodName)) (z := (⟨"com/example/leafcutter/leafcutter/io/TextBuffer", "length", "()I"⟩ : MethodName)) hown (mvT hZ (hw _ (List.mem_of_getElem? (i := 29) rfl))) (mvT hZ (hw _ (List.mem_of_getElem? (i := 30) rfl))) (notFace_of_selects (args := #[]) (mvT hZ (hw _ (List.mem_of_getElem? (i := 32) rfl)))) (mvT hZ (hw _ (List.mem_of_getElem? (i := 32) rfl))) (mvT hZ (hw _ (List.mem_of_getElem? (i := 31) rfl))) (by decide) (backOf (W := 0) (rm5k2 l Z a0 hw [] b5 h255 n0 Z255 F258) hZ (hw _ (List.mem_of_getElem? (i := 33) rfl)) (hw _ (List.mem_of_getElem? (i := 2) rfl)) (by decide) (by decide)) q262a q262c (g := (mkF m 279 #[.val (.int i0), .val (.int i1), .val (.int i2), .val (.int i3), .val (.int i4), .val (.int (2 : Int32)), .val (.int (3 : Int32)), .val (.int (0 : Int32)), .val (.int c0), .val (.int c1), .val (.int c2), .val (.int o0), .val (.int o1), .val (.int o2), .val (.ref b5), .val (.ref b245), .val (.int (0 : Int32)), .val (.int (0 : Int32))] [(.ref b5)])) rfl (by rw [hml]; rfl) (Steps.refl _) (argsL := []) (rest := []) (lenOf pd_8 rfl) rfl (by show 2 * 0 + _ ≤ _; exact Nat.le_of_eq rfl) (hb hby at_279) (fun _ _ => ⟨rfl, e256, (by decide : 3 + 0 ≤ _), (by decide : 23 + 0 ≤ _)⟩)
        dsimp only [Pt.U, Pt.locs, Pt.cells, Pt.slots] at X262 l262 y262 z262 st262 hQ262
        subst l262 y262 z262
        obtain ⟨rfl, N262q, e262⟩ := hQ262
        have N262 := Fr.app N256 N262q
        replace G : Gets p e below _ (T262.setTop (mkF m 282 #[.val (.int i0), .val (.int i1), .val (.int i2), .val (.int i3), .val (.int i4), .val (.int (2 : Int32)), .val (.int (3 : Int32)), .val (.int (0 : Int32)), .val (.int c0), .val (.int c1), .val (.int c2), .val (.int o0), .val (.int o1), .val (.int o2), .val (.ref b5), .val (.ref b245), .val (.int (0 : Int32)), .val (.int (0 : Int32))] [(.int (2 : Int32))])) := fun t k => G t (st262.trans k)
        replace G := own_iload (q := 284) G X262.here hx (hb hby at_282) rfl rfl
        have hc284_263 : (2 : Int32) = (2 : Int32) := by decide
        replace G := own_icmpNo (q := 287) G X262.here hx (hb hby at_284) (teq hc284_263).2 rfl
        replace G := own_iconst (q := 288) G X262.here hx (hb hby at_287) (v := (1 : Int32)) (by decide) rfl
        replace G := own_goto (q := 292) G X262.here hx (hb hby at_288) (by decide) (by decide)
        obtain ⟨fs, hr, hrun, hended, hW, hsame⟩ := X262.leave (v := some (.int (1 : Int32))) (fun h => by rw [Bd.returns] at h; cases h)
        refine ⟨_, _, G _ (retOut X262 hx Bd.returns rfl (Or.inl ⟨rfl, Or.inr (Or.inl rfl), _, rfl⟩) (hb hby at_292) hr), hrun, hended, _, _, rfl, ?_, ⟨_, rfl⟩, hW, hsame.mono (by decide) (by decide)⟩
        show Q0 Z i0 i1 i2 i3 i4 sa ks h0 n0 _ T262.heap _
        rw [e262]
        exact ⟨rfl, N262⟩
    · replace G := own_astore (q := 113) (l' := #[.val (.int i0), .val (.int i1), .val (.int i2), .val (.int i3), .val (.int i4), .val (.int (3 : Int32)), .val (.int m0), .val (.int (0 : Int32)), .val (.int c0), .val (.int c1), .val (.int c2), .val (.int o0), .val (.int o1), .val (.int o2), .val (.ref b5), .unset, .unset, .unset]) G X7.here hx (hb hby at_111) rfl rfl rfl
      replace G := own_iload (q := 115) G X7.here hx (hb hby at_113) rfl rfl
      have hc115_264 : (0 : Int32) < (3 : Int32) := by decide
      replace G := own_ifNo (q := 118) G X7.here hx (hb hby at_115) ((if0 _ _).trans (tlt hc115_264).2.2.2) rfl
      replace G := own_aload (q := 120) G X7.here hx (hb hby at_118) rfl rfl rfl
      replace G := own_iload (q := 122) G X7.here hx (hb hby at_120) rfl rfl
      have F266 : Exa Z T7.heap b5 "com/example/leafcutter/leafcutter/io/TextBuffer" := (A5.keep K7q)
      have F267 : Arv Z T7.heap sa ks .char (0 : Int32) [] (.int (0 : Int32)) := ((P1.ext E5).keep K7q (ninS ne6 nin0))
      obtain ⟨cq265, kq265, q265a, q265b, q265c⟩ := isOf hZ rfl F266
      obtain ⟨_, _, ⟨T265, L265, kk265, nn265⟩, -, X265, ⟨Lc265, hQ265, l265, y265, z265⟩, st265⟩ := X7.virtualBack hx (y := (⟨"com/example/leafcutter/leafcutter/io/TextBuffer", "append", "(C)Lcom/example/leafcutter/leafcutter/io/TextBuffer;"⟩ : MethodName)) (z := (⟨"com/example/leafcutter/leafcutter/io/TextBuffer", "append", "(C)Lcom/example/leafcutter/leafcutter/io/TextBuffer;"⟩ : MethodName)) hown (mvT hZ (hw _ (List.mem_of_getElem? (i := 34) rfl))) (mvT hZ (hw _ (List.mem_of_getElem? (i := 35) rfl))) (notFace_of_selects (args := #[]) (mvT hZ (hw _ (List.mem_of_getElem? (i := 37) rfl)))) (mvT hZ (hw _ (List.mem_of_getElem? (i := 37) rfl))) (mvT hZ (hw _ (List.mem_of_getElem? (i := 36) rfl))) (by decide) (backOf (W := 0) (rm6s0 l Z a0 hw [] b5 c0 sa ks T7.heap n0 Z7 B7_0 B7_1 B7_2 B7_3 F266 F267 ge_b5 (Ne.symm ne6)) hZ (hw _ (List.mem_of_getElem? (i := 38) rfl)) (hw _ (List.mem_of_getElem? (i := 2) rfl)) (by decide) (by decide)) q265a q265c (g := (mkF m 122 #[.val (.int i0), .val (.int i1), .val (.int i2), .val (.int i3), .val (.int i4), .val (.int (3 : Int32)), .val (.int m0), .val (.int (0 : Int32)), .val (.int c0), .val (.int c1), .val (.int c2), .val (.int o0), .val (.int o1), .val (.int o2), .val (.ref b5), .unset, .unset, .unset] [(.int c0), (.ref b5)])) rfl (by rw [hml]; rfl) (Steps.refl _) (argsL := [(.int c0)]) (rest := []) (lenOf pd_9 rfl) rfl (by show 2 * 0 + _ ≤ _; exact Nat.le_of_eq rfl) (hb hby at_122) (fun _ _ => ⟨rfl, rfl, (by decide : 1 + 1 ≤ _), (by decide : 4 + 16 ≤ _)⟩)
      dsimp only [Pt.U, Pt.locs, Pt.cells, Pt.slots] at X265 l265 y265 z265 st265 hQ265
      subst l265 y265 z265
      obtain ⟨b_265, kb_265, rfl, N265q, K265q, B265_0, B265_1, B265_2, B265_3, B265_4, B265_5⟩ := hQ265
      have ne268 : b5 ≠ b_265 := Nat.ne_of_lt (Nat.lt_of_lt_of_le B7_3.lt B265_4)
      have ne269 : sa ≠ b_265 := Nat.ne_of_lt (Nat.lt_of_lt_of_le F267.lt B265_4)
      have ge_b_265 : n0 ≤ b_265 := Nat.le_trans Z7 B265_4
      have Z265 : n0 ≤ T265.heap.size := Nat.le_trans Z7 K265q.1
      have N265 := Fr.app N7 N265q
      replace G : Gets p e below _ (T265.setTop (mkF m 125 #[.val (.int i0), .val (.int i1), .val (.int i2), .val (.int i3), .val (.int i4), .val (.int (3 : Int32)), .val (.int m0), .val (.int (0 : Int32)), .val (.int c0), .val (.int c1), .val (.int c2), .val (.int o0), .val (.int o1), .val (.int o2), .val (.ref b5), .unset, .unset, .unset] [(.ref b5)])) := fun t k => G t (st265.trans k)
      replace G := own_pop (q := 126) G X265.here hx (hb hby at_125) rfl rfl
      replace G := own_iload (q := 128) G X265.here hx (hb hby at_126) rfl rfl
      replace G := own_iconst (q := 129) G X265.here hx (hb hby at_128) (v := (1 : Int32)) (by decide) rfl
      have hc129_270 : (1 : Int32) < (3 : Int32) := by decide
      replace G := own_icmpNo (q := 132) G X265.here hx (hb hby at_129) (tlt hc129_270).2.2.2 rfl
      replace G := own_aload (q := 134) G X265.here hx (hb hby at_132) rfl rfl rfl
      replace G := own_iload (q := 136) G X265.here hx (hb hby at_134) rfl rfl
      have F272 : Exa Z T265.heap b5 "com/example/leafcutter/leafcutter/io/TextBuffer" := (F266.keep K265q)
      obtain ⟨cq271, kq271, q271a, q271b, q271c⟩ := isOf hZ rfl F272
      obtain ⟨_, _, ⟨T271, L271, kk271, nn271⟩, -, X271, ⟨Lc271, hQ271, l271, y271, z271⟩, st271⟩ := X265.virtualBack hx (y := (⟨"com/example/leafcutter/leafcutter/io/TextBuffer", "append", "(C)Lcom/example/leafcutter/leafcutter/io/TextBuffer;"⟩ : MethodName)) (z := (⟨"com/example/leafcutter/leafcutter/io/TextBuffer", "append", "(C)Lcom/example/leafcutter/leafcutter/io/TextBuffer;"⟩ : MethodName)) hown (mvT hZ (hw _ (List.mem_of_getElem? (i := 34) rfl))) (mvT hZ (hw _ (List.mem_of_getElem? (i := 35) rfl))) (notFace_of_selects (args := #[]) (mvT hZ (hw _ (List.mem_of_getElem? (i := 37) rfl)))) (mvT hZ (hw _ (List.mem_of_getElem? (i := 37) rfl))) (mvT hZ (hw _ (List.mem_of_getElem? (i := 36) rfl))) (by decide) (backOf (W := 0) (rm6s1 l Z a0 hw [] b5 c1 b_265 kb_265 (nar .char c0) T265.heap n0 Z265 B265_0 B265_1 B265_2 B265_3 F272 B265_5 ge_b5 ge_b_265 ne268) hZ (hw _ (List.mem_of_getElem? (i := 38) rfl)) (hw _ (List.mem_of_getElem? (i := 2) rfl)) (by decide) (by decide)) q271a q271c (g := (mkF m 136 #[.val (.int i0), .val (.int i1), .val (.int i2), .val (.int i3), .val (.int i4), .val (.int (3 : Int32)), .val (.int m0), .val (.int (0 : Int32)), .val (.int c0), .val (.int c1), .val (.int c2), .val (.int o0), .val (.int o1), .val (.int o2), .val (.ref b5), .unset, .unset, .unset] [(.int c1), (.ref b5)])) rfl (by rw [hml]; rfl) (Steps.refl _) (argsL := [(.int c1)]) (rest := []) (lenOf pd_9 rfl) rfl (by show 2 * 0 + _ ≤ _; exact Nat.le_of_eq rfl) (hb hby at_136) (fun _ _ => ⟨rfl, rfl, (by decide : 2 + 0 ≤ _), (by decide : 20 + 0 ≤ _)⟩)
      dsimp only [Pt.U, Pt.locs, Pt.cells, Pt.slots] at X271 l271 y271 z271 st271 hQ271
      subst l271 y271 z271
      obtain ⟨rfl, N271q, K271q, B271_0, B271_1, B271_2, B271_3, B271_4⟩ := hQ271
      have Z271 : n0 ≤ T271.heap.size := Nat.le_trans Z265 K271q.1
      have N271 := Fr.app N265 N271q
      replace G : Gets p e below _ (T271.setTop (mkF m 139 #[.val (.int i0), .val (.int i1), .val (.int i2), .val (.int i3), .val (.int i4), .val (.int (3 : Int32)), .val (.int m0), .val (.int (0 : Int32)), .val (.int c0), .val (.int c1), .val (.int c2), .val (.int o0), .val (.int o1), .val (.int o2), .val (.ref b5), .unset, .unset, .unset] [(.ref b5)])) := fun t k => G t (st271.trans k)
      replace G := own_pop (q := 140) G X271.here hx (hb hby at_139) rfl rfl
      replace G := own_iload (q := 142) G X271.here hx (hb hby at_140) rfl rfl
      replace G := own_iconst (q := 143) G X271.here hx (hb hby at_142) (v := (2 : Int32)) (by decide) rfl
      have hc143_273 : (2 : Int32) < (3 : Int32) := by decide
      replace G := own_icmpNo (q := 146) G X271.here hx (hb hby at_143) (tlt hc143_273).2.2.2 rfl
      replace G := own_aload (q := 148) G X271.here hx (hb hby at_146) rfl rfl rfl
      replace G := own_iload (q := 150) G X271.here hx (hb hby at_148) rfl rfl
      have F275 : Exa Z T271.heap b5 "com/example/leafcutter/leafcutter/io/TextBuffer" := (F272.keep K271q)
      obtain ⟨cq274, kq274, q274a, q274b, q274c⟩ := isOf hZ rfl F275
      obtain ⟨_, _, ⟨T274, L274, kk274, nn274⟩, -, X274, ⟨Lc274, hQ274, l274, y274, z274⟩, st274⟩ := X271.virtualBack hx (y := (⟨"com/example/leafcutter/leafcutter/io/TextBuffer", "append", "(C)Lcom/example/leafcutter/leafcutter/io/TextBuffer;"⟩ : MethodName)) (z := (⟨"com/example/leafcutter/leafcutter/io/TextBuffer", "append", "(C)Lcom/example/leafcutter/leafcutter/io/TextBuffer;"⟩ : MethodName)) hown (mvT hZ (hw _ (List.mem_of_getElem? (i := 34) rfl))) (mvT hZ (hw _ (List.mem_of_getElem? (i := 35) rfl))) (notFace_of_selects (args := #[]) (mvT hZ (hw _ (List.mem_of_getElem? (i := 37) rfl)))) (mvT hZ (hw _ (List.mem_of_getElem? (i := 37) rfl))) (mvT hZ (hw _ (List.mem_of_getElem? (i := 36) rfl))) (by decide) (backOf (W := 0) (rm6s2 l Z a0 hw [] b5 c2 b_265 kb_265 (nar .char c0) (nar .char c1) T271.heap n0 Z271 B271_0 B271_1 B271_2 B271_3 F275 B271_4 ge_b5 ge_b_265 ne268) hZ (hw _ (List.mem_of_getElem? (i := 38) rfl)) (hw _ (List.mem_of_getElem? (i := 2) rfl)) (by decide) (by decide)) q274a q274c (g := (mkF m 150 #[.val (.int i0), .val (.int i1), .val (.int i2), .val (.int i3), .val (.int i4), .val (.int (3 : Int32)), .val (.int m0), .val (.int (0 : Int32)), .val (.int c0), .val (.int c1), .val (.int c2), .val (.int o0), .val (.int o1), .val (.int o2), .val (.ref b5), .unset, .unset, .unset] [(.int c2), (.ref b5)])) rfl (by rw [hml]; rfl) (Steps.refl _) (argsL := [(.int c2)]) (rest := []) (lenOf pd_9 rfl) rfl (by show 2 * 0 + _ ≤ _; exact Nat.le_of_eq rfl) (hb hby at_150) (fun _ _ => ⟨rfl, rfl, (by decide : 2 + 0 ≤ _), (by decide : 20 + 0 ≤ _)⟩)
      dsimp only [Pt.U, Pt.locs, Pt.cells, Pt.slots] at X274 l274 y274 z274 st274 hQ274
      subst l274 y274 z274
      obtain ⟨rfl, N274q, K274q, B274_0, B274_1, B274_2, B274_3, B274_4⟩ := hQ274
      have Z274 : n0 ≤ T274.heap.size := Nat.le_trans Z271 K274q.1
      have N274 := Fr.app N271 N274q
      replace G : Gets p e below _ (T274.setTop (mkF m 153 #[.val (.int i0), .val (.int i1), .val (.int i2), .val (.int i3), .val (.int i4), .val (.int (3 : Int32)), .val (.int m0), .val (.int (0 : Int32)), .val (.int c0), .val (.int c1), .val (.int c2), .val (.int o0), .val (.int o1), .val (.int o2), .val (.ref b5), .unset, .unset, .unset] [(.ref b5)])) := fun t k => G t (st274.trans k)
      replace G := own_pop (q := 154) G X274.here hx (hb hby at_153) rfl rfl
      replace G := own_aconst_null (q := 155) G X274.here hx (hb hby at_154) rfl
      replace G := own_astore (q := 157) (l' := #[.val (.int i0), .val (.int i1), .val (.int i2), .val (.int i3), .val (.int i4), .val (.int (3 : Int32)), .val (.int m0), .val (.int (0 : Int32)), .val (.int c0), .val (.int c1), .val (.int c2), .val (.int o0), .val (.int o1), .val (.int o2), .val (.ref b5), .val .null, .unset, .unset]) G X274.here hx (hb hby at_155) rfl rfl rfl
      replace G := own_iload (q := 159) G X274.here hx (hb hby at_157) rfl rfl
      have hc159_276 : (0 : Int32) = (0 : Int32) := by decide
      replace G := own_ifNo (q := 162) G X274.here hx (hb hby at_159) ((if0 _ _).trans (teq hc159_276).2) rfl
      rcases own_cases4 (own_m3 hn_m0) with rfl | rfl | rfl | rfl
      · replace G := own_iload (q := 164) G X274.here hx (hb hby at_162) rfl rfl
        obtain ⟨T277, h277, k277, X277, e277, E277, A277, st277⟩ := newP X274 hx hZ (hw _ (List.mem_of_getElem? (i := 21) rfl)) rfl (g := (mkF m 164 #[.val (.int i0), .val (.int i1), .val (.int i2), .val (.int i3), .val (.int i4), .val (.int (3 : Int32)), .val (.int (0 : Int32)), .val (.int (0 : Int32)), .val (.int c0), .val (.int c1), .val (.int c2), .val (.int o0), .val (.int o1), .val (.int o2), .val (.ref b5), .val .null, .unset, .unset] [(.int (0 : Int32))])) rfl (hb hby at_164) rfl (by decide) (cap := 0) (by decide) (by decide) (by decide) (by decide)
        obtain ⟨b277, g277⟩ : ∃ z, z = T274.heap.size := ⟨_, rfl⟩
        rw [← g277] at A277 st277
        have ne278 : b_265 ≠ b277 := Nat.ne_of_lt (Nat.lt_of_lt_of_le B274_4.lt (Nat.le_of_eq g277.symm))
        have ne279 : b5 ≠ b277 := Nat.ne_of_lt (Nat.lt_of_lt_of_le B274_3.lt (Nat.le_of_eq g277.symm))
        have F280 : Arv Z T274.heap sa ks .char (0 : Int32) [] (.int (0 : Int32)) := (((F267.keep K265q (ninS ne6 nin0)).keep K271q (ninS ne6 (ninS ne269 nin0))).keep K274q (ninS ne6 (ninS ne269 nin0)))
        have ne281 : sa ≠ b277 := Nat.ne_of_lt (Nat.lt_of_lt_of_le F280.lt (Nat.le_of_eq g277.symm))
        have ge_b277 : n0 ≤ b277 := Nat.le_trans Z274 (Nat.le_of_eq g277.symm)
        have Z277 : n0 ≤ h277.size := Nat.le_trans Z274 E277.1
        have V277 : Arv Z h277 b277 k277 .char (0 : Int32) [] (.int (0 : Int32)) := (Arv.new A277 (by decide)).pad (pad_rep [] (.int (0 : Int32)) 0)
        replace G : Gets p e below _ (T277.setTop (mkF m 166 #[.val (.int i0), .val (.int i1), .val (.int i2), .val (.int i3), .val (.int i4), .val (.int (3 : Int32)), .val (.int (0 : Int32)), .val (.int (0 : Int32)), .val (.int c0), .val (.int c1), .val (.int c2), .val (.int o0), .val (.int o1), .val (.int o2), .val (.ref b5), .val .null, .unset, .unset] [(.ref b277)])) := fun t k => G t (st277 t k)
        replace G := own_astore (q := 168) (l' := #[.val (.int i0), .val (.int i1), .val (.int i2), .val (.int i3), .val (.int i4), .val (.int (3 : Int32)), .val (.int (0 : Int32)), .val (.int (0 : Int32)), .val (.int c0), .val (.int c1), .val (.int c2), .val (.int o0), .val (.int o1), .val (.int o2), .val (.ref b5), .val (.ref b277), .unset, .unset]) G X277.here hx (hb hby at_166) rfl rfl rfl
        replace G := own_iload (q := 170) G X277.here hx (hb hby at_168) rfl rfl
        have hc170_282 : ¬ ((0 : Int32) < (0 : Int32)) := by decide
        replace G := own_ifYes (q := 179) G X277.here hx (hb hby at_170) ((if0 _ _).trans (flt hc170_282).2.2.2) (by decide) (by decide)
        replace G := own_iload (q := 181) G X277.here hx (hb hby at_179) rfl rfl
        replace G := own_iconst (q := 182) G X277.here hx (hb hby at_181) (v := (1 : Int32)) (by decide) rfl
        have hc182_283 : ¬ ((1 : Int32) < (0 : Int32)) := by decide
        replace G := own_icmpYes (q := 191) G X277.here hx (hb hby at_182) (flt hc182_283).2.2.2 (by decide) (by decide)
        replace G := own_iload (q := 193) G X277.here hx (hb hby at_191) rfl rfl
        replace G := own_iconst (q := 194) G X277.here hx (hb hby at_193) (v := (2 : Int32)) (by decide) rfl
        have hc194_284 : ¬ ((2 : Int32) < (0 : Int32)) := by decide
        replace G := own_icmpYes (q := 203) G X277.here hx (hb hby at_194) (flt hc194_284).2.2.2 (by decide) (by decide)
        replace G := own_aload (q := 205) G X277.here hx (hb hby at_203) rfl rfl rfl
        replace G := own_aload (q := 207) G X277.here hx (hb hby at_205) rfl rfl rfl
        have F286 : Exa Z h277 b5 "com/example/leafcutter/leafcutter/io/TextBuffer" := ((F275.keep K274q).ext E277)
        have F287 : Fld Z h277 b5 "com/example/leafcutter/leafcutter/io/TextBuffer" "length" "I" (.int (3 : Int32)) := (B274_1.ext E277)
        obtain ⟨cq285, kq285, q285a, q285b, q285c⟩ := isOf hZ e277 F286
        obtain ⟨_, _, ⟨T285, L285, kk285, nn285⟩, -, X285, ⟨Lc285, hQ285, l285, y285, z285⟩, st285⟩ := X277.virtualBack hx (y := (⟨"com/example/leafcutter/leafcutter/io/TextBuffer", "contentEquals", "([C)Z"⟩ : MethodName)) (z := (⟨"com/example/leafcutter/leafcutter/io/TextBuffer", "contentEquals", "([C)Z"⟩ : MethodName)) hown (mvT hZ (hw _ (List.mem_of_getElem? (i := 22) rfl))) (mvT hZ (hw _ (List.mem_of_getElem? (i := 23) rfl))) (notFace_of_selects (args := #[]) (mvT hZ (hw _ (List.mem_of_getElem? (i := 25) rfl)))) (mvT hZ (hw _ (List.mem_of_getElem? (i := 25) rfl))) (mvT hZ (hw _ (List.mem_of_getElem? (i := 24) rfl))) (by decide) (backOf (W := 0) (rm4n3m0 l Z a0 hw [] b5 b277 k277 h277 n0 Z277 F287 V277) hZ (hw _ (List.mem_of_getElem? (i := 26) rfl)) (hw _ (List.mem_of_getElem? (i := 2) rfl)) (by decide) (by decide)) q285a q285c (g := (mkF m 207 #[.val (.int i0), .val (.int i1), .val (.int i2), .val (.int i3), .val (.int i4), .val (.int (3 : Int32)), .val (.int (0 : Int32)), .val (.int (0 : Int32)), .val (.int c0), .val (.int c1), .val (.int c2), .val (.int o0), .val (.int o1), .val (.int o2), .val (.ref b5), .val (.ref b277), .unset, .unset] [(.ref b277), (.ref b5)])) rfl (by rw [hml]; rfl) (Steps.refl _) (argsL := [(.ref b277)]) (rest := []) (lenOf pd_7 rfl) rfl (by show 2 * 0 + _ ≤ _; exact Nat.le_of_eq rfl) (hb hby at_207) (fun _ _ => ⟨rfl, e277, (by decide : 3 + 0 ≤ _), (by decide : 20 + 0 ≤ _)⟩)
        dsimp only [Pt.U, Pt.locs, Pt.cells, Pt.slots] at X285 l285 y285 z285 st285 hQ285
        subst l285 y285 z285
        obtain ⟨rfl, N285q, e285⟩ := hQ285
        have N285 := Fr.app N274 N285q
        replace G : Gets p e below _ (T285.setTop (mkF m 210 #[.val (.int i0), .val (.int i1), .val (.int i2), .val (.int i3), .val (.int i4), .val (.int (3 : Int32)), .val (.int (0 : Int32)), .val (.int (0 : Int32)), .val (.int c0), .val (.int c1), .val (.int c2), .val (.int o0), .val (.int o1), .val (.int o2), .val (.ref b5), .val (.ref b277), .unset, .unset] [(.int (0 : Int32))])) := fun t k => G t (st285.trans k)
        replace G := own_istore (q := 212) (l' := #[.val (.int i0), .val (.int i1), .val (.int i2), .val (.int i3), .val (.int i4), .val (.int (3 : Int32)), .val (.int (0 : Int32)), .val (.int (0 : Int32)), .val (.int c0), .val (.int c1), .val (.int c2), .val (.int o0), .val (.int o1), .val (.int o2), .val (.ref b5), .val (.ref b277), .val (.int (0 : Int32)), .unset]) G X285.here hx (hb hby at_210) rfl rfl
        replace G := own_iload (q := 214) G X285.here hx (hb hby at_212) rfl rfl
        have hc214_288 : (0 : Int32) = (0 : Int32) := by decide
        replace G := own_ifNo (q := 217) G X285.here hx (hb hby at_214) ((if0 _ _).trans (teq hc214_288).2) rfl
        replace G := own_iload (q := 219) G X285.here hx (hb hby at_217) rfl rfl
        replace G := own_iload (q := 221) G X285.here hx (hb hby at_219) rfl rfl
        have hc221_289 : ¬ ((0 : Int32) = (3 : Int32)) := by decide
        replace G := own_icmpYes (q := 267) G X285.here hx (hb hby at_221) (feq hc221_289).2 (by decide) (by decide)
        replace G := own_iconst (q := 268) G X285.here hx (hb hby at_267) (v := (0 : Int32)) (by decide) rfl
        replace G := own_istore (q := 270) (l' := #[.val (.int i0), .val (.int i1), .val (.int i2), .val (.int i3), .val (.int i4), .val (.int (3 : Int32)), .val (.int (0 : Int32)), .val (.int (0 : Int32)), .val (.int c0), .val (.int c1), .val (.int c2), .val (.int o0), .val (.int o1), .val (.int o2), .val (.ref b5), .val (.ref b277), .val (.int (0 : Int32)), .val (.int (0 : Int32))]) G X285.here hx (hb hby at_268) rfl rfl
        replace G := own_iload (q := 272) G X285.here hx (hb hby at_270) rfl rfl
        replace G := own_iload (q := 274) G X285.here hx (hb hby at_272) rfl rfl
        have hc274_290 : (0 : Int32) = (0 : Int32) := by decide
        replace G := own_icmpNo (q := 277) G X285.here hx (hb hby at_274) (teq hc274_290).2 rfl
        replace G := own_aload (q := 279) G X285.here hx (hb hby at_277) rfl rfl rfl
        obtain ⟨cq291, kq291, q291a, q291b, q291c⟩ := isOf hZ e285 F286
        obtain ⟨_, _, ⟨T291, L291, kk291, nn291⟩, -, X291, ⟨Lc291, hQ291, l291, y291, z291⟩, st291⟩ := X285.virtualBack hx (y := (⟨"com/example/leafcutter/leafcutter/io/TextBuffer", "length", "()I"⟩ : MethodName)) (z := (⟨"com/example/leafcutter/leafcutter/io/TextBuffer", "length", "()I"⟩ : MethodName)) hown (mvT hZ (hw _ (List.mem_of_getElem? (i := 29) rfl))) (mvT hZ (hw _ (List.mem_of_getElem? (i := 30) rfl))) (notFace_of_selects (args := #[]) (mvT hZ (hw _ (List.mem_of_getElem? (i := 32) rfl)))) (mvT hZ (hw _ (List.mem_of_getElem? (i := 32) rfl))) (mvT hZ (hw _ (List.mem_of_getElem? (i := 31) rfl))) (by decide) (backOf (W := 0) (rm5k3 l Z a0 hw [] b5 h277 n0 Z277 F287) hZ (hw _ (List.mem_of_getElem? (i := 33) rfl)) (hw _ (List.mem_of_getElem? (i := 2) rfl)) (by decide) (by decide)) q291a q291c (g := (mkF m 279 #[.val (.int i0), .val (.int i1), .val (.int i2), .val (.int i3), .val (.int i4), .val (.int (3 : Int32)), .val (.int (0 : Int32)), .val (.int (0 : Int32)), .val (.int c0), .val (.int c1), .val (.int c2), .val (.int o0), .val (.int o1), .val (.int o2), .val (.ref b5), .val (.ref b277), .val (.int (0 : Int32)), .val (.int (0 : Int32))] [(.ref b5)])) rfl (by rw [hml]; rfl) (Steps.refl _) (argsL := []) (rest := []) (lenOf pd_8 rfl) rfl (by show 2 * 0 + _ ≤ _; exact Nat.le_of_eq rfl) (hb hby at_279) (fun _ _ => ⟨rfl, e285, (by decide : 3 + 0 ≤ _), (by decide : 20 + 0 ≤ _)⟩)
        dsimp only [Pt.U, Pt.locs, Pt.cells, Pt.slots] at X291 l291 y291 z291 st291 hQ291
        subst l291 y291 z291
        obtain ⟨rfl, N291q, e291⟩ := hQ291
        have N291 := Fr.app N285 N291q
        replace G : Gets p e below _ (T291.setTop (mkF m 282 #[.val (.int i0), .val (.int i1), .val (.int i2), .val (.int i3), .val (.int i4), .val (.int (3 : Int32)), .val (.int (0 : Int32)), .val (.int (0 : Int32)), .val (.int c0), .val (.int c1), .val (.int c2), .val (.int o0), .val (.int o1), .val (.int o2), .val (.ref b5), .val (.ref b277), .val (.int (0 : Int32)), .val (.int (0 : Int32))] [(.int (3 : Int32))])) := fun t k => G t (st291.trans k)
        replace G := own_iload (q := 284) G X291.here hx (hb hby at_282) rfl rfl
        have hc284_292 : (3 : Int32) = (3 : Int32) := by decide
        replace G := own_icmpNo (q := 287) G X291.here hx (hb hby at_284) (teq hc284_292).2 rfl
        replace G := own_iconst (q := 288) G X291.here hx (hb hby at_287) (v := (1 : Int32)) (by decide) rfl
        replace G := own_goto (q := 292) G X291.here hx (hb hby at_288) (by decide) (by decide)
        obtain ⟨fs, hr, hrun, hended, hW, hsame⟩ := X291.leave (v := some (.int (1 : Int32))) (fun h => by rw [Bd.returns] at h; cases h)
        refine ⟨_, _, G _ (retOut X291 hx Bd.returns rfl (Or.inl ⟨rfl, Or.inr (Or.inl rfl), _, rfl⟩) (hb hby at_292) hr), hrun, hended, _, _, rfl, ?_, ⟨_, rfl⟩, hW, hsame.mono (by decide) (by decide)⟩
        show Q0 Z i0 i1 i2 i3 i4 sa ks h0 n0 _ T291.heap _
        rw [e291]
        exact ⟨rfl, N291⟩
      · replace G := own_iload (q := 164) G X274.here hx (hb hby at_162) rfl rfl
        obtain ⟨T293, h293, k293, X293, e293, E293, A293, st293⟩ := newP X274 hx hZ (hw _ (List.mem_of_getElem? (i := 21) rfl)) rfl (g := (mkF m 164 #[.val (.int i0), .val (.int i1), .val (.int i2), .val (.int i3), .val (.int i4), .val (.int (3 : Int32)), .val (.int (1 : Int32)), .val (.int (0 : Int32)), .val (.int c0), .val (.int c1), .val (.int c2), .val (.int o0), .val (.int o1), .val (.int o2), .val (.ref b5), .val .null, .unset, .unset] [(.int (1 : Int32))])) rfl (hb hby at_164) rfl (by decide) (cap := 1) (by decide) (by decide) (by decide) (by decide)
        obtain ⟨b293, g293⟩ : ∃ z, z = T274.heap.size := ⟨_, rfl⟩
        rw [← g293] at A293 st293
        have ne294 : b_265 ≠ b293 := Nat.ne_of_lt (Nat.lt_of_lt_of_le B274_4.lt (Nat.le_of_eq g293.symm))
        have ne295 : b5 ≠ b293 := Nat.ne_of_lt (Nat.lt_of_lt_of_le B274_3.lt (Nat.le_of_eq g293.symm))
        have F296 : Arv Z T274.heap sa ks .char (0 : Int32) [] (.int (0 : Int32)) := (((F267.keep K265q (ninS ne6 nin0)).keep K271q (ninS ne6 (ninS ne269 nin0))).keep K274q (ninS ne6 (ninS ne269 nin0)))
        have ne297 : sa ≠ b293 := Nat.ne_of_lt (Nat.lt_of_lt_of_le F296.lt (Nat.le_of_eq g293.symm))
        have ge_b293 : n0 ≤ b293 := Nat.le_trans Z274 (Nat.le_of_eq g293.symm)
        have Z293 : n0 ≤ h293.size := Nat.le_trans Z274 E293.1
        have V293 : Arv Z h293 b293 k293 .char (1 : Int32) [(.int (0 : Int32))] (.int (0 : Int32)) := (Arv.new A293 (by decide)).pad (pad_rep [] (.int (0 : Int32)) 1)
        replace G : Gets p e below _ (T293.setTop (mkF m 166 #[.val (.int i0), .val (.int i1), .val (.int i2), .val (.int i3), .val (.int i4), .val (.int (3 : Int32)), .val (.int (1 : Int32)), .val (.int (0 : Int32)), .val (.int c0), .val (.int c1), .val (.int c2), .val (.int o0), .val (.int o1), .val (.int o2), .val (.ref b5), .val .null, .unset, .unset] [(.ref b293)])) := fun t k => G t (st293 t k)
        replace G := own_astore (q := 168) (l' := #[.val (.int i0), .val (.int i1), .val (.int i2), .val (.int i3), .val (.int i4), .val (.int (3 : Int32)), .val (.int (1 : Int32)), .val (.int (0 : Int32)), .val (.int c0), .val (.int c1), .val (.int c2), .val (.int o0), .val (.int o1), .val (.int o2), .val (.ref b5), .val (.ref b293), .unset, .unset]) G X293.here hx (hb hby at_166) rfl rfl rfl
        replace G := own_iload (q := 170) G X293.here hx (hb hby at_168) rfl rfl
        have hc170_298 : (0 : Int32) < (1 : Int32) := by decide
        replace G := own_ifNo (q := 173) G X293.here hx (hb hby at_170) ((if0 _ _).trans (tlt hc170_298).2.2.2) rfl
        replace G := own_aload (q := 175) G X293.here hx (hb hby at_173) rfl rfl rfl
        replace G := own_iconst (q := 176) G X293.here hx (hb hby at_175) (v := (0 : Int32)) (by decide) rfl
        replace G := own_iload (q := 178) G X293.here hx (hb hby at_176) rfl rfl
        obtain ⟨c299, Ar299, q299, S299, N299', H299, G299'⟩ := id V293
        have hin299 : ¬ ((0 : Int32) < 0 ∨ c299.slots.size ≤ ((0 : Int32)).toNatClampNeg) := inb_of S299 ⟨by decide, by decide⟩
        obtain ⟨T299, h299, X299, e299, W299, st299⟩ := stC X293 hx hZ e293 Ar299 (j := (0 : Int32)) hin299 (g := (mkF m 178 #[.val (.int i0), .val (.int i1), .val (.int i2), .val (.int i3), .val (.int i4), .val (.int (3 : Int32)), .val (.int (1 : Int32)), .val (.int (0 : Int32)), .val (.int c0), .val (.int c1), .val (.int c2), .val (.int o0), .val (.int o1), .val (.int o2), .val (.ref b5), .val (.ref b293), .unset, .unset] [(.int o0), (.int (0 : Int32)), (.ref b293)])) rfl rfl (hb hby at_178)
        have N299 := Fr.snoc X299 N274 ge_b293
        have Z299 : n0 ≤ h299.size := Nat.le_trans Z293 (Keep.of_wr W299).1
        have V299 : Arv Z h299 b293 k293 .char (1 : Int32) [(.int (nar .char o0))] (.int (0 : Int32)) := Arv.set Ar299 q299 S299 N299' H299 G299' (fits_nar_char _) W299 0 rfl (Nat.le_of_ble_eq_true rfl)
        replace G : Gets p e below _ (T299.setTop (mkF m 179 #[.val (.int i0), .val (.int i1), .val (.int i2), .val (.int i3), .val (.int i4), .val (.int (3 : Int32)), .val (.int (1 : Int32)), .val (.int (0 : Int32)), .val (.int c0), .val (.int c1), .val (.int c2), .val (.int o0), .val (.int o1), .val (.int o2), .val (.ref b5), .val (.ref b293), .unset, .unset] [])) := fun t k => G t (st299 t k)
        replace G := own_iload (q := 181) G X299.here hx (hb hby at_179) rfl rfl
        replace G := own_iconst (q := 182) G X299.here hx (hb hby at_181) (v := (1 : Int32)) (by decide) rfl
        have hc182_300 : ¬ ((1 : Int32) < (1 : Int32)) := by decide
        replace G := own_icmpYes (q := 191) G X299.here hx (hb hby at_182) (flt hc182_300).2.2.2 (by decide) (by decide)
        replace G := own_iload (q := 193) G X299.here hx (hb hby at_191) rfl rfl
        replace G := own_iconst (q := 194) G X299.here hx (hb hby at_193) (v := (2 : Int32)) (by decide) rfl
        have hc194_301 : ¬ ((2 : Int32) < (1 : Int32)) := by decide
        replace G := own_icmpYes (q := 203) G X299.here hx (hb hby at_194) (flt hc194_301).2.2.2 (by decide) (by decide)
        replace G := own_aload (q := 205) G X299.here hx (hb hby at_203) rfl rfl rfl
        replace G := own_aload (q := 207) G X299.here hx (hb hby at_205) rfl rfl rfl
        have F303 : Exa Z h299 b5 "com/example/leafcutter/leafcutter/io/TextBuffer" := (((F275.keep K274q).ext E293).wr W299)
        have F304 : Fld Z h299 b5 "com/example/leafcutter/leafcutter/io/TextBuffer" "length" "I" (.int (3 : Int32)) := ((B274_1.ext E293).other W299 (Or.inl ne295))
        obtain ⟨cq302, kq302, q302a, q302b, q302c⟩ := isOf hZ e299 F303
        obtain ⟨_, _, ⟨T302, L302, kk302, nn302⟩, -, X302, ⟨Lc302, hQ302, l302, y302, z302⟩, st302⟩ := X299.virtualBack hx (y := (⟨"com/example/leafcutter/leafcutter/io/TextBuffer", "contentEquals", "([C)Z"⟩ : MethodName)) (z := (⟨"com/example/leafcutter/leafcutter/io/TextBuffer", "contentEquals", "([C)Z"⟩ : MethodName)) hown (mvT hZ (hw _ (List.mem_of_getElem? (i := 22) rfl))) (mvT hZ (hw _ (List.mem_of_getElem? (i := 23) rfl))) (notFace_of_selects (args := #[]) (mvT hZ (hw _ (List.mem_of_getElem? (i := 25) rfl)))) (mvT hZ (hw _ (List.mem_of_getElem? (i := 25) rfl))) (mvT hZ (hw _ (List.mem_of_getElem? (i := 24) rfl))) (by decide) (backOf (W := 0) (rm4n3m1 l Z a0 hw [] b5 b293 k293 (nar .char o0) h299 n0 Z299 F304 V299) hZ (hw _ (List.mem_of_getElem? (i := 26) rfl)) (hw _ (List.mem_of_getElem? (i := 2) rfl)) (by decide) (by decide)) q302a q302c (g := (mkF m 207 #[.val (.int i0), .val (.int i1), .val (.int i2), .val (.int i3), .val (.int i4), .val (.int (3 : Int32)), .val (.int (1 : Int32)), .val (.int (0 : Int32)), .val (.int c0), .val (.int c1), .val (.int c2), .val (.int o0), .val (.int o1), .val (.int o2), .val (.ref b5), .val (.ref b293), .unset, .unset] [(.ref b293), (.ref b5)])) rfl (by rw [hml]; rfl) (Steps.refl _) (argsL := [(.ref b293)]) (rest := []) (lenOf pd_7 rfl) rfl (by show 2 * 0 + _ ≤ _; exact Nat.le_of_eq rfl) (hb hby at_207) (fun _ _ => ⟨rfl, e299, (by decide : 3 + 0 ≤ _), (by decide : 21 + 0 ≤ _)⟩)
        dsimp only [Pt.U, Pt.locs, Pt.cells, Pt.slots] at X302 l302 y302 z302 st302 hQ302
        subst l302 y302 z302
        obtain ⟨rfl, N302q, e302⟩ := hQ302
        have N302 := Fr.app N299 N302q
        replace G : Gets p e below _ (T302.setTop (mkF m 210 #[.val (.int i0), .val (.int i1), .val (.int i2), .val (.int i3), .val (.int i4), .val (.int (3 : Int32)), .val (.int (1 : Int32)), .val (.int (0 : Int32)), .val (.int c0), .val (.int c1), .val (.int c2), .val (.int o0), .val (.int o1), .val (.int o2), .val (.ref b5), .val (.ref b293), .unset, .unset] [(.int (0 : Int32))])) := fun t k => G t (st302.trans k)
        replace G := own_istore (q := 212) (l' := #[.val (.int i0), .val (.int i1), .val (.int i2), .val (.int i3), .val (.int i4), .val (.int (3 : Int32)), .val (.int (1 : Int32)), .val (.int (0 : Int32)), .val (.int c0), .val (.int c1), .val (.int c2), .val (.int o0), .val (.int o1), .val (.int o2), .val (.ref b5), .val (.ref b293), .val (.int (0 : Int32)), .unset]) G X302.here hx (hb hby at_210) rfl rfl
        replace G := own_iload (q := 214) G X302.here hx (hb hby at_212) rfl rfl
        have hc214_305 : (0 : Int32) = (0 : Int32) := by decide
        replace G := own_ifNo (q := 217) G X302.here hx (hb hby at_214) ((if0 _ _).trans (teq hc214_305).2) rfl
        replace G := own_iload (q := 219) G X302.here hx (hb hby at_217) rfl rfl
        replace G := own_iload (q := 221) G X302.here hx (hb hby at_219) rfl rfl
        have hc221_306 : ¬ ((1 : Int32) = (3 : Int32)) := by decide
        replace G := own_icmpYes (q := 267) G X302.here hx (hb hby at_221) (feq hc221_306).2 (by decide) (by decide)
        replace G := own_iconst (q := 268) G X302.here hx (hb hby at_267) (v := (0 : Int32)) (by decide) rfl
        replace G := own_istore (q := 270) (l' := #[.val (.int i0), .val (.int i1), .val (.int i2), .val (.int i3), .val (.int i4), .val (.int (3 : Int32)), .val (.int (1 : Int32)), .val (.int (0 : Int32)), .val (.int c0), .val (.int c1), .val (.int c2), .val (.int o0), .val (.int o1), .val (.int o2), .val (.ref b5), .val (.ref b293), .val (.int (0 : Int32)), .val (.int (0 : Int32))]) G X302.here hx (hb hby at_268) rfl rfl
        replace G := own_iload (q := 272) G X302.here hx (hb hby at_270) rfl rfl
        replace G := own_iload (q := 274) G X302.here hx (hb hby at_272) rfl rfl
        have hc274_307 : (0 : Int32) = (0 : Int32) := by decide
        replace G := own_icmpNo (q := 277) G X302.here hx (hb hby at_274) (teq hc274_307).2 rfl
        replace G := own_aload (q := 279) G X302.here hx (hb hby at_277) rfl rfl rfl
        obtain ⟨cq308, kq308, q308a, q308b, q308c⟩ := isOf hZ e302 F303
        obtain ⟨_, _, ⟨T308, L308, kk308, nn308⟩, -, X308, ⟨Lc308, hQ308, l308, y308, z308⟩, st308⟩ := X302.virtualBack hx (y := (⟨"com/example/leafcutter/leafcutter/io/TextBuffer", "length", "()I"⟩ : MethodName)) (z := (⟨"com/example/leafcutter/leafcutter/io/TextBuffer", "length", "()I"⟩ : MethodName)) hown (mvT hZ (hw _ (List.mem_of_getElem? (i := 29) rfl))) (mvT hZ (hw _ (List.mem_of_getElem? (i := 30) rfl))) (notFace_of_selects (args := #[]) (mvT hZ (hw _ (List.mem_of_getElem? (i := 32) rfl)))) (mvT hZ (hw _ (List.mem_of_getElem? (i := 32) rfl))) (mvT hZ (hw _ (List.mem_of_getElem? (i := 31) rfl))) (by decide) (backOf (W := 0) (rm5k3 l Z a0 hw [] b5 h299 n0 Z299 F304) hZ (hw _ (List.mem_of_getElem? (i := 33) rfl)) (hw _ (List.mem_of_getElem? (i := 2) rfl)) (by decide) (by decide)) q308a q308c (g := (mkF m 279 #[.val (.int i0), .val (.int i1), .val (.int i2), .val (.int i3), .val (.int i4), .val (.int (3 : Int32)), .val (.int (1 : Int32)), .val (.int (0 : Int32)), .val (.int c0), .val (.int c1), .val (.int c2), .val (.int o0), .val (.int o1), .val (.int o2), .val (.ref b5), .val (.ref b293), .val (.int (0 : Int32)), .val (.int (0 : Int32))] [(.ref b5)])) rfl (by rw [hml]; rfl) (Steps.refl _) (argsL := []) (rest := []) (lenOf pd_8 rfl) rfl (by show 2 * 0 + _ ≤ _; exact Nat.le_of_eq rfl) (hb hby at_279) (fun _ _ => ⟨rfl, e302, (by decide : 3 + 0 ≤ _), (by decide : 21 + 0 ≤ _)⟩)
        dsimp only [Pt.U, Pt.locs, Pt.cells, Pt.slots] at X308 l308 y308 z308 st308 hQ308
        subst l308 y308 z308
        obtain ⟨rfl, N308q, e308⟩ := hQ308
        have N308 := Fr.app N302 N308q
        replace G : Gets p e below _ (T308.setTop (mkF m 282 #[.val (.int i0), .val (.int i1), .val (.int i2), .val (.int i3), .val (.int i4), .val (.int (3 : Int32)), .val (.int (1 : Int32)), .val (.int (0 : Int32)), .val (.int c0), .val (.int c1), .val (.int c2), .val (.int o0), .val (.int o1), .val (.int o2), .val (.ref b5), .val (.ref b293), .val (.int (0 : Int32)), .val (.int (0 : Int32))] [(.int (3 : Int32))])) := fun t k => G t (st308.trans k)
        replace G := own_iload (q := 284) G X308.here hx (hb hby at_282) rfl rfl
        have hc284_309 : (3 : Int32) = (3 : Int32) := by decide
        replace G := own_icmpNo (q := 287) G X308.here hx (hb hby at_284) (teq hc284_309).2 rfl
        replace G := own_iconst (q := 288) G X308.here hx (hb hby at_287) (v := (1 : Int32)) (by decide) rfl
        replace G := own_goto (q := 292) G X308.here hx (hb hby at_288) (by decide) (by decide)
        obtain ⟨fs, hr, hrun, hended, hW, hsame⟩ := X308.leave (v := some (.int (1 : Int32))) (fun h => by rw [Bd.returns] at h; cases h)
        refine ⟨_, _, G _ (retOut X308 hx Bd.returns rfl (Or.inl ⟨rfl, Or.inr (Or.inl rfl), _, rfl⟩) (hb hby at_292) hr), hrun, hended, _, _, rfl, ?_, ⟨_, rfl⟩, hW, hsame.mono (by decide) (by decide)⟩
        show Q0 Z i0 i1 i2 i3 i4 sa ks h0 n0 _ T308.heap _
        rw [e308]
        exact ⟨rfl, N308⟩
      · replace G := own_iload (q := 164) G X274.here hx (hb hby at_162) rfl rfl
        obtain ⟨T310, h310, k310, X310, e310, E310, A310, st310⟩ := newP X274 hx hZ (hw _ (List.mem_of_getElem? (i := 21) rfl)) rfl (g := (mkF m 164 #[.val (.int i0), .val (.int i1), .val (.int i2), .val (.int i3), .val (.int i4), .val (.int (3 : Int32)), .val (.int (2 : Int32)), .val (.int (0 : Int32)), .val (.int c0), .val (.int c1), .val (.int c2), .val (.int o0), .val (.int o1), .val (.int o2), .val (.ref b5), .val .null, .unset, .unset] [(.int (2 : Int32))])) rfl (hb hby at_164) rfl (by decide) (cap := 2) (by decide) (by decide) (by decide) (by decide)
        obtain ⟨b310, g310⟩ : ∃ z, z = T274.heap.size := ⟨_, rfl⟩
        rw [← g310] at A310 st310
        have ne311 : b_265 ≠ b310 := Nat.ne_of_lt (Nat.lt_of_lt_of_le B274_4.lt (Nat.le_of_eq g310.symm))
        have ne312 : b5 ≠ b310 := Nat.ne_of_lt (Nat.lt_of_lt_of_le B274_3.lt (Nat.le_of_eq g310.symm))
        have F313 : Arv Z T274.heap sa ks .char (0 : Int32) [] (.int (0 : Int32)) := (((F267.keep K265q (ninS ne6 nin0)).keep K271q (ninS ne6 (ninS ne269 nin0))).keep K274q (ninS ne6 (ninS ne269 nin0)))
        have ne314 : sa ≠ b310 := Nat.ne_of_lt (Nat.lt_of_lt_of_le F313.lt (Nat.le_of_eq g310.symm))
        have ge_b310 : n0 ≤ b310 := Nat.le_trans Z274 (Nat.le_of_eq g310.symm)
        have Z310 : n0 ≤ h310.size := Nat.le_trans Z274 E310.1
        have V310 : Arv Z h310 b310 k310 .char (2 : Int32) [(.int (0 : Int32)), (.int (0 : Int32))] (.int (0 : Int32)) := (Arv.new A310 (by decide)).pad (pad_rep [] (.int (0 : Int32)) 2)
        replace G : Gets p e below _ (T310.setTop (mkF m 166 #[.val (.int i0), .val (.int i1), .val (.int i2), .val (.int i3), .val (.int i4), .val (.int (3 : Int32)), .val (.int (2 : Int32)), .val (.int (0 : Int32)), .val (.int c0), .val (.int c1), .val (.int c2), .val (.int o0), .val (.int o1), .val (.int o2), .val (.ref b5), .val .null, .unset, .unset] [(.ref b310)])) := fun t k => G t (st310 t k)
        replace G := own_astore (q := 168) (l' := #[.val (.int i0), .val (.int i1), .val (.int i2), .val (.int i3), .val (.int i4), .val (.int (3 : Int32)), .val (.int (2 : Int32)), .val (.int (0 : Int32)), .val (.int c0), .val (.int c1), .val (.int c2), .val (.int o0), .val (.int o1), .val (.int o2), .val (.ref b5), .val (.ref b310), .unset, .unset]) G X310.here hx (hb hby at_166) rfl rfl rfl
        replace G := own_iload (q := 170) G X310.here hx (hb hby at_168) rfl rfl
        have hc170_315 : (0 : Int32) < (2 : Int32) := by decide
        replace G := own_ifNo (q := 173) G X310.here hx (hb hby at_170) ((if0 _ _).trans (tlt hc170_315).2.2.2) rfl
        replace G := own_aload (q := 175) G X310.here hx (hb hby at_173) rfl rfl rfl
        replace G := own_iconst (q := 176) G X310.here hx (hb hby at_175) (v := (0 : Int32)) (by decide) rfl
        replace G := own_iload (q := 178) G X310.here hx (hb hby at_176) rfl rfl
        obtain ⟨c316, Ar316, q316, S316, N316', H316, G316'⟩ := id V310
        have hin316 : ¬ ((0 : Int32) < 0 ∨ c316.slots.size ≤ ((0 : Int32)).toNatClampNeg) := inb_of S316 ⟨by decide, by decide⟩
        obtain ⟨T316, h316, X316, e316, W316, st316⟩ := stC X310 hx hZ e310 Ar316 (j := (0 : Int32)) hin316 (g := (mkF m 178 #[.val (.int i0), .val (.int i1), .val (.int i2), .val (.int i3), .val (.int i4), .val (.int (3 : Int32)), .val (.int (2 : Int32)), .val (.int (0 : Int32)), .val (.int c0), .val (.int c1), .val (.int c2), .val (.int o0), .val (.int o1), .val (.int o2), .val (.ref b5), .val (.ref b310), .unset, .unset] [(.int o0), (.int (0 : Int32)), (.ref b310)])) rfl rfl (hb hby at_178)
        have N316 := Fr.snoc X316 N274 ge_b310
        have Z316 : n0 ≤ h316.size := Nat.le_trans Z310 (Keep.of_wr W316).1
        have V316 : Arv Z h316 b310 k310 .char (2 : Int32) [(.int (nar .char o0)), (.int (0 : Int32))] (.int (0 : Int32)) := Arv.set Ar316 q316 S316 N316' H316 G316' (fits_nar_char _) W316 0 rfl (Nat.le_of_ble_eq_true rfl)
        replace G : Gets p e below _ (T316.setTop (mkF m 179 #[.val (.int i0), .val (.int i1), .val (.int i2), .val (.int i3), .val (.int i4), .val (.int (3 : Int32)), .val (.int (2 : Int32)), .val (.int (0 : Int32)), .val (.int c0), .val (.int c1), .val (.int c2), .val (.int o0), .val (.int o1), .val (.int o2), .val (.ref b5), .val (.ref b310), .unset, .unset] [])) := fun t k => G t (st316 t k)
        replace G := own_iload (q := 181) G X316.here hx (hb hby at_179) rfl rfl
        replace G := own_iconst (q := 182) G X316.here hx (hb hby at_181) (v := (1 : Int32)) (by decide) rfl
        have hc182_317 : (1 : Int32) < (2 : Int32) := by decide
        replace G := own_icmpNo (q := 185) G X316.here hx (hb hby at_182) (tlt hc182_317).2.2.2 rfl
        replace G := own_aload (q := 187) G X316.here hx (hb hby at_185) rfl rfl rfl
        replace G := own_iconst (q := 188) G X316.here hx (hb hby at_187) (v := (1 : Int32)) (by decide) rfl
        replace G := own_iload (q := 190) G X316.here hx (hb hby at_188) rfl rfl
        obtain ⟨c318, Ar318, q318, S318, N318', H318, G318'⟩ := id V316
        have hin318 : ¬ ((1 : Int32) < 0 ∨ c318.slots.size ≤ ((1 : Int32)).toNatClampNeg) := inb_of S318 ⟨by decide, by decide⟩
        obtain ⟨T318, h318, X318, e318, W318, st318⟩ := stC X316 hx hZ e316 Ar318 (j := (1 : Int32)) hin318 (g := (mkF m 190 #[.val (.int i0), .val (.int i1), .val (.int i2), .val (.int i3), .val (.int i4), .val (.int (3 : Int32)), .val (.int (2 : Int32)), .val (.int (0 : Int32)), .val (.int c0), .val (.int c1), .val (.int c2), .val (.int o0), .val (.int o1), .val (.int o2), .val (.ref b5), .val (.ref b310), .unset, .unset] [(.int o1), (.int (1 : Int32)), (.ref b310)])) rfl rfl (hb hby at_190)
        have N318 := Fr.snoc X318 N316 ge_b310
        have Z318 : n0 ≤ h318.size := Nat.le_trans Z316 (Keep.of_wr W318).1
        have V318 : Arv Z h318 b310 k310 .char (2 : Int32) [(.int (nar .char o0)), (.int (nar .char o1))] (.int (0 : Int32)) := Arv.set Ar318 q318 S318 N318' H318 G318' (fits_nar_char _) W318 1 rfl (Nat.le_of_ble_eq_true rfl)
        replace G : Gets p e below _ (T318.setTop (mkF m 191 #[.val (.int i0), .val (.int i1), .val (.int i2), .val (.int i3), .val (.int i4), .val (.int (3 : Int32)), .val (.int (2 : Int32)), .val (.int (0 : Int32)), .val (.int c0), .val (.int c1), .val (.int c2), .val (.int o0), .val (.int o1), .val (.int o2), .val (.ref b5), .val (.ref b310), .unset, .unset] [])) := fun t k => G t (st318 t k)
        replace G := own_iload (q := 193) G X318.here hx (hb hby at_191) rfl rfl
        replace G := own_iconst (q := 194) G X318.here hx (hb hby at_193) (v := (2 : Int32)) (by decide) rfl
        have hc194_319 : ¬ ((2 : Int32) < (2 : Int32)) := by decide
        replace G := own_icmpYes (q := 203) G X318.here hx (hb hby at_194) (flt hc194_319).2.2.2 (by decide) (by decide)
        replace G := own_aload (q := 205) G X318.here hx (hb hby at_203) rfl rfl rfl
        replace G := own_aload (q := 207) G X318.here hx (hb hby at_205) rfl rfl rfl
        have F321 : Exa Z h318 b5 "com/example/leafcutter/leafcutter/io/TextBuffer" := ((((F275.keep K274q).ext E310).wr W316).wr W318)
        have F322 : Fld Z h318 b5 "com/example/leafcutter/leafcutter/io/TextBuffer" "length" "I" (.int (3 : Int32)) := (((B274_1.ext E310).other W316 (Or.inl ne312)).other W318 (Or.inl ne312))
        obtain ⟨cq320, kq320, q320a, q320b, q320c⟩ := isOf hZ e318 F321
        obtain ⟨_, _, ⟨T320, L320, kk320, nn320⟩, -, X320, ⟨Lc320, hQ320, l320, y320, z320⟩, st320⟩ := X318.virtualBack hx (y := (⟨"com/example/leafcutter/leafcutter/io/TextBuffer", "contentEquals", "([C)Z"⟩ : MethodName)) (z := (⟨"com/example/leafcutter/leafcutter/io/TextBuffer", "contentEquals", "([C)Z"⟩ : MethodName)) hown (mvT hZ (hw _ (List.mem_of_getElem? (i := 22) rfl))) (mvT hZ (hw _ (List.mem_of_getElem? (i := 23) rfl))) (notFace_of_selects (args := #[]) (mvT hZ (hw _ (List.mem_of_getElem? (i := 25) rfl)))) (mvT hZ (hw _ (List.mem_of_getElem? (i := 25) rfl))) (mvT hZ (hw _ (List.mem_of_getElem? (i := 24) rfl))) (by decide) (backOf (W := 0) (rm4n3m2 l Z a0 hw [] b5 b310 k310 (nar .char o0) (nar .char o1) h318 n0 Z318 F322 V318) hZ (hw _ (List.mem_of_getElem? (i := 26) rfl)) (hw _ (List.mem_of_getElem? (i := 2) rfl)) (by decide) (by decide)) q320a q320c (g := (mkF m 207 #[.val (.int i0), .val (.int i1), .val (.int i2), .val (.int i3), .val (.int i4), .val (.int (3 : Int32)), .val (.int (2 : Int32)), .val (.int (0 : Int32)), .val (.int c0), .val (.int c1), .val (.int c2), .val (.int o0), .val (.int o1), .val (.int o2), .val (.ref b5), .val (.ref b310), .unset, .unset] [(.ref b310), (.ref b5)])) rfl (by rw [hml]; rfl) (Steps.refl _) (argsL := [(.ref b310)]) (rest := []) (lenOf pd_7 rfl) rfl (by show 2 * 0 + _ ≤ _; exact Nat.le_of_eq rfl) (hb hby at_207) (fun _ _ => ⟨rfl, e318, (by decide : 3 + 0 ≤ _), (by decide : 22 + 0 ≤ _)⟩)
        dsimp only [Pt.U, Pt.locs, Pt.cells, Pt.slots] at X320 l320 y320 z320 st320 hQ320
        subst l320 y320 z320
        obtain ⟨rfl, N320q, e320⟩ := hQ320
        have N320 := Fr.app N318 N320q
        replace G : Gets p e below _ (T320.setTop (mkF m 210 #[.val (.int i0), .val (.int i1), .val (.int i2), .val (.int i3), .val (.int i4), .val (.int (3 : Int32)), .val (.int (2 : Int32)), .val (.int (0 : Int32)), .val (.int c0), .val (.int c1), .val (.int c2), .val (.int o0), .val (.int o1), .val (.int o2), .val (.ref b5), .val (.ref b310), .unset, .unset] [(.int (0 : Int32))])) := fun t k => G t (st320.trans k)
        replace G := own_istore (q := 212) (l' := #[.val (.int i0), .val (.int i1), .val (.int i2), .val (.int i3), .val (.int i4), .val (.int (3 : Int32)), .val (.int (2 : Int32)), .val (.int (0 : Int32)), .val (.int c0), .val (.int c1), .val (.int c2), .val (.int o0), .val (.int o1), .val (.int o2), .val (.ref b5), .val (.ref b310), .val (.int (0 : Int32)), .unset]) G X320.here hx (hb hby at_210) rfl rfl
        replace G := own_iload (q := 214) G X320.here hx (hb hby at_212) rfl rfl
        have hc214_323 : (0 : Int32) = (0 : Int32) := by decide
        replace G := own_ifNo (q := 217) G X320.here hx (hb hby at_214) ((if0 _ _).trans (teq hc214_323).2) rfl
        replace G := own_iload (q := 219) G X320.here hx (hb hby at_217) rfl rfl
        replace G := own_iload (q := 221) G X320.here hx (hb hby at_219) rfl rfl
        have hc221_324 : ¬ ((2 : Int32) = (3 : Int32)) := by decide
        replace G := own_icmpYes (q := 267) G X320.here hx (hb hby at_221) (feq hc221_324).2 (by decide) (by decide)
        replace G := own_iconst (q := 268) G X320.here hx (hb hby at_267) (v := (0 : Int32)) (by decide) rfl
        replace G := own_istore (q := 270) (l' := #[.val (.int i0), .val (.int i1), .val (.int i2), .val (.int i3), .val (.int i4), .val (.int (3 : Int32)), .val (.int (2 : Int32)), .val (.int (0 : Int32)), .val (.int c0), .val (.int c1), .val (.int c2), .val (.int o0), .val (.int o1), .val (.int o2), .val (.ref b5), .val (.ref b310), .val (.int (0 : Int32)), .val (.int (0 : Int32))]) G X320.here hx (hb hby at_268) rfl rfl
        replace G := own_iload (q := 272) G X320.here hx (hb hby at_270) rfl rfl
        replace G := own_iload (q := 274) G X320.here hx (hb hby at_272) rfl rfl
        have hc274_325 : (0 : Int32) = (0 : Int32) := by decide
        replace G := own_icmpNo (q := 277) G X320.here hx (hb hby at_274) (teq hc274_325).2 rfl
        replace G := own_aload (q := 279) G X320.here hx (hb hby at_277) rfl rfl rfl
        obtain ⟨cq326, kq326, q326a, q326b, q326c⟩ := isOf hZ e320 F321
        obtain ⟨_, _, ⟨T326, L326, kk326, nn326⟩, -, X326, ⟨Lc326, hQ326, l326, y326, z326⟩, st326⟩ := X320.virtualBack hx (y := (⟨"com/example/leafcutter/leafcutter/io/TextBuffer", "length", "()I"⟩ : MethodName)) (z := (⟨"com/example/leafcutter/leafcutter/io/TextBuffer", "length", "()I"⟩ : MethodName)) hown (mvT hZ (hw _ (List.mem_of_getElem? (i := 29) rfl))) (mvT hZ (hw _ (List.mem_of_getElem? (i := 30) rfl))) (notFace_of_selects (args := #[]) (mvT hZ (hw _ (List.mem_of_getElem? (i := 32) rfl)))) (mvT hZ (hw _ (List.mem_of_getElem? (i := 32) rfl))) (mvT hZ (hw _ (List.mem_of_getElem? (i := 31) rfl))) (by decide) (backOf (W := 0) (rm5k3 l Z a0 hw [] b5 h318 n0 Z318 F322) hZ (hw _ (List.mem_of_getElem? (i := 33) rfl)) (hw _ (List.mem_of_getElem? (i := 2) rfl)) (by decide) (by decide)) q326a q326c (g := (mkF m 279 #[.val (.int i0), .val (.int i1), .val (.int i2), .val (.int i3), .val (.int i4), .val (.int (3 : Int32)), .val (.int (2 : Int32)), .val (.int (0 : Int32)), .val (.int c0), .val (.int c1), .val (.int c2), .val (.int o0), .val (.int o1), .val (.int o2), .val (.ref b5), .val (.ref b310), .val (.int (0 : Int32)), .val (.int (0 : Int32))] [(.ref b5)])) rfl (by rw [hml]; rfl) (Steps.refl _) (argsL := []) (rest := []) (lenOf pd_8 rfl) rfl (by show 2 * 0 + _ ≤ _; exact Nat.le_of_eq rfl) (hb hby at_279) (fun _ _ => ⟨rfl, e320, (by decide : 3 + 0 ≤ _), (by decide : 22 + 0 ≤ _)⟩)
        dsimp only [Pt.U, Pt.locs, Pt.cells, Pt.slots] at X326 l326 y326 z326 st326 hQ326
        subst l326 y326 z326
        obtain ⟨rfl, N326q, e326⟩ := hQ326
        have N326 := Fr.app N320 N326q
        replace G : Gets p e below _ (T326.setTop (mkF m 282 #[.val (.int i0), .val (.int i1), .val (.int i2), .val (.int i3), .val (.int i4), .val (.int (3 : Int32)), .val (.int (2 : Int32)), .val (.int (0 : Int32)), .val (.int c0), .val (.int c1), .val (.int c2), .val (.int o0), .val (.int o1), .val (.int o2), .val (.ref b5), .val (.ref b310), .val (.int (0 : Int32)), .val (.int (0 : Int32))] [(.int (3 : Int32))])) := fun t k => G t (st326.trans k)
        replace G := own_iload (q := 284) G X326.here hx (hb hby at_282) rfl rfl
        have hc284_327 : (3 : Int32) = (3 : Int32) := by decide
        replace G := own_icmpNo (q := 287) G X326.here hx (hb hby at_284) (teq hc284_327).2 rfl
        replace G := own_iconst (q := 288) G X326.here hx (hb hby at_287) (v := (1 : Int32)) (by decide) rfl
        replace G := own_goto (q := 292) G X326.here hx (hb hby at_288) (by decide) (by decide)
        obtain ⟨fs, hr, hrun, hended, hW, hsame⟩ := X326.leave (v := some (.int (1 : Int32))) (fun h => by rw [Bd.returns] at h; cases h)
        refine ⟨_, _, G _ (retOut X326 hx Bd.returns rfl (Or.inl ⟨rfl, Or.inr (Or.inl rfl), _, rfl⟩) (hb hby at_292) hr), hrun, hended, _, _, rfl, ?_, ⟨_, rfl⟩, hW, hsame.mono (by decide) (by decide)⟩
        show Q0 Z i0 i1 i2 i3 i4 sa ks h0 n0 _ T326.heap _
        rw [e326]
        exact ⟨rfl, N326⟩
      · replace G := own_iload (q := 164) G X274.here hx (hb hby at_162) rfl rfl
        obtain ⟨T328, h328, k328, X328, e328, E328, A328, st328⟩ := newP X274 hx hZ (hw _ (List.mem_of_getElem? (i := 21) rfl)) rfl (g := (mkF m 164 #[.val (.int i0), .val (.int i1), .val (.int i2), .val (.int i3), .val (.int i4), .val (.int (3 : Int32)), .val (.int (3 : Int32)), .val (.int (0 : Int32)), .val (.int c0), .val (.int c1), .val (.int c2), .val (.int o0), .val (.int o1), .val (.int o2), .val (.ref b5), .val .null, .unset, .unset] [(.int (3 : Int32))])) rfl (hb hby at_164) rfl (by decide) (cap := 3) (by decide) (by decide) (by decide) (by decide)
        obtain ⟨b328, g328⟩ : ∃ z, z = T274.heap.size := ⟨_, rfl⟩
        rw [← g328] at A328 st328
        have ne329 : b_265 ≠ b328 := Nat.ne_of_lt (Nat.lt_of_lt_of_le B274_4.lt (Nat.le_of_eq g328.symm))
        have ne330 : b5 ≠ b328 := Nat.ne_of_lt (Nat.lt_of_lt_of_le B274_3.lt (Nat.le_of_eq g328.symm))
        have F331 : Arv Z T274.heap sa ks .char (0 : Int32) [] (.int (0 : Int32)) := (((F267.keep K265q (ninS ne6 nin0)).keep K271q (ninS ne6 (ninS ne269 nin0))).keep K274q (ninS ne6 (ninS ne269 nin0)))
        have ne332 : sa ≠ b328 := Nat.ne_of_lt (Nat.lt_of_lt_of_le F331.lt (Nat.le_of_eq g328.symm))
        have ge_b328 : n0 ≤ b328 := Nat.le_trans Z274 (Nat.le_of_eq g328.symm)
        have Z328 : n0 ≤ h328.size := Nat.le_trans Z274 E328.1
        have V328 : Arv Z h328 b328 k328 .char (3 : Int32) [(.int (0 : Int32)), (.int (0 : Int32)), (.int (0 : Int32))] (.int (0 : Int32)) := (Arv.new A328 (by decide)).pad (pad_rep [] (.int (0 : Int32)) 3)
        replace G : Gets p e below _ (T328.setTop (mkF m 166 #[.val (.int i0), .val (.int i1), .val (.int i2), .val (.int i3), .val (.int i4), .val (.int (3 : Int32)), .val (.int (3 : Int32)), .val (.int (0 : Int32)), .val (.int c0), .val (.int c1), .val (.int c2), .val (.int o0), .val (.int o1), .val (.int o2), .val (.ref b5), .val .null, .unset, .unset] [(.ref b328)])) := fun t k => G t (st328 t k)
        replace G := own_astore (q := 168) (l' := #[.val (.int i0), .val (.int i1), .val (.int i2), .val (.int i3), .val (.int i4), .val (.int (3 : Int32)), .val (.int (3 : Int32)), .val (.int (0 : Int32)), .val (.int c0), .val (.int c1), .val (.int c2), .val (.int o0), .val (.int o1), .val (.int o2), .val (.ref b5), .val (.ref b328), .unset, .unset]) G X328.here hx (hb hby at_166) rfl rfl rfl
        replace G := own_iload (q := 170) G X328.here hx (hb hby at_168) rfl rfl
        have hc170_333 : (0 : Int32) < (3 : Int32) := by decide
        replace G := own_ifNo (q := 173) G X328.here hx (hb hby at_170) ((if0 _ _).trans (tlt hc170_333).2.2.2) rfl
        replace G := own_aload (q := 175) G X328.here hx (hb hby at_173) rfl rfl rfl
        replace G := own_iconst (q := 176) G X328.here hx (hb hby at_175) (v := (0 : Int32)) (by decide) rfl
        replace G := own_iload (q := 178) G X328.here hx (hb hby at_176) rfl rfl
        obtain ⟨c334, Ar334, q334, S334, N334', H334, G334'⟩ := id V328
        have hin334 : ¬ ((0 : Int32) < 0 ∨ c334.slots.size ≤ ((0 : Int32)).toNatClampNeg) := inb_of S334 ⟨by decide, by decide⟩
        obtain ⟨T334, h334, X334, e334, W334, st334⟩ := stC X328 hx hZ e328 Ar334 (j := (0 : Int32)) hin334 (g := (mkF m 178 #[.val (.int i0), .val (.int i1), .val (.int i2), .val (.int i3), .val (.int i4), .val (.int (3 : Int32)), .val (.int (3 : Int32)), .val (.int (0 : Int32)), .val (.int c0), .val (.int c1), .val (.int c2), .val (.int o0), .val (.int o1), .val (.int o2), .val (.ref b5), .val (.ref b328), .unset, .unset] [(.int o0), (.int (0 : Int32)), (.ref b328)])) rfl rfl (hb hby at_178)
        have N334 := Fr.snoc X334 N274 ge_b328
        have Z334 : n0 ≤ h334.size := Nat.le_trans Z328 (Keep.of_wr W334).1
        have V334 : Arv Z h334 b328 k328 .char (3 : Int32) [(.int (nar .char o0)), (.int (0 : Int32)), (.int (0 : Int32))] (.int (0 : Int32)) := Arv.set Ar334 q334 S334 N334' H334 G334' (fits_nar_char _) W334 0 rfl (Nat.le_of_ble_eq_true rfl)
        replace G : Gets p e below _ (T334.setTop (mkF m 179 #[.val (.int i0), .val (.int i1), .val (.int i2), .val (.int i3), .val (.int i4), .val (.int (3 : Int32)), .val (.int (3 : Int32)), .val (.int (0 : Int32)), .val (.int c0), .val (.int c1), .val (.int c2), .val (.int o0), .val (.int o1), .val (.int o2), .val (.ref b5), .val (.ref b328), .unset, .unset] [])) := fun t k => G t (st334 t k)
        replace G := own_iload (q := 181) G X334.here hx (hb hby at_179) rfl rfl
        replace G := own_iconst (q := 182) G X334.here hx (hb hby at_181) (v := (1 : Int32)) (by decide) rfl
        have hc182_335 : (1 : Int32) < (3 : Int32) := by decide
        replace G := own_icmpNo (q := 185) G X334.here hx (hb hby at_182) (tlt hc182_335).2.2.2 rfl
        replace G := own_aload (q := 187) G X334.here hx (hb hby at_185) rfl rfl rfl
        replace G := own_iconst (q := 188) G X334.here hx (hb hby at_187) (v := (1 : Int32)) (by decide) rfl
        replace G := own_iload (q := 190) G X334.here hx (hb hby at_188) rfl rfl
        obtain ⟨c336, Ar336, q336, S336, N336', H336, G336'⟩ := id V334
        have hin336 : ¬ ((1 : Int32) < 0 ∨ c336.slots.size ≤ ((1 : Int32)).toNatClampNeg) := inb_of S336 ⟨by decide, by decide⟩
        obtain ⟨T336, h336, X336, e336, W336, st336⟩ := stC X334 hx hZ e334 Ar336 (j := (1 : Int32)) hin336 (g := (mkF m 190 #[.val (.int i0), .val (.int i1), .val (.int i2), .val (.int i3), .val (.int i4), .val (.int (3 : Int32)), .val (.int (3 : Int32)), .val (.int (0 : Int32)), .val (.int c0), .val (.int c1), .val (.int c2), .val (.int o0), .val (.int o1), .val (.int o2), .val (.ref b5), .val (.ref b328), .unset, .unset] [(.int o1), (.int (1 : Int32)), (.ref b328)])) rfl rfl (hb hby at_190)
        have N336 := Fr.snoc X336 N334 ge_b328
        have Z336 : n0 ≤ h336.size := Nat.le_trans Z334 (Keep.of_wr W336).1
        have V336 : Arv Z h336 b328 k328 .char (3 : Int32) [(.int (nar .char o0)), (.int (nar .char o1)), (.int (0 : Int32))] (.int (0 : Int32)) := Arv.set Ar336 q336 S336 N336' H336 G336' (fits_nar_char _) W336 1 rfl (Nat.le_of_ble_eq_true rfl)
        replace G : Gets p e below _ (T336.setTop (mkF m 191 #[.val (.int i0), .val (.int i1), .val (.int i2), .val (.int i3), .val (.int i4), .val (.int (3 : Int32)), .val (.int (3 : Int32)), .val (.int (0 : Int32)), .val (.int c0), .val (.int c1), .val (.int c2), .val (.int o0), .val (.int o1), .val (.int o2), .val (.ref b5), .val (.ref b328), .unset, .unset] [])) := fun t k => G t (st336 t k)
        replace G := own_iload (q := 193) G X336.here hx (hb hby at_191) rfl rfl
        replace G := own_iconst (q := 194) G X336.here hx (hb hby at_193) (v := (2 : Int32)) (by decide) rfl
        have hc194_337 : (2 : Int32) < (3 : Int32) := by decide
        replace G := own_icmpNo (q := 197) G X336.here hx (hb hby at_194) (tlt hc194_337).2.2.2 rfl
        replace G := own_aload (q := 199) G X336.here hx (hb hby at_197) rfl rfl rfl
        replace G := own_iconst (q := 200) G X336.here hx (hb hby at_199) (v := (2 : Int32)) (by decide) rfl
        replace G := own_iload (q := 202) G X336.here hx (hb hby at_200) rfl rfl
        obtain ⟨c338, Ar338, q338, S338, N338', H338, G338'⟩ := id V336
        have hin338 : ¬ ((2 : Int32) < 0 ∨ c338.slots.size ≤ ((2 : Int32)).toNatClampNeg) := inb_of S338 ⟨by decide, by decide⟩
        obtain ⟨T338, h338, X338, e338, W338, st338⟩ := stC X336 hx hZ e336 Ar338 (j := (2 : Int32)) hin338 (g := (mkF m 202 #[.val (.int i0), .val (.int i1), .val (.int i2), .val (.int i3), .val (.int i4), .val (.int (3 : Int32)), .val (.int (3 : Int32)), .val (.int (0 : Int32)), .val (.int c0), .val (.int c1), .val (.int c2), .val (.int o0), .val (.int o1), .val (.int o2), .val (.ref b5), .val (.ref b328), .unset, .unset] [(.int o2), (.int (2 : Int32)), (.ref b328)])) rfl rfl (hb hby at_202)
        have N338 := Fr.snoc X338 N336 ge_b328
        have Z338 : n0 ≤ h338.size := Nat.le_trans Z336 (Keep.of_wr W338).1
        have V338 : Arv Z h338 b328 k328 .char (3 : Int32) [(.int (nar .char o0)), (.int (nar .char o1)), (.int (nar .char o2))] (.int (0 : Int32)) := Arv.set Ar338 q338 S338 N338' H338 G338' (fits_nar_char _) W338 2 rfl (Nat.le_of_ble_eq_true rfl)
        replace G : Gets p e below _ (T338.setTop (mkF m 203 #[.val (.int i0), .val (.int i1), .val (.int i2), .val (.int i3), .val (.int i4), .val (.int (3 : Int32)), .val (.int (3 : Int32)), .val (.int (0 : Int32)), .val (.int c0), .val (.int c1), .val (.int c2), .val (.int o0), .val (.int o1), .val (.int o2), .val (.ref b5), .val (.ref b328), .unset, .unset] [])) := fun t k => G t (st338 t k)
        replace G := own_aload (q := 205) G X338.here hx (hb hby at_203) rfl rfl rfl
        replace G := own_aload (q := 207) G X338.here hx (hb hby at_205) rfl rfl rfl
        have F340 : Exa Z h338 b5 "com/example/leafcutter/leafcutter/io/TextBuffer" := (((((F275.keep K274q).ext E328).wr W334).wr W336).wr W338)
        have F341 : Fld Z h338 b5 "com/example/leafcutter/leafcutter/io/TextBuffer" "chars" "[C" (.ref b_265) := ((((B274_0.ext E328).other W334 (Or.inl ne330)).other W336 (Or.inl ne330)).other W338 (Or.inl ne330))
        have F342 : Fld Z h338 b5 "com/example/leafcutter/leafcutter/io/TextBuffer" "length" "I" (.int (3 : Int32)) := ((((B274_1.ext E328).other W334 (Or.inl ne330)).other W336 (Or.inl ne330)).other W338 (Or.inl ne330))
        have F343 : Arv Z h338 b_265 kb_265 .char (16 : Int32) [(.int (nar .char c0)), (.int (nar .char c1)), (.int (nar .char c2)), (.int (0 : Int32)), (.int (0 : Int32)), (.int (0 : Int32)), (.int (0 : Int32)), (.int (0 : Int32)), (.int (0 : Int32)), (.int (0 : Int32)), (.int (0 : Int32)), (.int (0 : Int32)), (.int (0 : Int32)), (.int (0 : Int32)), (.int (0 : Int32)), (.int (0 : Int32))] (.int (0 : Int32)) := ((((B274_4.ext E328).other W334 ne329).other W336 ne329).other W338 ne329)
        obtain ⟨cq339, kq339, q339a, q339b, q339c⟩ := isOf hZ e338 F340
        obtain ⟨_, _, ⟨T339, L339, kk339, nn339⟩, -, X339, ⟨Lc339, hQ339, l339, y339, z339⟩, st339⟩ := X338.virtualBack hx (y := (⟨"com/example/leafcutter/leafcutter/io/TextBuffer", "contentEquals", "([C)Z"⟩ : MethodName)) (z := (⟨"com/example/leafcutter/leafcutter/io/TextBuffer", "contentEquals", "([C)Z"⟩ : MethodName)) hown (mvT hZ (hw _ (List.mem_of_getElem? (i := 22) rfl))) (mvT hZ (hw _ (List.mem_of_getElem? (i := 23) rfl))) (notFace_of_selects (args := #[]) (mvT hZ (hw _ (List.mem_of_getElem? (i := 25) rfl)))) (mvT hZ (hw _ (List.mem_of_getElem? (i := 25) rfl))) (mvT hZ (hw _ (List.mem_of_getElem? (i := 24) rfl))) (by decide) (backOf (W := 0) (rm4n3m3 l Z a0 hw [] b5 b328 b_265 kb_265 k328 (nar .char c0) (nar .char c1) (nar .char c2) (nar .char o0) (nar .char o1) (nar .char o2) h338 n0 Z338 F341 F342 F343 V338) hZ (hw _ (List.mem_of_getElem? (i := 26) rfl)) (hw _ (List.mem_of_getElem? (i := 2) rfl)) (by decide) (by decide)) q339a q339c (g := (mkF m 207 #[.val (.int i0), .val (.int i1), .val (.int i2), .val (.int i3), .val (.int i4), .val (.int (3 : Int32)), .val (.int (3 : Int32)), .val (.int (0 : Int32)), .val (.int c0), .val (.int c1), .val (.int c2), .val (.int o0), .val (.int o1), .val (.int o2), .val (.ref b5), .val (.ref b328), .unset, .unset] [(.ref b328), (.ref b5)])) rfl (by rw [hml]; rfl) (Steps.refl _) (argsL := [(.ref b328)]) (rest := []) (lenOf pd_7 rfl) rfl (by show 2 * 0 + _ ≤ _; exact Nat.le_of_eq rfl) (hb hby at_207) (fun _ _ => ⟨rfl, e338, (by decide : 3 + 0 ≤ _), (by decide : 23 + 0 ≤ _)⟩)
        dsimp only [Pt.U, Pt.locs, Pt.cells, Pt.slots] at X339 l339 y339 z339 st339 hQ339
        subst l339 y339 z339
        obtain ⟨rfl, N339q, e339⟩ := hQ339
        have N339 := Fr.app N338 N339q
        replace G : Gets p e below _ (T339.setTop (mkF m 210 #[.val (.int i0), .val (.int i1), .val (.int i2), .val (.int i3), .val (.int i4), .val (.int (3 : Int32)), .val (.int (3 : Int32)), .val (.int (0 : Int32)), .val (.int c0), .val (.int c1), .val (.int c2), .val (.int o0), .val (.int o1), .val (.int o2), .val (.ref b5), .val (.ref b328), .unset, .unset] [(.int (own_ce3 (nar .char c0) (nar .char c1) (nar .char c2) (nar .char o0) (nar .char o1) (nar .char o2)))])) := fun t k => G t (st339.trans k)
        replace G := own_istore (q := 212) (l' := #[.val (.int i0), .val (.int i1), .val (.int i2), .val (.int i3), .val (.int i4), .val (.int (3 : Int32)), .val (.int (3 : Int32)), .val (.int (0 : Int32)), .val (.int c0), .val (.int c1), .val (.int c2), .val (.int o0), .val (.int o1), .val (.int o2), .val (.ref b5), .val (.ref b328), .val (.int (own_ce3 (nar .char c0) (nar .char c1) (nar .char c2) (nar .char o0) (nar .char o1) (nar .char o2))), .unset]) G X339.here hx (hb hby at_210) rfl rfl
        replace G := own_iload (q := 214) G X339.here hx (hb hby at_212) rfl rfl
        have hc214_344 : (0 : Int32) = (0 : Int32) := by decide
        replace G := own_ifNo (q := 217) G X339.here hx (hb hby at_214) ((if0 _ _).trans (teq hc214_344).2) rfl
        replace G := own_iload (q := 219) G X339.here hx (hb hby at_217) rfl rfl
        replace G := own_iload (q := 221) G X339.here hx (hb hby at_219) rfl rfl
        have hc221_345 : (3 : Int32) = (3 : Int32) := by decide
        replace G := own_icmpNo (q := 224) G X339.here hx (hb hby at_221) (teq hc221_345).2 rfl
        replace G := own_iload (q := 226) G X339.here hx (hb hby at_224) rfl rfl
        replace G := own_iconst (q := 227) G X339.here hx (hb hby at_226) (v := (1 : Int32)) (by decide) rfl
        have hc227_346 : ¬ ((3 : Int32) < (1 : Int32)) := by decide
        replace G := own_icmpNo (q := 230) G X339.here hx (hb hby at_227) (flt hc227_346).1 rfl
        replace G := own_iload (q := 232) G X339.here hx (hb hby at_230) rfl rfl
        replace G := own_iload (q := 234) G X339.here hx (hb hby at_232) rfl rfl
        by_cases hc234_347 : o0 = c0
        · replace G := own_icmpNo (q := 237) G X339.here hx (hb hby at_234) (teq hc234_347).2 rfl
          replace G := own_iload (q := 239) G X339.here hx (hb hby at_237) rfl rfl
          replace G := own_iconst (q := 240) G X339.here hx (hb hby at_239) (v := (2 : Int32)) (by decide) rfl
          have hc240_348 : ¬ ((3 : Int32) < (2 : Int32)) := by decide
          replace G := own_icmpNo (q := 243) G X339.here hx (hb hby at_240) (flt hc240_348).1 rfl
          replace G := own_iload (q := 245) G X339.here hx (hb hby at_243) rfl rfl
          replace G := own_iload (q := 247) G X339.here hx (hb hby at_245) rfl rfl
          by_cases hc247_349 : o1 = c1
          · replace G := own_icmpNo (q := 250) G X339.here hx (hb hby at_247) (teq hc247_349).2 rfl
            replace G := own_iload (q := 252) G X339.here hx (hb hby at_250) rfl rfl
            replace G := own_iconst (q := 253) G X339.here hx (hb hby at_252) (v := (3 : Int32)) (by decide) rfl
            have hc253_350 : ¬ ((3 : Int32) < (3 : Int32)) := by decide
            replace G := own_icmpNo (q := 256) G X339.here hx (hb hby at_253) (flt hc253_350).1 rfl
            replace G := own_iload (q := 258) G X339.here hx (hb hby at_256) rfl rfl
            replace G := own_iload (q := 260) G X339.here hx (hb hby at_258) rfl rfl
            by_cases hc260_351 : o2 = c2
            · replace G := own_icmpNo (q := 263) G X339.here hx (hb hby at_260) (teq hc260_351).2 rfl
              replace G := own_iconst (q := 264) G X339.here hx (hb hby at_263) (v := (1 : Int32)) (by decide) rfl
              replace G := own_goto (q := 268) G X339.here hx (hb hby at_264) (by decide) (by decide)
              replace G := own_istore (q := 270) (l' := #[.val (.int i0), .val (.int i1), .val (.int i2), .val (.int i3), .val (.int i4), .val (.int (3 : Int32)), .val (.int (3 : Int32)), .val (.int (0 : Int32)), .val (.int c0), .val (.int c1), .val (.int c2), .val (.int o0), .val (.int o1), .val (.int o2), .val (.ref b5), .val (.ref b328), .val (.int (own_ce3 (nar .char c0) (nar .char c1) (nar .char c2) (nar .char o0) (nar .char o1) (nar .char o2))), .val (.int (1 : Int32))]) G X339.here hx (hb hby at_268) rfl rfl
              replace G := own_iload (q := 272) G X339.here hx (hb hby at_270) rfl rfl
              replace G := own_iload (q := 274) G X339.here hx (hb hby at_272) rfl rfl
              have hc274_352 : (own_ce3 (nar .char c0) (nar .char c1) (nar .char c2) (nar .char o0) (nar .char o1) (nar .char o2)) = (1 : Int32) := by rw [q0, r0, q1, r1, q2, r2]; simp [own_ce1, own_ce2, own_ce3, hc234_347, hc247_349, hc260_351]
              replace G := own_icmpNo (q := 277) G X339.here hx (hb hby at_274) (teq hc274_352).2 rfl
              replace G := own_aload (q := 279) G X339.here hx (hb hby at_277) rfl rfl rfl
              obtain ⟨cq353, kq353, q353a, q353b, q353c⟩ := isOf hZ e339 F340
              obtain ⟨_, _, ⟨T353, L353, kk353, nn353⟩, -, X353, ⟨Lc353, hQ353, l353, y353, z353⟩, st353⟩ := X339.virtualBack hx (y := (⟨"com/example/leafcutter/leafcutter/io/TextBuffer", "length", "()I"⟩ : MethodName)) (z := (⟨"com/example/leafcutter/leafcutter/io/TextBuffer", "length", "()I"⟩ : MethodName)) hown (mvT hZ (hw _ (List.mem_of_getElem? (i := 29) rfl))) (mvT hZ (hw _ (List.mem_of_getElem? (i := 30) rfl))) (notFace_of_selects (args := #[]) (mvT hZ (hw _ (List.mem_of_getElem? (i := 32) rfl)))) (mvT hZ (hw _ (List.mem_of_getElem? (i := 32) rfl))) (mvT hZ (hw _ (List.mem_of_getElem? (i := 31) rfl))) (by decide) (backOf (W := 0) (rm5k3 l Z a0 hw [] b5 h338 n0 Z338 F342) hZ (hw _ (List.mem_of_getElem? (i := 33) rfl)) (hw _ (List.mem_of_getElem? (i := 2) rfl)) (by decide) (by decide)) q353a q353c (g := (mkF m 279 #[.val (.int i0), .val (.int i1), .val (.int i2), .val (.int i3), .val (.int i4), .val (.int (3 : Int32)), .val (.int (3 : Int32)), .val (.int (0 : Int32)), .val (.int c0), .val (.int c1), .val (.int c2), .val (.int o0), .val (.int o1), .val (.int o2), .val (.ref b5), .val (.ref b328), .val (.int (own_ce3 (nar .char c0) (nar .char c1) (nar .char c2) (nar .char o0) (nar .char o1) (nar .char o2))), .val (.int (1 : Int32))] [(.ref b5)])) rfl (by rw [hml]; rfl) (Steps.refl _) (argsL := []) (rest := []) (lenOf pd_8 rfl) rfl (by show 2 * 0 + _ ≤ _; exact Nat.le_of_eq rfl) (hb hby at_279) (fun _ _ => ⟨rfl, e339, (by decide : 3 + 0 ≤ _), (by decide : 23 + 0 ≤ _)⟩)
              dsimp only [Pt.U, Pt.locs, Pt.cells, Pt.slots] at X353 l353 y353 z353 st353 hQ353
              subst l353 y353 z353
              obtain ⟨rfl, N353q, e353⟩ := hQ353
              have N353 := Fr.app N339 N353q
              replace G : Gets p e below _ (T353.setTop (mkF m 282 #[.val (.int i0), .val (.int i1), .val (.int i2), .val (.int i3), .val (.int i4), .val (.int (3 : Int32)), .val (.int (3 : Int32)), .val (.int (0 : Int32)), .val (.int c0), .val (.int c1), .val (.int c2), .val (.int o0), .val (.int o1), .val (.int o2), .val (.ref b5), .val (.ref b328), .val (.int (own_ce3 (nar .char c0) (nar .char c1) (nar .char c2) (nar .char o0) (nar .char o1) (nar .char o2))), .val (.int (1 : Int32))] [(.int (3 : Int32))])) := fun t k => G t (st353.trans k)
              replace G := own_iload (q := 284) G X353.here hx (hb hby at_282) rfl rfl
              have hc284_354 : (3 : Int32) = (3 : Int32) := by decide
              replace G := own_icmpNo (q := 287) G X353.here hx (hb hby at_284) (teq hc284_354).2 rfl
              replace G := own_iconst (q := 288) G X353.here hx (hb hby at_287) (v := (1 : Int32)) (by decide) rfl
              replace G := own_goto (q := 292) G X353.here hx (hb hby at_288) (by decide) (by decide)
              obtain ⟨fs, hr, hrun, hended, hW, hsame⟩ := X353.leave (v := some (.int (1 : Int32))) (fun h => by rw [Bd.returns] at h; cases h)
              refine ⟨_, _, G _ (retOut X353 hx Bd.returns rfl (Or.inl ⟨rfl, Or.inr (Or.inl rfl), _, rfl⟩) (hb hby at_292) hr), hrun, hended, _, _, rfl, ?_, ⟨_, rfl⟩, hW, hsame.mono (by decide) (by decide)⟩
              show Q0 Z i0 i1 i2 i3 i4 sa ks h0 n0 _ T353.heap _
              rw [e353]
              exact ⟨rfl, N353⟩
            · replace G := own_icmpYes (q := 267) G X339.here hx (hb hby at_260) (feq hc260_351).2 (by decide) (by decide)
              replace G := own_iconst (q := 268) G X339.here hx (hb hby at_267) (v := (0 : Int32)) (by decide) rfl
              replace G := own_istore (q := 270) (l' := #[.val (.int i0), .val (.int i1), .val (.int i2), .val (.int i3), .val (.int i4), .val (.int (3 : Int32)), .val (.int (3 : Int32)), .val (.int (0 : Int32)), .val (.int c0), .val (.int c1), .val (.int c2), .val (.int o0), .val (.int o1), .val (.int o2), .val (.ref b5), .val (.ref b328), .val (.int (own_ce3 (nar .char c0) (nar .char c1) (nar .char c2) (nar .char o0) (nar .char o1) (nar .char o2))), .val (.int (0 : Int32))]) G X339.here hx (hb hby at_268) rfl rfl
              replace G := own_iload (q := 272) G X339.here hx (hb hby at_270) rfl rfl
              replace G := own_iload (q := 274) G X339.here hx (hb hby at_272) rfl rfl
              have hc274_355 : (own_ce3 (nar .char c0) (nar .char c1) (nar .char c2) (nar .char o0) (nar .char o1) (nar .char o2)) = (0 : Int32) := by rw [q0, r0, q1, r1, q2, r2]; simp [own_ce1, own_ce2, own_ce3, hc234_347, hc247_349, (Ne.symm hc260_351)]
              replace G := own_icmpNo (q := 277) G X339.here hx (hb hby at_274) (teq hc274_355).2 rfl
              replace G := own_aload (q := 279) G X339.here hx (hb hby at_277) rfl rfl rfl
              obtain ⟨cq356, kq356, q356a, q356b, q356c⟩ := isOf hZ e339 F340
              obtain ⟨_, _, ⟨T356, L356, kk356, nn356⟩, -, X356, ⟨Lc356, hQ356, l356, y356, z356⟩, st356⟩ := X339.virtualBack hx (y := (⟨"com/example/leafcutter/leafcutter/io/TextBuffer", "length", "()I"⟩ : MethodName)) (z := (⟨"com/example/leafcutter/leafcutter/io/TextBuffer", "length", "()I"⟩ : MethodName)) hown (mvT hZ (hw _ (List.mem_of_getElem? (i := 29) rfl))) (mvT hZ (hw _ (List.mem_of_getElem? (i := 30) rfl))) (notFace_of_selects (args := #[]) (mvT hZ (hw _ (List.mem_of_getElem? (i := 32) rfl)))) (mvT hZ (hw _ (List.mem_of_getElem? (i := 32) rfl))) (mvT hZ (hw _ (List.mem_of_getElem? (i := 31) rfl))) (by decide) (backOf (W := 0) (rm5k3 l Z a0 hw [] b5 h338 n0 Z338 F342) hZ (hw _ (List.mem_of_getElem? (i := 33) rfl)) (hw _ (List.mem_of_getElem? (i := 2) rfl)) (by decide) (by decide)) q356a q356c (g := (mkF m 279 #[.val (.int i0), .val (.int i1), .val (.int i2), .val (.int i3), .val (.int i4), .val (.int (3 : Int32)), .val (.int (3 : Int32)), .val (.int (0 : Int32)), .val (.int c0), .val (.int c1), .val (.int c2), .val (.int o0), .val (.int o1), .val (.int o2), .val (.ref b5), .val (.ref b328), .val (.int (own_ce3 (nar .char c0) (nar .char c1) (nar .char c2) (nar .char o0) (nar .char o1) (nar .char o2))), .val (.int (0 : Int32))] [(.ref b5)])) rfl (by rw [hml]; rfl) (Steps.refl _) (argsL := []) (rest := []) (lenOf pd_8 rfl) rfl (by show 2 * 0 + _ ≤ _; exact Nat.le_of_eq rfl) (hb hby at_279) (fun _ _ => ⟨rfl, e339, (by decide : 3 + 0 ≤ _), (by decide : 23 + 0 ≤ _)⟩)
              dsimp only [Pt.U, Pt.locs, Pt.cells, Pt.slots] at X356 l356 y356 z356 st356 hQ356
              subst l356 y356 z356
              obtain ⟨rfl, N356q, e356⟩ := hQ356
              have N356 := Fr.app N339 N356q
              replace G : Gets p e below _ (T356.setTop (mkF m 282 #[.val (.int i0), .val (.int i1), .val (.int i2), .val (.int i3), .val (.int i4), .val (.int (3 : Int32)), .val (.int (3 : Int32)), .val (.int (0 : Int32)), .val (.int c0), .val (.int c1), .val (.int c2), .val (.int o0), .val (.int o1), .val (.int o2), .val (.ref b5), .val (.ref b328), .val (.int (own_ce3 (nar .char c0) (nar .char c1) (nar .char c2) (nar .char o0) (nar .char o1) (nar .char o2))), .val (.int (0 : Int32))] [(.int (3 : Int32))])) := fun t k => G t (st356.trans k)
              replace G := own_iload (q := 284) G X356.here hx (hb hby at_282) rfl rfl
              have hc284_357 : (3 : Int32) = (3 : Int32) := by decide
              replace G := own_icmpNo (q := 287) G X356.here hx (hb hby at_284) (teq hc284_357).2 rfl
              replace G := own_iconst (q := 288) G X356.here hx (hb hby at_287) (v := (1 : Int32)) (by decide) rfl
              replace G := own_goto (q := 292) G X356.here hx (hb hby at_288) (by decide) (by decide)
              obtain ⟨fs, hr, hrun, hended, hW, hsame⟩ := X356.leave (v := some (.int (1 : Int32))) (fun h => by rw [Bd.returns] at h; cases h)
              refine ⟨_, _, G _ (retOut X356 hx Bd.returns rfl (Or.inl ⟨rfl, Or.inr (Or.inl rfl), _, rfl⟩) (hb hby at_292) hr), hrun, hended, _, _, rfl, ?_, ⟨_, rfl⟩, hW, hsame.mono (by decide) (by decide)⟩
              show Q0 Z i0 i1 i2 i3 i4 sa ks h0 n0 _ T356.heap _
              rw [e356]
              exact ⟨rfl, N356⟩
          · replace G := own_icmpYes (q := 267) G X339.here hx (hb hby at_247) (feq hc247_349).2 (by decide) (by decide)
            replace G := own_iconst (q := 268) G X339.here hx (hb hby at_267) (v := (0 : Int32)) (by decide) rfl
            replace G := own_istore (q := 270) (l' := #[.val (.int i0), .val (.int i1), .val (.int i2), .val (.int i3), .val (.int i4), .val (.int (3 : Int32)), .val (.int (3 : Int32)), .val (.int (0 : Int32)), .val (.int c0), .val (.int c1), .val (.int c2), .val (.int o0), .val (.int o1), .val (.int o2), .val (.ref b5), .val (.ref b328), .val (.int (own_ce3 (nar .char c0) (nar .char c1) (nar .char c2) (nar .char o0) (nar .char o1) (nar .char o2))), .val (.int (0 : Int32))]) G X339.here hx (hb hby at_268) rfl rfl
            replace G := own_iload (q := 272) G X339.here hx (hb hby at_270) rfl rfl
            replace G := own_iload (q := 274) G X339.here hx (hb hby at_272) rfl rfl
            have hc274_358 : (own_ce3 (nar .char c0) (nar .char c1) (nar .char c2) (nar .char o0) (nar .char o1) (nar .char o2)) = (0 : Int32) := by rw [q0, r0, q1, r1, q2, r2]; simp [own_ce1, own_ce2, own_ce3, hc234_347, (Ne.symm hc247_349)]
            replace G := own_icmpNo (q := 277) G X339.here hx (hb hby at_274) (teq hc274_358).2 rfl
            replace G := own_aload (q := 279) G X339.here hx (hb hby at_277) rfl rfl rfl
            obtain ⟨cq359, kq359, q359a, q359b, q359c⟩ := isOf hZ e339 F340
            obtain ⟨_, _, ⟨T359, L359, kk359, nn359⟩, -, X359, ⟨Lc359, hQ359, l359, y359, z359⟩, st359⟩ := X339.virtualBack hx (y := (⟨"com/example/leafcutter/leafcutter/io/TextBuffer", "length", "()I"⟩ : MethodName)) (z := (⟨"com/example/leafcutter/leafcutter/io/TextBuffer", "length", "()I"⟩ : MethodName)) hown (mvT hZ (hw _ (List.mem_of_getElem? (i := 29) rfl))) (mvT hZ (hw _ (List.mem_of_getElem? (i := 30) rfl))) (notFace_of_selects (args := #[]) (mvT hZ (hw _ (List.mem_of_getElem? (i := 32) rfl)))) (mvT hZ (hw _ (List.mem_of_getElem? (i := 32) rfl))) (mvT hZ (hw _ (List.mem_of_getElem? (i := 31) rfl))) (by decide) (backOf (W := 0) (rm5k3 l Z a0 hw [] b5 h338 n0 Z338 F342) hZ (hw _ (List.mem_of_getElem? (i := 33) rfl)) (hw _ (List.mem_of_getElem? (i := 2) rfl)) (by decide) (by decide)) q359a q359c (g := (mkF m 279 #[.val (.int i0), .val (.int i1), .val (.int i2), .val (.int i3), .val (.int i4), .val (.int (3 : Int32)), .val (.int (3 : Int32)), .val (.int (0 : Int32)), .val (.int c0), .val (.int c1), .val (.int c2), .val (.int o0), .val (.int o1), .val (.int o2), .val (.ref b5), .val (.ref b328), .val (.int (own_ce3 (nar .char c0) (nar .char c1) (nar .char c2) (nar .char o0) (nar .char o1) (nar .char o2))), .val (.int (0 : Int32))] [(.ref b5)])) rfl (by rw [hml]; rfl) (Steps.refl _) (argsL := []) (rest := []) (lenOf pd_8 rfl) rfl (by show 2 * 0 + _ ≤ _; exact Nat.le_of_eq rfl) (hb hby at_279) (fun _ _ => ⟨rfl, e339, (by decide : 3 + 0 ≤ _), (by decide : 23 + 0 ≤ _)⟩)
            dsimp only [Pt.U, Pt.locs, Pt.cells, Pt.slots] at X359 l359 y359 z359 st359 hQ359
            subst l359 y359 z359
            obtain ⟨rfl, N359q, e359⟩ := hQ359
            have N359 := Fr.app N339 N359q
            replace G : Gets p e below _ (T359.setTop (mkF m 282 #[.val (.int i0), .val (.int i1), .val (.int i2), .val (.int i3), .val (.int i4), .val (.int (3 : Int32)), .val (.int (3 : Int32)), .val (.int (0 : Int32)), .val (.int c0), .val (.int c1), .val (.int c2), .val (.int o0), .val (.int o1), .val (.int o2), .val (.ref b5), .val (.ref b328), .val (.int (own_ce3 (nar .char c0) (nar .char c1) (nar .char c2) (nar .char o0) (nar .char o1) (nar .char o2))), .val (.int (0 : Int32))] [(.int (3 : Int32))])) := fun t k => G t (st359.trans k)
            replace G := own_iload (q := 284) G X359.here hx (hb hby at_282) rfl rfl
            have hc284_360 : (3 : Int32) = (3 : Int32) := by decide
            replace G := own_icmpNo (q := 287) G X359.here hx (hb hby at_284) (teq hc284_360).2 rfl
            replace G := own_iconst (q := 288) G X359.here hx (hb hby at_287) (v := (1 : Int32)) (by decide) rfl
            replace G := own_goto (q := 292) G X359.here hx (hb hby at_288) (by decide) (by decide)
            obtain ⟨fs, hr, hrun, hended, hW, hsame⟩ := X359.leave (v := some (.int (1 : Int32))) (fun h => by rw [Bd.returns] at h; cases h)
            refine ⟨_, _, G _ (retOut X359 hx Bd.returns rfl (Or.inl ⟨rfl, Or.inr (Or.inl rfl), _, rfl⟩) (hb hby at_292) hr), hrun, hended, _, _, rfl, ?_, ⟨_, rfl⟩, hW, hsame.mono (by decide) (by decide)⟩
            show Q0 Z i0 i1 i2 i3 i4 sa ks h0 n0 _ T359.heap _
            rw [e359]
            exact ⟨rfl, N359⟩
        · replace G := own_icmpYes (q := 267) G X339.here hx (hb hby at_234) (feq hc234_347).2 (by decide) (by decide)
          replace G := own_iconst (q := 268) G X339.here hx (hb hby at_267) (v := (0 : Int32)) (by decide) rfl
          replace G := own_istore (q := 270) (l' := #[.val (.int i0), .val (.int i1), .val (.int i2), .val (.int i3), .val (.int i4), .val (.int (3 : Int32)), .val (.int (3 : Int32)), .val (.int (0 : Int32)), .val (.int c0), .val (.int c1), .val (.int c2), .val (.int o0), .val (.int o1), .val (.int o2), .val (.ref b5), .val (.ref b328), .val (.int (own_ce3 (nar .char c0) (nar .char c1) (nar .char c2) (nar .char o0) (nar .char o1) (nar .char o2))), .val (.int (0 : Int32))]) G X339.here hx (hb hby at_268) rfl rfl
          replace G := own_iload (q := 272) G X339.here hx (hb hby at_270) rfl rfl
          replace G := own_iload (q := 274) G X339.here hx (hb hby at_272) rfl rfl
          have hc274_361 : (own_ce3 (nar .char c0) (nar .char c1) (nar .char c2) (nar .char o0) (nar .char o1) (nar .char o2)) = (0 : Int32) := by rw [q0, r0, q1, r1, q2, r2]; simp [own_ce1, own_ce2, own_ce3, (Ne.symm hc234_347)]
          replace G := own_icmpNo (q := 277) G X339.here hx (hb hby at_274) (teq hc274_361).2 rfl
          replace G := own_aload (q := 279) G X339.here hx (hb hby at_277) rfl rfl rfl
          obtain ⟨cq362, kq362, q362a, q362b, q362c⟩ := isOf hZ e339 F340
          obtain ⟨_, _, ⟨T362, L362, kk362, nn362⟩, -, X362, ⟨Lc362, hQ362, l362, y362, z362⟩, st362⟩ := X339.virtualBack hx (y := (⟨"com/example/leafcutter/leafcutter/io/TextBuffer", "length", "()I"⟩ : MethodName)) (z := (⟨"com/example/leafcutter/leafcutter/io/TextBuffer", "length", "()I"⟩ : MethodName)) hown (mvT hZ (hw _ (List.mem_of_getElem? (i := 29) rfl))) (mvT hZ (hw _ (List.mem_of_getElem? (i := 30) rfl))) (notFace_of_selects (args := #[]) (mvT hZ (hw _ (List.mem_of_getElem? (i := 32) rfl)))) (mvT hZ (hw _ (List.mem_of_getElem? (i := 32) rfl))) (mvT hZ (hw _ (List.mem_of_getElem? (i := 31) rfl))) (by decide) (backOf (W := 0) (rm5k3 l Z a0 hw [] b5 h338 n0 Z338 F342) hZ (hw _ (List.mem_of_getElem? (i := 33) rfl)) (hw _ (List.mem_of_getElem? (i := 2) rfl)) (by decide) (by decide)) q362a q362c (g := (mkF m 279 #[.val (.int i0), .val (.int i1), .val (.int i2), .val (.int i3), .val (.int i4), .val (.int (3 : Int32)), .val (.int (3 : Int32)), .val (.int (0 : Int32)), .val (.int c0), .val (.int c1), .val (.int c2), .val (.int o0), .val (.int o1), .val (.int o2), .val (.ref b5), .val (.ref b328), .val (.int (own_ce3 (nar .char c0) (nar .char c1) (nar .char c2) (nar .char o0) (nar .char o1) (nar .char o2))), .val (.int (0 : Int32))] [(.ref b5)])) rfl (by rw [hml]; rfl) (Steps.refl _) (argsL := []) (rest := []) (lenOf pd_8 rfl) rfl (by show 2 * 0 + _ ≤ _; exact Nat.le_of_eq rfl) (hb hby at_279) (fun _ _ => ⟨rfl, e339, (by decide : 3 + 0 ≤ _), (by decide : 23 + 0 ≤ _)⟩)
          dsimp only [Pt.U, Pt.locs, Pt.cells, Pt.slots] at X362 l362 y362 z362 st362 hQ362
          subst l362 y362 z362
          obtain ⟨rfl, N362q, e362⟩ := hQ362
          have N362 := Fr.app N339 N362q
          replace G : Gets p e below _ (T362.setTop (mkF m 282 #[.val (.int i0), .val (.int i1), .val (.int i2), .val (.int i3), .val (.int i4), .val (.int (3 : Int32)), .val (.int (3 : Int32)), .val (.int (0 : Int32)), .val (.int c0), .val (.int c1), .val (.int c2), .val (.int o0), .val (.int o1), .val (.int o2), .val (.ref b5), .val (.ref b328), .val (.int (own_ce3 (nar .char c0) (nar .char c1) (nar .char c2) (nar .char o0) (nar .char o1) (nar .char o2))), .val (.int (0 : Int32))] [(.int (3 : Int32))])) := fun t k => G t (st362.trans k)
          replace G := own_iload (q := 284) G X362.here hx (hb hby at_282) rfl rfl
          have hc284_363 : (3 : Int32) = (3 : Int32) := by decide
          replace G := own_icmpNo (q := 287) G X362.here hx (hb hby at_284) (teq hc284_363).2 rfl
          replace G := own_iconst (q := 288) G X362.here hx (hb hby at_287) (v := (1 : Int32)) (by decide) rfl
          replace G := own_goto (q := 292) G X362.here hx (hb hby at_288) (by decide) (by decide)
          obtain ⟨fs, hr, hrun, hended, hW, hsame⟩ := X362.leave (v := some (.int (1 : Int32))) (fun h => by rw [Bd.returns] at h; cases h)
          refine ⟨_, _, G _ (retOut X362 hx Bd.returns rfl (Or.inl ⟨rfl, Or.inr (Or.inl rfl), _, rfl⟩) (hb hby at_292) hr), hrun, hended, _, _, rfl, ?_, ⟨_, rfl⟩, hW, hsame.mono (by decide) (by decide)⟩
          show Q0 Z i0 i1 i2 i3 i4 sa ks h0 n0 _ T362.heap _
          rw [e362]
          exact ⟨rfl, N362⟩
  · replace G := own_ifNo (q := 23) G X0.here hx (hb hby at_20) ((if0 _ _).trans (feq hc20_1).1) rfl
    replace G := own_iconst (q := 24) G X0.here hx (hb hby at_23) (v := (1 : Int32)) (by decide) rfl
    replace G := own_goto (q := 28) G X0.here hx (hb hby at_24) (by decide) (by decide)
    replace G := own_istore (q := 30) (l' := #[.val (.int i0), .val (.int i1), .val (.int i2), .val (.int i3), .val (.int i4), .val (.int nq0), .val (.int m0), .val (.int (1 : Int32)), .unset, .unset, .unset, .unset, .unset, .unset, .unset, .unset, .unset, .unset]) G X0.here hx (hb hby at_28) rfl rfl
    replace G := own_iloadN (q := 31) G X0.here hx (hb hby at_30) rfl rfl
    obtain ⟨c0, hn_c0⟩ : ∃ z : Int32, (i0.toUInt32.toUInt16.toUInt32.toInt32) = z := ⟨_, rfl⟩
    replace G := own_i2c (q := 32) G X0.here hx (hb hby at_31) hn_c0 rfl
    replace G := own_istore (q := 34) (l' := #[.val (.int i0), .val (.int i1), .val (.int i2), .val (.int i3), .val (.int i4), .val (.int nq0), .val (.int m0), .val (.int (1 : Int32)), .val (.int c0), .unset, .unset, .unset, .unset, .unset, .unset, .unset, .unset, .unset]) G X0.here hx (hb hby at_32) rfl rfl
    replace G := own_iloadN (q := 35) G X0.here hx (hb hby at_34) rfl rfl
    obtain ⟨c1, hn_c1⟩ : ∃ z : Int32, (i1.toUInt32.toUInt16.toUInt32.toInt32) = z := ⟨_, rfl⟩
    replace G := own_i2c (q := 36) G X0.here hx (hb hby at_35) hn_c1 rfl
    replace G := own_istore (q := 38) (l' := #[.val (.int i0), .val (.int i1), .val (.int i2), .val (.int i3), .val (.int i4), .val (.int nq0), .val (.int m0), .val (.int (1 : Int32)), .val (.int c0), .val (.int c1), .unset, .unset, .unset, .unset, .unset, .unset, .unset, .unset]) G X0.here hx (hb hby at_36) rfl rfl
    replace G := own_iloadN (q := 39) G X0.here hx (hb hby at_38) rfl rfl
    obtain ⟨c2, hn_c2⟩ : ∃ z : Int32, (i2.toUInt32.toUInt16.toUInt32.toInt32) = z := ⟨_, rfl⟩
    replace G := own_i2c (q := 40) G X0.here hx (hb hby at_39) hn_c2 rfl
    replace G := own_istore (q := 42) (l' := #[.val (.int i0), .val (.int i1), .val (.int i2), .val (.int i3), .val (.int i4), .val (.int nq0), .val (.int m0), .val (.int (1 : Int32)), .val (.int c0), .val (.int c1), .val (.int c2), .unset, .unset, .unset, .unset, .unset, .unset, .unset]) G X0.here hx (hb hby at_40) rfl rfl
    replace G := own_iload (q := 44) G X0.here hx (hb hby at_42) rfl rfl
    replace G := own_iconst (q := 45) G X0.here hx (hb hby at_44) (v := (5 : Int32)) (by decide) rfl
    obtain ⟨x5, hn_x5⟩ : ∃ z : Int32, ((i4.toUInt32 >>> ((5 : Int32) &&& 31).toUInt32).toInt32) = z := ⟨_, rfl⟩
    replace G := own_iushr (q := 46) G X0.here hx (hb hby at_45) hn_x5 rfl
    replace G := own_iconst (q := 47) G X0.here hx (hb hby at_46) (v := (1 : Int32)) (by decide) rfl
    obtain ⟨y5, hn_y5⟩ : ∃ z : Int32, (x5 &&& (1 : Int32)) = z := ⟨_, rfl⟩
    replace G := own_iand (q := 48) G X0.here hx (hb hby at_47) hn_y5 rfl
    replace G : Gets p e below (s₁.setTop (entryFrame m #[(.int i0), (.int i1), (.int i2), (.int i3), (.int i4)] maxLocals)) (s₁.setTop (mkF m 58 #[.val (.int i0), .val (.int i1), .val (.int i2), .val (.int i3), .val (.int i4), .val (.int nq0), .val (.int m0), .val (.int (1 : Int32)), .val (.int c0), .val (.int c1), .val (.int c2), .unset, .unset, .unset, .unset, .unset, .unset, .unset] [(.int (if y5 = (0 : Int32) then c0 else (i3.toUInt32.toUInt16.toUInt32.toInt32)))])) := by
      by_cases hc48_364 : y5 = (0 : Int32)
      · replace G := own_ifYes (q := 56) G X0.here hx (hb hby at_48) ((if0 _ _).trans (teq hc48_364).1) (by decide) (by decide)
        replace G := own_iload (q := 58) G X0.here hx (hb hby at_56) rfl rfl
        simp only [if_pos hc48_364]
        exact G
      · replace G := own_ifNo (q := 51) G X0.here hx (hb hby at_48) ((if0 _ _).trans (feq hc48_364).1) rfl
        replace G := own_iloadN (q := 52) G X0.here hx (hb hby at_51) rfl rfl
        replace G := own_i2c (q := 53) G X0.here hx (hb hby at_52) rfl rfl
        replace G := own_goto (q := 58) G X0.here hx (hb hby at_53) (by decide) (by decide)
        simp only [if_neg hc48_364]
        exact G
    obtain ⟨o0, hn_o0⟩ : ∃ z : Int32, (if y5 = (0 : Int32) then c0 else (i3.toUInt32.toUInt16.toUInt32.toInt32)) = z := ⟨_, rfl⟩
    rw [hn_o0] at G
    replace G := own_istore (q := 60) (l' := #[.val (.int i0), .val (.int i1), .val (.int i2), .val (.int i3), .val (.int i4), .val (.int nq0), .val (.int m0), .val (.int (1 : Int32)), .val (.int c0), .val (.int c1), .val (.int c2), .val (.int o0), .unset, .unset, .unset, .unset, .unset, .unset]) G X0.here hx (hb hby at_58) rfl rfl
    replace G := own_iload (q := 62) G X0.here hx (hb hby at_60) rfl rfl
    replace G := own_bipush (q := 64) G X0.here hx (hb hby at_62) (v := (6 : Int32)) (by decide) rfl
    obtain ⟨x6, hn_x6⟩ : ∃ z : Int32, ((i4.toUInt32 >>> ((6 : Int32) &&& 31).toUInt32).toInt32) = z := ⟨_, rfl⟩
    replace G := own_iushr (q := 65) G X0.here hx (hb hby at_64) hn_x6 rfl
    replace G := own_iconst (q := 66) G X0.here hx (hb hby at_65) (v := (1 : Int32)) (by decide) rfl
    obtain ⟨y6, hn_y6⟩ : ∃ z : Int32, (x6 &&& (1 : Int32)) = z := ⟨_, rfl⟩
    replace G := own_iand (q := 67) G X0.here hx (hb hby at_66) hn_y6 rfl
    replace G : Gets p e below (s₁.setTop (entryFrame m #[(.int i0), (.int i1), (.int i2), (.int i3), (.int i4)] maxLocals)) (s₁.setTop (mkF m 80 #[.val (.int i0), .val (.int i1), .val (.int i2), .val (.int i3), .val (.int i4), .val (.int nq0), .val (.int m0), .val (.int (1 : Int32)), .val (.int c0), .val (.int c1), .val (.int c2), .val (.int o0), .unset, .unset, .unset, .unset, .unset, .unset] [(.int (if y6 = (0 : Int32) then c1 else (((i3.toUInt32 >>> ((8 : Int32) &&& 31).toUInt32).toInt32).toUInt32.toUInt16.toUInt32.toInt32)))])) := by
      by_cases hc67_365 : y6 = (0 : Int32)
      · replace G := own_ifYes (q := 78) G X0.here hx (hb hby at_67) ((if0 _ _).trans (teq hc67_365).1) (by decide) (by decide)
        replace G := own_iload (q := 80) G X0.here hx (hb hby at_78) rfl rfl
        simp only [if_pos hc67_365]
        exact G
      · replace G := own_ifNo (q := 70) G X0.here hx (hb hby at_67) ((if0 _ _).trans (feq hc67_365).1) rfl
        replace G := own_iloadN (q := 71) G X0.here hx (hb hby at_70) rfl rfl
        replace G := own_bipush (q := 73) G X0.here hx (hb hby at_71) (v := (8 : Int32)) (by decide) rfl
        replace G := own_iushr (q := 74) G X0.here hx (hb hby at_73) rfl rfl
        replace G := own_i2c (q := 75) G X0.here hx (hb hby at_74) rfl rfl
        replace G := own_goto (q := 80) G X0.here hx (hb hby at_75) (by decide) (by decide)
        simp only [if_neg hc67_365]
        exact G
    obtain ⟨o1, hn_o1⟩ : ∃ z : Int32, (if y6 = (0 : Int32) then c1 else (((i3.toUInt32 >>> ((8 : Int32) &&& 31).toUInt32).toInt32).toUInt32.toUInt16.toUInt32.toInt32)) = z := ⟨_, rfl⟩
    rw [hn_o1] at G
    replace G := own_istore (q := 82) (l' := #[.val (.int i0), .val (.int i1), .val (.int i2), .val (.int i3), .val (.int i4), .val (.int nq0), .val (.int m0), .val (.int (1 : Int32)), .val (.int c0), .val (.int c1), .val (.int c2), .val (.int o0), .val (.int o1), .unset, .unset, .unset, .unset, .unset]) G X0.here hx (hb hby at_80) rfl rfl
    replace G := own_iload (q := 84) G X0.here hx (hb hby at_82) rfl rfl
    replace G := own_bipush (q := 86) G X0.here hx (hb hby at_84) (v := (7 : Int32)) (by decide) rfl
    obtain ⟨x7, hn_x7⟩ : ∃ z : Int32, ((i4.toUInt32 >>> ((7 : Int32) &&& 31).toUInt32).toInt32) = z := ⟨_, rfl⟩
    replace G := own_iushr (q := 87) G X0.here hx (hb hby at_86) hn_x7 rfl
    replace G := own_iconst (q := 88) G X0.here hx (hb hby at_87) (v := (1 : Int32)) (by decide) rfl
    obtain ⟨y7, hn_y7⟩ : ∃ z : Int32, (x7 &&& (1 : Int32)) = z := ⟨_, rfl⟩
    replace G := own_iand (q := 89) G X0.here hx (hb hby at_88) hn_y7 rfl
    replace G : Gets p e below (s₁.setTop (entryFrame m #[(.int i0), (.int i1), (.int i2), (.int i3), (.int i4)] maxLocals)) (s₁.setTop (mkF m 102 #[.val (.int i0), .val (.int i1), .val (.int i2), .val (.int i3), .val (.int i4), .val (.int nq0), .val (.int m0), .val (.int (1 : Int32)), .val (.int c0), .val (.int c1), .val (.int c2), .val (.int o0), .val (.int o1), .unset, .unset, .unset, .unset, .unset] [(.int (if y7 = (0 : Int32) then c2 else (((i3.toUInt32 >>> ((16 : Int32) &&& 31).toUInt32).toInt32).toUInt32.toUInt16.toUInt32.toInt32)))])) := by
      by_cases hc89_366 : y7 = (0 : Int32)
      · replace G := own_ifYes (q := 100) G X0.here hx (hb hby at_89) ((if0 _ _).trans (teq hc89_366).1) (by decide) (by decide)
        replace G := own_iload (q := 102) G X0.here hx (hb hby at_100) rfl rfl
        simp only [if_pos hc89_366]
        exact G
      · replace G := own_ifNo (q := 92) G X0.here hx (hb hby at_89) ((if0 _ _).trans (feq hc89_366).1) rfl
        replace G := own_iloadN (q := 93) G X0.here hx (hb hby at_92) rfl rfl
        replace G := own_bipush (q := 95) G X0.here hx (hb hby at_93) (v := (16 : Int32)) (by decide) rfl
        replace G := own_iushr (q := 96) G X0.here hx (hb hby at_95) rfl rfl
        replace G := own_i2c (q := 97) G X0.here hx (hb hby at_96) rfl rfl
        replace G := own_goto (q := 102) G X0.here hx (hb hby at_97) (by decide) (by decide)
        simp only [if_neg hc89_366]
        exact G
    obtain ⟨o2, hn_o2⟩ : ∃ z : Int32, (if y7 = (0 : Int32) then c2 else (((i3.toUInt32 >>> ((16 : Int32) &&& 31).toUInt32).toInt32).toUInt32.toUInt16.toUInt32.toInt32)) = z := ⟨_, rfl⟩
    rw [hn_o2] at G
    replace G := own_istore (q := 104) (l' := #[.val (.int i0), .val (.int i1), .val (.int i2), .val (.int i3), .val (.int i4), .val (.int nq0), .val (.int m0), .val (.int (1 : Int32)), .val (.int c0), .val (.int c1), .val (.int c2), .val (.int o0), .val (.int o1), .val (.int o2), .unset, .unset, .unset, .unset]) G X0.here hx (hb hby at_102) rfl rfl
    have q0 : nar .char c0 = c0 := by rw [← hn_c0]; exact own_nar i0
    have q1 : nar .char c1 = c1 := by rw [← hn_c1]; exact own_nar i1
    have q2 : nar .char c2 = c2 := by rw [← hn_c2]; exact own_nar i2
    have r0 : nar .char o0 = o0 := by
      rw [← hn_o0]; split
      · exact q0
      · exact own_nar _
    have r1 : nar .char o1 = o1 := by
      rw [← hn_o1]; split
      · exact q1
      · exact own_nar _
    have r2 : nar .char o2 = o2 := by
      rw [← hn_o2]; split
      · exact q2
      · exact own_nar _
    obtain ⟨T367, h367, X367, e367, E367, A367, D367, -, st367⟩ := newO X0 hx hZ hown (hw _ (List.mem_of_getElem? (i := 0) rfl)) (hw _ (List.mem_of_getElem? (i := 1) rfl)) (hw _ (List.mem_of_getElem? (i := 2) rfl)) e0 (g := (mkF m 104 #[.val (.int i0), .val (.int i1), .val (.int i2), .val (.int i3), .val (.int i4), .val (.int nq0), .val (.int m0), .val (.int (1 : Int32)), .val (.int c0), .val (.int c1), .val (.int c2), .val (.int o0), .val (.int o1), .val (.int o2), .unset, .unset, .unset, .unset] [])) rfl (hb hby at_104) (by decide) (by decide)
    obtain ⟨b367, g367⟩ : ∃ z, z = h0.size := ⟨_, rfl⟩
    rw [← g367] at A367 D367 st367
    have ne368 : sa ≠ b367 := Nat.ne_of_lt (Nat.lt_of_lt_of_le P1.lt (Nat.le_of_eq g367.symm))
    have ge_b367 : n0 ≤ b367 := Nat.le_trans Z0 (Nat.le_of_eq g367.symm)
    have Z367 : n0 ≤ h367.size := Nat.le_trans Z0 E367.1
    have F367_chars : Fld Z h367 b367 "com/example/leafcutter/leafcutter/io/TextBuffer" "chars" "[C" .null := D367 (Or.inl (hw _ (List.mem_of_getElem? (i := 16) rfl))) (ty := (.array .char)) (by decide)
    have F367_limit : Fld Z h367 b367 "com/example/leafcutter/leafcutter/io/TextBuffer" "limit" "I" (.int (0 : Int32)) := D367 (Or.inr (hw _ (List.mem_of_getElem? (i := 18) rfl))) (ty := .int) (by decide)
    have F367_whenFull : Fld Z h367 b367 "com/example/leafcutter/leafcutter/io/TextBuffer" "whenFull" "Ljava/util/function/Consumer;" .null := D367 (Or.inr (hw _ (List.mem_of_getElem? (i := 20) rfl))) (ty := (.object "java/util/function/Consumer")) (by decide)
    have F367_length : Fld Z h367 b367 "com/example/leafcutter/leafcutter/io/TextBuffer" "length" "I" (.int (0 : Int32)) := D367 (Or.inl (hw _ (List.mem_of_getElem? (i := 28) rfl))) (ty := .int) (by decide)
    replace G : Gets p e below _ (T367.setTop (mkF m 107 #[.val (.int i0), .val (.int i1), .val (.int i2), .val (.int i3), .val (.int i4), .val (.int nq0), .val (.int m0), .val (.int (1 : Int32)), .val (.int c0), .val (.int c1), .val (.int c2), .val (.int o0), .val (.int o1), .val (.int o2), .unset, .unset, .unset, .unset] [(.ref b367)])) := fun t k => G t (st367 t k)
    replace G := own_dup (q := 108) G X367.here hx (hb hby at_107) rfl rfl
    have F370 : Sta Z h367 "com/example/leafcutter/leafcutter/io/TextBuffer" "NO_STORAGE" "[C" (.ref sa) := (P0.ext E367)
    obtain ⟨_, _, ⟨T369, L369, kk369, nn369⟩, -, X369, ⟨Lc369, hQ369, l369, y369, z369⟩, st369⟩ := X367.specialBack hx (y := (⟨"com/example/leafcutter/leafcutter/io/TextBuffer", "<init>", "()V"⟩ : MethodName)) rfl hown (mvT hZ (hw _ (List.mem_of_getElem? (i := 3) rfl))) (mvT hZ (hw _ (List.mem_of_getElem? (i := 4) rfl))) (mvT hZ (hw _ (List.mem_of_getElem? (i := 5) rfl))) (by decide) (backOf (W := 1) (rm1 l Z a0 hw [] b367 sa h367 n0 Z367 F367_chars F367_length F367_limit F367_whenFull A367 ge_b367 F370) hZ (hw _ (List.mem_of_getElem? (i := 5) rfl)) (hw _ (List.mem_of_getElem? (i := 2) rfl)) (by decide) (by decide)) (g := (mkF m 108 #[.val (.int i0), .val (.int i1), .val (.int i2), .val (.int i3), .val (.int i4), .val (.int nq0), .val (.int m0), .val (.int (1 : Int32)), .val (.int c0), .val (.int c1), .val (.int c2), .val (.int o0), .val (.int o1), .val (.int o2), .unset, .unset, .unset, .unset] [(.ref b367), (.ref b367)])) rfl (by rw [hml]; rfl) (Steps.refl _) (a := b367) (argsL := []) (rest := [(.ref b367)]) (lenOf pd_6 rfl) rfl (by show 2 * 0 + _ ≤ _; exact Nat.le_of_eq rfl) (hb hby at_108) (fun _ _ => ⟨rfl, e367, (by decide : 1 + 0 ≤ _), (by decide : 4 + 0 ≤ _)⟩)
    dsimp only [Pt.U, Pt.locs, Pt.cells, Pt.slots] at X369 l369 y369 z369 st369 hQ369
    subst l369 y369 z369
    obtain ⟨rfl, N369q, K369q, B369_0, B369_1, B369_2, B369_3⟩ := hQ369
    have Z369 : n0 ≤ T369.heap.size := Nat.le_trans Z367 K369q.1
    have N369 := Fr.app N0 N369q
    replace G : Gets p e below _ (T369.setTop (mkF m 111 #[.val (.int i0), .val (.int i1), .val (.int i2), .val (.int i3), .val (.int i4), .val (.int nq0), .val (.int m0), .val (.int (1 : Int32)), .val (.int c0), .val (.int c1), .val (.int c2), .val (.int o0), .val (.int o1), .val (.int o2), .unset, .unset, .unset, .unset] [(.ref b367)])) := fun t k => G t (st369.trans k)
    rcases own_cases4 (own_m3 hn_nq0) with rfl | rfl | rfl | rfl
    · replace G := own_astore (q := 113) (l' := #[.val (.int i0), .val (.int i1), .val (.int i2), .val (.int i3), .val (.int i4), .val (.int (0 : Int32)), .val (.int m0), .val (.int (1 : Int32)), .val (.int c0), .val (.int c1), .val (.int c2), .val (.int o0), .val (.int o1), .val (.int o2), .val (.ref b367), .unset, .unset, .unset]) G X369.here hx (hb hby at_111) rfl rfl rfl
      replace G := own_iload (q := 115) G X369.here hx (hb hby at_113) rfl rfl
      have hc115_371 : ¬ ((0 : Int32) < (0 : Int32)) := by decide
      replace G := own_ifYes (q := 126) G X369.here hx (hb hby at_115) ((if0 _ _).trans (flt hc115_371).2.2.2) (by decide) (by decide)
      replace G := own_iload (q := 128) G X369.here hx (hb hby at_126) rfl rfl
      replace G := own_iconst (q := 129) G X369.here hx (hb hby at_128) (v := (1 : Int32)) (by decide) rfl
      have hc129_372 : ¬ ((1 : Int32) < (0 : Int32)) := by decide
      replace G := own_icmpYes (q := 140) G X369.here hx (hb hby at_129) (flt hc129_372).2.2.2 (by decide) (by decide)
      replace G := own_iload (q := 142) G X369.here hx (hb hby at_140) rfl rfl
      replace G := own_iconst (q := 143) G X369.here hx (hb hby at_142) (v := (2 : Int32)) (by decide) rfl
      have hc143_373 : ¬ ((2 : Int32) < (0 : Int32)) := by decide
      replace G := own_icmpYes (q := 154) G X369.here hx (hb hby at_143) (flt hc143_373).2.2.2 (by decide) (by decide)
      replace G := own_aconst_null (q := 155) G X369.here hx (hb hby at_154) rfl
      replace G := own_astore (q := 157) (l' := #[.val (.int i0), .val (.int i1), .val (.int i2), .val (.int i3), .val (.int i4), .val (.int (0 : Int32)), .val (.int m0), .val (.int (1 : Int32)), .val (.int c0), .val (.int c1), .val (.int c2), .val (.int o0), .val (.int o1), .val (.int o2), .val (.ref b367), .val .null, .unset, .unset]) G X369.here hx (hb hby at_155) rfl rfl rfl
      replace G := own_iload (q := 159) G X369.here hx (hb hby at_157) rfl rfl
      have hc159_374 : ¬ ((1 : Int32) = (0 : Int32)) := by decide
      replace G := own_ifYes (q := 203) G X369.here hx (hb hby at_159) ((if0 _ _).trans (feq hc159_374).2) (by decide) (by decide)
      replace G := own_aload (q := 205) G X369.here hx (hb hby at_203) rfl rfl rfl
      replace G := own_aload (q := 207) G X369.here hx (hb hby at_205) rfl rfl rfl
      have F376 : Exa Z T369.heap b367 "com/example/leafcutter/leafcutter/io/TextBuffer" := (A367.keep K369q)
      obtain ⟨cq375, kq375, q375a, q375b, q375c⟩ := isOf hZ rfl F376
      obtain ⟨_, _, ⟨T375, L375, kk375, nn375⟩, -, X375, ⟨Lc375, hQ375, l375, y375, z375⟩, st375⟩ := X369.virtualBack hx (y := (⟨"com/example/leafcutter/leafcutter/io/TextBuffer", "contentEquals", "([C)Z"⟩ : MethodName)) (z := (⟨"com/example/leafcutter/leafcutter/io/TextBuffer", "contentEquals", "([C)Z"⟩ : MethodName)) hown (mvT hZ (hw _ (List.mem_of_getElem? (i := 22) rfl))) (mvT hZ (hw _ (List.mem_of_getElem? (i := 23) rfl))) (notFace_of_selects (args := #[]) (mvT hZ (hw _ (List.mem_of_getElem? (i := 25) rfl)))) (mvT hZ (hw _ (List.mem_of_getElem? (i := 25) rfl))) (mvT hZ (hw _ (List.mem_of_getElem? (i := 24) rfl))) (by decide) (backOf (W := 0) (rm4nul l Z a0 hw [] b367 T369.heap n0 Z369 ) hZ (hw _ (List.mem_of_getElem? (i := 26) rfl)) (hw _ (List.mem_of_getElem? (i := 2) rfl)) (by decide) (by decide)) q375a q375c (g := (mkF m 207 #[.val (.int i0), .val (.int i1), .val (.int i2), .val (.int i3), .val (.int i4), .val (.int (0 : Int32)), .val (.int m0), .val (.int (1 : Int32)), .val (.int c0), .val (.int c1), .val (.int c2), .val (.int o0), .val (.int o1), .val (.int o2), .val (.ref b367), .val .null, .unset, .unset] [.null, (.ref b367)])) rfl (by rw [hml]; rfl) (Steps.refl _) (argsL := [.null]) (rest := []) (lenOf pd_7 rfl) rfl (by show 2 * 0 + _ ≤ _; exact Nat.le_of_eq rfl) (hb hby at_207) (fun _ _ => ⟨rfl, rfl, (by decide : 1 + 0 ≤ _), (by decide : 4 + 0 ≤ _)⟩)
      dsimp only [Pt.U, Pt.locs, Pt.cells, Pt.slots] at X375 l375 y375 z375 st375 hQ375
      subst l375 y375 z375
      obtain ⟨rfl, N375q, e375⟩ := hQ375
      have N375 := Fr.app N369 N375q
      replace G : Gets p e below _ (T375.setTop (mkF m 210 #[.val (.int i0), .val (.int i1), .val (.int i2), .val (.int i3), .val (.int i4), .val (.int (0 : Int32)), .val (.int m0), .val (.int (1 : Int32)), .val (.int c0), .val (.int c1), .val (.int c2), .val (.int o0), .val (.int o1), .val (.int o2), .val (.ref b367), .val .null, .unset, .unset] [(.int (0 : Int32))])) := fun t k => G t (st375.trans k)
      replace G := own_istore (q := 212) (l' := #[.val (.int i0), .val (.int i1), .val (.int i2), .val (.int i3), .val (.int i4), .val (.int (0 : Int32)), .val (.int m0), .val (.int (1 : Int32)), .val (.int c0), .val (.int c1), .val (.int c2), .val (.int o0), .val (.int o1), .val (.int o2), .val (.ref b367), .val .null, .val (.int (0 : Int32)), .unset]) G X375.here hx (hb hby at_210) rfl rfl
      replace G := own_iload (q := 214) G X375.here hx (hb hby at_212) rfl rfl
      have hc214_377 : ¬ ((1 : Int32) = (0 : Int32)) := by decide
      replace G := own_ifYes (q := 267) G X375.here hx (hb hby at_214) ((if0 _ _).trans (feq hc214_377).2) (by decide) (by decide)
      replace G := own_iconst (q := 268) G X375.here hx (hb hby at_267) (v := (0 : Int32)) (by decide) rfl
      replace G := own_istore (q := 270) (l' := #[.val (.int i0), .val (.int i1), .val (.int i2), .val (.int i3), .val (.int i4), .val (.int (0 : Int32)), .val (.int m0), .val (.int (1 : Int32)), .val (.int c0), .val (.int c1), .val (.int c2), .val (.int o0), .val (.int o1), .val (.int o2), .val (.ref b367), .val .null, .val (.int (0 : Int32)), .val (.int (0 : Int32))]) G X375.here hx (hb hby at_268) rfl rfl
      replace G := own_iload (q := 272) G X375.here hx (hb hby at_270) rfl rfl
      replace G := own_iload (q := 274) G X375.here hx (hb hby at_272) rfl rfl
      have hc274_378 : (0 : Int32) = (0 : Int32) := by decide
      replace G := own_icmpNo (q := 277) G X375.here hx (hb hby at_274) (teq hc274_378).2 rfl
      replace G := own_aload (q := 279) G X375.here hx (hb hby at_277) rfl rfl rfl
      obtain ⟨cq379, kq379, q379a, q379b, q379c⟩ := isOf hZ e375 F376
      obtain ⟨_, _, ⟨T379, L379, kk379, nn379⟩, -, X379, ⟨Lc379, hQ379, l379, y379, z379⟩, st379⟩ := X375.virtualBack hx (y := (⟨"com/example/leafcutter/leafcutter/io/TextBuffer", "length", "()I"⟩ : MethodName)) (z := (⟨"com/example/leafcutter/leafcutter/io/TextBuffer", "length", "()I"⟩ : MethodName)) hown (mvT hZ (hw _ (List.mem_of_getElem? (i := 29) rfl))) (mvT hZ (hw _ (List.mem_of_getElem? (i := 30) rfl))) (notFace_of_selects (args := #[]) (mvT hZ (hw _ (List.mem_of_getElem? (i := 32) rfl)))) (mvT hZ (hw _ (List.mem_of_getElem? (i := 32) rfl))) (mvT hZ (hw _ (List.mem_of_getElem? (i := 31) rfl))) (by decide) (backOf (W := 0) (rm5k0 l Z a0 hw [] b367 T369.heap n0 Z369 B369_1) hZ (hw _ (List.mem_of_getElem? (i := 33) rfl)) (hw _ (List.mem_of_getElem? (i := 2) rfl)) (by decide) (by decide)) q379a q379c (g := (mkF m 279 #[.val (.int i0), .val (.int i1), .val (.int i2), .val (.int i3), .val (.int i4), .val (.int (0 : Int32)), .val (.int m0), .val (.int (1 : Int32)), .val (.int c0), .val (.int c1), .val (.int c2), .val (.int o0), .val (.int o1), .val (.int o2), .val (.ref b367), .val .null, .val (.int (0 : Int32)), .val (.int (0 : Int32))] [(.ref b367)])) rfl (by rw [hml]; rfl) (Steps.refl _) (argsL := []) (rest := []) (lenOf pd_8 rfl) rfl (by show 2 * 0 + _ ≤ _; exact Nat.le_of_eq rfl) (hb hby at_279) (fun _ _ => ⟨rfl, e375, (by decide : 1 + 0 ≤ _), (by decide : 4 + 0 ≤ _)⟩)
      dsimp only [Pt.U, Pt.locs, Pt.cells, Pt.slots] at X379 l379 y379 z379 st379 hQ379
      subst l379 y379 z379
      obtain ⟨rfl, N379q, e379⟩ := hQ379
      have N379 := Fr.app N375 N379q
      replace G : Gets p e below _ (T379.setTop (mkF m 282 #[.val (.int i0), .val (.int i1), .val (.int i2), .val (.int i3), .val (.int i4), .val (.int (0 : Int32)), .val (.int m0), .val (.int (1 : Int32)), .val (.int c0), .val (.int c1), .val (.int c2), .val (.int o0), .val (.int o1), .val (.int o2), .val (.ref b367), .val .null, .val (.int (0 : Int32)), .val (.int (0 : Int32))] [(.int (0 : Int32))])) := fun t k => G t (st379.trans k)
      replace G := own_iload (q := 284) G X379.here hx (hb hby at_282) rfl rfl
      have hc284_380 : (0 : Int32) = (0 : Int32) := by decide
      replace G := own_icmpNo (q := 287) G X379.here hx (hb hby at_284) (teq hc284_380).2 rfl
      replace G := own_iconst (q := 288) G X379.here hx (hb hby at_287) (v := (1 : Int32)) (by decide) rfl
      replace G := own_goto (q := 292) G X379.here hx (hb hby at_288) (by decide) (by decide)
      obtain ⟨fs, hr, hrun, hended, hW, hsame⟩ := X379.leave (v := some (.int (1 : Int32))) (fun h => by rw [Bd.returns] at h; cases h)
      refine ⟨_, _, G _ (retOut X379 hx Bd.returns rfl (Or.inl ⟨rfl, Or.inr (Or.inl rfl), _, rfl⟩) (hb hby at_292) hr), hrun, hended, _, _, rfl, ?_, ⟨_, rfl⟩, hW, hsame.mono (by decide) (by decide)⟩
      show Q0 Z i0 i1 i2 i3 i4 sa ks h0 n0 _ T379.heap _
      rw [e379]
      exact ⟨rfl, N379⟩
    · replace G := own_astore (q := 113) (l' := #[.val (.int i0), .val (.int i1), .val (.int i2), .val (.int i3), .val (.int i4), .val (.int (1 : Int32)), .val (.int m0), .val (.int (1 : Int32)), .val (.int c0), .val (.int c1), .val (.int c2), .val (.int o0), .val (.int o1), .val (.int o2), .val (.ref b367), .unset, .unset, .unset]) G X369.here hx (hb hby at_111) rfl rfl rfl
      replace G := own_iload (q := 115) G X369.here hx (hb hby at_113) rfl rfl
      have hc115_381 : (0 : Int32) < (1 : Int32) := by decide
      replace G := own_ifNo (q := 118) G X369.here hx (hb hby at_115) ((if0 _ _).trans (tlt hc115_381).2.2.2) rfl
      replace G := own_aload (q := 120) G X369.here hx (hb hby at_118) rfl rfl rfl
      replace G := own_iload (q := 122) G X369.here hx (hb hby at_120) rfl rfl
      have F383 : Exa Z T369.heap b367 "com/example/leafcutter/leafcutter/io/TextBuffer" := (A367.keep K369q)
      have F384 : Arv Z T369.heap sa ks .char (0 : Int32) [] (.int (0 : Int32)) := ((P1.ext E367).keep K369q (ninS ne368 nin0))
      obtain ⟨cq382, kq382, q382a, q382b, q382c⟩ := isOf hZ rfl F383
      obtain ⟨_, _, ⟨T382, L382, kk382, nn382⟩, -, X382, ⟨Lc382, hQ382, l382, y382, z382⟩, st382⟩ := X369.virtualBack hx (y := (⟨"com/example/leafcutter/leafcutter/io/TextBuffer", "append", "(C)Lcom/example/leafcutter/leafcutter/io/TextBuffer;"⟩ : MethodName)) (z := (⟨"com/example/leafcutter/leafcutter/io/TextBuffer", "append", "(C)Lcom/example/leafcutter/leafcutter/io/TextBuffer;"⟩ : MethodName)) hown (mvT hZ (hw _ (List.mem_of_getElem? (i := 34) rfl))) (mvT hZ (hw _ (List.mem_of_getElem? (i := 35) rfl))) (notFace_of_selects (args := #[]) (mvT hZ (hw _ (List.mem_of_getElem? (i := 37) rfl)))) (mvT hZ (hw _ (List.mem_of_getElem? (i := 37) rfl))) (mvT hZ (hw _ (List.mem_of_getElem? (i := 36) rfl))) (by decide) (backOf (W := 0) (rm6s0 l Z a0 hw [] b367 c0 sa ks T369.heap n0 Z369 B369_0 B369_1 B369_2 B369_3 F383 F384 ge_b367 (Ne.symm ne368)) hZ (hw _ (List.mem_of_getElem? (i := 38) rfl)) (hw _ (List.mem_of_getElem? (i := 2) rfl)) (by decide) (by decide)) q382a q382c (g := (mkF m 122 #[.val (.int i0), .val (.int i1), .val (.int i2), .val (.int i3), .val (.int i4), .val (.int (1 : Int32)), .val (.int m0), .val (.int (1 : Int32)), .val (.int c0), .val (.int c1), .val (.int c2), .val (.int o0), .val (.int o1), .val (.int o2), .val (.ref b367), .unset, .unset, .unset] [(.int c0), (.ref b367)])) rfl (by rw [hml]; rfl) (Steps.refl _) (argsL := [(.int c0)]) (rest := []) (lenOf pd_9 rfl) rfl (by show 2 * 0 + _ ≤ _; exact Nat.le_of_eq rfl) (hb hby at_122) (fun _ _ => ⟨rfl, rfl, (by decide : 1 + 1 ≤ _), (by decide : 4 + 16 ≤ _)⟩)
      dsimp only [Pt.U, Pt.locs, Pt.cells, Pt.slots] at X382 l382 y382 z382 st382 hQ382
      subst l382 y382 z382
      obtain ⟨b_382, kb_382, rfl, N382q, K382q, B382_0, B382_1, B382_2, B382_3, B382_4, B382_5⟩ := hQ382
      have ne385 : b367 ≠ b_382 := Nat.ne_of_lt (Nat.lt_of_lt_of_le B369_3.lt B382_4)
      have ne386 : sa ≠ b_382 := Nat.ne_of_lt (Nat.lt_of_lt_of_le F384.lt B382_4)
      have ge_b_382 : n0 ≤ b_382 := Nat.le_trans Z369 B382_4
      have Z382 : n0 ≤ T382.heap.size := Nat.le_trans Z369 K382q.1
      have N382 := Fr.app N369 N382q
      replace G : Gets p e below _ (T382.setTop (mkF m 125 #[.val (.int i0), .val (.int i1), .val (.int i2), .val (.int i3), .val (.int i4), .val (.int (1 : Int32)), .val (.int m0), .val (.int (1 : Int32)), .val (.int c0), .val (.int c1), .val (.int c2), .val (.int o0), .val (.int o1), .val (.int o2), .val (.ref b367), .unset, .unset, .unset] [(.ref b367)])) := fun t k => G t (st382.trans k)
      replace G := own_pop (q := 126) G X382.here hx (hb hby at_125) rfl rfl
      replace G := own_iload (q := 128) G X382.here hx (hb hby at_126) rfl rfl
      replace G := own_iconst (q := 129) G X382.here hx (hb hby at_128) (v := (1 : Int32)) (by decide) rfl
      have hc129_387 : ¬ ((1 : Int32) < (1 : Int32)) := by decide
      replace G := own_icmpYes (q := 140) G X382.here hx (hb hby at_129) (flt hc129_387).2.2.2 (by decide) (by decide)
      replace G := own_iload (q := 142) G X382.here hx (hb hby at_140) rfl rfl
      replace G := own_iconst (q := 143) G X382.here hx (hb hby at_142) (v := (2 : Int32)) (by decide) rfl
      have hc143_388 : ¬ ((2 : Int32) < (1 : Int32)) := by decide
      replace G := own_icmpYes (q := 154) G X382.here hx (hb hby at_143) (flt hc143_388).2.2.2 (by decide) (by decide)
      replace G := own_aconst_null (q := 155) G X382.here hx (hb hby at_154) rfl
      replace G := own_astore (q := 157) (l' := #[.val (.int i0), .val (.int i1), .val (.int i2), .val (.int i3), .val (.int i4), .val (.int (1 : Int32)), .val (.int m0), .val (.int (1 : Int32)), .val (.int c0), .val (.int c1), .val (.int c2), .val (.int o0), .val (.int o1), .val (.int o2), .val (.ref b367), .val .null, .unset, .unset]) G X382.here hx (hb hby at_155) rfl rfl rfl
      replace G := own_iload (q := 159) G X382.here hx (hb hby at_157) rfl rfl
      have hc159_389 : ¬ ((1 : Int32) = (0 : Int32)) := by decide
      replace G := own_ifYes (q := 203) G X382.here hx (hb hby at_159) ((if0 _ _).trans (feq hc159_389).2) (by decide) (by decide)
      replace G := own_aload (q := 205) G X382.here hx (hb hby at_203) rfl rfl rfl
      replace G := own_aload (q := 207) G X382.here hx (hb hby at_205) rfl rfl rfl
      have F391 : Exa Z T382.heap b367 "com/example/leafcutter/leafcutter/io/TextBuffer" := (F383.keep K382q)
      obtain ⟨cq390, kq390, q390a, q390b, q390c⟩ := isOf hZ rfl F391
      obtain ⟨_, _, ⟨T390, L390, kk390, nn390⟩, -, X390, ⟨Lc390, hQ390, l390, y390, z390⟩, st390⟩ := X382.virtualBack hx (y := (⟨"com/example/leafcutter/leafcutter/io/TextBuffer", "contentEquals", "([C)Z"⟩ : MethodName)) (z := (⟨"com/example/leafcutter/leafcutter/io/TextBuffer", "contentEquals", "([C)Z"⟩ : MethodName)) hown (mvT hZ (hw _ (List.mem_of_getElem? (i := 22) rfl))) (mvT hZ (hw _ (List.mem_of_getElem? (i := 23) rfl))) (notFace_of_selects (args := #[]) (mvT hZ (hw _ (List.mem_of_getElem? (i := 25) rfl)))) (mvT hZ (hw _ (List.mem_of_getElem? (i := 25) rfl))) (mvT hZ (hw _ (List.mem_of_getElem? (i := 24) rfl))) (by decide) (backOf (W := 0) (rm4nul l Z a0 hw [] b367 T382.heap n0 Z382 ) hZ (hw _ (List.mem_of_getElem? (i := 26) rfl)) (hw _ (List.mem_of_getElem? (i := 2) rfl)) (by decide) (by decide)) q390a q390c (g := (mkF m 207 #[.val (.int i0), .val (.int i1), .val (.int i2), .val (.int i3), .val (.int i4), .val (.int (1 : Int32)), .val (.int m0), .val (.int (1 : Int32)), .val (.int c0), .val (.int c1), .val (.int c2), .val (.int o0), .val (.int o1), .val (.int o2), .val (.ref b367), .val .null, .unset, .unset] [.null, (.ref b367)])) rfl (by rw [hml]; rfl) (Steps.refl _) (argsL := [.null]) (rest := []) (lenOf pd_7 rfl) rfl (by show 2 * 0 + _ ≤ _; exact Nat.le_of_eq rfl) (hb hby at_207) (fun _ _ => ⟨rfl, rfl, (by decide : 2 + 0 ≤ _), (by decide : 20 + 0 ≤ _)⟩)
      dsimp only [Pt.U, Pt.locs, Pt.cells, Pt.slots] at X390 l390 y390 z390 st390 hQ390
      subst l390 y390 z390
      obtain ⟨rfl, N390q, e390⟩ := hQ390
      have N390 := Fr.app N382 N390q
      replace G : Gets p e below _ (T390.setTop (mkF m 210 #[.val (.int i0), .val (.int i1), .val (.int i2), .val (.int i3), .val (.int i4), .val (.int (1 : Int32)), .val (.int m0), .val (.int (1 : Int32)), .val (.int c0), .val (.int c1), .val (.int c2), .val (.int o0), .val (.int o1), .val (.int o2), .val (.ref b367), .val .null, .unset, .unset] [(.int (0 : Int32))])) := fun t k => G t (st390.trans k)
      replace G := own_istore (q := 212) (l' := #[.val (.int i0), .val (.int i1), .val (.int i2), .val (.int i3), .val (.int i4), .val (.int (1 : Int32)), .val (.int m0), .val (.int (1 : Int32)), .val (.int c0), .val (.int c1), .val (.int c2), .val (.int o0), .val (.int o1), .val (.int o2), .val (.ref b367), .val .null, .val (.int (0 : Int32)), .unset]) G X390.here hx (hb hby at_210) rfl rfl
      replace G := own_iload (q := 214) G X390.here hx (hb hby at_212) rfl rfl
      have hc214_392 : ¬ ((1 : Int32) = (0 : Int32)) := by decide
      replace G := own_ifYes (q := 267) G X390.here hx (hb hby at_214) ((if0 _ _).trans (feq hc214_392).2) (by decide) (by decide)
      replace G := own_iconst (q := 268) G X390.here hx (hb hby at_267) (v := (0 : Int32)) (by decide) rfl
      replace G := own_istore (q := 270) (l' := #[.val (.int i0), .val (.int i1), .val (.int i2), .val (.int i3), .val (.int i4), .val (.int (1 : Int32)), .val (.int m0), .val (.int (1 : Int32)), .val (.int c0), .val (.int c1), .val (.int c2), .val (.int o0), .val (.int o1), .val (.int o2), .val (.ref b367), .val .null, .val (.int (0 : Int32)), .val (.int (0 : Int32))]) G X390.here hx (hb hby at_268) rfl rfl
      replace G := own_iload (q := 272) G X390.here hx (hb hby at_270) rfl rfl
      replace G := own_iload (q := 274) G X390.here hx (hb hby at_272) rfl rfl
      have hc274_393 : (0 : Int32) = (0 : Int32) := by decide
      replace G := own_icmpNo (q := 277) G X390.here hx (hb hby at_274) (teq hc274_393).2 rfl
      replace G := own_aload (q := 279) G X390.here hx (hb hby at_277) rfl rfl rfl
      obtain ⟨cq394, kq394, q394a, q394b, q394c⟩ := isOf hZ e390 F391
      obtain ⟨_, _, ⟨T394, L394, kk394, nn394⟩, -, X394, ⟨Lc394, hQ394, l394, y394, z394⟩, st394⟩ := X390.virtualBack hx (y := (⟨"com/example/leafcutter/leafcutter/io/TextBuffer", "length", "()I"⟩ : MethodName)) (z := (⟨"com/example/leafcutter/leafcutter/io/TextBuffer", "length", "()I"⟩ : MethodName)) hown (mvT hZ (hw _ (List.mem_of_getElem? (i := 29) rfl))) (mvT hZ (hw _ (List.mem_of_getElem? (i := 30) rfl))) (notFace_of_selects (args := #[]) (mvT hZ (hw _ (List.mem_of_getElem? (i := 32) rfl)))) (mvT hZ (hw _ (List.mem_of_getElem? (i := 32) rfl))) (mvT hZ (hw _ (List.mem_of_getElem? (i := 31) rfl))) (by decide) (backOf (W := 0) (rm5k1 l Z a0 hw [] b367 T382.heap n0 Z382 B382_1) hZ (hw _ (List.mem_of_getElem? (i := 33) rfl)) (hw _ (List.mem_of_getElem? (i := 2) rfl)) (by decide) (by decide)) q394a q394c (g := (mkF m 279 #[.val (.int i0), .val (.int i1), .val (.int i2), .val (.int i3), .val (.int i4), .val (.int (1 : Int32)), .val (.int m0), .val (.int (1 : Int32)), .val (.int c0), .val (.int c1), .val (.int c2), .val (.int o0), .val (.int o1), .val (.int o2), .val (.ref b367), .val .null, .val (.int (0 : Int32)), .val (.int (0 : Int32))] [(.ref b367)])) rfl (by rw [hml]; rfl) (Steps.refl _) (argsL := []) (rest := []) (lenOf pd_8 rfl) rfl (by show 2 * 0 + _ ≤ _; exact Nat.le_of_eq rfl) (hb hby at_279) (fun _ _ => ⟨rfl, e390, (by decide : 2 + 0 ≤ _), (by decide : 20 + 0 ≤ _)⟩)
      dsimp only [Pt.U, Pt.locs, Pt.cells, Pt.slots] at X394 l394 y394 z394 st394 hQ394
      subst l394 y394 z394
      obtain ⟨rfl, N394q, e394⟩ := hQ394
      have N394 := Fr.app N390 N394q
      replace G : Gets p e below _ (T394.setTop (mkF m 282 #[.val (.int i0), .val (.int i1), .val (.int i2), .val (.int i3), .val (.int i4), .val (.int (1 : Int32)), .val (.int m0), .val (.int (1 : Int32)), .val (.int c0), .val (.int c1), .val (.int c2), .val (.int o0), .val (.int o1), .val (.int o2), .val (.ref b367), .val .null, .val (.int (0 : Int32)), .val (.int (0 : Int32))] [(.int (1 : Int32))])) := fun t k => G t (st394.trans k)
      replace G := own_iload (q := 284) G X394.here hx (hb hby at_282) rfl rfl
      have hc284_395 : (1 : Int32) = (1 : Int32) := by decide
      replace G := own_icmpNo (q := 287) G X394.here hx (hb hby at_284) (teq hc284_395).2 rfl
      replace G := own_iconst (q := 288) G X394.here hx (hb hby at_287) (v := (1 : Int32)) (by decide) rfl
      replace G := own_goto (q := 292) G X394.here hx (hb hby at_288) (by decide) (by decide)
      obtain ⟨fs, hr, hrun, hended, hW, hsame⟩ := X394.leave (v := some (.int (1 : Int32))) (fun h => by rw [Bd.returns] at h; cases h)
      refine ⟨_, _, G _ (retOut X394 hx Bd.returns rfl (Or.inl ⟨rfl, Or.inr (Or.inl rfl), _, rfl⟩) (hb hby at_292) hr), hrun, hended, _, _, rfl, ?_, ⟨_, rfl⟩, hW, hsame.mono (by decide) (by decide)⟩
      show Q0 Z i0 i1 i2 i3 i4 sa ks h0 n0 _ T394.heap _
      rw [e394]
      exact ⟨rfl, N394⟩
    · replace G := own_astore (q := 113) (l' := #[.val (.int i0), .val (.int i1), .val (.int i2), .val (.int i3), .val (.int i4), .val (.int (2 : Int32)), .val (.int m0), .val (.int (1 : Int32)), .val (.int c0), .val (.int c1), .val (.int c2), .val (.int o0), .val (.int o1), .val (.int o2), .val (.ref b367), .unset, .unset, .unset]) G X369.here hx (hb hby at_111) rfl rfl rfl
      replace G := own_iload (q := 115) G X369.here hx (hb hby at_113) rfl rfl
      have hc115_396 : (0 : Int32) < (2 : Int32) := by decide
      replace G := own_ifNo (q := 118) G X369.here hx (hb hby at_115) ((if0 _ _).trans (tlt hc115_396).2.2.2) rfl
      replace G := own_aload (q := 120) G X369.here hx (hb hby at_118) rfl rfl rfl
      replace G := own_iload (q := 122) G X369.here hx (hb hby at_120) rfl rfl
      have F398 : Exa Z T369.heap b367 "com/example/leafcutter/leafcutter/io/TextBuffer" := (A367.keep K369q)
      have F399 : Arv Z T369.heap sa ks .char (0 : Int32) [] (.int (0 : Int32)) := ((P1.ext E367).keep K369q (ninS ne368 nin0))
      obtain ⟨cq397, kq397, q397a, q397b, q397c⟩ := isOf hZ rfl F398
      obtain ⟨_, _, ⟨T397, L397, kk397, nn397⟩, -, X397, ⟨Lc397, hQ397, l397, y397, z397⟩, st397⟩ := X369.virtualBack hx (y := (⟨"com/example/leafcutter/leafcutter/io/TextBuffer", "append", "(C)Lcom/example/leafcutter/leafcutter/io/TextBuffer;"⟩ : MethodName)) (z := (⟨"com/example/leafcutter/leafcutter/io/TextBuffer", "append", "(C)Lcom/example/leafcutter/leafcutter/io/TextBuffer;"⟩ : MethodName)) hown (mvT hZ (hw _ (List.mem_of_getElem? (i := 34) rfl))) (mvT hZ (hw _ (List.mem_of_getElem? (i := 35) rfl))) (notFace_of_selects (args := #[]) (mvT hZ (hw _ (List.mem_of_getElem? (i := 37) rfl)))) (mvT hZ (hw _ (List.mem_of_getElem? (i := 37) rfl))) (mvT hZ (hw _ (List.mem_of_getElem? (i := 36) rfl))) (by decide) (backOf (W := 0) (rm6s0 l Z a0 hw [] b367 c0 sa ks T369.heap n0 Z369 B369_0 B369_1 B369_2 B369_3 F398 F399 ge_b367 (Ne.symm ne368)) hZ (hw _ (List.mem_of_getElem? (i := 38) rfl)) (hw _ (List.mem_of_getElem? (i := 2) rfl)) (by decide) (by decide)) q397a q397c (g := (mkF m 122 #[.val (.int i0), .val (.int i1), .val (.int i2), .val (.int i3), .val (.int i4), .val (.int (2 : Int32)), .val (.int m0), .val (.int (1 : Int32)), .val (.int c0), .val (.int c1), .val (.int c2), .val (.int o0), .val (.int o1), .val (.int o2), .val (.ref b367), .unset, .unset, .unset] [(.int c0), (.ref b367)])) rfl (by rw [hml]; rfl) (Steps.refl _) (argsL := [(.int c0)]) (rest := []) (lenOf pd_9 rfl) rfl (by show 2 * 0 + _ ≤ _; exact Nat.le_of_eq rfl) (hb hby at_122) (fun _ _ => ⟨rfl, rfl, (by decide : 1 + 1 ≤ _), (by decide : 4 + 16 ≤ _)⟩)
      dsimp only [Pt.U, Pt.locs, Pt.cells, Pt.slots] at X397 l397 y397 z397 st397 hQ397
      subst l397 y397 z397
      obtain ⟨b_397, kb_397, rfl, N397q, K397q, B397_0, B397_1, B397_2, B397_3, B397_4, B397_5⟩ := hQ397
      have ne400 : b367 ≠ b_397 := Nat.ne_of_lt (Nat.lt_of_lt_of_le B369_3.lt B397_4)
      have ne401 : sa ≠ b_397 := Nat.ne_of_lt (Nat.lt_of_lt_of_le F399.lt B397_4)
      have ge_b_397 : n0 ≤ b_397 := Nat.le_trans Z369 B397_4
      have Z397 : n0 ≤ T397.heap.size := Nat.le_trans Z369 K397q.1
      have N397 := Fr.app N369 N397q
      replace G : Gets p e below _ (T397.setTop (mkF m 125 #[.val (.int i0), .val (.int i1), .val (.int i2), .val (.int i3), .val (.int i4), .val (.int (2 : Int32)), .val (.int m0), .val (.int (1 : Int32)), .val (.int c0), .val (.int c1), .val (.int c2), .val (.int o0), .val (.int o1), .val (.int o2), .val (.ref b367), .unset, .unset, .unset] [(.ref b367)])) := fun t k => G t (st397.trans k)
      replace G := own_pop (q := 126) G X397.here hx (hb hby at_125) rfl rfl
      replace G := own_iload (q := 128) G X397.here hx (hb hby at_126) rfl rfl
      replace G := own_iconst (q := 129) G X397.here hx (hb hby at_128) (v := (1 : Int32)) (by decide) rfl
      have hc129_402 : (1 : Int32) < (2 : Int32) := by decide
      replace G := own_icmpNo (q := 132) G X397.here hx (hb hby at_129) (tlt hc129_402).2.2.2 rfl
      replace G := own_aload (q := 134) G X397.here hx (hb hby at_132) rfl rfl rfl
      replace G := own_iload (q := 136) G X397.here hx (hb hby at_134) rfl rfl
      have F404 : Exa Z T397.heap b367 "com/example/leafcutter/leafcutter/io/TextBuffer" := (F398.keep K397q)
      obtain ⟨cq403, kq403, q403a, q403b, q403c⟩ := isOf hZ rfl F404
      obtain ⟨_, _, ⟨T403, L403, kk403, nn403⟩, -, X403, ⟨Lc403, hQ403, l403, y403, z403⟩, st403⟩ := X397.virtualBack hx (y := (⟨"com/example/leafcutter/leafcutter/io/TextBuffer", "append", "(C)Lcom/example/leafcutter/leafcutter/io/TextBuffer;"⟩ : MethodName)) (z := (⟨"com/example/leafcutter/leafcutter/io/TextBuffer", "append", "(C)Lcom/example/leafcutter/leafcutter/io/TextBuffer;"⟩ : MethodName)) hown (mvT hZ (hw _ (List.mem_of_getElem? (i := 34) rfl))) (mvT hZ (hw _ (List.mem_of_getElem? (i := 35) rfl))) (notFace_of_selects (args := #[]) (mvT hZ (hw _ (List.mem_of_getElem? (i := 37) rfl)))) (mvT hZ (hw _ (List.mem_of_getElem? (i := 37) rfl))) (mvT hZ (hw _ (List.mem_of_getElem? (i := 36) rfl))) (by decide) (backOf (W := 0) (rm6s1 l Z a0 hw [] b367 c1 b_397 kb_397 (nar .char c0) T397.heap n0 Z397 B397_0 B397_1 B397_2 B397_3 F404 B397_5 ge_b367 ge_b_397 ne400) hZ (hw _ (List.mem_of_getElem? (i := 38) rfl)) (hw _ (List.mem_of_getElem? (i := 2) rfl)) (by decide) (by decide)) q403a q403c (g := (mkF m 136 #[.val (.int i0), .val (.int i1), .val (.int i2), .val (.int i3), .val (.int i4), .val (.int (2 : Int32)), .val (.int m0), .val (.int (1 : Int32)), .val (.int c0), .val (.int c1), .val (.int c2), .val (.int o0), .val (.int o1), .val (.int o2), .val (.ref b367), .unset, .unset, .unset] [(.int c1), (.ref b367)])) rfl (by rw [hml]; rfl) (Steps.refl _) (argsL := [(.int c1)]) (rest := []) (lenOf pd_9 rfl) rfl (by show 2 * 0 + _ ≤ _; exact Nat.le_of_eq rfl) (hb hby at_136) (fun _ _ => ⟨rfl, rfl, (by decide : 2 + 0 ≤ _), (by decide : 20 + 0 ≤ _)⟩)
      dsimp only [Pt.U, Pt.locs, Pt.cells, Pt.slots] at X403 l403 y403 z403 st403 hQ403
      subst l403 y403 z403
      obtain ⟨rfl, N403q, K403q, B403_0, B403_1, B403_2, B403_3, B403_4⟩ := hQ403
      have Z403 : n0 ≤ T403.heap.size := Nat.le_trans Z397 K403q.1
      have N403 := Fr.app N397 N403q
      replace G : Gets p e below _ (T403.setTop (mkF m 139 #[.val (.int i0), .val (.int i1), .val (.int i2), .val (.int i3), .val (.int i4), .val (.int (2 : Int32)), .val (.int m0), .val (.int (1 : Int32)), .val (.int c0), .val (.int c1), .val (.int c2), .val (.int o0), .val (.int o1), .val (.int o2), .val (.ref b367), .unset, .unset, .unset] [(.ref b367)])) := fun t k => G t (st403.trans k)
      replace G := own_pop (q := 140) G X403.here hx (hb hby at_139) rfl rfl
      replace G := own_iload (q := 142) G X403.here hx (hb hby at_140) rfl rfl
      replace G := own_iconst (q := 143) G X403.here hx (hb hby at_142) (v := (2 : Int32)) (by decide) rfl
      have hc143_405 : ¬ ((2 : Int32) < (2 : Int32)) := by decide
      replace G := own_icmpYes (q := 154) G X403.here hx (hb hby at_143) (flt hc143_405).2.2.2 (by decide) (by decide)
      replace G := own_aconst_null (q := 155) G X403.here hx (hb hby at_154) rfl
      replace G := own_astore (q := 157) (l' := #[.val (.int i0), .val (.int i1), .val (.int i2), .val (.int i3), .val (.int i4), .val (.int (2 : Int32)), .val (.int m0), .val (.int (1 : Int32)), .val (.int c0), .val (.int c1), .val (.int c2), .val (.int o0), .val (.int o1), .val (.int o2), .val (.ref b367), .val .null, .unset, .unset]) G X403.here hx (hb hby at_155) rfl rfl rfl
      replace G := own_iload (q := 159) G X403.here hx (hb hby at_157) rfl rfl
      have hc159_406 : ¬ ((1 : Int32) = (0 : Int32)) := by decide
      replace G := own_ifYes (q := 203) G X403.here hx (hb hby at_159) ((if0 _ _).trans (feq hc159_406).2) (by decide) (by decide)
      replace G := own_aload (q := 205) G X403.here hx (hb hby at_203) rfl rfl rfl
      replace G := own_aload (q := 207) G X403.here hx (hb hby at_205) rfl rfl rfl
      have F408 : Exa Z T403.heap b367 "com/example/leafcutter/leafcutter/io/TextBuffer" := (F404.keep K403q)
      obtain ⟨cq407, kq407, q407a, q407b, q407c⟩ := isOf hZ rfl F408
      obtain ⟨_, _, ⟨T407, L407, kk407, nn407⟩, -, X407, ⟨Lc407, hQ407, l407, y407, z407⟩, st407⟩ := X403.virtualBack hx (y := (⟨"com/example/leafcutter/leafcutter/io/TextBuffer", "contentEquals", "([C)Z"⟩ : MethodName)) (z := (⟨"com/example/leafcutter/leafcutter/io/TextBuffer", "contentEquals", "([C)Z"⟩ : MethodName)) hown (mvT hZ (hw _ (List.mem_of_getElem? (i := 22) rfl))) (mvT hZ (hw _ (List.mem_of_getElem? (i := 23) rfl))) (notFace_of_selects (args := #[]) (mvT hZ (hw _ (List.mem_of_getElem? (i := 25) rfl)))) (mvT hZ (hw _ (List.mem_of_getElem? (i := 25) rfl))) (mvT hZ (hw _ (List.mem_of_getElem? (i := 24) rfl))) (by decide) (backOf (W := 0) (rm4nul l Z a0 hw [] b367 T403.heap n0 Z403 ) hZ (hw _ (List.mem_of_getElem? (i := 26) rfl)) (hw _ (List.mem_of_getElem? (i := 2) rfl)) (by decide) (by decide)) q407a q407c (g := (mkF m 207 #[.val (.int i0), .val (.int i1), .val (.int i2), .val (.int i3), .val (.int i4), .val (.int (2 : Int32)), .val (.int m0), .val (.int (1 : Int32)), .val (.int c0), .val (.int c1), .val (.int c2), .val (.int o0), .val (.int o1), .val (.int o2), .val (.ref b367), .val .null, .unset, .unset] [.null, (.ref b367)])) rfl (by rw [hml]; rfl) (Steps.refl _) (argsL := [.null]) (rest := []) (lenOf pd_7 rfl) rfl (by show 2 * 0 + _ ≤ _; exact Nat.le_of_eq rfl) (hb hby at_207) (fun _ _ => ⟨rfl, rfl, (by decide : 2 + 0 ≤ _), (by decide : 20 + 0 ≤ _)⟩)
      dsimp only [Pt.U, Pt.locs, Pt.cells, Pt.slots] at X407 l407 y407 z407 st407 hQ407
      subst l407 y407 z407
      obtain ⟨rfl, N407q, e407⟩ := hQ407
      have N407 := Fr.app N403 N407q
      replace G : Gets p e below _ (T407.setTop (mkF m 210 #[.val (.int i0), .val (.int i1), .val (.int i2), .val (.int i3), .val (.int i4), .val (.int (2 : Int32)), .val (.int m0), .val (.int (1 : Int32)), .val (.int c0), .val (.int c1), .val (.int c2), .val (.int o0), .val (.int o1), .val (.int o2), .val (.ref b367), .val .null, .unset, .unset] [(.int (0 : Int32))])) := fun t k => G t (st407.trans k)
      replace G := own_istore (q := 212) (l' := #[.val (.int i0), .val (.int i1), .val (.int i2), .val (.int i3), .val (.int i4), .val (.int (2 : Int32)), .val (.int m0), .val (.int (1 : Int32)), .val (.int c0), .val (.int c1), .val (.int c2), .val (.int o0), .val (.int o1), .val (.int o2), .val (.ref b367), .val .null, .val (.int (0 : Int32)), .unset]) G X407.here hx (hb hby at_210) rfl rfl
      replace G := own_iload (q := 214) G X407.here hx (hb hby at_212) rfl rfl
      have hc214_409 : ¬ ((1 : Int32) = (0 : Int32)) := by decide
      replace G := own_ifYes (q := 267) G X407.here hx (hb hby at_214) ((if0 _ _).trans (feq hc214_409).2) (by decide) (by decide)
      replace G := own_iconst (q := 268) G X407.here hx (hb hby at_267) (v := (0 : Int32)) (by decide) rfl
      replace G := own_istore (q := 270) (l' := #[.val (.int i0), .val (.int i1), .val (.int i2), .val (.int i3), .val (.int i4), .val (.int (2 : Int32)), .val (.int m0), .val (.int (1 : Int32)), .val (.int c0), .val (.int c1), .val (.int c2), .val (.int o0), .val (.int o1), .val (.int o2), .val (.ref b367), .val .null, .val (.int (0 : Int32)), .val (.int (0 : Int32))]) G X407.here hx (hb hby at_268) rfl rfl
      replace G := own_iload (q := 272) G X407.here hx (hb hby at_270) rfl rfl
      replace G := own_iload (q := 274) G X407.here hx (hb hby at_272) rfl rfl
      have hc274_410 : (0 : Int32) = (0 : Int32) := by decide
      replace G := own_icmpNo (q := 277) G X407.here hx (hb hby at_274) (teq hc274_410).2 rfl
      replace G := own_aload (q := 279) G X407.here hx (hb hby at_277) rfl rfl rfl
      obtain ⟨cq411, kq411, q411a, q411b, q411c⟩ := isOf hZ e407 F408
      obtain ⟨_, _, ⟨T411, L411, kk411, nn411⟩, -, X411, ⟨Lc411, hQ411, l411, y411, z411⟩, st411⟩ := X407.virtualBack hx (y := (⟨"com/example/leafcutter/leafcutter/io/TextBuffer", "length", "()I"⟩ : MethodName)) (z := (⟨"com/example/leafcutter/leafcutter/io/TextBuffer", "length", "()I"⟩ : MethodName)) hown (mvT hZ (hw _ (List.mem_of_getElem? (i := 29) rfl))) (mvT hZ (hw _ (List.mem_of_getElem? (i := 30) rfl))) (notFace_of_selects (args := #[]) (mvT hZ (hw _ (List.mem_of_getElem? (i := 32) rfl)))) (mvT hZ (hw _ (List.mem_of_getElem? (i := 32) rfl))) (mvT hZ (hw _ (List.mem_of_getElem? (i := 31) rfl))) (by decide) (backOf (W := 0) (rm5k2 l Z a0 hw [] b367 T403.heap n0 Z403 B403_1) hZ (hw _ (List.mem_of_getElem? (i := 33) rfl)) (hw _ (List.mem_of_getElem? (i := 2) rfl)) (by decide) (by decide)) q411a q411c (g := (mkF m 279 #[.val (.int i0), .val (.int i1), .val (.int i2), .val (.int i3), .val (.int i4), .val (.int (2 : Int32)), .val (.int m0), .val (.int (1 : Int32)), .val (.int c0), .val (.int c1), .val (.int c2), .val (.int o0), .val (.int o1), .val (.int o2), .val (.ref b367), .val .null, .val (.int (0 : Int32)), .val (.int (0 : Int32))] [(.ref b367)])) rfl (by rw [hml]; rfl) (Steps.refl _) (argsL := []) (rest := []) (lenOf pd_8 rfl) rfl (by show 2 * 0 + _ ≤ _; exact Nat.le_of_eq rfl) (hb hby at_279) (fun _ _ => ⟨rfl, e407, (by decide : 2 + 0 ≤ _), (by decide : 20 + 0 ≤ _)⟩)
      dsimp only [Pt.U, Pt.locs, Pt.cells, Pt.slots] at X411 l411 y411 z411 st411 hQ411
      subst l411 y411 z411
      obtain ⟨rfl, N411q, e411⟩ := hQ411
      have N411 := Fr.app N407 N411q
      replace G : Gets p e below _ (T411.setTop (mkF m 282 #[.val (.int i0), .val (.int i1), .val (.int i2), .val (.int i3), .val (.int i4), .val (.int (2 : Int32)), .val (.int m0), .val (.int (1 : Int32)), .val (.int c0), .val (.int c1), .val (.int c2), .val (.int o0), .val (.int o1), .val (.int o2), .val (.ref b367), .val .null, .val (.int (0 : Int32)), .val (.int (0 : Int32))] [(.int (2 : Int32))])) := fun t k => G t (st411.trans k)
      replace G := own_iload (q := 284) G X411.here hx (hb hby at_282) rfl rfl
      have hc284_412 : (2 : Int32) = (2 : Int32) := by decide
      replace G := own_icmpNo (q := 287) G X411.here hx (hb hby at_284) (teq hc284_412).2 rfl
      replace G := own_iconst (q := 288) G X411.here hx (hb hby at_287) (v := (1 : Int32)) (by decide) rfl
      replace G := own_goto (q := 292) G X411.here hx (hb hby at_288) (by decide) (by decide)
      obtain ⟨fs, hr, hrun, hended, hW, hsame⟩ := X411.leave (v := some (.int (1 : Int32))) (fun h => by rw [Bd.returns] at h; cases h)
      refine ⟨_, _, G _ (retOut X411 hx Bd.returns rfl (Or.inl ⟨rfl, Or.inr (Or.inl rfl), _, rfl⟩) (hb hby at_292) hr), hrun, hended, _, _, rfl, ?_, ⟨_, rfl⟩, hW, hsame.mono (by decide) (by decide)⟩
      show Q0 Z i0 i1 i2 i3 i4 sa ks h0 n0 _ T411.heap _
      rw [e411]
      exact ⟨rfl, N411⟩
    · replace G := own_astore (q := 113) (l' := #[.val (.int i0), .val (.int i1), .val (.int i2), .val (.int i3), .val (.int i4), .val (.int (3 : Int32)), .val (.int m0), .val (.int (1 : Int32)), .val (.int c0), .val (.int c1), .val (.int c2), .val (.int o0), .val (.int o1), .val (.int o2), .val (.ref b367), .unset, .unset, .unset]) G X369.here hx (hb hby at_111) rfl rfl rfl
      replace G := own_iload (q := 115) G X369.here hx (hb hby at_113) rfl rfl
      have hc115_413 : (0 : Int32) < (3 : Int32) := by decide
      replace G := own_ifNo (q := 118) G X369.here hx (hb hby at_115) ((if0 _ _).trans (tlt hc115_413).2.2.2) rfl
      replace G := own_aload (q := 120) G X369.here hx (hb hby at_118) rfl rfl rfl
      replace G := own_iload (q := 122) G X369.here hx (hb hby at_120) rfl rfl
      have F415 : Exa Z T369.heap b367 "com/example/leafcutter/leafcutter/io/TextBuffer" := (A367.keep K369q)
      have F416 : Arv Z T369.heap sa ks .char (0 : Int32) [] (.int (0 : Int32)) := ((P1.ext E367).keep K369q (ninS ne368 nin0))
      obtain ⟨cq414, kq414, q414a, q414b, q414c⟩ := isOf hZ rfl F415
      obtain ⟨_, _, ⟨T414, L414, kk414, nn414⟩, -, X414, ⟨Lc414, hQ414, l414, y414, z414⟩, st414⟩ := X369.virtualBack hx (y := (⟨"com/example/leafcutter/leafcutter/io/TextBuffer", "append", "(C)Lcom/example/leafcutter/leafcutter/io/TextBuffer;"⟩ : MethodName)) (z := (⟨"com/example/leafcutter/leafcutter/io/TextBuffer", "append", "(C)Lcom/example/leafcutter/leafcutter/io/TextBuffer;"⟩ : MethodName)) hown (mvT hZ (hw _ (List.mem_of_getElem? (i := 34) rfl))) (mvT hZ (hw _ (List.mem_of_getElem? (i := 35) rfl))) (notFace_of_selects (args := #[]) (mvT hZ (hw _ (List.mem_of_getElem? (i := 37) rfl)))) (mvT hZ (hw _ (List.mem_of_getElem? (i := 37) rfl))) (mvT hZ (hw _ (List.mem_of_getElem? (i := 36) rfl))) (by decide) (backOf (W := 0) (rm6s0 l Z a0 hw [] b367 c0 sa ks T369.heap n0 Z369 B369_0 B369_1 B369_2 B369_3 F415 F416 ge_b367 (Ne.symm ne368)) hZ (hw _ (List.mem_of_getElem? (i := 38) rfl)) (hw _ (List.mem_of_getElem? (i := 2) rfl)) (by decide) (by decide)) q414a q414c (g := (mkF m 122 #[.val (.int i0), .val (.int i1), .val (.int i2), .val (.int i3), .val (.int i4), .val (.int (3 : Int32)), .val (.int m0), .val (.int (1 : Int32)), .val (.int c0), .val (.int c1), .val (.int c2), .val (.int o0), .val (.int o1), .val (.int o2), .val (.ref b367), .unset, .unset, .unset] [(.int c0), (.ref b367)])) rfl (by rw [hml]; rfl) (Steps.refl _) (argsL := [(.int c0)]) (rest := []) (lenOf pd_9 rfl) rfl (by show 2 * 0 + _ ≤ _; exact Nat.le_of_eq rfl) (hb hby at_122) (fun _ _ => ⟨rfl, rfl, (by decide : 1 + 1 ≤ _), (by decide : 4 + 16 ≤ _)⟩)
      dsimp only [Pt.U, Pt.locs, Pt.cells, Pt.slots] at X414 l414 y414 z414 st414 hQ414
      subst l414 y414 z414
      obtain ⟨b_414, kb_414, rfl, N414q, K414q, B414_0, B414_1, B414_2, B414_3, B414_4, B414_5⟩ := hQ414
      have ne417 : b367 ≠ b_414 := Nat.ne_of_lt (Nat.lt_of_lt_of_le B369_3.lt B414_4)
      have ne418 : sa ≠ b_414 := Nat.ne_of_lt (Nat.lt_of_lt_of_le F416.lt B414_4)
      have ge_b_414 : n0 ≤ b_414 := Nat.le_trans Z369 B414_4
      have Z414 : n0 ≤ T414.heap.size := Nat.le_trans Z369 K414q.1
      have N414 := Fr.app N369 N414q
      replace G : Gets p e below _ (T414.setTop (mkF m 125 #[.val (.int i0), .val (.int i1), .val (.int i2), .val (.int i3), .val (.int i4), .val (.int (3 : Int32)), .val (.int m0), .val (.int (1 : Int32)), .val (.int c0), .val (.int c1), .val (.int c2), .val (.int o0), .val (.int o1), .val (.int o2), .val (.ref b367), .unset, .unset, .unset] [(.ref b367)])) := fun t k => G t (st414.trans k)
      replace G := own_pop (q := 126) G X414.here hx (hb hby at_125) rfl rfl
      replace G := own_iload (q := 128) G X414.here hx (hb hby at_126) rfl rfl
      replace G := own_iconst (q := 129) G X414.here hx (hb hby at_128) (v := (1 : Int32)) (by decide) rfl
      have hc129_419 : (1 : Int32) < (3 : Int32) := by decide
      replace G := own_icmpNo (q := 132) G X414.here hx (hb hby at_129) (tlt hc129_419).2.2.2 rfl
      replace G := own_aload (q := 134) G X414.here hx (hb hby at_132) rfl rfl rfl
      replace G := own_iload (q := 136) G X414.here hx (hb hby at_134) rfl rfl
      have F421 : Exa Z T414.heap b367 "com/example/leafcutter/leafcutter/io/TextBuffer" := (F415.keep K414q)
      obtain ⟨cq420, kq420, q420a, q420b, q420c⟩ := isOf hZ rfl F421
      obtain ⟨_, _, ⟨T420, L420, kk420, nn420⟩, -, X420, ⟨Lc420, hQ420, l420, y420, z420⟩, st420⟩ := X414.virtualBack hx (y := (⟨"com/example/leafcutter/leafcutter/io/TextBuffer", "append", "(C)Lcom/example/leafcutter/leafcutter/io/TextBuffer;"⟩ : MethodName)) (z := (⟨"com/example/leafcutter/leafcutter/io/TextBuffer", "append", "(C)Lcom/example/leafcutter/leafcutter/io/TextBuffer;"⟩ : MethodName)) hown (mvT hZ (hw _ (List.mem_of_getElem? (i := 34) rfl))) (mvT hZ (hw _ (List.mem_of_getElem? (i := 35) rfl))) (notFace_of_selects (args := #[]) (mvT hZ (hw _ (List.mem_of_getElem? (i := 37) rfl)))) (mvT hZ (hw _ (List.mem_of_getElem? (i := 37) rfl))) (mvT hZ (hw _ (List.mem_of_getElem? (i := 36) rfl))) (by decide) (backOf (W := 0) (rm6s1 l Z a0 hw [] b367 c1 b_414 kb_414 (nar .char c0) T414.heap n0 Z414 B414_0 B414_1 B414_2 B414_3 F421 B414_5 ge_b367 ge_b_414 ne417) hZ (hw _ (List.mem_of_getElem? (i := 38) rfl)) (hw _ (List.mem_of_getElem? (i := 2) rfl)) (by decide) (by decide)) q420a q420c (g := (mkF m 136 #[.val (.int i0), .val (.int i1), .val (.int i2), .val (.int i3), .val (.int i4), .val (.int (3 : Int32)), .val (.int m0), .val (.int (1 : Int32)), .val (.int c0), .val (.int c1), .val (.int c2), .val (.int o0), .val (.int o1), .val (.int o2), .val (.ref b367), .unset, .unset, .unset] [(.int c1), (.ref b367)])) rfl (by rw [hml]; rfl) (Steps.refl _) (argsL := [(.int c1)]) (rest := []) (lenOf pd_9 rfl) rfl (by show 2 * 0 + _ ≤ _; exact Nat.le_of_eq rfl) (hb hby at_136) (fun _ _ => ⟨rfl, rfl, (by decide : 2 + 0 ≤ _), (by decide : 20 + 0 ≤ _)⟩)
      dsimp only [Pt.U, Pt.locs, Pt.cells, Pt.slots] at X420 l420 y420 z420 st420 hQ420
      subst l420 y420 z420
      obtain ⟨rfl, N420q, K420q, B420_0, B420_1, B420_2, B420_3, B420_4⟩ := hQ420
      have Z420 : n0 ≤ T420.heap.size := Nat.le_trans Z414 K420q.1
      have N420 := Fr.app N414 N420q
      replace G : Gets p e below _ (T420.setTop (mkF m 139 #[.val (.int i0), .val (.int i1), .val (.int i2), .val (.int i3), .val (.int i4), .val (.int (3 : Int32)), .val (.int m0), .val (.int (1 : Int32)), .val (.int c0), .val (.int c1), .val (.int c2), .val (.int o0), .val (.int o1), .val (.int o2), .val (.ref b367), .unset, .unset, .unset] [(.ref b367)])) := fun t k => G t (st420.trans k)
      replace G := own_pop (q := 140) G X420.here hx (hb hby at_139) rfl rfl
      replace G := own_iload (q := 142) G X420.here hx (hb hby at_140) rfl rfl
      replace G := own_iconst (q := 143) G X420.here hx (hb hby at_142) (v := (2 : Int32)) (by decide) rfl
      have hc143_422 : (2 : Int32) < (3 : Int32) := by decide
      replace G := own_icmpNo (q := 146) G X420.here hx (hb hby at_143) (tlt hc143_422).2.2.2 rfl
      replace G := own_aload (q := 148) G X420.here hx (hb hby at_146) rfl rfl rfl
      replace G := own_iload (q := 150) G X420.here hx (hb hby at_148) rfl rfl
      have F424 : Exa Z T420.heap b367 "com/example/leafcutter/leafcutter/io/TextBuffer" := (F421.keep K420q)
      obtain ⟨cq423, kq423, q423a, q423b, q423c⟩ := isOf hZ rfl F424
      obtain ⟨_, _, ⟨T423, L423, kk423, nn423⟩, -, X423, ⟨Lc423, hQ423, l423, y423, z423⟩, st423⟩ := X420.virtualBack hx (y := (⟨"com/example/leafcutter/leafcutter/io/TextBuffer", "append", "(C)Lcom/example/leafcutter/leafcutter/io/TextBuffer;"⟩ : MethodName)) (z := (⟨"com/example/leafcutter/leafcutter/io/TextBuffer", "append", "(C)Lcom/example/leafcutter/leafcutter/io/TextBuffer;"⟩ : MethodName)) hown (mvT hZ (hw _ (List.mem_of_getElem? (i := 34) rfl))) (mvT hZ (hw _ (List.mem_of_getElem? (i := 35) rfl))) (notFace_of_selects (args := #[]) (mvT hZ (hw _ (List.mem_of_getElem? (i := 37) rfl)))) (mvT hZ (hw _ (List.mem_of_getElem? (i := 37) rfl))) (mvT hZ (hw _ (List.mem_of_getElem? (i := 36) rfl))) (by decide) (backOf (W := 0) (rm6s2 l Z a0 hw [] b367 c2 b_414 kb_414 (nar .char c0) (nar .char c1) T420.heap n0 Z420 B420_0 B420_1 B420_2 B420_3 F424 B420_4 ge_b367 ge_b_414 ne417) hZ (hw _ (List.mem_of_getElem? (i := 38) rfl)) (hw _ (List.mem_of_getElem? (i := 2) rfl)) (by decide) (by decide)) q423a q423c (g := (mkF m 150 #[.val (.int i0), .val (.int i1), .val (.int i2), .val (.int i3), .val (.int i4), .val (.int (3 : Int32)), .val (.int m0), .val (.int (1 : Int32)), .val (.int c0), .val (.int c1), .val (.int c2), .val (.int o0), .val (.int o1), .val (.int o2), .val (.ref b367), .unset, .unset, .unset] [(.int c2), (.ref b367)])) rfl (by rw [hml]; rfl) (Steps.refl _) (argsL := [(.int c2)]) (rest := []) (lenOf pd_9 rfl) rfl (by show 2 * 0 + _ ≤ _; exact Nat.le_of_eq rfl) (hb hby at_150) (fun _ _ => ⟨rfl, rfl, (by decide : 2 + 0 ≤ _), (by decide : 20 + 0 ≤ _)⟩)
      dsimp only [Pt.U, Pt.locs, Pt.cells, Pt.slots] at X423 l423 y423 z423 st423 hQ423
      subst l423 y423 z423
      obtain ⟨rfl, N423q, K423q, B423_0, B423_1, B423_2, B423_3, B423_4⟩ := hQ423
      have Z423 : n0 ≤ T423.heap.size := Nat.le_trans Z420 K423q.1
      have N423 := Fr.app N420 N423q
      replace G : Gets p e below _ (T423.setTop (mkF m 153 #[.val (.int i0), .val (.int i1), .val (.int i2), .val (.int i3), .val (.int i4), .val (.int (3 : Int32)), .val (.int m0), .val (.int (1 : Int32)), .val (.int c0), .val (.int c1), .val (.int c2), .val (.int o0), .val (.int o1), .val (.int o2), .val (.ref b367), .unset, .unset, .unset] [(.ref b367)])) := fun t k => G t (st423.trans k)
      replace G := own_pop (q := 154) G X423.here hx (hb hby at_153) rfl rfl
      replace G := own_aconst_null (q := 155) G X423.here hx (hb hby at_154) rfl
      replace G := own_astore (q := 157) (l' := #[.val (.int i0), .val (.int i1), .val (.int i2), .val (.int i3), .val (.int i4), .val (.int (3 : Int32)), .val (.int m0), .val (.int (1 : Int32)), .val (.int c0), .val (.int c1), .val (.int c2), .val (.int o0), .val (.int o1), .val (.int o2), .val (.ref b367), .val .null, .unset, .unset]) G X423.here hx (hb hby at_155) rfl rfl rfl
      replace G := own_iload (q := 159) G X423.here hx (hb hby at_157) rfl rfl
      have hc159_425 : ¬ ((1 : Int32) = (0 : Int32)) := by decide
      replace G := own_ifYes (q := 203) G X423.here hx (hb hby at_159) ((if0 _ _).trans (feq hc159_425).2) (by decide) (by decide)
      replace G := own_aload (q := 205) G X423.here hx (hb hby at_203) rfl rfl rfl
      replace G := own_aload (q := 207) G X423.here hx (hb hby at_205) rfl rfl rfl
      have F427 : Exa Z T423.heap b367 "com/example/leafcutter/leafcutter/io/TextBuffer" := (F424.keep K423q)
      obtain ⟨cq426, kq426, q426a, q426b, q426c⟩ := isOf hZ rfl F427
      obtain ⟨_, _, ⟨T426, L426, kk426, nn426⟩, -, X426, ⟨Lc426, hQ426, l426, y426, z426⟩, st426⟩ := X423.virtualBack hx (y := (⟨"com/example/leafcutter/leafcutter/io/TextBuffer", "contentEquals", "([C)Z"⟩ : MethodName)) (z := (⟨"com/example/leafcutter/leafcutter/io/TextBuffer", "contentEquals", "([C)Z"⟩ : MethodName)) hown (mvT hZ (hw _ (List.mem_of_getElem? (i := 22) rfl))) (mvT hZ (hw _ (List.mem_of_getElem? (i := 23) rfl))) (notFace_of_selects (args := #[]) (mvT hZ (hw _ (List.mem_of_getElem? (i := 25) rfl)))) (mvT hZ (hw _ (List.mem_of_getElem? (i := 25) rfl))) (mvT hZ (hw _ (List.mem_of_getElem? (i := 24) rfl))) (by decide) (backOf (W := 0) (rm4nul l Z a0 hw [] b367 T423.heap n0 Z423 ) hZ (hw _ (List.mem_of_getElem? (i := 26) rfl)) (hw _ (List.mem_of_getElem? (i := 2) rfl)) (by decide) (by decide)) q426a q426c (g := (mkF m 207 #[.val (.int i0), .val (.int i1), .val (.int i2), .val (.int i3), .val (.int i4), .val (.int (3 : Int32)), .val (.int m0), .val (.int (1 : Int32)), .val (.int c0), .val (.int c1), .val (.int c2), .val (.int o0), .val (.int o1), .val (.int o2), .val (.ref b367), .val .null, .unset, .unset] [.null, (.ref b367)])) rfl (by rw [hml]; rfl) (Steps.refl _) (argsL := [.null]) (rest := []) (lenOf pd_7 rfl) rfl (by show 2 * 0 + _ ≤ _; exact Nat.le_of_eq rfl) (hb hby at_207) (fun _ _ => ⟨rfl, rfl, (by decide : 2 + 0 ≤ _), (by decide : 20 + 0 ≤ _)⟩)
      dsimp only [Pt.U, Pt.locs, Pt.cells, Pt.slots] at X426 l426 y426 z426 st426 hQ426
      subst l426 y426 z426
      obtain ⟨rfl, N426q, e426⟩ := hQ426
      have N426 := Fr.app N423 N426q
      replace G : Gets p e below _ (T426.setTop (mkF m 210 #[.val (.int i0), .val (.int i1), .val (.int i2), .val (.int i3), .val (.int i4), .val (.int (3 : Int32)), .val (.int m0), .val (.int (1 : Int32)), .val (.int c0), .val (.int c1), .val (.int c2), .val (.int o0), .val (.int o1), .val (.int o2), .val (.ref b367), .val .null, .unset, .unset] [(.int (0 : Int32))])) := fun t k => G t (st426.trans k)
      replace G := own_istore (q := 212) (l' := #[.val (.int i0), .val (.int i1), .val (.int i2), .val (.int i3), .val (.int i4), .val (.int (3 : Int32)), .val (.int m0), .val (.int (1 : Int32)), .val (.int c0), .val (.int c1), .val (.int c2), .val (.int o0), .val (.int o1), .val (.int o2), .val (.ref b367), .val .null, .val (.int (0 : Int32)), .unset]) G X426.here hx (hb hby at_210) rfl rfl
      replace G := own_iload (q := 214) G X426.here hx (hb hby at_212) rfl rfl
      have hc214_428 : ¬ ((1 : Int32) = (0 : Int32)) := by decide
      replace G := own_ifYes (q := 267) G X426.here hx (hb hby at_214) ((if0 _ _).trans (feq hc214_428).2) (by decide) (by decide)
      replace G := own_iconst (q := 268) G X426.here hx (hb hby at_267) (v := (0 : Int32)) (by decide) rfl
      replace G := own_istore (q := 270) (l' := #[.val (.int i0), .val (.int i1), .val (.int i2), .val (.int i3), .val (.int i4), .val (.int (3 : Int32)), .val (.int m0), .val (.int (1 : Int32)), .val (.int c0), .val (.int c1), .val (.int c2), .val (.int o0), .val (.int o1), .val (.int o2), .val (.ref b367), .val .null, .val (.int (0 : Int32)), .val (.int (0 : Int32))]) G X426.here hx (hb hby at_268) rfl rfl
      replace G := own_iload (q := 272) G X426.here hx (hb hby at_270) rfl rfl
      replace G := own_iload (q := 274) G X426.here hx (hb hby at_272) rfl rfl
      have hc274_429 : (0 : Int32) = (0 : Int32) := by decide
      replace G := own_icmpNo (q := 277) G X426.here hx (hb hby at_274) (teq hc274_429).2 rfl
      replace G := own_aload (q := 279) G X426.here hx (hb hby at_277) rfl rfl rfl
      obtain ⟨cq430, kq430, q430a, q430b, q430c⟩ := isOf hZ e426 F427
      obtain ⟨_, _, ⟨T430, L430, kk430, nn430⟩, -, X430, ⟨Lc430, hQ430, l430, y430, z430⟩, st430⟩ := X426.virtualBack hx (y := (⟨"com/example/leafcutter/leafcutter/io/TextBuffer", "length", "()I"⟩ : MethodName)) (z := (⟨"com/example/leafcutter/leafcutter/io/TextBuffer", "length", "()I"⟩ : MethodName)) hown (mvT hZ (hw _ (List.mem_of_getElem? (i := 29) rfl))) (mvT hZ (hw _ (List.mem_of_getElem? (i := 30) rfl))) (notFace_of_selects (args := #[]) (mvT hZ (hw _ (List.mem_of_getElem? (i := 32) rfl)))) (mvT hZ (hw _ (List.mem_of_getElem? (i := 32) rfl))) (mvT hZ (hw _ (List.mem_of_getElem? (i := 31) rfl))) (by decide) (backOf (W := 0) (rm5k3 l Z a0 hw [] b367 T423.heap n0 Z423 B423_1) hZ (hw _ (List.mem_of_getElem? (i := 33) rfl)) (hw _ (List.mem_of_getElem? (i := 2) rfl)) (by decide) (by decide)) q430a q430c (g := (mkF m 279 #[.val (.int i0), .val (.int i1), .val (.int i2), .val (.int i3), .val (.int i4), .val (.int (3 : Int32)), .val (.int m0), .val (.int (1 : Int32)), .val (.int c0), .val (.int c1), .val (.int c2), .val (.int o0), .val (.int o1), .val (.int o2), .val (.ref b367), .val .null, .val (.int (0 : Int32)), .val (.int (0 : Int32))] [(.ref b367)])) rfl (by rw [hml]; rfl) (Steps.refl _) (argsL := []) (rest := []) (lenOf pd_8 rfl) rfl (by show 2 * 0 + _ ≤ _; exact Nat.le_of_eq rfl) (hb hby at_279) (fun _ _ => ⟨rfl, e426, (by decide : 2 + 0 ≤ _), (by decide : 20 + 0 ≤ _)⟩)
      dsimp only [Pt.U, Pt.locs, Pt.cells, Pt.slots] at X430 l430 y430 z430 st430 hQ430
      subst l430 y430 z430
      obtain ⟨rfl, N430q, e430⟩ := hQ430
      have N430 := Fr.app N426 N430q
      replace G : Gets p e below _ (T430.setTop (mkF m 282 #[.val (.int i0), .val (.int i1), .val (.int i2), .val (.int i3), .val (.int i4), .val (.int (3 : Int32)), .val (.int m0), .val (.int (1 : Int32)), .val (.int c0), .val (.int c1), .val (.int c2), .val (.int o0), .val (.int o1), .val (.int o2), .val (.ref b367), .val .null, .val (.int (0 : Int32)), .val (.int (0 : Int32))] [(.int (3 : Int32))])) := fun t k => G t (st430.trans k)
      replace G := own_iload (q := 284) G X430.here hx (hb hby at_282) rfl rfl
      have hc284_431 : (3 : Int32) = (3 : Int32) := by decide
      replace G := own_icmpNo (q := 287) G X430.here hx (hb hby at_284) (teq hc284_431).2 rfl
      replace G := own_iconst (q := 288) G X430.here hx (hb hby at_287) (v := (1 : Int32)) (by decide) rfl
      replace G := own_goto (q := 292) G X430.here hx (hb hby at_288) (by decide) (by decide)
      obtain ⟨fs, hr, hrun, hended, hW, hsame⟩ := X430.leave (v := some (.int (1 : Int32))) (fun h => by rw [Bd.returns] at h; cases h)
      refine ⟨_, _, G _ (retOut X430 hx Bd.returns rfl (Or.inl ⟨rfl, Or.inr (Or.inl rfl), _, rfl⟩) (hb hby at_292) hr), hrun, hended, _, _, rfl, ?_, ⟨_, rfl⟩, hW, hsame.mono (by decide) (by decide)⟩
      show Q0 Z i0 i1 i2 i3 i4 sa ks h0 n0 _ T430.heap _
      rw [e430]
      exact ⟨rfl, N430⟩
set_option maxRecDepth 65536 in
set_option maxHeartbeats 40000000 in
theorem comes_1 {Post : Tables → Env → Array Value → State → Outcome → State → Prop} (hpost : ∀ tb e args s v u, (limb_1_1.after args s (.returned v) u = true ∧ limb_1_2.after args s (.returned v) u = true ∧ True) → FrameEnd s (.returned v) u (Jvm.fieldLocs frame_1_writes args s ++ Jvm.arrayLocs frame_1_arrays args s ++ Jvm.staticLocs frame_1_statics s) 16 128 → Post tb e args s (.returned v) u) :
    ArmFor flags0 classFile x code maxLocals ret World_1 tables_1 room_1 Calls_1 rest_1 Pre_1 Post := by
  intro l hfl _ _ p e ha hc hk s m args below hf hA hF happ hP
  obtain ⟨hcalls, hrest, hpre⟩ := hP
  obtain ⟨-, -, -, hnamed, -, -, -, hat⟩ := (Spec.applies_iff hf).mp happ
  obtain ⟨hg, hn⟩ := and_e (Cond.before_iff.mp (show (Jvm.Cond.and given_1 narrow_1).before args s = true from hpre))
  obtain ⟨g1, g2⟩ := and_e hg
  obtain ⟨g3, g4⟩ := and_e g2
  obtain ⟨g5, g6⟩ := and_e g4
  obtain ⟨g7, g8⟩ := and_e g6
  obtain ⟨g9, g10⟩ := and_e g8
  obtain ⟨w0, w1, w2, w3, w4, rfl⟩ : ∃ w0 w1 w2 w3 w4 : Value, args = #[w0, w1, w2, w3, w4] := by
    have hs : args.size = 5 := by simpa [Cond.value, given_1] using g1
    obtain ⟨L⟩ := args
    match L, hs with
    | [w0, w1, w2, w3, w4], _ => exact ⟨w0, w1, w2, w3, w4, rfl⟩
  have hw := fun d (hd : d ∈ tables_1) => atoms_spec (ws := Jvm.Cond.code x code maxLocals ret :: tables_1) hat d (List.mem_cons_of_mem _ hd)
  have hfit : Fit s := fun {y c} hc i hi => by
    obtain ⟨ha, rfl⟩ := Array.getElem?_eq_some_iff.mp hc
    have q := List.all_eq_true.mp ((Array.all_eq_true_iff_forall_mem.mp hF) _ (Array.getElem_mem ha)) i (List.mem_range.mpr hi)
    simpa [Array.getElem?_eq_getElem hi] using q
  obtain ⟨i0, ei0⟩ := is_v g3
  obtain rfl : w0 = (.int i0) := Option.some.inj ei0
  obtain ⟨i1, ei1⟩ := is_v g5
  obtain rfl : w1 = (.int i1) := Option.some.inj ei1
  obtain ⟨i2, ei2⟩ := is_v g7
  obtain rfl : w2 = (.int i2) := Option.some.inj ei2
  obtain ⟨i3, ei3⟩ := is_v g9
  obtain rfl : w3 = (.int i3) := Option.some.inj ei3
  obtain ⟨i4, ei4⟩ := is_v g10
  obtain rfl : w4 = (.int i4) := Option.some.inj ei4
  obtain ⟨nn1, nn2⟩ := and_e hn
  obtain ⟨nn3, nn4⟩ := and_e nn2
  obtain ⟨sa, ev_sa⟩ := exa_v nn3
  have St_sa := Sta.start ev_sa (Or.inr ⟨(hw _ (List.mem_of_getElem? (i := 2) rfl)), (hw _ (List.mem_of_getElem? (i := 14) rfl))⟩)
  obtain ⟨ks, Ar_sa⟩ := own_ns hfit ev_sa nn1 nn4
  obtain ⟨n, o, h1, h2, h3, _, L, rfl, ⟨rfl, N⟩, hq⟩ := rm0 l s _ hw tables_1 i0 i1 i2 i3 i4 sa ks s.heap s.heap.size (Nat.le_refl _) St_sa Ar_sa p e ha hc hk s m _ below hf ((Spec.applies_iff_loose hf).mp happ).1 ⟨rfl, State.Warmed39.refl s, rfl⟩ trivial
  refine ⟨n, _, h1, h2, h3, hpost _ _ _ _ _ _ ⟨Cond.after_iff.mpr rfl, Cond.after_iff.mpr (eq_i res_at (Term.int_eval (1)) rfl), trivial⟩ ⟨hq.1, hq.2.1, (hq.2.2.sift fun y hy => Or.inr (N y hy)).mono (by decide) (by decide)⟩⟩
theorem main_1_1 : Claimed_1_1 := comes_1 fun _ _ _ _ _ _ h hF => ⟨h.1, hF⟩
theorem main_1_2 : Claimed_1_2 := comes_1 fun _ _ _ _ _ _ h hF => ⟨h.2.1, hF⟩
end Jvm.Pilot.@@N@@
namespace Jvm.Pilot.@@N@@
open Jvm Jvm.ClassFile Sem Op Lib Jvm.Free Jvm.Stand Jvm.Pilot.@@N@@.Jvm.D
/-! MADE BY PROGRAM (witnessworld.py) out of the Statement's table words and the real class files: 15 classes; the members and pool entries that the words name. The judged class is class 1, her method 1. -/
namespace start1
open Jvm.ClassFile
def u (s : String) : CpInfo := .utf8 (stringToUtf16 s)
/-- a pool by its gaps: so many unusable entries, then the entry; so many at the end -/
def gap : Nat → List CpInfo → List CpInfo
  | 0, r => r
  | n + 1, r => .unusable :: gap n r
def poolList (es : List (Nat × CpInfo)) (last : Nat) : List CpInfo := es.foldr (fun e r => gap e.1 (e.2 :: r)) (gap last [])
def pool (es : List (Nat × CpInfo)) (last : Nat) : Array CpInfo := ⟨poolList es last⟩
def fileOf (pool : Array CpInfo) (this : Nat) (attrs : Array Attribute := #[]) (ms : Array MethodInfo := #[]) (fl : Nat := 33) (sup : Nat := 0) (ifs : Array Nat := #[]) (fds : Array FieldInfo := #[]) : ClassFile where
  minorVersion := 0
  majorVersion := 65
  constantPool := pool
  accessFlags := fl
  thisClass := this
  superClass := sup
  interfaces := ifs
  fields := fds
  methods := ms
  attributes := attrs
def plain (name : String) (sup : Option ClassId) : Class where
  name := name
  kind := .ordinary
  loader := none
  accessFlags := 33
  super := sup
  interfaces := #[]
  cf := none
  fields := #[]
  methods := #[]
  instanceTypes := #[]
  staticTypes := #[]
  resolved := #[]
  callSites := []
  init := .initialized
  statics := none
  mirror := none

def pool0 : Array CpInfo := pool [(5, u "<init>"), (0, u "()V"), (1, .class_ 10), (1, u "java/lang/Object")] 113

def k0c0 : Code := { maxStack := 0, maxLocals := 1, code := object_method_1_code, exceptionTable := #[], attributes := #[] }
def k0m0 : Method := { name := "<init>", desc := "()V", sig := { parameters := [], returnType := none }, accessFlags := 1, code := some k0c0 }
/-- java/lang/Object -/
def k0 : Class := { plain "java/lang/Object" none with
  accessFlags := 33
  interfaces := #[]
  cf := some (fileOf pool0 8 #[] #[{ accessFlags := 1, nameIndex := 5, descriptorIndex := 6, attributes := #[] }] 33 0 #[] #[])
  fields := #[]
  methods := #[k0m0]
  instanceTypes := #[]
  staticTypes := #[]
  resolved := Array.replicate 124 none
  statics := none }

def pool1 : Array CpInfo := pool [(2, .class_ 4), (0, .nameAndType 5 6), (0, u "java/lang/Object"), (0, u "<init>"), (0, u "()V"), (0, .class_ 8), (0, u "com/example/leafcutter/leafcutter/io/TextBuffer"), (0, .methodref 7 3), (0, .methodref 7 11), (0, .nameAndType 12 13), (0, u "append"), (0, u "(C)Lcom/example/leafcutter/leafcutter/io/TextBuffer;"), (0, .methodref 7 15), (0, .nameAndType 16 17), (0, u "contentEquals"), (0, u "([C)Z"), (0, .methodref 7 19), (0, .nameAndType 20 21), (0, u "length"), (0, u "()I"), (0, .class_ 23), (0, u "com/example/leafcutter/leafcutter/io/TextBufferContentEqualsPinLaw"), (2, u "law"), (0, u "(IIIII)Z")] 5

def k1m0 : Method := { name := "<init>", desc := "()V", sig := { parameters := [], returnType := none }, accessFlags := 1, code := none }
def k1c1 : Code := { maxStack := 3, maxLocals := 18, code := code, exceptionTable := #[], attributes := #[] }
def k1m1 : Method := { name := "law", desc := "(IIIII)Z", sig := { parameters := [.int, .int, .int, .int, .int], returnType := some .boolean }, accessFlags := 9, code := some k1c1 }
/-- com/example/leafcutter/leafcutter/io/TextBufferContentEqualsPinLaw -/
def k1 : Class := { plain "com/example/leafcutter/leafcutter/io/TextBufferContentEqualsPinLaw" (some 0) with
  accessFlags := 49
  interfaces := #[]
  cf := some (fileOf pool1 22 #[] #[{ accessFlags := 1, nameIndex := 5, descriptorIndex := 6, attributes := #[] }, { accessFlags := 9, nameIndex := 26, descriptorIndex := 27, attributes := #[] }] 49 2 #[] #[])
  fields := #[]
  methods := #[k1m0, k1m1]
  instanceTypes := #[]
  staticTypes := #[]
  resolved := Array.replicate 33 none
  statics := none }

def pool2 : Array CpInfo := pool [(2, .class_ 4), (1, u "java/lang/CharSequence"), (42, .class_ 48), (0, u "java/lang/CharSequence$1CodePointIterator"), (10, .class_ 60), (0, u "java/lang/CharSequence$1CharIterator"), (5, .class_ 67), (0, u "java/lang/Object")] 63

/-- java/lang/CharSequence -/
def k2 : Class := { plain "java/lang/CharSequence" (some 0) with
  accessFlags := 1537
  interfaces := #[]
  cf := some (fileOf pool2 2 #[.nestMembers #[47, 59]] #[] 1537 66 #[] #[])
  fields := #[]
  methods := #[]
  instanceTypes := #[]
  staticTypes := #[]
  resolved := Array.replicate 131 none
  statics := none }

def pool3 : Array CpInfo := pool [(3, .class_ 4), (0, u "com/example/leafcutter/leafcutter/io/TextBuffer"), (0, .integer 2147483639), (0, .methodref 3 7), (0, .nameAndType 8 9), (0, u "<init>"), (0, u "(ILjava/util/function/Consumer;)V"), (0, .methodref 11 12), (0, .class_ 13), (0, .nameAndType 8 14), (0, u "java/lang/Object"), (0, u "()V"), (0, .fieldref 3 16), (0, .nameAndType 17 18), (0, u "NO_STORAGE"), (0, u "[C"), (0, .fieldref 3 20), (0, .nameAndType 21 18), (0, u "chars"), (9, .fieldref 3 32), (0, .nameAndType 33 34), (0, u "limit"), (0, u "I"), (0, .fieldref 3 36), (0, .nameAndType 37 38), (0, u "whenFull"), (0, u "Ljava/util/function/Consumer;"), (0, .fieldref 3 40), (0, .nameAndType 41 34), (0, u "length"), (0, .methodref 3 43), (0, .nameAndType 44 45), (0, u "makeRoom"), (0, u "(I)I"), (10, u "()I"), (6, u "append"), (0, u "(C)Lcom/example/leafcutter/leafcutter/io/TextBuffer;"), (27, u "(II)I"), (12, .methodref 106 107), (0, .class_ 108), (0, .nameAndType 109 110), (0, u "java/util/Arrays"), (0, u "copyOf"), (0, u "([CI)[C"), (8, .methodref 120 121), (0, .class_ 122), (0, .nameAndType 123 92), (0, u "java/lang/Math"), (0, u "min"), (0, .methodref 3 125), (0, .nameAndType 126 127), (0, u "grow"), (0, u "(I)V"), (10, .long 2), (1, .long 16), (1, .methodref 120 143), (0, .nameAndType 144 145), (0, u "max"), (0, u "(JJ)J"), (0, .methodref 120 147), (0, .nameAndType 123 145), (0, .class_ 149), (0, u "java/lang/CharSequence"), (0, u "KEPT_CAPACITY"), (1, u "INITIAL_CAPACITY"), (1, u "MAX_CAPACITY"), (16, u "contentEquals"), (0, u "([C)Z")] 26

def k3c0 : Code := { maxStack := 3, maxLocals := 1, code := prog_6_method_1_code, exceptionTable := #[], attributes := #[] }
def k3m0 : Method := { name := "<init>", desc := "()V", sig := { parameters := [], returnType := none }, accessFlags := 1, code := some k3c0 }
def k3c1 : Code := { maxStack := 3, maxLocals := 3, code := prog_6_method_2_code, exceptionTable := #[], attributes := #[] }
def k3m1 : Method := { name := "<init>", desc := "(ILjava/util/function/Consumer;)V", sig := { parameters := [.int, (.object "java/util/function/Consumer")], returnType := none }, accessFlags := 1, code := some k3c1 }
def k3c2 : Code := { maxStack := 5, maxLocals := 2, code := prog_6_method_3_code, exceptionTable := #[], attributes := #[] }
def k3m2 : Method := { name := "append", desc := "(C)Lcom/example/leafcutter/leafcutter/io/TextBuffer;", sig := { parameters := [.char], returnType := some (.object "com/example/leafcutter/leafcutter/io/TextBuffer") }, accessFlags := 1, code := some k3c2 }
def k3c3 : Code := { maxStack := 1, maxLocals := 1, code := prog_6_method_9_code, exceptionTable := #[], attributes := #[] }
def k3m3 : Method := { name := "length", desc := "()I", sig := { parameters := [], returnType := some .int }, accessFlags := 1, code := some k3c3 }
def k3c4 : Code := { maxStack := 3, maxLocals := 3, code := prog_6_method_17_code, exceptionTable := #[], attributes := #[] }
def k3m4 : Method := { name := "contentEquals", desc := "([C)Z", sig := { parameters := [(.array .char)], returnType := some .boolean }, accessFlags := 0, code := some k3c4 }
def k3c5 : Code := { maxStack := 3, maxLocals := 3, code := prog_6_method_21_code, exceptionTable := #[], attributes := #[] }
def k3m5 : Method := { name := "makeRoom", desc := "(I)I", sig := { parameters := [.int], returnType := some .int }, accessFlags := 2, code := some k3c5 }
def k3c6 : Code := { maxStack := 6, maxLocals := 5, code := prog_6_method_23_code, exceptionTable := #[], attributes := #[] }
def k3m6 : Method := { name := "grow", desc := "(I)V", sig := { parameters := [.int], returnType := none }, accessFlags := 2, code := some k3c6 }
/-- com/example/leafcutter/leafcutter/io/TextBuffer -/
def k3 : Class := { plain "com/example/leafcutter/leafcutter/io/TextBuffer" (some 0) with
  accessFlags := 49
  interfaces := #[2]
  cf := some (fileOf pool3 3 #[] #[{ accessFlags := 1, nameIndex := 8, descriptorIndex := 14, attributes := #[] }, { accessFlags := 1, nameIndex := 8, descriptorIndex := 9, attributes := #[] }, { accessFlags := 1, nameIndex := 63, descriptorIndex := 64, attributes := #[] }, { accessFlags := 1, nameIndex := 41, descriptorIndex := 56, attributes := #[] }, { accessFlags := 0, nameIndex := 171, descriptorIndex := 172, attributes := #[] }, { accessFlags := 2, nameIndex := 44, descriptorIndex := 45, attributes := #[] }, { accessFlags := 2, nameIndex := 126, descriptorIndex := 127, attributes := #[] }] 49 11 #[148] #[{ accessFlags := 24, nameIndex := 150, descriptorIndex := 34, attributes := #[] }, { accessFlags := 26, nameIndex := 152, descriptorIndex := 34, attributes := #[] }, { accessFlags := 26, nameIndex := 17, descriptorIndex := 18, attributes := #[] }, { accessFlags := 26, nameIndex := 154, descriptorIndex := 34, attributes := #[] }, { accessFlags := 18, nameIndex := 33, descriptorIndex := 34, attributes := #[] }, { accessFlags := 18, nameIndex := 37, descriptorIndex := 38, attributes := #[] }, { accessFlags := 2, nameIndex := 21, descriptorIndex := 18, attributes := #[] }, { accessFlags := 2, nameIndex := 41, descriptorIndex := 34, attributes := #[] }])
  fields := #[{ name := "KEPT_CAPACITY", type := .int, accessFlags := 24, slot := 0, constantValue := 0 }, { name := "INITIAL_CAPACITY", type := .int, accessFlags := 26, slot := 1, constantValue := 0 }, { name := "NO_STORAGE", type := (.array .char), accessFlags := 26, slot := 2, constantValue := 0 }, { name := "MAX_CAPACITY", type := .int, accessFlags := 26, slot := 3, constantValue := 0 }, { name := "limit", type := .int, accessFlags := 18, slot := 0, constantValue := 0 }, { name := "whenFull", type := (.object "java/util/function/Consumer"), accessFlags := 18, slot := 1, constantValue := 0 }, { name := "chars", type := (.array .char), accessFlags := 2, slot := 2, constantValue := 0 }, { name := "length", type := .int, accessFlags := 2, slot := 3, constantValue := 0 }]
  methods := #[k3m0, k3m1, k3m2, k3m3, k3m4, k3m5, k3m6]
  instanceTypes := #[.int, (.object "java/util/function/Consumer"), (.array .char), .int]
  staticTypes := #[.int, .int, (.array .char), .int]
  resolved := Array.replicate 199 none
  statics := some 0 }

def pool4 : Array CpInfo := pool [(1, .class_ 2), (0, u "java/lang/Math"), (1, .class_ 6), (1, u "java/lang/Object"), (0, u "<init>"), (0, u "()V"), (89, .class_ 100), (1, u "java/lang/Math$RandomNumberGeneratorHolder"), (20, u "(JJ)J"), (50, u "negativeZeroFloatBits"), (0, u "J"), (2, u "negativeZeroDoubleBits"), (21, u "max"), (2, u "min"), (43, u "$assertionsDisabled"), (0, u "Z"), (88, u "(II)I"), (2, u "twoToTheDoubleScaleDown"), (0, u "D"), (4, u "twoToTheDoubleScaleUp"), (9, u "E"), (3, u "PI"), (2, u "TAU"), (2, u "DEGREES_TO_RADIANS"), (0, u "RADIANS_TO_DEGREES")] 94

def k4m0 : Method := { name := "<init>", desc := "()V", sig := { parameters := [], returnType := none }, accessFlags := 2, code := none }
def k4c1 : Code := { maxStack := 4, maxLocals := 4, code := jdk_29_method_66_code, exceptionTable := #[], attributes := #[] }
def k4m1 : Method := { name := "max", desc := "(JJ)J", sig := { parameters := [.long, .long], returnType := some .long }, accessFlags := 9, code := some k4c1 }
def k4c2 : Code := { maxStack := 2, maxLocals := 2, code := jdk_29_method_69_code, exceptionTable := #[], attributes := #[] }
def k4m2 : Method := { name := "min", desc := "(II)I", sig := { parameters := [.int, .int], returnType := some .int }, accessFlags := 9, code := some k4c2 }
def k4c3 : Code := { maxStack := 4, maxLocals := 4, code := jdk_29_method_70_code, exceptionTable := #[], attributes := #[] }
def k4m3 : Method := { name := "min", desc := "(JJ)J", sig := { parameters := [.long, .long], returnType := some .long }, accessFlags := 9, code := some k4c3 }
/-- java/lang/Math -/
def k4 : Class := { plain "java/lang/Math" (some 0) with
  accessFlags := 49
  interfaces := #[]
  cf := some (fileOf pool4 1 #[.nestMembers #[98]] #[{ accessFlags := 2, nameIndex := 7, descriptorIndex := 8, attributes := #[] }, { accessFlags := 9, nameIndex := 198, descriptorIndex := 121, attributes := #[] }, { accessFlags := 9, nameIndex := 201, descriptorIndex := 335, attributes := #[] }, { accessFlags := 9, nameIndex := 201, descriptorIndex := 121, attributes := #[] }] 49 4 #[] #[{ accessFlags := 25, nameIndex := 354, descriptorIndex := 339, attributes := #[] }, { accessFlags := 25, nameIndex := 358, descriptorIndex := 339, attributes := #[] }, { accessFlags := 25, nameIndex := 361, descriptorIndex := 339, attributes := #[] }, { accessFlags := 26, nameIndex := 364, descriptorIndex := 339, attributes := #[] }, { accessFlags := 26, nameIndex := 365, descriptorIndex := 339, attributes := #[] }, { accessFlags := 26, nameIndex := 172, descriptorIndex := 173, attributes := #[] }, { accessFlags := 26, nameIndex := 176, descriptorIndex := 173, attributes := #[] }, { accessFlags := 8, nameIndex := 344, descriptorIndex := 339, attributes := #[] }, { accessFlags := 8, nameIndex := 338, descriptorIndex := 339, attributes := #[] }, { accessFlags := 4120, nameIndex := 245, descriptorIndex := 246, attributes := #[] }])
  fields := #[{ name := "E", type := .double, accessFlags := 25, slot := 0, constantValue := 0 }, { name := "PI", type := .double, accessFlags := 25, slot := 1, constantValue := 0 }, { name := "TAU", type := .double, accessFlags := 25, slot := 2, constantValue := 0 }, { name := "DEGREES_TO_RADIANS", type := .double, accessFlags := 26, slot := 3, constantValue := 0 }, { name := "RADIANS_TO_DEGREES", type := .double, accessFlags := 26, slot := 4, constantValue := 0 }, { name := "negativeZeroFloatBits", type := .long, accessFlags := 26, slot := 5, constantValue := 0 }, { name := "negativeZeroDoubleBits", type := .long, accessFlags := 26, slot := 6, constantValue := 0 }, { name := "twoToTheDoubleScaleUp", type := .double, accessFlags := 8, slot := 7, constantValue := 0 }, { name := "twoToTheDoubleScaleDown", type := .double, accessFlags := 8, slot := 8, constantValue := 0 }, { name := "$assertionsDisabled", type := .boolean, accessFlags := 4120, slot := 9, constantValue := 0 }]
  methods := #[k4m0, k4m1, k4m2, k4m3]
  instanceTypes := #[]
  staticTypes := #[.double, .double, .double, .double, .double, .long, .long, .double, .double, .boolean]
  resolved := Array.replicate 460 none
  statics := none }

def pool5 : Array CpInfo := pool [(2, .class_ 4), (1, u "java/lang/Object"), (0, u "<init>"), (0, u "()V"), (7, .class_ 16), (1, u "java/util/Arrays"), (57, .class_ 76), (1, u "java/util/Arrays$NaturalOrder"), (36, .class_ 115), (1, u "java/util/Arrays$LegacyMergeSort"), (1, u "Z"), (32, .methodref 151 152), (0, .class_ 153), (0, .nameAndType 154 155), (0, u "java/lang/System"), (0, u "arraycopy"), (0, u "(Ljava/lang/Object;ILjava/lang/Object;II)V"), (146, u "copyOf"), (1, .methodref 305 306), (0, .class_ 307), (0, .nameAndType 308 309), (0, u "java/lang/Math"), (0, u "min"), (0, u "(II)I"), (65, .class_ 376), (0, u "java/util/Arrays$ArrayList"), (68, u "$assertionsDisabled"), (269, u "MIN_ARRAY_SORT_GRAN"), (0, u "I"), (2, u "INSERTIONSORT_THRESHOLD"), (153, u "([CI)[C"), (101, .class_ 976), (0, u "java/util/Arrays$ArrayItr")] 52

def k5m0 : Method := { name := "<init>", desc := "()V", sig := { parameters := [], returnType := none }, accessFlags := 2, code := none }
def k5c1 : Code := { maxStack := 6, maxLocals := 3, code := jdk_65_method_125_code, exceptionTable := #[], attributes := #[] }
def k5m1 : Method := { name := "copyOf", desc := "([CI)[C", sig := { parameters := [(.array .char), .int], returnType := some (.array .char) }, accessFlags := 9, code := some k5c1 }
/-- java/util/Arrays -/
def k5 : Class := { plain "java/util/Arrays" (some 0) with
  accessFlags := 49
  interfaces := #[]
  cf := some (fileOf pool5 14 #[.nestMembers #[975, 375, 113, 74]] #[{ accessFlags := 2, nameIndex := 5, descriptorIndex := 6, attributes := #[] }, { accessFlags := 9, nameIndex := 302, descriptorIndex := 873, attributes := #[] }] 49 2 #[] #[{ accessFlags := 26, nameIndex := 715, descriptorIndex := 716, attributes := #[] }, { accessFlags := 26, nameIndex := 719, descriptorIndex := 716, attributes := #[] }, { accessFlags := 4120, nameIndex := 445, descriptorIndex := 117, attributes := #[] }])
  fields := #[{ name := "MIN_ARRAY_SORT_GRAN", type := .int, accessFlags := 26, slot := 0, constantValue := 0 }, { name := "INSERTIONSORT_THRESHOLD", type := .int, accessFlags := 26, slot := 1, constantValue := 0 }, { name := "$assertionsDisabled", type := .boolean, accessFlags := 4120, slot := 2, constantValue := 0 }]
  methods := #[k5m0, k5m1]
  instanceTypes := #[]
  staticTypes := #[.int, .int, .boolean]
  resolved := Array.replicate 1029 none
  statics := none }

def pool6 : Array CpInfo := pool [(2, .class_ 4), (1, u "java/lang/Object"), (0, u "<init>"), (0, u "()V"), (1, .class_ 10), (1, u "java/lang/System"), (0, u "allowSecurityManager"), (0, u "I"), (16, u "cons"), (0, u "Ljava/io/Console;"), (77, .class_ 110), (1, u "java/lang/System$CallersHolder"), (43, u "initialErrStream"), (0, u "Ljava/io/PrintStream;"), (19, u "security"), (0, u "Ljava/lang/SecurityManager;"), (31, .class_ 209), (0, u "java/lang/System$1"), (7, u "props"), (0, u "Ljava/util/Properties;"), (2, u "lineSeparator"), (0, u "Ljava/lang/String;"), (96, .class_ 321), (1, u "java/lang/System$LoggerFinder"), (5, .class_ 328), (0, u "java/lang/System$Logger"), (67, u "err"), (2, u "out"), (91, u "notSupportedJnuEncoding"), (15, u "in"), (17, u "initialIn"), (0, u "Ljava/io/InputStream;"), (35, u "bootLayer"), (0, u "Ljava/lang/ModuleLayer;"), (99, .class_ 664), (0, u "java/lang/System$2"), (9, u "NEVER"), (2, u "MAYBE"), (49, u "arraycopy"), (0, u "(Ljava/lang/Object;ILjava/lang/Object;II)V"), (72, .class_ 802), (0, u "java/lang/System$Logger$Level")] 31

def k6m0 : Method := { name := "<init>", desc := "()V", sig := { parameters := [], returnType := none }, accessFlags := 2, code := none }
def k6m1 : Method := { name := "arraycopy", desc := "(Ljava/lang/Object;ILjava/lang/Object;II)V", sig := { parameters := [(.object "java/lang/Object"), .int, (.object "java/lang/Object"), .int, .int], returnType := none }, accessFlags := 265, code := none }
/-- java/lang/System -/
def k6 : Class := { plain "java/lang/System" (some 0) with
  accessFlags := 49
  interfaces := #[]
  cf := some (fileOf pool6 8 #[.nestMembers #[319, 327, 801, 108, 663, 208]] #[{ accessFlags := 2, nameIndex := 5, descriptorIndex := 6, attributes := #[] }, { accessFlags := 265, nameIndex := 727, descriptorIndex := 728, attributes := #[] }] 49 2 #[] #[{ accessFlags := 25, nameIndex := 507, descriptorIndex := 526, attributes := #[] }, { accessFlags := 25, nameIndex := 399, descriptorIndex := 155, attributes := #[] }, { accessFlags := 25, nameIndex := 396, descriptorIndex := 155, attributes := #[] }, { accessFlags := 10, nameIndex := 525, descriptorIndex := 526, attributes := #[] }, { accessFlags := 26, nameIndex := 674, descriptorIndex := 12, attributes := #[] }, { accessFlags := 26, nameIndex := 677, descriptorIndex := 12, attributes := #[] }, { accessFlags := 10, nameIndex := 11, descriptorIndex := 12, attributes := #[] }, { accessFlags := 74, nameIndex := 175, descriptorIndex := 176, attributes := #[] }, { accessFlags := 10, nameIndex := 491, descriptorIndex := 222, attributes := #[] }, { accessFlags := 74, nameIndex := 29, descriptorIndex := 30, attributes := #[] }, { accessFlags := 74, nameIndex := 154, descriptorIndex := 155, attributes := #[] }, { accessFlags := 10, nameIndex := 217, descriptorIndex := 218, attributes := #[] }, { accessFlags := 10, nameIndex := 221, descriptorIndex := 222, attributes := #[] }, { accessFlags := 8, nameIndex := 562, descriptorIndex := 563, attributes := #[] }])
  fields := #[{ name := "in", type := (.object "java/io/InputStream"), accessFlags := 25, slot := 0, constantValue := 0 }, { name := "out", type := (.object "java/io/PrintStream"), accessFlags := 25, slot := 1, constantValue := 0 }, { name := "err", type := (.object "java/io/PrintStream"), accessFlags := 25, slot := 2, constantValue := 0 }, { name := "initialIn", type := (.object "java/io/InputStream"), accessFlags := 10, slot := 3, constantValue := 0 }, { name := "NEVER", type := .int, accessFlags := 26, slot := 4, constantValue := 0 }, { name := "MAYBE", type := .int, accessFlags := 26, slot := 5, constantValue := 0 }, { name := "allowSecurityManager", type := .int, accessFlags := 10, slot := 6, constantValue := 0 }, { name := "security", type := (.object "java/lang/SecurityManager"), accessFlags := 74, slot := 7, constantValue := 0 }, { name := "notSupportedJnuEncoding", type := (.object "java/lang/String"), accessFlags := 10, slot := 8, constantValue := 0 }, { name := "cons", type := (.object "java/io/Console"), accessFlags := 74, slot := 9, constantValue := 0 }, { name := "initialErrStream", type := (.object "java/io/PrintStream"), accessFlags := 74, slot := 10, constantValue := 0 }, { name := "props", type := (.object "java/util/Properties"), accessFlags := 10, slot := 11, constantValue := 0 }, { name := "lineSeparator", type := (.object "java/lang/String"), accessFlags := 10, slot := 12, constantValue := 0 }, { name := "bootLayer", type := (.object "java/lang/ModuleLayer"), accessFlags := 8, slot := 13, constantValue := 0 }]
  methods := #[k6m0, k6m1]
  instanceTypes := #[]
  staticTypes := #[(.object "java/io/InputStream"), (.object "java/io/PrintStream"), (.object "java/io/PrintStream"), (.object "java/io/InputStream"), .int, .int, .int, (.object "java/lang/SecurityManager"), (.object "java/lang/String"), (.object "java/io/Console"), (.object "java/io/PrintStream"), (.object "java/util/Properties"), (.object "java/lang/String"), (.object "java/lang/ModuleLayer")]
  resolved := Array.replicate 834 none
  statics := none }

def pool7 : Array CpInfo := pool [(1, u "java/lang/Cloneable"), (0, .class_ 1), (0, u "java/lang/Object"), (0, .class_ 3)] 3

/-- java/lang/Cloneable -/
def k7 : Class := { plain "java/lang/Cloneable" (some 0) with
  accessFlags := 1537
  interfaces := #[]
  cf := some (fileOf pool7 2 #[] #[] 1537 4 #[] #[])
  fields := #[]
  methods := #[]
  instanceTypes := #[]
  staticTypes := #[]
  resolved := Array.replicate 8 none
  statics := none }

def pool8 : Array CpInfo := pool [(1, u "java/io/Serializable"), (0, .class_ 1), (0, u "java/lang/Object"), (0, .class_ 3)] 3

/-- java/io/Serializable -/
def k8 : Class := { plain "java/io/Serializable" (some 0) with
  accessFlags := 1537
  interfaces := #[]
  cf := some (fileOf pool8 2 #[] #[] 1537 4 #[] #[])
  fields := #[]
  methods := #[]
  instanceTypes := #[]
  staticTypes := #[]
  resolved := Array.replicate 8 none
  statics := none }

/-- the primitive byte -/
def k9 : Class := { plain "byte" none with kind := .primitive 'B', accessFlags := 0x411 }
/-- [B -/
def k10 : Class := { plain "[B" (some 0) with kind := .array 9 .byte, interfaces := #[7, 8], accessFlags := 1041 }

/-- the primitive char -/
def k11 : Class := { plain "char" none with kind := .primitive 'C', accessFlags := 0x411 }
/-- [C -/
def k12 : Class := { plain "[C" (some 0) with kind := .array 11 .char, interfaces := #[7, 8], accessFlags := 1041 }

/-- the primitive int -/
def k13 : Class := { plain "int" none with kind := .primitive 'I', accessFlags := 0x411 }
/-- [I -/
def k14 : Class := { plain "[I" (some 0) with kind := .array 13 .int, interfaces := #[7, 8], accessFlags := 1041 }

def heap : Heap := #[{ cls := 3, slots := #[.int 0, .int 0, .ref 1, .int 0], vm := .statics 3 },
  { cls := 12, slots := #[], vm := .none }]
def classes : Array Class := #[k0, k1, k2, k3, k4, k5, k6, k7, k8, k9, k10, k11, k12, k13, k14]
def interned : List (Array UInt16 × Addr) := []
def slotsUsed : Nat := 4
def theMethod : MethodId := ⟨1, 1⟩
def args0 : Array Value := #[.int 70, .int 71, .int 72, .int 73, .int 3]
def aboutOver (below : List Frame) : State where
  vm := { classes := classes, interned := interned.toArray }
  heap := heap
  slotsUsed := slotsUsed
  threads := #[{ frames := .invoking theMethod args0 :: below }]
def below0 : List Frame := [.native { method := ⟨0, 0⟩, args := #[] }]
def about1 : State := aboutOver below0
def p0 : Program := .bare "" "" ""
def e0 : Env := launch0.env 0 0 0
theorem w_frames : about1.frames = Frame.invoking theMethod args0 :: below0 := rfl
set_option maxRecDepth 65536 in
theorem w_args : argsFit about1.vm theMethod args0 = true := by decide +kernel
set_option maxRecDepth 65536 in
theorem w_heap : heapFits about1 = true := by decide +kernel
set_option maxRecDepth 65536 in
theorem w_runnable : about1.curStatus? = some .runnable := by decide +kernel
set_option maxRecDepth 65536 in
theorem w_alone : about1.alone = true := by decide +kernel
set_option maxRecDepth 65536 in
theorem w_named : about1.methodNamed? x = some theMethod := by decide +kernel
set_option maxRecDepth 65536 in
theorem w_hears : about1.hears theMethod below0 = true := by decide +kernel
set_option maxRecDepth 65536 in
theorem w_ripe : about1.ripe theMethod args0 below0 = true := by decide +kernel
theorem w_running : about1.status = .running := rfl
set_option maxRecDepth 65536 in
theorem w_room : about1.hasRoom e0.platform room_1 = true :=
  launch0.hasRoom_least _ room_1 (by decide +kernel) (by decide +kernel) (by decide +kernel) (by decide +kernel) (by decide +kernel) (by decide +kernel)
theorem allAtoms_all (ts : List Jvm.Cond) (a : Array Jvm.Value) (st : Jvm.State) : (allAtoms ts).before a st = ts.all (fun c => c.before a st) := by
  induction ts with
  | nil => rfl
  | cons c t ih =>
    show (Jvm.Cond.and c (allAtoms t)).before a st = _
    rw [Jvm.Cond.before_and, ih, List.all_cons]
def words1 : List Jvm.Cond := Jvm.Cond.code x code maxLocals ret :: tables_1
/-- a 'code' word, met by the world's own term for the bytes: nothing is compared byte by byte -/
theorem code_word {y : MethodName} {bytes : ByteArray} {mx : Nat} {rt : Option FieldType} {a : Array Value} {s : State} {m : MethodId} {meth : Method} {c : Code} (h1 : s.methodNamed? y = some m) (h2 : s.vm.method? m = some meth) (h3 : meth.code = some c) (h4 : c.code = bytes)
    (h5 : (c.maxLocals == mx && c.exceptionTable.isEmpty && decide (c.maxStack ≤ mostOperands) && decide (meth.sig.returnType = rt) && !meth.locks && decide (parseMethodDescriptor y.desc = some meth.sig)) = true) : (Jvm.Cond.code y bytes mx rt).before a s = true := by
  simp only [Bool.and_eq_true, beq_iff_eq, Bool.not_eq_true', decide_eq_true_eq] at h5
  obtain ⟨⟨⟨⟨⟨g1, g2⟩, g3⟩, g4⟩, g5⟩, g6⟩ := h5
  simp [Cond.before, Cond.holds, Cond.value, h1, h2, h3, h4, g1, g2, g3, g4, g5, g6]
def isCode : Jvm.Cond → Bool
  | .code _ _ _ _ => true
  | _ => false
theorem all_split {L : List Jvm.Cond} {P : Jvm.Cond → Bool} (h1 : L.all (fun c => isCode c || P c) = true) (h2 : ∀ c ∈ L.filter isCode, P c = true) : L.all P = true := by
  refine List.all_eq_true.mpr fun c hc => ?_
  have h := List.all_eq_true.mp h1 c hc
  rcases Bool.eq_false_or_eq_true (isCode c) with hi | hi
  · exact h2 c (List.mem_filter.mpr ⟨hc, hi⟩)
  · simpa [hi] using h
set_option maxRecDepth 65536 in
theorem w_c0 : (Jvm.Cond.code x code maxLocals ret).before args0 about1 = true := code_word (m := ⟨1, 1⟩) (meth := k1m1) (c := k1c1) (by decide +kernel) rfl rfl rfl (by decide +kernel)
set_option maxRecDepth 65536 in
theorem w_c1 : (Jvm.Cond.code ({ cls := "com/example/leafcutter/leafcutter/io/TextBuffer", name := "<init>", desc := "()V" } : Jvm.MethodName) prog_6_method_1_code (1 : Nat) (Option.none : Option Jvm.ClassFile.FieldType)).before args0 about1 = true := code_word (m := ⟨3, 0⟩) (meth := k3m0) (c := k3c0) (by decide +kernel) rfl rfl rfl (by decide +kernel)
set_option maxRecDepth 65536 in
theorem w_c2 : (Jvm.Cond.code ({ cls := "com/example/leafcutter/leafcutter/io/TextBuffer", name := "<init>", desc := "(ILjava/util/function/Consumer;)V" } : Jvm.MethodName) prog_6_method_2_code (3 : Nat) (Option.none : Option Jvm.ClassFile.FieldType)).before args0 about1 = true := code_word (m := ⟨3, 1⟩) (meth := k3m1) (c := k3c1) (by decide +kernel) rfl rfl rfl (by decide +kernel)
set_option maxRecDepth 65536 in
theorem w_c3 : (Jvm.Cond.code ({ cls := "java/lang/Object", name := "<init>", desc := "()V" } : Jvm.MethodName) object_method_1_code (1 : Nat) (Option.none : Option Jvm.ClassFile.FieldType)).before args0 about1 = true := code_word (m := ⟨0, 0⟩) (meth := k0m0) (c := k0c0) (by decide +kernel) rfl rfl rfl (by decide +kernel)
set_option maxRecDepth 65536 in
theorem w_c4 : (Jvm.Cond.code ({ cls := "com/example/leafcutter/leafcutter/io/TextBuffer", name := "contentEquals", desc := "([C)Z" } : Jvm.MethodName) prog_6_method_17_code (3 : Nat) (Option.some Jvm.ClassFile.FieldType.boolean)).before args0 about1 = true := code_word (m := ⟨3, 4⟩) (meth := k3m4) (c := k3c4) (by decide +kernel) rfl rfl rfl (by decide +kernel)
set_option maxRecDepth 65536 in
theorem w_c5 : (Jvm.Cond.code ({ cls := "com/example/leafcutter/leafcutter/io/TextBuffer", name := "length", desc := "()I" } : Jvm.MethodName) prog_6_method_9_code (1 : Nat) (Option.some Jvm.ClassFile.FieldType.int)).before args0 about1 = true := code_word (m := ⟨3, 3⟩) (meth := k3m3) (c := k3c3) (by decide +kernel) rfl rfl rfl (by decide +kernel)
set_option maxRecDepth 65536 in
theorem w_c6 : (Jvm.Cond.code ({ cls := "com/example/leafcutter/leafcutter/io/TextBuffer", name := "append", desc := "(C)Lcom/example/leafcutter/leafcutter/io/TextBuffer;" } : Jvm.MethodName) prog_6_method_3_code (2 : Nat) (Option.some (Jvm.ClassFile.FieldType.object "com/example/leafcutter/leafcutter/io/TextBuffer"))).before args0 about1 = true := code_word (m := ⟨3, 2⟩) (meth := k3m2) (c := k3c2) (by decide +kernel) rfl rfl rfl (by decide +kernel)
set_option maxRecDepth 65536 in
theorem w_c7 : (Jvm.Cond.code ({ cls := "com/example/leafcutter/leafcutter/io/TextBuffer", name := "makeRoom", desc := "(I)I" } : Jvm.MethodName) prog_6_method_21_code (3 : Nat) (Option.some Jvm.ClassFile.FieldType.int)).before args0 about1 = true := code_word (m := ⟨3, 5⟩) (meth := k3m5) (c := k3c5) (by decide +kernel) rfl rfl rfl (by decide +kernel)
set_option maxRecDepth 65536 in
theorem w_c8 : (Jvm.Cond.code ({ cls := "java/lang/Math", name := "min", desc := "(II)I" } : Jvm.MethodName) jdk_29_method_69_code (2 : Nat) (Option.some Jvm.ClassFile.FieldType.int)).before args0 about1 = true := code_word (m := ⟨4, 2⟩) (meth := k4m2) (c := k4c2) (by decide +kernel) rfl rfl rfl (by decide +kernel)
set_option maxRecDepth 65536 in
theorem w_c9 : (Jvm.Cond.code ({ cls := "com/example/leafcutter/leafcutter/io/TextBuffer", name := "grow", desc := "(I)V" } : Jvm.MethodName) prog_6_method_23_code (5 : Nat) (Option.none : Option Jvm.ClassFile.FieldType)).before args0 about1 = true := code_word (m := ⟨3, 6⟩) (meth := k3m6) (c := k3c6) (by decide +kernel) rfl rfl rfl (by decide +kernel)
set_option maxRecDepth 65536 in
theorem w_c10 : (Jvm.Cond.code ({ cls := "java/lang/Math", name := "max", desc := "(JJ)J" } : Jvm.MethodName) jdk_29_method_66_code (4 : Nat) (Option.some Jvm.ClassFile.FieldType.long)).before args0 about1 = true := code_word (m := ⟨4, 1⟩) (meth := k4m1) (c := k4c1) (by decide +kernel) rfl rfl rfl (by decide +kernel)
set_option maxRecDepth 65536 in
theorem w_c11 : (Jvm.Cond.code ({ cls := "java/lang/Math", name := "min", desc := "(JJ)J" } : Jvm.MethodName) jdk_29_method_70_code (4 : Nat) (Option.some Jvm.ClassFile.FieldType.long)).before args0 about1 = true := code_word (m := ⟨4, 3⟩) (meth := k4m3) (c := k4c3) (by decide +kernel) rfl rfl rfl (by decide +kernel)
set_option maxRecDepth 65536 in
theorem w_c12 : (Jvm.Cond.code ({ cls := "java/util/Arrays", name := "copyOf", desc := "([CI)[C" } : Jvm.MethodName) jdk_65_method_125_code (3 : Nat) (Option.some (Jvm.ClassFile.FieldType.array Jvm.ClassFile.FieldType.char))).before args0 about1 = true := code_word (m := ⟨5, 1⟩) (meth := k5m1) (c := k5c1) (by decide +kernel) rfl rfl rfl (by decide +kernel)
def codes1 : List Jvm.Cond := [Jvm.Cond.code x code maxLocals ret, Jvm.Cond.code ({ cls := "com/example/leafcutter/leafcutter/io/TextBuffer", name := "<init>", desc := "()V" } : Jvm.MethodName) prog_6_method_1_code (1 : Nat) (Option.none : Option Jvm.ClassFile.FieldType), Jvm.Cond.code ({ cls := "com/example/leafcutter/leafcutter/io/TextBuffer", name := "<init>", desc := "(ILjava/util/function/Consumer;)V" } : Jvm.MethodName) prog_6_method_2_code (3 : Nat) (Option.none : Option Jvm.ClassFile.FieldType), Jvm.Cond.code ({ cls := "java/lang/Object", name := "<init>", desc := "()V" } : Jvm.MethodName) object_method_1_code (1 : Nat) (Option.none : Option Jvm.ClassFile.FieldType), Jvm.Cond.code ({ cls := "com/example/leafcutter/leafcutter/io/TextBuffer", name := "contentEquals", desc := "([C)Z" } : Jvm.MethodName) prog_6_method_17_code (3 : Nat) (Option.some Jvm.ClassFile.FieldType.boolean), Jvm.Cond.code ({ cls := "com/example/leafcutter/leafcutter/io/TextBuffer", name := "length", desc := "()I" } : Jvm.MethodName) prog_6_method_9_code (1 : Nat) (Option.some Jvm.ClassFile.FieldType.int), Jvm.Cond.code ({ cls := "com/example/leafcutter/leafcutter/io/TextBuffer", name := "append", desc := "(C)Lcom/example/leafcutter/leafcutter/io/TextBuffer;" } : Jvm.MethodName) prog_6_method_3_code (2 : Nat) (Option.some (Jvm.ClassFile.FieldType.object "com/example/leafcutter/leafcutter/io/TextBuffer")), Jvm.Cond.code ({ cls := "com/example/leafcutter/leafcutter/io/TextBuffer", name := "makeRoom", desc := "(I)I" } : Jvm.MethodName) prog_6_method_21_code (3 : Nat) (Option.some Jvm.ClassFile.FieldType.int), Jvm.Cond.code ({ cls := "java/lang/Math", name := "min", desc := "(II)I" } : Jvm.MethodName) jdk_29_method_69_code (2 : Nat) (Option.some Jvm.ClassFile.FieldType.int), Jvm.Cond.code ({ cls := "com/example/leafcutter/leafcutter/io/TextBuffer", name := "grow", desc := "(I)V" } : Jvm.MethodName) prog_6_method_23_code (5 : Nat) (Option.none : Option Jvm.ClassFile.FieldType), Jvm.Cond.code ({ cls := "java/lang/Math", name := "max", desc := "(JJ)J" } : Jvm.MethodName) jdk_29_method_66_code (4 : Nat) (Option.some Jvm.ClassFile.FieldType.long), Jvm.Cond.code ({ cls := "java/lang/Math", name := "min", desc := "(JJ)J" } : Jvm.MethodName) jdk_29_method_70_code (4 : Nat) (Option.some Jvm.ClassFile.FieldType.long), Jvm.Cond.code ({ cls := "java/util/Arrays", name := "copyOf", desc := "([CI)[C" } : Jvm.MethodName) jdk_65_method_125_code (3 : Nat) (Option.some (Jvm.ClassFile.FieldType.array Jvm.ClassFile.FieldType.char))]
set_option maxRecDepth 65536 in
theorem codes_eq : words1.filter isCode = codes1 := rfl
theorem w_codes : ∀ c ∈ words1.filter isCode, c.before args0 about1 = true := by
  rw [codes_eq]
  intro c hc
  simp only [codes1, List.mem_cons, List.not_mem_nil, or_false] at hc
  rcases hc with rfl | rfl | rfl | rfl | rfl | rfl | rfl | rfl | rfl | rfl | rfl | rfl | rfl
  · exact w_c0
  · exact w_c1
  · exact w_c2
  · exact w_c3
  · exact w_c4
  · exact w_c5
  · exact w_c6
  · exact w_c7
  · exact w_c8
  · exact w_c9
  · exact w_c10
  · exact w_c11
  · exact w_c12
set_option maxRecDepth 65536 in
theorem w_t1 : (words1.take 24).all (fun c => isCode c || c.before args0 about1) = true := by decide +kernel
set_option maxRecDepth 65536 in
theorem w_t2 : ((words1.drop 24).take 24).all (fun c => isCode c || c.before args0 about1) = true := by decide +kernel
set_option maxRecDepth 65536 in
theorem w_t3 : ((words1.drop 24).drop 24).all (fun c => isCode c || c.before args0 about1) = true := by decide +kernel
theorem w_tables : (allAtoms (Jvm.Cond.code x code maxLocals ret :: tables_1)).before args0 about1 = true := by
  rw [allAtoms_all]
  show words1.all (fun c => c.before args0 about1) = true
  refine all_split ?_ w_codes
  rw [← List.take_append_drop 24 words1, List.all_append, w_t1, ← List.take_append_drop 24 (words1.drop 24), List.all_append, w_t2, w_t3]
  rfl
set_option maxRecDepth 65536 in
theorem w_case : (Jvm.Cond.and given_1 narrow_1).before args0 about1 = true := by decide +kernel
theorem w_applies : (headSpec (Jvm.Cond.code x code maxLocals ret :: tables_1) room_1).applies x e0.platform about1 = true :=
  (Spec.applies_iff w_frames).mpr ⟨w_running, w_runnable, w_alone, w_named, w_hears, w_ripe, w_room, w_tables⟩
theorem atStart : AtStart classFile x code maxLocals ret World_1 tables_1 room_1 Calls_1 rest_1 Pre_1 launch0 p0 e0 about1 theMethod args0 below0 :=
  ⟨lists_1, trivial, launch0.admits_env _ _ _, launch0.least_env, fairChoices_fair.cas, fairChoices_fair.clock, w_frames, w_args, w_heap, w_applies, trivial, trivial, w_case⟩
end start1
theorem witness_1 : WitnessClaimed_1 := ⟨start1.p0, start1.e0, start1.about1, start1.theMethod, start1.args0, start1.below0, start1.atStart⟩
end Jvm.Pilot.@@N@@

import JvmDerived
import JvmDerived.Pilot.@@N@@Statement
import JvmDerived.Pilot.@@N@@Code
set_option linter.unusedVariables false
set_option linter.unusedSimpArgs false
namespace Jvm.Pilot.@@N@@
open Jvm Jvm.ClassFile Sem Op Lib Jvm.Free Jvm.Stand Jvm.LawKit Jvm.RoadKit Bundle Jvm.Pilot.@@N@@.Jvm.D
abbrev Gets (p : Program) (e : Env) (below : List Frame) (S0 S : State) : Prop := ∀ t, Steps p.tables e below S t → Steps p.tables e below S0 t
section Own
variable {p : Program} {e : Env} {below : List Frame} {S0 T : State} {m : MethodId} {c : Code} {pc q : Nat} {Ls : Array Slot} {st : List Value}
theorem own_iadd {x y v : Int32} (G : Gets p e below S0 (T.setTop (mkF m pc Ls (.int y :: .int x :: st)))) (h : At T m c below) (hx : p.tables.exec = Jvm.exec) (hd : decode c.code pc = .ok (.iadd, 1)) (hv : x + y = v) (hq : pc + 1 = q) : Gets p e below S0 (T.setTop (mkF m q Ls (.int v :: st))) := by
  subst hv hq; exact fun t k => G t (XS.iadd h hx rfl hd rfl k)
theorem own_iand {x y v : Int32} (G : Gets p e below S0 (T.setTop (mkF m pc Ls (.int y :: .int x :: st)))) (h : At T m c below) (hx : p.tables.exec = Jvm.exec) (hd : decode c.code pc = .ok (.iand, 1)) (hv : x &&& y = v) (hq : pc + 1 = q) : Gets p e below S0 (T.setTop (mkF m q Ls (.int v :: st))) := by
  subst hv hq; exact fun t k => G t (XS.iand h hx rfl hd rfl k)
theorem own_l2i {x : Int64} {v : Int32} (G : Gets p e below S0 (T.setTop (mkF m pc Ls (.long x :: st)))) (h : At T m c below) (hx : p.tables.exec = Jvm.exec) (hd : decode c.code pc = .ok (.l2i, 1)) (hv : (x.toInt32) = v) (hq : pc + 1 = q) : Gets p e below S0 (T.setTop (mkF m q Ls (.int v :: st))) := by
  subst hv hq; exact fun t k => G t (XS.l2i h hx rfl hd rfl k)
theorem own_lcmp {x y : Int64} (G : Gets p e below S0 (T.setTop (mkF m pc Ls (.long y :: .long x :: st)))) (h : At T m c below) (hx : p.tables.exec = Jvm.exec) (hd : decode c.code pc = .ok (.lcmp, 1))  (hq : pc + 1 = q) : Gets p e below S0 (T.setTop (mkF m q Ls (.int (lcmpW x y) :: st))) := by
  subst hq; exact fun t k => G t (XS.lcmp h hx rfl hd rfl k)
theorem own_iconst {i : Int} {v : Int32} (G : Gets p e below S0 (T.setTop (mkF m pc Ls st))) (h : At T m c below) (hx : p.tables.exec = Jvm.exec) (hd : decode c.code pc = .ok (.iconst i, 1)) (hv : Int32.ofInt i = v) (hq : pc + 1 = q) : Gets p e below S0 (T.setTop (mkF m q Ls (.int v :: st))) := by
  subst hv hq; exact fun t k => G t (XS.iconst h hx rfl hd k)
theorem own_bipush {i : Int} {v : Int32} (G : Gets p e below S0 (T.setTop (mkF m pc Ls st))) (h : At T m c below) (hx : p.tables.exec = Jvm.exec) (hd : decode c.code pc = .ok (.bipush i, 2)) (hv : (Int8.ofInt i).toInt32 = v) (hq : pc + 2 = q) : Gets p e below S0 (T.setTop (mkF m q Ls (.int v :: st))) := by
  subst hv hq; exact fun t k => G t (XS.bipush h hx rfl hd k)
theorem own_sipush {i : Int} {v : Int32} (G : Gets p e below S0 (T.setTop (mkF m pc Ls st))) (h : At T m c below) (hx : p.tables.exec = Jvm.exec) (hd : decode c.code pc = .ok (.sipush i, 3)) (hv : (Int16.ofInt i).toInt32 = v) (hq : pc + 3 = q) : Gets p e below S0 (T.setTop (mkF m q Ls (.int v :: st))) := by
  subst hv hq; exact fun t k => G t (XS.sipush h hx rfl hd k)
theorem own_aconst_null  (G : Gets p e below S0 (T.setTop (mkF m pc Ls st))) (h : At T m c below) (hx : p.tables.exec = Jvm.exec) (hd : decode c.code pc = .ok (.aconst_null, 1))  (hq : pc + 1 = q) : Gets p e below S0 (T.setTop (mkF m q Ls (.null :: st))) := by
  subst hq; exact fun t k => G t (XS.aconstNull h hx rfl hd k)
theorem own_iload {i : Nat} {v : Int32} (G : Gets p e below S0 (T.setTop (mkF m pc Ls st))) (h : At T m c below) (hx : p.tables.exec = Jvm.exec) (hd : decode c.code pc = .ok (.iload i, 2)) (hl : Ls[i]? = some (.val (.int v))) (hq : pc + 2 = q) : Gets p e below S0 (T.setTop (mkF m q Ls (.int v :: st))) := by
  subst hq; exact fun t k => G t (XS.iload h hx rfl hd hl k)
theorem own_lload {i : Nat} {v : Int64} (G : Gets p e below S0 (T.setTop (mkF m pc Ls st))) (h : At T m c below) (hx : p.tables.exec = Jvm.exec) (hd : decode c.code pc = .ok (.lload i, 2)) (hl : Ls[i]? = some (.val (.long v))) (hq : pc + 2 = q) : Gets p e below S0 (T.setTop (mkF m q Ls (.long v :: st))) := by
  subst hq; exact fun t k => G t (XS.lload h hx rfl hd hl k)
theorem own_lloadN {i : Fin 4} {v : Int64} (G : Gets p e below S0 (T.setTop (mkF m pc Ls st))) (h : At T m c below) (hx : p.tables.exec = Jvm.exec) (hd : decode c.code pc = .ok (.lload_n i, 1)) (hl : Ls[i.val]? = some (.val (.long v))) (hq : pc + 1 = q) : Gets p e below S0 (T.setTop (mkF m q Ls (.long v :: st))) := by
  subst hq; exact fun t k => G t (XS.lloadN h hx rfl hd hl k)
theorem own_aload {i : Nat} {v : Value} (G : Gets p e below S0 (T.setTop (mkF m pc Ls st))) (h : At T m c below) (hx : p.tables.exec = Jvm.exec) (hd : decode c.code pc = .ok (.aload i, 2)) (hl : Ls[i]? = some (.val v)) (hv : v.isRef = true) (hq : pc + 2 = q) : Gets p e below S0 (T.setTop (mkF m q Ls (v :: st))) := by
  subst hq; exact fun t k => G t (XS.aload h hx rfl hd hl hv k)
theorem own_aloadN {i : Fin 4} {v : Value} (G : Gets p e below S0 (T.setTop (mkF m pc Ls st))) (h : At T m c below) (hx : p.tables.exec = Jvm.exec) (hd : decode c.code pc = .ok (.aload_n i, 1)) (hl : Ls[i.val]? = some (.val v)) (hv : v.isRef = true) (hq : pc + 1 = q) : Gets p e below S0 (T.setTop (mkF m q Ls (v :: st))) := by
  subst hq; exact fun t k => G t (XS.aloadN h hx rfl hd hl hv k)
theorem own_istore {i : Nat} {v : Int32} {l' : Array Slot} (G : Gets p e below S0 (T.setTop (mkF m pc Ls (.int v :: st)))) (h : At T m c below) (hx : p.tables.exec = Jvm.exec) (hd : decode c.code pc = .ok (.istore i, 2)) (hl : storeLocals Ls i (.int v) = some l') (hq : pc + 2 = q) : Gets p e below S0 (T.setTop (mkF m q l' st)) := by
  subst hq; exact fun t k => G t (XS.istore h hx rfl hd rfl hl k)
theorem own_istoreN {i : Fin 4} {v : Int32} {l' : Array Slot} (G : Gets p e below S0 (T.setTop (mkF m pc Ls (.int v :: st)))) (h : At T m c below) (hx : p.tables.exec = Jvm.exec) (hd : decode c.code pc = .ok (.istore_n i, 1)) (hl : storeLocals Ls i.val (.int v) = some l') (hq : pc + 1 = q) : Gets p e below S0 (T.setTop (mkF m q l' st)) := by
  subst hq; exact fun t k => G t (XS.istoreN h hx rfl hd rfl hl k)
theorem own_lstore {i : Nat} {v : Int64} {l' : Array Slot} (G : Gets p e below S0 (T.setTop (mkF m pc Ls (.long v :: st)))) (h : At T m c below) (hx : p.tables.exec = Jvm.exec) (hd : decode c.code pc = .ok (.lstore i, 2)) (hl : storeLocals Ls i (.long v) = some l') (hq : pc + 2 = q) : Gets p e below S0 (T.setTop (mkF m q l' st)) := by
  subst hq; exact fun t k => G t (XS.lstore h hx rfl hd rfl hl k)
theorem own_astore {i : Nat} {v : Value} {l' : Array Slot} (G : Gets p e below S0 (T.setTop (mkF m pc Ls (v :: st)))) (h : At T m c below) (hx : p.tables.exec = Jvm.exec) (hd : decode c.code pc = .ok (.astore i, 2)) (hv : v.isRef = true) (hl : storeLocals Ls i v = some l') (hq : pc + 2 = q) : Gets p e below S0 (T.setTop (mkF m q l' st)) := by
  subst hq; exact fun t k => G t (XS.astore h hx rfl hd rfl hv hl k)
theorem own_astoreN {i : Fin 4} {v : Value} {l' : Array Slot} (G : Gets p e below S0 (T.setTop (mkF m pc Ls (v :: st)))) (h : At T m c below) (hx : p.tables.exec = Jvm.exec) (hd : decode c.code pc = .ok (.astore_n i, 1)) (hv : v.isRef = true) (hl : storeLocals Ls i.val v = some l') (hq : pc + 1 = q) : Gets p e below S0 (T.setTop (mkF m q l' st)) := by
  subst hq; exact fun t k => G t (XS.astoreN h hx rfl hd rfl hv hl k)
theorem own_dup {x : Value} (G : Gets p e below S0 (T.setTop (mkF m pc Ls (x :: st)))) (h : At T m c below) (hx : p.tables.exec = Jvm.exec) (hd : decode c.code pc = .ok (.dup, 1)) (hc : x.category = 1) (hq : pc + 1 = q) : Gets p e below S0 (T.setTop (mkF m q Ls (x :: x :: st))) := by
  subst hq; exact fun t k => G t (XS.dup h hx rfl hd rfl hc k)
theorem own_goto {o : Int} (G : Gets p e below S0 (T.setTop (mkF m pc Ls st))) (h : At T m c below) (hx : p.tables.exec = Jvm.exec) (hd : decode c.code pc = .ok (.goto o, 3))  (ho : 0 ≤ (pc : Int) + o) (hp : ((pc : Int) + o).toNat = q) : Gets p e below S0 (T.setTop (mkF m q Ls st)) := by
  exact fun t k => G t (XS.goto h hx rfl rfl hd ho hp k)
theorem own_ifYes {cd : ClassFile.Cond} {o : Int} {x : Int32} (G : Gets p e below S0 (T.setTop (mkF m pc Ls (.int x :: st)))) (h : At T m c below) (hx : p.tables.exec = Jvm.exec) (hd : decode c.code pc = .ok (.ifCond cd o, 3)) (hc : ifCond.holds cd x = true) (ho : 0 ≤ (pc : Int) + o) (hp : ((pc : Int) + o).toNat = q) : Gets p e below S0 (T.setTop (mkF m q Ls st)) := by
  exact fun t k => G t (XS.ifYes h hx rfl rfl hd rfl hc ho hp k)
theorem own_ifNo {cd : ClassFile.Cond} {o : Int} {x : Int32} (G : Gets p e below S0 (T.setTop (mkF m pc Ls (.int x :: st)))) (h : At T m c below) (hx : p.tables.exec = Jvm.exec) (hd : decode c.code pc = .ok (.ifCond cd o, 3)) (hc : ifCond.holds cd x = false) (hq : pc + 3 = q) : Gets p e below S0 (T.setTop (mkF m q Ls st)) := by
  subst hq; exact fun t k => G t (XS.ifNo h hx rfl hd rfl hc k)
theorem own_icmpYes {cd : ClassFile.Cond} {o : Int} {x y : Int32} (G : Gets p e below S0 (T.setTop (mkF m pc Ls (.int y :: .int x :: st)))) (h : At T m c below) (hx : p.tables.exec = Jvm.exec) (hd : decode c.code pc = .ok (.if_icmp cd o, 3)) (hc : if_icmp.holds cd x y = true) (ho : 0 ≤ (pc : Int) + o) (hp : ((pc : Int) + o).toNat = q) : Gets p e below S0 (T.setTop (mkF m q Ls st)) := by
  exact fun t k => G t (XS.icmpYes h hx rfl rfl hd rfl hc ho hp k)
theorem own_icmpNo {cd : ClassFile.Cond} {o : Int} {x y : Int32} (G : Gets p e below S0 (T.setTop (mkF m pc Ls (.int y :: .int x :: st)))) (h : At T m c below) (hx : p.tables.exec = Jvm.exec) (hd : decode c.code pc = .ok (.if_icmp cd o, 3)) (hc : if_icmp.holds cd x y = false) (hq : pc + 3 = q) : Gets p e below S0 (T.setTop (mkF m q Ls st)) := by
  subst hq; exact fun t k => G t (XS.icmpNo h hx rfl hd rfl hc k)
end Own
theorem own_lt32 {x y : Int32} : x < y ↔ x.toInt < y.toInt := Int32.lt_iff_toInt_lt
theorem own_rem {i u : Int32} (d : Int32) (k : Int) (hk : d.toInt = k) (h0 : 0 < k) (h : (u &&& 2147483647) % d = i) : 0 ≤ i.toInt ∧ i.toInt < k := by
  have a1 := c_mask u 2147483647 31 (by decide) (by decide)
  have a2 := (c_irem (u &&& 2147483647) d k hk).1 (by omega)
  rw [h] at a2
  have m2 := Int.emod_nonneg (u &&& 2147483647).toInt (show k ≠ 0 by omega)
  have m3 := Int.emod_lt_of_pos (u &&& 2147483647).toInt h0
  omega
theorem own_num {i : Int32} (k : Int32) (h : i.toInt = k.toInt) : i = k := Int32.toInt_inj.mp h
theorem own_cases4 {i : Int32} (h : 0 ≤ i.toInt ∧ i.toInt < 4) : i = 0 ∨ i = 1 ∨ i = 2 ∨ i = 3 := by
  have e0 : (0 : Int32).toInt = 0 := rfl
  have e1 : (1 : Int32).toInt = 1 := rfl
  have e2 : (2 : Int32).toInt = 2 := rfl
  have e3 : (3 : Int32).toInt = 3 := rfl
  have q : i.toInt = 0 ∨ i.toInt = 1 ∨ i.toInt = 2 ∨ i.toInt = 3 := by omega
  rcases q with q | q | q | q
  · exact Or.inl (own_num 0 q)
  · exact Or.inr (Or.inl (own_num 1 q))
  · exact Or.inr (Or.inr (Or.inl (own_num 2 q)))
  · exact Or.inr (Or.inr (Or.inr ((own_num 3 q))))

theorem own_m3 {x i : Int32} (h : x &&& 3 = i) : 0 ≤ i.toInt ∧ i.toInt < 4 := by
  have a := c_mask x 3 2 (by decide) (by decide)
  rw [h] at a; omega
def own_eqv (u w u2 w2 : Int64) : Int32 := if u = u2 then (if w = w2 then 1 else 0) else 0
theorem own_no {Z : State} {a0 : Array Value} {O S C K : String} {n : Nat} (w1 : (Jvm.Cond.superclass C S).before a0 Z = true) (w2 : (Jvm.Cond.superclass S O).before a0 Z = true) (w3 : (Jvm.Cond.noSuperclass O).before a0 Z = true) (wi : (Jvm.Cond.instantiable K n).before a0 Z = true) (h1 : O ≠ K) (h2 : S ≠ K) (h3 : C ≠ K) :
    ∃ c t, Z.vm.findClass C = some c ∧ Z.vm.findClass K = some t ∧ Z.vm.assignable c t = false := by
  obtain ⟨t, kt, g0, g2, g5, g7, -, -⟩ := Cond.instantiable_spec wi
  have n0 : NS Z O K := by
    obtain ⟨c, k, a1, a2, a3, -, -⟩ := Cond.noSuperclass_spec w3
    have ne := ids_ne a1 g0 h1
    refine ⟨c, t, a1, g0, fun fuel => ?_⟩
    cases fuel with
    | zero => rfl
    | succ f => simp [Vm.isSubclassAux, ne, a2, a3]
  obtain ⟨c, t', h0, g0', n3⟩ := NS.step w1 (NS.step w2 n0 h2) h3
  cases g0.symm.trans g0'
  obtain ⟨p, k, kp, q1, q2, q3, q4, q5, -, q7⟩ := Cond.superclass_spec h0 w1
  have ne := ids_ne h0 g0 h3
  have g8 : kt.isInterface = false := by
    cases hh : kt.isInterface with
    | false => rfl
    | true => rw [hh] at g7; simp at g7
  refine ⟨c, t, h0, g0, ?_⟩
  show Z.vm.assignableAux (255 + 1) c t = false
  simp [Vm.assignableAux, ne, q2, g2, q5, g5, g8, Vm.isSubclass, n3]
/-- the cache: an array of 256 Longs -/
def own_cache (Z : State) (h : Heap) (ca : Addr) : Prop := ∃ cl : Cell, Arr Z h ca cl (.object "java/lang/Long") ∧ cl.slots.size = 256 ∧ ∀ j : Int32, 0 ≤ j.toInt → j.toInt < 256 → ∃ b, cl.slots[j.toNatClampNeg]? = some (.ref b) ∧ Exa Z h b "java/lang/Long"
theorem own_cache.ext {Z : State} {h h' : Heap} {ca : Addr} (K : own_cache Z h ca) (E : Ext h h') : own_cache Z h' ca := by
  obtain ⟨cl, A, S, F⟩ := K
  refine ⟨cl, A.ext E, S, fun j h1 h2 => ?_⟩
  obtain ⟨b, p, q⟩ := F j h1 h2
  exact ⟨b, p, q.ext E⟩
theorem own_exidx {args : Array Value} {Z : State} {t : Term} {a : Addr} {C : String} {i : Nat} (ev : t.eval args Z none [i] Z = some (.ref a)) (hx : (Jvm.Cond.exactly t C).value args Z none Z [i] = some true) : Exa Z Z.heap a C := by
  have e : (Jvm.Cond.exactly (.arg 0) C).value #[.ref a] Z none Z [] = some true := by
    rw [← hx]; simp only [Cond.value, ev]; rfl
  exact Exa.start (t := .arg 0) (args := #[.ref a]) rfl e
theorem own_cstart {args : Array Value} {s : State} {t : Term} {ca : Addr} {c2 : Jvm.Cond} (hf : Fit s) (ht : t.eval args s none [] s = some (.ref ca)) (ht2 : ∀ i, t.eval args s none [i] s = some (.ref ca)) (ha : (Jvm.Cond.arrayOf t (.object "java/lang/Long")).value args s none s [] = some true) (hl : (Jvm.Cond.eq (.length t) (.int 256)).value args s none s [] = some true)
    (hall : (Jvm.Cond.all t (.and (.exactly (.elem t (.index 0)) "java/lang/Long") c2)).value args s none s [] = some true) : own_cache s s.heap ca := by
  obtain ⟨cl, A⟩ := Arr.start ht ha
  have e2 : (Term.int 256).eval args s none [] s = some (.int 256) := Term.int_eval 256
  have hat : s.arrayAt? ca = some cl := Arr.fin (U := s) (Vm.Alike.refl _) A
  have hz : cl.slots.size < 2 ^ 31 ∧ cl.slots.size.toInt32 = 256 := by
    by_cases q : cl.slots.size < 2 ^ 31
    · have e1 := len_f ht hat q
      simp [Cond.value, e1, e2] at hl
      exact ⟨q, hl⟩
    · have e1 : (Term.length t).eval args s none [] s = none := by simp [Term.eval, ht, hat, q]
      simp [Cond.value, e1] at hl
  have hsz : cl.slots.size = 256 := by
    have h1 := len_toInt hz.1
    rw [hz.2] at h1
    have : (256 : Int32).toInt = 256 := rfl
    omega
  refine ⟨cl, A, hsz, fun j h1 h2 => ?_⟩
  have hj : j.toNatClampNeg < cl.slots.size := by rw [hsz]; simp only [Int32.toNatClampNeg]; omega
  have q := Cond.all_elim ht hat hall j.toNatClampNeg hj
  obtain ⟨q1, -⟩ := and_e q
  obtain ⟨b, eb⟩ := exa_v q1
  have ex := own_exidx eb q1
  refine ⟨b, ?_, ex⟩
  have hj2 : (Term.index 0).eval args s none [j.toNatClampNeg] s = some (.int j) := by
    simp [Term.eval]
    rw [(back32 (show ¬ j < 0 by rw [own_lt32]; have : (0 : Int32).toInt = 0 := rfl; omega)).1]
  have e3 := elem_f (ht2 j.toNatClampNeg) hj2 hat (show ¬ j < 0 by rw [own_lt32]; have : (0 : Int32).toInt = 0 := rfl; omega)
  rw [← e3]; exact eb
theorem own_lidx {x : Int64} (h1 : ¬ x < (-128)) (h2 : ¬ 127 < x) : 0 ≤ (x.toInt32 + 128).toInt ∧ (x.toInt32 + 128).toInt < 256 := by
  rw [Int64.lt_iff_toInt_lt, show (-128 : Int64).toInt = -128 from rfl] at h1
  rw [Int64.lt_iff_toInt_lt, show (127 : Int64).toInt = 127 from rfl] at h2
  have a := c_l2i x; have r := rng32 x.toInt32
  have b := c_iadd x.toInt32 128; have r2 := rng32 (x.toInt32 + 128)
  rw [show (128 : Int32).toInt = 128 from rfl] at b
  omega
theorem d1_0 : decode prog_20_method_1_code 0 = .ok (.aload_n 0, 1) := by decide +kernel
theorem d1_1 : decode prog_20_method_1_code 1 = .ok (.invokespecial 1, 3) := by decide +kernel
theorem d1_4 : decode prog_20_method_1_code 4 = .ok (.aload_n 0, 1) := by decide +kernel
theorem d1_5 : decode prog_20_method_1_code 5 = .ok (.lload_n 1, 1) := by decide +kernel
theorem d1_6 : decode prog_20_method_1_code 6 = .ok (.putfield 7, 3) := by decide +kernel
theorem d1_9 : decode prog_20_method_1_code 9 = .ok (.aload_n 0, 1) := by decide +kernel
theorem d1_10 : decode prog_20_method_1_code 10 = .ok (.lload_n 3, 1) := by decide +kernel
theorem d1_11 : decode prog_20_method_1_code 11 = .ok (.putfield 13, 3) := by decide +kernel
theorem d1_14 : decode prog_20_method_1_code 14 = .ok (.return_, 1) := by decide +kernel
theorem pn_com_example_cheapside_cheapside_core_StoredValue : plainName "com/example/cheapside/cheapside/core/StoredValue" = true := by first | (simp [plainName, overriddenIn]; done) | decide +kernel
theorem ef_1 (m : MethodId) (x0 : Addr) (x1 : Int64) (x2 : Int64) : entryFrame m #[(.ref x0), (.long x1), (.long x2)] 5 = mkF m 0 #[.val (.ref x0), .val (.long x1), .second, .val (.long x2), .second] [] := by first | (simp [entryFrame, mkF, argsToLocals, Value.category]; done) | rfl
def Q1 (Z : State) (a : Addr) (u : Int64) (w : Int64) (h0 : Heap) (n0 : Nat) (v : Option Value) (h : Heap) (L : List Loc) : Prop := v = none ∧ Fr n0 L ∧ Keep h0 h [a] ∧ (Fld Z h a "com/example/cheapside/cheapside/core/StoredValue" "value" "J" (.long u)) ∧ (Fld Z h a "com/example/cheapside/cheapside/core/StoredValue" "writtenThrough" "J" (.long w))
set_option maxRecDepth 65536 in
set_option maxHeartbeats 40000000 in
theorem rm1 (l : Launch) (Z : State) (a0 : Array Value) (hw : ∀ d ∈ tables_1, d.before a0 Z = true) (ws : List Jvm.Cond) (a : Addr) (u : Int64) (w : Int64) (h0 : Heap) (n0 : Nat) (Z0 : n0 ≤ h0.size) (P0 : Fld Z h0 a "com/example/cheapside/cheapside/core/StoredValue" "value" "J" (.long (0 : Int64))) (P1 : Fld Z h0 a "com/example/cheapside/cheapside/core/StoredValue" "writtenThrough" "J" (.long (0 : Int64))) (P2 : Exa Z h0 a "com/example/cheapside/cheapside/core/StoredValue") (P3 : n0 ≤ a) :
    MetFree l (⟨"com/example/cheapside/cheapside/core/StoredValue", "<init>", "(JJ)V"⟩ : MethodName) (head1 (Jvm.Cond.code (⟨"com/example/cheapside/cheapside/core/StoredValue", "<init>", "(JJ)V"⟩ : MethodName) prog_20_method_1_code 5 none :: ws) ({ frames := 1, cells := 0, slots := 0, locals := 12 } : Room)) (fun zz U => zz = #[(.ref a), (.long u), (.long w)] ∧ Z.Warmed39 U.vm ∧ U.heap = h0) (fun _ _ _ _ _ => True) (fun _ U o U' => ∃ v L, o = .returned v ∧ Q1 Z a u w h0 n0 v U'.heap L ∧ FrameEnd U o U' L ({ frames := 1, cells := 0, slots := 0, locals := 12 } : Room).cells ({ frames := 1, cells := 0, slots := 0, locals := 12 } : Room).slots) := by
  refine MetFree.of_bodySF (plainFor_of_name pn_com_example_cheapside_cheapside_core_StoredValue) hisR ?_
  intro p e s m args below meth c s₁ Bd hml0 hP hK
  obtain ⟨rfl, hZ, hh⟩ := hP
  have hx := Bd.exec
  have hby := Bd.bytes
  have hml : c.maxLocals = 5 := hml0
  have hown : s.vm.findClass "com/example/cheapside/cheapside/core/StoredValue" = some m.cls := findClass_of_methodNamed Bd.named
  have hnm := (name_of_methodNamed Bd.named Bd.method).1
  have X0 : Stand p l e ({ frames := 1, cells := 0, slots := 0, locals := 12 } : Room) s m #[(.ref a), (.long u), (.long w)] below meth c s₁ [] 0 0 := Stand.of_body Bd
  have e0 : s₁.heap = h0 := by rw [← hh, Bd.state]; rfl
  have N0 := Fr.nil n0
  have K0 : Keep h0 h0 [a] := Keep.refl _ _
  have G : Gets p e below (s₁.setTop (entryFrame m #[(.ref a), (.long u), (.long w)] 5)) (s₁.setTop (mkF m 0 #[.val (.ref a), .val (.long u), .second, .val (.long w), .second] [])) := fun t k => castTop (ef_1 m a u w) k
  replace G := own_aloadN (q := 1) G X0.here hx (hb hby d1_0) rfl rfl rfl
  obtain ⟨T1, X1, e1, st1⟩ := initO X0 hx hZ hown (hw _ (List.mem_of_getElem? (i := 6) rfl)) (hw _ (List.mem_of_getElem? (i := 7) rfl)) (hw _ (List.mem_of_getElem? (i := 8) rfl)) e0 (g := (mkF m 1 #[.val (.ref a), .val (.long u), .second, .val (.long w), .second] [(.ref a)])) rfl (by rw [hml]; rfl) rfl (hb hby d1_1) (by decide) (W := 0) (by show 2 * 0 + _ ≤ _; exact Nat.le_of_eq rfl) (by decide)
  replace G : Gets p e below _ (T1.setTop (mkF m 4 #[.val (.ref a), .val (.long u), .second, .val (.long w), .second] [])) := fun t k => G t (st1 t k)
  replace G := own_aloadN (q := 5) G X1.here hx (hb hby d1_4) rfl rfl rfl
  replace G := own_lloadN (q := 6) G X1.here hx (hb hby d1_5) rfl rfl
  obtain ⟨T2, h2, X2, e2, W2, st2⟩ := putF X1 hx hZ hown (host := "") (Or.inl (hw _ (List.mem_of_getElem? (i := 9) rfl))) Via.refl e1 P0 P2 (Or.inr ⟨(hw _ (List.mem_of_getElem? (i := 10) rfl)), rfl, hnm⟩) (hw _ (List.mem_of_getElem? (i := 1) rfl)) (ty := .long) (by decide) rfl rfl (g := (mkF m 6 #[.val (.ref a), .val (.long u), .second, .val (.long w), .second] [(.long u), (.ref a)])) rfl rfl (hb hby d1_6)
  have N2 := Fr.snoc X2 N0 P3
  have Z2 : n0 ≤ h2.size := Nat.le_trans Z0 (Keep.of_wr W2).1
  have K2 : Keep h0 h2 [a] := K0.wr W2 (Or.inl (List.mem_of_getElem? (i := 0) rfl))
  have F2 : Fld Z h2 a "com/example/cheapside/cheapside/core/StoredValue" "value" "J" (.long u) := P0.same W2
  replace G : Gets p e below _ (T2.setTop (mkF m 9 #[.val (.ref a), .val (.long u), .second, .val (.long w), .second] [])) := fun t k => G t (st2 t k)
  replace G := own_aloadN (q := 10) G X2.here hx (hb hby d1_9) rfl rfl rfl
  replace G := own_lloadN (q := 11) G X2.here hx (hb hby d1_10) rfl rfl
  have F3 : Exa Z h2 a "com/example/cheapside/cheapside/core/StoredValue" := (P2.wr W2)
  have F4 : Fld Z h2 a "com/example/cheapside/cheapside/core/StoredValue" "writtenThrough" "J" (.long (0 : Int64)) := (P1.other W2 (Or.inr (slot_ne (Or.inr (hw _ (List.mem_of_getElem? (i := 12) rfl))) (Or.inr (hw _ (List.mem_of_getElem? (i := 10) rfl))) (by decide) (t := .long) (t' := .long) (by decide) (by decide))))
  obtain ⟨T5, h5, X5, e5, W5, st5⟩ := putF X2 hx hZ hown (host := "") (Or.inl (hw _ (List.mem_of_getElem? (i := 11) rfl))) Via.refl e2 F4 F3 (Or.inr ⟨(hw _ (List.mem_of_getElem? (i := 12) rfl)), rfl, hnm⟩) (hw _ (List.mem_of_getElem? (i := 1) rfl)) (ty := .long) (by decide) rfl rfl (g := (mkF m 11 #[.val (.ref a), .val (.long u), .second, .val (.long w), .second] [(.long w), (.ref a)])) rfl rfl (hb hby d1_11)
  have N5 := Fr.snoc X5 N2 P3
  have Z5 : n0 ≤ h5.size := Nat.le_trans Z2 (Keep.of_wr W5).1
  have K5 : Keep h0 h5 [a] := K2.wr W5 (Or.inl (List.mem_of_getElem? (i := 0) rfl))
  have F5 : Fld Z h5 a "com/example/cheapside/cheapside/core/StoredValue" "writtenThrough" "J" (.long w) := F4.same W5
  replace G : Gets p e below _ (T5.setTop (mkF m 14 #[.val (.ref a), .val (.long u), .second, .val (.long w), .second] [])) := fun t k => G t (st5 t k)
  obtain ⟨fs, hr, hrun, hended, hW, hsame⟩ := X5.leave (v := none) (fun _ => rfl)
  refine ⟨_, _, G _ (X5.returnOut hx Bd.returns (hb hby d1_14) hr), hrun, hended, _, _, rfl, ?_, ⟨_, rfl⟩, hW, hsame.mono (by decide) (by decide)⟩
  have F6 : Fld Z h5 a "com/example/cheapside/cheapside/core/StoredValue" "value" "J" (.long u) := (F2.other W5 (Or.inr (slot_ne (Or.inr (hw _ (List.mem_of_getElem? (i := 10) rfl))) (Or.inr (hw _ (List.mem_of_getElem? (i := 12) rfl))) (by decide) (t := .long) (t' := .long) (by decide) (by decide))))
  show Q1 Z a u w h0 n0 _ T5.heap _
  rw [e5]
  exact ⟨rfl, N5, K5, F6, F5⟩
theorem d6_0 : decode jdk_18_method_1_code 0 = .ok (.aload_n 0, 1) := by decide +kernel
theorem d6_1 : decode jdk_18_method_1_code 1 = .ok (.invokespecial 1, 3) := by decide +kernel
theorem d6_4 : decode jdk_18_method_1_code 4 = .ok (.return_, 1) := by decide +kernel
theorem pn_java_lang_Number : plainName "java/lang/Number" = true := by first | (simp [plainName, overriddenIn]; done) | decide +kernel
theorem ef_6 (m : MethodId) (x0 : Addr) : entryFrame m #[(.ref x0)] 1 = mkF m 0 #[.val (.ref x0)] [] := by first | (simp [entryFrame, mkF, argsToLocals, Value.category]; done) | rfl
def Q6 (Z : State) (a : Addr) (h0 : Heap) (n0 : Nat) (v : Option Value) (h : Heap) (L : List Loc) : Prop := v = none ∧ Fr n0 L ∧ h = h0
set_option maxRecDepth 65536 in
set_option maxHeartbeats 40000000 in
theorem rm6 (l : Launch) (Z : State) (a0 : Array Value) (hw : ∀ d ∈ tables_1, d.before a0 Z = true) (ws : List Jvm.Cond) (a : Addr) (h0 : Heap) (n0 : Nat) (Z0 : n0 ≤ h0.size)  :
    MetFree l (⟨"java/lang/Number", "<init>", "()V"⟩ : MethodName) (head1 (Jvm.Cond.code (⟨"java/lang/Number", "<init>", "()V"⟩ : MethodName) jdk_18_method_1_code 1 none :: ws) ({ frames := 1, cells := 0, slots := 0, locals := 12 } : Room)) (fun zz U => zz = #[(.ref a)] ∧ Z.Warmed39 U.vm ∧ U.heap = h0) (fun _ _ _ _ _ => True) (fun _ U o U' => ∃ v L, o = .returned v ∧ Q6 Z a h0 n0 v U'.heap L ∧ FrameEnd U o U' L ({ frames := 1, cells := 0, slots := 0, locals := 12 } : Room).cells ({ frames := 1, cells := 0, slots := 0, locals := 12 } : Room).slots) := by
  refine MetFree.of_bodySF (plainFor_of_name pn_java_lang_Number) hisR ?_
  intro p e s m args below meth c s₁ Bd hml0 hP hK
  obtain ⟨rfl, hZ, hh⟩ := hP
  have hx := Bd.exec
  have hby := Bd.bytes
  have hml : c.maxLocals = 1 := hml0
  have hown : s.vm.findClass "java/lang/Number" = some m.cls := findClass_of_methodNamed Bd.named
  have hnm := (name_of_methodNamed Bd.named Bd.method).1
  have X0 : Stand p l e ({ frames := 1, cells := 0, slots := 0, locals := 12 } : Room) s m #[(.ref a)] below meth c s₁ [] 0 0 := Stand.of_body Bd
  have e0 : s₁.heap = h0 := by rw [← hh, Bd.state]; rfl
  have N0 := Fr.nil n0
  have G : Gets p e below (s₁.setTop (entryFrame m #[(.ref a)] 1)) (s₁.setTop (mkF m 0 #[.val (.ref a)] [])) := fun t k => castTop (ef_6 m a) k
  replace G := own_aloadN (q := 1) G X0.here hx (hb hby d6_0) rfl rfl rfl
  obtain ⟨T1, X1, e1, st1⟩ := initO X0 hx hZ hown (hw _ (List.mem_of_getElem? (i := 42) rfl)) (hw _ (List.mem_of_getElem? (i := 7) rfl)) (hw _ (List.mem_of_getElem? (i := 8) rfl)) e0 (g := (mkF m 1 #[.val (.ref a)] [(.ref a)])) rfl (by rw [hml]; rfl) rfl (hb hby d6_1) (by decide) (W := 0) (by show 2 * 0 + _ ≤ _; exact Nat.le_of_eq rfl) (by decide)
  replace G : Gets p e below _ (T1.setTop (mkF m 4 #[.val (.ref a)] [])) := fun t k => G t (st1 t k)
  obtain ⟨fs, hr, hrun, hended, hW, hsame⟩ := X1.leave (v := none) (fun _ => rfl)
  refine ⟨_, _, G _ (X1.returnOut hx Bd.returns (hb hby d6_4) hr), hrun, hended, _, _, rfl, ?_, ⟨_, rfl⟩, hW, hsame.mono (by decide) (by decide)⟩
  show Q6 Z a h0 n0 _ T1.heap _
  rw [e1]
  exact ⟨rfl, N0, rfl⟩
theorem pd_0 : parseMethodDescriptor "()V" = some ⟨[], none⟩ := by decide +kernel
theorem d5_0 : decode jdk_35_method_26_code 0 = .ok (.aload_n 0, 1) := by decide +kernel
theorem d5_1 : decode jdk_35_method_26_code 1 = .ok (.invokespecial 270, 3) := by decide +kernel
theorem d5_4 : decode jdk_35_method_26_code 4 = .ok (.aload_n 0, 1) := by decide +kernel
theorem d5_5 : decode jdk_35_method_26_code 5 = .ok (.lload_n 1, 1) := by decide +kernel
theorem d5_6 : decode jdk_35_method_26_code 6 = .ok (.putfield 273, 3) := by decide +kernel
theorem d5_9 : decode jdk_35_method_26_code 9 = .ok (.return_, 1) := by decide +kernel
theorem pn_java_lang_Long : plainName "java/lang/Long" = true := by first | (simp [plainName, overriddenIn]; done) | decide +kernel
theorem ef_5 (m : MethodId) (x0 : Addr) (x1 : Int64) : entryFrame m #[(.ref x0), (.long x1)] 3 = mkF m 0 #[.val (.ref x0), .val (.long x1), .second] [] := by first | (simp [entryFrame, mkF, argsToLocals, Value.category]; done) | rfl
def Q5 (Z : State) (a : Addr) (u : Int64) (h0 : Heap) (n0 : Nat) (v : Option Value) (h : Heap) (L : List Loc) : Prop := v = none ∧ Fr n0 L ∧ Keep h0 h [a]
set_option maxRecDepth 65536 in
set_option maxHeartbeats 40000000 in
theorem rm5 (l : Launch) (Z : State) (a0 : Array Value) (hw : ∀ d ∈ tables_1, d.before a0 Z = true) (ws : List Jvm.Cond) (a : Addr) (u : Int64) (h0 : Heap) (n0 : Nat) (Z0 : n0 ≤ h0.size) (P0 : Fld Z h0 a "java/lang/Long" "value" "J" (.long (0 : Int64))) (P1 : Exa Z h0 a "java/lang/Long") (P2 : n0 ≤ a) :
    MetFree l (⟨"java/lang/Long", "<init>", "(J)V"⟩ : MethodName) (head1 (Jvm.Cond.code (⟨"java/lang/Long", "<init>", "(J)V"⟩ : MethodName) jdk_35_method_26_code 3 none :: ws) ({ frames := 2, cells := 0, slots := 0, locals := 24 } : Room)) (fun zz U => zz = #[(.ref a), (.long u)] ∧ Z.Warmed39 U.vm ∧ U.heap = h0) (fun _ _ _ _ _ => True) (fun _ U o U' => ∃ v L, o = .returned v ∧ Q5 Z a u h0 n0 v U'.heap L ∧ FrameEnd U o U' L ({ frames := 2, cells := 0, slots := 0, locals := 24 } : Room).cells ({ frames := 2, cells := 0, slots := 0, locals := 24 } : Room).slots) := by
  refine MetFree.of_bodySF (plainFor_of_name pn_java_lang_Long) hisR ?_
  intro p e s m args below meth c s₁ Bd hml0 hP hK
  obtain ⟨rfl, hZ, hh⟩ := hP
  have hx := Bd.exec
  have hby := Bd.bytes
  have hml : c.maxLocals = 3 := hml0
  have hown : s.vm.findClass "java/lang/Long" = some m.cls := findClass_of_methodNamed Bd.named
  have hnm := (name_of_methodNamed Bd.named Bd.method).1
  have X0 : Stand p l e ({ frames := 2, cells := 0, slots := 0, locals := 24 } : Room) s m #[(.ref a), (.long u)] below meth c s₁ [] 0 0 := Stand.of_body Bd
  have e0 : s₁.heap = h0 := by rw [← hh, Bd.state]; rfl
  have N0 := Fr.nil n0
  have K0 : Keep h0 h0 [a] := Keep.refl _ _
  have G : Gets p e below (s₁.setTop (entryFrame m #[(.ref a), (.long u)] 3)) (s₁.setTop (mkF m 0 #[.val (.ref a), .val (.long u), .second] [])) := fun t k => castTop (ef_5 m a u) k
  replace G := own_aloadN (q := 1) G X0.here hx (hb hby d5_0) rfl rfl rfl
  obtain ⟨_, _, ⟨T1, L1, kk1, nn1⟩, -, X1, ⟨Lc1, hQ1, l1, y1, z1⟩, st1⟩ := X0.specialBack hx (y := (⟨"java/lang/Number", "<init>", "()V"⟩ : MethodName)) rfl hown (mvT hZ (hw _ (List.mem_of_getElem? (i := 36) rfl))) (mvT hZ (hw _ (List.mem_of_getElem? (i := 37) rfl))) (mvT hZ (hw _ (List.mem_of_getElem? (i := 41) rfl))) (by decide) (backOf (W := 0) (rm6 l Z a0 hw [] a h0 n0 Z0 ) hZ (hw _ (List.mem_of_getElem? (i := 41) rfl)) (hw _ (List.mem_of_getElem? (i := 40) rfl)) (by decide) (by decide)) (g := (mkF m 1 #[.val (.ref a), .val (.long u), .second] [(.ref a)])) rfl (by rw [hml]; rfl) (Steps.refl _) (a := a) (argsL := []) (rest := []) (lenOf pd_0 rfl) rfl (by show 2 * 0 + _ ≤ _; exact Nat.le_of_eq rfl) (hb hby d5_1) (fun _ _ => ⟨rfl, e0, (by decide : 0 + 0 ≤ _), (by decide : 0 + 0 ≤ _)⟩)
  dsimp only [Pt.U, Pt.locs, Pt.cells, Pt.slots] at X1 l1 y1 z1 st1 hQ1
  subst l1 y1 z1
  obtain ⟨rfl, N1q, e1⟩ := hQ1
  have N1 := Fr.app N0 N1q
  replace G : Gets p e below _ (T1.setTop (mkF m 4 #[.val (.ref a), .val (.long u), .second] [])) := fun t k => G t (st1.trans k)
  replace G := own_aloadN (q := 5) G X1.here hx (hb hby d5_4) rfl rfl rfl
  replace G := own_lloadN (q := 6) G X1.here hx (hb hby d5_5) rfl rfl
  obtain ⟨T2, h2, X2, e2, W2, st2⟩ := putF X1 hx hZ hown (host := "") (Or.inl (hw _ (List.mem_of_getElem? (i := 43) rfl))) Via.refl e1 P0 P1 (Or.inr ⟨(hw _ (List.mem_of_getElem? (i := 44) rfl)), rfl, hnm⟩) (hw _ (List.mem_of_getElem? (i := 31) rfl)) (ty := .long) (by decide) rfl rfl (g := (mkF m 6 #[.val (.ref a), .val (.long u), .second] [(.long u), (.ref a)])) rfl rfl (hb hby d5_6)
  have N2 := Fr.snoc X2 N1 P2
  have Z2 : n0 ≤ h2.size := Nat.le_trans Z0 (Keep.of_wr W2).1
  have K2 : Keep h0 h2 [a] := K0.wr W2 (Or.inl (List.mem_of_getElem? (i := 0) rfl))
  have F2 : Fld Z h2 a "java/lang/Long" "value" "J" (.long u) := P0.same W2
  replace G : Gets p e below _ (T2.setTop (mkF m 9 #[.val (.ref a), .val (.long u), .second] [])) := fun t k => G t (st2 t k)
  obtain ⟨fs, hr, hrun, hended, hW, hsame⟩ := X2.leave (v := none) (fun _ => rfl)
  refine ⟨_, _, G _ (X2.returnOut hx Bd.returns (hb hby d5_9) hr), hrun, hended, _, _, rfl, ?_, ⟨_, rfl⟩, hW, hsame.mono (by decide) (by decide)⟩
  show Q5 Z a u h0 n0 _ T2.heap _
  rw [e2]
  exact ⟨rfl, N2, K2⟩
theorem pd_1 : parseMethodDescriptor "(J)V" = some ⟨[.long], none⟩ := by decide +kernel
theorem d3_0 : decode jdk_35_method_24_code 0 = .ok (.sipush 128, 3) := by decide +kernel
theorem d3_3 : decode jdk_35_method_24_code 3 = .ok (.istore_n 2, 1) := by decide +kernel
theorem d3_4 : decode jdk_35_method_24_code 4 = .ok (.lload_n 0, 1) := by decide +kernel
theorem d3_5 : decode jdk_35_method_24_code 5 = .ok (.ldc2_w 230, 3) := by decide +kernel
theorem d3_8 : decode jdk_35_method_24_code 8 = .ok (.lcmp, 1) := by decide +kernel
theorem d3_9 : decode jdk_35_method_24_code 9 = .ok (.ifCond .lt 22, 3) := by decide +kernel
theorem d3_12 : decode jdk_35_method_24_code 12 = .ok (.lload_n 0, 1) := by decide +kernel
theorem d3_13 : decode jdk_35_method_24_code 13 = .ok (.ldc2_w 232, 3) := by decide +kernel
theorem d3_16 : decode jdk_35_method_24_code 16 = .ok (.lcmp, 1) := by decide +kernel
theorem d3_17 : decode jdk_35_method_24_code 17 = .ok (.ifCond .gt 14, 3) := by decide +kernel
theorem d3_20 : decode jdk_35_method_24_code 20 = .ok (.getstatic 234, 3) := by decide +kernel
theorem d3_23 : decode jdk_35_method_24_code 23 = .ok (.lload_n 0, 1) := by decide +kernel
theorem d3_24 : decode jdk_35_method_24_code 24 = .ok (.l2i, 1) := by decide +kernel
theorem d3_25 : decode jdk_35_method_24_code 25 = .ok (.sipush 128, 3) := by decide +kernel
theorem d3_28 : decode jdk_35_method_24_code 28 = .ok (.iadd, 1) := by decide +kernel
theorem d3_29 : decode jdk_35_method_24_code 29 = .ok (.aaload, 1) := by decide +kernel
theorem d3_30 : decode jdk_35_method_24_code 30 = .ok (.areturn, 1) := by decide +kernel
theorem d3_31 : decode jdk_35_method_24_code 31 = .ok (.new 1, 3) := by decide +kernel
theorem d3_34 : decode jdk_35_method_24_code 34 = .ok (.dup, 1) := by decide +kernel
theorem d3_35 : decode jdk_35_method_24_code 35 = .ok (.lload_n 0, 1) := by decide +kernel
theorem d3_36 : decode jdk_35_method_24_code 36 = .ok (.invokespecial 240, 3) := by decide +kernel
theorem d3_39 : decode jdk_35_method_24_code 39 = .ok (.areturn, 1) := by decide +kernel
theorem ef_3 (m : MethodId) (x0 : Int64) : entryFrame m #[(.long x0)] 3 = mkF m 0 #[.val (.long x0), .second, .unset] [] := by first | (simp [entryFrame, mkF, argsToLocals, Value.category]; done) | rfl
def Q3 (Z : State) (u : Int64) (ca : Addr) (h0 : Heap) (n0 : Nat) (v : Option Value) (h : Heap) (L : List Loc) : Prop := ∃ (b : Addr), v = some (.ref b) ∧ Fr n0 L ∧ Keep h0 h [] ∧ (Exa Z h b "java/lang/Long")
set_option maxRecDepth 65536 in
set_option maxHeartbeats 40000000 in
theorem rm3 (l : Launch) (Z : State) (a0 : Array Value) (hw : ∀ d ∈ tables_1, d.before a0 Z = true) (ws : List Jvm.Cond) (u : Int64) (ca : Addr) (h0 : Heap) (n0 : Nat) (Z0 : n0 ≤ h0.size) (P0 : Sta Z h0 "java/lang/Long$LongCache" "cache" "[Ljava/lang/Long;" (.ref ca)) (hca : own_cache Z h0 ca) :
    MetFree l (⟨"java/lang/Long", "valueOf", "(J)Ljava/lang/Long;"⟩ : MethodName) (head1 (Jvm.Cond.code (⟨"java/lang/Long", "valueOf", "(J)Ljava/lang/Long;"⟩ : MethodName) jdk_35_method_24_code 3 (some (.object "java/lang/Long")) :: ws) ({ frames := 3, cells := 1, slots := 1, locals := 39 } : Room)) (fun zz U => zz = #[(.long u)] ∧ Z.Warmed39 U.vm ∧ U.heap = h0) (fun _ _ _ _ _ => True) (fun _ U o U' => ∃ v L, o = .returned v ∧ Q3 Z u ca h0 n0 v U'.heap L ∧ FrameEnd U o U' L ({ frames := 3, cells := 1, slots := 1, locals := 39 } : Room).cells ({ frames := 3, cells := 1, slots := 1, locals := 39 } : Room).slots) := by
  refine MetFree.of_bodySF (plainFor_of_name pn_java_lang_Long) hisR ?_
  intro p e s m args below meth c s₁ Bd hml0 hP hK
  obtain ⟨rfl, hZ, hh⟩ := hP
  have hx := Bd.exec
  have hby := Bd.bytes
  have hml : c.maxLocals = 3 := hml0
  have hown : s.vm.findClass "java/lang/Long" = some m.cls := findClass_of_methodNamed Bd.named
  have hnm := (name_of_methodNamed Bd.named Bd.method).1
  have X0 : Stand p l e ({ frames := 3, cells := 1, slots := 1, locals := 39 } : Room) s m #[(.long u)] below meth c s₁ [] 0 0 := Stand.of_body Bd
  have e0 : s₁.heap = h0 := by rw [← hh, Bd.state]; rfl
  have N0 := Fr.nil n0
  have K0 : Keep h0 h0 [] := Keep.refl _ _
  have G : Gets p e below (s₁.setTop (entryFrame m #[(.long u)] 3)) (s₁.setTop (mkF m 0 #[.val (.long u), .second, .unset] [])) := fun t k => castTop (ef_3 m u) k
  replace G := own_sipush (q := 3) G X0.here hx (hb hby d3_0) (v := (128 : Int32)) (by decide) rfl
  replace G := own_istoreN (q := 4) (l' := #[.val (.long u), .second, .val (.int (128 : Int32))]) G X0.here hx (hb hby d3_3) rfl rfl
  replace G := own_lloadN (q := 5) G X0.here hx (hb hby d3_4) rfl rfl
  replace G : Gets p e below _ (s₁.setTop (mkF m 8 #[.val (.long u), .second, .val (.int (128 : Int32))] [(.long (-128 : Int64)), (.long u)])) := fun t k => G t (X0.ldc2Long hx hown (mvT hZ (hw _ (List.mem_of_getElem? (i := 17) rfl))) (g := (mkF m 5 #[.val (.long u), .second, .val (.int (128 : Int32))] [(.long u)])) rfl (hb hby d3_5) t k)
  replace G := own_lcmp (q := 9) G X0.here hx (hb hby d3_8) rfl
  by_cases hc9_1 : u < (-128 : Int64)
  · replace G := own_ifYes (q := 31) G X0.here hx (hb hby d3_9) ((if0 _ _).trans (tlt ((lw_lt _ _).mpr hc9_1)).1) (by decide) (by decide)
    obtain ⟨T2, h2, X2, e2, E2, A2, D2, -, st2⟩ := newO X0 hx hZ hown (hw _ (List.mem_of_getElem? (i := 30) rfl)) (hw _ (List.mem_of_getElem? (i := 31) rfl)) (hw _ (List.mem_of_getElem? (i := 15) rfl)) e0 (g := (mkF m 31 #[.val (.long u), .second, .val (.int (128 : Int32))] [])) rfl (hb hby d3_31) (by decide) (by decide)
    obtain ⟨b2, g2⟩ : ∃ z, z = h0.size := ⟨_, rfl⟩
    rw [← g2] at A2 D2 st2
    have ge_b2 : n0 ≤ b2 := Nat.le_trans Z0 (Nat.le_of_eq g2.symm)
    have sz_b2 : h0.size ≤ b2 := Nat.le_trans K0.1 (Nat.le_of_eq g2.symm)
    have Z2 : n0 ≤ h2.size := Nat.le_trans Z0 E2.1
    have K2 : Keep h0 h2 [] := K0.ext E2
    have F2_value : Fld Z h2 b2 "java/lang/Long" "value" "J" (.long (0 : Int64)) := D2 (Or.inr (hw _ (List.mem_of_getElem? (i := 44) rfl))) (ty := .long) (by decide)
    replace G : Gets p e below _ (T2.setTop (mkF m 34 #[.val (.long u), .second, .val (.int (128 : Int32))] [(.ref b2)])) := fun t k => G t (st2 t k)
    replace G := own_dup (q := 35) G X2.here hx (hb hby d3_34) rfl rfl
    replace G := own_lloadN (q := 36) G X2.here hx (hb hby d3_35) rfl rfl
    obtain ⟨_, _, ⟨T3, L3, kk3, nn3⟩, -, X3, ⟨Lc3, hQ3, l3, y3, z3⟩, st3⟩ := X2.specialBack hx (y := (⟨"java/lang/Long", "<init>", "(J)V"⟩ : MethodName)) rfl hown (mvT hZ (hw _ (List.mem_of_getElem? (i := 32) rfl))) (mvT hZ (hw _ (List.mem_of_getElem? (i := 33) rfl))) (mvT hZ (hw _ (List.mem_of_getElem? (i := 35) rfl))) (by decide) (backOf (W := 1) (rm5 l Z a0 hw [] b2 u h2 n0 Z2 F2_value A2 ge_b2) hZ (hw _ (List.mem_of_getElem? (i := 35) rfl)) (hw _ (List.mem_of_getElem? (i := 15) rfl)) (by decide) (by decide)) (g := (mkF m 36 #[.val (.long u), .second, .val (.int (128 : Int32))] [(.long u), (.ref b2), (.ref b2)])) rfl (by rw [hml]; rfl) (Steps.refl _) (a := b2) (argsL := [(.long u)]) (rest := [(.ref b2)]) (lenOf pd_1 rfl) rfl (by show 2 * 0 + _ ≤ _; exact Nat.le_of_eq rfl) (hb hby d3_36) (fun _ _ => ⟨rfl, e2, (by decide : 1 + 0 ≤ _), (by decide : 1 + 0 ≤ _)⟩)
    dsimp only [Pt.U, Pt.locs, Pt.cells, Pt.slots] at X3 l3 y3 z3 st3 hQ3
    subst l3 y3 z3
    obtain ⟨rfl, N3q, K3q⟩ := hQ3
    have Z3 : n0 ≤ T3.heap.size := Nat.le_trans Z2 K3q.1
    have K3 : Keep h0 T3.heap [] := K2.trans K3q (allS (Or.inr sz_b2) all0)
    have N3 := Fr.app N0 N3q
    replace G : Gets p e below _ (T3.setTop (mkF m 39 #[.val (.long u), .second, .val (.int (128 : Int32))] [(.ref b2)])) := fun t k => G t (st3.trans k)
    obtain ⟨fs, hr, hrun, hended, hW, hsame⟩ := X3.leave (v := some (.ref b2)) (fun h => by rw [Bd.returns] at h; cases h)
    refine ⟨_, _, G _ (retOut X3 hx Bd.returns rfl (Or.inr (Or.inr (Or.inr (Or.inr ⟨rfl, rfl, rfl⟩)))) (hb hby d3_39) hr), hrun, hended, _, _, rfl, ?_, ⟨_, rfl⟩, hW, hsame.mono (by decide) (by decide)⟩
    have F4 : Exa Z T3.heap b2 "java/lang/Long" := (A2.keep K3q)
    show Q3 Z u ca h0 n0 _ T3.heap _
    exact ⟨b2, rfl, N3, K3, F4⟩
  · replace G := own_ifNo (q := 12) G X0.here hx (hb hby d3_9) ((if0 _ _).trans (flt (fun z => hc9_1 ((lw_lt _ _).mp z))).1) rfl
    replace G := own_lloadN (q := 13) G X0.here hx (hb hby d3_12) rfl rfl
    replace G : Gets p e below _ (s₁.setTop (mkF m 16 #[.val (.long u), .second, .val (.int (128 : Int32))] [(.long (127 : Int64)), (.long u)])) := fun t k => G t (X0.ldc2Long hx hown (mvT hZ (hw _ (List.mem_of_getElem? (i := 18) rfl))) (g := (mkF m 13 #[.val (.long u), .second, .val (.int (128 : Int32))] [(.long u)])) rfl (hb hby d3_13) t k)
    replace G := own_lcmp (q := 17) G X0.here hx (hb hby d3_16) rfl
    by_cases hc17_5 : (127 : Int64) < u
    · replace G := own_ifYes (q := 31) G X0.here hx (hb hby d3_17) ((if0 _ _).trans (tlt ((lw_gt _ _).mpr hc17_5)).2.2.1) (by decide) (by decide)
      obtain ⟨T6, h6, X6, e6, E6, A6, D6, -, st6⟩ := newO X0 hx hZ hown (hw _ (List.mem_of_getElem? (i := 30) rfl)) (hw _ (List.mem_of_getElem? (i := 31) rfl)) (hw _ (List.mem_of_getElem? (i := 15) rfl)) e0 (g := (mkF m 31 #[.val (.long u), .second, .val (.int (128 : Int32))] [])) rfl (hb hby d3_31) (by decide) (by decide)
      obtain ⟨b6, g6⟩ : ∃ z, z = h0.size := ⟨_, rfl⟩
      rw [← g6] at A6 D6 st6
      have ge_b6 : n0 ≤ b6 := Nat.le_trans Z0 (Nat.le_of_eq g6.symm)
      have sz_b6 : h0.size ≤ b6 := Nat.le_trans K0.1 (Nat.le_of_eq g6.symm)
      have Z6 : n0 ≤ h6.size := Nat.le_trans Z0 E6.1
      have K6 : Keep h0 h6 [] := K0.ext E6
      have F6_value : Fld Z h6 b6 "java/lang/Long" "value" "J" (.long (0 : Int64)) := D6 (Or.inr (hw _ (List.mem_of_getElem? (i := 44) rfl))) (ty := .long) (by decide)
      replace G : Gets p e below _ (T6.setTop (mkF m 34 #[.val (.long u), .second, .val (.int (128 : Int32))] [(.ref b6)])) := fun t k => G t (st6 t k)
      replace G := own_dup (q := 35) G X6.here hx (hb hby d3_34) rfl rfl
      replace G := own_lloadN (q := 36) G X6.here hx (hb hby d3_35) rfl rfl
      obtain ⟨_, _, ⟨T7, L7, kk7, nn7⟩, -, X7, ⟨Lc7, hQ7, l7, y7, z7⟩, st7⟩ := X6.specialBack hx (y := (⟨"java/lang/Long", "<init>", "(J)V"⟩ : MethodName)) rfl hown (mvT hZ (hw _ (List.mem_of_getElem? (i := 32) rfl))) (mvT hZ (hw _ (List.mem_of_getElem? (i := 33) rfl))) (mvT hZ (hw _ (List.mem_of_getElem? (i := 35) rfl))) (by decide) (backOf (W := 1) (rm5 l Z a0 hw [] b6 u h6 n0 Z6 F6_value A6 ge_b6) hZ (hw _ (List.mem_of_getElem? (i := 35) rfl)) (hw _ (List.mem_of_getElem? (i := 15) rfl)) (by decide) (by decide)) (g := (mkF m 36 #[.val (.long u), .second, .val (.int (128 : Int32))] [(.long u), (.ref b6), (.ref b6)])) rfl (by rw [hml]; rfl) (Steps.refl _) (a := b6) (argsL := [(.long u)]) (rest := [(.ref b6)]) (lenOf pd_1 rfl) rfl (by show 2 * 0 + _ ≤ _; exact Nat.le_of_eq rfl) (hb hby d3_36) (fun _ _ => ⟨rfl, e6, (by decide : 1 + 0 ≤ _), (by decide : 1 + 0 ≤ _)⟩)
      dsimp only [Pt.U, Pt.locs, Pt.cells, Pt.slots] at X7 l7 y7 z7 st7 hQ7
      subst l7 y7 z7
      obtain ⟨rfl, N7q, K7q⟩ := hQ7
      have Z7 : n0 ≤ T7.heap.size := Nat.le_trans Z6 K7q.1
      have K7 : Keep h0 T7.heap [] := K6.trans K7q (allS (Or.inr sz_b6) all0)
      have N7 := Fr.app N0 N7q
      replace G : Gets p e below _ (T7.setTop (mkF m 39 #[.val (.long u), .second, .val (.int (128 : Int32))] [(.ref b6)])) := fun t k => G t (st7.trans k)
      obtain ⟨fs, hr, hrun, hended, hW, hsame⟩ := X7.leave (v := some (.ref b6)) (fun h => by rw [Bd.returns] at h; cases h)
      refine ⟨_, _, G _ (retOut X7 hx Bd.returns rfl (Or.inr (Or.inr (Or.inr (Or.inr ⟨rfl, rfl, rfl⟩)))) (hb hby d3_39) hr), hrun, hended, _, _, rfl, ?_, ⟨_, rfl⟩, hW, hsame.mono (by decide) (by decide)⟩
      have F8 : Exa Z T7.heap b6 "java/lang/Long" := (A6.keep K7q)
      show Q3 Z u ca h0 n0 _ T7.heap _
      exact ⟨b6, rfl, N7, K7, F8⟩
    · replace G := own_ifNo (q := 20) G X0.here hx (hb hby d3_17) ((if0 _ _).trans (flt (fun z => hc17_5 ((lw_gt _ _).mp z))).2.2.1) rfl
      obtain ⟨T9, X9, e9, st9⟩ := getS2 X0 hx hZ hown (host := "") (Or.inl (hw _ (List.mem_of_getElem? (i := 19) rfl))) Via.refl e0 P0 (g := (mkF m 20 #[.val (.long u), .second, .val (.int (128 : Int32))] [])) rfl (hb hby d3_20)
      replace G : Gets p e below _ (T9.setTop (mkF m 23 #[.val (.long u), .second, .val (.int (128 : Int32))] [(.ref ca)])) := fun t k => G t (st9 t k)
      replace G := own_lloadN (q := 24) G X9.here hx (hb hby d3_23) rfl rfl
      replace G := own_l2i (q := 25) G X9.here hx (hb hby d3_24) rfl rfl
      replace G := own_sipush (q := 28) G X9.here hx (hb hby d3_25) (v := (128 : Int32)) (by decide) rfl
      replace G := own_iadd (q := 29) G X9.here hx (hb hby d3_28) rfl rfl
      have kj := own_lidx hc9_1 hc17_5
      obtain ⟨cl, Acl, Scl, Fcl⟩ := hca
      obtain ⟨bb, hbb, Ebb⟩ := Fcl ((u.toInt32) + (128 : Int32)) kj.1 kj.2
      have hinj : ¬ (((u.toInt32) + (128 : Int32)) < 0 ∨ cl.slots.size ≤ (((u.toInt32) + (128 : Int32))).toNatClampNeg) := by
        rw [Scl, own_lt32]
        have : (0 : Int32).toInt = 0 := rfl
        simp only [Int32.toNatClampNeg]
        omega
      replace G : Gets p e below _ (T9.setTop (mkF m 30 #[.val (.long u), .second, .val (.int (128 : Int32))] [(.ref bb)])) := fun t k => G t (X9.aaload hx (j := ((u.toInt32) + (128 : Int32))) (v := (.ref bb)) (by rw [e9]; exact Acl.1) (State.isArrayOf_alike hZ.alike Acl.2.1) rfl Acl.2.2 hinj hbb (g := (mkF m 29 #[.val (.long u), .second, .val (.int (128 : Int32))] [(.int ((u.toInt32) + (128 : Int32))), (.ref ca)])) rfl rfl (hb hby d3_29) t k)
      obtain ⟨fs, hr, hrun, hended, hW, hsame⟩ := X9.leave (v := some (.ref bb)) (fun h => by rw [Bd.returns] at h; cases h)
      refine ⟨_, _, G _ (retOut X9 hx Bd.returns rfl (Or.inr (Or.inr (Or.inr (Or.inr ⟨rfl, rfl, rfl⟩)))) (hb hby d3_30) hr), hrun, hended, _, _, rfl, ?_, ⟨_, rfl⟩, hW, hsame.mono (by decide) (by decide)⟩
      show Q3 Z u ca h0 n0 _ T9.heap _
      rw [e9]
      exact ⟨bb, rfl, N0, K0, Ebb⟩
theorem d4_0 : decode prog_20_method_4_code 0 = .ok (.aload_n 0, 1) := by decide +kernel
theorem d4_1 : decode prog_20_method_4_code 1 = .ok (.aload_n 1, 1) := by decide +kernel
theorem d4_2 : decode prog_20_method_4_code 2 = .ok (.if_acmp .ne 5, 3) := by decide +kernel
theorem d4_5 : decode prog_20_method_4_code 5 = .ok (.iconst 1, 1) := by decide +kernel
theorem d4_6 : decode prog_20_method_4_code 6 = .ok (.ireturn, 1) := by decide +kernel
theorem ef_4s (m : MethodId) (x0 : Addr) (x1 : Addr) : entryFrame m #[(.ref x0), (.ref x1)] 3 = mkF m 0 #[.val (.ref x0), .val (.ref x1), .unset] [] := by first | (simp [entryFrame, mkF, argsToLocals, Value.category]; done) | rfl
def Q4s (Z : State) (a : Addr) (h0 : Heap) (n0 : Nat) (v : Option Value) (h : Heap) (L : List Loc) : Prop := v = some (.int (1 : Int32)) ∧ Fr n0 L ∧ h = h0
set_option maxRecDepth 65536 in
set_option maxHeartbeats 40000000 in
theorem rm4s (l : Launch) (Z : State) (a0 : Array Value) (hw : ∀ d ∈ tables_1, d.before a0 Z = true) (ws : List Jvm.Cond) (a : Addr) (h0 : Heap) (n0 : Nat) (Z0 : n0 ≤ h0.size)  :
    MetFree l (⟨"com/example/cheapside/cheapside/core/StoredValue", "equals", "(Ljava/lang/Object;)Z"⟩ : MethodName) (head1 (Jvm.Cond.code (⟨"com/example/cheapside/cheapside/core/StoredValue", "equals", "(Ljava/lang/Object;)Z"⟩ : MethodName) prog_20_method_4_code 3 (some .boolean) :: ws) ({ frames := 0, cells := 0, slots := 0, locals := 0 } : Room)) (fun zz U => zz = #[(.ref a), (.ref a)] ∧ Z.Warmed39 U.vm ∧ U.heap = h0) (fun _ _ _ _ _ => True) (fun _ U o U' => ∃ v L, o = .returned v ∧ Q4s Z a h0 n0 v U'.heap L ∧ FrameEnd U o U' L ({ frames := 0, cells := 0, slots := 0, locals := 0 } : Room).cells ({ frames := 0, cells := 0, slots := 0, locals := 0 } : Room).slots) := by
  refine MetFree.of_bodySF (plainFor_of_name pn_com_example_cheapside_cheapside_core_StoredValue) hisR ?_
  intro p e s m args below meth c s₁ Bd hml0 hP hK
  obtain ⟨rfl, hZ, hh⟩ := hP
  have hx := Bd.exec
  have hby := Bd.bytes
  have hml : c.maxLocals = 3 := hml0
  have hown : s.vm.findClass "com/example/cheapside/cheapside/core/StoredValue" = some m.cls := findClass_of_methodNamed Bd.named
  have hnm := (name_of_methodNamed Bd.named Bd.method).1
  have X0 : Stand p l e ({ frames := 0, cells := 0, slots := 0, locals := 0 } : Room) s m #[(.ref a), (.ref a)] below meth c s₁ [] 0 0 := Stand.of_body Bd
  have e0 : s₁.heap = h0 := by rw [← hh, Bd.state]; rfl
  have N0 := Fr.nil n0
  have G : Gets p e below (s₁.setTop (entryFrame m #[(.ref a), (.ref a)] 3)) (s₁.setTop (mkF m 0 #[.val (.ref a), .val (.ref a), .unset] [])) := fun t k => castTop (ef_4s m a a) k
  replace G := own_aloadN (q := 1) G X0.here hx (hb hby d4_0) rfl rfl rfl
  replace G := own_aloadN (q := 2) G X0.here hx (hb hby d4_1) rfl rfl rfl
  replace G : Gets p e below _ (s₁.setTop (mkF m 5 #[.val (.ref a), .val (.ref a), .unset] [])) := fun t k => G t (Jvm.RoadKit.acmp (g := (mkF m 2 #[.val (.ref a), .val (.ref a), .unset] [(.ref a), (.ref a)])) X0 hx rfl rfl rfl (pc0 := 2) (pc' := 5) (same := true) rfl (hb hby d4_2) rfl (decide_eq_true rfl) (by decide) (by decide) k)
  replace G := own_iconst (q := 6) G X0.here hx (hb hby d4_5) (v := (1 : Int32)) (by decide) rfl
  obtain ⟨fs, hr, hrun, hended, hW, hsame⟩ := X0.leave (v := some (.int (1 : Int32))) (fun h => by rw [Bd.returns] at h; cases h)
  refine ⟨_, _, G _ (retOut X0 hx Bd.returns rfl (Or.inl ⟨rfl, Or.inr (Or.inl rfl), _, rfl⟩) (hb hby d4_6) hr), hrun, hended, _, _, rfl, ?_, ⟨_, rfl⟩, hW, hsame.mono (by decide) (by decide)⟩
  show Q4s Z a h0 n0 _ s₁.heap _
  rw [e0]
  exact ⟨rfl, N0, rfl⟩
theorem d4_7 : decode prog_20_method_4_code 7 = .ok (.aload_n 1, 1) := by decide +kernel
theorem d4_8 : decode prog_20_method_4_code 8 = .ok (.instanceof 8, 3) := by decide +kernel
theorem d4_11 : decode prog_20_method_4_code 11 = .ok (.ifCond .ne 5, 3) := by decide +kernel
theorem d4_14 : decode prog_20_method_4_code 14 = .ok (.iconst 0, 1) := by decide +kernel
theorem d4_15 : decode prog_20_method_4_code 15 = .ok (.ireturn, 1) := by decide +kernel
theorem ef_4n (m : MethodId) (x0 : Addr) : entryFrame m #[(.ref x0), .null] 3 = mkF m 0 #[.val (.ref x0), .val .null, .unset] [] := by first | (simp [entryFrame, mkF, argsToLocals, Value.category]; done) | rfl
def Q4n (Z : State) (a : Addr) (h0 : Heap) (n0 : Nat) (v : Option Value) (h : Heap) (L : List Loc) : Prop := v = some (.int (0 : Int32)) ∧ Fr n0 L ∧ h = h0
set_option maxRecDepth 65536 in
set_option maxHeartbeats 40000000 in
theorem rm4n (l : Launch) (Z : State) (a0 : Array Value) (hw : ∀ d ∈ tables_1, d.before a0 Z = true) (ws : List Jvm.Cond) (a : Addr) (h0 : Heap) (n0 : Nat) (Z0 : n0 ≤ h0.size)  :
    MetFree l (⟨"com/example/cheapside/cheapside/core/StoredValue", "equals", "(Ljava/lang/Object;)Z"⟩ : MethodName) (head1 (Jvm.Cond.code (⟨"com/example/cheapside/cheapside/core/StoredValue", "equals", "(Ljava/lang/Object;)Z"⟩ : MethodName) prog_20_method_4_code 3 (some .boolean) :: ws) ({ frames := 0, cells := 0, slots := 0, locals := 0 } : Room)) (fun zz U => zz = #[(.ref a), .null] ∧ Z.Warmed39 U.vm ∧ U.heap = h0) (fun _ _ _ _ _ => True) (fun _ U o U' => ∃ v L, o = .returned v ∧ Q4n Z a h0 n0 v U'.heap L ∧ FrameEnd U o U' L ({ frames := 0, cells := 0, slots := 0, locals := 0 } : Room).cells ({ frames := 0, cells := 0, slots := 0, locals := 0 } : Room).slots) := by
  refine MetFree.of_bodySF (plainFor_of_name pn_com_example_cheapside_cheapside_core_StoredValue) hisR ?_
  intro p e s m args below meth c s₁ Bd hml0 hP hK
  obtain ⟨rfl, hZ, hh⟩ := hP
  have hx := Bd.exec
  have hby := Bd.bytes
  have hml : c.maxLocals = 3 := hml0
  have hown : s.vm.findClass "com/example/cheapside/cheapside/core/StoredValue" = some m.cls := findClass_of_methodNamed Bd.named
  have hnm := (name_of_methodNamed Bd.named Bd.method).1
  have X0 : Stand p l e ({ frames := 0, cells := 0, slots := 0, locals := 0 } : Room) s m #[(.ref a), .null] below meth c s₁ [] 0 0 := Stand.of_body Bd
  have e0 : s₁.heap = h0 := by rw [← hh, Bd.state]; rfl
  have N0 := Fr.nil n0
  have G : Gets p e below (s₁.setTop (entryFrame m #[(.ref a), .null] 3)) (s₁.setTop (mkF m 0 #[.val (.ref a), .val .null, .unset] [])) := fun t k => castTop (ef_4n m a) k
  replace G := own_aloadN (q := 1) G X0.here hx (hb hby d4_0) rfl rfl rfl
  replace G := own_aloadN (q := 2) G X0.here hx (hb hby d4_1) rfl rfl rfl
  replace G : Gets p e below _ (s₁.setTop (mkF m 7 #[.val (.ref a), .val .null, .unset] [])) := fun t k => G t (Jvm.RoadKit.acmp (g := (mkF m 2 #[.val (.ref a), .val .null, .unset] [.null, (.ref a)])) X0 hx rfl rfl rfl (pc0 := 2) (pc' := 7) (same := false) rfl (hb hby d4_2) rfl (decide_eq_false nofun) (by decide) (by decide) k)
  replace G := own_aloadN (q := 8) G X0.here hx (hb hby d4_7) rfl rfl rfl
  replace G : Gets p e below _ (s₁.setTop (mkF m 11 #[.val (.ref a), .val .null, .unset] [(.int (0 : Int32))])) := fun t k => G t (X0.instanceofNull hx (g := (mkF m 8 #[.val (.ref a), .val .null, .unset] [.null])) rfl rfl (hb hby d4_8) t k)
  have hc11_1 : (0 : Int32) = (0 : Int32) := by decide
  replace G := own_ifNo (q := 14) G X0.here hx (hb hby d4_11) ((if0 _ _).trans (teq hc11_1).2) rfl
  replace G := own_iconst (q := 15) G X0.here hx (hb hby d4_14) (v := (0 : Int32)) (by decide) rfl
  obtain ⟨fs, hr, hrun, hended, hW, hsame⟩ := X0.leave (v := some (.int (0 : Int32))) (fun h => by rw [Bd.returns] at h; cases h)
  refine ⟨_, _, G _ (retOut X0 hx Bd.returns rfl (Or.inl ⟨rfl, Or.inr (Or.inl rfl), _, rfl⟩) (hb hby d4_15) hr), hrun, hended, _, _, rfl, ?_, ⟨_, rfl⟩, hW, hsame.mono (by decide) (by decide)⟩
  show Q4n Z a h0 n0 _ s₁.heap _
  rw [e0]
  exact ⟨rfl, N0, rfl⟩
theorem d4_16 : decode prog_20_method_4_code 16 = .ok (.aload_n 1, 1) := by decide +kernel
theorem d4_17 : decode prog_20_method_4_code 17 = .ok (.checkcast 8, 3) := by decide +kernel
theorem d4_20 : decode prog_20_method_4_code 20 = .ok (.astore_n 2, 1) := by decide +kernel
theorem d4_21 : decode prog_20_method_4_code 21 = .ok (.aload_n 0, 1) := by decide +kernel
theorem d4_22 : decode prog_20_method_4_code 22 = .ok (.getfield 7, 3) := by decide +kernel
theorem d4_25 : decode prog_20_method_4_code 25 = .ok (.aload_n 2, 1) := by decide +kernel
theorem d4_26 : decode prog_20_method_4_code 26 = .ok (.getfield 7, 3) := by decide +kernel
theorem d4_29 : decode prog_20_method_4_code 29 = .ok (.lcmp, 1) := by decide +kernel
theorem d4_30 : decode prog_20_method_4_code 30 = .ok (.ifCond .ne 19, 3) := by decide +kernel
theorem d4_33 : decode prog_20_method_4_code 33 = .ok (.aload_n 0, 1) := by decide +kernel
theorem d4_34 : decode prog_20_method_4_code 34 = .ok (.getfield 13, 3) := by decide +kernel
theorem d4_37 : decode prog_20_method_4_code 37 = .ok (.aload_n 2, 1) := by decide +kernel
theorem d4_38 : decode prog_20_method_4_code 38 = .ok (.getfield 13, 3) := by decide +kernel
theorem d4_41 : decode prog_20_method_4_code 41 = .ok (.lcmp, 1) := by decide +kernel
theorem d4_42 : decode prog_20_method_4_code 42 = .ok (.ifCond .ne 7, 3) := by decide +kernel
theorem d4_45 : decode prog_20_method_4_code 45 = .ok (.iconst 1, 1) := by decide +kernel
theorem d4_46 : decode prog_20_method_4_code 46 = .ok (.goto 4, 3) := by decide +kernel
theorem d4_49 : decode prog_20_method_4_code 49 = .ok (.iconst 0, 1) := by decide +kernel
theorem d4_50 : decode prog_20_method_4_code 50 = .ok (.ireturn, 1) := by decide +kernel
theorem ef_4y (m : MethodId) (x0 : Addr) (x1 : Addr) : entryFrame m #[(.ref x0), (.ref x1)] 3 = mkF m 0 #[.val (.ref x0), .val (.ref x1), .unset] [] := by first | (simp [entryFrame, mkF, argsToLocals, Value.category]; done) | rfl
def Q4y (Z : State) (a : Addr) (d : Addr) (u : Int64) (w : Int64) (u2 : Int64) (w2 : Int64) (h0 : Heap) (n0 : Nat) (v : Option Value) (h : Heap) (L : List Loc) : Prop := v = some (.int (own_eqv u w u2 w2)) ∧ Fr n0 L ∧ h = h0
set_option maxRecDepth 65536 in
set_option maxHeartbeats 40000000 in
theorem rm4y (l : Launch) (Z : State) (a0 : Array Value) (hw : ∀ d ∈ tables_1, d.before a0 Z = true) (ws : List Jvm.Cond) (a : Addr) (d : Addr) (u : Int64) (w : Int64) (u2 : Int64) (w2 : Int64) (h0 : Heap) (n0 : Nat) (Z0 : n0 ≤ h0.size) (P0 : Fld Z h0 a "com/example/cheapside/cheapside/core/StoredValue" "value" "J" (.long u)) (P1 : Fld Z h0 a "com/example/cheapside/cheapside/core/StoredValue" "writtenThrough" "J" (.long w)) (P2 : Fld Z h0 d "com/example/cheapside/cheapside/core/StoredValue" "value" "J" (.long u2)) (P3 : Fld Z h0 d "com/example/cheapside/cheapside/core/StoredValue" "writtenThrough" "J" (.long w2)) (P4 : Exa Z h0 d "com/example/cheapside/cheapside/core/StoredValue") (P5 : a ≠ d) :
    MetFree l (⟨"com/example/cheapside/cheapside/core/StoredValue", "equals", "(Ljava/lang/Object;)Z"⟩ : MethodName) (head1 (Jvm.Cond.code (⟨"com/example/cheapside/cheapside/core/StoredValue", "equals", "(Ljava/lang/Object;)Z"⟩ : MethodName) prog_20_method_4_code 3 (some .boolean) :: ws) ({ frames := 0, cells := 0, slots := 0, locals := 0 } : Room)) (fun zz U => zz = #[(.ref a), (.ref d)] ∧ Z.Warmed39 U.vm ∧ U.heap = h0) (fun _ _ _ _ _ => True) (fun _ U o U' => ∃ v L, o = .returned v ∧ Q4y Z a d u w u2 w2 h0 n0 v U'.heap L ∧ FrameEnd U o U' L ({ frames := 0, cells := 0, slots := 0, locals := 0 } : Room).cells ({ frames := 0, cells := 0, slots := 0, locals := 0 } : Room).slots) := by
  refine MetFree.of_bodySF (plainFor_of_name pn_com_example_cheapside_cheapside_core_StoredValue) hisR ?_
  intro p e s m args below meth c s₁ Bd hml0 hP hK
  obtain ⟨rfl, hZ, hh⟩ := hP
  have hx := Bd.exec
  have hby := Bd.bytes
  have hml : c.maxLocals = 3 := hml0
  have hown : s.vm.findClass "com/example/cheapside/cheapside/core/StoredValue" = some m.cls := findClass_of_methodNamed Bd.named
  have hnm := (name_of_methodNamed Bd.named Bd.method).1
  have X0 : Stand p l e ({ frames := 0, cells := 0, slots := 0, locals := 0 } : Room) s m #[(.ref a), (.ref d)] below meth c s₁ [] 0 0 := Stand.of_body Bd
  have e0 : s₁.heap = h0 := by rw [← hh, Bd.state]; rfl
  have N0 := Fr.nil n0
  have G : Gets p e below (s₁.setTop (entryFrame m #[(.ref a), (.ref d)] 3)) (s₁.setTop (mkF m 0 #[.val (.ref a), .val (.ref d), .unset] [])) := fun t k => castTop (ef_4y m a d) k
  replace G := own_aloadN (q := 1) G X0.here hx (hb hby d4_0) rfl rfl rfl
  replace G := own_aloadN (q := 2) G X0.here hx (hb hby d4_1) rfl rfl rfl
  replace G : Gets p e below _ (s₁.setTop (mkF m 7 #[.val (.ref a), .val (.ref d), .unset] [])) := fun t k => G t (Jvm.RoadKit.acmp (g := (mkF m 2 #[.val (.ref a), .val (.ref d), .unset] [(.ref d), (.ref a)])) X0 hx rfl rfl rfl (pc0 := 2) (pc' := 7) (same := false) rfl (hb hby d4_2) rfl (decide_eq_false fun q => P5 (Value.ref.inj q)) (by decide) (by decide) k)
  replace G := own_aloadN (q := 8) G X0.here hx (hb hby d4_7) rfl rfl rfl
  obtain ⟨T1, X1, e1, st1⟩ := instY X0 hx hZ hown (hw _ (List.mem_of_getElem? (i := 26) rfl)) e0 (Ins.self P4) (g := (mkF m 8 #[.val (.ref a), .val (.ref d), .unset] [(.ref d)])) rfl rfl (hb hby d4_8)
  replace G : Gets p e below _ (T1.setTop (mkF m 11 #[.val (.ref a), .val (.ref d), .unset] [(.int (1 : Int32))])) := fun t k => G t (st1 t k)
  have hc11_2 : ¬ ((1 : Int32) = (0 : Int32)) := by decide
  replace G := own_ifYes (q := 16) G X1.here hx (hb hby d4_11) ((if0 _ _).trans (feq hc11_2).2) (by decide) (by decide)
  replace G := own_aloadN (q := 17) G X1.here hx (hb hby d4_16) rfl rfl rfl
  obtain ⟨T3, X3, e3, st3⟩ := castY X1 hx hZ hown (hw _ (List.mem_of_getElem? (i := 26) rfl)) e1 (Ins.self P4) (g := (mkF m 17 #[.val (.ref a), .val (.ref d), .unset] [(.ref d)])) rfl rfl (hb hby d4_17)
  replace G : Gets p e below _ (T3.setTop (mkF m 20 #[.val (.ref a), .val (.ref d), .unset] [(.ref d)])) := fun t k => G t (st3 t k)
  replace G := own_astoreN (q := 21) (l' := #[.val (.ref a), .val (.ref d), .val (.ref d)]) G X3.here hx (hb hby d4_20) rfl rfl rfl
  replace G := own_aloadN (q := 22) G X3.here hx (hb hby d4_21) rfl rfl rfl
  obtain ⟨T4, X4, e4, st4⟩ := getF X3 hx hZ hown (host := "") (Or.inl (hw _ (List.mem_of_getElem? (i := 9) rfl))) Via.refl e3 P0 (g := (mkF m 22 #[.val (.ref a), .val (.ref d), .val (.ref d)] [(.ref a)])) rfl rfl (hb hby d4_22)
  replace G : Gets p e below _ (T4.setTop (mkF m 25 #[.val (.ref a), .val (.ref d), .val (.ref d)] [(.long u)])) := fun t k => G t (st4 t k)
  replace G := own_aloadN (q := 26) G X4.here hx (hb hby d4_25) rfl rfl rfl
  obtain ⟨T5, X5, e5, st5⟩ := getF X4 hx hZ hown (host := "") (Or.inl (hw _ (List.mem_of_getElem? (i := 9) rfl))) Via.refl e4 P2 (g := (mkF m 26 #[.val (.ref a), .val (.ref d), .val (.ref d)] [(.ref d), (.long u)])) rfl rfl (hb hby d4_26)
  replace G : Gets p e below _ (T5.setTop (mkF m 29 #[.val (.ref a), .val (.ref d), .val (.ref d)] [(.long u2), (.long u)])) := fun t k => G t (st5 t k)
  replace G := own_lcmp (q := 30) G X5.here hx (hb hby d4_29) rfl
  by_cases hc30_6 : u = u2
  · replace G := own_ifNo (q := 33) G X5.here hx (hb hby d4_30) ((if0 _ _).trans (teq ((lw_eq _ _).mpr hc30_6)).2) rfl
    replace G := own_aloadN (q := 34) G X5.here hx (hb hby d4_33) rfl rfl rfl
    obtain ⟨T7, X7, e7, st7⟩ := getF X5 hx hZ hown (host := "") (Or.inl (hw _ (List.mem_of_getElem? (i := 11) rfl))) Via.refl e5 P1 (g := (mkF m 34 #[.val (.ref a), .val (.ref d), .val (.ref d)] [(.ref a)])) rfl rfl (hb hby d4_34)
    replace G : Gets p e below _ (T7.setTop (mkF m 37 #[.val (.ref a), .val (.ref d), .val (.ref d)] [(.long w)])) := fun t k => G t (st7 t k)
    replace G := own_aloadN (q := 38) G X7.here hx (hb hby d4_37) rfl rfl rfl
    obtain ⟨T8, X8, e8, st8⟩ := getF X7 hx hZ hown (host := "") (Or.inl (hw _ (List.mem_of_getElem? (i := 11) rfl))) Via.refl e7 P3 (g := (mkF m 38 #[.val (.ref a), .val (.ref d), .val (.ref d)] [(.ref d), (.long w)])) rfl rfl (hb hby d4_38)
    replace G : Gets p e below _ (T8.setTop (mkF m 41 #[.val (.ref a), .val (.ref d), .val (.ref d)] [(.long w2), (.long w)])) := fun t k => G t (st8 t k)
    replace G := own_lcmp (q := 42) G X8.here hx (hb hby d4_41) rfl
    by_cases hc42_9 : w = w2
    · replace G := own_ifNo (q := 45) G X8.here hx (hb hby d4_42) ((if0 _ _).trans (teq ((lw_eq _ _).mpr hc42_9)).2) rfl
      replace G := own_iconst (q := 46) G X8.here hx (hb hby d4_45) (v := (1 : Int32)) (by decide) rfl
      replace G := own_goto (q := 50) G X8.here hx (hb hby d4_46) (by decide) (by decide)
      obtain ⟨fs, hr, hrun, hended, hW, hsame⟩ := X8.leave (v := some (.int (1 : Int32))) (fun h => by rw [Bd.returns] at h; cases h)
      refine ⟨_, _, G _ (retOut X8 hx Bd.returns rfl (Or.inl ⟨rfl, Or.inr (Or.inl rfl), _, rfl⟩) (hb hby d4_50) hr), hrun, hended, _, _, rfl, ?_, ⟨_, rfl⟩, hW, hsame.mono (by decide) (by decide)⟩
      show Q4y Z a d u w u2 w2 h0 n0 _ T8.heap _
      rw [e8]
      exact ⟨(congrArg (fun z => some (Value.int z)) (by simp [own_eqv, hc30_6, hc42_9])), N0, rfl⟩
    · replace G := own_ifYes (q := 49) G X8.here hx (hb hby d4_42) ((if0 _ _).trans (feq (fun z => hc42_9 ((lw_eq _ _).mp z))).2) (by decide) (by decide)
      replace G := own_iconst (q := 50) G X8.here hx (hb hby d4_49) (v := (0 : Int32)) (by decide) rfl
      obtain ⟨fs, hr, hrun, hended, hW, hsame⟩ := X8.leave (v := some (.int (0 : Int32))) (fun h => by rw [Bd.returns] at h; cases h)
      refine ⟨_, _, G _ (retOut X8 hx Bd.returns rfl (Or.inl ⟨rfl, Or.inr (Or.inl rfl), _, rfl⟩) (hb hby d4_50) hr), hrun, hended, _, _, rfl, ?_, ⟨_, rfl⟩, hW, hsame.mono (by decide) (by decide)⟩
      show Q4y Z a d u w u2 w2 h0 n0 _ T8.heap _
      rw [e8]
      exact ⟨(congrArg (fun z => some (Value.int z)) (by simp [own_eqv, hc30_6, hc42_9])), N0, rfl⟩
  · replace G := own_ifYes (q := 49) G X5.here hx (hb hby d4_30) ((if0 _ _).trans (feq (fun z => hc30_6 ((lw_eq _ _).mp z))).2) (by decide) (by decide)
    replace G := own_iconst (q := 50) G X5.here hx (hb hby d4_49) (v := (0 : Int32)) (by decide) rfl
    obtain ⟨fs, hr, hrun, hended, hW, hsame⟩ := X5.leave (v := some (.int (0 : Int32))) (fun h => by rw [Bd.returns] at h; cases h)
    refine ⟨_, _, G _ (retOut X5 hx Bd.returns rfl (Or.inl ⟨rfl, Or.inr (Or.inl rfl), _, rfl⟩) (hb hby d4_50) hr), hrun, hended, _, _, rfl, ?_, ⟨_, rfl⟩, hW, hsame.mono (by decide) (by decide)⟩
    show Q4y Z a d u w u2 w2 h0 n0 _ T5.heap _
    rw [e5]
    exact ⟨(congrArg (fun z => some (Value.int z)) (by simp [own_eqv, hc30_6])), N0, rfl⟩
theorem ef_4l (m : MethodId) (x0 : Addr) (x1 : Addr) : entryFrame m #[(.ref x0), (.ref x1)] 3 = mkF m 0 #[.val (.ref x0), .val (.ref x1), .unset] [] := by first | (simp [entryFrame, mkF, argsToLocals, Value.category]; done) | rfl
def Q4l (Z : State) (a : Addr) (d : Addr) (h0 : Heap) (n0 : Nat) (v : Option Value) (h : Heap) (L : List Loc) : Prop := v = some (.int (0 : Int32)) ∧ Fr n0 L ∧ h = h0
set_option maxRecDepth 65536 in
set_option maxHeartbeats 40000000 in
theorem rm4l (l : Launch) (Z : State) (a0 : Array Value) (hw : ∀ d ∈ tables_1, d.before a0 Z = true) (ws : List Jvm.Cond) (a : Addr) (d : Addr) (h0 : Heap) (n0 : Nat) (Z0 : n0 ≤ h0.size) (P0 : Exa Z h0 d "java/lang/Long") (P1 : a ≠ d) :
    MetFree l (⟨"com/example/cheapside/cheapside/core/StoredValue", "equals", "(Ljava/lang/Object;)Z"⟩ : MethodName) (head1 (Jvm.Cond.code (⟨"com/example/cheapside/cheapside/core/StoredValue", "equals", "(Ljava/lang/Object;)Z"⟩ : MethodName) prog_20_method_4_code 3 (some .boolean) :: ws) ({ frames := 0, cells := 0, slots := 0, locals := 0 } : Room)) (fun zz U => zz = #[(.ref a), (.ref d)] ∧ Z.Warmed39 U.vm ∧ U.heap = h0) (fun _ _ _ _ _ => True) (fun _ U o U' => ∃ v L, o = .returned v ∧ Q4l Z a d h0 n0 v U'.heap L ∧ FrameEnd U o U' L ({ frames := 0, cells := 0, slots := 0, locals := 0 } : Room).cells ({ frames := 0, cells := 0, slots := 0, locals := 0 } : Room).slots) := by
  refine MetFree.of_bodySF (plainFor_of_name pn_com_example_cheapside_cheapside_core_StoredValue) hisR ?_
  intro p e s m args below meth c s₁ Bd hml0 hP hK
  obtain ⟨rfl, hZ, hh⟩ := hP
  have hx := Bd.exec
  have hby := Bd.bytes
  have hml : c.maxLocals = 3 := hml0
  have hown : s.vm.findClass "com/example/cheapside/cheapside/core/StoredValue" = some m.cls := findClass_of_methodNamed Bd.named
  have hnm := (name_of_methodNamed Bd.named Bd.method).1
  have X0 : Stand p l e ({ frames := 0, cells := 0, slots := 0, locals := 0 } : Room) s m #[(.ref a), (.ref d)] below meth c s₁ [] 0 0 := Stand.of_body Bd
  have e0 : s₁.heap = h0 := by rw [← hh, Bd.state]; rfl
  have N0 := Fr.nil n0
  have G : Gets p e below (s₁.setTop (entryFrame m #[(.ref a), (.ref d)] 3)) (s₁.setTop (mkF m 0 #[.val (.ref a), .val (.ref d), .unset] [])) := fun t k => castTop (ef_4l m a d) k
  replace G := own_aloadN (q := 1) G X0.here hx (hb hby d4_0) rfl rfl rfl
  replace G := own_aloadN (q := 2) G X0.here hx (hb hby d4_1) rfl rfl rfl
  replace G : Gets p e below _ (s₁.setTop (mkF m 7 #[.val (.ref a), .val (.ref d), .unset] [])) := fun t k => G t (Jvm.RoadKit.acmp (g := (mkF m 2 #[.val (.ref a), .val (.ref d), .unset] [(.ref d), (.ref a)])) X0 hx rfl rfl rfl (pc0 := 2) (pc' := 7) (same := false) rfl (hb hby d4_2) rfl (decide_eq_false fun q => P1 (Value.ref.inj q)) (by decide) (by decide) k)
  replace G := own_aloadN (q := 8) G X0.here hx (hb hby d4_7) rfl rfl rfl
  obtain ⟨T1, X1, e1, st1⟩ := instNo X0 hx hZ hown (hw _ (List.mem_of_getElem? (i := 26) rfl)) e0 P0 (own_no (hw _ (List.mem_of_getElem? (i := 27) rfl)) (hw _ (List.mem_of_getElem? (i := 28) rfl)) (hw _ (List.mem_of_getElem? (i := 29) rfl)) (hw _ (List.mem_of_getElem? (i := 1) rfl)) (by decide) (by decide) (by decide)) (g := (mkF m 8 #[.val (.ref a), .val (.ref d), .unset] [(.ref d)])) rfl rfl (hb hby d4_8)
  replace G : Gets p e below _ (T1.setTop (mkF m 11 #[.val (.ref a), .val (.ref d), .unset] [(.int (0 : Int32))])) := fun t k => G t (st1 t k)
  have hc11_2 : (0 : Int32) = (0 : Int32) := by decide
  replace G := own_ifNo (q := 14) G X1.here hx (hb hby d4_11) ((if0 _ _).trans (teq hc11_2).2) rfl
  replace G := own_iconst (q := 15) G X1.here hx (hb hby d4_14) (v := (0 : Int32)) (by decide) rfl
  obtain ⟨fs, hr, hrun, hended, hW, hsame⟩ := X1.leave (v := some (.int (0 : Int32))) (fun h => by rw [Bd.returns] at h; cases h)
  refine ⟨_, _, G _ (retOut X1 hx Bd.returns rfl (Or.inl ⟨rfl, Or.inr (Or.inl rfl), _, rfl⟩) (hb hby d4_15) hr), hrun, hended, _, _, rfl, ?_, ⟨_, rfl⟩, hW, hsame.mono (by decide) (by decide)⟩
  show Q4l Z a d h0 n0 _ T1.heap _
  rw [e1]
  exact ⟨rfl, N0, rfl⟩
theorem pd_2 : parseMethodDescriptor "(JJ)V" = some ⟨[.long, .long], none⟩ := by decide +kernel
theorem pd_3 : parseMethodDescriptor "(J)Ljava/lang/Long;" = some ⟨[.long], some (.object "java/lang/Long")⟩ := by decide +kernel
theorem pd_4 : parseMethodDescriptor "(Ljava/lang/Object;)Z" = some ⟨[(.object "java/lang/Object")], some .boolean⟩ := by decide +kernel
theorem pn_com_example_cheapside_cheapside_core_StoredValueEqualsPinLaw : plainName "com/example/cheapside/cheapside/core/StoredValueEqualsPinLaw" = true := by first | (simp [plainName, overriddenIn]; done) | decide +kernel
theorem ef_0 (m : MethodId) (x0 : Int64) (x1 : Int64) (x2 : Int64) (x3 : Int64) (x4 : Int32) : entryFrame m #[(.long x0), (.long x1), (.long x2), (.long x3), (.int x4)] maxLocals = mkF m 0 #[.val (.long x0), .second, .val (.long x1), .second, .val (.long x2), .second, .val (.long x3), .second, .val (.int x4), .unset, .unset, .unset, .unset, .unset, .unset, .unset, .unset, .unset] [] := by first | (simp [entryFrame, mkF, argsToLocals, Value.category, maxLocals]; done) | rfl
def Q0 (Z : State) (i0 : Int64) (i1 : Int64) (i2 : Int64) (i3 : Int64) (i4 : Int32) (ca : Addr) (h0 : Heap) (n0 : Nat) (v : Option Value) (h : Heap) (L : List Loc) : Prop := v = some (.int (1 : Int32)) ∧ Fr n0 L
set_option maxRecDepth 65536 in
set_option maxHeartbeats 40000000 in
theorem rm0 (l : Launch) (Z : State) (a0 : Array Value) (hw : ∀ d ∈ tables_1, d.before a0 Z = true) (ws : List Jvm.Cond) (i0 : Int64) (i1 : Int64) (i2 : Int64) (i3 : Int64) (i4 : Int32) (ca : Addr) (h0 : Heap) (n0 : Nat) (Z0 : n0 ≤ h0.size) (P0 : Old Z n0 h0) (P1 : Sta Z Z.heap "java/lang/Long$LongCache" "cache" "[Ljava/lang/Long;" (.ref ca)) (hcz : own_cache Z Z.heap ca) :
    MetFree l x (head1 (Jvm.Cond.code x code maxLocals ret :: ws) room_1) (fun zz U => zz = #[(.long i0), (.long i1), (.long i2), (.long i3), (.int i4)] ∧ Z.Warmed39 U.vm ∧ U.heap = h0) (fun _ _ _ _ _ => True) (fun _ U o U' => ∃ v L, o = .returned v ∧ Q0 Z i0 i1 i2 i3 i4 ca h0 n0 v U'.heap L ∧ FrameEnd U o U' L room_1.cells room_1.slots) := by
  refine MetFree.of_bodySF (plainFor_of_name pn_com_example_cheapside_cheapside_core_StoredValueEqualsPinLaw) hisR ?_
  intro p e s m args below meth c s₁ Bd hml0 hP hK
  obtain ⟨rfl, hZ, hh⟩ := hP
  have hx := Bd.exec
  have hby := Bd.bytes
  have hml : c.maxLocals = 18 := hml0
  have hown : s.vm.findClass "com/example/cheapside/cheapside/core/StoredValueEqualsPinLaw" = some m.cls := findClass_of_methodNamed Bd.named
  have hnm := (name_of_methodNamed Bd.named Bd.method).1
  have X0 : Stand p l e room_1 s m #[(.long i0), (.long i1), (.long i2), (.long i3), (.int i4)] below meth c s₁ [] 0 0 := Stand.of_body Bd
  have e0 : s₁.heap = h0 := by rw [← hh, Bd.state]; rfl
  have N0 := Fr.nil n0
  have G : Gets p e below (s₁.setTop (entryFrame m #[(.long i0), (.long i1), (.long i2), (.long i3), (.int i4)] maxLocals)) (s₁.setTop (mkF m 0 #[.val (.long i0), .second, .val (.long i1), .second, .val (.long i2), .second, .val (.long i3), .second, .val (.int i4), .unset, .unset, .unset, .unset, .unset, .unset, .unset, .unset, .unset] [])) := fun t k => castTop (ef_0 m i0 i1 i2 i3 i4) k
  obtain ⟨T1, h1, X1, e1, E1, A1, D1, -, st1⟩ := newO X0 hx hZ hown (hw _ (List.mem_of_getElem? (i := 0) rfl)) (hw _ (List.mem_of_getElem? (i := 1) rfl)) (hw _ (List.mem_of_getElem? (i := 2) rfl)) e0 (g := (mkF m 0 #[.val (.long i0), .second, .val (.long i1), .second, .val (.long i2), .second, .val (.long i3), .second, .val (.int i4), .unset, .unset, .unset, .unset, .unset, .unset, .unset, .unset, .unset] [])) rfl (hb hby at_0) (by decide) (by decide)
  obtain ⟨b1, g1⟩ : ∃ z, z = h0.size := ⟨_, rfl⟩
  rw [← g1] at A1 D1 st1
  have ge_b1 : n0 ≤ b1 := Nat.le_trans Z0 (Nat.le_of_eq g1.symm)
  have Z1 : n0 ≤ h1.size := Nat.le_trans Z0 E1.1
  have F1_value : Fld Z h1 b1 "com/example/cheapside/cheapside/core/StoredValue" "value" "J" (.long (0 : Int64)) := D1 (Or.inr (hw _ (List.mem_of_getElem? (i := 10) rfl))) (ty := .long) (by decide)
  have F1_writtenThrough : Fld Z h1 b1 "com/example/cheapside/cheapside/core/StoredValue" "writtenThrough" "J" (.long (0 : Int64)) := D1 (Or.inr (hw _ (List.mem_of_getElem? (i := 12) rfl))) (ty := .long) (by decide)
  replace G : Gets p e below _ (T1.setTop (mkF m 3 #[.val (.long i0), .second, .val (.long i1), .second, .val (.long i2), .second, .val (.long i3), .second, .val (.int i4), .unset, .unset, .unset, .unset, .unset, .unset, .unset, .unset, .unset] [(.ref b1)])) := fun t k => G t (st1 t k)
  replace G := own_dup (q := 4) G X1.here hx (hb hby at_3) rfl rfl
  replace G := own_lloadN (q := 5) G X1.here hx (hb hby at_4) rfl rfl
  replace G := own_lloadN (q := 6) G X1.here hx (hb hby at_5) rfl rfl
  obtain ⟨_, _, ⟨T2, L2, kk2, nn2⟩, -, X2, ⟨Lc2, hQ2, l2, y2, z2⟩, st2⟩ := X1.specialBack hx (y := (⟨"com/example/cheapside/cheapside/core/StoredValue", "<init>", "(JJ)V"⟩ : MethodName)) rfl hown (mvT hZ (hw _ (List.mem_of_getElem? (i := 3) rfl))) (mvT hZ (hw _ (List.mem_of_getElem? (i := 4) rfl))) (mvT hZ (hw _ (List.mem_of_getElem? (i := 5) rfl))) (by decide) (backOf (W := 1) (rm1 l Z a0 hw [] b1 i0 i1 h1 n0 Z1 F1_value F1_writtenThrough A1 ge_b1) hZ (hw _ (List.mem_of_getElem? (i := 5) rfl)) (hw _ (List.mem_of_getElem? (i := 2) rfl)) (by decide) (by decide)) (g := (mkF m 6 #[.val (.long i0), .second, .val (.long i1), .second, .val (.long i2), .second, .val (.long i3), .second, .val (.int i4), .unset, .unset, .unset, .unset, .unset, .unset, .unset, .unset, .unset] [(.long i1), (.long i0), (.ref b1), (.ref b1)])) rfl (by rw [hml]; rfl) (Steps.refl _) (a := b1) (argsL := [(.long i0), (.long i1)]) (rest := [(.ref b1)]) (lenOf pd_2 rfl) rfl (by show 2 * 0 + _ ≤ _; exact Nat.le_of_eq rfl) (hb hby at_6) (fun _ _ => ⟨rfl, e1, (by decide : 1 + 0 ≤ _), (by decide : 2 + 0 ≤ _)⟩)
  dsimp only [Pt.U, Pt.locs, Pt.cells, Pt.slots] at X2 l2 y2 z2 st2 hQ2
  subst l2 y2 z2
  obtain ⟨rfl, N2q, K2q, B2_0, B2_1⟩ := hQ2
  have Z2 : n0 ≤ T2.heap.size := Nat.le_trans Z1 K2q.1
  have N2 := Fr.app N0 N2q
  replace G : Gets p e below _ (T2.setTop (mkF m 9 #[.val (.long i0), .second, .val (.long i1), .second, .val (.long i2), .second, .val (.long i3), .second, .val (.int i4), .unset, .unset, .unset, .unset, .unset, .unset, .unset, .unset, .unset] [(.ref b1)])) := fun t k => G t (st2.trans k)
  replace G := own_astore (q := 11) (l' := #[.val (.long i0), .second, .val (.long i1), .second, .val (.long i2), .second, .val (.long i3), .second, .val (.int i4), .val (.ref b1), .unset, .unset, .unset, .unset, .unset, .unset, .unset, .unset]) G X2.here hx (hb hby at_9) rfl rfl rfl
  replace G := own_iload (q := 13) G X2.here hx (hb hby at_11) rfl rfl
  replace G := own_iconst (q := 14) G X2.here hx (hb hby at_13) (v := (4 : Int32)) (by decide) rfl
  obtain ⟨k1, hn_k1⟩ : ∃ z : Int32, (i4 &&& (4 : Int32)) = z := ⟨_, rfl⟩
  replace G := own_iand (q := 15) G X2.here hx (hb hby at_14) hn_k1 rfl
  replace G : Gets p e below (s₁.setTop (entryFrame m #[(.long i0), (.long i1), (.long i2), (.long i3), (.int i4)] maxLocals)) (T2.setTop (mkF m 24 #[.val (.long i0), .second, .val (.long i1), .second, .val (.long i2), .second, .val (.long i3), .second, .val (.int i4), .val (.ref b1), .unset, .unset, .unset, .unset, .unset, .unset, .unset, .unset] [(.long (if k1 = (0 : Int32) then i2 else i0))])) := by
    by_cases hc15_3 : k1 = (0 : Int32)
    · replace G := own_ifYes (q := 22) G X2.here hx (hb hby at_15) ((if0 _ _).trans (teq hc15_3).1) (by decide) (by decide)
      replace G := own_lload (q := 24) G X2.here hx (hb hby at_22) rfl rfl
      simp only [if_pos hc15_3]
      exact G
    · replace G := own_ifNo (q := 18) G X2.here hx (hb hby at_15) ((if0 _ _).trans (feq hc15_3).1) rfl
      replace G := own_lloadN (q := 19) G X2.here hx (hb hby at_18) rfl rfl
      replace G := own_goto (q := 24) G X2.here hx (hb hby at_19) (by decide) (by decide)
      simp only [if_neg hc15_3]
      exact G
  obtain ⟨c2, hn_c2⟩ : ∃ z : Int64, (if k1 = (0 : Int32) then i2 else i0) = z := ⟨_, rfl⟩
  rw [hn_c2] at G
  replace G := own_lstore (q := 26) (l' := #[.val (.long i0), .second, .val (.long i1), .second, .val (.long i2), .second, .val (.long i3), .second, .val (.int i4), .val (.ref b1), .val (.long c2), .second, .unset, .unset, .unset, .unset, .unset, .unset]) G X2.here hx (hb hby at_24) rfl rfl
  replace G := own_iload (q := 28) G X2.here hx (hb hby at_26) rfl rfl
  replace G := own_bipush (q := 30) G X2.here hx (hb hby at_28) (v := (8 : Int32)) (by decide) rfl
  obtain ⟨k2, hn_k2⟩ : ∃ z : Int32, (i4 &&& (8 : Int32)) = z := ⟨_, rfl⟩
  replace G := own_iand (q := 31) G X2.here hx (hb hby at_30) hn_k2 rfl
  replace G : Gets p e below (s₁.setTop (entryFrame m #[(.long i0), (.long i1), (.long i2), (.long i3), (.int i4)] maxLocals)) (T2.setTop (mkF m 40 #[.val (.long i0), .second, .val (.long i1), .second, .val (.long i2), .second, .val (.long i3), .second, .val (.int i4), .val (.ref b1), .val (.long c2), .second, .unset, .unset, .unset, .unset, .unset, .unset] [(.long (if k2 = (0 : Int32) then i3 else i1))])) := by
    by_cases hc31_4 : k2 = (0 : Int32)
    · replace G := own_ifYes (q := 38) G X2.here hx (hb hby at_31) ((if0 _ _).trans (teq hc31_4).1) (by decide) (by decide)
      replace G := own_lload (q := 40) G X2.here hx (hb hby at_38) rfl rfl
      simp only [if_pos hc31_4]
      exact G
    · replace G := own_ifNo (q := 34) G X2.here hx (hb hby at_31) ((if0 _ _).trans (feq hc31_4).1) rfl
      replace G := own_lloadN (q := 35) G X2.here hx (hb hby at_34) rfl rfl
      replace G := own_goto (q := 40) G X2.here hx (hb hby at_35) (by decide) (by decide)
      simp only [if_neg hc31_4]
      exact G
  obtain ⟨d2, hn_d2⟩ : ∃ z : Int64, (if k2 = (0 : Int32) then i3 else i1) = z := ⟨_, rfl⟩
  rw [hn_d2] at G
  replace G := own_lstore (q := 42) (l' := #[.val (.long i0), .second, .val (.long i1), .second, .val (.long i2), .second, .val (.long i3), .second, .val (.int i4), .val (.ref b1), .val (.long c2), .second, .val (.long d2), .second, .unset, .unset, .unset, .unset]) G X2.here hx (hb hby at_40) rfl rfl
  obtain ⟨T5, h5, X5, e5, E5, A5, D5, -, st5⟩ := newO X2 hx hZ hown (hw _ (List.mem_of_getElem? (i := 0) rfl)) (hw _ (List.mem_of_getElem? (i := 1) rfl)) (hw _ (List.mem_of_getElem? (i := 2) rfl)) rfl (g := (mkF m 42 #[.val (.long i0), .second, .val (.long i1), .second, .val (.long i2), .second, .val (.long i3), .second, .val (.int i4), .val (.ref b1), .val (.long c2), .second, .val (.long d2), .second, .unset, .unset, .unset, .unset] [])) rfl (hb hby at_42) (by decide) (by decide)
  obtain ⟨b5, g5⟩ : ∃ z, z = T2.heap.size := ⟨_, rfl⟩
  rw [← g5] at A5 D5 st5
  have ne6 : b1 ≠ b5 := Nat.ne_of_lt (Nat.lt_of_lt_of_le B2_1.lt (Nat.le_of_eq g5.symm))
  have ge_b5 : n0 ≤ b5 := Nat.le_trans Z2 (Nat.le_of_eq g5.symm)
  have Z5 : n0 ≤ h5.size := Nat.le_trans Z2 E5.1
  have F5_value : Fld Z h5 b5 "com/example/cheapside/cheapside/core/StoredValue" "value" "J" (.long (0 : Int64)) := D5 (Or.inr (hw _ (List.mem_of_getElem? (i := 10) rfl))) (ty := .long) (by decide)
  have F5_writtenThrough : Fld Z h5 b5 "com/example/cheapside/cheapside/core/StoredValue" "writtenThrough" "J" (.long (0 : Int64)) := D5 (Or.inr (hw _ (List.mem_of_getElem? (i := 12) rfl))) (ty := .long) (by decide)
  replace G : Gets p e below _ (T5.setTop (mkF m 45 #[.val (.long i0), .second, .val (.long i1), .second, .val (.long i2), .second, .val (.long i3), .second, .val (.int i4), .val (.ref b1), .val (.long c2), .second, .val (.long d2), .second, .unset, .unset, .unset, .unset] [(.ref b5)])) := fun t k => G t (st5 t k)
  replace G := own_dup (q := 46) G X5.here hx (hb hby at_45) rfl rfl
  replace G := own_lload (q := 48) G X5.here hx (hb hby at_46) rfl rfl
  replace G := own_lload (q := 50) G X5.here hx (hb hby at_48) rfl rfl
  obtain ⟨_, _, ⟨T7, L7, kk7, nn7⟩, -, X7, ⟨Lc7, hQ7, l7, y7, z7⟩, st7⟩ := X5.specialBack hx (y := (⟨"com/example/cheapside/cheapside/core/StoredValue", "<init>", "(JJ)V"⟩ : MethodName)) rfl hown (mvT hZ (hw _ (List.mem_of_getElem? (i := 3) rfl))) (mvT hZ (hw _ (List.mem_of_getElem? (i := 4) rfl))) (mvT hZ (hw _ (List.mem_of_getElem? (i := 5) rfl))) (by decide) (backOf (W := 1) (rm1 l Z a0 hw [] b5 c2 d2 h5 n0 Z5 F5_value F5_writtenThrough A5 ge_b5) hZ (hw _ (List.mem_of_getElem? (i := 5) rfl)) (hw _ (List.mem_of_getElem? (i := 2) rfl)) (by decide) (by decide)) (g := (mkF m 50 #[.val (.long i0), .second, .val (.long i1), .second, .val (.long i2), .second, .val (.long i3), .second, .val (.int i4), .val (.ref b1), .val (.long c2), .second, .val (.long d2), .second, .unset, .unset, .unset, .unset] [(.long d2), (.long c2), (.ref b5), (.ref b5)])) rfl (by rw [hml]; rfl) (Steps.refl _) (a := b5) (argsL := [(.long c2), (.long d2)]) (rest := [(.ref b5)]) (lenOf pd_2 rfl) rfl (by show 2 * 0 + _ ≤ _; exact Nat.le_of_eq rfl) (hb hby at_50) (fun _ _ => ⟨rfl, e5, (by decide : 2 + 0 ≤ _), (by decide : 4 + 0 ≤ _)⟩)
  dsimp only [Pt.U, Pt.locs, Pt.cells, Pt.slots] at X7 l7 y7 z7 st7 hQ7
  subst l7 y7 z7
  obtain ⟨rfl, N7q, K7q, B7_0, B7_1⟩ := hQ7
  have Z7 : n0 ≤ T7.heap.size := Nat.le_trans Z5 K7q.1
  have N7 := Fr.app N2 N7q
  replace G : Gets p e below _ (T7.setTop (mkF m 53 #[.val (.long i0), .second, .val (.long i1), .second, .val (.long i2), .second, .val (.long i3), .second, .val (.int i4), .val (.ref b1), .val (.long c2), .second, .val (.long d2), .second, .unset, .unset, .unset, .unset] [(.ref b5)])) := fun t k => G t (st7.trans k)
  replace G := own_astore (q := 55) (l' := #[.val (.long i0), .second, .val (.long i1), .second, .val (.long i2), .second, .val (.long i3), .second, .val (.int i4), .val (.ref b1), .val (.long c2), .second, .val (.long d2), .second, .val (.ref b5), .unset, .unset, .unset]) G X7.here hx (hb hby at_53) rfl rfl rfl
  replace G := own_lloadN (q := 56) G X7.here hx (hb hby at_55) rfl rfl
  have F9 : Old Z n0 T7.heap := ((((P0.ext E1).keep K2q (allS ge_b1 all0)).ext E5).keep K7q (allS ge_b5 all0))
  have F10 : Sta Z T7.heap "java/lang/Long$LongCache" "cache" "[Ljava/lang/Long;" (.ref ca) := P1.ext F9.2
  obtain ⟨_, _, ⟨T8, L8, kk8, nn8⟩, -, X8, ⟨Lc8, hQ8, l8, y8, z8⟩, st8⟩ := Jvm.LawKit.callS X7 hx (y := (⟨"java/lang/Long", "valueOf", "(J)Ljava/lang/Long;"⟩ : MethodName)) hown (mvT hZ (hw _ (List.mem_of_getElem? (i := 13) rfl))) (mvT hZ (hw _ (List.mem_of_getElem? (i := 14) rfl))) (mvT hZ (hw _ (List.mem_of_getElem? (i := 15) rfl))) (mvT hZ (hw _ (List.mem_of_getElem? (i := 16) rfl))) (by decide) (backOf (W := 0) (rm3 l Z a0 hw [] i0 ca T7.heap n0 Z7 F10 (hcz.ext F9.2)) hZ (hw _ (List.mem_of_getElem? (i := 16) rfl)) (hw _ (List.mem_of_getElem? (i := 15) rfl)) (by decide) (by decide)) (g := (mkF m 56 #[.val (.long i0), .second, .val (.long i1), .second, .val (.long i2), .second, .val (.long i3), .second, .val (.int i4), .val (.ref b1), .val (.long c2), .second, .val (.long d2), .second, .val (.ref b5), .unset, .unset, .unset] [(.long i0)])) rfl (by rw [hml]; rfl) (argsL := [(.long i0)]) (rest := []) (lenOf pd_3 rfl) rfl (by show 2 * 0 + _ ≤ _; exact Nat.le_of_eq rfl) (hb hby at_56) (fun _ _ => ⟨rfl, rfl, (by decide : 2 + 1 ≤ _), (by decide : 4 + 1 ≤ _)⟩)
  dsimp only [Pt.U, Pt.locs, Pt.cells, Pt.slots] at X8 l8 y8 z8 st8 hQ8
  subst l8 y8 z8
  obtain ⟨b_8, rfl, N8q, K8q, B8_0⟩ := hQ8
  have Z8 : n0 ≤ T8.heap.size := Nat.le_trans Z7 K8q.1
  have N8 := Fr.app N7 N8q
  replace G : Gets p e below _ (T8.setTop (mkF m 59 #[.val (.long i0), .second, .val (.long i1), .second, .val (.long i2), .second, .val (.long i3), .second, .val (.int i4), .val (.ref b1), .val (.long c2), .second, .val (.long d2), .second, .val (.ref b5), .unset, .unset, .unset] [(.ref b_8)])) := fun t k => G t (st8 t k)
  replace G := own_astore (q := 61) (l' := #[.val (.long i0), .second, .val (.long i1), .second, .val (.long i2), .second, .val (.long i3), .second, .val (.int i4), .val (.ref b1), .val (.long c2), .second, .val (.long d2), .second, .val (.ref b5), .val (.ref b_8), .unset, .unset]) G X8.here hx (hb hby at_59) rfl rfl rfl
  replace G := own_iload (q := 63) G X8.here hx (hb hby at_61) rfl rfl
  replace G := own_iconst (q := 64) G X8.here hx (hb hby at_63) (v := (3 : Int32)) (by decide) rfl
  obtain ⟨kk, hn_kk⟩ : ∃ z : Int32, (i4 &&& (3 : Int32)) = z := ⟨_, rfl⟩
  replace G := own_iand (q := 65) G X8.here hx (hb hby at_64) hn_kk rfl
  rcases own_cases4 (own_m3 hn_kk) with rfl | rfl | rfl | rfl
  · replace G := own_istore (q := 67) (l' := #[.val (.long i0), .second, .val (.long i1), .second, .val (.long i2), .second, .val (.long i3), .second, .val (.int i4), .val (.ref b1), .val (.long c2), .second, .val (.long d2), .second, .val (.ref b5), .val (.ref b_8), .val (.int (0 : Int32)), .unset]) G X8.here hx (hb hby at_65) rfl rfl
    replace G := own_iload (q := 69) G X8.here hx (hb hby at_67) rfl rfl
    have hc69_11 : (0 : Int32) = (0 : Int32) := by decide
    replace G := own_ifNo (q := 72) G X8.here hx (hb hby at_69) ((if0 _ _).trans (teq hc69_11).2) rfl
    replace G := own_aload (q := 74) G X8.here hx (hb hby at_72) rfl rfl rfl
    replace G := own_aload (q := 76) G X8.here hx (hb hby at_74) rfl rfl rfl
    have F13 : Exa Z T8.heap b1 "com/example/cheapside/cheapside/core/StoredValue" := ((((A1.keep K2q).ext E5).keep K7q).keep K8q)
    obtain ⟨cq12, kq12, q12a, q12b, q12c⟩ := isOf hZ rfl F13
    obtain ⟨_, _, ⟨T12, L12, kk12, nn12⟩, -, X12, ⟨Lc12, hQ12, l12, y12, z12⟩, st12⟩ := X8.virtualBack hx (y := (⟨"com/example/cheapside/cheapside/core/StoredValue", "equals", "(Ljava/lang/Object;)Z"⟩ : MethodName)) (z := (⟨"com/example/cheapside/cheapside/core/StoredValue", "equals", "(Ljava/lang/Object;)Z"⟩ : MethodName)) hown (mvT hZ (hw _ (List.mem_of_getElem? (i := 21) rfl))) (mvT hZ (hw _ (List.mem_of_getElem? (i := 22) rfl))) (notFace_of_selects (args := #[]) (mvT hZ (hw _ (List.mem_of_getElem? (i := 24) rfl)))) (mvT hZ (hw _ (List.mem_of_getElem? (i := 24) rfl))) (mvT hZ (hw _ (List.mem_of_getElem? (i := 23) rfl))) (by decide) (backOf (W := 0) (rm4s l Z a0 hw [] b1 T8.heap n0 Z8 ) hZ (hw _ (List.mem_of_getElem? (i := 25) rfl)) (hw _ (List.mem_of_getElem? (i := 2) rfl)) (by decide) (by decide)) q12a q12c (g := (mkF m 76 #[.val (.long i0), .second, .val (.long i1), .second, .val (.long i2), .second, .val (.long i3), .second, .val (.int i4), .val (.ref b1), .val (.long c2), .second, .val (.long d2), .second, .val (.ref b5), .val (.ref b_8), .val (.int (0 : Int32)), .unset] [(.ref b1), (.ref b1)])) rfl (by rw [hml]; rfl) (Steps.refl _) (argsL := [(.ref b1)]) (rest := []) (lenOf pd_4 rfl) rfl (by show 2 * 0 + _ ≤ _; exact Nat.le_of_eq rfl) (hb hby at_76) (fun _ _ => ⟨rfl, rfl, (by decide : 3 + 0 ≤ _), (by decide : 5 + 0 ≤ _)⟩)
    dsimp only [Pt.U, Pt.locs, Pt.cells, Pt.slots] at X12 l12 y12 z12 st12 hQ12
    subst l12 y12 z12
    obtain ⟨rfl, N12q, e12⟩ := hQ12
    have N12 := Fr.app N8 N12q
    replace G : Gets p e below _ (T12.setTop (mkF m 79 #[.val (.long i0), .second, .val (.long i1), .second, .val (.long i2), .second, .val (.long i3), .second, .val (.int i4), .val (.ref b1), .val (.long c2), .second, .val (.long d2), .second, .val (.ref b5), .val (.ref b_8), .val (.int (0 : Int32)), .unset] [(.int (1 : Int32))])) := fun t k => G t (st12.trans k)
    obtain ⟨fs, hr, hrun, hended, hW, hsame⟩ := X12.leave (v := some (.int (1 : Int32))) (fun h => by rw [Bd.returns] at h; cases h)
    refine ⟨_, _, G _ (retOut X12 hx Bd.returns rfl (Or.inl ⟨rfl, Or.inr (Or.inl rfl), _, rfl⟩) (hb hby at_79) hr), hrun, hended, _, _, rfl, ?_, ⟨_, rfl⟩, hW, hsame.mono (by decide) (by decide)⟩
    show Q0 Z i0 i1 i2 i3 i4 ca h0 n0 _ T12.heap _
    rw [e12]
    exact ⟨rfl, N12⟩
  · replace G := own_istore (q := 67) (l' := #[.val (.long i0), .second, .val (.long i1), .second, .val (.long i2), .second, .val (.long i3), .second, .val (.int i4), .val (.ref b1), .val (.long c2), .second, .val (.long d2), .second, .val (.ref b5), .val (.ref b_8), .val (.int (1 : Int32)), .unset]) G X8.here hx (hb hby at_65) rfl rfl
    replace G := own_iload (q := 69) G X8.here hx (hb hby at_67) rfl rfl
    have hc69_14 : ¬ ((1 : Int32) = (0 : Int32)) := by decide
    replace G := own_ifYes (q := 80) G X8.here hx (hb hby at_69) ((if0 _ _).trans (feq hc69_14).2) (by decide) (by decide)
    replace G := own_iload (q := 82) G X8.here hx (hb hby at_80) rfl rfl
    replace G := own_iconst (q := 83) G X8.here hx (hb hby at_82) (v := (1 : Int32)) (by decide) rfl
    have hc83_15 : (1 : Int32) = (1 : Int32) := by decide
    replace G := own_icmpNo (q := 86) G X8.here hx (hb hby at_83) (teq hc83_15).2 rfl
    replace G := own_lloadN (q := 87) G X8.here hx (hb hby at_86) rfl rfl
    replace G := own_lload (q := 89) G X8.here hx (hb hby at_87) rfl rfl
    replace G := own_lcmp (q := 90) G X8.here hx (hb hby at_89) rfl
    by_cases hc90_16 : i0 = c2
    · replace G := own_ifNo (q := 93) G X8.here hx (hb hby at_90) ((if0 _ _).trans (teq ((lw_eq _ _).mpr hc90_16)).2) rfl
      replace G := own_lloadN (q := 94) G X8.here hx (hb hby at_93) rfl rfl
      replace G := own_lload (q := 96) G X8.here hx (hb hby at_94) rfl rfl
      replace G := own_lcmp (q := 97) G X8.here hx (hb hby at_96) rfl
      by_cases hc97_17 : i1 = d2
      · replace G := own_ifNo (q := 100) G X8.here hx (hb hby at_97) ((if0 _ _).trans (teq ((lw_eq _ _).mpr hc97_17)).2) rfl
        replace G := own_iconst (q := 101) G X8.here hx (hb hby at_100) (v := (1 : Int32)) (by decide) rfl
        replace G := own_goto (q := 105) G X8.here hx (hb hby at_101) (by decide) (by decide)
        replace G := own_istore (q := 107) (l' := #[.val (.long i0), .second, .val (.long i1), .second, .val (.long i2), .second, .val (.long i3), .second, .val (.int i4), .val (.ref b1), .val (.long c2), .second, .val (.long d2), .second, .val (.ref b5), .val (.ref b_8), .val (.int (1 : Int32)), .val (.int (1 : Int32))]) G X8.here hx (hb hby at_105) rfl rfl
        replace G := own_aload (q := 109) G X8.here hx (hb hby at_107) rfl rfl rfl
        replace G := own_aload (q := 111) G X8.here hx (hb hby at_109) rfl rfl rfl
        have F19 : Exa Z T8.heap b1 "com/example/cheapside/cheapside/core/StoredValue" := ((((A1.keep K2q).ext E5).keep K7q).keep K8q)
        have F20 : Fld Z T8.heap b1 "com/example/cheapside/cheapside/core/StoredValue" "value" "J" (.long i0) := (((B2_0.ext E5).keep K7q (ninS ne6 nin0)).keep K8q nin0)
        have F21 : Fld Z T8.heap b1 "com/example/cheapside/cheapside/core/StoredValue" "writtenThrough" "J" (.long i1) := (((B2_1.ext E5).keep K7q (ninS ne6 nin0)).keep K8q nin0)
        have F22 : Fld Z T8.heap b5 "com/example/cheapside/cheapside/core/StoredValue" "value" "J" (.long c2) := (B7_0.keep K8q nin0)
        have F23 : Fld Z T8.heap b5 "com/example/cheapside/cheapside/core/StoredValue" "writtenThrough" "J" (.long d2) := (B7_1.keep K8q nin0)
        have F24 : Exa Z T8.heap b5 "com/example/cheapside/cheapside/core/StoredValue" := ((A5.keep K7q).keep K8q)
        obtain ⟨cq18, kq18, q18a, q18b, q18c⟩ := isOf hZ rfl F19
        obtain ⟨_, _, ⟨T18, L18, kk18, nn18⟩, -, X18, ⟨Lc18, hQ18, l18, y18, z18⟩, st18⟩ := X8.virtualBack hx (y := (⟨"com/example/cheapside/cheapside/core/StoredValue", "equals", "(Ljava/lang/Object;)Z"⟩ : MethodName)) (z := (⟨"com/example/cheapside/cheapside/core/StoredValue", "equals", "(Ljava/lang/Object;)Z"⟩ : MethodName)) hown (mvT hZ (hw _ (List.mem_of_getElem? (i := 21) rfl))) (mvT hZ (hw _ (List.mem_of_getElem? (i := 22) rfl))) (notFace_of_selects (args := #[]) (mvT hZ (hw _ (List.mem_of_getElem? (i := 24) rfl)))) (mvT hZ (hw _ (List.mem_of_getElem? (i := 24) rfl))) (mvT hZ (hw _ (List.mem_of_getElem? (i := 23) rfl))) (by decide) (backOf (W := 0) (rm4y l Z a0 hw [] b1 b5 i0 i1 c2 d2 T8.heap n0 Z8 F20 F21 F22 F23 F24 ne6) hZ (hw _ (List.mem_of_getElem? (i := 25) rfl)) (hw _ (List.mem_of_getElem? (i := 2) rfl)) (by decide) (by decide)) q18a q18c (g := (mkF m 111 #[.val (.long i0), .second, .val (.long i1), .second, .val (.long i2), .second, .val (.long i3), .second, .val (.int i4), .val (.ref b1), .val (.long c2), .second, .val (.long d2), .second, .val (.ref b5), .val (.ref b_8), .val (.int (1 : Int32)), .val (.int (1 : Int32))] [(.ref b5), (.ref b1)])) rfl (by rw [hml]; rfl) (Steps.refl _) (argsL := [(.ref b5)]) (rest := []) (lenOf pd_4 rfl) rfl (by show 2 * 0 + _ ≤ _; exact Nat.le_of_eq rfl) (hb hby at_111) (fun _ _ => ⟨rfl, rfl, (by decide : 3 + 0 ≤ _), (by decide : 5 + 0 ≤ _)⟩)
        dsimp only [Pt.U, Pt.locs, Pt.cells, Pt.slots] at X18 l18 y18 z18 st18 hQ18
        subst l18 y18 z18
        obtain ⟨rfl, N18q, e18⟩ := hQ18
        have N18 := Fr.app N8 N18q
        replace G : Gets p e below _ (T18.setTop (mkF m 114 #[.val (.long i0), .second, .val (.long i1), .second, .val (.long i2), .second, .val (.long i3), .second, .val (.int i4), .val (.ref b1), .val (.long c2), .second, .val (.long d2), .second, .val (.ref b5), .val (.ref b_8), .val (.int (1 : Int32)), .val (.int (1 : Int32))] [(.int (own_eqv i0 i1 c2 d2))])) := fun t k => G t (st18.trans k)
        replace G := own_iload (q := 116) G X18.here hx (hb hby at_114) rfl rfl
        have hc116_25 : (own_eqv i0 i1 c2 d2) = (1 : Int32) := by simp [own_eqv, hc90_16, hc97_17]
        replace G := own_icmpNo (q := 119) G X18.here hx (hb hby at_116) (teq hc116_25).2 rfl
        replace G := own_aload (q := 121) G X18.here hx (hb hby at_119) rfl rfl rfl
        replace G := own_aload (q := 123) G X18.here hx (hb hby at_121) rfl rfl rfl
        obtain ⟨cq26, kq26, q26a, q26b, q26c⟩ := isOf hZ e18 F24
        obtain ⟨_, _, ⟨T26, L26, kk26, nn26⟩, -, X26, ⟨Lc26, hQ26, l26, y26, z26⟩, st26⟩ := X18.virtualBack hx (y := (⟨"com/example/cheapside/cheapside/core/StoredValue", "equals", "(Ljava/lang/Object;)Z"⟩ : MethodName)) (z := (⟨"com/example/cheapside/cheapside/core/StoredValue", "equals", "(Ljava/lang/Object;)Z"⟩ : MethodName)) hown (mvT hZ (hw _ (List.mem_of_getElem? (i := 21) rfl))) (mvT hZ (hw _ (List.mem_of_getElem? (i := 22) rfl))) (notFace_of_selects (args := #[]) (mvT hZ (hw _ (List.mem_of_getElem? (i := 24) rfl)))) (mvT hZ (hw _ (List.mem_of_getElem? (i := 24) rfl))) (mvT hZ (hw _ (List.mem_of_getElem? (i := 23) rfl))) (by decide) (backOf (W := 0) (rm4y l Z a0 hw [] b5 b1 c2 d2 i0 i1 T8.heap n0 Z8 F22 F23 F20 F21 F19 (Ne.symm ne6)) hZ (hw _ (List.mem_of_getElem? (i := 25) rfl)) (hw _ (List.mem_of_getElem? (i := 2) rfl)) (by decide) (by decide)) q26a q26c (g := (mkF m 123 #[.val (.long i0), .second, .val (.long i1), .second, .val (.long i2), .second, .val (.long i3), .second, .val (.int i4), .val (.ref b1), .val (.long c2), .second, .val (.long d2), .second, .val (.ref b5), .val (.ref b_8), .val (.int (1 : Int32)), .val (.int (1 : Int32))] [(.ref b1), (.ref b5)])) rfl (by rw [hml]; rfl) (Steps.refl _) (argsL := [(.ref b1)]) (rest := []) (lenOf pd_4 rfl) rfl (by show 2 * 0 + _ ≤ _; exact Nat.le_of_eq rfl) (hb hby at_123) (fun _ _ => ⟨rfl, e18, (by decide : 3 + 0 ≤ _), (by decide : 5 + 0 ≤ _)⟩)
        dsimp only [Pt.U, Pt.locs, Pt.cells, Pt.slots] at X26 l26 y26 z26 st26 hQ26
        subst l26 y26 z26
        obtain ⟨rfl, N26q, e26⟩ := hQ26
        have N26 := Fr.app N18 N26q
        replace G : Gets p e below _ (T26.setTop (mkF m 126 #[.val (.long i0), .second, .val (.long i1), .second, .val (.long i2), .second, .val (.long i3), .second, .val (.int i4), .val (.ref b1), .val (.long c2), .second, .val (.long d2), .second, .val (.ref b5), .val (.ref b_8), .val (.int (1 : Int32)), .val (.int (1 : Int32))] [(.int (own_eqv c2 d2 i0 i1))])) := fun t k => G t (st26.trans k)
        replace G := own_iload (q := 128) G X26.here hx (hb hby at_126) rfl rfl
        have hc128_27 : (own_eqv c2 d2 i0 i1) = (1 : Int32) := by simp [own_eqv, (Eq.symm hc90_16), (Eq.symm hc97_17)]
        replace G := own_icmpNo (q := 131) G X26.here hx (hb hby at_128) (teq hc128_27).2 rfl
        replace G := own_iconst (q := 132) G X26.here hx (hb hby at_131) (v := (1 : Int32)) (by decide) rfl
        replace G := own_goto (q := 136) G X26.here hx (hb hby at_132) (by decide) (by decide)
        obtain ⟨fs, hr, hrun, hended, hW, hsame⟩ := X26.leave (v := some (.int (1 : Int32))) (fun h => by rw [Bd.returns] at h; cases h)
        refine ⟨_, _, G _ (retOut X26 hx Bd.returns rfl (Or.inl ⟨rfl, Or.inr (Or.inl rfl), _, rfl⟩) (hb hby at_136) hr), hrun, hended, _, _, rfl, ?_, ⟨_, rfl⟩, hW, hsame.mono (by decide) (by decide)⟩
        show Q0 Z i0 i1 i2 i3 i4 ca h0 n0 _ T26.heap _
        rw [e26]
        exact ⟨rfl, N26⟩
      · replace G := own_ifYes (q := 104) G X8.here hx (hb hby at_97) ((if0 _ _).trans (feq (fun z => hc97_17 ((lw_eq _ _).mp z))).2) (by decide) (by decide)
        replace G := own_iconst (q := 105) G X8.here hx (hb hby at_104) (v := (0 : Int32)) (by decide) rfl
        replace G := own_istore (q := 107) (l' := #[.val (.long i0), .second, .val (.long i1), .second, .val (.long i2), .second, .val (.long i3), .second, .val (.int i4), .val (.ref b1), .val (.long c2), .second, .val (.long d2), .second, .val (.ref b5), .val (.ref b_8), .val (.int (1 : Int32)), .val (.int (0 : Int32))]) G X8.here hx (hb hby at_105) rfl rfl
        replace G := own_aload (q := 109) G X8.here hx (hb hby at_107) rfl rfl rfl
        replace G := own_aload (q := 111) G X8.here hx (hb hby at_109) rfl rfl rfl
        have F29 : Exa Z T8.heap b1 "com/example/cheapside/cheapside/core/StoredValue" := ((((A1.keep K2q).ext E5).keep K7q).keep K8q)
        have F30 : Fld Z T8.heap b1 "com/example/cheapside/cheapside/core/StoredValue" "value" "J" (.long i0) := (((B2_0.ext E5).keep K7q (ninS ne6 nin0)).keep K8q nin0)
        have F31 : Fld Z T8.heap b1 "com/example/cheapside/cheapside/core/StoredValue" "writtenThrough" "J" (.long i1) := (((B2_1.ext E5).keep K7q (ninS ne6 nin0)).keep K8q nin0)
        have F32 : Fld Z T8.heap b5 "com/example/cheapside/cheapside/core/StoredValue" "value" "J" (.long c2) := (B7_0.keep K8q nin0)
        have F33 : Fld Z T8.heap b5 "com/example/cheapside/cheapside/core/StoredValue" "writtenThrough" "J" (.long d2) := (B7_1.keep K8q nin0)
        have F34 : Exa Z T8.heap b5 "com/example/cheapside/cheapside/core/StoredValue" := ((A5.keep K7q).keep K8q)
        obtain ⟨cq28, kq28, q28a, q28b, q28c⟩ := isOf hZ rfl F29
        obtain ⟨_, _, ⟨T28, L28, kk28, nn28⟩, -, X28, ⟨Lc28, hQ28, l28, y28, z28⟩, st28⟩ := X8.virtualBack hx (y := (⟨"com/example/cheapside/cheapside/core/StoredValue", "equals", "(Ljava/lang/Object;)Z"⟩ : MethodName)) (z := (⟨"com/example/cheapside/cheapside/core/StoredValue", "equals", "(Ljava/lang/Object;)Z"⟩ : MethodName)) hown (mvT hZ (hw _ (List.mem_of_getElem? (i := 21) rfl))) (mvT hZ (hw _ (List.mem_of_getElem? (i := 22) rfl))) (notFace_of_selects (args := #[]) (mvT hZ (hw _ (List.mem_of_getElem? (i := 24) rfl)))) (mvT hZ (hw _ (List.mem_of_getElem? (i := 24) rfl))) (mvT hZ (hw _ (List.mem_of_getElem? (i := 23) rfl))) (by decide) (backOf (W := 0) (rm4y l Z a0 hw [] b1 b5 i0 i1 c2 d2 T8.heap n0 Z8 F30 F31 F32 F33 F34 ne6) hZ (hw _ (List.mem_of_getElem? (i := 25) rfl)) (hw _ (List.mem_of_getElem? (i := 2) rfl)) (by decide) (by decide)) q28a q28c (g := (mkF m 111 #[.val (.long i0), .second, .val (.long i1), .second, .val (.long i2), .second, .val (.long i3), .second, .val (.int i4), .val (.ref b1), .val (.long c2), .second, .val (.long d2), .second, .val (.ref b5), .val (.ref b_8), .val (.int (1 : Int32)), .val (.int (0 : Int32))] [(.ref b5), (.ref b1)])) rfl (by rw [hml]; rfl) (Steps.refl _) (argsL := [(.ref b5)]) (rest := []) (lenOf pd_4 rfl) rfl (by show 2 * 0 + _ ≤ _; exact Nat.le_of_eq rfl) (hb hby at_111) (fun _ _ => ⟨rfl, rfl, (by decide : 3 + 0 ≤ _), (by decide : 5 + 0 ≤ _)⟩)
        dsimp only [Pt.U, Pt.locs, Pt.cells, Pt.slots] at X28 l28 y28 z28 st28 hQ28
        subst l28 y28 z28
        obtain ⟨rfl, N28q, e28⟩ := hQ28
        have N28 := Fr.app N8 N28q
        replace G : Gets p e below _ (T28.setTop (mkF m 114 #[.val (.long i0), .second, .val (.long i1), .second, .val (.long i2), .second, .val (.long i3), .second, .val (.int i4), .val (.ref b1), .val (.long c2), .second, .val (.long d2), .second, .val (.ref b5), .val (.ref b_8), .val (.int (1 : Int32)), .val (.int (0 : Int32))] [(.int (own_eqv i0 i1 c2 d2))])) := fun t k => G t (st28.trans k)
        replace G := own_iload (q := 116) G X28.here hx (hb hby at_114) rfl rfl
        have hc116_35 : (own_eqv i0 i1 c2 d2) = (0 : Int32) := by simp [own_eqv, hc90_16, hc97_17]
        replace G := own_icmpNo (q := 119) G X28.here hx (hb hby at_116) (teq hc116_35).2 rfl
        replace G := own_aload (q := 121) G X28.here hx (hb hby at_119) rfl rfl rfl
        replace G := own_aload (q := 123) G X28.here hx (hb hby at_121) rfl rfl rfl
        obtain ⟨cq36, kq36, q36a, q36b, q36c⟩ := isOf hZ e28 F34
        obtain ⟨_, _, ⟨T36, L36, kk36, nn36⟩, -, X36, ⟨Lc36, hQ36, l36, y36, z36⟩, st36⟩ := X28.virtualBack hx (y := (⟨"com/example/cheapside/cheapside/core/StoredValue", "equals", "(Ljava/lang/Object;)Z"⟩ : MethodName)) (z := (⟨"com/example/cheapside/cheapside/core/StoredValue", "equals", "(Ljava/lang/Object;)Z"⟩ : MethodName)) hown (mvT hZ (hw _ (List.mem_of_getElem? (i := 21) rfl))) (mvT hZ (hw _ (List.mem_of_getElem? (i := 22) rfl))) (notFace_of_selects (args := #[]) (mvT hZ (hw _ (List.mem_of_getElem? (i := 24) rfl)))) (mvT hZ (hw _ (List.mem_of_getElem? (i := 24) rfl))) (mvT hZ (hw _ (List.mem_of_getElem? (i := 23) rfl))) (by decide) (backOf (W := 0) (rm4y l Z a0 hw [] b5 b1 c2 d2 i0 i1 T8.heap n0 Z8 F32 F33 F30 F31 F29 (Ne.symm ne6)) hZ (hw _ (List.mem_of_getElem? (i := 25) rfl)) (hw _ (List.mem_of_getElem? (i := 2) rfl)) (by decide) (by decide)) q36a q36c (g := (mkF m 123 #[.val (.long i0), .second, .val (.long i1), .second, .val (.long i2), .second, .val (.long i3), .second, .val (.int i4), .val (.ref b1), .val (.long c2), .second, .val (.long d2), .second, .val (.ref b5), .val (.ref b_8), .val (.int (1 : Int32)), .val (.int (0 : Int32))] [(.ref b1), (.ref b5)])) rfl (by rw [hml]; rfl) (Steps.refl _) (argsL := [(.ref b1)]) (rest := []) (lenOf pd_4 rfl) rfl (by show 2 * 0 + _ ≤ _; exact Nat.le_of_eq rfl) (hb hby at_123) (fun _ _ => ⟨rfl, e28, (by decide : 3 + 0 ≤ _), (by decide : 5 + 0 ≤ _)⟩)
        dsimp only [Pt.U, Pt.locs, Pt.cells, Pt.slots] at X36 l36 y36 z36 st36 hQ36
        subst l36 y36 z36
        obtain ⟨rfl, N36q, e36⟩ := hQ36
        have N36 := Fr.app N28 N36q
        replace G : Gets p e below _ (T36.setTop (mkF m 126 #[.val (.long i0), .second, .val (.long i1), .second, .val (.long i2), .second, .val (.long i3), .second, .val (.int i4), .val (.ref b1), .val (.long c2), .second, .val (.long d2), .second, .val (.ref b5), .val (.ref b_8), .val (.int (1 : Int32)), .val (.int (0 : Int32))] [(.int (own_eqv c2 d2 i0 i1))])) := fun t k => G t (st36.trans k)
        replace G := own_iload (q := 128) G X36.here hx (hb hby at_126) rfl rfl
        have hc128_37 : (own_eqv c2 d2 i0 i1) = (0 : Int32) := by simp [own_eqv, (Eq.symm hc90_16), (Ne.symm hc97_17)]
        replace G := own_icmpNo (q := 131) G X36.here hx (hb hby at_128) (teq hc128_37).2 rfl
        replace G := own_iconst (q := 132) G X36.here hx (hb hby at_131) (v := (1 : Int32)) (by decide) rfl
        replace G := own_goto (q := 136) G X36.here hx (hb hby at_132) (by decide) (by decide)
        obtain ⟨fs, hr, hrun, hended, hW, hsame⟩ := X36.leave (v := some (.int (1 : Int32))) (fun h => by rw [Bd.returns] at h; cases h)
        refine ⟨_, _, G _ (retOut X36 hx Bd.returns rfl (Or.inl ⟨rfl, Or.inr (Or.inl rfl), _, rfl⟩) (hb hby at_136) hr), hrun, hended, _, _, rfl, ?_, ⟨_, rfl⟩, hW, hsame.mono (by decide) (by decide)⟩
        show Q0 Z i0 i1 i2 i3 i4 ca h0 n0 _ T36.heap _
        rw [e36]
        exact ⟨rfl, N36⟩
    · replace G := own_ifYes (q := 104) G X8.here hx (hb hby at_90) ((if0 _ _).trans (feq (fun z => hc90_16 ((lw_eq _ _).mp z))).2) (by decide) (by decide)
      replace G := own_iconst (q := 105) G X8.here hx (hb hby at_104) (v := (0 : Int32)) (by decide) rfl
      replace G := own_istore (q := 107) (l' := #[.val (.long i0), .second, .val (.long i1), .second, .val (.long i2), .second, .val (.long i3), .second, .val (.int i4), .val (.ref b1), .val (.long c2), .second, .val (.long d2), .second, .val (.ref b5), .val (.ref b_8), .val (.int (1 : Int32)), .val (.int (0 : Int32))]) G X8.here hx (hb hby at_105) rfl rfl
      replace G := own_aload (q := 109) G X8.here hx (hb hby at_107) rfl rfl rfl
      replace G := own_aload (q := 111) G X8.here hx (hb hby at_109) rfl rfl rfl
      have F39 : Exa Z T8.heap b1 "com/example/cheapside/cheapside/core/StoredValue" := ((((A1.keep K2q).ext E5).keep K7q).keep K8q)
      have F40 : Fld Z T8.heap b1 "com/example/cheapside/cheapside/core/StoredValue" "value" "J" (.long i0) := (((B2_0.ext E5).keep K7q (ninS ne6 nin0)).keep K8q nin0)
      have F41 : Fld Z T8.heap b1 "com/example/cheapside/cheapside/core/StoredValue" "writtenThrough" "J" (.long i1) := (((B2_1.ext E5).keep K7q (ninS ne6 nin0)).keep K8q nin0)
      have F42 : Fld Z T8.heap b5 "com/example/cheapside/cheapside/core/StoredValue" "value" "J" (.long c2) := (B7_0.keep K8q nin0)
      have F43 : Fld Z T8.heap b5 "com/example/cheapside/cheapside/core/StoredValue" "writtenThrough" "J" (.long d2) := (B7_1.keep K8q nin0)
      have F44 : Exa Z T8.heap b5 "com/example/cheapside/cheapside/core/StoredValue" := ((A5.keep K7q).keep K8q)
      obtain ⟨cq38, kq38, q38a, q38b, q38c⟩ := isOf hZ rfl F39
      obtain ⟨_, _, ⟨T38, L38, kk38, nn38⟩, -, X38, ⟨Lc38, hQ38, l38, y38, z38⟩, st38⟩ := X8.virtualBack hx (y := (⟨"com/example/cheapside/cheapside/core/StoredValue", "equals", "(Ljava/lang/Object;)Z"⟩ : MethodName)) (z := (⟨"com/example/cheapside/cheapside/core/StoredValue", "equals", "(Ljava/lang/Object;)Z"⟩ : MethodName)) hown (mvT hZ (hw _ (List.mem_of_getElem? (i := 21) rfl))) (mvT hZ (hw _ (List.mem_of_getElem? (i := 22) rfl))) (notFace_of_selects (args := #[]) (mvT hZ (hw _ (List.mem_of_getElem? (i := 24) rfl)))) (mvT hZ (hw _ (List.mem_of_getElem? (i := 24) rfl))) (mvT hZ (hw _ (List.mem_of_getElem? (i := 23) rfl))) (by decide) (backOf (W := 0) (rm4y l Z a0 hw [] b1 b5 i0 i1 c2 d2 T8.heap n0 Z8 F40 F41 F42 F43 F44 ne6) hZ (hw _ (List.mem_of_getElem? (i := 25) rfl)) (hw _ (List.mem_of_getElem? (i := 2) rfl)) (by decide) (by decide)) q38a q38c (g := (mkF m 111 #[.val (.long i0), .second, .val (.long i1), .second, .val (.long i2), .second, .val (.long i3), .second, .val (.int i4), .val (.ref b1), .val (.long c2), .second, .val (.long d2), .second, .val (.ref b5), .val (.ref b_8), .val (.int (1 : Int32)), .val (.int (0 : Int32))] [(.ref b5), (.ref b1)])) rfl (by rw [hml]; rfl) (Steps.refl _) (argsL := [(.ref b5)]) (rest := []) (lenOf pd_4 rfl) rfl (by show 2 * 0 + _ ≤ _; exact Nat.le_of_eq rfl) (hb hby at_111) (fun _ _ => ⟨rfl, rfl, (by decide : 3 + 0 ≤ _), (by decide : 5 + 0 ≤ _)⟩)
      dsimp only [Pt.U, Pt.locs, Pt.cells, Pt.slots] at X38 l38 y38 z38 st38 hQ38
      subst l38 y38 z38
      obtain ⟨rfl, N38q, e38⟩ := hQ38
      have N38 := Fr.app N8 N38q
      replace G : Gets p e below _ (T38.setTop (mkF m 114 #[.val (.long i0), .second, .val (.long i1), .second, .val (.long i2), .second, .val (.long i3), .second, .val (.int i4), .val (.ref b1), .val (.long c2), .second, .val (.long d2), .second, .val (.ref b5), .val (.ref b_8), .val (.int (1 : Int32)), .val (.int (0 : Int32))] [(.int (own_eqv i0 i1 c2 d2))])) := fun t k => G t (st38.trans k)
      replace G := own_iload (q := 116) G X38.here hx (hb hby at_114) rfl rfl
      have hc116_45 : (own_eqv i0 i1 c2 d2) = (0 : Int32) := by simp [own_eqv, hc90_16]
      replace G := own_icmpNo (q := 119) G X38.here hx (hb hby at_116) (teq hc116_45).2 rfl
      replace G := own_aload (q := 121) G X38.here hx (hb hby at_119) rfl rfl rfl
      replace G := own_aload (q := 123) G X38.here hx (hb hby at_121) rfl rfl rfl
      obtain ⟨cq46, kq46, q46a, q46b, q46c⟩ := isOf hZ e38 F44
      obtain ⟨_, _, ⟨T46, L46, kk46, nn46⟩, -, X46, ⟨Lc46, hQ46, l46, y46, z46⟩, st46⟩ := X38.virtualBack hx (y := (⟨"com/example/cheapside/cheapside/core/StoredValue", "equals", "(Ljava/lang/Object;)Z"⟩ : MethodName)) (z := (⟨"com/example/cheapside/cheapside/core/StoredValue", "equals", "(Ljava/lang/Object;)Z"⟩ : MethodName)) hown (mvT hZ (hw _ (List.mem_of_getElem? (i := 21) rfl))) (mvT hZ (hw _ (List.mem_of_getElem? (i := 22) rfl))) (notFace_of_selects (args := #[]) (mvT hZ (hw _ (List.mem_of_getElem? (i := 24) rfl)))) (mvT hZ (hw _ (List.mem_of_getElem? (i := 24) rfl))) (mvT hZ (hw _ (List.mem_of_getElem? (i := 23) rfl))) (by decide) (backOf (W := 0) (rm4y l Z a0 hw [] b5 b1 c2 d2 i0 i1 T8.heap n0 Z8 F42 F43 F40 F41 F39 (Ne.symm ne6)) hZ (hw _ (List.mem_of_getElem? (i := 25) rfl)) (hw _ (List.mem_of_getElem? (i := 2) rfl)) (by decide) (by decide)) q46a q46c (g := (mkF m 123 #[.val (.long i0), .second, .val (.long i1), .second, .val (.long i2), .second, .val (.long i3), .second, .val (.int i4), .val (.ref b1), .val (.long c2), .second, .val (.long d2), .second, .val (.ref b5), .val (.ref b_8), .val (.int (1 : Int32)), .val (.int (0 : Int32))] [(.ref b1), (.ref b5)])) rfl (by rw [hml]; rfl) (Steps.refl _) (argsL := [(.ref b1)]) (rest := []) (lenOf pd_4 rfl) rfl (by show 2 * 0 + _ ≤ _; exact Nat.le_of_eq rfl) (hb hby at_123) (fun _ _ => ⟨rfl, e38, (by decide : 3 + 0 ≤ _), (by decide : 5 + 0 ≤ _)⟩)
      dsimp only [Pt.U, Pt.locs, Pt.cells, Pt.slots] at X46 l46 y46 z46 st46 hQ46
      subst l46 y46 z46
      obtain ⟨rfl, N46q, e46⟩ := hQ46
      have N46 := Fr.app N38 N46q
      replace G : Gets p e below _ (T46.setTop (mkF m 126 #[.val (.long i0), .second, .val (.long i1), .second, .val (.long i2), .second, .val (.long i3), .second, .val (.int i4), .val (.ref b1), .val (.long c2), .second, .val (.long d2), .second, .val (.ref b5), .val (.ref b_8), .val (.int (1 : Int32)), .val (.int (0 : Int32))] [(.int (own_eqv c2 d2 i0 i1))])) := fun t k => G t (st46.trans k)
      replace G := own_iload (q := 128) G X46.here hx (hb hby at_126) rfl rfl
      have hc128_47 : (own_eqv c2 d2 i0 i1) = (0 : Int32) := by simp [own_eqv, (Ne.symm hc90_16)]
      replace G := own_icmpNo (q := 131) G X46.here hx (hb hby at_128) (teq hc128_47).2 rfl
      replace G := own_iconst (q := 132) G X46.here hx (hb hby at_131) (v := (1 : Int32)) (by decide) rfl
      replace G := own_goto (q := 136) G X46.here hx (hb hby at_132) (by decide) (by decide)
      obtain ⟨fs, hr, hrun, hended, hW, hsame⟩ := X46.leave (v := some (.int (1 : Int32))) (fun h => by rw [Bd.returns] at h; cases h)
      refine ⟨_, _, G _ (retOut X46 hx Bd.returns rfl (Or.inl ⟨rfl, Or.inr (Or.inl rfl), _, rfl⟩) (hb hby at_136) hr), hrun, hended, _, _, rfl, ?_, ⟨_, rfl⟩, hW, hsame.mono (by decide) (by decide)⟩
      show Q0 Z i0 i1 i2 i3 i4 ca h0 n0 _ T46.heap _
      rw [e46]
      exact ⟨rfl, N46⟩
  · replace G := own_istore (q := 67) (l' := #[.val (.long i0), .second, .val (.long i1), .second, .val (.long i2), .second, .val (.long i3), .second, .val (.int i4), .val (.ref b1), .val (.long c2), .second, .val (.long d2), .second, .val (.ref b5), .val (.ref b_8), .val (.int (2 : Int32)), .unset]) G X8.here hx (hb hby at_65) rfl rfl
    replace G := own_iload (q := 69) G X8.here hx (hb hby at_67) rfl rfl
    have hc69_48 : ¬ ((2 : Int32) = (0 : Int32)) := by decide
    replace G := own_ifYes (q := 80) G X8.here hx (hb hby at_69) ((if0 _ _).trans (feq hc69_48).2) (by decide) (by decide)
    replace G := own_iload (q := 82) G X8.here hx (hb hby at_80) rfl rfl
    replace G := own_iconst (q := 83) G X8.here hx (hb hby at_82) (v := (1 : Int32)) (by decide) rfl
    have hc83_49 : ¬ ((2 : Int32) = (1 : Int32)) := by decide
    replace G := own_icmpYes (q := 137) G X8.here hx (hb hby at_83) (feq hc83_49).2 (by decide) (by decide)
    replace G := own_iload (q := 139) G X8.here hx (hb hby at_137) rfl rfl
    replace G := own_iconst (q := 140) G X8.here hx (hb hby at_139) (v := (2 : Int32)) (by decide) rfl
    have hc140_50 : (2 : Int32) = (2 : Int32) := by decide
    replace G := own_icmpNo (q := 143) G X8.here hx (hb hby at_140) (teq hc140_50).2 rfl
    replace G := own_aload (q := 145) G X8.here hx (hb hby at_143) rfl rfl rfl
    replace G := own_aconst_null (q := 146) G X8.here hx (hb hby at_145) rfl
    have F52 : Exa Z T8.heap b1 "com/example/cheapside/cheapside/core/StoredValue" := ((((A1.keep K2q).ext E5).keep K7q).keep K8q)
    obtain ⟨cq51, kq51, q51a, q51b, q51c⟩ := isOf hZ rfl F52
    obtain ⟨_, _, ⟨T51, L51, kk51, nn51⟩, -, X51, ⟨Lc51, hQ51, l51, y51, z51⟩, st51⟩ := X8.virtualBack hx (y := (⟨"com/example/cheapside/cheapside/core/StoredValue", "equals", "(Ljava/lang/Object;)Z"⟩ : MethodName)) (z := (⟨"com/example/cheapside/cheapside/core/StoredValue", "equals", "(Ljava/lang/Object;)Z"⟩ : MethodName)) hown (mvT hZ (hw _ (List.mem_of_getElem? (i := 21) rfl))) (mvT hZ (hw _ (List.mem_of_getElem? (i := 22) rfl))) (notFace_of_selects (args := #[]) (mvT hZ (hw _ (List.mem_of_getElem? (i := 24) rfl)))) (mvT hZ (hw _ (List.mem_of_getElem? (i := 24) rfl))) (mvT hZ (hw _ (List.mem_of_getElem? (i := 23) rfl))) (by decide) (backOf (W := 0) (rm4n l Z a0 hw [] b1 T8.heap n0 Z8 ) hZ (hw _ (List.mem_of_getElem? (i := 25) rfl)) (hw _ (List.mem_of_getElem? (i := 2) rfl)) (by decide) (by decide)) q51a q51c (g := (mkF m 146 #[.val (.long i0), .second, .val (.long i1), .second, .val (.long i2), .second, .val (.long i3), .second, .val (.int i4), .val (.ref b1), .val (.long c2), .second, .val (.long d2), .second, .val (.ref b5), .val (.ref b_8), .val (.int (2 : Int32)), .unset] [.null, (.ref b1)])) rfl (by rw [hml]; rfl) (Steps.refl _) (argsL := [.null]) (rest := []) (lenOf pd_4 rfl) rfl (by show 2 * 0 + _ ≤ _; exact Nat.le_of_eq rfl) (hb hby at_146) (fun _ _ => ⟨rfl, rfl, (by decide : 3 + 0 ≤ _), (by decide : 5 + 0 ≤ _)⟩)
    dsimp only [Pt.U, Pt.locs, Pt.cells, Pt.slots] at X51 l51 y51 z51 st51 hQ51
    subst l51 y51 z51
    obtain ⟨rfl, N51q, e51⟩ := hQ51
    have N51 := Fr.app N8 N51q
    replace G : Gets p e below _ (T51.setTop (mkF m 149 #[.val (.long i0), .second, .val (.long i1), .second, .val (.long i2), .second, .val (.long i3), .second, .val (.int i4), .val (.ref b1), .val (.long c2), .second, .val (.long d2), .second, .val (.ref b5), .val (.ref b_8), .val (.int (2 : Int32)), .unset] [(.int (0 : Int32))])) := fun t k => G t (st51.trans k)
    have hc149_53 : (0 : Int32) = (0 : Int32) := by decide
    replace G := own_ifNo (q := 152) G X51.here hx (hb hby at_149) ((if0 _ _).trans (teq hc149_53).2) rfl
    replace G := own_iconst (q := 153) G X51.here hx (hb hby at_152) (v := (1 : Int32)) (by decide) rfl
    replace G := own_goto (q := 157) G X51.here hx (hb hby at_153) (by decide) (by decide)
    obtain ⟨fs, hr, hrun, hended, hW, hsame⟩ := X51.leave (v := some (.int (1 : Int32))) (fun h => by rw [Bd.returns] at h; cases h)
    refine ⟨_, _, G _ (retOut X51 hx Bd.returns rfl (Or.inl ⟨rfl, Or.inr (Or.inl rfl), _, rfl⟩) (hb hby at_157) hr), hrun, hended, _, _, rfl, ?_, ⟨_, rfl⟩, hW, hsame.mono (by decide) (by decide)⟩
    show Q0 Z i0 i1 i2 i3 i4 ca h0 n0 _ T51.heap _
    rw [e51]
    exact ⟨rfl, N51⟩
  · replace G := own_istore (q := 67) (l' := #[.val (.long i0), .second, .val (.long i1), .second, .val (.long i2), .second, .val (.long i3), .second, .val (.int i4), .val (.ref b1), .val (.long c2), .second, .val (.long d2), .second, .val (.ref b5), .val (.ref b_8), .val (.int (3 : Int32)), .unset]) G X8.here hx (hb hby at_65) rfl rfl
    replace G := own_iload (q := 69) G X8.here hx (hb hby at_67) rfl rfl
    have hc69_54 : ¬ ((3 : Int32) = (0 : Int32)) := by decide
    replace G := own_ifYes (q := 80) G X8.here hx (hb hby at_69) ((if0 _ _).trans (feq hc69_54).2) (by decide) (by decide)
    replace G := own_iload (q := 82) G X8.here hx (hb hby at_80) rfl rfl
    replace G := own_iconst (q := 83) G X8.here hx (hb hby at_82) (v := (1 : Int32)) (by decide) rfl
    have hc83_55 : ¬ ((3 : Int32) = (1 : Int32)) := by decide
    replace G := own_icmpYes (q := 137) G X8.here hx (hb hby at_83) (feq hc83_55).2 (by decide) (by decide)
    replace G := own_iload (q := 139) G X8.here hx (hb hby at_137) rfl rfl
    replace G := own_iconst (q := 140) G X8.here hx (hb hby at_139) (v := (2 : Int32)) (by decide) rfl
    have hc140_56 : ¬ ((3 : Int32) = (2 : Int32)) := by decide
    replace G := own_icmpYes (q := 158) G X8.here hx (hb hby at_140) (feq hc140_56).2 (by decide) (by decide)
    replace G := own_aload (q := 160) G X8.here hx (hb hby at_158) rfl rfl rfl
    replace G := own_aload (q := 162) G X8.here hx (hb hby at_160) rfl rfl rfl
    have F58 : Exa Z T8.heap b1 "com/example/cheapside/cheapside/core/StoredValue" := ((((A1.keep K2q).ext E5).keep K7q).keep K8q)
    have nel59 : b1 ≠ b_8 := ne_exa F58 B8_0 (by decide)
    obtain ⟨cq57, kq57, q57a, q57b, q57c⟩ := isOf hZ rfl F58
    obtain ⟨_, _, ⟨T57, L57, kk57, nn57⟩, -, X57, ⟨Lc57, hQ57, l57, y57, z57⟩, st57⟩ := X8.virtualBack hx (y := (⟨"com/example/cheapside/cheapside/core/StoredValue", "equals", "(Ljava/lang/Object;)Z"⟩ : MethodName)) (z := (⟨"com/example/cheapside/cheapside/core/StoredValue", "equals", "(Ljava/lang/Object;)Z"⟩ : MethodName)) hown (mvT hZ (hw _ (List.mem_of_getElem? (i := 21) rfl))) (mvT hZ (hw _ (List.mem_of_getElem? (i := 22) rfl))) (notFace_of_selects (args := #[]) (mvT hZ (hw _ (List.mem_of_getElem? (i := 24) rfl)))) (mvT hZ (hw _ (List.mem_of_getElem? (i := 24) rfl))) (mvT hZ (hw _ (List.mem_of_getElem? (i := 23) rfl))) (by decide) (backOf (W := 0) (rm4l l Z a0 hw [] b1 b_8 T8.heap n0 Z8 B8_0 nel59) hZ (hw _ (List.mem_of_getElem? (i := 25) rfl)) (hw _ (List.mem_of_getElem? (i := 2) rfl)) (by decide) (by decide)) q57a q57c (g := (mkF m 162 #[.val (.long i0), .second, .val (.long i1), .second, .val (.long i2), .second, .val (.long i3), .second, .val (.int i4), .val (.ref b1), .val (.long c2), .second, .val (.long d2), .second, .val (.ref b5), .val (.ref b_8), .val (.int (3 : Int32)), .unset] [(.ref b_8), (.ref b1)])) rfl (by rw [hml]; rfl) (Steps.refl _) (argsL := [(.ref b_8)]) (rest := []) (lenOf pd_4 rfl) rfl (by show 2 * 0 + _ ≤ _; exact Nat.le_of_eq rfl) (hb hby at_162) (fun _ _ => ⟨rfl, rfl, (by decide : 3 + 0 ≤ _), (by decide : 5 + 0 ≤ _)⟩)
    dsimp only [Pt.U, Pt.locs, Pt.cells, Pt.slots] at X57 l57 y57 z57 st57 hQ57
    subst l57 y57 z57
    obtain ⟨rfl, N57q, e57⟩ := hQ57
    have N57 := Fr.app N8 N57q
    replace G : Gets p e below _ (T57.setTop (mkF m 165 #[.val (.long i0), .second, .val (.long i1), .second, .val (.long i2), .second, .val (.long i3), .second, .val (.int i4), .val (.ref b1), .val (.long c2), .second, .val (.long d2), .second, .val (.ref b5), .val (.ref b_8), .val (.int (3 : Int32)), .unset] [(.int (0 : Int32))])) := fun t k => G t (st57.trans k)
    have hc165_60 : (0 : Int32) = (0 : Int32) := by decide
    replace G := own_ifNo (q := 168) G X57.here hx (hb hby at_165) ((if0 _ _).trans (teq hc165_60).2) rfl
    replace G := own_iconst (q := 169) G X57.here hx (hb hby at_168) (v := (1 : Int32)) (by decide) rfl
    replace G := own_goto (q := 173) G X57.here hx (hb hby at_169) (by decide) (by decide)
    obtain ⟨fs, hr, hrun, hended, hW, hsame⟩ := X57.leave (v := some (.int (1 : Int32))) (fun h => by rw [Bd.returns] at h; cases h)
    refine ⟨_, _, G _ (retOut X57 hx Bd.returns rfl (Or.inl ⟨rfl, Or.inr (Or.inl rfl), _, rfl⟩) (hb hby at_173) hr), hrun, hended, _, _, rfl, ?_, ⟨_, rfl⟩, hW, hsame.mono (by decide) (by decide)⟩
    show Q0 Z i0 i1 i2 i3 i4 ca h0 n0 _ T57.heap _
    rw [e57]
    exact ⟨rfl, N57⟩
set_option maxRecDepth 65536 in
set_option maxHeartbeats 40000000 in
theorem comes_1 {Post : Tables → Env → Array Value → State → Outcome → State → Prop} (hpost : ∀ tb e args s v u, (limb_1_1.after args s (.returned v) u = true ∧ limb_1_2.after args s (.returned v) u = true ∧ True) → FrameEnd s (.returned v) u (Jvm.fieldLocs frame_1_writes args s ++ Jvm.arrayLocs frame_1_arrays args s ++ Jvm.staticLocs frame_1_statics s) 16 128 → Post tb e args s (.returned v) u) :
    ArmFor flags0 classFile x code maxLocals ret World_1 tables_1 room_1 Calls_1 rest_1 Pre_1 Post := by
  intro l hfl _ _ p e ha hc hk s m args below hf hA hF happ hP
  obtain ⟨hcalls, hrest, hpre⟩ := hP
  obtain ⟨-, -, -, hnamed, -, -, -, hat⟩ := (Spec.applies_iff hf).mp happ
  obtain ⟨hg, hn⟩ := and_e (Cond.before_iff.mp (show (Jvm.Cond.and given_1 narrow_1).before args s = true from hpre))
  obtain ⟨g1, g2⟩ := and_e hg
  obtain ⟨g3, g4⟩ := and_e g2
  obtain ⟨g5, g6⟩ := and_e g4
  obtain ⟨g7, g8⟩ := and_e g6
  obtain ⟨g9, g10⟩ := and_e g8
  obtain ⟨w0, w1, w2, w3, w4, rfl⟩ : ∃ w0 w1 w2 w3 w4 : Value, args = #[w0, w1, w2, w3, w4] := by
    have hs : args.size = 5 := by simpa [Cond.value, given_1] using g1
    obtain ⟨L⟩ := args
    match L, hs with
    | [w0, w1, w2, w3, w4], _ => exact ⟨w0, w1, w2, w3, w4, rfl⟩
  have hw := fun d (hd : d ∈ tables_1) => atoms_spec (ws := Jvm.Cond.code x code maxLocals ret :: tables_1) hat d (List.mem_cons_of_mem _ hd)
  have hfit : Fit s := fun {y c} hc i hi => by
    obtain ⟨ha, rfl⟩ := Array.getElem?_eq_some_iff.mp hc
    have q := List.all_eq_true.mp ((Array.all_eq_true_iff_forall_mem.mp hF) _ (Array.getElem_mem ha)) i (List.mem_range.mpr hi)
    simpa [Array.getElem?_eq_getElem hi] using q
  obtain ⟨hsets, hown0⟩ := atoms_of _ (rest_1_c_eq ▸ (show rest_1_c.before _ s = true from hrest))
  have hr0 := Cond.before_iff.mp hown0
  obtain ⟨i0, ei0⟩ := isL_v g3
  obtain rfl : w0 = (.long i0) := Option.some.inj ei0
  obtain ⟨i1, ei1⟩ := isL_v g5
  obtain rfl : w1 = (.long i1) := Option.some.inj ei1
  obtain ⟨i2, ei2⟩ := isL_v g7
  obtain rfl : w2 = (.long i2) := Option.some.inj ei2
  obtain ⟨i3, ei3⟩ := isL_v g9
  obtain rfl : w3 = (.long i3) := Option.some.inj ei3
  obtain ⟨i4, ei4⟩ := is_v g10
  obtain rfl : w4 = (.int i4) := Option.some.inj ei4
  obtain ⟨ca, eca⟩ := exa_v (Cond.before_iff.mp (hsets _ (List.mem_of_getElem? (i := 3) rfl)))
  have Sca := Sta.start eca (Or.inl (hsets _ (List.mem_of_getElem? (i := 1) rfl)))
  have Kca := own_cstart hfit eca (fun i => eca) (Cond.before_iff.mp (hsets _ (List.mem_of_getElem? (i := 2) rfl))) (Cond.before_iff.mp (hsets _ (List.mem_of_getElem? (i := 4) rfl))) (Cond.before_iff.mp (hsets _ (List.mem_of_getElem? (i := 5) rfl)))
  obtain ⟨n, o, h1, h2, h3, _, L, rfl, ⟨rfl, N⟩, hq⟩ := rm0 l s _ hw tables_1 i0 i1 i2 i3 i4 ca s.heap s.heap.size (Nat.le_refl _) (Old.start s) Sca Kca p e ha hc hk s m _ below hf ((Spec.applies_iff_loose hf).mp happ).1 ⟨rfl, State.Warmed39.refl s, rfl⟩ trivial
  refine ⟨n, _, h1, h2, h3, hpost _ _ _ _ _ _ ⟨Cond.after_iff.mpr rfl, Cond.after_iff.mpr (eq_i res_at (Term.int_eval (1)) rfl), trivial⟩ ⟨hq.1, hq.2.1, (hq.2.2.sift fun y hy => Or.inr (N y hy)).mono (by decide) (by decide)⟩⟩
theorem main_1_1 : Claimed_1_1 := comes_1 fun _ _ _ _ _ _ h hF => ⟨h.1, hF⟩
theorem main_1_2 : Claimed_1_2 := comes_1 fun _ _ _ _ _ _ h hF => ⟨h.2.1, hF⟩
end Jvm.Pilot.@@N@@
namespace Jvm.Pilot.@@N@@
open Jvm Jvm.ClassFile Sem Op Lib Jvm.Free Jvm.Stand Jvm.Pilot.@@N@@.Jvm.D
/-! MADE BY PROGRAM (witnessworld.py) out of the Statement's table words and the real class files: 16 classes; the members and pool entries that the words name. The judged class is class 1, her method 1. -/
namespace start1
open Jvm.ClassFile
def u (s : String) : CpInfo := .utf8 (stringToUtf16 s)
/-- a pool by its gaps: so many unusable entries, then the entry; so many at the end -/
def gap : Nat → List CpInfo → List CpInfo
  | 0, r => r
  | n + 1, r => .unusable :: gap n r
def poolList (es : List (Nat × CpInfo)) (last : Nat) : List CpInfo := es.foldr (fun e r => gap e.1 (e.2 :: r)) (gap last [])
def pool (es : List (Nat × CpInfo)) (last : Nat) : Array CpInfo := ⟨poolList es last⟩
def fileOf (pool : Array CpInfo) (this : Nat) (attrs : Array Attribute := #[]) (ms : Array MethodInfo := #[]) (fl : Nat := 33) (sup : Nat := 0) (ifs : Array Nat := #[]) (fds : Array FieldInfo := #[]) : ClassFile where
  minorVersion := 0
  majorVersion := 65
  constantPool := pool
  accessFlags := fl
  thisClass := this
  superClass := sup
  interfaces := ifs
  fields := fds
  methods := ms
  attributes := attrs
def plain (name : String) (sup : Option ClassId) : Class where
  name := name
  kind := .ordinary
  loader := none
  accessFlags := 33
  super := sup
  interfaces := #[]
  cf := none
  fields := #[]
  methods := #[]
  instanceTypes := #[]
  staticTypes := #[]
  resolved := #[]
  callSites := []
  init := .initialized
  statics := none
  mirror := none

def pool0 : Array CpInfo := pool [(5, u "<init>"), (0, u "()V"), (1, .class_ 10), (1, u "java/lang/Object")] 113

def k0c0 : Code := { maxStack := 0, maxLocals := 1, code := object_method_1_code, exceptionTable := #[], attributes := #[] }
def k0m0 : Method := { name := "<init>", desc := "()V", sig := { parameters := [], returnType := none }, accessFlags := 1, code := some k0c0 }
/-- java/lang/Object -/
def k0 : Class := { plain "java/lang/Object" none with
  accessFlags := 33
  interfaces := #[]
  cf := some (fileOf pool0 8 #[] #[{ accessFlags := 1, nameIndex := 5, descriptorIndex := 6, attributes := #[] }] 33 0 #[] #[])
  fields := #[]
  methods := #[k0m0]
  instanceTypes := #[]
  staticTypes := #[]
  resolved := Array.replicate 124 none
  statics := none }

def pool1 : Array CpInfo := pool [(2, .class_ 4), (1, u "java/lang/Object"), (0, u "<init>"), (0, u "()V"), (0, .class_ 8), (0, u "com/example/cheapside/cheapside/core/StoredValue"), (0, .methodref 7 10), (0, .nameAndType 5 11), (0, u "(JJ)V"), (0, .methodref 13 14), (0, .class_ 15), (0, .nameAndType 16 17), (0, u "java/lang/Long"), (0, u "valueOf"), (0, u "(J)Ljava/lang/Long;"), (0, .methodref 7 19), (0, .nameAndType 20 21), (0, u "equals"), (0, u "(Ljava/lang/Object;)Z"), (0, .class_ 23), (0, u "com/example/cheapside/cheapside/core/StoredValueEqualsPinLaw"), (2, u "law"), (0, u "(JJJJI)Z")] 3

def k1m0 : Method := { name := "<init>", desc := "()V", sig := { parameters := [], returnType := none }, accessFlags := 1, code := none }
def k1c1 : Code := { maxStack := 6, maxLocals := 18, code := code, exceptionTable := #[], attributes := #[] }
def k1m1 : Method := { name := "law", desc := "(JJJJI)Z", sig := { parameters := [.long, .long, .long, .long, .int], returnType := some .boolean }, accessFlags := 9, code := some k1c1 }
/-- com/example/cheapside/cheapside/core/StoredValueEqualsPinLaw -/
def k1 : Class := { plain "com/example/cheapside/cheapside/core/StoredValueEqualsPinLaw" (some 0) with
  accessFlags := 49
  interfaces := #[]
  cf := some (fileOf pool1 22 #[] #[{ accessFlags := 1, nameIndex := 5, descriptorIndex := 6, attributes := #[] }, { accessFlags := 9, nameIndex := 26, descriptorIndex := 27, attributes := #[] }] 49 2 #[] #[])
  fields := #[]
  methods := #[k1m0, k1m1]
  instanceTypes := #[]
  staticTypes := #[]
  resolved := Array.replicate 31 none
  statics := none }

def pool2 : Array CpInfo := pool [(1, .methodref 2 3), (0, .class_ 4), (0, .nameAndType 5 6), (0, u "java/lang/Object"), (0, u "<init>"), (0, u "()V"), (0, .fieldref 8 9), (0, .class_ 10), (0, .nameAndType 11 12), (0, u "com/example/cheapside/cheapside/core/StoredValue"), (0, u "value"), (0, u "J"), (0, .fieldref 8 14), (0, .nameAndType 15 12), (0, u "writtenThrough"), (10, u "(JJ)V"), (5, u "equals"), (0, u "(Ljava/lang/Object;)Z")] 21

def k2c0 : Code := { maxStack := 3, maxLocals := 5, code := prog_20_method_1_code, exceptionTable := #[], attributes := #[] }
def k2m0 : Method := { name := "<init>", desc := "(JJ)V", sig := { parameters := [.long, .long], returnType := none }, accessFlags := 1, code := some k2c0 }
def k2c1 : Code := { maxStack := 4, maxLocals := 3, code := prog_20_method_4_code, exceptionTable := #[], attributes := #[] }
def k2m1 : Method := { name := "equals", desc := "(Ljava/lang/Object;)Z", sig := { parameters := [(.object "java/lang/Object")], returnType := some .boolean }, accessFlags := 1, code := some k2c1 }
/-- com/example/cheapside/cheapside/core/StoredValue -/
def k2 : Class := { plain "com/example/cheapside/cheapside/core/StoredValue" (some 0) with
  accessFlags := 49
  interfaces := #[]
  cf := some (fileOf pool2 8 #[] #[{ accessFlags := 1, nameIndex := 5, descriptorIndex := 26, attributes := #[] }, { accessFlags := 1, nameIndex := 32, descriptorIndex := 33, attributes := #[] }] 49 2 #[] #[{ accessFlags := 18, nameIndex := 11, descriptorIndex := 12, attributes := #[] }, { accessFlags := 18, nameIndex := 15, descriptorIndex := 12, attributes := #[] }])
  fields := #[{ name := "value", type := .long, accessFlags := 18, slot := 0, constantValue := 0 }, { name := "writtenThrough", type := .long, accessFlags := 18, slot := 1, constantValue := 0 }]
  methods := #[k2m0, k2m1]
  instanceTypes := #[.long, .long]
  staticTypes := #[]
  resolved := Array.replicate 55 none
  statics := none }

def pool3 : Array CpInfo := pool [(1, .class_ 2), (0, u "java/io/Serializable"), (0, .class_ 4), (0, u "java/lang/Object")] 2

/-- java/io/Serializable -/
def k3 : Class := { plain "java/io/Serializable" (some 0) with
  accessFlags := 1537
  interfaces := #[]
  cf := some (fileOf pool3 1 #[] #[] 1537 3 #[] #[])
  fields := #[]
  methods := #[]
  instanceTypes := #[]
  staticTypes := #[]
  resolved := Array.replicate 7 none
  statics := none }

def pool4 : Array CpInfo := pool [(1, .methodref 2 3), (0, .class_ 4), (0, .nameAndType 5 6), (0, u "java/lang/Object"), (0, u "<init>"), (0, u "()V"), (1, .class_ 10), (1, u "java/lang/Number"), (2, .class_ 14), (0, u "java/io/Serializable"), (0, u "serialVersionUID"), (0, u "J")] 20

def k4c0 : Code := { maxStack := 1, maxLocals := 1, code := jdk_18_method_1_code, exceptionTable := #[], attributes := #[] }
def k4m0 : Method := { name := "<init>", desc := "()V", sig := { parameters := [], returnType := none }, accessFlags := 1, code := some k4c0 }
/-- java/lang/Number -/
def k4 : Class := { plain "java/lang/Number" (some 0) with
  accessFlags := 1057
  interfaces := #[3]
  cf := some (fileOf pool4 8 #[] #[{ accessFlags := 1, nameIndex := 5, descriptorIndex := 6, attributes := #[] }] 1057 2 #[13] #[{ accessFlags := 26, nameIndex := 15, descriptorIndex := 16, attributes := #[] }])
  fields := #[{ name := "serialVersionUID", type := .long, accessFlags := 26, slot := 0, constantValue := 0 }]
  methods := #[k4m0]
  instanceTypes := #[]
  staticTypes := #[.long]
  resolved := Array.replicate 37 none
  statics := none }

def pool5 : Array CpInfo := pool [(1, .class_ 2), (0, u "java/lang/Comparable"), (0, .class_ 4), (0, u "java/lang/Object")] 7

/-- java/lang/Comparable -/
def k5 : Class := { plain "java/lang/Comparable" (some 0) with
  accessFlags := 1537
  interfaces := #[]
  cf := some (fileOf pool5 1 #[] #[] 1537 3 #[] #[])
  fields := #[]
  methods := #[]
  instanceTypes := #[]
  staticTypes := #[]
  resolved := Array.replicate 12 none
  statics := none }

def pool6 : Array CpInfo := pool [(1, .class_ 2), (0, u "java/lang/constant/Constable"), (0, .class_ 4), (0, u "java/lang/Object")] 6

/-- java/lang/constant/Constable -/
def k6 : Class := { plain "java/lang/constant/Constable" (some 0) with
  accessFlags := 1537
  interfaces := #[]
  cf := some (fileOf pool6 1 #[] #[] 1537 3 #[] #[])
  fields := #[]
  methods := #[]
  instanceTypes := #[]
  staticTypes := #[]
  resolved := Array.replicate 11 none
  statics := none }

def pool7 : Array CpInfo := pool [(1, .class_ 2), (0, u "java/lang/constant/ConstantDesc"), (0, .class_ 4), (0, u "java/lang/Object")] 32

/-- java/lang/constant/ConstantDesc -/
def k7 : Class := { plain "java/lang/constant/ConstantDesc" (some 0) with
  accessFlags := 1537
  interfaces := #[]
  cf := some (fileOf pool7 1 #[] #[] 1537 3 #[] #[])
  fields := #[]
  methods := #[]
  instanceTypes := #[]
  staticTypes := #[]
  resolved := Array.replicate 37 none
  statics := none }

def pool8 : Array CpInfo := pool [(1, .class_ 2), (0, u "java/lang/Long"), (55, .nameAndType 59 60), (0, u "<init>"), (0, u "()V"), (24, u "valueOf"), (143, u "(J)Ljava/lang/Long;"), (0, .long 18446744073709551488), (1, .long 127), (1, .fieldref 235 236), (0, .class_ 237), (0, .nameAndType 238 239), (0, u "java/lang/Long$LongCache"), (0, u "cache"), (0, u "[Ljava/lang/Long;"), (0, .methodref 1 241), (0, .nameAndType 59 242), (0, u "(J)V"), (27, .methodref 271 58), (0, .class_ 272), (0, u "java/lang/Number"), (0, .fieldref 1 274), (0, .nameAndType 275 276), (0, u "value"), (0, u "J"), (84, u "TYPE"), (0, u "Ljava/lang/Class;"), (0, .class_ 364), (0, u "java/lang/Comparable"), (0, .class_ 366), (0, u "java/lang/constant/Constable"), (0, .class_ 368), (0, u "java/lang/constant/ConstantDesc"), (0, u "MIN_VALUE"), (1, u "MAX_VALUE"), (4, u "SIZE"), (0, u "I"), (1, u "BYTES"), (1, u "serialVersionUID")] 142

def k8c0 : Code := { maxStack := 4, maxLocals := 3, code := jdk_35_method_24_code, exceptionTable := #[], attributes := #[] }
def k8m0 : Method := { name := "valueOf", desc := "(J)Ljava/lang/Long;", sig := { parameters := [.long], returnType := some (.object "java/lang/Long") }, accessFlags := 9, code := some k8c0 }
def k8c1 : Code := { maxStack := 3, maxLocals := 3, code := jdk_35_method_26_code, exceptionTable := #[], attributes := #[] }
def k8m1 : Method := { name := "<init>", desc := "(J)V", sig := { parameters := [.long], returnType := none }, accessFlags := 1, code := some k8c1 }
/-- java/lang/Long -/
def k8 : Class := { plain "java/lang/Long" (some 4) with
  accessFlags := 49
  interfaces := #[5, 6, 7]
  cf := some (fileOf pool8 1 #[.nestMembers #[235]] #[{ accessFlags := 9, nameIndex := 85, descriptorIndex := 229, attributes := #[] }, { accessFlags := 1, nameIndex := 59, descriptorIndex := 242, attributes := #[] }] 49 271 #[363, 365, 367] #[{ accessFlags := 25, nameIndex := 369, descriptorIndex := 276, attributes := #[] }, { accessFlags := 25, nameIndex := 371, descriptorIndex := 276, attributes := #[] }, { accessFlags := 25, nameIndex := 361, descriptorIndex := 362, attributes := #[] }, { accessFlags := 18, nameIndex := 275, descriptorIndex := 276, attributes := #[] }, { accessFlags := 25, nameIndex := 376, descriptorIndex := 377, attributes := #[] }, { accessFlags := 25, nameIndex := 379, descriptorIndex := 377, attributes := #[] }, { accessFlags := 26, nameIndex := 381, descriptorIndex := 276, attributes := #[] }])
  fields := #[{ name := "MIN_VALUE", type := .long, accessFlags := 25, slot := 0, constantValue := 0 }, { name := "MAX_VALUE", type := .long, accessFlags := 25, slot := 1, constantValue := 0 }, { name := "TYPE", type := (.object "java/lang/Class"), accessFlags := 25, slot := 2, constantValue := 0 }, { name := "value", type := .long, accessFlags := 18, slot := 0, constantValue := 0 }, { name := "SIZE", type := .int, accessFlags := 25, slot := 3, constantValue := 0 }, { name := "BYTES", type := .int, accessFlags := 25, slot := 4, constantValue := 0 }, { name := "serialVersionUID", type := .long, accessFlags := 26, slot := 5, constantValue := 0 }]
  methods := #[k8m0, k8m1]
  instanceTypes := #[.long]
  staticTypes := #[.long, .long, (.object "java/lang/Class"), .int, .int, .long]
  resolved := Array.replicate 524 none
  statics := none }

def pool9 : Array CpInfo := pool [(2, .class_ 4), (1, u "java/lang/Object"), (0, u "<init>"), (0, u "()V"), (0, .class_ 8), (0, u "java/lang/Long"), (7, .class_ 18), (1, u "java/lang/Long$LongCache"), (0, u "$assertionsDisabled"), (0, u "Z"), (8, u "archivedCache"), (0, u "[Ljava/lang/Long;"), (7, u "cache")] 24

def k9m0 : Method := { name := "<init>", desc := "()V", sig := { parameters := [], returnType := none }, accessFlags := 2, code := none }
/-- java/lang/Long$LongCache -/
def k9 : Class := { plain "java/lang/Long$LongCache" (some 0) with
  accessFlags := 48
  interfaces := #[]
  cf := some (fileOf pool9 16 #[.nestHost 7] #[{ accessFlags := 2, nameIndex := 5, descriptorIndex := 6, attributes := #[] }] 48 2 #[] #[{ accessFlags := 24, nameIndex := 38, descriptorIndex := 30, attributes := #[] }, { accessFlags := 8, nameIndex := 29, descriptorIndex := 30, attributes := #[] }, { accessFlags := 4120, nameIndex := 19, descriptorIndex := 20, attributes := #[] }])
  fields := #[{ name := "cache", type := (.array (.object "java/lang/Long")), accessFlags := 24, slot := 0, constantValue := 0 }, { name := "archivedCache", type := (.array (.object "java/lang/Long")), accessFlags := 8, slot := 1, constantValue := 0 }, { name := "$assertionsDisabled", type := .boolean, accessFlags := 4120, slot := 2, constantValue := 0 }]
  methods := #[k9m0]
  instanceTypes := #[]
  staticTypes := #[(.array (.object "java/lang/Long")), (.array (.object "java/lang/Long")), .boolean]
  resolved := Array.replicate 63 none
  statics := some 0 }

def pool10 : Array CpInfo := pool [(1, u "java/lang/Cloneable"), (0, .class_ 1), (0, u "java/lang/Object"), (0, .class_ 3)] 3

/-- java/lang/Cloneable -/
def k10 : Class := { plain "java/lang/Cloneable" (some 0) with
  accessFlags := 1537
  interfaces := #[]
  cf := some (fileOf pool10 2 #[] #[] 1537 4 #[] #[])
  fields := #[]
  methods := #[]
  instanceTypes := #[]
  staticTypes := #[]
  resolved := Array.replicate 8 none
  statics := none }

/-- the primitive byte -/
def k11 : Class := { plain "byte" none with kind := .primitive 'B', accessFlags := 0x411 }
/-- [B -/
def k12 : Class := { plain "[B" (some 0) with kind := .array 11 .byte, interfaces := #[10, 3], accessFlags := 1041 }

/-- the primitive int -/
def k13 : Class := { plain "int" none with kind := .primitive 'I', accessFlags := 0x411 }
/-- [I -/
def k14 : Class := { plain "[I" (some 0) with kind := .array 13 .int, interfaces := #[10, 3], accessFlags := 1041 }

/-- [Ljava/lang/Long; -/
def k15 : Class := { plain "[Ljava/lang/Long;" (some 0) with kind := .array 8 (.object "java/lang/Long"), interfaces := #[10, 3], accessFlags := 1041 }

def heap : Heap := #[{ cls := 9, slots := #[.ref 1, .null, .int 0], vm := .statics 9 },
  { cls := 15, slots := #[.ref 2, .ref 3, .ref 4, .ref 5, .ref 6, .ref 7, .ref 8, .ref 9, .ref 10, .ref 11, .ref 12, .ref 13, .ref 14, .ref 15, .ref 16, .ref 17, .ref 18, .ref 19, .ref 20, .ref 21, .ref 22, .ref 23, .ref 24, .ref 25, .ref 26, .ref 27, .ref 28, .ref 29, .ref 30, .ref 31, .ref 32, .ref 33, .ref 34, .ref 35, .ref 36, .ref 37, .ref 38, .ref 39, .ref 40, .ref 41, .ref 42, .ref 43, .ref 44, .ref 45, .ref 46, .ref 47, .ref 48, .ref 49, .ref 50, .ref 51, .ref 52, .ref 53, .ref 54, .ref 55, .ref 56, .ref 57, .ref 58, .ref 59, .ref 60, .ref 61, .ref 62, .ref 63, .ref 64, .ref 65, .ref 66, .ref 67, .ref 68, .ref 69, .ref 70, .ref 71, .ref 72, .ref 73, .ref 74, .ref 75, .ref 76, .ref 77, .ref 78, .ref 79, .ref 80, .ref 81, .ref 82, .ref 83, .ref 84, .ref 85, .ref 86, .ref 87, .ref 88, .ref 89, .ref 90, .ref 91, .ref 92, .ref 93, .ref 94, .ref 95, .ref 96, .ref 97, .ref 98, .ref 99, .ref 100, .ref 101, .ref 102, .ref 103, .ref 104, .ref 105, .ref 106, .ref 107, .ref 108, .ref 109, .ref 110, .ref 111, .ref 112, .ref 113, .ref 114, .ref 115, .ref 116, .ref 117, .ref 118, .ref 119, .ref 120, .ref 121, .ref 122, .ref 123, .ref 124, .ref 125, .ref 126, .ref 127, .ref 128, .ref 129, .ref 130, .ref 131, .ref 132, .ref 133, .ref 134, .ref 135, .ref 136, .ref 137, .ref 138, .ref 139, .ref 140, .ref 141, .ref 142, .ref 143, .ref 144, .ref 145, .ref 146, .ref 147, .ref 148, .ref 149, .ref 150, .ref 151, .ref 152, .ref 153, .ref 154, .ref 155, .ref 156, .ref 157, .ref 158, .ref 159, .ref 160, .ref 161, .ref 162, .ref 163, .ref 164, .ref 165, .ref 166, .ref 167, .ref 168, .ref 169, .ref 170, .ref 171, .ref 172, .ref 173, .ref 174, .ref 175, .ref 176, .ref 177, .ref 178, .ref 179, .ref 180, .ref 181, .ref 182, .ref 183, .ref 184, .ref 185, .ref 186, .ref 187, .ref 188, .ref 189, .ref 190, .ref 191, .ref 192, .ref 193, .ref 194, .ref 195, .ref 196, .ref 197, .ref 198, .ref 199, .ref 200, .ref 201, .ref 202, .ref 203, .ref 204, .ref 205, .ref 206, .ref 207, .ref 208, .ref 209, .ref 210, .ref 211, .ref 212, .ref 213, .ref 214, .ref 215, .ref 216, .ref 217, .ref 218, .ref 219, .ref 220, .ref 221, .ref 222, .ref 223, .ref 224, .ref 225, .ref 226, .ref 227, .ref 228, .ref 229, .ref 230, .ref 231, .ref 232, .ref 233, .ref 234, .ref 235, .ref 236, .ref 237, .ref 238, .ref 239, .ref 240, .ref 241, .ref 242, .ref 243, .ref 244, .ref 245, .ref 246, .ref 247, .ref 248, .ref 249, .ref 250, .ref 251, .ref 252, .ref 253, .ref 254, .ref 255, .ref 256, .ref 257], vm := .none },
  { cls := 8, slots := #[.long (-128)], vm := .none },
  { cls := 8, slots := #[.long (-127)], vm := .none },
  { cls := 8, slots := #[.long (-126)], vm := .none },
  { cls := 8, slots := #[.long (-125)], vm := .none },
  { cls := 8, slots := #[.long (-124)], vm := .none },
  { cls := 8, slots := #[.long (-123)], vm := .none },
  { cls := 8, slots := #[.long (-122)], vm := .none },
  { cls := 8, slots := #[.long (-121)], vm := .none },
  { cls := 8, slots := #[.long (-120)], vm := .none },
  { cls := 8, slots := #[.long (-119)], vm := .none },
  { cls := 8, slots := #[.long (-118)], vm := .none },
  { cls := 8, slots := #[.long (-117)], vm := .none },
  { cls := 8, slots := #[.long (-116)], vm := .none },
  { cls := 8, slots := #[.long (-115)], vm := .none },
  { cls := 8, slots := #[.long (-114)], vm := .none },
  { cls := 8, slots := #[.long (-113)], vm := .none },
  { cls := 8, slots := #[.long (-112)], vm := .none },
  { cls := 8, slots := #[.long (-111)], vm := .none },
  { cls := 8, slots := #[.long (-110)], vm := .none },
  { cls := 8, slots := #[.long (-109)], vm := .none },
  { cls := 8, slots := #[.long (-108)], vm := .none },
  { cls := 8, slots := #[.long (-107)], vm := .none },
  { cls := 8, slots := #[.long (-106)], vm := .none },
  { cls := 8, slots := #[.long (-105)], vm := .none },
  { cls := 8, slots := #[.long (-104)], vm := .none },
  { cls := 8, slots := #[.long (-103)], vm := .none },
  { cls := 8, slots := #[.long (-102)], vm := .none },
  { cls := 8, slots := #[.long (-101)], vm := .none },
  { cls := 8, slots := #[.long (-100)], vm := .none },
  { cls := 8, slots := #[.long (-99)], vm := .none },
  { cls := 8, slots := #[.long (-98)], vm := .none },
  { cls := 8, slots := #[.long (-97)], vm := .none },
  { cls := 8, slots := #[.long (-96)], vm := .none },
  { cls := 8, slots := #[.long (-95)], vm := .none },
  { cls := 8, slots := #[.long (-94)], vm := .none },
  { cls := 8, slots := #[.long (-93)], vm := .none },
  { cls := 8, slots := #[.long (-92)], vm := .none },
  { cls := 8, slots := #[.long (-91)], vm := .none },
  { cls := 8, slots := #[.long (-90)], vm := .none },
  { cls := 8, slots := #[.long (-89)], vm := .none },
  { cls := 8, slots := #[.long (-88)], vm := .none },
  { cls := 8, slots := #[.long (-87)], vm := .none },
  { cls := 8, slots := #[.long (-86)], vm := .none },
  { cls := 8, slots := #[.long (-85)], vm := .none },
  { cls := 8, slots := #[.long (-84)], vm := .none },
  { cls := 8, slots := #[.long (-83)], vm := .none },
  { cls := 8, slots := #[.long (-82)], vm := .none },
  { cls := 8, slots := #[.long (-81)], vm := .none },
  { cls := 8, slots := #[.long (-80)], vm := .none },
  { cls := 8, slots := #[.long (-79)], vm := .none },
  { cls := 8, slots := #[.long (-78)], vm := .none },
  { cls := 8, slots := #[.long (-77)], vm := .none },
  { cls := 8, slots := #[.long (-76)], vm := .none },
  { cls := 8, slots := #[.long (-75)], vm := .none },
  { cls := 8, slots := #[.long (-74)], vm := .none },
  { cls := 8, slots := #[.long (-73)], vm := .none },
  { cls := 8, slots := #[.long (-72)], vm := .none },
  { cls := 8, slots := #[.long (-71)], vm := .none },
  { cls := 8, slots := #[.long (-70)], vm := .none },
  { cls := 8, slots := #[.long (-69)], vm := .none },
  { cls := 8, slots := #[.long (-68)], vm := .none },
  { cls := 8, slots := #[.long (-67)], vm := .none },
  { cls := 8, slots := #[.long (-66)], vm := .none },
  { cls := 8, slots := #[.long (-65)], vm := .none },
  { cls := 8, slots := #[.long (-64)], vm := .none },
  { cls := 8, slots := #[.long (-63)], vm := .none },
  { cls := 8, slots := #[.long (-62)], vm := .none },
  { cls := 8, slots := #[.long (-61)], vm := .none },
  { cls := 8, slots := #[.long (-60)], vm := .none },
  { cls := 8, slots := #[.long (-59)], vm := .none },
  { cls := 8, slots := #[.long (-58)], vm := .none },
  { cls := 8, slots := #[.long (-57)], vm := .none },
  { cls := 8, slots := #[.long (-56)], vm := .none },
  { cls := 8, slots := #[.long (-55)], vm := .none },
  { cls := 8, slots := #[.long (-54)], vm := .none },
  { cls := 8, slots := #[.long (-53)], vm := .none },
  { cls := 8, slots := #[.long (-52)], vm := .none },
  { cls := 8, slots := #[.long (-51)], vm := .none },
  { cls := 8, slots := #[.long (-50)], vm := .none },
  { cls := 8, slots := #[.long (-49)], vm := .none },
  { cls := 8, slots := #[.long (-48)], vm := .none },
  { cls := 8, slots := #[.long (-47)], vm := .none },
  { cls := 8, slots := #[.long (-46)], vm := .none },
  { cls := 8, slots := #[.long (-45)], vm := .none },
  { cls := 8, slots := #[.long (-44)], vm := .none },
  { cls := 8, slots := #[.long (-43)], vm := .none },
  { cls := 8, slots := #[.long (-42)], vm := .none },
  { cls := 8, slots := #[.long (-41)], vm := .none },
  { cls := 8, slots := #[.long (-40)], vm := .none },
  { cls := 8, slots := #[.long (-39)], vm := .none },
  { cls := 8, slots := #[.long (-38)], vm := .none },
  { cls := 8, slots := #[.long (-37)], vm := .none },
  { cls := 8, slots := #[.long (-36)], vm := .none },
  { cls := 8, slots := #[.long (-35)], vm := .none },
  { cls := 8, slots := #[.long (-34)], vm := .none },
  { cls := 8, slots := #[.long (-33)], vm := .none },
  { cls := 8, slots := #[.long (-32)], vm := .none },
  { cls := 8, slots := #[.long (-31)], vm := .none },
  { cls := 8, slots := #[.long (-30)], vm := .none },
  { cls := 8, slots := #[.long (-29)], vm := .none },
  { cls := 8, slots := #[.long (-28)], vm := .none },
  { cls := 8, slots := #[.long (-27)], vm := .none },
  { cls := 8, slots := #[.long (-26)], vm := .none },
  { cls := 8, slots := #[.long (-25)], vm := .none },
  { cls := 8, slots := #[.long (-24)], vm := .none },
  { cls := 8, slots := #[.long (-23)], vm := .none },
  { cls := 8, slots := #[.long (-22)], vm := .none },
  { cls := 8, slots := #[.long (-21)], vm := .none },
  { cls := 8, slots := #[.long (-20)], vm := .none },
  { cls := 8, slots := #[.long (-19)], vm := .none },
  { cls := 8, slots := #[.long (-18)], vm := .none },
  { cls := 8, slots := #[.long (-17)], vm := .none },
  { cls := 8, slots := #[.long (-16)], vm := .none },
  { cls := 8, slots := #[.long (-15)], vm := .none },
  { cls := 8, slots := #[.long (-14)], vm := .none },
  { cls := 8, slots := #[.long (-13)], vm := .none },
  { cls := 8, slots := #[.long (-12)], vm := .none },
  { cls := 8, slots := #[.long (-11)], vm := .none },
  { cls := 8, slots := #[.long (-10)], vm := .none },
  { cls := 8, slots := #[.long (-9)], vm := .none },
  { cls := 8, slots := #[.long (-8)], vm := .none },
  { cls := 8, slots := #[.long (-7)], vm := .none },
  { cls := 8, slots := #[.long (-6)], vm := .none },
  { cls := 8, slots := #[.long (-5)], vm := .none },
  { cls := 8, slots := #[.long (-4)], vm := .none },
  { cls := 8, slots := #[.long (-3)], vm := .none },
  { cls := 8, slots := #[.long (-2)], vm := .none },
  { cls := 8, slots := #[.long (-1)], vm := .none },
  { cls := 8, slots := #[.long 0], vm := .none },
  { cls := 8, slots := #[.long 1], vm := .none },
  { cls := 8, slots := #[.long 2], vm := .none },
  { cls := 8, slots := #[.long 3], vm := .none },
  { cls := 8, slots := #[.long 4], vm := .none },
  { cls := 8, slots := #[.long 5], vm := .none },
  { cls := 8, slots := #[.long 6], vm := .none },
  { cls := 8, slots := #[.long 7], vm := .none },
  { cls := 8, slots := #[.long 8], vm := .none },
  { cls := 8, slots := #[.long 9], vm := .none },
  { cls := 8, slots := #[.long 10], vm := .none },
  { cls := 8, slots := #[.long 11], vm := .none },
  { cls := 8, slots := #[.long 12], vm := .none },
  { cls := 8, slots := #[.long 13], vm := .none },
  { cls := 8, slots := #[.long 14], vm := .none },
  { cls := 8, slots := #[.long 15], vm := .none },
  { cls := 8, slots := #[.long 16], vm := .none },
  { cls := 8, slots := #[.long 17], vm := .none },
  { cls := 8, slots := #[.long 18], vm := .none },
  { cls := 8, slots := #[.long 19], vm := .none },
  { cls := 8, slots := #[.long 20], vm := .none },
  { cls := 8, slots := #[.long 21], vm := .none },
  { cls := 8, slots := #[.long 22], vm := .none },
  { cls := 8, slots := #[.long 23], vm := .none },
  { cls := 8, slots := #[.long 24], vm := .none },
  { cls := 8, slots := #[.long 25], vm := .none },
  { cls := 8, slots := #[.long 26], vm := .none },
  { cls := 8, slots := #[.long 27], vm := .none },
  { cls := 8, slots := #[.long 28], vm := .none },
  { cls := 8, slots := #[.long 29], vm := .none },
  { cls := 8, slots := #[.long 30], vm := .none },
  { cls := 8, slots := #[.long 31], vm := .none },
  { cls := 8, slots := #[.long 32], vm := .none },
  { cls := 8, slots := #[.long 33], vm := .none },
  { cls := 8, slots := #[.long 34], vm := .none },
  { cls := 8, slots := #[.long 35], vm := .none },
  { cls := 8, slots := #[.long 36], vm := .none },
  { cls := 8, slots := #[.long 37], vm := .none },
  { cls := 8, slots := #[.long 38], vm := .none },
  { cls := 8, slots := #[.long 39], vm := .none },
  { cls := 8, slots := #[.long 40], vm := .none },
  { cls := 8, slots := #[.long 41], vm := .none },
  { cls := 8, slots := #[.long 42], vm := .none },
  { cls := 8, slots := #[.long 43], vm := .none },
  { cls := 8, slots := #[.long 44], vm := .none },
  { cls := 8, slots := #[.long 45], vm := .none },
  { cls := 8, slots := #[.long 46], vm := .none },
  { cls := 8, slots := #[.long 47], vm := .none },
  { cls := 8, slots := #[.long 48], vm := .none },
  { cls := 8, slots := #[.long 49], vm := .none },
  { cls := 8, slots := #[.long 50], vm := .none },
  { cls := 8, slots := #[.long 51], vm := .none },
  { cls := 8, slots := #[.long 52], vm := .none },
  { cls := 8, slots := #[.long 53], vm := .none },
  { cls := 8, slots := #[.long 54], vm := .none },
  { cls := 8, slots := #[.long 55], vm := .none },
  { cls := 8, slots := #[.long 56], vm := .none },
  { cls := 8, slots := #[.long 57], vm := .none },
  { cls := 8, slots := #[.long 58], vm := .none },
  { cls := 8, slots := #[.long 59], vm := .none },
  { cls := 8, slots := #[.long 60], vm := .none },
  { cls := 8, slots := #[.long 61], vm := .none },
  { cls := 8, slots := #[.long 62], vm := .none },
  { cls := 8, slots := #[.long 63], vm := .none },
  { cls := 8, slots := #[.long 64], vm := .none },
  { cls := 8, slots := #[.long 65], vm := .none },
  { cls := 8, slots := #[.long 66], vm := .none },
  { cls := 8, slots := #[.long 67], vm := .none },
  { cls := 8, slots := #[.long 68], vm := .none },
  { cls := 8, slots := #[.long 69], vm := .none },
  { cls := 8, slots := #[.long 70], vm := .none },
  { cls := 8, slots := #[.long 71], vm := .none },
  { cls := 8, slots := #[.long 72], vm := .none },
  { cls := 8, slots := #[.long 73], vm := .none },
  { cls := 8, slots := #[.long 74], vm := .none },
  { cls := 8, slots := #[.long 75], vm := .none },
  { cls := 8, slots := #[.long 76], vm := .none },
  { cls := 8, slots := #[.long 77], vm := .none },
  { cls := 8, slots := #[.long 78], vm := .none },
  { cls := 8, slots := #[.long 79], vm := .none },
  { cls := 8, slots := #[.long 80], vm := .none },
  { cls := 8, slots := #[.long 81], vm := .none },
  { cls := 8, slots := #[.long 82], vm := .none },
  { cls := 8, slots := #[.long 83], vm := .none },
  { cls := 8, slots := #[.long 84], vm := .none },
  { cls := 8, slots := #[.long 85], vm := .none },
  { cls := 8, slots := #[.long 86], vm := .none },
  { cls := 8, slots := #[.long 87], vm := .none },
  { cls := 8, slots := #[.long 88], vm := .none },
  { cls := 8, slots := #[.long 89], vm := .none },
  { cls := 8, slots := #[.long 90], vm := .none },
  { cls := 8, slots := #[.long 91], vm := .none },
  { cls := 8, slots := #[.long 92], vm := .none },
  { cls := 8, slots := #[.long 93], vm := .none },
  { cls := 8, slots := #[.long 94], vm := .none },
  { cls := 8, slots := #[.long 95], vm := .none },
  { cls := 8, slots := #[.long 96], vm := .none },
  { cls := 8, slots := #[.long 97], vm := .none },
  { cls := 8, slots := #[.long 98], vm := .none },
  { cls := 8, slots := #[.long 99], vm := .none },
  { cls := 8, slots := #[.long 100], vm := .none },
  { cls := 8, slots := #[.long 101], vm := .none },
  { cls := 8, slots := #[.long 102], vm := .none },
  { cls := 8, slots := #[.long 103], vm := .none },
  { cls := 8, slots := #[.long 104], vm := .none },
  { cls := 8, slots := #[.long 105], vm := .none },
  { cls := 8, slots := #[.long 106], vm := .none },
  { cls := 8, slots := #[.long 107], vm := .none },
  { cls := 8, slots := #[.long 108], vm := .none },
  { cls := 8, slots := #[.long 109], vm := .none },
  { cls := 8, slots := #[.long 110], vm := .none },
  { cls := 8, slots := #[.long 111], vm := .none },
  { cls := 8, slots := #[.long 112], vm := .none },
  { cls := 8, slots := #[.long 113], vm := .none },
  { cls := 8, slots := #[.long 114], vm := .none },
  { cls := 8, slots := #[.long 115], vm := .none },
  { cls := 8, slots := #[.long 116], vm := .none },
  { cls := 8, slots := #[.long 117], vm := .none },
  { cls := 8, slots := #[.long 118], vm := .none },
  { cls := 8, slots := #[.long 119], vm := .none },
  { cls := 8, slots := #[.long 120], vm := .none },
  { cls := 8, slots := #[.long 121], vm := .none },
  { cls := 8, slots := #[.long 122], vm := .none },
  { cls := 8, slots := #[.long 123], vm := .none },
  { cls := 8, slots := #[.long 124], vm := .none },
  { cls := 8, slots := #[.long 125], vm := .none },
  { cls := 8, slots := #[.long 126], vm := .none },
  { cls := 8, slots := #[.long 127], vm := .none }]
def classes : Array Class := #[k0, k1, k2, k3, k4, k5, k6, k7, k8, k9, k10, k11, k12, k13, k14, k15]
def interned : List (Array UInt16 × Addr) := []
def slotsUsed : Nat := 515
def theMethod : MethodId := ⟨1, 1⟩
def args0 : Array Value := #[.long 5, .long 6, .long 5, .long 9, .int 3]
def aboutOver (below : List Frame) : State where
  vm := { classes := classes, interned := interned.toArray }
  heap := heap
  slotsUsed := slotsUsed
  threads := #[{ frames := .invoking theMethod args0 :: below }]
def below0 : List Frame := [.native { method := ⟨0, 0⟩, args := #[] }]
def about1 : State := aboutOver below0
def p0 : Program := .bare "" "" ""
def e0 : Env := launch0.env 0 0 0
theorem w_frames : about1.frames = Frame.invoking theMethod args0 :: below0 := rfl
set_option maxRecDepth 65536 in
theorem w_args : argsFit about1.vm theMethod args0 = true := by decide +kernel
set_option maxRecDepth 65536 in
theorem w_heap : heapFits about1 = true := by decide +kernel
set_option maxRecDepth 65536 in
theorem w_runnable : about1.curStatus? = some .runnable := by decide +kernel
set_option maxRecDepth 65536 in
theorem w_alone : about1.alone = true := by decide +kernel
set_option maxRecDepth 65536 in
theorem w_named : about1.methodNamed? x = some theMethod := by decide +kernel
set_option maxRecDepth 65536 in
theorem w_hears : about1.hears theMethod below0 = true := by decide +kernel
set_option maxRecDepth 65536 in
theorem w_ripe : about1.ripe theMethod args0 below0 = true := by decide +kernel
theorem w_running : about1.status = .running := rfl
set_option maxRecDepth 65536 in
theorem w_room : about1.hasRoom e0.platform room_1 = true :=
  launch0.hasRoom_least _ room_1 (by decide +kernel) (by decide +kernel) (by decide +kernel) (by decide +kernel) (by decide +kernel) (by decide +kernel)
theorem allAtoms_all (ts : List Jvm.Cond) (a : Array Jvm.Value) (st : Jvm.State) : (allAtoms ts).before a st = ts.all (fun c => c.before a st) := by
  induction ts with
  | nil => rfl
  | cons c t ih =>
    show (Jvm.Cond.and c (allAtoms t)).before a st = _
    rw [Jvm.Cond.before_and, ih, List.all_cons]
def words1 : List Jvm.Cond := Jvm.Cond.code x code maxLocals ret :: tables_1
/-- a 'code' word, met by the world's own term for the bytes: nothing is compared byte by byte -/
theorem code_word {y : MethodName} {bytes : ByteArray} {mx : Nat} {rt : Option FieldType} {a : Array Value} {s : State} {m : MethodId} {meth : Method} {c : Code} (h1 : s.methodNamed? y = some m) (h2 : s.vm.method? m = some meth) (h3 : meth.code = some c) (h4 : c.code = bytes)
    (h5 : (c.maxLocals == mx && c.exceptionTable.isEmpty && decide (c.maxStack ≤ mostOperands) && decide (meth.sig.returnType = rt) && !meth.locks && decide (parseMethodDescriptor y.desc = some meth.sig)) = true) : (Jvm.Cond.code y bytes mx rt).before a s = true := by
  simp only [Bool.and_eq_true, beq_iff_eq, Bool.not_eq_true', decide_eq_true_eq] at h5
  obtain ⟨⟨⟨⟨⟨g1, g2⟩, g3⟩, g4⟩, g5⟩, g6⟩ := h5
  simp [Cond.before, Cond.holds, Cond.value, h1, h2, h3, h4, g1, g2, g3, g4, g5, g6]
def isCode : Jvm.Cond → Bool
  | .code _ _ _ _ => true
  | _ => false
theorem all_split {L : List Jvm.Cond} {P : Jvm.Cond → Bool} (h1 : L.all (fun c => isCode c || P c) = true) (h2 : ∀ c ∈ L.filter isCode, P c = true) : L.all P = true := by
  refine List.all_eq_true.mpr fun c hc => ?_
  have h := List.all_eq_true.mp h1 c hc
  rcases Bool.eq_false_or_eq_true (isCode c) with hi | hi
  · exact h2 c (List.mem_filter.mpr ⟨hc, hi⟩)
  · simpa [hi] using h
set_option maxRecDepth 65536 in
theorem w_c0 : (Jvm.Cond.code x code maxLocals ret).before args0 about1 = true := code_word (m := ⟨1, 1⟩) (meth := k1m1) (c := k1c1) (by decide +kernel) rfl rfl rfl (by decide +kernel)
set_option maxRecDepth 65536 in
theorem w_c1 : (Jvm.Cond.code ({ cls := "com/example/cheapside/cheapside/core/StoredValue", name := "<init>", desc := "(JJ)V" } : Jvm.MethodName) prog_20_method_1_code (5 : Nat) (Option.none : Option Jvm.ClassFile.FieldType)).before args0 about1 = true := code_word (m := ⟨2, 0⟩) (meth := k2m0) (c := k2c0) (by decide +kernel) rfl rfl rfl (by decide +kernel)
set_option maxRecDepth 65536 in
theorem w_c2 : (Jvm.Cond.code ({ cls := "java/lang/Object", name := "<init>", desc := "()V" } : Jvm.MethodName) object_method_1_code (1 : Nat) (Option.none : Option Jvm.ClassFile.FieldType)).before args0 about1 = true := code_word (m := ⟨0, 0⟩) (meth := k0m0) (c := k0c0) (by decide +kernel) rfl rfl rfl (by decide +kernel)
set_option maxRecDepth 65536 in
theorem w_c3 : (Jvm.Cond.code ({ cls := "java/lang/Long", name := "valueOf", desc := "(J)Ljava/lang/Long;" } : Jvm.MethodName) jdk_35_method_24_code (3 : Nat) (Option.some (Jvm.ClassFile.FieldType.object "java/lang/Long"))).before args0 about1 = true := code_word (m := ⟨8, 0⟩) (meth := k8m0) (c := k8c0) (by decide +kernel) rfl rfl rfl (by decide +kernel)
set_option maxRecDepth 65536 in
theorem w_c4 : (Jvm.Cond.code ({ cls := "com/example/cheapside/cheapside/core/StoredValue", name := "equals", desc := "(Ljava/lang/Object;)Z" } : Jvm.MethodName) prog_20_method_4_code (3 : Nat) (Option.some Jvm.ClassFile.FieldType.boolean)).before args0 about1 = true := code_word (m := ⟨2, 1⟩) (meth := k2m1) (c := k2c1) (by decide +kernel) rfl rfl rfl (by decide +kernel)
set_option maxRecDepth 65536 in
theorem w_c5 : (Jvm.Cond.code ({ cls := "java/lang/Long", name := "<init>", desc := "(J)V" } : Jvm.MethodName) jdk_35_method_26_code (3 : Nat) (Option.none : Option Jvm.ClassFile.FieldType)).before args0 about1 = true := code_word (m := ⟨8, 1⟩) (meth := k8m1) (c := k8c1) (by decide +kernel) rfl rfl rfl (by decide +kernel)
set_option maxRecDepth 65536 in
theorem w_c6 : (Jvm.Cond.code ({ cls := "java/lang/Number", name := "<init>", desc := "()V" } : Jvm.MethodName) jdk_18_method_1_code (1 : Nat) (Option.none : Option Jvm.ClassFile.FieldType)).before args0 about1 = true := code_word (m := ⟨4, 0⟩) (meth := k4m0) (c := k4c0) (by decide +kernel) rfl rfl rfl (by decide +kernel)
def codes1 : List Jvm.Cond := [Jvm.Cond.code x code maxLocals ret, Jvm.Cond.code ({ cls := "com/example/cheapside/cheapside/core/StoredValue", name := "<init>", desc := "(JJ)V" } : Jvm.MethodName) prog_20_method_1_code (5 : Nat) (Option.none : Option Jvm.ClassFile.FieldType), Jvm.Cond.code ({ cls := "java/lang/Object", name := "<init>", desc := "()V" } : Jvm.MethodName) object_method_1_code (1 : Nat) (Option.none : Option Jvm.ClassFile.FieldType), Jvm.Cond.code ({ cls := "java/lang/Long", name := "valueOf", desc := "(J)Ljava/lang/Long;" } : Jvm.MethodName) jdk_35_method_24_code (3 : Nat) (Option.some (Jvm.ClassFile.FieldType.object "java/lang/Long")), Jvm.Cond.code ({ cls := "com/example/cheapside/cheapside/core/StoredValue", name := "equals", desc := "(Ljava/lang/Object;)Z" } : Jvm.MethodName) prog_20_method_4_code (3 : Nat) (Option.some Jvm.ClassFile.FieldType.boolean), Jvm.Cond.code ({ cls := "java/lang/Long", name := "<init>", desc := "(J)V" } : Jvm.MethodName) jdk_35_method_26_code (3 : Nat) (Option.none : Option Jvm.ClassFile.FieldType), Jvm.Cond.code ({ cls := "java/lang/Number", name := "<init>", desc := "()V" } : Jvm.MethodName) jdk_18_method_1_code (1 : Nat) (Option.none : Option Jvm.ClassFile.FieldType)]
set_option maxRecDepth 65536 in
theorem codes_eq : words1.filter isCode = codes1 := rfl
theorem w_codes : ∀ c ∈ words1.filter isCode, c.before args0 about1 = true := by
  rw [codes_eq]
  intro c hc
  simp only [codes1, List.mem_cons, List.not_mem_nil, or_false] at hc
  rcases hc with rfl | rfl | rfl | rfl | rfl | rfl | rfl
  · exact w_c0
  · exact w_c1
  · exact w_c2
  · exact w_c3
  · exact w_c4
  · exact w_c5
  · exact w_c6
set_option maxRecDepth 65536 in
theorem w_t1 : (words1.take 24).all (fun c => isCode c || c.before args0 about1) = true := by decide +kernel
set_option maxRecDepth 65536 in
theorem w_t2 : (words1.drop 24).all (fun c => isCode c || c.before args0 about1) = true := by decide +kernel
theorem w_tables : (allAtoms (Jvm.Cond.code x code maxLocals ret :: tables_1)).before args0 about1 = true := by
  rw [allAtoms_all]
  show words1.all (fun c => c.before args0 about1) = true
  refine all_split ?_ w_codes
  rw [← List.take_append_drop 24 words1, List.all_append, w_t1, w_t2]
  rfl
set_option maxRecDepth 65536 in
theorem w_rest : rest_1_c.before args0 about1 = true := by decide +kernel
set_option maxRecDepth 65536 in
theorem w_case : (Jvm.Cond.and given_1 narrow_1).before args0 about1 = true := by decide +kernel
theorem w_applies : (headSpec (Jvm.Cond.code x code maxLocals ret :: tables_1) room_1).applies x e0.platform about1 = true :=
  (Spec.applies_iff w_frames).mpr ⟨w_running, w_runnable, w_alone, w_named, w_hears, w_ripe, w_room, w_tables⟩
theorem atStart : AtStart classFile x code maxLocals ret World_1 tables_1 room_1 Calls_1 rest_1 Pre_1 launch0 p0 e0 about1 theMethod args0 below0 :=
  ⟨lists_1, trivial, launch0.admits_env _ _ _, launch0.least_env, fairChoices_fair.cas, fairChoices_fair.clock, w_frames, w_args, w_heap, w_applies, trivial, w_rest, w_case⟩
end start1
theorem witness_1 : WitnessClaimed_1 := ⟨start1.p0, start1.e0, start1.about1, start1.theMethod, start1.args0, start1.below0, start1.atStart⟩
end Jvm.Pilot.@@N@@

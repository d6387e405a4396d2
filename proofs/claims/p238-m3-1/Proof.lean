import JvmDerived
import JvmDerived.Pilot.@@N@@Statement
import JvmDerived.Pilot.@@N@@Code
set_option linter.unusedVariables false
set_option linter.unusedSimpArgs false
namespace Jvm.Pilot.@@N@@
open Jvm Jvm.ClassFile Sem Op Lib Jvm.Free Jvm.Stand Jvm.LawKit Jvm.RoadKit Bundle Jvm.Pilot.@@N@@.Jvm.D
abbrev Gets (p : Program) (e : Env) (below : List Frame) (S0 S : State) : Prop := ∀ t, Steps p.tables e below S t → Steps p.tables e below S0 t
section Own
variable {p : Program} {e : Env} {below : List Frame} {S0 T : State} {m : MethodId} {c : Code} {pc q : Nat} {Ls : Array Slot} {st : List Value}
theorem own_isub {x y v : Int32} (G : Gets p e below S0 (T.setTop (mkF m pc Ls (.int y :: .int x :: st)))) (h : At T m c below) (hx : p.tables.exec = Jvm.exec) (hd : decode c.code pc = .ok (.isub, 1)) (hv : x - y = v) (hq : pc + 1 = q) : Gets p e below S0 (T.setTop (mkF m q Ls (.int v :: st))) := by
  subst hv hq; exact fun t k => G t (XS.isub h hx rfl hd rfl k)
theorem own_iand {x y v : Int32} (G : Gets p e below S0 (T.setTop (mkF m pc Ls (.int y :: .int x :: st)))) (h : At T m c below) (hx : p.tables.exec = Jvm.exec) (hd : decode c.code pc = .ok (.iand, 1)) (hv : x &&& y = v) (hq : pc + 1 = q) : Gets p e below S0 (T.setTop (mkF m q Ls (.int v :: st))) := by
  subst hv hq; exact fun t k => G t (XS.iand h hx rfl hd rfl k)
theorem own_iushr {x y v : Int32} (G : Gets p e below S0 (T.setTop (mkF m pc Ls (.int y :: .int x :: st)))) (h : At T m c below) (hx : p.tables.exec = Jvm.exec) (hd : decode c.code pc = .ok (.iushr, 1)) (hv : ((x.toUInt32 >>> (y &&& 31).toUInt32).toInt32) = v) (hq : pc + 1 = q) : Gets p e below S0 (T.setTop (mkF m q Ls (.int v :: st))) := by
  subst hv hq; exact fun t k => G t (XS.iushr h hx rfl hd rfl k)
theorem own_irem {x y v : Int32} (G : Gets p e below S0 (T.setTop (mkF m pc Ls (.int y :: .int x :: st)))) (h : At T m c below) (hx : p.tables.exec = Jvm.exec) (hd : decode c.code pc = .ok (.irem, 1)) (hy : y ≠ 0) (hv : x % y = v) (hq : pc + 1 = q) : Gets p e below S0 (T.setTop (mkF m q Ls (.int v :: st))) := by
  subst hv hq; exact fun t k => G t (XS.irem h hx rfl hd rfl hy (by rw [Jvm.irem_eq_mod]; exact k))
theorem own_i2b {x : Int32} {v : Int32} (G : Gets p e below S0 (T.setTop (mkF m pc Ls (.int x :: st)))) (h : At T m c below) (hx : p.tables.exec = Jvm.exec) (hd : decode c.code pc = .ok (.i2b, 1)) (hv : (x.toInt8.toInt32) = v) (hq : pc + 1 = q) : Gets p e below S0 (T.setTop (mkF m q Ls (.int v :: st))) := by
  subst hv hq; exact fun t k => G t (XS.i2b h hx rfl hd rfl k)
theorem own_iconst {i : Int} {v : Int32} (G : Gets p e below S0 (T.setTop (mkF m pc Ls st))) (h : At T m c below) (hx : p.tables.exec = Jvm.exec) (hd : decode c.code pc = .ok (.iconst i, 1)) (hv : Int32.ofInt i = v) (hq : pc + 1 = q) : Gets p e below S0 (T.setTop (mkF m q Ls (.int v :: st))) := by
  subst hv hq; exact fun t k => G t (XS.iconst h hx rfl hd k)
theorem own_bipush {i : Int} {v : Int32} (G : Gets p e below S0 (T.setTop (mkF m pc Ls st))) (h : At T m c below) (hx : p.tables.exec = Jvm.exec) (hd : decode c.code pc = .ok (.bipush i, 2)) (hv : (Int8.ofInt i).toInt32 = v) (hq : pc + 2 = q) : Gets p e below S0 (T.setTop (mkF m q Ls (.int v :: st))) := by
  subst hv hq; exact fun t k => G t (XS.bipush h hx rfl hd k)
theorem own_sipush {i : Int} {v : Int32} (G : Gets p e below S0 (T.setTop (mkF m pc Ls st))) (h : At T m c below) (hx : p.tables.exec = Jvm.exec) (hd : decode c.code pc = .ok (.sipush i, 3)) (hv : (Int16.ofInt i).toInt32 = v) (hq : pc + 3 = q) : Gets p e below S0 (T.setTop (mkF m q Ls (.int v :: st))) := by
  subst hv hq; exact fun t k => G t (XS.sipush h hx rfl hd k)
theorem own_aconst_null  (G : Gets p e below S0 (T.setTop (mkF m pc Ls st))) (h : At T m c below) (hx : p.tables.exec = Jvm.exec) (hd : decode c.code pc = .ok (.aconst_null, 1))  (hq : pc + 1 = q) : Gets p e below S0 (T.setTop (mkF m q Ls (.null :: st))) := by
  subst hq; exact fun t k => G t (XS.aconstNull h hx rfl hd k)
theorem own_iload {i : Nat} {v : Int32} (G : Gets p e below S0 (T.setTop (mkF m pc Ls st))) (h : At T m c below) (hx : p.tables.exec = Jvm.exec) (hd : decode c.code pc = .ok (.iload i, 2)) (hl : Ls[i]? = some (.val (.int v))) (hq : pc + 2 = q) : Gets p e below S0 (T.setTop (mkF m q Ls (.int v :: st))) := by
  subst hq; exact fun t k => G t (XS.iload h hx rfl hd hl k)
theorem own_iloadN {i : Fin 4} {v : Int32} (G : Gets p e below S0 (T.setTop (mkF m pc Ls st))) (h : At T m c below) (hx : p.tables.exec = Jvm.exec) (hd : decode c.code pc = .ok (.iload_n i, 1)) (hl : Ls[i.val]? = some (.val (.int v))) (hq : pc + 1 = q) : Gets p e below S0 (T.setTop (mkF m q Ls (.int v :: st))) := by
  subst hq; exact fun t k => G t (XS.iloadN h hx rfl hd hl k)
theorem own_aload {i : Nat} {v : Value} (G : Gets p e below S0 (T.setTop (mkF m pc Ls st))) (h : At T m c below) (hx : p.tables.exec = Jvm.exec) (hd : decode c.code pc = .ok (.aload i, 2)) (hl : Ls[i]? = some (.val v)) (hv : v.isRef = true) (hq : pc + 2 = q) : Gets p e below S0 (T.setTop (mkF m q Ls (v :: st))) := by
  subst hq; exact fun t k => G t (XS.aload h hx rfl hd hl hv k)
theorem own_aloadN {i : Fin 4} {v : Value} (G : Gets p e below S0 (T.setTop (mkF m pc Ls st))) (h : At T m c below) (hx : p.tables.exec = Jvm.exec) (hd : decode c.code pc = .ok (.aload_n i, 1)) (hl : Ls[i.val]? = some (.val v)) (hv : v.isRef = true) (hq : pc + 1 = q) : Gets p e below S0 (T.setTop (mkF m q Ls (v :: st))) := by
  subst hq; exact fun t k => G t (XS.aloadN h hx rfl hd hl hv k)
theorem own_istore {i : Nat} {v : Int32} {l' : Array Slot} (G : Gets p e below S0 (T.setTop (mkF m pc Ls (.int v :: st)))) (h : At T m c below) (hx : p.tables.exec = Jvm.exec) (hd : decode c.code pc = .ok (.istore i, 2)) (hl : storeLocals Ls i (.int v) = some l') (hq : pc + 2 = q) : Gets p e below S0 (T.setTop (mkF m q l' st)) := by
  subst hq; exact fun t k => G t (XS.istore h hx rfl hd rfl hl k)
theorem own_istoreN {i : Fin 4} {v : Int32} {l' : Array Slot} (G : Gets p e below S0 (T.setTop (mkF m pc Ls (.int v :: st)))) (h : At T m c below) (hx : p.tables.exec = Jvm.exec) (hd : decode c.code pc = .ok (.istore_n i, 1)) (hl : storeLocals Ls i.val (.int v) = some l') (hq : pc + 1 = q) : Gets p e below S0 (T.setTop (mkF m q l' st)) := by
  subst hq; exact fun t k => G t (XS.istoreN h hx rfl hd rfl hl k)
theorem own_astore {i : Nat} {v : Value} {l' : Array Slot} (G : Gets p e below S0 (T.setTop (mkF m pc Ls (v :: st)))) (h : At T m c below) (hx : p.tables.exec = Jvm.exec) (hd : decode c.code pc = .ok (.astore i, 2)) (hv : v.isRef = true) (hl : storeLocals Ls i v = some l') (hq : pc + 2 = q) : Gets p e below S0 (T.setTop (mkF m q l' st)) := by
  subst hq; exact fun t k => G t (XS.astore h hx rfl hd rfl hv hl k)
theorem own_astoreN {i : Fin 4} {v : Value} {l' : Array Slot} (G : Gets p e below S0 (T.setTop (mkF m pc Ls (v :: st)))) (h : At T m c below) (hx : p.tables.exec = Jvm.exec) (hd : decode c.code pc = .ok (.astore_n i, 1)) (hv : v.isRef = true) (hl : storeLocals Ls i.val v = some l') (hq : pc + 1 = q) : Gets p e below S0 (T.setTop (mkF m q l' st)) := by
  subst hq; exact fun t k => G t (XS.astoreN h hx rfl hd rfl hv hl k)
theorem own_iinc {i : Nat} {d : Int} {x w v : Int32} {l' : Array Slot} (G : Gets p e below S0 (T.setTop (mkF m pc Ls st))) (h : At T m c below) (hx : p.tables.exec = Jvm.exec) (hd : decode c.code pc = .ok (.iinc i d, 3)) (hw : Int32.ofInt d = w) (hl : Ls[i]? = some (.val (.int x))) (hv : x + w = v) (hl' : storeLocals Ls i (.int v) = some l') (hq : pc + 3 = q) : Gets p e below S0 (T.setTop (mkF m q l' st)) := by
  subst hw hv hq; exact fun t k => G t (XS.iinc h hx rfl hd hl hl' k)
theorem own_dup {x : Value} (G : Gets p e below S0 (T.setTop (mkF m pc Ls (x :: st)))) (h : At T m c below) (hx : p.tables.exec = Jvm.exec) (hd : decode c.code pc = .ok (.dup, 1)) (hc : x.category = 1) (hq : pc + 1 = q) : Gets p e below S0 (T.setTop (mkF m q Ls (x :: x :: st))) := by
  subst hq; exact fun t k => G t (XS.dup h hx rfl hd rfl hc k)
theorem own_pop {x : Value} (G : Gets p e below S0 (T.setTop (mkF m pc Ls (x :: st)))) (h : At T m c below) (hx : p.tables.exec = Jvm.exec) (hd : decode c.code pc = .ok (.pop, 1)) (hc : x.category = 1) (hq : pc + 1 = q) : Gets p e below S0 (T.setTop (mkF m q Ls st)) := by
  subst hq; exact fun t k => G t (XS.pop h hx rfl hd rfl hc k)
theorem own_goto {o : Int} (G : Gets p e below S0 (T.setTop (mkF m pc Ls st))) (h : At T m c below) (hx : p.tables.exec = Jvm.exec) (hd : decode c.code pc = .ok (.goto o, 3))  (ho : 0 ≤ (pc : Int) + o) (hp : ((pc : Int) + o).toNat = q) : Gets p e below S0 (T.setTop (mkF m q Ls st)) := by
  exact fun t k => G t (XS.goto h hx rfl rfl hd ho hp k)
theorem own_ifYes {cd : ClassFile.Cond} {o : Int} {x : Int32} (G : Gets p e below S0 (T.setTop (mkF m pc Ls (.int x :: st)))) (h : At T m c below) (hx : p.tables.exec = Jvm.exec) (hd : decode c.code pc = .ok (.ifCond cd o, 3)) (hc : ifCond.holds cd x = true) (ho : 0 ≤ (pc : Int) + o) (hp : ((pc : Int) + o).toNat = q) : Gets p e below S0 (T.setTop (mkF m q Ls st)) := by
  exact fun t k => G t (XS.ifYes h hx rfl rfl hd rfl hc ho hp k)
theorem own_ifNo {cd : ClassFile.Cond} {o : Int} {x : Int32} (G : Gets p e below S0 (T.setTop (mkF m pc Ls (.int x :: st)))) (h : At T m c below) (hx : p.tables.exec = Jvm.exec) (hd : decode c.code pc = .ok (.ifCond cd o, 3)) (hc : ifCond.holds cd x = false) (hq : pc + 3 = q) : Gets p e below S0 (T.setTop (mkF m q Ls st)) := by
  subst hq; exact fun t k => G t (XS.ifNo h hx rfl hd rfl hc k)
theorem own_icmpYes {cd : ClassFile.Cond} {o : Int} {x y : Int32} (G : Gets p e below S0 (T.setTop (mkF m pc Ls (.int y :: .int x :: st)))) (h : At T m c below) (hx : p.tables.exec = Jvm.exec) (hd : decode c.code pc = .ok (.if_icmp cd o, 3)) (hc : if_icmp.holds cd x y = true) (ho : 0 ≤ (pc : Int) + o) (hp : ((pc : Int) + o).toNat = q) : Gets p e below S0 (T.setTop (mkF m q Ls st)) := by
  exact fun t k => G t (XS.icmpYes h hx rfl rfl hd rfl hc ho hp k)
theorem own_icmpNo {cd : ClassFile.Cond} {o : Int} {x y : Int32} (G : Gets p e below S0 (T.setTop (mkF m pc Ls (.int y :: .int x :: st)))) (h : At T m c below) (hx : p.tables.exec = Jvm.exec) (hd : decode c.code pc = .ok (.if_icmp cd o, 3)) (hc : if_icmp.holds cd x y = false) (hq : pc + 3 = q) : Gets p e below S0 (T.setTop (mkF m q Ls st)) := by
  subst hq; exact fun t k => G t (XS.icmpNo h hx rfl hd rfl hc k)
theorem own_ifnonnullYes {o : Int} {b : Addr} (G : Gets p e below S0 (T.setTop (mkF m pc Ls (.ref b :: st)))) (h : At T m c below) (hx : p.tables.exec = Jvm.exec) (hd : decode c.code pc = .ok (.ifnonnull o, 3))  (ho : 0 ≤ (pc : Int) + o) (hp : ((pc : Int) + o).toNat = q) : Gets p e below S0 (T.setTop (mkF m q Ls st)) := by
  exact fun t k => G t (XS.ifnonnullYes h hx rfl rfl hd rfl ho hp k)
theorem own_kext {h h' : Heap} (K : Keep h h' []) : Ext h h' := by
  exact ⟨K.1, fun x c q => K.2.1 x c q nin0⟩
end Own
theorem own_lt32 {x y : Int32} : x < y ↔ x.toInt < y.toInt := Int32.lt_iff_toInt_lt
theorem own_rem {i u : Int32} (d : Int32) (k : Int) (hk : d.toInt = k) (h0 : 0 < k) (h : (u &&& 2147483647) % d = i) : 0 ≤ i.toInt ∧ i.toInt < k := by
  have a1 := c_mask u 2147483647 31 (by decide) (by decide)
  have a2 := (c_irem (u &&& 2147483647) d k hk).1 (by omega)
  rw [h] at a2
  have m2 := Int.emod_nonneg (u &&& 2147483647).toInt (show k ≠ 0 by omega)
  have m3 := Int.emod_lt_of_pos (u &&& 2147483647).toInt h0
  omega
theorem own_num {i : Int32} (k : Int32) (h : i.toInt = k.toInt) : i = k := Int32.toInt_inj.mp h
theorem own_cases3 {i : Int32} (h : 0 ≤ i.toInt ∧ i.toInt < 3) : i = 0 ∨ i = 1 ∨ i = 2 := by
  have e0 : (0 : Int32).toInt = 0 := rfl
  have e1 : (1 : Int32).toInt = 1 := rfl
  have e2 : (2 : Int32).toInt = 2 := rfl
  have q : i.toInt = 0 ∨ i.toInt = 1 ∨ i.toInt = 2 := by omega
  rcases q with q | q | q
  · exact Or.inl (own_num 0 q)
  · exact Or.inr (Or.inl (own_num 1 q))
  · exact Or.inr (Or.inr ((own_num 2 q)))
theorem own_ord {args : Array Value} {s : State} {t : Term} {a : Addr} {C n d : String} {k : Int32} (ht : t.eval args s none [] s = some (.ref a)) (h : (Jvm.Cond.eq (.field t C n d) (.int k)).value args s none s [] = some true) : s.fieldOf? a C n d = some (.int k) := by
  have e := fld_at (C := C) (n := n) (dd := d) ht
  have e2 : (Term.int k).eval args s none [] s = some (.int k) := Term.int_eval k
  cases hf : s.fieldOf? a C n d with
  | none => rw [hf] at e; simp [Cond.value, e] at h
  | some v =>
    rw [hf] at e
    cases v <;> simp [Cond.value, e, e2] at h
    subst h; rfl

theorem own_since (s : State) : s.Since s.vm s.heap.size := ⟨State.Warmed39.refl s, fun j p hj hp => by
  have := (Array.getElem?_eq_some_iff.mp hp).1
  omega⟩
theorem own_strs : ∀ d ∈ Bundle.stringAtoms, d ∈ tables_1 := by decide +kernel
theorem own_len {args : Array Value} {s : State} {t : Term} {a : Addr} {cl : Cell} {ty : FieldType} {n : Int32} (ht : t.eval args s none [] s = some (.ref a)) (A : Arr s s.heap a cl ty) (hl : (Jvm.Cond.eq (.length t) (.int n)).value args s none s [] = some true) : cl.slots.size < 2 ^ 31 ∧ cl.slots.size.toInt32 = n := by
  have e2 : (Term.int n).eval args s none [] s = some (.int n) := Term.int_eval n
  have hat : s.arrayAt? a = some cl := Arr.fin (U := s) (Vm.Alike.refl _) A
  by_cases q : cl.slots.size < 2 ^ 31
  · have e1 := len_f ht hat q
    simp [Cond.value, e1, e2] at hl
    exact ⟨q, hl⟩
  · have e1 : (Term.length t).eval args s none [] s = none := by simp [Term.eval, ht, hat, q]
    simp [Cond.value, e1] at hl
theorem own_eli {args : Array Value} {s : State} {t : Term} {a : Addr} {cl : Cell} {ty : FieldType} {j w : Int32} (ht : t.eval args s none [] s = some (.ref a)) (A : Arr s s.heap a cl ty) (hj : ¬ j < 0) (h : (Jvm.Cond.eq (.elem t (.int j)) (.int w)).value args s none s [] = some true) : cl.slots[j.toNatClampNeg]? = some (.int w) := by
  have hat : s.arrayAt? a = some cl := Arr.fin (U := s) (Vm.Alike.refl _) A
  have e2 : (Term.int w).eval args s none [] s = some (.int w) := Term.int_eval w
  have e3 := elem_f ht (Term.int_eval j) hat hj
  cases hs : cl.slots[j.toNatClampNeg]? with
  | none => rw [hs] at e3; simp [Cond.value, e3] at h
  | some v =>
    rw [hs] at e3
    cases v <;> simp [Cond.value, e3, e2] at h
    subst h; rfl
theorem own_elr {args : Array Value} {s : State} {t u : Term} {a b : Addr} {cl : Cell} {ty : FieldType} {j : Int32} (ht : t.eval args s none [] s = some (.ref a)) (hu : u.eval args s none [] s = some (.ref b)) (A : Arr s s.heap a cl ty) (hj : ¬ j < 0) (h : (Jvm.Cond.eq (.elem t (.int j)) u).value args s none s [] = some true) : cl.slots[j.toNatClampNeg]? = some (.ref b) := by
  have hat : s.arrayAt? a = some cl := Arr.fin (U := s) (Vm.Alike.refl _) A
  have e3 := elem_f ht (Term.int_eval j) hat hj
  cases hs : cl.slots[j.toNatClampNeg]? with
  | none => rw [hs] at e3; simp [Cond.value, e3] at h
  | some v =>
    rw [hs] at e3
    cases v <;> simp [Cond.value, e3, hu] at h
    subst h; rfl
theorem d5_0 : decode jdk_52_method_21_code 0 = .ok (.iconst 0, 1) := by decide +kernel
theorem d5_1 : decode jdk_52_method_21_code 1 = .ok (.istore 5, 2) := by decide +kernel
theorem d5_3 : decode jdk_52_method_21_code 3 = .ok (.iload 5, 2) := by decide +kernel
theorem d5_5 : decode jdk_52_method_21_code 5 = .ok (.iload 4, 2) := by decide +kernel
theorem d5_7 : decode jdk_52_method_21_code 7 = .ok (.if_icmp .ge 37, 3) := by decide +kernel
theorem d5_10 : decode jdk_52_method_21_code 10 = .ok (.aload_n 0, 1) := by decide +kernel
theorem d5_11 : decode jdk_52_method_21_code 11 = .ok (.iload_n 1, 1) := by decide +kernel
theorem d5_12 : decode jdk_52_method_21_code 12 = .ok (.caload, 1) := by decide +kernel
theorem d5_13 : decode jdk_52_method_21_code 13 = .ok (.istore 6, 2) := by decide +kernel
theorem d5_15 : decode jdk_52_method_21_code 15 = .ok (.iload 6, 2) := by decide +kernel
theorem d5_17 : decode jdk_52_method_21_code 17 = .ok (.sipush 255, 3) := by decide +kernel
theorem d5_20 : decode jdk_52_method_21_code 20 = .ok (.if_icmp .le 6, 3) := by decide +kernel
theorem d5_26 : decode jdk_52_method_21_code 26 = .ok (.aload_n 2, 1) := by decide +kernel
theorem d5_27 : decode jdk_52_method_21_code 27 = .ok (.iload_n 3, 1) := by decide +kernel
theorem d5_28 : decode jdk_52_method_21_code 28 = .ok (.iload 6, 2) := by decide +kernel
theorem d5_30 : decode jdk_52_method_21_code 30 = .ok (.i2b, 1) := by decide +kernel
theorem d5_31 : decode jdk_52_method_21_code 31 = .ok (.bastore, 1) := by decide +kernel
theorem d5_32 : decode jdk_52_method_21_code 32 = .ok (.iinc 1 1, 3) := by decide +kernel
theorem d5_35 : decode jdk_52_method_21_code 35 = .ok (.iinc 3 1, 3) := by decide +kernel
theorem d5_38 : decode jdk_52_method_21_code 38 = .ok (.iinc 5 1, 3) := by decide +kernel
theorem d5_41 : decode jdk_52_method_21_code 41 = .ok (.goto (-38), 3) := by decide +kernel
theorem d5_44 : decode jdk_52_method_21_code 44 = .ok (.iload 4, 2) := by decide +kernel
theorem d5_46 : decode jdk_52_method_21_code 46 = .ok (.ireturn, 1) := by decide +kernel
theorem pn_java_lang_StringUTF16 : plainName "java/lang/StringUTF16" = true := by first | (simp [plainName, overriddenIn]; done) | decide +kernel
theorem ef_5n4 (m : MethodId) (x0 : Addr) (x2 : Addr) : entryFrame m #[(.ref x0), (.int (0 : Int32)), (.ref x2), (.int (0 : Int32)), (.int (4 : Int32))] 7 = mkF m 0 #[.val (.ref x0), .val (.int (0 : Int32)), .val (.ref x2), .val (.int (0 : Int32)), .val (.int (4 : Int32)), .unset, .unset] [] := by first | (simp [entryFrame, mkF, argsToLocals, Value.category]; done) | rfl
def Q5n4 (Z : State) (a : Addr) (d : Addr) (ks : ClassId) (kd : ClassId) (ec0 : Int32) (ec1 : Int32) (ec2 : Int32) (ec3 : Int32) (h0 : Heap) (n0 : Nat) (v : Option Value) (h : Heap) (L : List Loc) : Prop := v = some (.int (4 : Int32)) ∧ Fr n0 L ∧ Keep h0 h [d] ∧ (Arv Z h d kd .byte (4 : Int32) [(.int (nar .byte (ec0.toInt8.toInt32))), (.int (nar .byte (ec1.toInt8.toInt32))), (.int (nar .byte (ec2.toInt8.toInt32))), (.int (nar .byte (ec3.toInt8.toInt32)))] (.int (0 : Int32)))
set_option maxRecDepth 65536 in
set_option maxHeartbeats 40000000 in
theorem rm5n4 (l : Launch) (Z : State) (a0 : Array Value) (hw : ∀ d ∈ tables_1, d.before a0 Z = true) (ws : List Jvm.Cond) (a : Addr) (d : Addr) (ks : ClassId) (kd : ClassId) (ec0 : Int32) (ec1 : Int32) (ec2 : Int32) (ec3 : Int32) (h0 : Heap) (n0 : Nat) (Z0 : n0 ≤ h0.size) (P0 : Arv Z h0 a ks .char (4 : Int32) [(.int ec0), (.int ec1), (.int ec2), (.int ec3)] (.int (0 : Int32))) (P1 : Arv Z h0 d kd .byte (4 : Int32) [(.int (0 : Int32)), (.int (0 : Int32)), (.int (0 : Int32)), (.int (0 : Int32))] (.int (0 : Int32))) (P2 : n0 ≤ d) (P3 : a ≠ d) (he0 : ¬ ((255 : Int32) < ec0)) (he1 : ¬ ((255 : Int32) < ec1)) (he2 : ¬ ((255 : Int32) < ec2)) (he3 : ¬ ((255 : Int32) < ec3)) :
    MetFree l (⟨"java/lang/StringUTF16", "compress", "([CI[BII)I"⟩ : MethodName) (head1 (Jvm.Cond.code (⟨"java/lang/StringUTF16", "compress", "([CI[BII)I"⟩ : MethodName) jdk_52_method_21_code 7 (some .int) :: ws) ({ frames := 0, cells := 0, slots := 0, locals := 0 } : Room)) (fun argz U => argz = #[(.ref a), (.int (0 : Int32)), (.ref d), (.int (0 : Int32)), (.int (4 : Int32))] ∧ Z.Warmed39 U.vm ∧ U.heap = h0) (fun _ _ _ _ _ => True) (fun _ U o U' => ∃ v L, o = .returned v ∧ Q5n4 Z a d ks kd ec0 ec1 ec2 ec3 h0 n0 v U'.heap L ∧ FrameEnd U o U' L ({ frames := 0, cells := 0, slots := 0, locals := 0 } : Room).cells ({ frames := 0, cells := 0, slots := 0, locals := 0 } : Room).slots) := by
  refine MetFree.of_bodySF (plainFor_of_name pn_java_lang_StringUTF16) hisR ?_
  intro p e s m args below meth c s₁ Bd hml0 hP hK
  obtain ⟨rfl, hZ, hh⟩ := hP
  have hx := Bd.exec
  have hby := Bd.bytes
  have hml : c.maxLocals = 7 := hml0
  have hown : s.vm.findClass "java/lang/StringUTF16" = some m.cls := findClass_of_methodNamed Bd.named
  have hnm := (name_of_methodNamed Bd.named Bd.method).1
  have X0 : Stand p l e ({ frames := 0, cells := 0, slots := 0, locals := 0 } : Room) s m #[(.ref a), (.int (0 : Int32)), (.ref d), (.int (0 : Int32)), (.int (4 : Int32))] below meth c s₁ [] 0 0 := Stand.of_body Bd
  have e0 : s₁.heap = h0 := by rw [← hh, Bd.state]; rfl
  have N0 := Fr.nil n0
  have K0 : Keep h0 h0 [d] := Keep.refl _ _
  have G : Gets p e below (s₁.setTop (entryFrame m #[(.ref a), (.int (0 : Int32)), (.ref d), (.int (0 : Int32)), (.int (4 : Int32))] 7)) (s₁.setTop (mkF m 0 #[.val (.ref a), .val (.int (0 : Int32)), .val (.ref d), .val (.int (0 : Int32)), .val (.int (4 : Int32)), .unset, .unset] [])) := fun t k => castTop (ef_5n4 m a d) k
  replace G := own_iconst (q := 1) G X0.here hx (hb hby d5_0) (v := (0 : Int32)) (by decide) rfl
  replace G := own_istore (q := 3) (l' := #[.val (.ref a), .val (.int (0 : Int32)), .val (.ref d), .val (.int (0 : Int32)), .val (.int (4 : Int32)), .val (.int (0 : Int32)), .unset]) G X0.here hx (hb hby d5_1) rfl rfl
  replace G := own_iload (q := 5) G X0.here hx (hb hby d5_3) rfl rfl
  replace G := own_iload (q := 7) G X0.here hx (hb hby d5_5) rfl rfl
  have hc7_1 : (0 : Int32) < (4 : Int32) := by decide
  replace G := own_icmpNo (q := 10) G X0.here hx (hb hby d5_7) (tlt hc7_1).2.1 rfl
  replace G := own_aloadN (q := 11) G X0.here hx (hb hby d5_10) rfl rfl rfl
  replace G := own_iloadN (q := 12) G X0.here hx (hb hby d5_11) rfl rfl
  obtain ⟨c2, Ar2, -, S2, -, H2, -⟩ := id P0
  have hin2 : ¬ ((0 : Int32) < 0 ∨ c2.slots.size ≤ ((0 : Int32)).toNatClampNeg) := inb_of S2 ⟨by decide, by decide⟩
  replace G : Gets p e below _ (s₁.setTop (mkF m 13 #[.val (.ref a), .val (.int (0 : Int32)), .val (.ref d), .val (.int (0 : Int32)), .val (.int (4 : Int32)), .val (.int (0 : Int32)), .unset] [(.int ec0)])) := fun t k => G t (X0.caload hx (j := (0 : Int32)) (v := (.int ec0)) (by rw [e0]; exact Ar2.1) (State.isArrayOf_alike hZ.alike Ar2.2.1) Ar2.2.2 hin2 (Has.at H2 hin2 rfl) (g := (mkF m 12 #[.val (.ref a), .val (.int (0 : Int32)), .val (.ref d), .val (.int (0 : Int32)), .val (.int (4 : Int32)), .val (.int (0 : Int32)), .unset] [(.int (0 : Int32)), (.ref a)])) rfl rfl (hb hby d5_12) t k)
  replace G := own_istore (q := 15) (l' := #[.val (.ref a), .val (.int (0 : Int32)), .val (.ref d), .val (.int (0 : Int32)), .val (.int (4 : Int32)), .val (.int (0 : Int32)), .val (.int ec0)]) G X0.here hx (hb hby d5_13) rfl rfl
  replace G := own_iload (q := 17) G X0.here hx (hb hby d5_15) rfl rfl
  replace G := own_sipush (q := 20) G X0.here hx (hb hby d5_17) (v := (255 : Int32)) (by decide) rfl
  have hc20_3 : ¬ ((255 : Int32) < ec0) := he0
  replace G := own_icmpYes (q := 26) G X0.here hx (hb hby d5_20) (flt hc20_3).2.2.2 (by decide) (by decide)
  replace G := own_aloadN (q := 27) G X0.here hx (hb hby d5_26) rfl rfl rfl
  replace G := own_iloadN (q := 28) G X0.here hx (hb hby d5_27) rfl rfl
  replace G := own_iload (q := 30) G X0.here hx (hb hby d5_28) rfl rfl
  replace G := own_i2b (q := 31) G X0.here hx (hb hby d5_30) rfl rfl
  obtain ⟨c4, Ar4, q4, S4, N4', H4, G4'⟩ := id P1
  have hin4 : ¬ ((0 : Int32) < 0 ∨ c4.slots.size ≤ ((0 : Int32)).toNatClampNeg) := inb_of S4 ⟨by decide, by decide⟩
  obtain ⟨T4, h4, X4, e4, W4, st4⟩ := stB X0 hx hZ e0 Ar4 (j := (0 : Int32)) hin4 (g := (mkF m 31 #[.val (.ref a), .val (.int (0 : Int32)), .val (.ref d), .val (.int (0 : Int32)), .val (.int (4 : Int32)), .val (.int (0 : Int32)), .val (.int ec0)] [(.int (ec0.toInt8.toInt32)), (.int (0 : Int32)), (.ref d)])) rfl rfl (hb hby d5_31)
  have N4 := Fr.snoc X4 N0 P2
  have Z4 : n0 ≤ h4.size := Nat.le_trans Z0 (Keep.of_wr W4).1
  have K4 : Keep h0 h4 [d] := K0.wr W4 (Or.inl (List.mem_of_getElem? (i := 0) rfl))
  have V4 : Arv Z h4 d kd .byte (4 : Int32) [(.int (nar .byte (ec0.toInt8.toInt32))), (.int (0 : Int32)), (.int (0 : Int32)), (.int (0 : Int32))] (.int (0 : Int32)) := Arv.set Ar4 q4 S4 N4' H4 G4' (fits_nar_byte _) W4 0 rfl (Nat.le_of_ble_eq_true rfl)
  replace G : Gets p e below _ (T4.setTop (mkF m 32 #[.val (.ref a), .val (.int (0 : Int32)), .val (.ref d), .val (.int (0 : Int32)), .val (.int (4 : Int32)), .val (.int (0 : Int32)), .val (.int ec0)] [])) := fun t k => G t (st4 t k)
  replace G := own_iinc (q := 35) (l' := #[.val (.ref a), .val (.int (1 : Int32)), .val (.ref d), .val (.int (0 : Int32)), .val (.int (4 : Int32)), .val (.int (0 : Int32)), .val (.int ec0)]) (w := (1 : Int32)) G X4.here hx (hb hby d5_32) (by decide) rfl (by decide : ((0 : Int32) + (1 : Int32)) = (1 : Int32)) rfl rfl
  replace G := own_iinc (q := 38) (l' := #[.val (.ref a), .val (.int (1 : Int32)), .val (.ref d), .val (.int (1 : Int32)), .val (.int (4 : Int32)), .val (.int (0 : Int32)), .val (.int ec0)]) (w := (1 : Int32)) G X4.here hx (hb hby d5_35) (by decide) rfl (by decide : ((0 : Int32) + (1 : Int32)) = (1 : Int32)) rfl rfl
  replace G := own_iinc (q := 41) (l' := #[.val (.ref a), .val (.int (1 : Int32)), .val (.ref d), .val (.int (1 : Int32)), .val (.int (4 : Int32)), .val (.int (1 : Int32)), .val (.int ec0)]) (w := (1 : Int32)) G X4.here hx (hb hby d5_38) (by decide) rfl (by decide : ((0 : Int32) + (1 : Int32)) = (1 : Int32)) rfl rfl
  replace G := own_goto (q := 3) G X4.here hx (hb hby d5_41) (by decide) (by decide)
  replace G := own_iload (q := 5) G X4.here hx (hb hby d5_3) rfl rfl
  replace G := own_iload (q := 7) G X4.here hx (hb hby d5_5) rfl rfl
  have hc7_5 : (1 : Int32) < (4 : Int32) := by decide
  replace G := own_icmpNo (q := 10) G X4.here hx (hb hby d5_7) (tlt hc7_5).2.1 rfl
  replace G := own_aloadN (q := 11) G X4.here hx (hb hby d5_10) rfl rfl rfl
  replace G := own_iloadN (q := 12) G X4.here hx (hb hby d5_11) rfl rfl
  have F6 : Arv Z h4 a ks .char (4 : Int32) [(.int ec0), (.int ec1), (.int ec2), (.int ec3)] (.int (0 : Int32)) := (P0.other W4 P3)
  obtain ⟨c7, Ar7, -, S7, -, H7, -⟩ := id F6
  have hin7 : ¬ ((1 : Int32) < 0 ∨ c7.slots.size ≤ ((1 : Int32)).toNatClampNeg) := inb_of S7 ⟨by decide, by decide⟩
  replace G : Gets p e below _ (T4.setTop (mkF m 13 #[.val (.ref a), .val (.int (1 : Int32)), .val (.ref d), .val (.int (1 : Int32)), .val (.int (4 : Int32)), .val (.int (1 : Int32)), .val (.int ec0)] [(.int ec1)])) := fun t k => G t (X4.caload hx (j := (1 : Int32)) (v := (.int ec1)) (by rw [e4]; exact Ar7.1) (State.isArrayOf_alike hZ.alike Ar7.2.1) Ar7.2.2 hin7 (Has.at H7 hin7 rfl) (g := (mkF m 12 #[.val (.ref a), .val (.int (1 : Int32)), .val (.ref d), .val (.int (1 : Int32)), .val (.int (4 : Int32)), .val (.int (1 : Int32)), .val (.int ec0)] [(.int (1 : Int32)), (.ref a)])) rfl rfl (hb hby d5_12) t k)
  replace G := own_istore (q := 15) (l' := #[.val (.ref a), .val (.int (1 : Int32)), .val (.ref d), .val (.int (1 : Int32)), .val (.int (4 : Int32)), .val (.int (1 : Int32)), .val (.int ec1)]) G X4.here hx (hb hby d5_13) rfl rfl
  replace G := own_iload (q := 17) G X4.here hx (hb hby d5_15) rfl rfl
  replace G := own_sipush (q := 20) G X4.here hx (hb hby d5_17) (v := (255 : Int32)) (by decide) rfl
  have hc20_8 : ¬ ((255 : Int32) < ec1) := he1
  replace G := own_icmpYes (q := 26) G X4.here hx (hb hby d5_20) (flt hc20_8).2.2.2 (by decide) (by decide)
  replace G := own_aloadN (q := 27) G X4.here hx (hb hby d5_26) rfl rfl rfl
  replace G := own_iloadN (q := 28) G X4.here hx (hb hby d5_27) rfl rfl
  replace G := own_iload (q := 30) G X4.here hx (hb hby d5_28) rfl rfl
  replace G := own_i2b (q := 31) G X4.here hx (hb hby d5_30) rfl rfl
  obtain ⟨c9, Ar9, q9, S9, N9', H9, G9'⟩ := id V4
  have hin9 : ¬ ((1 : Int32) < 0 ∨ c9.slots.size ≤ ((1 : Int32)).toNatClampNeg) := inb_of S9 ⟨by decide, by decide⟩
  obtain ⟨T9, h9, X9, e9, W9, st9⟩ := stB X4 hx hZ e4 Ar9 (j := (1 : Int32)) hin9 (g := (mkF m 31 #[.val (.ref a), .val (.int (1 : Int32)), .val (.ref d), .val (.int (1 : Int32)), .val (.int (4 : Int32)), .val (.int (1 : Int32)), .val (.int ec1)] [(.int (ec1.toInt8.toInt32)), (.int (1 : Int32)), (.ref d)])) rfl rfl (hb hby d5_31)
  have N9 := Fr.snoc X9 N4 P2
  have Z9 : n0 ≤ h9.size := Nat.le_trans Z4 (Keep.of_wr W9).1
  have K9 : Keep h0 h9 [d] := K4.wr W9 (Or.inl (List.mem_of_getElem? (i := 0) rfl))
  have V9 : Arv Z h9 d kd .byte (4 : Int32) [(.int (nar .byte (ec0.toInt8.toInt32))), (.int (nar .byte (ec1.toInt8.toInt32))), (.int (0 : Int32)), (.int (0 : Int32))] (.int (0 : Int32)) := Arv.set Ar9 q9 S9 N9' H9 G9' (fits_nar_byte _) W9 1 rfl (Nat.le_of_ble_eq_true rfl)
  replace G : Gets p e below _ (T9.setTop (mkF m 32 #[.val (.ref a), .val (.int (1 : Int32)), .val (.ref d), .val (.int (1 : Int32)), .val (.int (4 : Int32)), .val (.int (1 : Int32)), .val (.int ec1)] [])) := fun t k => G t (st9 t k)
  replace G := own_iinc (q := 35) (l' := #[.val (.ref a), .val (.int (2 : Int32)), .val (.ref d), .val (.int (1 : Int32)), .val (.int (4 : Int32)), .val (.int (1 : Int32)), .val (.int ec1)]) (w := (1 : Int32)) G X9.here hx (hb hby d5_32) (by decide) rfl (by decide : ((1 : Int32) + (1 : Int32)) = (2 : Int32)) rfl rfl
  replace G := own_iinc (q := 38) (l' := #[.val (.ref a), .val (.int (2 : Int32)), .val (.ref d), .val (.int (2 : Int32)), .val (.int (4 : Int32)), .val (.int (1 : Int32)), .val (.int ec1)]) (w := (1 : Int32)) G X9.here hx (hb hby d5_35) (by decide) rfl (by decide : ((1 : Int32) + (1 : Int32)) = (2 : Int32)) rfl rfl
  replace G := own_iinc (q := 41) (l' := #[.val (.ref a), .val (.int (2 : Int32)), .val (.ref d), .val (.int (2 : Int32)), .val (.int (4 : Int32)), .val (.int (2 : Int32)), .val (.int ec1)]) (w := (1 : Int32)) G X9.here hx (hb hby d5_38) (by decide) rfl (by decide : ((1 : Int32) + (1 : Int32)) = (2 : Int32)) rfl rfl
  replace G := own_goto (q := 3) G X9.here hx (hb hby d5_41) (by decide) (by decide)
  replace G := own_iload (q := 5) G X9.here hx (hb hby d5_3) rfl rfl
  replace G := own_iload (q := 7) G X9.here hx (hb hby d5_5) rfl rfl
  have hc7_10 : (2 : Int32) < (4 : Int32) := by decide
  replace G := own_icmpNo (q := 10) G X9.here hx (hb hby d5_7) (tlt hc7_10).2.1 rfl
  replace G := own_aloadN (q := 11) G X9.here hx (hb hby d5_10) rfl rfl rfl
  replace G := own_iloadN (q := 12) G X9.here hx (hb hby d5_11) rfl rfl
  have F11 : Arv Z h9 a ks .char (4 : Int32) [(.int ec0), (.int ec1), (.int ec2), (.int ec3)] (.int (0 : Int32)) := (F6.other W9 P3)
  obtain ⟨c12, Ar12, -, S12, -, H12, -⟩ := id F11
  have hin12 : ¬ ((2 : Int32) < 0 ∨ c12.slots.size ≤ ((2 : Int32)).toNatClampNeg) := inb_of S12 ⟨by decide, by decide⟩
  replace G : Gets p e below _ (T9.setTop (mkF m 13 #[.val (.ref a), .val (.int (2 : Int32)), .val (.ref d), .val (.int (2 : Int32)), .val (.int (4 : Int32)), .val (.int (2 : Int32)), .val (.int ec1)] [(.int ec2)])) := fun t k => G t (X9.caload hx (j := (2 : Int32)) (v := (.int ec2)) (by rw [e9]; exact Ar12.1) (State.isArrayOf_alike hZ.alike Ar12.2.1) Ar12.2.2 hin12 (Has.at H12 hin12 rfl) (g := (mkF m 12 #[.val (.ref a), .val (.int (2 : Int32)), .val (.ref d), .val (.int (2 : Int32)), .val (.int (4 : Int32)), .val (.int (2 : Int32)), .val (.int ec1)] [(.int (2 : Int32)), (.ref a)])) rfl rfl (hb hby d5_12) t k)
  replace G := own_istore (q := 15) (l' := #[.val (.ref a), .val (.int (2 : Int32)), .val (.ref d), .val (.int (2 : Int32)), .val (.int (4 : Int32)), .val (.int (2 : Int32)), .val (.int ec2)]) G X9.here hx (hb hby d5_13) rfl rfl
  replace G := own_iload (q := 17) G X9.here hx (hb hby d5_15) rfl rfl
  replace G := own_sipush (q := 20) G X9.here hx (hb hby d5_17) (v := (255 : Int32)) (by decide) rfl
  have hc20_13 : ¬ ((255 : Int32) < ec2) := he2
  replace G := own_icmpYes (q := 26) G X9.here hx (hb hby d5_20) (flt hc20_13).2.2.2 (by decide) (by decide)
  replace G := own_aloadN (q := 27) G X9.here hx (hb hby d5_26) rfl rfl rfl
  replace G := own_iloadN (q := 28) G X9.here hx (hb hby d5_27) rfl rfl
  replace G := own_iload (q := 30) G X9.here hx (hb hby d5_28) rfl rfl
  replace G := own_i2b (q := 31) G X9.here hx (hb hby d5_30) rfl rfl
  obtain ⟨c14, Ar14, q14, S14, N14', H14, G14'⟩ := id V9
  have hin14 : ¬ ((2 : Int32) < 0 ∨ c14.slots.size ≤ ((2 : Int32)).toNatClampNeg) := inb_of S14 ⟨by decide, by decide⟩
  obtain ⟨T14, h14, X14, e14, W14, st14⟩ := stB X9 hx hZ e9 Ar14 (j := (2 : Int32)) hin14 (g := (mkF m 31 #[.val (.ref a), .val (.int (2 : Int32)), .val (.ref d), .val (.int (2 : Int32)), .val (.int (4 : Int32)), .val (.int (2 : Int32)), .val (.int ec2)] [(.int (ec2.toInt8.toInt32)), (.int (2 : Int32)), (.ref d)])) rfl rfl (hb hby d5_31)
  have N14 := Fr.snoc X14 N9 P2
  have Z14 : n0 ≤ h14.size := Nat.le_trans Z9 (Keep.of_wr W14).1
  have K14 : Keep h0 h14 [d] := K9.wr W14 (Or.inl (List.mem_of_getElem? (i := 0) rfl))
  have V14 : Arv Z h14 d kd .byte (4 : Int32) [(.int (nar .byte (ec0.toInt8.toInt32))), (.int (nar .byte (ec1.toInt8.toInt32))), (.int (nar .byte (ec2.toInt8.toInt32))), (.int (0 : Int32))] (.int (0 : Int32)) := Arv.set Ar14 q14 S14 N14' H14 G14' (fits_nar_byte _) W14 2 rfl (Nat.le_of_ble_eq_true rfl)
  replace G : Gets p e below _ (T14.setTop (mkF m 32 #[.val (.ref a), .val (.int (2 : Int32)), .val (.ref d), .val (.int (2 : Int32)), .val (.int (4 : Int32)), .val (.int (2 : Int32)), .val (.int ec2)] [])) := fun t k => G t (st14 t k)
  replace G := own_iinc (q := 35) (l' := #[.val (.ref a), .val (.int (3 : Int32)), .val (.ref d), .val (.int (2 : Int32)), .val (.int (4 : Int32)), .val (.int (2 : Int32)), .val (.int ec2)]) (w := (1 : Int32)) G X14.here hx (hb hby d5_32) (by decide) rfl (by decide : ((2 : Int32) + (1 : Int32)) = (3 : Int32)) rfl rfl
  replace G := own_iinc (q := 38) (l' := #[.val (.ref a), .val (.int (3 : Int32)), .val (.ref d), .val (.int (3 : Int32)), .val (.int (4 : Int32)), .val (.int (2 : Int32)), .val (.int ec2)]) (w := (1 : Int32)) G X14.here hx (hb hby d5_35) (by decide) rfl (by decide : ((2 : Int32) + (1 : Int32)) = (3 : Int32)) rfl rfl
  replace G := own_iinc (q := 41) (l' := #[.val (.ref a), .val (.int (3 : Int32)), .val (.ref d), .val (.int (3 : Int32)), .val (.int (4 : Int32)), .val (.int (3 : Int32)), .val (.int ec2)]) (w := (1 : Int32)) G X14.here hx (hb hby d5_38) (by decide) rfl (by decide : ((2 : Int32) + (1 : Int32)) = (3 : Int32)) rfl rfl
  replace G := own_goto (q := 3) G X14.here hx (hb hby d5_41) (by decide) (by decide)
  replace G := own_iload (q := 5) G X14.here hx (hb hby d5_3) rfl rfl
  replace G := own_iload (q := 7) G X14.here hx (hb hby d5_5) rfl rfl
  have hc7_15 : (3 : Int32) < (4 : Int32) := by decide
  replace G := own_icmpNo (q := 10) G X14.here hx (hb hby d5_7) (tlt hc7_15).2.1 rfl
  replace G := own_aloadN (q := 11) G X14.here hx (hb hby d5_10) rfl rfl rfl
  replace G := own_iloadN (q := 12) G X14.here hx (hb hby d5_11) rfl rfl
  have F16 : Arv Z h14 a ks .char (4 : Int32) [(.int ec0), (.int ec1), (.int ec2), (.int ec3)] (.int (0 : Int32)) := (F11.other W14 P3)
  obtain ⟨c17, Ar17, -, S17, -, H17, -⟩ := id F16
  have hin17 : ¬ ((3 : Int32) < 0 ∨ c17.slots.size ≤ ((3 : Int32)).toNatClampNeg) := inb_of S17 ⟨by decide, by decide⟩
  replace G : Gets p e below _ (T14.setTop (mkF m 13 #[.val (.ref a), .val (.int (3 : Int32)), .val (.ref d), .val (.int (3 : Int32)), .val (.int (4 : Int32)), .val (.int (3 : Int32)), .val (.int ec2)] [(.int ec3)])) := fun t k => G t (X14.caload hx (j := (3 : Int32)) (v := (.int ec3)) (by rw [e14]; exact Ar17.1) (State.isArrayOf_alike hZ.alike Ar17.2.1) Ar17.2.2 hin17 (Has.at H17 hin17 rfl) (g := (mkF m 12 #[.val (.ref a), .val (.int (3 : Int32)), .val (.ref d), .val (.int (3 : Int32)), .val (.int (4 : Int32)), .val (.int (3 : Int32)), .val (.int ec2)] [(.int (3 : Int32)), (.ref a)])) rfl rfl (hb hby d5_12) t k)
  replace G := own_istore (q := 15) (l' := #[.val (.ref a), .val (.int (3 : Int32)), .val (.ref d), .val (.int (3 : Int32)), .val (.int (4 : Int32)), .val (.int (3 : Int32)), .val (.int ec3)]) G X14.here hx (hb hby d5_13) rfl rfl
  replace G := own_iload (q := 17) G X14.here hx (hb hby d5_15) rfl rfl
  replace G := own_sipush (q := 20) G X14.here hx (hb hby d5_17) (v := (255 : Int32)) (by decide) rfl
  have hc20_18 : ¬ ((255 : Int32) < ec3) := he3
  replace G := own_icmpYes (q := 26) G X14.here hx (hb hby d5_20) (flt hc20_18).2.2.2 (by decide) (by decide)
  replace G := own_aloadN (q := 27) G X14.here hx (hb hby d5_26) rfl rfl rfl
  replace G := own_iloadN (q := 28) G X14.here hx (hb hby d5_27) rfl rfl
  replace G := own_iload (q := 30) G X14.here hx (hb hby d5_28) rfl rfl
  replace G := own_i2b (q := 31) G X14.here hx (hb hby d5_30) rfl rfl
  obtain ⟨c19, Ar19, q19, S19, N19', H19, G19'⟩ := id V14
  have hin19 : ¬ ((3 : Int32) < 0 ∨ c19.slots.size ≤ ((3 : Int32)).toNatClampNeg) := inb_of S19 ⟨by decide, by decide⟩
  obtain ⟨T19, h19, X19, e19, W19, st19⟩ := stB X14 hx hZ e14 Ar19 (j := (3 : Int32)) hin19 (g := (mkF m 31 #[.val (.ref a), .val (.int (3 : Int32)), .val (.ref d), .val (.int (3 : Int32)), .val (.int (4 : Int32)), .val (.int (3 : Int32)), .val (.int ec3)] [(.int (ec3.toInt8.toInt32)), (.int (3 : Int32)), (.ref d)])) rfl rfl (hb hby d5_31)
  have N19 := Fr.snoc X19 N14 P2
  have Z19 : n0 ≤ h19.size := Nat.le_trans Z14 (Keep.of_wr W19).1
  have K19 : Keep h0 h19 [d] := K14.wr W19 (Or.inl (List.mem_of_getElem? (i := 0) rfl))
  have V19 : Arv Z h19 d kd .byte (4 : Int32) [(.int (nar .byte (ec0.toInt8.toInt32))), (.int (nar .byte (ec1.toInt8.toInt32))), (.int (nar .byte (ec2.toInt8.toInt32))), (.int (nar .byte (ec3.toInt8.toInt32)))] (.int (0 : Int32)) := Arv.set Ar19 q19 S19 N19' H19 G19' (fits_nar_byte _) W19 3 rfl (Nat.le_of_ble_eq_true rfl)
  replace G : Gets p e below _ (T19.setTop (mkF m 32 #[.val (.ref a), .val (.int (3 : Int32)), .val (.ref d), .val (.int (3 : Int32)), .val (.int (4 : Int32)), .val (.int (3 : Int32)), .val (.int ec3)] [])) := fun t k => G t (st19 t k)
  replace G := own_iinc (q := 35) (l' := #[.val (.ref a), .val (.int (4 : Int32)), .val (.ref d), .val (.int (3 : Int32)), .val (.int (4 : Int32)), .val (.int (3 : Int32)), .val (.int ec3)]) (w := (1 : Int32)) G X19.here hx (hb hby d5_32) (by decide) rfl (by decide : ((3 : Int32) + (1 : Int32)) = (4 : Int32)) rfl rfl
  replace G := own_iinc (q := 38) (l' := #[.val (.ref a), .val (.int (4 : Int32)), .val (.ref d), .val (.int (4 : Int32)), .val (.int (4 : Int32)), .val (.int (3 : Int32)), .val (.int ec3)]) (w := (1 : Int32)) G X19.here hx (hb hby d5_35) (by decide) rfl (by decide : ((3 : Int32) + (1 : Int32)) = (4 : Int32)) rfl rfl
  replace G := own_iinc (q := 41) (l' := #[.val (.ref a), .val (.int (4 : Int32)), .val (.ref d), .val (.int (4 : Int32)), .val (.int (4 : Int32)), .val (.int (4 : Int32)), .val (.int ec3)]) (w := (1 : Int32)) G X19.here hx (hb hby d5_38) (by decide) rfl (by decide : ((3 : Int32) + (1 : Int32)) = (4 : Int32)) rfl rfl
  replace G := own_goto (q := 3) G X19.here hx (hb hby d5_41) (by decide) (by decide)
  replace G := own_iload (q := 5) G X19.here hx (hb hby d5_3) rfl rfl
  replace G := own_iload (q := 7) G X19.here hx (hb hby d5_5) rfl rfl
  have hc7_20 : ¬ ((4 : Int32) < (4 : Int32)) := by decide
  replace G := own_icmpYes (q := 44) G X19.here hx (hb hby d5_7) (flt hc7_20).2.1 (by decide) (by decide)
  replace G := own_iload (q := 46) G X19.here hx (hb hby d5_44) rfl rfl
  obtain ⟨fs, hr, hrun, hended, hW, hsame⟩ := X19.leave (v := some (.int (4 : Int32))) (fun h => by rw [Bd.returns] at h; cases h)
  refine ⟨_, _, G _ (retOut X19 hx Bd.returns rfl (Or.inl ⟨rfl, Or.inl rfl, _, rfl⟩) (hb hby d5_46) hr), hrun, hended, _, _, rfl, ?_, ⟨_, rfl⟩, hW, hsame.mono (by decide) (by decide)⟩
  show Q5n4 Z a d ks kd ec0 ec1 ec2 ec3 h0 n0 _ T19.heap _
  rw [e19]
  exact ⟨rfl, N19, K19, V19⟩
theorem pd_0 : parseMethodDescriptor "([CI[BII)I" = some ⟨[(.array .char), .int, (.array .byte), .int, .int], some .int⟩ := by decide +kernel
theorem d4_0 : decode jdk_52_method_16_code 0 = .ok (.iload_n 2, 1) := by decide +kernel
theorem d4_1 : decode jdk_52_method_16_code 1 = .ok (.newarray .byte, 2) := by decide +kernel
theorem d4_3 : decode jdk_52_method_16_code 3 = .ok (.astore_n 3, 1) := by decide +kernel
theorem d4_4 : decode jdk_52_method_16_code 4 = .ok (.aload_n 0, 1) := by decide +kernel
theorem d4_5 : decode jdk_52_method_16_code 5 = .ok (.iload_n 1, 1) := by decide +kernel
theorem d4_6 : decode jdk_52_method_16_code 6 = .ok (.aload_n 3, 1) := by decide +kernel
theorem d4_7 : decode jdk_52_method_16_code 7 = .ok (.iconst 0, 1) := by decide +kernel
theorem d4_8 : decode jdk_52_method_16_code 8 = .ok (.iload_n 2, 1) := by decide +kernel
theorem d4_9 : decode jdk_52_method_16_code 9 = .ok (.invokestatic 115, 3) := by decide +kernel
theorem d4_12 : decode jdk_52_method_16_code 12 = .ok (.istore 4, 2) := by decide +kernel
theorem d4_14 : decode jdk_52_method_16_code 14 = .ok (.iload 4, 2) := by decide +kernel
theorem d4_16 : decode jdk_52_method_16_code 16 = .ok (.iload_n 2, 1) := by decide +kernel
theorem d4_17 : decode jdk_52_method_16_code 17 = .ok (.if_icmp .eq 40, 3) := by decide +kernel
theorem d4_57 : decode jdk_52_method_16_code 57 = .ok (.aload_n 3, 1) := by decide +kernel
theorem d4_58 : decode jdk_52_method_16_code 58 = .ok (.areturn, 1) := by decide +kernel
theorem ef_4n4 (m : MethodId) (x0 : Addr) : entryFrame m #[(.ref x0), (.int (0 : Int32)), (.int (4 : Int32))] 6 = mkF m 0 #[.val (.ref x0), .val (.int (0 : Int32)), .val (.int (4 : Int32)), .unset, .unset, .unset] [] := by first | (simp [entryFrame, mkF, argsToLocals, Value.category]; done) | rfl
def Q4n4 (Z : State) (a : Addr) (ks : ClassId) (ec0 : Int32) (ec1 : Int32) (ec2 : Int32) (ec3 : Int32) (h0 : Heap) (n0 : Nat) (v : Option Value) (h : Heap) (L : List Loc) : Prop := ∃ (b : Addr) (kb : ClassId), v = some (.ref b) ∧ Fr n0 L ∧ Keep h0 h [] ∧ h0.size ≤ b ∧ (Arv Z h b kb .byte (4 : Int32) [(.int (nar .byte (ec0.toInt8.toInt32))), (.int (nar .byte (ec1.toInt8.toInt32))), (.int (nar .byte (ec2.toInt8.toInt32))), (.int (nar .byte (ec3.toInt8.toInt32)))] (.int (0 : Int32)))
set_option maxRecDepth 65536 in
set_option maxHeartbeats 40000000 in
theorem rm4n4 (l : Launch) (Z : State) (a0 : Array Value) (hw : ∀ d ∈ tables_1, d.before a0 Z = true) (ws : List Jvm.Cond) (a : Addr) (ks : ClassId) (ec0 : Int32) (ec1 : Int32) (ec2 : Int32) (ec3 : Int32) (h0 : Heap) (n0 : Nat) (Z0 : n0 ≤ h0.size) (P0 : Arv Z h0 a ks .char (4 : Int32) [(.int ec0), (.int ec1), (.int ec2), (.int ec3)] (.int (0 : Int32))) (he0 : ¬ ((255 : Int32) < ec0)) (he1 : ¬ ((255 : Int32) < ec1)) (he2 : ¬ ((255 : Int32) < ec2)) (he3 : ¬ ((255 : Int32) < ec3)) :
    MetFree l (⟨"java/lang/StringUTF16", "compress", "([CII)[B"⟩ : MethodName) (head1 (Jvm.Cond.code (⟨"java/lang/StringUTF16", "compress", "([CII)[B"⟩ : MethodName) jdk_52_method_16_code 6 (some (.array .byte)) :: ws) ({ frames := 1, cells := 1, slots := 4, locals := 18 } : Room)) (fun argz U => argz = #[(.ref a), (.int (0 : Int32)), (.int (4 : Int32))] ∧ Z.Warmed39 U.vm ∧ U.heap = h0) (fun _ _ _ _ _ => True) (fun _ U o U' => ∃ v L, o = .returned v ∧ Q4n4 Z a ks ec0 ec1 ec2 ec3 h0 n0 v U'.heap L ∧ FrameEnd U o U' L ({ frames := 1, cells := 1, slots := 4, locals := 18 } : Room).cells ({ frames := 1, cells := 1, slots := 4, locals := 18 } : Room).slots) := by
  refine MetFree.of_bodySF (plainFor_of_name pn_java_lang_StringUTF16) hisR ?_
  intro p e s m args below meth c s₁ Bd hml0 hP hK
  obtain ⟨rfl, hZ, hh⟩ := hP
  have hx := Bd.exec
  have hby := Bd.bytes
  have hml : c.maxLocals = 6 := hml0
  have hown : s.vm.findClass "java/lang/StringUTF16" = some m.cls := findClass_of_methodNamed Bd.named
  have hnm := (name_of_methodNamed Bd.named Bd.method).1
  have X0 : Stand p l e ({ frames := 1, cells := 1, slots := 4, locals := 18 } : Room) s m #[(.ref a), (.int (0 : Int32)), (.int (4 : Int32))] below meth c s₁ [] 0 0 := Stand.of_body Bd
  have e0 : s₁.heap = h0 := by rw [← hh, Bd.state]; rfl
  have N0 := Fr.nil n0
  have K0 : Keep h0 h0 [] := Keep.refl _ _
  have G : Gets p e below (s₁.setTop (entryFrame m #[(.ref a), (.int (0 : Int32)), (.int (4 : Int32))] 6)) (s₁.setTop (mkF m 0 #[.val (.ref a), .val (.int (0 : Int32)), .val (.int (4 : Int32)), .unset, .unset, .unset] [])) := fun t k => castTop (ef_4n4 m a) k
  replace G := own_iloadN (q := 1) G X0.here hx (hb hby d4_0) rfl rfl
  obtain ⟨T1, h1, k1, X1, e1, E1, A1, st1⟩ := newP X0 hx hZ (hw _ (List.mem_of_getElem? (i := 23) rfl)) e0 (g := (mkF m 1 #[.val (.ref a), .val (.int (0 : Int32)), .val (.int (4 : Int32)), .unset, .unset, .unset] [(.int (4 : Int32))])) rfl (hb hby d4_1) rfl (by decide) (cap := 4) (by decide) (by decide) (by decide) (by decide)
  obtain ⟨b1, g1⟩ : ∃ z, z = h0.size := ⟨_, rfl⟩
  rw [← g1] at A1 st1
  have ne2 : a ≠ b1 := Nat.ne_of_lt (Nat.lt_of_lt_of_le P0.lt (Nat.le_of_eq g1.symm))
  have ge_b1 : n0 ≤ b1 := Nat.le_trans Z0 (Nat.le_of_eq g1.symm)
  have sz_b1 : h0.size ≤ b1 := Nat.le_trans K0.1 (Nat.le_of_eq g1.symm)
  have Z1 : n0 ≤ h1.size := Nat.le_trans Z0 E1.1
  have K1 : Keep h0 h1 [] := K0.ext E1
  have V1 : Arv Z h1 b1 k1 .byte (4 : Int32) [(.int (0 : Int32)), (.int (0 : Int32)), (.int (0 : Int32)), (.int (0 : Int32))] (.int (0 : Int32)) := (Arv.new A1 (by decide)).pad (pad_rep [] (.int (0 : Int32)) 4)
  replace G : Gets p e below _ (T1.setTop (mkF m 3 #[.val (.ref a), .val (.int (0 : Int32)), .val (.int (4 : Int32)), .unset, .unset, .unset] [(.ref b1)])) := fun t k => G t (st1 t k)
  replace G := own_astoreN (q := 4) (l' := #[.val (.ref a), .val (.int (0 : Int32)), .val (.int (4 : Int32)), .val (.ref b1), .unset, .unset]) G X1.here hx (hb hby d4_3) rfl rfl rfl
  replace G := own_aloadN (q := 5) G X1.here hx (hb hby d4_4) rfl rfl rfl
  replace G := own_iloadN (q := 6) G X1.here hx (hb hby d4_5) rfl rfl
  replace G := own_aloadN (q := 7) G X1.here hx (hb hby d4_6) rfl rfl rfl
  replace G := own_iconst (q := 8) G X1.here hx (hb hby d4_7) (v := (0 : Int32)) (by decide) rfl
  replace G := own_iloadN (q := 9) G X1.here hx (hb hby d4_8) rfl rfl
  have F4 : Arv Z h1 a ks .char (4 : Int32) [(.int ec0), (.int ec1), (.int ec2), (.int ec3)] (.int (0 : Int32)) := (P0.ext E1)
  obtain ⟨_, _, ⟨T3, L3, kk3, nn3⟩, -, X3, ⟨Lc3, hQ3, l3, y3, z3⟩, st3⟩ := Jvm.LawKit.callS X1 hx (y := (⟨"java/lang/StringUTF16", "compress", "([CI[BII)I"⟩ : MethodName)) hown (mvT hZ (hw _ (List.mem_of_getElem? (i := 24) rfl))) (mvT hZ (hw _ (List.mem_of_getElem? (i := 25) rfl))) (mvT hZ (hw _ (List.mem_of_getElem? (i := 21) rfl))) (mvT hZ (hw _ (List.mem_of_getElem? (i := 26) rfl))) (by decide) (backOf (W := 0) (rm5n4 l Z a0 hw [] a b1 ks k1 ec0 ec1 ec2 ec3 h1 n0 Z1 F4 V1 ge_b1 ne2 he0 he1 he2 he3) hZ (hw _ (List.mem_of_getElem? (i := 26) rfl)) (hw _ (List.mem_of_getElem? (i := 21) rfl)) (by decide) (by decide)) (g := (mkF m 9 #[.val (.ref a), .val (.int (0 : Int32)), .val (.int (4 : Int32)), .val (.ref b1), .unset, .unset] [(.int (4 : Int32)), (.int (0 : Int32)), (.ref b1), (.int (0 : Int32)), (.ref a)])) rfl (by rw [hml]; rfl) (argsL := [(.ref a), (.int (0 : Int32)), (.ref b1), (.int (0 : Int32)), (.int (4 : Int32))]) (rest := []) (lenOf pd_0 rfl) rfl (by show 2 * 0 + _ ≤ _; exact Nat.le_of_eq rfl) (hb hby d4_9) (fun _ _ => ⟨rfl, e1, (by decide : 1 + 0 ≤ _), (by decide : 4 + 0 ≤ _)⟩)
  dsimp only [Pt.U, Pt.locs, Pt.cells, Pt.slots] at X3 l3 y3 z3 st3 hQ3
  subst l3 y3 z3
  obtain ⟨rfl, N3q, K3q, B3_0⟩ := hQ3
  have Z3 : n0 ≤ T3.heap.size := Nat.le_trans Z1 K3q.1
  have K3 : Keep h0 T3.heap [] := K1.trans K3q (allS (Or.inr sz_b1) all0)
  have N3 := Fr.app N0 N3q
  replace G : Gets p e below _ (T3.setTop (mkF m 12 #[.val (.ref a), .val (.int (0 : Int32)), .val (.int (4 : Int32)), .val (.ref b1), .unset, .unset] [(.int (4 : Int32))])) := fun t k => G t (st3 t k)
  replace G := own_istore (q := 14) (l' := #[.val (.ref a), .val (.int (0 : Int32)), .val (.int (4 : Int32)), .val (.ref b1), .val (.int (4 : Int32)), .unset]) G X3.here hx (hb hby d4_12) rfl rfl
  replace G := own_iload (q := 16) G X3.here hx (hb hby d4_14) rfl rfl
  replace G := own_iloadN (q := 17) G X3.here hx (hb hby d4_16) rfl rfl
  have hc17_5 : (4 : Int32) = (4 : Int32) := by decide
  replace G := own_icmpYes (q := 57) G X3.here hx (hb hby d4_17) (teq hc17_5).1 (by decide) (by decide)
  replace G := own_aloadN (q := 58) G X3.here hx (hb hby d4_57) rfl rfl rfl
  obtain ⟨fs, hr, hrun, hended, hW, hsame⟩ := X3.leave (v := some (.ref b1)) (fun h => by rw [Bd.returns] at h; cases h)
  refine ⟨_, _, G _ (retOut X3 hx Bd.returns rfl (Or.inr (Or.inr (Or.inr (Or.inr ⟨rfl, rfl, rfl⟩)))) (hb hby d4_58) hr), hrun, hended, _, _, rfl, ?_, ⟨_, rfl⟩, hW, hsame.mono (by decide) (by decide)⟩
  show Q4n4 Z a ks ec0 ec1 ec2 ec3 h0 n0 _ T3.heap _
  exact ⟨b1, k1, rfl, N3, K3, sz_b1, B3_0⟩
theorem d6_0 : decode jdk_52_method_15_code 0 = .ok (.iload_n 1, 1) := by decide +kernel
theorem d6_1 : decode jdk_52_method_15_code 1 = .ok (.aload_n 0, 1) := by decide +kernel
theorem d6_2 : decode jdk_52_method_15_code 2 = .ok (.arraylength, 1) := by decide +kernel
theorem d6_3 : decode jdk_52_method_15_code 3 = .ok (.isub, 1) := by decide +kernel
theorem d6_4 : decode jdk_52_method_15_code 4 = .ok (.bipush 31, 2) := by decide +kernel
theorem d6_6 : decode jdk_52_method_15_code 6 = .ok (.iushr, 1) := by decide +kernel
theorem d6_7 : decode jdk_52_method_15_code 7 = .ok (.i2b, 1) := by decide +kernel
theorem d6_8 : decode jdk_52_method_15_code 8 = .ok (.ireturn, 1) := by decide +kernel
theorem ef_6n4 (m : MethodId) (x0 : Addr) : entryFrame m #[(.ref x0), (.int (4 : Int32))] 2 = mkF m 0 #[.val (.ref x0), .val (.int (4 : Int32))] [] := by first | (simp [entryFrame, mkF, argsToLocals, Value.category]; done) | rfl
def Q6n4 (Z : State) (d : Addr) (kd : ClassId) (vs : List Value) (h0 : Heap) (n0 : Nat) (v : Option Value) (h : Heap) (L : List Loc) : Prop := v = some (.int (0 : Int32)) ∧ Fr n0 L ∧ h = h0
set_option maxRecDepth 65536 in
set_option maxHeartbeats 40000000 in
theorem rm6n4 (l : Launch) (Z : State) (a0 : Array Value) (hw : ∀ d ∈ tables_1, d.before a0 Z = true) (ws : List Jvm.Cond) (d : Addr) (kd : ClassId) (vs : List Value) (h0 : Heap) (n0 : Nat) (Z0 : n0 ≤ h0.size) (P0 : Arv Z h0 d kd .byte (4 : Int32) vs (.int (0 : Int32))) :
    MetFree l (⟨"java/lang/StringUTF16", "coderFromArrayLen", "([BI)B"⟩ : MethodName) (head1 (Jvm.Cond.code (⟨"java/lang/StringUTF16", "coderFromArrayLen", "([BI)B"⟩ : MethodName) jdk_52_method_15_code 2 (some .byte) :: ws) ({ frames := 0, cells := 0, slots := 0, locals := 0 } : Room)) (fun argz U => argz = #[(.ref d), (.int (4 : Int32))] ∧ Z.Warmed39 U.vm ∧ U.heap = h0) (fun _ _ _ _ _ => True) (fun _ U o U' => ∃ v L, o = .returned v ∧ Q6n4 Z d kd vs h0 n0 v U'.heap L ∧ FrameEnd U o U' L ({ frames := 0, cells := 0, slots := 0, locals := 0 } : Room).cells ({ frames := 0, cells := 0, slots := 0, locals := 0 } : Room).slots) := by
  refine MetFree.of_bodySF (plainFor_of_name pn_java_lang_StringUTF16) hisR ?_
  intro p e s m args below meth c s₁ Bd hml0 hP hK
  obtain ⟨rfl, hZ, hh⟩ := hP
  have hx := Bd.exec
  have hby := Bd.bytes
  have hml : c.maxLocals = 2 := hml0
  have hown : s.vm.findClass "java/lang/StringUTF16" = some m.cls := findClass_of_methodNamed Bd.named
  have hnm := (name_of_methodNamed Bd.named Bd.method).1
  have X0 : Stand p l e ({ frames := 0, cells := 0, slots := 0, locals := 0 } : Room) s m #[(.ref d), (.int (4 : Int32))] below meth c s₁ [] 0 0 := Stand.of_body Bd
  have e0 : s₁.heap = h0 := by rw [← hh, Bd.state]; rfl
  have N0 := Fr.nil n0
  have G : Gets p e below (s₁.setTop (entryFrame m #[(.ref d), (.int (4 : Int32))] 2)) (s₁.setTop (mkF m 0 #[.val (.ref d), .val (.int (4 : Int32))] [])) := fun t k => castTop (ef_6n4 m d) k
  replace G := own_iloadN (q := 1) G X0.here hx (hb hby d6_0) rfl rfl
  replace G := own_aloadN (q := 2) G X0.here hx (hb hby d6_1) rfl rfl rfl
  obtain ⟨c1, Ar1, -, S1, N1', -, -⟩ := id P0
  replace G : Gets p e below _ (s₁.setTop (mkF m 3 #[.val (.ref d), .val (.int (4 : Int32))] [(.int (4 : Int32)), (.int (4 : Int32))])) := fun t k => G t (X0.arraylength hx (by rw [e0]; exact Ar1.1) (State.isArrayOf_alike hZ.alike Ar1.2.1) (g := (mkF m 2 #[.val (.ref d), .val (.int (4 : Int32))] [(.ref d), (.int (4 : Int32))])) rfl rfl (hb hby d6_2) t (by rw [len_of S1 N1']; exact k))
  replace G := own_isub (q := 4) G X0.here hx (hb hby d6_3) (by decide : ((4 : Int32) - (4 : Int32)) = (0 : Int32)) rfl
  replace G := own_bipush (q := 6) G X0.here hx (hb hby d6_4) (v := (31 : Int32)) (by decide) rfl
  replace G := own_iushr (q := 7) G X0.here hx (hb hby d6_6) (by decide : (((0 : Int32).toUInt32 >>> ((31 : Int32) &&& 31).toUInt32).toInt32) = (0 : Int32)) rfl
  replace G := own_i2b (q := 8) G X0.here hx (hb hby d6_7) (by decide : ((0 : Int32).toInt8.toInt32) = (0 : Int32)) rfl
  obtain ⟨fs, hr, hrun, hended, hW, hsame⟩ := X0.leave (v := some (.int (0 : Int32))) (fun h => by rw [Bd.returns] at h; cases h)
  refine ⟨_, _, G _ (retOut X0 hx Bd.returns rfl (Or.inl ⟨rfl, Or.inr (Or.inr (Or.inl rfl)), _, rfl⟩) (hb hby d6_8) hr), hrun, hended, _, _, rfl, ?_, ⟨_, rfl⟩, hW, hsame.mono (by decide) (by decide)⟩
  show Q6n4 Z d kd vs h0 n0 _ s₁.heap _
  rw [e0]
  exact ⟨rfl, N0, rfl⟩
theorem pd_1 : parseMethodDescriptor "([CII)[B" = some ⟨[(.array .char), .int, .int], some (.array .byte)⟩ := by decide +kernel
theorem pd_2 : parseMethodDescriptor "([BI)B" = some ⟨[(.array .byte), .int], some .byte⟩ := by decide +kernel
theorem d2_0 : decode jdk_42_method_149_code 0 = .ok (.aload_n 0, 1) := by decide +kernel
theorem d2_1 : decode jdk_42_method_149_code 1 = .ok (.invokespecial 1, 3) := by decide +kernel
theorem d2_4 : decode jdk_42_method_149_code 4 = .ok (.iload_n 3, 1) := by decide +kernel
theorem d2_5 : decode jdk_42_method_149_code 5 = .ok (.ifCond .ne 22, 3) := by decide +kernel
theorem d2_27 : decode jdk_42_method_149_code 27 = .ok (.getstatic 38, 3) := by decide +kernel
theorem d2_30 : decode jdk_42_method_149_code 30 = .ok (.ifCond .eq 28, 3) := by decide +kernel
theorem d2_33 : decode jdk_42_method_149_code 33 = .ok (.aload_n 1, 1) := by decide +kernel
theorem d2_34 : decode jdk_42_method_149_code 34 = .ok (.iload_n 2, 1) := by decide +kernel
theorem d2_35 : decode jdk_42_method_149_code 35 = .ok (.iload_n 3, 1) := by decide +kernel
theorem d2_36 : decode jdk_42_method_149_code 36 = .ok (.invokestatic 177, 3) := by decide +kernel
theorem d2_39 : decode jdk_42_method_149_code 39 = .ok (.astore 5, 2) := by decide +kernel
theorem d2_41 : decode jdk_42_method_149_code 41 = .ok (.aload_n 0, 1) := by decide +kernel
theorem d2_42 : decode jdk_42_method_149_code 42 = .ok (.aload 5, 2) := by decide +kernel
theorem d2_44 : decode jdk_42_method_149_code 44 = .ok (.iload_n 3, 1) := by decide +kernel
theorem d2_45 : decode jdk_42_method_149_code 45 = .ok (.invokestatic 47, 3) := by decide +kernel
theorem d2_48 : decode jdk_42_method_149_code 48 = .ok (.putfield 15, 3) := by decide +kernel
theorem d2_51 : decode jdk_42_method_149_code 51 = .ok (.aload_n 0, 1) := by decide +kernel
theorem d2_52 : decode jdk_42_method_149_code 52 = .ok (.aload 5, 2) := by decide +kernel
theorem d2_54 : decode jdk_42_method_149_code 54 = .ok (.putfield 9, 3) := by decide +kernel
theorem d2_57 : decode jdk_42_method_149_code 57 = .ok (.return_, 1) := by decide +kernel
theorem pn_java_lang_String : plainName "java/lang/String" = true := by first | (simp [plainName, overriddenIn]; done) | decide +kernel
theorem ef_2n4 (m : MethodId) (x0 : Addr) (x1 : Addr) : entryFrame m #[(.ref x0), (.ref x1), (.int (0 : Int32)), (.int (4 : Int32)), .null] 6 = mkF m 0 #[.val (.ref x0), .val (.ref x1), .val (.int (0 : Int32)), .val (.int (4 : Int32)), .val .null, .unset] [] := by first | (simp [entryFrame, mkF, argsToLocals, Value.category]; done) | rfl
def Q2n4 (Z : State) (tt : Addr) (a : Addr) (ks : ClassId) (cw : Int32) (ec0 : Int32) (ec1 : Int32) (ec2 : Int32) (ec3 : Int32) (h0 : Heap) (n0 : Nat) (v : Option Value) (h : Heap) (L : List Loc) : Prop := ∃ (b : Addr) (kb : ClassId), v = none ∧ Fr n0 L ∧ Keep h0 h [tt] ∧ (Fld Z h tt "java/lang/String" "value" "[B" (.ref b)) ∧ (Fld Z h tt "java/lang/String" "coder" "B" (.int (0 : Int32))) ∧ h0.size ≤ b ∧ (Arv Z h b kb .byte (4 : Int32) [(.int (nar .byte (ec0.toInt8.toInt32))), (.int (nar .byte (ec1.toInt8.toInt32))), (.int (nar .byte (ec2.toInt8.toInt32))), (.int (nar .byte (ec3.toInt8.toInt32)))] (.int (0 : Int32)))
set_option maxRecDepth 65536 in
set_option maxHeartbeats 40000000 in
theorem rm2n4 (l : Launch) (Z : State) (a0 : Array Value) (hw : ∀ d ∈ tables_1, d.before a0 Z = true) (ws : List Jvm.Cond) (tt : Addr) (a : Addr) (ks : ClassId) (cw : Int32) (ec0 : Int32) (ec1 : Int32) (ec2 : Int32) (ec3 : Int32) (h0 : Heap) (n0 : Nat) (Z0 : n0 ≤ h0.size) (P0 : Fld Z h0 tt "java/lang/String" "value" "[B" .null) (P1 : Fld Z h0 tt "java/lang/String" "coder" "B" (.int (0 : Int32))) (P2 : Exa Z h0 tt "java/lang/String") (P3 : n0 ≤ tt) (P4 : Arv Z h0 a ks .char (4 : Int32) [(.int ec0), (.int ec1), (.int ec2), (.int ec3)] (.int (0 : Int32))) (P5 : Sta Z h0 "java/lang/String" "COMPACT_STRINGS" "Z" (.int cw)) (hcw : ¬ cw = (0 : Int32)) (he0 : ¬ ((255 : Int32) < ec0)) (he1 : ¬ ((255 : Int32) < ec1)) (he2 : ¬ ((255 : Int32) < ec2)) (he3 : ¬ ((255 : Int32) < ec3)) :
    MetFree l (⟨"java/lang/String", "<init>", "([CIILjava/lang/Void;)V"⟩ : MethodName) (head1 (Jvm.Cond.code (⟨"java/lang/String", "<init>", "([CIILjava/lang/Void;)V"⟩ : MethodName) jdk_42_method_149_code 6 none :: ws) ({ frames := 2, cells := 1, slots := 4, locals := 35 } : Room)) (fun argz U => argz = #[(.ref tt), (.ref a), (.int (0 : Int32)), (.int (4 : Int32)), .null] ∧ Z.Warmed39 U.vm ∧ U.heap = h0) (fun _ _ _ _ _ => True) (fun _ U o U' => ∃ v L, o = .returned v ∧ Q2n4 Z tt a ks cw ec0 ec1 ec2 ec3 h0 n0 v U'.heap L ∧ FrameEnd U o U' L ({ frames := 2, cells := 1, slots := 4, locals := 35 } : Room).cells ({ frames := 2, cells := 1, slots := 4, locals := 35 } : Room).slots) := by
  refine MetFree.of_bodySF (plainFor_of_name pn_java_lang_String) hisR ?_
  intro p e s m args below meth c s₁ Bd hml0 hP hK
  obtain ⟨rfl, hZ, hh⟩ := hP
  have hx := Bd.exec
  have hby := Bd.bytes
  have hml : c.maxLocals = 6 := hml0
  have hown : s.vm.findClass "java/lang/String" = some m.cls := findClass_of_methodNamed Bd.named
  have hnm := (name_of_methodNamed Bd.named Bd.method).1
  have X0 : Stand p l e ({ frames := 2, cells := 1, slots := 4, locals := 35 } : Room) s m #[(.ref tt), (.ref a), (.int (0 : Int32)), (.int (4 : Int32)), .null] below meth c s₁ [] 0 0 := Stand.of_body Bd
  have e0 : s₁.heap = h0 := by rw [← hh, Bd.state]; rfl
  have N0 := Fr.nil n0
  have K0 : Keep h0 h0 [tt] := Keep.refl _ _
  have G : Gets p e below (s₁.setTop (entryFrame m #[(.ref tt), (.ref a), (.int (0 : Int32)), (.int (4 : Int32)), .null] 6)) (s₁.setTop (mkF m 0 #[.val (.ref tt), .val (.ref a), .val (.int (0 : Int32)), .val (.int (4 : Int32)), .val .null, .unset] [])) := fun t k => castTop (ef_2n4 m tt a) k
  replace G := own_aloadN (q := 1) G X0.here hx (hb hby d2_0) rfl rfl rfl
  obtain ⟨T1, X1, e1, st1⟩ := initO X0 hx hZ hown (hw _ (List.mem_of_getElem? (i := 15) rfl)) (hw _ (List.mem_of_getElem? (i := 16) rfl)) (hw _ (List.mem_of_getElem? (i := 17) rfl)) e0 (g := (mkF m 1 #[.val (.ref tt), .val (.ref a), .val (.int (0 : Int32)), .val (.int (4 : Int32)), .val .null, .unset] [(.ref tt)])) rfl (by rw [hml]; rfl) rfl (hb hby d2_1) (by decide) (W := 0) (by show 2 * 0 + _ ≤ _; exact Nat.le_of_eq rfl) (by decide)
  replace G : Gets p e below _ (T1.setTop (mkF m 4 #[.val (.ref tt), .val (.ref a), .val (.int (0 : Int32)), .val (.int (4 : Int32)), .val .null, .unset] [])) := fun t k => G t (st1 t k)
  replace G := own_iloadN (q := 5) G X1.here hx (hb hby d2_4) rfl rfl
  have hc5_2 : ¬ ((4 : Int32) = (0 : Int32)) := by decide
  replace G := own_ifYes (q := 27) G X1.here hx (hb hby d2_5) ((if0 _ _).trans (feq hc5_2).2) (by decide) (by decide)
  obtain ⟨T3, X3, e3, st3⟩ := getS2 X1 hx hZ hown (host := "") (Or.inl (hw _ (List.mem_of_getElem? (i := 18) rfl))) Via.refl e1 P5 (g := (mkF m 27 #[.val (.ref tt), .val (.ref a), .val (.int (0 : Int32)), .val (.int (4 : Int32)), .val .null, .unset] [])) rfl (hb hby d2_27)
  replace G : Gets p e below _ (T3.setTop (mkF m 30 #[.val (.ref tt), .val (.ref a), .val (.int (0 : Int32)), .val (.int (4 : Int32)), .val .null, .unset] [(.int cw)])) := fun t k => G t (st3 t k)
  have hc30_4 : ¬ (cw = (0 : Int32)) := hcw
  replace G := own_ifNo (q := 33) G X3.here hx (hb hby d2_30) ((if0 _ _).trans (feq hc30_4).1) rfl
  replace G := own_aloadN (q := 34) G X3.here hx (hb hby d2_33) rfl rfl rfl
  replace G := own_iloadN (q := 35) G X3.here hx (hb hby d2_34) rfl rfl
  replace G := own_iloadN (q := 36) G X3.here hx (hb hby d2_35) rfl rfl
  obtain ⟨_, _, ⟨T5, L5, kk5, nn5⟩, -, X5, ⟨Lc5, hQ5, l5, y5, z5⟩, st5⟩ := Jvm.LawKit.callS X3 hx (y := (⟨"java/lang/StringUTF16", "compress", "([CII)[B"⟩ : MethodName)) hown (mvT hZ (hw _ (List.mem_of_getElem? (i := 19) rfl))) (mvT hZ (hw _ (List.mem_of_getElem? (i := 20) rfl))) (mvT hZ (hw _ (List.mem_of_getElem? (i := 21) rfl))) (mvT hZ (hw _ (List.mem_of_getElem? (i := 22) rfl))) (by decide) (backOf (W := 0) (rm4n4 l Z a0 hw [] a ks ec0 ec1 ec2 ec3 h0 n0 Z0 P4 he0 he1 he2 he3) hZ (hw _ (List.mem_of_getElem? (i := 22) rfl)) (hw _ (List.mem_of_getElem? (i := 21) rfl)) (by decide) (by decide)) (g := (mkF m 36 #[.val (.ref tt), .val (.ref a), .val (.int (0 : Int32)), .val (.int (4 : Int32)), .val .null, .unset] [(.int (4 : Int32)), (.int (0 : Int32)), (.ref a)])) rfl (by rw [hml]; rfl) (argsL := [(.ref a), (.int (0 : Int32)), (.int (4 : Int32))]) (rest := []) (lenOf pd_1 rfl) rfl (by show 2 * 0 + _ ≤ _; exact Nat.le_of_eq rfl) (hb hby d2_36) (fun _ _ => ⟨rfl, e3, (by decide : 0 + 1 ≤ _), (by decide : 0 + 4 ≤ _)⟩)
  dsimp only [Pt.U, Pt.locs, Pt.cells, Pt.slots] at X5 l5 y5 z5 st5 hQ5
  subst l5 y5 z5
  obtain ⟨b_5, kb_5, rfl, N5q, K5q, B5_0, B5_1⟩ := hQ5
  have ne6 : tt ≠ b_5 := Nat.ne_of_lt (Nat.lt_of_lt_of_le P0.lt B5_0)
  have ne7 : a ≠ b_5 := Nat.ne_of_lt (Nat.lt_of_lt_of_le P4.lt B5_0)
  have ge_b_5 : n0 ≤ b_5 := Nat.le_trans Z0 B5_0
  have sz_b_5 : h0.size ≤ b_5 := Nat.le_trans K0.1 B5_0
  have Z5 : n0 ≤ T5.heap.size := Nat.le_trans Z0 K5q.1
  have K5 : Keep h0 T5.heap [tt] := K0.trans K5q all0
  have N5 := Fr.app N0 N5q
  replace G : Gets p e below _ (T5.setTop (mkF m 39 #[.val (.ref tt), .val (.ref a), .val (.int (0 : Int32)), .val (.int (4 : Int32)), .val .null, .unset] [(.ref b_5)])) := fun t k => G t (st5 t k)
  replace G := own_astore (q := 41) (l' := #[.val (.ref tt), .val (.ref a), .val (.int (0 : Int32)), .val (.int (4 : Int32)), .val .null, .val (.ref b_5)]) G X5.here hx (hb hby d2_39) rfl rfl rfl
  replace G := own_aloadN (q := 42) G X5.here hx (hb hby d2_41) rfl rfl rfl
  replace G := own_aload (q := 44) G X5.here hx (hb hby d2_42) rfl rfl rfl
  replace G := own_iloadN (q := 45) G X5.here hx (hb hby d2_44) rfl rfl
  obtain ⟨_, _, ⟨T8, L8, kk8, nn8⟩, -, X8, ⟨Lc8, hQ8, l8, y8, z8⟩, st8⟩ := Jvm.LawKit.callS X5 hx (y := (⟨"java/lang/StringUTF16", "coderFromArrayLen", "([BI)B"⟩ : MethodName)) hown (mvT hZ (hw _ (List.mem_of_getElem? (i := 27) rfl))) (mvT hZ (hw _ (List.mem_of_getElem? (i := 28) rfl))) (mvT hZ (hw _ (List.mem_of_getElem? (i := 21) rfl))) (mvT hZ (hw _ (List.mem_of_getElem? (i := 29) rfl))) (by decide) (backOf (W := 1) (rm6n4 l Z a0 hw [] b_5 kb_5 [(.int (nar .byte (ec0.toInt8.toInt32))), (.int (nar .byte (ec1.toInt8.toInt32))), (.int (nar .byte (ec2.toInt8.toInt32))), (.int (nar .byte (ec3.toInt8.toInt32)))] T5.heap n0 Z5 B5_1) hZ (hw _ (List.mem_of_getElem? (i := 29) rfl)) (hw _ (List.mem_of_getElem? (i := 21) rfl)) (by decide) (by decide)) (g := (mkF m 45 #[.val (.ref tt), .val (.ref a), .val (.int (0 : Int32)), .val (.int (4 : Int32)), .val .null, .val (.ref b_5)] [(.int (4 : Int32)), (.ref b_5), (.ref tt)])) rfl (by rw [hml]; rfl) (argsL := [(.ref b_5), (.int (4 : Int32))]) (rest := [(.ref tt)]) (lenOf pd_2 rfl) rfl (by show 2 * 0 + _ ≤ _; exact Nat.le_of_eq rfl) (hb hby d2_45) (fun _ _ => ⟨rfl, rfl, (by decide : 1 + 0 ≤ _), (by decide : 4 + 0 ≤ _)⟩)
  dsimp only [Pt.U, Pt.locs, Pt.cells, Pt.slots] at X8 l8 y8 z8 st8 hQ8
  subst l8 y8 z8
  obtain ⟨rfl, N8q, e8⟩ := hQ8
  have N8 := Fr.app N5 N8q
  replace G : Gets p e below _ (T8.setTop (mkF m 48 #[.val (.ref tt), .val (.ref a), .val (.int (0 : Int32)), .val (.int (4 : Int32)), .val .null, .val (.ref b_5)] [(.int (0 : Int32)), (.ref tt)])) := fun t k => G t (st8 t k)
  have F9 : Exa Z T5.heap tt "java/lang/String" := (P2.keep K5q)
  have F10 : Fld Z T5.heap tt "java/lang/String" "coder" "B" (.int (0 : Int32)) := (P1.keep K5q nin0)
  obtain ⟨T11, h11, X11, e11, W11, st11⟩ := putFN X8 hx hZ hown (hw _ (List.mem_of_getElem? (i := 30) rfl)) Via.refl e8 F10 F9 (Or.inr ⟨(hw _ (List.mem_of_getElem? (i := 31) rfl)), rfl, hnm⟩) (hw _ (List.mem_of_getElem? (i := 6) rfl)) (ty := .byte) (v' := (.int (0 : Int32))) (by decide) rfl (by first | rfl | decide) (g := (mkF m 48 #[.val (.ref tt), .val (.ref a), .val (.int (0 : Int32)), .val (.int (4 : Int32)), .val .null, .val (.ref b_5)] [(.int (0 : Int32)), (.ref tt)])) rfl rfl (hb hby d2_48)
  have N11 := Fr.snoc X11 N8 P3
  have Z11 : n0 ≤ h11.size := Nat.le_trans Z5 (Keep.of_wr W11).1
  have K11 : Keep h0 h11 [tt] := K5.wr W11 (Or.inl (List.mem_of_getElem? (i := 0) rfl))
  have F11 : Fld Z h11 tt "java/lang/String" "coder" "B" (.int (0 : Int32)) := F10.same W11
  replace G : Gets p e below _ (T11.setTop (mkF m 51 #[.val (.ref tt), .val (.ref a), .val (.int (0 : Int32)), .val (.int (4 : Int32)), .val .null, .val (.ref b_5)] [])) := fun t k => G t (st11 t k)
  replace G := own_aloadN (q := 52) G X11.here hx (hb hby d2_51) rfl rfl rfl
  replace G := own_aload (q := 54) G X11.here hx (hb hby d2_52) rfl rfl rfl
  have F12 : Exa Z h11 tt "java/lang/String" := (F9.wr W11)
  have F13 : Fld Z h11 tt "java/lang/String" "value" "[B" .null := ((P0.keep K5q nin0).other W11 (Or.inr (slot_ne (Or.inr (hw _ (List.mem_of_getElem? (i := 33) rfl))) (Or.inr (hw _ (List.mem_of_getElem? (i := 31) rfl))) (by decide) (t := (.array .byte)) (t' := .byte) (by decide) (by decide))))
  obtain ⟨T14, h14, X14, e14, W14, st14⟩ := putF X11 hx hZ hown (host := "") (Or.inl (hw _ (List.mem_of_getElem? (i := 32) rfl))) Via.refl e11 F13 F12 (Or.inr ⟨(hw _ (List.mem_of_getElem? (i := 33) rfl)), rfl, hnm⟩) (hw _ (List.mem_of_getElem? (i := 6) rfl)) (ty := (.array .byte)) (by decide) rfl rfl (g := (mkF m 54 #[.val (.ref tt), .val (.ref a), .val (.int (0 : Int32)), .val (.int (4 : Int32)), .val .null, .val (.ref b_5)] [(.ref b_5), (.ref tt)])) rfl rfl (hb hby d2_54)
  have N14 := Fr.snoc X14 N11 P3
  have Z14 : n0 ≤ h14.size := Nat.le_trans Z11 (Keep.of_wr W14).1
  have K14 : Keep h0 h14 [tt] := K11.wr W14 (Or.inl (List.mem_of_getElem? (i := 0) rfl))
  have F14 : Fld Z h14 tt "java/lang/String" "value" "[B" (.ref b_5) := F13.same W14
  replace G : Gets p e below _ (T14.setTop (mkF m 57 #[.val (.ref tt), .val (.ref a), .val (.int (0 : Int32)), .val (.int (4 : Int32)), .val .null, .val (.ref b_5)] [])) := fun t k => G t (st14 t k)
  obtain ⟨fs, hr, hrun, hended, hW, hsame⟩ := X14.leave (v := none) (fun _ => rfl)
  refine ⟨_, _, G _ (X14.returnOut hx Bd.returns (hb hby d2_57) hr), hrun, hended, _, _, rfl, ?_, ⟨_, rfl⟩, hW, hsame.mono (by decide) (by decide)⟩
  have F15 : Fld Z h14 tt "java/lang/String" "coder" "B" (.int (0 : Int32)) := (F11.other W14 (Or.inr (slot_ne (Or.inr (hw _ (List.mem_of_getElem? (i := 31) rfl))) (Or.inr (hw _ (List.mem_of_getElem? (i := 33) rfl))) (by decide) (t := .byte) (t' := (.array .byte)) (by decide) (by decide))))
  have F16 : Arv Z h14 b_5 kb_5 .byte (4 : Int32) [(.int (nar .byte (ec0.toInt8.toInt32))), (.int (nar .byte (ec1.toInt8.toInt32))), (.int (nar .byte (ec2.toInt8.toInt32))), (.int (nar .byte (ec3.toInt8.toInt32)))] (.int (0 : Int32)) := ((B5_1.other W11 (Ne.symm ne6)).other W14 (Ne.symm ne6))
  show Q2n4 Z tt a ks cw ec0 ec1 ec2 ec3 h0 n0 _ T14.heap _
  rw [e14]
  exact ⟨b_5, kb_5, rfl, N14, K14, F14, F15, sz_b_5, F16⟩
theorem pd_3 : parseMethodDescriptor "([CIILjava/lang/Void;)V" = some ⟨[(.array .char), .int, .int, (.object "java/lang/Void")], none⟩ := by decide +kernel
theorem d1_0 : decode jdk_42_method_3_code 0 = .ok (.aload_n 0, 1) := by decide +kernel
theorem d1_1 : decode jdk_42_method_3_code 1 = .ok (.aload_n 1, 1) := by decide +kernel
theorem d1_2 : decode jdk_42_method_3_code 2 = .ok (.iconst 0, 1) := by decide +kernel
theorem d1_3 : decode jdk_42_method_3_code 3 = .ok (.aload_n 1, 1) := by decide +kernel
theorem d1_4 : decode jdk_42_method_3_code 4 = .ok (.arraylength, 1) := by decide +kernel
theorem d1_5 : decode jdk_42_method_3_code 5 = .ok (.aconst_null, 1) := by decide +kernel
theorem d1_6 : decode jdk_42_method_3_code 6 = .ok (.invokespecial 27, 3) := by decide +kernel
theorem d1_9 : decode jdk_42_method_3_code 9 = .ok (.return_, 1) := by decide +kernel
theorem ef_1n4 (m : MethodId) (x0 : Addr) (x1 : Addr) : entryFrame m #[(.ref x0), (.ref x1)] 2 = mkF m 0 #[.val (.ref x0), .val (.ref x1)] [] := by first | (simp [entryFrame, mkF, argsToLocals, Value.category]; done) | rfl
def Q1n4 (Z : State) (tt : Addr) (a : Addr) (ks : ClassId) (cw : Int32) (ec0 : Int32) (ec1 : Int32) (ec2 : Int32) (ec3 : Int32) (h0 : Heap) (n0 : Nat) (v : Option Value) (h : Heap) (L : List Loc) : Prop := ∃ (b : Addr) (kb : ClassId), v = none ∧ Fr n0 L ∧ Keep h0 h [tt] ∧ (Fld Z h tt "java/lang/String" "value" "[B" (.ref b)) ∧ (Fld Z h tt "java/lang/String" "coder" "B" (.int (0 : Int32))) ∧ h0.size ≤ b ∧ (Arv Z h b kb .byte (4 : Int32) [(.int (nar .byte (ec0.toInt8.toInt32))), (.int (nar .byte (ec1.toInt8.toInt32))), (.int (nar .byte (ec2.toInt8.toInt32))), (.int (nar .byte (ec3.toInt8.toInt32)))] (.int (0 : Int32)))
set_option maxRecDepth 65536 in
set_option maxHeartbeats 40000000 in
theorem rm1n4 (l : Launch) (Z : State) (a0 : Array Value) (hw : ∀ d ∈ tables_1, d.before a0 Z = true) (ws : List Jvm.Cond) (tt : Addr) (a : Addr) (ks : ClassId) (cw : Int32) (ec0 : Int32) (ec1 : Int32) (ec2 : Int32) (ec3 : Int32) (h0 : Heap) (n0 : Nat) (Z0 : n0 ≤ h0.size) (P0 : Fld Z h0 tt "java/lang/String" "value" "[B" .null) (P1 : Fld Z h0 tt "java/lang/String" "coder" "B" (.int (0 : Int32))) (P2 : Exa Z h0 tt "java/lang/String") (P3 : n0 ≤ tt) (P4 : Arv Z h0 a ks .char (4 : Int32) [(.int ec0), (.int ec1), (.int ec2), (.int ec3)] (.int (0 : Int32))) (P5 : Sta Z h0 "java/lang/String" "COMPACT_STRINGS" "Z" (.int cw)) (hcw : ¬ cw = (0 : Int32)) (he0 : ¬ ((255 : Int32) < ec0)) (he1 : ¬ ((255 : Int32) < ec1)) (he2 : ¬ ((255 : Int32) < ec2)) (he3 : ¬ ((255 : Int32) < ec3)) :
    MetFree l (⟨"java/lang/String", "<init>", "([C)V"⟩ : MethodName) (head1 (Jvm.Cond.code (⟨"java/lang/String", "<init>", "([C)V"⟩ : MethodName) jdk_42_method_3_code 2 none :: ws) ({ frames := 3, cells := 1, slots := 4, locals := 52 } : Room)) (fun argz U => argz = #[(.ref tt), (.ref a)] ∧ Z.Warmed39 U.vm ∧ U.heap = h0) (fun _ _ _ _ _ => True) (fun _ U o U' => ∃ v L, o = .returned v ∧ Q1n4 Z tt a ks cw ec0 ec1 ec2 ec3 h0 n0 v U'.heap L ∧ FrameEnd U o U' L ({ frames := 3, cells := 1, slots := 4, locals := 52 } : Room).cells ({ frames := 3, cells := 1, slots := 4, locals := 52 } : Room).slots) := by
  refine MetFree.of_bodySF (plainFor_of_name pn_java_lang_String) hisR ?_
  intro p e s m args below meth c s₁ Bd hml0 hP hK
  obtain ⟨rfl, hZ, hh⟩ := hP
  have hx := Bd.exec
  have hby := Bd.bytes
  have hml : c.maxLocals = 2 := hml0
  have hown : s.vm.findClass "java/lang/String" = some m.cls := findClass_of_methodNamed Bd.named
  have hnm := (name_of_methodNamed Bd.named Bd.method).1
  have X0 : Stand p l e ({ frames := 3, cells := 1, slots := 4, locals := 52 } : Room) s m #[(.ref tt), (.ref a)] below meth c s₁ [] 0 0 := Stand.of_body Bd
  have e0 : s₁.heap = h0 := by rw [← hh, Bd.state]; rfl
  have N0 := Fr.nil n0
  have K0 : Keep h0 h0 [tt] := Keep.refl _ _
  have G : Gets p e below (s₁.setTop (entryFrame m #[(.ref tt), (.ref a)] 2)) (s₁.setTop (mkF m 0 #[.val (.ref tt), .val (.ref a)] [])) := fun t k => castTop (ef_1n4 m tt a) k
  replace G := own_aloadN (q := 1) G X0.here hx (hb hby d1_0) rfl rfl rfl
  replace G := own_aloadN (q := 2) G X0.here hx (hb hby d1_1) rfl rfl rfl
  replace G := own_iconst (q := 3) G X0.here hx (hb hby d1_2) (v := (0 : Int32)) (by decide) rfl
  replace G := own_aloadN (q := 4) G X0.here hx (hb hby d1_3) rfl rfl rfl
  obtain ⟨c1, Ar1, -, S1, N1', -, -⟩ := id P4
  replace G : Gets p e below _ (s₁.setTop (mkF m 5 #[.val (.ref tt), .val (.ref a)] [(.int (4 : Int32)), (.int (0 : Int32)), (.ref a), (.ref tt)])) := fun t k => G t (X0.arraylength hx (by rw [e0]; exact Ar1.1) (State.isArrayOf_alike hZ.alike Ar1.2.1) (g := (mkF m 4 #[.val (.ref tt), .val (.ref a)] [(.ref a), (.int (0 : Int32)), (.ref a), (.ref tt)])) rfl rfl (hb hby d1_4) t (by rw [len_of S1 N1']; exact k))
  replace G := own_aconst_null (q := 6) G X0.here hx (hb hby d1_5) rfl
  obtain ⟨_, _, ⟨T2, L2, kk2, nn2⟩, -, X2, ⟨Lc2, hQ2, l2, y2, z2⟩, st2⟩ := X0.specialBack hx (y := (⟨"java/lang/String", "<init>", "([CIILjava/lang/Void;)V"⟩ : MethodName)) rfl hown (mvT hZ (hw _ (List.mem_of_getElem? (i := 11) rfl))) (mvT hZ (hw _ (List.mem_of_getElem? (i := 12) rfl))) (mvT hZ (hw _ (List.mem_of_getElem? (i := 14) rfl))) (by decide) (backOf (W := 0) (rm2n4 l Z a0 hw [] tt a ks cw ec0 ec1 ec2 ec3 h0 n0 Z0 P0 P1 P2 P3 P4 P5 hcw he0 he1 he2 he3) hZ (hw _ (List.mem_of_getElem? (i := 14) rfl)) (hw _ (List.mem_of_getElem? (i := 7) rfl)) (by decide) (by decide)) (g := (mkF m 6 #[.val (.ref tt), .val (.ref a)] [.null, (.int (4 : Int32)), (.int (0 : Int32)), (.ref a), (.ref tt)])) rfl (by rw [hml]; rfl) (Steps.refl _) (a := tt) (argsL := [(.ref a), (.int (0 : Int32)), (.int (4 : Int32)), .null]) (rest := []) (lenOf pd_3 rfl) rfl (by show 2 * 0 + _ ≤ _; exact Nat.le_of_eq rfl) (hb hby d1_6) (fun _ _ => ⟨rfl, e0, (by decide : 0 + 1 ≤ _), (by decide : 0 + 4 ≤ _)⟩)
  dsimp only [Pt.U, Pt.locs, Pt.cells, Pt.slots] at X2 l2 y2 z2 st2 hQ2
  subst l2 y2 z2
  obtain ⟨b_2, kb_2, rfl, N2q, K2q, B2_0, B2_1, B2_2, B2_3⟩ := hQ2
  have ne3 : tt ≠ b_2 := Nat.ne_of_lt (Nat.lt_of_lt_of_le P0.lt B2_2)
  have ne4 : a ≠ b_2 := Nat.ne_of_lt (Nat.lt_of_lt_of_le P4.lt B2_2)
  have ge_b_2 : n0 ≤ b_2 := Nat.le_trans Z0 B2_2
  have sz_b_2 : h0.size ≤ b_2 := Nat.le_trans K0.1 B2_2
  have Z2 : n0 ≤ T2.heap.size := Nat.le_trans Z0 K2q.1
  have K2 : Keep h0 T2.heap [tt] := K0.trans K2q (allS (Or.inl (List.mem_of_getElem? (i := 0) rfl)) all0)
  have N2 := Fr.app N0 N2q
  replace G : Gets p e below _ (T2.setTop (mkF m 9 #[.val (.ref tt), .val (.ref a)] [])) := fun t k => G t (st2.trans k)
  obtain ⟨fs, hr, hrun, hended, hW, hsame⟩ := X2.leave (v := none) (fun _ => rfl)
  refine ⟨_, _, G _ (X2.returnOut hx Bd.returns (hb hby d1_9) hr), hrun, hended, _, _, rfl, ?_, ⟨_, rfl⟩, hW, hsame.mono (by decide) (by decide)⟩
  show Q1n4 Z tt a ks cw ec0 ec1 ec2 ec3 h0 n0 _ T2.heap _
  exact ⟨b_2, kb_2, rfl, N2, K2, B2_0, B2_1, sz_b_2, B2_3⟩
theorem ef_5n3 (m : MethodId) (x0 : Addr) (x2 : Addr) : entryFrame m #[(.ref x0), (.int (0 : Int32)), (.ref x2), (.int (0 : Int32)), (.int (3 : Int32))] 7 = mkF m 0 #[.val (.ref x0), .val (.int (0 : Int32)), .val (.ref x2), .val (.int (0 : Int32)), .val (.int (3 : Int32)), .unset, .unset] [] := by first | (simp [entryFrame, mkF, argsToLocals, Value.category]; done) | rfl
def Q5n3 (Z : State) (a : Addr) (d : Addr) (ks : ClassId) (kd : ClassId) (ec0 : Int32) (ec1 : Int32) (ec2 : Int32) (h0 : Heap) (n0 : Nat) (v : Option Value) (h : Heap) (L : List Loc) : Prop := v = some (.int (3 : Int32)) ∧ Fr n0 L ∧ Keep h0 h [d] ∧ (Arv Z h d kd .byte (3 : Int32) [(.int (nar .byte (ec0.toInt8.toInt32))), (.int (nar .byte (ec1.toInt8.toInt32))), (.int (nar .byte (ec2.toInt8.toInt32)))] (.int (0 : Int32)))
set_option maxRecDepth 65536 in
set_option maxHeartbeats 40000000 in
theorem rm5n3 (l : Launch) (Z : State) (a0 : Array Value) (hw : ∀ d ∈ tables_1, d.before a0 Z = true) (ws : List Jvm.Cond) (a : Addr) (d : Addr) (ks : ClassId) (kd : ClassId) (ec0 : Int32) (ec1 : Int32) (ec2 : Int32) (h0 : Heap) (n0 : Nat) (Z0 : n0 ≤ h0.size) (P0 : Arv Z h0 a ks .char (3 : Int32) [(.int ec0), (.int ec1), (.int ec2)] (.int (0 : Int32))) (P1 : Arv Z h0 d kd .byte (3 : Int32) [(.int (0 : Int32)), (.int (0 : Int32)), (.int (0 : Int32))] (.int (0 : Int32))) (P2 : n0 ≤ d) (P3 : a ≠ d) (he0 : ¬ ((255 : Int32) < ec0)) (he1 : ¬ ((255 : Int32) < ec1)) (he2 : ¬ ((255 : Int32) < ec2)) :
    MetFree l (⟨"java/lang/StringUTF16", "compress", "([CI[BII)I"⟩ : MethodName) (head1 (Jvm.Cond.code (⟨"java/lang/StringUTF16", "compress", "([CI[BII)I"⟩ : MethodName) jdk_52_method_21_code 7 (some .int) :: ws) ({ frames := 0, cells := 0, slots := 0, locals := 0 } : Room)) (fun argz U => argz = #[(.ref a), (.int (0 : Int32)), (.ref d), (.int (0 : Int32)), (.int (3 : Int32))] ∧ Z.Warmed39 U.vm ∧ U.heap = h0) (fun _ _ _ _ _ => True) (fun _ U o U' => ∃ v L, o = .returned v ∧ Q5n3 Z a d ks kd ec0 ec1 ec2 h0 n0 v U'.heap L ∧ FrameEnd U o U' L ({ frames := 0, cells := 0, slots := 0, locals := 0 } : Room).cells ({ frames := 0, cells := 0, slots := 0, locals := 0 } : Room).slots) := by
  refine MetFree.of_bodySF (plainFor_of_name pn_java_lang_StringUTF16) hisR ?_
  intro p e s m args below meth c s₁ Bd hml0 hP hK
  obtain ⟨rfl, hZ, hh⟩ := hP
  have hx := Bd.exec
  have hby := Bd.bytes
  have hml : c.maxLocals = 7 := hml0
  have hown : s.vm.findClass "java/lang/StringUTF16" = some m.cls := findClass_of_methodNamed Bd.named
  have hnm := (name_of_methodNamed Bd.named Bd.method).1
  have X0 : Stand p l e ({ frames := 0, cells := 0, slots := 0, locals := 0 } : Room) s m #[(.ref a), (.int (0 : Int32)), (.ref d), (.int (0 : Int32)), (.int (3 : Int32))] below meth c s₁ [] 0 0 := Stand.of_body Bd
  have e0 : s₁.heap = h0 := by rw [← hh, Bd.state]; rfl
  have N0 := Fr.nil n0
  have K0 : Keep h0 h0 [d] := Keep.refl _ _
  have G : Gets p e below (s₁.setTop (entryFrame m #[(.ref a), (.int (0 : Int32)), (.ref d), (.int (0 : Int32)), (.int (3 : Int32))] 7)) (s₁.setTop (mkF m 0 #[.val (.ref a), .val (.int (0 : Int32)), .val (.ref d), .val (.int (0 : Int32)), .val (.int (3 : Int32)), .unset, .unset] [])) := fun t k => castTop (ef_5n3 m a d) k
  replace G := own_iconst (q := 1) G X0.here hx (hb hby d5_0) (v := (0 : Int32)) (by decide) rfl
  replace G := own_istore (q := 3) (l' := #[.val (.ref a), .val (.int (0 : Int32)), .val (.ref d), .val (.int (0 : Int32)), .val (.int (3 : Int32)), .val (.int (0 : Int32)), .unset]) G X0.here hx (hb hby d5_1) rfl rfl
  replace G := own_iload (q := 5) G X0.here hx (hb hby d5_3) rfl rfl
  replace G := own_iload (q := 7) G X0.here hx (hb hby d5_5) rfl rfl
  have hc7_1 : (0 : Int32) < (3 : Int32) := by decide
  replace G := own_icmpNo (q := 10) G X0.here hx (hb hby d5_7) (tlt hc7_1).2.1 rfl
  replace G := own_aloadN (q := 11) G X0.here hx (hb hby d5_10) rfl rfl rfl
  replace G := own_iloadN (q := 12) G X0.here hx (hb hby d5_11) rfl rfl
  obtain ⟨c2, Ar2, -, S2, -, H2, -⟩ := id P0
  have hin2 : ¬ ((0 : Int32) < 0 ∨ c2.slots.size ≤ ((0 : Int32)).toNatClampNeg) := inb_of S2 ⟨by decide, by decide⟩
  replace G : Gets p e below _ (s₁.setTop (mkF m 13 #[.val (.ref a), .val (.int (0 : Int32)), .val (.ref d), .val (.int (0 : Int32)), .val (.int (3 : Int32)), .val (.int (0 : Int32)), .unset] [(.int ec0)])) := fun t k => G t (X0.caload hx (j := (0 : Int32)) (v := (.int ec0)) (by rw [e0]; exact Ar2.1) (State.isArrayOf_alike hZ.alike Ar2.2.1) Ar2.2.2 hin2 (Has.at H2 hin2 rfl) (g := (mkF m 12 #[.val (.ref a), .val (.int (0 : Int32)), .val (.ref d), .val (.int (0 : Int32)), .val (.int (3 : Int32)), .val (.int (0 : Int32)), .unset] [(.int (0 : Int32)), (.ref a)])) rfl rfl (hb hby d5_12) t k)
  replace G := own_istore (q := 15) (l' := #[.val (.ref a), .val (.int (0 : Int32)), .val (.ref d), .val (.int (0 : Int32)), .val (.int (3 : Int32)), .val (.int (0 : Int32)), .val (.int ec0)]) G X0.here hx (hb hby d5_13) rfl rfl
  replace G := own_iload (q := 17) G X0.here hx (hb hby d5_15) rfl rfl
  replace G := own_sipush (q := 20) G X0.here hx (hb hby d5_17) (v := (255 : Int32)) (by decide) rfl
  have hc20_3 : ¬ ((255 : Int32) < ec0) := he0
  replace G := own_icmpYes (q := 26) G X0.here hx (hb hby d5_20) (flt hc20_3).2.2.2 (by decide) (by decide)
  replace G := own_aloadN (q := 27) G X0.here hx (hb hby d5_26) rfl rfl rfl
  replace G := own_iloadN (q := 28) G X0.here hx (hb hby d5_27) rfl rfl
  replace G := own_iload (q := 30) G X0.here hx (hb hby d5_28) rfl rfl
  replace G := own_i2b (q := 31) G X0.here hx (hb hby d5_30) rfl rfl
  obtain ⟨c4, Ar4, q4, S4, N4', H4, G4'⟩ := id P1
  have hin4 : ¬ ((0 : Int32) < 0 ∨ c4.slots.size ≤ ((0 : Int32)).toNatClampNeg) := inb_of S4 ⟨by decide, by decide⟩
  obtain ⟨T4, h4, X4, e4, W4, st4⟩ := stB X0 hx hZ e0 Ar4 (j := (0 : Int32)) hin4 (g := (mkF m 31 #[.val (.ref a), .val (.int (0 : Int32)), .val (.ref d), .val (.int (0 : Int32)), .val (.int (3 : Int32)), .val (.int (0 : Int32)), .val (.int ec0)] [(.int (ec0.toInt8.toInt32)), (.int (0 : Int32)), (.ref d)])) rfl rfl (hb hby d5_31)
  have N4 := Fr.snoc X4 N0 P2
  have Z4 : n0 ≤ h4.size := Nat.le_trans Z0 (Keep.of_wr W4).1
  have K4 : Keep h0 h4 [d] := K0.wr W4 (Or.inl (List.mem_of_getElem? (i := 0) rfl))
  have V4 : Arv Z h4 d kd .byte (3 : Int32) [(.int (nar .byte (ec0.toInt8.toInt32))), (.int (0 : Int32)), (.int (0 : Int32))] (.int (0 : Int32)) := Arv.set Ar4 q4 S4 N4' H4 G4' (fits_nar_byte _) W4 0 rfl (Nat.le_of_ble_eq_true rfl)
  replace G : Gets p e below _ (T4.setTop (mkF m 32 #[.val (.ref a), .val (.int (0 : Int32)), .val (.ref d), .val (.int (0 : Int32)), .val (.int (3 : Int32)), .val (.int (0 : Int32)), .val (.int ec0)] [])) := fun t k => G t (st4 t k)
  replace G := own_iinc (q := 35) (l' := #[.val (.ref a), .val (.int (1 : Int32)), .val (.ref d), .val (.int (0 : Int32)), .val (.int (3 : Int32)), .val (.int (0 : Int32)), .val (.int ec0)]) (w := (1 : Int32)) G X4.here hx (hb hby d5_32) (by decide) rfl (by decide : ((0 : Int32) + (1 : Int32)) = (1 : Int32)) rfl rfl
  replace G := own_iinc (q := 38) (l' := #[.val (.ref a), .val (.int (1 : Int32)), .val (.ref d), .val (.int (1 : Int32)), .val (.int (3 : Int32)), .val (.int (0 : Int32)), .val (.int ec0)]) (w := (1 : Int32)) G X4.here hx (hb hby d5_35) (by decide) rfl (by decide : ((0 : Int32) + (1 : Int32)) = (1 : Int32)) rfl rfl
  replace G := own_iinc (q := 41) (l' := #[.val (.ref a), .val (.int (1 : Int32)), .val (.ref d), .val (.int (1 : Int32)), .val (.int (3 : Int32)), .val (.int (1 : Int32)), .val (.int ec0)]) (w := (1 : Int32)) G X4.here hx (hb hby d5_38) (by decide) rfl (by decide : ((0 : Int32) + (1 : Int32)) = (1 : Int32)) rfl rfl
  replace G := own_goto (q := 3) G X4.here hx (hb hby d5_41) (by decide) (by decide)
  replace G := own_iload (q := 5) G X4.here hx (hb hby d5_3) rfl rfl
  replace G := own_iload (q := 7) G X4.here hx (hb hby d5_5) rfl rfl
  have hc7_5 : (1 : Int32) < (3 : Int32) := by decide
  replace G := own_icmpNo (q := 10) G X4.here hx (hb hby d5_7) (tlt hc7_5).2.1 rfl
  replace G := own_aloadN (q := 11) G X4.here hx (hb hby d5_10) rfl rfl rfl
  replace G := own_iloadN (q := 12) G X4.here hx (hb hby d5_11) rfl rfl
  have F6 : Arv Z h4 a ks .char (3 : Int32) [(.int ec0), (.int ec1), (.int ec2)] (.int (0 : Int32)) := (P0.other W4 P3)
  obtain ⟨c7, Ar7, -, S7, -, H7, -⟩ := id F6
  have hin7 : ¬ ((1 : Int32) < 0 ∨ c7.slots.size ≤ ((1 : Int32)).toNatClampNeg) := inb_of S7 ⟨by decide, by decide⟩
  replace G : Gets p e below _ (T4.setTop (mkF m 13 #[.val (.ref a), .val (.int (1 : Int32)), .val (.ref d), .val (.int (1 : Int32)), .val (.int (3 : Int32)), .val (.int (1 : Int32)), .val (.int ec0)] [(.int ec1)])) := fun t k => G t (X4.caload hx (j := (1 : Int32)) (v := (.int ec1)) (by rw [e4]; exact Ar7.1) (State.isArrayOf_alike hZ.alike Ar7.2.1) Ar7.2.2 hin7 (Has.at H7 hin7 rfl) (g := (mkF m 12 #[.val (.ref a), .val (.int (1 : Int32)), .val (.ref d), .val (.int (1 : Int32)), .val (.int (3 : Int32)), .val (.int (1 : Int32)), .val (.int ec0)] [(.int (1 : Int32)), (.ref a)])) rfl rfl (hb hby d5_12) t k)
  replace G := own_istore (q := 15) (l' := #[.val (.ref a), .val (.int (1 : Int32)), .val (.ref d), .val (.int (1 : Int32)), .val (.int (3 : Int32)), .val (.int (1 : Int32)), .val (.int ec1)]) G X4.here hx (hb hby d5_13) rfl rfl
  replace G := own_iload (q := 17) G X4.here hx (hb hby d5_15) rfl rfl
  replace G := own_sipush (q := 20) G X4.here hx (hb hby d5_17) (v := (255 : Int32)) (by decide) rfl
  have hc20_8 : ¬ ((255 : Int32) < ec1) := he1
  replace G := own_icmpYes (q := 26) G X4.here hx (hb hby d5_20) (flt hc20_8).2.2.2 (by decide) (by decide)
  replace G := own_aloadN (q := 27) G X4.here hx (hb hby d5_26) rfl rfl rfl
  replace G := own_iloadN (q := 28) G X4.here hx (hb hby d5_27) rfl rfl
  replace G := own_iload (q := 30) G X4.here hx (hb hby d5_28) rfl rfl
  replace G := own_i2b (q := 31) G X4.here hx (hb hby d5_30) rfl rfl
  obtain ⟨c9, Ar9, q9, S9, N9', H9, G9'⟩ := id V4
  have hin9 : ¬ ((1 : Int32) < 0 ∨ c9.slots.size ≤ ((1 : Int32)).toNatClampNeg) := inb_of S9 ⟨by decide, by decide⟩
  obtain ⟨T9, h9, X9, e9, W9, st9⟩ := stB X4 hx hZ e4 Ar9 (j := (1 : Int32)) hin9 (g := (mkF m 31 #[.val (.ref a), .val (.int (1 : Int32)), .val (.ref d), .val (.int (1 : Int32)), .val (.int (3 : Int32)), .val (.int (1 : Int32)), .val (.int ec1)] [(.int (ec1.toInt8.toInt32)), (.int (1 : Int32)), (.ref d)])) rfl rfl (hb hby d5_31)
  have N9 := Fr.snoc X9 N4 P2
  have Z9 : n0 ≤ h9.size := Nat.le_trans Z4 (Keep.of_wr W9).1
  have K9 : Keep h0 h9 [d] := K4.wr W9 (Or.inl (List.mem_of_getElem? (i := 0) rfl))
  have V9 : Arv Z h9 d kd .byte (3 : Int32) [(.int (nar .byte (ec0.toInt8.toInt32))), (.int (nar .byte (ec1.toInt8.toInt32))), (.int (0 : Int32))] (.int (0 : Int32)) := Arv.set Ar9 q9 S9 N9' H9 G9' (fits_nar_byte _) W9 1 rfl (Nat.le_of_ble_eq_true rfl)
  replace G : Gets p e below _ (T9.setTop (mkF m 32 #[.val (.ref a), .val (.int (1 : Int32)), .val (.ref d), .val (.int (1 : Int32)), .val (.int (3 : Int32)), .val (.int (1 : Int32)), .val (.int ec1)] [])) := fun t k => G t (st9 t k)
  replace G := own_iinc (q := 35) (l' := #[.val (.ref a), .val (.int (2 : Int32)), .val (.ref d), .val (.int (1 : Int32)), .val (.int (3 : Int32)), .val (.int (1 : Int32)), .val (.int ec1)]) (w := (1 : Int32)) G X9.here hx (hb hby d5_32) (by decide) rfl (by decide : ((1 : Int32) + (1 : Int32)) = (2 : Int32)) rfl rfl
  replace G := own_iinc (q := 38) (l' := #[.val (.ref a), .val (.int (2 : Int32)), .val (.ref d), .val (.int (2 : Int32)), .val (.int (3 : Int32)), .val (.int (1 : Int32)), .val (.int ec1)]) (w := (1 : Int32)) G X9.here hx (hb hby d5_35) (by decide) rfl (by decide : ((1 : Int32) + (1 : Int32)) = (2 : Int32)) rfl rfl
  replace G := own_iinc (q := 41) (l' := #[.val (.ref a), .val (.int (2 : Int32)), .val (.ref d), .val (.int (2 : Int32)), .val (.int (3 : Int32)), .val (.int (2 : Int32)), .val (.int ec1)]) (w := (1 : Int32)) G X9.here hx (hb hby d5_38) (by decide) rfl (by decide : ((1 : Int32) + (1 : Int32)) = (2 : Int32)) rfl rfl
  replace G := own_goto (q := 3) G X9.here hx (hb hby d5_41) (by decide) (by decide)
  replace G := own_iload (q := 5) G X9.here hx (hb hby d5_3) rfl rfl
  replace G := own_iload (q := 7) G X9.here hx (hb hby d5_5) rfl rfl
  have hc7_10 : (2 : Int32) < (3 : Int32) := by decide
  replace G := own_icmpNo (q := 10) G X9.here hx (hb hby d5_7) (tlt hc7_10).2.1 rfl
  replace G := own_aloadN (q := 11) G X9.here hx (hb hby d5_10) rfl rfl rfl
  replace G := own_iloadN (q := 12) G X9.here hx (hb hby d5_11) rfl rfl
  have F11 : Arv Z h9 a ks .char (3 : Int32) [(.int ec0), (.int ec1), (.int ec2)] (.int (0 : Int32)) := (F6.other W9 P3)
  obtain ⟨c12, Ar12, -, S12, -, H12, -⟩ := id F11
  have hin12 : ¬ ((2 : Int32) < 0 ∨ c12.slots.size ≤ ((2 : Int32)).toNatClampNeg) := inb_of S12 ⟨by decide, by decide⟩
  replace G : Gets p e below _ (T9.setTop (mkF m 13 #[.val (.ref a), .val (.int (2 : Int32)), .val (.ref d), .val (.int (2 : Int32)), .val (.int (3 : Int32)), .val (.int (2 : Int32)), .val (.int ec1)] [(.int ec2)])) := fun t k => G t (X9.caload hx (j := (2 : Int32)) (v := (.int ec2)) (by rw [e9]; exact Ar12.1) (State.isArrayOf_alike hZ.alike Ar12.2.1) Ar12.2.2 hin12 (Has.at H12 hin12 rfl) (g := (mkF m 12 #[.val (.ref a), .val (.int (2 : Int32)), .val (.ref d), .val (.int (2 : Int32)), .val (.int (3 : Int32)), .val (.int (2 : Int32)), .val (.int ec1)] [(.int (2 : Int32)), (.ref a)])) rfl rfl (hb hby d5_12) t k)
  replace G := own_istore (q := 15) (l' := #[.val (.ref a), .val (.int (2 : Int32)), .val (.ref d), .val (.int (2 : Int32)), .val (.int (3 : Int32)), .val (.int (2 : Int32)), .val (.int ec2)]) G X9.here hx (hb hby d5_13) rfl rfl
  replace G := own_iload (q := 17) G X9.here hx (hb hby d5_15) rfl rfl
  replace G := own_sipush (q := 20) G X9.here hx (hb hby d5_17) (v := (255 : Int32)) (by decide) rfl
  have hc20_13 : ¬ ((255 : Int32) < ec2) := he2
  replace G := own_icmpYes (q := 26) G X9.here hx (hb hby d5_20) (flt hc20_13).2.2.2 (by decide) (by decide)
  replace G := own_aloadN (q := 27) G X9.here hx (hb hby d5_26) rfl rfl rfl
  replace G := own_iloadN (q := 28) G X9.here hx (hb hby d5_27) rfl rfl
  replace G := own_iload (q := 30) G X9.here hx (hb hby d5_28) rfl rfl
  replace G := own_i2b (q := 31) G X9.here hx (hb hby d5_30) rfl rfl
  obtain ⟨c14, Ar14, q14, S14, N14', H14, G14'⟩ := id V9
  have hin14 : ¬ ((2 : Int32) < 0 ∨ c14.slots.size ≤ ((2 : Int32)).toNatClampNeg) := inb_of S14 ⟨by decide, by decide⟩
  obtain ⟨T14, h14, X14, e14, W14, st14⟩ := stB X9 hx hZ e9 Ar14 (j := (2 : Int32)) hin14 (g := (mkF m 31 #[.val (.ref a), .val (.int (2 : Int32)), .val (.ref d), .val (.int (2 : Int32)), .val (.int (3 : Int32)), .val (.int (2 : Int32)), .val (.int ec2)] [(.int (ec2.toInt8.toInt32)), (.int (2 : Int32)), (.ref d)])) rfl rfl (hb hby d5_31)
  have N14 := Fr.snoc X14 N9 P2
  have Z14 : n0 ≤ h14.size := Nat.le_trans Z9 (Keep.of_wr W14).1
  have K14 : Keep h0 h14 [d] := K9.wr W14 (Or.inl (List.mem_of_getElem? (i := 0) rfl))
  have V14 : Arv Z h14 d kd .byte (3 : Int32) [(.int (nar .byte (ec0.toInt8.toInt32))), (.int (nar .byte (ec1.toInt8.toInt32))), (.int (nar .byte (ec2.toInt8.toInt32)))] (.int (0 : Int32)) := Arv.set Ar14 q14 S14 N14' H14 G14' (fits_nar_byte _) W14 2 rfl (Nat.le_of_ble_eq_true rfl)
  replace G : Gets p e below _ (T14.setTop (mkF m 32 #[.val (.ref a), .val (.int (2 : Int32)), .val (.ref d), .val (.int (2 : Int32)), .val (.int (3 : Int32)), .val (.int (2 : Int32)), .val (.int ec2)] [])) := fun t k => G t (st14 t k)
  replace G := own_iinc (q := 35) (l' := #[.val (.ref a), .val (.int (3 : Int32)), .val (.ref d), .val (.int (2 : Int32)), .val (.int (3 : Int32)), .val (.int (2 : Int32)), .val (.int ec2)]) (w := (1 : Int32)) G X14.here hx (hb hby d5_32) (by decide) rfl (by decide : ((2 : Int32) + (1 : Int32)) = (3 : Int32)) rfl rfl
  replace G := own_iinc (q := 38) (l' := #[.val (.ref a), .val (.int (3 : Int32)), .val (.ref d), .val (.int (3 : Int32)), .val (.int (3 : Int32)), .val (.int (2 : Int32)), .val (.int ec2)]) (w := (1 : Int32)) G X14.here hx (hb hby d5_35) (by decide) rfl (by decide : ((2 : Int32) + (1 : Int32)) = (3 : Int32)) rfl rfl
  replace G := own_iinc (q := 41) (l' := #[.val (.ref a), .val (.int (3 : Int32)), .val (.ref d), .val (.int (3 : Int32)), .val (.int (3 : Int32)), .val (.int (3 : Int32)), .val (.int ec2)]) (w := (1 : Int32)) G X14.here hx (hb hby d5_38) (by decide) rfl (by decide : ((2 : Int32) + (1 : Int32)) = (3 : Int32)) rfl rfl
  replace G := own_goto (q := 3) G X14.here hx (hb hby d5_41) (by decide) (by decide)
  replace G := own_iload (q := 5) G X14.here hx (hb hby d5_3) rfl rfl
  replace G := own_iload (q := 7) G X14.here hx (hb hby d5_5) rfl rfl
  have hc7_15 : ¬ ((3 : Int32) < (3 : Int32)) := by decide
  replace G := own_icmpYes (q := 44) G X14.here hx (hb hby d5_7) (flt hc7_15).2.1 (by decide) (by decide)
  replace G := own_iload (q := 46) G X14.here hx (hb hby d5_44) rfl rfl
  obtain ⟨fs, hr, hrun, hended, hW, hsame⟩ := X14.leave (v := some (.int (3 : Int32))) (fun h => by rw [Bd.returns] at h; cases h)
  refine ⟨_, _, G _ (retOut X14 hx Bd.returns rfl (Or.inl ⟨rfl, Or.inl rfl, _, rfl⟩) (hb hby d5_46) hr), hrun, hended, _, _, rfl, ?_, ⟨_, rfl⟩, hW, hsame.mono (by decide) (by decide)⟩
  show Q5n3 Z a d ks kd ec0 ec1 ec2 h0 n0 _ T14.heap _
  rw [e14]
  exact ⟨rfl, N14, K14, V14⟩
theorem ef_4n3 (m : MethodId) (x0 : Addr) : entryFrame m #[(.ref x0), (.int (0 : Int32)), (.int (3 : Int32))] 6 = mkF m 0 #[.val (.ref x0), .val (.int (0 : Int32)), .val (.int (3 : Int32)), .unset, .unset, .unset] [] := by first | (simp [entryFrame, mkF, argsToLocals, Value.category]; done) | rfl
def Q4n3 (Z : State) (a : Addr) (ks : ClassId) (ec0 : Int32) (ec1 : Int32) (ec2 : Int32) (h0 : Heap) (n0 : Nat) (v : Option Value) (h : Heap) (L : List Loc) : Prop := ∃ (b : Addr) (kb : ClassId), v = some (.ref b) ∧ Fr n0 L ∧ Keep h0 h [] ∧ h0.size ≤ b ∧ (Arv Z h b kb .byte (3 : Int32) [(.int (nar .byte (ec0.toInt8.toInt32))), (.int (nar .byte (ec1.toInt8.toInt32))), (.int (nar .byte (ec2.toInt8.toInt32)))] (.int (0 : Int32)))
set_option maxRecDepth 65536 in
set_option maxHeartbeats 40000000 in
theorem rm4n3 (l : Launch) (Z : State) (a0 : Array Value) (hw : ∀ d ∈ tables_1, d.before a0 Z = true) (ws : List Jvm.Cond) (a : Addr) (ks : ClassId) (ec0 : Int32) (ec1 : Int32) (ec2 : Int32) (h0 : Heap) (n0 : Nat) (Z0 : n0 ≤ h0.size) (P0 : Arv Z h0 a ks .char (3 : Int32) [(.int ec0), (.int ec1), (.int ec2)] (.int (0 : Int32))) (he0 : ¬ ((255 : Int32) < ec0)) (he1 : ¬ ((255 : Int32) < ec1)) (he2 : ¬ ((255 : Int32) < ec2)) :
    MetFree l (⟨"java/lang/StringUTF16", "compress", "([CII)[B"⟩ : MethodName) (head1 (Jvm.Cond.code (⟨"java/lang/StringUTF16", "compress", "([CII)[B"⟩ : MethodName) jdk_52_method_16_code 6 (some (.array .byte)) :: ws) ({ frames := 1, cells := 1, slots := 3, locals := 18 } : Room)) (fun argz U => argz = #[(.ref a), (.int (0 : Int32)), (.int (3 : Int32))] ∧ Z.Warmed39 U.vm ∧ U.heap = h0) (fun _ _ _ _ _ => True) (fun _ U o U' => ∃ v L, o = .returned v ∧ Q4n3 Z a ks ec0 ec1 ec2 h0 n0 v U'.heap L ∧ FrameEnd U o U' L ({ frames := 1, cells := 1, slots := 3, locals := 18 } : Room).cells ({ frames := 1, cells := 1, slots := 3, locals := 18 } : Room).slots) := by
  refine MetFree.of_bodySF (plainFor_of_name pn_java_lang_StringUTF16) hisR ?_
  intro p e s m args below meth c s₁ Bd hml0 hP hK
  obtain ⟨rfl, hZ, hh⟩ := hP
  have hx := Bd.exec
  have hby := Bd.bytes
  have hml : c.maxLocals = 6 := hml0
  have hown : s.vm.findClass "java/lang/StringUTF16" = some m.cls := findClass_of_methodNamed Bd.named
  have hnm := (name_of_methodNamed Bd.named Bd.method).1
  have X0 : Stand p l e ({ frames := 1, cells := 1, slots := 3, locals := 18 } : Room) s m #[(.ref a), (.int (0 : Int32)), (.int (3 : Int32))] below meth c s₁ [] 0 0 := Stand.of_body Bd
  have e0 : s₁.heap = h0 := by rw [← hh, Bd.state]; rfl
  have N0 := Fr.nil n0
  have K0 : Keep h0 h0 [] := Keep.refl _ _
  have G : Gets p e below (s₁.setTop (entryFrame m #[(.ref a), (.int (0 : Int32)), (.int (3 : Int32))] 6)) (s₁.setTop (mkF m 0 #[.val (.ref a), .val (.int (0 : Int32)), .val (.int (3 : Int32)), .unset, .unset, .unset] [])) := fun t k => castTop (ef_4n3 m a) k
  replace G := own_iloadN (q := 1) G X0.here hx (hb hby d4_0) rfl rfl
  obtain ⟨T1, h1, k1, X1, e1, E1, A1, st1⟩ := newP X0 hx hZ (hw _ (List.mem_of_getElem? (i := 23) rfl)) e0 (g := (mkF m 1 #[.val (.ref a), .val (.int (0 : Int32)), .val (.int (3 : Int32)), .unset, .unset, .unset] [(.int (3 : Int32))])) rfl (hb hby d4_1) rfl (by decide) (cap := 3) (by decide) (by decide) (by decide) (by decide)
  obtain ⟨b1, g1⟩ : ∃ z, z = h0.size := ⟨_, rfl⟩
  rw [← g1] at A1 st1
  have ne2 : a ≠ b1 := Nat.ne_of_lt (Nat.lt_of_lt_of_le P0.lt (Nat.le_of_eq g1.symm))
  have ge_b1 : n0 ≤ b1 := Nat.le_trans Z0 (Nat.le_of_eq g1.symm)
  have sz_b1 : h0.size ≤ b1 := Nat.le_trans K0.1 (Nat.le_of_eq g1.symm)
  have Z1 : n0 ≤ h1.size := Nat.le_trans Z0 E1.1
  have K1 : Keep h0 h1 [] := K0.ext E1
  have V1 : Arv Z h1 b1 k1 .byte (3 : Int32) [(.int (0 : Int32)), (.int (0 : Int32)), (.int (0 : Int32))] (.int (0 : Int32)) := (Arv.new A1 (by decide)).pad (pad_rep [] (.int (0 : Int32)) 3)
  replace G : Gets p e below _ (T1.setTop (mkF m 3 #[.val (.ref a), .val (.int (0 : Int32)), .val (.int (3 : Int32)), .unset, .unset, .unset] [(.ref b1)])) := fun t k => G t (st1 t k)
  replace G := own_astoreN (q := 4) (l' := #[.val (.ref a), .val (.int (0 : Int32)), .val (.int (3 : Int32)), .val (.ref b1), .unset, .unset]) G X1.here hx (hb hby d4_3) rfl rfl rfl
  replace G := own_aloadN (q := 5) G X1.here hx (hb hby d4_4) rfl rfl rfl
  replace G := own_iloadN (q := 6) G X1.here hx (hb hby d4_5) rfl rfl
  replace G := own_aloadN (q := 7) G X1.here hx (hb hby d4_6) rfl rfl rfl
  replace G := own_iconst (q := 8) G X1.here hx (hb hby d4_7) (v := (0 : Int32)) (by decide) rfl
  replace G := own_iloadN (q := 9) G X1.here hx (hb hby d4_8) rfl rfl
  have F4 : Arv Z h1 a ks .char (3 : Int32) [(.int ec0), (.int ec1), (.int ec2)] (.int (0 : Int32)) := (P0.ext E1)
  obtain ⟨_, _, ⟨T3, L3, kk3, nn3⟩, -, X3, ⟨Lc3, hQ3, l3, y3, z3⟩, st3⟩ := Jvm.LawKit.callS X1 hx (y := (⟨"java/lang/StringUTF16", "compress", "([CI[BII)I"⟩ : MethodName)) hown (mvT hZ (hw _ (List.mem_of_getElem? (i := 24) rfl))) (mvT hZ (hw _ (List.mem_of_getElem? (i := 25) rfl))) (mvT hZ (hw _ (List.mem_of_getElem? (i := 21) rfl))) (mvT hZ (hw _ (List.mem_of_getElem? (i := 26) rfl))) (by decide) (backOf (W := 0) (rm5n3 l Z a0 hw [] a b1 ks k1 ec0 ec1 ec2 h1 n0 Z1 F4 V1 ge_b1 ne2 he0 he1 he2) hZ (hw _ (List.mem_of_getElem? (i := 26) rfl)) (hw _ (List.mem_of_getElem? (i := 21) rfl)) (by decide) (by decide)) (g := (mkF m 9 #[.val (.ref a), .val (.int (0 : Int32)), .val (.int (3 : Int32)), .val (.ref b1), .unset, .unset] [(.int (3 : Int32)), (.int (0 : Int32)), (.ref b1), (.int (0 : Int32)), (.ref a)])) rfl (by rw [hml]; rfl) (argsL := [(.ref a), (.int (0 : Int32)), (.ref b1), (.int (0 : Int32)), (.int (3 : Int32))]) (rest := []) (lenOf pd_0 rfl) rfl (by show 2 * 0 + _ ≤ _; exact Nat.le_of_eq rfl) (hb hby d4_9) (fun _ _ => ⟨rfl, e1, (by decide : 1 + 0 ≤ _), (by decide : 3 + 0 ≤ _)⟩)
  dsimp only [Pt.U, Pt.locs, Pt.cells, Pt.slots] at X3 l3 y3 z3 st3 hQ3
  subst l3 y3 z3
  obtain ⟨rfl, N3q, K3q, B3_0⟩ := hQ3
  have Z3 : n0 ≤ T3.heap.size := Nat.le_trans Z1 K3q.1
  have K3 : Keep h0 T3.heap [] := K1.trans K3q (allS (Or.inr sz_b1) all0)
  have N3 := Fr.app N0 N3q
  replace G : Gets p e below _ (T3.setTop (mkF m 12 #[.val (.ref a), .val (.int (0 : Int32)), .val (.int (3 : Int32)), .val (.ref b1), .unset, .unset] [(.int (3 : Int32))])) := fun t k => G t (st3 t k)
  replace G := own_istore (q := 14) (l' := #[.val (.ref a), .val (.int (0 : Int32)), .val (.int (3 : Int32)), .val (.ref b1), .val (.int (3 : Int32)), .unset]) G X3.here hx (hb hby d4_12) rfl rfl
  replace G := own_iload (q := 16) G X3.here hx (hb hby d4_14) rfl rfl
  replace G := own_iloadN (q := 17) G X3.here hx (hb hby d4_16) rfl rfl
  have hc17_5 : (3 : Int32) = (3 : Int32) := by decide
  replace G := own_icmpYes (q := 57) G X3.here hx (hb hby d4_17) (teq hc17_5).1 (by decide) (by decide)
  replace G := own_aloadN (q := 58) G X3.here hx (hb hby d4_57) rfl rfl rfl
  obtain ⟨fs, hr, hrun, hended, hW, hsame⟩ := X3.leave (v := some (.ref b1)) (fun h => by rw [Bd.returns] at h; cases h)
  refine ⟨_, _, G _ (retOut X3 hx Bd.returns rfl (Or.inr (Or.inr (Or.inr (Or.inr ⟨rfl, rfl, rfl⟩)))) (hb hby d4_58) hr), hrun, hended, _, _, rfl, ?_, ⟨_, rfl⟩, hW, hsame.mono (by decide) (by decide)⟩
  show Q4n3 Z a ks ec0 ec1 ec2 h0 n0 _ T3.heap _
  exact ⟨b1, k1, rfl, N3, K3, sz_b1, B3_0⟩
theorem ef_6n3 (m : MethodId) (x0 : Addr) : entryFrame m #[(.ref x0), (.int (3 : Int32))] 2 = mkF m 0 #[.val (.ref x0), .val (.int (3 : Int32))] [] := by first | (simp [entryFrame, mkF, argsToLocals, Value.category]; done) | rfl
def Q6n3 (Z : State) (d : Addr) (kd : ClassId) (vs : List Value) (h0 : Heap) (n0 : Nat) (v : Option Value) (h : Heap) (L : List Loc) : Prop := v = some (.int (0 : Int32)) ∧ Fr n0 L ∧ h = h0
set_option maxRecDepth 65536 in
set_option maxHeartbeats 40000000 in
theorem rm6n3 (l : Launch) (Z : State) (a0 : Array Value) (hw : ∀ d ∈ tables_1, d.before a0 Z = true) (ws : List Jvm.Cond) (d : Addr) (kd : ClassId) (vs : List Value) (h0 : Heap) (n0 : Nat) (Z0 : n0 ≤ h0.size) (P0 : Arv Z h0 d kd .byte (3 : Int32) vs (.int (0 : Int32))) :
    MetFree l (⟨"java/lang/StringUTF16", "coderFromArrayLen", "([BI)B"⟩ : MethodName) (head1 (Jvm.Cond.code (⟨"java/lang/StringUTF16", "coderFromArrayLen", "([BI)B"⟩ : MethodName) jdk_52_method_15_code 2 (some .byte) :: ws) ({ frames := 0, cells := 0, slots := 0, locals := 0 } : Room)) (fun argz U => argz = #[(.ref d), (.int (3 : Int32))] ∧ Z.Warmed39 U.vm ∧ U.heap = h0) (fun _ _ _ _ _ => True) (fun _ U o U' => ∃ v L, o = .returned v ∧ Q6n3 Z d kd vs h0 n0 v U'.heap L ∧ FrameEnd U o U' L ({ frames := 0, cells := 0, slots := 0, locals := 0 } : Room).cells ({ frames := 0, cells := 0, slots := 0, locals := 0 } : Room).slots) := by
  refine MetFree.of_bodySF (plainFor_of_name pn_java_lang_StringUTF16) hisR ?_
  intro p e s m args below meth c s₁ Bd hml0 hP hK
  obtain ⟨rfl, hZ, hh⟩ := hP
  have hx := Bd.exec
  have hby := Bd.bytes
  have hml : c.maxLocals = 2 := hml0
  have hown : s.vm.findClass "java/lang/StringUTF16" = some m.cls := findClass_of_methodNamed Bd.named
  have hnm := (name_of_methodNamed Bd.named Bd.method).1
  have X0 : Stand p l e ({ frames := 0, cells := 0, slots := 0, locals := 0 } : Room) s m #[(.ref d), (.int (3 : Int32))] below meth c s₁ [] 0 0 := Stand.of_body Bd
  have e0 : s₁.heap = h0 := by rw [← hh, Bd.state]; rfl
  have N0 := Fr.nil n0
  have G : Gets p e below (s₁.setTop (entryFrame m #[(.ref d), (.int (3 : Int32))] 2)) (s₁.setTop (mkF m 0 #[.val (.ref d), .val (.int (3 : Int32))] [])) := fun t k => castTop (ef_6n3 m d) k
  replace G := own_iloadN (q := 1) G X0.here hx (hb hby d6_0) rfl rfl
  replace G := own_aloadN (q := 2) G X0.here hx (hb hby d6_1) rfl rfl rfl
  obtain ⟨c1, Ar1, -, S1, N1', -, -⟩ := id P0
  replace G : Gets p e below _ (s₁.setTop (mkF m 3 #[.val (.ref d), .val (.int (3 : Int32))] [(.int (3 : Int32)), (.int (3 : Int32))])) := fun t k => G t (X0.arraylength hx (by rw [e0]; exact Ar1.1) (State.isArrayOf_alike hZ.alike Ar1.2.1) (g := (mkF m 2 #[.val (.ref d), .val (.int (3 : Int32))] [(.ref d), (.int (3 : Int32))])) rfl rfl (hb hby d6_2) t (by rw [len_of S1 N1']; exact k))
  replace G := own_isub (q := 4) G X0.here hx (hb hby d6_3) (by decide : ((3 : Int32) - (3 : Int32)) = (0 : Int32)) rfl
  replace G := own_bipush (q := 6) G X0.here hx (hb hby d6_4) (v := (31 : Int32)) (by decide) rfl
  replace G := own_iushr (q := 7) G X0.here hx (hb hby d6_6) (by decide : (((0 : Int32).toUInt32 >>> ((31 : Int32) &&& 31).toUInt32).toInt32) = (0 : Int32)) rfl
  replace G := own_i2b (q := 8) G X0.here hx (hb hby d6_7) (by decide : ((0 : Int32).toInt8.toInt32) = (0 : Int32)) rfl
  obtain ⟨fs, hr, hrun, hended, hW, hsame⟩ := X0.leave (v := some (.int (0 : Int32))) (fun h => by rw [Bd.returns] at h; cases h)
  refine ⟨_, _, G _ (retOut X0 hx Bd.returns rfl (Or.inl ⟨rfl, Or.inr (Or.inr (Or.inl rfl)), _, rfl⟩) (hb hby d6_8) hr), hrun, hended, _, _, rfl, ?_, ⟨_, rfl⟩, hW, hsame.mono (by decide) (by decide)⟩
  show Q6n3 Z d kd vs h0 n0 _ s₁.heap _
  rw [e0]
  exact ⟨rfl, N0, rfl⟩
theorem ef_2n3 (m : MethodId) (x0 : Addr) (x1 : Addr) : entryFrame m #[(.ref x0), (.ref x1), (.int (0 : Int32)), (.int (3 : Int32)), .null] 6 = mkF m 0 #[.val (.ref x0), .val (.ref x1), .val (.int (0 : Int32)), .val (.int (3 : Int32)), .val .null, .unset] [] := by first | (simp [entryFrame, mkF, argsToLocals, Value.category]; done) | rfl
def Q2n3 (Z : State) (tt : Addr) (a : Addr) (ks : ClassId) (cw : Int32) (ec0 : Int32) (ec1 : Int32) (ec2 : Int32) (h0 : Heap) (n0 : Nat) (v : Option Value) (h : Heap) (L : List Loc) : Prop := ∃ (b : Addr) (kb : ClassId), v = none ∧ Fr n0 L ∧ Keep h0 h [tt] ∧ (Fld Z h tt "java/lang/String" "value" "[B" (.ref b)) ∧ (Fld Z h tt "java/lang/String" "coder" "B" (.int (0 : Int32))) ∧ h0.size ≤ b ∧ (Arv Z h b kb .byte (3 : Int32) [(.int (nar .byte (ec0.toInt8.toInt32))), (.int (nar .byte (ec1.toInt8.toInt32))), (.int (nar .byte (ec2.toInt8.toInt32)))] (.int (0 : Int32)))
set_option maxRecDepth 65536 in
set_option maxHeartbeats 40000000 in
theorem rm2n3 (l : Launch) (Z : State) (a0 : Array Value) (hw : ∀ d ∈ tables_1, d.before a0 Z = true) (ws : List Jvm.Cond) (tt : Addr) (a : Addr) (ks : ClassId) (cw : Int32) (ec0 : Int32) (ec1 : Int32) (ec2 : Int32) (h0 : Heap) (n0 : Nat) (Z0 : n0 ≤ h0.size) (P0 : Fld Z h0 tt "java/lang/String" "value" "[B" .null) (P1 : Fld Z h0 tt "java/lang/String" "coder" "B" (.int (0 : Int32))) (P2 : Exa Z h0 tt "java/lang/String") (P3 : n0 ≤ tt) (P4 : Arv Z h0 a ks .char (3 : Int32) [(.int ec0), (.int ec1), (.int ec2)] (.int (0 : Int32))) (P5 : Sta Z h0 "java/lang/String" "COMPACT_STRINGS" "Z" (.int cw)) (hcw : ¬ cw = (0 : Int32)) (he0 : ¬ ((255 : Int32) < ec0)) (he1 : ¬ ((255 : Int32) < ec1)) (he2 : ¬ ((255 : Int32) < ec2)) :
    MetFree l (⟨"java/lang/String", "<init>", "([CIILjava/lang/Void;)V"⟩ : MethodName) (head1 (Jvm.Cond.code (⟨"java/lang/String", "<init>", "([CIILjava/lang/Void;)V"⟩ : MethodName) jdk_42_method_149_code 6 none :: ws) ({ frames := 2, cells := 1, slots := 3, locals := 35 } : Room)) (fun argz U => argz = #[(.ref tt), (.ref a), (.int (0 : Int32)), (.int (3 : Int32)), .null] ∧ Z.Warmed39 U.vm ∧ U.heap = h0) (fun _ _ _ _ _ => True) (fun _ U o U' => ∃ v L, o = .returned v ∧ Q2n3 Z tt a ks cw ec0 ec1 ec2 h0 n0 v U'.heap L ∧ FrameEnd U o U' L ({ frames := 2, cells := 1, slots := 3, locals := 35 } : Room).cells ({ frames := 2, cells := 1, slots := 3, locals := 35 } : Room).slots) := by
  refine MetFree.of_bodySF (plainFor_of_name pn_java_lang_String) hisR ?_
  intro p e s m args below meth c s₁ Bd hml0 hP hK
  obtain ⟨rfl, hZ, hh⟩ := hP
  have hx := Bd.exec
  have hby := Bd.bytes
  have hml : c.maxLocals = 6 := hml0
  have hown : s.vm.findClass "java/lang/String" = some m.cls := findClass_of_methodNamed Bd.named
  have hnm := (name_of_methodNamed Bd.named Bd.method).1
  have X0 : Stand p l e ({ frames := 2, cells := 1, slots := 3, locals := 35 } : Room) s m #[(.ref tt), (.ref a), (.int (0 : Int32)), (.int (3 : Int32)), .null] below meth c s₁ [] 0 0 := Stand.of_body Bd
  have e0 : s₁.heap = h0 := by rw [← hh, Bd.state]; rfl
  have N0 := Fr.nil n0
  have K0 : Keep h0 h0 [tt] := Keep.refl _ _
  have G : Gets p e below (s₁.setTop (entryFrame m #[(.ref tt), (.ref a), (.int (0 : Int32)), (.int (3 : Int32)), .null] 6)) (s₁.setTop (mkF m 0 #[.val (.ref tt), .val (.ref a), .val (.int (0 : Int32)), .val (.int (3 : Int32)), .val .null, .unset] [])) := fun t k => castTop (ef_2n3 m tt a) k
  replace G := own_aloadN (q := 1) G X0.here hx (hb hby d2_0) rfl rfl rfl
  obtain ⟨T1, X1, e1, st1⟩ := initO X0 hx hZ hown (hw _ (List.mem_of_getElem? (i := 15) rfl)) (hw _ (List.mem_of_getElem? (i := 16) rfl)) (hw _ (List.mem_of_getElem? (i := 17) rfl)) e0 (g := (mkF m 1 #[.val (.ref tt), .val (.ref a), .val (.int (0 : Int32)), .val (.int (3 : Int32)), .val .null, .unset] [(.ref tt)])) rfl (by rw [hml]; rfl) rfl (hb hby d2_1) (by decide) (W := 0) (by show 2 * 0 + _ ≤ _; exact Nat.le_of_eq rfl) (by decide)
  replace G : Gets p e below _ (T1.setTop (mkF m 4 #[.val (.ref tt), .val (.ref a), .val (.int (0 : Int32)), .val (.int (3 : Int32)), .val .null, .unset] [])) := fun t k => G t (st1 t k)
  replace G := own_iloadN (q := 5) G X1.here hx (hb hby d2_4) rfl rfl
  have hc5_2 : ¬ ((3 : Int32) = (0 : Int32)) := by decide
  replace G := own_ifYes (q := 27) G X1.here hx (hb hby d2_5) ((if0 _ _).trans (feq hc5_2).2) (by decide) (by decide)
  obtain ⟨T3, X3, e3, st3⟩ := getS2 X1 hx hZ hown (host := "") (Or.inl (hw _ (List.mem_of_getElem? (i := 18) rfl))) Via.refl e1 P5 (g := (mkF m 27 #[.val (.ref tt), .val (.ref a), .val (.int (0 : Int32)), .val (.int (3 : Int32)), .val .null, .unset] [])) rfl (hb hby d2_27)
  replace G : Gets p e below _ (T3.setTop (mkF m 30 #[.val (.ref tt), .val (.ref a), .val (.int (0 : Int32)), .val (.int (3 : Int32)), .val .null, .unset] [(.int cw)])) := fun t k => G t (st3 t k)
  have hc30_4 : ¬ (cw = (0 : Int32)) := hcw
  replace G := own_ifNo (q := 33) G X3.here hx (hb hby d2_30) ((if0 _ _).trans (feq hc30_4).1) rfl
  replace G := own_aloadN (q := 34) G X3.here hx (hb hby d2_33) rfl rfl rfl
  replace G := own_iloadN (q := 35) G X3.here hx (hb hby d2_34) rfl rfl
  replace G := own_iloadN (q := 36) G X3.here hx (hb hby d2_35) rfl rfl
  obtain ⟨_, _, ⟨T5, L5, kk5, nn5⟩, -, X5, ⟨Lc5, hQ5, l5, y5, z5⟩, st5⟩ := Jvm.LawKit.callS X3 hx (y := (⟨"java/lang/StringUTF16", "compress", "([CII)[B"⟩ : MethodName)) hown (mvT hZ (hw _ (List.mem_of_getElem? (i := 19) rfl))) (mvT hZ (hw _ (List.mem_of_getElem? (i := 20) rfl))) (mvT hZ (hw _ (List.mem_of_getElem? (i := 21) rfl))) (mvT hZ (hw _ (List.mem_of_getElem? (i := 22) rfl))) (by decide) (backOf (W := 0) (rm4n3 l Z a0 hw [] a ks ec0 ec1 ec2 h0 n0 Z0 P4 he0 he1 he2) hZ (hw _ (List.mem_of_getElem? (i := 22) rfl)) (hw _ (List.mem_of_getElem? (i := 21) rfl)) (by decide) (by decide)) (g := (mkF m 36 #[.val (.ref tt), .val (.ref a), .val (.int (0 : Int32)), .val (.int (3 : Int32)), .val .null, .unset] [(.int (3 : Int32)), (.int (0 : Int32)), (.ref a)])) rfl (by rw [hml]; rfl) (argsL := [(.ref a), (.int (0 : Int32)), (.int (3 : Int32))]) (rest := []) (lenOf pd_1 rfl) rfl (by show 2 * 0 + _ ≤ _; exact Nat.le_of_eq rfl) (hb hby d2_36) (fun _ _ => ⟨rfl, e3, (by decide : 0 + 1 ≤ _), (by decide : 0 + 3 ≤ _)⟩)
  dsimp only [Pt.U, Pt.locs, Pt.cells, Pt.slots] at X5 l5 y5 z5 st5 hQ5
  subst l5 y5 z5
  obtain ⟨b_5, kb_5, rfl, N5q, K5q, B5_0, B5_1⟩ := hQ5
  have ne6 : tt ≠ b_5 := Nat.ne_of_lt (Nat.lt_of_lt_of_le P0.lt B5_0)
  have ne7 : a ≠ b_5 := Nat.ne_of_lt (Nat.lt_of_lt_of_le P4.lt B5_0)
  have ge_b_5 : n0 ≤ b_5 := Nat.le_trans Z0 B5_0
  have sz_b_5 : h0.size ≤ b_5 := Nat.le_trans K0.1 B5_0
  have Z5 : n0 ≤ T5.heap.size := Nat.le_trans Z0 K5q.1
  have K5 : Keep h0 T5.heap [tt] := K0.trans K5q all0
  have N5 := Fr.app N0 N5q
  replace G : Gets p e below _ (T5.setTop (mkF m 39 #[.val (.ref tt), .val (.ref a), .val (.int (0 : Int32)), .val (.int (3 : Int32)), .val .null, .unset] [(.ref b_5)])) := fun t k => G t (st5 t k)
  replace G := own_astore (q := 41) (l' := #[.val (.ref tt), .val (.ref a), .val (.int (0 : Int32)), .val (.int (3 : Int32)), .val .null, .val (.ref b_5)]) G X5.here hx (hb hby d2_39) rfl rfl rfl
  replace G := own_aloadN (q := 42) G X5.here hx (hb hby d2_41) rfl rfl rfl
  replace G := own_aload (q := 44) G X5.here hx (hb hby d2_42) rfl rfl rfl
  replace G := own_iloadN (q := 45) G X5.here hx (hb hby d2_44) rfl rfl
  obtain ⟨_, _, ⟨T8, L8, kk8, nn8⟩, -, X8, ⟨Lc8, hQ8, l8, y8, z8⟩, st8⟩ := Jvm.LawKit.callS X5 hx (y := (⟨"java/lang/StringUTF16", "coderFromArrayLen", "([BI)B"⟩ : MethodName)) hown (mvT hZ (hw _ (List.mem_of_getElem? (i := 27) rfl))) (mvT hZ (hw _ (List.mem_of_getElem? (i := 28) rfl))) (mvT hZ (hw _ (List.mem_of_getElem? (i := 21) rfl))) (mvT hZ (hw _ (List.mem_of_getElem? (i := 29) rfl))) (by decide) (backOf (W := 1) (rm6n3 l Z a0 hw [] b_5 kb_5 [(.int (nar .byte (ec0.toInt8.toInt32))), (.int (nar .byte (ec1.toInt8.toInt32))), (.int (nar .byte (ec2.toInt8.toInt32)))] T5.heap n0 Z5 B5_1) hZ (hw _ (List.mem_of_getElem? (i := 29) rfl)) (hw _ (List.mem_of_getElem? (i := 21) rfl)) (by decide) (by decide)) (g := (mkF m 45 #[.val (.ref tt), .val (.ref a), .val (.int (0 : Int32)), .val (.int (3 : Int32)), .val .null, .val (.ref b_5)] [(.int (3 : Int32)), (.ref b_5), (.ref tt)])) rfl (by rw [hml]; rfl) (argsL := [(.ref b_5), (.int (3 : Int32))]) (rest := [(.ref tt)]) (lenOf pd_2 rfl) rfl (by show 2 * 0 + _ ≤ _; exact Nat.le_of_eq rfl) (hb hby d2_45) (fun _ _ => ⟨rfl, rfl, (by decide : 1 + 0 ≤ _), (by decide : 3 + 0 ≤ _)⟩)
  dsimp only [Pt.U, Pt.locs, Pt.cells, Pt.slots] at X8 l8 y8 z8 st8 hQ8
  subst l8 y8 z8
  obtain ⟨rfl, N8q, e8⟩ := hQ8
  have N8 := Fr.app N5 N8q
  replace G : Gets p e below _ (T8.setTop (mkF m 48 #[.val (.ref tt), .val (.ref a), .val (.int (0 : Int32)), .val (.int (3 : Int32)), .val .null, .val (.ref b_5)] [(.int (0 : Int32)), (.ref tt)])) := fun t k => G t (st8 t k)
  have F9 : Exa Z T5.heap tt "java/lang/String" := (P2.keep K5q)
  have F10 : Fld Z T5.heap tt "java/lang/String" "coder" "B" (.int (0 : Int32)) := (P1.keep K5q nin0)
  obtain ⟨T11, h11, X11, e11, W11, st11⟩ := putFN X8 hx hZ hown (hw _ (List.mem_of_getElem? (i := 30) rfl)) Via.refl e8 F10 F9 (Or.inr ⟨(hw _ (List.mem_of_getElem? (i := 31) rfl)), rfl, hnm⟩) (hw _ (List.mem_of_getElem? (i := 6) rfl)) (ty := .byte) (v' := (.int (0 : Int32))) (by decide) rfl (by first | rfl | decide) (g := (mkF m 48 #[.val (.ref tt), .val (.ref a), .val (.int (0 : Int32)), .val (.int (3 : Int32)), .val .null, .val (.ref b_5)] [(.int (0 : Int32)), (.ref tt)])) rfl rfl (hb hby d2_48)
  have N11 := Fr.snoc X11 N8 P3
  have Z11 : n0 ≤ h11.size := Nat.le_trans Z5 (Keep.of_wr W11).1
  have K11 : Keep h0 h11 [tt] := K5.wr W11 (Or.inl (List.mem_of_getElem? (i := 0) rfl))
  have F11 : Fld Z h11 tt "java/lang/String" "coder" "B" (.int (0 : Int32)) := F10.same W11
  replace G : Gets p e below _ (T11.setTop (mkF m 51 #[.val (.ref tt), .val (.ref a), .val (.int (0 : Int32)), .val (.int (3 : Int32)), .val .null, .val (.ref b_5)] [])) := fun t k => G t (st11 t k)
  replace G := own_aloadN (q := 52) G X11.here hx (hb hby d2_51) rfl rfl rfl
  replace G := own_aload (q := 54) G X11.here hx (hb hby d2_52) rfl rfl rfl
  have F12 : Exa Z h11 tt "java/lang/String" := (F9.wr W11)
  have F13 : Fld Z h11 tt "java/lang/String" "value" "[B" .null := ((P0.keep K5q nin0).other W11 (Or.inr (slot_ne (Or.inr (hw _ (List.mem_of_getElem? (i := 33) rfl))) (Or.inr (hw _ (List.mem_of_getElem? (i := 31) rfl))) (by decide) (t := (.array .byte)) (t' := .byte) (by decide) (by decide))))
  obtain ⟨T14, h14, X14, e14, W14, st14⟩ := putF X11 hx hZ hown (host := "") (Or.inl (hw _ (List.mem_of_getElem? (i := 32) rfl))) Via.refl e11 F13 F12 (Or.inr ⟨(hw _ (List.mem_of_getElem? (i := 33) rfl)), rfl, hnm⟩) (hw _ (List.mem_of_getElem? (i := 6) rfl)) (ty := (.array .byte)) (by decide) rfl rfl (g := (mkF m 54 #[.val (.ref tt), .val (.ref a), .val (.int (0 : Int32)), .val (.int (3 : Int32)), .val .null, .val (.ref b_5)] [(.ref b_5), (.ref tt)])) rfl rfl (hb hby d2_54)
  have N14 := Fr.snoc X14 N11 P3
  have Z14 : n0 ≤ h14.size := Nat.le_trans Z11 (Keep.of_wr W14).1
  have K14 : Keep h0 h14 [tt] := K11.wr W14 (Or.inl (List.mem_of_getElem? (i := 0) rfl))
  have F14 : Fld Z h14 tt "java/lang/String" "value" "[B" (.ref b_5) := F13.same W14
  replace G : Gets p e below _ (T14.setTop (mkF m 57 #[.val (.ref tt), .val (.ref a), .val (.int (0 : Int32)), .val (.int (3 : Int32)), .val .null, .val (.ref b_5)] [])) := fun t k => G t (st14 t k)
  obtain ⟨fs, hr, hrun, hended, hW, hsame⟩ := X14.leave (v := none) (fun _ => rfl)
  refine ⟨_, _, G _ (X14.returnOut hx Bd.returns (hb hby d2_57) hr), hrun, hended, _, _, rfl, ?_, ⟨_, rfl⟩, hW, hsame.mono (by decide) (by decide)⟩
  have F15 : Fld Z h14 tt "java/lang/String" "coder" "B" (.int (0 : Int32)) := (F11.other W14 (Or.inr (slot_ne (Or.inr (hw _ (List.mem_of_getElem? (i := 31) rfl))) (Or.inr (hw _ (List.mem_of_getElem? (i := 33) rfl))) (by decide) (t := .byte) (t' := (.array .byte)) (by decide) (by decide))))
  have F16 : Arv Z h14 b_5 kb_5 .byte (3 : Int32) [(.int (nar .byte (ec0.toInt8.toInt32))), (.int (nar .byte (ec1.toInt8.toInt32))), (.int (nar .byte (ec2.toInt8.toInt32)))] (.int (0 : Int32)) := ((B5_1.other W11 (Ne.symm ne6)).other W14 (Ne.symm ne6))
  show Q2n3 Z tt a ks cw ec0 ec1 ec2 h0 n0 _ T14.heap _
  rw [e14]
  exact ⟨b_5, kb_5, rfl, N14, K14, F14, F15, sz_b_5, F16⟩
theorem ef_1n3 (m : MethodId) (x0 : Addr) (x1 : Addr) : entryFrame m #[(.ref x0), (.ref x1)] 2 = mkF m 0 #[.val (.ref x0), .val (.ref x1)] [] := by first | (simp [entryFrame, mkF, argsToLocals, Value.category]; done) | rfl
def Q1n3 (Z : State) (tt : Addr) (a : Addr) (ks : ClassId) (cw : Int32) (ec0 : Int32) (ec1 : Int32) (ec2 : Int32) (h0 : Heap) (n0 : Nat) (v : Option Value) (h : Heap) (L : List Loc) : Prop := ∃ (b : Addr) (kb : ClassId), v = none ∧ Fr n0 L ∧ Keep h0 h [tt] ∧ (Fld Z h tt "java/lang/String" "value" "[B" (.ref b)) ∧ (Fld Z h tt "java/lang/String" "coder" "B" (.int (0 : Int32))) ∧ h0.size ≤ b ∧ (Arv Z h b kb .byte (3 : Int32) [(.int (nar .byte (ec0.toInt8.toInt32))), (.int (nar .byte (ec1.toInt8.toInt32))), (.int (nar .byte (ec2.toInt8.toInt32)))] (.int (0 : Int32)))
set_option maxRecDepth 65536 in
set_option maxHeartbeats 40000000 in
theorem rm1n3 (l : Launch) (Z : State) (a0 : Array Value) (hw : ∀ d ∈ tables_1, d.before a0 Z = true) (ws : List Jvm.Cond) (tt : Addr) (a : Addr) (ks : ClassId) (cw : Int32) (ec0 : Int32) (ec1 : Int32) (ec2 : Int32) (h0 : Heap) (n0 : Nat) (Z0 : n0 ≤ h0.size) (P0 : Fld Z h0 tt "java/lang/String" "value" "[B" .null) (P1 : Fld Z h0 tt "java/lang/String" "coder" "B" (.int (0 : Int32))) (P2 : Exa Z h0 tt "java/lang/String") (P3 : n0 ≤ tt) (P4 : Arv Z h0 a ks .char (3 : Int32) [(.int ec0), (.int ec1), (.int ec2)] (.int (0 : Int32))) (P5 : Sta Z h0 "java/lang/String" "COMPACT_STRINGS" "Z" (.int cw)) (hcw : ¬ cw = (0 : Int32)) (he0 : ¬ ((255 : Int32) < ec0)) (he1 : ¬ ((255 : Int32) < ec1)) (he2 : ¬ ((255 : Int32) < ec2)) :
    MetFree l (⟨"java/lang/String", "<init>", "([C)V"⟩ : MethodName) (head1 (Jvm.Cond.code (⟨"java/lang/String", "<init>", "([C)V"⟩ : MethodName) jdk_42_method_3_code 2 none :: ws) ({ frames := 3, cells := 1, slots := 3, locals := 52 } : Room)) (fun argz U => argz = #[(.ref tt), (.ref a)] ∧ Z.Warmed39 U.vm ∧ U.heap = h0) (fun _ _ _ _ _ => True) (fun _ U o U' => ∃ v L, o = .returned v ∧ Q1n3 Z tt a ks cw ec0 ec1 ec2 h0 n0 v U'.heap L ∧ FrameEnd U o U' L ({ frames := 3, cells := 1, slots := 3, locals := 52 } : Room).cells ({ frames := 3, cells := 1, slots := 3, locals := 52 } : Room).slots) := by
  refine MetFree.of_bodySF (plainFor_of_name pn_java_lang_String) hisR ?_
  intro p e s m args below meth c s₁ Bd hml0 hP hK
  obtain ⟨rfl, hZ, hh⟩ := hP
  have hx := Bd.exec
  have hby := Bd.bytes
  have hml : c.maxLocals = 2 := hml0
  have hown : s.vm.findClass "java/lang/String" = some m.cls := findClass_of_methodNamed Bd.named
  have hnm := (name_of_methodNamed Bd.named Bd.method).1
  have X0 : Stand p l e ({ frames := 3, cells := 1, slots := 3, locals := 52 } : Room) s m #[(.ref tt), (.ref a)] below meth c s₁ [] 0 0 := Stand.of_body Bd
  have e0 : s₁.heap = h0 := by rw [← hh, Bd.state]; rfl
  have N0 := Fr.nil n0
  have K0 : Keep h0 h0 [tt] := Keep.refl _ _
  have G : Gets p e below (s₁.setTop (entryFrame m #[(.ref tt), (.ref a)] 2)) (s₁.setTop (mkF m 0 #[.val (.ref tt), .val (.ref a)] [])) := fun t k => castTop (ef_1n3 m tt a) k
  replace G := own_aloadN (q := 1) G X0.here hx (hb hby d1_0) rfl rfl rfl
  replace G := own_aloadN (q := 2) G X0.here hx (hb hby d1_1) rfl rfl rfl
  replace G := own_iconst (q := 3) G X0.here hx (hb hby d1_2) (v := (0 : Int32)) (by decide) rfl
  replace G := own_aloadN (q := 4) G X0.here hx (hb hby d1_3) rfl rfl rfl
  obtain ⟨c1, Ar1, -, S1, N1', -, -⟩ := id P4
  replace G : Gets p e below _ (s₁.setTop (mkF m 5 #[.val (.ref tt), .val (.ref a)] [(.int (3 : Int32)), (.int (0 : Int32)), (.ref a), (.ref tt)])) := fun t k => G t (X0.arraylength hx (by rw [e0]; exact Ar1.1) (State.isArrayOf_alike hZ.alike Ar1.2.1) (g := (mkF m 4 #[.val (.ref tt), .val (.ref a)] [(.ref a), (.int (0 : Int32)), (.ref a), (.ref tt)])) rfl rfl (hb hby d1_4) t (by rw [len_of S1 N1']; exact k))
  replace G := own_aconst_null (q := 6) G X0.here hx (hb hby d1_5) rfl
  obtain ⟨_, _, ⟨T2, L2, kk2, nn2⟩, -, X2, ⟨Lc2, hQ2, l2, y2, z2⟩, st2⟩ := X0.specialBack hx (y := (⟨"java/lang/String", "<init>", "([CIILjava/lang/Void;)V"⟩ : MethodName)) rfl hown (mvT hZ (hw _ (List.mem_of_getElem? (i := 11) rfl))) (mvT hZ (hw _ (List.mem_of_getElem? (i := 12) rfl))) (mvT hZ (hw _ (List.mem_of_getElem? (i := 14) rfl))) (by decide) (backOf (W := 0) (rm2n3 l Z a0 hw [] tt a ks cw ec0 ec1 ec2 h0 n0 Z0 P0 P1 P2 P3 P4 P5 hcw he0 he1 he2) hZ (hw _ (List.mem_of_getElem? (i := 14) rfl)) (hw _ (List.mem_of_getElem? (i := 7) rfl)) (by decide) (by decide)) (g := (mkF m 6 #[.val (.ref tt), .val (.ref a)] [.null, (.int (3 : Int32)), (.int (0 : Int32)), (.ref a), (.ref tt)])) rfl (by rw [hml]; rfl) (Steps.refl _) (a := tt) (argsL := [(.ref a), (.int (0 : Int32)), (.int (3 : Int32)), .null]) (rest := []) (lenOf pd_3 rfl) rfl (by show 2 * 0 + _ ≤ _; exact Nat.le_of_eq rfl) (hb hby d1_6) (fun _ _ => ⟨rfl, e0, (by decide : 0 + 1 ≤ _), (by decide : 0 + 3 ≤ _)⟩)
  dsimp only [Pt.U, Pt.locs, Pt.cells, Pt.slots] at X2 l2 y2 z2 st2 hQ2
  subst l2 y2 z2
  obtain ⟨b_2, kb_2, rfl, N2q, K2q, B2_0, B2_1, B2_2, B2_3⟩ := hQ2
  have ne3 : tt ≠ b_2 := Nat.ne_of_lt (Nat.lt_of_lt_of_le P0.lt B2_2)
  have ne4 : a ≠ b_2 := Nat.ne_of_lt (Nat.lt_of_lt_of_le P4.lt B2_2)
  have ge_b_2 : n0 ≤ b_2 := Nat.le_trans Z0 B2_2
  have sz_b_2 : h0.size ≤ b_2 := Nat.le_trans K0.1 B2_2
  have Z2 : n0 ≤ T2.heap.size := Nat.le_trans Z0 K2q.1
  have K2 : Keep h0 T2.heap [tt] := K0.trans K2q (allS (Or.inl (List.mem_of_getElem? (i := 0) rfl)) all0)
  have N2 := Fr.app N0 N2q
  replace G : Gets p e below _ (T2.setTop (mkF m 9 #[.val (.ref tt), .val (.ref a)] [])) := fun t k => G t (st2.trans k)
  obtain ⟨fs, hr, hrun, hended, hW, hsame⟩ := X2.leave (v := none) (fun _ => rfl)
  refine ⟨_, _, G _ (X2.returnOut hx Bd.returns (hb hby d1_9) hr), hrun, hended, _, _, rfl, ?_, ⟨_, rfl⟩, hW, hsame.mono (by decide) (by decide)⟩
  show Q1n3 Z tt a ks cw ec0 ec1 ec2 h0 n0 _ T2.heap _
  exact ⟨b_2, kb_2, rfl, N2, K2, B2_0, B2_1, sz_b_2, B2_3⟩
theorem ef_5n5 (m : MethodId) (x0 : Addr) (x2 : Addr) : entryFrame m #[(.ref x0), (.int (0 : Int32)), (.ref x2), (.int (0 : Int32)), (.int (5 : Int32))] 7 = mkF m 0 #[.val (.ref x0), .val (.int (0 : Int32)), .val (.ref x2), .val (.int (0 : Int32)), .val (.int (5 : Int32)), .unset, .unset] [] := by first | (simp [entryFrame, mkF, argsToLocals, Value.category]; done) | rfl
def Q5n5 (Z : State) (a : Addr) (d : Addr) (ks : ClassId) (kd : ClassId) (ec0 : Int32) (ec1 : Int32) (ec2 : Int32) (ec3 : Int32) (ec4 : Int32) (h0 : Heap) (n0 : Nat) (v : Option Value) (h : Heap) (L : List Loc) : Prop := v = some (.int (5 : Int32)) ∧ Fr n0 L ∧ Keep h0 h [d] ∧ (Arv Z h d kd .byte (5 : Int32) [(.int (nar .byte (ec0.toInt8.toInt32))), (.int (nar .byte (ec1.toInt8.toInt32))), (.int (nar .byte (ec2.toInt8.toInt32))), (.int (nar .byte (ec3.toInt8.toInt32))), (.int (nar .byte (ec4.toInt8.toInt32)))] (.int (0 : Int32)))
set_option maxRecDepth 65536 in
set_option maxHeartbeats 40000000 in
theorem rm5n5 (l : Launch) (Z : State) (a0 : Array Value) (hw : ∀ d ∈ tables_1, d.before a0 Z = true) (ws : List Jvm.Cond) (a : Addr) (d : Addr) (ks : ClassId) (kd : ClassId) (ec0 : Int32) (ec1 : Int32) (ec2 : Int32) (ec3 : Int32) (ec4 : Int32) (h0 : Heap) (n0 : Nat) (Z0 : n0 ≤ h0.size) (P0 : Arv Z h0 a ks .char (5 : Int32) [(.int ec0), (.int ec1), (.int ec2), (.int ec3), (.int ec4)] (.int (0 : Int32))) (P1 : Arv Z h0 d kd .byte (5 : Int32) [(.int (0 : Int32)), (.int (0 : Int32)), (.int (0 : Int32)), (.int (0 : Int32)), (.int (0 : Int32))] (.int (0 : Int32))) (P2 : n0 ≤ d) (P3 : a ≠ d) (he0 : ¬ ((255 : Int32) < ec0)) (he1 : ¬ ((255 : Int32) < ec1)) (he2 : ¬ ((255 : Int32) < ec2)) (he3 : ¬ ((255 : Int32) < ec3)) (he4 : ¬ ((255 : Int32) < ec4)) :
    MetFree l (⟨"java/lang/StringUTF16", "compress", "([CI[BII)I"⟩ : MethodName) (head1 (Jvm.Cond.code (⟨"java/lang/StringUTF16", "compress", "([CI[BII)I"⟩ : MethodName) jdk_52_method_21_code 7 (some .int) :: ws) ({ frames := 0, cells := 0, slots := 0, locals := 0 } : Room)) (fun argz U => argz = #[(.ref a), (.int (0 : Int32)), (.ref d), (.int (0 : Int32)), (.int (5 : Int32))] ∧ Z.Warmed39 U.vm ∧ U.heap = h0) (fun _ _ _ _ _ => True) (fun _ U o U' => ∃ v L, o = .returned v ∧ Q5n5 Z a d ks kd ec0 ec1 ec2 ec3 ec4 h0 n0 v U'.heap L ∧ FrameEnd U o U' L ({ frames := 0, cells := 0, slots := 0, locals := 0 } : Room).cells ({ frames := 0, cells := 0, slots := 0, locals := 0 } : Room).slots) := by
  refine MetFree.of_bodySF (plainFor_of_name pn_java_lang_StringUTF16) hisR ?_
  intro p e s m args below meth c s₁ Bd hml0 hP hK
  obtain ⟨rfl, hZ, hh⟩ := hP
  have hx := Bd.exec
  have hby := Bd.bytes
  have hml : c.maxLocals = 7 := hml0
  have hown : s.vm.findClass "java/lang/StringUTF16" = some m.cls := findClass_of_methodNamed Bd.named
  have hnm := (name_of_methodNamed Bd.named Bd.method).1
  have X0 : Stand p l e ({ frames := 0, cells := 0, slots := 0, locals := 0 } : Room) s m #[(.ref a), (.int (0 : Int32)), (.ref d), (.int (0 : Int32)), (.int (5 : Int32))] below meth c s₁ [] 0 0 := Stand.of_body Bd
  have e0 : s₁.heap = h0 := by rw [← hh, Bd.state]; rfl
  have N0 := Fr.nil n0
  have K0 : Keep h0 h0 [d] := Keep.refl _ _
  have G : Gets p e below (s₁.setTop (entryFrame m #[(.ref a), (.int (0 : Int32)), (.ref d), (.int (0 : Int32)), (.int (5 : Int32))] 7)) (s₁.setTop (mkF m 0 #[.val (.ref a), .val (.int (0 : Int32)), .val (.ref d), .val (.int (0 : Int32)), .val (.int (5 : Int32)), .unset, .unset] [])) := fun t k => castTop (ef_5n5 m a d) k
  replace G := own_iconst (q := 1) G X0.here hx (hb hby d5_0) (v := (0 : Int32)) (by decide) rfl
  replace G := own_istore (q := 3) (l' := #[.val (.ref a), .val (.int (0 : Int32)), .val (.ref d), .val (.int (0 : Int32)), .val (.int (5 : Int32)), .val (.int (0 : Int32)), .unset]) G X0.here hx (hb hby d5_1) rfl rfl
  replace G := own_iload (q := 5) G X0.here hx (hb hby d5_3) rfl rfl
  replace G := own_iload (q := 7) G X0.here hx (hb hby d5_5) rfl rfl
  have hc7_1 : (0 : Int32) < (5 : Int32) := by decide
  replace G := own_icmpNo (q := 10) G X0.here hx (hb hby d5_7) (tlt hc7_1).2.1 rfl
  replace G := own_aloadN (q := 11) G X0.here hx (hb hby d5_10) rfl rfl rfl
  replace G := own_iloadN (q := 12) G X0.here hx (hb hby d5_11) rfl rfl
  obtain ⟨c2, Ar2, -, S2, -, H2, -⟩ := id P0
  have hin2 : ¬ ((0 : Int32) < 0 ∨ c2.slots.size ≤ ((0 : Int32)).toNatClampNeg) := inb_of S2 ⟨by decide, by decide⟩
  replace G : Gets p e below _ (s₁.setTop (mkF m 13 #[.val (.ref a), .val (.int (0 : Int32)), .val (.ref d), .val (.int (0 : Int32)), .val (.int (5 : Int32)), .val (.int (0 : Int32)), .unset] [(.int ec0)])) := fun t k => G t (X0.caload hx (j := (0 : Int32)) (v := (.int ec0)) (by rw [e0]; exact Ar2.1) (State.isArrayOf_alike hZ.alike Ar2.2.1) Ar2.2.2 hin2 (Has.at H2 hin2 rfl) (g := (mkF m 12 #[.val (.ref a), .val (.int (0 : Int32)), .val (.ref d), .val (.int (0 : Int32)), .val (.int (5 : Int32)), .val (.int (0 : Int32)), .unset] [(.int (0 : Int32)), (.ref a)])) rfl rfl (hb hby d5_12) t k)
  replace G := own_istore (q := 15) (l' := #[.val (.ref a), .val (.int (0 : Int32)), .val (.ref d), .val (.int (0 : Int32)), .val (.int (5 : Int32)), .val (.int (0 : Int32)), .val (.int ec0)]) G X0.here hx (hb hby d5_13) rfl rfl
  replace G := own_iload (q := 17) G X0.here hx (hb hby d5_15) rfl rfl
  replace G := own_sipush (q := 20) G X0.here hx (hb hby d5_17) (v := (255 : Int32)) (by decide) rfl
  have hc20_3 : ¬ ((255 : Int32) < ec0) := he0
  replace G := own_icmpYes (q := 26) G X0.here hx (hb hby d5_20) (flt hc20_3).2.2.2 (by decide) (by decide)
  replace G := own_aloadN (q := 27) G X0.here hx (hb hby d5_26) rfl rfl rfl
  replace G := own_iloadN (q := 28) G X0.here hx (hb hby d5_27) rfl rfl
  replace G := own_iload (q := 30) G X0.here hx (hb hby d5_28) rfl rfl
  replace G := own_i2b (q := 31) G X0.here hx (hb hby d5_30) rfl rfl
  obtain ⟨c4, Ar4, q4, S4, N4', H4, G4'⟩ := id P1
  have hin4 : ¬ ((0 : Int32) < 0 ∨ c4.slots.size ≤ ((0 : Int32)).toNatClampNeg) := inb_of S4 ⟨by decide, by decide⟩
  obtain ⟨T4, h4, X4, e4, W4, st4⟩ := stB X0 hx hZ e0 Ar4 (j := (0 : Int32)) hin4 (g := (mkF m 31 #[.val (.ref a), .val (.int (0 : Int32)), .val (.ref d), .val (.int (0 : Int32)), .val (.int (5 : Int32)), .val (.int (0 : Int32)), .val (.int ec0)] [(.int (ec0.toInt8.toInt32)), (.int (0 : Int32)), (.ref d)])) rfl rfl (hb hby d5_31)
  have N4 := Fr.snoc X4 N0 P2
  have Z4 : n0 ≤ h4.size := Nat.le_trans Z0 (Keep.of_wr W4).1
  have K4 : Keep h0 h4 [d] := K0.wr W4 (Or.inl (List.mem_of_getElem? (i := 0) rfl))
  have V4 : Arv Z h4 d kd .byte (5 : Int32) [(.int (nar .byte (ec0.toInt8.toInt32))), (.int (0 : Int32)), (.int (0 : Int32)), (.int (0 : Int32)), (.int (0 : Int32))] (.int (0 : Int32)) := Arv.set Ar4 q4 S4 N4' H4 G4' (fits_nar_byte _) W4 0 rfl (Nat.le_of_ble_eq_true rfl)
  replace G : Gets p e below _ (T4.setTop (mkF m 32 #[.val (.ref a), .val (.int (0 : Int32)), .val (.ref d), .val (.int (0 : Int32)), .val (.int (5 : Int32)), .val (.int (0 : Int32)), .val (.int ec0)] [])) := fun t k => G t (st4 t k)
  replace G := own_iinc (q := 35) (l' := #[.val (.ref a), .val (.int (1 : Int32)), .val (.ref d), .val (.int (0 : Int32)), .val (.int (5 : Int32)), .val (.int (0 : Int32)), .val (.int ec0)]) (w := (1 : Int32)) G X4.here hx (hb hby d5_32) (by decide) rfl (by decide : ((0 : Int32) + (1 : Int32)) = (1 : Int32)) rfl rfl
  replace G := own_iinc (q := 38) (l' := #[.val (.ref a), .val (.int (1 : Int32)), .val (.ref d), .val (.int (1 : Int32)), .val (.int (5 : Int32)), .val (.int (0 : Int32)), .val (.int ec0)]) (w := (1 : Int32)) G X4.here hx (hb hby d5_35) (by decide) rfl (by decide : ((0 : Int32) + (1 : Int32)) = (1 : Int32)) rfl rfl
  replace G := own_iinc (q := 41) (l' := #[.val (.ref a), .val (.int (1 : Int32)), .val (.ref d), .val (.int (1 : Int32)), .val (.int (5 : Int32)), .val (.int (1 : Int32)), .val (.int ec0)]) (w := (1 : Int32)) G X4.here hx (hb hby d5_38) (by decide) rfl (by decide : ((0 : Int32) + (1 : Int32)) = (1 : Int32)) rfl rfl
  replace G := own_goto (q := 3) G X4.here hx (hb hby d5_41) (by decide) (by decide)
  replace G := own_iload (q := 5) G X4.here hx (hb hby d5_3) rfl rfl
  replace G := own_iload (q := 7) G X4.here hx (hb hby d5_5) rfl rfl
  have hc7_5 : (1 : Int32) < (5 : Int32) := by decide
  replace G := own_icmpNo (q := 10) G X4.here hx (hb hby d5_7) (tlt hc7_5).2.1 rfl
  replace G := own_aloadN (q := 11) G X4.here hx (hb hby d5_10) rfl rfl rfl
  replace G := own_iloadN (q := 12) G X4.here hx (hb hby d5_11) rfl rfl
  have F6 : Arv Z h4 a ks .char (5 : Int32) [(.int ec0), (.int ec1), (.int ec2), (.int ec3), (.int ec4)] (.int (0 : Int32)) := (P0.other W4 P3)
  obtain ⟨c7, Ar7, -, S7, -, H7, -⟩ := id F6
  have hin7 : ¬ ((1 : Int32) < 0 ∨ c7.slots.size ≤ ((1 : Int32)).toNatClampNeg) := inb_of S7 ⟨by decide, by decide⟩
  replace G : Gets p e below _ (T4.setTop (mkF m 13 #[.val (.ref a), .val (.int (1 : Int32)), .val (.ref d), .val (.int (1 : Int32)), .val (.int (5 : Int32)), .val (.int (1 : Int32)), .val (.int ec0)] [(.int ec1)])) := fun t k => G t (X4.caload hx (j := (1 : Int32)) (v := (.int ec1)) (by rw [e4]; exact Ar7.1) (State.isArrayOf_alike hZ.alike Ar7.2.1) Ar7.2.2 hin7 (Has.at H7 hin7 rfl) (g := (mkF m 12 #[.val (.ref a), .val (.int (1 : Int32)), .val (.ref d), .val (.int (1 : Int32)), .val (.int (5 : Int32)), .val (.int (1 : Int32)), .val (.int ec0)] [(.int (1 : Int32)), (.ref a)])) rfl rfl (hb hby d5_12) t k)
  replace G := own_istore (q := 15) (l' := #[.val (.ref a), .val (.int (1 : Int32)), .val (.ref d), .val (.int (1 : Int32)), .val (.int (5 : Int32)), .val (.int (1 : Int32)), .val (.int ec1)]) G X4.here hx (hb hby d5_13) rfl rfl
  replace G := own_iload (q := 17) G X4.here hx (hb hby d5_15) rfl rfl
  replace G := own_sipush (q := 20) G X4.here hx (hb hby d5_17) (v := (255 : Int32)) (by decide) rfl
  have hc20_8 : ¬ ((255 : Int32) < ec1) := he1
  replace G := own_icmpYes (q := 26) G X4.here hx (hb hby d5_20) (flt hc20_8).2.2.2 (by decide) (by decide)
  replace G := own_aloadN (q := 27) G X4.here hx (hb hby d5_26) rfl rfl rfl
  replace G := own_iloadN (q := 28) G X4.here hx (hb hby d5_27) rfl rfl
  replace G := own_iload (q := 30) G X4.here hx (hb hby d5_28) rfl rfl
  replace G := own_i2b (q := 31) G X4.here hx (hb hby d5_30) rfl rfl
  obtain ⟨c9, Ar9, q9, S9, N9', H9, G9'⟩ := id V4
  have hin9 : ¬ ((1 : Int32) < 0 ∨ c9.slots.size ≤ ((1 : Int32)).toNatClampNeg) := inb_of S9 ⟨by decide, by decide⟩
  obtain ⟨T9, h9, X9, e9, W9, st9⟩ := stB X4 hx hZ e4 Ar9 (j := (1 : Int32)) hin9 (g := (mkF m 31 #[.val (.ref a), .val (.int (1 : Int32)), .val (.ref d), .val (.int (1 : Int32)), .val (.int (5 : Int32)), .val (.int (1 : Int32)), .val (.int ec1)] [(.int (ec1.toInt8.toInt32)), (.int (1 : Int32)), (.ref d)])) rfl rfl (hb hby d5_31)
  have N9 := Fr.snoc X9 N4 P2
  have Z9 : n0 ≤ h9.size := Nat.le_trans Z4 (Keep.of_wr W9).1
  have K9 : Keep h0 h9 [d] := K4.wr W9 (Or.inl (List.mem_of_getElem? (i := 0) rfl))
  have V9 : Arv Z h9 d kd .byte (5 : Int32) [(.int (nar .byte (ec0.toInt8.toInt32))), (.int (nar .byte (ec1.toInt8.toInt32))), (.int (0 : Int32)), (.int (0 : Int32)), (.int (0 : Int32))] (.int (0 : Int32)) := Arv.set Ar9 q9 S9 N9' H9 G9' (fits_nar_byte _) W9 1 rfl (Nat.le_of_ble_eq_true rfl)
  replace G : Gets p e below _ (T9.setTop (mkF m 32 #[.val (.ref a), .val (.int (1 : Int32)), .val (.ref d), .val (.int (1 : Int32)), .val (.int (5 : Int32)), .val (.int (1 : Int32)), .val (.int ec1)] [])) := fun t k => G t (st9 t k)
  replace G := own_iinc (q := 35) (l' := #[.val (.ref a), .val (.int (2 : Int32)), .val (.ref d), .val (.int (1 : Int32)), .val (.int (5 : Int32)), .val (.int (1 : Int32)), .val (.int ec1)]) (w := (1 : Int32)) G X9.here hx (hb hby d5_32) (by decide) rfl (by decide : ((1 : Int32) + (1 : Int32)) = (2 : Int32)) rfl rfl
  replace G := own_iinc (q := 38) (l' := #[.val (.ref a), .val (.int (2 : Int32)), .val (.ref d), .val (.int (2 : Int32)), .val (.int (5 : Int32)), .val (.int (1 : Int32)), .val (.int ec1)]) (w := (1 : Int32)) G X9.here hx (hb hby d5_35) (by decide) rfl (by decide : ((1 : Int32) + (1 : Int32)) = (2 : Int32)) rfl rfl
  replace G := own_iinc (q := 41) (l' := #[.val (.ref a), .val (.int (2 : Int32)), .val (.ref d), .val (.int (2 : Int32)), .val (.int (5 : Int32)), .val (.int (2 : Int32)), .val (.int ec1)]) (w := (1 : Int32)) G X9.here hx (hb hby d5_38) (by decide) rfl (by decide : ((1 : Int32) + (1 : Int32)) = (2 : Int32)) rfl rfl
  replace G := own_goto (q := 3) G X9.here hx (hb hby d5_41) (by decide) (by decide)
  replace G := own_iload (q := 5) G X9.here hx (hb hby d5_3) rfl rfl
  replace G := own_iload (q := 7) G X9.here hx (hb hby d5_5) rfl rfl
  have hc7_10 : (2 : Int32) < (5 : Int32) := by decide
  replace G := own_icmpNo (q := 10) G X9.here hx (hb hby d5_7) (tlt hc7_10).2.1 rfl
  replace G := own_aloadN (q := 11) G X9.here hx (hb hby d5_10) rfl rfl rfl
  replace G := own_iloadN (q := 12) G X9.here hx (hb hby d5_11) rfl rfl
  have F11 : Arv Z h9 a ks .char (5 : Int32) [(.int ec0), (.int ec1), (.int ec2), (.int ec3), (.int ec4)] (.int (0 : Int32)) := (F6.other W9 P3)
  obtain ⟨c12, Ar12, -, S12, -, H12, -⟩ := id F11
  have hin12 : ¬ ((2 : Int32) < 0 ∨ c12.slots.size ≤ ((2 : Int32)).toNatClampNeg) := inb_of S12 ⟨by decide, by decide⟩
  replace G : Gets p e below _ (T9.setTop (mkF m 13 #[.val (.ref a), .val (.int (2 : Int32)), .val (.ref d), .val (.int (2 : Int32)), .val (.int (5 : Int32)), .val (.int (2 : Int32)), .val (.int ec1)] [(.int ec2)])) := fun t k => G t (X9.caload hx (j := (2 : Int32)) (v := (.int ec2)) (by rw [e9]; exact Ar12.1) (State.isArrayOf_alike hZ.alike Ar12.2.1) Ar12.2.2 hin12 (Has.at H12 hin12 rfl) (g := (mkF m 12 #[.val (.ref a), .val (.int (2 : Int32)), .val (.ref d), .val (.int (2 : Int32)), .val (.int (5 : Int32)), .val (.int (2 : Int32)), .val (.int ec1)] [(.int (2 : Int32)), (.ref a)])) rfl rfl (hb hby d5_12) t k)
  replace G := own_istore (q := 15) (l' := #[.val (.ref a), .val (.int (2 : Int32)), .val (.ref d), .val (.int (2 : Int32)), .val (.int (5 : Int32)), .val (.int (2 : Int32)), .val (.int ec2)]) G X9.here hx (hb hby d5_13) rfl rfl
  replace G := own_iload (q := 17) G X9.here hx (hb hby d5_15) rfl rfl
  replace G := own_sipush (q := 20) G X9.here hx (hb hby d5_17) (v := (255 : Int32)) (by decide) rfl
  have hc20_13 : ¬ ((255 : Int32) < ec2) := he2
  replace G := own_icmpYes (q := 26) G X9.here hx (hb hby d5_20) (flt hc20_13).2.2.2 (by decide) (by decide)
  replace G := own_aloadN (q := 27) G X9.here hx (hb hby d5_26) rfl rfl rfl
  replace G := own_iloadN (q := 28) G X9.here hx (hb hby d5_27) rfl rfl
  replace G := own_iload (q := 30) G X9.here hx (hb hby d5_28) rfl rfl
  replace G := own_i2b (q := 31) G X9.here hx (hb hby d5_30) rfl rfl
  obtain ⟨c14, Ar14, q14, S14, N14', H14, G14'⟩ := id V9
  have hin14 : ¬ ((2 : Int32) < 0 ∨ c14.slots.size ≤ ((2 : Int32)).toNatClampNeg) := inb_of S14 ⟨by decide, by decide⟩
  obtain ⟨T14, h14, X14, e14, W14, st14⟩ := stB X9 hx hZ e9 Ar14 (j := (2 : Int32)) hin14 (g := (mkF m 31 #[.val (.ref a), .val (.int (2 : Int32)), .val (.ref d), .val (.int (2 : Int32)), .val (.int (5 : Int32)), .val (.int (2 : Int32)), .val (.int ec2)] [(.int (ec2.toInt8.toInt32)), (.int (2 : Int32)), (.ref d)])) rfl rfl (hb hby d5_31)
  have N14 := Fr.snoc X14 N9 P2
  have Z14 : n0 ≤ h14.size := Nat.le_trans Z9 (Keep.of_wr W14).1
  have K14 : Keep h0 h14 [d] := K9.wr W14 (Or.inl (List.mem_of_getElem? (i := 0) rfl))
  have V14 : Arv Z h14 d kd .byte (5 : Int32) [(.int (nar .byte (ec0.toInt8.toInt32))), (.int (nar .byte (ec1.toInt8.toInt32))), (.int (nar .byte (ec2.toInt8.toInt32))), (.int (0 : Int32)), (.int (0 : Int32))] (.int (0 : Int32)) := Arv.set Ar14 q14 S14 N14' H14 G14' (fits_nar_byte _) W14 2 rfl (Nat.le_of_ble_eq_true rfl)
  replace G : Gets p e below _ (T14.setTop (mkF m 32 #[.val (.ref a), .val (.int (2 : Int32)), .val (.ref d), .val (.int (2 : Int32)), .val (.int (5 : Int32)), .val (.int (2 : Int32)), .val (.int ec2)] [])) := fun t k => G t (st14 t k)
  replace G := own_iinc (q := 35) (l' := #[.val (.ref a), .val (.int (3 : Int32)), .val (.ref d), .val (.int (2 : Int32)), .val (.int (5 : Int32)), .val (.int (2 : Int32)), .val (.int ec2)]) (w := (1 : Int32)) G X14.here hx (hb hby d5_32) (by decide) rfl (by decide : ((2 : Int32) + (1 : Int32)) = (3 : Int32)) rfl rfl
  replace G := own_iinc (q := 38) (l' := #[.val (.ref a), .val (.int (3 : Int32)), .val (.ref d), .val (.int (3 : Int32)), .val (.int (5 : Int32)), .val (.int (2 : Int32)), .val (.int ec2)]) (w := (1 : Int32)) G X14.here hx (hb hby d5_35) (by decide) rfl (by decide : ((2 : Int32) + (1 : Int32)) = (3 : Int32)) rfl rfl
  replace G := own_iinc (q := 41) (l' := #[.val (.ref a), .val (.int (3 : Int32)), .val (.ref d), .val (.int (3 : Int32)), .val (.int (5 : Int32)), .val (.int (3 : Int32)), .val (.int ec2)]) (w := (1 : Int32)) G X14.here hx (hb hby d5_38) (by decide) rfl (by decide : ((2 : Int32) + (1 : Int32)) = (3 : Int32)) rfl rfl
  replace G := own_goto (q := 3) G X14.here hx (hb hby d5_41) (by decide) (by decide)
  replace G := own_iload (q := 5) G X14.here hx (hb hby d5_3) rfl rfl
  replace G := own_iload (q := 7) G X14.here hx (hb hby d5_5) rfl rfl
  have hc7_15 : (3 : Int32) < (5 : Int32) := by decide
  replace G := own_icmpNo (q := 10) G X14.here hx (hb hby d5_7) (tlt hc7_15).2.1 rfl
  replace G := own_aloadN (q := 11) G X14.here hx (hb hby d5_10) rfl rfl rfl
  replace G := own_iloadN (q := 12) G X14.here hx (hb hby d5_11) rfl rfl
  have F16 : Arv Z h14 a ks .char (5 : Int32) [(.int ec0), (.int ec1), (.int ec2), (.int ec3), (.int ec4)] (.int (0 : Int32)) := (F11.other W14 P3)
  obtain ⟨c17, Ar17, -, S17, -, H17, -⟩ := id F16
  have hin17 : ¬ ((3 : Int32) < 0 ∨ c17.slots.size ≤ ((3 : Int32)).toNatClampNeg) := inb_of S17 ⟨by decide, by decide⟩
  replace G : Gets p e below _ (T14.setTop (mkF m 13 #[.val (.ref a), .val (.int (3 : Int32)), .val (.ref d), .val (.int (3 : Int32)), .val (.int (5 : Int32)), .val (.int (3 : Int32)), .val (.int ec2)] [(.int ec3)])) := fun t k => G t (X14.caload hx (j := (3 : Int32)) (v := (.int ec3)) (by rw [e14]; exact Ar17.1) (State.isArrayOf_alike hZ.alike Ar17.2.1) Ar17.2.2 hin17 (Has.at H17 hin17 rfl) (g := (mkF m 12 #[.val (.ref a), .val (.int (3 : Int32)), .val (.ref d), .val (.int (3 : Int32)), .val (.int (5 : Int32)), .val (.int (3 : Int32)), .val (.int ec2)] [(.int (3 : Int32)), (.ref a)])) rfl rfl (hb hby d5_12) t k)
  replace G := own_istore (q := 15) (l' := #[.val (.ref a), .val (.int (3 : Int32)), .val (.ref d), .val (.int (3 : Int32)), .val (.int (5 : Int32)), .val (.int (3 : Int32)), .val (.int ec3)]) G X14.here hx (hb hby d5_13) rfl rfl
  replace G := own_iload (q := 17) G X14.here hx (hb hby d5_15) rfl rfl
  replace G := own_sipush (q := 20) G X14.here hx (hb hby d5_17) (v := (255 : Int32)) (by decide) rfl
  have hc20_18 : ¬ ((255 : Int32) < ec3) := he3
  replace G := own_icmpYes (q := 26) G X14.here hx (hb hby d5_20) (flt hc20_18).2.2.2 (by decide) (by decide)
  replace G := own_aloadN (q := 27) G X14.here hx (hb hby d5_26) rfl rfl rfl
  replace G := own_iloadN (q := 28) G X14.here hx (hb hby d5_27) rfl rfl
  replace G := own_iload (q := 30) G X14.here hx (hb hby d5_28) rfl rfl
  replace G := own_i2b (q := 31) G X14.here hx (hb hby d5_30) rfl rfl
  obtain ⟨c19, Ar19, q19, S19, N19', H19, G19'⟩ := id V14
  have hin19 : ¬ ((3 : Int32) < 0 ∨ c19.slots.size ≤ ((3 : Int32)).toNatClampNeg) := inb_of S19 ⟨by decide, by decide⟩
  obtain ⟨T19, h19, X19, e19, W19, st19⟩ := stB X14 hx hZ e14 Ar19 (j := (3 : Int32)) hin19 (g := (mkF m 31 #[.val (.ref a), .val (.int (3 : Int32)), .val (.ref d), .val (.int (3 : Int32)), .val (.int (5 : Int32)), .val (.int (3 : Int32)), .val (.int ec3)] [(.int (ec3.toInt8.toInt32)), (.int (3 : Int32)), (.ref d)])) rfl rfl (hb hby d5_31)
  have N19 := Fr.snoc X19 N14 P2
  have Z19 : n0 ≤ h19.size := Nat.le_trans Z14 (Keep.of_wr W19).1
  have K19 : Keep h0 h19 [d] := K14.wr W19 (Or.inl (List.mem_of_getElem? (i := 0) rfl))
  have V19 : Arv Z h19 d kd .byte (5 : Int32) [(.int (nar .byte (ec0.toInt8.toInt32))), (.int (nar .byte (ec1.toInt8.toInt32))), (.int (nar .byte (ec2.toInt8.toInt32))), (.int (nar .byte (ec3.toInt8.toInt32))), (.int (0 : Int32))] (.int (0 : Int32)) := Arv.set Ar19 q19 S19 N19' H19 G19' (fits_nar_byte _) W19 3 rfl (Nat.le_of_ble_eq_true rfl)
  replace G : Gets p e below _ (T19.setTop (mkF m 32 #[.val (.ref a), .val (.int (3 : Int32)), .val (.ref d), .val (.int (3 : Int32)), .val (.int (5 : Int32)), .val (.int (3 : Int32)), .val (.int ec3)] [])) := fun t k => G t (st19 t k)
  replace G := own_iinc (q := 35) (l' := #[.val (.ref a), .val (.int (4 : Int32)), .val (.ref d), .val (.int (3 : Int32)), .val (.int (5 : Int32)), .val (.int (3 : Int32)), .val (.int ec3)]) (w := (1 : Int32)) G X19.here hx (hb hby d5_32) (by decide) rfl (by decide : ((3 : Int32) + (1 : Int32)) = (4 : Int32)) rfl rfl
  replace G := own_iinc (q := 38) (l' := #[.val (.ref a), .val (.int (4 : Int32)), .val (.ref d), .val (.int (4 : Int32)), .val (.int (5 : Int32)), .val (.int (3 : Int32)), .val (.int ec3)]) (w := (1 : Int32)) G X19.here hx (hb hby d5_35) (by decide) rfl (by decide : ((3 : Int32) + (1 : Int32)) = (4 : Int32)) rfl rfl
  replace G := own_iinc (q := 41) (l' := #[.val (.ref a), .val (.int (4 : Int32)), .val (.ref d), .val (.int (4 : Int32)), .val (.int (5 : Int32)), .val (.int (4 : Int32)), .val (.int ec3)]) (w := (1 : Int32)) G X19.here hx (hb hby d5_38) (by decide) rfl (by decide : ((3 : Int32) + (1 : Int32)) = (4 : Int32)) rfl rfl
  replace G := own_goto (q := 3) G X19.here hx (hb hby d5_41) (by decide) (by decide)
  replace G := own_iload (q := 5) G X19.here hx (hb hby d5_3) rfl rfl
  replace G := own_iload (q := 7) G X19.here hx (hb hby d5_5) rfl rfl
  have hc7_20 : (4 : Int32) < (5 : Int32) := by decide
  replace G := own_icmpNo (q := 10) G X19.here hx (hb hby d5_7) (tlt hc7_20).2.1 rfl
  replace G := own_aloadN (q := 11) G X19.here hx (hb hby d5_10) rfl rfl rfl
  replace G := own_iloadN (q := 12) G X19.here hx (hb hby d5_11) rfl rfl
  have F21 : Arv Z h19 a ks .char (5 : Int32) [(.int ec0), (.int ec1), (.int ec2), (.int ec3), (.int ec4)] (.int (0 : Int32)) := (F16.other W19 P3)
  obtain ⟨c22, Ar22, -, S22, -, H22, -⟩ := id F21
  have hin22 : ¬ ((4 : Int32) < 0 ∨ c22.slots.size ≤ ((4 : Int32)).toNatClampNeg) := inb_of S22 ⟨by decide, by decide⟩
  replace G : Gets p e below _ (T19.setTop (mkF m 13 #[.val (.ref a), .val (.int (4 : Int32)), .val (.ref d), .val (.int (4 : Int32)), .val (.int (5 : Int32)), .val (.int (4 : Int32)), .val (.int ec3)] [(.int ec4)])) := fun t k => G t (X19.caload hx (j := (4 : Int32)) (v := (.int ec4)) (by rw [e19]; exact Ar22.1) (State.isArrayOf_alike hZ.alike Ar22.2.1) Ar22.2.2 hin22 (Has.at H22 hin22 rfl) (g := (mkF m 12 #[.val (.ref a), .val (.int (4 : Int32)), .val (.ref d), .val (.int (4 : Int32)), .val (.int (5 : Int32)), .val (.int (4 : Int32)), .val (.int ec3)] [(.int (4 : Int32)), (.ref a)])) rfl rfl (hb hby d5_12) t k)
  replace G := own_istore (q := 15) (l' := #[.val (.ref a), .val (.int (4 : Int32)), .val (.ref d), .val (.int (4 : Int32)), .val (.int (5 : Int32)), .val (.int (4 : Int32)), .val (.int ec4)]) G X19.here hx (hb hby d5_13) rfl rfl
  replace G := own_iload (q := 17) G X19.here hx (hb hby d5_15) rfl rfl
  replace G := own_sipush (q := 20) G X19.here hx (hb hby d5_17) (v := (255 : Int32)) (by decide) rfl
  have hc20_23 : ¬ ((255 : Int32) < ec4) := he4
  replace G := own_icmpYes (q := 26) G X19.here hx (hb hby d5_20) (flt hc20_23).2.2.2 (by decide) (by decide)
  replace G := own_aloadN (q := 27) G X19.here hx (hb hby d5_26) rfl rfl rfl
  replace G := own_iloadN (q := 28) G X19.here hx (hb hby d5_27) rfl rfl
  replace G := own_iload (q := 30) G X19.here hx (hb hby d5_28) rfl rfl
  replace G := own_i2b (q := 31) G X19.here hx (hb hby d5_30) rfl rfl
  obtain ⟨c24, Ar24, q24, S24, N24', H24, G24'⟩ := id V19
  have hin24 : ¬ ((4 : Int32) < 0 ∨ c24.slots.size ≤ ((4 : Int32)).toNatClampNeg) := inb_of S24 ⟨by decide, by decide⟩
  obtain ⟨T24, h24, X24, e24, W24, st24⟩ := stB X19 hx hZ e19 Ar24 (j := (4 : Int32)) hin24 (g := (mkF m 31 #[.val (.ref a), .val (.int (4 : Int32)), .val (.ref d), .val (.int (4 : Int32)), .val (.int (5 : Int32)), .val (.int (4 : Int32)), .val (.int ec4)] [(.int (ec4.toInt8.toInt32)), (.int (4 : Int32)), (.ref d)])) rfl rfl (hb hby d5_31)
  have N24 := Fr.snoc X24 N19 P2
  have Z24 : n0 ≤ h24.size := Nat.le_trans Z19 (Keep.of_wr W24).1
  have K24 : Keep h0 h24 [d] := K19.wr W24 (Or.inl (List.mem_of_getElem? (i := 0) rfl))
  have V24 : Arv Z h24 d kd .byte (5 : Int32) [(.int (nar .byte (ec0.toInt8.toInt32))), (.int (nar .byte (ec1.toInt8.toInt32))), (.int (nar .byte (ec2.toInt8.toInt32))), (.int (nar .byte (ec3.toInt8.toInt32))), (.int (nar .byte (ec4.toInt8.toInt32)))] (.int (0 : Int32)) := Arv.set Ar24 q24 S24 N24' H24 G24' (fits_nar_byte _) W24 4 rfl (Nat.le_of_ble_eq_true rfl)
  replace G : Gets p e below _ (T24.setTop (mkF m 32 #[.val (.ref a), .val (.int (4 : Int32)), .val (.ref d), .val (.int (4 : Int32)), .val (.int (5 : Int32)), .val (.int (4 : Int32)), .val (.int ec4)] [])) := fun t k => G t (st24 t k)
  replace G := own_iinc (q := 35) (l' := #[.val (.ref a), .val (.int (5 : Int32)), .val (.ref d), .val (.int (4 : Int32)), .val (.int (5 : Int32)), .val (.int (4 : Int32)), .val (.int ec4)]) (w := (1 : Int32)) G X24.here hx (hb hby d5_32) (by decide) rfl (by decide : ((4 : Int32) + (1 : Int32)) = (5 : Int32)) rfl rfl
  replace G := own_iinc (q := 38) (l' := #[.val (.ref a), .val (.int (5 : Int32)), .val (.ref d), .val (.int (5 : Int32)), .val (.int (5 : Int32)), .val (.int (4 : Int32)), .val (.int ec4)]) (w := (1 : Int32)) G X24.here hx (hb hby d5_35) (by decide) rfl (by decide : ((4 : Int32) + (1 : Int32)) = (5 : Int32)) rfl rfl
  replace G := own_iinc (q := 41) (l' := #[.val (.ref a), .val (.int (5 : Int32)), .val (.ref d), .val (.int (5 : Int32)), .val (.int (5 : Int32)), .val (.int (5 : Int32)), .val (.int ec4)]) (w := (1 : Int32)) G X24.here hx (hb hby d5_38) (by decide) rfl (by decide : ((4 : Int32) + (1 : Int32)) = (5 : Int32)) rfl rfl
  replace G := own_goto (q := 3) G X24.here hx (hb hby d5_41) (by decide) (by decide)
  replace G := own_iload (q := 5) G X24.here hx (hb hby d5_3) rfl rfl
  replace G := own_iload (q := 7) G X24.here hx (hb hby d5_5) rfl rfl
  have hc7_25 : ¬ ((5 : Int32) < (5 : Int32)) := by decide
  replace G := own_icmpYes (q := 44) G X24.here hx (hb hby d5_7) (flt hc7_25).2.1 (by decide) (by decide)
  replace G := own_iload (q := 46) G X24.here hx (hb hby d5_44) rfl rfl
  obtain ⟨fs, hr, hrun, hended, hW, hsame⟩ := X24.leave (v := some (.int (5 : Int32))) (fun h => by rw [Bd.returns] at h; cases h)
  refine ⟨_, _, G _ (retOut X24 hx Bd.returns rfl (Or.inl ⟨rfl, Or.inl rfl, _, rfl⟩) (hb hby d5_46) hr), hrun, hended, _, _, rfl, ?_, ⟨_, rfl⟩, hW, hsame.mono (by decide) (by decide)⟩
  show Q5n5 Z a d ks kd ec0 ec1 ec2 ec3 ec4 h0 n0 _ T24.heap _
  rw [e24]
  exact ⟨rfl, N24, K24, V24⟩
theorem ef_4n5 (m : MethodId) (x0 : Addr) : entryFrame m #[(.ref x0), (.int (0 : Int32)), (.int (5 : Int32))] 6 = mkF m 0 #[.val (.ref x0), .val (.int (0 : Int32)), .val (.int (5 : Int32)), .unset, .unset, .unset] [] := by first | (simp [entryFrame, mkF, argsToLocals, Value.category]; done) | rfl
def Q4n5 (Z : State) (a : Addr) (ks : ClassId) (ec0 : Int32) (ec1 : Int32) (ec2 : Int32) (ec3 : Int32) (ec4 : Int32) (h0 : Heap) (n0 : Nat) (v : Option Value) (h : Heap) (L : List Loc) : Prop := ∃ (b : Addr) (kb : ClassId), v = some (.ref b) ∧ Fr n0 L ∧ Keep h0 h [] ∧ h0.size ≤ b ∧ (Arv Z h b kb .byte (5 : Int32) [(.int (nar .byte (ec0.toInt8.toInt32))), (.int (nar .byte (ec1.toInt8.toInt32))), (.int (nar .byte (ec2.toInt8.toInt32))), (.int (nar .byte (ec3.toInt8.toInt32))), (.int (nar .byte (ec4.toInt8.toInt32)))] (.int (0 : Int32)))
set_option maxRecDepth 65536 in
set_option maxHeartbeats 40000000 in
theorem rm4n5 (l : Launch) (Z : State) (a0 : Array Value) (hw : ∀ d ∈ tables_1, d.before a0 Z = true) (ws : List Jvm.Cond) (a : Addr) (ks : ClassId) (ec0 : Int32) (ec1 : Int32) (ec2 : Int32) (ec3 : Int32) (ec4 : Int32) (h0 : Heap) (n0 : Nat) (Z0 : n0 ≤ h0.size) (P0 : Arv Z h0 a ks .char (5 : Int32) [(.int ec0), (.int ec1), (.int ec2), (.int ec3), (.int ec4)] (.int (0 : Int32))) (he0 : ¬ ((255 : Int32) < ec0)) (he1 : ¬ ((255 : Int32) < ec1)) (he2 : ¬ ((255 : Int32) < ec2)) (he3 : ¬ ((255 : Int32) < ec3)) (he4 : ¬ ((255 : Int32) < ec4)) :
    MetFree l (⟨"java/lang/StringUTF16", "compress", "([CII)[B"⟩ : MethodName) (head1 (Jvm.Cond.code (⟨"java/lang/StringUTF16", "compress", "([CII)[B"⟩ : MethodName) jdk_52_method_16_code 6 (some (.array .byte)) :: ws) ({ frames := 1, cells := 1, slots := 5, locals := 18 } : Room)) (fun argz U => argz = #[(.ref a), (.int (0 : Int32)), (.int (5 : Int32))] ∧ Z.Warmed39 U.vm ∧ U.heap = h0) (fun _ _ _ _ _ => True) (fun _ U o U' => ∃ v L, o = .returned v ∧ Q4n5 Z a ks ec0 ec1 ec2 ec3 ec4 h0 n0 v U'.heap L ∧ FrameEnd U o U' L ({ frames := 1, cells := 1, slots := 5, locals := 18 } : Room).cells ({ frames := 1, cells := 1, slots := 5, locals := 18 } : Room).slots) := by
  refine MetFree.of_bodySF (plainFor_of_name pn_java_lang_StringUTF16) hisR ?_
  intro p e s m args below meth c s₁ Bd hml0 hP hK
  obtain ⟨rfl, hZ, hh⟩ := hP
  have hx := Bd.exec
  have hby := Bd.bytes
  have hml : c.maxLocals = 6 := hml0
  have hown : s.vm.findClass "java/lang/StringUTF16" = some m.cls := findClass_of_methodNamed Bd.named
  have hnm := (name_of_methodNamed Bd.named Bd.method).1
  have X0 : Stand p l e ({ frames := 1, cells := 1, slots := 5, locals := 18 } : Room) s m #[(.ref a), (.int (0 : Int32)), (.int (5 : Int32))] below meth c s₁ [] 0 0 := Stand.of_body Bd
  have e0 : s₁.heap = h0 := by rw [← hh, Bd.state]; rfl
  have N0 := Fr.nil n0
  have K0 : Keep h0 h0 [] := Keep.refl _ _
  have G : Gets p e below (s₁.setTop (entryFrame m #[(.ref a), (.int (0 : Int32)), (.int (5 : Int32))] 6)) (s₁.setTop (mkF m 0 #[.val (.ref a), .val (.int (0 : Int32)), .val (.int (5 : Int32)), .unset, .unset, .unset] [])) := fun t k => castTop (ef_4n5 m a) k
  replace G := own_iloadN (q := 1) G X0.here hx (hb hby d4_0) rfl rfl
  obtain ⟨T1, h1, k1, X1, e1, E1, A1, st1⟩ := newP X0 hx hZ (hw _ (List.mem_of_getElem? (i := 23) rfl)) e0 (g := (mkF m 1 #[.val (.ref a), .val (.int (0 : Int32)), .val (.int (5 : Int32)), .unset, .unset, .unset] [(.int (5 : Int32))])) rfl (hb hby d4_1) rfl (by decide) (cap := 5) (by decide) (by decide) (by decide) (by decide)
  obtain ⟨b1, g1⟩ : ∃ z, z = h0.size := ⟨_, rfl⟩
  rw [← g1] at A1 st1
  have ne2 : a ≠ b1 := Nat.ne_of_lt (Nat.lt_of_lt_of_le P0.lt (Nat.le_of_eq g1.symm))
  have ge_b1 : n0 ≤ b1 := Nat.le_trans Z0 (Nat.le_of_eq g1.symm)
  have sz_b1 : h0.size ≤ b1 := Nat.le_trans K0.1 (Nat.le_of_eq g1.symm)
  have Z1 : n0 ≤ h1.size := Nat.le_trans Z0 E1.1
  have K1 : Keep h0 h1 [] := K0.ext E1
  have V1 : Arv Z h1 b1 k1 .byte (5 : Int32) [(.int (0 : Int32)), (.int (0 : Int32)), (.int (0 : Int32)), (.int (0 : Int32)), (.int (0 : Int32))] (.int (0 : Int32)) := (Arv.new A1 (by decide)).pad (pad_rep [] (.int (0 : Int32)) 5)
  replace G : Gets p e below _ (T1.setTop (mkF m 3 #[.val (.ref a), .val (.int (0 : Int32)), .val (.int (5 : Int32)), .unset, .unset, .unset] [(.ref b1)])) := fun t k => G t (st1 t k)
  replace G := own_astoreN (q := 4) (l' := #[.val (.ref a), .val (.int (0 : Int32)), .val (.int (5 : Int32)), .val (.ref b1), .unset, .unset]) G X1.here hx (hb hby d4_3) rfl rfl rfl
  replace G := own_aloadN (q := 5) G X1.here hx (hb hby d4_4) rfl rfl rfl
  replace G := own_iloadN (q := 6) G X1.here hx (hb hby d4_5) rfl rfl
  replace G := own_aloadN (q := 7) G X1.here hx (hb hby d4_6) rfl rfl rfl
  replace G := own_iconst (q := 8) G X1.here hx (hb hby d4_7) (v := (0 : Int32)) (by decide) rfl
  replace G := own_iloadN (q := 9) G X1.here hx (hb hby d4_8) rfl rfl
  have F4 : Arv Z h1 a ks .char (5 : Int32) [(.int ec0), (.int ec1), (.int ec2), (.int ec3), (.int ec4)] (.int (0 : Int32)) := (P0.ext E1)
  obtain ⟨_, _, ⟨T3, L3, kk3, nn3⟩, -, X3, ⟨Lc3, hQ3, l3, y3, z3⟩, st3⟩ := Jvm.LawKit.callS X1 hx (y := (⟨"java/lang/StringUTF16", "compress", "([CI[BII)I"⟩ : MethodName)) hown (mvT hZ (hw _ (List.mem_of_getElem? (i := 24) rfl))) (mvT hZ (hw _ (List.mem_of_getElem? (i := 25) rfl))) (mvT hZ (hw _ (List.mem_of_getElem? (i := 21) rfl))) (mvT hZ (hw _ (List.mem_of_getElem? (i := 26) rfl))) (by decide) (backOf (W := 0) (rm5n5 l Z a0 hw [] a b1 ks k1 ec0 ec1 ec2 ec3 ec4 h1 n0 Z1 F4 V1 ge_b1 ne2 he0 he1 he2 he3 he4) hZ (hw _ (List.mem_of_getElem? (i := 26) rfl)) (hw _ (List.mem_of_getElem? (i := 21) rfl)) (by decide) (by decide)) (g := (mkF m 9 #[.val (.ref a), .val (.int (0 : Int32)), .val (.int (5 : Int32)), .val (.ref b1), .unset, .unset] [(.int (5 : Int32)), (.int (0 : Int32)), (.ref b1), (.int (0 : Int32)), (.ref a)])) rfl (by rw [hml]; rfl) (argsL := [(.ref a), (.int (0 : Int32)), (.ref b1), (.int (0 : Int32)), (.int (5 : Int32))]) (rest := []) (lenOf pd_0 rfl) rfl (by show 2 * 0 + _ ≤ _; exact Nat.le_of_eq rfl) (hb hby d4_9) (fun _ _ => ⟨rfl, e1, (by decide : 1 + 0 ≤ _), (by decide : 5 + 0 ≤ _)⟩)
  dsimp only [Pt.U, Pt.locs, Pt.cells, Pt.slots] at X3 l3 y3 z3 st3 hQ3
  subst l3 y3 z3
  obtain ⟨rfl, N3q, K3q, B3_0⟩ := hQ3
  have Z3 : n0 ≤ T3.heap.size := Nat.le_trans Z1 K3q.1
  have K3 : Keep h0 T3.heap [] := K1.trans K3q (allS (Or.inr sz_b1) all0)
  have N3 := Fr.app N0 N3q
  replace G : Gets p e below _ (T3.setTop (mkF m 12 #[.val (.ref a), .val (.int (0 : Int32)), .val (.int (5 : Int32)), .val (.ref b1), .unset, .unset] [(.int (5 : Int32))])) := fun t k => G t (st3 t k)
  replace G := own_istore (q := 14) (l' := #[.val (.ref a), .val (.int (0 : Int32)), .val (.int (5 : Int32)), .val (.ref b1), .val (.int (5 : Int32)), .unset]) G X3.here hx (hb hby d4_12) rfl rfl
  replace G := own_iload (q := 16) G X3.here hx (hb hby d4_14) rfl rfl
  replace G := own_iloadN (q := 17) G X3.here hx (hb hby d4_16) rfl rfl
  have hc17_5 : (5 : Int32) = (5 : Int32) := by decide
  replace G := own_icmpYes (q := 57) G X3.here hx (hb hby d4_17) (teq hc17_5).1 (by decide) (by decide)
  replace G := own_aloadN (q := 58) G X3.here hx (hb hby d4_57) rfl rfl rfl
  obtain ⟨fs, hr, hrun, hended, hW, hsame⟩ := X3.leave (v := some (.ref b1)) (fun h => by rw [Bd.returns] at h; cases h)
  refine ⟨_, _, G _ (retOut X3 hx Bd.returns rfl (Or.inr (Or.inr (Or.inr (Or.inr ⟨rfl, rfl, rfl⟩)))) (hb hby d4_58) hr), hrun, hended, _, _, rfl, ?_, ⟨_, rfl⟩, hW, hsame.mono (by decide) (by decide)⟩
  show Q4n5 Z a ks ec0 ec1 ec2 ec3 ec4 h0 n0 _ T3.heap _
  exact ⟨b1, k1, rfl, N3, K3, sz_b1, B3_0⟩
theorem ef_6n5 (m : MethodId) (x0 : Addr) : entryFrame m #[(.ref x0), (.int (5 : Int32))] 2 = mkF m 0 #[.val (.ref x0), .val (.int (5 : Int32))] [] := by first | (simp [entryFrame, mkF, argsToLocals, Value.category]; done) | rfl
def Q6n5 (Z : State) (d : Addr) (kd : ClassId) (vs : List Value) (h0 : Heap) (n0 : Nat) (v : Option Value) (h : Heap) (L : List Loc) : Prop := v = some (.int (0 : Int32)) ∧ Fr n0 L ∧ h = h0
set_option maxRecDepth 65536 in
set_option maxHeartbeats 40000000 in
theorem rm6n5 (l : Launch) (Z : State) (a0 : Array Value) (hw : ∀ d ∈ tables_1, d.before a0 Z = true) (ws : List Jvm.Cond) (d : Addr) (kd : ClassId) (vs : List Value) (h0 : Heap) (n0 : Nat) (Z0 : n0 ≤ h0.size) (P0 : Arv Z h0 d kd .byte (5 : Int32) vs (.int (0 : Int32))) :
    MetFree l (⟨"java/lang/StringUTF16", "coderFromArrayLen", "([BI)B"⟩ : MethodName) (head1 (Jvm.Cond.code (⟨"java/lang/StringUTF16", "coderFromArrayLen", "([BI)B"⟩ : MethodName) jdk_52_method_15_code 2 (some .byte) :: ws) ({ frames := 0, cells := 0, slots := 0, locals := 0 } : Room)) (fun argz U => argz = #[(.ref d), (.int (5 : Int32))] ∧ Z.Warmed39 U.vm ∧ U.heap = h0) (fun _ _ _ _ _ => True) (fun _ U o U' => ∃ v L, o = .returned v ∧ Q6n5 Z d kd vs h0 n0 v U'.heap L ∧ FrameEnd U o U' L ({ frames := 0, cells := 0, slots := 0, locals := 0 } : Room).cells ({ frames := 0, cells := 0, slots := 0, locals := 0 } : Room).slots) := by
  refine MetFree.of_bodySF (plainFor_of_name pn_java_lang_StringUTF16) hisR ?_
  intro p e s m args below meth c s₁ Bd hml0 hP hK
  obtain ⟨rfl, hZ, hh⟩ := hP
  have hx := Bd.exec
  have hby := Bd.bytes
  have hml : c.maxLocals = 2 := hml0
  have hown : s.vm.findClass "java/lang/StringUTF16" = some m.cls := findClass_of_methodNamed Bd.named
  have hnm := (name_of_methodNamed Bd.named Bd.method).1
  have X0 : Stand p l e ({ frames := 0, cells := 0, slots := 0, locals := 0 } : Room) s m #[(.ref d), (.int (5 : Int32))] below meth c s₁ [] 0 0 := Stand.of_body Bd
  have e0 : s₁.heap = h0 := by rw [← hh, Bd.state]; rfl
  have N0 := Fr.nil n0
  have G : Gets p e below (s₁.setTop (entryFrame m #[(.ref d), (.int (5 : Int32))] 2)) (s₁.setTop (mkF m 0 #[.val (.ref d), .val (.int (5 : Int32))] [])) := fun t k => castTop (ef_6n5 m d) k
  replace G := own_iloadN (q := 1) G X0.here hx (hb hby d6_0) rfl rfl
  replace G := own_aloadN (q := 2) G X0.here hx (hb hby d6_1) rfl rfl rfl
  obtain ⟨c1, Ar1, -, S1, N1', -, -⟩ := id P0
  replace G : Gets p e below _ (s₁.setTop (mkF m 3 #[.val (.ref d), .val (.int (5 : Int32))] [(.int (5 : Int32)), (.int (5 : Int32))])) := fun t k => G t (X0.arraylength hx (by rw [e0]; exact Ar1.1) (State.isArrayOf_alike hZ.alike Ar1.2.1) (g := (mkF m 2 #[.val (.ref d), .val (.int (5 : Int32))] [(.ref d), (.int (5 : Int32))])) rfl rfl (hb hby d6_2) t (by rw [len_of S1 N1']; exact k))
  replace G := own_isub (q := 4) G X0.here hx (hb hby d6_3) (by decide : ((5 : Int32) - (5 : Int32)) = (0 : Int32)) rfl
  replace G := own_bipush (q := 6) G X0.here hx (hb hby d6_4) (v := (31 : Int32)) (by decide) rfl
  replace G := own_iushr (q := 7) G X0.here hx (hb hby d6_6) (by decide : (((0 : Int32).toUInt32 >>> ((31 : Int32) &&& 31).toUInt32).toInt32) = (0 : Int32)) rfl
  replace G := own_i2b (q := 8) G X0.here hx (hb hby d6_7) (by decide : ((0 : Int32).toInt8.toInt32) = (0 : Int32)) rfl
  obtain ⟨fs, hr, hrun, hended, hW, hsame⟩ := X0.leave (v := some (.int (0 : Int32))) (fun h => by rw [Bd.returns] at h; cases h)
  refine ⟨_, _, G _ (retOut X0 hx Bd.returns rfl (Or.inl ⟨rfl, Or.inr (Or.inr (Or.inl rfl)), _, rfl⟩) (hb hby d6_8) hr), hrun, hended, _, _, rfl, ?_, ⟨_, rfl⟩, hW, hsame.mono (by decide) (by decide)⟩
  show Q6n5 Z d kd vs h0 n0 _ s₁.heap _
  rw [e0]
  exact ⟨rfl, N0, rfl⟩
theorem ef_2n5 (m : MethodId) (x0 : Addr) (x1 : Addr) : entryFrame m #[(.ref x0), (.ref x1), (.int (0 : Int32)), (.int (5 : Int32)), .null] 6 = mkF m 0 #[.val (.ref x0), .val (.ref x1), .val (.int (0 : Int32)), .val (.int (5 : Int32)), .val .null, .unset] [] := by first | (simp [entryFrame, mkF, argsToLocals, Value.category]; done) | rfl
def Q2n5 (Z : State) (tt : Addr) (a : Addr) (ks : ClassId) (cw : Int32) (ec0 : Int32) (ec1 : Int32) (ec2 : Int32) (ec3 : Int32) (ec4 : Int32) (h0 : Heap) (n0 : Nat) (v : Option Value) (h : Heap) (L : List Loc) : Prop := ∃ (b : Addr) (kb : ClassId), v = none ∧ Fr n0 L ∧ Keep h0 h [tt] ∧ (Fld Z h tt "java/lang/String" "value" "[B" (.ref b)) ∧ (Fld Z h tt "java/lang/String" "coder" "B" (.int (0 : Int32))) ∧ h0.size ≤ b ∧ (Arv Z h b kb .byte (5 : Int32) [(.int (nar .byte (ec0.toInt8.toInt32))), (.int (nar .byte (ec1.toInt8.toInt32))), (.int (nar .byte (ec2.toInt8.toInt32))), (.int (nar .byte (ec3.toInt8.toInt32))), (.int (nar .byte (ec4.toInt8.toInt32)))] (.int (0 : Int32)))
set_option maxRecDepth 65536 in
set_option maxHeartbeats 40000000 in
theorem rm2n5 (l : Launch) (Z : State) (a0 : Array Value) (hw : ∀ d ∈ tables_1, d.before a0 Z = true) (ws : List Jvm.Cond) (tt : Addr) (a : Addr) (ks : ClassId) (cw : Int32) (ec0 : Int32) (ec1 : Int32) (ec2 : Int32) (ec3 : Int32) (ec4 : Int32) (h0 : Heap) (n0 : Nat) (Z0 : n0 ≤ h0.size) (P0 : Fld Z h0 tt "java/lang/String" "value" "[B" .null) (P1 : Fld Z h0 tt "java/lang/String" "coder" "B" (.int (0 : Int32))) (P2 : Exa Z h0 tt "java/lang/String") (P3 : n0 ≤ tt) (P4 : Arv Z h0 a ks .char (5 : Int32) [(.int ec0), (.int ec1), (.int ec2), (.int ec3), (.int ec4)] (.int (0 : Int32))) (P5 : Sta Z h0 "java/lang/String" "COMPACT_STRINGS" "Z" (.int cw)) (hcw : ¬ cw = (0 : Int32)) (he0 : ¬ ((255 : Int32) < ec0)) (he1 : ¬ ((255 : Int32) < ec1)) (he2 : ¬ ((255 : Int32) < ec2)) (he3 : ¬ ((255 : Int32) < ec3)) (he4 : ¬ ((255 : Int32) < ec4)) :
    MetFree l (⟨"java/lang/String", "<init>", "([CIILjava/lang/Void;)V"⟩ : MethodName) (head1 (Jvm.Cond.code (⟨"java/lang/String", "<init>", "([CIILjava/lang/Void;)V"⟩ : MethodName) jdk_42_method_149_code 6 none :: ws) ({ frames := 2, cells := 1, slots := 5, locals := 35 } : Room)) (fun argz U => argz = #[(.ref tt), (.ref a), (.int (0 : Int32)), (.int (5 : Int32)), .null] ∧ Z.Warmed39 U.vm ∧ U.heap = h0) (fun _ _ _ _ _ => True) (fun _ U o U' => ∃ v L, o = .returned v ∧ Q2n5 Z tt a ks cw ec0 ec1 ec2 ec3 ec4 h0 n0 v U'.heap L ∧ FrameEnd U o U' L ({ frames := 2, cells := 1, slots := 5, locals := 35 } : Room).cells ({ frames := 2, cells := 1, slots := 5, locals := 35 } : Room).slots) := by
  refine MetFree.of_bodySF (plainFor_of_name pn_java_lang_String) hisR ?_
  intro p e s m args below meth c s₁ Bd hml0 hP hK
  obtain ⟨rfl, hZ, hh⟩ := hP
  have hx := Bd.exec
  have hby := Bd.bytes
  have hml : c.maxLocals = 6 := hml0
  have hown : s.vm.findClass "java/lang/String" = some m.cls := findClass_of_methodNamed Bd.named
  have hnm := (name_of_methodNamed Bd.named Bd.method).1
  have X0 : Stand p l e ({ frames := 2, cells := 1, slots := 5, locals := 35 } : Room) s m #[(.ref tt), (.ref a), (.int (0 : Int32)), (.int (5 : Int32)), .null] below meth c s₁ [] 0 0 := Stand.of_body Bd
  have e0 : s₁.heap = h0 := by rw [← hh, Bd.state]; rfl
  have N0 := Fr.nil n0
  have K0 : Keep h0 h0 [tt] := Keep.refl _ _
  have G : Gets p e below (s₁.setTop (entryFrame m #[(.ref tt), (.ref a), (.int (0 : Int32)), (.int (5 : Int32)), .null] 6)) (s₁.setTop (mkF m 0 #[.val (.ref tt), .val (.ref a), .val (.int (0 : Int32)), .val (.int (5 : Int32)), .val .null, .unset] [])) := fun t k => castTop (ef_2n5 m tt a) k
  replace G := own_aloadN (q := 1) G X0.here hx (hb hby d2_0) rfl rfl rfl
  obtain ⟨T1, X1, e1, st1⟩ := initO X0 hx hZ hown (hw _ (List.mem_of_getElem? (i := 15) rfl)) (hw _ (List.mem_of_getElem? (i := 16) rfl)) (hw _ (List.mem_of_getElem? (i := 17) rfl)) e0 (g := (mkF m 1 #[.val (.ref tt), .val (.ref a), .val (.int (0 : Int32)), .val (.int (5 : Int32)), .val .null, .unset] [(.ref tt)])) rfl (by rw [hml]; rfl) rfl (hb hby d2_1) (by decide) (W := 0) (by show 2 * 0 + _ ≤ _; exact Nat.le_of_eq rfl) (by decide)
  replace G : Gets p e below _ (T1.setTop (mkF m 4 #[.val (.ref tt), .val (.ref a), .val (.int (0 : Int32)), .val (.int (5 : Int32)), .val .null, .unset] [])) := fun t k => G t (st1 t k)
  replace G := own_iloadN (q := 5) G X1.here hx (hb hby d2_4) rfl rfl
  have hc5_2 : ¬ ((5 : Int32) = (0 : Int32)) := by decide
  replace G := own_ifYes (q := 27) G X1.here hx (hb hby d2_5) ((if0 _ _).trans (feq hc5_2).2) (by decide) (by decide)
  obtain ⟨T3, X3, e3, st3⟩ := getS2 X1 hx hZ hown (host := "") (Or.inl (hw _ (List.mem_of_getElem? (i := 18) rfl))) Via.refl e1 P5 (g := (mkF m 27 #[.val (.ref tt), .val (.ref a), .val (.int (0 : Int32)), .val (.int (5 : Int32)), .val .null, .unset] [])) rfl (hb hby d2_27)
  replace G : Gets p e below _ (T3.setTop (mkF m 30 #[.val (.ref tt), .val (.ref a), .val (.int (0 : Int32)), .val (.int (5 : Int32)), .val .null, .unset] [(.int cw)])) := fun t k => G t (st3 t k)
  have hc30_4 : ¬ (cw = (0 : Int32)) := hcw
  replace G := own_ifNo (q := 33) G X3.here hx (hb hby d2_30) ((if0 _ _).trans (feq hc30_4).1) rfl
  replace G := own_aloadN (q := 34) G X3.here hx (hb hby d2_33) rfl rfl rfl
  replace G := own_iloadN (q := 35) G X3.here hx (hb hby d2_34) rfl rfl
  replace G := own_iloadN (q := 36) G X3.here hx (hb hby d2_35) rfl rfl
  obtain ⟨_, _, ⟨T5, L5, kk5, nn5⟩, -, X5, ⟨Lc5, hQ5, l5, y5, z5⟩, st5⟩ := Jvm.LawKit.callS X3 hx (y := (⟨"java/lang/StringUTF16", "compress", "([CII)[B"⟩ : MethodName)) hown (mvT hZ (hw _ (List.mem_of_getElem? (i := 19) rfl))) (mvT hZ (hw _ (List.mem_of_getElem? (i := 20) rfl))) (mvT hZ (hw _ (List.mem_of_getElem? (i := 21) rfl))) (mvT hZ (hw _ (List.mem_of_getElem? (i := 22) rfl))) (by decide) (backOf (W := 0) (rm4n5 l Z a0 hw [] a ks ec0 ec1 ec2 ec3 ec4 h0 n0 Z0 P4 he0 he1 he2 he3 he4) hZ (hw _ (List.mem_of_getElem? (i := 22) rfl)) (hw _ (List.mem_of_getElem? (i := 21) rfl)) (by decide) (by decide)) (g := (mkF m 36 #[.val (.ref tt), .val (.ref a), .val (.int (0 : Int32)), .val (.int (5 : Int32)), .val .null, .unset] [(.int (5 : Int32)), (.int (0 : Int32)), (.ref a)])) rfl (by rw [hml]; rfl) (argsL := [(.ref a), (.int (0 : Int32)), (.int (5 : Int32))]) (rest := []) (lenOf pd_1 rfl) rfl (by show 2 * 0 + _ ≤ _; exact Nat.le_of_eq rfl) (hb hby d2_36) (fun _ _ => ⟨rfl, e3, (by decide : 0 + 1 ≤ _), (by decide : 0 + 5 ≤ _)⟩)
  dsimp only [Pt.U, Pt.locs, Pt.cells, Pt.slots] at X5 l5 y5 z5 st5 hQ5
  subst l5 y5 z5
  obtain ⟨b_5, kb_5, rfl, N5q, K5q, B5_0, B5_1⟩ := hQ5
  have ne6 : tt ≠ b_5 := Nat.ne_of_lt (Nat.lt_of_lt_of_le P0.lt B5_0)
  have ne7 : a ≠ b_5 := Nat.ne_of_lt (Nat.lt_of_lt_of_le P4.lt B5_0)
  have ge_b_5 : n0 ≤ b_5 := Nat.le_trans Z0 B5_0
  have sz_b_5 : h0.size ≤ b_5 := Nat.le_trans K0.1 B5_0
  have Z5 : n0 ≤ T5.heap.size := Nat.le_trans Z0 K5q.1
  have K5 : Keep h0 T5.heap [tt] := K0.trans K5q all0
  have N5 := Fr.app N0 N5q
  replace G : Gets p e below _ (T5.setTop (mkF m 39 #[.val (.ref tt), .val (.ref a), .val (.int (0 : Int32)), .val (.int (5 : Int32)), .val .null, .unset] [(.ref b_5)])) := fun t k => G t (st5 t k)
  replace G := own_astore (q := 41) (l' := #[.val (.ref tt), .val (.ref a), .val (.int (0 : Int32)), .val (.int (5 : Int32)), .val .null, .val (.ref b_5)]) G X5.here hx (hb hby d2_39) rfl rfl rfl
  replace G := own_aloadN (q := 42) G X5.here hx (hb hby d2_41) rfl rfl rfl
  replace G := own_aload (q := 44) G X5.here hx (hb hby d2_42) rfl rfl rfl
  replace G := own_iloadN (q := 45) G X5.here hx (hb hby d2_44) rfl rfl
  obtain ⟨_, _, ⟨T8, L8, kk8, nn8⟩, -, X8, ⟨Lc8, hQ8, l8, y8, z8⟩, st8⟩ := Jvm.LawKit.callS X5 hx (y := (⟨"java/lang/StringUTF16", "coderFromArrayLen", "([BI)B"⟩ : MethodName)) hown (mvT hZ (hw _ (List.mem_of_getElem? (i := 27) rfl))) (mvT hZ (hw _ (List.mem_of_getElem? (i := 28) rfl))) (mvT hZ (hw _ (List.mem_of_getElem? (i := 21) rfl))) (mvT hZ (hw _ (List.mem_of_getElem? (i := 29) rfl))) (by decide) (backOf (W := 1) (rm6n5 l Z a0 hw [] b_5 kb_5 [(.int (nar .byte (ec0.toInt8.toInt32))), (.int (nar .byte (ec1.toInt8.toInt32))), (.int (nar .byte (ec2.toInt8.toInt32))), (.int (nar .byte (ec3.toInt8.toInt32))), (.int (nar .byte (ec4.toInt8.toInt32)))] T5.heap n0 Z5 B5_1) hZ (hw _ (List.mem_of_getElem? (i := 29) rfl)) (hw _ (List.mem_of_getElem? (i := 21) rfl)) (by decide) (by decide)) (g := (mkF m 45 #[.val (.ref tt), .val (.ref a), .val (.int (0 : Int32)), .val (.int (5 : Int32)), .val .null, .val (.ref b_5)] [(.int (5 : Int32)), (.ref b_5), (.ref tt)])) rfl (by rw [hml]; rfl) (argsL := [(.ref b_5), (.int (5 : Int32))]) (rest := [(.ref tt)]) (lenOf pd_2 rfl) rfl (by show 2 * 0 + _ ≤ _; exact Nat.le_of_eq rfl) (hb hby d2_45) (fun _ _ => ⟨rfl, rfl, (by decide : 1 + 0 ≤ _), (by decide : 5 + 0 ≤ _)⟩)
  dsimp only [Pt.U, Pt.locs, Pt.cells, Pt.slots] at X8 l8 y8 z8 st8 hQ8
  subst l8 y8 z8
  obtain ⟨rfl, N8q, e8⟩ := hQ8
  have N8 := Fr.app N5 N8q
  replace G : Gets p e below _ (T8.setTop (mkF m 48 #[.val (.ref tt), .val (.ref a), .val (.int (0 : Int32)), .val (.int (5 : Int32)), .val .null, .val (.ref b_5)] [(.int (0 : Int32)), (.ref tt)])) := fun t k => G t (st8 t k)
  have F9 : Exa Z T5.heap tt "java/lang/String" := (P2.keep K5q)
  have F10 : Fld Z T5.heap tt "java/lang/String" "coder" "B" (.int (0 : Int32)) := (P1.keep K5q nin0)
  obtain ⟨T11, h11, X11, e11, W11, st11⟩ := putFN X8 hx hZ hown (hw _ (List.mem_of_getElem? (i := 30) rfl)) Via.refl e8 F10 F9 (Or.inr ⟨(hw _ (List.mem_of_getElem? (i := 31) rfl)), rfl, hnm⟩) (hw _ (List.mem_of_getElem? (i := 6) rfl)) (ty := .byte) (v' := (.int (0 : Int32))) (by decide) rfl (by first | rfl | decide) (g := (mkF m 48 #[.val (.ref tt), .val (.ref a), .val (.int (0 : Int32)), .val (.int (5 : Int32)), .val .null, .val (.ref b_5)] [(.int (0 : Int32)), (.ref tt)])) rfl rfl (hb hby d2_48)
  have N11 := Fr.snoc X11 N8 P3
  have Z11 : n0 ≤ h11.size := Nat.le_trans Z5 (Keep.of_wr W11).1
  have K11 : Keep h0 h11 [tt] := K5.wr W11 (Or.inl (List.mem_of_getElem? (i := 0) rfl))
  have F11 : Fld Z h11 tt "java/lang/String" "coder" "B" (.int (0 : Int32)) := F10.same W11
  replace G : Gets p e below _ (T11.setTop (mkF m 51 #[.val (.ref tt), .val (.ref a), .val (.int (0 : Int32)), .val (.int (5 : Int32)), .val .null, .val (.ref b_5)] [])) := fun t k => G t (st11 t k)
  replace G := own_aloadN (q := 52) G X11.here hx (hb hby d2_51) rfl rfl rfl
  replace G := own_aload (q := 54) G X11.here hx (hb hby d2_52) rfl rfl rfl
  have F12 : Exa Z h11 tt "java/lang/String" := (F9.wr W11)
  have F13 : Fld Z h11 tt "java/lang/String" "value" "[B" .null := ((P0.keep K5q nin0).other W11 (Or.inr (slot_ne (Or.inr (hw _ (List.mem_of_getElem? (i := 33) rfl))) (Or.inr (hw _ (List.mem_of_getElem? (i := 31) rfl))) (by decide) (t := (.array .byte)) (t' := .byte) (by decide) (by decide))))
  obtain ⟨T14, h14, X14, e14, W14, st14⟩ := putF X11 hx hZ hown (host := "") (Or.inl (hw _ (List.mem_of_getElem? (i := 32) rfl))) Via.refl e11 F13 F12 (Or.inr ⟨(hw _ (List.mem_of_getElem? (i := 33) rfl)), rfl, hnm⟩) (hw _ (List.mem_of_getElem? (i := 6) rfl)) (ty := (.array .byte)) (by decide) rfl rfl (g := (mkF m 54 #[.val (.ref tt), .val (.ref a), .val (.int (0 : Int32)), .val (.int (5 : Int32)), .val .null, .val (.ref b_5)] [(.ref b_5), (.ref tt)])) rfl rfl (hb hby d2_54)
  have N14 := Fr.snoc X14 N11 P3
  have Z14 : n0 ≤ h14.size := Nat.le_trans Z11 (Keep.of_wr W14).1
  have K14 : Keep h0 h14 [tt] := K11.wr W14 (Or.inl (List.mem_of_getElem? (i := 0) rfl))
  have F14 : Fld Z h14 tt "java/lang/String" "value" "[B" (.ref b_5) := F13.same W14
  replace G : Gets p e below _ (T14.setTop (mkF m 57 #[.val (.ref tt), .val (.ref a), .val (.int (0 : Int32)), .val (.int (5 : Int32)), .val .null, .val (.ref b_5)] [])) := fun t k => G t (st14 t k)
  obtain ⟨fs, hr, hrun, hended, hW, hsame⟩ := X14.leave (v := none) (fun _ => rfl)
  refine ⟨_, _, G _ (X14.returnOut hx Bd.returns (hb hby d2_57) hr), hrun, hended, _, _, rfl, ?_, ⟨_, rfl⟩, hW, hsame.mono (by decide) (by decide)⟩
  have F15 : Fld Z h14 tt "java/lang/String" "coder" "B" (.int (0 : Int32)) := (F11.other W14 (Or.inr (slot_ne (Or.inr (hw _ (List.mem_of_getElem? (i := 31) rfl))) (Or.inr (hw _ (List.mem_of_getElem? (i := 33) rfl))) (by decide) (t := .byte) (t' := (.array .byte)) (by decide) (by decide))))
  have F16 : Arv Z h14 b_5 kb_5 .byte (5 : Int32) [(.int (nar .byte (ec0.toInt8.toInt32))), (.int (nar .byte (ec1.toInt8.toInt32))), (.int (nar .byte (ec2.toInt8.toInt32))), (.int (nar .byte (ec3.toInt8.toInt32))), (.int (nar .byte (ec4.toInt8.toInt32)))] (.int (0 : Int32)) := ((B5_1.other W11 (Ne.symm ne6)).other W14 (Ne.symm ne6))
  show Q2n5 Z tt a ks cw ec0 ec1 ec2 ec3 ec4 h0 n0 _ T14.heap _
  rw [e14]
  exact ⟨b_5, kb_5, rfl, N14, K14, F14, F15, sz_b_5, F16⟩
theorem ef_1n5 (m : MethodId) (x0 : Addr) (x1 : Addr) : entryFrame m #[(.ref x0), (.ref x1)] 2 = mkF m 0 #[.val (.ref x0), .val (.ref x1)] [] := by first | (simp [entryFrame, mkF, argsToLocals, Value.category]; done) | rfl
def Q1n5 (Z : State) (tt : Addr) (a : Addr) (ks : ClassId) (cw : Int32) (ec0 : Int32) (ec1 : Int32) (ec2 : Int32) (ec3 : Int32) (ec4 : Int32) (h0 : Heap) (n0 : Nat) (v : Option Value) (h : Heap) (L : List Loc) : Prop := ∃ (b : Addr) (kb : ClassId), v = none ∧ Fr n0 L ∧ Keep h0 h [tt] ∧ (Fld Z h tt "java/lang/String" "value" "[B" (.ref b)) ∧ (Fld Z h tt "java/lang/String" "coder" "B" (.int (0 : Int32))) ∧ h0.size ≤ b ∧ (Arv Z h b kb .byte (5 : Int32) [(.int (nar .byte (ec0.toInt8.toInt32))), (.int (nar .byte (ec1.toInt8.toInt32))), (.int (nar .byte (ec2.toInt8.toInt32))), (.int (nar .byte (ec3.toInt8.toInt32))), (.int (nar .byte (ec4.toInt8.toInt32)))] (.int (0 : Int32)))
set_option maxRecDepth 65536 in
set_option maxHeartbeats 40000000 in
theorem rm1n5 (l : Launch) (Z : State) (a0 : Array Value) (hw : ∀ d ∈ tables_1, d.before a0 Z = true) (ws : List Jvm.Cond) (tt : Addr) (a : Addr) (ks : ClassId) (cw : Int32) (ec0 : Int32) (ec1 : Int32) (ec2 : Int32) (ec3 : Int32) (ec4 : Int32) (h0 : Heap) (n0 : Nat) (Z0 : n0 ≤ h0.size) (P0 : Fld Z h0 tt "java/lang/String" "value" "[B" .null) (P1 : Fld Z h0 tt "java/lang/String" "coder" "B" (.int (0 : Int32))) (P2 : Exa Z h0 tt "java/lang/String") (P3 : n0 ≤ tt) (P4 : Arv Z h0 a ks .char (5 : Int32) [(.int ec0), (.int ec1), (.int ec2), (.int ec3), (.int ec4)] (.int (0 : Int32))) (P5 : Sta Z h0 "java/lang/String" "COMPACT_STRINGS" "Z" (.int cw)) (hcw : ¬ cw = (0 : Int32)) (he0 : ¬ ((255 : Int32) < ec0)) (he1 : ¬ ((255 : Int32) < ec1)) (he2 : ¬ ((255 : Int32) < ec2)) (he3 : ¬ ((255 : Int32) < ec3)) (he4 : ¬ ((255 : Int32) < ec4)) :
    MetFree l (⟨"java/lang/String", "<init>", "([C)V"⟩ : MethodName) (head1 (Jvm.Cond.code (⟨"java/lang/String", "<init>", "([C)V"⟩ : MethodName) jdk_42_method_3_code 2 none :: ws) ({ frames := 3, cells := 1, slots := 5, locals := 52 } : Room)) (fun argz U => argz = #[(.ref tt), (.ref a)] ∧ Z.Warmed39 U.vm ∧ U.heap = h0) (fun _ _ _ _ _ => True) (fun _ U o U' => ∃ v L, o = .returned v ∧ Q1n5 Z tt a ks cw ec0 ec1 ec2 ec3 ec4 h0 n0 v U'.heap L ∧ FrameEnd U o U' L ({ frames := 3, cells := 1, slots := 5, locals := 52 } : Room).cells ({ frames := 3, cells := 1, slots := 5, locals := 52 } : Room).slots) := by
  refine MetFree.of_bodySF (plainFor_of_name pn_java_lang_String) hisR ?_
  intro p e s m args below meth c s₁ Bd hml0 hP hK
  obtain ⟨rfl, hZ, hh⟩ := hP
  have hx := Bd.exec
  have hby := Bd.bytes
  have hml : c.maxLocals = 2 := hml0
  have hown : s.vm.findClass "java/lang/String" = some m.cls := findClass_of_methodNamed Bd.named
  have hnm := (name_of_methodNamed Bd.named Bd.method).1
  have X0 : Stand p l e ({ frames := 3, cells := 1, slots := 5, locals := 52 } : Room) s m #[(.ref tt), (.ref a)] below meth c s₁ [] 0 0 := Stand.of_body Bd
  have e0 : s₁.heap = h0 := by rw [← hh, Bd.state]; rfl
  have N0 := Fr.nil n0
  have K0 : Keep h0 h0 [tt] := Keep.refl _ _
  have G : Gets p e below (s₁.setTop (entryFrame m #[(.ref tt), (.ref a)] 2)) (s₁.setTop (mkF m 0 #[.val (.ref tt), .val (.ref a)] [])) := fun t k => castTop (ef_1n5 m tt a) k
  replace G := own_aloadN (q := 1) G X0.here hx (hb hby d1_0) rfl rfl rfl
  replace G := own_aloadN (q := 2) G X0.here hx (hb hby d1_1) rfl rfl rfl
  replace G := own_iconst (q := 3) G X0.here hx (hb hby d1_2) (v := (0 : Int32)) (by decide) rfl
  replace G := own_aloadN (q := 4) G X0.here hx (hb hby d1_3) rfl rfl rfl
  obtain ⟨c1, Ar1, -, S1, N1', -, -⟩ := id P4
  replace G : Gets p e below _ (s₁.setTop (mkF m 5 #[.val (.ref tt), .val (.ref a)] [(.int (5 : Int32)), (.int (0 : Int32)), (.ref a), (.ref tt)])) := fun t k => G t (X0.arraylength hx (by rw [e0]; exact Ar1.1) (State.isArrayOf_alike hZ.alike Ar1.2.1) (g := (mkF m 4 #[.val (.ref tt), .val (.ref a)] [(.ref a), (.int (0 : Int32)), (.ref a), (.ref tt)])) rfl rfl (hb hby d1_4) t (by rw [len_of S1 N1']; exact k))
  replace G := own_aconst_null (q := 6) G X0.here hx (hb hby d1_5) rfl
  obtain ⟨_, _, ⟨T2, L2, kk2, nn2⟩, -, X2, ⟨Lc2, hQ2, l2, y2, z2⟩, st2⟩ := X0.specialBack hx (y := (⟨"java/lang/String", "<init>", "([CIILjava/lang/Void;)V"⟩ : MethodName)) rfl hown (mvT hZ (hw _ (List.mem_of_getElem? (i := 11) rfl))) (mvT hZ (hw _ (List.mem_of_getElem? (i := 12) rfl))) (mvT hZ (hw _ (List.mem_of_getElem? (i := 14) rfl))) (by decide) (backOf (W := 0) (rm2n5 l Z a0 hw [] tt a ks cw ec0 ec1 ec2 ec3 ec4 h0 n0 Z0 P0 P1 P2 P3 P4 P5 hcw he0 he1 he2 he3 he4) hZ (hw _ (List.mem_of_getElem? (i := 14) rfl)) (hw _ (List.mem_of_getElem? (i := 7) rfl)) (by decide) (by decide)) (g := (mkF m 6 #[.val (.ref tt), .val (.ref a)] [.null, (.int (5 : Int32)), (.int (0 : Int32)), (.ref a), (.ref tt)])) rfl (by rw [hml]; rfl) (Steps.refl _) (a := tt) (argsL := [(.ref a), (.int (0 : Int32)), (.int (5 : Int32)), .null]) (rest := []) (lenOf pd_3 rfl) rfl (by show 2 * 0 + _ ≤ _; exact Nat.le_of_eq rfl) (hb hby d1_6) (fun _ _ => ⟨rfl, e0, (by decide : 0 + 1 ≤ _), (by decide : 0 + 5 ≤ _)⟩)
  dsimp only [Pt.U, Pt.locs, Pt.cells, Pt.slots] at X2 l2 y2 z2 st2 hQ2
  subst l2 y2 z2
  obtain ⟨b_2, kb_2, rfl, N2q, K2q, B2_0, B2_1, B2_2, B2_3⟩ := hQ2
  have ne3 : tt ≠ b_2 := Nat.ne_of_lt (Nat.lt_of_lt_of_le P0.lt B2_2)
  have ne4 : a ≠ b_2 := Nat.ne_of_lt (Nat.lt_of_lt_of_le P4.lt B2_2)
  have ge_b_2 : n0 ≤ b_2 := Nat.le_trans Z0 B2_2
  have sz_b_2 : h0.size ≤ b_2 := Nat.le_trans K0.1 B2_2
  have Z2 : n0 ≤ T2.heap.size := Nat.le_trans Z0 K2q.1
  have K2 : Keep h0 T2.heap [tt] := K0.trans K2q (allS (Or.inl (List.mem_of_getElem? (i := 0) rfl)) all0)
  have N2 := Fr.app N0 N2q
  replace G : Gets p e below _ (T2.setTop (mkF m 9 #[.val (.ref tt), .val (.ref a)] [])) := fun t k => G t (st2.trans k)
  obtain ⟨fs, hr, hrun, hended, hW, hsame⟩ := X2.leave (v := none) (fun _ => rfl)
  refine ⟨_, _, G _ (X2.returnOut hx Bd.returns (hb hby d1_9) hr), hrun, hended, _, _, rfl, ?_, ⟨_, rfl⟩, hW, hsame.mono (by decide) (by decide)⟩
  show Q1n5 Z tt a ks cw ec0 ec1 ec2 ec3 ec4 h0 n0 _ T2.heap _
  exact ⟨b_2, kb_2, rfl, N2, K2, B2_0, B2_1, sz_b_2, B2_3⟩
theorem d8_0 : decode jdk_31_method_11_code 0 = .ok (.aload_n 0, 1) := by decide +kernel
theorem d8_1 : decode jdk_31_method_11_code 1 = .ok (.ifnonnull 12, 3) := by decide +kernel
theorem d8_13 : decode jdk_31_method_11_code 13 = .ok (.aload_n 0, 1) := by decide +kernel
theorem d8_14 : decode jdk_31_method_11_code 14 = .ok (.areturn, 1) := by decide +kernel
theorem pn_java_util_Objects : plainName "java/util/Objects" = true := by first | (simp [plainName, overriddenIn]; done) | decide +kernel
theorem ef_8 (m : MethodId) (x0 : Addr) (x1 : Addr) : entryFrame m #[(.ref x0), (.ref x1)] 2 = mkF m 0 #[.val (.ref x0), .val (.ref x1)] [] := by first | (simp [entryFrame, mkF, argsToLocals, Value.category]; done) | rfl
def Q8 (Z : State) (a : Addr) (d : Addr) (h0 : Heap) (n0 : Nat) (v : Option Value) (h : Heap) (L : List Loc) : Prop := v = some (.ref a) ∧ Fr n0 L ∧ h = h0
set_option maxRecDepth 65536 in
set_option maxHeartbeats 40000000 in
theorem rm8 (l : Launch) (Z : State) (a0 : Array Value) (hw : ∀ d ∈ tables_1, d.before a0 Z = true) (ws : List Jvm.Cond) (a : Addr) (d : Addr) (h0 : Heap) (n0 : Nat) (Z0 : n0 ≤ h0.size)  :
    MetFree l (⟨"java/util/Objects", "requireNonNull", "(Ljava/lang/Object;Ljava/lang/String;)Ljava/lang/Object;"⟩ : MethodName) (head1 (Jvm.Cond.code (⟨"java/util/Objects", "requireNonNull", "(Ljava/lang/Object;Ljava/lang/String;)Ljava/lang/Object;"⟩ : MethodName) jdk_31_method_11_code 2 (some (.object "java/lang/Object")) :: ws) ({ frames := 0, cells := 0, slots := 0, locals := 0 } : Room)) (fun argz U => argz = #[(.ref a), (.ref d)] ∧ Z.Warmed39 U.vm ∧ U.heap = h0) (fun _ _ _ _ _ => True) (fun _ U o U' => ∃ v L, o = .returned v ∧ Q8 Z a d h0 n0 v U'.heap L ∧ FrameEnd U o U' L ({ frames := 0, cells := 0, slots := 0, locals := 0 } : Room).cells ({ frames := 0, cells := 0, slots := 0, locals := 0 } : Room).slots) := by
  refine MetFree.of_bodySF (plainFor_of_name pn_java_util_Objects) hisR ?_
  intro p e s m args below meth c s₁ Bd hml0 hP hK
  obtain ⟨rfl, hZ, hh⟩ := hP
  have hx := Bd.exec
  have hby := Bd.bytes
  have hml : c.maxLocals = 2 := hml0
  have hown : s.vm.findClass "java/util/Objects" = some m.cls := findClass_of_methodNamed Bd.named
  have hnm := (name_of_methodNamed Bd.named Bd.method).1
  have X0 : Stand p l e ({ frames := 0, cells := 0, slots := 0, locals := 0 } : Room) s m #[(.ref a), (.ref d)] below meth c s₁ [] 0 0 := Stand.of_body Bd
  have e0 : s₁.heap = h0 := by rw [← hh, Bd.state]; rfl
  have N0 := Fr.nil n0
  have G : Gets p e below (s₁.setTop (entryFrame m #[(.ref a), (.ref d)] 2)) (s₁.setTop (mkF m 0 #[.val (.ref a), .val (.ref d)] [])) := fun t k => castTop (ef_8 m a d) k
  replace G := own_aloadN (q := 1) G X0.here hx (hb hby d8_0) rfl rfl rfl
  replace G := own_ifnonnullYes (q := 13) G X0.here hx (hb hby d8_1) (by decide) (by decide)
  replace G := own_aloadN (q := 14) G X0.here hx (hb hby d8_13) rfl rfl rfl
  obtain ⟨fs, hr, hrun, hended, hW, hsame⟩ := X0.leave (v := some (.ref a)) (fun h => by rw [Bd.returns] at h; cases h)
  refine ⟨_, _, G _ (retOut X0 hx Bd.returns rfl (Or.inr (Or.inr (Or.inr (Or.inr ⟨rfl, rfl, rfl⟩)))) (hb hby d8_14) hr), hrun, hended, _, _, rfl, ?_, ⟨_, rfl⟩, hW, hsame.mono (by decide) (by decide)⟩
  show Q8 Z a d h0 n0 _ s₁.heap _
  rw [e0]
  exact ⟨rfl, N0, rfl⟩
theorem d9_0 : decode prog_4_method_1_code 0 = .ok (.getstatic 13, 3) := by decide +kernel
theorem d9_3 : decode prog_4_method_1_code 3 = .ok (.invokevirtual 17, 3) := by decide +kernel
theorem d9_6 : decode prog_4_method_1_code 6 = .ok (.checkcast 18, 3) := by decide +kernel
theorem d9_9 : decode prog_4_method_1_code 9 = .ok (.areturn, 1) := by decide +kernel
theorem pn_com_example_cheapside_cheapside_core_Granularity : plainName "com/example/cheapside/cheapside/core/Granularity" = true := by first | (simp [plainName, overriddenIn]; done) | decide +kernel
theorem ef_9 (m : MethodId)  : entryFrame m #[] 0 = mkF m 0 #[] [] := by first | (simp [entryFrame, mkF, argsToLocals, Value.category]; done) | rfl
def Q9 (Z : State) (va : Addr) (kv : ClassId) (aH : Addr) (aD : Addr) (aT : Addr) (h0 : Heap) (n0 : Nat) (v : Option Value) (h : Heap) (L : List Loc) : Prop := ∃ (b : Addr), v = some (.ref b) ∧ Fr n0 L ∧ Keep h0 h [] ∧ h0.size ≤ b ∧ (Arv Z h b kv (.object "com/example/cheapside/cheapside/core/Granularity") (3 : Int32) [(.ref aH), (.ref aD), (.ref aT)] .null)
set_option maxRecDepth 65536 in
set_option maxHeartbeats 40000000 in
theorem rm9 (l : Launch) (Z : State) (a0 : Array Value) (hw : ∀ d ∈ tables_1, d.before a0 Z = true) (ws : List Jvm.Cond) (va : Addr) (kv : ClassId) (aH : Addr) (aD : Addr) (aT : Addr) (h0 : Heap) (n0 : Nat) (Z0 : n0 ≤ h0.size) (P0 : Sta Z h0 "com/example/cheapside/cheapside/core/Granularity" "$VALUES" "[Lcom/example/cheapside/cheapside/core/Granularity;" (.ref va)) (P1 : Exa Z h0 va "[Lcom/example/cheapside/cheapside/core/Granularity;") (P2 : Arv Z h0 va kv (.object "com/example/cheapside/cheapside/core/Granularity") (3 : Int32) [(.ref aH), (.ref aD), (.ref aT)] .null) :
    MetFree l (⟨"com/example/cheapside/cheapside/core/Granularity", "values", "()[Lcom/example/cheapside/cheapside/core/Granularity;"⟩ : MethodName) (head1 (Jvm.Cond.code (⟨"com/example/cheapside/cheapside/core/Granularity", "values", "()[Lcom/example/cheapside/cheapside/core/Granularity;"⟩ : MethodName) prog_4_method_1_code 0 (some (.array (.object "com/example/cheapside/cheapside/core/Granularity"))) :: ws) ({ frames := 1, cells := 1, slots := 3, locals := 14 } : Room)) (fun argz U => argz = #[] ∧ Z.Warmed39 U.vm ∧ U.heap = h0) (fun _ _ _ _ _ => True) (fun _ U o U' => ∃ v L, o = .returned v ∧ Q9 Z va kv aH aD aT h0 n0 v U'.heap L ∧ FrameEnd U o U' L ({ frames := 1, cells := 1, slots := 3, locals := 14 } : Room).cells ({ frames := 1, cells := 1, slots := 3, locals := 14 } : Room).slots) := by
  refine MetFree.of_bodySF (plainFor_of_name pn_com_example_cheapside_cheapside_core_Granularity) hisR ?_
  intro p e s m args below meth c s₁ Bd hml0 hP hK
  obtain ⟨rfl, hZ, hh⟩ := hP
  have hx := Bd.exec
  have hby := Bd.bytes
  have hml : c.maxLocals = 0 := hml0
  have hown : s.vm.findClass "com/example/cheapside/cheapside/core/Granularity" = some m.cls := findClass_of_methodNamed Bd.named
  have hnm := (name_of_methodNamed Bd.named Bd.method).1
  have X0 : Stand p l e ({ frames := 1, cells := 1, slots := 3, locals := 14 } : Room) s m #[] below meth c s₁ [] 0 0 := Stand.of_body Bd
  have e0 : s₁.heap = h0 := by rw [← hh, Bd.state]; rfl
  have N0 := Fr.nil n0
  have K0 : Keep h0 h0 [] := Keep.refl _ _
  have G : Gets p e below (s₁.setTop (entryFrame m #[] 0)) (s₁.setTop (mkF m 0 #[] [])) := fun t k => castTop (ef_9 m ) k
  obtain ⟨T1, X1, e1, st1⟩ := getS2 X0 hx hZ hown (host := "") (Or.inl (hw _ (List.mem_of_getElem? (i := 47) rfl))) Via.refl e0 P0 (g := (mkF m 0 #[] [])) rfl (hb hby d9_0)
  replace G : Gets p e below _ (T1.setTop (mkF m 3 #[] [(.ref va)])) := fun t k => G t (st1 t k)
  obtain ⟨T2, h2, X2, e2, E2, V2', A2, st2⟩ := cloneH X1 hx hZ hown (hw _ (List.mem_of_getElem? (i := 49) rfl)) (hw _ (List.mem_of_getElem? (i := 50) rfl)) (hw _ (List.mem_of_getElem? (i := 54) rfl)) (hw _ (List.mem_of_getElem? (i := 52) rfl)) (hw _ (List.mem_of_getElem? (i := 53) rfl)) (hw _ (List.mem_of_getElem? (i := 55) rfl)) e1 (Arv.arh P2) P1 (g := (mkF m 3 #[] [(.ref va)])) rfl (by rw [hml]; rfl) rfl (hb hby d9_3) (by decide) (W := 0) (cap := 3) (by show 2 * 0 + _ ≤ _; exact Nat.le_of_eq rfl) (by decide) (by decide) (by decide) (by decide)
  obtain ⟨b2, g2⟩ : ∃ z, z = h0.size := ⟨_, rfl⟩
  rw [← g2] at A2 V2' st2
  have ne3 : va ≠ b2 := Nat.ne_of_lt (Nat.lt_of_lt_of_le P1.lt (Nat.le_of_eq g2.symm))
  have ge_b2 : n0 ≤ b2 := Nat.le_trans Z0 (Nat.le_of_eq g2.symm)
  have sz_b2 : h0.size ≤ b2 := Nat.le_trans K0.1 (Nat.le_of_eq g2.symm)
  have Z2 : n0 ≤ h2.size := Nat.le_trans Z0 E2.1
  have K2 : Keep h0 h2 [] := K0.ext E2
  have V2 : Arv Z h2 b2 kv (.object "com/example/cheapside/cheapside/core/Granularity") (3 : Int32) [(.ref aH), (.ref aD), (.ref aT)] .null := V2'
  replace G : Gets p e below _ (T2.setTop (mkF m 6 #[] [(.ref b2)])) := fun t k => G t (st2 t k)
  obtain ⟨T4, X4, e4, st4⟩ := castY X2 hx hZ hown (hw _ (List.mem_of_getElem? (i := 59) rfl)) e2 (Ins.self A2) (g := (mkF m 6 #[] [(.ref b2)])) rfl rfl (hb hby d9_6)
  replace G : Gets p e below _ (T4.setTop (mkF m 9 #[] [(.ref b2)])) := fun t k => G t (st4 t k)
  obtain ⟨fs, hr, hrun, hended, hW, hsame⟩ := X4.leave (v := some (.ref b2)) (fun h => by rw [Bd.returns] at h; cases h)
  refine ⟨_, _, G _ (retOut X4 hx Bd.returns rfl (Or.inr (Or.inr (Or.inr (Or.inr ⟨rfl, rfl, rfl⟩)))) (hb hby d9_9) hr), hrun, hended, _, _, rfl, ?_, ⟨_, rfl⟩, hW, hsame.mono (by decide) (by decide)⟩
  show Q9 Z va kv aH aD aT h0 n0 _ T4.heap _
  rw [e4]
  exact ⟨b2, rfl, N0, K2, sz_b2, V2⟩
theorem d11_0 : decode jdk_43_method_13_code 0 = .ok (.aload_n 0, 1) := by decide +kernel
theorem d11_1 : decode jdk_43_method_13_code 1 = .ok (.arraylength, 1) := by decide +kernel
theorem d11_2 : decode jdk_43_method_13_code 2 = .ok (.aload_n 1, 1) := by decide +kernel
theorem d11_3 : decode jdk_43_method_13_code 3 = .ok (.arraylength, 1) := by decide +kernel
theorem d11_4 : decode jdk_43_method_13_code 4 = .ok (.if_icmp .ne 30, 3) := by decide +kernel
theorem d11_7 : decode jdk_43_method_13_code 7 = .ok (.iconst 0, 1) := by decide +kernel
theorem d11_8 : decode jdk_43_method_13_code 8 = .ok (.istore_n 2, 1) := by decide +kernel
theorem d11_9 : decode jdk_43_method_13_code 9 = .ok (.iload_n 2, 1) := by decide +kernel
theorem d11_10 : decode jdk_43_method_13_code 10 = .ok (.aload_n 0, 1) := by decide +kernel
theorem d11_11 : decode jdk_43_method_13_code 11 = .ok (.arraylength, 1) := by decide +kernel
theorem d11_12 : decode jdk_43_method_13_code 12 = .ok (.if_icmp .ge 20, 3) := by decide +kernel
theorem d11_15 : decode jdk_43_method_13_code 15 = .ok (.aload_n 0, 1) := by decide +kernel
theorem d11_16 : decode jdk_43_method_13_code 16 = .ok (.iload_n 2, 1) := by decide +kernel
theorem d11_17 : decode jdk_43_method_13_code 17 = .ok (.baload, 1) := by decide +kernel
theorem d11_18 : decode jdk_43_method_13_code 18 = .ok (.aload_n 1, 1) := by decide +kernel
theorem d11_19 : decode jdk_43_method_13_code 19 = .ok (.iload_n 2, 1) := by decide +kernel
theorem d11_20 : decode jdk_43_method_13_code 20 = .ok (.baload, 1) := by decide +kernel
theorem d11_21 : decode jdk_43_method_13_code 21 = .ok (.if_icmp .eq 5, 3) := by decide +kernel
theorem d11_26 : decode jdk_43_method_13_code 26 = .ok (.iinc 2 1, 3) := by decide +kernel
theorem d11_29 : decode jdk_43_method_13_code 29 = .ok (.goto (-20), 3) := by decide +kernel
theorem d11_32 : decode jdk_43_method_13_code 32 = .ok (.iconst 1, 1) := by decide +kernel
theorem d11_33 : decode jdk_43_method_13_code 33 = .ok (.ireturn, 1) := by decide +kernel
theorem pn_java_lang_StringLatin1 : plainName "java/lang/StringLatin1" = true := by first | (simp [plainName, overriddenIn]; done) | decide +kernel
theorem ef_11i0k0 (m : MethodId) (x0 : Addr) (x1 : Addr) : entryFrame m #[(.ref x0), (.ref x1)] 3 = mkF m 0 #[.val (.ref x0), .val (.ref x1), .unset] [] := by first | (simp [entryFrame, mkF, argsToLocals, Value.category]; done) | rfl
def Q11i0k0 (Z : State) (a : Addr) (d : Addr) (k1 : ClassId) (k2 : ClassId) (h0 : Heap) (n0 : Nat) (v : Option Value) (h : Heap) (L : List Loc) : Prop := v = some (.int (1 : Int32)) ∧ Fr n0 L ∧ h = h0
set_option maxRecDepth 65536 in
set_option maxHeartbeats 40000000 in
theorem rm11i0k0 (l : Launch) (Z : State) (a0 : Array Value) (hw : ∀ d ∈ tables_1, d.before a0 Z = true) (ws : List Jvm.Cond) (a : Addr) (d : Addr) (k1 : ClassId) (k2 : ClassId) (h0 : Heap) (n0 : Nat) (Z0 : n0 ≤ h0.size) (P0 : Arv Z h0 a k1 .byte (4 : Int32) [(.int (104 : Int32)), (.int (111 : Int32)), (.int (117 : Int32)), (.int (114 : Int32))] (.int (0 : Int32))) (P1 : Arv Z h0 d k2 .byte (4 : Int32) [(.int (nar .byte ((104 : Int32).toInt8.toInt32))), (.int (nar .byte ((111 : Int32).toInt8.toInt32))), (.int (nar .byte ((117 : Int32).toInt8.toInt32))), (.int (nar .byte ((114 : Int32).toInt8.toInt32)))] (.int (0 : Int32))) :
    MetFree l (⟨"java/lang/StringLatin1", "equals", "([B[B)Z"⟩ : MethodName) (head1 (Jvm.Cond.code (⟨"java/lang/StringLatin1", "equals", "([B[B)Z"⟩ : MethodName) jdk_43_method_13_code 3 (some .boolean) :: ws) ({ frames := 0, cells := 0, slots := 0, locals := 0 } : Room)) (fun argz U => argz = #[(.ref a), (.ref d)] ∧ Z.Warmed39 U.vm ∧ U.heap = h0) (fun _ _ _ _ _ => True) (fun _ U o U' => ∃ v L, o = .returned v ∧ Q11i0k0 Z a d k1 k2 h0 n0 v U'.heap L ∧ FrameEnd U o U' L ({ frames := 0, cells := 0, slots := 0, locals := 0 } : Room).cells ({ frames := 0, cells := 0, slots := 0, locals := 0 } : Room).slots) := by
  refine MetFree.of_bodySF (plainFor_of_name pn_java_lang_StringLatin1) hisR ?_
  intro p e s m args below meth c s₁ Bd hml0 hP hK
  obtain ⟨rfl, hZ, hh⟩ := hP
  have hx := Bd.exec
  have hby := Bd.bytes
  have hml : c.maxLocals = 3 := hml0
  have hown : s.vm.findClass "java/lang/StringLatin1" = some m.cls := findClass_of_methodNamed Bd.named
  have hnm := (name_of_methodNamed Bd.named Bd.method).1
  have X0 : Stand p l e ({ frames := 0, cells := 0, slots := 0, locals := 0 } : Room) s m #[(.ref a), (.ref d)] below meth c s₁ [] 0 0 := Stand.of_body Bd
  have e0 : s₁.heap = h0 := by rw [← hh, Bd.state]; rfl
  have N0 := Fr.nil n0
  have G : Gets p e below (s₁.setTop (entryFrame m #[(.ref a), (.ref d)] 3)) (s₁.setTop (mkF m 0 #[.val (.ref a), .val (.ref d), .unset] [])) := fun t k => castTop (ef_11i0k0 m a d) k
  replace G := own_aloadN (q := 1) G X0.here hx (hb hby d11_0) rfl rfl rfl
  obtain ⟨c1, Ar1, -, S1, N1', -, -⟩ := id P0
  replace G : Gets p e below _ (s₁.setTop (mkF m 2 #[.val (.ref a), .val (.ref d), .unset] [(.int (4 : Int32))])) := fun t k => G t (X0.arraylength hx (by rw [e0]; exact Ar1.1) (State.isArrayOf_alike hZ.alike Ar1.2.1) (g := (mkF m 1 #[.val (.ref a), .val (.ref d), .unset] [(.ref a)])) rfl rfl (hb hby d11_1) t (by rw [len_of S1 N1']; exact k))
  replace G := own_aloadN (q := 3) G X0.here hx (hb hby d11_2) rfl rfl rfl
  obtain ⟨c2, Ar2, -, S2, N2', -, -⟩ := id P1
  replace G : Gets p e below _ (s₁.setTop (mkF m 4 #[.val (.ref a), .val (.ref d), .unset] [(.int (4 : Int32)), (.int (4 : Int32))])) := fun t k => G t (X0.arraylength hx (by rw [e0]; exact Ar2.1) (State.isArrayOf_alike hZ.alike Ar2.2.1) (g := (mkF m 3 #[.val (.ref a), .val (.ref d), .unset] [(.ref d), (.int (4 : Int32))])) rfl rfl (hb hby d11_3) t (by rw [len_of S2 N2']; exact k))
  have hc4_3 : (4 : Int32) = (4 : Int32) := by decide
  replace G := own_icmpNo (q := 7) G X0.here hx (hb hby d11_4) (teq hc4_3).2 rfl
  replace G := own_iconst (q := 8) G X0.here hx (hb hby d11_7) (v := (0 : Int32)) (by decide) rfl
  replace G := own_istoreN (q := 9) (l' := #[.val (.ref a), .val (.ref d), .val (.int (0 : Int32))]) G X0.here hx (hb hby d11_8) rfl rfl
  replace G := own_iloadN (q := 10) G X0.here hx (hb hby d11_9) rfl rfl
  replace G := own_aloadN (q := 11) G X0.here hx (hb hby d11_10) rfl rfl rfl
  obtain ⟨c4, Ar4, -, S4, N4', -, -⟩ := id P0
  replace G : Gets p e below _ (s₁.setTop (mkF m 12 #[.val (.ref a), .val (.ref d), .val (.int (0 : Int32))] [(.int (4 : Int32)), (.int (0 : Int32))])) := fun t k => G t (X0.arraylength hx (by rw [e0]; exact Ar4.1) (State.isArrayOf_alike hZ.alike Ar4.2.1) (g := (mkF m 11 #[.val (.ref a), .val (.ref d), .val (.int (0 : Int32))] [(.ref a), (.int (0 : Int32))])) rfl rfl (hb hby d11_11) t (by rw [len_of S4 N4']; exact k))
  have hc12_5 : (0 : Int32) < (4 : Int32) := by decide
  replace G := own_icmpNo (q := 15) G X0.here hx (hb hby d11_12) (tlt hc12_5).2.1 rfl
  replace G := own_aloadN (q := 16) G X0.here hx (hb hby d11_15) rfl rfl rfl
  replace G := own_iloadN (q := 17) G X0.here hx (hb hby d11_16) rfl rfl
  obtain ⟨c6, Ar6, -, S6, -, H6, -⟩ := id P0
  have hin6 : ¬ ((0 : Int32) < 0 ∨ c6.slots.size ≤ ((0 : Int32)).toNatClampNeg) := inb_of S6 ⟨by decide, by decide⟩
  replace G : Gets p e below _ (s₁.setTop (mkF m 18 #[.val (.ref a), .val (.ref d), .val (.int (0 : Int32))] [(.int (104 : Int32))])) := fun t k => G t (X0.baloadBytes hx (j := (0 : Int32)) (v := (.int (104 : Int32))) (by rw [e0]; exact Ar6.1) (State.isArrayOf_alike hZ.alike Ar6.2.1) Ar6.2.2 hin6 (Has.at H6 hin6 rfl) (g := (mkF m 17 #[.val (.ref a), .val (.ref d), .val (.int (0 : Int32))] [(.int (0 : Int32)), (.ref a)])) rfl rfl (hb hby d11_17) t k)
  replace G := own_aloadN (q := 19) G X0.here hx (hb hby d11_18) rfl rfl rfl
  replace G := own_iloadN (q := 20) G X0.here hx (hb hby d11_19) rfl rfl
  obtain ⟨c7, Ar7, -, S7, -, H7, -⟩ := id P1
  have hin7 : ¬ ((0 : Int32) < 0 ∨ c7.slots.size ≤ ((0 : Int32)).toNatClampNeg) := inb_of S7 ⟨by decide, by decide⟩
  replace G : Gets p e below _ (s₁.setTop (mkF m 21 #[.val (.ref a), .val (.ref d), .val (.int (0 : Int32))] [(.int (nar .byte ((104 : Int32).toInt8.toInt32))), (.int (104 : Int32))])) := fun t k => G t (X0.baloadBytes hx (j := (0 : Int32)) (v := (.int (nar .byte ((104 : Int32).toInt8.toInt32)))) (by rw [e0]; exact Ar7.1) (State.isArrayOf_alike hZ.alike Ar7.2.1) Ar7.2.2 hin7 (Has.at H7 hin7 rfl) (g := (mkF m 20 #[.val (.ref a), .val (.ref d), .val (.int (0 : Int32))] [(.int (0 : Int32)), (.ref d), (.int (104 : Int32))])) rfl rfl (hb hby d11_20) t k)
  have hc21_8 : (104 : Int32) = (nar .byte ((104 : Int32).toInt8.toInt32)) := by decide
  replace G := own_icmpYes (q := 26) G X0.here hx (hb hby d11_21) (teq hc21_8).1 (by decide) (by decide)
  replace G := own_iinc (q := 29) (l' := #[.val (.ref a), .val (.ref d), .val (.int (1 : Int32))]) (w := (1 : Int32)) G X0.here hx (hb hby d11_26) (by decide) rfl (by decide : ((0 : Int32) + (1 : Int32)) = (1 : Int32)) rfl rfl
  replace G := own_goto (q := 9) G X0.here hx (hb hby d11_29) (by decide) (by decide)
  replace G := own_iloadN (q := 10) G X0.here hx (hb hby d11_9) rfl rfl
  replace G := own_aloadN (q := 11) G X0.here hx (hb hby d11_10) rfl rfl rfl
  obtain ⟨c9, Ar9, -, S9, N9', -, -⟩ := id P0
  replace G : Gets p e below _ (s₁.setTop (mkF m 12 #[.val (.ref a), .val (.ref d), .val (.int (1 : Int32))] [(.int (4 : Int32)), (.int (1 : Int32))])) := fun t k => G t (X0.arraylength hx (by rw [e0]; exact Ar9.1) (State.isArrayOf_alike hZ.alike Ar9.2.1) (g := (mkF m 11 #[.val (.ref a), .val (.ref d), .val (.int (1 : Int32))] [(.ref a), (.int (1 : Int32))])) rfl rfl (hb hby d11_11) t (by rw [len_of S9 N9']; exact k))
  have hc12_10 : (1 : Int32) < (4 : Int32) := by decide
  replace G := own_icmpNo (q := 15) G X0.here hx (hb hby d11_12) (tlt hc12_10).2.1 rfl
  replace G := own_aloadN (q := 16) G X0.here hx (hb hby d11_15) rfl rfl rfl
  replace G := own_iloadN (q := 17) G X0.here hx (hb hby d11_16) rfl rfl
  obtain ⟨c11, Ar11, -, S11, -, H11, -⟩ := id P0
  have hin11 : ¬ ((1 : Int32) < 0 ∨ c11.slots.size ≤ ((1 : Int32)).toNatClampNeg) := inb_of S11 ⟨by decide, by decide⟩
  replace G : Gets p e below _ (s₁.setTop (mkF m 18 #[.val (.ref a), .val (.ref d), .val (.int (1 : Int32))] [(.int (111 : Int32))])) := fun t k => G t (X0.baloadBytes hx (j := (1 : Int32)) (v := (.int (111 : Int32))) (by rw [e0]; exact Ar11.1) (State.isArrayOf_alike hZ.alike Ar11.2.1) Ar11.2.2 hin11 (Has.at H11 hin11 rfl) (g := (mkF m 17 #[.val (.ref a), .val (.ref d), .val (.int (1 : Int32))] [(.int (1 : Int32)), (.ref a)])) rfl rfl (hb hby d11_17) t k)
  replace G := own_aloadN (q := 19) G X0.here hx (hb hby d11_18) rfl rfl rfl
  replace G := own_iloadN (q := 20) G X0.here hx (hb hby d11_19) rfl rfl
  obtain ⟨c12, Ar12, -, S12, -, H12, -⟩ := id P1
  have hin12 : ¬ ((1 : Int32) < 0 ∨ c12.slots.size ≤ ((1 : Int32)).toNatClampNeg) := inb_of S12 ⟨by decide, by decide⟩
  replace G : Gets p e below _ (s₁.setTop (mkF m 21 #[.val (.ref a), .val (.ref d), .val (.int (1 : Int32))] [(.int (nar .byte ((111 : Int32).toInt8.toInt32))), (.int (111 : Int32))])) := fun t k => G t (X0.baloadBytes hx (j := (1 : Int32)) (v := (.int (nar .byte ((111 : Int32).toInt8.toInt32)))) (by rw [e0]; exact Ar12.1) (State.isArrayOf_alike hZ.alike Ar12.2.1) Ar12.2.2 hin12 (Has.at H12 hin12 rfl) (g := (mkF m 20 #[.val (.ref a), .val (.ref d), .val (.int (1 : Int32))] [(.int (1 : Int32)), (.ref d), (.int (111 : Int32))])) rfl rfl (hb hby d11_20) t k)
  have hc21_13 : (111 : Int32) = (nar .byte ((111 : Int32).toInt8.toInt32)) := by decide
  replace G := own_icmpYes (q := 26) G X0.here hx (hb hby d11_21) (teq hc21_13).1 (by decide) (by decide)
  replace G := own_iinc (q := 29) (l' := #[.val (.ref a), .val (.ref d), .val (.int (2 : Int32))]) (w := (1 : Int32)) G X0.here hx (hb hby d11_26) (by decide) rfl (by decide : ((1 : Int32) + (1 : Int32)) = (2 : Int32)) rfl rfl
  replace G := own_goto (q := 9) G X0.here hx (hb hby d11_29) (by decide) (by decide)
  replace G := own_iloadN (q := 10) G X0.here hx (hb hby d11_9) rfl rfl
  replace G := own_aloadN (q := 11) G X0.here hx (hb hby d11_10) rfl rfl rfl
  obtain ⟨c14, Ar14, -, S14, N14', -, -⟩ := id P0
  replace G : Gets p e below _ (s₁.setTop (mkF m 12 #[.val (.ref a), .val (.ref d), .val (.int (2 : Int32))] [(.int (4 : Int32)), (.int (2 : Int32))])) := fun t k => G t (X0.arraylength hx (by rw [e0]; exact Ar14.1) (State.isArrayOf_alike hZ.alike Ar14.2.1) (g := (mkF m 11 #[.val (.ref a), .val (.ref d), .val (.int (2 : Int32))] [(.ref a), (.int (2 : Int32))])) rfl rfl (hb hby d11_11) t (by rw [len_of S14 N14']; exact k))
  have hc12_15 : (2 : Int32) < (4 : Int32) := by decide
  replace G := own_icmpNo (q := 15) G X0.here hx (hb hby d11_12) (tlt hc12_15).2.1 rfl
  replace G := own_aloadN (q := 16) G X0.here hx (hb hby d11_15) rfl rfl rfl
  replace G := own_iloadN (q := 17) G X0.here hx (hb hby d11_16) rfl rfl
  obtain ⟨c16, Ar16, -, S16, -, H16, -⟩ := id P0
  have hin16 : ¬ ((2 : Int32) < 0 ∨ c16.slots.size ≤ ((2 : Int32)).toNatClampNeg) := inb_of S16 ⟨by decide, by decide⟩
  replace G : Gets p e below _ (s₁.setTop (mkF m 18 #[.val (.ref a), .val (.ref d), .val (.int (2 : Int32))] [(.int (117 : Int32))])) := fun t k => G t (X0.baloadBytes hx (j := (2 : Int32)) (v := (.int (117 : Int32))) (by rw [e0]; exact Ar16.1) (State.isArrayOf_alike hZ.alike Ar16.2.1) Ar16.2.2 hin16 (Has.at H16 hin16 rfl) (g := (mkF m 17 #[.val (.ref a), .val (.ref d), .val (.int (2 : Int32))] [(.int (2 : Int32)), (.ref a)])) rfl rfl (hb hby d11_17) t k)
  replace G := own_aloadN (q := 19) G X0.here hx (hb hby d11_18) rfl rfl rfl
  replace G := own_iloadN (q := 20) G X0.here hx (hb hby d11_19) rfl rfl
  obtain ⟨c17, Ar17, -, S17, -, H17, -⟩ := id P1
  have hin17 : ¬ ((2 : Int32) < 0 ∨ c17.slots.size ≤ ((2 : Int32)).toNatClampNeg) := inb_of S17 ⟨by decide, by decide⟩
  replace G : Gets p e below _ (s₁.setTop (mkF m 21 #[.val (.ref a), .val (.ref d), .val (.int (2 : Int32))] [(.int (nar .byte ((117 : Int32).toInt8.toInt32))), (.int (117 : Int32))])) := fun t k => G t (X0.baloadBytes hx (j := (2 : Int32)) (v := (.int (nar .byte ((117 : Int32).toInt8.toInt32)))) (by rw [e0]; exact Ar17.1) (State.isArrayOf_alike hZ.alike Ar17.2.1) Ar17.2.2 hin17 (Has.at H17 hin17 rfl) (g := (mkF m 20 #[.val (.ref a), .val (.ref d), .val (.int (2 : Int32))] [(.int (2 : Int32)), (.ref d), (.int (117 : Int32))])) rfl rfl (hb hby d11_20) t k)
  have hc21_18 : (117 : Int32) = (nar .byte ((117 : Int32).toInt8.toInt32)) := by decide
  replace G := own_icmpYes (q := 26) G X0.here hx (hb hby d11_21) (teq hc21_18).1 (by decide) (by decide)
  replace G := own_iinc (q := 29) (l' := #[.val (.ref a), .val (.ref d), .val (.int (3 : Int32))]) (w := (1 : Int32)) G X0.here hx (hb hby d11_26) (by decide) rfl (by decide : ((2 : Int32) + (1 : Int32)) = (3 : Int32)) rfl rfl
  replace G := own_goto (q := 9) G X0.here hx (hb hby d11_29) (by decide) (by decide)
  replace G := own_iloadN (q := 10) G X0.here hx (hb hby d11_9) rfl rfl
  replace G := own_aloadN (q := 11) G X0.here hx (hb hby d11_10) rfl rfl rfl
  obtain ⟨c19, Ar19, -, S19, N19', -, -⟩ := id P0
  replace G : Gets p e below _ (s₁.setTop (mkF m 12 #[.val (.ref a), .val (.ref d), .val (.int (3 : Int32))] [(.int (4 : Int32)), (.int (3 : Int32))])) := fun t k => G t (X0.arraylength hx (by rw [e0]; exact Ar19.1) (State.isArrayOf_alike hZ.alike Ar19.2.1) (g := (mkF m 11 #[.val (.ref a), .val (.ref d), .val (.int (3 : Int32))] [(.ref a), (.int (3 : Int32))])) rfl rfl (hb hby d11_11) t (by rw [len_of S19 N19']; exact k))
  have hc12_20 : (3 : Int32) < (4 : Int32) := by decide
  replace G := own_icmpNo (q := 15) G X0.here hx (hb hby d11_12) (tlt hc12_20).2.1 rfl
  replace G := own_aloadN (q := 16) G X0.here hx (hb hby d11_15) rfl rfl rfl
  replace G := own_iloadN (q := 17) G X0.here hx (hb hby d11_16) rfl rfl
  obtain ⟨c21, Ar21, -, S21, -, H21, -⟩ := id P0
  have hin21 : ¬ ((3 : Int32) < 0 ∨ c21.slots.size ≤ ((3 : Int32)).toNatClampNeg) := inb_of S21 ⟨by decide, by decide⟩
  replace G : Gets p e below _ (s₁.setTop (mkF m 18 #[.val (.ref a), .val (.ref d), .val (.int (3 : Int32))] [(.int (114 : Int32))])) := fun t k => G t (X0.baloadBytes hx (j := (3 : Int32)) (v := (.int (114 : Int32))) (by rw [e0]; exact Ar21.1) (State.isArrayOf_alike hZ.alike Ar21.2.1) Ar21.2.2 hin21 (Has.at H21 hin21 rfl) (g := (mkF m 17 #[.val (.ref a), .val (.ref d), .val (.int (3 : Int32))] [(.int (3 : Int32)), (.ref a)])) rfl rfl (hb hby d11_17) t k)
  replace G := own_aloadN (q := 19) G X0.here hx (hb hby d11_18) rfl rfl rfl
  replace G := own_iloadN (q := 20) G X0.here hx (hb hby d11_19) rfl rfl
  obtain ⟨c22, Ar22, -, S22, -, H22, -⟩ := id P1
  have hin22 : ¬ ((3 : Int32) < 0 ∨ c22.slots.size ≤ ((3 : Int32)).toNatClampNeg) := inb_of S22 ⟨by decide, by decide⟩
  replace G : Gets p e below _ (s₁.setTop (mkF m 21 #[.val (.ref a), .val (.ref d), .val (.int (3 : Int32))] [(.int (nar .byte ((114 : Int32).toInt8.toInt32))), (.int (114 : Int32))])) := fun t k => G t (X0.baloadBytes hx (j := (3 : Int32)) (v := (.int (nar .byte ((114 : Int32).toInt8.toInt32)))) (by rw [e0]; exact Ar22.1) (State.isArrayOf_alike hZ.alike Ar22.2.1) Ar22.2.2 hin22 (Has.at H22 hin22 rfl) (g := (mkF m 20 #[.val (.ref a), .val (.ref d), .val (.int (3 : Int32))] [(.int (3 : Int32)), (.ref d), (.int (114 : Int32))])) rfl rfl (hb hby d11_20) t k)
  have hc21_23 : (114 : Int32) = (nar .byte ((114 : Int32).toInt8.toInt32)) := by decide
  replace G := own_icmpYes (q := 26) G X0.here hx (hb hby d11_21) (teq hc21_23).1 (by decide) (by decide)
  replace G := own_iinc (q := 29) (l' := #[.val (.ref a), .val (.ref d), .val (.int (4 : Int32))]) (w := (1 : Int32)) G X0.here hx (hb hby d11_26) (by decide) rfl (by decide : ((3 : Int32) + (1 : Int32)) = (4 : Int32)) rfl rfl
  replace G := own_goto (q := 9) G X0.here hx (hb hby d11_29) (by decide) (by decide)
  replace G := own_iloadN (q := 10) G X0.here hx (hb hby d11_9) rfl rfl
  replace G := own_aloadN (q := 11) G X0.here hx (hb hby d11_10) rfl rfl rfl
  obtain ⟨c24, Ar24, -, S24, N24', -, -⟩ := id P0
  replace G : Gets p e below _ (s₁.setTop (mkF m 12 #[.val (.ref a), .val (.ref d), .val (.int (4 : Int32))] [(.int (4 : Int32)), (.int (4 : Int32))])) := fun t k => G t (X0.arraylength hx (by rw [e0]; exact Ar24.1) (State.isArrayOf_alike hZ.alike Ar24.2.1) (g := (mkF m 11 #[.val (.ref a), .val (.ref d), .val (.int (4 : Int32))] [(.ref a), (.int (4 : Int32))])) rfl rfl (hb hby d11_11) t (by rw [len_of S24 N24']; exact k))
  have hc12_25 : ¬ ((4 : Int32) < (4 : Int32)) := by decide
  replace G := own_icmpYes (q := 32) G X0.here hx (hb hby d11_12) (flt hc12_25).2.1 (by decide) (by decide)
  replace G := own_iconst (q := 33) G X0.here hx (hb hby d11_32) (v := (1 : Int32)) (by decide) rfl
  obtain ⟨fs, hr, hrun, hended, hW, hsame⟩ := X0.leave (v := some (.int (1 : Int32))) (fun h => by rw [Bd.returns] at h; cases h)
  refine ⟨_, _, G _ (retOut X0 hx Bd.returns rfl (Or.inl ⟨rfl, Or.inr (Or.inl rfl), _, rfl⟩) (hb hby d11_33) hr), hrun, hended, _, _, rfl, ?_, ⟨_, rfl⟩, hW, hsame.mono (by decide) (by decide)⟩
  show Q11i0k0 Z a d k1 k2 h0 n0 _ s₁.heap _
  rw [e0]
  exact ⟨rfl, N0, rfl⟩
theorem pd_4 : parseMethodDescriptor "([B[B)Z" = some ⟨[(.array .byte), (.array .byte)], some .boolean⟩ := by decide +kernel
theorem d10_0 : decode jdk_42_method_66_code 0 = .ok (.aload_n 0, 1) := by decide +kernel
theorem d10_1 : decode jdk_42_method_66_code 1 = .ok (.aload_n 1, 1) := by decide +kernel
theorem d10_2 : decode jdk_42_method_66_code 2 = .ok (.if_acmp .ne 5, 3) := by decide +kernel
theorem d10_7 : decode jdk_42_method_66_code 7 = .ok (.aload_n 1, 1) := by decide +kernel
theorem d10_8 : decode jdk_42_method_66_code 8 = .ok (.instanceof 10, 3) := by decide +kernel
theorem d10_11 : decode jdk_42_method_66_code 11 = .ok (.ifCond .eq 43, 3) := by decide +kernel
theorem d10_14 : decode jdk_42_method_66_code 14 = .ok (.aload_n 1, 1) := by decide +kernel
theorem d10_15 : decode jdk_42_method_66_code 15 = .ok (.checkcast 10, 3) := by decide +kernel
theorem d10_18 : decode jdk_42_method_66_code 18 = .ok (.astore_n 2, 1) := by decide +kernel
theorem d10_19 : decode jdk_42_method_66_code 19 = .ok (.getstatic 38, 3) := by decide +kernel
theorem d10_22 : decode jdk_42_method_66_code 22 = .ok (.ifCond .eq 14, 3) := by decide +kernel
theorem d10_25 : decode jdk_42_method_66_code 25 = .ok (.aload_n 0, 1) := by decide +kernel
theorem d10_26 : decode jdk_42_method_66_code 26 = .ok (.getfield 15, 3) := by decide +kernel
theorem d10_29 : decode jdk_42_method_66_code 29 = .ok (.aload_n 2, 1) := by decide +kernel
theorem d10_30 : decode jdk_42_method_66_code 30 = .ok (.getfield 15, 3) := by decide +kernel
theorem d10_33 : decode jdk_42_method_66_code 33 = .ok (.if_icmp .ne 21, 3) := by decide +kernel
theorem d10_36 : decode jdk_42_method_66_code 36 = .ok (.aload_n 0, 1) := by decide +kernel
theorem d10_37 : decode jdk_42_method_66_code 37 = .ok (.getfield 9, 3) := by decide +kernel
theorem d10_40 : decode jdk_42_method_66_code 40 = .ok (.aload_n 2, 1) := by decide +kernel
theorem d10_41 : decode jdk_42_method_66_code 41 = .ok (.getfield 9, 3) := by decide +kernel
theorem d10_44 : decode jdk_42_method_66_code 44 = .ok (.invokestatic 541, 3) := by decide +kernel
theorem d10_47 : decode jdk_42_method_66_code 47 = .ok (.ifCond .eq 7, 3) := by decide +kernel
theorem d10_50 : decode jdk_42_method_66_code 50 = .ok (.iconst 1, 1) := by decide +kernel
theorem d10_51 : decode jdk_42_method_66_code 51 = .ok (.goto 4, 3) := by decide +kernel
theorem d10_55 : decode jdk_42_method_66_code 55 = .ok (.ireturn, 1) := by decide +kernel
theorem ef_10i0k0 (m : MethodId) (x0 : Addr) (x1 : Addr) : entryFrame m #[(.ref x0), (.ref x1)] 3 = mkF m 0 #[.val (.ref x0), .val (.ref x1), .unset] [] := by first | (simp [entryFrame, mkF, argsToLocals, Value.category]; done) | rfl
def Q10i0k0 (Z : State) (a : Addr) (d : Addr) (x : Addr) (y : Addr) (k1 : ClassId) (k2 : ClassId) (cw : Int32) (h0 : Heap) (n0 : Nat) (v : Option Value) (h : Heap) (L : List Loc) : Prop := v = some (.int (1 : Int32)) ∧ Fr n0 L ∧ h = h0
set_option maxRecDepth 65536 in
set_option maxHeartbeats 40000000 in
theorem rm10i0k0 (l : Launch) (Z : State) (a0 : Array Value) (hw : ∀ d ∈ tables_1, d.before a0 Z = true) (ws : List Jvm.Cond) (a : Addr) (d : Addr) (x : Addr) (y : Addr) (k1 : ClassId) (k2 : ClassId) (cw : Int32) (h0 : Heap) (n0 : Nat) (Z0 : n0 ≤ h0.size) (P0 : Fld Z h0 a "java/lang/String" "coder" "B" (.int (0 : Int32))) (P1 : Fld Z h0 d "java/lang/String" "coder" "B" (.int (0 : Int32))) (P2 : Fld Z h0 a "java/lang/String" "value" "[B" (.ref x)) (P3 : Fld Z h0 d "java/lang/String" "value" "[B" (.ref y)) (P4 : Exa Z h0 d "java/lang/String") (P5 : Arv Z h0 x k1 .byte (4 : Int32) [(.int (104 : Int32)), (.int (111 : Int32)), (.int (117 : Int32)), (.int (114 : Int32))] (.int (0 : Int32))) (P6 : Arv Z h0 y k2 .byte (4 : Int32) [(.int (nar .byte ((104 : Int32).toInt8.toInt32))), (.int (nar .byte ((111 : Int32).toInt8.toInt32))), (.int (nar .byte ((117 : Int32).toInt8.toInt32))), (.int (nar .byte ((114 : Int32).toInt8.toInt32)))] (.int (0 : Int32))) (P7 : Sta Z h0 "java/lang/String" "COMPACT_STRINGS" "Z" (.int cw)) (hcw : ¬ cw = (0 : Int32)) (P9 : a ≠ d) :
    MetFree l (⟨"java/lang/String", "equals", "(Ljava/lang/Object;)Z"⟩ : MethodName) (head1 (Jvm.Cond.code (⟨"java/lang/String", "equals", "(Ljava/lang/Object;)Z"⟩ : MethodName) jdk_42_method_66_code 3 (some .boolean) :: ws) ({ frames := 1, cells := 0, slots := 0, locals := 14 } : Room)) (fun argz U => argz = #[(.ref a), (.ref d)] ∧ Z.Warmed39 U.vm ∧ U.heap = h0) (fun _ _ _ _ _ => True) (fun _ U o U' => ∃ v L, o = .returned v ∧ Q10i0k0 Z a d x y k1 k2 cw h0 n0 v U'.heap L ∧ FrameEnd U o U' L ({ frames := 1, cells := 0, slots := 0, locals := 14 } : Room).cells ({ frames := 1, cells := 0, slots := 0, locals := 14 } : Room).slots) := by
  refine MetFree.of_bodySF (plainFor_of_name pn_java_lang_String) hisR ?_
  intro p e s m args below meth c s₁ Bd hml0 hP hK
  obtain ⟨rfl, hZ, hh⟩ := hP
  have hx := Bd.exec
  have hby := Bd.bytes
  have hml : c.maxLocals = 3 := hml0
  have hown : s.vm.findClass "java/lang/String" = some m.cls := findClass_of_methodNamed Bd.named
  have hnm := (name_of_methodNamed Bd.named Bd.method).1
  have X0 : Stand p l e ({ frames := 1, cells := 0, slots := 0, locals := 14 } : Room) s m #[(.ref a), (.ref d)] below meth c s₁ [] 0 0 := Stand.of_body Bd
  have e0 : s₁.heap = h0 := by rw [← hh, Bd.state]; rfl
  have N0 := Fr.nil n0
  have G : Gets p e below (s₁.setTop (entryFrame m #[(.ref a), (.ref d)] 3)) (s₁.setTop (mkF m 0 #[.val (.ref a), .val (.ref d), .unset] [])) := fun t k => castTop (ef_10i0k0 m a d) k
  replace G := own_aloadN (q := 1) G X0.here hx (hb hby d10_0) rfl rfl rfl
  replace G := own_aloadN (q := 2) G X0.here hx (hb hby d10_1) rfl rfl rfl
  replace G : Gets p e below _ (s₁.setTop (mkF m 7 #[.val (.ref a), .val (.ref d), .unset] [])) := fun t k => G t (Jvm.RoadKit.acmp (g := (mkF m 2 #[.val (.ref a), .val (.ref d), .unset] [(.ref d), (.ref a)])) X0 hx rfl rfl rfl (pc0 := 2) (pc' := 7) (same := false) rfl (hb hby d10_2) rfl (decide_eq_false fun q => P9 (Value.ref.inj q)) (by decide) (by decide) k)
  replace G := own_aloadN (q := 8) G X0.here hx (hb hby d10_7) rfl rfl rfl
  obtain ⟨T1, X1, e1, st1⟩ := instY X0 hx hZ hown (hw _ (List.mem_of_getElem? (i := 68) rfl)) e0 (Ins.self P4) (g := (mkF m 8 #[.val (.ref a), .val (.ref d), .unset] [(.ref d)])) rfl rfl (hb hby d10_8)
  replace G : Gets p e below _ (T1.setTop (mkF m 11 #[.val (.ref a), .val (.ref d), .unset] [(.int (1 : Int32))])) := fun t k => G t (st1 t k)
  have hc11_2 : ¬ ((1 : Int32) = (0 : Int32)) := by decide
  replace G := own_ifNo (q := 14) G X1.here hx (hb hby d10_11) ((if0 _ _).trans (feq hc11_2).1) rfl
  replace G := own_aloadN (q := 15) G X1.here hx (hb hby d10_14) rfl rfl rfl
  obtain ⟨T3, X3, e3, st3⟩ := castY X1 hx hZ hown (hw _ (List.mem_of_getElem? (i := 68) rfl)) e1 (Ins.self P4) (g := (mkF m 15 #[.val (.ref a), .val (.ref d), .unset] [(.ref d)])) rfl rfl (hb hby d10_15)
  replace G : Gets p e below _ (T3.setTop (mkF m 18 #[.val (.ref a), .val (.ref d), .unset] [(.ref d)])) := fun t k => G t (st3 t k)
  replace G := own_astoreN (q := 19) (l' := #[.val (.ref a), .val (.ref d), .val (.ref d)]) G X3.here hx (hb hby d10_18) rfl rfl rfl
  obtain ⟨T4, X4, e4, st4⟩ := getS2 X3 hx hZ hown (host := "") (Or.inl (hw _ (List.mem_of_getElem? (i := 18) rfl))) Via.refl e3 P7 (g := (mkF m 19 #[.val (.ref a), .val (.ref d), .val (.ref d)] [])) rfl (hb hby d10_19)
  replace G : Gets p e below _ (T4.setTop (mkF m 22 #[.val (.ref a), .val (.ref d), .val (.ref d)] [(.int cw)])) := fun t k => G t (st4 t k)
  have hc22_5 : ¬ (cw = (0 : Int32)) := hcw
  replace G := own_ifNo (q := 25) G X4.here hx (hb hby d10_22) ((if0 _ _).trans (feq hc22_5).1) rfl
  replace G := own_aloadN (q := 26) G X4.here hx (hb hby d10_25) rfl rfl rfl
  obtain ⟨T6, X6, e6, st6⟩ := getF X4 hx hZ hown (host := "") (Or.inl (hw _ (List.mem_of_getElem? (i := 30) rfl))) Via.refl e4 P0 (g := (mkF m 26 #[.val (.ref a), .val (.ref d), .val (.ref d)] [(.ref a)])) rfl rfl (hb hby d10_26)
  replace G : Gets p e below _ (T6.setTop (mkF m 29 #[.val (.ref a), .val (.ref d), .val (.ref d)] [(.int (0 : Int32))])) := fun t k => G t (st6 t k)
  replace G := own_aloadN (q := 30) G X6.here hx (hb hby d10_29) rfl rfl rfl
  obtain ⟨T7, X7, e7, st7⟩ := getF X6 hx hZ hown (host := "") (Or.inl (hw _ (List.mem_of_getElem? (i := 30) rfl))) Via.refl e6 P1 (g := (mkF m 30 #[.val (.ref a), .val (.ref d), .val (.ref d)] [(.ref d), (.int (0 : Int32))])) rfl rfl (hb hby d10_30)
  replace G : Gets p e below _ (T7.setTop (mkF m 33 #[.val (.ref a), .val (.ref d), .val (.ref d)] [(.int (0 : Int32)), (.int (0 : Int32))])) := fun t k => G t (st7 t k)
  have hc33_8 : (0 : Int32) = (0 : Int32) := by decide
  replace G := own_icmpNo (q := 36) G X7.here hx (hb hby d10_33) (teq hc33_8).2 rfl
  replace G := own_aloadN (q := 37) G X7.here hx (hb hby d10_36) rfl rfl rfl
  obtain ⟨T9, X9, e9, st9⟩ := getF X7 hx hZ hown (host := "") (Or.inl (hw _ (List.mem_of_getElem? (i := 32) rfl))) Via.refl e7 P2 (g := (mkF m 37 #[.val (.ref a), .val (.ref d), .val (.ref d)] [(.ref a)])) rfl rfl (hb hby d10_37)
  replace G : Gets p e below _ (T9.setTop (mkF m 40 #[.val (.ref a), .val (.ref d), .val (.ref d)] [(.ref x)])) := fun t k => G t (st9 t k)
  replace G := own_aloadN (q := 41) G X9.here hx (hb hby d10_40) rfl rfl rfl
  obtain ⟨T10, X10, e10, st10⟩ := getF X9 hx hZ hown (host := "") (Or.inl (hw _ (List.mem_of_getElem? (i := 32) rfl))) Via.refl e9 P3 (g := (mkF m 41 #[.val (.ref a), .val (.ref d), .val (.ref d)] [(.ref d), (.ref x)])) rfl rfl (hb hby d10_41)
  replace G : Gets p e below _ (T10.setTop (mkF m 44 #[.val (.ref a), .val (.ref d), .val (.ref d)] [(.ref y), (.ref x)])) := fun t k => G t (st10 t k)
  obtain ⟨_, _, ⟨T11, L11, kk11, nn11⟩, -, X11, ⟨Lc11, hQ11, l11, y11, z11⟩, st11⟩ := Jvm.LawKit.callS X10 hx (y := (⟨"java/lang/StringLatin1", "equals", "([B[B)Z"⟩ : MethodName)) hown (mvT hZ (hw _ (List.mem_of_getElem? (i := 69) rfl))) (mvT hZ (hw _ (List.mem_of_getElem? (i := 70) rfl))) (mvT hZ (hw _ (List.mem_of_getElem? (i := 71) rfl))) (mvT hZ (hw _ (List.mem_of_getElem? (i := 72) rfl))) (by decide) (backOf (W := 0) (rm11i0k0 l Z a0 hw [] x y k1 k2 h0 n0 Z0 P5 P6) hZ (hw _ (List.mem_of_getElem? (i := 72) rfl)) (hw _ (List.mem_of_getElem? (i := 71) rfl)) (by decide) (by decide)) (g := (mkF m 44 #[.val (.ref a), .val (.ref d), .val (.ref d)] [(.ref y), (.ref x)])) rfl (by rw [hml]; rfl) (argsL := [(.ref x), (.ref y)]) (rest := []) (lenOf pd_4 rfl) rfl (by show 2 * 0 + _ ≤ _; exact Nat.le_of_eq rfl) (hb hby d10_44) (fun _ _ => ⟨rfl, e10, (by decide : 0 + 0 ≤ _), (by decide : 0 + 0 ≤ _)⟩)
  dsimp only [Pt.U, Pt.locs, Pt.cells, Pt.slots] at X11 l11 y11 z11 st11 hQ11
  subst l11 y11 z11
  obtain ⟨rfl, N11q, e11⟩ := hQ11
  have N11 := Fr.app N0 N11q
  replace G : Gets p e below _ (T11.setTop (mkF m 47 #[.val (.ref a), .val (.ref d), .val (.ref d)] [(.int (1 : Int32))])) := fun t k => G t (st11 t k)
  have hc47_12 : ¬ ((1 : Int32) = (0 : Int32)) := by decide
  replace G := own_ifNo (q := 50) G X11.here hx (hb hby d10_47) ((if0 _ _).trans (feq hc47_12).1) rfl
  replace G := own_iconst (q := 51) G X11.here hx (hb hby d10_50) (v := (1 : Int32)) (by decide) rfl
  replace G := own_goto (q := 55) G X11.here hx (hb hby d10_51) (by decide) (by decide)
  obtain ⟨fs, hr, hrun, hended, hW, hsame⟩ := X11.leave (v := some (.int (1 : Int32))) (fun h => by rw [Bd.returns] at h; cases h)
  refine ⟨_, _, G _ (retOut X11 hx Bd.returns rfl (Or.inl ⟨rfl, Or.inr (Or.inl rfl), _, rfl⟩) (hb hby d10_55) hr), hrun, hended, _, _, rfl, ?_, ⟨_, rfl⟩, hW, hsame.mono (by decide) (by decide)⟩
  show Q10i0k0 Z a d x y k1 k2 cw h0 n0 _ T11.heap _
  rw [e11]
  exact ⟨rfl, N11, rfl⟩
theorem d11_34 : decode jdk_43_method_13_code 34 = .ok (.iconst 0, 1) := by decide +kernel
theorem d11_35 : decode jdk_43_method_13_code 35 = .ok (.ireturn, 1) := by decide +kernel
theorem ef_11i0k1 (m : MethodId) (x0 : Addr) (x1 : Addr) : entryFrame m #[(.ref x0), (.ref x1)] 3 = mkF m 0 #[.val (.ref x0), .val (.ref x1), .unset] [] := by first | (simp [entryFrame, mkF, argsToLocals, Value.category]; done) | rfl
def Q11i0k1 (Z : State) (a : Addr) (d : Addr) (k1 : ClassId) (k2 : ClassId) (h0 : Heap) (n0 : Nat) (v : Option Value) (h : Heap) (L : List Loc) : Prop := v = some (.int (0 : Int32)) ∧ Fr n0 L ∧ h = h0
set_option maxRecDepth 65536 in
set_option maxHeartbeats 40000000 in
theorem rm11i0k1 (l : Launch) (Z : State) (a0 : Array Value) (hw : ∀ d ∈ tables_1, d.before a0 Z = true) (ws : List Jvm.Cond) (a : Addr) (d : Addr) (k1 : ClassId) (k2 : ClassId) (h0 : Heap) (n0 : Nat) (Z0 : n0 ≤ h0.size) (P0 : Arv Z h0 a k1 .byte (4 : Int32) [(.int (104 : Int32)), (.int (111 : Int32)), (.int (117 : Int32)), (.int (114 : Int32))] (.int (0 : Int32))) (P1 : Arv Z h0 d k2 .byte (3 : Int32) [(.int (nar .byte ((100 : Int32).toInt8.toInt32))), (.int (nar .byte ((97 : Int32).toInt8.toInt32))), (.int (nar .byte ((121 : Int32).toInt8.toInt32)))] (.int (0 : Int32))) :
    MetFree l (⟨"java/lang/StringLatin1", "equals", "([B[B)Z"⟩ : MethodName) (head1 (Jvm.Cond.code (⟨"java/lang/StringLatin1", "equals", "([B[B)Z"⟩ : MethodName) jdk_43_method_13_code 3 (some .boolean) :: ws) ({ frames := 0, cells := 0, slots := 0, locals := 0 } : Room)) (fun argz U => argz = #[(.ref a), (.ref d)] ∧ Z.Warmed39 U.vm ∧ U.heap = h0) (fun _ _ _ _ _ => True) (fun _ U o U' => ∃ v L, o = .returned v ∧ Q11i0k1 Z a d k1 k2 h0 n0 v U'.heap L ∧ FrameEnd U o U' L ({ frames := 0, cells := 0, slots := 0, locals := 0 } : Room).cells ({ frames := 0, cells := 0, slots := 0, locals := 0 } : Room).slots) := by
  refine MetFree.of_bodySF (plainFor_of_name pn_java_lang_StringLatin1) hisR ?_
  intro p e s m args below meth c s₁ Bd hml0 hP hK
  obtain ⟨rfl, hZ, hh⟩ := hP
  have hx := Bd.exec
  have hby := Bd.bytes
  have hml : c.maxLocals = 3 := hml0
  have hown : s.vm.findClass "java/lang/StringLatin1" = some m.cls := findClass_of_methodNamed Bd.named
  have hnm := (name_of_methodNamed Bd.named Bd.method).1
  have X0 : Stand p l e ({ frames := 0, cells := 0, slots := 0, locals := 0 } : Room) s m #[(.ref a), (.ref d)] below meth c s₁ [] 0 0 := Stand.of_body Bd
  have e0 : s₁.heap = h0 := by rw [← hh, Bd.state]; rfl
  have N0 := Fr.nil n0
  have G : Gets p e below (s₁.setTop (entryFrame m #[(.ref a), (.ref d)] 3)) (s₁.setTop (mkF m 0 #[.val (.ref a), .val (.ref d), .unset] [])) := fun t k => castTop (ef_11i0k1 m a d) k
  replace G := own_aloadN (q := 1) G X0.here hx (hb hby d11_0) rfl rfl rfl
  obtain ⟨c1, Ar1, -, S1, N1', -, -⟩ := id P0
  replace G : Gets p e below _ (s₁.setTop (mkF m 2 #[.val (.ref a), .val (.ref d), .unset] [(.int (4 : Int32))])) := fun t k => G t (X0.arraylength hx (by rw [e0]; exact Ar1.1) (State.isArrayOf_alike hZ.alike Ar1.2.1) (g := (mkF m 1 #[.val (.ref a), .val (.ref d), .unset] [(.ref a)])) rfl rfl (hb hby d11_1) t (by rw [len_of S1 N1']; exact k))
  replace G := own_aloadN (q := 3) G X0.here hx (hb hby d11_2) rfl rfl rfl
  obtain ⟨c2, Ar2, -, S2, N2', -, -⟩ := id P1
  replace G : Gets p e below _ (s₁.setTop (mkF m 4 #[.val (.ref a), .val (.ref d), .unset] [(.int (3 : Int32)), (.int (4 : Int32))])) := fun t k => G t (X0.arraylength hx (by rw [e0]; exact Ar2.1) (State.isArrayOf_alike hZ.alike Ar2.2.1) (g := (mkF m 3 #[.val (.ref a), .val (.ref d), .unset] [(.ref d), (.int (4 : Int32))])) rfl rfl (hb hby d11_3) t (by rw [len_of S2 N2']; exact k))
  have hc4_3 : ¬ ((4 : Int32) = (3 : Int32)) := by decide
  replace G := own_icmpYes (q := 34) G X0.here hx (hb hby d11_4) (feq hc4_3).2 (by decide) (by decide)
  replace G := own_iconst (q := 35) G X0.here hx (hb hby d11_34) (v := (0 : Int32)) (by decide) rfl
  obtain ⟨fs, hr, hrun, hended, hW, hsame⟩ := X0.leave (v := some (.int (0 : Int32))) (fun h => by rw [Bd.returns] at h; cases h)
  refine ⟨_, _, G _ (retOut X0 hx Bd.returns rfl (Or.inl ⟨rfl, Or.inr (Or.inl rfl), _, rfl⟩) (hb hby d11_35) hr), hrun, hended, _, _, rfl, ?_, ⟨_, rfl⟩, hW, hsame.mono (by decide) (by decide)⟩
  show Q11i0k1 Z a d k1 k2 h0 n0 _ s₁.heap _
  rw [e0]
  exact ⟨rfl, N0, rfl⟩
theorem d10_54 : decode jdk_42_method_66_code 54 = .ok (.iconst 0, 1) := by decide +kernel
theorem ef_10i0k1 (m : MethodId) (x0 : Addr) (x1 : Addr) : entryFrame m #[(.ref x0), (.ref x1)] 3 = mkF m 0 #[.val (.ref x0), .val (.ref x1), .unset] [] := by first | (simp [entryFrame, mkF, argsToLocals, Value.category]; done) | rfl
def Q10i0k1 (Z : State) (a : Addr) (d : Addr) (x : Addr) (y : Addr) (k1 : ClassId) (k2 : ClassId) (cw : Int32) (h0 : Heap) (n0 : Nat) (v : Option Value) (h : Heap) (L : List Loc) : Prop := v = some (.int (0 : Int32)) ∧ Fr n0 L ∧ h = h0
set_option maxRecDepth 65536 in
set_option maxHeartbeats 40000000 in
theorem rm10i0k1 (l : Launch) (Z : State) (a0 : Array Value) (hw : ∀ d ∈ tables_1, d.before a0 Z = true) (ws : List Jvm.Cond) (a : Addr) (d : Addr) (x : Addr) (y : Addr) (k1 : ClassId) (k2 : ClassId) (cw : Int32) (h0 : Heap) (n0 : Nat) (Z0 : n0 ≤ h0.size) (P0 : Fld Z h0 a "java/lang/String" "coder" "B" (.int (0 : Int32))) (P1 : Fld Z h0 d "java/lang/String" "coder" "B" (.int (0 : Int32))) (P2 : Fld Z h0 a "java/lang/String" "value" "[B" (.ref x)) (P3 : Fld Z h0 d "java/lang/String" "value" "[B" (.ref y)) (P4 : Exa Z h0 d "java/lang/String") (P5 : Arv Z h0 x k1 .byte (4 : Int32) [(.int (104 : Int32)), (.int (111 : Int32)), (.int (117 : Int32)), (.int (114 : Int32))] (.int (0 : Int32))) (P6 : Arv Z h0 y k2 .byte (3 : Int32) [(.int (nar .byte ((100 : Int32).toInt8.toInt32))), (.int (nar .byte ((97 : Int32).toInt8.toInt32))), (.int (nar .byte ((121 : Int32).toInt8.toInt32)))] (.int (0 : Int32))) (P7 : Sta Z h0 "java/lang/String" "COMPACT_STRINGS" "Z" (.int cw)) (hcw : ¬ cw = (0 : Int32)) (P9 : a ≠ d) :
    MetFree l (⟨"java/lang/String", "equals", "(Ljava/lang/Object;)Z"⟩ : MethodName) (head1 (Jvm.Cond.code (⟨"java/lang/String", "equals", "(Ljava/lang/Object;)Z"⟩ : MethodName) jdk_42_method_66_code 3 (some .boolean) :: ws) ({ frames := 1, cells := 0, slots := 0, locals := 14 } : Room)) (fun argz U => argz = #[(.ref a), (.ref d)] ∧ Z.Warmed39 U.vm ∧ U.heap = h0) (fun _ _ _ _ _ => True) (fun _ U o U' => ∃ v L, o = .returned v ∧ Q10i0k1 Z a d x y k1 k2 cw h0 n0 v U'.heap L ∧ FrameEnd U o U' L ({ frames := 1, cells := 0, slots := 0, locals := 14 } : Room).cells ({ frames := 1, cells := 0, slots := 0, locals := 14 } : Room).slots) := by
  refine MetFree.of_bodySF (plainFor_of_name pn_java_lang_String) hisR ?_
  intro p e s m args below meth c s₁ Bd hml0 hP hK
  obtain ⟨rfl, hZ, hh⟩ := hP
  have hx := Bd.exec
  have hby := Bd.bytes
  have hml : c.maxLocals = 3 := hml0
  have hown : s.vm.findClass "java/lang/String" = some m.cls := findClass_of_methodNamed Bd.named
  have hnm := (name_of_methodNamed Bd.named Bd.method).1
  have X0 : Stand p l e ({ frames := 1, cells := 0, slots := 0, locals := 14 } : Room) s m #[(.ref a), (.ref d)] below meth c s₁ [] 0 0 := Stand.of_body Bd
  have e0 : s₁.heap = h0 := by rw [← hh, Bd.state]; rfl
  have N0 := Fr.nil n0
  have G : Gets p e below (s₁.setTop (entryFrame m #[(.ref a), (.ref d)] 3)) (s₁.setTop (mkF m 0 #[.val (.ref a), .val (.ref d), .unset] [])) := fun t k => castTop (ef_10i0k1 m a d) k
  replace G := own_aloadN (q := 1) G X0.here hx (hb hby d10_0) rfl rfl rfl
  replace G := own_aloadN (q := 2) G X0.here hx (hb hby d10_1) rfl rfl rfl
  replace G : Gets p e below _ (s₁.setTop (mkF m 7 #[.val (.ref a), .val (.ref d), .unset] [])) := fun t k => G t (Jvm.RoadKit.acmp (g := (mkF m 2 #[.val (.ref a), .val (.ref d), .unset] [(.ref d), (.ref a)])) X0 hx rfl rfl rfl (pc0 := 2) (pc' := 7) (same := false) rfl (hb hby d10_2) rfl (decide_eq_false fun q => P9 (Value.ref.inj q)) (by decide) (by decide) k)
  replace G := own_aloadN (q := 8) G X0.here hx (hb hby d10_7) rfl rfl rfl
  obtain ⟨T1, X1, e1, st1⟩ := instY X0 hx hZ hown (hw _ (List.mem_of_getElem? (i := 68) rfl)) e0 (Ins.self P4) (g := (mkF m 8 #[.val (.ref a), .val (.ref d), .unset] [(.ref d)])) rfl rfl (hb hby d10_8)
  replace G : Gets p e below _ (T1.setTop (mkF m 11 #[.val (.ref a), .val (.ref d), .unset] [(.int (1 : Int32))])) := fun t k => G t (st1 t k)
  have hc11_2 : ¬ ((1 : Int32) = (0 : Int32)) := by decide
  replace G := own_ifNo (q := 14) G X1.here hx (hb hby d10_11) ((if0 _ _).trans (feq hc11_2).1) rfl
  replace G := own_aloadN (q := 15) G X1.here hx (hb hby d10_14) rfl rfl rfl
  obtain ⟨T3, X3, e3, st3⟩ := castY X1 hx hZ hown (hw _ (List.mem_of_getElem? (i := 68) rfl)) e1 (Ins.self P4) (g := (mkF m 15 #[.val (.ref a), .val (.ref d), .unset] [(.ref d)])) rfl rfl (hb hby d10_15)
  replace G : Gets p e below _ (T3.setTop (mkF m 18 #[.val (.ref a), .val (.ref d), .unset] [(.ref d)])) := fun t k => G t (st3 t k)
  replace G := own_astoreN (q := 19) (l' := #[.val (.ref a), .val (.ref d), .val (.ref d)]) G X3.here hx (hb hby d10_18) rfl rfl rfl
  obtain ⟨T4, X4, e4, st4⟩ := getS2 X3 hx hZ hown (host := "") (Or.inl (hw _ (List.mem_of_getElem? (i := 18) rfl))) Via.refl e3 P7 (g := (mkF m 19 #[.val (.ref a), .val (.ref d), .val (.ref d)] [])) rfl (hb hby d10_19)
  replace G : Gets p e below _ (T4.setTop (mkF m 22 #[.val (.ref a), .val (.ref d), .val (.ref d)] [(.int cw)])) := fun t k => G t (st4 t k)
  have hc22_5 : ¬ (cw = (0 : Int32)) := hcw
  replace G := own_ifNo (q := 25) G X4.here hx (hb hby d10_22) ((if0 _ _).trans (feq hc22_5).1) rfl
  replace G := own_aloadN (q := 26) G X4.here hx (hb hby d10_25) rfl rfl rfl
  obtain ⟨T6, X6, e6, st6⟩ := getF X4 hx hZ hown (host := "") (Or.inl (hw _ (List.mem_of_getElem? (i := 30) rfl))) Via.refl e4 P0 (g := (mkF m 26 #[.val (.ref a), .val (.ref d), .val (.ref d)] [(.ref a)])) rfl rfl (hb hby d10_26)
  replace G : Gets p e below _ (T6.setTop (mkF m 29 #[.val (.ref a), .val (.ref d), .val (.ref d)] [(.int (0 : Int32))])) := fun t k => G t (st6 t k)
  replace G := own_aloadN (q := 30) G X6.here hx (hb hby d10_29) rfl rfl rfl
  obtain ⟨T7, X7, e7, st7⟩ := getF X6 hx hZ hown (host := "") (Or.inl (hw _ (List.mem_of_getElem? (i := 30) rfl))) Via.refl e6 P1 (g := (mkF m 30 #[.val (.ref a), .val (.ref d), .val (.ref d)] [(.ref d), (.int (0 : Int32))])) rfl rfl (hb hby d10_30)
  replace G : Gets p e below _ (T7.setTop (mkF m 33 #[.val (.ref a), .val (.ref d), .val (.ref d)] [(.int (0 : Int32)), (.int (0 : Int32))])) := fun t k => G t (st7 t k)
  have hc33_8 : (0 : Int32) = (0 : Int32) := by decide
  replace G := own_icmpNo (q := 36) G X7.here hx (hb hby d10_33) (teq hc33_8).2 rfl
  replace G := own_aloadN (q := 37) G X7.here hx (hb hby d10_36) rfl rfl rfl
  obtain ⟨T9, X9, e9, st9⟩ := getF X7 hx hZ hown (host := "") (Or.inl (hw _ (List.mem_of_getElem? (i := 32) rfl))) Via.refl e7 P2 (g := (mkF m 37 #[.val (.ref a), .val (.ref d), .val (.ref d)] [(.ref a)])) rfl rfl (hb hby d10_37)
  replace G : Gets p e below _ (T9.setTop (mkF m 40 #[.val (.ref a), .val (.ref d), .val (.ref d)] [(.ref x)])) := fun t k => G t (st9 t k)
  replace G := own_aloadN (q := 41) G X9.here hx (hb hby d10_40) rfl rfl rfl
  obtain ⟨T10, X10, e10, st10⟩ := getF X9 hx hZ hown (host := "") (Or.inl (hw _ (List.mem_of_getElem? (i := 32) rfl))) Via.refl e9 P3 (g := (mkF m 41 #[.val (.ref a), .val (.ref d), .val (.ref d)] [(.ref d), (.ref x)])) rfl rfl (hb hby d10_41)
  replace G : Gets p e below _ (T10.setTop (mkF m 44 #[.val (.ref a), .val (.ref d), .val (.ref d)] [(.ref y), (.ref x)])) := fun t k => G t (st10 t k)
  obtain ⟨_, _, ⟨T11, L11, kk11, nn11⟩, -, X11, ⟨Lc11, hQ11, l11, y11, z11⟩, st11⟩ := Jvm.LawKit.callS X10 hx (y := (⟨"java/lang/StringLatin1", "equals", "([B[B)Z"⟩ : MethodName)) hown (mvT hZ (hw _ (List.mem_of_getElem? (i := 69) rfl))) (mvT hZ (hw _ (List.mem_of_getElem? (i := 70) rfl))) (mvT hZ (hw _ (List.mem_of_getElem? (i := 71) rfl))) (mvT hZ (hw _ (List.mem_of_getElem? (i := 72) rfl))) (by decide) (backOf (W := 0) (rm11i0k1 l Z a0 hw [] x y k1 k2 h0 n0 Z0 P5 P6) hZ (hw _ (List.mem_of_getElem? (i := 72) rfl)) (hw _ (List.mem_of_getElem? (i := 71) rfl)) (by decide) (by decide)) (g := (mkF m 44 #[.val (.ref a), .val (.ref d), .val (.ref d)] [(.ref y), (.ref x)])) rfl (by rw [hml]; rfl) (argsL := [(.ref x), (.ref y)]) (rest := []) (lenOf pd_4 rfl) rfl (by show 2 * 0 + _ ≤ _; exact Nat.le_of_eq rfl) (hb hby d10_44) (fun _ _ => ⟨rfl, e10, (by decide : 0 + 0 ≤ _), (by decide : 0 + 0 ≤ _)⟩)
  dsimp only [Pt.U, Pt.locs, Pt.cells, Pt.slots] at X11 l11 y11 z11 st11 hQ11
  subst l11 y11 z11
  obtain ⟨rfl, N11q, e11⟩ := hQ11
  have N11 := Fr.app N0 N11q
  replace G : Gets p e below _ (T11.setTop (mkF m 47 #[.val (.ref a), .val (.ref d), .val (.ref d)] [(.int (0 : Int32))])) := fun t k => G t (st11 t k)
  have hc47_12 : (0 : Int32) = (0 : Int32) := by decide
  replace G := own_ifYes (q := 54) G X11.here hx (hb hby d10_47) ((if0 _ _).trans (teq hc47_12).1) (by decide) (by decide)
  replace G := own_iconst (q := 55) G X11.here hx (hb hby d10_54) (v := (0 : Int32)) (by decide) rfl
  obtain ⟨fs, hr, hrun, hended, hW, hsame⟩ := X11.leave (v := some (.int (0 : Int32))) (fun h => by rw [Bd.returns] at h; cases h)
  refine ⟨_, _, G _ (retOut X11 hx Bd.returns rfl (Or.inl ⟨rfl, Or.inr (Or.inl rfl), _, rfl⟩) (hb hby d10_55) hr), hrun, hended, _, _, rfl, ?_, ⟨_, rfl⟩, hW, hsame.mono (by decide) (by decide)⟩
  show Q10i0k1 Z a d x y k1 k2 cw h0 n0 _ T11.heap _
  rw [e11]
  exact ⟨rfl, N11, rfl⟩
theorem ef_11i0k2 (m : MethodId) (x0 : Addr) (x1 : Addr) : entryFrame m #[(.ref x0), (.ref x1)] 3 = mkF m 0 #[.val (.ref x0), .val (.ref x1), .unset] [] := by first | (simp [entryFrame, mkF, argsToLocals, Value.category]; done) | rfl
def Q11i0k2 (Z : State) (a : Addr) (d : Addr) (k1 : ClassId) (k2 : ClassId) (h0 : Heap) (n0 : Nat) (v : Option Value) (h : Heap) (L : List Loc) : Prop := v = some (.int (0 : Int32)) ∧ Fr n0 L ∧ h = h0
set_option maxRecDepth 65536 in
set_option maxHeartbeats 40000000 in
theorem rm11i0k2 (l : Launch) (Z : State) (a0 : Array Value) (hw : ∀ d ∈ tables_1, d.before a0 Z = true) (ws : List Jvm.Cond) (a : Addr) (d : Addr) (k1 : ClassId) (k2 : ClassId) (h0 : Heap) (n0 : Nat) (Z0 : n0 ≤ h0.size) (P0 : Arv Z h0 a k1 .byte (4 : Int32) [(.int (104 : Int32)), (.int (111 : Int32)), (.int (117 : Int32)), (.int (114 : Int32))] (.int (0 : Int32))) (P1 : Arv Z h0 d k2 .byte (5 : Int32) [(.int (nar .byte ((116 : Int32).toInt8.toInt32))), (.int (nar .byte ((111 : Int32).toInt8.toInt32))), (.int (nar .byte ((116 : Int32).toInt8.toInt32))), (.int (nar .byte ((97 : Int32).toInt8.toInt32))), (.int (nar .byte ((108 : Int32).toInt8.toInt32)))] (.int (0 : Int32))) :
    MetFree l (⟨"java/lang/StringLatin1", "equals", "([B[B)Z"⟩ : MethodName) (head1 (Jvm.Cond.code (⟨"java/lang/StringLatin1", "equals", "([B[B)Z"⟩ : MethodName) jdk_43_method_13_code 3 (some .boolean) :: ws) ({ frames := 0, cells := 0, slots := 0, locals := 0 } : Room)) (fun argz U => argz = #[(.ref a), (.ref d)] ∧ Z.Warmed39 U.vm ∧ U.heap = h0) (fun _ _ _ _ _ => True) (fun _ U o U' => ∃ v L, o = .returned v ∧ Q11i0k2 Z a d k1 k2 h0 n0 v U'.heap L ∧ FrameEnd U o U' L ({ frames := 0, cells := 0, slots := 0, locals := 0 } : Room).cells ({ frames := 0, cells := 0, slots := 0, locals := 0 } : Room).slots) := by
  refine MetFree.of_bodySF (plainFor_of_name pn_java_lang_StringLatin1) hisR ?_
  intro p e s m args below meth c s₁ Bd hml0 hP hK
  obtain ⟨rfl, hZ, hh⟩ := hP
  have hx := Bd.exec
  have hby := Bd.bytes
  have hml : c.maxLocals = 3 := hml0
  have hown : s.vm.findClass "java/lang/StringLatin1" = some m.cls := findClass_of_methodNamed Bd.named
  have hnm := (name_of_methodNamed Bd.named Bd.method).1
  have X0 : Stand p l e ({ frames := 0, cells := 0, slots := 0, locals := 0 } : Room) s m #[(.ref a), (.ref d)] below meth c s₁ [] 0 0 := Stand.of_body Bd
  have e0 : s₁.heap = h0 := by rw [← hh, Bd.state]; rfl
  have N0 := Fr.nil n0
  have G : Gets p e below (s₁.setTop (entryFrame m #[(.ref a), (.ref d)] 3)) (s₁.setTop (mkF m 0 #[.val (.ref a), .val (.ref d), .unset] [])) := fun t k => castTop (ef_11i0k2 m a d) k
  replace G := own_aloadN (q := 1) G X0.here hx (hb hby d11_0) rfl rfl rfl
  obtain ⟨c1, Ar1, -, S1, N1', -, -⟩ := id P0
  replace G : Gets p e below _ (s₁.setTop (mkF m 2 #[.val (.ref a), .val (.ref d), .unset] [(.int (4 : Int32))])) := fun t k => G t (X0.arraylength hx (by rw [e0]; exact Ar1.1) (State.isArrayOf_alike hZ.alike Ar1.2.1) (g := (mkF m 1 #[.val (.ref a), .val (.ref d), .unset] [(.ref a)])) rfl rfl (hb hby d11_1) t (by rw [len_of S1 N1']; exact k))
  replace G := own_aloadN (q := 3) G X0.here hx (hb hby d11_2) rfl rfl rfl
  obtain ⟨c2, Ar2, -, S2, N2', -, -⟩ := id P1
  replace G : Gets p e below _ (s₁.setTop (mkF m 4 #[.val (.ref a), .val (.ref d), .unset] [(.int (5 : Int32)), (.int (4 : Int32))])) := fun t k => G t (X0.arraylength hx (by rw [e0]; exact Ar2.1) (State.isArrayOf_alike hZ.alike Ar2.2.1) (g := (mkF m 3 #[.val (.ref a), .val (.ref d), .unset] [(.ref d), (.int (4 : Int32))])) rfl rfl (hb hby d11_3) t (by rw [len_of S2 N2']; exact k))
  have hc4_3 : ¬ ((4 : Int32) = (5 : Int32)) := by decide
  replace G := own_icmpYes (q := 34) G X0.here hx (hb hby d11_4) (feq hc4_3).2 (by decide) (by decide)
  replace G := own_iconst (q := 35) G X0.here hx (hb hby d11_34) (v := (0 : Int32)) (by decide) rfl
  obtain ⟨fs, hr, hrun, hended, hW, hsame⟩ := X0.leave (v := some (.int (0 : Int32))) (fun h => by rw [Bd.returns] at h; cases h)
  refine ⟨_, _, G _ (retOut X0 hx Bd.returns rfl (Or.inl ⟨rfl, Or.inr (Or.inl rfl), _, rfl⟩) (hb hby d11_35) hr), hrun, hended, _, _, rfl, ?_, ⟨_, rfl⟩, hW, hsame.mono (by decide) (by decide)⟩
  show Q11i0k2 Z a d k1 k2 h0 n0 _ s₁.heap _
  rw [e0]
  exact ⟨rfl, N0, rfl⟩
theorem ef_10i0k2 (m : MethodId) (x0 : Addr) (x1 : Addr) : entryFrame m #[(.ref x0), (.ref x1)] 3 = mkF m 0 #[.val (.ref x0), .val (.ref x1), .unset] [] := by first | (simp [entryFrame, mkF, argsToLocals, Value.category]; done) | rfl
def Q10i0k2 (Z : State) (a : Addr) (d : Addr) (x : Addr) (y : Addr) (k1 : ClassId) (k2 : ClassId) (cw : Int32) (h0 : Heap) (n0 : Nat) (v : Option Value) (h : Heap) (L : List Loc) : Prop := v = some (.int (0 : Int32)) ∧ Fr n0 L ∧ h = h0
set_option maxRecDepth 65536 in
set_option maxHeartbeats 40000000 in
theorem rm10i0k2 (l : Launch) (Z : State) (a0 : Array Value) (hw : ∀ d ∈ tables_1, d.before a0 Z = true) (ws : List Jvm.Cond) (a : Addr) (d : Addr) (x : Addr) (y : Addr) (k1 : ClassId) (k2 : ClassId) (cw : Int32) (h0 : Heap) (n0 : Nat) (Z0 : n0 ≤ h0.size) (P0 : Fld Z h0 a "java/lang/String" "coder" "B" (.int (0 : Int32))) (P1 : Fld Z h0 d "java/lang/String" "coder" "B" (.int (0 : Int32))) (P2 : Fld Z h0 a "java/lang/String" "value" "[B" (.ref x)) (P3 : Fld Z h0 d "java/lang/String" "value" "[B" (.ref y)) (P4 : Exa Z h0 d "java/lang/String") (P5 : Arv Z h0 x k1 .byte (4 : Int32) [(.int (104 : Int32)), (.int (111 : Int32)), (.int (117 : Int32)), (.int (114 : Int32))] (.int (0 : Int32))) (P6 : Arv Z h0 y k2 .byte (5 : Int32) [(.int (nar .byte ((116 : Int32).toInt8.toInt32))), (.int (nar .byte ((111 : Int32).toInt8.toInt32))), (.int (nar .byte ((116 : Int32).toInt8.toInt32))), (.int (nar .byte ((97 : Int32).toInt8.toInt32))), (.int (nar .byte ((108 : Int32).toInt8.toInt32)))] (.int (0 : Int32))) (P7 : Sta Z h0 "java/lang/String" "COMPACT_STRINGS" "Z" (.int cw)) (hcw : ¬ cw = (0 : Int32)) (P9 : a ≠ d) :
    MetFree l (⟨"java/lang/String", "equals", "(Ljava/lang/Object;)Z"⟩ : MethodName) (head1 (Jvm.Cond.code (⟨"java/lang/String", "equals", "(Ljava/lang/Object;)Z"⟩ : MethodName) jdk_42_method_66_code 3 (some .boolean) :: ws) ({ frames := 1, cells := 0, slots := 0, locals := 14 } : Room)) (fun argz U => argz = #[(.ref a), (.ref d)] ∧ Z.Warmed39 U.vm ∧ U.heap = h0) (fun _ _ _ _ _ => True) (fun _ U o U' => ∃ v L, o = .returned v ∧ Q10i0k2 Z a d x y k1 k2 cw h0 n0 v U'.heap L ∧ FrameEnd U o U' L ({ frames := 1, cells := 0, slots := 0, locals := 14 } : Room).cells ({ frames := 1, cells := 0, slots := 0, locals := 14 } : Room).slots) := by
  refine MetFree.of_bodySF (plainFor_of_name pn_java_lang_String) hisR ?_
  intro p e s m args below meth c s₁ Bd hml0 hP hK
  obtain ⟨rfl, hZ, hh⟩ := hP
  have hx := Bd.exec
  have hby := Bd.bytes
  have hml : c.maxLocals = 3 := hml0
  have hown : s.vm.findClass "java/lang/String" = some m.cls := findClass_of_methodNamed Bd.named
  have hnm := (name_of_methodNamed Bd.named Bd.method).1
  have X0 : Stand p l e ({ frames := 1, cells := 0, slots := 0, locals := 14 } : Room) s m #[(.ref a), (.ref d)] below meth c s₁ [] 0 0 := Stand.of_body Bd
  have e0 : s₁.heap = h0 := by rw [← hh, Bd.state]; rfl
  have N0 := Fr.nil n0
  have G : Gets p e below (s₁.setTop (entryFrame m #[(.ref a), (.ref d)] 3)) (s₁.setTop (mkF m 0 #[.val (.ref a), .val (.ref d), .unset] [])) := fun t k => castTop (ef_10i0k2 m a d) k
  replace G := own_aloadN (q := 1) G X0.here hx (hb hby d10_0) rfl rfl rfl
  replace G := own_aloadN (q := 2) G X0.here hx (hb hby d10_1) rfl rfl rfl
  replace G : Gets p e below _ (s₁.setTop (mkF m 7 #[.val (.ref a), .val (.ref d), .unset] [])) := fun t k => G t (Jvm.RoadKit.acmp (g := (mkF m 2 #[.val (.ref a), .val (.ref d), .unset] [(.ref d), (.ref a)])) X0 hx rfl rfl rfl (pc0 := 2) (pc' := 7) (same := false) rfl (hb hby d10_2) rfl (decide_eq_false fun q => P9 (Value.ref.inj q)) (by decide) (by decide) k)
  replace G := own_aloadN (q := 8) G X0.here hx (hb hby d10_7) rfl rfl rfl
  obtain ⟨T1, X1, e1, st1⟩ := instY X0 hx hZ hown (hw _ (List.mem_of_getElem? (i := 68) rfl)) e0 (Ins.self P4) (g := (mkF m 8 #[.val (.ref a), .val (.ref d), .unset] [(.ref d)])) rfl rfl (hb hby d10_8)
  replace G : Gets p e below _ (T1.setTop (mkF m 11 #[.val (.ref a), .val (.ref d), .unset] [(.int (1 : Int32))])) := fun t k => G t (st1 t k)
  have hc11_2 : ¬ ((1 : Int32) = (0 : Int32)) := by decide
  replace G := own_ifNo (q := 14) G X1.here hx (hb hby d10_11) ((if0 _ _).trans (feq hc11_2).1) rfl
  replace G := own_aloadN (q := 15) G X1.here hx (hb hby d10_14) rfl rfl rfl
  obtain ⟨T3, X3, e3, st3⟩ := castY X1 hx hZ hown (hw _ (List.mem_of_getElem? (i := 68) rfl)) e1 (Ins.self P4) (g := (mkF m 15 #[.val (.ref a), .val (.ref d), .unset] [(.ref d)])) rfl rfl (hb hby d10_15)
  replace G : Gets p e below _ (T3.setTop (mkF m 18 #[.val (.ref a), .val (.ref d), .unset] [(.ref d)])) := fun t k => G t (st3 t k)
  replace G := own_astoreN (q := 19) (l' := #[.val (.ref a), .val (.ref d), .val (.ref d)]) G X3.here hx (hb hby d10_18) rfl rfl rfl
  obtain ⟨T4, X4, e4, st4⟩ := getS2 X3 hx hZ hown (host := "") (Or.inl (hw _ (List.mem_of_getElem? (i := 18) rfl))) Via.refl e3 P7 (g := (mkF m 19 #[.val (.ref a), .val (.ref d), .val (.ref d)] [])) rfl (hb hby d10_19)
  replace G : Gets p e below _ (T4.setTop (mkF m 22 #[.val (.ref a), .val (.ref d), .val (.ref d)] [(.int cw)])) := fun t k => G t (st4 t k)
  have hc22_5 : ¬ (cw = (0 : Int32)) := hcw
  replace G := own_ifNo (q := 25) G X4.here hx (hb hby d10_22) ((if0 _ _).trans (feq hc22_5).1) rfl
  replace G := own_aloadN (q := 26) G X4.here hx (hb hby d10_25) rfl rfl rfl
  obtain ⟨T6, X6, e6, st6⟩ := getF X4 hx hZ hown (host := "") (Or.inl (hw _ (List.mem_of_getElem? (i := 30) rfl))) Via.refl e4 P0 (g := (mkF m 26 #[.val (.ref a), .val (.ref d), .val (.ref d)] [(.ref a)])) rfl rfl (hb hby d10_26)
  replace G : Gets p e below _ (T6.setTop (mkF m 29 #[.val (.ref a), .val (.ref d), .val (.ref d)] [(.int (0 : Int32))])) := fun t k => G t (st6 t k)
  replace G := own_aloadN (q := 30) G X6.here hx (hb hby d10_29) rfl rfl rfl
  obtain ⟨T7, X7, e7, st7⟩ := getF X6 hx hZ hown (host := "") (Or.inl (hw _ (List.mem_of_getElem? (i := 30) rfl))) Via.refl e6 P1 (g := (mkF m 30 #[.val (.ref a), .val (.ref d), .val (.ref d)] [(.ref d), (.int (0 : Int32))])) rfl rfl (hb hby d10_30)
  replace G : Gets p e below _ (T7.setTop (mkF m 33 #[.val (.ref a), .val (.ref d), .val (.ref d)] [(.int (0 : Int32)), (.int (0 : Int32))])) := fun t k => G t (st7 t k)
  have hc33_8 : (0 : Int32) = (0 : Int32) := by decide
  replace G := own_icmpNo (q := 36) G X7.here hx (hb hby d10_33) (teq hc33_8).2 rfl
  replace G := own_aloadN (q := 37) G X7.here hx (hb hby d10_36) rfl rfl rfl
  obtain ⟨T9, X9, e9, st9⟩ := getF X7 hx hZ hown (host := "") (Or.inl (hw _ (List.mem_of_getElem? (i := 32) rfl))) Via.refl e7 P2 (g := (mkF m 37 #[.val (.ref a), .val (.ref d), .val (.ref d)] [(.ref a)])) rfl rfl (hb hby d10_37)
  replace G : Gets p e below _ (T9.setTop (mkF m 40 #[.val (.ref a), .val (.ref d), .val (.ref d)] [(.ref x)])) := fun t k => G t (st9 t k)
  replace G := own_aloadN (q := 41) G X9.here hx (hb hby d10_40) rfl rfl rfl
  obtain ⟨T10, X10, e10, st10⟩ := getF X9 hx hZ hown (host := "") (Or.inl (hw _ (List.mem_of_getElem? (i := 32) rfl))) Via.refl e9 P3 (g := (mkF m 41 #[.val (.ref a), .val (.ref d), .val (.ref d)] [(.ref d), (.ref x)])) rfl rfl (hb hby d10_41)
  replace G : Gets p e below _ (T10.setTop (mkF m 44 #[.val (.ref a), .val (.ref d), .val (.ref d)] [(.ref y), (.ref x)])) := fun t k => G t (st10 t k)
  obtain ⟨_, _, ⟨T11, L11, kk11, nn11⟩, -, X11, ⟨Lc11, hQ11, l11, y11, z11⟩, st11⟩ := Jvm.LawKit.callS X10 hx (y := (⟨"java/lang/StringLatin1", "equals", "([B[B)Z"⟩ : MethodName)) hown (mvT hZ (hw _ (List.mem_of_getElem? (i := 69) rfl))) (mvT hZ (hw _ (List.mem_of_getElem? (i := 70) rfl))) (mvT hZ (hw _ (List.mem_of_getElem? (i := 71) rfl))) (mvT hZ (hw _ (List.mem_of_getElem? (i := 72) rfl))) (by decide) (backOf (W := 0) (rm11i0k2 l Z a0 hw [] x y k1 k2 h0 n0 Z0 P5 P6) hZ (hw _ (List.mem_of_getElem? (i := 72) rfl)) (hw _ (List.mem_of_getElem? (i := 71) rfl)) (by decide) (by decide)) (g := (mkF m 44 #[.val (.ref a), .val (.ref d), .val (.ref d)] [(.ref y), (.ref x)])) rfl (by rw [hml]; rfl) (argsL := [(.ref x), (.ref y)]) (rest := []) (lenOf pd_4 rfl) rfl (by show 2 * 0 + _ ≤ _; exact Nat.le_of_eq rfl) (hb hby d10_44) (fun _ _ => ⟨rfl, e10, (by decide : 0 + 0 ≤ _), (by decide : 0 + 0 ≤ _)⟩)
  dsimp only [Pt.U, Pt.locs, Pt.cells, Pt.slots] at X11 l11 y11 z11 st11 hQ11
  subst l11 y11 z11
  obtain ⟨rfl, N11q, e11⟩ := hQ11
  have N11 := Fr.app N0 N11q
  replace G : Gets p e below _ (T11.setTop (mkF m 47 #[.val (.ref a), .val (.ref d), .val (.ref d)] [(.int (0 : Int32))])) := fun t k => G t (st11 t k)
  have hc47_12 : (0 : Int32) = (0 : Int32) := by decide
  replace G := own_ifYes (q := 54) G X11.here hx (hb hby d10_47) ((if0 _ _).trans (teq hc47_12).1) (by decide) (by decide)
  replace G := own_iconst (q := 55) G X11.here hx (hb hby d10_54) (v := (0 : Int32)) (by decide) rfl
  obtain ⟨fs, hr, hrun, hended, hW, hsame⟩ := X11.leave (v := some (.int (0 : Int32))) (fun h => by rw [Bd.returns] at h; cases h)
  refine ⟨_, _, G _ (retOut X11 hx Bd.returns rfl (Or.inl ⟨rfl, Or.inr (Or.inl rfl), _, rfl⟩) (hb hby d10_55) hr), hrun, hended, _, _, rfl, ?_, ⟨_, rfl⟩, hW, hsame.mono (by decide) (by decide)⟩
  show Q10i0k2 Z a d x y k1 k2 cw h0 n0 _ T11.heap _
  rw [e11]
  exact ⟨rfl, N11, rfl⟩
theorem ef_11i1k0 (m : MethodId) (x0 : Addr) (x1 : Addr) : entryFrame m #[(.ref x0), (.ref x1)] 3 = mkF m 0 #[.val (.ref x0), .val (.ref x1), .unset] [] := by first | (simp [entryFrame, mkF, argsToLocals, Value.category]; done) | rfl
def Q11i1k0 (Z : State) (a : Addr) (d : Addr) (k1 : ClassId) (k2 : ClassId) (h0 : Heap) (n0 : Nat) (v : Option Value) (h : Heap) (L : List Loc) : Prop := v = some (.int (0 : Int32)) ∧ Fr n0 L ∧ h = h0
set_option maxRecDepth 65536 in
set_option maxHeartbeats 40000000 in
theorem rm11i1k0 (l : Launch) (Z : State) (a0 : Array Value) (hw : ∀ d ∈ tables_1, d.before a0 Z = true) (ws : List Jvm.Cond) (a : Addr) (d : Addr) (k1 : ClassId) (k2 : ClassId) (h0 : Heap) (n0 : Nat) (Z0 : n0 ≤ h0.size) (P0 : Arv Z h0 a k1 .byte (3 : Int32) [(.int (100 : Int32)), (.int (97 : Int32)), (.int (121 : Int32))] (.int (0 : Int32))) (P1 : Arv Z h0 d k2 .byte (4 : Int32) [(.int (nar .byte ((104 : Int32).toInt8.toInt32))), (.int (nar .byte ((111 : Int32).toInt8.toInt32))), (.int (nar .byte ((117 : Int32).toInt8.toInt32))), (.int (nar .byte ((114 : Int32).toInt8.toInt32)))] (.int (0 : Int32))) :
    MetFree l (⟨"java/lang/StringLatin1", "equals", "([B[B)Z"⟩ : MethodName) (head1 (Jvm.Cond.code (⟨"java/lang/StringLatin1", "equals", "([B[B)Z"⟩ : MethodName) jdk_43_method_13_code 3 (some .boolean) :: ws) ({ frames := 0, cells := 0, slots := 0, locals := 0 } : Room)) (fun argz U => argz = #[(.ref a), (.ref d)] ∧ Z.Warmed39 U.vm ∧ U.heap = h0) (fun _ _ _ _ _ => True) (fun _ U o U' => ∃ v L, o = .returned v ∧ Q11i1k0 Z a d k1 k2 h0 n0 v U'.heap L ∧ FrameEnd U o U' L ({ frames := 0, cells := 0, slots := 0, locals := 0 } : Room).cells ({ frames := 0, cells := 0, slots := 0, locals := 0 } : Room).slots) := by
  refine MetFree.of_bodySF (plainFor_of_name pn_java_lang_StringLatin1) hisR ?_
  intro p e s m args below meth c s₁ Bd hml0 hP hK
  obtain ⟨rfl, hZ, hh⟩ := hP
  have hx := Bd.exec
  have hby := Bd.bytes
  have hml : c.maxLocals = 3 := hml0
  have hown : s.vm.findClass "java/lang/StringLatin1" = some m.cls := findClass_of_methodNamed Bd.named
  have hnm := (name_of_methodNamed Bd.named Bd.method).1
  have X0 : Stand p l e ({ frames := 0, cells := 0, slots := 0, locals := 0 } : Room) s m #[(.ref a), (.ref d)] below meth c s₁ [] 0 0 := Stand.of_body Bd
  have e0 : s₁.heap = h0 := by rw [← hh, Bd.state]; rfl
  have N0 := Fr.nil n0
  have G : Gets p e below (s₁.setTop (entryFrame m #[(.ref a), (.ref d)] 3)) (s₁.setTop (mkF m 0 #[.val (.ref a), .val (.ref d), .unset] [])) := fun t k => castTop (ef_11i1k0 m a d) k
  replace G := own_aloadN (q := 1) G X0.here hx (hb hby d11_0) rfl rfl rfl
  obtain ⟨c1, Ar1, -, S1, N1', -, -⟩ := id P0
  replace G : Gets p e below _ (s₁.setTop (mkF m 2 #[.val (.ref a), .val (.ref d), .unset] [(.int (3 : Int32))])) := fun t k => G t (X0.arraylength hx (by rw [e0]; exact Ar1.1) (State.isArrayOf_alike hZ.alike Ar1.2.1) (g := (mkF m 1 #[.val (.ref a), .val (.ref d), .unset] [(.ref a)])) rfl rfl (hb hby d11_1) t (by rw [len_of S1 N1']; exact k))
  replace G := own_aloadN (q := 3) G X0.here hx (hb hby d11_2) rfl rfl rfl
  obtain ⟨c2, Ar2, -, S2, N2', -, -⟩ := id P1
  replace G : Gets p e below _ (s₁.setTop (mkF m 4 #[.val (.ref a), .val (.ref d), .unset] [(.int (4 : Int32)), (.int (3 : Int32))])) := fun t k => G t (X0.arraylength hx (by rw [e0]; exact Ar2.1) (State.isArrayOf_alike hZ.alike Ar2.2.1) (g := (mkF m 3 #[.val (.ref a), .val (.ref d), .unset] [(.ref d), (.int (3 : Int32))])) rfl rfl (hb hby d11_3) t (by rw [len_of S2 N2']; exact k))
  have hc4_3 : ¬ ((3 : Int32) = (4 : Int32)) := by decide
  replace G := own_icmpYes (q := 34) G X0.here hx (hb hby d11_4) (feq hc4_3).2 (by decide) (by decide)
  replace G := own_iconst (q := 35) G X0.here hx (hb hby d11_34) (v := (0 : Int32)) (by decide) rfl
  obtain ⟨fs, hr, hrun, hended, hW, hsame⟩ := X0.leave (v := some (.int (0 : Int32))) (fun h => by rw [Bd.returns] at h; cases h)
  refine ⟨_, _, G _ (retOut X0 hx Bd.returns rfl (Or.inl ⟨rfl, Or.inr (Or.inl rfl), _, rfl⟩) (hb hby d11_35) hr), hrun, hended, _, _, rfl, ?_, ⟨_, rfl⟩, hW, hsame.mono (by decide) (by decide)⟩
  show Q11i1k0 Z a d k1 k2 h0 n0 _ s₁.heap _
  rw [e0]
  exact ⟨rfl, N0, rfl⟩
theorem ef_10i1k0 (m : MethodId) (x0 : Addr) (x1 : Addr) : entryFrame m #[(.ref x0), (.ref x1)] 3 = mkF m 0 #[.val (.ref x0), .val (.ref x1), .unset] [] := by first | (simp [entryFrame, mkF, argsToLocals, Value.category]; done) | rfl
def Q10i1k0 (Z : State) (a : Addr) (d : Addr) (x : Addr) (y : Addr) (k1 : ClassId) (k2 : ClassId) (cw : Int32) (h0 : Heap) (n0 : Nat) (v : Option Value) (h : Heap) (L : List Loc) : Prop := v = some (.int (0 : Int32)) ∧ Fr n0 L ∧ h = h0
set_option maxRecDepth 65536 in
set_option maxHeartbeats 40000000 in
theorem rm10i1k0 (l : Launch) (Z : State) (a0 : Array Value) (hw : ∀ d ∈ tables_1, d.before a0 Z = true) (ws : List Jvm.Cond) (a : Addr) (d : Addr) (x : Addr) (y : Addr) (k1 : ClassId) (k2 : ClassId) (cw : Int32) (h0 : Heap) (n0 : Nat) (Z0 : n0 ≤ h0.size) (P0 : Fld Z h0 a "java/lang/String" "coder" "B" (.int (0 : Int32))) (P1 : Fld Z h0 d "java/lang/String" "coder" "B" (.int (0 : Int32))) (P2 : Fld Z h0 a "java/lang/String" "value" "[B" (.ref x)) (P3 : Fld Z h0 d "java/lang/String" "value" "[B" (.ref y)) (P4 : Exa Z h0 d "java/lang/String") (P5 : Arv Z h0 x k1 .byte (3 : Int32) [(.int (100 : Int32)), (.int (97 : Int32)), (.int (121 : Int32))] (.int (0 : Int32))) (P6 : Arv Z h0 y k2 .byte (4 : Int32) [(.int (nar .byte ((104 : Int32).toInt8.toInt32))), (.int (nar .byte ((111 : Int32).toInt8.toInt32))), (.int (nar .byte ((117 : Int32).toInt8.toInt32))), (.int (nar .byte ((114 : Int32).toInt8.toInt32)))] (.int (0 : Int32))) (P7 : Sta Z h0 "java/lang/String" "COMPACT_STRINGS" "Z" (.int cw)) (hcw : ¬ cw = (0 : Int32)) (P9 : a ≠ d) :
    MetFree l (⟨"java/lang/String", "equals", "(Ljava/lang/Object;)Z"⟩ : MethodName) (head1 (Jvm.Cond.code (⟨"java/lang/String", "equals", "(Ljava/lang/Object;)Z"⟩ : MethodName) jdk_42_method_66_code 3 (some .boolean) :: ws) ({ frames := 1, cells := 0, slots := 0, locals := 14 } : Room)) (fun argz U => argz = #[(.ref a), (.ref d)] ∧ Z.Warmed39 U.vm ∧ U.heap = h0) (fun _ _ _ _ _ => True) (fun _ U o U' => ∃ v L, o = .returned v ∧ Q10i1k0 Z a d x y k1 k2 cw h0 n0 v U'.heap L ∧ FrameEnd U o U' L ({ frames := 1, cells := 0, slots := 0, locals := 14 } : Room).cells ({ frames := 1, cells := 0, slots := 0, locals := 14 } : Room).slots) := by
  refine MetFree.of_bodySF (plainFor_of_name pn_java_lang_String) hisR ?_
  intro p e s m args below meth c s₁ Bd hml0 hP hK
  obtain ⟨rfl, hZ, hh⟩ := hP
  have hx := Bd.exec
  have hby := Bd.bytes
  have hml : c.maxLocals = 3 := hml0
  have hown : s.vm.findClass "java/lang/String" = some m.cls := findClass_of_methodNamed Bd.named
  have hnm := (name_of_methodNamed Bd.named Bd.method).1
  have X0 : Stand p l e ({ frames := 1, cells := 0, slots := 0, locals := 14 } : Room) s m #[(.ref a), (.ref d)] below meth c s₁ [] 0 0 := Stand.of_body Bd
  have e0 : s₁.heap = h0 := by rw [← hh, Bd.state]; rfl
  have N0 := Fr.nil n0
  have G : Gets p e below (s₁.setTop (entryFrame m #[(.ref a), (.ref d)] 3)) (s₁.setTop (mkF m 0 #[.val (.ref a), .val (.ref d), .unset] [])) := fun t k => castTop (ef_10i1k0 m a d) k
  replace G := own_aloadN (q := 1) G X0.here hx (hb hby d10_0) rfl rfl rfl
  replace G := own_aloadN (q := 2) G X0.here hx (hb hby d10_1) rfl rfl rfl
  replace G : Gets p e below _ (s₁.setTop (mkF m 7 #[.val (.ref a), .val (.ref d), .unset] [])) := fun t k => G t (Jvm.RoadKit.acmp (g := (mkF m 2 #[.val (.ref a), .val (.ref d), .unset] [(.ref d), (.ref a)])) X0 hx rfl rfl rfl (pc0 := 2) (pc' := 7) (same := false) rfl (hb hby d10_2) rfl (decide_eq_false fun q => P9 (Value.ref.inj q)) (by decide) (by decide) k)
  replace G := own_aloadN (q := 8) G X0.here hx (hb hby d10_7) rfl rfl rfl
  obtain ⟨T1, X1, e1, st1⟩ := instY X0 hx hZ hown (hw _ (List.mem_of_getElem? (i := 68) rfl)) e0 (Ins.self P4) (g := (mkF m 8 #[.val (.ref a), .val (.ref d), .unset] [(.ref d)])) rfl rfl (hb hby d10_8)
  replace G : Gets p e below _ (T1.setTop (mkF m 11 #[.val (.ref a), .val (.ref d), .unset] [(.int (1 : Int32))])) := fun t k => G t (st1 t k)
  have hc11_2 : ¬ ((1 : Int32) = (0 : Int32)) := by decide
  replace G := own_ifNo (q := 14) G X1.here hx (hb hby d10_11) ((if0 _ _).trans (feq hc11_2).1) rfl
  replace G := own_aloadN (q := 15) G X1.here hx (hb hby d10_14) rfl rfl rfl
  obtain ⟨T3, X3, e3, st3⟩ := castY X1 hx hZ hown (hw _ (List.mem_of_getElem? (i := 68) rfl)) e1 (Ins.self P4) (g := (mkF m 15 #[.val (.ref a), .val (.ref d), .unset] [(.ref d)])) rfl rfl (hb hby d10_15)
  replace G : Gets p e below _ (T3.setTop (mkF m 18 #[.val (.ref a), .val (.ref d), .unset] [(.ref d)])) := fun t k => G t (st3 t k)
  replace G := own_astoreN (q := 19) (l' := #[.val (.ref a), .val (.ref d), .val (.ref d)]) G X3.here hx (hb hby d10_18) rfl rfl rfl
  obtain ⟨T4, X4, e4, st4⟩ := getS2 X3 hx hZ hown (host := "") (Or.inl (hw _ (List.mem_of_getElem? (i := 18) rfl))) Via.refl e3 P7 (g := (mkF m 19 #[.val (.ref a), .val (.ref d), .val (.ref d)] [])) rfl (hb hby d10_19)
  replace G : Gets p e below _ (T4.setTop (mkF m 22 #[.val (.ref a), .val (.ref d), .val (.ref d)] [(.int cw)])) := fun t k => G t (st4 t k)
  have hc22_5 : ¬ (cw = (0 : Int32)) := hcw
  replace G := own_ifNo (q := 25) G X4.here hx (hb hby d10_22) ((if0 _ _).trans (feq hc22_5).1) rfl
  replace G := own_aloadN (q := 26) G X4.here hx (hb hby d10_25) rfl rfl rfl
  obtain ⟨T6, X6, e6, st6⟩ := getF X4 hx hZ hown (host := "") (Or.inl (hw _ (List.mem_of_getElem? (i := 30) rfl))) Via.refl e4 P0 (g := (mkF m 26 #[.val (.ref a), .val (.ref d), .val (.ref d)] [(.ref a)])) rfl rfl (hb hby d10_26)
  replace G : Gets p e below _ (T6.setTop (mkF m 29 #[.val (.ref a), .val (.ref d), .val (.ref d)] [(.int (0 : Int32))])) := fun t k => G t (st6 t k)
  replace G := own_aloadN (q := 30) G X6.here hx (hb hby d10_29) rfl rfl rfl
  obtain ⟨T7, X7, e7, st7⟩ := getF X6 hx hZ hown (host := "") (Or.inl (hw _ (List.mem_of_getElem? (i := 30) rfl))) Via.refl e6 P1 (g := (mkF m 30 #[.val (.ref a), .val (.ref d), .val (.ref d)] [(.ref d), (.int (0 : Int32))])) rfl rfl (hb hby d10_30)
  replace G : Gets p e below _ (T7.setTop (mkF m 33 #[.val (.ref a), .val (.ref d), .val (.ref d)] [(.int (0 : Int32)), (.int (0 : Int32))])) := fun t k => G t (st7 t k)
  have hc33_8 : (0 : Int32) = (0 : Int32) := by decide
  replace G := own_icmpNo (q := 36) G X7.here hx (hb hby d10_33) (teq hc33_8).2 rfl
  replace G := own_aloadN (q := 37) G X7.here hx (hb hby d10_36) rfl rfl rfl
  obtain ⟨T9, X9, e9, st9⟩ := getF X7 hx hZ hown (host := "") (Or.inl (hw _ (List.mem_of_getElem? (i := 32) rfl))) Via.refl e7 P2 (g := (mkF m 37 #[.val (.ref a), .val (.ref d), .val (.ref d)] [(.ref a)])) rfl rfl (hb hby d10_37)
  replace G : Gets p e below _ (T9.setTop (mkF m 40 #[.val (.ref a), .val (.ref d), .val (.ref d)] [(.ref x)])) := fun t k => G t (st9 t k)
  replace G := own_aloadN (q := 41) G X9.here hx (hb hby d10_40) rfl rfl rfl
  obtain ⟨T10, X10, e10, st10⟩ := getF X9 hx hZ hown (host := "") (Or.inl (hw _ (List.mem_of_getElem? (i := 32) rfl))) Via.refl e9 P3 (g := (mkF m 41 #[.val (.ref a), .val (.ref d), .val (.ref d)] [(.ref d), (.ref x)])) rfl rfl (hb hby d10_41)
  replace G : Gets p e below _ (T10.setTop (mkF m 44 #[.val (.ref a), .val (.ref d), .val (.ref d)] [(.ref y), (.ref x)])) := fun t k => G t (st10 t k)
  obtain ⟨_, _, ⟨T11, L11, kk11, nn11⟩, -, X11, ⟨Lc11, hQ11, l11, y11, z11⟩, st11⟩ := Jvm.LawKit.callS X10 hx (y := (⟨"java/lang/StringLatin1", "equals", "([B[B)Z"⟩ : MethodName)) hown (mvT hZ (hw _ (List.mem_of_getElem? (i := 69) rfl))) (mvT hZ (hw _ (List.mem_of_getElem? (i := 70) rfl))) (mvT hZ (hw _ (List.mem_of_getElem? (i := 71) rfl))) (mvT hZ (hw _ (List.mem_of_getElem? (i := 72) rfl))) (by decide) (backOf (W := 0) (rm11i1k0 l Z a0 hw [] x y k1 k2 h0 n0 Z0 P5 P6) hZ (hw _ (List.mem_of_getElem? (i := 72) rfl)) (hw _ (List.mem_of_getElem? (i := 71) rfl)) (by decide) (by decide)) (g := (mkF m 44 #[.val (.ref a), .val (.ref d), .val (.ref d)] [(.ref y), (.ref x)])) rfl (by rw [hml]; rfl) (argsL := [(.ref x), (.ref y)]) (rest := []) (lenOf pd_4 rfl) rfl (by show 2 * 0 + _ ≤ _; exact Nat.le_of_eq rfl) (hb hby d10_44) (fun _ _ => ⟨rfl, e10, (by decide : 0 + 0 ≤ _), (by decide : 0 + 0 ≤ _)⟩)
  dsimp only [Pt.U, Pt.locs, Pt.cells, Pt.slots] at X11 l11 y11 z11 st11 hQ11
  subst l11 y11 z11
  obtain ⟨rfl, N11q, e11⟩ := hQ11
  have N11 := Fr.app N0 N11q
  replace G : Gets p e below _ (T11.setTop (mkF m 47 #[.val (.ref a), .val (.ref d), .val (.ref d)] [(.int (0 : Int32))])) := fun t k => G t (st11 t k)
  have hc47_12 : (0 : Int32) = (0 : Int32) := by decide
  replace G := own_ifYes (q := 54) G X11.here hx (hb hby d10_47) ((if0 _ _).trans (teq hc47_12).1) (by decide) (by decide)
  replace G := own_iconst (q := 55) G X11.here hx (hb hby d10_54) (v := (0 : Int32)) (by decide) rfl
  obtain ⟨fs, hr, hrun, hended, hW, hsame⟩ := X11.leave (v := some (.int (0 : Int32))) (fun h => by rw [Bd.returns] at h; cases h)
  refine ⟨_, _, G _ (retOut X11 hx Bd.returns rfl (Or.inl ⟨rfl, Or.inr (Or.inl rfl), _, rfl⟩) (hb hby d10_55) hr), hrun, hended, _, _, rfl, ?_, ⟨_, rfl⟩, hW, hsame.mono (by decide) (by decide)⟩
  show Q10i1k0 Z a d x y k1 k2 cw h0 n0 _ T11.heap _
  rw [e11]
  exact ⟨rfl, N11, rfl⟩
theorem ef_11i1k1 (m : MethodId) (x0 : Addr) (x1 : Addr) : entryFrame m #[(.ref x0), (.ref x1)] 3 = mkF m 0 #[.val (.ref x0), .val (.ref x1), .unset] [] := by first | (simp [entryFrame, mkF, argsToLocals, Value.category]; done) | rfl
def Q11i1k1 (Z : State) (a : Addr) (d : Addr) (k1 : ClassId) (k2 : ClassId) (h0 : Heap) (n0 : Nat) (v : Option Value) (h : Heap) (L : List Loc) : Prop := v = some (.int (1 : Int32)) ∧ Fr n0 L ∧ h = h0
set_option maxRecDepth 65536 in
set_option maxHeartbeats 40000000 in
theorem rm11i1k1 (l : Launch) (Z : State) (a0 : Array Value) (hw : ∀ d ∈ tables_1, d.before a0 Z = true) (ws : List Jvm.Cond) (a : Addr) (d : Addr) (k1 : ClassId) (k2 : ClassId) (h0 : Heap) (n0 : Nat) (Z0 : n0 ≤ h0.size) (P0 : Arv Z h0 a k1 .byte (3 : Int32) [(.int (100 : Int32)), (.int (97 : Int32)), (.int (121 : Int32))] (.int (0 : Int32))) (P1 : Arv Z h0 d k2 .byte (3 : Int32) [(.int (nar .byte ((100 : Int32).toInt8.toInt32))), (.int (nar .byte ((97 : Int32).toInt8.toInt32))), (.int (nar .byte ((121 : Int32).toInt8.toInt32)))] (.int (0 : Int32))) :
    MetFree l (⟨"java/lang/StringLatin1", "equals", "([B[B)Z"⟩ : MethodName) (head1 (Jvm.Cond.code (⟨"java/lang/StringLatin1", "equals", "([B[B)Z"⟩ : MethodName) jdk_43_method_13_code 3 (some .boolean) :: ws) ({ frames := 0, cells := 0, slots := 0, locals := 0 } : Room)) (fun argz U => argz = #[(.ref a), (.ref d)] ∧ Z.Warmed39 U.vm ∧ U.heap = h0) (fun _ _ _ _ _ => True) (fun _ U o U' => ∃ v L, o = .returned v ∧ Q11i1k1 Z a d k1 k2 h0 n0 v U'.heap L ∧ FrameEnd U o U' L ({ frames := 0, cells := 0, slots := 0, locals := 0 } : Room).cells ({ frames := 0, cells := 0, slots := 0, locals := 0 } : Room).slots) := by
  refine MetFree.of_bodySF (plainFor_of_name pn_java_lang_StringLatin1) hisR ?_
  intro p e s m args below meth c s₁ Bd hml0 hP hK
  obtain ⟨rfl, hZ, hh⟩ := hP
  have hx := Bd.exec
  have hby := Bd.bytes
  have hml : c.maxLocals = 3 := hml0
  have hown : s.vm.findClass "java/lang/StringLatin1" = some m.cls := findClass_of_methodNamed Bd.named
  have hnm := (name_of_methodNamed Bd.named Bd.method).1
  have X0 : Stand p l e ({ frames := 0, cells := 0, slots := 0, locals := 0 } : Room) s m #[(.ref a), (.ref d)] below meth c s₁ [] 0 0 := Stand.of_body Bd
  have e0 : s₁.heap = h0 := by rw [← hh, Bd.state]; rfl
  have N0 := Fr.nil n0
  have G : Gets p e below (s₁.setTop (entryFrame m #[(.ref a), (.ref d)] 3)) (s₁.setTop (mkF m 0 #[.val (.ref a), .val (.ref d), .unset] [])) := fun t k => castTop (ef_11i1k1 m a d) k
  replace G := own_aloadN (q := 1) G X0.here hx (hb hby d11_0) rfl rfl rfl
  obtain ⟨c1, Ar1, -, S1, N1', -, -⟩ := id P0
  replace G : Gets p e below _ (s₁.setTop (mkF m 2 #[.val (.ref a), .val (.ref d), .unset] [(.int (3 : Int32))])) := fun t k => G t (X0.arraylength hx (by rw [e0]; exact Ar1.1) (State.isArrayOf_alike hZ.alike Ar1.2.1) (g := (mkF m 1 #[.val (.ref a), .val (.ref d), .unset] [(.ref a)])) rfl rfl (hb hby d11_1) t (by rw [len_of S1 N1']; exact k))
  replace G := own_aloadN (q := 3) G X0.here hx (hb hby d11_2) rfl rfl rfl
  obtain ⟨c2, Ar2, -, S2, N2', -, -⟩ := id P1
  replace G : Gets p e below _ (s₁.setTop (mkF m 4 #[.val (.ref a), .val (.ref d), .unset] [(.int (3 : Int32)), (.int (3 : Int32))])) := fun t k => G t (X0.arraylength hx (by rw [e0]; exact Ar2.1) (State.isArrayOf_alike hZ.alike Ar2.2.1) (g := (mkF m 3 #[.val (.ref a), .val (.ref d), .unset] [(.ref d), (.int (3 : Int32))])) rfl rfl (hb hby d11_3) t (by rw [len_of S2 N2']; exact k))
  have hc4_3 : (3 : Int32) = (3 : Int32) := by decide
  replace G := own_icmpNo (q := 7) G X0.here hx (hb hby d11_4) (teq hc4_3).2 rfl
  replace G := own_iconst (q := 8) G X0.here hx (hb hby d11_7) (v := (0 : Int32)) (by decide) rfl
  replace G := own_istoreN (q := 9) (l' := #[.val (.ref a), .val (.ref d), .val (.int (0 : Int32))]) G X0.here hx (hb hby d11_8) rfl rfl
  replace G := own_iloadN (q := 10) G X0.here hx (hb hby d11_9) rfl rfl
  replace G := own_aloadN (q := 11) G X0.here hx (hb hby d11_10) rfl rfl rfl
  obtain ⟨c4, Ar4, -, S4, N4', -, -⟩ := id P0
  replace G : Gets p e below _ (s₁.setTop (mkF m 12 #[.val (.ref a), .val (.ref d), .val (.int (0 : Int32))] [(.int (3 : Int32)), (.int (0 : Int32))])) := fun t k => G t (X0.arraylength hx (by rw [e0]; exact Ar4.1) (State.isArrayOf_alike hZ.alike Ar4.2.1) (g := (mkF m 11 #[.val (.ref a), .val (.ref d), .val (.int (0 : Int32))] [(.ref a), (.int (0 : Int32))])) rfl rfl (hb hby d11_11) t (by rw [len_of S4 N4']; exact k))
  have hc12_5 : (0 : Int32) < (3 : Int32) := by decide
  replace G := own_icmpNo (q := 15) G X0.here hx (hb hby d11_12) (tlt hc12_5).2.1 rfl
  replace G := own_aloadN (q := 16) G X0.here hx (hb hby d11_15) rfl rfl rfl
  replace G := own_iloadN (q := 17) G X0.here hx (hb hby d11_16) rfl rfl
  obtain ⟨c6, Ar6, -, S6, -, H6, -⟩ := id P0
  have hin6 : ¬ ((0 : Int32) < 0 ∨ c6.slots.size ≤ ((0 : Int32)).toNatClampNeg) := inb_of S6 ⟨by decide, by decide⟩
  replace G : Gets p e below _ (s₁.setTop (mkF m 18 #[.val (.ref a), .val (.ref d), .val (.int (0 : Int32))] [(.int (100 : Int32))])) := fun t k => G t (X0.baloadBytes hx (j := (0 : Int32)) (v := (.int (100 : Int32))) (by rw [e0]; exact Ar6.1) (State.isArrayOf_alike hZ.alike Ar6.2.1) Ar6.2.2 hin6 (Has.at H6 hin6 rfl) (g := (mkF m 17 #[.val (.ref a), .val (.ref d), .val (.int (0 : Int32))] [(.int (0 : Int32)), (.ref a)])) rfl rfl (hb hby d11_17) t k)
  replace G := own_aloadN (q := 19) G X0.here hx (hb hby d11_18) rfl rfl rfl
  replace G := own_iloadN (q := 20) G X0.here hx (hb hby d11_19) rfl rfl
  obtain ⟨c7, Ar7, -, S7, -, H7, -⟩ := id P1
  have hin7 : ¬ ((0 : Int32) < 0 ∨ c7.slots.size ≤ ((0 : Int32)).toNatClampNeg) := inb_of S7 ⟨by decide, by decide⟩
  replace G : Gets p e below _ (s₁.setTop (mkF m 21 #[.val (.ref a), .val (.ref d), .val (.int (0 : Int32))] [(.int (nar .byte ((100 : Int32).toInt8.toInt32))), (.int (100 : Int32))])) := fun t k => G t (X0.baloadBytes hx (j := (0 : Int32)) (v := (.int (nar .byte ((100 : Int32).toInt8.toInt32)))) (by rw [e0]; exact Ar7.1) (State.isArrayOf_alike hZ.alike Ar7.2.1) Ar7.2.2 hin7 (Has.at H7 hin7 rfl) (g := (mkF m 20 #[.val (.ref a), .val (.ref d), .val (.int (0 : Int32))] [(.int (0 : Int32)), (.ref d), (.int (100 : Int32))])) rfl rfl (hb hby d11_20) t k)
  have hc21_8 : (100 : Int32) = (nar .byte ((100 : Int32).toInt8.toInt32)) := by decide
  replace G := own_icmpYes (q := 26) G X0.here hx (hb hby d11_21) (teq hc21_8).1 (by decide) (by decide)
  replace G := own_iinc (q := 29) (l' := #[.val (.ref a), .val (.ref d), .val (.int (1 : Int32))]) (w := (1 : Int32)) G X0.here hx (hb hby d11_26) (by decide) rfl (by decide : ((0 : Int32) + (1 : Int32)) = (1 : Int32)) rfl rfl
  replace G := own_goto (q := 9) G X0.here hx (hb hby d11_29) (by decide) (by decide)
  replace G := own_iloadN (q := 10) G X0.here hx (hb hby d11_9) rfl rfl
  replace G := own_aloadN (q := 11) G X0.here hx (hb hby d11_10) rfl rfl rfl
  obtain ⟨c9, Ar9, -, S9, N9', -, -⟩ := id P0
  replace G : Gets p e below _ (s₁.setTop (mkF m 12 #[.val (.ref a), .val (.ref d), .val (.int (1 : Int32))] [(.int (3 : Int32)), (.int (1 : Int32))])) := fun t k => G t (X0.arraylength hx (by rw [e0]; exact Ar9.1) (State.isArrayOf_alike hZ.alike Ar9.2.1) (g := (mkF m 11 #[.val (.ref a), .val (.ref d), .val (.int (1 : Int32))] [(.ref a), (.int (1 : Int32))])) rfl rfl (hb hby d11_11) t (by rw [len_of S9 N9']; exact k))
  have hc12_10 : (1 : Int32) < (3 : Int32) := by decide
  replace G := own_icmpNo (q := 15) G X0.here hx (hb hby d11_12) (tlt hc12_10).2.1 rfl
  replace G := own_aloadN (q := 16) G X0.here hx (hb hby d11_15) rfl rfl rfl
  replace G := own_iloadN (q := 17) G X0.here hx (hb hby d11_16) rfl rfl
  obtain ⟨c11, Ar11, -, S11, -, H11, -⟩ := id P0
  have hin11 : ¬ ((1 : Int32) < 0 ∨ c11.slots.size ≤ ((1 : Int32)).toNatClampNeg) := inb_of S11 ⟨by decide, by decide⟩
  replace G : Gets p e below _ (s₁.setTop (mkF m 18 #[.val (.ref a), .val (.ref d), .val (.int (1 : Int32))] [(.int (97 : Int32))])) := fun t k => G t (X0.baloadBytes hx (j := (1 : Int32)) (v := (.int (97 : Int32))) (by rw [e0]; exact Ar11.1) (State.isArrayOf_alike hZ.alike Ar11.2.1) Ar11.2.2 hin11 (Has.at H11 hin11 rfl) (g := (mkF m 17 #[.val (.ref a), .val (.ref d), .val (.int (1 : Int32))] [(.int (1 : Int32)), (.ref a)])) rfl rfl (hb hby d11_17) t k)
  replace G := own_aloadN (q := 19) G X0.here hx (hb hby d11_18) rfl rfl rfl
  replace G := own_iloadN (q := 20) G X0.here hx (hb hby d11_19) rfl rfl
  obtain ⟨c12, Ar12, -, S12, -, H12, -⟩ := id P1
  have hin12 : ¬ ((1 : Int32) < 0 ∨ c12.slots.size ≤ ((1 : Int32)).toNatClampNeg) := inb_of S12 ⟨by decide, by decide⟩
  replace G : Gets p e below _ (s₁.setTop (mkF m 21 #[.val (.ref a), .val (.ref d), .val (.int (1 : Int32))] [(.int (nar .byte ((97 : Int32).toInt8.toInt32))), (.int (97 : Int32))])) := fun t k => G t (X0.baloadBytes hx (j := (1 : Int32)) (v := (.int (nar .byte ((97 : Int32).toInt8.toInt32)))) (by rw [e0]; exact Ar12.1) (State.isArrayOf_alike hZ.alike Ar12.2.1) Ar12.2.2 hin12 (Has.at H12 hin12 rfl) (g := (mkF m 20 #[.val (.ref a), .val (.ref d), .val (.int (1 : Int32))] [(.int (1 : Int32)), (.ref d), (.int (97 : Int32))])) rfl rfl (hb hby d11_20) t k)
  have hc21_13 : (97 : Int32) = (nar .byte ((97 : Int32).toInt8.toInt32)) := by decide
  replace G := own_icmpYes (q := 26) G X0.here hx (hb hby d11_21) (teq hc21_13).1 (by decide) (by decide)
  replace G := own_iinc (q := 29) (l' := #[.val (.ref a), .val (.ref d), .val (.int (2 : Int32))]) (w := (1 : Int32)) G X0.here hx (hb hby d11_26) (by decide) rfl (by decide : ((1 : Int32) + (1 : Int32)) = (2 : Int32)) rfl rfl
  replace G := own_goto (q := 9) G X0.here hx (hb hby d11_29) (by decide) (by decide)
  replace G := own_iloadN (q := 10) G X0.here hx (hb hby d11_9) rfl rfl
  replace G := own_aloadN (q := 11) G X0.here hx (hb hby d11_10) rfl rfl rfl
  obtain ⟨c14, Ar14, -, S14, N14', -, -⟩ := id P0
  replace G : Gets p e below _ (s₁.setTop (mkF m 12 #[.val (.ref a), .val (.ref d), .val (.int (2 : Int32))] [(.int (3 : Int32)), (.int (2 : Int32))])) := fun t k => G t (X0.arraylength hx (by rw [e0]; exact Ar14.1) (State.isArrayOf_alike hZ.alike Ar14.2.1) (g := (mkF m 11 #[.val (.ref a), .val (.ref d), .val (.int (2 : Int32))] [(.ref a), (.int (2 : Int32))])) rfl rfl (hb hby d11_11) t (by rw [len_of S14 N14']; exact k))
  have hc12_15 : (2 : Int32) < (3 : Int32) := by decide
  replace G := own_icmpNo (q := 15) G X0.here hx (hb hby d11_12) (tlt hc12_15).2.1 rfl
  replace G := own_aloadN (q := 16) G X0.here hx (hb hby d11_15) rfl rfl rfl
  replace G := own_iloadN (q := 17) G X0.here hx (hb hby d11_16) rfl rfl
  obtain ⟨c16, Ar16, -, S16, -, H16, -⟩ := id P0
  have hin16 : ¬ ((2 : Int32) < 0 ∨ c16.slots.size ≤ ((2 : Int32)).toNatClampNeg) := inb_of S16 ⟨by decide, by decide⟩
  replace G : Gets p e below _ (s₁.setTop (mkF m 18 #[.val (.ref a), .val (.ref d), .val (.int (2 : Int32))] [(.int (121 : Int32))])) := fun t k => G t (X0.baloadBytes hx (j := (2 : Int32)) (v := (.int (121 : Int32))) (by rw [e0]; exact Ar16.1) (State.isArrayOf_alike hZ.alike Ar16.2.1) Ar16.2.2 hin16 (Has.at H16 hin16 rfl) (g := (mkF m 17 #[.val (.ref a), .val (.ref d), .val (.int (2 : Int32))] [(.int (2 : Int32)), (.ref a)])) rfl rfl (hb hby d11_17) t k)
  replace G := own_aloadN (q := 19) G X0.here hx (hb hby d11_18) rfl rfl rfl
  replace G := own_iloadN (q := 20) G X0.here hx (hb hby d11_19) rfl rfl
  obtain ⟨c17, Ar17, -, S17, -, H17, -⟩ := id P1
  have hin17 : ¬ ((2 : Int32) < 0 ∨ c17.slots.size ≤ ((2 : Int32)).toNatClampNeg) := inb_of S17 ⟨by decide, by decide⟩
  replace G : Gets p e below _ (s₁.setTop (mkF m 21 #[.val (.ref a), .val (.ref d), .val (.int (2 : Int32))] [(.int (nar .byte ((121 : Int32).toInt8.toInt32))), (.int (121 : Int32))])) := fun t k => G t (X0.baloadBytes hx (j := (2 : Int32)) (v := (.int (nar .byte ((121 : Int32).toInt8.toInt32)))) (by rw [e0]; exact Ar17.1) (State.isArrayOf_alike hZ.alike Ar17.2.1) Ar17.2.2 hin17 (Has.at H17 hin17 rfl) (g := (mkF m 20 #[.val (.ref a), .val (.ref d), .val (.int (2 : Int32))] [(.int (2 : Int32)), (.ref d), (.int (121 : Int32))])) rfl rfl (hb hby d11_20) t k)
  have hc21_18 : (121 : Int32) = (nar .byte ((121 : Int32).toInt8.toInt32)) := by decide
  replace G := own_icmpYes (q := 26) G X0.here hx (hb hby d11_21) (teq hc21_18).1 (by decide) (by decide)
  replace G := own_iinc (q := 29) (l' := #[.val (.ref a), .val (.ref d), .val (.int (3 : Int32))]) (w := (1 : Int32)) G X0.here hx (hb hby d11_26) (by decide) rfl (by decide : ((2 : Int32) + (1 : Int32)) = (3 : Int32)) rfl rfl
  replace G := own_goto (q := 9) G X0.here hx (hb hby d11_29) (by decide) (by decide)
  replace G := own_iloadN (q := 10) G X0.here hx (hb hby d11_9) rfl rfl
  replace G := own_aloadN (q := 11) G X0.here hx (hb hby d11_10) rfl rfl rfl
  obtain ⟨c19, Ar19, -, S19, N19', -, -⟩ := id P0
  replace G : Gets p e below _ (s₁.setTop (mkF m 12 #[.val (.ref a), .val (.ref d), .val (.int (3 : Int32))] [(.int (3 : Int32)), (.int (3 : Int32))])) := fun t k => G t (X0.arraylength hx (by rw [e0]; exact Ar19.1) (State.isArrayOf_alike hZ.alike Ar19.2.1) (g := (mkF m 11 #[.val (.ref a), .val (.ref d), .val (.int (3 : Int32))] [(.ref a), (.int (3 : Int32))])) rfl rfl (hb hby d11_11) t (by rw [len_of S19 N19']; exact k))
  have hc12_20 : ¬ ((3 : Int32) < (3 : Int32)) := by decide
  replace G := own_icmpYes (q := 32) G X0.here hx (hb hby d11_12) (flt hc12_20).2.1 (by decide) (by decide)
  replace G := own_iconst (q := 33) G X0.here hx (hb hby d11_32) (v := (1 : Int32)) (by decide) rfl
  obtain ⟨fs, hr, hrun, hended, hW, hsame⟩ := X0.leave (v := some (.int (1 : Int32))) (fun h => by rw [Bd.returns] at h; cases h)
  refine ⟨_, _, G _ (retOut X0 hx Bd.returns rfl (Or.inl ⟨rfl, Or.inr (Or.inl rfl), _, rfl⟩) (hb hby d11_33) hr), hrun, hended, _, _, rfl, ?_, ⟨_, rfl⟩, hW, hsame.mono (by decide) (by decide)⟩
  show Q11i1k1 Z a d k1 k2 h0 n0 _ s₁.heap _
  rw [e0]
  exact ⟨rfl, N0, rfl⟩
theorem ef_10i1k1 (m : MethodId) (x0 : Addr) (x1 : Addr) : entryFrame m #[(.ref x0), (.ref x1)] 3 = mkF m 0 #[.val (.ref x0), .val (.ref x1), .unset] [] := by first | (simp [entryFrame, mkF, argsToLocals, Value.category]; done) | rfl
def Q10i1k1 (Z : State) (a : Addr) (d : Addr) (x : Addr) (y : Addr) (k1 : ClassId) (k2 : ClassId) (cw : Int32) (h0 : Heap) (n0 : Nat) (v : Option Value) (h : Heap) (L : List Loc) : Prop := v = some (.int (1 : Int32)) ∧ Fr n0 L ∧ h = h0
set_option maxRecDepth 65536 in
set_option maxHeartbeats 40000000 in
theorem rm10i1k1 (l : Launch) (Z : State) (a0 : Array Value) (hw : ∀ d ∈ tables_1, d.before a0 Z = true) (ws : List Jvm.Cond) (a : Addr) (d : Addr) (x : Addr) (y : Addr) (k1 : ClassId) (k2 : ClassId) (cw : Int32) (h0 : Heap) (n0 : Nat) (Z0 : n0 ≤ h0.size) (P0 : Fld Z h0 a "java/lang/String" "coder" "B" (.int (0 : Int32))) (P1 : Fld Z h0 d "java/lang/String" "coder" "B" (.int (0 : Int32))) (P2 : Fld Z h0 a "java/lang/String" "value" "[B" (.ref x)) (P3 : Fld Z h0 d "java/lang/String" "value" "[B" (.ref y)) (P4 : Exa Z h0 d "java/lang/String") (P5 : Arv Z h0 x k1 .byte (3 : Int32) [(.int (100 : Int32)), (.int (97 : Int32)), (.int (121 : Int32))] (.int (0 : Int32))) (P6 : Arv Z h0 y k2 .byte (3 : Int32) [(.int (nar .byte ((100 : Int32).toInt8.toInt32))), (.int (nar .byte ((97 : Int32).toInt8.toInt32))), (.int (nar .byte ((121 : Int32).toInt8.toInt32)))] (.int (0 : Int32))) (P7 : Sta Z h0 "java/lang/String" "COMPACT_STRINGS" "Z" (.int cw)) (hcw : ¬ cw = (0 : Int32)) (P9 : a ≠ d) :
    MetFree l (⟨"java/lang/String", "equals", "(Ljava/lang/Object;)Z"⟩ : MethodName) (head1 (Jvm.Cond.code (⟨"java/lang/String", "equals", "(Ljava/lang/Object;)Z"⟩ : MethodName) jdk_42_method_66_code 3 (some .boolean) :: ws) ({ frames := 1, cells := 0, slots := 0, locals := 14 } : Room)) (fun argz U => argz = #[(.ref a), (.ref d)] ∧ Z.Warmed39 U.vm ∧ U.heap = h0) (fun _ _ _ _ _ => True) (fun _ U o U' => ∃ v L, o = .returned v ∧ Q10i1k1 Z a d x y k1 k2 cw h0 n0 v U'.heap L ∧ FrameEnd U o U' L ({ frames := 1, cells := 0, slots := 0, locals := 14 } : Room).cells ({ frames := 1, cells := 0, slots := 0, locals := 14 } : Room).slots) := by
  refine MetFree.of_bodySF (plainFor_of_name pn_java_lang_String) hisR ?_
  intro p e s m args below meth c s₁ Bd hml0 hP hK
  obtain ⟨rfl, hZ, hh⟩ := hP
  have hx := Bd.exec
  have hby := Bd.bytes
  have hml : c.maxLocals = 3 := hml0
  have hown : s.vm.findClass "java/lang/String" = some m.cls := findClass_of_methodNamed Bd.named
  have hnm := (name_of_methodNamed Bd.named Bd.method).1
  have X0 : Stand p l e ({ frames := 1, cells := 0, slots := 0, locals := 14 } : Room) s m #[(.ref a), (.ref d)] below meth c s₁ [] 0 0 := Stand.of_body Bd
  have e0 : s₁.heap = h0 := by rw [← hh, Bd.state]; rfl
  have N0 := Fr.nil n0
  have G : Gets p e below (s₁.setTop (entryFrame m #[(.ref a), (.ref d)] 3)) (s₁.setTop (mkF m 0 #[.val (.ref a), .val (.ref d), .unset] [])) := fun t k => castTop (ef_10i1k1 m a d) k
  replace G := own_aloadN (q := 1) G X0.here hx (hb hby d10_0) rfl rfl rfl
  replace G := own_aloadN (q := 2) G X0.here hx (hb hby d10_1) rfl rfl rfl
  replace G : Gets p e below _ (s₁.setTop (mkF m 7 #[.val (.ref a), .val (.ref d), .unset] [])) := fun t k => G t (Jvm.RoadKit.acmp (g := (mkF m 2 #[.val (.ref a), .val (.ref d), .unset] [(.ref d), (.ref a)])) X0 hx rfl rfl rfl (pc0 := 2) (pc' := 7) (same := false) rfl (hb hby d10_2) rfl (decide_eq_false fun q => P9 (Value.ref.inj q)) (by decide) (by decide) k)
  replace G := own_aloadN (q := 8) G X0.here hx (hb hby d10_7) rfl rfl rfl
  obtain ⟨T1, X1, e1, st1⟩ := instY X0 hx hZ hown (hw _ (List.mem_of_getElem? (i := 68) rfl)) e0 (Ins.self P4) (g := (mkF m 8 #[.val (.ref a), .val (.ref d), .unset] [(.ref d)])) rfl rfl (hb hby d10_8)
  replace G : Gets p e below _ (T1.setTop (mkF m 11 #[.val (.ref a), .val (.ref d), .unset] [(.int (1 : Int32))])) := fun t k => G t (st1 t k)
  have hc11_2 : ¬ ((1 : Int32) = (0 : Int32)) := by decide
  replace G := own_ifNo (q := 14) G X1.here hx (hb hby d10_11) ((if0 _ _).trans (feq hc11_2).1) rfl
  replace G := own_aloadN (q := 15) G X1.here hx (hb hby d10_14) rfl rfl rfl
  obtain ⟨T3, X3, e3, st3⟩ := castY X1 hx hZ hown (hw _ (List.mem_of_getElem? (i := 68) rfl)) e1 (Ins.self P4) (g := (mkF m 15 #[.val (.ref a), .val (.ref d), .unset] [(.ref d)])) rfl rfl (hb hby d10_15)
  replace G : Gets p e below _ (T3.setTop (mkF m 18 #[.val (.ref a), .val (.ref d), .unset] [(.ref d)])) := fun t k => G t (st3 t k)
  replace G := own_astoreN (q := 19) (l' := #[.val (.ref a), .val (.ref d), .val (.ref d)]) G X3.here hx (hb hby d10_18) rfl rfl rfl
  obtain ⟨T4, X4, e4, st4⟩ := getS2 X3 hx hZ hown (host := "") (Or.inl (hw _ (List.mem_of_getElem? (i := 18) rfl))) Via.refl e3 P7 (g := (mkF m 19 #[.val (.ref a), .val (.ref d), .val (.ref d)] [])) rfl (hb hby d10_19)
  replace G : Gets p e below _ (T4.setTop (mkF m 22 #[.val (.ref a), .val (.ref d), .val (.ref d)] [(.int cw)])) := fun t k => G t (st4 t k)
  have hc22_5 : ¬ (cw = (0 : Int32)) := hcw
  replace G := own_ifNo (q := 25) G X4.here hx (hb hby d10_22) ((if0 _ _).trans (feq hc22_5).1) rfl
  replace G := own_aloadN (q := 26) G X4.here hx (hb hby d10_25) rfl rfl rfl
  obtain ⟨T6, X6, e6, st6⟩ := getF X4 hx hZ hown (host := "") (Or.inl (hw _ (List.mem_of_getElem? (i := 30) rfl))) Via.refl e4 P0 (g := (mkF m 26 #[.val (.ref a), .val (.ref d), .val (.ref d)] [(.ref a)])) rfl rfl (hb hby d10_26)
  replace G : Gets p e below _ (T6.setTop (mkF m 29 #[.val (.ref a), .val (.ref d), .val (.ref d)] [(.int (0 : Int32))])) := fun t k => G t (st6 t k)
  replace G := own_aloadN (q := 30) G X6.here hx (hb hby d10_29) rfl rfl rfl
  obtain ⟨T7, X7, e7, st7⟩ := getF X6 hx hZ hown (host := "") (Or.inl (hw _ (List.mem_of_getElem? (i := 30) rfl))) Via.refl e6 P1 (g := (mkF m 30 #[.val (.ref a), .val (.ref d), .val (.ref d)] [(.ref d), (.int (0 : Int32))])) rfl rfl (hb hby d10_30)
  replace G : Gets p e below _ (T7.setTop (mkF m 33 #[.val (.ref a), .val (.ref d), .val (.ref d)] [(.int (0 : Int32)), (.int (0 : Int32))])) := fun t k => G t (st7 t k)
  have hc33_8 : (0 : Int32) = (0 : Int32) := by decide
  replace G := own_icmpNo (q := 36) G X7.here hx (hb hby d10_33) (teq hc33_8).2 rfl
  replace G := own_aloadN (q := 37) G X7.here hx (hb hby d10_36) rfl rfl rfl
  obtain ⟨T9, X9, e9, st9⟩ := getF X7 hx hZ hown (host := "") (Or.inl (hw _ (List.mem_of_getElem? (i := 32) rfl))) Via.refl e7 P2 (g := (mkF m 37 #[.val (.ref a), .val (.ref d), .val (.ref d)] [(.ref a)])) rfl rfl (hb hby d10_37)
  replace G : Gets p e below _ (T9.setTop (mkF m 40 #[.val (.ref a), .val (.ref d), .val (.ref d)] [(.ref x)])) := fun t k => G t (st9 t k)
  replace G := own_aloadN (q := 41) G X9.here hx (hb hby d10_40) rfl rfl rfl
  obtain ⟨T10, X10, e10, st10⟩ := getF X9 hx hZ hown (host := "") (Or.inl (hw _ (List.mem_of_getElem? (i := 32) rfl))) Via.refl e9 P3 (g := (mkF m 41 #[.val (.ref a), .val (.ref d), .val (.ref d)] [(.ref d), (.ref x)])) rfl rfl (hb hby d10_41)
  replace G : Gets p e below _ (T10.setTop (mkF m 44 #[.val (.ref a), .val (.ref d), .val (.ref d)] [(.ref y), (.ref x)])) := fun t k => G t (st10 t k)
  obtain ⟨_, _, ⟨T11, L11, kk11, nn11⟩, -, X11, ⟨Lc11, hQ11, l11, y11, z11⟩, st11⟩ := Jvm.LawKit.callS X10 hx (y := (⟨"java/lang/StringLatin1", "equals", "([B[B)Z"⟩ : MethodName)) hown (mvT hZ (hw _ (List.mem_of_getElem? (i := 69) rfl))) (mvT hZ (hw _ (List.mem_of_getElem? (i := 70) rfl))) (mvT hZ (hw _ (List.mem_of_getElem? (i := 71) rfl))) (mvT hZ (hw _ (List.mem_of_getElem? (i := 72) rfl))) (by decide) (backOf (W := 0) (rm11i1k1 l Z a0 hw [] x y k1 k2 h0 n0 Z0 P5 P6) hZ (hw _ (List.mem_of_getElem? (i := 72) rfl)) (hw _ (List.mem_of_getElem? (i := 71) rfl)) (by decide) (by decide)) (g := (mkF m 44 #[.val (.ref a), .val (.ref d), .val (.ref d)] [(.ref y), (.ref x)])) rfl (by rw [hml]; rfl) (argsL := [(.ref x), (.ref y)]) (rest := []) (lenOf pd_4 rfl) rfl (by show 2 * 0 + _ ≤ _; exact Nat.le_of_eq rfl) (hb hby d10_44) (fun _ _ => ⟨rfl, e10, (by decide : 0 + 0 ≤ _), (by decide : 0 + 0 ≤ _)⟩)
  dsimp only [Pt.U, Pt.locs, Pt.cells, Pt.slots] at X11 l11 y11 z11 st11 hQ11
  subst l11 y11 z11
  obtain ⟨rfl, N11q, e11⟩ := hQ11
  have N11 := Fr.app N0 N11q
  replace G : Gets p e below _ (T11.setTop (mkF m 47 #[.val (.ref a), .val (.ref d), .val (.ref d)] [(.int (1 : Int32))])) := fun t k => G t (st11 t k)
  have hc47_12 : ¬ ((1 : Int32) = (0 : Int32)) := by decide
  replace G := own_ifNo (q := 50) G X11.here hx (hb hby d10_47) ((if0 _ _).trans (feq hc47_12).1) rfl
  replace G := own_iconst (q := 51) G X11.here hx (hb hby d10_50) (v := (1 : Int32)) (by decide) rfl
  replace G := own_goto (q := 55) G X11.here hx (hb hby d10_51) (by decide) (by decide)
  obtain ⟨fs, hr, hrun, hended, hW, hsame⟩ := X11.leave (v := some (.int (1 : Int32))) (fun h => by rw [Bd.returns] at h; cases h)
  refine ⟨_, _, G _ (retOut X11 hx Bd.returns rfl (Or.inl ⟨rfl, Or.inr (Or.inl rfl), _, rfl⟩) (hb hby d10_55) hr), hrun, hended, _, _, rfl, ?_, ⟨_, rfl⟩, hW, hsame.mono (by decide) (by decide)⟩
  show Q10i1k1 Z a d x y k1 k2 cw h0 n0 _ T11.heap _
  rw [e11]
  exact ⟨rfl, N11, rfl⟩
theorem ef_11i1k2 (m : MethodId) (x0 : Addr) (x1 : Addr) : entryFrame m #[(.ref x0), (.ref x1)] 3 = mkF m 0 #[.val (.ref x0), .val (.ref x1), .unset] [] := by first | (simp [entryFrame, mkF, argsToLocals, Value.category]; done) | rfl
def Q11i1k2 (Z : State) (a : Addr) (d : Addr) (k1 : ClassId) (k2 : ClassId) (h0 : Heap) (n0 : Nat) (v : Option Value) (h : Heap) (L : List Loc) : Prop := v = some (.int (0 : Int32)) ∧ Fr n0 L ∧ h = h0
set_option maxRecDepth 65536 in
set_option maxHeartbeats 40000000 in
theorem rm11i1k2 (l : Launch) (Z : State) (a0 : Array Value) (hw : ∀ d ∈ tables_1, d.before a0 Z = true) (ws : List Jvm.Cond) (a : Addr) (d : Addr) (k1 : ClassId) (k2 : ClassId) (h0 : Heap) (n0 : Nat) (Z0 : n0 ≤ h0.size) (P0 : Arv Z h0 a k1 .byte (3 : Int32) [(.int (100 : Int32)), (.int (97 : Int32)), (.int (121 : Int32))] (.int (0 : Int32))) (P1 : Arv Z h0 d k2 .byte (5 : Int32) [(.int (nar .byte ((116 : Int32).toInt8.toInt32))), (.int (nar .byte ((111 : Int32).toInt8.toInt32))), (.int (nar .byte ((116 : Int32).toInt8.toInt32))), (.int (nar .byte ((97 : Int32).toInt8.toInt32))), (.int (nar .byte ((108 : Int32).toInt8.toInt32)))] (.int (0 : Int32))) :
    MetFree l (⟨"java/lang/StringLatin1", "equals", "([B[B)Z"⟩ : MethodName) (head1 (Jvm.Cond.code (⟨"java/lang/StringLatin1", "equals", "([B[B)Z"⟩ : MethodName) jdk_43_method_13_code 3 (some .boolean) :: ws) ({ frames := 0, cells := 0, slots := 0, locals := 0 } : Room)) (fun argz U => argz = #[(.ref a), (.ref d)] ∧ Z.Warmed39 U.vm ∧ U.heap = h0) (fun _ _ _ _ _ => True) (fun _ U o U' => ∃ v L, o = .returned v ∧ Q11i1k2 Z a d k1 k2 h0 n0 v U'.heap L ∧ FrameEnd U o U' L ({ frames := 0, cells := 0, slots := 0, locals := 0 } : Room).cells ({ frames := 0, cells := 0, slots := 0, locals := 0 } : Room).slots) := by
  refine MetFree.of_bodySF (plainFor_of_name pn_java_lang_StringLatin1) hisR ?_
  intro p e s m args below meth c s₁ Bd hml0 hP hK
  obtain ⟨rfl, hZ, hh⟩ := hP
  have hx := Bd.exec
  have hby := Bd.bytes
  have hml : c.maxLocals = 3 := hml0
  have hown : s.vm.findClass "java/lang/StringLatin1" = some m.cls := findClass_of_methodNamed Bd.named
  have hnm := (name_of_methodNamed Bd.named Bd.method).1
  have X0 : Stand p l e ({ frames := 0, cells := 0, slots := 0, locals := 0 } : Room) s m #[(.ref a), (.ref d)] below meth c s₁ [] 0 0 := Stand.of_body Bd
  have e0 : s₁.heap = h0 := by rw [← hh, Bd.state]; rfl
  have N0 := Fr.nil n0
  have G : Gets p e below (s₁.setTop (entryFrame m #[(.ref a), (.ref d)] 3)) (s₁.setTop (mkF m 0 #[.val (.ref a), .val (.ref d), .unset] [])) := fun t k => castTop (ef_11i1k2 m a d) k
  replace G := own_aloadN (q := 1) G X0.here hx (hb hby d11_0) rfl rfl rfl
  obtain ⟨c1, Ar1, -, S1, N1', -, -⟩ := id P0
  replace G : Gets p e below _ (s₁.setTop (mkF m 2 #[.val (.ref a), .val (.ref d), .unset] [(.int (3 : Int32))])) := fun t k => G t (X0.arraylength hx (by rw [e0]; exact Ar1.1) (State.isArrayOf_alike hZ.alike Ar1.2.1) (g := (mkF m 1 #[.val (.ref a), .val (.ref d), .unset] [(.ref a)])) rfl rfl (hb hby d11_1) t (by rw [len_of S1 N1']; exact k))
  replace G := own_aloadN (q := 3) G X0.here hx (hb hby d11_2) rfl rfl rfl
  obtain ⟨c2, Ar2, -, S2, N2', -, -⟩ := id P1
  replace G : Gets p e below _ (s₁.setTop (mkF m 4 #[.val (.ref a), .val (.ref d), .unset] [(.int (5 : Int32)), (.int (3 : Int32))])) := fun t k => G t (X0.arraylength hx (by rw [e0]; exact Ar2.1) (State.isArrayOf_alike hZ.alike Ar2.2.1) (g := (mkF m 3 #[.val (.ref a), .val (.ref d), .unset] [(.ref d), (.int (3 : Int32))])) rfl rfl (hb hby d11_3) t (by rw [len_of S2 N2']; exact k))
  have hc4_3 : ¬ ((3 : Int32) = (5 : Int32)) := by decide
  replace G := own_icmpYes (q := 34) G X0.here hx (hb hby d11_4) (feq hc4_3).2 (by decide) (by decide)
  replace G := own_iconst (q := 35) G X0.here hx (hb hby d11_34) (v := (0 : Int32)) (by decide) rfl
  obtain ⟨fs, hr, hrun, hended, hW, hsame⟩ := X0.leave (v := some (.int (0 : Int32))) (fun h => by rw [Bd.returns] at h; cases h)
  refine ⟨_, _, G _ (retOut X0 hx Bd.returns rfl (Or.inl ⟨rfl, Or.inr (Or.inl rfl), _, rfl⟩) (hb hby d11_35) hr), hrun, hended, _, _, rfl, ?_, ⟨_, rfl⟩, hW, hsame.mono (by decide) (by decide)⟩
  show Q11i1k2 Z a d k1 k2 h0 n0 _ s₁.heap _
  rw [e0]
  exact ⟨rfl, N0, rfl⟩
theorem ef_10i1k2 (m : MethodId) (x0 : Addr) (x1 : Addr) : entryFrame m #[(.ref x0), (.ref x1)] 3 = mkF m 0 #[.val (.ref x0), .val (.ref x1), .unset] [] := by first | (simp [entryFrame, mkF, argsToLocals, Value.category]; done) | rfl
def Q10i1k2 (Z : State) (a : Addr) (d : Addr) (x : Addr) (y : Addr) (k1 : ClassId) (k2 : ClassId) (cw : Int32) (h0 : Heap) (n0 : Nat) (v : Option Value) (h : Heap) (L : List Loc) : Prop := v = some (.int (0 : Int32)) ∧ Fr n0 L ∧ h = h0
set_option maxRecDepth 65536 in
set_option maxHeartbeats 40000000 in
theorem rm10i1k2 (l : Launch) (Z : State) (a0 : Array Value) (hw : ∀ d ∈ tables_1, d.before a0 Z = true) (ws : List Jvm.Cond) (a : Addr) (d : Addr) (x : Addr) (y : Addr) (k1 : ClassId) (k2 : ClassId) (cw : Int32) (h0 : Heap) (n0 : Nat) (Z0 : n0 ≤ h0.size) (P0 : Fld Z h0 a "java/lang/String" "coder" "B" (.int (0 : Int32))) (P1 : Fld Z h0 d "java/lang/String" "coder" "B" (.int (0 : Int32))) (P2 : Fld Z h0 a "java/lang/String" "value" "[B" (.ref x)) (P3 : Fld Z h0 d "java/lang/String" "value" "[B" (.ref y)) (P4 : Exa Z h0 d "java/lang/String") (P5 : Arv Z h0 x k1 .byte (3 : Int32) [(.int (100 : Int32)), (.int (97 : Int32)), (.int (121 : Int32))] (.int (0 : Int32))) (P6 : Arv Z h0 y k2 .byte (5 : Int32) [(.int (nar .byte ((116 : Int32).toInt8.toInt32))), (.int (nar .byte ((111 : Int32).toInt8.toInt32))), (.int (nar .byte ((116 : Int32).toInt8.toInt32))), (.int (nar .byte ((97 : Int32).toInt8.toInt32))), (.int (nar .byte ((108 : Int32).toInt8.toInt32)))] (.int (0 : Int32))) (P7 : Sta Z h0 "java/lang/String" "COMPACT_STRINGS" "Z" (.int cw)) (hcw : ¬ cw = (0 : Int32)) (P9 : a ≠ d) :
    MetFree l (⟨"java/lang/String", "equals", "(Ljava/lang/Object;)Z"⟩ : MethodName) (head1 (Jvm.Cond.code (⟨"java/lang/String", "equals", "(Ljava/lang/Object;)Z"⟩ : MethodName) jdk_42_method_66_code 3 (some .boolean) :: ws) ({ frames := 1, cells := 0, slots := 0, locals := 14 } : Room)) (fun argz U => argz = #[(.ref a), (.ref d)] ∧ Z.Warmed39 U.vm ∧ U.heap = h0) (fun _ _ _ _ _ => True) (fun _ U o U' => ∃ v L, o = .returned v ∧ Q10i1k2 Z a d x y k1 k2 cw h0 n0 v U'.heap L ∧ FrameEnd U o U' L ({ frames := 1, cells := 0, slots := 0, locals := 14 } : Room).cells ({ frames := 1, cells := 0, slots := 0, locals := 14 } : Room).slots) := by
  refine MetFree.of_bodySF (plainFor_of_name pn_java_lang_String) hisR ?_
  intro p e s m args below meth c s₁ Bd hml0 hP hK
  obtain ⟨rfl, hZ, hh⟩ := hP
  have hx := Bd.exec
  have hby := Bd.bytes
  have hml : c.maxLocals = 3 := hml0
  have hown : s.vm.findClass "java/lang/String" = some m.cls := findClass_of_methodNamed Bd.named
  have hnm := (name_of_methodNamed Bd.named Bd.method).1
  have X0 : Stand p l e ({ frames := 1, cells := 0, slots := 0, locals := 14 } : Room) s m #[(.ref a), (.ref d)] below meth c s₁ [] 0 0 := Stand.of_body Bd
  have e0 : s₁.heap = h0 := by rw [← hh, Bd.state]; rfl
  have N0 := Fr.nil n0
  have G : Gets p e below (s₁.setTop (entryFrame m #[(.ref a), (.ref d)] 3)) (s₁.setTop (mkF m 0 #[.val (.ref a), .val (.ref d), .unset] [])) := fun t k => castTop (ef_10i1k2 m a d) k
  replace G := own_aloadN (q := 1) G X0.here hx (hb hby d10_0) rfl rfl rfl
  replace G := own_aloadN (q := 2) G X0.here hx (hb hby d10_1) rfl rfl rfl
  replace G : Gets p e below _ (s₁.setTop (mkF m 7 #[.val (.ref a), .val (.ref d), .unset] [])) := fun t k => G t (Jvm.RoadKit.acmp (g := (mkF m 2 #[.val (.ref a), .val (.ref d), .unset] [(.ref d), (.ref a)])) X0 hx rfl rfl rfl (pc0 := 2) (pc' := 7) (same := false) rfl (hb hby d10_2) rfl (decide_eq_false fun q => P9 (Value.ref.inj q)) (by decide) (by decide) k)
  replace G := own_aloadN (q := 8) G X0.here hx (hb hby d10_7) rfl rfl rfl
  obtain ⟨T1, X1, e1, st1⟩ := instY X0 hx hZ hown (hw _ (List.mem_of_getElem? (i := 68) rfl)) e0 (Ins.self P4) (g := (mkF m 8 #[.val (.ref a), .val (.ref d), .unset] [(.ref d)])) rfl rfl (hb hby d10_8)
  replace G : Gets p e below _ (T1.setTop (mkF m 11 #[.val (.ref a), .val (.ref d), .unset] [(.int (1 : Int32))])) := fun t k => G t (st1 t k)
  have hc11_2 : ¬ ((1 : Int32) = (0 : Int32)) := by decide
  replace G := own_ifNo (q := 14) G X1.here hx (hb hby d10_11) ((if0 _ _).trans (feq hc11_2).1) rfl
  replace G := own_aloadN (q := 15) G X1.here hx (hb hby d10_14) rfl rfl rfl
  obtain ⟨T3, X3, e3, st3⟩ := castY X1 hx hZ hown (hw _ (List.mem_of_getElem? (i := 68) rfl)) e1 (Ins.self P4) (g := (mkF m 15 #[.val (.ref a), .val (.ref d), .unset] [(.ref d)])) rfl rfl (hb hby d10_15)
  replace G : Gets p e below _ (T3.setTop (mkF m 18 #[.val (.ref a), .val (.ref d), .unset] [(.ref d)])) := fun t k => G t (st3 t k)
  replace G := own_astoreN (q := 19) (l' := #[.val (.ref a), .val (.ref d), .val (.ref d)]) G X3.here hx (hb hby d10_18) rfl rfl rfl
  obtain ⟨T4, X4, e4, st4⟩ := getS2 X3 hx hZ hown (host := "") (Or.inl (hw _ (List.mem_of_getElem? (i := 18) rfl))) Via.refl e3 P7 (g := (mkF m 19 #[.val (.ref a), .val (.ref d), .val (.ref d)] [])) rfl (hb hby d10_19)
  replace G : Gets p e below _ (T4.setTop (mkF m 22 #[.val (.ref a), .val (.ref d), .val (.ref d)] [(.int cw)])) := fun t k => G t (st4 t k)
  have hc22_5 : ¬ (cw = (0 : Int32)) := hcw
  replace G := own_ifNo (q := 25) G X4.here hx (hb hby d10_22) ((if0 _ _).trans (feq hc22_5).1) rfl
  replace G := own_aloadN (q := 26) G X4.here hx (hb hby d10_25) rfl rfl rfl
  obtain ⟨T6, X6, e6, st6⟩ := getF X4 hx hZ hown (host := "") (Or.inl (hw _ (List.mem_of_getElem? (i := 30) rfl))) Via.refl e4 P0 (g := (mkF m 26 #[.val (.ref a), .val (.ref d), .val (.ref d)] [(.ref a)])) rfl rfl (hb hby d10_26)
  replace G : Gets p e below _ (T6.setTop (mkF m 29 #[.val (.ref a), .val (.ref d), .val (.ref d)] [(.int (0 : Int32))])) := fun t k => G t (st6 t k)
  replace G := own_aloadN (q := 30) G X6.here hx (hb hby d10_29) rfl rfl rfl
  obtain ⟨T7, X7, e7, st7⟩ := getF X6 hx hZ hown (host := "") (Or.inl (hw _ (List.mem_of_getElem? (i := 30) rfl))) Via.refl e6 P1 (g := (mkF m 30 #[.val (.ref a), .val (.ref d), .val (.ref d)] [(.ref d), (.int (0 : Int32))])) rfl rfl (hb hby d10_30)
  replace G : Gets p e below _ (T7.setTop (mkF m 33 #[.val (.ref a), .val (.ref d), .val (.ref d)] [(.int (0 : Int32)), (.int (0 : Int32))])) := fun t k => G t (st7 t k)
  have hc33_8 : (0 : Int32) = (0 : Int32) := by decide
  replace G := own_icmpNo (q := 36) G X7.here hx (hb hby d10_33) (teq hc33_8).2 rfl
  replace G := own_aloadN (q := 37) G X7.here hx (hb hby d10_36) rfl rfl rfl
  obtain ⟨T9, X9, e9, st9⟩ := getF X7 hx hZ hown (host := "") (Or.inl (hw _ (List.mem_of_getElem? (i := 32) rfl))) Via.refl e7 P2 (g := (mkF m 37 #[.val (.ref a), .val (.ref d), .val (.ref d)] [(.ref a)])) rfl rfl (hb hby d10_37)
  replace G : Gets p e below _ (T9.setTop (mkF m 40 #[.val (.ref a), .val (.ref d), .val (.ref d)] [(.ref x)])) := fun t k => G t (st9 t k)
  replace G := own_aloadN (q := 41) G X9.here hx (hb hby d10_40) rfl rfl rfl
  obtain ⟨T10, X10, e10, st10⟩ := getF X9 hx hZ hown (host := "") (Or.inl (hw _ (List.mem_of_getElem? (i := 32) rfl))) Via.refl e9 P3 (g := (mkF m 41 #[.val (.ref a), .val (.ref d), .val (.ref d)] [(.ref d), (.ref x)])) rfl rfl (hb hby d10_41)
  replace G : Gets p e below _ (T10.setTop (mkF m 44 #[.val (.ref a), .val (.ref d), .val (.ref d)] [(.ref y), (.ref x)])) := fun t k => G t (st10 t k)
  obtain ⟨_, _, ⟨T11, L11, kk11, nn11⟩, -, X11, ⟨Lc11, hQ11, l11, y11, z11⟩, st11⟩ := Jvm.LawKit.callS X10 hx (y := (⟨"java/lang/StringLatin1", "equals", "([B[B)Z"⟩ : MethodName)) hown (mvT hZ (hw _ (List.mem_of_getElem? (i := 69) rfl))) (mvT hZ (hw _ (List.mem_of_getElem? (i := 70) rfl))) (mvT hZ (hw _ (List.mem_of_getElem? (i := 71) rfl))) (mvT hZ (hw _ (List.mem_of_getElem? (i := 72) rfl))) (by decide) (backOf (W := 0) (rm11i1k2 l Z a0 hw [] x y k1 k2 h0 n0 Z0 P5 P6) hZ (hw _ (List.mem_of_getElem? (i := 72) rfl)) (hw _ (List.mem_of_getElem? (i := 71) rfl)) (by decide) (by decide)) (g := (mkF m 44 #[.val (.ref a), .val (.ref d), .val (.ref d)] [(.ref y), (.ref x)])) rfl (by rw [hml]; rfl) (argsL := [(.ref x), (.ref y)]) (rest := []) (lenOf pd_4 rfl) rfl (by show 2 * 0 + _ ≤ _; exact Nat.le_of_eq rfl) (hb hby d10_44) (fun _ _ => ⟨rfl, e10, (by decide : 0 + 0 ≤ _), (by decide : 0 + 0 ≤ _)⟩)
  dsimp only [Pt.U, Pt.locs, Pt.cells, Pt.slots] at X11 l11 y11 z11 st11 hQ11
  subst l11 y11 z11
  obtain ⟨rfl, N11q, e11⟩ := hQ11
  have N11 := Fr.app N0 N11q
  replace G : Gets p e below _ (T11.setTop (mkF m 47 #[.val (.ref a), .val (.ref d), .val (.ref d)] [(.int (0 : Int32))])) := fun t k => G t (st11 t k)
  have hc47_12 : (0 : Int32) = (0 : Int32) := by decide
  replace G := own_ifYes (q := 54) G X11.here hx (hb hby d10_47) ((if0 _ _).trans (teq hc47_12).1) (by decide) (by decide)
  replace G := own_iconst (q := 55) G X11.here hx (hb hby d10_54) (v := (0 : Int32)) (by decide) rfl
  obtain ⟨fs, hr, hrun, hended, hW, hsame⟩ := X11.leave (v := some (.int (0 : Int32))) (fun h => by rw [Bd.returns] at h; cases h)
  refine ⟨_, _, G _ (retOut X11 hx Bd.returns rfl (Or.inl ⟨rfl, Or.inr (Or.inl rfl), _, rfl⟩) (hb hby d10_55) hr), hrun, hended, _, _, rfl, ?_, ⟨_, rfl⟩, hW, hsame.mono (by decide) (by decide)⟩
  show Q10i1k2 Z a d x y k1 k2 cw h0 n0 _ T11.heap _
  rw [e11]
  exact ⟨rfl, N11, rfl⟩
theorem ef_11i2k0 (m : MethodId) (x0 : Addr) (x1 : Addr) : entryFrame m #[(.ref x0), (.ref x1)] 3 = mkF m 0 #[.val (.ref x0), .val (.ref x1), .unset] [] := by first | (simp [entryFrame, mkF, argsToLocals, Value.category]; done) | rfl
def Q11i2k0 (Z : State) (a : Addr) (d : Addr) (k1 : ClassId) (k2 : ClassId) (h0 : Heap) (n0 : Nat) (v : Option Value) (h : Heap) (L : List Loc) : Prop := v = some (.int (0 : Int32)) ∧ Fr n0 L ∧ h = h0
set_option maxRecDepth 65536 in
set_option maxHeartbeats 40000000 in
theorem rm11i2k0 (l : Launch) (Z : State) (a0 : Array Value) (hw : ∀ d ∈ tables_1, d.before a0 Z = true) (ws : List Jvm.Cond) (a : Addr) (d : Addr) (k1 : ClassId) (k2 : ClassId) (h0 : Heap) (n0 : Nat) (Z0 : n0 ≤ h0.size) (P0 : Arv Z h0 a k1 .byte (5 : Int32) [(.int (116 : Int32)), (.int (111 : Int32)), (.int (116 : Int32)), (.int (97 : Int32)), (.int (108 : Int32))] (.int (0 : Int32))) (P1 : Arv Z h0 d k2 .byte (4 : Int32) [(.int (nar .byte ((104 : Int32).toInt8.toInt32))), (.int (nar .byte ((111 : Int32).toInt8.toInt32))), (.int (nar .byte ((117 : Int32).toInt8.toInt32))), (.int (nar .byte ((114 : Int32).toInt8.toInt32)))] (.int (0 : Int32))) :
    MetFree l (⟨"java/lang/StringLatin1", "equals", "([B[B)Z"⟩ : MethodName) (head1 (Jvm.Cond.code (⟨"java/lang/StringLatin1", "equals", "([B[B)Z"⟩ : MethodName) jdk_43_method_13_code 3 (some .boolean) :: ws) ({ frames := 0, cells := 0, slots := 0, locals := 0 } : Room)) (fun argz U => argz = #[(.ref a), (.ref d)] ∧ Z.Warmed39 U.vm ∧ U.heap = h0) (fun _ _ _ _ _ => True) (fun _ U o U' => ∃ v L, o = .returned v ∧ Q11i2k0 Z a d k1 k2 h0 n0 v U'.heap L ∧ FrameEnd U o U' L ({ frames := 0, cells := 0, slots := 0, locals := 0 } : Room).cells ({ frames := 0, cells := 0, slots := 0, locals := 0 } : Room).slots) := by
  refine MetFree.of_bodySF (plainFor_of_name pn_java_lang_StringLatin1) hisR ?_
  intro p e s m args below meth c s₁ Bd hml0 hP hK
  obtain ⟨rfl, hZ, hh⟩ := hP
  have hx := Bd.exec
  have hby := Bd.bytes
  have hml : c.maxLocals = 3 := hml0
  have hown : s.vm.findClass "java/lang/StringLatin1" = some m.cls := findClass_of_methodNamed Bd.named
  have hnm := (name_of_methodNamed Bd.named Bd.method).1
  have X0 : Stand p l e ({ frames := 0, cells := 0, slots := 0, locals := 0 } : Room) s m #[(.ref a), (.ref d)] below meth c s₁ [] 0 0 := Stand.of_body Bd
  have e0 : s₁.heap = h0 := by rw [← hh, Bd.state]; rfl
  have N0 := Fr.nil n0
  have G : Gets p e below (s₁.setTop (entryFrame m #[(.ref a), (.ref d)] 3)) (s₁.setTop (mkF m 0 #[.val (.ref a), .val (.ref d), .unset] [])) := fun t k => castTop (ef_11i2k0 m a d) k
  replace G := own_aloadN (q := 1) G X0.here hx (hb hby d11_0) rfl rfl rfl
  obtain ⟨c1, Ar1, -, S1, N1', -, -⟩ := id P0
  replace G : Gets p e below _ (s₁.setTop (mkF m 2 #[.val (.ref a), .val (.ref d), .unset] [(.int (5 : Int32))])) := fun t k => G t (X0.arraylength hx (by rw [e0]; exact Ar1.1) (State.isArrayOf_alike hZ.alike Ar1.2.1) (g := (mkF m 1 #[.val (.ref a), .val (.ref d), .unset] [(.ref a)])) rfl rfl (hb hby d11_1) t (by rw [len_of S1 N1']; exact k))
  replace G := own_aloadN (q := 3) G X0.here hx (hb hby d11_2) rfl rfl rfl
  obtain ⟨c2, Ar2, -, S2, N2', -, -⟩ := id P1
  replace G : Gets p e below _ (s₁.setTop (mkF m 4 #[.val (.ref a), .val (.ref d), .unset] [(.int (4 : Int32)), (.int (5 : Int32))])) := fun t k => G t (X0.arraylength hx (by rw [e0]; exact Ar2.1) (State.isArrayOf_alike hZ.alike Ar2.2.1) (g := (mkF m 3 #[.val (.ref a), .val (.ref d), .unset] [(.ref d), (.int (5 : Int32))])) rfl rfl (hb hby d11_3) t (by rw [len_of S2 N2']; exact k))
  have hc4_3 : ¬ ((5 : Int32) = (4 : Int32)) := by decide
  replace G := own_icmpYes (q := 34) G X0.here hx (hb hby d11_4) (feq hc4_3).2 (by decide) (by decide)
  replace G := own_iconst (q := 35) G X0.here hx (hb hby d11_34) (v := (0 : Int32)) (by decide) rfl
  obtain ⟨fs, hr, hrun, hended, hW, hsame⟩ := X0.leave (v := some (.int (0 : Int32))) (fun h => by rw [Bd.returns] at h; cases h)
  refine ⟨_, _, G _ (retOut X0 hx Bd.returns rfl (Or.inl ⟨rfl, Or.inr (Or.inl rfl), _, rfl⟩) (hb hby d11_35) hr), hrun, hended, _, _, rfl, ?_, ⟨_, rfl⟩, hW, hsame.mono (by decide) (by decide)⟩
  show Q11i2k0 Z a d k1 k2 h0 n0 _ s₁.heap _
  rw [e0]
  exact ⟨rfl, N0, rfl⟩
theorem ef_10i2k0 (m : MethodId) (x0 : Addr) (x1 : Addr) : entryFrame m #[(.ref x0), (.ref x1)] 3 = mkF m 0 #[.val (.ref x0), .val (.ref x1), .unset] [] := by first | (simp [entryFrame, mkF, argsToLocals, Value.category]; done) | rfl
def Q10i2k0 (Z : State) (a : Addr) (d : Addr) (x : Addr) (y : Addr) (k1 : ClassId) (k2 : ClassId) (cw : Int32) (h0 : Heap) (n0 : Nat) (v : Option Value) (h : Heap) (L : List Loc) : Prop := v = some (.int (0 : Int32)) ∧ Fr n0 L ∧ h = h0
set_option maxRecDepth 65536 in
set_option maxHeartbeats 40000000 in
theorem rm10i2k0 (l : Launch) (Z : State) (a0 : Array Value) (hw : ∀ d ∈ tables_1, d.before a0 Z = true) (ws : List Jvm.Cond) (a : Addr) (d : Addr) (x : Addr) (y : Addr) (k1 : ClassId) (k2 : ClassId) (cw : Int32) (h0 : Heap) (n0 : Nat) (Z0 : n0 ≤ h0.size) (P0 : Fld Z h0 a "java/lang/String" "coder" "B" (.int (0 : Int32))) (P1 : Fld Z h0 d "java/lang/String" "coder" "B" (.int (0 : Int32))) (P2 : Fld Z h0 a "java/lang/String" "value" "[B" (.ref x)) (P3 : Fld Z h0 d "java/lang/String" "value" "[B" (.ref y)) (P4 : Exa Z h0 d "java/lang/String") (P5 : Arv Z h0 x k1 .byte (5 : Int32) [(.int (116 : Int32)), (.int (111 : Int32)), (.int (116 : Int32)), (.int (97 : Int32)), (.int (108 : Int32))] (.int (0 : Int32))) (P6 : Arv Z h0 y k2 .byte (4 : Int32) [(.int (nar .byte ((104 : Int32).toInt8.toInt32))), (.int (nar .byte ((111 : Int32).toInt8.toInt32))), (.int (nar .byte ((117 : Int32).toInt8.toInt32))), (.int (nar .byte ((114 : Int32).toInt8.toInt32)))] (.int (0 : Int32))) (P7 : Sta Z h0 "java/lang/String" "COMPACT_STRINGS" "Z" (.int cw)) (hcw : ¬ cw = (0 : Int32)) (P9 : a ≠ d) :
    MetFree l (⟨"java/lang/String", "equals", "(Ljava/lang/Object;)Z"⟩ : MethodName) (head1 (Jvm.Cond.code (⟨"java/lang/String", "equals", "(Ljava/lang/Object;)Z"⟩ : MethodName) jdk_42_method_66_code 3 (some .boolean) :: ws) ({ frames := 1, cells := 0, slots := 0, locals := 14 } : Room)) (fun argz U => argz = #[(.ref a), (.ref d)] ∧ Z.Warmed39 U.vm ∧ U.heap = h0) (fun _ _ _ _ _ => True) (fun _ U o U' => ∃ v L, o = .returned v ∧ Q10i2k0 Z a d x y k1 k2 cw h0 n0 v U'.heap L ∧ FrameEnd U o U' L ({ frames := 1, cells := 0, slots := 0, locals := 14 } : Room).cells ({ frames := 1, cells := 0, slots := 0, locals := 14 } : Room).slots) := by
  refine MetFree.of_bodySF (plainFor_of_name pn_java_lang_String) hisR ?_
  intro p e s m args below meth c s₁ Bd hml0 hP hK
  obtain ⟨rfl, hZ, hh⟩ := hP
  have hx := Bd.exec
  have hby := Bd.bytes
  have hml : c.maxLocals = 3 := hml0
  have hown : s.vm.findClass "java/lang/String" = some m.cls := findClass_of_methodNamed Bd.named
  have hnm := (name_of_methodNamed Bd.named Bd.method).1
  have X0 : Stand p l e ({ frames := 1, cells := 0, slots := 0, locals := 14 } : Room) s m #[(.ref a), (.ref d)] below meth c s₁ [] 0 0 := Stand.of_body Bd
  have e0 : s₁.heap = h0 := by rw [← hh, Bd.state]; rfl
  have N0 := Fr.nil n0
  have G : Gets p e below (s₁.setTop (entryFrame m #[(.ref a), (.ref d)] 3)) (s₁.setTop (mkF m 0 #[.val (.ref a), .val (.ref d), .unset] [])) := fun t k => castTop (ef_10i2k0 m a d) k
  replace G := own_aloadN (q := 1) G X0.here hx (hb hby d10_0) rfl rfl rfl
  replace G := own_aloadN (q := 2) G X0.here hx (hb hby d10_1) rfl rfl rfl
  replace G : Gets p e below _ (s₁.setTop (mkF m 7 #[.val (.ref a), .val (.ref d), .unset] [])) := fun t k => G t (Jvm.RoadKit.acmp (g := (mkF m 2 #[.val (.ref a), .val (.ref d), .unset] [(.ref d), (.ref a)])) X0 hx rfl rfl rfl (pc0 := 2) (pc' := 7) (same := false) rfl (hb hby d10_2) rfl (decide_eq_false fun q => P9 (Value.ref.inj q)) (by decide) (by decide) k)
  replace G := own_aloadN (q := 8) G X0.here hx (hb hby d10_7) rfl rfl rfl
  obtain ⟨T1, X1, e1, st1⟩ := instY X0 hx hZ hown (hw _ (List.mem_of_getElem? (i := 68) rfl)) e0 (Ins.self P4) (g := (mkF m 8 #[.val (.ref a), .val (.ref d), .unset] [(.ref d)])) rfl rfl (hb hby d10_8)
  replace G : Gets p e below _ (T1.setTop (mkF m 11 #[.val (.ref a), .val (.ref d), .unset] [(.int (1 : Int32))])) := fun t k => G t (st1 t k)
  have hc11_2 : ¬ ((1 : Int32) = (0 : Int32)) := by decide
  replace G := own_ifNo (q := 14) G X1.here hx (hb hby d10_11) ((if0 _ _).trans (feq hc11_2).1) rfl
  replace G := own_aloadN (q := 15) G X1.here hx (hb hby d10_14) rfl rfl rfl
  obtain ⟨T3, X3, e3, st3⟩ := castY X1 hx hZ hown (hw _ (List.mem_of_getElem? (i := 68) rfl)) e1 (Ins.self P4) (g := (mkF m 15 #[.val (.ref a), .val (.ref d), .unset] [(.ref d)])) rfl rfl (hb hby d10_15)
  replace G : Gets p e below _ (T3.setTop (mkF m 18 #[.val (.ref a), .val (.ref d), .unset] [(.ref d)])) := fun t k => G t (st3 t k)
  replace G := own_astoreN (q := 19) (l' := #[.val (.ref a), .val (.ref d), .val (.ref d)]) G X3.here hx (hb hby d10_18) rfl rfl rfl
  obtain ⟨T4, X4, e4, st4⟩ := getS2 X3 hx hZ hown (host := "") (Or.inl (hw _ (List.mem_of_getElem? (i := 18) rfl))) Via.refl e3 P7 (g := (mkF m 19 #[.val (.ref a), .val (.ref d), .val (.ref d)] [])) rfl (hb hby d10_19)
  replace G : Gets p e below _ (T4.setTop (mkF m 22 #[.val (.ref a), .val (.ref d), .val (.ref d)] [(.int cw)])) := fun t k => G t (st4 t k)
  have hc22_5 : ¬ (cw = (0 : Int32)) := hcw
  replace G := own_ifNo (q := 25) G X4.here hx (hb hby d10_22) ((if0 _ _).trans (feq hc22_5).1) rfl
  replace G := own_aloadN (q := 26) G X4.here hx (hb hby d10_25) rfl rfl rfl
  obtain ⟨T6, X6, e6, st6⟩ := getF X4 hx hZ hown (host := "") (Or.inl (hw _ (List.mem_of_getElem? (i := 30) rfl))) Via.refl e4 P0 (g := (mkF m 26 #[.val (.ref a), .val (.ref d), .val (.ref d)] [(.ref a)])) rfl rfl (hb hby d10_26)
  replace G : Gets p e below _ (T6.setTop (mkF m 29 #[.val (.ref a), .val (.ref d), .val (.ref d)] [(.int (0 : Int32))])) := fun t k => G t (st6 t k)
  replace G := own_aloadN (q := 30) G X6.here hx (hb hby d10_29) rfl rfl rfl
  obtain ⟨T7, X7, e7, st7⟩ := getF X6 hx hZ hown (host := "") (Or.inl (hw _ (List.mem_of_getElem? (i := 30) rfl))) Via.refl e6 P1 (g := (mkF m 30 #[.val (.ref a), .val (.ref d), .val (.ref d)] [(.ref d), (.int (0 : Int32))])) rfl rfl (hb hby d10_30)
  replace G : Gets p e below _ (T7.setTop (mkF m 33 #[.val (.ref a), .val (.ref d), .val (.ref d)] [(.int (0 : Int32)), (.int (0 : Int32))])) := fun t k => G t (st7 t k)
  have hc33_8 : (0 : Int32) = (0 : Int32) := by decide
  replace G := own_icmpNo (q := 36) G X7.here hx (hb hby d10_33) (teq hc33_8).2 rfl
  replace G := own_aloadN (q := 37) G X7.here hx (hb hby d10_36) rfl rfl rfl
  obtain ⟨T9, X9, e9, st9⟩ := getF X7 hx hZ hown (host := "") (Or.inl (hw _ (List.mem_of_getElem? (i := 32) rfl))) Via.refl e7 P2 (g := (mkF m 37 #[.val (.ref a), .val (.ref d), .val (.ref d)] [(.ref a)])) rfl rfl (hb hby d10_37)
  replace G : Gets p e below _ (T9.setTop (mkF m 40 #[.val (.ref a), .val (.ref d), .val (.ref d)] [(.ref x)])) := fun t k => G t (st9 t k)
  replace G := own_aloadN (q := 41) G X9.here hx (hb hby d10_40) rfl rfl rfl
  obtain ⟨T10, X10, e10, st10⟩ := getF X9 hx hZ hown (host := "") (Or.inl (hw _ (List.mem_of_getElem? (i := 32) rfl))) Via.refl e9 P3 (g := (mkF m 41 #[.val (.ref a), .val (.ref d), .val (.ref d)] [(.ref d), (.ref x)])) rfl rfl (hb hby d10_41)
  replace G : Gets p e below _ (T10.setTop (mkF m 44 #[.val (.ref a), .val (.ref d), .val (.ref d)] [(.ref y), (.ref x)])) := fun t k => G t (st10 t k)
  obtain ⟨_, _, ⟨T11, L11, kk11, nn11⟩, -, X11, ⟨Lc11, hQ11, l11, y11, z11⟩, st11⟩ := Jvm.LawKit.callS X10 hx (y := (⟨"java/lang/StringLatin1", "equals", "([B[B)Z"⟩ : MethodName)) hown (mvT hZ (hw _ (List.mem_of_getElem? (i := 69) rfl))) (mvT hZ (hw _ (List.mem_of_getElem? (i := 70) rfl))) (mvT hZ (hw _ (List.mem_of_getElem? (i := 71) rfl))) (mvT hZ (hw _ (List.mem_of_getElem? (i := 72) rfl))) (by decide) (backOf (W := 0) (rm11i2k0 l Z a0 hw [] x y k1 k2 h0 n0 Z0 P5 P6) hZ (hw _ (List.mem_of_getElem? (i := 72) rfl)) (hw _ (List.mem_of_getElem? (i := 71) rfl)) (by decide) (by decide)) (g := (mkF m 44 #[.val (.ref a), .val (.ref d), .val (.ref d)] [(.ref y), (.ref x)])) rfl (by rw [hml]; rfl) (argsL := [(.ref x), (.ref y)]) (rest := []) (lenOf pd_4 rfl) rfl (by show 2 * 0 + _ ≤ _; exact Nat.le_of_eq rfl) (hb hby d10_44) (fun _ _ => ⟨rfl, e10, (by decide : 0 + 0 ≤ _), (by decide : 0 + 0 ≤ _)⟩)
  dsimp only [Pt.U, Pt.locs, Pt.cells, Pt.slots] at X11 l11 y11 z11 st11 hQ11
  subst l11 y11 z11
  obtain ⟨rfl, N11q, e11⟩ := hQ11
  have N11 := Fr.app N0 N11q
  replace G : Gets p e below _ (T11.setTop (mkF m 47 #[.val (.ref a), .val (.ref d), .val (.ref d)] [(.int (0 : Int32))])) := fun t k => G t (st11 t k)
  have hc47_12 : (0 : Int32) = (0 : Int32) := by decide
  replace G := own_ifYes (q := 54) G X11.here hx (hb hby d10_47) ((if0 _ _).trans (teq hc47_12).1) (by decide) (by decide)
  replace G := own_iconst (q := 55) G X11.here hx (hb hby d10_54) (v := (0 : Int32)) (by decide) rfl
  obtain ⟨fs, hr, hrun, hended, hW, hsame⟩ := X11.leave (v := some (.int (0 : Int32))) (fun h => by rw [Bd.returns] at h; cases h)
  refine ⟨_, _, G _ (retOut X11 hx Bd.returns rfl (Or.inl ⟨rfl, Or.inr (Or.inl rfl), _, rfl⟩) (hb hby d10_55) hr), hrun, hended, _, _, rfl, ?_, ⟨_, rfl⟩, hW, hsame.mono (by decide) (by decide)⟩
  show Q10i2k0 Z a d x y k1 k2 cw h0 n0 _ T11.heap _
  rw [e11]
  exact ⟨rfl, N11, rfl⟩
theorem ef_11i2k1 (m : MethodId) (x0 : Addr) (x1 : Addr) : entryFrame m #[(.ref x0), (.ref x1)] 3 = mkF m 0 #[.val (.ref x0), .val (.ref x1), .unset] [] := by first | (simp [entryFrame, mkF, argsToLocals, Value.category]; done) | rfl
def Q11i2k1 (Z : State) (a : Addr) (d : Addr) (k1 : ClassId) (k2 : ClassId) (h0 : Heap) (n0 : Nat) (v : Option Value) (h : Heap) (L : List Loc) : Prop := v = some (.int (0 : Int32)) ∧ Fr n0 L ∧ h = h0
set_option maxRecDepth 65536 in
set_option maxHeartbeats 40000000 in
theorem rm11i2k1 (l : Launch) (Z : State) (a0 : Array Value) (hw : ∀ d ∈ tables_1, d.before a0 Z = true) (ws : List Jvm.Cond) (a : Addr) (d : Addr) (k1 : ClassId) (k2 : ClassId) (h0 : Heap) (n0 : Nat) (Z0 : n0 ≤ h0.size) (P0 : Arv Z h0 a k1 .byte (5 : Int32) [(.int (116 : Int32)), (.int (111 : Int32)), (.int (116 : Int32)), (.int (97 : Int32)), (.int (108 : Int32))] (.int (0 : Int32))) (P1 : Arv Z h0 d k2 .byte (3 : Int32) [(.int (nar .byte ((100 : Int32).toInt8.toInt32))), (.int (nar .byte ((97 : Int32).toInt8.toInt32))), (.int (nar .byte ((121 : Int32).toInt8.toInt32)))] (.int (0 : Int32))) :
    MetFree l (⟨"java/lang/StringLatin1", "equals", "([B[B)Z"⟩ : MethodName) (head1 (Jvm.Cond.code (⟨"java/lang/StringLatin1", "equals", "([B[B)Z"⟩ : MethodName) jdk_43_method_13_code 3 (some .boolean) :: ws) ({ frames := 0, cells := 0, slots := 0, locals := 0 } : Room)) (fun argz U => argz = #[(.ref a), (.ref d)] ∧ Z.Warmed39 U.vm ∧ U.heap = h0) (fun _ _ _ _ _ => True) (fun _ U o U' => ∃ v L, o = .returned v ∧ Q11i2k1 Z a d k1 k2 h0 n0 v U'.heap L ∧ FrameEnd U o U' L ({ frames := 0, cells := 0, slots := 0, locals := 0 } : Room).cells ({ frames := 0, cells := 0, slots := 0, locals := 0 } : Room).slots) := by
  refine MetFree.of_bodySF (plainFor_of_name pn_java_lang_StringLatin1) hisR ?_
  intro p e s m args below meth c s₁ Bd hml0 hP hK
  obtain ⟨rfl, hZ, hh⟩ := hP
  have hx := Bd.exec
  have hby := Bd.bytes
  have hml : c.maxLocals = 3 := hml0
  have hown : s.vm.findClass "java/lang/StringLatin1" = some m.cls := findClass_of_methodNamed Bd.named
  have hnm := (name_of_methodNamed Bd.named Bd.method).1
  have X0 : Stand p l e ({ frames := 0, cells := 0, slots := 0, locals := 0 } : Room) s m #[(.ref a), (.ref d)] below meth c s₁ [] 0 0 := Stand.of_body Bd
  have e0 : s₁.heap = h0 := by rw [← hh, Bd.state]; rfl
  have N0 := Fr.nil n0
  have G : Gets p e below (s₁.setTop (entryFrame m #[(.ref a), (.ref d)] 3)) (s₁.setTop (mkF m 0 #[.val (.ref a), .val (.ref d), .unset] [])) := fun t k => castTop (ef_11i2k1 m a d) k
  replace G := own_aloadN (q := 1) G X0.here hx (hb hby d11_0) rfl rfl rfl
  obtain ⟨c1, Ar1, -, S1, N1', -, -⟩ := id P0
  replace G : Gets p e below _ (s₁.setTop (mkF m 2 #[.val (.ref a), .val (.ref d), .unset] [(.int (5 : Int32))])) := fun t k => G t (X0.arraylength hx (by rw [e0]; exact Ar1.1) (State.isArrayOf_alike hZ.alike Ar1.2.1) (g := (mkF m 1 #[.val (.ref a), .val (.ref d), .unset] [(.ref a)])) rfl rfl (hb hby d11_1) t (by rw [len_of S1 N1']; exact k))
  replace G := own_aloadN (q := 3) G X0.here hx (hb hby d11_2) rfl rfl rfl
  obtain ⟨c2, Ar2, -, S2, N2', -, -⟩ := id P1
  replace G : Gets p e below _ (s₁.setTop (mkF m 4 #[.val (.ref a), .val (.ref d), .unset] [(.int (3 : Int32)), (.int (5 : Int32))])) := fun t k => G t (X0.arraylength hx (by rw [e0]; exact Ar2.1) (State.isArrayOf_alike hZ.alike Ar2.2.1) (g := (mkF m 3 #[.val (.ref a), .val (.ref d), .unset] [(.ref d), (.int (5 : Int32))])) rfl rfl (hb hby d11_3) t (by rw [len_of S2 N2']; exact k))
  have hc4_3 : ¬ ((5 : Int32) = (3 : Int32)) := by decide
  replace G := own_icmpYes (q := 34) G X0.here hx (hb hby d11_4) (feq hc4_3).2 (by decide) (by decide)
  replace G := own_iconst (q := 35) G X0.here hx (hb hby d11_34) (v := (0 : Int32)) (by decide) rfl
  obtain ⟨fs, hr, hrun, hended, hW, hsame⟩ := X0.leave (v := some (.int (0 : Int32))) (fun h => by rw [Bd.returns] at h; cases h)
  refine ⟨_, _, G _ (retOut X0 hx Bd.returns rfl (Or.inl ⟨rfl, Or.inr (Or.inl rfl), _, rfl⟩) (hb hby d11_35) hr), hrun, hended, _, _, rfl, ?_, ⟨_, rfl⟩, hW, hsame.mono (by decide) (by decide)⟩
  show Q11i2k1 Z a d k1 k2 h0 n0 _ s₁.heap _
  rw [e0]
  exact ⟨rfl, N0, rfl⟩
theorem ef_10i2k1 (m : MethodId) (x0 : Addr) (x1 : Addr) : entryFrame m #[(.ref x0), (.ref x1)] 3 = mkF m 0 #[.val (.ref x0), .val (.ref x1), .unset] [] := by first | (simp [entryFrame, mkF, argsToLocals, Value.category]; done) | rfl
def Q10i2k1 (Z : State) (a : Addr) (d : Addr) (x : Addr) (y : Addr) (k1 : ClassId) (k2 : ClassId) (cw : Int32) (h0 : Heap) (n0 : Nat) (v : Option Value) (h : Heap) (L : List Loc) : Prop := v = some (.int (0 : Int32)) ∧ Fr n0 L ∧ h = h0
set_option maxRecDepth 65536 in
set_option maxHeartbeats 40000000 in
theorem rm10i2k1 (l : Launch) (Z : State) (a0 : Array Value) (hw : ∀ d ∈ tables_1, d.before a0 Z = true) (ws : List Jvm.Cond) (a : Addr) (d : Addr) (x : Addr) (y : Addr) (k1 : ClassId) (k2 : ClassId) (cw : Int32) (h0 : Heap) (n0 : Nat) (Z0 : n0 ≤ h0.size) (P0 : Fld Z h0 a "java/lang/String" "coder" "B" (.int (0 : Int32))) (P1 : Fld Z h0 d "java/lang/String" "coder" "B" (.int (0 : Int32))) (P2 : Fld Z h0 a "java/lang/String" "value" "[B" (.ref x)) (P3 : Fld Z h0 d "java/lang/String" "value" "[B" (.ref y)) (P4 : Exa Z h0 d "java/lang/String") (P5 : Arv Z h0 x k1 .byte (5 : Int32) [(.int (116 : Int32)), (.int (111 : Int32)), (.int (116 : Int32)), (.int (97 : Int32)), (.int (108 : Int32))] (.int (0 : Int32))) (P6 : Arv Z h0 y k2 .byte (3 : Int32) [(.int (nar .byte ((100 : Int32).toInt8.toInt32))), (.int (nar .byte ((97 : Int32).toInt8.toInt32))), (.int (nar .byte ((121 : Int32).toInt8.toInt32)))] (.int (0 : Int32))) (P7 : Sta Z h0 "java/lang/String" "COMPACT_STRINGS" "Z" (.int cw)) (hcw : ¬ cw = (0 : Int32)) (P9 : a ≠ d) :
    MetFree l (⟨"java/lang/String", "equals", "(Ljava/lang/Object;)Z"⟩ : MethodName) (head1 (Jvm.Cond.code (⟨"java/lang/String", "equals", "(Ljava/lang/Object;)Z"⟩ : MethodName) jdk_42_method_66_code 3 (some .boolean) :: ws) ({ frames := 1, cells := 0, slots := 0, locals := 14 } : Room)) (fun argz U => argz = #[(.ref a), (.ref d)] ∧ Z.Warmed39 U.vm ∧ U.heap = h0) (fun _ _ _ _ _ => True) (fun _ U o U' => ∃ v L, o = .returned v ∧ Q10i2k1 Z a d x y k1 k2 cw h0 n0 v U'.heap L ∧ FrameEnd U o U' L ({ frames := 1, cells := 0, slots := 0, locals := 14 } : Room).cells ({ frames := 1, cells := 0, slots := 0, locals := 14 } : Room).slots) := by
  refine MetFree.of_bodySF (plainFor_of_name pn_java_lang_String) hisR ?_
  intro p e s m args below meth c s₁ Bd hml0 hP hK
  obtain ⟨rfl, hZ, hh⟩ := hP
  have hx := Bd.exec
  have hby := Bd.bytes
  have hml : c.maxLocals = 3 := hml0
  have hown : s.vm.findClass "java/lang/String" = some m.cls := findClass_of_methodNamed Bd.named
  have hnm := (name_of_methodNamed Bd.named Bd.method).1
  have X0 : Stand p l e ({ frames := 1, cells := 0, slots := 0, locals := 14 } : Room) s m #[(.ref a), (.ref d)] below meth c s₁ [] 0 0 := Stand.of_body Bd
  have e0 : s₁.heap = h0 := by rw [← hh, Bd.state]; rfl
  have N0 := Fr.nil n0
  have G : Gets p e below (s₁.setTop (entryFrame m #[(.ref a), (.ref d)] 3)) (s₁.setTop (mkF m 0 #[.val (.ref a), .val (.ref d), .unset] [])) := fun t k => castTop (ef_10i2k1 m a d) k
  replace G := own_aloadN (q := 1) G X0.here hx (hb hby d10_0) rfl rfl rfl
  replace G := own_aloadN (q := 2) G X0.here hx (hb hby d10_1) rfl rfl rfl
  replace G : Gets p e below _ (s₁.setTop (mkF m 7 #[.val (.ref a), .val (.ref d), .unset] [])) := fun t k => G t (Jvm.RoadKit.acmp (g := (mkF m 2 #[.val (.ref a), .val (.ref d), .unset] [(.ref d), (.ref a)])) X0 hx rfl rfl rfl (pc0 := 2) (pc' := 7) (same := false) rfl (hb hby d10_2) rfl (decide_eq_false fun q => P9 (Value.ref.inj q)) (by decide) (by decide) k)
  replace G := own_aloadN (q := 8) G X0.here hx (hb hby d10_7) rfl rfl rfl
  obtain ⟨T1, X1, e1, st1⟩ := instY X0 hx hZ hown (hw _ (List.mem_of_getElem? (i := 68) rfl)) e0 (Ins.self P4) (g := (mkF m 8 #[.val (.ref a), .val (.ref d), .unset] [(.ref d)])) rfl rfl (hb hby d10_8)
  replace G : Gets p e below _ (T1.setTop (mkF m 11 #[.val (.ref a), .val (.ref d), .unset] [(.int (1 : Int32))])) := fun t k => G t (st1 t k)
  have hc11_2 : ¬ ((1 : Int32) = (0 : Int32)) := by decide
  replace G := own_ifNo (q := 14) G X1.here hx (hb hby d10_11) ((if0 _ _).trans (feq hc11_2).1) rfl
  replace G := own_aloadN (q := 15) G X1.here hx (hb hby d10_14) rfl rfl rfl
  obtain ⟨T3, X3, e3, st3⟩ := castY X1 hx hZ hown (hw _ (List.mem_of_getElem? (i := 68) rfl)) e1 (Ins.self P4) (g := (mkF m 15 #[.val (.ref a), .val (.ref d), .unset] [(.ref d)])) rfl rfl (hb hby d10_15)
  replace G : Gets p e below _ (T3.setTop (mkF m 18 #[.val (.ref a), .val (.ref d), .unset] [(.ref d)])) := fun t k => G t (st3 t k)
  replace G := own_astoreN (q := 19) (l' := #[.val (.ref a), .val (.ref d), .val (.ref d)]) G X3.here hx (hb hby d10_18) rfl rfl rfl
  obtain ⟨T4, X4, e4, st4⟩ := getS2 X3 hx hZ hown (host := "") (Or.inl (hw _ (List.mem_of_getElem? (i := 18) rfl))) Via.refl e3 P7 (g := (mkF m 19 #[.val (.ref a), .val (.ref d), .val (.ref d)] [])) rfl (hb hby d10_19)
  replace G : Gets p e below _ (T4.setTop (mkF m 22 #[.val (.ref a), .val (.ref d), .val (.ref d)] [(.int cw)])) := fun t k => G t (st4 t k)
  have hc22_5 : ¬ (cw = (0 : Int32)) := hcw
  replace G := own_ifNo (q := 25) G X4.here hx (hb hby d10_22) ((if0 _ _).trans (feq hc22_5).1) rfl
  replace G := own_aloadN (q := 26) G X4.here hx (hb hby d10_25) rfl rfl rfl
  obtain ⟨T6, X6, e6, st6⟩ := getF X4 hx hZ hown (host := "") (Or.inl (hw _ (List.mem_of_getElem? (i := 30) rfl))) Via.refl e4 P0 (g := (mkF m 26 #[.val (.ref a), .val (.ref d), .val (.ref d)] [(.ref a)])) rfl rfl (hb hby d10_26)
  replace G : Gets p e below _ (T6.setTop (mkF m 29 #[.val (.ref a), .val (.ref d), .val (.ref d)] [(.int (0 : Int32))])) := fun t k => G t (st6 t k)
  replace G := own_aloadN (q := 30) G X6.here hx (hb hby d10_29) rfl rfl rfl
  obtain ⟨T7, X7, e7, st7⟩ := getF X6 hx hZ hown (host := "") (Or.inl (hw _ (List.mem_of_getElem? (i := 30) rfl))) Via.refl e6 P1 (g := (mkF m 30 #[.val (.ref a), .val (.ref d), .val (.ref d)] [(.ref d), (.int (0 : Int32))])) rfl rfl (hb hby d10_30)
  replace G : Gets p e below _ (T7.setTop (mkF m 33 #[.val (.ref a), .val (.ref d), .val (.ref d)] [(.int (0 : Int32)), (.int (0 : Int32))])) := fun t k => G t (st7 t k)
  have hc33_8 : (0 : Int32) = (0 : Int32) := by decide
  replace G := own_icmpNo (q := 36) G X7.here hx (hb hby d10_33) (teq hc33_8).2 rfl
  replace G := own_aloadN (q := 37) G X7.here hx (hb hby d10_36) rfl rfl rfl
  obtain ⟨T9, X9, e9, st9⟩ := getF X7 hx hZ hown (host := "") (Or.inl (hw _ (List.mem_of_getElem? (i := 32) rfl))) Via.refl e7 P2 (g := (mkF m 37 #[.val (.ref a), .val (.ref d), .val (.ref d)] [(.ref a)])) rfl rfl (hb hby d10_37)
  replace G : Gets p e below _ (T9.setTop (mkF m 40 #[.val (.ref a), .val (.ref d), .val (.ref d)] [(.ref x)])) := fun t k => G t (st9 t k)
  replace G := own_aloadN (q := 41) G X9.here hx (hb hby d10_40) rfl rfl rfl
  obtain ⟨T10, X10, e10, st10⟩ := getF X9 hx hZ hown (host := "") (Or.inl (hw _ (List.mem_of_getElem? (i := 32) rfl))) Via.refl e9 P3 (g := (mkF m 41 #[.val (.ref a), .val (.ref d), .val (.ref d)] [(.ref d), (.ref x)])) rfl rfl (hb hby d10_41)
  replace G : Gets p e below _ (T10.setTop (mkF m 44 #[.val (.ref a), .val (.ref d), .val (.ref d)] [(.ref y), (.ref x)])) := fun t k => G t (st10 t k)
  obtain ⟨_, _, ⟨T11, L11, kk11, nn11⟩, -, X11, ⟨Lc11, hQ11, l11, y11, z11⟩, st11⟩ := Jvm.LawKit.callS X10 hx (y := (⟨"java/lang/StringLatin1", "equals", "([B[B)Z"⟩ : MethodName)) hown (mvT hZ (hw _ (List.mem_of_getElem? (i := 69) rfl))) (mvT hZ (hw _ (List.mem_of_getElem? (i := 70) rfl))) (mvT hZ (hw _ (List.mem_of_getElem? (i := 71) rfl))) (mvT hZ (hw _ (List.mem_of_getElem? (i := 72) rfl))) (by decide) (backOf (W := 0) (rm11i2k1 l Z a0 hw [] x y k1 k2 h0 n0 Z0 P5 P6) hZ (hw _ (List.mem_of_getElem? (i := 72) rfl)) (hw _ (List.mem_of_getElem? (i := 71) rfl)) (by decide) (by decide)) (g := (mkF m 44 #[.val (.ref a), .val (.ref d), .val (.ref d)] [(.ref y), (.ref x)])) rfl (by rw [hml]; rfl) (argsL := [(.ref x), (.ref y)]) (rest := []) (lenOf pd_4 rfl) rfl (by show 2 * 0 + _ ≤ _; exact Nat.le_of_eq rfl) (hb hby d10_44) (fun _ _ => ⟨rfl, e10, (by decide : 0 + 0 ≤ _), (by decide : 0 + 0 ≤ _)⟩)
  dsimp only [Pt.U, Pt.locs, Pt.cells, Pt.slots] at X11 l11 y11 z11 st11 hQ11
  subst l11 y11 z11
  obtain ⟨rfl, N11q, e11⟩ := hQ11
  have N11 := Fr.app N0 N11q
  replace G : Gets p e below _ (T11.setTop (mkF m 47 #[.val (.ref a), .val (.ref d), .val (.ref d)] [(.int (0 : Int32))])) := fun t k => G t (st11 t k)
  have hc47_12 : (0 : Int32) = (0 : Int32) := by decide
  replace G := own_ifYes (q := 54) G X11.here hx (hb hby d10_47) ((if0 _ _).trans (teq hc47_12).1) (by decide) (by decide)
  replace G := own_iconst (q := 55) G X11.here hx (hb hby d10_54) (v := (0 : Int32)) (by decide) rfl
  obtain ⟨fs, hr, hrun, hended, hW, hsame⟩ := X11.leave (v := some (.int (0 : Int32))) (fun h => by rw [Bd.returns] at h; cases h)
  refine ⟨_, _, G _ (retOut X11 hx Bd.returns rfl (Or.inl ⟨rfl, Or.inr (Or.inl rfl), _, rfl⟩) (hb hby d10_55) hr), hrun, hended, _, _, rfl, ?_, ⟨_, rfl⟩, hW, hsame.mono (by decide) (by decide)⟩
  show Q10i2k1 Z a d x y k1 k2 cw h0 n0 _ T11.heap _
  rw [e11]
  exact ⟨rfl, N11, rfl⟩
theorem ef_11i2k2 (m : MethodId) (x0 : Addr) (x1 : Addr) : entryFrame m #[(.ref x0), (.ref x1)] 3 = mkF m 0 #[.val (.ref x0), .val (.ref x1), .unset] [] := by first | (simp [entryFrame, mkF, argsToLocals, Value.category]; done) | rfl
def Q11i2k2 (Z : State) (a : Addr) (d : Addr) (k1 : ClassId) (k2 : ClassId) (h0 : Heap) (n0 : Nat) (v : Option Value) (h : Heap) (L : List Loc) : Prop := v = some (.int (1 : Int32)) ∧ Fr n0 L ∧ h = h0
set_option maxRecDepth 65536 in
set_option maxHeartbeats 40000000 in
theorem rm11i2k2 (l : Launch) (Z : State) (a0 : Array Value) (hw : ∀ d ∈ tables_1, d.before a0 Z = true) (ws : List Jvm.Cond) (a : Addr) (d : Addr) (k1 : ClassId) (k2 : ClassId) (h0 : Heap) (n0 : Nat) (Z0 : n0 ≤ h0.size) (P0 : Arv Z h0 a k1 .byte (5 : Int32) [(.int (116 : Int32)), (.int (111 : Int32)), (.int (116 : Int32)), (.int (97 : Int32)), (.int (108 : Int32))] (.int (0 : Int32))) (P1 : Arv Z h0 d k2 .byte (5 : Int32) [(.int (nar .byte ((116 : Int32).toInt8.toInt32))), (.int (nar .byte ((111 : Int32).toInt8.toInt32))), (.int (nar .byte ((116 : Int32).toInt8.toInt32))), (.int (nar .byte ((97 : Int32).toInt8.toInt32))), (.int (nar .byte ((108 : Int32).toInt8.toInt32)))] (.int (0 : Int32))) :
    MetFree l (⟨"java/lang/StringLatin1", "equals", "([B[B)Z"⟩ : MethodName) (head1 (Jvm.Cond.code (⟨"java/lang/StringLatin1", "equals", "([B[B)Z"⟩ : MethodName) jdk_43_method_13_code 3 (some .boolean) :: ws) ({ frames := 0, cells := 0, slots := 0, locals := 0 } : Room)) (fun argz U => argz = #[(.ref a), (.ref d)] ∧ Z.Warmed39 U.vm ∧ U.heap = h0) (fun _ _ _ _ _ => True) (fun _ U o U' => ∃ v L, o = .returned v ∧ Q11i2k2 Z a d k1 k2 h0 n0 v U'.heap L ∧ FrameEnd U o U' L ({ frames := 0, cells := 0, slots := 0, locals := 0 } : Room).cells ({ frames := 0, cells := 0, slots := 0, locals := 0 } : Room).slots) := by
  refine MetFree.of_bodySF (plainFor_of_name pn_java_lang_StringLatin1) hisR ?_
  intro p e s m args below meth c s₁ Bd hml0 hP hK
  obtain ⟨rfl, hZ, hh⟩ := hP
  have hx := Bd.exec
  have hby := Bd.bytes
  have hml : c.maxLocals = 3 := hml0
  have hown : s.vm.findClass "java/lang/StringLatin1" = some m.cls := findClass_of_methodNamed Bd.named
  have hnm := (name_of_methodNamed Bd.named Bd.method).1
  have X0 : Stand p l e ({ frames := 0, cells := 0, slots := 0, locals := 0 } : Room) s m #[(.ref a), (.ref d)] below meth c s₁ [] 0 0 := Stand.of_body Bd
  have e0 : s₁.heap = h0 := by rw [← hh, Bd.state]; rfl
  have N0 := Fr.nil n0
  have G : Gets p e below (s₁.setTop (entryFrame m #[(.ref a), (.ref d)] 3)) (s₁.setTop (mkF m 0 #[.val (.ref a), .val (.ref d), .unset] [])) := fun t k => castTop (ef_11i2k2 m a d) k
  replace G := own_aloadN (q := 1) G X0.here hx (hb hby d11_0) rfl rfl rfl
  obtain ⟨c1, Ar1, -, S1, N1', -, -⟩ := id P0
  replace G : Gets p e below _ (s₁.setTop (mkF m 2 #[.val (.ref a), .val (.ref d), .unset] [(.int (5 : Int32))])) := fun t k => G t (X0.arraylength hx (by rw [e0]; exact Ar1.1) (State.isArrayOf_alike hZ.alike Ar1.2.1) (g := (mkF m 1 #[.val (.ref a), .val (.ref d), .unset] [(.ref a)])) rfl rfl (hb hby d11_1) t (by rw [len_of S1 N1']; exact k))
  replace G := own_aloadN (q := 3) G X0.here hx (hb hby d11_2) rfl rfl rfl
  obtain ⟨c2, Ar2, -, S2, N2', -, -⟩ := id P1
  replace G : Gets p e below _ (s₁.setTop (mkF m 4 #[.val (.ref a), .val (.ref d), .unset] [(.int (5 : Int32)), (.int (5 : Int32))])) := fun t k => G t (X0.arraylength hx (by rw [e0]; exact Ar2.1) (State.isArrayOf_alike hZ.alike Ar2.2.1) (g := (mkF m 3 #[.val (.ref a), .val (.ref d), .unset] [(.ref d), (.int (5 : Int32))])) rfl rfl (hb hby d11_3) t (by rw [len_of S2 N2']; exact k))
  have hc4_3 : (5 : Int32) = (5 : Int32) := by decide
  replace G := own_icmpNo (q := 7) G X0.here hx (hb hby d11_4) (teq hc4_3).2 rfl
  replace G := own_iconst (q := 8) G X0.here hx (hb hby d11_7) (v := (0 : Int32)) (by decide) rfl
  replace G := own_istoreN (q := 9) (l' := #[.val (.ref a), .val (.ref d), .val (.int (0 : Int32))]) G X0.here hx (hb hby d11_8) rfl rfl
  replace G := own_iloadN (q := 10) G X0.here hx (hb hby d11_9) rfl rfl
  replace G := own_aloadN (q := 11) G X0.here hx (hb hby d11_10) rfl rfl rfl
  obtain ⟨c4, Ar4, -, S4, N4', -, -⟩ := id P0
  replace G : Gets p e below _ (s₁.setTop (mkF m 12 #[.val (.ref a), .val (.ref d), .val (.int (0 : Int32))] [(.int (5 : Int32)), (.int (0 : Int32))])) := fun t k => G t (X0.arraylength hx (by rw [e0]; exact Ar4.1) (State.isArrayOf_alike hZ.alike Ar4.2.1) (g := (mkF m 11 #[.val (.ref a), .val (.ref d), .val (.int (0 : Int32))] [(.ref a), (.int (0 : Int32))])) rfl rfl (hb hby d11_11) t (by rw [len_of S4 N4']; exact k))
  have hc12_5 : (0 : Int32) < (5 : Int32) := by decide
  replace G := own_icmpNo (q := 15) G X0.here hx (hb hby d11_12) (tlt hc12_5).2.1 rfl
  replace G := own_aloadN (q := 16) G X0.here hx (hb hby d11_15) rfl rfl rfl
  replace G := own_iloadN (q := 17) G X0.here hx (hb hby d11_16) rfl rfl
  obtain ⟨c6, Ar6, -, S6, -, H6, -⟩ := id P0
  have hin6 : ¬ ((0 : Int32) < 0 ∨ c6.slots.size ≤ ((0 : Int32)).toNatClampNeg) := inb_of S6 ⟨by decide, by decide⟩
  replace G : Gets p e below _ (s₁.setTop (mkF m 18 #[.val (.ref a), .val (.ref d), .val (.int (0 : Int32))] [(.int (116 : Int32))])) := fun t k => G t (X0.baloadBytes hx (j := (0 : Int32)) (v := (.int (116 : Int32))) (by rw [e0]; exact Ar6.1) (State.isArrayOf_alike hZ.alike Ar6.2.1) Ar6.2.2 hin6 (Has.at H6 hin6 rfl) (g := (mkF m 17 #[.val (.ref a), .val (.ref d), .val (.int (0 : Int32))] [(.int (0 : Int32)), (.ref a)])) rfl rfl (hb hby d11_17) t k)
  replace G := own_aloadN (q := 19) G X0.here hx (hb hby d11_18) rfl rfl rfl
  replace G := own_iloadN (q := 20) G X0.here hx (hb hby d11_19) rfl rfl
  obtain ⟨c7, Ar7, -, S7, -, H7, -⟩ := id P1
  have hin7 : ¬ ((0 : Int32) < 0 ∨ c7.slots.size ≤ ((0 : Int32)).toNatClampNeg) := inb_of S7 ⟨by decide, by decide⟩
  replace G : Gets p e below _ (s₁.setTop (mkF m 21 #[.val (.ref a), .val (.ref d), .val (.int (0 : Int32))] [(.int (nar .byte ((116 : Int32).toInt8.toInt32))), (.int (116 : Int32))])) := fun t k => G t (X0.baloadBytes hx (j := (0 : Int32)) (v := (.int (nar .byte ((116 : Int32).toInt8.toInt32)))) (by rw [e0]; exact Ar7.1) (State.isArrayOf_alike hZ.alike Ar7.2.1) Ar7.2.2 hin7 (Has.at H7 hin7 rfl) (g := (mkF m 20 #[.val (.ref a), .val (.ref d), .val (.int (0 : Int32))] [(.int (0 : Int32)), (.ref d), (.int (116 : Int32))])) rfl rfl (hb hby d11_20) t k)
  have hc21_8 : (116 : Int32) = (nar .byte ((116 : Int32).toInt8.toInt32)) := by decide
  replace G := own_icmpYes (q := 26) G X0.here hx (hb hby d11_21) (teq hc21_8).1 (by decide) (by decide)
  replace G := own_iinc (q := 29) (l' := #[.val (.ref a), .val (.ref d), .val (.int (1 : Int32))]) (w := (1 : Int32)) G X0.here hx (hb hby d11_26) (by decide) rfl (by decide : ((0 : Int32) + (1 : Int32)) = (1 : Int32)) rfl rfl
  replace G := own_goto (q := 9) G X0.here hx (hb hby d11_29) (by decide) (by decide)
  replace G := own_iloadN (q := 10) G X0.here hx (hb hby d11_9) rfl rfl
  replace G := own_aloadN (q := 11) G X0.here hx (hb hby d11_10) rfl rfl rfl
  obtain ⟨c9, Ar9, -, S9, N9', -, -⟩ := id P0
  replace G : Gets p e below _ (s₁.setTop (mkF m 12 #[.val (.ref a), .val (.ref d), .val (.int (1 : Int32))] [(.int (5 : Int32)), (.int (1 : Int32))])) := fun t k => G t (X0.arraylength hx (by rw [e0]; exact Ar9.1) (State.isArrayOf_alike hZ.alike Ar9.2.1) (g := (mkF m 11 #[.val (.ref a), .val (.ref d), .val (.int (1 : Int32))] [(.ref a), (.int (1 : Int32))])) rfl rfl (hb hby d11_11) t (by rw [len_of S9 N9']; exact k))
  have hc12_10 : (1 : Int32) < (5 : Int32) := by decide
  replace G := own_icmpNo (q := 15) G X0.here hx (hb hby d11_12) (tlt hc12_10).2.1 rfl
  replace G := own_aloadN (q := 16) G X0.here hx (hb hby d11_15) rfl rfl rfl
  replace G := own_iloadN (q := 17) G X0.here hx (hb hby d11_16) rfl rfl
  obtain ⟨c11, Ar11, -, S11, -, H11, -⟩ := id P0
  have hin11 : ¬ ((1 : Int32) < 0 ∨ c11.slots.size ≤ ((1 : Int32)).toNatClampNeg) := inb_of S11 ⟨by decide, by decide⟩
  replace G : Gets p e below _ (s₁.setTop (mkF m 18 #[.val (.ref a), .val (.ref d), .val (.int (1 : Int32))] [(.int (111 : Int32))])) := fun t k => G t (X0.baloadBytes hx (j := (1 : Int32)) (v := (.int (111 : Int32))) (by rw [e0]; exact Ar11.1) (State.isArrayOf_alike hZ.alike Ar11.2.1) Ar11.2.2 hin11 (Has.at H11 hin11 rfl) (g := (mkF m 17 #[.val (.ref a), .val (.ref d), .val (.int (1 : Int32))] [(.int (1 : Int32)), (.ref a)])) rfl rfl (hb hby d11_17) t k)
  replace G := own_aloadN (q := 19) G X0.here hx (hb hby d11_18) rfl rfl rfl
  replace G := own_iloadN (q := 20) G X0.here hx (hb hby d11_19) rfl rfl
  obtain ⟨c12, Ar12, -, S12, -, H12, -⟩ := id P1
  have hin12 : ¬ ((1 : Int32) < 0 ∨ c12.slots.size ≤ ((1 : Int32)).toNatClampNeg) := inb_of S12 ⟨by decide, by decide⟩
  replace G : Gets p e below _ (s₁.setTop (mkF m 21 #[.val (.ref a), .val (.ref d), .val (.int (1 : Int32))] [(.int (nar .byte ((111 : Int32).toInt8.toInt32))), (.int (111 : Int32))])) := fun t k => G t (X0.baloadBytes hx (j := (1 : Int32)) (v := (.int (nar .byte ((111 : Int32).toInt8.toInt32)))) (by rw [e0]; exact Ar12.1) (State.isArrayOf_alike hZ.alike Ar12.2.1) Ar12.2.2 hin12 (Has.at H12 hin12 rfl) (g := (mkF m 20 #[.val (.ref a), .val (.ref d), .val (.int (1 : Int32))] [(.int (1 : Int32)), (.ref d), (.int (111 : Int32))])) rfl rfl (hb hby d11_20) t k)
  have hc21_13 : (111 : Int32) = (nar .byte ((111 : Int32).toInt8.toInt32)) := by decide
  replace G := own_icmpYes (q := 26) G X0.here hx (hb hby d11_21) (teq hc21_13).1 (by decide) (by decide)
  replace G := own_iinc (q := 29) (l' := #[.val (.ref a), .val (.ref d), .val (.int (2 : Int32))]) (w := (1 : Int32)) G X0.here hx (hb hby d11_26) (by decide) rfl (by decide : ((1 : Int32) + (1 : Int32)) = (2 : Int32)) rfl rfl
  replace G := own_goto (q := 9) G X0.here hx (hb hby d11_29) (by decide) (by decide)
  replace G := own_iloadN (q := 10) G X0.here hx (hb hby d11_9) rfl rfl
  replace G := own_aloadN (q := 11) G X0.here hx (hb hby d11_10) rfl rfl rfl
  obtain ⟨c14, Ar14, -, S14, N14', -, -⟩ := id P0
  replace G : Gets p e below _ (s₁.setTop (mkF m 12 #[.val (.ref a), .val (.ref d), .val (.int (2 : Int32))] [(.int (5 : Int32)), (.int (2 : Int32))])) := fun t k => G t (X0.arraylength hx (by rw [e0]; exact Ar14.1) (State.isArrayOf_alike hZ.alike Ar14.2.1) (g := (mkF m 11 #[.val (.ref a), .val (.ref d), .val (.int (2 : Int32))] [(.ref a), (.int (2 : Int32))])) rfl rfl (hb hby d11_11) t (by rw [len_of S14 N14']; exact k))
  have hc12_15 : (2 : Int32) < (5 : Int32) := by decide
  replace G := own_icmpNo (q := 15) G X0.here hx (hb hby d11_12) (tlt hc12_15).2.1 rfl
  replace G := own_aloadN (q := 16) G X0.here hx (hb hby d11_15) rfl rfl rfl
  replace G := own_iloadN (q := 17) G X0.here hx (hb hby d11_16) rfl rfl
  obtain ⟨c16, Ar16, -, S16, -, H16, -⟩ := id P0
  have hin16 : ¬ ((2 : Int32) < 0 ∨ c16.slots.size ≤ ((2 : Int32)).toNatClampNeg) := inb_of S16 ⟨by decide, by decide⟩
  replace G : Gets p e below _ (s₁.setTop (mkF m 18 #[.val (.ref a), .val (.ref d), .val (.int (2 : Int32))] [(.int (116 : Int32))])) := fun t k => G t (X0.baloadBytes hx (j := (2 : Int32)) (v := (.int (116 : Int32))) (by rw [e0]; exact Ar16.1) (State.isArrayOf_alike hZ.alike Ar16.2.1) Ar16.2.2 hin16 (Has.at H16 hin16 rfl) (g := (mkF m 17 #[.val (.ref a), .val (.ref d), .val (.int (2 : Int32))] [(.int (2 : Int32)), (.ref a)])) rfl rfl (hb hby d11_17) t k)
  replace G := own_aloadN (q := 19) G X0.here hx (hb hby d11_18) rfl rfl rfl
  replace G := own_iloadN (q := 20) G X0.here hx (hb hby d11_19) rfl rfl
  obtain ⟨c17, Ar17, -, S17, -, H17, -⟩ := id P1
  have hin17 : ¬ ((2 : Int32) < 0 ∨ c17.slots.size ≤ ((2 : Int32)).toNatClampNeg) := inb_of S17 ⟨by decide, by decide⟩
  replace G : Gets p e below _ (s₁.setTop (mkF m 21 #[.val (.ref a), .val (.ref d), .val (.int (2 : Int32))] [(.int (nar .byte ((116 : Int32).toInt8.toInt32))), (.int (116 : Int32))])) := fun t k => G t (X0.baloadBytes hx (j := (2 : Int32)) (v := (.int (nar .byte ((116 : Int32).toInt8.toInt32)))) (by rw [e0]; exact Ar17.1) (State.isArrayOf_alike hZ.alike Ar17.2.1) Ar17.2.2 hin17 (Has.at H17 hin17 rfl) (g := (mkF m 20 #[.val (.ref a), .val (.ref d), .val (.int (2 : Int32))] [(.int (2 : Int32)), (.ref d), (.int (116 : Int32))])) rfl rfl (hb hby d11_20) t k)
  have hc21_18 : (116 : Int32) = (nar .byte ((116 : Int32).toInt8.toInt32)) := by decide
  replace G := own_icmpYes (q := 26) G X0.here hx (hb hby d11_21) (teq hc21_18).1 (by decide) (by decide)
  replace G := own_iinc (q := 29) (l' := #[.val (.ref a), .val (.ref d), .val (.int (3 : Int32))]) (w := (1 : Int32)) G X0.here hx (hb hby d11_26) (by decide) rfl (by decide : ((2 : Int32) + (1 : Int32)) = (3 : Int32)) rfl rfl
  replace G := own_goto (q := 9) G X0.here hx (hb hby d11_29) (by decide) (by decide)
  replace G := own_iloadN (q := 10) G X0.here hx (hb hby d11_9) rfl rfl
  replace G := own_aloadN (q := 11) G X0.here hx (hb hby d11_10) rfl rfl rfl
  obtain ⟨c19, Ar19, -, S19, N19', -, -⟩ := id P0
  replace G : Gets p e below _ (s₁.setTop (mkF m 12 #[.val (.ref a), .val (.ref d), .val (.int (3 : Int32))] [(.int (5 : Int32)), (.int (3 : Int32))])) := fun t k => G t (X0.arraylength hx (by rw [e0]; exact Ar19.1) (State.isArrayOf_alike hZ.alike Ar19.2.1) (g := (mkF m 11 #[.val (.ref a), .val (.ref d), .val (.int (3 : Int32))] [(.ref a), (.int (3 : Int32))])) rfl rfl (hb hby d11_11) t (by rw [len_of S19 N19']; exact k))
  have hc12_20 : (3 : Int32) < (5 : Int32) := by decide
  replace G := own_icmpNo (q := 15) G X0.here hx (hb hby d11_12) (tlt hc12_20).2.1 rfl
  replace G := own_aloadN (q := 16) G X0.here hx (hb hby d11_15) rfl rfl rfl
  replace G := own_iloadN (q := 17) G X0.here hx (hb hby d11_16) rfl rfl
  obtain ⟨c21, Ar21, -, S21, -, H21, -⟩ := id P0
  have hin21 : ¬ ((3 : Int32) < 0 ∨ c21.slots.size ≤ ((3 : Int32)).toNatClampNeg) := inb_of S21 ⟨by decide, by decide⟩
  replace G : Gets p e below _ (s₁.setTop (mkF m 18 #[.val (.ref a), .val (.ref d), .val (.int (3 : Int32))] [(.int (97 : Int32))])) := fun t k => G t (X0.baloadBytes hx (j := (3 : Int32)) (v := (.int (97 : Int32))) (by rw [e0]; exact Ar21.1) (State.isArrayOf_alike hZ.alike Ar21.2.1) Ar21.2.2 hin21 (Has.at H21 hin21 rfl) (g := (mkF m 17 #[.val (.ref a), .val (.ref d), .val (.int (3 : Int32))] [(.int (3 : Int32)), (.ref a)])) rfl rfl (hb hby d11_17) t k)
  replace G := own_aloadN (q := 19) G X0.here hx (hb hby d11_18) rfl rfl rfl
  replace G := own_iloadN (q := 20) G X0.here hx (hb hby d11_19) rfl rfl
  obtain ⟨c22, Ar22, -, S22, -, H22, -⟩ := id P1
  have hin22 : ¬ ((3 : Int32) < 0 ∨ c22.slots.size ≤ ((3 : Int32)).toNatClampNeg) := inb_of S22 ⟨by decide, by decide⟩
  replace G : Gets p e below _ (s₁.setTop (mkF m 21 #[.val (.ref a), .val (.ref d), .val (.int (3 : Int32))] [(.int (nar .byte ((97 : Int32).toInt8.toInt32))), (.int (97 : Int32))])) := fun t k => G t (X0.baloadBytes hx (j := (3 : Int32)) (v := (.int (nar .byte ((97 : Int32).toInt8.toInt32)))) (by rw [e0]; exact Ar22.1) (State.isArrayOf_alike hZ.alike Ar22.2.1) Ar22.2.2 hin22 (Has.at H22 hin22 rfl) (g := (mkF m 20 #[.val (.ref a), .val (.ref d), .val (.int (3 : Int32))] [(.int (3 : Int32)), (.ref d), (.int (97 : Int32))])) rfl rfl (hb hby d11_20) t k)
  have hc21_23 : (97 : Int32) = (nar .byte ((97 : Int32).toInt8.toInt32)) := by decide
  replace G := own_icmpYes (q := 26) G X0.here hx (hb hby d11_21) (teq hc21_23).1 (by decide) (by decide)
  replace G := own_iinc (q := 29) (l' := #[.val (.ref a), .val (.ref d), .val (.int (4 : Int32))]) (w := (1 : Int32)) G X0.here hx (hb hby d11_26) (by decide) rfl (by decide : ((3 : Int32) + (1 : Int32)) = (4 : Int32)) rfl rfl
  replace G := own_goto (q := 9) G X0.here hx (hb hby d11_29) (by decide) (by decide)
  replace G := own_iloadN (q := 10) G X0.here hx (hb hby d11_9) rfl rfl
  replace G := own_aloadN (q := 11) G X0.here hx (hb hby d11_10) rfl rfl rfl
  obtain ⟨c24, Ar24, -, S24, N24', -, -⟩ := id P0
  replace G : Gets p e below _ (s₁.setTop (mkF m 12 #[.val (.ref a), .val (.ref d), .val (.int (4 : Int32))] [(.int (5 : Int32)), (.int (4 : Int32))])) := fun t k => G t (X0.arraylength hx (by rw [e0]; exact Ar24.1) (State.isArrayOf_alike hZ.alike Ar24.2.1) (g := (mkF m 11 #[.val (.ref a), .val (.ref d), .val (.int (4 : Int32))] [(.ref a), (.int (4 : Int32))])) rfl rfl (hb hby d11_11) t (by rw [len_of S24 N24']; exact k))
  have hc12_25 : (4 : Int32) < (5 : Int32) := by decide
  replace G := own_icmpNo (q := 15) G X0.here hx (hb hby d11_12) (tlt hc12_25).2.1 rfl
  replace G := own_aloadN (q := 16) G X0.here hx (hb hby d11_15) rfl rfl rfl
  replace G := own_iloadN (q := 17) G X0.here hx (hb hby d11_16) rfl rfl
  obtain ⟨c26, Ar26, -, S26, -, H26, -⟩ := id P0
  have hin26 : ¬ ((4 : Int32) < 0 ∨ c26.slots.size ≤ ((4 : Int32)).toNatClampNeg) := inb_of S26 ⟨by decide, by decide⟩
  replace G : Gets p e below _ (s₁.setTop (mkF m 18 #[.val (.ref a), .val (.ref d), .val (.int (4 : Int32))] [(.int (108 : Int32))])) := fun t k => G t (X0.baloadBytes hx (j := (4 : Int32)) (v := (.int (108 : Int32))) (by rw [e0]; exact Ar26.1) (State.isArrayOf_alike hZ.alike Ar26.2.1) Ar26.2.2 hin26 (Has.at H26 hin26 rfl) (g := (mkF m 17 #[.val (.ref a), .val (.ref d), .val (.int (4 : Int32))] [(.int (4 : Int32)), (.ref a)])) rfl rfl (hb hby d11_17) t k)
  replace G := own_aloadN (q := 19) G X0.here hx (hb hby d11_18) rfl rfl rfl
  replace G := own_iloadN (q := 20) G X0.here hx (hb hby d11_19) rfl rfl
  obtain ⟨c27, Ar27, -, S27, -, H27, -⟩ := id P1
  have hin27 : ¬ ((4 : Int32) < 0 ∨ c27.slots.size ≤ ((4 : Int32)).toNatClampNeg) := inb_of S27 ⟨by decide, by decide⟩
  replace G : Gets p e below _ (s₁.setTop (mkF m 21 #[.val (.ref a), .val (.ref d), .val (.int (4 : Int32))] [(.int (nar .byte ((108 : Int32).toInt8.toInt32))), (.int (108 : Int32))])) := fun t k => G t (X0.baloadBytes hx (j := (4 : Int32)) (v := (.int (nar .byte ((108 : Int32).toInt8.toInt32)))) (by rw [e0]; exact Ar27.1) (State.isArrayOf_alike hZ.alike Ar27.2.1) Ar27.2.2 hin27 (Has.at H27 hin27 rfl) (g := (mkF m 20 #[.val (.ref a), .val (.ref d), .val (.int (4 : Int32))] [(.int (4 : Int32)), (.ref d), (.int (108 : Int32))])) rfl rfl (hb hby d11_20) t k)
  have hc21_28 : (108 : Int32) = (nar .byte ((108 : Int32).toInt8.toInt32)) := by decide
  replace G := own_icmpYes (q := 26) G X0.here hx (hb hby d11_21) (teq hc21_28).1 (by decide) (by decide)
  replace G := own_iinc (q := 29) (l' := #[.val (.ref a), .val (.ref d), .val (.int (5 : Int32))]) (w := (1 : Int32)) G X0.here hx (hb hby d11_26) (by decide) rfl (by decide : ((4 : Int32) + (1 : Int32)) = (5 : Int32)) rfl rfl
  replace G := own_goto (q := 9) G X0.here hx (hb hby d11_29) (by decide) (by decide)
  replace G := own_iloadN (q := 10) G X0.here hx (hb hby d11_9) rfl rfl
  replace G := own_aloadN (q := 11) G X0.here hx (hb hby d11_10) rfl rfl rfl
  obtain ⟨c29, Ar29, -, S29, N29', -, -⟩ := id P0
  replace G : Gets p e below _ (s₁.setTop (mkF m 12 #[.val (.ref a), .val (.ref d), .val (.int (5 : Int32))] [(.int (5 : Int32)), (.int (5 : Int32))])) := fun t k => G t (X0.arraylength hx (by rw [e0]; exact Ar29.1) (State.isArrayOf_alike hZ.alike Ar29.2.1) (g := (mkF m 11 #[.val (.ref a), .val (.ref d), .val (.int (5 : Int32))] [(.ref a), (.int (5 : Int32))])) rfl rfl (hb hby d11_11) t (by rw [len_of S29 N29']; exact k))
  have hc12_30 : ¬ ((5 : Int32) < (5 : Int32)) := by decide
  replace G := own_icmpYes (q := 32) G X0.here hx (hb hby d11_12) (flt hc12_30).2.1 (by decide) (by decide)
  replace G := own_iconst (q := 33) G X0.here hx (hb hby d11_32) (v := (1 : Int32)) (by decide) rfl
  obtain ⟨fs, hr, hrun, hended, hW, hsame⟩ := X0.leave (v := some (.int (1 : Int32))) (fun h => by rw [Bd.returns] at h; cases h)
  refine ⟨_, _, G _ (retOut X0 hx Bd.returns rfl (Or.inl ⟨rfl, Or.inr (Or.inl rfl), _, rfl⟩) (hb hby d11_33) hr), hrun, hended, _, _, rfl, ?_, ⟨_, rfl⟩, hW, hsame.mono (by decide) (by decide)⟩
  show Q11i2k2 Z a d k1 k2 h0 n0 _ s₁.heap _
  rw [e0]
  exact ⟨rfl, N0, rfl⟩
theorem ef_10i2k2 (m : MethodId) (x0 : Addr) (x1 : Addr) : entryFrame m #[(.ref x0), (.ref x1)] 3 = mkF m 0 #[.val (.ref x0), .val (.ref x1), .unset] [] := by first | (simp [entryFrame, mkF, argsToLocals, Value.category]; done) | rfl
def Q10i2k2 (Z : State) (a : Addr) (d : Addr) (x : Addr) (y : Addr) (k1 : ClassId) (k2 : ClassId) (cw : Int32) (h0 : Heap) (n0 : Nat) (v : Option Value) (h : Heap) (L : List Loc) : Prop := v = some (.int (1 : Int32)) ∧ Fr n0 L ∧ h = h0
set_option maxRecDepth 65536 in
set_option maxHeartbeats 40000000 in
theorem rm10i2k2 (l : Launch) (Z : State) (a0 : Array Value) (hw : ∀ d ∈ tables_1, d.before a0 Z = true) (ws : List Jvm.Cond) (a : Addr) (d : Addr) (x : Addr) (y : Addr) (k1 : ClassId) (k2 : ClassId) (cw : Int32) (h0 : Heap) (n0 : Nat) (Z0 : n0 ≤ h0.size) (P0 : Fld Z h0 a "java/lang/String" "coder" "B" (.int (0 : Int32))) (P1 : Fld Z h0 d "java/lang/String" "coder" "B" (.int (0 : Int32))) (P2 : Fld Z h0 a "java/lang/String" "value" "[B" (.ref x)) (P3 : Fld Z h0 d "java/lang/String" "value" "[B" (.ref y)) (P4 : Exa Z h0 d "java/lang/String") (P5 : Arv Z h0 x k1 .byte (5 : Int32) [(.int (116 : Int32)), (.int (111 : Int32)), (.int (116 : Int32)), (.int (97 : Int32)), (.int (108 : Int32))] (.int (0 : Int32))) (P6 : Arv Z h0 y k2 .byte (5 : Int32) [(.int (nar .byte ((116 : Int32).toInt8.toInt32))), (.int (nar .byte ((111 : Int32).toInt8.toInt32))), (.int (nar .byte ((116 : Int32).toInt8.toInt32))), (.int (nar .byte ((97 : Int32).toInt8.toInt32))), (.int (nar .byte ((108 : Int32).toInt8.toInt32)))] (.int (0 : Int32))) (P7 : Sta Z h0 "java/lang/String" "COMPACT_STRINGS" "Z" (.int cw)) (hcw : ¬ cw = (0 : Int32)) (P9 : a ≠ d) :
    MetFree l (⟨"java/lang/String", "equals", "(Ljava/lang/Object;)Z"⟩ : MethodName) (head1 (Jvm.Cond.code (⟨"java/lang/String", "equals", "(Ljava/lang/Object;)Z"⟩ : MethodName) jdk_42_method_66_code 3 (some .boolean) :: ws) ({ frames := 1, cells := 0, slots := 0, locals := 14 } : Room)) (fun argz U => argz = #[(.ref a), (.ref d)] ∧ Z.Warmed39 U.vm ∧ U.heap = h0) (fun _ _ _ _ _ => True) (fun _ U o U' => ∃ v L, o = .returned v ∧ Q10i2k2 Z a d x y k1 k2 cw h0 n0 v U'.heap L ∧ FrameEnd U o U' L ({ frames := 1, cells := 0, slots := 0, locals := 14 } : Room).cells ({ frames := 1, cells := 0, slots := 0, locals := 14 } : Room).slots) := by
  refine MetFree.of_bodySF (plainFor_of_name pn_java_lang_String) hisR ?_
  intro p e s m args below meth c s₁ Bd hml0 hP hK
  obtain ⟨rfl, hZ, hh⟩ := hP
  have hx := Bd.exec
  have hby := Bd.bytes
  have hml : c.maxLocals = 3 := hml0
  have hown : s.vm.findClass "java/lang/String" = some m.cls := findClass_of_methodNamed Bd.named
  have hnm := (name_of_methodNamed Bd.named Bd.method).1
  have X0 : Stand p l e ({ frames := 1, cells := 0, slots := 0, locals := 14 } : Room) s m #[(.ref a), (.ref d)] below meth c s₁ [] 0 0 := Stand.of_body Bd
  have e0 : s₁.heap = h0 := by rw [← hh, Bd.state]; rfl
  have N0 := Fr.nil n0
  have G : Gets p e below (s₁.setTop (entryFrame m #[(.ref a), (.ref d)] 3)) (s₁.setTop (mkF m 0 #[.val (.ref a), .val (.ref d), .unset] [])) := fun t k => castTop (ef_10i2k2 m a d) k
  replace G := own_aloadN (q := 1) G X0.here hx (hb hby d10_0) rfl rfl rfl
  replace G := own_aloadN (q := 2) G X0.here hx (hb hby d10_1) rfl rfl rfl
  replace G : Gets p e below _ (s₁.setTop (mkF m 7 #[.val (.ref a), .val (.ref d), .unset] [])) := fun t k => G t (Jvm.RoadKit.acmp (g := (mkF m 2 #[.val (.ref a), .val (.ref d), .unset] [(.ref d), (.ref a)])) X0 hx rfl rfl rfl (pc0 := 2) (pc' := 7) (same := false) rfl (hb hby d10_2) rfl (decide_eq_false fun q => P9 (Value.ref.inj q)) (by decide) (by decide) k)
  replace G := own_aloadN (q := 8) G X0.here hx (hb hby d10_7) rfl rfl rfl
  obtain ⟨T1, X1, e1, st1⟩ := instY X0 hx hZ hown (hw _ (List.mem_of_getElem? (i := 68) rfl)) e0 (Ins.self P4) (g := (mkF m 8 #[.val (.ref a), .val (.ref d), .unset] [(.ref d)])) rfl rfl (hb hby d10_8)
  replace G : Gets p e below _ (T1.setTop (mkF m 11 #[.val (.ref a), .val (.ref d), .unset] [(.int (1 : Int32))])) := fun t k => G t (st1 t k)
  have hc11_2 : ¬ ((1 : Int32) = (0 : Int32)) := by decide
  replace G := own_ifNo (q := 14) G X1.here hx (hb hby d10_11) ((if0 _ _).trans (feq hc11_2).1) rfl
  replace G := own_aloadN (q := 15) G X1.here hx (hb hby d10_14) rfl rfl rfl
  obtain ⟨T3, X3, e3, st3⟩ := castY X1 hx hZ hown (hw _ (List.mem_of_getElem? (i := 68) rfl)) e1 (Ins.self P4) (g := (mkF m 15 #[.val (.ref a), .val (.ref d), .unset] [(.ref d)])) rfl rfl (hb hby d10_15)
  replace G : Gets p e below _ (T3.setTop (mkF m 18 #[.val (.ref a), .val (.ref d), .unset] [(.ref d)])) := fun t k => G t (st3 t k)
  replace G := own_astoreN (q := 19) (l' := #[.val (.ref a), .val (.ref d), .val (.ref d)]) G X3.here hx (hb hby d10_18) rfl rfl rfl
  obtain ⟨T4, X4, e4, st4⟩ := getS2 X3 hx hZ hown (host := "") (Or.inl (hw _ (List.mem_of_getElem? (i := 18) rfl))) Via.refl e3 P7 (g := (mkF m 19 #[.val (.ref a), .val (.ref d), .val (.ref d)] [])) rfl (hb hby d10_19)
  replace G : Gets p e below _ (T4.setTop (mkF m 22 #[.val (.ref a), .val (.ref d), .val (.ref d)] [(.int cw)])) := fun t k => G t (st4 t k)
  have hc22_5 : ¬ (cw = (0 : Int32)) := hcw
  replace G := own_ifNo (q := 25) G X4.here hx (hb hby d10_22) ((if0 _ _).trans (feq hc22_5).1) rfl
  replace G := own_aloadN (q := 26) G X4.here hx (hb hby d10_25) rfl rfl rfl
  obtain ⟨T6, X6, e6, st6⟩ := getF X4 hx hZ hown (host := "") (Or.inl (hw _ (List.mem_of_getElem? (i := 30) rfl))) Via.refl e4 P0 (g := (mkF m 26 #[.val (.ref a), .val (.ref d), .val (.ref d)] [(.ref a)])) rfl rfl (hb hby d10_26)
  replace G : Gets p e below _ (T6.setTop (mkF m 29 #[.val (.ref a), .val (.ref d), .val (.ref d)] [(.int (0 : Int32))])) := fun t k => G t (st6 t k)
  replace G := own_aloadN (q := 30) G X6.here hx (hb hby d10_29) rfl rfl rfl
  obtain ⟨T7, X7, e7, st7⟩ := getF X6 hx hZ hown (host := "") (Or.inl (hw _ (List.mem_of_getElem? (i := 30) rfl))) Via.refl e6 P1 (g := (mkF m 30 #[.val (.ref a), .val (.ref d), .val (.ref d)] [(.ref d), (.int (0 : Int32))])) rfl rfl (hb hby d10_30)
  replace G : Gets p e below _ (T7.setTop (mkF m 33 #[.val (.ref a), .val (.ref d), .val (.ref d)] [(.int (0 : Int32)), (.int (0 : Int32))])) := fun t k => G t (st7 t k)
  have hc33_8 : (0 : Int32) = (0 : Int32) := by decide
  replace G := own_icmpNo (q := 36) G X7.here hx (hb hby d10_33) (teq hc33_8).2 rfl
  replace G := own_aloadN (q := 37) G X7.here hx (hb hby d10_36) rfl rfl rfl
  obtain ⟨T9, X9, e9, st9⟩ := getF X7 hx hZ hown (host := "") (Or.inl (hw _ (List.mem_of_getElem? (i := 32) rfl))) Via.refl e7 P2 (g := (mkF m 37 #[.val (.ref a), .val (.ref d), .val (.ref d)] [(.ref a)])) rfl rfl (hb hby d10_37)
  replace G : Gets p e below _ (T9.setTop (mkF m 40 #[.val (.ref a), .val (.ref d), .val (.ref d)] [(.ref x)])) := fun t k => G t (st9 t k)
  replace G := own_aloadN (q := 41) G X9.here hx (hb hby d10_40) rfl rfl rfl
  obtain ⟨T10, X10, e10, st10⟩ := getF X9 hx hZ hown (host := "") (Or.inl (hw _ (List.mem_of_getElem? (i := 32) rfl))) Via.refl e9 P3 (g := (mkF m 41 #[.val (.ref a), .val (.ref d), .val (.ref d)] [(.ref d), (.ref x)])) rfl rfl (hb hby d10_41)
  replace G : Gets p e below _ (T10.setTop (mkF m 44 #[.val (.ref a), .val (.ref d), .val (.ref d)] [(.ref y), (.ref x)])) := fun t k => G t (st10 t k)
  obtain ⟨_, _, ⟨T11, L11, kk11, nn11⟩, -, X11, ⟨Lc11, hQ11, l11, y11, z11⟩, st11⟩ := Jvm.LawKit.callS X10 hx (y := (⟨"java/lang/StringLatin1", "equals", "([B[B)Z"⟩ : MethodName)) hown (mvT hZ (hw _ (List.mem_of_getElem? (i := 69) rfl))) (mvT hZ (hw _ (List.mem_of_getElem? (i := 70) rfl))) (mvT hZ (hw _ (List.mem_of_getElem? (i := 71) rfl))) (mvT hZ (hw _ (List.mem_of_getElem? (i := 72) rfl))) (by decide) (backOf (W := 0) (rm11i2k2 l Z a0 hw [] x y k1 k2 h0 n0 Z0 P5 P6) hZ (hw _ (List.mem_of_getElem? (i := 72) rfl)) (hw _ (List.mem_of_getElem? (i := 71) rfl)) (by decide) (by decide)) (g := (mkF m 44 #[.val (.ref a), .val (.ref d), .val (.ref d)] [(.ref y), (.ref x)])) rfl (by rw [hml]; rfl) (argsL := [(.ref x), (.ref y)]) (rest := []) (lenOf pd_4 rfl) rfl (by show 2 * 0 + _ ≤ _; exact Nat.le_of_eq rfl) (hb hby d10_44) (fun _ _ => ⟨rfl, e10, (by decide : 0 + 0 ≤ _), (by decide : 0 + 0 ≤ _)⟩)
  dsimp only [Pt.U, Pt.locs, Pt.cells, Pt.slots] at X11 l11 y11 z11 st11 hQ11
  subst l11 y11 z11
  obtain ⟨rfl, N11q, e11⟩ := hQ11
  have N11 := Fr.app N0 N11q
  replace G : Gets p e below _ (T11.setTop (mkF m 47 #[.val (.ref a), .val (.ref d), .val (.ref d)] [(.int (1 : Int32))])) := fun t k => G t (st11 t k)
  have hc47_12 : ¬ ((1 : Int32) = (0 : Int32)) := by decide
  replace G := own_ifNo (q := 50) G X11.here hx (hb hby d10_47) ((if0 _ _).trans (feq hc47_12).1) rfl
  replace G := own_iconst (q := 51) G X11.here hx (hb hby d10_50) (v := (1 : Int32)) (by decide) rfl
  replace G := own_goto (q := 55) G X11.here hx (hb hby d10_51) (by decide) (by decide)
  obtain ⟨fs, hr, hrun, hended, hW, hsame⟩ := X11.leave (v := some (.int (1 : Int32))) (fun h => by rw [Bd.returns] at h; cases h)
  refine ⟨_, _, G _ (retOut X11 hx Bd.returns rfl (Or.inl ⟨rfl, Or.inr (Or.inl rfl), _, rfl⟩) (hb hby d10_55) hr), hrun, hended, _, _, rfl, ?_, ⟨_, rfl⟩, hW, hsame.mono (by decide) (by decide)⟩
  show Q10i2k2 Z a d x y k1 k2 cw h0 n0 _ T11.heap _
  rw [e11]
  exact ⟨rfl, N11, rfl⟩
theorem pd_5 : parseMethodDescriptor "(Ljava/lang/Object;Ljava/lang/String;)Ljava/lang/Object;" = some ⟨[(.object "java/lang/Object"), (.object "java/lang/String")], some (.object "java/lang/Object")⟩ := by decide +kernel
theorem pd_6 : parseMethodDescriptor "()[Lcom/example/cheapside/cheapside/core/Granularity;" = some ⟨[], some (.array (.object "com/example/cheapside/cheapside/core/Granularity"))⟩ := by decide +kernel
theorem pd_7 : parseMethodDescriptor "(Ljava/lang/Object;)Z" = some ⟨[(.object "java/lang/Object")], some .boolean⟩ := by decide +kernel
theorem d7_0 : decode prog_4_method_4_code 0 = .ok (.aload_n 0, 1) := by decide +kernel
theorem d7_1 : decode prog_4_method_4_code 1 = .ok (.ldc 36, 2) := by decide +kernel
theorem d7_3 : decode prog_4_method_4_code 3 = .ok (.invokestatic 37, 3) := by decide +kernel
theorem d7_6 : decode prog_4_method_4_code 6 = .ok (.pop, 1) := by decide +kernel
theorem d7_7 : decode prog_4_method_4_code 7 = .ok (.invokestatic 43, 3) := by decide +kernel
theorem d7_10 : decode prog_4_method_4_code 10 = .ok (.astore_n 1, 1) := by decide +kernel
theorem d7_11 : decode prog_4_method_4_code 11 = .ok (.aload_n 1, 1) := by decide +kernel
theorem d7_12 : decode prog_4_method_4_code 12 = .ok (.arraylength, 1) := by decide +kernel
theorem d7_13 : decode prog_4_method_4_code 13 = .ok (.istore_n 2, 1) := by decide +kernel
theorem d7_14 : decode prog_4_method_4_code 14 = .ok (.iconst 0, 1) := by decide +kernel
theorem d7_15 : decode prog_4_method_4_code 15 = .ok (.istore_n 3, 1) := by decide +kernel
theorem d7_16 : decode prog_4_method_4_code 16 = .ok (.iload_n 3, 1) := by decide +kernel
theorem d7_17 : decode prog_4_method_4_code 17 = .ok (.iload_n 2, 1) := by decide +kernel
theorem d7_18 : decode prog_4_method_4_code 18 = .ok (.if_icmp .ge 29, 3) := by decide +kernel
theorem d7_21 : decode prog_4_method_4_code 21 = .ok (.aload_n 1, 1) := by decide +kernel
theorem d7_22 : decode prog_4_method_4_code 22 = .ok (.iload_n 3, 1) := by decide +kernel
theorem d7_23 : decode prog_4_method_4_code 23 = .ok (.aaload, 1) := by decide +kernel
theorem d7_24 : decode prog_4_method_4_code 24 = .ok (.astore 4, 2) := by decide +kernel
theorem d7_26 : decode prog_4_method_4_code 26 = .ok (.aload 4, 2) := by decide +kernel
theorem d7_28 : decode prog_4_method_4_code 28 = .ok (.getfield 32, 3) := by decide +kernel
theorem d7_31 : decode prog_4_method_4_code 31 = .ok (.aload_n 0, 1) := by decide +kernel
theorem d7_32 : decode prog_4_method_4_code 32 = .ok (.invokevirtual 47, 3) := by decide +kernel
theorem d7_35 : decode prog_4_method_4_code 35 = .ok (.ifCond .eq 6, 3) := by decide +kernel
theorem d7_38 : decode prog_4_method_4_code 38 = .ok (.aload 4, 2) := by decide +kernel
theorem d7_40 : decode prog_4_method_4_code 40 = .ok (.areturn, 1) := by decide +kernel
theorem ef_7k0 (m : MethodId) (x0 : Addr) : entryFrame m #[(.ref x0)] 5 = mkF m 0 #[.val (.ref x0), .unset, .unset, .unset, .unset] [] := by first | (simp [entryFrame, mkF, argsToLocals, Value.category]; done) | rfl
def Q7k0 (Z : State) (tt : Addr) (tv : Addr) (kt : ClassId) (cw : Int32) (va : Addr) (kv : ClassId) (aH : Addr) (aD : Addr) (aT : Addr) (lH : Addr) (vH : Addr) (kH : ClassId) (h0 : Heap) (n0 : Nat) (v : Option Value) (h : Heap) (L : List Loc) : Prop := v = some (.ref aH) ∧ Fr n0 L ∧ Keep h0 h []
set_option maxRecDepth 65536 in
set_option maxHeartbeats 40000000 in
theorem rm7k0 (l : Launch) (Z : State) (a0 : Array Value) (hw : ∀ d ∈ tables_1, d.before a0 Z = true) (ws : List Jvm.Cond) (tt : Addr) (tv : Addr) (kt : ClassId) (cw : Int32) (va : Addr) (kv : ClassId) (aH : Addr) (aD : Addr) (aT : Addr) (lH : Addr) (vH : Addr) (kH : ClassId) (h0 : Heap) (n0 : Nat) (Z0 : n0 ≤ h0.size) (P0 : Exa Z h0 tt "java/lang/String") (P1 : Fld Z h0 tt "java/lang/String" "coder" "B" (.int (0 : Int32))) (P2 : Fld Z h0 tt "java/lang/String" "value" "[B" (.ref tv)) (P3 : Arv Z h0 tv kt .byte (4 : Int32) [(.int (nar .byte ((104 : Int32).toInt8.toInt32))), (.int (nar .byte ((111 : Int32).toInt8.toInt32))), (.int (nar .byte ((117 : Int32).toInt8.toInt32))), (.int (nar .byte ((114 : Int32).toInt8.toInt32)))] (.int (0 : Int32))) (P4 : Sta Z h0 "java/lang/String" "COMPACT_STRINGS" "Z" (.int cw)) (hcw : ¬ cw = (0 : Int32)) (P6 : Sta Z h0 "com/example/cheapside/cheapside/core/Granularity" "$VALUES" "[Lcom/example/cheapside/cheapside/core/Granularity;" (.ref va)) (P7 : Exa Z h0 va "[Lcom/example/cheapside/cheapside/core/Granularity;") (P8 : Arv Z h0 va kv (.object "com/example/cheapside/cheapside/core/Granularity") (3 : Int32) [(.ref aH), (.ref aD), (.ref aT)] .null) (P9 : Fld Z h0 aH "com/example/cheapside/cheapside/core/Granularity" "label" "Ljava/lang/String;" (.ref lH)) (P10 : Exa Z h0 lH "java/lang/String") (P11 : Fld Z h0 lH "java/lang/String" "coder" "B" (.int (0 : Int32))) (P12 : Fld Z h0 lH "java/lang/String" "value" "[B" (.ref vH)) (P13 : Arv Z h0 vH kH .byte (4 : Int32) [(.int (104 : Int32)), (.int (111 : Int32)), (.int (117 : Int32)), (.int (114 : Int32))] (.int (0 : Int32))) (P14 : lH ≠ tt) :
    MetFree l (⟨"com/example/cheapside/cheapside/core/Granularity", "ofLabel", "(Ljava/lang/String;)Lcom/example/cheapside/cheapside/core/Granularity;"⟩ : MethodName) (head1 (Jvm.Cond.code (⟨"com/example/cheapside/cheapside/core/Granularity", "ofLabel", "(Ljava/lang/String;)Lcom/example/cheapside/cheapside/core/Granularity;"⟩ : MethodName) prog_4_method_4_code 5 (some (.object "com/example/cheapside/cheapside/core/Granularity")) :: ws) ({ frames := 2, cells := 3, slots := 27, locals := 28 } : Room)) (fun argz U => argz = #[(.ref tt)] ∧ Z.Warmed39 U.vm ∧ U.heap = h0) (fun _ _ _ _ _ => True) (fun _ U o U' => ∃ v L, o = .returned v ∧ Q7k0 Z tt tv kt cw va kv aH aD aT lH vH kH h0 n0 v U'.heap L ∧ ReturnedEndW U o U' L ({ frames := 2, cells := 3, slots := 27, locals := 28 } : Room).cells ({ frames := 2, cells := 3, slots := 27, locals := 28 } : Room).slots) := by
  refine MetFree.of_bodySF (plainFor_of_name pn_com_example_cheapside_cheapside_core_Granularity) hisR ?_
  intro p e s m args below meth c s₁ Bd hml0 hP hK
  obtain ⟨rfl, hZ, hh⟩ := hP
  have hx := Bd.exec
  have hby := Bd.bytes
  have hml : c.maxLocals = 5 := hml0
  have hown : s.vm.findClass "com/example/cheapside/cheapside/core/Granularity" = some m.cls := findClass_of_methodNamed Bd.named
  have hnm := (name_of_methodNamed Bd.named Bd.method).1
  have X0 : Stand p l e ({ frames := 2, cells := 3, slots := 27, locals := 28 } : Room) s m #[(.ref tt)] below meth c s₁ [] 0 0 := Stand.of_body Bd
  have e0 : s₁.heap = h0 := by rw [← hh, Bd.state]; rfl
  have N0 := Fr.nil n0
  have K0 : Keep h0 h0 [] := Keep.refl _ _
  have G : Gets p e below (s₁.setTop (entryFrame m #[(.ref tt)] 5)) (s₁.setTop (mkF m 0 #[.val (.ref tt), .unset, .unset, .unset, .unset] [])) := fun t k => castTop (ef_7k0 m tt) k
  replace G := own_aloadN (q := 1) G X0.here hx (hb hby d7_0) rfl rfl rfl
  have own_size : s.heap.size ≤ h0.size := by rw [hh]; exact Nat.le_refl _
  obtain ⟨b1, T1, h1, k11, X1, e1, E1, S1, hk1, hZ1, hown1, st1⟩ := ldcS (s := s) (vm0 := s.vm) X0 hx hZ hown (hw _ (List.mem_of_getElem? (i := 37) rfl)) (fun d hd => hw d (own_strs d hd)) e0 (own_since s) (own_size) (g := (mkF m 1 #[.val (.ref tt), .unset, .unset, .unset, .unset] [(.ref tt)])) rfl (hb hby d7_1) (n := 20) (by decide) (by decide) (by decide) (by decide)
  have Z1 : n0 ≤ h1.size := Nat.le_trans Z0 E1.1
  have K1 : Keep h0 h1 [] := K0.ext E1
  replace G : Gets p e below _ (T1.setTop (mkF m 3 #[.val (.ref tt), .unset, .unset, .unset, .unset] [(.ref b1), (.ref tt)])) := fun t k => G t (st1 t k)
  obtain ⟨_, _, ⟨T2, L2, kk2, nn2⟩, -, X2, ⟨Lc2, hQ2, l2, y2, z2⟩, st2⟩ := Jvm.LawKit.callS X1 hx (y := (⟨"java/util/Objects", "requireNonNull", "(Ljava/lang/Object;Ljava/lang/String;)Ljava/lang/Object;"⟩ : MethodName)) hown1 (mvT hZ1 (hw _ (List.mem_of_getElem? (i := 40) rfl))) (mvT hZ1 (hw _ (List.mem_of_getElem? (i := 41) rfl))) (mvT hZ1 (hw _ (List.mem_of_getElem? (i := 42) rfl))) (mvT hZ1 (hw _ (List.mem_of_getElem? (i := 43) rfl))) (by decide) (backOf (W := 0) (rm8 l Z a0 hw [] tt b1 h1 n0 Z1 ) hZ1 (hw _ (List.mem_of_getElem? (i := 43) rfl)) (hw _ (List.mem_of_getElem? (i := 42) rfl)) (by decide) (by decide)) (g := (mkF m 3 #[.val (.ref tt), .unset, .unset, .unset, .unset] [(.ref b1), (.ref tt)])) rfl (by rw [hml]; rfl) (argsL := [(.ref tt), (.ref b1)]) (rest := []) (lenOf pd_5 rfl) rfl (by show 2 * 0 + _ ≤ _; exact Nat.le_of_eq rfl) (hb hby d7_3) (fun _ _ => ⟨rfl, e1, (by decide : 2 + 0 ≤ _), (by decide : 24 + 0 ≤ _)⟩)
  dsimp only [Pt.U, Pt.locs, Pt.cells, Pt.slots] at X2 l2 y2 z2 st2 hQ2
  subst l2 y2 z2
  obtain ⟨rfl, N2q, e2⟩ := hQ2
  have N2 := Fr.app N0 N2q
  replace G : Gets p e below _ (T2.setTop (mkF m 6 #[.val (.ref tt), .unset, .unset, .unset, .unset] [(.ref tt)])) := fun t k => G t (st2 t k)
  replace G := own_pop (q := 7) G X2.here hx (hb hby d7_6) rfl rfl
  have F4 : Sta Z h1 "com/example/cheapside/cheapside/core/Granularity" "$VALUES" "[Lcom/example/cheapside/cheapside/core/Granularity;" (.ref va) := (P6.ext E1)
  have F5 : Exa Z h1 va "[Lcom/example/cheapside/cheapside/core/Granularity;" := (P7.ext E1)
  have F6 : Arv Z h1 va kv (.object "com/example/cheapside/cheapside/core/Granularity") (3 : Int32) [(.ref aH), (.ref aD), (.ref aT)] .null := (P8.ext E1)
  obtain ⟨_, _, ⟨T3, L3, kk3, nn3⟩, -, X3, ⟨Lc3, hQ3, l3, y3, z3⟩, st3⟩ := Jvm.LawKit.callS X2 hx (y := (⟨"com/example/cheapside/cheapside/core/Granularity", "values", "()[Lcom/example/cheapside/cheapside/core/Granularity;"⟩ : MethodName)) hown1 (mvT hZ1 (hw _ (List.mem_of_getElem? (i := 44) rfl))) (mvT hZ1 (hw _ (List.mem_of_getElem? (i := 45) rfl))) (mvT hZ1 (hw _ (List.mem_of_getElem? (i := 3) rfl))) (mvT hZ1 (hw _ (List.mem_of_getElem? (i := 46) rfl))) (by decide) (backOf (W := 0) (rm9 l Z a0 hw [] va kv aH aD aT h1 n0 Z1 F4 F5 F6) hZ1 (hw _ (List.mem_of_getElem? (i := 46) rfl)) (hw _ (List.mem_of_getElem? (i := 3) rfl)) (by decide) (by decide)) (g := (mkF m 7 #[.val (.ref tt), .unset, .unset, .unset, .unset] [])) rfl (by rw [hml]; rfl) (argsL := []) (rest := []) (lenOf pd_6 rfl) rfl (by show 2 * 0 + _ ≤ _; exact Nat.le_of_eq rfl) (hb hby d7_7) (fun _ _ => ⟨rfl, e2, (by decide : 2 + 1 ≤ _), (by decide : 24 + 3 ≤ _)⟩)
  dsimp only [Pt.U, Pt.locs, Pt.cells, Pt.slots] at X3 l3 y3 z3 st3 hQ3
  subst l3 y3 z3
  obtain ⟨b_3, rfl, N3q, K3q, B3_0, B3_1⟩ := hQ3
  have F7 : Exa Z h1 tt "java/lang/String" := (P0.ext E1)
  have ne8 : tt ≠ b_3 := Nat.ne_of_lt (Nat.lt_of_lt_of_le F7.lt B3_0)
  have F9 : Arv Z h1 tv kt .byte (4 : Int32) [(.int (nar .byte ((104 : Int32).toInt8.toInt32))), (.int (nar .byte ((111 : Int32).toInt8.toInt32))), (.int (nar .byte ((117 : Int32).toInt8.toInt32))), (.int (nar .byte ((114 : Int32).toInt8.toInt32)))] (.int (0 : Int32)) := (P3.ext E1)
  have ne10 : tv ≠ b_3 := Nat.ne_of_lt (Nat.lt_of_lt_of_le F9.lt B3_0)
  have ne11 : va ≠ b_3 := Nat.ne_of_lt (Nat.lt_of_lt_of_le F5.lt B3_0)
  have F12 : Fld Z h1 aH "com/example/cheapside/cheapside/core/Granularity" "label" "Ljava/lang/String;" (.ref lH) := (P9.ext E1)
  have ne13 : aH ≠ b_3 := Nat.ne_of_lt (Nat.lt_of_lt_of_le F12.lt B3_0)
  have F14 : Exa Z h1 lH "java/lang/String" := (P10.ext E1)
  have ne15 : lH ≠ b_3 := Nat.ne_of_lt (Nat.lt_of_lt_of_le F14.lt B3_0)
  have F16 : Arv Z h1 vH kH .byte (4 : Int32) [(.int (104 : Int32)), (.int (111 : Int32)), (.int (117 : Int32)), (.int (114 : Int32))] (.int (0 : Int32)) := (P13.ext E1)
  have ne17 : vH ≠ b_3 := Nat.ne_of_lt (Nat.lt_of_lt_of_le F16.lt B3_0)
  have ge_b_3 : n0 ≤ b_3 := Nat.le_trans Z1 B3_0
  have sz_b_3 : h0.size ≤ b_3 := Nat.le_trans K1.1 B3_0
  have hk18 := Nat.le_trans hk1 K3q.1
  have Z3 : n0 ≤ T3.heap.size := Nat.le_trans Z1 K3q.1
  have K3 : Keep h0 T3.heap [] := K1.trans K3q all0
  have N3 := Fr.app N2 N3q
  replace G : Gets p e below _ (T3.setTop (mkF m 10 #[.val (.ref tt), .unset, .unset, .unset, .unset] [(.ref b_3)])) := fun t k => G t (st3 t k)
  replace G := own_astoreN (q := 11) (l' := #[.val (.ref tt), .val (.ref b_3), .unset, .unset, .unset]) G X3.here hx (hb hby d7_10) rfl rfl rfl
  replace G := own_aloadN (q := 12) G X3.here hx (hb hby d7_11) rfl rfl rfl
  obtain ⟨c19, Ar19, -, S19, N19', -, -⟩ := id B3_1
  replace G : Gets p e below _ (T3.setTop (mkF m 13 #[.val (.ref tt), .val (.ref b_3), .unset, .unset, .unset] [(.int (3 : Int32))])) := fun t k => G t (X3.arraylength hx (by exact Ar19.1) (State.isArrayOf_alike hZ1.alike Ar19.2.1) (g := (mkF m 12 #[.val (.ref tt), .val (.ref b_3), .unset, .unset, .unset] [(.ref b_3)])) rfl rfl (hb hby d7_12) t (by rw [len_of S19 N19']; exact k))
  replace G := own_istoreN (q := 14) (l' := #[.val (.ref tt), .val (.ref b_3), .val (.int (3 : Int32)), .unset, .unset]) G X3.here hx (hb hby d7_13) rfl rfl
  replace G := own_iconst (q := 15) G X3.here hx (hb hby d7_14) (v := (0 : Int32)) (by decide) rfl
  replace G := own_istoreN (q := 16) (l' := #[.val (.ref tt), .val (.ref b_3), .val (.int (3 : Int32)), .val (.int (0 : Int32)), .unset]) G X3.here hx (hb hby d7_15) rfl rfl
  replace G := own_iloadN (q := 17) G X3.here hx (hb hby d7_16) rfl rfl
  replace G := own_iloadN (q := 18) G X3.here hx (hb hby d7_17) rfl rfl
  have hc18_20 : (0 : Int32) < (3 : Int32) := by decide
  replace G := own_icmpNo (q := 21) G X3.here hx (hb hby d7_18) (tlt hc18_20).2.1 rfl
  replace G := own_aloadN (q := 22) G X3.here hx (hb hby d7_21) rfl rfl rfl
  replace G := own_iloadN (q := 23) G X3.here hx (hb hby d7_22) rfl rfl
  obtain ⟨c21, Ar21, -, S21, -, H21, -⟩ := id B3_1
  have hin21 : ¬ ((0 : Int32) < 0 ∨ c21.slots.size ≤ ((0 : Int32)).toNatClampNeg) := inb_of S21 ⟨by decide, by decide⟩
  replace G : Gets p e below _ (T3.setTop (mkF m 24 #[.val (.ref tt), .val (.ref b_3), .val (.int (3 : Int32)), .val (.int (0 : Int32)), .unset] [(.ref aH)])) := fun t k => G t (X3.aaload hx (j := (0 : Int32)) (v := (.ref aH)) (by exact Ar21.1) (State.isArrayOf_alike hZ1.alike Ar21.2.1) rfl Ar21.2.2 hin21 (Has.at H21 hin21 rfl) (g := (mkF m 23 #[.val (.ref tt), .val (.ref b_3), .val (.int (3 : Int32)), .val (.int (0 : Int32)), .unset] [(.int (0 : Int32)), (.ref b_3)])) rfl rfl (hb hby d7_23) t k)
  replace G := own_astore (q := 26) (l' := #[.val (.ref tt), .val (.ref b_3), .val (.int (3 : Int32)), .val (.int (0 : Int32)), .val (.ref aH)]) G X3.here hx (hb hby d7_24) rfl rfl rfl
  replace G := own_aload (q := 28) G X3.here hx (hb hby d7_26) rfl rfl rfl
  have F22 : Fld Z T3.heap aH "com/example/cheapside/cheapside/core/Granularity" "label" "Ljava/lang/String;" (.ref lH) := (F12.keep K3q nin0)
  obtain ⟨T23, X23, e23, st23⟩ := getF X3 hx hZ1 hown1 (host := "") (Or.inl (hw _ (List.mem_of_getElem? (i := 61) rfl))) Via.refl rfl F22 (g := (mkF m 28 #[.val (.ref tt), .val (.ref b_3), .val (.int (3 : Int32)), .val (.int (0 : Int32)), .val (.ref aH)] [(.ref aH)])) rfl rfl (hb hby d7_28)
  replace G : Gets p e below _ (T23.setTop (mkF m 31 #[.val (.ref tt), .val (.ref b_3), .val (.int (3 : Int32)), .val (.int (0 : Int32)), .val (.ref aH)] [(.ref lH)])) := fun t k => G t (st23 t k)
  replace G := own_aloadN (q := 32) G X23.here hx (hb hby d7_31) rfl rfl rfl
  have F25 : Exa Z T3.heap lH "java/lang/String" := (F14.keep K3q)
  have F26 : Fld Z T3.heap lH "java/lang/String" "coder" "B" (.int (0 : Int32)) := ((P11.ext E1).keep K3q nin0)
  have F27 : Fld Z T3.heap tt "java/lang/String" "coder" "B" (.int (0 : Int32)) := ((P1.ext E1).keep K3q nin0)
  have F28 : Fld Z T3.heap lH "java/lang/String" "value" "[B" (.ref vH) := ((P12.ext E1).keep K3q nin0)
  have F29 : Fld Z T3.heap tt "java/lang/String" "value" "[B" (.ref tv) := ((P2.ext E1).keep K3q nin0)
  have F30 : Exa Z T3.heap tt "java/lang/String" := (F7.keep K3q)
  have F31 : Arv Z T3.heap vH kH .byte (4 : Int32) [(.int (104 : Int32)), (.int (111 : Int32)), (.int (117 : Int32)), (.int (114 : Int32))] (.int (0 : Int32)) := (F16.keep K3q nin0)
  have F32 : Arv Z T3.heap tv kt .byte (4 : Int32) [(.int (nar .byte ((104 : Int32).toInt8.toInt32))), (.int (nar .byte ((111 : Int32).toInt8.toInt32))), (.int (nar .byte ((117 : Int32).toInt8.toInt32))), (.int (nar .byte ((114 : Int32).toInt8.toInt32)))] (.int (0 : Int32)) := (F9.keep K3q nin0)
  have F33 : Sta Z T3.heap "java/lang/String" "COMPACT_STRINGS" "Z" (.int cw) := ((P4.ext E1).ext (own_kext K3q))
  obtain ⟨cq24, kq24, q24a, q24b, q24c⟩ := isOf hZ1 e23 F25
  obtain ⟨_, _, ⟨T24, L24, kk24, nn24⟩, -, X24, ⟨Lc24, hQ24, l24, y24, z24⟩, st24⟩ := X23.virtualBack hx (y := (⟨"java/lang/String", "equals", "(Ljava/lang/Object;)Z"⟩ : MethodName)) (z := (⟨"java/lang/String", "equals", "(Ljava/lang/Object;)Z"⟩ : MethodName)) hown1 (mvT hZ1 (hw _ (List.mem_of_getElem? (i := 63) rfl))) (mvT hZ1 (hw _ (List.mem_of_getElem? (i := 64) rfl))) (notFace_of_selects (args := #[]) (mvT hZ1 (hw _ (List.mem_of_getElem? (i := 66) rfl)))) (mvT hZ1 (hw _ (List.mem_of_getElem? (i := 66) rfl))) (mvT hZ1 (hw _ (List.mem_of_getElem? (i := 65) rfl))) (by decide) (backOf (W := 0) (rm10i0k0 l Z a0 hw [] lH tt vH tv kH kt cw T3.heap n0 Z3 F26 F27 F28 F29 F30 F31 F32 F33 hcw P14) hZ1 (hw _ (List.mem_of_getElem? (i := 67) rfl)) (hw _ (List.mem_of_getElem? (i := 7) rfl)) (by decide) (by decide)) q24a q24c (g := (mkF m 32 #[.val (.ref tt), .val (.ref b_3), .val (.int (3 : Int32)), .val (.int (0 : Int32)), .val (.ref aH)] [(.ref tt), (.ref lH)])) rfl (by rw [hml]; rfl) (Steps.refl _) (argsL := [(.ref tt)]) (rest := []) (lenOf pd_7 rfl) rfl (by show 2 * 0 + _ ≤ _; exact Nat.le_of_eq rfl) (hb hby d7_32) (fun _ _ => ⟨rfl, e23, (by decide : 3 + 0 ≤ _), (by decide : 27 + 0 ≤ _)⟩)
  dsimp only [Pt.U, Pt.locs, Pt.cells, Pt.slots] at X24 l24 y24 z24 st24 hQ24
  subst l24 y24 z24
  obtain ⟨rfl, N24q, e24⟩ := hQ24
  have N24 := Fr.app N3 N24q
  replace G : Gets p e below _ (T24.setTop (mkF m 35 #[.val (.ref tt), .val (.ref b_3), .val (.int (3 : Int32)), .val (.int (0 : Int32)), .val (.ref aH)] [(.int (1 : Int32))])) := fun t k => G t (st24.trans k)
  have hc35_34 : ¬ ((1 : Int32) = (0 : Int32)) := by decide
  replace G := own_ifNo (q := 38) G X24.here hx (hb hby d7_35) ((if0 _ _).trans (feq hc35_34).1) rfl
  replace G := own_aload (q := 40) G X24.here hx (hb hby d7_38) rfl rfl rfl
  obtain ⟨fs, hr, hrun, hended, -, hW, hBk, hsame⟩ := X24.leaveW S1 (by rw [e24]; exact hk18) (v := some (.ref aH)) (fun h => by rw [Bd.returns] at h; cases h)
  refine ⟨_, _, G _ (retOut X24 hx Bd.returns rfl (Or.inr (Or.inr (Or.inr (Or.inr ⟨rfl, rfl, rfl⟩)))) (hb hby d7_40) hr), hrun, hended, _, _, rfl, ?_, ⟨_, rfl⟩, hW, hBk, hsame.mono (by decide) (by decide)⟩
  show Q7k0 Z tt tv kt cw va kv aH aD aT lH vH kH h0 n0 _ T24.heap _
  rw [e24]
  exact ⟨rfl, N24, K3⟩
theorem d7_41 : decode prog_4_method_4_code 41 = .ok (.iinc 3 1, 3) := by decide +kernel
theorem d7_44 : decode prog_4_method_4_code 44 = .ok (.goto (-28), 3) := by decide +kernel
theorem ef_7k1 (m : MethodId) (x0 : Addr) : entryFrame m #[(.ref x0)] 5 = mkF m 0 #[.val (.ref x0), .unset, .unset, .unset, .unset] [] := by first | (simp [entryFrame, mkF, argsToLocals, Value.category]; done) | rfl
def Q7k1 (Z : State) (tt : Addr) (tv : Addr) (kt : ClassId) (cw : Int32) (va : Addr) (kv : ClassId) (aH : Addr) (aD : Addr) (aT : Addr) (lH : Addr) (vH : Addr) (kH : ClassId) (lD : Addr) (vD : Addr) (kD : ClassId) (h0 : Heap) (n0 : Nat) (v : Option Value) (h : Heap) (L : List Loc) : Prop := v = some (.ref aD) ∧ Fr n0 L ∧ Keep h0 h []
set_option maxRecDepth 65536 in
set_option maxHeartbeats 40000000 in
theorem rm7k1 (l : Launch) (Z : State) (a0 : Array Value) (hw : ∀ d ∈ tables_1, d.before a0 Z = true) (ws : List Jvm.Cond) (tt : Addr) (tv : Addr) (kt : ClassId) (cw : Int32) (va : Addr) (kv : ClassId) (aH : Addr) (aD : Addr) (aT : Addr) (lH : Addr) (vH : Addr) (kH : ClassId) (lD : Addr) (vD : Addr) (kD : ClassId) (h0 : Heap) (n0 : Nat) (Z0 : n0 ≤ h0.size) (P0 : Exa Z h0 tt "java/lang/String") (P1 : Fld Z h0 tt "java/lang/String" "coder" "B" (.int (0 : Int32))) (P2 : Fld Z h0 tt "java/lang/String" "value" "[B" (.ref tv)) (P3 : Arv Z h0 tv kt .byte (3 : Int32) [(.int (nar .byte ((100 : Int32).toInt8.toInt32))), (.int (nar .byte ((97 : Int32).toInt8.toInt32))), (.int (nar .byte ((121 : Int32).toInt8.toInt32)))] (.int (0 : Int32))) (P4 : Sta Z h0 "java/lang/String" "COMPACT_STRINGS" "Z" (.int cw)) (hcw : ¬ cw = (0 : Int32)) (P6 : Sta Z h0 "com/example/cheapside/cheapside/core/Granularity" "$VALUES" "[Lcom/example/cheapside/cheapside/core/Granularity;" (.ref va)) (P7 : Exa Z h0 va "[Lcom/example/cheapside/cheapside/core/Granularity;") (P8 : Arv Z h0 va kv (.object "com/example/cheapside/cheapside/core/Granularity") (3 : Int32) [(.ref aH), (.ref aD), (.ref aT)] .null) (P9 : Fld Z h0 aH "com/example/cheapside/cheapside/core/Granularity" "label" "Ljava/lang/String;" (.ref lH)) (P10 : Exa Z h0 lH "java/lang/String") (P11 : Fld Z h0 lH "java/lang/String" "coder" "B" (.int (0 : Int32))) (P12 : Fld Z h0 lH "java/lang/String" "value" "[B" (.ref vH)) (P13 : Arv Z h0 vH kH .byte (4 : Int32) [(.int (104 : Int32)), (.int (111 : Int32)), (.int (117 : Int32)), (.int (114 : Int32))] (.int (0 : Int32))) (P14 : lH ≠ tt) (P15 : Fld Z h0 aD "com/example/cheapside/cheapside/core/Granularity" "label" "Ljava/lang/String;" (.ref lD)) (P16 : Exa Z h0 lD "java/lang/String") (P17 : Fld Z h0 lD "java/lang/String" "coder" "B" (.int (0 : Int32))) (P18 : Fld Z h0 lD "java/lang/String" "value" "[B" (.ref vD)) (P19 : Arv Z h0 vD kD .byte (3 : Int32) [(.int (100 : Int32)), (.int (97 : Int32)), (.int (121 : Int32))] (.int (0 : Int32))) (P20 : lD ≠ tt) :
    MetFree l (⟨"com/example/cheapside/cheapside/core/Granularity", "ofLabel", "(Ljava/lang/String;)Lcom/example/cheapside/cheapside/core/Granularity;"⟩ : MethodName) (head1 (Jvm.Cond.code (⟨"com/example/cheapside/cheapside/core/Granularity", "ofLabel", "(Ljava/lang/String;)Lcom/example/cheapside/cheapside/core/Granularity;"⟩ : MethodName) prog_4_method_4_code 5 (some (.object "com/example/cheapside/cheapside/core/Granularity")) :: ws) ({ frames := 2, cells := 3, slots := 27, locals := 28 } : Room)) (fun argz U => argz = #[(.ref tt)] ∧ Z.Warmed39 U.vm ∧ U.heap = h0) (fun _ _ _ _ _ => True) (fun _ U o U' => ∃ v L, o = .returned v ∧ Q7k1 Z tt tv kt cw va kv aH aD aT lH vH kH lD vD kD h0 n0 v U'.heap L ∧ ReturnedEndW U o U' L ({ frames := 2, cells := 3, slots := 27, locals := 28 } : Room).cells ({ frames := 2, cells := 3, slots := 27, locals := 28 } : Room).slots) := by
  refine MetFree.of_bodySF (plainFor_of_name pn_com_example_cheapside_cheapside_core_Granularity) hisR ?_
  intro p e s m args below meth c s₁ Bd hml0 hP hK
  obtain ⟨rfl, hZ, hh⟩ := hP
  have hx := Bd.exec
  have hby := Bd.bytes
  have hml : c.maxLocals = 5 := hml0
  have hown : s.vm.findClass "com/example/cheapside/cheapside/core/Granularity" = some m.cls := findClass_of_methodNamed Bd.named
  have hnm := (name_of_methodNamed Bd.named Bd.method).1
  have X0 : Stand p l e ({ frames := 2, cells := 3, slots := 27, locals := 28 } : Room) s m #[(.ref tt)] below meth c s₁ [] 0 0 := Stand.of_body Bd
  have e0 : s₁.heap = h0 := by rw [← hh, Bd.state]; rfl
  have N0 := Fr.nil n0
  have K0 : Keep h0 h0 [] := Keep.refl _ _
  have G : Gets p e below (s₁.setTop (entryFrame m #[(.ref tt)] 5)) (s₁.setTop (mkF m 0 #[.val (.ref tt), .unset, .unset, .unset, .unset] [])) := fun t k => castTop (ef_7k1 m tt) k
  replace G := own_aloadN (q := 1) G X0.here hx (hb hby d7_0) rfl rfl rfl
  have own_size : s.heap.size ≤ h0.size := by rw [hh]; exact Nat.le_refl _
  obtain ⟨b1, T1, h1, k11, X1, e1, E1, S1, hk1, hZ1, hown1, st1⟩ := ldcS (s := s) (vm0 := s.vm) X0 hx hZ hown (hw _ (List.mem_of_getElem? (i := 37) rfl)) (fun d hd => hw d (own_strs d hd)) e0 (own_since s) (own_size) (g := (mkF m 1 #[.val (.ref tt), .unset, .unset, .unset, .unset] [(.ref tt)])) rfl (hb hby d7_1) (n := 20) (by decide) (by decide) (by decide) (by decide)
  have Z1 : n0 ≤ h1.size := Nat.le_trans Z0 E1.1
  have K1 : Keep h0 h1 [] := K0.ext E1
  replace G : Gets p e below _ (T1.setTop (mkF m 3 #[.val (.ref tt), .unset, .unset, .unset, .unset] [(.ref b1), (.ref tt)])) := fun t k => G t (st1 t k)
  obtain ⟨_, _, ⟨T2, L2, kk2, nn2⟩, -, X2, ⟨Lc2, hQ2, l2, y2, z2⟩, st2⟩ := Jvm.LawKit.callS X1 hx (y := (⟨"java/util/Objects", "requireNonNull", "(Ljava/lang/Object;Ljava/lang/String;)Ljava/lang/Object;"⟩ : MethodName)) hown1 (mvT hZ1 (hw _ (List.mem_of_getElem? (i := 40) rfl))) (mvT hZ1 (hw _ (List.mem_of_getElem? (i := 41) rfl))) (mvT hZ1 (hw _ (List.mem_of_getElem? (i := 42) rfl))) (mvT hZ1 (hw _ (List.mem_of_getElem? (i := 43) rfl))) (by decide) (backOf (W := 0) (rm8 l Z a0 hw [] tt b1 h1 n0 Z1 ) hZ1 (hw _ (List.mem_of_getElem? (i := 43) rfl)) (hw _ (List.mem_of_getElem? (i := 42) rfl)) (by decide) (by decide)) (g := (mkF m 3 #[.val (.ref tt), .unset, .unset, .unset, .unset] [(.ref b1), (.ref tt)])) rfl (by rw [hml]; rfl) (argsL := [(.ref tt), (.ref b1)]) (rest := []) (lenOf pd_5 rfl) rfl (by show 2 * 0 + _ ≤ _; exact Nat.le_of_eq rfl) (hb hby d7_3) (fun _ _ => ⟨rfl, e1, (by decide : 2 + 0 ≤ _), (by decide : 24 + 0 ≤ _)⟩)
  dsimp only [Pt.U, Pt.locs, Pt.cells, Pt.slots] at X2 l2 y2 z2 st2 hQ2
  subst l2 y2 z2
  obtain ⟨rfl, N2q, e2⟩ := hQ2
  have N2 := Fr.app N0 N2q
  replace G : Gets p e below _ (T2.setTop (mkF m 6 #[.val (.ref tt), .unset, .unset, .unset, .unset] [(.ref tt)])) := fun t k => G t (st2 t k)
  replace G := own_pop (q := 7) G X2.here hx (hb hby d7_6) rfl rfl
  have F4 : Sta Z h1 "com/example/cheapside/cheapside/core/Granularity" "$VALUES" "[Lcom/example/cheapside/cheapside/core/Granularity;" (.ref va) := (P6.ext E1)
  have F5 : Exa Z h1 va "[Lcom/example/cheapside/cheapside/core/Granularity;" := (P7.ext E1)
  have F6 : Arv Z h1 va kv (.object "com/example/cheapside/cheapside/core/Granularity") (3 : Int32) [(.ref aH), (.ref aD), (.ref aT)] .null := (P8.ext E1)
  obtain ⟨_, _, ⟨T3, L3, kk3, nn3⟩, -, X3, ⟨Lc3, hQ3, l3, y3, z3⟩, st3⟩ := Jvm.LawKit.callS X2 hx (y := (⟨"com/example/cheapside/cheapside/core/Granularity", "values", "()[Lcom/example/cheapside/cheapside/core/Granularity;"⟩ : MethodName)) hown1 (mvT hZ1 (hw _ (List.mem_of_getElem? (i := 44) rfl))) (mvT hZ1 (hw _ (List.mem_of_getElem? (i := 45) rfl))) (mvT hZ1 (hw _ (List.mem_of_getElem? (i := 3) rfl))) (mvT hZ1 (hw _ (List.mem_of_getElem? (i := 46) rfl))) (by decide) (backOf (W := 0) (rm9 l Z a0 hw [] va kv aH aD aT h1 n0 Z1 F4 F5 F6) hZ1 (hw _ (List.mem_of_getElem? (i := 46) rfl)) (hw _ (List.mem_of_getElem? (i := 3) rfl)) (by decide) (by decide)) (g := (mkF m 7 #[.val (.ref tt), .unset, .unset, .unset, .unset] [])) rfl (by rw [hml]; rfl) (argsL := []) (rest := []) (lenOf pd_6 rfl) rfl (by show 2 * 0 + _ ≤ _; exact Nat.le_of_eq rfl) (hb hby d7_7) (fun _ _ => ⟨rfl, e2, (by decide : 2 + 1 ≤ _), (by decide : 24 + 3 ≤ _)⟩)
  dsimp only [Pt.U, Pt.locs, Pt.cells, Pt.slots] at X3 l3 y3 z3 st3 hQ3
  subst l3 y3 z3
  obtain ⟨b_3, rfl, N3q, K3q, B3_0, B3_1⟩ := hQ3
  have F7 : Exa Z h1 tt "java/lang/String" := (P0.ext E1)
  have ne8 : tt ≠ b_3 := Nat.ne_of_lt (Nat.lt_of_lt_of_le F7.lt B3_0)
  have F9 : Arv Z h1 tv kt .byte (3 : Int32) [(.int (nar .byte ((100 : Int32).toInt8.toInt32))), (.int (nar .byte ((97 : Int32).toInt8.toInt32))), (.int (nar .byte ((121 : Int32).toInt8.toInt32)))] (.int (0 : Int32)) := (P3.ext E1)
  have ne10 : tv ≠ b_3 := Nat.ne_of_lt (Nat.lt_of_lt_of_le F9.lt B3_0)
  have ne11 : va ≠ b_3 := Nat.ne_of_lt (Nat.lt_of_lt_of_le F5.lt B3_0)
  have F12 : Fld Z h1 aH "com/example/cheapside/cheapside/core/Granularity" "label" "Ljava/lang/String;" (.ref lH) := (P9.ext E1)
  have ne13 : aH ≠ b_3 := Nat.ne_of_lt (Nat.lt_of_lt_of_le F12.lt B3_0)
  have F14 : Exa Z h1 lH "java/lang/String" := (P10.ext E1)
  have ne15 : lH ≠ b_3 := Nat.ne_of_lt (Nat.lt_of_lt_of_le F14.lt B3_0)
  have F16 : Arv Z h1 vH kH .byte (4 : Int32) [(.int (104 : Int32)), (.int (111 : Int32)), (.int (117 : Int32)), (.int (114 : Int32))] (.int (0 : Int32)) := (P13.ext E1)
  have ne17 : vH ≠ b_3 := Nat.ne_of_lt (Nat.lt_of_lt_of_le F16.lt B3_0)
  have F18 : Fld Z h1 aD "com/example/cheapside/cheapside/core/Granularity" "label" "Ljava/lang/String;" (.ref lD) := (P15.ext E1)
  have ne19 : aD ≠ b_3 := Nat.ne_of_lt (Nat.lt_of_lt_of_le F18.lt B3_0)
  have F20 : Exa Z h1 lD "java/lang/String" := (P16.ext E1)
  have ne21 : lD ≠ b_3 := Nat.ne_of_lt (Nat.lt_of_lt_of_le F20.lt B3_0)
  have F22 : Arv Z h1 vD kD .byte (3 : Int32) [(.int (100 : Int32)), (.int (97 : Int32)), (.int (121 : Int32))] (.int (0 : Int32)) := (P19.ext E1)
  have ne23 : vD ≠ b_3 := Nat.ne_of_lt (Nat.lt_of_lt_of_le F22.lt B3_0)
  have ge_b_3 : n0 ≤ b_3 := Nat.le_trans Z1 B3_0
  have sz_b_3 : h0.size ≤ b_3 := Nat.le_trans K1.1 B3_0
  have hk24 := Nat.le_trans hk1 K3q.1
  have Z3 : n0 ≤ T3.heap.size := Nat.le_trans Z1 K3q.1
  have K3 : Keep h0 T3.heap [] := K1.trans K3q all0
  have N3 := Fr.app N2 N3q
  replace G : Gets p e below _ (T3.setTop (mkF m 10 #[.val (.ref tt), .unset, .unset, .unset, .unset] [(.ref b_3)])) := fun t k => G t (st3 t k)
  replace G := own_astoreN (q := 11) (l' := #[.val (.ref tt), .val (.ref b_3), .unset, .unset, .unset]) G X3.here hx (hb hby d7_10) rfl rfl rfl
  replace G := own_aloadN (q := 12) G X3.here hx (hb hby d7_11) rfl rfl rfl
  obtain ⟨c25, Ar25, -, S25, N25', -, -⟩ := id B3_1
  replace G : Gets p e below _ (T3.setTop (mkF m 13 #[.val (.ref tt), .val (.ref b_3), .unset, .unset, .unset] [(.int (3 : Int32))])) := fun t k => G t (X3.arraylength hx (by exact Ar25.1) (State.isArrayOf_alike hZ1.alike Ar25.2.1) (g := (mkF m 12 #[.val (.ref tt), .val (.ref b_3), .unset, .unset, .unset] [(.ref b_3)])) rfl rfl (hb hby d7_12) t (by rw [len_of S25 N25']; exact k))
  replace G := own_istoreN (q := 14) (l' := #[.val (.ref tt), .val (.ref b_3), .val (.int (3 : Int32)), .unset, .unset]) G X3.here hx (hb hby d7_13) rfl rfl
  replace G := own_iconst (q := 15) G X3.here hx (hb hby d7_14) (v := (0 : Int32)) (by decide) rfl
  replace G := own_istoreN (q := 16) (l' := #[.val (.ref tt), .val (.ref b_3), .val (.int (3 : Int32)), .val (.int (0 : Int32)), .unset]) G X3.here hx (hb hby d7_15) rfl rfl
  replace G := own_iloadN (q := 17) G X3.here hx (hb hby d7_16) rfl rfl
  replace G := own_iloadN (q := 18) G X3.here hx (hb hby d7_17) rfl rfl
  have hc18_26 : (0 : Int32) < (3 : Int32) := by decide
  replace G := own_icmpNo (q := 21) G X3.here hx (hb hby d7_18) (tlt hc18_26).2.1 rfl
  replace G := own_aloadN (q := 22) G X3.here hx (hb hby d7_21) rfl rfl rfl
  replace G := own_iloadN (q := 23) G X3.here hx (hb hby d7_22) rfl rfl
  obtain ⟨c27, Ar27, -, S27, -, H27, -⟩ := id B3_1
  have hin27 : ¬ ((0 : Int32) < 0 ∨ c27.slots.size ≤ ((0 : Int32)).toNatClampNeg) := inb_of S27 ⟨by decide, by decide⟩
  replace G : Gets p e below _ (T3.setTop (mkF m 24 #[.val (.ref tt), .val (.ref b_3), .val (.int (3 : Int32)), .val (.int (0 : Int32)), .unset] [(.ref aH)])) := fun t k => G t (X3.aaload hx (j := (0 : Int32)) (v := (.ref aH)) (by exact Ar27.1) (State.isArrayOf_alike hZ1.alike Ar27.2.1) rfl Ar27.2.2 hin27 (Has.at H27 hin27 rfl) (g := (mkF m 23 #[.val (.ref tt), .val (.ref b_3), .val (.int (3 : Int32)), .val (.int (0 : Int32)), .unset] [(.int (0 : Int32)), (.ref b_3)])) rfl rfl (hb hby d7_23) t k)
  replace G := own_astore (q := 26) (l' := #[.val (.ref tt), .val (.ref b_3), .val (.int (3 : Int32)), .val (.int (0 : Int32)), .val (.ref aH)]) G X3.here hx (hb hby d7_24) rfl rfl rfl
  replace G := own_aload (q := 28) G X3.here hx (hb hby d7_26) rfl rfl rfl
  have F28 : Fld Z T3.heap aH "com/example/cheapside/cheapside/core/Granularity" "label" "Ljava/lang/String;" (.ref lH) := (F12.keep K3q nin0)
  obtain ⟨T29, X29, e29, st29⟩ := getF X3 hx hZ1 hown1 (host := "") (Or.inl (hw _ (List.mem_of_getElem? (i := 61) rfl))) Via.refl rfl F28 (g := (mkF m 28 #[.val (.ref tt), .val (.ref b_3), .val (.int (3 : Int32)), .val (.int (0 : Int32)), .val (.ref aH)] [(.ref aH)])) rfl rfl (hb hby d7_28)
  replace G : Gets p e below _ (T29.setTop (mkF m 31 #[.val (.ref tt), .val (.ref b_3), .val (.int (3 : Int32)), .val (.int (0 : Int32)), .val (.ref aH)] [(.ref lH)])) := fun t k => G t (st29 t k)
  replace G := own_aloadN (q := 32) G X29.here hx (hb hby d7_31) rfl rfl rfl
  have F31 : Exa Z T3.heap lH "java/lang/String" := (F14.keep K3q)
  have F32 : Fld Z T3.heap lH "java/lang/String" "coder" "B" (.int (0 : Int32)) := ((P11.ext E1).keep K3q nin0)
  have F33 : Fld Z T3.heap tt "java/lang/String" "coder" "B" (.int (0 : Int32)) := ((P1.ext E1).keep K3q nin0)
  have F34 : Fld Z T3.heap lH "java/lang/String" "value" "[B" (.ref vH) := ((P12.ext E1).keep K3q nin0)
  have F35 : Fld Z T3.heap tt "java/lang/String" "value" "[B" (.ref tv) := ((P2.ext E1).keep K3q nin0)
  have F36 : Exa Z T3.heap tt "java/lang/String" := (F7.keep K3q)
  have F37 : Arv Z T3.heap vH kH .byte (4 : Int32) [(.int (104 : Int32)), (.int (111 : Int32)), (.int (117 : Int32)), (.int (114 : Int32))] (.int (0 : Int32)) := (F16.keep K3q nin0)
  have F38 : Arv Z T3.heap tv kt .byte (3 : Int32) [(.int (nar .byte ((100 : Int32).toInt8.toInt32))), (.int (nar .byte ((97 : Int32).toInt8.toInt32))), (.int (nar .byte ((121 : Int32).toInt8.toInt32)))] (.int (0 : Int32)) := (F9.keep K3q nin0)
  have F39 : Sta Z T3.heap "java/lang/String" "COMPACT_STRINGS" "Z" (.int cw) := ((P4.ext E1).ext (own_kext K3q))
  obtain ⟨cq30, kq30, q30a, q30b, q30c⟩ := isOf hZ1 e29 F31
  obtain ⟨_, _, ⟨T30, L30, kk30, nn30⟩, -, X30, ⟨Lc30, hQ30, l30, y30, z30⟩, st30⟩ := X29.virtualBack hx (y := (⟨"java/lang/String", "equals", "(Ljava/lang/Object;)Z"⟩ : MethodName)) (z := (⟨"java/lang/String", "equals", "(Ljava/lang/Object;)Z"⟩ : MethodName)) hown1 (mvT hZ1 (hw _ (List.mem_of_getElem? (i := 63) rfl))) (mvT hZ1 (hw _ (List.mem_of_getElem? (i := 64) rfl))) (notFace_of_selects (args := #[]) (mvT hZ1 (hw _ (List.mem_of_getElem? (i := 66) rfl)))) (mvT hZ1 (hw _ (List.mem_of_getElem? (i := 66) rfl))) (mvT hZ1 (hw _ (List.mem_of_getElem? (i := 65) rfl))) (by decide) (backOf (W := 0) (rm10i0k1 l Z a0 hw [] lH tt vH tv kH kt cw T3.heap n0 Z3 F32 F33 F34 F35 F36 F37 F38 F39 hcw P14) hZ1 (hw _ (List.mem_of_getElem? (i := 67) rfl)) (hw _ (List.mem_of_getElem? (i := 7) rfl)) (by decide) (by decide)) q30a q30c (g := (mkF m 32 #[.val (.ref tt), .val (.ref b_3), .val (.int (3 : Int32)), .val (.int (0 : Int32)), .val (.ref aH)] [(.ref tt), (.ref lH)])) rfl (by rw [hml]; rfl) (Steps.refl _) (argsL := [(.ref tt)]) (rest := []) (lenOf pd_7 rfl) rfl (by show 2 * 0 + _ ≤ _; exact Nat.le_of_eq rfl) (hb hby d7_32) (fun _ _ => ⟨rfl, e29, (by decide : 3 + 0 ≤ _), (by decide : 27 + 0 ≤ _)⟩)
  dsimp only [Pt.U, Pt.locs, Pt.cells, Pt.slots] at X30 l30 y30 z30 st30 hQ30
  subst l30 y30 z30
  obtain ⟨rfl, N30q, e30⟩ := hQ30
  have N30 := Fr.app N3 N30q
  replace G : Gets p e below _ (T30.setTop (mkF m 35 #[.val (.ref tt), .val (.ref b_3), .val (.int (3 : Int32)), .val (.int (0 : Int32)), .val (.ref aH)] [(.int (0 : Int32))])) := fun t k => G t (st30.trans k)
  have hc35_40 : (0 : Int32) = (0 : Int32) := by decide
  replace G := own_ifYes (q := 41) G X30.here hx (hb hby d7_35) ((if0 _ _).trans (teq hc35_40).1) (by decide) (by decide)
  replace G := own_iinc (q := 44) (l' := #[.val (.ref tt), .val (.ref b_3), .val (.int (3 : Int32)), .val (.int (1 : Int32)), .val (.ref aH)]) (w := (1 : Int32)) G X30.here hx (hb hby d7_41) (by decide) rfl (by decide : ((0 : Int32) + (1 : Int32)) = (1 : Int32)) rfl rfl
  replace G := own_goto (q := 16) G X30.here hx (hb hby d7_44) (by decide) (by decide)
  replace G := own_iloadN (q := 17) G X30.here hx (hb hby d7_16) rfl rfl
  replace G := own_iloadN (q := 18) G X30.here hx (hb hby d7_17) rfl rfl
  have hc18_41 : (1 : Int32) < (3 : Int32) := by decide
  replace G := own_icmpNo (q := 21) G X30.here hx (hb hby d7_18) (tlt hc18_41).2.1 rfl
  replace G := own_aloadN (q := 22) G X30.here hx (hb hby d7_21) rfl rfl rfl
  replace G := own_iloadN (q := 23) G X30.here hx (hb hby d7_22) rfl rfl
  obtain ⟨c42, Ar42, -, S42, -, H42, -⟩ := id B3_1
  have hin42 : ¬ ((1 : Int32) < 0 ∨ c42.slots.size ≤ ((1 : Int32)).toNatClampNeg) := inb_of S42 ⟨by decide, by decide⟩
  replace G : Gets p e below _ (T30.setTop (mkF m 24 #[.val (.ref tt), .val (.ref b_3), .val (.int (3 : Int32)), .val (.int (1 : Int32)), .val (.ref aH)] [(.ref aD)])) := fun t k => G t (X30.aaload hx (j := (1 : Int32)) (v := (.ref aD)) (by rw [e30]; exact Ar42.1) (State.isArrayOf_alike hZ1.alike Ar42.2.1) rfl Ar42.2.2 hin42 (Has.at H42 hin42 rfl) (g := (mkF m 23 #[.val (.ref tt), .val (.ref b_3), .val (.int (3 : Int32)), .val (.int (1 : Int32)), .val (.ref aH)] [(.int (1 : Int32)), (.ref b_3)])) rfl rfl (hb hby d7_23) t k)
  replace G := own_astore (q := 26) (l' := #[.val (.ref tt), .val (.ref b_3), .val (.int (3 : Int32)), .val (.int (1 : Int32)), .val (.ref aD)]) G X30.here hx (hb hby d7_24) rfl rfl rfl
  replace G := own_aload (q := 28) G X30.here hx (hb hby d7_26) rfl rfl rfl
  have F43 : Fld Z T3.heap aD "com/example/cheapside/cheapside/core/Granularity" "label" "Ljava/lang/String;" (.ref lD) := (F18.keep K3q nin0)
  obtain ⟨T44, X44, e44, st44⟩ := getF X30 hx hZ1 hown1 (host := "") (Or.inl (hw _ (List.mem_of_getElem? (i := 61) rfl))) Via.refl e30 F43 (g := (mkF m 28 #[.val (.ref tt), .val (.ref b_3), .val (.int (3 : Int32)), .val (.int (1 : Int32)), .val (.ref aD)] [(.ref aD)])) rfl rfl (hb hby d7_28)
  replace G : Gets p e below _ (T44.setTop (mkF m 31 #[.val (.ref tt), .val (.ref b_3), .val (.int (3 : Int32)), .val (.int (1 : Int32)), .val (.ref aD)] [(.ref lD)])) := fun t k => G t (st44 t k)
  replace G := own_aloadN (q := 32) G X44.here hx (hb hby d7_31) rfl rfl rfl
  have F46 : Exa Z T3.heap lD "java/lang/String" := (F20.keep K3q)
  have F47 : Fld Z T3.heap lD "java/lang/String" "coder" "B" (.int (0 : Int32)) := ((P17.ext E1).keep K3q nin0)
  have F48 : Fld Z T3.heap lD "java/lang/String" "value" "[B" (.ref vD) := ((P18.ext E1).keep K3q nin0)
  have F49 : Arv Z T3.heap vD kD .byte (3 : Int32) [(.int (100 : Int32)), (.int (97 : Int32)), (.int (121 : Int32))] (.int (0 : Int32)) := (F22.keep K3q nin0)
  obtain ⟨cq45, kq45, q45a, q45b, q45c⟩ := isOf hZ1 e44 F46
  obtain ⟨_, _, ⟨T45, L45, kk45, nn45⟩, -, X45, ⟨Lc45, hQ45, l45, y45, z45⟩, st45⟩ := X44.virtualBack hx (y := (⟨"java/lang/String", "equals", "(Ljava/lang/Object;)Z"⟩ : MethodName)) (z := (⟨"java/lang/String", "equals", "(Ljava/lang/Object;)Z"⟩ : MethodName)) hown1 (mvT hZ1 (hw _ (List.mem_of_getElem? (i := 63) rfl))) (mvT hZ1 (hw _ (List.mem_of_getElem? (i := 64) rfl))) (notFace_of_selects (args := #[]) (mvT hZ1 (hw _ (List.mem_of_getElem? (i := 66) rfl)))) (mvT hZ1 (hw _ (List.mem_of_getElem? (i := 66) rfl))) (mvT hZ1 (hw _ (List.mem_of_getElem? (i := 65) rfl))) (by decide) (backOf (W := 0) (rm10i1k1 l Z a0 hw [] lD tt vD tv kD kt cw T3.heap n0 Z3 F47 F33 F48 F35 F36 F49 F38 F39 hcw P20) hZ1 (hw _ (List.mem_of_getElem? (i := 67) rfl)) (hw _ (List.mem_of_getElem? (i := 7) rfl)) (by decide) (by decide)) q45a q45c (g := (mkF m 32 #[.val (.ref tt), .val (.ref b_3), .val (.int (3 : Int32)), .val (.int (1 : Int32)), .val (.ref aD)] [(.ref tt), (.ref lD)])) rfl (by rw [hml]; rfl) (Steps.refl _) (argsL := [(.ref tt)]) (rest := []) (lenOf pd_7 rfl) rfl (by show 2 * 0 + _ ≤ _; exact Nat.le_of_eq rfl) (hb hby d7_32) (fun _ _ => ⟨rfl, e44, (by decide : 3 + 0 ≤ _), (by decide : 27 + 0 ≤ _)⟩)
  dsimp only [Pt.U, Pt.locs, Pt.cells, Pt.slots] at X45 l45 y45 z45 st45 hQ45
  subst l45 y45 z45
  obtain ⟨rfl, N45q, e45⟩ := hQ45
  have N45 := Fr.app N30 N45q
  replace G : Gets p e below _ (T45.setTop (mkF m 35 #[.val (.ref tt), .val (.ref b_3), .val (.int (3 : Int32)), .val (.int (1 : Int32)), .val (.ref aD)] [(.int (1 : Int32))])) := fun t k => G t (st45.trans k)
  have hc35_50 : ¬ ((1 : Int32) = (0 : Int32)) := by decide
  replace G := own_ifNo (q := 38) G X45.here hx (hb hby d7_35) ((if0 _ _).trans (feq hc35_50).1) rfl
  replace G := own_aload (q := 40) G X45.here hx (hb hby d7_38) rfl rfl rfl
  obtain ⟨fs, hr, hrun, hended, -, hW, hBk, hsame⟩ := X45.leaveW S1 (by rw [e45]; exact hk24) (v := some (.ref aD)) (fun h => by rw [Bd.returns] at h; cases h)
  refine ⟨_, _, G _ (retOut X45 hx Bd.returns rfl (Or.inr (Or.inr (Or.inr (Or.inr ⟨rfl, rfl, rfl⟩)))) (hb hby d7_40) hr), hrun, hended, _, _, rfl, ?_, ⟨_, rfl⟩, hW, hBk, hsame.mono (by decide) (by decide)⟩
  show Q7k1 Z tt tv kt cw va kv aH aD aT lH vH kH lD vD kD h0 n0 _ T45.heap _
  rw [e45]
  exact ⟨rfl, N45, K3⟩
theorem ef_7k2 (m : MethodId) (x0 : Addr) : entryFrame m #[(.ref x0)] 5 = mkF m 0 #[.val (.ref x0), .unset, .unset, .unset, .unset] [] := by first | (simp [entryFrame, mkF, argsToLocals, Value.category]; done) | rfl
def Q7k2 (Z : State) (tt : Addr) (tv : Addr) (kt : ClassId) (cw : Int32) (va : Addr) (kv : ClassId) (aH : Addr) (aD : Addr) (aT : Addr) (lH : Addr) (vH : Addr) (kH : ClassId) (lD : Addr) (vD : Addr) (kD : ClassId) (lT : Addr) (vT : Addr) (kT : ClassId) (h0 : Heap) (n0 : Nat) (v : Option Value) (h : Heap) (L : List Loc) : Prop := v = some (.ref aT) ∧ Fr n0 L ∧ Keep h0 h []
set_option maxRecDepth 65536 in
set_option maxHeartbeats 40000000 in
theorem rm7k2 (l : Launch) (Z : State) (a0 : Array Value) (hw : ∀ d ∈ tables_1, d.before a0 Z = true) (ws : List Jvm.Cond) (tt : Addr) (tv : Addr) (kt : ClassId) (cw : Int32) (va : Addr) (kv : ClassId) (aH : Addr) (aD : Addr) (aT : Addr) (lH : Addr) (vH : Addr) (kH : ClassId) (lD : Addr) (vD : Addr) (kD : ClassId) (lT : Addr) (vT : Addr) (kT : ClassId) (h0 : Heap) (n0 : Nat) (Z0 : n0 ≤ h0.size) (P0 : Exa Z h0 tt "java/lang/String") (P1 : Fld Z h0 tt "java/lang/String" "coder" "B" (.int (0 : Int32))) (P2 : Fld Z h0 tt "java/lang/String" "value" "[B" (.ref tv)) (P3 : Arv Z h0 tv kt .byte (5 : Int32) [(.int (nar .byte ((116 : Int32).toInt8.toInt32))), (.int (nar .byte ((111 : Int32).toInt8.toInt32))), (.int (nar .byte ((116 : Int32).toInt8.toInt32))), (.int (nar .byte ((97 : Int32).toInt8.toInt32))), (.int (nar .byte ((108 : Int32).toInt8.toInt32)))] (.int (0 : Int32))) (P4 : Sta Z h0 "java/lang/String" "COMPACT_STRINGS" "Z" (.int cw)) (hcw : ¬ cw = (0 : Int32)) (P6 : Sta Z h0 "com/example/cheapside/cheapside/core/Granularity" "$VALUES" "[Lcom/example/cheapside/cheapside/core/Granularity;" (.ref va)) (P7 : Exa Z h0 va "[Lcom/example/cheapside/cheapside/core/Granularity;") (P8 : Arv Z h0 va kv (.object "com/example/cheapside/cheapside/core/Granularity") (3 : Int32) [(.ref aH), (.ref aD), (.ref aT)] .null) (P9 : Fld Z h0 aH "com/example/cheapside/cheapside/core/Granularity" "label" "Ljava/lang/String;" (.ref lH)) (P10 : Exa Z h0 lH "java/lang/String") (P11 : Fld Z h0 lH "java/lang/String" "coder" "B" (.int (0 : Int32))) (P12 : Fld Z h0 lH "java/lang/String" "value" "[B" (.ref vH)) (P13 : Arv Z h0 vH kH .byte (4 : Int32) [(.int (104 : Int32)), (.int (111 : Int32)), (.int (117 : Int32)), (.int (114 : Int32))] (.int (0 : Int32))) (P14 : lH ≠ tt) (P15 : Fld Z h0 aD "com/example/cheapside/cheapside/core/Granularity" "label" "Ljava/lang/String;" (.ref lD)) (P16 : Exa Z h0 lD "java/lang/String") (P17 : Fld Z h0 lD "java/lang/String" "coder" "B" (.int (0 : Int32))) (P18 : Fld Z h0 lD "java/lang/String" "value" "[B" (.ref vD)) (P19 : Arv Z h0 vD kD .byte (3 : Int32) [(.int (100 : Int32)), (.int (97 : Int32)), (.int (121 : Int32))] (.int (0 : Int32))) (P20 : lD ≠ tt) (P21 : Fld Z h0 aT "com/example/cheapside/cheapside/core/Granularity" "label" "Ljava/lang/String;" (.ref lT)) (P22 : Exa Z h0 lT "java/lang/String") (P23 : Fld Z h0 lT "java/lang/String" "coder" "B" (.int (0 : Int32))) (P24 : Fld Z h0 lT "java/lang/String" "value" "[B" (.ref vT)) (P25 : Arv Z h0 vT kT .byte (5 : Int32) [(.int (116 : Int32)), (.int (111 : Int32)), (.int (116 : Int32)), (.int (97 : Int32)), (.int (108 : Int32))] (.int (0 : Int32))) (P26 : lT ≠ tt) :
    MetFree l (⟨"com/example/cheapside/cheapside/core/Granularity", "ofLabel", "(Ljava/lang/String;)Lcom/example/cheapside/cheapside/core/Granularity;"⟩ : MethodName) (head1 (Jvm.Cond.code (⟨"com/example/cheapside/cheapside/core/Granularity", "ofLabel", "(Ljava/lang/String;)Lcom/example/cheapside/cheapside/core/Granularity;"⟩ : MethodName) prog_4_method_4_code 5 (some (.object "com/example/cheapside/cheapside/core/Granularity")) :: ws) ({ frames := 2, cells := 3, slots := 27, locals := 28 } : Room)) (fun argz U => argz = #[(.ref tt)] ∧ Z.Warmed39 U.vm ∧ U.heap = h0) (fun _ _ _ _ _ => True) (fun _ U o U' => ∃ v L, o = .returned v ∧ Q7k2 Z tt tv kt cw va kv aH aD aT lH vH kH lD vD kD lT vT kT h0 n0 v U'.heap L ∧ ReturnedEndW U o U' L ({ frames := 2, cells := 3, slots := 27, locals := 28 } : Room).cells ({ frames := 2, cells := 3, slots := 27, locals := 28 } : Room).slots) := by
  refine MetFree.of_bodySF (plainFor_of_name pn_com_example_cheapside_cheapside_core_Granularity) hisR ?_
  intro p e s m args below meth c s₁ Bd hml0 hP hK
  obtain ⟨rfl, hZ, hh⟩ := hP
  have hx := Bd.exec
  have hby := Bd.bytes
  have hml : c.maxLocals = 5 := hml0
  have hown : s.vm.findClass "com/example/cheapside/cheapside/core/Granularity" = some m.cls := findClass_of_methodNamed Bd.named
  have hnm := (name_of_methodNamed Bd.named Bd.method).1
  have X0 : Stand p l e ({ frames := 2, cells := 3, slots := 27, locals := 28 } : Room) s m #[(.ref tt)] below meth c s₁ [] 0 0 := Stand.of_body Bd
  have e0 : s₁.heap = h0 := by rw [← hh, Bd.state]; rfl
  have N0 := Fr.nil n0
  have K0 : Keep h0 h0 [] := Keep.refl _ _
  have G : Gets p e below (s₁.setTop (entryFrame m #[(.ref tt)] 5)) (s₁.setTop (mkF m 0 #[.val (.ref tt), .unset, .unset, .unset, .unset] [])) := fun t k => castTop (ef_7k2 m tt) k
  replace G := own_aloadN (q := 1) G X0.here hx (hb hby d7_0) rfl rfl rfl
  have own_size : s.heap.size ≤ h0.size := by rw [hh]; exact Nat.le_refl _
  obtain ⟨b1, T1, h1, k11, X1, e1, E1, S1, hk1, hZ1, hown1, st1⟩ := ldcS (s := s) (vm0 := s.vm) X0 hx hZ hown (hw _ (List.mem_of_getElem? (i := 37) rfl)) (fun d hd => hw d (own_strs d hd)) e0 (own_since s) (own_size) (g := (mkF m 1 #[.val (.ref tt), .unset, .unset, .unset, .unset] [(.ref tt)])) rfl (hb hby d7_1) (n := 20) (by decide) (by decide) (by decide) (by decide)
  have Z1 : n0 ≤ h1.size := Nat.le_trans Z0 E1.1
  have K1 : Keep h0 h1 [] := K0.ext E1
  replace G : Gets p e below _ (T1.setTop (mkF m 3 #[.val (.ref tt), .unset, .unset, .unset, .unset] [(.ref b1), (.ref tt)])) := fun t k => G t (st1 t k)
  obtain ⟨_, _, ⟨T2, L2, kk2, nn2⟩, -, X2, ⟨Lc2, hQ2, l2, y2, z2⟩, st2⟩ := Jvm.LawKit.callS X1 hx (y := (⟨"java/util/Objects", "requireNonNull", "(Ljava/lang/Object;Ljava/lang/String;)Ljava/lang/Object;"⟩ : MethodName)) hown1 (mvT hZ1 (hw _ (List.mem_of_getElem? (i := 40) rfl))) (mvT hZ1 (hw _ (List.mem_of_getElem? (i := 41) rfl))) (mvT hZ1 (hw _ (List.mem_of_getElem? (i := 42) rfl))) (mvT hZ1 (hw _ (List.mem_of_getElem? (i := 43) rfl))) (by decide) (backOf (W := 0) (rm8 l Z a0 hw [] tt b1 h1 n0 Z1 ) hZ1 (hw _ (List.mem_of_getElem? (i := 43) rfl)) (hw _ (List.mem_of_getElem? (i := 42) rfl)) (by decide) (by decide)) (g := (mkF m 3 #[.val (.ref tt), .unset, .unset, .unset, .unset] [(.ref b1), (.ref tt)])) rfl (by rw [hml]; rfl) (argsL := [(.ref tt), (.ref b1)]) (rest := []) (lenOf pd_5 rfl) rfl (by show 2 * 0 + _ ≤ _; exact Nat.le_of_eq rfl) (hb hby d7_3) (fun _ _ => ⟨rfl, e1, (by decide : 2 + 0 ≤ _), (by decide : 24 + 0 ≤ _)⟩)
  dsimp only [Pt.U, Pt.locs, Pt.cells, Pt.slots] at X2 l2 y2 z2 st2 hQ2
  subst l2 y2 z2
  obtain ⟨rfl, N2q, e2⟩ := hQ2
  have N2 := Fr.app N0 N2q
  replace G : Gets p e below _ (T2.setTop (mkF m 6 #[.val (.ref tt), .unset, .unset, .unset, .unset] [(.ref tt)])) := fun t k => G t (st2 t k)
  replace G := own_pop (q := 7) G X2.here hx (hb hby d7_6) rfl rfl
  have F4 : Sta Z h1 "com/example/cheapside/cheapside/core/Granularity" "$VALUES" "[Lcom/example/cheapside/cheapside/core/Granularity;" (.ref va) := (P6.ext E1)
  have F5 : Exa Z h1 va "[Lcom/example/cheapside/cheapside/core/Granularity;" := (P7.ext E1)
  have F6 : Arv Z h1 va kv (.object "com/example/cheapside/cheapside/core/Granularity") (3 : Int32) [(.ref aH), (.ref aD), (.ref aT)] .null := (P8.ext E1)
  obtain ⟨_, _, ⟨T3, L3, kk3, nn3⟩, -, X3, ⟨Lc3, hQ3, l3, y3, z3⟩, st3⟩ := Jvm.LawKit.callS X2 hx (y := (⟨"com/example/cheapside/cheapside/core/Granularity", "values", "()[Lcom/example/cheapside/cheapside/core/Granularity;"⟩ : MethodName)) hown1 (mvT hZ1 (hw _ (List.mem_of_getElem? (i := 44) rfl))) (mvT hZ1 (hw _ (List.mem_of_getElem? (i := 45) rfl))) (mvT hZ1 (hw _ (List.mem_of_getElem? (i := 3) rfl))) (mvT hZ1 (hw _ (List.mem_of_getElem? (i := 46) rfl))) (by decide) (backOf (W := 0) (rm9 l Z a0 hw [] va kv aH aD aT h1 n0 Z1 F4 F5 F6) hZ1 (hw _ (List.mem_of_getElem? (i := 46) rfl)) (hw _ (List.mem_of_getElem? (i := 3) rfl)) (by decide) (by decide)) (g := (mkF m 7 #[.val (.ref tt), .unset, .unset, .unset, .unset] [])) rfl (by rw [hml]; rfl) (argsL := []) (rest := []) (lenOf pd_6 rfl) rfl (by show 2 * 0 + _ ≤ _; exact Nat.le_of_eq rfl) (hb hby d7_7) (fun _ _ => ⟨rfl, e2, (by decide : 2 + 1 ≤ _), (by decide : 24 + 3 ≤ _)⟩)
  dsimp only [Pt.U, Pt.locs, Pt.cells, Pt.slots] at X3 l3 y3 z3 st3 hQ3
  subst l3 y3 z3
  obtain ⟨b_3, rfl, N3q, K3q, B3_0, B3_1⟩ := hQ3
  have F7 : Exa Z h1 tt "java/lang/String" := (P0.ext E1)
  have ne8 : tt ≠ b_3 := Nat.ne_of_lt (Nat.lt_of_lt_of_le F7.lt B3_0)
  have F9 : Arv Z h1 tv kt .byte (5 : Int32) [(.int (nar .byte ((116 : Int32).toInt8.toInt32))), (.int (nar .byte ((111 : Int32).toInt8.toInt32))), (.int (nar .byte ((116 : Int32).toInt8.toInt32))), (.int (nar .byte ((97 : Int32).toInt8.toInt32))), (.int (nar .byte ((108 : Int32).toInt8.toInt32)))] (.int (0 : Int32)) := (P3.ext E1)
  have ne10 : tv ≠ b_3 := Nat.ne_of_lt (Nat.lt_of_lt_of_le F9.lt B3_0)
  have ne11 : va ≠ b_3 := Nat.ne_of_lt (Nat.lt_of_lt_of_le F5.lt B3_0)
  have F12 : Fld Z h1 aH "com/example/cheapside/cheapside/core/Granularity" "label" "Ljava/lang/String;" (.ref lH) := (P9.ext E1)
  have ne13 : aH ≠ b_3 := Nat.ne_of_lt (Nat.lt_of_lt_of_le F12.lt B3_0)
  have F14 : Exa Z h1 lH "java/lang/String" := (P10.ext E1)
  have ne15 : lH ≠ b_3 := Nat.ne_of_lt (Nat.lt_of_lt_of_le F14.lt B3_0)
  have F16 : Arv Z h1 vH kH .byte (4 : Int32) [(.int (104 : Int32)), (.int (111 : Int32)), (.int (117 : Int32)), (.int (114 : Int32))] (.int (0 : Int32)) := (P13.ext E1)
  have ne17 : vH ≠ b_3 := Nat.ne_of_lt (Nat.lt_of_lt_of_le F16.lt B3_0)
  have F18 : Fld Z h1 aD "com/example/cheapside/cheapside/core/Granularity" "label" "Ljava/lang/String;" (.ref lD) := (P15.ext E1)
  have ne19 : aD ≠ b_3 := Nat.ne_of_lt (Nat.lt_of_lt_of_le F18.lt B3_0)
  have F20 : Exa Z h1 lD "java/lang/String" := (P16.ext E1)
  have ne21 : lD ≠ b_3 := Nat.ne_of_lt (Nat.lt_of_lt_of_le F20.lt B3_0)
  have F22 : Arv Z h1 vD kD .byte (3 : Int32) [(.int (100 : Int32)), (.int (97 : Int32)), (.int (121 : Int32))] (.int (0 : Int32)) := (P19.ext E1)
  have ne23 : vD ≠ b_3 := Nat.ne_of_lt (Nat.lt_of_lt_of_le F22.lt B3_0)
  have F24 : Fld Z h1 aT "com/example/cheapside/cheapside/core/Granularity" "label" "Ljava/lang/String;" (.ref lT) := (P21.ext E1)
  have ne25 : aT ≠ b_3 := Nat.ne_of_lt (Nat.lt_of_lt_of_le F24.lt B3_0)
  have F26 : Exa Z h1 lT "java/lang/String" := (P22.ext E1)
  have ne27 : lT ≠ b_3 := Nat.ne_of_lt (Nat.lt_of_lt_of_le F26.lt B3_0)
  have F28 : Arv Z h1 vT kT .byte (5 : Int32) [(.int (116 : Int32)), (.int (111 : Int32)), (.int (116 : Int32)), (.int (97 : Int32)), (.int (108 : Int32))] (.int (0 : Int32)) := (P25.ext E1)
  have ne29 : vT ≠ b_3 := Nat.ne_of_lt (Nat.lt_of_lt_of_le F28.lt B3_0)
  have ge_b_3 : n0 ≤ b_3 := Nat.le_trans Z1 B3_0
  have sz_b_3 : h0.size ≤ b_3 := Nat.le_trans K1.1 B3_0
  have hk30 := Nat.le_trans hk1 K3q.1
  have Z3 : n0 ≤ T3.heap.size := Nat.le_trans Z1 K3q.1
  have K3 : Keep h0 T3.heap [] := K1.trans K3q all0
  have N3 := Fr.app N2 N3q
  replace G : Gets p e below _ (T3.setTop (mkF m 10 #[.val (.ref tt), .unset, .unset, .unset, .unset] [(.ref b_3)])) := fun t k => G t (st3 t k)
  replace G := own_astoreN (q := 11) (l' := #[.val (.ref tt), .val (.ref b_3), .unset, .unset, .unset]) G X3.here hx (hb hby d7_10) rfl rfl rfl
  replace G := own_aloadN (q := 12) G X3.here hx (hb hby d7_11) rfl rfl rfl
  obtain ⟨c31, Ar31, -, S31, N31', -, -⟩ := id B3_1
  replace G : Gets p e below _ (T3.setTop (mkF m 13 #[.val (.ref tt), .val (.ref b_3), .unset, .unset, .unset] [(.int (3 : Int32))])) := fun t k => G t (X3.arraylength hx (by exact Ar31.1) (State.isArrayOf_alike hZ1.alike Ar31.2.1) (g := (mkF m 12 #[.val (.ref tt), .val (.ref b_3), .unset, .unset, .unset] [(.ref b_3)])) rfl rfl (hb hby d7_12) t (by rw [len_of S31 N31']; exact k))
  replace G := own_istoreN (q := 14) (l' := #[.val (.ref tt), .val (.ref b_3), .val (.int (3 : Int32)), .unset, .unset]) G X3.here hx (hb hby d7_13) rfl rfl
  replace G := own_iconst (q := 15) G X3.here hx (hb hby d7_14) (v := (0 : Int32)) (by decide) rfl
  replace G := own_istoreN (q := 16) (l' := #[.val (.ref tt), .val (.ref b_3), .val (.int (3 : Int32)), .val (.int (0 : Int32)), .unset]) G X3.here hx (hb hby d7_15) rfl rfl
  replace G := own_iloadN (q := 17) G X3.here hx (hb hby d7_16) rfl rfl
  replace G := own_iloadN (q := 18) G X3.here hx (hb hby d7_17) rfl rfl
  have hc18_32 : (0 : Int32) < (3 : Int32) := by decide
  replace G := own_icmpNo (q := 21) G X3.here hx (hb hby d7_18) (tlt hc18_32).2.1 rfl
  replace G := own_aloadN (q := 22) G X3.here hx (hb hby d7_21) rfl rfl rfl
  replace G := own_iloadN (q := 23) G X3.here hx (hb hby d7_22) rfl rfl
  obtain ⟨c33, Ar33, -, S33, -, H33, -⟩ := id B3_1
  have hin33 : ¬ ((0 : Int32) < 0 ∨ c33.slots.size ≤ ((0 : Int32)).toNatClampNeg) := inb_of S33 ⟨by decide, by decide⟩
  replace G : Gets p e below _ (T3.setTop (mkF m 24 #[.val (.ref tt), .val (.ref b_3), .val (.int (3 : Int32)), .val (.int (0 : Int32)), .unset] [(.ref aH)])) := fun t k => G t (X3.aaload hx (j := (0 : Int32)) (v := (.ref aH)) (by exact Ar33.1) (State.isArrayOf_alike hZ1.alike Ar33.2.1) rfl Ar33.2.2 hin33 (Has.at H33 hin33 rfl) (g := (mkF m 23 #[.val (.ref tt), .val (.ref b_3), .val (.int (3 : Int32)), .val (.int (0 : Int32)), .unset] [(.int (0 : Int32)), (.ref b_3)])) rfl rfl (hb hby d7_23) t k)
  replace G := own_astore (q := 26) (l' := #[.val (.ref tt), .val (.ref b_3), .val (.int (3 : Int32)), .val (.int (0 : Int32)), .val (.ref aH)]) G X3.here hx (hb hby d7_24) rfl rfl rfl
  replace G := own_aload (q := 28) G X3.here hx (hb hby d7_26) rfl rfl rfl
  have F34 : Fld Z T3.heap aH "com/example/cheapside/cheapside/core/Granularity" "label" "Ljava/lang/String;" (.ref lH) := (F12.keep K3q nin0)
  obtain ⟨T35, X35, e35, st35⟩ := getF X3 hx hZ1 hown1 (host := "") (Or.inl (hw _ (List.mem_of_getElem? (i := 61) rfl))) Via.refl rfl F34 (g := (mkF m 28 #[.val (.ref tt), .val (.ref b_3), .val (.int (3 : Int32)), .val (.int (0 : Int32)), .val (.ref aH)] [(.ref aH)])) rfl rfl (hb hby d7_28)
  replace G : Gets p e below _ (T35.setTop (mkF m 31 #[.val (.ref tt), .val (.ref b_3), .val (.int (3 : Int32)), .val (.int (0 : Int32)), .val (.ref aH)] [(.ref lH)])) := fun t k => G t (st35 t k)
  replace G := own_aloadN (q := 32) G X35.here hx (hb hby d7_31) rfl rfl rfl
  have F37 : Exa Z T3.heap lH "java/lang/String" := (F14.keep K3q)
  have F38 : Fld Z T3.heap lH "java/lang/String" "coder" "B" (.int (0 : Int32)) := ((P11.ext E1).keep K3q nin0)
  have F39 : Fld Z T3.heap tt "java/lang/String" "coder" "B" (.int (0 : Int32)) := ((P1.ext E1).keep K3q nin0)
  have F40 : Fld Z T3.heap lH "java/lang/String" "value" "[B" (.ref vH) := ((P12.ext E1).keep K3q nin0)
  have F41 : Fld Z T3.heap tt "java/lang/String" "value" "[B" (.ref tv) := ((P2.ext E1).keep K3q nin0)
  have F42 : Exa Z T3.heap tt "java/lang/String" := (F7.keep K3q)
  have F43 : Arv Z T3.heap vH kH .byte (4 : Int32) [(.int (104 : Int32)), (.int (111 : Int32)), (.int (117 : Int32)), (.int (114 : Int32))] (.int (0 : Int32)) := (F16.keep K3q nin0)
  have F44 : Arv Z T3.heap tv kt .byte (5 : Int32) [(.int (nar .byte ((116 : Int32).toInt8.toInt32))), (.int (nar .byte ((111 : Int32).toInt8.toInt32))), (.int (nar .byte ((116 : Int32).toInt8.toInt32))), (.int (nar .byte ((97 : Int32).toInt8.toInt32))), (.int (nar .byte ((108 : Int32).toInt8.toInt32)))] (.int (0 : Int32)) := (F9.keep K3q nin0)
  have F45 : Sta Z T3.heap "java/lang/String" "COMPACT_STRINGS" "Z" (.int cw) := ((P4.ext E1).ext (own_kext K3q))
  obtain ⟨cq36, kq36, q36a, q36b, q36c⟩ := isOf hZ1 e35 F37
  obtain ⟨_, _, ⟨T36, L36, kk36, nn36⟩, -, X36, ⟨Lc36, hQ36, l36, y36, z36⟩, st36⟩ := X35.virtualBack hx (y := (⟨"java/lang/String", "equals", "(Ljava/lang/Object;)Z"⟩ : MethodName)) (z := (⟨"java/lang/String", "equals", "(Ljava/lang/Object;)Z"⟩ : MethodName)) hown1 (mvT hZ1 (hw _ (List.mem_of_getElem? (i := 63) rfl))) (mvT hZ1 (hw _ (List.mem_of_getElem? (i := 64) rfl))) (notFace_of_selects (args := #[]) (mvT hZ1 (hw _ (List.mem_of_getElem? (i := 66) rfl)))) (mvT hZ1 (hw _ (List.mem_of_getElem? (i := 66) rfl))) (mvT hZ1 (hw _ (List.mem_of_getElem? (i := 65) rfl))) (by decide) (backOf (W := 0) (rm10i0k2 l Z a0 hw [] lH tt vH tv kH kt cw T3.heap n0 Z3 F38 F39 F40 F41 F42 F43 F44 F45 hcw P14) hZ1 (hw _ (List.mem_of_getElem? (i := 67) rfl)) (hw _ (List.mem_of_getElem? (i := 7) rfl)) (by decide) (by decide)) q36a q36c (g := (mkF m 32 #[.val (.ref tt), .val (.ref b_3), .val (.int (3 : Int32)), .val (.int (0 : Int32)), .val (.ref aH)] [(.ref tt), (.ref lH)])) rfl (by rw [hml]; rfl) (Steps.refl _) (argsL := [(.ref tt)]) (rest := []) (lenOf pd_7 rfl) rfl (by show 2 * 0 + _ ≤ _; exact Nat.le_of_eq rfl) (hb hby d7_32) (fun _ _ => ⟨rfl, e35, (by decide : 3 + 0 ≤ _), (by decide : 27 + 0 ≤ _)⟩)
  dsimp only [Pt.U, Pt.locs, Pt.cells, Pt.slots] at X36 l36 y36 z36 st36 hQ36
  subst l36 y36 z36
  obtain ⟨rfl, N36q, e36⟩ := hQ36
  have N36 := Fr.app N3 N36q
  replace G : Gets p e below _ (T36.setTop (mkF m 35 #[.val (.ref tt), .val (.ref b_3), .val (.int (3 : Int32)), .val (.int (0 : Int32)), .val (.ref aH)] [(.int (0 : Int32))])) := fun t k => G t (st36.trans k)
  have hc35_46 : (0 : Int32) = (0 : Int32) := by decide
  replace G := own_ifYes (q := 41) G X36.here hx (hb hby d7_35) ((if0 _ _).trans (teq hc35_46).1) (by decide) (by decide)
  replace G := own_iinc (q := 44) (l' := #[.val (.ref tt), .val (.ref b_3), .val (.int (3 : Int32)), .val (.int (1 : Int32)), .val (.ref aH)]) (w := (1 : Int32)) G X36.here hx (hb hby d7_41) (by decide) rfl (by decide : ((0 : Int32) + (1 : Int32)) = (1 : Int32)) rfl rfl
  replace G := own_goto (q := 16) G X36.here hx (hb hby d7_44) (by decide) (by decide)
  replace G := own_iloadN (q := 17) G X36.here hx (hb hby d7_16) rfl rfl
  replace G := own_iloadN (q := 18) G X36.here hx (hb hby d7_17) rfl rfl
  have hc18_47 : (1 : Int32) < (3 : Int32) := by decide
  replace G := own_icmpNo (q := 21) G X36.here hx (hb hby d7_18) (tlt hc18_47).2.1 rfl
  replace G := own_aloadN (q := 22) G X36.here hx (hb hby d7_21) rfl rfl rfl
  replace G := own_iloadN (q := 23) G X36.here hx (hb hby d7_22) rfl rfl
  obtain ⟨c48, Ar48, -, S48, -, H48, -⟩ := id B3_1
  have hin48 : ¬ ((1 : Int32) < 0 ∨ c48.slots.size ≤ ((1 : Int32)).toNatClampNeg) := inb_of S48 ⟨by decide, by decide⟩
  replace G : Gets p e below _ (T36.setTop (mkF m 24 #[.val (.ref tt), .val (.ref b_3), .val (.int (3 : Int32)), .val (.int (1 : Int32)), .val (.ref aH)] [(.ref aD)])) := fun t k => G t (X36.aaload hx (j := (1 : Int32)) (v := (.ref aD)) (by rw [e36]; exact Ar48.1) (State.isArrayOf_alike hZ1.alike Ar48.2.1) rfl Ar48.2.2 hin48 (Has.at H48 hin48 rfl) (g := (mkF m 23 #[.val (.ref tt), .val (.ref b_3), .val (.int (3 : Int32)), .val (.int (1 : Int32)), .val (.ref aH)] [(.int (1 : Int32)), (.ref b_3)])) rfl rfl (hb hby d7_23) t k)
  replace G := own_astore (q := 26) (l' := #[.val (.ref tt), .val (.ref b_3), .val (.int (3 : Int32)), .val (.int (1 : Int32)), .val (.ref aD)]) G X36.here hx (hb hby d7_24) rfl rfl rfl
  replace G := own_aload (q := 28) G X36.here hx (hb hby d7_26) rfl rfl rfl
  have F49 : Fld Z T3.heap aD "com/example/cheapside/cheapside/core/Granularity" "label" "Ljava/lang/String;" (.ref lD) := (F18.keep K3q nin0)
  obtain ⟨T50, X50, e50, st50⟩ := getF X36 hx hZ1 hown1 (host := "") (Or.inl (hw _ (List.mem_of_getElem? (i := 61) rfl))) Via.refl e36 F49 (g := (mkF m 28 #[.val (.ref tt), .val (.ref b_3), .val (.int (3 : Int32)), .val (.int (1 : Int32)), .val (.ref aD)] [(.ref aD)])) rfl rfl (hb hby d7_28)
  replace G : Gets p e below _ (T50.setTop (mkF m 31 #[.val (.ref tt), .val (.ref b_3), .val (.int (3 : Int32)), .val (.int (1 : Int32)), .val (.ref aD)] [(.ref lD)])) := fun t k => G t (st50 t k)
  replace G := own_aloadN (q := 32) G X50.here hx (hb hby d7_31) rfl rfl rfl
  have F52 : Exa Z T3.heap lD "java/lang/String" := (F20.keep K3q)
  have F53 : Fld Z T3.heap lD "java/lang/String" "coder" "B" (.int (0 : Int32)) := ((P17.ext E1).keep K3q nin0)
  have F54 : Fld Z T3.heap lD "java/lang/String" "value" "[B" (.ref vD) := ((P18.ext E1).keep K3q nin0)
  have F55 : Arv Z T3.heap vD kD .byte (3 : Int32) [(.int (100 : Int32)), (.int (97 : Int32)), (.int (121 : Int32))] (.int (0 : Int32)) := (F22.keep K3q nin0)
  obtain ⟨cq51, kq51, q51a, q51b, q51c⟩ := isOf hZ1 e50 F52
  obtain ⟨_, _, ⟨T51, L51, kk51, nn51⟩, -, X51, ⟨Lc51, hQ51, l51, y51, z51⟩, st51⟩ := X50.virtualBack hx (y := (⟨"java/lang/String", "equals", "(Ljava/lang/Object;)Z"⟩ : MethodName)) (z := (⟨"java/lang/String", "equals", "(Ljava/lang/Object;)Z"⟩ : MethodName)) hown1 (mvT hZ1 (hw _ (List.mem_of_getElem? (i := 63) rfl))) (mvT hZ1 (hw _ (List.mem_of_getElem? (i := 64) rfl))) (notFace_of_selects (args := #[]) (mvT hZ1 (hw _ (List.mem_of_getElem? (i := 66) rfl)))) (mvT hZ1 (hw _ (List.mem_of_getElem? (i := 66) rfl))) (mvT hZ1 (hw _ (List.mem_of_getElem? (i := 65) rfl))) (by decide) (backOf (W := 0) (rm10i1k2 l Z a0 hw [] lD tt vD tv kD kt cw T3.heap n0 Z3 F53 F39 F54 F41 F42 F55 F44 F45 hcw P20) hZ1 (hw _ (List.mem_of_getElem? (i := 67) rfl)) (hw _ (List.mem_of_getElem? (i := 7) rfl)) (by decide) (by decide)) q51a q51c (g := (mkF m 32 #[.val (.ref tt), .val (.ref b_3), .val (.int (3 : Int32)), .val (.int (1 : Int32)), .val (.ref aD)] [(.ref tt), (.ref lD)])) rfl (by rw [hml]; rfl) (Steps.refl _) (argsL := [(.ref tt)]) (rest := []) (lenOf pd_7 rfl) rfl (by show 2 * 0 + _ ≤ _; exact Nat.le_of_eq rfl) (hb hby d7_32) (fun _ _ => ⟨rfl, e50, (by decide : 3 + 0 ≤ _), (by decide : 27 + 0 ≤ _)⟩)
  dsimp only [Pt.U, Pt.locs, Pt.cells, Pt.slots] at X51 l51 y51 z51 st51 hQ51
  subst l51 y51 z51
  obtain ⟨rfl, N51q, e51⟩ := hQ51
  have N51 := Fr.app N36 N51q
  replace G : Gets p e below _ (T51.setTop (mkF m 35 #[.val (.ref tt), .val (.ref b_3), .val (.int (3 : Int32)), .val (.int (1 : Int32)), .val (.ref aD)] [(.int (0 : Int32))])) := fun t k => G t (st51.trans k)
  have hc35_56 : (0 : Int32) = (0 : Int32) := by decide
  replace G := own_ifYes (q := 41) G X51.here hx (hb hby d7_35) ((if0 _ _).trans (teq hc35_56).1) (by decide) (by decide)
  replace G := own_iinc (q := 44) (l' := #[.val (.ref tt), .val (.ref b_3), .val (.int (3 : Int32)), .val (.int (2 : Int32)), .val (.ref aD)]) (w := (1 : Int32)) G X51.here hx (hb hby d7_41) (by decide) rfl (by decide : ((1 : Int32) + (1 : Int32)) = (2 : Int32)) rfl rfl
  replace G := own_goto (q := 16) G X51.here hx (hb hby d7_44) (by decide) (by decide)
  replace G := own_iloadN (q := 17) G X51.here hx (hb hby d7_16) rfl rfl
  replace G := own_iloadN (q := 18) G X51.here hx (hb hby d7_17) rfl rfl
  have hc18_57 : (2 : Int32) < (3 : Int32) := by decide
  replace G := own_icmpNo (q := 21) G X51.here hx (hb hby d7_18) (tlt hc18_57).2.1 rfl
  replace G := own_aloadN (q := 22) G X51.here hx (hb hby d7_21) rfl rfl rfl
  replace G := own_iloadN (q := 23) G X51.here hx (hb hby d7_22) rfl rfl
  obtain ⟨c58, Ar58, -, S58, -, H58, -⟩ := id B3_1
  have hin58 : ¬ ((2 : Int32) < 0 ∨ c58.slots.size ≤ ((2 : Int32)).toNatClampNeg) := inb_of S58 ⟨by decide, by decide⟩
  replace G : Gets p e below _ (T51.setTop (mkF m 24 #[.val (.ref tt), .val (.ref b_3), .val (.int (3 : Int32)), .val (.int (2 : Int32)), .val (.ref aD)] [(.ref aT)])) := fun t k => G t (X51.aaload hx (j := (2 : Int32)) (v := (.ref aT)) (by rw [e51]; exact Ar58.1) (State.isArrayOf_alike hZ1.alike Ar58.2.1) rfl Ar58.2.2 hin58 (Has.at H58 hin58 rfl) (g := (mkF m 23 #[.val (.ref tt), .val (.ref b_3), .val (.int (3 : Int32)), .val (.int (2 : Int32)), .val (.ref aD)] [(.int (2 : Int32)), (.ref b_3)])) rfl rfl (hb hby d7_23) t k)
  replace G := own_astore (q := 26) (l' := #[.val (.ref tt), .val (.ref b_3), .val (.int (3 : Int32)), .val (.int (2 : Int32)), .val (.ref aT)]) G X51.here hx (hb hby d7_24) rfl rfl rfl
  replace G := own_aload (q := 28) G X51.here hx (hb hby d7_26) rfl rfl rfl
  have F59 : Fld Z T3.heap aT "com/example/cheapside/cheapside/core/Granularity" "label" "Ljava/lang/String;" (.ref lT) := (F24.keep K3q nin0)
  obtain ⟨T60, X60, e60, st60⟩ := getF X51 hx hZ1 hown1 (host := "") (Or.inl (hw _ (List.mem_of_getElem? (i := 61) rfl))) Via.refl e51 F59 (g := (mkF m 28 #[.val (.ref tt), .val (.ref b_3), .val (.int (3 : Int32)), .val (.int (2 : Int32)), .val (.ref aT)] [(.ref aT)])) rfl rfl (hb hby d7_28)
  replace G : Gets p e below _ (T60.setTop (mkF m 31 #[.val (.ref tt), .val (.ref b_3), .val (.int (3 : Int32)), .val (.int (2 : Int32)), .val (.ref aT)] [(.ref lT)])) := fun t k => G t (st60 t k)
  replace G := own_aloadN (q := 32) G X60.here hx (hb hby d7_31) rfl rfl rfl
  have F62 : Exa Z T3.heap lT "java/lang/String" := (F26.keep K3q)
  have F63 : Fld Z T3.heap lT "java/lang/String" "coder" "B" (.int (0 : Int32)) := ((P23.ext E1).keep K3q nin0)
  have F64 : Fld Z T3.heap lT "java/lang/String" "value" "[B" (.ref vT) := ((P24.ext E1).keep K3q nin0)
  have F65 : Arv Z T3.heap vT kT .byte (5 : Int32) [(.int (116 : Int32)), (.int (111 : Int32)), (.int (116 : Int32)), (.int (97 : Int32)), (.int (108 : Int32))] (.int (0 : Int32)) := (F28.keep K3q nin0)
  obtain ⟨cq61, kq61, q61a, q61b, q61c⟩ := isOf hZ1 e60 F62
  obtain ⟨_, _, ⟨T61, L61, kk61, nn61⟩, -, X61, ⟨Lc61, hQ61, l61, y61, z61⟩, st61⟩ := X60.virtualBack hx (y := (⟨"java/lang/String", "equals", "(Ljava/lang/Object;)Z"⟩ : MethodName)) (z := (⟨"java/lang/String", "equals", "(Ljava/lang/Object;)Z"⟩ : MethodName)) hown1 (mvT hZ1 (hw _ (List.mem_of_getElem? (i := 63) rfl))) (mvT hZ1 (hw _ (List.mem_of_getElem? (i := 64) rfl))) (notFace_of_selects (args := #[]) (mvT hZ1 (hw _ (List.mem_of_getElem? (i := 66) rfl)))) (mvT hZ1 (hw _ (List.mem_of_getElem? (i := 66) rfl))) (mvT hZ1 (hw _ (List.mem_of_getElem? (i := 65) rfl))) (by decide) (backOf (W := 0) (rm10i2k2 l Z a0 hw [] lT tt vT tv kT kt cw T3.heap n0 Z3 F63 F39 F64 F41 F42 F65 F44 F45 hcw P26) hZ1 (hw _ (List.mem_of_getElem? (i := 67) rfl)) (hw _ (List.mem_of_getElem? (i := 7) rfl)) (by decide) (by decide)) q61a q61c (g := (mkF m 32 #[.val (.ref tt), .val (.ref b_3), .val (.int (3 : Int32)), .val (.int (2 : Int32)), .val (.ref aT)] [(.ref tt), (.ref lT)])) rfl (by rw [hml]; rfl) (Steps.refl _) (argsL := [(.ref tt)]) (rest := []) (lenOf pd_7 rfl) rfl (by show 2 * 0 + _ ≤ _; exact Nat.le_of_eq rfl) (hb hby d7_32) (fun _ _ => ⟨rfl, e60, (by decide : 3 + 0 ≤ _), (by decide : 27 + 0 ≤ _)⟩)
  dsimp only [Pt.U, Pt.locs, Pt.cells, Pt.slots] at X61 l61 y61 z61 st61 hQ61
  subst l61 y61 z61
  obtain ⟨rfl, N61q, e61⟩ := hQ61
  have N61 := Fr.app N51 N61q
  replace G : Gets p e below _ (T61.setTop (mkF m 35 #[.val (.ref tt), .val (.ref b_3), .val (.int (3 : Int32)), .val (.int (2 : Int32)), .val (.ref aT)] [(.int (1 : Int32))])) := fun t k => G t (st61.trans k)
  have hc35_66 : ¬ ((1 : Int32) = (0 : Int32)) := by decide
  replace G := own_ifNo (q := 38) G X61.here hx (hb hby d7_35) ((if0 _ _).trans (feq hc35_66).1) rfl
  replace G := own_aload (q := 40) G X61.here hx (hb hby d7_38) rfl rfl rfl
  obtain ⟨fs, hr, hrun, hended, -, hW, hBk, hsame⟩ := X61.leaveW S1 (by rw [e61]; exact hk30) (v := some (.ref aT)) (fun h => by rw [Bd.returns] at h; cases h)
  refine ⟨_, _, G _ (retOut X61 hx Bd.returns rfl (Or.inr (Or.inr (Or.inr (Or.inr ⟨rfl, rfl, rfl⟩)))) (hb hby d7_40) hr), hrun, hended, _, _, rfl, ?_, ⟨_, rfl⟩, hW, hBk, hsame.mono (by decide) (by decide)⟩
  show Q7k2 Z tt tv kt cw va kv aH aD aT lH vH kH lD vD kD lT vT kT h0 n0 _ T61.heap _
  rw [e61]
  exact ⟨rfl, N61, K3⟩
theorem d12_0 : decode prog_4_method_5_code 0 = .ok (.aload_n 0, 1) := by decide +kernel
theorem d12_1 : decode prog_4_method_5_code 1 = .ok (.getfield 32, 3) := by decide +kernel
theorem d12_4 : decode prog_4_method_5_code 4 = .ok (.areturn, 1) := by decide +kernel
theorem ef_12 (m : MethodId) (x0 : Addr) : entryFrame m #[(.ref x0)] 1 = mkF m 0 #[.val (.ref x0)] [] := by first | (simp [entryFrame, mkF, argsToLocals, Value.category]; done) | rfl
def Q12 (Z : State) (a : Addr) (x : Addr) (h0 : Heap) (n0 : Nat) (v : Option Value) (h : Heap) (L : List Loc) : Prop := v = some (.ref x) ∧ Fr n0 L ∧ h = h0
set_option maxRecDepth 65536 in
set_option maxHeartbeats 40000000 in
theorem rm12 (l : Launch) (Z : State) (a0 : Array Value) (hw : ∀ d ∈ tables_1, d.before a0 Z = true) (ws : List Jvm.Cond) (a : Addr) (x : Addr) (h0 : Heap) (n0 : Nat) (Z0 : n0 ≤ h0.size) (P0 : Fld Z h0 a "com/example/cheapside/cheapside/core/Granularity" "label" "Ljava/lang/String;" (.ref x)) :
    MetFree l (⟨"com/example/cheapside/cheapside/core/Granularity", "label", "()Ljava/lang/String;"⟩ : MethodName) (head1 (Jvm.Cond.code (⟨"com/example/cheapside/cheapside/core/Granularity", "label", "()Ljava/lang/String;"⟩ : MethodName) prog_4_method_5_code 1 (some (.object "java/lang/String")) :: ws) ({ frames := 0, cells := 0, slots := 0, locals := 0 } : Room)) (fun argz U => argz = #[(.ref a)] ∧ Z.Warmed39 U.vm ∧ U.heap = h0) (fun _ _ _ _ _ => True) (fun _ U o U' => ∃ v L, o = .returned v ∧ Q12 Z a x h0 n0 v U'.heap L ∧ FrameEnd U o U' L ({ frames := 0, cells := 0, slots := 0, locals := 0 } : Room).cells ({ frames := 0, cells := 0, slots := 0, locals := 0 } : Room).slots) := by
  refine MetFree.of_bodySF (plainFor_of_name pn_com_example_cheapside_cheapside_core_Granularity) hisR ?_
  intro p e s m args below meth c s₁ Bd hml0 hP hK
  obtain ⟨rfl, hZ, hh⟩ := hP
  have hx := Bd.exec
  have hby := Bd.bytes
  have hml : c.maxLocals = 1 := hml0
  have hown : s.vm.findClass "com/example/cheapside/cheapside/core/Granularity" = some m.cls := findClass_of_methodNamed Bd.named
  have hnm := (name_of_methodNamed Bd.named Bd.method).1
  have X0 : Stand p l e ({ frames := 0, cells := 0, slots := 0, locals := 0 } : Room) s m #[(.ref a)] below meth c s₁ [] 0 0 := Stand.of_body Bd
  have e0 : s₁.heap = h0 := by rw [← hh, Bd.state]; rfl
  have N0 := Fr.nil n0
  have G : Gets p e below (s₁.setTop (entryFrame m #[(.ref a)] 1)) (s₁.setTop (mkF m 0 #[.val (.ref a)] [])) := fun t k => castTop (ef_12 m a) k
  replace G := own_aloadN (q := 1) G X0.here hx (hb hby d12_0) rfl rfl rfl
  obtain ⟨T1, X1, e1, st1⟩ := getF X0 hx hZ hown (host := "") (Or.inl (hw _ (List.mem_of_getElem? (i := 61) rfl))) Via.refl e0 P0 (g := (mkF m 1 #[.val (.ref a)] [(.ref a)])) rfl rfl (hb hby d12_1)
  replace G : Gets p e below _ (T1.setTop (mkF m 4 #[.val (.ref a)] [(.ref x)])) := fun t k => G t (st1 t k)
  obtain ⟨fs, hr, hrun, hended, hW, hsame⟩ := X1.leave (v := some (.ref x)) (fun h => by rw [Bd.returns] at h; cases h)
  refine ⟨_, _, G _ (retOut X1 hx Bd.returns rfl (Or.inr (Or.inr (Or.inr (Or.inr ⟨rfl, rfl, rfl⟩)))) (hb hby d12_4) hr), hrun, hended, _, _, rfl, ?_, ⟨_, rfl⟩, hW, hsame.mono (by decide) (by decide)⟩
  show Q12 Z a x h0 n0 _ T1.heap _
  rw [e1]
  exact ⟨rfl, N0, rfl⟩
theorem pd_8 : parseMethodDescriptor "([C)V" = some ⟨[(.array .char)], none⟩ := by decide +kernel
theorem pd_9 : parseMethodDescriptor "(Ljava/lang/String;)Lcom/example/cheapside/cheapside/core/Granularity;" = some ⟨[(.object "java/lang/String")], some (.object "com/example/cheapside/cheapside/core/Granularity")⟩ := by decide +kernel
theorem pd_10 : parseMethodDescriptor "()Ljava/lang/String;" = some ⟨[], some (.object "java/lang/String")⟩ := by decide +kernel
theorem pn_com_example_cheapside_cheapside_core_GranularityOfLabelPinLaw : plainName "com/example/cheapside/cheapside/core/GranularityOfLabelPinLaw" = true := by first | (simp [plainName, overriddenIn]; done) | decide +kernel
theorem ef_0 (m : MethodId) (x0 : Int32) : entryFrame m #[(.int x0)] maxLocals = mkF m 0 #[.val (.int x0), .unset, .unset, .unset, .unset, .unset] [] := by first | (simp [entryFrame, mkF, argsToLocals, Value.category, maxLocals]; done) | rfl
def Q0 (Z : State) (i0 : Int32) (va : Addr) (kv : ClassId) (cw : Int32) (aH : Addr) (lH : Addr) (vH : Addr) (kH : ClassId) (aD : Addr) (lD : Addr) (vD : Addr) (kD : ClassId) (aT : Addr) (lT : Addr) (vT : Addr) (kT : ClassId) (h0 : Heap) (n0 : Nat) (v : Option Value) (h : Heap) (L : List Loc) : Prop := v = some (.int (1 : Int32)) ∧ Fr n0 L
set_option maxRecDepth 65536 in
set_option maxHeartbeats 40000000 in
theorem rm0 (l : Launch) (Z : State) (a0 : Array Value) (hw : ∀ d ∈ tables_1, d.before a0 Z = true) (ws : List Jvm.Cond) (i0 : Int32) (va : Addr) (kv : ClassId) (cw : Int32) (aH : Addr) (lH : Addr) (vH : Addr) (kH : ClassId) (aD : Addr) (lD : Addr) (vD : Addr) (kD : ClassId) (aT : Addr) (lT : Addr) (vT : Addr) (kT : ClassId) (h0 : Heap) (n0 : Nat) (Z0 : n0 ≤ h0.size) (P0 : Old Z n0 h0) (P1 : Sta Z Z.heap "com/example/cheapside/cheapside/core/Granularity" "$VALUES" "[Lcom/example/cheapside/cheapside/core/Granularity;" (.ref va)) (P2 : Sta Z Z.heap "java/lang/String" "COMPACT_STRINGS" "Z" (.int cw)) (P3 : Sta Z Z.heap "com/example/cheapside/cheapside/core/Granularity" "HOUR" "Lcom/example/cheapside/cheapside/core/Granularity;" (.ref aH)) (P4 : Sta Z Z.heap "com/example/cheapside/cheapside/core/Granularity" "DAY" "Lcom/example/cheapside/cheapside/core/Granularity;" (.ref aD)) (P5 : Sta Z Z.heap "com/example/cheapside/cheapside/core/Granularity" "TOTAL" "Lcom/example/cheapside/cheapside/core/Granularity;" (.ref aT)) (P6 : Exa Z h0 va "[Lcom/example/cheapside/cheapside/core/Granularity;") (P7 : Arv Z h0 va kv (.object "com/example/cheapside/cheapside/core/Granularity") (3 : Int32) [(.ref aH), (.ref aD), (.ref aT)] .null) (hcw : ¬ cw = (0 : Int32)) (P9 : Exa Z h0 aH "com/example/cheapside/cheapside/core/Granularity") (P10 : Fld Z h0 aH "com/example/cheapside/cheapside/core/Granularity" "label" "Ljava/lang/String;" (.ref lH)) (P11 : Exa Z h0 lH "java/lang/String") (P12 : Fld Z h0 lH "java/lang/String" "coder" "B" (.int (0 : Int32))) (P13 : Fld Z h0 lH "java/lang/String" "value" "[B" (.ref vH)) (P14 : Arv Z h0 vH kH .byte (4 : Int32) [(.int (104 : Int32)), (.int (111 : Int32)), (.int (117 : Int32)), (.int (114 : Int32))] (.int (0 : Int32))) (P15 : Exa Z h0 aD "com/example/cheapside/cheapside/core/Granularity") (P16 : Fld Z h0 aD "com/example/cheapside/cheapside/core/Granularity" "label" "Ljava/lang/String;" (.ref lD)) (P17 : Exa Z h0 lD "java/lang/String") (P18 : Fld Z h0 lD "java/lang/String" "coder" "B" (.int (0 : Int32))) (P19 : Fld Z h0 lD "java/lang/String" "value" "[B" (.ref vD)) (P20 : Arv Z h0 vD kD .byte (3 : Int32) [(.int (100 : Int32)), (.int (97 : Int32)), (.int (121 : Int32))] (.int (0 : Int32))) (P21 : Exa Z h0 aT "com/example/cheapside/cheapside/core/Granularity") (P22 : Fld Z h0 aT "com/example/cheapside/cheapside/core/Granularity" "label" "Ljava/lang/String;" (.ref lT)) (P23 : Exa Z h0 lT "java/lang/String") (P24 : Fld Z h0 lT "java/lang/String" "coder" "B" (.int (0 : Int32))) (P25 : Fld Z h0 lT "java/lang/String" "value" "[B" (.ref vT)) (P26 : Arv Z h0 vT kT .byte (5 : Int32) [(.int (116 : Int32)), (.int (111 : Int32)), (.int (116 : Int32)), (.int (97 : Int32)), (.int (108 : Int32))] (.int (0 : Int32))) :
    MetFree l x (head1 (Jvm.Cond.code x code maxLocals ret :: ws) room_1) (fun argz U => argz = #[(.int i0)] ∧ Z.Warmed39 U.vm ∧ U.heap = h0) (fun _ _ _ _ _ => True) (fun _ U o U' => ∃ v L, o = .returned v ∧ Q0 Z i0 va kv cw aH lH vH kH aD lD vD kD aT lT vT kT h0 n0 v U'.heap L ∧ ReturnedEndW U o U' L room_1.cells room_1.slots) := by
  refine MetFree.of_bodySF (plainFor_of_name pn_com_example_cheapside_cheapside_core_GranularityOfLabelPinLaw) hisR ?_
  intro p e s m args below meth c s₁ Bd hml0 hP hK
  obtain ⟨rfl, hZ, hh⟩ := hP
  have hx := Bd.exec
  have hby := Bd.bytes
  have hml : c.maxLocals = 6 := hml0
  have hown : s.vm.findClass "com/example/cheapside/cheapside/core/GranularityOfLabelPinLaw" = some m.cls := findClass_of_methodNamed Bd.named
  have hnm := (name_of_methodNamed Bd.named Bd.method).1
  have X0 : Stand p l e room_1 s m #[(.int i0)] below meth c s₁ [] 0 0 := Stand.of_body Bd
  have e0 : s₁.heap = h0 := by rw [← hh, Bd.state]; rfl
  have N0 := Fr.nil n0
  have G : Gets p e below (s₁.setTop (entryFrame m #[(.int i0)] maxLocals)) (s₁.setTop (mkF m 0 #[.val (.int i0), .unset, .unset, .unset, .unset, .unset] [])) := fun t k => castTop (ef_0 m i0) k
  replace G := own_iloadN (q := 1) G X0.here hx (hb hby at_0) rfl rfl
  replace G : Gets p e below _ (s₁.setTop (mkF m 3 #[.val (.int i0), .unset, .unset, .unset, .unset, .unset] [(.int (2147483647 : Int32)), (.int i0)])) := fun t k => G t (X0.ldcInt hx hown (mvT hZ (hw _ (List.mem_of_getElem? (i := 0) rfl))) (g := (mkF m 1 #[.val (.int i0), .unset, .unset, .unset, .unset, .unset] [(.int i0)])) rfl (hb hby at_1) t k)
  obtain ⟨u, hn_u⟩ : ∃ z : Int32, (i0 &&& (2147483647 : Int32)) = z := ⟨_, rfl⟩
  replace G := own_iand (q := 4) G X0.here hx (hb hby at_3) hn_u rfl
  replace G := own_iconst (q := 5) G X0.here hx (hb hby at_4) (v := (3 : Int32)) (by decide) rfl
  obtain ⟨i, hn_i⟩ : ∃ z : Int32, (u % (3 : Int32)) = z := ⟨_, rfl⟩
  replace G := own_irem (q := 6) G X0.here hx (hb hby at_5) (by decide) hn_i rfl
  rw [← hn_u] at hn_i
  rcases own_cases3 (own_rem 3 3 rfl (by decide) hn_i) with rfl | rfl | rfl
  · replace G := own_istoreN (q := 7) (l' := #[.val (.int i0), .val (.int (0 : Int32)), .unset, .unset, .unset, .unset]) G X0.here hx (hb hby at_6) rfl rfl
    replace G := own_iloadN (q := 8) G X0.here hx (hb hby at_7) rfl rfl
    have hc8_1 : (0 : Int32) = (0 : Int32) := by decide
    replace G := own_ifNo (q := 11) G X0.here hx (hb hby at_8) ((if0 _ _).trans (teq hc8_1).2) rfl
    replace G := own_iconst (q := 12) G X0.here hx (hb hby at_11) (v := (4 : Int32)) (by decide) rfl
    obtain ⟨T2, h2, k2, X2, e2, E2, A2, st2⟩ := newP X0 hx hZ (hw _ (List.mem_of_getElem? (i := 1) rfl)) e0 (g := (mkF m 12 #[.val (.int i0), .val (.int (0 : Int32)), .unset, .unset, .unset, .unset] [(.int (4 : Int32))])) rfl (hb hby at_12) rfl (by decide) (cap := 4) (by decide) (by decide) (by decide) (by decide)
    obtain ⟨b2, g2⟩ : ∃ z, z = h0.size := ⟨_, rfl⟩
    rw [← g2] at A2 st2
    have ne3 : va ≠ b2 := Nat.ne_of_lt (Nat.lt_of_lt_of_le P6.lt (Nat.le_of_eq g2.symm))
    have ne4 : aH ≠ b2 := Nat.ne_of_lt (Nat.lt_of_lt_of_le P9.lt (Nat.le_of_eq g2.symm))
    have ne5 : lH ≠ b2 := Nat.ne_of_lt (Nat.lt_of_lt_of_le P11.lt (Nat.le_of_eq g2.symm))
    have ne6 : vH ≠ b2 := Nat.ne_of_lt (Nat.lt_of_lt_of_le P14.lt (Nat.le_of_eq g2.symm))
    have ne7 : aD ≠ b2 := Nat.ne_of_lt (Nat.lt_of_lt_of_le P15.lt (Nat.le_of_eq g2.symm))
    have ne8 : lD ≠ b2 := Nat.ne_of_lt (Nat.lt_of_lt_of_le P17.lt (Nat.le_of_eq g2.symm))
    have ne9 : vD ≠ b2 := Nat.ne_of_lt (Nat.lt_of_lt_of_le P20.lt (Nat.le_of_eq g2.symm))
    have ne10 : aT ≠ b2 := Nat.ne_of_lt (Nat.lt_of_lt_of_le P21.lt (Nat.le_of_eq g2.symm))
    have ne11 : lT ≠ b2 := Nat.ne_of_lt (Nat.lt_of_lt_of_le P23.lt (Nat.le_of_eq g2.symm))
    have ne12 : vT ≠ b2 := Nat.ne_of_lt (Nat.lt_of_lt_of_le P26.lt (Nat.le_of_eq g2.symm))
    have ge_b2 : n0 ≤ b2 := Nat.le_trans Z0 (Nat.le_of_eq g2.symm)
    have Z2 : n0 ≤ h2.size := Nat.le_trans Z0 E2.1
    have V2 : Arv Z h2 b2 k2 .char (4 : Int32) [(.int (0 : Int32)), (.int (0 : Int32)), (.int (0 : Int32)), (.int (0 : Int32))] (.int (0 : Int32)) := (Arv.new A2 (by decide)).pad (pad_rep [] (.int (0 : Int32)) 4)
    replace G : Gets p e below _ (T2.setTop (mkF m 14 #[.val (.int i0), .val (.int (0 : Int32)), .unset, .unset, .unset, .unset] [(.ref b2)])) := fun t k => G t (st2 t k)
    replace G := own_dup (q := 15) G X2.here hx (hb hby at_14) rfl rfl
    replace G := own_iconst (q := 16) G X2.here hx (hb hby at_15) (v := (0 : Int32)) (by decide) rfl
    replace G := own_bipush (q := 18) G X2.here hx (hb hby at_16) (v := (104 : Int32)) (by decide) rfl
    obtain ⟨c13, Ar13, q13, S13, N13', H13, G13'⟩ := id V2
    have hin13 : ¬ ((0 : Int32) < 0 ∨ c13.slots.size ≤ ((0 : Int32)).toNatClampNeg) := inb_of S13 ⟨by decide, by decide⟩
    obtain ⟨T13, h13, X13, e13, W13, st13⟩ := stC X2 hx hZ e2 Ar13 (j := (0 : Int32)) hin13 (g := (mkF m 18 #[.val (.int i0), .val (.int (0 : Int32)), .unset, .unset, .unset, .unset] [(.int (104 : Int32)), (.int (0 : Int32)), (.ref b2), (.ref b2)])) rfl rfl (hb hby at_18)
    have N13 := Fr.snoc X13 N0 ge_b2
    have Z13 : n0 ≤ h13.size := Nat.le_trans Z2 (Keep.of_wr W13).1
    have V13 : Arv Z h13 b2 k2 .char (4 : Int32) [(.int (104 : Int32)), (.int (0 : Int32)), (.int (0 : Int32)), (.int (0 : Int32))] (.int (0 : Int32)) := Arv.set Ar13 q13 S13 N13' H13 G13' (fits_nar_char _) W13 0 rfl (Nat.le_of_ble_eq_true rfl)
    replace G : Gets p e below _ (T13.setTop (mkF m 19 #[.val (.int i0), .val (.int (0 : Int32)), .unset, .unset, .unset, .unset] [(.ref b2)])) := fun t k => G t (st13 t k)
    replace G := own_dup (q := 20) G X13.here hx (hb hby at_19) rfl rfl
    replace G := own_iconst (q := 21) G X13.here hx (hb hby at_20) (v := (1 : Int32)) (by decide) rfl
    replace G := own_bipush (q := 23) G X13.here hx (hb hby at_21) (v := (111 : Int32)) (by decide) rfl
    obtain ⟨c14, Ar14, q14, S14, N14', H14, G14'⟩ := id V13
    have hin14 : ¬ ((1 : Int32) < 0 ∨ c14.slots.size ≤ ((1 : Int32)).toNatClampNeg) := inb_of S14 ⟨by decide, by decide⟩
    obtain ⟨T14, h14, X14, e14, W14, st14⟩ := stC X13 hx hZ e13 Ar14 (j := (1 : Int32)) hin14 (g := (mkF m 23 #[.val (.int i0), .val (.int (0 : Int32)), .unset, .unset, .unset, .unset] [(.int (111 : Int32)), (.int (1 : Int32)), (.ref b2), (.ref b2)])) rfl rfl (hb hby at_23)
    have N14 := Fr.snoc X14 N13 ge_b2
    have Z14 : n0 ≤ h14.size := Nat.le_trans Z13 (Keep.of_wr W14).1
    have V14 : Arv Z h14 b2 k2 .char (4 : Int32) [(.int (104 : Int32)), (.int (111 : Int32)), (.int (0 : Int32)), (.int (0 : Int32))] (.int (0 : Int32)) := Arv.set Ar14 q14 S14 N14' H14 G14' (fits_nar_char _) W14 1 rfl (Nat.le_of_ble_eq_true rfl)
    replace G : Gets p e below _ (T14.setTop (mkF m 24 #[.val (.int i0), .val (.int (0 : Int32)), .unset, .unset, .unset, .unset] [(.ref b2)])) := fun t k => G t (st14 t k)
    replace G := own_dup (q := 25) G X14.here hx (hb hby at_24) rfl rfl
    replace G := own_iconst (q := 26) G X14.here hx (hb hby at_25) (v := (2 : Int32)) (by decide) rfl
    replace G := own_bipush (q := 28) G X14.here hx (hb hby at_26) (v := (117 : Int32)) (by decide) rfl
    obtain ⟨c15, Ar15, q15, S15, N15', H15, G15'⟩ := id V14
    have hin15 : ¬ ((2 : Int32) < 0 ∨ c15.slots.size ≤ ((2 : Int32)).toNatClampNeg) := inb_of S15 ⟨by decide, by decide⟩
    obtain ⟨T15, h15, X15, e15, W15, st15⟩ := stC X14 hx hZ e14 Ar15 (j := (2 : Int32)) hin15 (g := (mkF m 28 #[.val (.int i0), .val (.int (0 : Int32)), .unset, .unset, .unset, .unset] [(.int (117 : Int32)), (.int (2 : Int32)), (.ref b2), (.ref b2)])) rfl rfl (hb hby at_28)
    have N15 := Fr.snoc X15 N14 ge_b2
    have Z15 : n0 ≤ h15.size := Nat.le_trans Z14 (Keep.of_wr W15).1
    have V15 : Arv Z h15 b2 k2 .char (4 : Int32) [(.int (104 : Int32)), (.int (111 : Int32)), (.int (117 : Int32)), (.int (0 : Int32))] (.int (0 : Int32)) := Arv.set Ar15 q15 S15 N15' H15 G15' (fits_nar_char _) W15 2 rfl (Nat.le_of_ble_eq_true rfl)
    replace G : Gets p e below _ (T15.setTop (mkF m 29 #[.val (.int i0), .val (.int (0 : Int32)), .unset, .unset, .unset, .unset] [(.ref b2)])) := fun t k => G t (st15 t k)
    replace G := own_dup (q := 30) G X15.here hx (hb hby at_29) rfl rfl
    replace G := own_iconst (q := 31) G X15.here hx (hb hby at_30) (v := (3 : Int32)) (by decide) rfl
    replace G := own_bipush (q := 33) G X15.here hx (hb hby at_31) (v := (114 : Int32)) (by decide) rfl
    obtain ⟨c16, Ar16, q16, S16, N16', H16, G16'⟩ := id V15
    have hin16 : ¬ ((3 : Int32) < 0 ∨ c16.slots.size ≤ ((3 : Int32)).toNatClampNeg) := inb_of S16 ⟨by decide, by decide⟩
    obtain ⟨T16, h16, X16, e16, W16, st16⟩ := stC X15 hx hZ e15 Ar16 (j := (3 : Int32)) hin16 (g := (mkF m 33 #[.val (.int i0), .val (.int (0 : Int32)), .unset, .unset, .unset, .unset] [(.int (114 : Int32)), (.int (3 : Int32)), (.ref b2), (.ref b2)])) rfl rfl (hb hby at_33)
    have N16 := Fr.snoc X16 N15 ge_b2
    have Z16 : n0 ≤ h16.size := Nat.le_trans Z15 (Keep.of_wr W16).1
    have V16 : Arv Z h16 b2 k2 .char (4 : Int32) [(.int (104 : Int32)), (.int (111 : Int32)), (.int (117 : Int32)), (.int (114 : Int32))] (.int (0 : Int32)) := Arv.set Ar16 q16 S16 N16' H16 G16' (fits_nar_char _) W16 3 rfl (Nat.le_of_ble_eq_true rfl)
    replace G : Gets p e below _ (T16.setTop (mkF m 34 #[.val (.int i0), .val (.int (0 : Int32)), .unset, .unset, .unset, .unset] [(.ref b2)])) := fun t k => G t (st16 t k)
    replace G := own_astoreN (q := 35) (l' := #[.val (.int i0), .val (.int (0 : Int32)), .val (.ref b2), .unset, .unset, .unset]) G X16.here hx (hb hby at_34) rfl rfl rfl
    have F17 : Old Z n0 h16 := (((((P0.ext E2).wr W13 ge_b2).wr W14 ge_b2).wr W15 ge_b2).wr W16 ge_b2)
    have F18 : Sta Z h16 "com/example/cheapside/cheapside/core/Granularity" "HOUR" "Lcom/example/cheapside/cheapside/core/Granularity;" (.ref aH) := P3.ext F17.2
    obtain ⟨T19, X19, e19, st19⟩ := getS2 X16 hx hZ hown (host := "") (Or.inl (hw _ (List.mem_of_getElem? (i := 2) rfl))) Via.refl e16 F18 (g := (mkF m 35 #[.val (.int i0), .val (.int (0 : Int32)), .val (.ref b2), .unset, .unset, .unset] [])) rfl (hb hby at_35)
    replace G : Gets p e below _ (T19.setTop (mkF m 38 #[.val (.int i0), .val (.int (0 : Int32)), .val (.ref b2), .unset, .unset, .unset] [(.ref aH)])) := fun t k => G t (st19 t k)
    replace G := own_astoreN (q := 39) (l' := #[.val (.int i0), .val (.int (0 : Int32)), .val (.ref b2), .val (.ref aH), .unset, .unset]) G X19.here hx (hb hby at_38) rfl rfl rfl
    replace G := own_goto (q := 106) G X19.here hx (hb hby at_39) (by decide) (by decide)
    obtain ⟨T20, h20, X20, e20, E20, A20, D20, -, st20⟩ := newO X19 hx hZ hown (hw _ (List.mem_of_getElem? (i := 5) rfl)) (hw _ (List.mem_of_getElem? (i := 6) rfl)) (hw _ (List.mem_of_getElem? (i := 7) rfl)) e19 (g := (mkF m 106 #[.val (.int i0), .val (.int (0 : Int32)), .val (.ref b2), .val (.ref aH), .unset, .unset] [])) rfl (hb hby at_106) (by decide) (by decide)
    obtain ⟨b20, g20⟩ : ∃ z, z = h16.size := ⟨_, rfl⟩
    rw [← g20] at A20 D20 st20
    have ne21 : b2 ≠ b20 := Nat.ne_of_lt (Nat.lt_of_lt_of_le V16.lt (Nat.le_of_eq g20.symm))
    have F22 : Exa Z h16 va "[Lcom/example/cheapside/cheapside/core/Granularity;" := (((((P6.ext E2).wr W13).wr W14).wr W15).wr W16)
    have ne23 : va ≠ b20 := Nat.ne_of_lt (Nat.lt_of_lt_of_le F22.lt (Nat.le_of_eq g20.symm))
    have F24 : Exa Z h16 aH "com/example/cheapside/cheapside/core/Granularity" := (((((P9.ext E2).wr W13).wr W14).wr W15).wr W16)
    have ne25 : aH ≠ b20 := Nat.ne_of_lt (Nat.lt_of_lt_of_le F24.lt (Nat.le_of_eq g20.symm))
    have F26 : Exa Z h16 lH "java/lang/String" := (((((P11.ext E2).wr W13).wr W14).wr W15).wr W16)
    have ne27 : lH ≠ b20 := Nat.ne_of_lt (Nat.lt_of_lt_of_le F26.lt (Nat.le_of_eq g20.symm))
    have F28 : Arv Z h16 vH kH .byte (4 : Int32) [(.int (104 : Int32)), (.int (111 : Int32)), (.int (117 : Int32)), (.int (114 : Int32))] (.int (0 : Int32)) := (((((P14.ext E2).other W13 ne6).other W14 ne6).other W15 ne6).other W16 ne6)
    have ne29 : vH ≠ b20 := Nat.ne_of_lt (Nat.lt_of_lt_of_le F28.lt (Nat.le_of_eq g20.symm))
    have F30 : Exa Z h16 aD "com/example/cheapside/cheapside/core/Granularity" := (((((P15.ext E2).wr W13).wr W14).wr W15).wr W16)
    have ne31 : aD ≠ b20 := Nat.ne_of_lt (Nat.lt_of_lt_of_le F30.lt (Nat.le_of_eq g20.symm))
    have F32 : Exa Z h16 lD "java/lang/String" := (((((P17.ext E2).wr W13).wr W14).wr W15).wr W16)
    have ne33 : lD ≠ b20 := Nat.ne_of_lt (Nat.lt_of_lt_of_le F32.lt (Nat.le_of_eq g20.symm))
    have F34 : Arv Z h16 vD kD .byte (3 : Int32) [(.int (100 : Int32)), (.int (97 : Int32)), (.int (121 : Int32))] (.int (0 : Int32)) := (((((P20.ext E2).other W13 ne9).other W14 ne9).other W15 ne9).other W16 ne9)
    have ne35 : vD ≠ b20 := Nat.ne_of_lt (Nat.lt_of_lt_of_le F34.lt (Nat.le_of_eq g20.symm))
    have F36 : Exa Z h16 aT "com/example/cheapside/cheapside/core/Granularity" := (((((P21.ext E2).wr W13).wr W14).wr W15).wr W16)
    have ne37 : aT ≠ b20 := Nat.ne_of_lt (Nat.lt_of_lt_of_le F36.lt (Nat.le_of_eq g20.symm))
    have F38 : Exa Z h16 lT "java/lang/String" := (((((P23.ext E2).wr W13).wr W14).wr W15).wr W16)
    have ne39 : lT ≠ b20 := Nat.ne_of_lt (Nat.lt_of_lt_of_le F38.lt (Nat.le_of_eq g20.symm))
    have F40 : Arv Z h16 vT kT .byte (5 : Int32) [(.int (116 : Int32)), (.int (111 : Int32)), (.int (116 : Int32)), (.int (97 : Int32)), (.int (108 : Int32))] (.int (0 : Int32)) := (((((P26.ext E2).other W13 ne12).other W14 ne12).other W15 ne12).other W16 ne12)
    have ne41 : vT ≠ b20 := Nat.ne_of_lt (Nat.lt_of_lt_of_le F40.lt (Nat.le_of_eq g20.symm))
    have ge_b20 : n0 ≤ b20 := Nat.le_trans Z16 (Nat.le_of_eq g20.symm)
    have Z20 : n0 ≤ h20.size := Nat.le_trans Z16 E20.1
    have F20_coder : Fld Z h20 b20 "java/lang/String" "coder" "B" (.int (0 : Int32)) := D20 (Or.inr (hw _ (List.mem_of_getElem? (i := 31) rfl))) (ty := .byte) (by decide)
    have F20_value : Fld Z h20 b20 "java/lang/String" "value" "[B" .null := D20 (Or.inr (hw _ (List.mem_of_getElem? (i := 33) rfl))) (ty := (.array .byte)) (by decide)
    replace G : Gets p e below _ (T20.setTop (mkF m 109 #[.val (.int i0), .val (.int (0 : Int32)), .val (.ref b2), .val (.ref aH), .unset, .unset] [(.ref b20)])) := fun t k => G t (st20 t k)
    replace G := own_dup (q := 110) G X20.here hx (hb hby at_109) rfl rfl
    replace G := own_aloadN (q := 111) G X20.here hx (hb hby at_110) rfl rfl rfl
    have F43 : Arv Z h20 b2 k2 .char (4 : Int32) [(.int (104 : Int32)), (.int (111 : Int32)), (.int (117 : Int32)), (.int (114 : Int32))] (.int (0 : Int32)) := (V16.ext E20)
    have F44 : Old Z n0 h20 := (F17.ext E20)
    have F45 : Sta Z h20 "java/lang/String" "COMPACT_STRINGS" "Z" (.int cw) := P2.ext F44.2
    obtain ⟨_, _, ⟨T42, L42, kk42, nn42⟩, -, X42, ⟨Lc42, hQ42, l42, y42, z42⟩, st42⟩ := X20.specialBack hx (y := (⟨"java/lang/String", "<init>", "([C)V"⟩ : MethodName)) rfl hown (mvT hZ (hw _ (List.mem_of_getElem? (i := 8) rfl))) (mvT hZ (hw _ (List.mem_of_getElem? (i := 9) rfl))) (mvT hZ (hw _ (List.mem_of_getElem? (i := 10) rfl))) (by decide) (backOf (W := 1) (rm1n4 l Z a0 hw [] b20 b2 k2 cw (104 : Int32) (111 : Int32) (117 : Int32) (114 : Int32) h20 n0 Z20 F20_value F20_coder A20 ge_b20 F43 F45 hcw (by decide) (by decide) (by decide) (by decide)) hZ (hw _ (List.mem_of_getElem? (i := 10) rfl)) (hw _ (List.mem_of_getElem? (i := 7) rfl)) (by decide) (by decide)) (g := (mkF m 111 #[.val (.int i0), .val (.int (0 : Int32)), .val (.ref b2), .val (.ref aH), .unset, .unset] [(.ref b2), (.ref b20), (.ref b20)])) rfl (by rw [hml]; rfl) (Steps.refl _) (a := b20) (argsL := [(.ref b2)]) (rest := [(.ref b20)]) (lenOf pd_8 rfl) rfl (by show 2 * 0 + _ ≤ _; exact Nat.le_of_eq rfl) (hb hby at_111) (fun _ _ => ⟨rfl, e20, (by decide : 2 + 1 ≤ _), (by decide : 8 + 4 ≤ _)⟩)
    dsimp only [Pt.U, Pt.locs, Pt.cells, Pt.slots] at X42 l42 y42 z42 st42 hQ42
    subst l42 y42 z42
    obtain ⟨b_42, kb_42, rfl, N42q, K42q, B42_0, B42_1, B42_2, B42_3⟩ := hQ42
    have ne46 : b20 ≠ b_42 := Nat.ne_of_lt (Nat.lt_of_lt_of_le F20_value.lt B42_2)
    have ne47 : b2 ≠ b_42 := Nat.ne_of_lt (Nat.lt_of_lt_of_le F43.lt B42_2)
    have F48 : Exa Z h20 va "[Lcom/example/cheapside/cheapside/core/Granularity;" := (F22.ext E20)
    have ne49 : va ≠ b_42 := Nat.ne_of_lt (Nat.lt_of_lt_of_le F48.lt B42_2)
    have F50 : Exa Z h20 aH "com/example/cheapside/cheapside/core/Granularity" := (F24.ext E20)
    have ne51 : aH ≠ b_42 := Nat.ne_of_lt (Nat.lt_of_lt_of_le F50.lt B42_2)
    have F52 : Exa Z h20 lH "java/lang/String" := (F26.ext E20)
    have ne53 : lH ≠ b_42 := Nat.ne_of_lt (Nat.lt_of_lt_of_le F52.lt B42_2)
    have F54 : Arv Z h20 vH kH .byte (4 : Int32) [(.int (104 : Int32)), (.int (111 : Int32)), (.int (117 : Int32)), (.int (114 : Int32))] (.int (0 : Int32)) := (F28.ext E20)
    have ne55 : vH ≠ b_42 := Nat.ne_of_lt (Nat.lt_of_lt_of_le F54.lt B42_2)
    have F56 : Exa Z h20 aD "com/example/cheapside/cheapside/core/Granularity" := (F30.ext E20)
    have ne57 : aD ≠ b_42 := Nat.ne_of_lt (Nat.lt_of_lt_of_le F56.lt B42_2)
    have F58 : Exa Z h20 lD "java/lang/String" := (F32.ext E20)
    have ne59 : lD ≠ b_42 := Nat.ne_of_lt (Nat.lt_of_lt_of_le F58.lt B42_2)
    have F60 : Arv Z h20 vD kD .byte (3 : Int32) [(.int (100 : Int32)), (.int (97 : Int32)), (.int (121 : Int32))] (.int (0 : Int32)) := (F34.ext E20)
    have ne61 : vD ≠ b_42 := Nat.ne_of_lt (Nat.lt_of_lt_of_le F60.lt B42_2)
    have F62 : Exa Z h20 aT "com/example/cheapside/cheapside/core/Granularity" := (F36.ext E20)
    have ne63 : aT ≠ b_42 := Nat.ne_of_lt (Nat.lt_of_lt_of_le F62.lt B42_2)
    have F64 : Exa Z h20 lT "java/lang/String" := (F38.ext E20)
    have ne65 : lT ≠ b_42 := Nat.ne_of_lt (Nat.lt_of_lt_of_le F64.lt B42_2)
    have F66 : Arv Z h20 vT kT .byte (5 : Int32) [(.int (116 : Int32)), (.int (111 : Int32)), (.int (116 : Int32)), (.int (97 : Int32)), (.int (108 : Int32))] (.int (0 : Int32)) := (F40.ext E20)
    have ne67 : vT ≠ b_42 := Nat.ne_of_lt (Nat.lt_of_lt_of_le F66.lt B42_2)
    have ge_b_42 : n0 ≤ b_42 := Nat.le_trans Z20 B42_2
    have Z42 : n0 ≤ T42.heap.size := Nat.le_trans Z20 K42q.1
    have N42 := Fr.app N16 N42q
    replace G : Gets p e below _ (T42.setTop (mkF m 114 #[.val (.int i0), .val (.int (0 : Int32)), .val (.ref b2), .val (.ref aH), .unset, .unset] [(.ref b20)])) := fun t k => G t (st42.trans k)
    replace G := own_astore (q := 116) (l' := #[.val (.int i0), .val (.int (0 : Int32)), .val (.ref b2), .val (.ref aH), .val (.ref b20), .unset]) G X42.here hx (hb hby at_114) rfl rfl rfl
    replace G := own_aload (q := 118) G X42.here hx (hb hby at_116) rfl rfl rfl
    have F69 : Exa Z T42.heap b20 "java/lang/String" := (A20.keep K42q)
    have F70 : Old Z n0 T42.heap := (F44.keep K42q (allS ge_b20 all0))
    have F71 : Sta Z T42.heap "java/lang/String" "COMPACT_STRINGS" "Z" (.int cw) := P2.ext F70.2
    have F72 : Sta Z T42.heap "com/example/cheapside/cheapside/core/Granularity" "$VALUES" "[Lcom/example/cheapside/cheapside/core/Granularity;" (.ref va) := P1.ext F70.2
    have F73 : Exa Z T42.heap va "[Lcom/example/cheapside/cheapside/core/Granularity;" := (F48.keep K42q)
    have F74 : Arv Z T42.heap va kv (.object "com/example/cheapside/cheapside/core/Granularity") (3 : Int32) [(.ref aH), (.ref aD), (.ref aT)] .null := (((((((P7.ext E2).other W13 ne3).other W14 ne3).other W15 ne3).other W16 ne3).ext E20).keep K42q (ninS ne23 nin0))
    have F75 : Fld Z T42.heap aH "com/example/cheapside/cheapside/core/Granularity" "label" "Ljava/lang/String;" (.ref lH) := (((((((P10.ext E2).other W13 (Or.inl ne4)).other W14 (Or.inl ne4)).other W15 (Or.inl ne4)).other W16 (Or.inl ne4)).ext E20).keep K42q (ninS ne25 nin0))
    have F76 : Exa Z T42.heap lH "java/lang/String" := (F52.keep K42q)
    have F77 : Fld Z T42.heap lH "java/lang/String" "coder" "B" (.int (0 : Int32)) := (((((((P12.ext E2).other W13 (Or.inl ne5)).other W14 (Or.inl ne5)).other W15 (Or.inl ne5)).other W16 (Or.inl ne5)).ext E20).keep K42q (ninS ne27 nin0))
    have F78 : Fld Z T42.heap lH "java/lang/String" "value" "[B" (.ref vH) := (((((((P13.ext E2).other W13 (Or.inl ne5)).other W14 (Or.inl ne5)).other W15 (Or.inl ne5)).other W16 (Or.inl ne5)).ext E20).keep K42q (ninS ne27 nin0))
    have F79 : Arv Z T42.heap vH kH .byte (4 : Int32) [(.int (104 : Int32)), (.int (111 : Int32)), (.int (117 : Int32)), (.int (114 : Int32))] (.int (0 : Int32)) := (F54.keep K42q (ninS ne29 nin0))
    obtain ⟨_, _, ⟨T68, L68, kk68, nn68⟩, -, X68, S68', g68', ⟨Lc68, hQ68, l68, y68, z68⟩, st68⟩ := callSS X42 hx (y := (⟨"com/example/cheapside/cheapside/core/Granularity", "ofLabel", "(Ljava/lang/String;)Lcom/example/cheapside/cheapside/core/Granularity;"⟩ : MethodName)) hown (mvT hZ (hw _ (List.mem_of_getElem? (i := 34) rfl))) (mvT hZ (hw _ (List.mem_of_getElem? (i := 35) rfl))) (mvT hZ (hw _ (List.mem_of_getElem? (i := 3) rfl))) (mvT hZ (hw _ (List.mem_of_getElem? (i := 36) rfl))) (by decide) (backOfS (W := 0) (rm7k0 l Z a0 hw [] b20 b_42 kb_42 cw va kv aH aD aT lH vH kH T42.heap n0 Z42 F69 B42_1 B42_0 B42_3 F71 hcw F72 F73 F74 F75 F76 F77 F78 F79 ne27) hZ (hw _ (List.mem_of_getElem? (i := 36) rfl)) (hw _ (List.mem_of_getElem? (i := 3) rfl)) (by decide) (by decide)) (g := (mkF m 118 #[.val (.int i0), .val (.int (0 : Int32)), .val (.ref b2), .val (.ref aH), .val (.ref b20), .unset] [(.ref b20)])) rfl (by rw [hml]; rfl) (argsL := [(.ref b20)]) (rest := []) (lenOf pd_9 rfl) rfl (by show 2 * 0 + _ ≤ _; exact Nat.le_of_eq rfl) (hb hby at_118) (fun _ _ => ⟨rfl, rfl, (by decide : 3 + 3 ≤ _), (by decide : 12 + 27 ≤ _)⟩)
    dsimp only [Pt.U, Pt.locs, Pt.cells, Pt.slots] at X68 l68 y68 z68 st68 hQ68 S68' g68'
    subst l68 y68 z68
    have S68 := S68'
    have hZ68 : Z.Warmed39 (s.setVm T68.vm).vm := State.Warmed39.trans hZ S68.1
    have hown68 := (S68.1.alike.findClass _ _).trans hown
    obtain ⟨rfl, N68q, K68q⟩ := hQ68
    have Z68 : n0 ≤ T68.heap.size := Nat.le_trans Z42 K68q.1
    have N68 := Fr.app N42 N68q
    replace G : Gets p e below _ (T68.setTop (mkF m 121 #[.val (.int i0), .val (.int (0 : Int32)), .val (.ref b2), .val (.ref aH), .val (.ref b20), .unset] [(.ref aH)])) := fun t k => G t (st68.trans k)
    replace G := own_astore (q := 123) (l' := #[.val (.int i0), .val (.int (0 : Int32)), .val (.ref b2), .val (.ref aH), .val (.ref b20), .val (.ref aH)]) G X68.here hx (hb hby at_121) rfl rfl rfl
    replace G := own_aload (q := 125) G X68.here hx (hb hby at_123) rfl rfl rfl
    replace G := own_aloadN (q := 126) G X68.here hx (hb hby at_125) rfl rfl rfl
    replace G : Gets p e below _ (T68.setTop (mkF m 129 #[.val (.int i0), .val (.int (0 : Int32)), .val (.ref b2), .val (.ref aH), .val (.ref b20), .val (.ref aH)] [])) := fun t k => G t (Jvm.RoadKit.acmp (g := (mkF m 126 #[.val (.int i0), .val (.int (0 : Int32)), .val (.ref b2), .val (.ref aH), .val (.ref b20), .val (.ref aH)] [(.ref aH), (.ref aH)])) X68 hx rfl rfl rfl (pc0 := 126) (pc' := 129) (same := true) rfl (hb hby at_126) rfl (decide_eq_true rfl) (by decide) (by decide) k)
    replace G := own_aload (q := 131) G X68.here hx (hb hby at_129) rfl rfl rfl
    have F81 : Exa Z T68.heap aH "com/example/cheapside/cheapside/core/Granularity" := ((F50.keep K42q).keep K68q)
    have F82 : Fld Z T68.heap aH "com/example/cheapside/cheapside/core/Granularity" "label" "Ljava/lang/String;" (.ref lH) := (F75.keep K68q nin0)
    obtain ⟨cq80, kq80, q80a, q80b, q80c⟩ := isOf hZ68 rfl F81
    obtain ⟨_, _, ⟨T80, L80, kk80, nn80⟩, -, X80, ⟨Lc80, hQ80, l80, y80, z80⟩, st80⟩ := X68.virtualBack hx (y := (⟨"com/example/cheapside/cheapside/core/Granularity", "label", "()Ljava/lang/String;"⟩ : MethodName)) (z := (⟨"com/example/cheapside/cheapside/core/Granularity", "label", "()Ljava/lang/String;"⟩ : MethodName)) hown68 (mvT hZ68 (hw _ (List.mem_of_getElem? (i := 73) rfl))) (mvT hZ68 (hw _ (List.mem_of_getElem? (i := 74) rfl))) (notFace_of_selects (args := #[]) (mvT hZ68 (hw _ (List.mem_of_getElem? (i := 76) rfl)))) (mvT hZ68 (hw _ (List.mem_of_getElem? (i := 76) rfl))) (mvT hZ68 (hw _ (List.mem_of_getElem? (i := 75) rfl))) (by decide) (backOf (W := 0) (rm12 l Z a0 hw [] aH lH T68.heap n0 Z68 F82) hZ68 (hw _ (List.mem_of_getElem? (i := 77) rfl)) (hw _ (List.mem_of_getElem? (i := 3) rfl)) (by decide) (by decide)) q80a q80c (g := (mkF m 131 #[.val (.int i0), .val (.int (0 : Int32)), .val (.ref b2), .val (.ref aH), .val (.ref b20), .val (.ref aH)] [(.ref aH)])) rfl (by rw [hml]; rfl) (Steps.refl _) (argsL := []) (rest := []) (lenOf pd_10 rfl) rfl (by show 2 * 0 + _ ≤ _; exact Nat.le_of_eq rfl) (hb hby at_131) (fun _ _ => ⟨rfl, rfl, (by decide : 6 + 0 ≤ _), (by decide : 39 + 0 ≤ _)⟩)
    dsimp only [Pt.U, Pt.locs, Pt.cells, Pt.slots] at X80 l80 y80 z80 st80 hQ80
    subst l80 y80 z80
    obtain ⟨rfl, N80q, e80⟩ := hQ80
    have N80 := Fr.app N68 N80q
    replace G : Gets p e below _ (T80.setTop (mkF m 134 #[.val (.int i0), .val (.int (0 : Int32)), .val (.ref b2), .val (.ref aH), .val (.ref b20), .val (.ref aH)] [(.ref lH)])) := fun t k => G t (st80.trans k)
    replace G := own_aload (q := 136) G X80.here hx (hb hby at_134) rfl rfl rfl
    have F84 : Exa Z T68.heap lH "java/lang/String" := (F76.keep K68q)
    have F85 : Fld Z T68.heap lH "java/lang/String" "coder" "B" (.int (0 : Int32)) := (F77.keep K68q nin0)
    have F86 : Fld Z T68.heap b20 "java/lang/String" "coder" "B" (.int (0 : Int32)) := (B42_1.keep K68q nin0)
    have F87 : Fld Z T68.heap lH "java/lang/String" "value" "[B" (.ref vH) := (F78.keep K68q nin0)
    have F88 : Fld Z T68.heap b20 "java/lang/String" "value" "[B" (.ref b_42) := (B42_0.keep K68q nin0)
    have F89 : Exa Z T68.heap b20 "java/lang/String" := (F69.keep K68q)
    have F90 : Arv Z T68.heap vH kH .byte (4 : Int32) [(.int (104 : Int32)), (.int (111 : Int32)), (.int (117 : Int32)), (.int (114 : Int32))] (.int (0 : Int32)) := (F79.keep K68q nin0)
    have F91 : Arv Z T68.heap b_42 kb_42 .byte (4 : Int32) [(.int (nar .byte ((104 : Int32).toInt8.toInt32))), (.int (nar .byte ((111 : Int32).toInt8.toInt32))), (.int (nar .byte ((117 : Int32).toInt8.toInt32))), (.int (nar .byte ((114 : Int32).toInt8.toInt32)))] (.int (0 : Int32)) := (B42_3.keep K68q nin0)
    have F92 : Old Z n0 T68.heap := (F70.keep K68q all0)
    have F93 : Sta Z T68.heap "java/lang/String" "COMPACT_STRINGS" "Z" (.int cw) := P2.ext F92.2
    obtain ⟨cq83, kq83, q83a, q83b, q83c⟩ := isOf hZ68 e80 F84
    obtain ⟨_, _, ⟨T83, L83, kk83, nn83⟩, -, X83, ⟨Lc83, hQ83, l83, y83, z83⟩, st83⟩ := X80.virtualBack hx (y := (⟨"java/lang/String", "equals", "(Ljava/lang/Object;)Z"⟩ : MethodName)) (z := (⟨"java/lang/String", "equals", "(Ljava/lang/Object;)Z"⟩ : MethodName)) hown68 (mvT hZ68 (hw _ (List.mem_of_getElem? (i := 78) rfl))) (mvT hZ68 (hw _ (List.mem_of_getElem? (i := 64) rfl))) (notFace_of_selects (args := #[]) (mvT hZ68 (hw _ (List.mem_of_getElem? (i := 66) rfl)))) (mvT hZ68 (hw _ (List.mem_of_getElem? (i := 66) rfl))) (mvT hZ68 (hw _ (List.mem_of_getElem? (i := 65) rfl))) (by decide) (backOf (W := 0) (rm10i0k0 l Z a0 hw [] lH b20 vH b_42 kH kb_42 cw T68.heap n0 Z68 F85 F86 F87 F88 F89 F90 F91 F93 hcw ne27) hZ68 (hw _ (List.mem_of_getElem? (i := 67) rfl)) (hw _ (List.mem_of_getElem? (i := 7) rfl)) (by decide) (by decide)) q83a q83c (g := (mkF m 136 #[.val (.int i0), .val (.int (0 : Int32)), .val (.ref b2), .val (.ref aH), .val (.ref b20), .val (.ref aH)] [(.ref b20), (.ref lH)])) rfl (by rw [hml]; rfl) (Steps.refl _) (argsL := [(.ref b20)]) (rest := []) (lenOf pd_7 rfl) rfl (by show 2 * 0 + _ ≤ _; exact Nat.le_of_eq rfl) (hb hby at_136) (fun _ _ => ⟨rfl, e80, (by decide : 6 + 0 ≤ _), (by decide : 39 + 0 ≤ _)⟩)
    dsimp only [Pt.U, Pt.locs, Pt.cells, Pt.slots] at X83 l83 y83 z83 st83 hQ83
    subst l83 y83 z83
    obtain ⟨rfl, N83q, e83⟩ := hQ83
    have N83 := Fr.app N80 N83q
    replace G : Gets p e below _ (T83.setTop (mkF m 139 #[.val (.int i0), .val (.int (0 : Int32)), .val (.ref b2), .val (.ref aH), .val (.ref b20), .val (.ref aH)] [(.int (1 : Int32))])) := fun t k => G t (st83.trans k)
    have hc139_94 : ¬ ((1 : Int32) = (0 : Int32)) := by decide
    replace G := own_ifNo (q := 142) G X83.here hx (hb hby at_139) ((if0 _ _).trans (feq hc139_94).1) rfl
    replace G := own_iconst (q := 143) G X83.here hx (hb hby at_142) (v := (1 : Int32)) (by decide) rfl
    replace G := own_goto (q := 147) G X83.here hx (hb hby at_143) (by decide) (by decide)
    obtain ⟨fs, hr, hrun, hended, -, hW, hBk, hsame⟩ := X83.leaveW S68 (by rw [e83]; exact (Nat.le_refl _)) (v := some (.int (1 : Int32))) (fun h => by rw [Bd.returns] at h; cases h)
    refine ⟨_, _, G _ (retOut X83 hx Bd.returns rfl (Or.inl ⟨rfl, Or.inr (Or.inl rfl), _, rfl⟩) (hb hby at_147) hr), hrun, hended, _, _, rfl, ?_, ⟨_, rfl⟩, hW, hBk, hsame.mono (by decide) (by decide)⟩
    show Q0 Z i0 va kv cw aH lH vH kH aD lD vD kD aT lT vT kT h0 n0 _ T83.heap _
    rw [e83]
    exact ⟨rfl, N83⟩
  · replace G := own_istoreN (q := 7) (l' := #[.val (.int i0), .val (.int (1 : Int32)), .unset, .unset, .unset, .unset]) G X0.here hx (hb hby at_6) rfl rfl
    replace G := own_iloadN (q := 8) G X0.here hx (hb hby at_7) rfl rfl
    have hc8_95 : ¬ ((1 : Int32) = (0 : Int32)) := by decide
    replace G := own_ifYes (q := 42) G X0.here hx (hb hby at_8) ((if0 _ _).trans (feq hc8_95).2) (by decide) (by decide)
    replace G := own_iloadN (q := 43) G X0.here hx (hb hby at_42) rfl rfl
    replace G := own_iconst (q := 44) G X0.here hx (hb hby at_43) (v := (1 : Int32)) (by decide) rfl
    have hc44_96 : (1 : Int32) = (1 : Int32) := by decide
    replace G := own_icmpNo (q := 47) G X0.here hx (hb hby at_44) (teq hc44_96).2 rfl
    replace G := own_iconst (q := 48) G X0.here hx (hb hby at_47) (v := (3 : Int32)) (by decide) rfl
    obtain ⟨T97, h97, k97, X97, e97, E97, A97, st97⟩ := newP X0 hx hZ (hw _ (List.mem_of_getElem? (i := 1) rfl)) e0 (g := (mkF m 48 #[.val (.int i0), .val (.int (1 : Int32)), .unset, .unset, .unset, .unset] [(.int (3 : Int32))])) rfl (hb hby at_48) rfl (by decide) (cap := 3) (by decide) (by decide) (by decide) (by decide)
    obtain ⟨b97, g97⟩ : ∃ z, z = h0.size := ⟨_, rfl⟩
    rw [← g97] at A97 st97
    have ne98 : va ≠ b97 := Nat.ne_of_lt (Nat.lt_of_lt_of_le P6.lt (Nat.le_of_eq g97.symm))
    have ne99 : aH ≠ b97 := Nat.ne_of_lt (Nat.lt_of_lt_of_le P9.lt (Nat.le_of_eq g97.symm))
    have ne100 : lH ≠ b97 := Nat.ne_of_lt (Nat.lt_of_lt_of_le P11.lt (Nat.le_of_eq g97.symm))
    have ne101 : vH ≠ b97 := Nat.ne_of_lt (Nat.lt_of_lt_of_le P14.lt (Nat.le_of_eq g97.symm))
    have ne102 : aD ≠ b97 := Nat.ne_of_lt (Nat.lt_of_lt_of_le P15.lt (Nat.le_of_eq g97.symm))
    have ne103 : lD ≠ b97 := Nat.ne_of_lt (Nat.lt_of_lt_of_le P17.lt (Nat.le_of_eq g97.symm))
    have ne104 : vD ≠ b97 := Nat.ne_of_lt (Nat.lt_of_lt_of_le P20.lt (Nat.le_of_eq g97.symm))
    have ne105 : aT ≠ b97 := Nat.ne_of_lt (Nat.lt_of_lt_of_le P21.lt (Nat.le_of_eq g97.symm))
    have ne106 : lT ≠ b97 := Nat.ne_of_lt (Nat.lt_of_lt_of_le P23.lt (Nat.le_of_eq g97.symm))
    have ne107 : vT ≠ b97 := Nat.ne_of_lt (Nat.lt_of_lt_of_le P26.lt (Nat.le_of_eq g97.symm))
    have ge_b97 : n0 ≤ b97 := Nat.le_trans Z0 (Nat.le_of_eq g97.symm)
    have Z97 : n0 ≤ h97.size := Nat.le_trans Z0 E97.1
    have V97 : Arv Z h97 b97 k97 .char (3 : Int32) [(.int (0 : Int32)), (.int (0 : Int32)), (.int (0 : Int32))] (.int (0 : Int32)) := (Arv.new A97 (by decide)).pad (pad_rep [] (.int (0 : Int32)) 3)
    replace G : Gets p e below _ (T97.setTop (mkF m 50 #[.val (.int i0), .val (.int (1 : Int32)), .unset, .unset, .unset, .unset] [(.ref b97)])) := fun t k => G t (st97 t k)
    replace G := own_dup (q := 51) G X97.here hx (hb hby at_50) rfl rfl
    replace G := own_iconst (q := 52) G X97.here hx (hb hby at_51) (v := (0 : Int32)) (by decide) rfl
    replace G := own_bipush (q := 54) G X97.here hx (hb hby at_52) (v := (100 : Int32)) (by decide) rfl
    obtain ⟨c108, Ar108, q108, S108, N108', H108, G108'⟩ := id V97
    have hin108 : ¬ ((0 : Int32) < 0 ∨ c108.slots.size ≤ ((0 : Int32)).toNatClampNeg) := inb_of S108 ⟨by decide, by decide⟩
    obtain ⟨T108, h108, X108, e108, W108, st108⟩ := stC X97 hx hZ e97 Ar108 (j := (0 : Int32)) hin108 (g := (mkF m 54 #[.val (.int i0), .val (.int (1 : Int32)), .unset, .unset, .unset, .unset] [(.int (100 : Int32)), (.int (0 : Int32)), (.ref b97), (.ref b97)])) rfl rfl (hb hby at_54)
    have N108 := Fr.snoc X108 N0 ge_b97
    have Z108 : n0 ≤ h108.size := Nat.le_trans Z97 (Keep.of_wr W108).1
    have V108 : Arv Z h108 b97 k97 .char (3 : Int32) [(.int (100 : Int32)), (.int (0 : Int32)), (.int (0 : Int32))] (.int (0 : Int32)) := Arv.set Ar108 q108 S108 N108' H108 G108' (fits_nar_char _) W108 0 rfl (Nat.le_of_ble_eq_true rfl)
    replace G : Gets p e below _ (T108.setTop (mkF m 55 #[.val (.int i0), .val (.int (1 : Int32)), .unset, .unset, .unset, .unset] [(.ref b97)])) := fun t k => G t (st108 t k)
    replace G := own_dup (q := 56) G X108.here hx (hb hby at_55) rfl rfl
    replace G := own_iconst (q := 57) G X108.here hx (hb hby at_56) (v := (1 : Int32)) (by decide) rfl
    replace G := own_bipush (q := 59) G X108.here hx (hb hby at_57) (v := (97 : Int32)) (by decide) rfl
    obtain ⟨c109, Ar109, q109, S109, N109', H109, G109'⟩ := id V108
    have hin109 : ¬ ((1 : Int32) < 0 ∨ c109.slots.size ≤ ((1 : Int32)).toNatClampNeg) := inb_of S109 ⟨by decide, by decide⟩
    obtain ⟨T109, h109, X109, e109, W109, st109⟩ := stC X108 hx hZ e108 Ar109 (j := (1 : Int32)) hin109 (g := (mkF m 59 #[.val (.int i0), .val (.int (1 : Int32)), .unset, .unset, .unset, .unset] [(.int (97 : Int32)), (.int (1 : Int32)), (.ref b97), (.ref b97)])) rfl rfl (hb hby at_59)
    have N109 := Fr.snoc X109 N108 ge_b97
    have Z109 : n0 ≤ h109.size := Nat.le_trans Z108 (Keep.of_wr W109).1
    have V109 : Arv Z h109 b97 k97 .char (3 : Int32) [(.int (100 : Int32)), (.int (97 : Int32)), (.int (0 : Int32))] (.int (0 : Int32)) := Arv.set Ar109 q109 S109 N109' H109 G109' (fits_nar_char _) W109 1 rfl (Nat.le_of_ble_eq_true rfl)
    replace G : Gets p e below _ (T109.setTop (mkF m 60 #[.val (.int i0), .val (.int (1 : Int32)), .unset, .unset, .unset, .unset] [(.ref b97)])) := fun t k => G t (st109 t k)
    replace G := own_dup (q := 61) G X109.here hx (hb hby at_60) rfl rfl
    replace G := own_iconst (q := 62) G X109.here hx (hb hby at_61) (v := (2 : Int32)) (by decide) rfl
    replace G := own_bipush (q := 64) G X109.here hx (hb hby at_62) (v := (121 : Int32)) (by decide) rfl
    obtain ⟨c110, Ar110, q110, S110, N110', H110, G110'⟩ := id V109
    have hin110 : ¬ ((2 : Int32) < 0 ∨ c110.slots.size ≤ ((2 : Int32)).toNatClampNeg) := inb_of S110 ⟨by decide, by decide⟩
    obtain ⟨T110, h110, X110, e110, W110, st110⟩ := stC X109 hx hZ e109 Ar110 (j := (2 : Int32)) hin110 (g := (mkF m 64 #[.val (.int i0), .val (.int (1 : Int32)), .unset, .unset, .unset, .unset] [(.int (121 : Int32)), (.int (2 : Int32)), (.ref b97), (.ref b97)])) rfl rfl (hb hby at_64)
    have N110 := Fr.snoc X110 N109 ge_b97
    have Z110 : n0 ≤ h110.size := Nat.le_trans Z109 (Keep.of_wr W110).1
    have V110 : Arv Z h110 b97 k97 .char (3 : Int32) [(.int (100 : Int32)), (.int (97 : Int32)), (.int (121 : Int32))] (.int (0 : Int32)) := Arv.set Ar110 q110 S110 N110' H110 G110' (fits_nar_char _) W110 2 rfl (Nat.le_of_ble_eq_true rfl)
    replace G : Gets p e below _ (T110.setTop (mkF m 65 #[.val (.int i0), .val (.int (1 : Int32)), .unset, .unset, .unset, .unset] [(.ref b97)])) := fun t k => G t (st110 t k)
    replace G := own_astoreN (q := 66) (l' := #[.val (.int i0), .val (.int (1 : Int32)), .val (.ref b97), .unset, .unset, .unset]) G X110.here hx (hb hby at_65) rfl rfl rfl
    have F111 : Old Z n0 h110 := ((((P0.ext E97).wr W108 ge_b97).wr W109 ge_b97).wr W110 ge_b97)
    have F112 : Sta Z h110 "com/example/cheapside/cheapside/core/Granularity" "DAY" "Lcom/example/cheapside/cheapside/core/Granularity;" (.ref aD) := P4.ext F111.2
    obtain ⟨T113, X113, e113, st113⟩ := getS2 X110 hx hZ hown (host := "") (Or.inl (hw _ (List.mem_of_getElem? (i := 80) rfl))) Via.refl e110 F112 (g := (mkF m 66 #[.val (.int i0), .val (.int (1 : Int32)), .val (.ref b97), .unset, .unset, .unset] [])) rfl (hb hby at_66)
    replace G : Gets p e below _ (T113.setTop (mkF m 69 #[.val (.int i0), .val (.int (1 : Int32)), .val (.ref b97), .unset, .unset, .unset] [(.ref aD)])) := fun t k => G t (st113 t k)
    replace G := own_astoreN (q := 70) (l' := #[.val (.int i0), .val (.int (1 : Int32)), .val (.ref b97), .val (.ref aD), .unset, .unset]) G X113.here hx (hb hby at_69) rfl rfl rfl
    replace G := own_goto (q := 106) G X113.here hx (hb hby at_70) (by decide) (by decide)
    obtain ⟨T114, h114, X114, e114, E114, A114, D114, -, st114⟩ := newO X113 hx hZ hown (hw _ (List.mem_of_getElem? (i := 5) rfl)) (hw _ (List.mem_of_getElem? (i := 6) rfl)) (hw _ (List.mem_of_getElem? (i := 7) rfl)) e113 (g := (mkF m 106 #[.val (.int i0), .val (.int (1 : Int32)), .val (.ref b97), .val (.ref aD), .unset, .unset] [])) rfl (hb hby at_106) (by decide) (by decide)
    obtain ⟨b114, g114⟩ : ∃ z, z = h110.size := ⟨_, rfl⟩
    rw [← g114] at A114 D114 st114
    have ne115 : b97 ≠ b114 := Nat.ne_of_lt (Nat.lt_of_lt_of_le V110.lt (Nat.le_of_eq g114.symm))
    have F116 : Exa Z h110 va "[Lcom/example/cheapside/cheapside/core/Granularity;" := ((((P6.ext E97).wr W108).wr W109).wr W110)
    have ne117 : va ≠ b114 := Nat.ne_of_lt (Nat.lt_of_lt_of_le F116.lt (Nat.le_of_eq g114.symm))
    have F118 : Exa Z h110 aH "com/example/cheapside/cheapside/core/Granularity" := ((((P9.ext E97).wr W108).wr W109).wr W110)
    have ne119 : aH ≠ b114 := Nat.ne_of_lt (Nat.lt_of_lt_of_le F118.lt (Nat.le_of_eq g114.symm))
    have F120 : Exa Z h110 lH "java/lang/String" := ((((P11.ext E97).wr W108).wr W109).wr W110)
    have ne121 : lH ≠ b114 := Nat.ne_of_lt (Nat.lt_of_lt_of_le F120.lt (Nat.le_of_eq g114.symm))
    have F122 : Arv Z h110 vH kH .byte (4 : Int32) [(.int (104 : Int32)), (.int (111 : Int32)), (.int (117 : Int32)), (.int (114 : Int32))] (.int (0 : Int32)) := ((((P14.ext E97).other W108 ne101).other W109 ne101).other W110 ne101)
    have ne123 : vH ≠ b114 := Nat.ne_of_lt (Nat.lt_of_lt_of_le F122.lt (Nat.le_of_eq g114.symm))
    have F124 : Exa Z h110 aD "com/example/cheapside/cheapside/core/Granularity" := ((((P15.ext E97).wr W108).wr W109).wr W110)
    have ne125 : aD ≠ b114 := Nat.ne_of_lt (Nat.lt_of_lt_of_le F124.lt (Nat.le_of_eq g114.symm))
    have F126 : Exa Z h110 lD "java/lang/String" := ((((P17.ext E97).wr W108).wr W109).wr W110)
    have ne127 : lD ≠ b114 := Nat.ne_of_lt (Nat.lt_of_lt_of_le F126.lt (Nat.le_of_eq g114.symm))
    have F128 : Arv Z h110 vD kD .byte (3 : Int32) [(.int (100 : Int32)), (.int (97 : Int32)), (.int (121 : Int32))] (.int (0 : Int32)) := ((((P20.ext E97).other W108 ne104).other W109 ne104).other W110 ne104)
    have ne129 : vD ≠ b114 := Nat.ne_of_lt (Nat.lt_of_lt_of_le F128.lt (Nat.le_of_eq g114.symm))
    have F130 : Exa Z h110 aT "com/example/cheapside/cheapside/core/Granularity" := ((((P21.ext E97).wr W108).wr W109).wr W110)
    have ne131 : aT ≠ b114 := Nat.ne_of_lt (Nat.lt_of_lt_of_le F130.lt (Nat.le_of_eq g114.symm))
    have F132 : Exa Z h110 lT "java/lang/String" := ((((P23.ext E97).wr W108).wr W109).wr W110)
    have ne133 : lT ≠ b114 := Nat.ne_of_lt (Nat.lt_of_lt_of_le F132.lt (Nat.le_of_eq g114.symm))
    have F134 : Arv Z h110 vT kT .byte (5 : Int32) [(.int (116 : Int32)), (.int (111 : Int32)), (.int (116 : Int32)), (.int (97 : Int32)), (.int (108 : Int32))] (.int (0 : Int32)) := ((((P26.ext E97).other W108 ne107).other W109 ne107).other W110 ne107)
    have ne135 : vT ≠ b114 := Nat.ne_of_lt (Nat.lt_of_lt_of_le F134.lt (Nat.le_of_eq g114.symm))
    have ge_b114 : n0 ≤ b114 := Nat.le_trans Z110 (Nat.le_of_eq g114.symm)
    have Z114 : n0 ≤ h114.size := Nat.le_trans Z110 E114.1
    have F114_coder : Fld Z h114 b114 "java/lang/String" "coder" "B" (.int (0 : Int32)) := D114 (Or.inr (hw _ (List.mem_of_getElem? (i := 31) rfl))) (ty := .byte) (by decide)
    have F114_value : Fld Z h114 b114 "java/lang/String" "value" "[B" .null := D114 (Or.inr (hw _ (List.mem_of_getElem? (i := 33) rfl))) (ty := (.array .byte)) (by decide)
    replace G : Gets p e below _ (T114.setTop (mkF m 109 #[.val (.int i0), .val (.int (1 : Int32)), .val (.ref b97), .val (.ref aD), .unset, .unset] [(.ref b114)])) := fun t k => G t (st114 t k)
    replace G := own_dup (q := 110) G X114.here hx (hb hby at_109) rfl rfl
    replace G := own_aloadN (q := 111) G X114.here hx (hb hby at_110) rfl rfl rfl
    have F137 : Arv Z h114 b97 k97 .char (3 : Int32) [(.int (100 : Int32)), (.int (97 : Int32)), (.int (121 : Int32))] (.int (0 : Int32)) := (V110.ext E114)
    have F138 : Old Z n0 h114 := (F111.ext E114)
    have F139 : Sta Z h114 "java/lang/String" "COMPACT_STRINGS" "Z" (.int cw) := P2.ext F138.2
    obtain ⟨_, _, ⟨T136, L136, kk136, nn136⟩, -, X136, ⟨Lc136, hQ136, l136, y136, z136⟩, st136⟩ := X114.specialBack hx (y := (⟨"java/lang/String", "<init>", "([C)V"⟩ : MethodName)) rfl hown (mvT hZ (hw _ (List.mem_of_getElem? (i := 8) rfl))) (mvT hZ (hw _ (List.mem_of_getElem? (i := 9) rfl))) (mvT hZ (hw _ (List.mem_of_getElem? (i := 10) rfl))) (by decide) (backOf (W := 1) (rm1n3 l Z a0 hw [] b114 b97 k97 cw (100 : Int32) (97 : Int32) (121 : Int32) h114 n0 Z114 F114_value F114_coder A114 ge_b114 F137 F139 hcw (by decide) (by decide) (by decide)) hZ (hw _ (List.mem_of_getElem? (i := 10) rfl)) (hw _ (List.mem_of_getElem? (i := 7) rfl)) (by decide) (by decide)) (g := (mkF m 111 #[.val (.int i0), .val (.int (1 : Int32)), .val (.ref b97), .val (.ref aD), .unset, .unset] [(.ref b97), (.ref b114), (.ref b114)])) rfl (by rw [hml]; rfl) (Steps.refl _) (a := b114) (argsL := [(.ref b97)]) (rest := [(.ref b114)]) (lenOf pd_8 rfl) rfl (by show 2 * 0 + _ ≤ _; exact Nat.le_of_eq rfl) (hb hby at_111) (fun _ _ => ⟨rfl, e114, (by decide : 2 + 1 ≤ _), (by decide : 7 + 3 ≤ _)⟩)
    dsimp only [Pt.U, Pt.locs, Pt.cells, Pt.slots] at X136 l136 y136 z136 st136 hQ136
    subst l136 y136 z136
    obtain ⟨b_136, kb_136, rfl, N136q, K136q, B136_0, B136_1, B136_2, B136_3⟩ := hQ136
    have ne140 : b114 ≠ b_136 := Nat.ne_of_lt (Nat.lt_of_lt_of_le F114_value.lt B136_2)
    have ne141 : b97 ≠ b_136 := Nat.ne_of_lt (Nat.lt_of_lt_of_le F137.lt B136_2)
    have F142 : Exa Z h114 va "[Lcom/example/cheapside/cheapside/core/Granularity;" := (F116.ext E114)
    have ne143 : va ≠ b_136 := Nat.ne_of_lt (Nat.lt_of_lt_of_le F142.lt B136_2)
    have F144 : Exa Z h114 aH "com/example/cheapside/cheapside/core/Granularity" := (F118.ext E114)
    have ne145 : aH ≠ b_136 := Nat.ne_of_lt (Nat.lt_of_lt_of_le F144.lt B136_2)
    have F146 : Exa Z h114 lH "java/lang/String" := (F120.ext E114)
    have ne147 : lH ≠ b_136 := Nat.ne_of_lt (Nat.lt_of_lt_of_le F146.lt B136_2)
    have F148 : Arv Z h114 vH kH .byte (4 : Int32) [(.int (104 : Int32)), (.int (111 : Int32)), (.int (117 : Int32)), (.int (114 : Int32))] (.int (0 : Int32)) := (F122.ext E114)
    have ne149 : vH ≠ b_136 := Nat.ne_of_lt (Nat.lt_of_lt_of_le F148.lt B136_2)
    have F150 : Exa Z h114 aD "com/example/cheapside/cheapside/core/Granularity" := (F124.ext E114)
    have ne151 : aD ≠ b_136 := Nat.ne_of_lt (Nat.lt_of_lt_of_le F150.lt B136_2)
    have F152 : Exa Z h114 lD "java/lang/String" := (F126.ext E114)
    have ne153 : lD ≠ b_136 := Nat.ne_of_lt (Nat.lt_of_lt_of_le F152.lt B136_2)
    have F154 : Arv Z h114 vD kD .byte (3 : Int32) [(.int (100 : Int32)), (.int (97 : Int32)), (.int (121 : Int32))] (.int (0 : Int32)) := (F128.ext E114)
    have ne155 : vD ≠ b_136 := Nat.ne_of_lt (Nat.lt_of_lt_of_le F154.lt B136_2)
    have F156 : Exa Z h114 aT "com/example/cheapside/cheapside/core/Granularity" := (F130.ext E114)
    have ne157 : aT ≠ b_136 := Nat.ne_of_lt (Nat.lt_of_lt_of_le F156.lt B136_2)
    have F158 : Exa Z h114 lT "java/lang/String" := (F132.ext E114)
    have ne159 : lT ≠ b_136 := Nat.ne_of_lt (Nat.lt_of_lt_of_le F158.lt B136_2)
    have F160 : Arv Z h114 vT kT .byte (5 : Int32) [(.int (116 : Int32)), (.int (111 : Int32)), (.int (116 : Int32)), (.int (97 : Int32)), (.int (108 : Int32))] (.int (0 : Int32)) := (F134.ext E114)
    have ne161 : vT ≠ b_136 := Nat.ne_of_lt (Nat.lt_of_lt_of_le F160.lt B136_2)
    have ge_b_136 : n0 ≤ b_136 := Nat.le_trans Z114 B136_2
    have Z136 : n0 ≤ T136.heap.size := Nat.le_trans Z114 K136q.1
    have N136 := Fr.app N110 N136q
    replace G : Gets p e below _ (T136.setTop (mkF m 114 #[.val (.int i0), .val (.int (1 : Int32)), .val (.ref b97), .val (.ref aD), .unset, .unset] [(.ref b114)])) := fun t k => G t (st136.trans k)
    replace G := own_astore (q := 116) (l' := #[.val (.int i0), .val (.int (1 : Int32)), .val (.ref b97), .val (.ref aD), .val (.ref b114), .unset]) G X136.here hx (hb hby at_114) rfl rfl rfl
    replace G := own_aload (q := 118) G X136.here hx (hb hby at_116) rfl rfl rfl
    have F163 : Exa Z T136.heap b114 "java/lang/String" := (A114.keep K136q)
    have F164 : Old Z n0 T136.heap := (F138.keep K136q (allS ge_b114 all0))
    have F165 : Sta Z T136.heap "java/lang/String" "COMPACT_STRINGS" "Z" (.int cw) := P2.ext F164.2
    have F166 : Sta Z T136.heap "com/example/cheapside/cheapside/core/Granularity" "$VALUES" "[Lcom/example/cheapside/cheapside/core/Granularity;" (.ref va) := P1.ext F164.2
    have F167 : Exa Z T136.heap va "[Lcom/example/cheapside/cheapside/core/Granularity;" := (F142.keep K136q)
    have F168 : Arv Z T136.heap va kv (.object "com/example/cheapside/cheapside/core/Granularity") (3 : Int32) [(.ref aH), (.ref aD), (.ref aT)] .null := ((((((P7.ext E97).other W108 ne98).other W109 ne98).other W110 ne98).ext E114).keep K136q (ninS ne117 nin0))
    have F169 : Fld Z T136.heap aH "com/example/cheapside/cheapside/core/Granularity" "label" "Ljava/lang/String;" (.ref lH) := ((((((P10.ext E97).other W108 (Or.inl ne99)).other W109 (Or.inl ne99)).other W110 (Or.inl ne99)).ext E114).keep K136q (ninS ne119 nin0))
    have F170 : Exa Z T136.heap lH "java/lang/String" := (F146.keep K136q)
    have F171 : Fld Z T136.heap lH "java/lang/String" "coder" "B" (.int (0 : Int32)) := ((((((P12.ext E97).other W108 (Or.inl ne100)).other W109 (Or.inl ne100)).other W110 (Or.inl ne100)).ext E114).keep K136q (ninS ne121 nin0))
    have F172 : Fld Z T136.heap lH "java/lang/String" "value" "[B" (.ref vH) := ((((((P13.ext E97).other W108 (Or.inl ne100)).other W109 (Or.inl ne100)).other W110 (Or.inl ne100)).ext E114).keep K136q (ninS ne121 nin0))
    have F173 : Arv Z T136.heap vH kH .byte (4 : Int32) [(.int (104 : Int32)), (.int (111 : Int32)), (.int (117 : Int32)), (.int (114 : Int32))] (.int (0 : Int32)) := (F148.keep K136q (ninS ne123 nin0))
    have F174 : Fld Z T136.heap aD "com/example/cheapside/cheapside/core/Granularity" "label" "Ljava/lang/String;" (.ref lD) := ((((((P16.ext E97).other W108 (Or.inl ne102)).other W109 (Or.inl ne102)).other W110 (Or.inl ne102)).ext E114).keep K136q (ninS ne125 nin0))
    have F175 : Exa Z T136.heap lD "java/lang/String" := (F152.keep K136q)
    have F176 : Fld Z T136.heap lD "java/lang/String" "coder" "B" (.int (0 : Int32)) := ((((((P18.ext E97).other W108 (Or.inl ne103)).other W109 (Or.inl ne103)).other W110 (Or.inl ne103)).ext E114).keep K136q (ninS ne127 nin0))
    have F177 : Fld Z T136.heap lD "java/lang/String" "value" "[B" (.ref vD) := ((((((P19.ext E97).other W108 (Or.inl ne103)).other W109 (Or.inl ne103)).other W110 (Or.inl ne103)).ext E114).keep K136q (ninS ne127 nin0))
    have F178 : Arv Z T136.heap vD kD .byte (3 : Int32) [(.int (100 : Int32)), (.int (97 : Int32)), (.int (121 : Int32))] (.int (0 : Int32)) := (F154.keep K136q (ninS ne129 nin0))
    obtain ⟨_, _, ⟨T162, L162, kk162, nn162⟩, -, X162, S162', g162', ⟨Lc162, hQ162, l162, y162, z162⟩, st162⟩ := callSS X136 hx (y := (⟨"com/example/cheapside/cheapside/core/Granularity", "ofLabel", "(Ljava/lang/String;)Lcom/example/cheapside/cheapside/core/Granularity;"⟩ : MethodName)) hown (mvT hZ (hw _ (List.mem_of_getElem? (i := 34) rfl))) (mvT hZ (hw _ (List.mem_of_getElem? (i := 35) rfl))) (mvT hZ (hw _ (List.mem_of_getElem? (i := 3) rfl))) (mvT hZ (hw _ (List.mem_of_getElem? (i := 36) rfl))) (by decide) (backOfS (W := 0) (rm7k1 l Z a0 hw [] b114 b_136 kb_136 cw va kv aH aD aT lH vH kH lD vD kD T136.heap n0 Z136 F163 B136_1 B136_0 B136_3 F165 hcw F166 F167 F168 F169 F170 F171 F172 F173 ne121 F174 F175 F176 F177 F178 ne127) hZ (hw _ (List.mem_of_getElem? (i := 36) rfl)) (hw _ (List.mem_of_getElem? (i := 3) rfl)) (by decide) (by decide)) (g := (mkF m 118 #[.val (.int i0), .val (.int (1 : Int32)), .val (.ref b97), .val (.ref aD), .val (.ref b114), .unset] [(.ref b114)])) rfl (by rw [hml]; rfl) (argsL := [(.ref b114)]) (rest := []) (lenOf pd_9 rfl) rfl (by show 2 * 0 + _ ≤ _; exact Nat.le_of_eq rfl) (hb hby at_118) (fun _ _ => ⟨rfl, rfl, (by decide : 3 + 3 ≤ _), (by decide : 10 + 27 ≤ _)⟩)
    dsimp only [Pt.U, Pt.locs, Pt.cells, Pt.slots] at X162 l162 y162 z162 st162 hQ162 S162' g162'
    subst l162 y162 z162
    have S162 := S162'
    have hZ162 : Z.Warmed39 (s.setVm T162.vm).vm := State.Warmed39.trans hZ S162.1
    have hown162 := (S162.1.alike.findClass _ _).trans hown
    obtain ⟨rfl, N162q, K162q⟩ := hQ162
    have Z162 : n0 ≤ T162.heap.size := Nat.le_trans Z136 K162q.1
    have N162 := Fr.app N136 N162q
    replace G : Gets p e below _ (T162.setTop (mkF m 121 #[.val (.int i0), .val (.int (1 : Int32)), .val (.ref b97), .val (.ref aD), .val (.ref b114), .unset] [(.ref aD)])) := fun t k => G t (st162.trans k)
    replace G := own_astore (q := 123) (l' := #[.val (.int i0), .val (.int (1 : Int32)), .val (.ref b97), .val (.ref aD), .val (.ref b114), .val (.ref aD)]) G X162.here hx (hb hby at_121) rfl rfl rfl
    replace G := own_aload (q := 125) G X162.here hx (hb hby at_123) rfl rfl rfl
    replace G := own_aloadN (q := 126) G X162.here hx (hb hby at_125) rfl rfl rfl
    replace G : Gets p e below _ (T162.setTop (mkF m 129 #[.val (.int i0), .val (.int (1 : Int32)), .val (.ref b97), .val (.ref aD), .val (.ref b114), .val (.ref aD)] [])) := fun t k => G t (Jvm.RoadKit.acmp (g := (mkF m 126 #[.val (.int i0), .val (.int (1 : Int32)), .val (.ref b97), .val (.ref aD), .val (.ref b114), .val (.ref aD)] [(.ref aD), (.ref aD)])) X162 hx rfl rfl rfl (pc0 := 126) (pc' := 129) (same := true) rfl (hb hby at_126) rfl (decide_eq_true rfl) (by decide) (by decide) k)
    replace G := own_aload (q := 131) G X162.here hx (hb hby at_129) rfl rfl rfl
    have F180 : Exa Z T162.heap aD "com/example/cheapside/cheapside/core/Granularity" := ((F150.keep K136q).keep K162q)
    have F181 : Fld Z T162.heap aD "com/example/cheapside/cheapside/core/Granularity" "label" "Ljava/lang/String;" (.ref lD) := (F174.keep K162q nin0)
    obtain ⟨cq179, kq179, q179a, q179b, q179c⟩ := isOf hZ162 rfl F180
    obtain ⟨_, _, ⟨T179, L179, kk179, nn179⟩, -, X179, ⟨Lc179, hQ179, l179, y179, z179⟩, st179⟩ := X162.virtualBack hx (y := (⟨"com/example/cheapside/cheapside/core/Granularity", "label", "()Ljava/lang/String;"⟩ : MethodName)) (z := (⟨"com/example/cheapside/cheapside/core/Granularity", "label", "()Ljava/lang/String;"⟩ : MethodName)) hown162 (mvT hZ162 (hw _ (List.mem_of_getElem? (i := 73) rfl))) (mvT hZ162 (hw _ (List.mem_of_getElem? (i := 74) rfl))) (notFace_of_selects (args := #[]) (mvT hZ162 (hw _ (List.mem_of_getElem? (i := 76) rfl)))) (mvT hZ162 (hw _ (List.mem_of_getElem? (i := 76) rfl))) (mvT hZ162 (hw _ (List.mem_of_getElem? (i := 75) rfl))) (by decide) (backOf (W := 0) (rm12 l Z a0 hw [] aD lD T162.heap n0 Z162 F181) hZ162 (hw _ (List.mem_of_getElem? (i := 77) rfl)) (hw _ (List.mem_of_getElem? (i := 3) rfl)) (by decide) (by decide)) q179a q179c (g := (mkF m 131 #[.val (.int i0), .val (.int (1 : Int32)), .val (.ref b97), .val (.ref aD), .val (.ref b114), .val (.ref aD)] [(.ref aD)])) rfl (by rw [hml]; rfl) (Steps.refl _) (argsL := []) (rest := []) (lenOf pd_10 rfl) rfl (by show 2 * 0 + _ ≤ _; exact Nat.le_of_eq rfl) (hb hby at_131) (fun _ _ => ⟨rfl, rfl, (by decide : 6 + 0 ≤ _), (by decide : 37 + 0 ≤ _)⟩)
    dsimp only [Pt.U, Pt.locs, Pt.cells, Pt.slots] at X179 l179 y179 z179 st179 hQ179
    subst l179 y179 z179
    obtain ⟨rfl, N179q, e179⟩ := hQ179
    have N179 := Fr.app N162 N179q
    replace G : Gets p e below _ (T179.setTop (mkF m 134 #[.val (.int i0), .val (.int (1 : Int32)), .val (.ref b97), .val (.ref aD), .val (.ref b114), .val (.ref aD)] [(.ref lD)])) := fun t k => G t (st179.trans k)
    replace G := own_aload (q := 136) G X179.here hx (hb hby at_134) rfl rfl rfl
    have F183 : Exa Z T162.heap lD "java/lang/String" := (F175.keep K162q)
    have F184 : Fld Z T162.heap lD "java/lang/String" "coder" "B" (.int (0 : Int32)) := (F176.keep K162q nin0)
    have F185 : Fld Z T162.heap b114 "java/lang/String" "coder" "B" (.int (0 : Int32)) := (B136_1.keep K162q nin0)
    have F186 : Fld Z T162.heap lD "java/lang/String" "value" "[B" (.ref vD) := (F177.keep K162q nin0)
    have F187 : Fld Z T162.heap b114 "java/lang/String" "value" "[B" (.ref b_136) := (B136_0.keep K162q nin0)
    have F188 : Exa Z T162.heap b114 "java/lang/String" := (F163.keep K162q)
    have F189 : Arv Z T162.heap vD kD .byte (3 : Int32) [(.int (100 : Int32)), (.int (97 : Int32)), (.int (121 : Int32))] (.int (0 : Int32)) := (F178.keep K162q nin0)
    have F190 : Arv Z T162.heap b_136 kb_136 .byte (3 : Int32) [(.int (nar .byte ((100 : Int32).toInt8.toInt32))), (.int (nar .byte ((97 : Int32).toInt8.toInt32))), (.int (nar .byte ((121 : Int32).toInt8.toInt32)))] (.int (0 : Int32)) := (B136_3.keep K162q nin0)
    have F191 : Old Z n0 T162.heap := (F164.keep K162q all0)
    have F192 : Sta Z T162.heap "java/lang/String" "COMPACT_STRINGS" "Z" (.int cw) := P2.ext F191.2
    obtain ⟨cq182, kq182, q182a, q182b, q182c⟩ := isOf hZ162 e179 F183
    obtain ⟨_, _, ⟨T182, L182, kk182, nn182⟩, -, X182, ⟨Lc182, hQ182, l182, y182, z182⟩, st182⟩ := X179.virtualBack hx (y := (⟨"java/lang/String", "equals", "(Ljava/lang/Object;)Z"⟩ : MethodName)) (z := (⟨"java/lang/String", "equals", "(Ljava/lang/Object;)Z"⟩ : MethodName)) hown162 (mvT hZ162 (hw _ (List.mem_of_getElem? (i := 78) rfl))) (mvT hZ162 (hw _ (List.mem_of_getElem? (i := 64) rfl))) (notFace_of_selects (args := #[]) (mvT hZ162 (hw _ (List.mem_of_getElem? (i := 66) rfl)))) (mvT hZ162 (hw _ (List.mem_of_getElem? (i := 66) rfl))) (mvT hZ162 (hw _ (List.mem_of_getElem? (i := 65) rfl))) (by decide) (backOf (W := 0) (rm10i1k1 l Z a0 hw [] lD b114 vD b_136 kD kb_136 cw T162.heap n0 Z162 F184 F185 F186 F187 F188 F189 F190 F192 hcw ne127) hZ162 (hw _ (List.mem_of_getElem? (i := 67) rfl)) (hw _ (List.mem_of_getElem? (i := 7) rfl)) (by decide) (by decide)) q182a q182c (g := (mkF m 136 #[.val (.int i0), .val (.int (1 : Int32)), .val (.ref b97), .val (.ref aD), .val (.ref b114), .val (.ref aD)] [(.ref b114), (.ref lD)])) rfl (by rw [hml]; rfl) (Steps.refl _) (argsL := [(.ref b114)]) (rest := []) (lenOf pd_7 rfl) rfl (by show 2 * 0 + _ ≤ _; exact Nat.le_of_eq rfl) (hb hby at_136) (fun _ _ => ⟨rfl, e179, (by decide : 6 + 0 ≤ _), (by decide : 37 + 0 ≤ _)⟩)
    dsimp only [Pt.U, Pt.locs, Pt.cells, Pt.slots] at X182 l182 y182 z182 st182 hQ182
    subst l182 y182 z182
    obtain ⟨rfl, N182q, e182⟩ := hQ182
    have N182 := Fr.app N179 N182q
    replace G : Gets p e below _ (T182.setTop (mkF m 139 #[.val (.int i0), .val (.int (1 : Int32)), .val (.ref b97), .val (.ref aD), .val (.ref b114), .val (.ref aD)] [(.int (1 : Int32))])) := fun t k => G t (st182.trans k)
    have hc139_193 : ¬ ((1 : Int32) = (0 : Int32)) := by decide
    replace G := own_ifNo (q := 142) G X182.here hx (hb hby at_139) ((if0 _ _).trans (feq hc139_193).1) rfl
    replace G := own_iconst (q := 143) G X182.here hx (hb hby at_142) (v := (1 : Int32)) (by decide) rfl
    replace G := own_goto (q := 147) G X182.here hx (hb hby at_143) (by decide) (by decide)
    obtain ⟨fs, hr, hrun, hended, -, hW, hBk, hsame⟩ := X182.leaveW S162 (by rw [e182]; exact (Nat.le_refl _)) (v := some (.int (1 : Int32))) (fun h => by rw [Bd.returns] at h; cases h)
    refine ⟨_, _, G _ (retOut X182 hx Bd.returns rfl (Or.inl ⟨rfl, Or.inr (Or.inl rfl), _, rfl⟩) (hb hby at_147) hr), hrun, hended, _, _, rfl, ?_, ⟨_, rfl⟩, hW, hBk, hsame.mono (by decide) (by decide)⟩
    show Q0 Z i0 va kv cw aH lH vH kH aD lD vD kD aT lT vT kT h0 n0 _ T182.heap _
    rw [e182]
    exact ⟨rfl, N182⟩
  · replace G := own_istoreN (q := 7) (l' := #[.val (.int i0), .val (.int (2 : Int32)), .unset, .unset, .unset, .unset]) G X0.here hx (hb hby at_6) rfl rfl
    replace G := own_iloadN (q := 8) G X0.here hx (hb hby at_7) rfl rfl
    have hc8_194 : ¬ ((2 : Int32) = (0 : Int32)) := by decide
    replace G := own_ifYes (q := 42) G X0.here hx (hb hby at_8) ((if0 _ _).trans (feq hc8_194).2) (by decide) (by decide)
    replace G := own_iloadN (q := 43) G X0.here hx (hb hby at_42) rfl rfl
    replace G := own_iconst (q := 44) G X0.here hx (hb hby at_43) (v := (1 : Int32)) (by decide) rfl
    have hc44_195 : ¬ ((2 : Int32) = (1 : Int32)) := by decide
    replace G := own_icmpYes (q := 73) G X0.here hx (hb hby at_44) (feq hc44_195).2 (by decide) (by decide)
    replace G := own_iconst (q := 74) G X0.here hx (hb hby at_73) (v := (5 : Int32)) (by decide) rfl
    obtain ⟨T196, h196, k196, X196, e196, E196, A196, st196⟩ := newP X0 hx hZ (hw _ (List.mem_of_getElem? (i := 1) rfl)) e0 (g := (mkF m 74 #[.val (.int i0), .val (.int (2 : Int32)), .unset, .unset, .unset, .unset] [(.int (5 : Int32))])) rfl (hb hby at_74) rfl (by decide) (cap := 5) (by decide) (by decide) (by decide) (by decide)
    obtain ⟨b196, g196⟩ : ∃ z, z = h0.size := ⟨_, rfl⟩
    rw [← g196] at A196 st196
    have ne197 : va ≠ b196 := Nat.ne_of_lt (Nat.lt_of_lt_of_le P6.lt (Nat.le_of_eq g196.symm))
    have ne198 : aH ≠ b196 := Nat.ne_of_lt (Nat.lt_of_lt_of_le P9.lt (Nat.le_of_eq g196.symm))
    have ne199 : lH ≠ b196 := Nat.ne_of_lt (Nat.lt_of_lt_of_le P11.lt (Nat.le_of_eq g196.symm))
    have ne200 : vH ≠ b196 := Nat.ne_of_lt (Nat.lt_of_lt_of_le P14.lt (Nat.le_of_eq g196.symm))
    have ne201 : aD ≠ b196 := Nat.ne_of_lt (Nat.lt_of_lt_of_le P15.lt (Nat.le_of_eq g196.symm))
    have ne202 : lD ≠ b196 := Nat.ne_of_lt (Nat.lt_of_lt_of_le P17.lt (Nat.le_of_eq g196.symm))
    have ne203 : vD ≠ b196 := Nat.ne_of_lt (Nat.lt_of_lt_of_le P20.lt (Nat.le_of_eq g196.symm))
    have ne204 : aT ≠ b196 := Nat.ne_of_lt (Nat.lt_of_lt_of_le P21.lt (Nat.le_of_eq g196.symm))
    have ne205 : lT ≠ b196 := Nat.ne_of_lt (Nat.lt_of_lt_of_le P23.lt (Nat.le_of_eq g196.symm))
    have ne206 : vT ≠ b196 := Nat.ne_of_lt (Nat.lt_of_lt_of_le P26.lt (Nat.le_of_eq g196.symm))
    have ge_b196 : n0 ≤ b196 := Nat.le_trans Z0 (Nat.le_of_eq g196.symm)
    have Z196 : n0 ≤ h196.size := Nat.le_trans Z0 E196.1
    have V196 : Arv Z h196 b196 k196 .char (5 : Int32) [(.int (0 : Int32)), (.int (0 : Int32)), (.int (0 : Int32)), (.int (0 : Int32)), (.int (0 : Int32))] (.int (0 : Int32)) := (Arv.new A196 (by decide)).pad (pad_rep [] (.int (0 : Int32)) 5)
    replace G : Gets p e below _ (T196.setTop (mkF m 76 #[.val (.int i0), .val (.int (2 : Int32)), .unset, .unset, .unset, .unset] [(.ref b196)])) := fun t k => G t (st196 t k)
    replace G := own_dup (q := 77) G X196.here hx (hb hby at_76) rfl rfl
    replace G := own_iconst (q := 78) G X196.here hx (hb hby at_77) (v := (0 : Int32)) (by decide) rfl
    replace G := own_bipush (q := 80) G X196.here hx (hb hby at_78) (v := (116 : Int32)) (by decide) rfl
    obtain ⟨c207, Ar207, q207, S207, N207', H207, G207'⟩ := id V196
    have hin207 : ¬ ((0 : Int32) < 0 ∨ c207.slots.size ≤ ((0 : Int32)).toNatClampNeg) := inb_of S207 ⟨by decide, by decide⟩
    obtain ⟨T207, h207, X207, e207, W207, st207⟩ := stC X196 hx hZ e196 Ar207 (j := (0 : Int32)) hin207 (g := (mkF m 80 #[.val (.int i0), .val (.int (2 : Int32)), .unset, .unset, .unset, .unset] [(.int (116 : Int32)), (.int (0 : Int32)), (.ref b196), (.ref b196)])) rfl rfl (hb hby at_80)
    have N207 := Fr.snoc X207 N0 ge_b196
    have Z207 : n0 ≤ h207.size := Nat.le_trans Z196 (Keep.of_wr W207).1
    have V207 : Arv Z h207 b196 k196 .char (5 : Int32) [(.int (116 : Int32)), (.int (0 : Int32)), (.int (0 : Int32)), (.int (0 : Int32)), (.int (0 : Int32))] (.int (0 : Int32)) := Arv.set Ar207 q207 S207 N207' H207 G207' (fits_nar_char _) W207 0 rfl (Nat.le_of_ble_eq_true rfl)
    replace G : Gets p e below _ (T207.setTop (mkF m 81 #[.val (.int i0), .val (.int (2 : Int32)), .unset, .unset, .unset, .unset] [(.ref b196)])) := fun t k => G t (st207 t k)
    replace G := own_dup (q := 82) G X207.here hx (hb hby at_81) rfl rfl
    replace G := own_iconst (q := 83) G X207.here hx (hb hby at_82) (v := (1 : Int32)) (by decide) rfl
    replace G := own_bipush (q := 85) G X207.here hx (hb hby at_83) (v := (111 : Int32)) (by decide) rfl
    obtain ⟨c208, Ar208, q208, S208, N208', H208, G208'⟩ := id V207
    have hin208 : ¬ ((1 : Int32) < 0 ∨ c208.slots.size ≤ ((1 : Int32)).toNatClampNeg) := inb_of S208 ⟨by decide, by decide⟩
    obtain ⟨T208, h208, X208, e208, W208, st208⟩ := stC X207 hx hZ e207 Ar208 (j := (1 : Int32)) hin208 (g := (mkF m 85 #[.val (.int i0), .val (.int (2 : Int32)), .unset, .unset, .unset, .unset] [(.int (111 : Int32)), (.int (1 : Int32)), (.ref b196), (.ref b196)])) rfl rfl (hb hby at_85)
    have N208 := Fr.snoc X208 N207 ge_b196
    have Z208 : n0 ≤ h208.size := Nat.le_trans Z207 (Keep.of_wr W208).1
    have V208 : Arv Z h208 b196 k196 .char (5 : Int32) [(.int (116 : Int32)), (.int (111 : Int32)), (.int (0 : Int32)), (.int (0 : Int32)), (.int (0 : Int32))] (.int (0 : Int32)) := Arv.set Ar208 q208 S208 N208' H208 G208' (fits_nar_char _) W208 1 rfl (Nat.le_of_ble_eq_true rfl)
    replace G : Gets p e below _ (T208.setTop (mkF m 86 #[.val (.int i0), .val (.int (2 : Int32)), .unset, .unset, .unset, .unset] [(.ref b196)])) := fun t k => G t (st208 t k)
    replace G := own_dup (q := 87) G X208.here hx (hb hby at_86) rfl rfl
    replace G := own_iconst (q := 88) G X208.here hx (hb hby at_87) (v := (2 : Int32)) (by decide) rfl
    replace G := own_bipush (q := 90) G X208.here hx (hb hby at_88) (v := (116 : Int32)) (by decide) rfl
    obtain ⟨c209, Ar209, q209, S209, N209', H209, G209'⟩ := id V208
    have hin209 : ¬ ((2 : Int32) < 0 ∨ c209.slots.size ≤ ((2 : Int32)).toNatClampNeg) := inb_of S209 ⟨by decide, by decide⟩
    obtain ⟨T209, h209, X209, e209, W209, st209⟩ := stC X208 hx hZ e208 Ar209 (j := (2 : Int32)) hin209 (g := (mkF m 90 #[.val (.int i0), .val (.int (2 : Int32)), .unset, .unset, .unset, .unset] [(.int (116 : Int32)), (.int (2 : Int32)), (.ref b196), (.ref b196)])) rfl rfl (hb hby at_90)
    have N209 := Fr.snoc X209 N208 ge_b196
    have Z209 : n0 ≤ h209.size := Nat.le_trans Z208 (Keep.of_wr W209).1
    have V209 : Arv Z h209 b196 k196 .char (5 : Int32) [(.int (116 : Int32)), (.int (111 : Int32)), (.int (116 : Int32)), (.int (0 : Int32)), (.int (0 : Int32))] (.int (0 : Int32)) := Arv.set Ar209 q209 S209 N209' H209 G209' (fits_nar_char _) W209 2 rfl (Nat.le_of_ble_eq_true rfl)
    replace G : Gets p e below _ (T209.setTop (mkF m 91 #[.val (.int i0), .val (.int (2 : Int32)), .unset, .unset, .unset, .unset] [(.ref b196)])) := fun t k => G t (st209 t k)
    replace G := own_dup (q := 92) G X209.here hx (hb hby at_91) rfl rfl
    replace G := own_iconst (q := 93) G X209.here hx (hb hby at_92) (v := (3 : Int32)) (by decide) rfl
    replace G := own_bipush (q := 95) G X209.here hx (hb hby at_93) (v := (97 : Int32)) (by decide) rfl
    obtain ⟨c210, Ar210, q210, S210, N210', H210, G210'⟩ := id V209
    have hin210 : ¬ ((3 : Int32) < 0 ∨ c210.slots.size ≤ ((3 : Int32)).toNatClampNeg) := inb_of S210 ⟨by decide, by decide⟩
    obtain ⟨T210, h210, X210, e210, W210, st210⟩ := stC X209 hx hZ e209 Ar210 (j := (3 : Int32)) hin210 (g := (mkF m 95 #[.val (.int i0), .val (.int (2 : Int32)), .unset, .unset, .unset, .unset] [(.int (97 : Int32)), (.int (3 : Int32)), (.ref b196), (.ref b196)])) rfl rfl (hb hby at_95)
    have N210 := Fr.snoc X210 N209 ge_b196
    have Z210 : n0 ≤ h210.size := Nat.le_trans Z209 (Keep.of_wr W210).1
    have V210 : Arv Z h210 b196 k196 .char (5 : Int32) [(.int (116 : Int32)), (.int (111 : Int32)), (.int (116 : Int32)), (.int (97 : Int32)), (.int (0 : Int32))] (.int (0 : Int32)) := Arv.set Ar210 q210 S210 N210' H210 G210' (fits_nar_char _) W210 3 rfl (Nat.le_of_ble_eq_true rfl)
    replace G : Gets p e below _ (T210.setTop (mkF m 96 #[.val (.int i0), .val (.int (2 : Int32)), .unset, .unset, .unset, .unset] [(.ref b196)])) := fun t k => G t (st210 t k)
    replace G := own_dup (q := 97) G X210.here hx (hb hby at_96) rfl rfl
    replace G := own_iconst (q := 98) G X210.here hx (hb hby at_97) (v := (4 : Int32)) (by decide) rfl
    replace G := own_bipush (q := 100) G X210.here hx (hb hby at_98) (v := (108 : Int32)) (by decide) rfl
    obtain ⟨c211, Ar211, q211, S211, N211', H211, G211'⟩ := id V210
    have hin211 : ¬ ((4 : Int32) < 0 ∨ c211.slots.size ≤ ((4 : Int32)).toNatClampNeg) := inb_of S211 ⟨by decide, by decide⟩
    obtain ⟨T211, h211, X211, e211, W211, st211⟩ := stC X210 hx hZ e210 Ar211 (j := (4 : Int32)) hin211 (g := (mkF m 100 #[.val (.int i0), .val (.int (2 : Int32)), .unset, .unset, .unset, .unset] [(.int (108 : Int32)), (.int (4 : Int32)), (.ref b196), (.ref b196)])) rfl rfl (hb hby at_100)
    have N211 := Fr.snoc X211 N210 ge_b196
    have Z211 : n0 ≤ h211.size := Nat.le_trans Z210 (Keep.of_wr W211).1
    have V211 : Arv Z h211 b196 k196 .char (5 : Int32) [(.int (116 : Int32)), (.int (111 : Int32)), (.int (116 : Int32)), (.int (97 : Int32)), (.int (108 : Int32))] (.int (0 : Int32)) := Arv.set Ar211 q211 S211 N211' H211 G211' (fits_nar_char _) W211 4 rfl (Nat.le_of_ble_eq_true rfl)
    replace G : Gets p e below _ (T211.setTop (mkF m 101 #[.val (.int i0), .val (.int (2 : Int32)), .unset, .unset, .unset, .unset] [(.ref b196)])) := fun t k => G t (st211 t k)
    replace G := own_astoreN (q := 102) (l' := #[.val (.int i0), .val (.int (2 : Int32)), .val (.ref b196), .unset, .unset, .unset]) G X211.here hx (hb hby at_101) rfl rfl rfl
    have F212 : Old Z n0 h211 := ((((((P0.ext E196).wr W207 ge_b196).wr W208 ge_b196).wr W209 ge_b196).wr W210 ge_b196).wr W211 ge_b196)
    have F213 : Sta Z h211 "com/example/cheapside/cheapside/core/Granularity" "TOTAL" "Lcom/example/cheapside/cheapside/core/Granularity;" (.ref aT) := P5.ext F212.2
    obtain ⟨T214, X214, e214, st214⟩ := getS2 X211 hx hZ hown (host := "") (Or.inl (hw _ (List.mem_of_getElem? (i := 79) rfl))) Via.refl e211 F213 (g := (mkF m 102 #[.val (.int i0), .val (.int (2 : Int32)), .val (.ref b196), .unset, .unset, .unset] [])) rfl (hb hby at_102)
    replace G : Gets p e below _ (T214.setTop (mkF m 105 #[.val (.int i0), .val (.int (2 : Int32)), .val (.ref b196), .unset, .unset, .unset] [(.ref aT)])) := fun t k => G t (st214 t k)
    replace G := own_astoreN (q := 106) (l' := #[.val (.int i0), .val (.int (2 : Int32)), .val (.ref b196), .val (.ref aT), .unset, .unset]) G X214.here hx (hb hby at_105) rfl rfl rfl
    obtain ⟨T215, h215, X215, e215, E215, A215, D215, -, st215⟩ := newO X214 hx hZ hown (hw _ (List.mem_of_getElem? (i := 5) rfl)) (hw _ (List.mem_of_getElem? (i := 6) rfl)) (hw _ (List.mem_of_getElem? (i := 7) rfl)) e214 (g := (mkF m 106 #[.val (.int i0), .val (.int (2 : Int32)), .val (.ref b196), .val (.ref aT), .unset, .unset] [])) rfl (hb hby at_106) (by decide) (by decide)
    obtain ⟨b215, g215⟩ : ∃ z, z = h211.size := ⟨_, rfl⟩
    rw [← g215] at A215 D215 st215
    have ne216 : b196 ≠ b215 := Nat.ne_of_lt (Nat.lt_of_lt_of_le V211.lt (Nat.le_of_eq g215.symm))
    have F217 : Exa Z h211 va "[Lcom/example/cheapside/cheapside/core/Granularity;" := ((((((P6.ext E196).wr W207).wr W208).wr W209).wr W210).wr W211)
    have ne218 : va ≠ b215 := Nat.ne_of_lt (Nat.lt_of_lt_of_le F217.lt (Nat.le_of_eq g215.symm))
    have F219 : Exa Z h211 aH "com/example/cheapside/cheapside/core/Granularity" := ((((((P9.ext E196).wr W207).wr W208).wr W209).wr W210).wr W211)
    have ne220 : aH ≠ b215 := Nat.ne_of_lt (Nat.lt_of_lt_of_le F219.lt (Nat.le_of_eq g215.symm))
    have F221 : Exa Z h211 lH "java/lang/String" := ((((((P11.ext E196).wr W207).wr W208).wr W209).wr W210).wr W211)
    have ne222 : lH ≠ b215 := Nat.ne_of_lt (Nat.lt_of_lt_of_le F221.lt (Nat.le_of_eq g215.symm))
    have F223 : Arv Z h211 vH kH .byte (4 : Int32) [(.int (104 : Int32)), (.int (111 : Int32)), (.int (117 : Int32)), (.int (114 : Int32))] (.int (0 : Int32)) := ((((((P14.ext E196).other W207 ne200).other W208 ne200).other W209 ne200).other W210 ne200).other W211 ne200)
    have ne224 : vH ≠ b215 := Nat.ne_of_lt (Nat.lt_of_lt_of_le F223.lt (Nat.le_of_eq g215.symm))
    have F225 : Exa Z h211 aD "com/example/cheapside/cheapside/core/Granularity" := ((((((P15.ext E196).wr W207).wr W208).wr W209).wr W210).wr W211)
    have ne226 : aD ≠ b215 := Nat.ne_of_lt (Nat.lt_of_lt_of_le F225.lt (Nat.le_of_eq g215.symm))
    have F227 : Exa Z h211 lD "java/lang/String" := ((((((P17.ext E196).wr W207).wr W208).wr W209).wr W210).wr W211)
    have ne228 : lD ≠ b215 := Nat.ne_of_lt (Nat.lt_of_lt_of_le F227.lt (Nat.le_of_eq g215.symm))
    have F229 : Arv Z h211 vD kD .byte (3 : Int32) [(.int (100 : Int32)), (.int (97 : Int32)), (.int (121 : Int32))] (.int (0 : Int32)) := ((((((P20.ext E196).other W207 ne203).other W208 ne203).other W209 ne203).other W210 ne203).other W211 ne203)
    have ne230 : vD ≠ b215 := Nat.ne_of_lt (Nat.lt_of_lt_of_le F229.lt (Nat.le_of_eq g215.symm))
    have F231 : Exa Z h211 aT "com/example/cheapside/cheapside/core/Granularity" := ((((((P21.ext E196).wr W207).wr W208).wr W209).wr W210).wr W211)
    have ne232 : aT ≠ b215 := Nat.ne_of_lt (Nat.lt_of_lt_of_le F231.lt (Nat.le_of_eq g215.symm))
    have F233 : Exa Z h211 lT "java/lang/String" := ((((((P23.ext E196).wr W207).wr W208).wr W209).wr W210).wr W211)
    have ne234 : lT ≠ b215 := Nat.ne_of_lt (Nat.lt_of_lt_of_le F233.lt (Nat.le_of_eq g215.symm))
    have F235 : Arv Z h211 vT kT .byte (5 : Int32) [(.int (116 : Int32)), (.int (111 : Int32)), (.int (116 : Int32)), (.int (97 : Int32)), (.int (108 : Int32))] (.int (0 : Int32)) := ((((((P26.ext E196).other W207 ne206).other W208 ne206).other W209 ne206).other W210 ne206).other W211 ne206)
    have ne236 : vT ≠ b215 := Nat.ne_of_lt (Nat.lt_of_lt_of_le F235.lt (Nat.le_of_eq g215.symm))
    have ge_b215 : n0 ≤ b215 := Nat.le_trans Z211 (Nat.le_of_eq g215.symm)
    have Z215 : n0 ≤ h215.size := Nat.le_trans Z211 E215.1
    have F215_coder : Fld Z h215 b215 "java/lang/String" "coder" "B" (.int (0 : Int32)) := D215 (Or.inr (hw _ (List.mem_of_getElem? (i := 31) rfl))) (ty := .byte) (by decide)
    have F215_value : Fld Z h215 b215 "java/lang/String" "value" "[B" .null := D215 (Or.inr (hw _ (List.mem_of_getElem? (i := 33) rfl))) (ty := (.array .byte)) (by decide)
    replace G : Gets p e below _ (T215.setTop (mkF m 109 #[.val (.int i0), .val (.int (2 : Int32)), .val (.ref b196), .val (.ref aT), .unset, .unset] [(.ref b215)])) := fun t k => G t (st215 t k)
    replace G := own_dup (q := 110) G X215.here hx (hb hby at_109) rfl rfl
    replace G := own_aloadN (q := 111) G X215.here hx (hb hby at_110) rfl rfl rfl
    have F238 : Arv Z h215 b196 k196 .char (5 : Int32) [(.int (116 : Int32)), (.int (111 : Int32)), (.int (116 : Int32)), (.int (97 : Int32)), (.int (108 : Int32))] (.int (0 : Int32)) := (V211.ext E215)
    have F239 : Old Z n0 h215 := (F212.ext E215)
    have F240 : Sta Z h215 "java/lang/String" "COMPACT_STRINGS" "Z" (.int cw) := P2.ext F239.2
    obtain ⟨_, _, ⟨T237, L237, kk237, nn237⟩, -, X237, ⟨Lc237, hQ237, l237, y237, z237⟩, st237⟩ := X215.specialBack hx (y := (⟨"java/lang/String", "<init>", "([C)V"⟩ : MethodName)) rfl hown (mvT hZ (hw _ (List.mem_of_getElem? (i := 8) rfl))) (mvT hZ (hw _ (List.mem_of_getElem? (i := 9) rfl))) (mvT hZ (hw _ (List.mem_of_getElem? (i := 10) rfl))) (by decide) (backOf (W := 1) (rm1n5 l Z a0 hw [] b215 b196 k196 cw (116 : Int32) (111 : Int32) (116 : Int32) (97 : Int32) (108 : Int32) h215 n0 Z215 F215_value F215_coder A215 ge_b215 F238 F240 hcw (by decide) (by decide) (by decide) (by decide) (by decide)) hZ (hw _ (List.mem_of_getElem? (i := 10) rfl)) (hw _ (List.mem_of_getElem? (i := 7) rfl)) (by decide) (by decide)) (g := (mkF m 111 #[.val (.int i0), .val (.int (2 : Int32)), .val (.ref b196), .val (.ref aT), .unset, .unset] [(.ref b196), (.ref b215), (.ref b215)])) rfl (by rw [hml]; rfl) (Steps.refl _) (a := b215) (argsL := [(.ref b196)]) (rest := [(.ref b215)]) (lenOf pd_8 rfl) rfl (by show 2 * 0 + _ ≤ _; exact Nat.le_of_eq rfl) (hb hby at_111) (fun _ _ => ⟨rfl, e215, (by decide : 2 + 1 ≤ _), (by decide : 9 + 5 ≤ _)⟩)
    dsimp only [Pt.U, Pt.locs, Pt.cells, Pt.slots] at X237 l237 y237 z237 st237 hQ237
    subst l237 y237 z237
    obtain ⟨b_237, kb_237, rfl, N237q, K237q, B237_0, B237_1, B237_2, B237_3⟩ := hQ237
    have ne241 : b215 ≠ b_237 := Nat.ne_of_lt (Nat.lt_of_lt_of_le F215_value.lt B237_2)
    have ne242 : b196 ≠ b_237 := Nat.ne_of_lt (Nat.lt_of_lt_of_le F238.lt B237_2)
    have F243 : Exa Z h215 va "[Lcom/example/cheapside/cheapside/core/Granularity;" := (F217.ext E215)
    have ne244 : va ≠ b_237 := Nat.ne_of_lt (Nat.lt_of_lt_of_le F243.lt B237_2)
    have F245 : Exa Z h215 aH "com/example/cheapside/cheapside/core/Granularity" := (F219.ext E215)
    have ne246 : aH ≠ b_237 := Nat.ne_of_lt (Nat.lt_of_lt_of_le F245.lt B237_2)
    have F247 : Exa Z h215 lH "java/lang/String" := (F221.ext E215)
    have ne248 : lH ≠ b_237 := Nat.ne_of_lt (Nat.lt_of_lt_of_le F247.lt B237_2)
    have F249 : Arv Z h215 vH kH .byte (4 : Int32) [(.int (104 : Int32)), (.int (111 : Int32)), (.int (117 : Int32)), (.int (114 : Int32))] (.int (0 : Int32)) := (F223.ext E215)
    have ne250 : vH ≠ b_237 := Nat.ne_of_lt (Nat.lt_of_lt_of_le F249.lt B237_2)
    have F251 : Exa Z h215 aD "com/example/cheapside/cheapside/core/Granularity" := (F225.ext E215)
    have ne252 : aD ≠ b_237 := Nat.ne_of_lt (Nat.lt_of_lt_of_le F251.lt B237_2)
    have F253 : Exa Z h215 lD "java/lang/String" := (F227.ext E215)
    have ne254 : lD ≠ b_237 := Nat.ne_of_lt (Nat.lt_of_lt_of_le F253.lt B237_2)
    have F255 : Arv Z h215 vD kD .byte (3 : Int32) [(.int (100 : Int32)), (.int (97 : Int32)), (.int (121 : Int32))] (.int (0 : Int32)) := (F229.ext E215)
    have ne256 : vD ≠ b_237 := Nat.ne_of_lt (Nat.lt_of_lt_of_le F255.lt B237_2)
    have F257 : Exa Z h215 aT "com/example/cheapside/cheapside/core/Granularity" := (F231.ext E215)
    have ne258 : aT ≠ b_237 := Nat.ne_of_lt (Nat.lt_of_lt_of_le F257.lt B237_2)
    have F259 : Exa Z h215 lT "java/lang/String" := (F233.ext E215)
    have ne260 : lT ≠ b_237 := Nat.ne_of_lt (Nat.lt_of_lt_of_le F259.lt B237_2)
    have F261 : Arv Z h215 vT kT .byte (5 : Int32) [(.int (116 : Int32)), (.int (111 : Int32)), (.int (116 : Int32)), (.int (97 : Int32)), (.int (108 : Int32))] (.int (0 : Int32)) := (F235.ext E215)
    have ne262 : vT ≠ b_237 := Nat.ne_of_lt (Nat.lt_of_lt_of_le F261.lt B237_2)
    have ge_b_237 : n0 ≤ b_237 := Nat.le_trans Z215 B237_2
    have Z237 : n0 ≤ T237.heap.size := Nat.le_trans Z215 K237q.1
    have N237 := Fr.app N211 N237q
    replace G : Gets p e below _ (T237.setTop (mkF m 114 #[.val (.int i0), .val (.int (2 : Int32)), .val (.ref b196), .val (.ref aT), .unset, .unset] [(.ref b215)])) := fun t k => G t (st237.trans k)
    replace G := own_astore (q := 116) (l' := #[.val (.int i0), .val (.int (2 : Int32)), .val (.ref b196), .val (.ref aT), .val (.ref b215), .unset]) G X237.here hx (hb hby at_114) rfl rfl rfl
    replace G := own_aload (q := 118) G X237.here hx (hb hby at_116) rfl rfl rfl
    have F264 : Exa Z T237.heap b215 "java/lang/String" := (A215.keep K237q)
    have F265 : Old Z n0 T237.heap := (F239.keep K237q (allS ge_b215 all0))
    have F266 : Sta Z T237.heap "java/lang/String" "COMPACT_STRINGS" "Z" (.int cw) := P2.ext F265.2
    have F267 : Sta Z T237.heap "com/example/cheapside/cheapside/core/Granularity" "$VALUES" "[Lcom/example/cheapside/cheapside/core/Granularity;" (.ref va) := P1.ext F265.2
    have F268 : Exa Z T237.heap va "[Lcom/example/cheapside/cheapside/core/Granularity;" := (F243.keep K237q)
    have F269 : Arv Z T237.heap va kv (.object "com/example/cheapside/cheapside/core/Granularity") (3 : Int32) [(.ref aH), (.ref aD), (.ref aT)] .null := ((((((((P7.ext E196).other W207 ne197).other W208 ne197).other W209 ne197).other W210 ne197).other W211 ne197).ext E215).keep K237q (ninS ne218 nin0))
    have F270 : Fld Z T237.heap aH "com/example/cheapside/cheapside/core/Granularity" "label" "Ljava/lang/String;" (.ref lH) := ((((((((P10.ext E196).other W207 (Or.inl ne198)).other W208 (Or.inl ne198)).other W209 (Or.inl ne198)).other W210 (Or.inl ne198)).other W211 (Or.inl ne198)).ext E215).keep K237q (ninS ne220 nin0))
    have F271 : Exa Z T237.heap lH "java/lang/String" := (F247.keep K237q)
    have F272 : Fld Z T237.heap lH "java/lang/String" "coder" "B" (.int (0 : Int32)) := ((((((((P12.ext E196).other W207 (Or.inl ne199)).other W208 (Or.inl ne199)).other W209 (Or.inl ne199)).other W210 (Or.inl ne199)).other W211 (Or.inl ne199)).ext E215).keep K237q (ninS ne222 nin0))
    have F273 : Fld Z T237.heap lH "java/lang/String" "value" "[B" (.ref vH) := ((((((((P13.ext E196).other W207 (Or.inl ne199)).other W208 (Or.inl ne199)).other W209 (Or.inl ne199)).other W210 (Or.inl ne199)).other W211 (Or.inl ne199)).ext E215).keep K237q (ninS ne222 nin0))
    have F274 : Arv Z T237.heap vH kH .byte (4 : Int32) [(.int (104 : Int32)), (.int (111 : Int32)), (.int (117 : Int32)), (.int (114 : Int32))] (.int (0 : Int32)) := (F249.keep K237q (ninS ne224 nin0))
    have F275 : Fld Z T237.heap aD "com/example/cheapside/cheapside/core/Granularity" "label" "Ljava/lang/String;" (.ref lD) := ((((((((P16.ext E196).other W207 (Or.inl ne201)).other W208 (Or.inl ne201)).other W209 (Or.inl ne201)).other W210 (Or.inl ne201)).other W211 (Or.inl ne201)).ext E215).keep K237q (ninS ne226 nin0))
    have F276 : Exa Z T237.heap lD "java/lang/String" := (F253.keep K237q)
    have F277 : Fld Z T237.heap lD "java/lang/String" "coder" "B" (.int (0 : Int32)) := ((((((((P18.ext E196).other W207 (Or.inl ne202)).other W208 (Or.inl ne202)).other W209 (Or.inl ne202)).other W210 (Or.inl ne202)).other W211 (Or.inl ne202)).ext E215).keep K237q (ninS ne228 nin0))
    have F278 : Fld Z T237.heap lD "java/lang/String" "value" "[B" (.ref vD) := ((((((((P19.ext E196).other W207 (Or.inl ne202)).other W208 (Or.inl ne202)).other W209 (Or.inl ne202)).other W210 (Or.inl ne202)).other W211 (Or.inl ne202)).ext E215).keep K237q (ninS ne228 nin0))
    have F279 : Arv Z T237.heap vD kD .byte (3 : Int32) [(.int (100 : Int32)), (.int (97 : Int32)), (.int (121 : Int32))] (.int (0 : Int32)) := (F255.keep K237q (ninS ne230 nin0))
    have F280 : Fld Z T237.heap aT "com/example/cheapside/cheapside/core/Granularity" "label" "Ljava/lang/String;" (.ref lT) := ((((((((P22.ext E196).other W207 (Or.inl ne204)).other W208 (Or.inl ne204)).other W209 (Or.inl ne204)).other W210 (Or.inl ne204)).other W211 (Or.inl ne204)).ext E215).keep K237q (ninS ne232 nin0))
    have F281 : Exa Z T237.heap lT "java/lang/String" := (F259.keep K237q)
    have F282 : Fld Z T237.heap lT "java/lang/String" "coder" "B" (.int (0 : Int32)) := ((((((((P24.ext E196).other W207 (Or.inl ne205)).other W208 (Or.inl ne205)).other W209 (Or.inl ne205)).other W210 (Or.inl ne205)).other W211 (Or.inl ne205)).ext E215).keep K237q (ninS ne234 nin0))
    have F283 : Fld Z T237.heap lT "java/lang/String" "value" "[B" (.ref vT) := ((((((((P25.ext E196).other W207 (Or.inl ne205)).other W208 (Or.inl ne205)).other W209 (Or.inl ne205)).other W210 (Or.inl ne205)).other W211 (Or.inl ne205)).ext E215).keep K237q (ninS ne234 nin0))
    have F284 : Arv Z T237.heap vT kT .byte (5 : Int32) [(.int (116 : Int32)), (.int (111 : Int32)), (.int (116 : Int32)), (.int (97 : Int32)), (.int (108 : Int32))] (.int (0 : Int32)) := (F261.keep K237q (ninS ne236 nin0))
    obtain ⟨_, _, ⟨T263, L263, kk263, nn263⟩, -, X263, S263', g263', ⟨Lc263, hQ263, l263, y263, z263⟩, st263⟩ := callSS X237 hx (y := (⟨"com/example/cheapside/cheapside/core/Granularity", "ofLabel", "(Ljava/lang/String;)Lcom/example/cheapside/cheapside/core/Granularity;"⟩ : MethodName)) hown (mvT hZ (hw _ (List.mem_of_getElem? (i := 34) rfl))) (mvT hZ (hw _ (List.mem_of_getElem? (i := 35) rfl))) (mvT hZ (hw _ (List.mem_of_getElem? (i := 3) rfl))) (mvT hZ (hw _ (List.mem_of_getElem? (i := 36) rfl))) (by decide) (backOfS (W := 0) (rm7k2 l Z a0 hw [] b215 b_237 kb_237 cw va kv aH aD aT lH vH kH lD vD kD lT vT kT T237.heap n0 Z237 F264 B237_1 B237_0 B237_3 F266 hcw F267 F268 F269 F270 F271 F272 F273 F274 ne222 F275 F276 F277 F278 F279 ne228 F280 F281 F282 F283 F284 ne234) hZ (hw _ (List.mem_of_getElem? (i := 36) rfl)) (hw _ (List.mem_of_getElem? (i := 3) rfl)) (by decide) (by decide)) (g := (mkF m 118 #[.val (.int i0), .val (.int (2 : Int32)), .val (.ref b196), .val (.ref aT), .val (.ref b215), .unset] [(.ref b215)])) rfl (by rw [hml]; rfl) (argsL := [(.ref b215)]) (rest := []) (lenOf pd_9 rfl) rfl (by show 2 * 0 + _ ≤ _; exact Nat.le_of_eq rfl) (hb hby at_118) (fun _ _ => ⟨rfl, rfl, (by decide : 3 + 3 ≤ _), (by decide : 14 + 27 ≤ _)⟩)
    dsimp only [Pt.U, Pt.locs, Pt.cells, Pt.slots] at X263 l263 y263 z263 st263 hQ263 S263' g263'
    subst l263 y263 z263
    have S263 := S263'
    have hZ263 : Z.Warmed39 (s.setVm T263.vm).vm := State.Warmed39.trans hZ S263.1
    have hown263 := (S263.1.alike.findClass _ _).trans hown
    obtain ⟨rfl, N263q, K263q⟩ := hQ263
    have Z263 : n0 ≤ T263.heap.size := Nat.le_trans Z237 K263q.1
    have N263 := Fr.app N237 N263q
    replace G : Gets p e below _ (T263.setTop (mkF m 121 #[.val (.int i0), .val (.int (2 : Int32)), .val (.ref b196), .val (.ref aT), .val (.ref b215), .unset] [(.ref aT)])) := fun t k => G t (st263.trans k)
    replace G := own_astore (q := 123) (l' := #[.val (.int i0), .val (.int (2 : Int32)), .val (.ref b196), .val (.ref aT), .val (.ref b215), .val (.ref aT)]) G X263.here hx (hb hby at_121) rfl rfl rfl
    replace G := own_aload (q := 125) G X263.here hx (hb hby at_123) rfl rfl rfl
    replace G := own_aloadN (q := 126) G X263.here hx (hb hby at_125) rfl rfl rfl
    replace G : Gets p e below _ (T263.setTop (mkF m 129 #[.val (.int i0), .val (.int (2 : Int32)), .val (.ref b196), .val (.ref aT), .val (.ref b215), .val (.ref aT)] [])) := fun t k => G t (Jvm.RoadKit.acmp (g := (mkF m 126 #[.val (.int i0), .val (.int (2 : Int32)), .val (.ref b196), .val (.ref aT), .val (.ref b215), .val (.ref aT)] [(.ref aT), (.ref aT)])) X263 hx rfl rfl rfl (pc0 := 126) (pc' := 129) (same := true) rfl (hb hby at_126) rfl (decide_eq_true rfl) (by decide) (by decide) k)
    replace G := own_aload (q := 131) G X263.here hx (hb hby at_129) rfl rfl rfl
    have F286 : Exa Z T263.heap aT "com/example/cheapside/cheapside/core/Granularity" := ((F257.keep K237q).keep K263q)
    have F287 : Fld Z T263.heap aT "com/example/cheapside/cheapside/core/Granularity" "label" "Ljava/lang/String;" (.ref lT) := (F280.keep K263q nin0)
    obtain ⟨cq285, kq285, q285a, q285b, q285c⟩ := isOf hZ263 rfl F286
    obtain ⟨_, _, ⟨T285, L285, kk285, nn285⟩, -, X285, ⟨Lc285, hQ285, l285, y285, z285⟩, st285⟩ := X263.virtualBack hx (y := (⟨"com/example/cheapside/cheapside/core/Granularity", "label", "()Ljava/lang/String;"⟩ : MethodName)) (z := (⟨"com/example/cheapside/cheapside/core/Granularity", "label", "()Ljava/lang/String;"⟩ : MethodName)) hown263 (mvT hZ263 (hw _ (List.mem_of_getElem? (i := 73) rfl))) (mvT hZ263 (hw _ (List.mem_of_getElem? (i := 74) rfl))) (notFace_of_selects (args := #[]) (mvT hZ263 (hw _ (List.mem_of_getElem? (i := 76) rfl)))) (mvT hZ263 (hw _ (List.mem_of_getElem? (i := 76) rfl))) (mvT hZ263 (hw _ (List.mem_of_getElem? (i := 75) rfl))) (by decide) (backOf (W := 0) (rm12 l Z a0 hw [] aT lT T263.heap n0 Z263 F287) hZ263 (hw _ (List.mem_of_getElem? (i := 77) rfl)) (hw _ (List.mem_of_getElem? (i := 3) rfl)) (by decide) (by decide)) q285a q285c (g := (mkF m 131 #[.val (.int i0), .val (.int (2 : Int32)), .val (.ref b196), .val (.ref aT), .val (.ref b215), .val (.ref aT)] [(.ref aT)])) rfl (by rw [hml]; rfl) (Steps.refl _) (argsL := []) (rest := []) (lenOf pd_10 rfl) rfl (by show 2 * 0 + _ ≤ _; exact Nat.le_of_eq rfl) (hb hby at_131) (fun _ _ => ⟨rfl, rfl, (by decide : 6 + 0 ≤ _), (by decide : 41 + 0 ≤ _)⟩)
    dsimp only [Pt.U, Pt.locs, Pt.cells, Pt.slots] at X285 l285 y285 z285 st285 hQ285
    subst l285 y285 z285
    obtain ⟨rfl, N285q, e285⟩ := hQ285
    have N285 := Fr.app N263 N285q
    replace G : Gets p e below _ (T285.setTop (mkF m 134 #[.val (.int i0), .val (.int (2 : Int32)), .val (.ref b196), .val (.ref aT), .val (.ref b215), .val (.ref aT)] [(.ref lT)])) := fun t k => G t (st285.trans k)
    replace G := own_aload (q := 136) G X285.here hx (hb hby at_134) rfl rfl rfl
    have F289 : Exa Z T263.heap lT "java/lang/String" := (F281.keep K263q)
    have F290 : Fld Z T263.heap lT "java/lang/String" "coder" "B" (.int (0 : Int32)) := (F282.keep K263q nin0)
    have F291 : Fld Z T263.heap b215 "java/lang/String" "coder" "B" (.int (0 : Int32)) := (B237_1.keep K263q nin0)
    have F292 : Fld Z T263.heap lT "java/lang/String" "value" "[B" (.ref vT) := (F283.keep K263q nin0)
    have F293 : Fld Z T263.heap b215 "java/lang/String" "value" "[B" (.ref b_237) := (B237_0.keep K263q nin0)
    have F294 : Exa Z T263.heap b215 "java/lang/String" := (F264.keep K263q)
    have F295 : Arv Z T263.heap vT kT .byte (5 : Int32) [(.int (116 : Int32)), (.int (111 : Int32)), (.int (116 : Int32)), (.int (97 : Int32)), (.int (108 : Int32))] (.int (0 : Int32)) := (F284.keep K263q nin0)
    have F296 : Arv Z T263.heap b_237 kb_237 .byte (5 : Int32) [(.int (nar .byte ((116 : Int32).toInt8.toInt32))), (.int (nar .byte ((111 : Int32).toInt8.toInt32))), (.int (nar .byte ((116 : Int32).toInt8.toInt32))), (.int (nar .byte ((97 : Int32).toInt8.toInt32))), (.int (nar .byte ((108 : Int32).toInt8.toInt32)))] (.int (0 : Int32)) := (B237_3.keep K263q nin0)
    have F297 : Old Z n0 T263.heap := (F265.keep K263q all0)
    have F298 : Sta Z T263.heap "java/lang/String" "COMPACT_STRINGS" "Z" (.int cw) := P2.ext F297.2
    obtain ⟨cq288, kq288, q288a, q288b, q288c⟩ := isOf hZ263 e285 F289
    obtain ⟨_, _, ⟨T288, L288, kk288, nn288⟩, -, X288, ⟨Lc288, hQ288, l288, y288, z288⟩, st288⟩ := X285.virtualBack hx (y := (⟨"java/lang/String", "equals", "(Ljava/lang/Object;)Z"⟩ : MethodName)) (z := (⟨"java/lang/String", "equals", "(Ljava/lang/Object;)Z"⟩ : MethodName)) hown263 (mvT hZ263 (hw _ (List.mem_of_getElem? (i := 78) rfl))) (mvT hZ263 (hw _ (List.mem_of_getElem? (i := 64) rfl))) (notFace_of_selects (args := #[]) (mvT hZ263 (hw _ (List.mem_of_getElem? (i := 66) rfl)))) (mvT hZ263 (hw _ (List.mem_of_getElem? (i := 66) rfl))) (mvT hZ263 (hw _ (List.mem_of_getElem? (i := 65) rfl))) (by decide) (backOf (W := 0) (rm10i2k2 l Z a0 hw [] lT b215 vT b_237 kT kb_237 cw T263.heap n0 Z263 F290 F291 F292 F293 F294 F295 F296 F298 hcw ne234) hZ263 (hw _ (List.mem_of_getElem? (i := 67) rfl)) (hw _ (List.mem_of_getElem? (i := 7) rfl)) (by decide) (by decide)) q288a q288c (g := (mkF m 136 #[.val (.int i0), .val (.int (2 : Int32)), .val (.ref b196), .val (.ref aT), .val (.ref b215), .val (.ref aT)] [(.ref b215), (.ref lT)])) rfl (by rw [hml]; rfl) (Steps.refl _) (argsL := [(.ref b215)]) (rest := []) (lenOf pd_7 rfl) rfl (by show 2 * 0 + _ ≤ _; exact Nat.le_of_eq rfl) (hb hby at_136) (fun _ _ => ⟨rfl, e285, (by decide : 6 + 0 ≤ _), (by decide : 41 + 0 ≤ _)⟩)
    dsimp only [Pt.U, Pt.locs, Pt.cells, Pt.slots] at X288 l288 y288 z288 st288 hQ288
    subst l288 y288 z288
    obtain ⟨rfl, N288q, e288⟩ := hQ288
    have N288 := Fr.app N285 N288q
    replace G : Gets p e below _ (T288.setTop (mkF m 139 #[.val (.int i0), .val (.int (2 : Int32)), .val (.ref b196), .val (.ref aT), .val (.ref b215), .val (.ref aT)] [(.int (1 : Int32))])) := fun t k => G t (st288.trans k)
    have hc139_299 : ¬ ((1 : Int32) = (0 : Int32)) := by decide
    replace G := own_ifNo (q := 142) G X288.here hx (hb hby at_139) ((if0 _ _).trans (feq hc139_299).1) rfl
    replace G := own_iconst (q := 143) G X288.here hx (hb hby at_142) (v := (1 : Int32)) (by decide) rfl
    replace G := own_goto (q := 147) G X288.here hx (hb hby at_143) (by decide) (by decide)
    obtain ⟨fs, hr, hrun, hended, -, hW, hBk, hsame⟩ := X288.leaveW S263 (by rw [e288]; exact (Nat.le_refl _)) (v := some (.int (1 : Int32))) (fun h => by rw [Bd.returns] at h; cases h)
    refine ⟨_, _, G _ (retOut X288 hx Bd.returns rfl (Or.inl ⟨rfl, Or.inr (Or.inl rfl), _, rfl⟩) (hb hby at_147) hr), hrun, hended, _, _, rfl, ?_, ⟨_, rfl⟩, hW, hBk, hsame.mono (by decide) (by decide)⟩
    show Q0 Z i0 va kv cw aH lH vH kH aD lD vD kD aT lT vT kT h0 n0 _ T288.heap _
    rw [e288]
    exact ⟨rfl, N288⟩
set_option maxRecDepth 65536 in
set_option maxHeartbeats 40000000 in
theorem comes_1 {Post : Tables → Env → Array Value → State → Outcome → State → Prop} (hpost : ∀ tb e args s v u, (limb_1_1.after args s (.returned v) u = true ∧ limb_1_2.after args s (.returned v) u = true ∧ True) → ReturnedEndW s (.returned v) u (Jvm.fieldLocs frame_1_writes args s ++ Jvm.arrayLocs frame_1_arrays args s ++ Jvm.staticLocs frame_1_statics s) 24 1152 → Post tb e args s (.returned v) u) :
    ArmFor flags0 classFile x code maxLocals ret World_1 tables_1 room_1 Calls_1 rest_1 Pre_1 Post := by
  intro l hfl _ _ p e ha hc hk s m args below hf hA hF happ hP
  obtain ⟨hcalls, hrest, hpre⟩ := hP
  obtain ⟨-, -, -, hnamed, -, -, -, hat⟩ := (Spec.applies_iff hf).mp happ
  obtain ⟨hg, hn⟩ := and_e (Cond.before_iff.mp (show (Jvm.Cond.and given_1 narrow_1).before args s = true from hpre))
  obtain ⟨g1, g2⟩ := and_e hg
  obtain ⟨w0, rfl⟩ : ∃ w0 : Value, args = #[w0] := by
    have hs : args.size = 1 := by simpa [Cond.value, given_1] using g1
    obtain ⟨L⟩ := args
    match L, hs with
    | [w0], _ => exact ⟨w0, rfl⟩
  have hw := fun d (hd : d ∈ tables_1) => atoms_spec (ws := Jvm.Cond.code x code maxLocals ret :: tables_1) hat d (List.mem_cons_of_mem _ hd)
  have hfit : Fit s := fun {y c} hc i hi => by
    obtain ⟨ha, rfl⟩ := Array.getElem?_eq_some_iff.mp hc
    have q := List.all_eq_true.mp ((Array.all_eq_true_iff_forall_mem.mp hF) _ (Array.getElem_mem ha)) i (List.mem_range.mpr hi)
    simpa [Array.getElem?_eq_getElem hi] using q
  obtain ⟨hsets, hown0⟩ := atoms_of _ (rest_1_c_eq ▸ (show rest_1_c.before _ s = true from hrest))
  have hr0 := Cond.before_iff.mp hown0
  obtain ⟨i0, ei0⟩ := is_v g2
  obtain rfl : w0 = (.int i0) := Option.some.inj ei0
  obtain ⟨nn1, nn2⟩ := and_e hn
  obtain ⟨nn3, nn4⟩ := and_e nn2
  obtain ⟨nn5, nn6⟩ := and_e nn4
  obtain ⟨nn7, nn8⟩ := and_e nn6
  obtain ⟨nn9, nn10⟩ := and_e nn8
  obtain ⟨nn11, nn12⟩ := and_e nn10
  obtain ⟨nn13, nn14⟩ := and_e nn12
  obtain ⟨nn15, nn16⟩ := and_e nn14
  obtain ⟨nn17, nn18⟩ := and_e nn16
  obtain ⟨nn19, nn20⟩ := and_e nn18
  obtain ⟨nn21, nn22⟩ := and_e nn20
  obtain ⟨nn23, nn24⟩ := and_e nn22
  obtain ⟨nn25, nn26⟩ := and_e nn24
  obtain ⟨nn27, nn28⟩ := and_e nn26
  obtain ⟨nn29, nn30⟩ := and_e nn28
  obtain ⟨nn31, nn32⟩ := and_e nn30
  obtain ⟨nn33, nn34⟩ := and_e nn32
  obtain ⟨nn35, nn36⟩ := and_e nn34
  obtain ⟨nn37, nn38⟩ := and_e nn36
  obtain ⟨nn39, nn40⟩ := and_e nn38
  obtain ⟨nn41, nn42⟩ := and_e nn40
  obtain ⟨nn43, nn44⟩ := and_e nn42
  obtain ⟨nn45, nn46⟩ := and_e nn44
  obtain ⟨nn47, nn48⟩ := and_e nn46
  obtain ⟨nn49, nn50⟩ := and_e nn48
  obtain ⟨nn51, nn52⟩ := and_e nn50
  obtain ⟨nn53, nn54⟩ := and_e nn52
  obtain ⟨nn55, nn56⟩ := and_e nn54
  obtain ⟨nn57, nn58⟩ := and_e nn56
  obtain ⟨nn59, nn60⟩ := and_e nn58
  obtain ⟨nn61, nn62⟩ := and_e nn60
  obtain ⟨nn63, nn64⟩ := and_e nn62
  have nc := not_v (Cond.before_iff.mp (hsets _ (List.mem_of_getElem? (i := 2) rfl)))
  obtain ⟨cw, ecw⟩ := is_v (Cond.before_iff.mp (hsets _ (List.mem_of_getElem? (i := 1) rfl)))
  have Scw : Sta s s.heap "java/lang/String" "COMPACT_STRINGS" "Z" (.int cw) := Sta.start ecw (Or.inl (hsets _ (List.mem_of_getElem? (i := 0) rfl)))
  have hcw : ¬ (cw = (0 : Int32)) := gotF (Cond.eq_ints ecw (Term.int_eval (0))) nc
  obtain ⟨va, ev_va⟩ := exa_v nn5
  have Ex_va := Exa.start ev_va nn5
  have St_va := Sta.start ev_va (Or.inl (hw _ (List.mem_of_getElem? (i := 58) rfl)))
  obtain ⟨aH, ev_aH⟩ := exa_v nn1
  have Ex_aH := Exa.start ev_aH nn1
  have St_aH := Sta.start ev_aH (Or.inr ⟨(hw _ (List.mem_of_getElem? (i := 3) rfl)), (hw _ (List.mem_of_getElem? (i := 4) rfl))⟩)
  obtain ⟨lH, ev_lH⟩ := exa_v nn19
  have Ex_lH := Exa.start ev_lH nn19
  have Fl_aH := Fld.start ((fld_at ev_aH).symm.trans ev_lH)
  have Fc_lH := Fld.start (own_ord ev_lH nn21)
  obtain ⟨vH, ev_vH⟩ := arr_v nn23
  have Fv_lH := Fld.start ((fld_at ev_lH).symm.trans ev_vH)
  obtain ⟨c_vH, A_vH⟩ := Arr.start ev_vH nn23
  have L_vH := own_len ev_vH A_vH nn25
  have V_vH : Arv s s.heap vH c_vH.cls .byte (4 : Int32) [(.int (104 : Int32)), (.int (111 : Int32)), (.int (117 : Int32)), (.int (114 : Int32))] (.int (0 : Int32)) := Arv.start hfit A_vH L_vH.1 L_vH.2 (by decide) rfl ⟨own_eli ev_vH A_vH (j := 0) (by decide) nn27, own_eli ev_vH A_vH (j := 1) (by decide) nn29, own_eli ev_vH A_vH (j := 2) (by decide) nn31, own_eli ev_vH A_vH (j := 3) (by decide) nn33, trivial⟩
  obtain ⟨aD, ev_aD⟩ := exa_v nn11
  have Ex_aD := Exa.start ev_aD nn11
  have St_aD := Sta.start ev_aD (Or.inr ⟨(hw _ (List.mem_of_getElem? (i := 3) rfl)), (hw _ (List.mem_of_getElem? (i := 56) rfl))⟩)
  obtain ⟨lD, ev_lD⟩ := exa_v nn35
  have Ex_lD := Exa.start ev_lD nn35
  have Fl_aD := Fld.start ((fld_at ev_aD).symm.trans ev_lD)
  have Fc_lD := Fld.start (own_ord ev_lD nn37)
  obtain ⟨vD, ev_vD⟩ := arr_v nn39
  have Fv_lD := Fld.start ((fld_at ev_lD).symm.trans ev_vD)
  obtain ⟨c_vD, A_vD⟩ := Arr.start ev_vD nn39
  have L_vD := own_len ev_vD A_vD nn41
  have V_vD : Arv s s.heap vD c_vD.cls .byte (3 : Int32) [(.int (100 : Int32)), (.int (97 : Int32)), (.int (121 : Int32))] (.int (0 : Int32)) := Arv.start hfit A_vD L_vD.1 L_vD.2 (by decide) rfl ⟨own_eli ev_vD A_vD (j := 0) (by decide) nn51, own_eli ev_vD A_vD (j := 1) (by decide) nn53, own_eli ev_vD A_vD (j := 2) (by decide) nn55, trivial⟩
  obtain ⟨aT, ev_aT⟩ := exa_v nn15
  have Ex_aT := Exa.start ev_aT nn15
  have St_aT := Sta.start ev_aT (Or.inr ⟨(hw _ (List.mem_of_getElem? (i := 3) rfl)), (hw _ (List.mem_of_getElem? (i := 57) rfl))⟩)
  obtain ⟨lT, ev_lT⟩ := exa_v nn43
  have Ex_lT := Exa.start ev_lT nn43
  have Fl_aT := Fld.start ((fld_at ev_aT).symm.trans ev_lT)
  have Fc_lT := Fld.start (own_ord ev_lT nn45)
  obtain ⟨vT, ev_vT⟩ := arr_v nn47
  have Fv_lT := Fld.start ((fld_at ev_lT).symm.trans ev_vT)
  obtain ⟨c_vT, A_vT⟩ := Arr.start ev_vT nn47
  have L_vT := own_len ev_vT A_vT nn49
  have V_vT : Arv s s.heap vT c_vT.cls .byte (5 : Int32) [(.int (116 : Int32)), (.int (111 : Int32)), (.int (116 : Int32)), (.int (97 : Int32)), (.int (108 : Int32))] (.int (0 : Int32)) := Arv.start hfit A_vT L_vT.1 L_vT.2 (by decide) rfl ⟨own_eli ev_vT A_vT (j := 0) (by decide) nn57, own_eli ev_vT A_vT (j := 1) (by decide) nn59, own_eli ev_vT A_vT (j := 2) (by decide) nn61, own_eli ev_vT A_vT (j := 3) (by decide) nn63, own_eli ev_vT A_vT (j := 4) (by decide) nn64, trivial⟩
  obtain ⟨c_va, A_va⟩ := Arr.start ev_va nn3
  have L_va := own_len ev_va A_va nn7
  have V_va : Arv s s.heap va c_va.cls (.object "com/example/cheapside/cheapside/core/Granularity") (3 : Int32) [(.ref aH), (.ref aD), (.ref aT)] .null := Arv.start hfit A_va L_va.1 L_va.2 (by decide) rfl ⟨own_elr ev_va ev_aH A_va (j := 0) (by decide) nn9, own_elr ev_va ev_aD A_va (j := 1) (by decide) nn13, own_elr ev_va ev_aT A_va (j := 2) (by decide) nn17, trivial⟩
  obtain ⟨n, o, h1, h2, h3, _, L, rfl, ⟨rfl, N⟩, hq⟩ := rm0 l s _ hw tables_1 i0 va c_va.cls cw aH lH vH c_vH.cls aD lD vD c_vD.cls aT lT vT c_vT.cls s.heap s.heap.size (Nat.le_refl _) (Old.start s) St_va Scw St_aH St_aD St_aT Ex_va V_va hcw Ex_aH Fl_aH Ex_lH Fc_lH Fv_lH V_vH Ex_aD Fl_aD Ex_lD Fc_lD Fv_lD V_vD Ex_aT Fl_aT Ex_lT Fc_lT Fv_lT V_vT p e ha hc hk s m _ below hf ((Spec.applies_iff_loose hf).mp happ).1 ⟨rfl, State.Warmed39.refl s, rfl⟩ trivial
  refine ⟨n, _, h1, h2, h3, hpost _ _ _ _ _ _ ⟨Cond.after_iff.mpr rfl, Cond.after_iff.mpr (eq_i res_at (Term.int_eval (1)) rfl), trivial⟩ ⟨hq.1, hq.2.1, hq.2.2.1, (hq.2.2.2.sift fun y hy => Or.inr (N y hy)).mono (by decide) (by decide)⟩⟩
theorem main_1_1 : Claimed_1_1 := comes_1 fun _ _ _ _ _ _ h hF => ⟨h.1, hF⟩
theorem main_1_2 : Claimed_1_2 := comes_1 fun _ _ _ _ _ _ h hF => ⟨h.2.1, hF⟩
end Jvm.Pilot.@@N@@
namespace Jvm.Pilot.@@N@@
open Jvm Jvm.ClassFile Sem Op Lib Jvm.Free Jvm.Stand Jvm.Pilot.@@N@@.Jvm.D
/-! MADE BY PROGRAM (witnessworld.py) out of the Statement's table words and the real class files: 23 classes; the members and pool entries that the words name. The judged class is class 1, her method 1. -/
namespace start1
open Jvm.ClassFile
def u (s : String) : CpInfo := .utf8 (stringToUtf16 s)
/-- a pool by its gaps: so many unusable entries, then the entry; so many at the end -/
def gap : Nat → List CpInfo → List CpInfo
  | 0, r => r
  | n + 1, r => .unusable :: gap n r
def poolList (es : List (Nat × CpInfo)) (last : Nat) : List CpInfo := es.foldr (fun e r => gap e.1 (e.2 :: r)) (gap last [])
def pool (es : List (Nat × CpInfo)) (last : Nat) : Array CpInfo := ⟨poolList es last⟩
def fileOf (pool : Array CpInfo) (this : Nat) (attrs : Array Attribute := #[]) (ms : Array MethodInfo := #[]) (fl : Nat := 33) (sup : Nat := 0) (ifs : Array Nat := #[]) (fds : Array FieldInfo := #[]) : ClassFile where
  minorVersion := 0
  majorVersion := 65
  constantPool := pool
  accessFlags := fl
  thisClass := this
  superClass := sup
  interfaces := ifs
  fields := fds
  methods := ms
  attributes := attrs
def plain (name : String) (sup : Option ClassId) : Class where
  name := name
  kind := .ordinary
  loader := none
  accessFlags := 33
  super := sup
  interfaces := #[]
  cf := none
  fields := #[]
  methods := #[]
  instanceTypes := #[]
  staticTypes := #[]
  resolved := #[]
  callSites := []
  init := .initialized
  statics := none
  mirror := none

def pool0 : Array CpInfo := pool [(5, u "<init>"), (0, u "()V"), (1, .class_ 10), (1, u "java/lang/Object"), (85, u "clone"), (0, u "()Ljava/lang/Object;")] 26

def k0c0 : Code := { maxStack := 0, maxLocals := 1, code := object_method_1_code, exceptionTable := #[], attributes := #[] }
def k0m0 : Method := { name := "<init>", desc := "()V", sig := { parameters := [], returnType := none }, accessFlags := 1, code := some k0c0 }
def k0m1 : Method := { name := "clone", desc := "()Ljava/lang/Object;", sig := { parameters := [], returnType := some (.object "java/lang/Object") }, accessFlags := 260, code := none }
/-- java/lang/Object -/
def k0 : Class := { plain "java/lang/Object" none with
  accessFlags := 33
  interfaces := #[]
  cf := some (fileOf pool0 8 #[] #[{ accessFlags := 1, nameIndex := 5, descriptorIndex := 6, attributes := #[] }, { accessFlags := 260, nameIndex := 96, descriptorIndex := 97, attributes := #[] }] 33 0 #[] #[])
  fields := #[]
  methods := #[k0m0, k0m1]
  instanceTypes := #[]
  staticTypes := #[]
  resolved := Array.replicate 124 none
  statics := none }

def pool1 : Array CpInfo := pool [(2, .class_ 4), (1, u "java/lang/Object"), (0, u "<init>"), (0, u "()V"), (0, .integer 2147483647), (0, .fieldref 9 10), (0, .class_ 11), (0, .nameAndType 12 13), (0, u "com/example/cheapside/cheapside/core/Granularity"), (0, u "HOUR"), (0, u "Lcom/example/cheapside/cheapside/core/Granularity;"), (0, .fieldref 9 15), (0, .nameAndType 16 13), (0, u "DAY"), (0, .fieldref 9 18), (0, .nameAndType 19 13), (0, u "TOTAL"), (0, .class_ 21), (0, u "java/lang/String"), (0, .methodref 20 23), (0, .nameAndType 5 24), (0, u "([C)V"), (0, .methodref 9 26), (0, .nameAndType 27 28), (0, u "ofLabel"), (0, u "(Ljava/lang/String;)Lcom/example/cheapside/cheapside/core/Granularity;"), (0, .methodref 9 30), (0, .nameAndType 31 32), (0, u "label"), (0, u "()Ljava/lang/String;"), (0, .methodref 20 34), (0, .nameAndType 35 36), (0, u "equals"), (0, u "(Ljava/lang/Object;)Z"), (0, .class_ 38), (0, u "com/example/cheapside/cheapside/core/GranularityOfLabelPinLaw"), (2, u "law"), (0, u "(I)Z")] 5

def k1m0 : Method := { name := "<init>", desc := "()V", sig := { parameters := [], returnType := none }, accessFlags := 1, code := none }
def k1c1 : Code := { maxStack := 4, maxLocals := 6, code := code, exceptionTable := #[], attributes := #[] }
def k1m1 : Method := { name := "law", desc := "(I)Z", sig := { parameters := [.int], returnType := some .boolean }, accessFlags := 9, code := some k1c1 }
/-- com/example/cheapside/cheapside/core/GranularityOfLabelPinLaw -/
def k1 : Class := { plain "com/example/cheapside/cheapside/core/GranularityOfLabelPinLaw" (some 0) with
  accessFlags := 49
  interfaces := #[]
  cf := some (fileOf pool1 37 #[] #[{ accessFlags := 1, nameIndex := 5, descriptorIndex := 6, attributes := #[] }, { accessFlags := 9, nameIndex := 41, descriptorIndex := 42, attributes := #[] }] 49 2 #[] #[])
  fields := #[]
  methods := #[k1m0, k1m1]
  instanceTypes := #[]
  staticTypes := #[]
  resolved := Array.replicate 48 none
  statics := none }

def pool2 : Array CpInfo := pool [(1, .class_ 2), (0, u "java/lang/constant/Constable"), (0, .class_ 4), (0, u "java/lang/Object")] 6

/-- java/lang/constant/Constable -/
def k2 : Class := { plain "java/lang/constant/Constable" (some 0) with
  accessFlags := 1537
  interfaces := #[]
  cf := some (fileOf pool2 1 #[] #[] 1537 3 #[] #[])
  fields := #[]
  methods := #[]
  instanceTypes := #[]
  staticTypes := #[]
  resolved := Array.replicate 11 none
  statics := none }

def pool3 : Array CpInfo := pool [(1, .class_ 2), (0, u "java/lang/Comparable"), (0, .class_ 4), (0, u "java/lang/Object")] 7

/-- java/lang/Comparable -/
def k3 : Class := { plain "java/lang/Comparable" (some 0) with
  accessFlags := 1537
  interfaces := #[]
  cf := some (fileOf pool3 1 #[] #[] 1537 3 #[] #[])
  fields := #[]
  methods := #[]
  instanceTypes := #[]
  staticTypes := #[]
  resolved := Array.replicate 12 none
  statics := none }

def pool4 : Array CpInfo := pool [(1, .class_ 2), (0, u "java/io/Serializable"), (0, .class_ 4), (0, u "java/lang/Object")] 2

/-- java/io/Serializable -/
def k4 : Class := { plain "java/io/Serializable" (some 0) with
  accessFlags := 1537
  interfaces := #[]
  cf := some (fileOf pool4 1 #[] #[] 1537 3 #[] #[])
  fields := #[]
  methods := #[]
  instanceTypes := #[]
  staticTypes := #[]
  resolved := Array.replicate 7 none
  statics := none }

def pool5 : Array CpInfo := pool [(2, .class_ 4), (1, u "java/lang/Enum"), (0, u "name"), (0, u "Ljava/lang/String;"), (2, u "ordinal"), (0, u "I"), (1, .class_ 14), (1, u "java/lang/Object"), (4, u "hash"), (86, .class_ 108), (1, u "java/lang/Enum$EnumDesc"), (2, .class_ 112), (0, u "java/lang/constant/Constable"), (0, .class_ 114), (0, u "java/lang/Comparable"), (0, .class_ 116), (0, u "java/io/Serializable")] 87

/-- java/lang/Enum -/
def k5 : Class := { plain "java/lang/Enum" (some 0) with
  accessFlags := 1057
  interfaces := #[2, 3, 4]
  cf := some (fileOf pool5 2 #[.nestMembers #[106]] #[] 1057 12 #[111, 113, 115] #[{ accessFlags := 18, nameIndex := 5, descriptorIndex := 6, attributes := #[] }, { accessFlags := 18, nameIndex := 9, descriptorIndex := 10, attributes := #[] }, { accessFlags := 2, nameIndex := 19, descriptorIndex := 10, attributes := #[] }])
  fields := #[{ name := "name", type := (.object "java/lang/String"), accessFlags := 18, slot := 0, constantValue := 0 }, { name := "ordinal", type := .int, accessFlags := 18, slot := 1, constantValue := 0 }, { name := "hash", type := .int, accessFlags := 2, slot := 2, constantValue := 0 }]
  methods := #[]
  instanceTypes := #[(.object "java/lang/String"), .int, .int]
  staticTypes := #[]
  resolved := Array.replicate 204 none
  statics := none }

def pool6 : Array CpInfo := pool [(1, .class_ 2), (0, u "com/example/cheapside/cheapside/core/Granularity"), (2, u "HOUR"), (0, u "Lcom/example/cheapside/cheapside/core/Granularity;"), (2, u "DAY"), (2, u "TOTAL"), (0, .fieldref 1 14), (0, .nameAndType 15 16), (0, u "$VALUES"), (0, u "[Lcom/example/cheapside/cheapside/core/Granularity;"), (0, .methodref 18 19), (0, .class_ 16), (0, .nameAndType 20 21), (0, u "clone"), (0, u "()Ljava/lang/Object;"), (1, .class_ 25), (1, u "java/lang/Enum"), (6, .fieldref 1 33), (0, .nameAndType 34 35), (0, u "label"), (0, u "Ljava/lang/String;"), (0, .string 34), (0, .methodref 38 39), (0, .class_ 40), (0, .nameAndType 41 42), (0, u "java/util/Objects"), (0, u "requireNonNull"), (0, u "(Ljava/lang/Object;Ljava/lang/String;)Ljava/lang/Object;"), (0, .methodref 1 44), (0, .nameAndType 45 46), (0, u "values"), (0, u "()[Lcom/example/cheapside/cheapside/core/Granularity;"), (0, .methodref 48 49), (0, .class_ 50), (0, .nameAndType 51 52), (0, u "java/lang/String"), (0, u "equals"), (0, u "(Ljava/lang/Object;)Z"), (84, u "(Ljava/lang/String;)Lcom/example/cheapside/cheapside/core/Granularity;"), (2, u "ofLabel"), (1, u "()Ljava/lang/String;")] 36

def k6c0 : Code := { maxStack := 1, maxLocals := 0, code := prog_4_method_1_code, exceptionTable := #[], attributes := #[] }
def k6m0 : Method := { name := "values", desc := "()[Lcom/example/cheapside/cheapside/core/Granularity;", sig := { parameters := [], returnType := some (.array (.object "com/example/cheapside/cheapside/core/Granularity")) }, accessFlags := 9, code := some k6c0 }
def k6c1 : Code := { maxStack := 4, maxLocals := 5, code := prog_4_method_4_code, exceptionTable := #[], attributes := #[] }
def k6m1 : Method := { name := "ofLabel", desc := "(Ljava/lang/String;)Lcom/example/cheapside/cheapside/core/Granularity;", sig := { parameters := [(.object "java/lang/String")], returnType := some (.object "com/example/cheapside/cheapside/core/Granularity") }, accessFlags := 9, code := some k6c1 }
def k6c2 : Code := { maxStack := 1, maxLocals := 1, code := prog_4_method_5_code, exceptionTable := #[], attributes := #[] }
def k6m2 : Method := { name := "label", desc := "()Ljava/lang/String;", sig := { parameters := [], returnType := some (.object "java/lang/String") }, accessFlags := 1, code := some k6c2 }
/-- com/example/cheapside/cheapside/core/Granularity -/
def k6 : Class := { plain "com/example/cheapside/cheapside/core/Granularity" (some 5) with
  accessFlags := 16433
  interfaces := #[]
  cf := some (fileOf pool6 1 #[] #[{ accessFlags := 9, nameIndex := 45, descriptorIndex := 46, attributes := #[] }, { accessFlags := 9, nameIndex := 140, descriptorIndex := 137, attributes := #[] }, { accessFlags := 1, nameIndex := 34, descriptorIndex := 142, attributes := #[] }] 16433 23 #[] #[{ accessFlags := 16409, nameIndex := 5, descriptorIndex := 6, attributes := #[] }, { accessFlags := 16409, nameIndex := 9, descriptorIndex := 6, attributes := #[] }, { accessFlags := 16409, nameIndex := 12, descriptorIndex := 6, attributes := #[] }, { accessFlags := 18, nameIndex := 34, descriptorIndex := 35, attributes := #[] }, { accessFlags := 4122, nameIndex := 15, descriptorIndex := 16, attributes := #[] }])
  fields := #[{ name := "HOUR", type := (.object "com/example/cheapside/cheapside/core/Granularity"), accessFlags := 16409, slot := 0, constantValue := 0 }, { name := "DAY", type := (.object "com/example/cheapside/cheapside/core/Granularity"), accessFlags := 16409, slot := 1, constantValue := 0 }, { name := "TOTAL", type := (.object "com/example/cheapside/cheapside/core/Granularity"), accessFlags := 16409, slot := 2, constantValue := 0 }, { name := "label", type := (.object "java/lang/String"), accessFlags := 18, slot := 3, constantValue := 0 }, { name := "$VALUES", type := (.array (.object "com/example/cheapside/cheapside/core/Granularity")), accessFlags := 4122, slot := 3, constantValue := 0 }]
  methods := #[k6m0, k6m1, k6m2]
  instanceTypes := #[(.object "java/lang/String"), .int, .int, (.object "java/lang/String")]
  staticTypes := #[(.object "com/example/cheapside/cheapside/core/Granularity"), (.object "com/example/cheapside/cheapside/core/Granularity"), (.object "com/example/cheapside/cheapside/core/Granularity"), (.array (.object "com/example/cheapside/cheapside/core/Granularity"))]
  resolved := Array.replicate 179 none
  statics := some 0 }

def pool7 : Array CpInfo := pool [(2, .class_ 4), (1, u "java/lang/CharSequence"), (42, .class_ 48), (0, u "java/lang/CharSequence$1CodePointIterator"), (10, .class_ 60), (0, u "java/lang/CharSequence$1CharIterator"), (5, .class_ 67), (0, u "java/lang/Object")] 63

/-- java/lang/CharSequence -/
def k7 : Class := { plain "java/lang/CharSequence" (some 0) with
  accessFlags := 1537
  interfaces := #[]
  cf := some (fileOf pool7 2 #[.nestMembers #[47, 59]] #[] 1537 66 #[] #[])
  fields := #[]
  methods := #[]
  instanceTypes := #[]
  staticTypes := #[]
  resolved := Array.replicate 131 none
  statics := none }

def pool8 : Array CpInfo := pool [(1, .class_ 2), (0, u "java/lang/constant/ConstantDesc"), (0, .class_ 4), (0, u "java/lang/Object")] 32

/-- java/lang/constant/ConstantDesc -/
def k8 : Class := { plain "java/lang/constant/ConstantDesc" (some 0) with
  accessFlags := 1537
  interfaces := #[]
  cf := some (fileOf pool8 1 #[] #[] 1537 3 #[] #[])
  fields := #[]
  methods := #[]
  instanceTypes := #[]
  staticTypes := #[]
  resolved := Array.replicate 37 none
  statics := none }

def pool9 : Array CpInfo := pool [(1, .methodref 2 3), (0, .class_ 4), (0, .nameAndType 5 6), (0, u "java/lang/Object"), (0, u "<init>"), (0, u "()V"), (2, .fieldref 10 11), (0, .class_ 12), (0, .nameAndType 13 14), (0, u "java/lang/String"), (0, u "value"), (0, u "[B"), (0, .fieldref 10 16), (0, .nameAndType 17 18), (0, u "coder"), (0, u "B"), (2, u "hash"), (0, u "I"), (2, u "hashIsZero"), (0, u "Z"), (0, .methodref 10 28), (0, .nameAndType 5 29), (0, u "([CIILjava/lang/Void;)V"), (8, .fieldref 10 39), (0, .nameAndType 40 26), (0, u "COMPACT_STRINGS"), (1, .class_ 44), (1, u "java/lang/StringUTF16"), (0, u "compress"), (1, .methodref 42 48), (0, .nameAndType 49 50), (0, u "coderFromArrayLen"), (0, u "([BI)B"), (56, .class_ 109), (1, u "java/lang/StringLatin1"), (67, .methodref 42 178), (0, .nameAndType 45 179), (0, u "([CII)[B"), (361, .methodref 107 542), (0, .nameAndType 543 544), (0, u "equals"), (0, u "([B[B)Z"), (28, u "(Ljava/lang/Object;)Z"), (1, .class_ 576), (0, u "java/lang/CharSequence"), (22, u "CASE_INSENSITIVE_ORDER"), (0, u "Ljava/util/Comparator;"), (409, u "([C)V"), (90, u "serialPersistentFields"), (0, u "[Ljava/io/ObjectStreamField;"), (0, .class_ 1104), (0, u "java/lang/String$CaseInsensitiveComparator"), (1, .class_ 1107), (0, u "java/io/Serializable"), (0, .class_ 1109), (0, u "java/lang/Comparable"), (0, .class_ 1111), (0, u "java/lang/constant/Constable"), (0, .class_ 1113), (0, u "java/lang/constant/ConstantDesc"), (2, u "serialVersionUID"), (0, u "J"), (3, u "REPL"), (0, u "C"), (2, u "LATIN1"), (1, u "UTF16")] 323

def k9m0 : Method := { name := "<init>", desc := "()V", sig := { parameters := [], returnType := none }, accessFlags := 1, code := none }
def k9c1 : Code := { maxStack := 5, maxLocals := 2, code := jdk_42_method_3_code, exceptionTable := #[], attributes := #[] }
def k9m1 : Method := { name := "<init>", desc := "([C)V", sig := { parameters := [(.array .char)], returnType := none }, accessFlags := 1, code := some k9c1 }
def k9c2 : Code := { maxStack := 2, maxLocals := 3, code := jdk_42_method_66_code, exceptionTable := #[], attributes := #[] }
def k9m2 : Method := { name := "equals", desc := "(Ljava/lang/Object;)Z", sig := { parameters := [(.object "java/lang/Object")], returnType := some .boolean }, accessFlags := 1, code := some k9c2 }
def k9c3 : Code := { maxStack := 4, maxLocals := 6, code := jdk_42_method_149_code, exceptionTable := #[], attributes := #[] }
def k9m3 : Method := { name := "<init>", desc := "([CIILjava/lang/Void;)V", sig := { parameters := [(.array .char), .int, .int, (.object "java/lang/Void")], returnType := none }, accessFlags := 2, code := some k9c3 }
/-- java/lang/String -/
def k9 : Class := { plain "java/lang/String" (some 0) with
  accessFlags := 49
  interfaces := #[4, 3, 7, 2, 8]
  cf := some (fileOf pool9 10 #[.nestMembers #[1103]] #[{ accessFlags := 1, nameIndex := 5, descriptorIndex := 6, attributes := #[] }, { accessFlags := 1, nameIndex := 5, descriptorIndex := 1010, attributes := #[] }, { accessFlags := 1, nameIndex := 543, descriptorIndex := 573, attributes := #[] }, { accessFlags := 2, nameIndex := 5, descriptorIndex := 29, attributes := #[] }] 49 2 #[1106, 1108, 575, 1110, 1112] #[{ accessFlags := 18, nameIndex := 13, descriptorIndex := 14, attributes := #[] }, { accessFlags := 18, nameIndex := 17, descriptorIndex := 18, attributes := #[] }, { accessFlags := 2, nameIndex := 21, descriptorIndex := 22, attributes := #[] }, { accessFlags := 2, nameIndex := 25, descriptorIndex := 26, attributes := #[] }, { accessFlags := 26, nameIndex := 1116, descriptorIndex := 1117, attributes := #[] }, { accessFlags := 24, nameIndex := 40, descriptorIndex := 26, attributes := #[] }, { accessFlags := 26, nameIndex := 1101, descriptorIndex := 1102, attributes := #[] }, { accessFlags := 26, nameIndex := 1121, descriptorIndex := 1122, attributes := #[] }, { accessFlags := 25, nameIndex := 599, descriptorIndex := 600, attributes := #[] }, { accessFlags := 24, nameIndex := 1125, descriptorIndex := 18, attributes := #[] }, { accessFlags := 24, nameIndex := 1127, descriptorIndex := 18, attributes := #[] }])
  fields := #[{ name := "value", type := (.array .byte), accessFlags := 18, slot := 0, constantValue := 0 }, { name := "coder", type := .byte, accessFlags := 18, slot := 1, constantValue := 0 }, { name := "hash", type := .int, accessFlags := 2, slot := 2, constantValue := 0 }, { name := "hashIsZero", type := .boolean, accessFlags := 2, slot := 3, constantValue := 0 }, { name := "serialVersionUID", type := .long, accessFlags := 26, slot := 0, constantValue := 0 }, { name := "COMPACT_STRINGS", type := .boolean, accessFlags := 24, slot := 1, constantValue := 0 }, { name := "serialPersistentFields", type := (.array (.object "java/io/ObjectStreamField")), accessFlags := 26, slot := 2, constantValue := 0 }, { name := "REPL", type := .char, accessFlags := 26, slot := 3, constantValue := 0 }, { name := "CASE_INSENSITIVE_ORDER", type := (.object "java/util/Comparator"), accessFlags := 25, slot := 4, constantValue := 0 }, { name := "LATIN1", type := .byte, accessFlags := 24, slot := 5, constantValue := 0 }, { name := "UTF16", type := .byte, accessFlags := 24, slot := 6, constantValue := 0 }]
  methods := #[k9m0, k9m1, k9m2, k9m3]
  instanceTypes := #[(.array .byte), .byte, .int, .boolean]
  staticTypes := #[.long, .boolean, (.array (.object "java/io/ObjectStreamField")), .char, (.object "java/util/Comparator"), .byte, .byte]
  resolved := Array.replicate 1451 none
  statics := some 1 }

def pool10 : Array CpInfo := pool [(6, .class_ 8), (1, u "java/lang/Object"), (0, u "<init>"), (0, u "()V"), (1, .class_ 14), (1, u "java/lang/StringUTF16"), (31, u "$assertionsDisabled"), (0, u "Z"), (13, u "HI_BYTE_SHIFT"), (0, u "I"), (2, u "LO_BYTE_SHIFT"), (49, .methodref 12 116), (0, .nameAndType 117 118), (0, u "compress"), (0, u "([CI[BII)I"), (3, u "([CII)[B"), (138, u "coderFromArrayLen"), (0, u "([BI)B"), (106, .class_ 371), (1, u "java/lang/StringUTF16$LinesSpliterator"), (58, u "MAX_LENGTH"), (196, .class_ 628), (0, u "java/lang/StringUTF16$CodePointsSpliterator"), (0, .class_ 630), (0, u "java/lang/StringUTF16$CharsSpliterator")] 4

def k10m0 : Method := { name := "<init>", desc := "()V", sig := { parameters := [], returnType := none }, accessFlags := 0, code := none }
def k10c1 : Code := { maxStack := 2, maxLocals := 2, code := jdk_52_method_15_code, exceptionTable := #[], attributes := #[] }
def k10m1 : Method := { name := "coderFromArrayLen", desc := "([BI)B", sig := { parameters := [(.array .byte), .int], returnType := some .byte }, accessFlags := 8, code := some k10c1 }
def k10c2 : Code := { maxStack := 5, maxLocals := 6, code := jdk_52_method_16_code, exceptionTable := #[], attributes := #[] }
def k10m2 : Method := { name := "compress", desc := "([CII)[B", sig := { parameters := [(.array .char), .int, .int], returnType := some (.array .byte) }, accessFlags := 9, code := some k10c2 }
def k10c3 : Code := { maxStack := 3, maxLocals := 7, code := jdk_52_method_21_code, exceptionTable := #[], attributes := #[] }
def k10m3 : Method := { name := "compress", desc := "([CI[BII)I", sig := { parameters := [(.array .char), .int, (.array .byte), .int, .int], returnType := some .int }, accessFlags := 9, code := some k10c3 }
/-- java/lang/StringUTF16 -/
def k10 : Class := { plain "java/lang/StringUTF16" (some 0) with
  accessFlags := 48
  interfaces := #[]
  cf := some (fileOf pool10 12 #[.nestMembers #[627, 629, 369]] #[{ accessFlags := 0, nameIndex := 9, descriptorIndex := 10, attributes := #[] }, { accessFlags := 8, nameIndex := 261, descriptorIndex := 262, attributes := #[] }, { accessFlags := 9, nameIndex := 117, descriptorIndex := 122, attributes := #[] }, { accessFlags := 9, nameIndex := 117, descriptorIndex := 118, attributes := #[] }] 48 6 #[] #[{ accessFlags := 26, nameIndex := 61, descriptorIndex := 62, attributes := #[] }, { accessFlags := 26, nameIndex := 65, descriptorIndex := 62, attributes := #[] }, { accessFlags := 24, nameIndex := 430, descriptorIndex := 62, attributes := #[] }, { accessFlags := 4120, nameIndex := 46, descriptorIndex := 47, attributes := #[] }])
  fields := #[{ name := "HI_BYTE_SHIFT", type := .int, accessFlags := 26, slot := 0, constantValue := 0 }, { name := "LO_BYTE_SHIFT", type := .int, accessFlags := 26, slot := 1, constantValue := 0 }, { name := "MAX_LENGTH", type := .int, accessFlags := 24, slot := 2, constantValue := 0 }, { name := "$assertionsDisabled", type := .boolean, accessFlags := 4120, slot := 3, constantValue := 0 }]
  methods := #[k10m0, k10m1, k10m2, k10m3]
  instanceTypes := #[]
  staticTypes := #[.int, .int, .int, .boolean]
  resolved := Array.replicate 635 none
  statics := none }

def pool11 : Array CpInfo := pool [(2, .class_ 4), (1, u "java/lang/Object"), (0, u "<init>"), (0, u "()V"), (35, .class_ 44), (1, u "java/util/Objects"), (0, u "requireNonNull"), (48, u "(Ljava/lang/Object;Ljava/lang/String;)Ljava/lang/Object;")] 89

def k11m0 : Method := { name := "<init>", desc := "()V", sig := { parameters := [], returnType := none }, accessFlags := 2, code := none }
def k11c1 : Code := { maxStack := 3, maxLocals := 2, code := jdk_31_method_11_code, exceptionTable := #[], attributes := #[] }
def k11m1 : Method := { name := "requireNonNull", desc := "(Ljava/lang/Object;Ljava/lang/String;)Ljava/lang/Object;", sig := { parameters := [(.object "java/lang/Object"), (.object "java/lang/String")], returnType := some (.object "java/lang/Object") }, accessFlags := 9, code := some k11c1 }
/-- java/util/Objects -/
def k11 : Class := { plain "java/util/Objects" (some 0) with
  accessFlags := 49
  interfaces := #[]
  cf := some (fileOf pool11 42 #[] #[{ accessFlags := 2, nameIndex := 5, descriptorIndex := 6, attributes := #[] }, { accessFlags := 9, nameIndex := 45, descriptorIndex := 94, attributes := #[] }] 49 2 #[] #[])
  fields := #[]
  methods := #[k11m0, k11m1]
  instanceTypes := #[]
  staticTypes := #[]
  resolved := Array.replicate 184 none
  statics := none }

def pool12 : Array CpInfo := pool [(1, .class_ 2), (0, u "java/lang/Cloneable"), (0, .class_ 4), (0, u "java/lang/Object")] 2

/-- java/lang/Cloneable -/
def k12 : Class := { plain "java/lang/Cloneable" (some 0) with
  accessFlags := 1537
  interfaces := #[]
  cf := some (fileOf pool12 1 #[] #[] 1537 3 #[] #[])
  fields := #[]
  methods := #[]
  instanceTypes := #[]
  staticTypes := #[]
  resolved := Array.replicate 7 none
  statics := none }

def pool13 : Array CpInfo := pool [(4, .class_ 6), (1, u "java/lang/Object"), (0, u "<init>"), (0, u "()V"), (5, .class_ 16), (1, u "java/lang/StringLatin1"), (104, u "$assertionsDisabled"), (0, u "Z"), (98, .class_ 223), (1, u "java/lang/StringLatin1$LinesSpliterator"), (57, u "equals"), (0, u "([B[B)Z"), (107, .class_ 391), (0, u "java/lang/StringLatin1$CharsSpliterator")] 3

def k13m0 : Method := { name := "<init>", desc := "()V", sig := { parameters := [], returnType := none }, accessFlags := 0, code := none }
def k13c1 : Code := { maxStack := 3, maxLocals := 3, code := jdk_43_method_13_code, exceptionTable := #[], attributes := #[] }
def k13m1 : Method := { name := "equals", desc := "([B[B)Z", sig := { parameters := [(.array .byte), (.array .byte)], returnType := some .boolean }, accessFlags := 9, code := some k13c1 }
/-- java/lang/StringLatin1 -/
def k13 : Class := { plain "java/lang/StringLatin1" (some 0) with
  accessFlags := 48
  interfaces := #[]
  cf := some (fileOf pool13 14 #[.nestMembers #[390, 221]] #[{ accessFlags := 0, nameIndex := 7, descriptorIndex := 8, attributes := #[] }, { accessFlags := 9, nameIndex := 281, descriptorIndex := 282, attributes := #[] }] 48 4 #[] #[{ accessFlags := 4120, nameIndex := 121, descriptorIndex := 122, attributes := #[] }])
  fields := #[{ name := "$assertionsDisabled", type := .boolean, accessFlags := 4120, slot := 0, constantValue := 0 }]
  methods := #[k13m0, k13m1]
  instanceTypes := #[]
  staticTypes := #[.boolean]
  resolved := Array.replicate 395 none
  statics := none }

def pool14 : Array CpInfo := pool [(2, .class_ 4), (1, u "java/lang/Object"), (0, u "<init>"), (0, u "()V"), (17, .class_ 26), (1, u "jdk/internal/util/Preconditions"), (28, .class_ 56), (0, u "jdk/internal/util/Preconditions$4"), (57, .class_ 115), (0, u "jdk/internal/util/Preconditions$1"), (7, u "SIOOBE_FORMATTER"), (0, u "Ljava/util/function/BiFunction;"), (0, .class_ 126), (0, u "jdk/internal/util/Preconditions$2"), (3, u "AIOOBE_FORMATTER"), (0, .class_ 132), (0, u "jdk/internal/util/Preconditions$3"), (3, u "IOOBE_FORMATTER")] 57

def k14m0 : Method := { name := "<init>", desc := "()V", sig := { parameters := [], returnType := none }, accessFlags := 1, code := none }
/-- jdk/internal/util/Preconditions -/
def k14 : Class := { plain "jdk/internal/util/Preconditions" (some 0) with
  accessFlags := 33
  interfaces := #[]
  cf := some (fileOf pool14 24 #[.nestMembers #[55, 131, 125, 114]] #[{ accessFlags := 1, nameIndex := 5, descriptorIndex := 6, attributes := #[] }] 33 2 #[] #[{ accessFlags := 25, nameIndex := 123, descriptorIndex := 124, attributes := #[] }, { accessFlags := 25, nameIndex := 130, descriptorIndex := 124, attributes := #[] }, { accessFlags := 25, nameIndex := 136, descriptorIndex := 124, attributes := #[] }])
  fields := #[{ name := "SIOOBE_FORMATTER", type := (.object "java/util/function/BiFunction"), accessFlags := 25, slot := 0, constantValue := 0 }, { name := "AIOOBE_FORMATTER", type := (.object "java/util/function/BiFunction"), accessFlags := 25, slot := 1, constantValue := 0 }, { name := "IOOBE_FORMATTER", type := (.object "java/util/function/BiFunction"), accessFlags := 25, slot := 2, constantValue := 0 }]
  methods := #[k14m0]
  instanceTypes := #[]
  staticTypes := #[(.object "java/util/function/BiFunction"), (.object "java/util/function/BiFunction"), (.object "java/util/function/BiFunction")]
  resolved := Array.replicate 194 none
  statics := some 2 }

def pool15 : Array CpInfo := pool [(9, u "<init>"), (6, .class_ 18), (1, u "java/lang/Object"), (0, u "()V"), (1, .class_ 23), (1, u "jdk/internal/util/ArraysSupport"), (0, u "LOG2_ARRAY_LONG_INDEX_SCALE"), (0, u "I"), (2, u "U"), (0, u "Ljdk/internal/misc/Unsafe;"), (8, u "BIG_ENDIAN"), (0, u "Z"), (8, u "LOG2_BYTE_BIT_SIZE"), (4, u "LOG2_ARRAY_INT_INDEX_SCALE"), (54, u "JLA"), (0, u "Ljdk/internal/access/JavaLangAccess;"), (11, u "LOG2_ARRAY_BOOLEAN_INDEX_SCALE"), (9, u "LOG2_ARRAY_BYTE_INDEX_SCALE"), (5, u "LOG2_ARRAY_CHAR_INDEX_SCALE"), (5, u "LOG2_ARRAY_SHORT_INDEX_SCALE"), (18, u "LOG2_ARRAY_FLOAT_INDEX_SCALE"), (24, u "LOG2_ARRAY_DOUBLE_INDEX_SCALE"), (89, u "T_BOOLEAN"), (2, u "T_CHAR"), (1, u "T_FLOAT"), (1, u "T_DOUBLE"), (1, u "T_BYTE"), (1, u "T_SHORT"), (1, u "T_INT"), (1, u "T_LONG"), (1, u "SOFT_MAX_ARRAY_LENGTH")] 83

def k15m0 : Method := { name := "<init>", desc := "()V", sig := { parameters := [], returnType := none }, accessFlags := 2, code := none }
/-- jdk/internal/util/ArraysSupport -/
def k15 : Class := { plain "jdk/internal/util/ArraysSupport" (some 0) with
  accessFlags := 33
  interfaces := #[]
  cf := some (fileOf pool15 21 #[] #[{ accessFlags := 2, nameIndex := 9, descriptorIndex := 19, attributes := #[] }] 33 16 #[] #[{ accessFlags := 24, nameIndex := 28, descriptorIndex := 29, attributes := #[] }, { accessFlags := 26, nameIndex := 38, descriptorIndex := 39, attributes := #[] }, { accessFlags := 25, nameIndex := 121, descriptorIndex := 25, attributes := #[] }, { accessFlags := 25, nameIndex := 131, descriptorIndex := 25, attributes := #[] }, { accessFlags := 25, nameIndex := 137, descriptorIndex := 25, attributes := #[] }, { accessFlags := 25, nameIndex := 143, descriptorIndex := 25, attributes := #[] }, { accessFlags := 25, nameIndex := 53, descriptorIndex := 25, attributes := #[] }, { accessFlags := 25, nameIndex := 24, descriptorIndex := 25, attributes := #[] }, { accessFlags := 25, nameIndex := 162, descriptorIndex := 25, attributes := #[] }, { accessFlags := 25, nameIndex := 187, descriptorIndex := 25, attributes := #[] }, { accessFlags := 26, nameIndex := 48, descriptorIndex := 25, attributes := #[] }, { accessFlags := 25, nameIndex := 277, descriptorIndex := 25, attributes := #[] }, { accessFlags := 25, nameIndex := 280, descriptorIndex := 25, attributes := #[] }, { accessFlags := 25, nameIndex := 282, descriptorIndex := 25, attributes := #[] }, { accessFlags := 25, nameIndex := 284, descriptorIndex := 25, attributes := #[] }, { accessFlags := 25, nameIndex := 286, descriptorIndex := 25, attributes := #[] }, { accessFlags := 25, nameIndex := 288, descriptorIndex := 25, attributes := #[] }, { accessFlags := 25, nameIndex := 290, descriptorIndex := 25, attributes := #[] }, { accessFlags := 25, nameIndex := 292, descriptorIndex := 25, attributes := #[] }, { accessFlags := 26, nameIndex := 108, descriptorIndex := 109, attributes := #[] }, { accessFlags := 25, nameIndex := 294, descriptorIndex := 25, attributes := #[] }])
  fields := #[{ name := "U", type := (.object "jdk/internal/misc/Unsafe"), accessFlags := 24, slot := 0, constantValue := 0 }, { name := "BIG_ENDIAN", type := .boolean, accessFlags := 26, slot := 1, constantValue := 0 }, { name := "LOG2_ARRAY_BOOLEAN_INDEX_SCALE", type := .int, accessFlags := 25, slot := 2, constantValue := 0 }, { name := "LOG2_ARRAY_BYTE_INDEX_SCALE", type := .int, accessFlags := 25, slot := 3, constantValue := 0 }, { name := "LOG2_ARRAY_CHAR_INDEX_SCALE", type := .int, accessFlags := 25, slot := 4, constantValue := 0 }, { name := "LOG2_ARRAY_SHORT_INDEX_SCALE", type := .int, accessFlags := 25, slot := 5, constantValue := 0 }, { name := "LOG2_ARRAY_INT_INDEX_SCALE", type := .int, accessFlags := 25, slot := 6, constantValue := 0 }, { name := "LOG2_ARRAY_LONG_INDEX_SCALE", type := .int, accessFlags := 25, slot := 7, constantValue := 0 }, { name := "LOG2_ARRAY_FLOAT_INDEX_SCALE", type := .int, accessFlags := 25, slot := 8, constantValue := 0 }, { name := "LOG2_ARRAY_DOUBLE_INDEX_SCALE", type := .int, accessFlags := 25, slot := 9, constantValue := 0 }, { name := "LOG2_BYTE_BIT_SIZE", type := .int, accessFlags := 26, slot := 10, constantValue := 0 }, { name := "T_BOOLEAN", type := .int, accessFlags := 25, slot := 11, constantValue := 0 }, { name := "T_CHAR", type := .int, accessFlags := 25, slot := 12, constantValue := 0 }, { name := "T_FLOAT", type := .int, accessFlags := 25, slot := 13, constantValue := 0 }, { name := "T_DOUBLE", type := .int, accessFlags := 25, slot := 14, constantValue := 0 }, { name := "T_BYTE", type := .int, accessFlags := 25, slot := 15, constantValue := 0 }, { name := "T_SHORT", type := .int, accessFlags := 25, slot := 16, constantValue := 0 }, { name := "T_INT", type := .int, accessFlags := 25, slot := 17, constantValue := 0 }, { name := "T_LONG", type := .int, accessFlags := 25, slot := 18, constantValue := 0 }, { name := "JLA", type := (.object "jdk/internal/access/JavaLangAccess"), accessFlags := 26, slot := 19, constantValue := 0 }, { name := "SOFT_MAX_ARRAY_LENGTH", type := .int, accessFlags := 25, slot := 20, constantValue := 0 }]
  methods := #[k15m0]
  instanceTypes := #[]
  staticTypes := #[(.object "jdk/internal/misc/Unsafe"), .boolean, .int, .int, .int, .int, .int, .int, .int, .int, .int, .int, .int, .int, .int, .int, .int, .int, .int, (.object "jdk/internal/access/JavaLangAccess"), .int]
  resolved := Array.replicate 378 none
  statics := none }

/-- the primitive byte -/
def k16 : Class := { plain "byte" none with kind := .primitive 'B', accessFlags := 0x411 }
/-- [B -/
def k17 : Class := { plain "[B" (some 0) with kind := .array 16 .byte, interfaces := #[12, 4], accessFlags := 1041 }

/-- the primitive char -/
def k18 : Class := { plain "char" none with kind := .primitive 'C', accessFlags := 0x411 }
/-- [C -/
def k19 : Class := { plain "[C" (some 0) with kind := .array 18 .char, interfaces := #[12, 4], accessFlags := 1041 }

/-- the primitive int -/
def k20 : Class := { plain "int" none with kind := .primitive 'I', accessFlags := 0x411 }
/-- [I -/
def k21 : Class := { plain "[I" (some 0) with kind := .array 20 .int, interfaces := #[12, 4], accessFlags := 1041 }

/-- [Lcom/example/cheapside/cheapside/core/Granularity; -/
def k22 : Class := { plain "[Lcom/example/cheapside/cheapside/core/Granularity;" (some 0) with kind := .array 6 (.object "com/example/cheapside/cheapside/core/Granularity"), interfaces := #[12, 4], accessFlags := 1041 }

def heap : Heap := #[{ cls := 6, slots := #[.ref 4, .ref 5, .ref 6, .ref 3], vm := .statics 6 },
  { cls := 9, slots := #[.long 0, .int 1, .null, .int 0, .null, .int 0, .int 0], vm := .statics 9 },
  { cls := 14, slots := #[.null, .null, .null], vm := .statics 14 },
  { cls := 22, slots := #[.ref 4, .ref 5, .ref 6], vm := .none },
  { cls := 6, slots := #[.null, .int 0, .int 0, .ref 7], vm := .none },
  { cls := 6, slots := #[.null, .int 1, .int 0, .ref 8], vm := .none },
  { cls := 6, slots := #[.null, .int 2, .int 0, .ref 9], vm := .none },
  { cls := 9, slots := #[.ref 10, .int 0, .int 0, .int 0], vm := .none },
  { cls := 9, slots := #[.ref 11, .int 0, .int 0, .int 0], vm := .none },
  { cls := 9, slots := #[.ref 12, .int 0, .int 0, .int 0], vm := .none },
  { cls := 17, slots := #[.int 104, .int 111, .int 117, .int 114], vm := .none },
  { cls := 17, slots := #[.int 100, .int 97, .int 121], vm := .none },
  { cls := 17, slots := #[.int 116, .int 111, .int 116, .int 97, .int 108], vm := .none }]
def classes : Array Class := #[k0, k1, k2, k3, k4, k5, k6, k7, k8, k9, k10, k11, k12, k13, k14, k15, k16, k17, k18, k19, k20, k21, k22]
def interned : List (Array UInt16 × Addr) := []
def slotsUsed : Nat := 53
def theMethod : MethodId := ⟨1, 1⟩
def args0 : Array Value := #[.int 4]
def aboutOver (below : List Frame) : State where
  vm := { classes := classes, interned := interned.toArray }
  heap := heap
  slotsUsed := slotsUsed
  threads := #[{ frames := .invoking theMethod args0 :: below }]
def below0 : List Frame := [.native { method := ⟨0, 0⟩, args := #[] }]
def about1 : State := aboutOver below0
def p0 : Program := .bare "" "" ""
def e0 : Env := launch0.env 0 0 0
theorem w_frames : about1.frames = Frame.invoking theMethod args0 :: below0 := rfl
set_option maxRecDepth 65536 in
theorem w_args : argsFit about1.vm theMethod args0 = true := by decide +kernel
set_option maxRecDepth 65536 in
theorem w_heap : heapFits about1 = true := by decide +kernel
set_option maxRecDepth 65536 in
theorem w_runnable : about1.curStatus? = some .runnable := by decide +kernel
set_option maxRecDepth 65536 in
theorem w_alone : about1.alone = true := by decide +kernel
set_option maxRecDepth 65536 in
theorem w_named : about1.methodNamed? x = some theMethod := by decide +kernel
set_option maxRecDepth 65536 in
theorem w_hears : about1.hears theMethod below0 = true := by decide +kernel
set_option maxRecDepth 65536 in
theorem w_ripe : about1.ripe theMethod args0 below0 = true := by decide +kernel
theorem w_running : about1.status = .running := rfl
set_option maxRecDepth 65536 in
theorem w_room : about1.hasRoom e0.platform room_1 = true :=
  launch0.hasRoom_least _ room_1 (by decide +kernel) (by decide +kernel) (by decide +kernel) (by decide +kernel) (by decide +kernel) (by decide +kernel)
theorem allAtoms_all (ts : List Jvm.Cond) (a : Array Jvm.Value) (st : Jvm.State) : (allAtoms ts).before a st = ts.all (fun c => c.before a st) := by
  induction ts with
  | nil => rfl
  | cons c t ih =>
    show (Jvm.Cond.and c (allAtoms t)).before a st = _
    rw [Jvm.Cond.before_and, ih, List.all_cons]
def words1 : List Jvm.Cond := Jvm.Cond.code x code maxLocals ret :: tables_1
/-- a 'code' word, met by the world's own term for the bytes: nothing is compared byte by byte -/
theorem code_word {y : MethodName} {bytes : ByteArray} {mx : Nat} {rt : Option FieldType} {a : Array Value} {s : State} {m : MethodId} {meth : Method} {c : Code} (h1 : s.methodNamed? y = some m) (h2 : s.vm.method? m = some meth) (h3 : meth.code = some c) (h4 : c.code = bytes)
    (h5 : (c.maxLocals == mx && c.exceptionTable.isEmpty && decide (c.maxStack ≤ mostOperands) && decide (meth.sig.returnType = rt) && !meth.locks && decide (parseMethodDescriptor y.desc = some meth.sig)) = true) : (Jvm.Cond.code y bytes mx rt).before a s = true := by
  simp only [Bool.and_eq_true, beq_iff_eq, Bool.not_eq_true', decide_eq_true_eq] at h5
  obtain ⟨⟨⟨⟨⟨g1, g2⟩, g3⟩, g4⟩, g5⟩, g6⟩ := h5
  simp [Cond.before, Cond.holds, Cond.value, h1, h2, h3, h4, g1, g2, g3, g4, g5, g6]
def isCode : Jvm.Cond → Bool
  | .code _ _ _ _ => true
  | _ => false
theorem all_split {L : List Jvm.Cond} {P : Jvm.Cond → Bool} (h1 : L.all (fun c => isCode c || P c) = true) (h2 : ∀ c ∈ L.filter isCode, P c = true) : L.all P = true := by
  refine List.all_eq_true.mpr fun c hc => ?_
  have h := List.all_eq_true.mp h1 c hc
  rcases Bool.eq_false_or_eq_true (isCode c) with hi | hi
  · exact h2 c (List.mem_filter.mpr ⟨hc, hi⟩)
  · simpa [hi] using h
set_option maxRecDepth 65536 in
theorem w_c0 : (Jvm.Cond.code x code maxLocals ret).before args0 about1 = true := code_word (m := ⟨1, 1⟩) (meth := k1m1) (c := k1c1) (by decide +kernel) rfl rfl rfl (by decide +kernel)
set_option maxRecDepth 65536 in
theorem w_c1 : (Jvm.Cond.code ({ cls := "java/lang/String", name := "<init>", desc := "([C)V" } : Jvm.MethodName) jdk_42_method_3_code (2 : Nat) (Option.none : Option Jvm.ClassFile.FieldType)).before args0 about1 = true := code_word (m := ⟨9, 1⟩) (meth := k9m1) (c := k9c1) (by decide +kernel) rfl rfl rfl (by decide +kernel)
set_option maxRecDepth 65536 in
theorem w_c2 : (Jvm.Cond.code ({ cls := "java/lang/String", name := "<init>", desc := "([CIILjava/lang/Void;)V" } : Jvm.MethodName) jdk_42_method_149_code (6 : Nat) (Option.none : Option Jvm.ClassFile.FieldType)).before args0 about1 = true := code_word (m := ⟨9, 3⟩) (meth := k9m3) (c := k9c3) (by decide +kernel) rfl rfl rfl (by decide +kernel)
set_option maxRecDepth 65536 in
theorem w_c3 : (Jvm.Cond.code ({ cls := "java/lang/Object", name := "<init>", desc := "()V" } : Jvm.MethodName) object_method_1_code (1 : Nat) (Option.none : Option Jvm.ClassFile.FieldType)).before args0 about1 = true := code_word (m := ⟨0, 0⟩) (meth := k0m0) (c := k0c0) (by decide +kernel) rfl rfl rfl (by decide +kernel)
set_option maxRecDepth 65536 in
theorem w_c4 : (Jvm.Cond.code ({ cls := "java/lang/StringUTF16", name := "compress", desc := "([CII)[B" } : Jvm.MethodName) jdk_52_method_16_code (6 : Nat) (Option.some (Jvm.ClassFile.FieldType.array Jvm.ClassFile.FieldType.byte))).before args0 about1 = true := code_word (m := ⟨10, 2⟩) (meth := k10m2) (c := k10c2) (by decide +kernel) rfl rfl rfl (by decide +kernel)
set_option maxRecDepth 65536 in
theorem w_c5 : (Jvm.Cond.code ({ cls := "java/lang/StringUTF16", name := "compress", desc := "([CI[BII)I" } : Jvm.MethodName) jdk_52_method_21_code (7 : Nat) (Option.some Jvm.ClassFile.FieldType.int)).before args0 about1 = true := code_word (m := ⟨10, 3⟩) (meth := k10m3) (c := k10c3) (by decide +kernel) rfl rfl rfl (by decide +kernel)
set_option maxRecDepth 65536 in
theorem w_c6 : (Jvm.Cond.code ({ cls := "java/lang/StringUTF16", name := "coderFromArrayLen", desc := "([BI)B" } : Jvm.MethodName) jdk_52_method_15_code (2 : Nat) (Option.some Jvm.ClassFile.FieldType.byte)).before args0 about1 = true := code_word (m := ⟨10, 1⟩) (meth := k10m1) (c := k10c1) (by decide +kernel) rfl rfl rfl (by decide +kernel)
set_option maxRecDepth 65536 in
theorem w_c7 : (Jvm.Cond.code ({ cls := "com/example/cheapside/cheapside/core/Granularity", name := "ofLabel", desc := "(Ljava/lang/String;)Lcom/example/cheapside/cheapside/core/Granularity;" } : Jvm.MethodName) prog_4_method_4_code (5 : Nat) (Option.some (Jvm.ClassFile.FieldType.object "com/example/cheapside/cheapside/core/Granularity"))).before args0 about1 = true := code_word (m := ⟨6, 1⟩) (meth := k6m1) (c := k6c1) (by decide +kernel) rfl rfl rfl (by decide +kernel)
set_option maxRecDepth 65536 in
theorem w_c8 : (Jvm.Cond.code ({ cls := "java/util/Objects", name := "requireNonNull", desc := "(Ljava/lang/Object;Ljava/lang/String;)Ljava/lang/Object;" } : Jvm.MethodName) jdk_31_method_11_code (2 : Nat) (Option.some (Jvm.ClassFile.FieldType.object "java/lang/Object"))).before args0 about1 = true := code_word (m := ⟨11, 1⟩) (meth := k11m1) (c := k11c1) (by decide +kernel) rfl rfl rfl (by decide +kernel)
set_option maxRecDepth 65536 in
theorem w_c9 : (Jvm.Cond.code ({ cls := "com/example/cheapside/cheapside/core/Granularity", name := "values", desc := "()[Lcom/example/cheapside/cheapside/core/Granularity;" } : Jvm.MethodName) prog_4_method_1_code (0 : Nat) (Option.some (Jvm.ClassFile.FieldType.array (Jvm.ClassFile.FieldType.object "com/example/cheapside/cheapside/core/Granularity")))).before args0 about1 = true := code_word (m := ⟨6, 0⟩) (meth := k6m0) (c := k6c0) (by decide +kernel) rfl rfl rfl (by decide +kernel)
set_option maxRecDepth 65536 in
theorem w_c10 : (Jvm.Cond.code ({ cls := "java/lang/String", name := "equals", desc := "(Ljava/lang/Object;)Z" } : Jvm.MethodName) jdk_42_method_66_code (3 : Nat) (Option.some Jvm.ClassFile.FieldType.boolean)).before args0 about1 = true := code_word (m := ⟨9, 2⟩) (meth := k9m2) (c := k9c2) (by decide +kernel) rfl rfl rfl (by decide +kernel)
set_option maxRecDepth 65536 in
theorem w_c11 : (Jvm.Cond.code ({ cls := "java/lang/StringLatin1", name := "equals", desc := "([B[B)Z" } : Jvm.MethodName) jdk_43_method_13_code (3 : Nat) (Option.some Jvm.ClassFile.FieldType.boolean)).before args0 about1 = true := code_word (m := ⟨13, 1⟩) (meth := k13m1) (c := k13c1) (by decide +kernel) rfl rfl rfl (by decide +kernel)
set_option maxRecDepth 65536 in
theorem w_c12 : (Jvm.Cond.code ({ cls := "com/example/cheapside/cheapside/core/Granularity", name := "label", desc := "()Ljava/lang/String;" } : Jvm.MethodName) prog_4_method_5_code (1 : Nat) (Option.some (Jvm.ClassFile.FieldType.object "java/lang/String"))).before args0 about1 = true := code_word (m := ⟨6, 2⟩) (meth := k6m2) (c := k6c2) (by decide +kernel) rfl rfl rfl (by decide +kernel)
def codes1 : List Jvm.Cond := [Jvm.Cond.code x code maxLocals ret, Jvm.Cond.code ({ cls := "java/lang/String", name := "<init>", desc := "([C)V" } : Jvm.MethodName) jdk_42_method_3_code (2 : Nat) (Option.none : Option Jvm.ClassFile.FieldType), Jvm.Cond.code ({ cls := "java/lang/String", name := "<init>", desc := "([CIILjava/lang/Void;)V" } : Jvm.MethodName) jdk_42_method_149_code (6 : Nat) (Option.none : Option Jvm.ClassFile.FieldType), Jvm.Cond.code ({ cls := "java/lang/Object", name := "<init>", desc := "()V" } : Jvm.MethodName) object_method_1_code (1 : Nat) (Option.none : Option Jvm.ClassFile.FieldType), Jvm.Cond.code ({ cls := "java/lang/StringUTF16", name := "compress", desc := "([CII)[B" } : Jvm.MethodName) jdk_52_method_16_code (6 : Nat) (Option.some (Jvm.ClassFile.FieldType.array Jvm.ClassFile.FieldType.byte)), Jvm.Cond.code ({ cls := "java/lang/StringUTF16", name := "compress", desc := "([CI[BII)I" } : Jvm.MethodName) jdk_52_method_21_code (7 : Nat) (Option.some Jvm.ClassFile.FieldType.int), Jvm.Cond.code ({ cls := "java/lang/StringUTF16", name := "coderFromArrayLen", desc := "([BI)B" } : Jvm.MethodName) jdk_52_method_15_code (2 : Nat) (Option.some Jvm.ClassFile.FieldType.byte), Jvm.Cond.code ({ cls := "com/example/cheapside/cheapside/core/Granularity", name := "ofLabel", desc := "(Ljava/lang/String;)Lcom/example/cheapside/cheapside/core/Granularity;" } : Jvm.MethodName) prog_4_method_4_code (5 : Nat) (Option.some (Jvm.ClassFile.FieldType.object "com/example/cheapside/cheapside/core/Granularity")), Jvm.Cond.code ({ cls := "java/util/Objects", name := "requireNonNull", desc := "(Ljava/lang/Object;Ljava/lang/String;)Ljava/lang/Object;" } : Jvm.MethodName) jdk_31_method_11_code (2 : Nat) (Option.some (Jvm.ClassFile.FieldType.object "java/lang/Object")), Jvm.Cond.code ({ cls := "com/example/cheapside/cheapside/core/Granularity", name := "values", desc := "()[Lcom/example/cheapside/cheapside/core/Granularity;" } : Jvm.MethodName) prog_4_method_1_code (0 : Nat) (Option.some (Jvm.ClassFile.FieldType.array (Jvm.ClassFile.FieldType.object "com/example/cheapside/cheapside/core/Granularity"))), Jvm.Cond.code ({ cls := "java/lang/String", name := "equals", desc := "(Ljava/lang/Object;)Z" } : Jvm.MethodName) jdk_42_method_66_code (3 : Nat) (Option.some Jvm.ClassFile.FieldType.boolean), Jvm.Cond.code ({ cls := "java/lang/StringLatin1", name := "equals", desc := "([B[B)Z" } : Jvm.MethodName) jdk_43_method_13_code (3 : Nat) (Option.some Jvm.ClassFile.FieldType.boolean), Jvm.Cond.code ({ cls := "com/example/cheapside/cheapside/core/Granularity", name := "label", desc := "()Ljava/lang/String;" } : Jvm.MethodName) prog_4_method_5_code (1 : Nat) (Option.some (Jvm.ClassFile.FieldType.object "java/lang/String"))]
set_option maxRecDepth 65536 in
theorem codes_eq : words1.filter isCode = codes1 := rfl
theorem w_codes : ∀ c ∈ words1.filter isCode, c.before args0 about1 = true := by
  rw [codes_eq]
  intro c hc
  simp only [codes1, List.mem_cons, List.not_mem_nil, or_false] at hc
  rcases hc with rfl | rfl | rfl | rfl | rfl | rfl | rfl | rfl | rfl | rfl | rfl | rfl | rfl
  · exact w_c0
  · exact w_c1
  · exact w_c2
  · exact w_c3
  · exact w_c4
  · exact w_c5
  · exact w_c6
  · exact w_c7
  · exact w_c8
  · exact w_c9
  · exact w_c10
  · exact w_c11
  · exact w_c12
set_option maxRecDepth 65536 in
theorem w_t1 : (words1.take 24).all (fun c => isCode c || c.before args0 about1) = true := by decide +kernel
set_option maxRecDepth 65536 in
theorem w_t2 : ((words1.drop 24).take 24).all (fun c => isCode c || c.before args0 about1) = true := by decide +kernel
set_option maxRecDepth 65536 in
theorem w_t3 : (((words1.drop 24).drop 24).take 24).all (fun c => isCode c || c.before args0 about1) = true := by decide +kernel
set_option maxRecDepth 65536 in
theorem w_t4 : (((words1.drop 24).drop 24).drop 24).all (fun c => isCode c || c.before args0 about1) = true := by decide +kernel
theorem w_tables : (allAtoms (Jvm.Cond.code x code maxLocals ret :: tables_1)).before args0 about1 = true := by
  rw [allAtoms_all]
  show words1.all (fun c => c.before args0 about1) = true
  refine all_split ?_ w_codes
  rw [← List.take_append_drop 24 words1, List.all_append, w_t1, ← List.take_append_drop 24 (words1.drop 24), List.all_append, w_t2, ← List.take_append_drop 24 ((words1.drop 24).drop 24), List.all_append, w_t3, w_t4]
  rfl
set_option maxRecDepth 65536 in
theorem w_rest : rest_1_c.before args0 about1 = true := by decide +kernel
set_option maxRecDepth 65536 in
theorem w_case : (Jvm.Cond.and given_1 narrow_1).before args0 about1 = true := by decide +kernel
theorem w_applies : (headSpec (Jvm.Cond.code x code maxLocals ret :: tables_1) room_1).applies x e0.platform about1 = true :=
  (Spec.applies_iff w_frames).mpr ⟨w_running, w_runnable, w_alone, w_named, w_hears, w_ripe, w_room, w_tables⟩
theorem atStart : AtStart classFile x code maxLocals ret World_1 tables_1 room_1 Calls_1 rest_1 Pre_1 launch0 p0 e0 about1 theMethod args0 below0 :=
  ⟨lists_1, trivial, launch0.admits_env _ _ _, launch0.least_env, fairChoices_fair.cas, fairChoices_fair.clock, w_frames, w_args, w_heap, w_applies, trivial, w_rest, w_case⟩
end start1
theorem witness_1 : WitnessClaimed_1 := ⟨start1.p0, start1.e0, start1.about1, start1.theMethod, start1.args0, start1.below0, start1.atStart⟩
end Jvm.Pilot.@@N@@

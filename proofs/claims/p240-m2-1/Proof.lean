import JvmDerived
import JvmDerived.Pilot.@@N@@Statement
import JvmDerived.Pilot.@@N@@Code
set_option linter.unusedVariables false
set_option linter.unusedSimpArgs false
namespace Jvm.Pilot.@@N@@
open Jvm Jvm.ClassFile Sem Op Lib Jvm.Free Jvm.Stand Jvm.LawKit Jvm.RoadKit Bundle Jvm.Pilot.@@N@@.Jvm.D
abbrev Gets (p : Program) (e : Env) (below : List Frame) (S0 S : State) : Prop := ∀ t, Steps p.tables e below S t → Steps p.tables e below S0 t
section Own
variable {p : Program} {e : Env} {below : List Frame} {S0 T : State} {m : MethodId} {c : Code} {pc q : Nat} {Ls : Array Slot} {st : List Value}
theorem own_iadd {x y v : Int32} (G : Gets p e below S0 (T.setTop (mkF m pc Ls (.int y :: .int x :: st)))) (h : At T m c below) (hx : p.tables.exec = Jvm.exec) (hd : decode c.code pc = .ok (.iadd, 1)) (hv : x + y = v) (hq : pc + 1 = q) : Gets p e below S0 (T.setTop (mkF m q Ls (.int v :: st))) := by
  subst hv hq; exact fun t k => G t (XS.iadd h hx rfl hd rfl k)
theorem own_isub {x y v : Int32} (G : Gets p e below S0 (T.setTop (mkF m pc Ls (.int y :: .int x :: st)))) (h : At T m c below) (hx : p.tables.exec = Jvm.exec) (hd : decode c.code pc = .ok (.isub, 1)) (hv : x - y = v) (hq : pc + 1 = q) : Gets p e below S0 (T.setTop (mkF m q Ls (.int v :: st))) := by
  subst hv hq; exact fun t k => G t (XS.isub h hx rfl hd rfl k)
theorem own_iand {x y v : Int32} (G : Gets p e below S0 (T.setTop (mkF m pc Ls (.int y :: .int x :: st)))) (h : At T m c below) (hx : p.tables.exec = Jvm.exec) (hd : decode c.code pc = .ok (.iand, 1)) (hv : x &&& y = v) (hq : pc + 1 = q) : Gets p e below S0 (T.setTop (mkF m q Ls (.int v :: st))) := by
  subst hv hq; exact fun t k => G t (XS.iand h hx rfl hd rfl k)
theorem own_lsub {x y v : Int64} (G : Gets p e below S0 (T.setTop (mkF m pc Ls (.long y :: .long x :: st)))) (h : At T m c below) (hx : p.tables.exec = Jvm.exec) (hd : decode c.code pc = .ok (.lsub, 1)) (hv : x - y = v) (hq : pc + 1 = q) : Gets p e below S0 (T.setTop (mkF m q Ls (.long v :: st))) := by
  subst hv hq; exact fun t k => G t (XS.lsub h hx rfl hd rfl k)
theorem own_lmul {x y v : Int64} (G : Gets p e below S0 (T.setTop (mkF m pc Ls (.long y :: .long x :: st)))) (h : At T m c below) (hx : p.tables.exec = Jvm.exec) (hd : decode c.code pc = .ok (.lmul, 1)) (hv : x * y = v) (hq : pc + 1 = q) : Gets p e below S0 (T.setTop (mkF m q Ls (.long v :: st))) := by
  subst hv hq; exact fun t k => G t (XS.lmul h hx rfl hd rfl k)
theorem own_idiv {x y v : Int32} (G : Gets p e below S0 (T.setTop (mkF m pc Ls (.int y :: .int x :: st)))) (h : At T m c below) (hx : p.tables.exec = Jvm.exec) (hd : decode c.code pc = .ok (.idiv, 1)) (hy : y ≠ 0) (hv : x / y = v) (hq : pc + 1 = q) : Gets p e below S0 (T.setTop (mkF m q Ls (.int v :: st))) := by
  subst hv hq; exact fun t k => G t (XS.idiv h hx rfl hd rfl hy k)
theorem own_irem {x y v : Int32} (G : Gets p e below S0 (T.setTop (mkF m pc Ls (.int y :: .int x :: st)))) (h : At T m c below) (hx : p.tables.exec = Jvm.exec) (hd : decode c.code pc = .ok (.irem, 1)) (hy : y ≠ 0) (hv : x % y = v) (hq : pc + 1 = q) : Gets p e below S0 (T.setTop (mkF m q Ls (.int v :: st))) := by
  subst hv hq; exact fun t k => G t (XS.irem h hx rfl hd rfl hy (by rw [Jvm.irem_eq_mod]; exact k))
theorem own_i2l {x : Int32} {v : Int64} (G : Gets p e below S0 (T.setTop (mkF m pc Ls (.int x :: st)))) (h : At T m c below) (hx : p.tables.exec = Jvm.exec) (hd : decode c.code pc = .ok (.i2l, 1)) (hv : (x.toInt64) = v) (hq : pc + 1 = q) : Gets p e below S0 (T.setTop (mkF m q Ls (.long v :: st))) := by
  subst hv hq; exact fun t k => G t (XS.i2l h hx rfl hd rfl k)
theorem own_lcmp {x y : Int64} (G : Gets p e below S0 (T.setTop (mkF m pc Ls (.long y :: .long x :: st)))) (h : At T m c below) (hx : p.tables.exec = Jvm.exec) (hd : decode c.code pc = .ok (.lcmp, 1))  (hq : pc + 1 = q) : Gets p e below S0 (T.setTop (mkF m q Ls (.int (lcmpW x y) :: st))) := by
  subst hq; exact fun t k => G t (XS.lcmp h hx rfl hd rfl k)
theorem own_iconst {i : Int} {v : Int32} (G : Gets p e below S0 (T.setTop (mkF m pc Ls st))) (h : At T m c below) (hx : p.tables.exec = Jvm.exec) (hd : decode c.code pc = .ok (.iconst i, 1)) (hv : Int32.ofInt i = v) (hq : pc + 1 = q) : Gets p e below S0 (T.setTop (mkF m q Ls (.int v :: st))) := by
  subst hv hq; exact fun t k => G t (XS.iconst h hx rfl hd k)
theorem own_sipush {i : Int} {v : Int32} (G : Gets p e below S0 (T.setTop (mkF m pc Ls st))) (h : At T m c below) (hx : p.tables.exec = Jvm.exec) (hd : decode c.code pc = .ok (.sipush i, 3)) (hv : (Int16.ofInt i).toInt32 = v) (hq : pc + 3 = q) : Gets p e below S0 (T.setTop (mkF m q Ls (.int v :: st))) := by
  subst hv hq; exact fun t k => G t (XS.sipush h hx rfl hd k)
theorem own_lconst {i : Fin 2} {v : Int64} (G : Gets p e below S0 (T.setTop (mkF m pc Ls st))) (h : At T m c below) (hx : p.tables.exec = Jvm.exec) (hd : decode c.code pc = .ok (.lconst i, 1)) (hv : Int64.ofNat i = v) (hq : pc + 1 = q) : Gets p e below S0 (T.setTop (mkF m q Ls (.long v :: st))) := by
  subst hv hq; exact fun t k => G t (XS.lconst h hx rfl hd k)
theorem own_iload {i : Nat} {v : Int32} (G : Gets p e below S0 (T.setTop (mkF m pc Ls st))) (h : At T m c below) (hx : p.tables.exec = Jvm.exec) (hd : decode c.code pc = .ok (.iload i, 2)) (hl : Ls[i]? = some (.val (.int v))) (hq : pc + 2 = q) : Gets p e below S0 (T.setTop (mkF m q Ls (.int v :: st))) := by
  subst hq; exact fun t k => G t (XS.iload h hx rfl hd hl k)
theorem own_iloadN {i : Fin 4} {v : Int32} (G : Gets p e below S0 (T.setTop (mkF m pc Ls st))) (h : At T m c below) (hx : p.tables.exec = Jvm.exec) (hd : decode c.code pc = .ok (.iload_n i, 1)) (hl : Ls[i.val]? = some (.val (.int v))) (hq : pc + 1 = q) : Gets p e below S0 (T.setTop (mkF m q Ls (.int v :: st))) := by
  subst hq; exact fun t k => G t (XS.iloadN h hx rfl hd hl k)
theorem own_lload {i : Nat} {v : Int64} (G : Gets p e below S0 (T.setTop (mkF m pc Ls st))) (h : At T m c below) (hx : p.tables.exec = Jvm.exec) (hd : decode c.code pc = .ok (.lload i, 2)) (hl : Ls[i]? = some (.val (.long v))) (hq : pc + 2 = q) : Gets p e below S0 (T.setTop (mkF m q Ls (.long v :: st))) := by
  subst hq; exact fun t k => G t (XS.lload h hx rfl hd hl k)
theorem own_istore {i : Nat} {v : Int32} {l' : Array Slot} (G : Gets p e below S0 (T.setTop (mkF m pc Ls (.int v :: st)))) (h : At T m c below) (hx : p.tables.exec = Jvm.exec) (hd : decode c.code pc = .ok (.istore i, 2)) (hl : storeLocals Ls i (.int v) = some l') (hq : pc + 2 = q) : Gets p e below S0 (T.setTop (mkF m q l' st)) := by
  subst hq; exact fun t k => G t (XS.istore h hx rfl hd rfl hl k)
theorem own_istoreN {i : Fin 4} {v : Int32} {l' : Array Slot} (G : Gets p e below S0 (T.setTop (mkF m pc Ls (.int v :: st)))) (h : At T m c below) (hx : p.tables.exec = Jvm.exec) (hd : decode c.code pc = .ok (.istore_n i, 1)) (hl : storeLocals Ls i.val (.int v) = some l') (hq : pc + 1 = q) : Gets p e below S0 (T.setTop (mkF m q l' st)) := by
  subst hq; exact fun t k => G t (XS.istoreN h hx rfl hd rfl hl k)
theorem own_lstore {i : Nat} {v : Int64} {l' : Array Slot} (G : Gets p e below S0 (T.setTop (mkF m pc Ls (.long v :: st)))) (h : At T m c below) (hx : p.tables.exec = Jvm.exec) (hd : decode c.code pc = .ok (.lstore i, 2)) (hl : storeLocals Ls i (.long v) = some l') (hq : pc + 2 = q) : Gets p e below S0 (T.setTop (mkF m q l' st)) := by
  subst hq; exact fun t k => G t (XS.lstore h hx rfl hd rfl hl k)
theorem own_goto {o : Int} (G : Gets p e below S0 (T.setTop (mkF m pc Ls st))) (h : At T m c below) (hx : p.tables.exec = Jvm.exec) (hd : decode c.code pc = .ok (.goto o, 3))  (ho : 0 ≤ (pc : Int) + o) (hp : ((pc : Int) + o).toNat = q) : Gets p e below S0 (T.setTop (mkF m q Ls st)) := by
  exact fun t k => G t (XS.goto h hx rfl rfl hd ho hp k)
theorem own_ifYes {cd : ClassFile.Cond} {o : Int} {x : Int32} (G : Gets p e below S0 (T.setTop (mkF m pc Ls (.int x :: st)))) (h : At T m c below) (hx : p.tables.exec = Jvm.exec) (hd : decode c.code pc = .ok (.ifCond cd o, 3)) (hc : ifCond.holds cd x = true) (ho : 0 ≤ (pc : Int) + o) (hp : ((pc : Int) + o).toNat = q) : Gets p e below S0 (T.setTop (mkF m q Ls st)) := by
  exact fun t k => G t (XS.ifYes h hx rfl rfl hd rfl hc ho hp k)
theorem own_ifNo {cd : ClassFile.Cond} {o : Int} {x : Int32} (G : Gets p e below S0 (T.setTop (mkF m pc Ls (.int x :: st)))) (h : At T m c below) (hx : p.tables.exec = Jvm.exec) (hd : decode c.code pc = .ok (.ifCond cd o, 3)) (hc : ifCond.holds cd x = false) (hq : pc + 3 = q) : Gets p e below S0 (T.setTop (mkF m q Ls st)) := by
  subst hq; exact fun t k => G t (XS.ifNo h hx rfl hd rfl hc k)
theorem own_icmpYes {cd : ClassFile.Cond} {o : Int} {x y : Int32} (G : Gets p e below S0 (T.setTop (mkF m pc Ls (.int y :: .int x :: st)))) (h : At T m c below) (hx : p.tables.exec = Jvm.exec) (hd : decode c.code pc = .ok (.if_icmp cd o, 3)) (hc : if_icmp.holds cd x y = true) (ho : 0 ≤ (pc : Int) + o) (hp : ((pc : Int) + o).toNat = q) : Gets p e below S0 (T.setTop (mkF m q Ls st)) := by
  exact fun t k => G t (XS.icmpYes h hx rfl rfl hd rfl hc ho hp k)
theorem own_icmpNo {cd : ClassFile.Cond} {o : Int} {x y : Int32} (G : Gets p e below S0 (T.setTop (mkF m pc Ls (.int y :: .int x :: st)))) (h : At T m c below) (hx : p.tables.exec = Jvm.exec) (hd : decode c.code pc = .ok (.if_icmp cd o, 3)) (hc : if_icmp.holds cd x y = false) (hq : pc + 3 = q) : Gets p e below S0 (T.setTop (mkF m q Ls st)) := by
  subst hq; exact fun t k => G t (XS.icmpNo h hx rfl hd rfl hc k)
end Own

def own_max (x y : Int32) : Int32 := if x < y then y else x
def own_di (y : Int32) : Int32 := if y = 0 then 3000 else own_max 3000 (((400000 + y) - 1) / y)
theorem own_lt {x y : Int32} : x < y ↔ x.toInt < y.toInt := Int32.lt_iff_toInt_lt
theorem own_ltL {x y : Int64} : x < y ↔ x.toInt < y.toInt := Int64.lt_iff_toInt_lt
theorem own_spec (y : Int32) (h : 0 < y.toInt) : 3000 ≤ (own_di y).toInt ∧ (own_di y).toInt ≤ 400000 ∧ 400000 ≤ (own_di y).toInt * y.toInt ∧ ((own_di y).toInt = 3000 ∨ ((own_di y).toInt - 1) * y.toInt < 400000) ∧ (own_di y).toInt * y.toInt ≤ 400000 * y.toInt := by
  have hy : ¬ y = 0 := fun z => by subst z; exact absurd h (by decide)
  have hm : y ≠ -1 := fun z => by subst z; exact absurd h (by decide)
  have hr := rng32 y
  have k3 : (3000 : Int32).toInt = 3000 := rfl
  have a1 := c_iadd 400000 y
  have r1 := rng32 (400000 + y)
  have a2 := c_isub (400000 + y) 1
  have r2 := rng32 (400000 + y - 1)
  rw [show (400000 : Int32).toInt = 400000 from rfl] at a1
  rw [show (1 : Int32).toInt = 1 from rfl] at a2
  obtain ⟨d1, d2⟩ := c_idiv (400000 + y - 1) y y.toInt rfl hm
  unfold own_di
  rw [if_neg hy]
  generalize hq : (400000 + y - 1) / y = q at *
  unfold own_max
  by_cases w : y.toInt ≤ 2147083648
  · have e1 : (400000 + y - 1).toInt = 399999 + y.toInt := by omega
    have e2 := d1 (by omega)
    rw [e1] at e2
    have m1 := Int.mul_ediv_add_emod (399999 + y.toInt) y.toInt
    have m2 := Int.emod_nonneg (399999 + y.toInt) (show y.toInt ≠ 0 by omega)
    have m3 := Int.emod_lt_of_pos (399999 + y.toInt) h
    rw [← e2, Int.mul_comm] at m1
    have m4 : q.toInt ≤ 400000 := by
      rw [e2]
      exact Int.ediv_le_of_le_mul h (by omega)
    have m5 : q.toInt * y.toInt ≤ 400000 * y.toInt := Int.mul_le_mul_of_nonneg_right m4 (by omega)
    have m6 : (q.toInt - 1) * y.toInt = q.toInt * y.toInt - y.toInt := by rw [Int.sub_mul, Int.one_mul]
    by_cases b : (3000 : Int32) < q
    · rw [if_pos b]
      rw [own_lt, k3] at b
      refine ⟨by omega, m4, by omega, Or.inr (by omega), m5⟩
    · rw [if_neg b, k3]
      rw [own_lt, k3] at b
      have m7 : q.toInt * y.toInt ≤ 3000 * y.toInt := Int.mul_le_mul_of_nonneg_right (by omega) (by omega)
      refine ⟨by omega, by omega, by omega, Or.inl rfl, by omega⟩
  · have e1 : (400000 + y - 1).toInt < 0 := by omega
    have e2 := d2 e1
    have m1 : 0 ≤ (-(400000 + y - 1).toInt) / y.toInt := Int.ediv_nonneg (by omega) (by omega)
    have b : ¬ (3000 : Int32) < q := by rw [own_lt, k3]; omega
    rw [if_neg b, k3]
    refine ⟨by omega, by omega, by omega, Or.inl rfl, by omega⟩
theorem own_law (y : Int32) (h : 0 < y.toInt) : ¬ ((own_di y).toInt64 < 3000) ∧ ¬ ((own_di y).toInt64 * y.toInt64 < 400000) ∧ (¬ (own_di y).toInt64 = 3000 → ((own_di y).toInt64 - 1) * y.toInt64 < 400000) := by
  obtain ⟨s1, s2, s3, s4, s5⟩ := own_spec y h
  have hr := rng32 y
  generalize own_di y = r at *
  have e1 : r.toInt64.toInt = r.toInt := Int32.toInt_toInt64 r
  have e2 : y.toInt64.toInt = y.toInt := Int32.toInt_toInt64 y
  have p1 := c_lmul r.toInt64 y.toInt64
  rw [e1, e2] at p1
  have q1 := rng64 (r.toInt64 * y.toInt64)
  have p2 := c_lsub r.toInt64 1
  rw [e1, show (1 : Int64).toInt = 1 from rfl] at p2
  have q2 := rng64 (r.toInt64 - 1)
  have p3 := c_lmul (r.toInt64 - 1) y.toInt64
  have e3 : (r.toInt64 - 1).toInt = r.toInt - 1 := by omega
  rw [e3, e2] at p3
  have q3 := rng64 ((r.toInt64 - 1) * y.toInt64)
  have m6 : (r.toInt - 1) * y.toInt = r.toInt * y.toInt - y.toInt := by rw [Int.sub_mul, Int.one_mul]
  refine ⟨?_, ?_, fun z => ?_⟩
  · rw [own_ltL, e1, show (3000 : Int64).toInt = 3000 from rfl]; omega
  · rw [own_ltL, show (400000 : Int64).toInt = 400000 from rfl]; omega
  · have z' : r.toInt ≠ 3000 := fun t => z (Int64.toInt_inj.mp (by rw [e1, t]; rfl))
    rw [own_ltL, show (400000 : Int64).toInt = 400000 from rfl]; omega
theorem own_pos {x : Int32} (h : 0 ≤ x.toInt) (h2 : ¬ x = 0) : 0 < x.toInt := by
  have : x.toInt ≠ 0 := fun z => h2 (Int32.toInt_inj.mp z)
  omega
theorem d2_0 : decode jdk_29_method_65_code 0 = .ok (.iload_n 0, 1) := by decide +kernel
theorem d2_1 : decode jdk_29_method_65_code 1 = .ok (.iload_n 1, 1) := by decide +kernel
theorem d2_2 : decode jdk_29_method_65_code 2 = .ok (.if_icmp .lt 7, 3) := by decide +kernel
theorem d2_5 : decode jdk_29_method_65_code 5 = .ok (.iload_n 0, 1) := by decide +kernel
theorem d2_6 : decode jdk_29_method_65_code 6 = .ok (.goto 4, 3) := by decide +kernel
theorem d2_9 : decode jdk_29_method_65_code 9 = .ok (.iload_n 1, 1) := by decide +kernel
theorem d2_10 : decode jdk_29_method_65_code 10 = .ok (.ireturn, 1) := by decide +kernel
theorem ef_2 (m : MethodId) (x0 : Int32) (x1 : Int32) : entryFrame m #[(.int x0), (.int x1)] 2 = mkF m 0 #[.val (.int x0), .val (.int x1)] [] := by first | (simp [entryFrame, mkF, argsToLocals, Value.category]; done) | rfl
def Q2 (Z : State) (u : Int32) (w : Int32) (h0 : Heap) (n0 : Nat) (v : Option Value) (h : Heap) (L : List Loc) : Prop := v = some (.int (own_max u w)) ∧ Fr n0 L ∧ h = h0
set_option maxRecDepth 65536 in
set_option maxHeartbeats 40000000 in
theorem rm2 (l : Launch) (Z : State) (a0 : Array Value) (hw : ∀ d ∈ tables_1, d.before a0 Z = true) (ws : List Jvm.Cond) (u : Int32) (w : Int32) (h0 : Heap) (n0 : Nat) (Z0 : n0 ≤ h0.size)  :
    MetFree l (⟨"java/lang/Math", "max", "(II)I"⟩ : MethodName) (head1 (Jvm.Cond.code (⟨"java/lang/Math", "max", "(II)I"⟩ : MethodName) jdk_29_method_65_code 2 (some .int) :: ws) ({ frames := 0, cells := 0, slots := 0, locals := 0 } : Room)) (fun zz U => zz = #[(.int u), (.int w)] ∧ Z.Warmed39 U.vm ∧ U.heap = h0) (fun _ _ _ _ _ => True) (fun _ U o U' => ∃ v L, o = .returned v ∧ Q2 Z u w h0 n0 v U'.heap L ∧ FrameEnd U o U' L ({ frames := 0, cells := 0, slots := 0, locals := 0 } : Room).cells ({ frames := 0, cells := 0, slots := 0, locals := 0 } : Room).slots) := by
  refine MetFree.of_bodySF (Jvm.Free.JP.mathPlain rfl (by decide +kernel)) hisR ?_
  intro p e s m args below meth c s₁ Bd hml0 hP hK
  obtain ⟨rfl, hZ, hh⟩ := hP
  have hx := Bd.exec
  have hby := Bd.bytes
  have hml : c.maxLocals = 2 := hml0
  have hown : s.vm.findClass "java/lang/Math" = some m.cls := findClass_of_methodNamed Bd.named
  have hnm := (name_of_methodNamed Bd.named Bd.method).1
  have X0 : Stand p l e ({ frames := 0, cells := 0, slots := 0, locals := 0 } : Room) s m #[(.int u), (.int w)] below meth c s₁ [] 0 0 := Stand.of_body Bd
  have e0 : s₁.heap = h0 := by rw [← hh, Bd.state]; rfl
  have N0 := Fr.nil n0
  have G : Gets p e below (s₁.setTop (entryFrame m #[(.int u), (.int w)] 2)) (s₁.setTop (mkF m 0 #[.val (.int u), .val (.int w)] [])) := fun t k => castTop (ef_2 m u w) k
  replace G := own_iloadN (q := 1) G X0.here hx (hb hby d2_0) rfl rfl
  replace G := own_iloadN (q := 2) G X0.here hx (hb hby d2_1) rfl rfl
  by_cases hc2_1 : u < w
  · replace G := own_icmpYes (q := 9) G X0.here hx (hb hby d2_2) (tlt hc2_1).1 (by decide) (by decide)
    replace G := own_iloadN (q := 10) G X0.here hx (hb hby d2_9) rfl rfl
    obtain ⟨fs, hr, hrun, hended, hW, hsame⟩ := X0.leave (v := some (.int w)) (fun h => by rw [Bd.returns] at h; cases h)
    refine ⟨_, _, G _ (retOut X0 hx Bd.returns rfl (Or.inl ⟨rfl, Or.inl rfl, _, rfl⟩) (hb hby d2_10) hr), hrun, hended, _, _, rfl, ?_, ⟨_, rfl⟩, hW, hsame.mono (by decide) (by decide)⟩
    show Q2 Z u w h0 n0 _ s₁.heap _
    rw [e0]
    exact ⟨(congrArg (fun z => some (Value.int z)) (by simp [own_max, hc2_1])), N0, rfl⟩
  · replace G := own_icmpNo (q := 5) G X0.here hx (hb hby d2_2) (flt hc2_1).1 rfl
    replace G := own_iloadN (q := 6) G X0.here hx (hb hby d2_5) rfl rfl
    replace G := own_goto (q := 10) G X0.here hx (hb hby d2_6) (by decide) (by decide)
    obtain ⟨fs, hr, hrun, hended, hW, hsame⟩ := X0.leave (v := some (.int u)) (fun h => by rw [Bd.returns] at h; cases h)
    refine ⟨_, _, G _ (retOut X0 hx Bd.returns rfl (Or.inl ⟨rfl, Or.inl rfl, _, rfl⟩) (hb hby d2_10) hr), hrun, hended, _, _, rfl, ?_, ⟨_, rfl⟩, hW, hsame.mono (by decide) (by decide)⟩
    show Q2 Z u w h0 n0 _ s₁.heap _
    rw [e0]
    exact ⟨(congrArg (fun z => some (Value.int z)) (by simp [own_max, hc2_1])), N0, rfl⟩
theorem pd_0 : parseMethodDescriptor "(II)I" = some ⟨[.int, .int], some .int⟩ := by decide +kernel
theorem d1_0 : decode prog_37_method_4_code 0 = .ok (.iload_n 0, 1) := by decide +kernel
theorem d1_1 : decode prog_37_method_4_code 1 = .ok (.ifCond .ne 9, 3) := by decide +kernel
theorem d1_4 : decode prog_37_method_4_code 4 = .ok (.sipush 3000, 3) := by decide +kernel
theorem d1_7 : decode prog_37_method_4_code 7 = .ok (.goto 17, 3) := by decide +kernel
theorem d1_10 : decode prog_37_method_4_code 10 = .ok (.sipush 3000, 3) := by decide +kernel
theorem d1_13 : decode prog_37_method_4_code 13 = .ok (.ldc 72, 2) := by decide +kernel
theorem d1_15 : decode prog_37_method_4_code 15 = .ok (.iload_n 0, 1) := by decide +kernel
theorem d1_16 : decode prog_37_method_4_code 16 = .ok (.iadd, 1) := by decide +kernel
theorem d1_17 : decode prog_37_method_4_code 17 = .ok (.iconst 1, 1) := by decide +kernel
theorem d1_18 : decode prog_37_method_4_code 18 = .ok (.isub, 1) := by decide +kernel
theorem d1_19 : decode prog_37_method_4_code 19 = .ok (.iload_n 0, 1) := by decide +kernel
theorem d1_20 : decode prog_37_method_4_code 20 = .ok (.idiv, 1) := by decide +kernel
theorem d1_21 : decode prog_37_method_4_code 21 = .ok (.invokestatic 73, 3) := by decide +kernel
theorem d1_24 : decode prog_37_method_4_code 24 = .ok (.ireturn, 1) := by decide +kernel
theorem pn_com_example_swathwork_swathwork_planner_SearchPlanner : plainName "com/example/swathwork/swathwork/planner/SearchPlanner" = true := by first | (simp [plainName, overriddenIn]; done) | decide +kernel
theorem ef_1 (m : MethodId) (x0 : Int32) : entryFrame m #[(.int x0)] 1 = mkF m 0 #[.val (.int x0)] [] := by first | (simp [entryFrame, mkF, argsToLocals, Value.category]; done) | rfl
def Q1 (Z : State) (y : Int32) (h0 : Heap) (n0 : Nat) (v : Option Value) (h : Heap) (L : List Loc) : Prop := v = some (.int (own_di y)) ∧ Fr n0 L ∧ h = h0
set_option maxRecDepth 65536 in
set_option maxHeartbeats 40000000 in
theorem rm1 (l : Launch) (Z : State) (a0 : Array Value) (hw : ∀ d ∈ tables_1, d.before a0 Z = true) (ws : List Jvm.Cond) (y : Int32) (h0 : Heap) (n0 : Nat) (Z0 : n0 ≤ h0.size)  :
    MetFree l (⟨"com/example/swathwork/swathwork/planner/SearchPlanner", "defaultIterations", "(I)I"⟩ : MethodName) (head1 (Jvm.Cond.code (⟨"com/example/swathwork/swathwork/planner/SearchPlanner", "defaultIterations", "(I)I"⟩ : MethodName) prog_37_method_4_code 1 (some .int) :: ws) ({ frames := 1, cells := 0, slots := 0, locals := 13 } : Room)) (fun zz U => zz = #[(.int y)] ∧ Z.Warmed39 U.vm ∧ U.heap = h0) (fun _ _ _ _ _ => True) (fun _ U o U' => ∃ v L, o = .returned v ∧ Q1 Z y h0 n0 v U'.heap L ∧ FrameEnd U o U' L ({ frames := 1, cells := 0, slots := 0, locals := 13 } : Room).cells ({ frames := 1, cells := 0, slots := 0, locals := 13 } : Room).slots) := by
  refine MetFree.of_bodySF (plainFor_of_name pn_com_example_swathwork_swathwork_planner_SearchPlanner) hisR ?_
  intro p e s m args below meth c s₁ Bd hml0 hP hK
  obtain ⟨rfl, hZ, hh⟩ := hP
  have hx := Bd.exec
  have hby := Bd.bytes
  have hml : c.maxLocals = 1 := hml0
  have hown : s.vm.findClass "com/example/swathwork/swathwork/planner/SearchPlanner" = some m.cls := findClass_of_methodNamed Bd.named
  have hnm := (name_of_methodNamed Bd.named Bd.method).1
  have X0 : Stand p l e ({ frames := 1, cells := 0, slots := 0, locals := 13 } : Room) s m #[(.int y)] below meth c s₁ [] 0 0 := Stand.of_body Bd
  have e0 : s₁.heap = h0 := by rw [← hh, Bd.state]; rfl
  have N0 := Fr.nil n0
  have G : Gets p e below (s₁.setTop (entryFrame m #[(.int y)] 1)) (s₁.setTop (mkF m 0 #[.val (.int y)] [])) := fun t k => castTop (ef_1 m y) k
  replace G := own_iloadN (q := 1) G X0.here hx (hb hby d1_0) rfl rfl
  by_cases hc1_1 : y = (0 : Int32)
  · replace G := own_ifNo (q := 4) G X0.here hx (hb hby d1_1) ((if0 _ _).trans (teq hc1_1).2) rfl
    replace G := own_sipush (q := 7) G X0.here hx (hb hby d1_4) (v := (3000 : Int32)) (by decide) rfl
    replace G := own_goto (q := 24) G X0.here hx (hb hby d1_7) (by decide) (by decide)
    obtain ⟨fs, hr, hrun, hended, hW, hsame⟩ := X0.leave (v := some (.int (3000 : Int32))) (fun h => by rw [Bd.returns] at h; cases h)
    refine ⟨_, _, G _ (retOut X0 hx Bd.returns rfl (Or.inl ⟨rfl, Or.inl rfl, _, rfl⟩) (hb hby d1_24) hr), hrun, hended, _, _, rfl, ?_, ⟨_, rfl⟩, hW, hsame.mono (by decide) (by decide)⟩
    show Q1 Z y h0 n0 _ s₁.heap _
    rw [e0]
    exact ⟨(congrArg (fun z => some (Value.int z)) (by simp [own_di, hc1_1])), N0, rfl⟩
  · replace G := own_ifYes (q := 10) G X0.here hx (hb hby d1_1) ((if0 _ _).trans (feq hc1_1).2) (by decide) (by decide)
    replace G := own_sipush (q := 13) G X0.here hx (hb hby d1_10) (v := (3000 : Int32)) (by decide) rfl
    replace G : Gets p e below _ (s₁.setTop (mkF m 15 #[.val (.int y)] [(.int (400000 : Int32)), (.int (3000 : Int32))])) := fun t k => G t (X0.ldcInt hx hown (mvT hZ (hw _ (List.mem_of_getElem? (i := 8) rfl))) (g := (mkF m 13 #[.val (.int y)] [(.int (3000 : Int32))])) rfl (hb hby d1_13) t k)
    replace G := own_iloadN (q := 16) G X0.here hx (hb hby d1_15) rfl rfl
    replace G := own_iadd (q := 17) G X0.here hx (hb hby d1_16) rfl rfl
    replace G := own_iconst (q := 18) G X0.here hx (hb hby d1_17) (v := (1 : Int32)) (by decide) rfl
    replace G := own_isub (q := 19) G X0.here hx (hb hby d1_18) rfl rfl
    replace G := own_iloadN (q := 20) G X0.here hx (hb hby d1_19) rfl rfl
    have hnz20 : y ≠ 0 := hc1_1
    replace G := own_idiv (q := 21) G X0.here hx (hb hby d1_20) hnz20 rfl rfl
    obtain ⟨_, _, ⟨T2, L2, kk2, nn2⟩, -, X2, ⟨Lc2, hQ2, l2, y2, z2⟩, st2⟩ := Jvm.LawKit.callS X0 hx (y := (⟨"java/lang/Math", "max", "(II)I"⟩ : MethodName)) hown (mvT hZ (hw _ (List.mem_of_getElem? (i := 9) rfl))) (mvT hZ (hw _ (List.mem_of_getElem? (i := 10) rfl))) (mvT hZ (hw _ (List.mem_of_getElem? (i := 11) rfl))) (mvT hZ (hw _ (List.mem_of_getElem? (i := 12) rfl))) (by decide) (backOf (W := 0) (rm2 l Z a0 hw [] (3000 : Int32) ((((400000 : Int32) + y) - (1 : Int32)) / y) h0 n0 Z0 ) hZ (hw _ (List.mem_of_getElem? (i := 12) rfl)) (hw _ (List.mem_of_getElem? (i := 11) rfl)) (by decide) (by decide)) (g := (mkF m 21 #[.val (.int y)] [(.int ((((400000 : Int32) + y) - (1 : Int32)) / y)), (.int (3000 : Int32))])) rfl (by rw [hml]; rfl) (argsL := [(.int (3000 : Int32)), (.int ((((400000 : Int32) + y) - (1 : Int32)) / y))]) (rest := []) (lenOf pd_0 rfl) rfl (by show 2 * 0 + _ ≤ _; exact Nat.le_of_eq rfl) (hb hby d1_21) (fun _ _ => ⟨rfl, e0, (by decide : 0 + 0 ≤ _), (by decide : 0 + 0 ≤ _)⟩)
    dsimp only [Pt.U, Pt.locs, Pt.cells, Pt.slots] at X2 l2 y2 z2 st2 hQ2
    subst l2 y2 z2
    obtain ⟨rfl, N2q, e2⟩ := hQ2
    have N2 := Fr.app N0 N2q
    replace G : Gets p e below _ (T2.setTop (mkF m 24 #[.val (.int y)] [(.int (own_max (3000 : Int32) ((((400000 : Int32) + y) - (1 : Int32)) / y)))])) := fun t k => G t (st2 t k)
    obtain ⟨fs, hr, hrun, hended, hW, hsame⟩ := X2.leave (v := some (.int (own_max (3000 : Int32) ((((400000 : Int32) + y) - (1 : Int32)) / y)))) (fun h => by rw [Bd.returns] at h; cases h)
    refine ⟨_, _, G _ (retOut X2 hx Bd.returns rfl (Or.inl ⟨rfl, Or.inl rfl, _, rfl⟩) (hb hby d1_24) hr), hrun, hended, _, _, rfl, ?_, ⟨_, rfl⟩, hW, hsame.mono (by decide) (by decide)⟩
    show Q1 Z y h0 n0 _ T2.heap _
    rw [e2]
    exact ⟨(congrArg (fun z => some (Value.int z)) (by simp [own_di, hc1_1])), N2, rfl⟩
theorem pd_1 : parseMethodDescriptor "(I)I" = some ⟨[.int], some .int⟩ := by decide +kernel
theorem pn_com_example_swathwork_swathwork_planner_SearchPlannerDefaultIterationsPinLaw : plainName "com/example/swathwork/swathwork/planner/SearchPlannerDefaultIterationsPinLaw" = true := by first | (simp [plainName, overriddenIn]; done) | decide +kernel
theorem ef_0 (m : MethodId) (x0 : Int32) (x1 : Int32) : entryFrame m #[(.int x0), (.int x1)] maxLocals = mkF m 0 #[.val (.int x0), .val (.int x1), .unset, .unset, .unset, .unset, .unset, .unset, .unset, .unset, .unset, .unset, .unset, .unset, .unset, .unset] [] := by first | (simp [entryFrame, mkF, argsToLocals, Value.category, maxLocals]; done) | rfl
def Q0 (Z : State) (i0 : Int32) (i1 : Int32) (h0 : Heap) (n0 : Nat) (v : Option Value) (h : Heap) (L : List Loc) : Prop := v = some (.int (1 : Int32)) ∧ Fr n0 L
set_option maxRecDepth 65536 in
set_option maxHeartbeats 40000000 in
theorem rm0 (l : Launch) (Z : State) (a0 : Array Value) (hw : ∀ d ∈ tables_1, d.before a0 Z = true) (ws : List Jvm.Cond) (i0 : Int32) (i1 : Int32) (h0 : Heap) (n0 : Nat) (Z0 : n0 ≤ h0.size)  :
    MetFree l x (head1 (Jvm.Cond.code x code maxLocals ret :: ws) room_1) (fun zz U => zz = #[(.int i0), (.int i1)] ∧ Z.Warmed39 U.vm ∧ U.heap = h0) (fun _ _ _ _ _ => True) (fun _ U o U' => ∃ v L, o = .returned v ∧ Q0 Z i0 i1 h0 n0 v U'.heap L ∧ FrameEnd U o U' L room_1.cells room_1.slots) := by
  refine MetFree.of_bodySF (plainFor_of_name pn_com_example_swathwork_swathwork_planner_SearchPlannerDefaultIterationsPinLaw) hisR ?_
  intro p e s m args below meth c s₁ Bd hml0 hP hK
  obtain ⟨rfl, hZ, hh⟩ := hP
  have hx := Bd.exec
  have hby := Bd.bytes
  have hml : c.maxLocals = 16 := hml0
  have hown : s.vm.findClass "com/example/swathwork/swathwork/planner/SearchPlannerDefaultIterationsPinLaw" = some m.cls := findClass_of_methodNamed Bd.named
  have hnm := (name_of_methodNamed Bd.named Bd.method).1
  have X0 : Stand p l e room_1 s m #[(.int i0), (.int i1)] below meth c s₁ [] 0 0 := Stand.of_body Bd
  have e0 : s₁.heap = h0 := by rw [← hh, Bd.state]; rfl
  have N0 := Fr.nil n0
  have G : Gets p e below (s₁.setTop (entryFrame m #[(.int i0), (.int i1)] maxLocals)) (s₁.setTop (mkF m 0 #[.val (.int i0), .val (.int i1), .unset, .unset, .unset, .unset, .unset, .unset, .unset, .unset, .unset, .unset, .unset, .unset, .unset, .unset] [])) := fun t k => castTop (ef_0 m i0 i1) k
  replace G := own_iloadN (q := 1) G X0.here hx (hb hby at_0) rfl rfl
  replace G := own_iconst (q := 2) G X0.here hx (hb hby at_1) (v := (3 : Int32)) (by decide) rfl
  obtain ⟨kk, hn_kk⟩ : ∃ z : Int32, (i1 &&& (3 : Int32)) = z := ⟨_, rfl⟩
  replace G := own_iand (q := 3) G X0.here hx (hb hby at_2) hn_kk rfl
  replace G := own_istoreN (q := 4) (l' := #[.val (.int i0), .val (.int i1), .val (.int kk), .unset, .unset, .unset, .unset, .unset, .unset, .unset, .unset, .unset, .unset, .unset, .unset, .unset]) G X0.here hx (hb hby at_3) rfl rfl
  replace G := own_iloadN (q := 5) G X0.here hx (hb hby at_4) rfl rfl
  by_cases hc5_1 : kk = (0 : Int32)
  · replace G := own_ifNo (q := 8) G X0.here hx (hb hby at_5) ((if0 _ _).trans (teq hc5_1).2) rfl
    replace G := own_iloadN (q := 9) G X0.here hx (hb hby at_8) rfl rfl
    replace G : Gets p e below _ (s₁.setTop (mkF m 11 #[.val (.int i0), .val (.int i1), .val (.int kk), .unset, .unset, .unset, .unset, .unset, .unset, .unset, .unset, .unset, .unset, .unset, .unset, .unset] [(.int (2147483647 : Int32)), (.int i0)])) := fun t k => G t (X0.ldcInt hx hown (mvT hZ (hw _ (List.mem_of_getElem? (i := 0) rfl))) (g := (mkF m 9 #[.val (.int i0), .val (.int i1), .val (.int kk), .unset, .unset, .unset, .unset, .unset, .unset, .unset, .unset, .unset, .unset, .unset, .unset, .unset] [(.int i0)])) rfl (hb hby at_9) t k)
    obtain ⟨pa, hn_pa⟩ : ∃ z : Int32, (i0 &&& (2147483647 : Int32)) = z := ⟨_, rfl⟩
    replace G := own_iand (q := 12) G X0.here hx (hb hby at_11) hn_pa rfl
    replace G := own_istoreN (q := 13) (l' := #[.val (.int i0), .val (.int i1), .val (.int kk), .val (.int pa), .unset, .unset, .unset, .unset, .unset, .unset, .unset, .unset, .unset, .unset, .unset, .unset]) G X0.here hx (hb hby at_12) rfl rfl
    replace G := own_goto (q := 48) G X0.here hx (hb hby at_13) (by decide) (by decide)
    have a1 := c_mask i0 2147483647 31 (by decide) (by decide)
    rw [hn_pa] at a1
    have hp : 0 ≤ pa.toInt := by omega
    replace G := own_iloadN (q := 49) G X0.here hx (hb hby at_48) rfl rfl
    obtain ⟨_, _, ⟨T2, L2, kk2, nn2⟩, -, X2, ⟨Lc2, hQ2, l2, y2, z2⟩, st2⟩ := Jvm.LawKit.callS X0 hx (y := (⟨"com/example/swathwork/swathwork/planner/SearchPlanner", "defaultIterations", "(I)I"⟩ : MethodName)) hown (mvT hZ (hw _ (List.mem_of_getElem? (i := 2) rfl))) (mvT hZ (hw _ (List.mem_of_getElem? (i := 3) rfl))) (mvT hZ (hw _ (List.mem_of_getElem? (i := 4) rfl))) (mvT hZ (hw _ (List.mem_of_getElem? (i := 5) rfl))) (by decide) (backOf (W := 0) (rm1 l Z a0 hw [] pa h0 n0 Z0 ) hZ (hw _ (List.mem_of_getElem? (i := 5) rfl)) (hw _ (List.mem_of_getElem? (i := 4) rfl)) (by decide) (by decide)) (g := (mkF m 49 #[.val (.int i0), .val (.int i1), .val (.int kk), .val (.int pa), .unset, .unset, .unset, .unset, .unset, .unset, .unset, .unset, .unset, .unset, .unset, .unset] [(.int pa)])) rfl (by rw [hml]; rfl) (argsL := [(.int pa)]) (rest := []) (lenOf pd_1 rfl) rfl (by show 2 * 0 + _ ≤ _; exact Nat.le_of_eq rfl) (hb hby at_49) (fun _ _ => ⟨rfl, e0, (by decide : 0 + 0 ≤ _), (by decide : 0 + 0 ≤ _)⟩)
    dsimp only [Pt.U, Pt.locs, Pt.cells, Pt.slots] at X2 l2 y2 z2 st2 hQ2
    subst l2 y2 z2
    obtain ⟨rfl, N2q, e2⟩ := hQ2
    have N2 := Fr.app N0 N2q
    replace G : Gets p e below _ (T2.setTop (mkF m 52 #[.val (.int i0), .val (.int i1), .val (.int kk), .val (.int pa), .unset, .unset, .unset, .unset, .unset, .unset, .unset, .unset, .unset, .unset, .unset, .unset] [(.int (own_di pa))])) := fun t k => G t (st2 t k)
    obtain ⟨r, hn_r⟩ : ∃ z : Int32, (own_di pa) = z := ⟨_, rfl⟩
    rw [hn_r] at G
    replace G := own_istore (q := 54) (l' := #[.val (.int i0), .val (.int i1), .val (.int kk), .val (.int pa), .val (.int r), .unset, .unset, .unset, .unset, .unset, .unset, .unset, .unset, .unset, .unset, .unset]) G X2.here hx (hb hby at_52) rfl rfl
    replace G : Gets p e below _ (T2.setTop (mkF m 57 #[.val (.int i0), .val (.int i1), .val (.int kk), .val (.int pa), .val (.int r), .unset, .unset, .unset, .unset, .unset, .unset, .unset, .unset, .unset, .unset, .unset] [(.long (3000 : Int64))])) := fun t k => G t (X2.ldc2Long hx hown (mvT hZ (hw _ (List.mem_of_getElem? (i := 6) rfl))) (g := (mkF m 54 #[.val (.int i0), .val (.int i1), .val (.int kk), .val (.int pa), .val (.int r), .unset, .unset, .unset, .unset, .unset, .unset, .unset, .unset, .unset, .unset, .unset] [])) rfl (hb hby at_54) t k)
    replace G := own_lstore (q := 59) (l' := #[.val (.int i0), .val (.int i1), .val (.int kk), .val (.int pa), .val (.int r), .val (.long (3000 : Int64)), .second, .unset, .unset, .unset, .unset, .unset, .unset, .unset, .unset, .unset]) G X2.here hx (hb hby at_57) rfl rfl
    replace G : Gets p e below _ (T2.setTop (mkF m 62 #[.val (.int i0), .val (.int i1), .val (.int kk), .val (.int pa), .val (.int r), .val (.long (3000 : Int64)), .second, .unset, .unset, .unset, .unset, .unset, .unset, .unset, .unset, .unset] [(.long (400000 : Int64))])) := fun t k => G t (X2.ldc2Long hx hown (mvT hZ (hw _ (List.mem_of_getElem? (i := 7) rfl))) (g := (mkF m 59 #[.val (.int i0), .val (.int i1), .val (.int kk), .val (.int pa), .val (.int r), .val (.long (3000 : Int64)), .second, .unset, .unset, .unset, .unset, .unset, .unset, .unset, .unset, .unset] [])) rfl (hb hby at_59) t k)
    replace G := own_lstore (q := 64) (l' := #[.val (.int i0), .val (.int i1), .val (.int kk), .val (.int pa), .val (.int r), .val (.long (3000 : Int64)), .second, .val (.long (400000 : Int64)), .second, .unset, .unset, .unset, .unset, .unset, .unset, .unset]) G X2.here hx (hb hby at_62) rfl rfl
    replace G := own_iload (q := 66) G X2.here hx (hb hby at_64) rfl rfl
    obtain ⟨lr, hn_lr⟩ : ∃ z : Int64, (r.toInt64) = z := ⟨_, rfl⟩
    replace G := own_i2l (q := 67) G X2.here hx (hb hby at_66) hn_lr rfl
    replace G := own_lstore (q := 69) (l' := #[.val (.int i0), .val (.int i1), .val (.int kk), .val (.int pa), .val (.int r), .val (.long (3000 : Int64)), .second, .val (.long (400000 : Int64)), .second, .val (.long lr), .second, .unset, .unset, .unset, .unset, .unset]) G X2.here hx (hb hby at_67) rfl rfl
    replace G := own_iloadN (q := 70) G X2.here hx (hb hby at_69) rfl rfl
    by_cases hc70_3 : pa = (0 : Int32)
    · replace G := own_ifNo (q := 73) G X2.here hx (hb hby at_70) ((if0 _ _).trans (teq hc70_3).2) rfl
      replace G := own_lload (q := 75) G X2.here hx (hb hby at_73) rfl rfl
      replace G := own_lload (q := 77) G X2.here hx (hb hby at_75) rfl rfl
      replace G := own_lcmp (q := 78) G X2.here hx (hb hby at_77) rfl
      have hc78_4 : lr = (3000 : Int64) := by subst hn_lr hn_r; rw [hc70_3]; decide
      replace G := own_ifNo (q := 81) G X2.here hx (hb hby at_78) ((if0 _ _).trans (teq ((lw_eq _ _).mpr hc78_4)).2) rfl
      replace G := own_iconst (q := 82) G X2.here hx (hb hby at_81) (v := (1 : Int32)) (by decide) rfl
      replace G := own_goto (q := 86) G X2.here hx (hb hby at_82) (by decide) (by decide)
      obtain ⟨fs, hr, hrun, hended, hW, hsame⟩ := X2.leave (v := some (.int (1 : Int32))) (fun h => by rw [Bd.returns] at h; cases h)
      refine ⟨_, _, G _ (retOut X2 hx Bd.returns rfl (Or.inl ⟨rfl, Or.inr (Or.inl rfl), _, rfl⟩) (hb hby at_86) hr), hrun, hended, _, _, rfl, ?_, ⟨_, rfl⟩, hW, hsame.mono (by decide) (by decide)⟩
      show Q0 Z i0 i1 h0 n0 _ T2.heap _
      rw [e2]
      exact ⟨rfl, N2⟩
    · replace G := own_ifYes (q := 87) G X2.here hx (hb hby at_70) ((if0 _ _).trans (feq hc70_3).2) (by decide) (by decide)
      replace G := own_iloadN (q := 88) G X2.here hx (hb hby at_87) rfl rfl
      obtain ⟨lp, hn_lp⟩ : ∃ z : Int64, (pa.toInt64) = z := ⟨_, rfl⟩
      replace G := own_i2l (q := 89) G X2.here hx (hb hby at_88) hn_lp rfl
      replace G := own_lstore (q := 91) (l' := #[.val (.int i0), .val (.int i1), .val (.int kk), .val (.int pa), .val (.int r), .val (.long (3000 : Int64)), .second, .val (.long (400000 : Int64)), .second, .val (.long lr), .second, .val (.long lp), .second, .unset, .unset, .unset]) G X2.here hx (hb hby at_89) rfl rfl
      replace G := own_lload (q := 93) G X2.here hx (hb hby at_91) rfl rfl
      replace G := own_lload (q := 95) G X2.here hx (hb hby at_93) rfl rfl
      replace G := own_lcmp (q := 96) G X2.here hx (hb hby at_95) rfl
      have hc96_5 : ¬ (lr < (3000 : Int64)) := by subst hn_lr hn_lp hn_r; exact (own_law pa (own_pos hp hc70_3)).1
      replace G := own_ifNo (q := 99) G X2.here hx (hb hby at_96) ((if0 _ _).trans (flt (fun z => hc96_5 ((lw_lt _ _).mp z))).1) rfl
      replace G := own_iconst (q := 100) G X2.here hx (hb hby at_99) (v := (1 : Int32)) (by decide) rfl
      replace G := own_goto (q := 104) G X2.here hx (hb hby at_100) (by decide) (by decide)
      replace G := own_istore (q := 106) (l' := #[.val (.int i0), .val (.int i1), .val (.int kk), .val (.int pa), .val (.int r), .val (.long (3000 : Int64)), .second, .val (.long (400000 : Int64)), .second, .val (.long lr), .second, .val (.long lp), .second, .val (.int (1 : Int32)), .unset, .unset]) G X2.here hx (hb hby at_104) rfl rfl
      replace G := own_lload (q := 108) G X2.here hx (hb hby at_106) rfl rfl
      replace G := own_lload (q := 110) G X2.here hx (hb hby at_108) rfl rfl
      replace G := own_lmul (q := 111) G X2.here hx (hb hby at_110) rfl rfl
      replace G := own_lload (q := 113) G X2.here hx (hb hby at_111) rfl rfl
      replace G := own_lcmp (q := 114) G X2.here hx (hb hby at_113) rfl
      have hc114_6 : ¬ ((lr * lp) < (400000 : Int64)) := by subst hn_lr hn_lp hn_r; exact (own_law pa (own_pos hp hc70_3)).2.1
      replace G := own_ifNo (q := 117) G X2.here hx (hb hby at_114) ((if0 _ _).trans (flt (fun z => hc114_6 ((lw_lt _ _).mp z))).1) rfl
      replace G := own_iconst (q := 118) G X2.here hx (hb hby at_117) (v := (1 : Int32)) (by decide) rfl
      replace G := own_goto (q := 122) G X2.here hx (hb hby at_118) (by decide) (by decide)
      replace G := own_istore (q := 124) (l' := #[.val (.int i0), .val (.int i1), .val (.int kk), .val (.int pa), .val (.int r), .val (.long (3000 : Int64)), .second, .val (.long (400000 : Int64)), .second, .val (.long lr), .second, .val (.long lp), .second, .val (.int (1 : Int32)), .val (.int (1 : Int32)), .unset]) G X2.here hx (hb hby at_122) rfl rfl
      replace G := own_lload (q := 126) G X2.here hx (hb hby at_124) rfl rfl
      replace G := own_lload (q := 128) G X2.here hx (hb hby at_126) rfl rfl
      replace G := own_lcmp (q := 129) G X2.here hx (hb hby at_128) rfl
      by_cases hc129_7 : lr = (3000 : Int64)
      · replace G := own_ifYes (q := 145) G X2.here hx (hb hby at_129) ((if0 _ _).trans (teq ((lw_eq _ _).mpr hc129_7)).1) (by decide) (by decide)
        replace G := own_iconst (q := 146) G X2.here hx (hb hby at_145) (v := (1 : Int32)) (by decide) rfl
        replace G := own_goto (q := 150) G X2.here hx (hb hby at_146) (by decide) (by decide)
        replace G := own_istore (q := 152) (l' := #[.val (.int i0), .val (.int i1), .val (.int kk), .val (.int pa), .val (.int r), .val (.long (3000 : Int64)), .second, .val (.long (400000 : Int64)), .second, .val (.long lr), .second, .val (.long lp), .second, .val (.int (1 : Int32)), .val (.int (1 : Int32)), .val (.int (1 : Int32))]) G X2.here hx (hb hby at_150) rfl rfl
        replace G := own_iload (q := 154) G X2.here hx (hb hby at_152) rfl rfl
        have hc154_8 : ¬ ((1 : Int32) = (0 : Int32)) := by decide
        replace G := own_ifNo (q := 157) G X2.here hx (hb hby at_154) ((if0 _ _).trans (feq hc154_8).1) rfl
        replace G := own_iload (q := 159) G X2.here hx (hb hby at_157) rfl rfl
        have hc159_9 : ¬ ((1 : Int32) = (0 : Int32)) := by decide
        replace G := own_ifNo (q := 162) G X2.here hx (hb hby at_159) ((if0 _ _).trans (feq hc159_9).1) rfl
        replace G := own_iload (q := 164) G X2.here hx (hb hby at_162) rfl rfl
        have hc164_10 : ¬ ((1 : Int32) = (0 : Int32)) := by decide
        replace G := own_ifNo (q := 167) G X2.here hx (hb hby at_164) ((if0 _ _).trans (feq hc164_10).1) rfl
        replace G := own_iconst (q := 168) G X2.here hx (hb hby at_167) (v := (1 : Int32)) (by decide) rfl
        replace G := own_goto (q := 172) G X2.here hx (hb hby at_168) (by decide) (by decide)
        obtain ⟨fs, hr, hrun, hended, hW, hsame⟩ := X2.leave (v := some (.int (1 : Int32))) (fun h => by rw [Bd.returns] at h; cases h)
        refine ⟨_, _, G _ (retOut X2 hx Bd.returns rfl (Or.inl ⟨rfl, Or.inr (Or.inl rfl), _, rfl⟩) (hb hby at_172) hr), hrun, hended, _, _, rfl, ?_, ⟨_, rfl⟩, hW, hsame.mono (by decide) (by decide)⟩
        show Q0 Z i0 i1 h0 n0 _ T2.heap _
        rw [e2]
        exact ⟨rfl, N2⟩
      · replace G := own_ifNo (q := 132) G X2.here hx (hb hby at_129) ((if0 _ _).trans (feq (fun z => hc129_7 ((lw_eq _ _).mp z))).1) rfl
        replace G := own_lload (q := 134) G X2.here hx (hb hby at_132) rfl rfl
        replace G := own_lconst (q := 135) G X2.here hx (hb hby at_134) (v := (1 : Int64)) (by decide) rfl
        replace G := own_lsub (q := 136) G X2.here hx (hb hby at_135) rfl rfl
        replace G := own_lload (q := 138) G X2.here hx (hb hby at_136) rfl rfl
        replace G := own_lmul (q := 139) G X2.here hx (hb hby at_138) rfl rfl
        replace G := own_lload (q := 141) G X2.here hx (hb hby at_139) rfl rfl
        replace G := own_lcmp (q := 142) G X2.here hx (hb hby at_141) rfl
        have hc142_11 : ((lr - (1 : Int64)) * lp) < (400000 : Int64) := by subst hn_lr hn_lp hn_r; exact (own_law pa (own_pos hp hc70_3)).2.2 hc129_7
        replace G := own_ifNo (q := 145) G X2.here hx (hb hby at_142) ((if0 _ _).trans (tlt ((lw_lt _ _).mpr hc142_11)).2.1) rfl
        replace G := own_iconst (q := 146) G X2.here hx (hb hby at_145) (v := (1 : Int32)) (by decide) rfl
        replace G := own_goto (q := 150) G X2.here hx (hb hby at_146) (by decide) (by decide)
        replace G := own_istore (q := 152) (l' := #[.val (.int i0), .val (.int i1), .val (.int kk), .val (.int pa), .val (.int r), .val (.long (3000 : Int64)), .second, .val (.long (400000 : Int64)), .second, .val (.long lr), .second, .val (.long lp), .second, .val (.int (1 : Int32)), .val (.int (1 : Int32)), .val (.int (1 : Int32))]) G X2.here hx (hb hby at_150) rfl rfl
        replace G := own_iload (q := 154) G X2.here hx (hb hby at_152) rfl rfl
        have hc154_12 : ¬ ((1 : Int32) = (0 : Int32)) := by decide
        replace G := own_ifNo (q := 157) G X2.here hx (hb hby at_154) ((if0 _ _).trans (feq hc154_12).1) rfl
        replace G := own_iload (q := 159) G X2.here hx (hb hby at_157) rfl rfl
        have hc159_13 : ¬ ((1 : Int32) = (0 : Int32)) := by decide
        replace G := own_ifNo (q := 162) G X2.here hx (hb hby at_159) ((if0 _ _).trans (feq hc159_13).1) rfl
        replace G := own_iload (q := 164) G X2.here hx (hb hby at_162) rfl rfl
        have hc164_14 : ¬ ((1 : Int32) = (0 : Int32)) := by decide
        replace G := own_ifNo (q := 167) G X2.here hx (hb hby at_164) ((if0 _ _).trans (feq hc164_14).1) rfl
        replace G := own_iconst (q := 168) G X2.here hx (hb hby at_167) (v := (1 : Int32)) (by decide) rfl
        replace G := own_goto (q := 172) G X2.here hx (hb hby at_168) (by decide) (by decide)
        obtain ⟨fs, hr, hrun, hended, hW, hsame⟩ := X2.leave (v := some (.int (1 : Int32))) (fun h => by rw [Bd.returns] at h; cases h)
        refine ⟨_, _, G _ (retOut X2 hx Bd.returns rfl (Or.inl ⟨rfl, Or.inr (Or.inl rfl), _, rfl⟩) (hb hby at_172) hr), hrun, hended, _, _, rfl, ?_, ⟨_, rfl⟩, hW, hsame.mono (by decide) (by decide)⟩
        show Q0 Z i0 i1 h0 n0 _ T2.heap _
        rw [e2]
        exact ⟨rfl, N2⟩
  · replace G := own_ifYes (q := 16) G X0.here hx (hb hby at_5) ((if0 _ _).trans (feq hc5_1).2) (by decide) (by decide)
    replace G := own_iloadN (q := 17) G X0.here hx (hb hby at_16) rfl rfl
    replace G := own_iconst (q := 18) G X0.here hx (hb hby at_17) (v := (1 : Int32)) (by decide) rfl
    by_cases hc18_15 : kk = (1 : Int32)
    · replace G := own_icmpNo (q := 21) G X0.here hx (hb hby at_18) (teq hc18_15).2 rfl
      replace G := own_iloadN (q := 22) G X0.here hx (hb hby at_21) rfl rfl
      replace G := own_sipush (q := 25) G X0.here hx (hb hby at_22) (v := (255 : Int32)) (by decide) rfl
      obtain ⟨pb, hn_pb⟩ : ∃ z : Int32, (i0 &&& (255 : Int32)) = z := ⟨_, rfl⟩
      replace G := own_iand (q := 26) G X0.here hx (hb hby at_25) hn_pb rfl
      replace G := own_istoreN (q := 27) (l' := #[.val (.int i0), .val (.int i1), .val (.int kk), .val (.int pb), .unset, .unset, .unset, .unset, .unset, .unset, .unset, .unset, .unset, .unset, .unset, .unset]) G X0.here hx (hb hby at_26) rfl rfl
      replace G := own_goto (q := 48) G X0.here hx (hb hby at_27) (by decide) (by decide)
      have a1 := c_mask i0 255 8 (by decide) (by decide)
      rw [hn_pb] at a1
      have hp : 0 ≤ pb.toInt := by omega
      replace G := own_iloadN (q := 49) G X0.here hx (hb hby at_48) rfl rfl
      obtain ⟨_, _, ⟨T16, L16, kk16, nn16⟩, -, X16, ⟨Lc16, hQ16, l16, y16, z16⟩, st16⟩ := Jvm.LawKit.callS X0 hx (y := (⟨"com/example/swathwork/swathwork/planner/SearchPlanner", "defaultIterations", "(I)I"⟩ : MethodName)) hown (mvT hZ (hw _ (List.mem_of_getElem? (i := 2) rfl))) (mvT hZ (hw _ (List.mem_of_getElem? (i := 3) rfl))) (mvT hZ (hw _ (List.mem_of_getElem? (i := 4) rfl))) (mvT hZ (hw _ (List.mem_of_getElem? (i := 5) rfl))) (by decide) (backOf (W := 0) (rm1 l Z a0 hw [] pb h0 n0 Z0 ) hZ (hw _ (List.mem_of_getElem? (i := 5) rfl)) (hw _ (List.mem_of_getElem? (i := 4) rfl)) (by decide) (by decide)) (g := (mkF m 49 #[.val (.int i0), .val (.int i1), .val (.int kk), .val (.int pb), .unset, .unset, .unset, .unset, .unset, .unset, .unset, .unset, .unset, .unset, .unset, .unset] [(.int pb)])) rfl (by rw [hml]; rfl) (argsL := [(.int pb)]) (rest := []) (lenOf pd_1 rfl) rfl (by show 2 * 0 + _ ≤ _; exact Nat.le_of_eq rfl) (hb hby at_49) (fun _ _ => ⟨rfl, e0, (by decide : 0 + 0 ≤ _), (by decide : 0 + 0 ≤ _)⟩)
      dsimp only [Pt.U, Pt.locs, Pt.cells, Pt.slots] at X16 l16 y16 z16 st16 hQ16
      subst l16 y16 z16
      obtain ⟨rfl, N16q, e16⟩ := hQ16
      have N16 := Fr.app N0 N16q
      replace G : Gets p e below _ (T16.setTop (mkF m 52 #[.val (.int i0), .val (.int i1), .val (.int kk), .val (.int pb), .unset, .unset, .unset, .unset, .unset, .unset, .unset, .unset, .unset, .unset, .unset, .unset] [(.int (own_di pb))])) := fun t k => G t (st16 t k)
      obtain ⟨r, hn_r⟩ : ∃ z : Int32, (own_di pb) = z := ⟨_, rfl⟩
      rw [hn_r] at G
      replace G := own_istore (q := 54) (l' := #[.val (.int i0), .val (.int i1), .val (.int kk), .val (.int pb), .val (.int r), .unset, .unset, .unset, .unset, .unset, .unset, .unset, .unset, .unset, .unset, .unset]) G X16.here hx (hb hby at_52) rfl rfl
      replace G : Gets p e below _ (T16.setTop (mkF m 57 #[.val (.int i0), .val (.int i1), .val (.int kk), .val (.int pb), .val (.int r), .unset, .unset, .unset, .unset, .unset, .unset, .unset, .unset, .unset, .unset, .unset] [(.long (3000 : Int64))])) := fun t k => G t (X16.ldc2Long hx hown (mvT hZ (hw _ (List.mem_of_getElem? (i := 6) rfl))) (g := (mkF m 54 #[.val (.int i0), .val (.int i1), .val (.int kk), .val (.int pb), .val (.int r), .unset, .unset, .unset, .unset, .unset, .unset, .unset, .unset, .unset, .unset, .unset] [])) rfl (hb hby at_54) t k)
      replace G := own_lstore (q := 59) (l' := #[.val (.int i0), .val (.int i1), .val (.int kk), .val (.int pb), .val (.int r), .val (.long (3000 : Int64)), .second, .unset, .unset, .unset, .unset, .unset, .unset, .unset, .unset, .unset]) G X16.here hx (hb hby at_57) rfl rfl
      replace G : Gets p e below _ (T16.setTop (mkF m 62 #[.val (.int i0), .val (.int i1), .val (.int kk), .val (.int pb), .val (.int r), .val (.long (3000 : Int64)), .second, .unset, .unset, .unset, .unset, .unset, .unset, .unset, .unset, .unset] [(.long (400000 : Int64))])) := fun t k => G t (X16.ldc2Long hx hown (mvT hZ (hw _ (List.mem_of_getElem? (i := 7) rfl))) (g := (mkF m 59 #[.val (.int i0), .val (.int i1), .val (.int kk), .val (.int pb), .val (.int r), .val (.long (3000 : Int64)), .second, .unset, .unset, .unset, .unset, .unset, .unset, .unset, .unset, .unset] [])) rfl (hb hby at_59) t k)
      replace G := own_lstore (q := 64) (l' := #[.val (.int i0), .val (.int i1), .val (.int kk), .val (.int pb), .val (.int r), .val (.long (3000 : Int64)), .second, .val (.long (400000 : Int64)), .second, .unset, .unset, .unset, .unset, .unset, .unset, .unset]) G X16.here hx (hb hby at_62) rfl rfl
      replace G := own_iload (q := 66) G X16.here hx (hb hby at_64) rfl rfl
      obtain ⟨lr, hn_lr⟩ : ∃ z : Int64, (r.toInt64) = z := ⟨_, rfl⟩
      replace G := own_i2l (q := 67) G X16.here hx (hb hby at_66) hn_lr rfl
      replace G := own_lstore (q := 69) (l' := #[.val (.int i0), .val (.int i1), .val (.int kk), .val (.int pb), .val (.int r), .val (.long (3000 : Int64)), .second, .val (.long (400000 : Int64)), .second, .val (.long lr), .second, .unset, .unset, .unset, .unset, .unset]) G X16.here hx (hb hby at_67) rfl rfl
      replace G := own_iloadN (q := 70) G X16.here hx (hb hby at_69) rfl rfl
      by_cases hc70_17 : pb = (0 : Int32)
      · replace G := own_ifNo (q := 73) G X16.here hx (hb hby at_70) ((if0 _ _).trans (teq hc70_17).2) rfl
        replace G := own_lload (q := 75) G X16.here hx (hb hby at_73) rfl rfl
        replace G := own_lload (q := 77) G X16.here hx (hb hby at_75) rfl rfl
        replace G := own_lcmp (q := 78) G X16.here hx (hb hby at_77) rfl
        have hc78_18 : lr = (3000 : Int64) := by subst hn_lr hn_r; rw [hc70_17]; decide
        replace G := own_ifNo (q := 81) G X16.here hx (hb hby at_78) ((if0 _ _).trans (teq ((lw_eq _ _).mpr hc78_18)).2) rfl
        replace G := own_iconst (q := 82) G X16.here hx (hb hby at_81) (v := (1 : Int32)) (by decide) rfl
        replace G := own_goto (q := 86) G X16.here hx (hb hby at_82) (by decide) (by decide)
        obtain ⟨fs, hr, hrun, hended, hW, hsame⟩ := X16.leave (v := some (.int (1 : Int32))) (fun h => by rw [Bd.returns] at h; cases h)
        refine ⟨_, _, G _ (retOut X16 hx Bd.returns rfl (Or.inl ⟨rfl, Or.inr (Or.inl rfl), _, rfl⟩) (hb hby at_86) hr), hrun, hended, _, _, rfl, ?_, ⟨_, rfl⟩, hW, hsame.mono (by decide) (by decide)⟩
        show Q0 Z i0 i1 h0 n0 _ T16.heap _
        rw [e16]
        exact ⟨rfl, N16⟩
      · replace G := own_ifYes (q := 87) G X16.here hx (hb hby at_70) ((if0 _ _).trans (feq hc70_17).2) (by decide) (by decide)
        replace G := own_iloadN (q := 88) G X16.here hx (hb hby at_87) rfl rfl
        obtain ⟨lp, hn_lp⟩ : ∃ z : Int64, (pb.toInt64) = z := ⟨_, rfl⟩
        replace G := own_i2l (q := 89) G X16.here hx (hb hby at_88) hn_lp rfl
        replace G := own_lstore (q := 91) (l' := #[.val (.int i0), .val (.int i1), .val (.int kk), .val (.int pb), .val (.int r), .val (.long (3000 : Int64)), .second, .val (.long (400000 : Int64)), .second, .val (.long lr), .second, .val (.long lp), .second, .unset, .unset, .unset]) G X16.here hx (hb hby at_89) rfl rfl
        replace G := own_lload (q := 93) G X16.here hx (hb hby at_91) rfl rfl
        replace G := own_lload (q := 95) G X16.here hx (hb hby at_93) rfl rfl
        replace G := own_lcmp (q := 96) G X16.here hx (hb hby at_95) rfl
        have hc96_19 : ¬ (lr < (3000 : Int64)) := by subst hn_lr hn_lp hn_r; exact (own_law pb (own_pos hp hc70_17)).1
        replace G := own_ifNo (q := 99) G X16.here hx (hb hby at_96) ((if0 _ _).trans (flt (fun z => hc96_19 ((lw_lt _ _).mp z))).1) rfl
        replace G := own_iconst (q := 100) G X16.here hx (hb hby at_99) (v := (1 : Int32)) (by decide) rfl
        replace G := own_goto (q := 104) G X16.here hx (hb hby at_100) (by decide) (by decide)
        replace G := own_istore (q := 106) (l' := #[.val (.int i0), .val (.int i1), .val (.int kk), .val (.int pb), .val (.int r), .val (.long (3000 : Int64)), .second, .val (.long (400000 : Int64)), .second, .val (.long lr), .second, .val (.long lp), .second, .val (.int (1 : Int32)), .unset, .unset]) G X16.here hx (hb hby at_104) rfl rfl
        replace G := own_lload (q := 108) G X16.here hx (hb hby at_106) rfl rfl
        replace G := own_lload (q := 110) G X16.here hx (hb hby at_108) rfl rfl
        replace G := own_lmul (q := 111) G X16.here hx (hb hby at_110) rfl rfl
        replace G := own_lload (q := 113) G X16.here hx (hb hby at_111) rfl rfl
        replace G := own_lcmp (q := 114) G X16.here hx (hb hby at_113) rfl
        have hc114_20 : ¬ ((lr * lp) < (400000 : Int64)) := by subst hn_lr hn_lp hn_r; exact (own_law pb (own_pos hp hc70_17)).2.1
        replace G := own_ifNo (q := 117) G X16.here hx (hb hby at_114) ((if0 _ _).trans (flt (fun z => hc114_20 ((lw_lt _ _).mp z))).1) rfl
        replace G := own_iconst (q := 118) G X16.here hx (hb hby at_117) (v := (1 : Int32)) (by decide) rfl
        replace G := own_goto (q := 122) G X16.here hx (hb hby at_118) (by decide) (by decide)
        replace G := own_istore (q := 124) (l' := #[.val (.int i0), .val (.int i1), .val (.int kk), .val (.int pb), .val (.int r), .val (.long (3000 : Int64)), .second, .val (.long (400000 : Int64)), .second, .val (.long lr), .second, .val (.long lp), .second, .val (.int (1 : Int32)), .val (.int (1 : Int32)), .unset]) G X16.here hx (hb hby at_122) rfl rfl
        replace G := own_lload (q := 126) G X16.here hx (hb hby at_124) rfl rfl
        replace G := own_lload (q := 128) G X16.here hx (hb hby at_126) rfl rfl
        replace G := own_lcmp (q := 129) G X16.here hx (hb hby at_128) rfl
        by_cases hc129_21 : lr = (3000 : Int64)
        · replace G := own_ifYes (q := 145) G X16.here hx (hb hby at_129) ((if0 _ _).trans (teq ((lw_eq _ _).mpr hc129_21)).1) (by decide) (by decide)
          replace G := own_iconst (q := 146) G X16.here hx (hb hby at_145) (v := (1 : Int32)) (by decide) rfl
          replace G := own_goto (q := 150) G X16.here hx (hb hby at_146) (by decide) (by decide)
          replace G := own_istore (q := 152) (l' := #[.val (.int i0), .val (.int i1), .val (.int kk), .val (.int pb), .val (.int r), .val (.long (3000 : Int64)), .second, .val (.long (400000 : Int64)), .second, .val (.long lr), .second, .val (.long lp), .second, .val (.int (1 : Int32)), .val (.int (1 : Int32)), .val (.int (1 : Int32))]) G X16.here hx (hb hby at_150) rfl rfl
          replace G := own_iload (q := 154) G X16.here hx (hb hby at_152) rfl rfl
          have hc154_22 : ¬ ((1 : Int32) = (0 : Int32)) := by decide
          replace G := own_ifNo (q := 157) G X16.here hx (hb hby at_154) ((if0 _ _).trans (feq hc154_22).1) rfl
          replace G := own_iload (q := 159) G X16.here hx (hb hby at_157) rfl rfl
          have hc159_23 : ¬ ((1 : Int32) = (0 : Int32)) := by decide
          replace G := own_ifNo (q := 162) G X16.here hx (hb hby at_159) ((if0 _ _).trans (feq hc159_23).1) rfl
          replace G := own_iload (q := 164) G X16.here hx (hb hby at_162) rfl rfl
          have hc164_24 : ¬ ((1 : Int32) = (0 : Int32)) := by decide
          replace G := own_ifNo (q := 167) G X16.here hx (hb hby at_164) ((if0 _ _).trans (feq hc164_24).1) rfl
          replace G := own_iconst (q := 168) G X16.here hx (hb hby at_167) (v := (1 : Int32)) (by decide) rfl
          replace G := own_goto (q := 172) G X16.here hx (hb hby at_168) (by decide) (by decide)
          obtain ⟨fs, hr, hrun, hended, hW, hsame⟩ := X16.leave (v := some (.int (1 : Int32))) (fun h => by rw [Bd.returns] at h; cases h)
          refine ⟨_, _, G _ (retOut X16 hx Bd.returns rfl (Or.inl ⟨rfl, Or.inr (Or.inl rfl), _, rfl⟩) (hb hby at_172) hr), hrun, hended, _, _, rfl, ?_, ⟨_, rfl⟩, hW, hsame.mono (by decide) (by decide)⟩
          show Q0 Z i0 i1 h0 n0 _ T16.heap _
          rw [e16]
          exact ⟨rfl, N16⟩
        · replace G := own_ifNo (q := 132) G X16.here hx (hb hby at_129) ((if0 _ _).trans (feq (fun z => hc129_21 ((lw_eq _ _).mp z))).1) rfl
          replace G := own_lload (q := 134) G X16.here hx (hb hby at_132) rfl rfl
          replace G := own_lconst (q := 135) G X16.here hx (hb hby at_134) (v := (1 : Int64)) (by decide) rfl
          replace G := own_lsub (q := 136) G X16.here hx (hb hby at_135) rfl rfl
          replace G := own_lload (q := 138) G X16.here hx (hb hby at_136) rfl rfl
          replace G := own_lmul (q := 139) G X16.here hx (hb hby at_138) rfl rfl
          replace G := own_lload (q := 141) G X16.here hx (hb hby at_139) rfl rfl
          replace G := own_lcmp (q := 142) G X16.here hx (hb hby at_141) rfl
          have hc142_25 : ((lr - (1 : Int64)) * lp) < (400000 : Int64) := by subst hn_lr hn_lp hn_r; exact (own_law pb (own_pos hp hc70_17)).2.2 hc129_21
          replace G := own_ifNo (q := 145) G X16.here hx (hb hby at_142) ((if0 _ _).trans (tlt ((lw_lt _ _).mpr hc142_25)).2.1) rfl
          replace G := own_iconst (q := 146) G X16.here hx (hb hby at_145) (v := (1 : Int32)) (by decide) rfl
          replace G := own_goto (q := 150) G X16.here hx (hb hby at_146) (by decide) (by decide)
          replace G := own_istore (q := 152) (l' := #[.val (.int i0), .val (.int i1), .val (.int kk), .val (.int pb), .val (.int r), .val (.long (3000 : Int64)), .second, .val (.long (400000 : Int64)), .second, .val (.long lr), .second, .val (.long lp), .second, .val (.int (1 : Int32)), .val (.int (1 : Int32)), .val (.int (1 : Int32))]) G X16.here hx (hb hby at_150) rfl rfl
          replace G := own_iload (q := 154) G X16.here hx (hb hby at_152) rfl rfl
          have hc154_26 : ¬ ((1 : Int32) = (0 : Int32)) := by decide
          replace G := own_ifNo (q := 157) G X16.here hx (hb hby at_154) ((if0 _ _).trans (feq hc154_26).1) rfl
          replace G := own_iload (q := 159) G X16.here hx (hb hby at_157) rfl rfl
          have hc159_27 : ¬ ((1 : Int32) = (0 : Int32)) := by decide
          replace G := own_ifNo (q := 162) G X16.here hx (hb hby at_159) ((if0 _ _).trans (feq hc159_27).1) rfl
          replace G := own_iload (q := 164) G X16.here hx (hb hby at_162) rfl rfl
          have hc164_28 : ¬ ((1 : Int32) = (0 : Int32)) := by decide
          replace G := own_ifNo (q := 167) G X16.here hx (hb hby at_164) ((if0 _ _).trans (feq hc164_28).1) rfl
          replace G := own_iconst (q := 168) G X16.here hx (hb hby at_167) (v := (1 : Int32)) (by decide) rfl
          replace G := own_goto (q := 172) G X16.here hx (hb hby at_168) (by decide) (by decide)
          obtain ⟨fs, hr, hrun, hended, hW, hsame⟩ := X16.leave (v := some (.int (1 : Int32))) (fun h => by rw [Bd.returns] at h; cases h)
          refine ⟨_, _, G _ (retOut X16 hx Bd.returns rfl (Or.inl ⟨rfl, Or.inr (Or.inl rfl), _, rfl⟩) (hb hby at_172) hr), hrun, hended, _, _, rfl, ?_, ⟨_, rfl⟩, hW, hsame.mono (by decide) (by decide)⟩
          show Q0 Z i0 i1 h0 n0 _ T16.heap _
          rw [e16]
          exact ⟨rfl, N16⟩
    · replace G := own_icmpYes (q := 30) G X0.here hx (hb hby at_18) (feq hc18_15).2 (by decide) (by decide)
      replace G := own_iloadN (q := 31) G X0.here hx (hb hby at_30) rfl rfl
      replace G := own_iconst (q := 32) G X0.here hx (hb hby at_31) (v := (2 : Int32)) (by decide) rfl
      by_cases hc32_29 : kk = (2 : Int32)
      · replace G := own_icmpNo (q := 35) G X0.here hx (hb hby at_32) (teq hc32_29).2 rfl
        replace G := own_iconst (q := 36) G X0.here hx (hb hby at_35) (v := (0 : Int32)) (by decide) rfl
        replace G := own_istoreN (q := 37) (l' := #[.val (.int i0), .val (.int i1), .val (.int kk), .val (.int (0 : Int32)), .unset, .unset, .unset, .unset, .unset, .unset, .unset, .unset, .unset, .unset, .unset, .unset]) G X0.here hx (hb hby at_36) rfl rfl
        replace G := own_goto (q := 48) G X0.here hx (hb hby at_37) (by decide) (by decide)
        replace G := own_iloadN (q := 49) G X0.here hx (hb hby at_48) rfl rfl
        obtain ⟨_, _, ⟨T30, L30, kk30, nn30⟩, -, X30, ⟨Lc30, hQ30, l30, y30, z30⟩, st30⟩ := Jvm.LawKit.callS X0 hx (y := (⟨"com/example/swathwork/swathwork/planner/SearchPlanner", "defaultIterations", "(I)I"⟩ : MethodName)) hown (mvT hZ (hw _ (List.mem_of_getElem? (i := 2) rfl))) (mvT hZ (hw _ (List.mem_of_getElem? (i := 3) rfl))) (mvT hZ (hw _ (List.mem_of_getElem? (i := 4) rfl))) (mvT hZ (hw _ (List.mem_of_getElem? (i := 5) rfl))) (by decide) (backOf (W := 0) (rm1 l Z a0 hw [] (0 : Int32) h0 n0 Z0 ) hZ (hw _ (List.mem_of_getElem? (i := 5) rfl)) (hw _ (List.mem_of_getElem? (i := 4) rfl)) (by decide) (by decide)) (g := (mkF m 49 #[.val (.int i0), .val (.int i1), .val (.int kk), .val (.int (0 : Int32)), .unset, .unset, .unset, .unset, .unset, .unset, .unset, .unset, .unset, .unset, .unset, .unset] [(.int (0 : Int32))])) rfl (by rw [hml]; rfl) (argsL := [(.int (0 : Int32))]) (rest := []) (lenOf pd_1 rfl) rfl (by show 2 * 0 + _ ≤ _; exact Nat.le_of_eq rfl) (hb hby at_49) (fun _ _ => ⟨rfl, e0, (by decide : 0 + 0 ≤ _), (by decide : 0 + 0 ≤ _)⟩)
        dsimp only [Pt.U, Pt.locs, Pt.cells, Pt.slots] at X30 l30 y30 z30 st30 hQ30
        subst l30 y30 z30
        obtain ⟨rfl, N30q, e30⟩ := hQ30
        have N30 := Fr.app N0 N30q
        replace G : Gets p e below _ (T30.setTop (mkF m 52 #[.val (.int i0), .val (.int i1), .val (.int kk), .val (.int (0 : Int32)), .unset, .unset, .unset, .unset, .unset, .unset, .unset, .unset, .unset, .unset, .unset, .unset] [(.int (own_di (0 : Int32)))])) := fun t k => G t (st30 t k)
        obtain ⟨r, hn_r⟩ : ∃ z : Int32, (own_di (0 : Int32)) = z := ⟨_, rfl⟩
        rw [hn_r] at G
        replace G := own_istore (q := 54) (l' := #[.val (.int i0), .val (.int i1), .val (.int kk), .val (.int (0 : Int32)), .val (.int r), .unset, .unset, .unset, .unset, .unset, .unset, .unset, .unset, .unset, .unset, .unset]) G X30.here hx (hb hby at_52) rfl rfl
        replace G : Gets p e below _ (T30.setTop (mkF m 57 #[.val (.int i0), .val (.int i1), .val (.int kk), .val (.int (0 : Int32)), .val (.int r), .unset, .unset, .unset, .unset, .unset, .unset, .unset, .unset, .unset, .unset, .unset] [(.long (3000 : Int64))])) := fun t k => G t (X30.ldc2Long hx hown (mvT hZ (hw _ (List.mem_of_getElem? (i := 6) rfl))) (g := (mkF m 54 #[.val (.int i0), .val (.int i1), .val (.int kk), .val (.int (0 : Int32)), .val (.int r), .unset, .unset, .unset, .unset, .unset, .unset, .unset, .unset, .unset, .unset, .unset] [])) rfl (hb hby at_54) t k)
        replace G := own_lstore (q := 59) (l' := #[.val (.int i0), .val (.int i1), .val (.int kk), .val (.int (0 : Int32)), .val (.int r), .val (.long (3000 : Int64)), .second, .unset, .unset, .unset, .unset, .unset, .unset, .unset, .unset, .unset]) G X30.here hx (hb hby at_57) rfl rfl
        replace G : Gets p e below _ (T30.setTop (mkF m 62 #[.val (.int i0), .val (.int i1), .val (.int kk), .val (.int (0 : Int32)), .val (.int r), .val (.long (3000 : Int64)), .second, .unset, .unset, .unset, .unset, .unset, .unset, .unset, .unset, .unset] [(.long (400000 : Int64))])) := fun t k => G t (X30.ldc2Long hx hown (mvT hZ (hw _ (List.mem_of_getElem? (i := 7) rfl))) (g := (mkF m 59 #[.val (.int i0), .val (.int i1), .val (.int kk), .val (.int (0 : Int32)), .val (.int r), .val (.long (3000 : Int64)), .second, .unset, .unset, .unset, .unset, .unset, .unset, .unset, .unset, .unset] [])) rfl (hb hby at_59) t k)
        replace G := own_lstore (q := 64) (l' := #[.val (.int i0), .val (.int i1), .val (.int kk), .val (.int (0 : Int32)), .val (.int r), .val (.long (3000 : Int64)), .second, .val (.long (400000 : Int64)), .second, .unset, .unset, .unset, .unset, .unset, .unset, .unset]) G X30.here hx (hb hby at_62) rfl rfl
        replace G := own_iload (q := 66) G X30.here hx (hb hby at_64) rfl rfl
        obtain ⟨lr, hn_lr⟩ : ∃ z : Int64, (r.toInt64) = z := ⟨_, rfl⟩
        replace G := own_i2l (q := 67) G X30.here hx (hb hby at_66) hn_lr rfl
        replace G := own_lstore (q := 69) (l' := #[.val (.int i0), .val (.int i1), .val (.int kk), .val (.int (0 : Int32)), .val (.int r), .val (.long (3000 : Int64)), .second, .val (.long (400000 : Int64)), .second, .val (.long lr), .second, .unset, .unset, .unset, .unset, .unset]) G X30.here hx (hb hby at_67) rfl rfl
        replace G := own_iloadN (q := 70) G X30.here hx (hb hby at_69) rfl rfl
        have hc70_31 : (0 : Int32) = (0 : Int32) := by decide
        replace G := own_ifNo (q := 73) G X30.here hx (hb hby at_70) ((if0 _ _).trans (teq hc70_31).2) rfl
        replace G := own_lload (q := 75) G X30.here hx (hb hby at_73) rfl rfl
        replace G := own_lload (q := 77) G X30.here hx (hb hby at_75) rfl rfl
        replace G := own_lcmp (q := 78) G X30.here hx (hb hby at_77) rfl
        have hc78_32 : lr = (3000 : Int64) := by subst hn_lr hn_r; decide
        replace G := own_ifNo (q := 81) G X30.here hx (hb hby at_78) ((if0 _ _).trans (teq ((lw_eq _ _).mpr hc78_32)).2) rfl
        replace G := own_iconst (q := 82) G X30.here hx (hb hby at_81) (v := (1 : Int32)) (by decide) rfl
        replace G := own_goto (q := 86) G X30.here hx (hb hby at_82) (by decide) (by decide)
        obtain ⟨fs, hr, hrun, hended, hW, hsame⟩ := X30.leave (v := some (.int (1 : Int32))) (fun h => by rw [Bd.returns] at h; cases h)
        refine ⟨_, _, G _ (retOut X30 hx Bd.returns rfl (Or.inl ⟨rfl, Or.inr (Or.inl rfl), _, rfl⟩) (hb hby at_86) hr), hrun, hended, _, _, rfl, ?_, ⟨_, rfl⟩, hW, hsame.mono (by decide) (by decide)⟩
        show Q0 Z i0 i1 h0 n0 _ T30.heap _
        rw [e30]
        exact ⟨rfl, N30⟩
      · replace G := own_icmpYes (q := 40) G X0.here hx (hb hby at_32) (feq hc32_29).2 (by decide) (by decide)
        replace G := own_iloadN (q := 41) G X0.here hx (hb hby at_40) rfl rfl
        replace G : Gets p e below _ (s₁.setTop (mkF m 43 #[.val (.int i0), .val (.int i1), .val (.int kk), .unset, .unset, .unset, .unset, .unset, .unset, .unset, .unset, .unset, .unset, .unset, .unset, .unset] [(.int (2147483647 : Int32)), (.int i0)])) := fun t k => G t (X0.ldcInt hx hown (mvT hZ (hw _ (List.mem_of_getElem? (i := 0) rfl))) (g := (mkF m 41 #[.val (.int i0), .val (.int i1), .val (.int kk), .unset, .unset, .unset, .unset, .unset, .unset, .unset, .unset, .unset, .unset, .unset, .unset, .unset] [(.int i0)])) rfl (hb hby at_41) t k)
        obtain ⟨pc, hn_pc⟩ : ∃ z : Int32, (i0 &&& (2147483647 : Int32)) = z := ⟨_, rfl⟩
        replace G := own_iand (q := 44) G X0.here hx (hb hby at_43) hn_pc rfl
        replace G : Gets p e below _ (s₁.setTop (mkF m 46 #[.val (.int i0), .val (.int i1), .val (.int kk), .unset, .unset, .unset, .unset, .unset, .unset, .unset, .unset, .unset, .unset, .unset, .unset, .unset] [(.int (400001 : Int32)), (.int pc)])) := fun t k => G t (X0.ldcInt hx hown (mvT hZ (hw _ (List.mem_of_getElem? (i := 1) rfl))) (g := (mkF m 44 #[.val (.int i0), .val (.int i1), .val (.int kk), .unset, .unset, .unset, .unset, .unset, .unset, .unset, .unset, .unset, .unset, .unset, .unset, .unset] [(.int pc)])) rfl (hb hby at_44) t k)
        obtain ⟨pd, hn_pd⟩ : ∃ z : Int32, (pc % (400001 : Int32)) = z := ⟨_, rfl⟩
        replace G := own_irem (q := 47) G X0.here hx (hb hby at_46) (by decide) hn_pd rfl
        replace G := own_istoreN (q := 48) (l' := #[.val (.int i0), .val (.int i1), .val (.int kk), .val (.int pd), .unset, .unset, .unset, .unset, .unset, .unset, .unset, .unset, .unset, .unset, .unset, .unset]) G X0.here hx (hb hby at_47) rfl rfl
        have a1 := c_mask i0 2147483647 31 (by decide) (by decide)
        rw [hn_pc] at a1
        have a2 := (c_irem pc 400001 400001 (by decide)).1 (by omega)
        rw [hn_pd] at a2
        have hp : 0 ≤ pd.toInt := by omega
        replace G := own_iloadN (q := 49) G X0.here hx (hb hby at_48) rfl rfl
        obtain ⟨_, _, ⟨T33, L33, kk33, nn33⟩, -, X33, ⟨Lc33, hQ33, l33, y33, z33⟩, st33⟩ := Jvm.LawKit.callS X0 hx (y := (⟨"com/example/swathwork/swathwork/planner/SearchPlanner", "defaultIterations", "(I)I"⟩ : MethodName)) hown (mvT hZ (hw _ (List.mem_of_getElem? (i := 2) rfl))) (mvT hZ (hw _ (List.mem_of_getElem? (i := 3) rfl))) (mvT hZ (hw _ (List.mem_of_getElem? (i := 4) rfl))) (mvT hZ (hw _ (List.mem_of_getElem? (i := 5) rfl))) (by decide) (backOf (W := 0) (rm1 l Z a0 hw [] pd h0 n0 Z0 ) hZ (hw _ (List.mem_of_getElem? (i := 5) rfl)) (hw _ (List.mem_of_getElem? (i := 4) rfl)) (by decide) (by decide)) (g := (mkF m 49 #[.val (.int i0), .val (.int i1), .val (.int kk), .val (.int pd), .unset, .unset, .unset, .unset, .unset, .unset, .unset, .unset, .unset, .unset, .unset, .unset] [(.int pd)])) rfl (by rw [hml]; rfl) (argsL := [(.int pd)]) (rest := []) (lenOf pd_1 rfl) rfl (by show 2 * 0 + _ ≤ _; exact Nat.le_of_eq rfl) (hb hby at_49) (fun _ _ => ⟨rfl, e0, (by decide : 0 + 0 ≤ _), (by decide : 0 + 0 ≤ _)⟩)
        dsimp only [Pt.U, Pt.locs, Pt.cells, Pt.slots] at X33 l33 y33 z33 st33 hQ33
        subst l33 y33 z33
        obtain ⟨rfl, N33q, e33⟩ := hQ33
        have N33 := Fr.app N0 N33q
        replace G : Gets p e below _ (T33.setTop (mkF m 52 #[.val (.int i0), .val (.int i1), .val (.int kk), .val (.int pd), .unset, .unset, .unset, .unset, .unset, .unset, .unset, .unset, .unset, .unset, .unset, .unset] [(.int (own_di pd))])) := fun t k => G t (st33 t k)
        obtain ⟨r, hn_r⟩ : ∃ z : Int32, (own_di pd) = z := ⟨_, rfl⟩
        rw [hn_r] at G
        replace G := own_istore (q := 54) (l' := #[.val (.int i0), .val (.int i1), .val (.int kk), .val (.int pd), .val (.int r), .unset, .unset, .unset, .unset, .unset, .unset, .unset, .unset, .unset, .unset, .unset]) G X33.here hx (hb hby at_52) rfl rfl
        replace G : Gets p e below _ (T33.setTop (mkF m 57 #[.val (.int i0), .val (.int i1), .val (.int kk), .val (.int pd), .val (.int r), .unset, .unset, .unset, .unset, .unset, .unset, .unset, .unset, .unset, .unset, .unset] [(.long (3000 : Int64))])) := fun t k => G t (X33.ldc2Long hx hown (mvT hZ (hw _ (List.mem_of_getElem? (i := 6) rfl))) (g := (mkF m 54 #[.val (.int i0), .val (.int i1), .val (.int kk), .val (.int pd), .val (.int r), .unset, .unset, .unset, .unset, .unset, .unset, .unset, .unset, .unset, .unset, .unset] [])) rfl (hb hby at_54) t k)
        replace G := own_lstore (q := 59) (l' := #[.val (.int i0), .val (.int i1), .val (.int kk), .val (.int pd), .val (.int r), .val (.long (3000 : Int64)), .second, .unset, .unset, .unset, .unset, .unset, .unset, .unset, .unset, .unset]) G X33.here hx (hb hby at_57) rfl rfl
        replace G : Gets p e below _ (T33.setTop (mkF m 62 #[.val (.int i0), .val (.int i1), .val (.int kk), .val (.int pd), .val (.int r), .val (.long (3000 : Int64)), .second, .unset, .unset, .unset, .unset, .unset, .unset, .unset, .unset, .unset] [(.long (400000 : Int64))])) := fun t k => G t (X33.ldc2Long hx hown (mvT hZ (hw _ (List.mem_of_getElem? (i := 7) rfl))) (g := (mkF m 59 #[.val (.int i0), .val (.int i1), .val (.int kk), .val (.int pd), .val (.int r), .val (.long (3000 : Int64)), .second, .unset, .unset, .unset, .unset, .unset, .unset, .unset, .unset, .unset] [])) rfl (hb hby at_59) t k)
        replace G := own_lstore (q := 64) (l' := #[.val (.int i0), .val (.int i1), .val (.int kk), .val (.int pd), .val (.int r), .val (.long (3000 : Int64)), .second, .val (.long (400000 : Int64)), .second, .unset, .unset, .unset, .unset, .unset, .unset, .unset]) G X33.here hx (hb hby at_62) rfl rfl
        replace G := own_iload (q := 66) G X33.here hx (hb hby at_64) rfl rfl
        obtain ⟨lr, hn_lr⟩ : ∃ z : Int64, (r.toInt64) = z := ⟨_, rfl⟩
        replace G := own_i2l (q := 67) G X33.here hx (hb hby at_66) hn_lr rfl
        replace G := own_lstore (q := 69) (l' := #[.val (.int i0), .val (.int i1), .val (.int kk), .val (.int pd), .val (.int r), .val (.long (3000 : Int64)), .second, .val (.long (400000 : Int64)), .second, .val (.long lr), .second, .unset, .unset, .unset, .unset, .unset]) G X33.here hx (hb hby at_67) rfl rfl
        replace G := own_iloadN (q := 70) G X33.here hx (hb hby at_69) rfl rfl
        by_cases hc70_34 : pd = (0 : Int32)
        · replace G := own_ifNo (q := 73) G X33.here hx (hb hby at_70) ((if0 _ _).trans (teq hc70_34).2) rfl
          replace G := own_lload (q := 75) G X33.here hx (hb hby at_73) rfl rfl
          replace G := own_lload (q := 77) G X33.here hx (hb hby at_75) rfl rfl
          replace G := own_lcmp (q := 78) G X33.here hx (hb hby at_77) rfl
          have hc78_35 : lr = (3000 : Int64) := by subst hn_lr hn_r; rw [hc70_34]; decide
          replace G := own_ifNo (q := 81) G X33.here hx (hb hby at_78) ((if0 _ _).trans (teq ((lw_eq _ _).mpr hc78_35)).2) rfl
          replace G := own_iconst (q := 82) G X33.here hx (hb hby at_81) (v := (1 : Int32)) (by decide) rfl
          replace G := own_goto (q := 86) G X33.here hx (hb hby at_82) (by decide) (by decide)
          obtain ⟨fs, hr, hrun, hended, hW, hsame⟩ := X33.leave (v := some (.int (1 : Int32))) (fun h => by rw [Bd.returns] at h; cases h)
          refine ⟨_, _, G _ (retOut X33 hx Bd.returns rfl (Or.inl ⟨rfl, Or.inr (Or.inl rfl), _, rfl⟩) (hb hby at_86) hr), hrun, hended, _, _, rfl, ?_, ⟨_, rfl⟩, hW, hsame.mono (by decide) (by decide)⟩
          show Q0 Z i0 i1 h0 n0 _ T33.heap _
          rw [e33]
          exact ⟨rfl, N33⟩
        · replace G := own_ifYes (q := 87) G X33.here hx (hb hby at_70) ((if0 _ _).trans (feq hc70_34).2) (by decide) (by decide)
          replace G := own_iloadN (q := 88) G X33.here hx (hb hby at_87) rfl rfl
          obtain ⟨lp, hn_lp⟩ : ∃ z : Int64, (pd.toInt64) = z := ⟨_, rfl⟩
          replace G := own_i2l (q := 89) G X33.here hx (hb hby at_88) hn_lp rfl
          replace G := own_lstore (q := 91) (l' := #[.val (.int i0), .val (.int i1), .val (.int kk), .val (.int pd), .val (.int r), .val (.long (3000 : Int64)), .second, .val (.long (400000 : Int64)), .second, .val (.long lr), .second, .val (.long lp), .second, .unset, .unset, .unset]) G X33.here hx (hb hby at_89) rfl rfl
          replace G := own_lload (q := 93) G X33.here hx (hb hby at_91) rfl rfl
          replace G := own_lload (q := 95) G X33.here hx (hb hby at_93) rfl rfl
          replace G := own_lcmp (q := 96) G X33.here hx (hb hby at_95) rfl
          have hc96_36 : ¬ (lr < (3000 : Int64)) := by subst hn_lr hn_lp hn_r; exact (own_law pd (own_pos hp hc70_34)).1
          replace G := own_ifNo (q := 99) G X33.here hx (hb hby at_96) ((if0 _ _).trans (flt (fun z => hc96_36 ((lw_lt _ _).mp z))).1) rfl
          replace G := own_iconst (q := 100) G X33.here hx (hb hby at_99) (v := (1 : Int32)) (by decide) rfl
          replace G := own_goto (q := 104) G X33.here hx (hb hby at_100) (by decide) (by decide)
          replace G := own_istore (q := 106) (l' := #[.val (.int i0), .val (.int i1), .val (.int kk), .val (.int pd), .val (.int r), .val (.long (3000 : Int64)), .second, .val (.long (400000 : Int64)), .second, .val (.long lr), .second, .val (.long lp), .second, .val (.int (1 : Int32)), .unset, .unset]) G X33.here hx (hb hby at_104) rfl rfl
          replace G := own_lload (q := 108) G X33.here hx (hb hby at_106) rfl rfl
          replace G := own_lload (q := 110) G X33.here hx (hb hby at_108) rfl rfl
          replace G := own_lmul (q := 111) G X33.here hx (hb hby at_110) rfl rfl
          replace G := own_lload (q := 113) G X33.here hx (hb hby at_111) rfl rfl
          replace G := own_lcmp (q := 114) G X33.here hx (hb hby at_113) rfl
          have hc114_37 : ¬ ((lr * lp) < (400000 : Int64)) := by subst hn_lr hn_lp hn_r; exact (own_law pd (own_pos hp hc70_34)).2.1
          replace G := own_ifNo (q := 117) G X33.here hx (hb hby at_114) ((if0 _ _).trans (flt (fun z => hc114_37 ((lw_lt _ _).mp z))).1) rfl
          replace G := own_iconst (q := 118) G X33.here hx (hb hby at_117) (v := (1 : Int32)) (by decide) rfl
          replace G := own_goto (q := 122) G X33.here hx (hb hby at_118) (by decide) (by decide)
          replace G := own_istore (q := 124) (l' := #[.val (.int i0), .val (.int i1), .val (.int kk), .val (.int pd), .val (.int r), .val (.long (3000 : Int64)), .second, .val (.long (400000 : Int64)), .second, .val (.long lr), .second, .val (.long lp), .second, .val (.int (1 : Int32)), .val (.int (1 : Int32)), .unset]) G X33.here hx (hb hby at_122) rfl rfl
          replace G := own_lload (q := 126) G X33.here hx (hb hby at_124) rfl rfl
          replace G := own_lload (q := 128) G X33.here hx (hb hby at_126) rfl rfl
          replace G := own_lcmp (q := 129) G X33.here hx (hb hby at_128) rfl
          by_cases hc129_38 : lr = (3000 : Int64)
          · replace G := own_ifYes (q := 145) G X33.here hx (hb hby at_129) ((if0 _ _).trans (teq ((lw_eq _ _).mpr hc129_38)).1) (by decide) (by decide)
            replace G := own_iconst (q := 146) G X33.here hx (hb hby at_145) (v := (1 : Int32)) (by decide) rfl
            replace G := own_goto (q := 150) G X33.here hx (hb hby at_146) (by decide) (by decide)
            replace G := own_istore (q := 152) (l' := #[.val (.int i0), .val (.int i1), .val (.int kk), .val (.int pd), .val (.int r), .val (.long (3000 : Int64)), .second, .val (.long (400000 : Int64)), .second, .val (.long lr), .second, .val (.long lp), .second, .val (.int (1 : Int32)), .val (.int (1 : Int32)), .val (.int (1 : Int32))]) G X33.here hx (hb hby at_150) rfl rfl
            replace G := own_iload (q := 154) G X33.here hx (hb hby at_152) rfl rfl
            have hc154_39 : ¬ ((1 : Int32) = (0 : Int32)) := by decide
            replace G := own_ifNo (q := 157) G X33.here hx (hb hby at_154) ((if0 _ _).trans (feq hc154_39).1) rfl
            replace G := own_iload (q := 159) G X33.here hx (hb hby at_157) rfl rfl
            have hc159_40 : ¬ ((1 : Int32) = (0 : Int32)) := by decide
            replace G := own_ifNo (q := 162) G X33.here hx (hb hby at_159) ((if0 _ _).trans (feq hc159_40).1) rfl
            replace G := own_iload (q := 164) G X33.here hx (hb hby at_162) rfl rfl
            have hc164_41 : ¬ ((1 : Int32) = (0 : Int32)) := by decide
            replace G := own_ifNo (q := 167) G X33.here hx (hb hby at_164) ((if0 _ _).trans (feq hc164_41).1) rfl
            replace G := own_iconst (q := 168) G X33.here hx (hb hby at_167) (v := (1 : Int32)) (by decide) rfl
            replace G := own_goto (q := 172) G X33.here hx (hb hby at_168) (by decide) (by decide)
            obtain ⟨fs, hr, hrun, hended, hW, hsame⟩ := X33.leave (v := some (.int (1 : Int32))) (fun h => by rw [Bd.returns] at h; cases h)
            refine ⟨_, _, G _ (retOut X33 hx Bd.returns rfl (Or.inl ⟨rfl, Or.inr (Or.inl rfl), _, rfl⟩) (hb hby at_172) hr), hrun, hended, _, _, rfl, ?_, ⟨_, rfl⟩, hW, hsame.mono (by decide) (by decide)⟩
            show Q0 Z i0 i1 h0 n0 _ T33.heap _
            rw [e33]
            exact ⟨rfl, N33⟩
          · replace G := own_ifNo (q := 132) G X33.here hx (hb hby at_129) ((if0 _ _).trans (feq (fun z => hc129_38 ((lw_eq _ _).mp z))).1) rfl
            replace G := own_lload (q := 134) G X33.here hx (hb hby at_132) rfl rfl
            replace G := own_lconst (q := 135) G X33.here hx (hb hby at_134) (v := (1 : Int64)) (by decide) rfl
            replace G := own_lsub (q := 136) G X33.here hx (hb hby at_135) rfl rfl
            replace G := own_lload (q := 138) G X33.here hx (hb hby at_136) rfl rfl
            replace G := own_lmul (q := 139) G X33.here hx (hb hby at_138) rfl rfl
            replace G := own_lload (q := 141) G X33.here hx (hb hby at_139) rfl rfl
            replace G := own_lcmp (q := 142) G X33.here hx (hb hby at_141) rfl
            have hc142_42 : ((lr - (1 : Int64)) * lp) < (400000 : Int64) := by subst hn_lr hn_lp hn_r; exact (own_law pd (own_pos hp hc70_34)).2.2 hc129_38
            replace G := own_ifNo (q := 145) G X33.here hx (hb hby at_142) ((if0 _ _).trans (tlt ((lw_lt _ _).mpr hc142_42)).2.1) rfl
            replace G := own_iconst (q := 146) G X33.here hx (hb hby at_145) (v := (1 : Int32)) (by decide) rfl
            replace G := own_goto (q := 150) G X33.here hx (hb hby at_146) (by decide) (by decide)
            replace G := own_istore (q := 152) (l' := #[.val (.int i0), .val (.int i1), .val (.int kk), .val (.int pd), .val (.int r), .val (.long (3000 : Int64)), .second, .val (.long (400000 : Int64)), .second, .val (.long lr), .second, .val (.long lp), .second, .val (.int (1 : Int32)), .val (.int (1 : Int32)), .val (.int (1 : Int32))]) G X33.here hx (hb hby at_150) rfl rfl
            replace G := own_iload (q := 154) G X33.here hx (hb hby at_152) rfl rfl
            have hc154_43 : ¬ ((1 : Int32) = (0 : Int32)) := by decide
            replace G := own_ifNo (q := 157) G X33.here hx (hb hby at_154) ((if0 _ _).trans (feq hc154_43).1) rfl
            replace G := own_iload (q := 159) G X33.here hx (hb hby at_157) rfl rfl
            have hc159_44 : ¬ ((1 : Int32) = (0 : Int32)) := by decide
            replace G := own_ifNo (q := 162) G X33.here hx (hb hby at_159) ((if0 _ _).trans (feq hc159_44).1) rfl
            replace G := own_iload (q := 164) G X33.here hx (hb hby at_162) rfl rfl
            have hc164_45 : ¬ ((1 : Int32) = (0 : Int32)) := by decide
            replace G := own_ifNo (q := 167) G X33.here hx (hb hby at_164) ((if0 _ _).trans (feq hc164_45).1) rfl
            replace G := own_iconst (q := 168) G X33.here hx (hb hby at_167) (v := (1 : Int32)) (by decide) rfl
            replace G := own_goto (q := 172) G X33.here hx (hb hby at_168) (by decide) (by decide)
            obtain ⟨fs, hr, hrun, hended, hW, hsame⟩ := X33.leave (v := some (.int (1 : Int32))) (fun h => by rw [Bd.returns] at h; cases h)
            refine ⟨_, _, G _ (retOut X33 hx Bd.returns rfl (Or.inl ⟨rfl, Or.inr (Or.inl rfl), _, rfl⟩) (hb hby at_172) hr), hrun, hended, _, _, rfl, ?_, ⟨_, rfl⟩, hW, hsame.mono (by decide) (by decide)⟩
            show Q0 Z i0 i1 h0 n0 _ T33.heap _
            rw [e33]
            exact ⟨rfl, N33⟩
set_option maxRecDepth 65536 in
set_option maxHeartbeats 40000000 in
theorem comes_1 {Post : Tables → Env → Array Value → State → Outcome → State → Prop} (hpost : ∀ tb e args s v u, (limb_1_1.after args s (.returned v) u = true ∧ limb_1_2.after args s (.returned v) u = true ∧ True) → FrameEnd s (.returned v) u (Jvm.fieldLocs frame_1_writes args s ++ Jvm.arrayLocs frame_1_arrays args s ++ Jvm.staticLocs frame_1_statics s) 0 0 → Post tb e args s (.returned v) u) :
    ArmFor flags0 classFile x code maxLocals ret World_1 tables_1 room_1 Calls_1 rest_1 Pre_1 Post := by
  intro l hfl _ _ p e ha hc hk s m args below hf hA hF happ hP
  obtain ⟨hcalls, hrest, hpre⟩ := hP
  obtain ⟨-, -, -, hnamed, -, -, -, hat⟩ := (Spec.applies_iff hf).mp happ
  obtain ⟨hg, hn⟩ := and_e (Cond.before_iff.mp (show (Jvm.Cond.and given_1 narrow_1).before args s = true from hpre))
  obtain ⟨g1, g2⟩ := and_e hg
  obtain ⟨g3, g4⟩ := and_e g2
  obtain ⟨w0, w1, rfl⟩ : ∃ w0 w1 : Value, args = #[w0, w1] := by
    have hs : args.size = 2 := by simpa [Cond.value, given_1] using g1
    obtain ⟨L⟩ := args
    match L, hs with
    | [w0, w1], _ => exact ⟨w0, w1, rfl⟩
  have hw := fun d (hd : d ∈ tables_1) => atoms_spec (ws := Jvm.Cond.code x code maxLocals ret :: tables_1) hat d (List.mem_cons_of_mem _ hd)
  have hfit : Fit s := fun {y c} hc i hi => by
    obtain ⟨ha, rfl⟩ := Array.getElem?_eq_some_iff.mp hc
    have q := List.all_eq_true.mp ((Array.all_eq_true_iff_forall_mem.mp hF) _ (Array.getElem_mem ha)) i (List.mem_range.mpr hi)
    simpa [Array.getElem?_eq_getElem hi] using q
  obtain ⟨i0, ei0⟩ := is_v g3
  obtain rfl : w0 = (.int i0) := Option.some.inj ei0
  obtain ⟨i1, ei1⟩ := is_v g4
  obtain rfl : w1 = (.int i1) := Option.some.inj ei1
  obtain ⟨n, o, h1, h2, h3, _, L, rfl, ⟨rfl, N⟩, hq⟩ := rm0 l s _ hw tables_1 i0 i1 s.heap s.heap.size (Nat.le_refl _)  p e ha hc hk s m _ below hf ((Spec.applies_iff_loose hf).mp happ).1 ⟨rfl, State.Warmed39.refl s, rfl⟩ trivial
  refine ⟨n, _, h1, h2, h3, hpost _ _ _ _ _ _ ⟨Cond.after_iff.mpr rfl, Cond.after_iff.mpr (eq_i res_at (Term.int_eval (1)) rfl), trivial⟩ ⟨hq.1, hq.2.1, (hq.2.2.sift fun y hy => Or.inr (N y hy)).mono (by decide) (by decide)⟩⟩
theorem main_1_1 : Claimed_1_1 := comes_1 fun _ _ _ _ _ _ h hF => ⟨h.1, hF⟩
theorem main_1_2 : Claimed_1_2 := comes_1 fun _ _ _ _ _ _ h hF => ⟨h.2.1, hF⟩
end Jvm.Pilot.@@N@@
namespace Jvm.Pilot.@@N@@
open Jvm Jvm.ClassFile Sem Op Lib Jvm.Free Jvm.Stand Jvm.Pilot.@@N@@.Jvm.D
/-! MADE BY PROGRAM (witnessworld.py) out of the Statement's table words and the real class files: 11 classes; the members and pool entries that the words name. The judged class is class 1, her method 1. -/
namespace start1
open Jvm.ClassFile
def u (s : String) : CpInfo := .utf8 (stringToUtf16 s)
/-- a pool by its gaps: so many unusable entries, then the entry; so many at the end -/
def gap : Nat → List CpInfo → List CpInfo
  | 0, r => r
  | n + 1, r => .unusable :: gap n r
def poolList (es : List (Nat × CpInfo)) (last : Nat) : List CpInfo := es.foldr (fun e r => gap e.1 (e.2 :: r)) (gap last [])
def pool (es : List (Nat × CpInfo)) (last : Nat) : Array CpInfo := ⟨poolList es last⟩
def fileOf (pool : Array CpInfo) (this : Nat) (attrs : Array Attribute := #[]) (ms : Array MethodInfo := #[]) (fl : Nat := 33) (sup : Nat := 0) (ifs : Array Nat := #[]) (fds : Array FieldInfo := #[]) : ClassFile where
  minorVersion := 0
  majorVersion := 65
  constantPool := pool
  accessFlags := fl
  thisClass := this
  superClass := sup
  interfaces := ifs
  fields := fds
  methods := ms
  attributes := attrs
def plain (name : String) (sup : Option ClassId) : Class where
  name := name
  kind := .ordinary
  loader := none
  accessFlags := 33
  super := sup
  interfaces := #[]
  cf := none
  fields := #[]
  methods := #[]
  instanceTypes := #[]
  staticTypes := #[]
  resolved := #[]
  callSites := []
  init := .initialized
  statics := none
  mirror := none

def pool0 : Array CpInfo := pool [(5, u "<init>"), (0, u "()V"), (1, .class_ 10), (1, u "java/lang/Object")] 113

def k0m0 : Method := { name := "<init>", desc := "()V", sig := { parameters := [], returnType := none }, accessFlags := 1, code := none }
/-- java/lang/Object -/
def k0 : Class := { plain "java/lang/Object" none with
  accessFlags := 33
  interfaces := #[]
  cf := some (fileOf pool0 8 #[] #[{ accessFlags := 1, nameIndex := 5, descriptorIndex := 6, attributes := #[] }] 33 0 #[] #[])
  fields := #[]
  methods := #[k0m0]
  instanceTypes := #[]
  staticTypes := #[]
  resolved := Array.replicate 124 none
  statics := none }

def pool1 : Array CpInfo := pool [(2, .class_ 4), (1, u "java/lang/Object"), (0, u "<init>"), (0, u "()V"), (0, .integer 2147483647), (0, .integer 400001), (0, .methodref 10 11), (0, .class_ 12), (0, .nameAndType 13 14), (0, u "com/example/swathwork/swathwork/planner/SearchPlanner"), (0, u "defaultIterations"), (0, u "(I)I"), (0, .long 3000), (1, .long 400000), (1, .class_ 20), (0, u "com/example/swathwork/swathwork/planner/SearchPlannerDefaultIterationsPinLaw"), (2, u "law"), (0, u "(II)Z")] 3

def k1m0 : Method := { name := "<init>", desc := "()V", sig := { parameters := [], returnType := none }, accessFlags := 1, code := none }
def k1c1 : Code := { maxStack := 4, maxLocals := 16, code := code, exceptionTable := #[], attributes := #[] }
def k1m1 : Method := { name := "law", desc := "(II)Z", sig := { parameters := [.int, .int], returnType := some .boolean }, accessFlags := 9, code := some k1c1 }
/-- com/example/swathwork/swathwork/planner/SearchPlannerDefaultIterationsPinLaw -/
def k1 : Class := { plain "com/example/swathwork/swathwork/planner/SearchPlannerDefaultIterationsPinLaw" (some 0) with
  accessFlags := 49
  interfaces := #[]
  cf := some (fileOf pool1 19 #[] #[{ accessFlags := 1, nameIndex := 5, descriptorIndex := 6, attributes := #[] }, { accessFlags := 9, nameIndex := 23, descriptorIndex := 24, attributes := #[] }] 49 2 #[] #[])
  fields := #[]
  methods := #[k1m0, k1m1]
  instanceTypes := #[]
  staticTypes := #[]
  resolved := Array.replicate 28 none
  statics := none }

def pool2 : Array CpInfo := pool [(1, .class_ 2), (0, u "com/example/swathwork/swathwork/planner/Planner"), (0, .class_ 4), (0, u "java/lang/Object")] 6

/-- com/example/swathwork/swathwork/planner/Planner -/
def k2 : Class := { plain "com/example/swathwork/swathwork/planner/Planner" (some 0) with
  accessFlags := 1537
  interfaces := #[]
  cf := some (fileOf pool2 1 #[] #[] 1537 3 #[] #[])
  fields := #[]
  methods := #[]
  instanceTypes := #[]
  staticTypes := #[]
  resolved := Array.replicate 11 none
  statics := none }

def pool3 : Array CpInfo := pool [(2, .class_ 4), (1, u "java/lang/Object"), (3, .class_ 10), (1, u "com/example/swathwork/swathwork/planner/SearchPlanner"), (0, u "greedy"), (0, u "Lcom/example/swathwork/swathwork/planner/GreedyPlanner;"), (2, u "iterations"), (0, u "I"), (55, .integer 400000), (0, .methodref 74 75), (0, .class_ 76), (0, .nameAndType 77 78), (0, u "java/lang/Math"), (0, u "max"), (0, u "(II)I"), (15, u "defaultIterations"), (0, u "(I)I"), (4, u "MOVES"), (0, u "[Lcom/example/swathwork/swathwork/planner/Neighbourhood$Move;"), (3, .class_ 106), (0, u "com/example/swathwork/swathwork/planner/SearchPlanner$Walk"), (24, .class_ 133), (1, u "com/example/swathwork/swathwork/planner/SearchPlanner$Settled"), (23, u "D"), (145, .class_ 304), (0, u "com/example/swathwork/swathwork/planner/Planner"), (0, u "DEFAULT_ITERATIONS"), (2, u "DEFAULT_MOVES"), (0, u "COOLING"), (0, u "PATIENCE"), (1, u "REHEATING")] 33

def k3c0 : Code := { maxStack := 3, maxLocals := 1, code := prog_37_method_4_code, exceptionTable := #[], attributes := #[] }
def k3m0 : Method := { name := "defaultIterations", desc := "(I)I", sig := { parameters := [.int], returnType := some .int }, accessFlags := 8, code := some k3c0 }
/-- com/example/swathwork/swathwork/planner/SearchPlanner -/
def k3 : Class := { plain "com/example/swathwork/swathwork/planner/SearchPlanner" (some 0) with
  accessFlags := 49
  interfaces := #[2]
  cf := some (fileOf pool3 8 #[.nestMembers #[105, 131]] #[{ accessFlags := 8, nameIndex := 94, descriptorIndex := 95, attributes := #[] }] 49 2 #[303] #[{ accessFlags := 25, nameIndex := 305, descriptorIndex := 16, attributes := #[] }, { accessFlags := 25, nameIndex := 308, descriptorIndex := 16, attributes := #[] }, { accessFlags := 24, nameIndex := 309, descriptorIndex := 157, attributes := #[] }, { accessFlags := 24, nameIndex := 310, descriptorIndex := 16, attributes := #[] }, { accessFlags := 24, nameIndex := 312, descriptorIndex := 157, attributes := #[] }, { accessFlags := 26, nameIndex := 100, descriptorIndex := 101, attributes := #[] }, { accessFlags := 18, nameIndex := 11, descriptorIndex := 12, attributes := #[] }, { accessFlags := 18, nameIndex := 15, descriptorIndex := 16, attributes := #[] }])
  fields := #[{ name := "DEFAULT_ITERATIONS", type := .int, accessFlags := 25, slot := 0, constantValue := 0 }, { name := "DEFAULT_MOVES", type := .int, accessFlags := 25, slot := 1, constantValue := 0 }, { name := "COOLING", type := .double, accessFlags := 24, slot := 2, constantValue := 0 }, { name := "PATIENCE", type := .int, accessFlags := 24, slot := 3, constantValue := 0 }, { name := "REHEATING", type := .double, accessFlags := 24, slot := 4, constantValue := 0 }, { name := "MOVES", type := (.array (.object "com/example/swathwork/swathwork/planner/Neighbourhood$Move")), accessFlags := 26, slot := 5, constantValue := 0 }, { name := "greedy", type := (.object "com/example/swathwork/swathwork/planner/GreedyPlanner"), accessFlags := 18, slot := 0, constantValue := 0 }, { name := "iterations", type := .int, accessFlags := 18, slot := 1, constantValue := 0 }]
  methods := #[k3m0]
  instanceTypes := #[(.object "com/example/swathwork/swathwork/planner/GreedyPlanner"), .int]
  staticTypes := #[.int, .int, .double, .int, .double, (.array (.object "com/example/swathwork/swathwork/planner/Neighbourhood$Move"))]
  resolved := Array.replicate 346 none
  statics := none }

def pool4 : Array CpInfo := pool [(1, .class_ 2), (0, u "java/lang/Math"), (1, .class_ 6), (1, u "java/lang/Object"), (0, u "<init>"), (0, u "()V"), (89, .class_ 100), (1, u "java/lang/Math$RandomNumberGeneratorHolder"), (71, u "negativeZeroFloatBits"), (0, u "J"), (2, u "negativeZeroDoubleBits"), (21, u "max"), (46, u "$assertionsDisabled"), (0, u "Z"), (88, u "(II)I"), (2, u "twoToTheDoubleScaleDown"), (0, u "D"), (4, u "twoToTheDoubleScaleUp"), (9, u "E"), (3, u "PI"), (2, u "TAU"), (2, u "DEGREES_TO_RADIANS"), (0, u "RADIANS_TO_DEGREES")] 94

def k4m0 : Method := { name := "<init>", desc := "()V", sig := { parameters := [], returnType := none }, accessFlags := 2, code := none }
def k4c1 : Code := { maxStack := 2, maxLocals := 2, code := jdk_29_method_65_code, exceptionTable := #[], attributes := #[] }
def k4m1 : Method := { name := "max", desc := "(II)I", sig := { parameters := [.int, .int], returnType := some .int }, accessFlags := 9, code := some k4c1 }
/-- java/lang/Math -/
def k4 : Class := { plain "java/lang/Math" (some 0) with
  accessFlags := 49
  interfaces := #[]
  cf := some (fileOf pool4 1 #[.nestMembers #[98]] #[{ accessFlags := 2, nameIndex := 7, descriptorIndex := 8, attributes := #[] }, { accessFlags := 9, nameIndex := 198, descriptorIndex := 335, attributes := #[] }] 49 4 #[] #[{ accessFlags := 25, nameIndex := 354, descriptorIndex := 339, attributes := #[] }, { accessFlags := 25, nameIndex := 358, descriptorIndex := 339, attributes := #[] }, { accessFlags := 25, nameIndex := 361, descriptorIndex := 339, attributes := #[] }, { accessFlags := 26, nameIndex := 364, descriptorIndex := 339, attributes := #[] }, { accessFlags := 26, nameIndex := 365, descriptorIndex := 339, attributes := #[] }, { accessFlags := 26, nameIndex := 172, descriptorIndex := 173, attributes := #[] }, { accessFlags := 26, nameIndex := 176, descriptorIndex := 173, attributes := #[] }, { accessFlags := 8, nameIndex := 344, descriptorIndex := 339, attributes := #[] }, { accessFlags := 8, nameIndex := 338, descriptorIndex := 339, attributes := #[] }, { accessFlags := 4120, nameIndex := 245, descriptorIndex := 246, attributes := #[] }])
  fields := #[{ name := "E", type := .double, accessFlags := 25, slot := 0, constantValue := 0 }, { name := "PI", type := .double, accessFlags := 25, slot := 1, constantValue := 0 }, { name := "TAU", type := .double, accessFlags := 25, slot := 2, constantValue := 0 }, { name := "DEGREES_TO_RADIANS", type := .double, accessFlags := 26, slot := 3, constantValue := 0 }, { name := "RADIANS_TO_DEGREES", type := .double, accessFlags := 26, slot := 4, constantValue := 0 }, { name := "negativeZeroFloatBits", type := .long, accessFlags := 26, slot := 5, constantValue := 0 }, { name := "negativeZeroDoubleBits", type := .long, accessFlags := 26, slot := 6, constantValue := 0 }, { name := "twoToTheDoubleScaleUp", type := .double, accessFlags := 8, slot := 7, constantValue := 0 }, { name := "twoToTheDoubleScaleDown", type := .double, accessFlags := 8, slot := 8, constantValue := 0 }, { name := "$assertionsDisabled", type := .boolean, accessFlags := 4120, slot := 9, constantValue := 0 }]
  methods := #[k4m0, k4m1]
  instanceTypes := #[]
  staticTypes := #[.double, .double, .double, .double, .double, .long, .long, .double, .double, .boolean]
  resolved := Array.replicate 460 none
  statics := none }

def pool5 : Array CpInfo := pool [(1, u "java/lang/Cloneable"), (0, .class_ 1), (0, u "java/lang/Object"), (0, .class_ 3)] 3

/-- java/lang/Cloneable -/
def k5 : Class := { plain "java/lang/Cloneable" (some 0) with
  accessFlags := 1537
  interfaces := #[]
  cf := some (fileOf pool5 2 #[] #[] 1537 4 #[] #[])
  fields := #[]
  methods := #[]
  instanceTypes := #[]
  staticTypes := #[]
  resolved := Array.replicate 8 none
  statics := none }

def pool6 : Array CpInfo := pool [(1, u "java/io/Serializable"), (0, .class_ 1), (0, u "java/lang/Object"), (0, .class_ 3)] 3

/-- java/io/Serializable -/
def k6 : Class := { plain "java/io/Serializable" (some 0) with
  accessFlags := 1537
  interfaces := #[]
  cf := some (fileOf pool6 2 #[] #[] 1537 4 #[] #[])
  fields := #[]
  methods := #[]
  instanceTypes := #[]
  staticTypes := #[]
  resolved := Array.replicate 8 none
  statics := none }

/-- the primitive byte -/
def k7 : Class := { plain "byte" none with kind := .primitive 'B', accessFlags := 0x411 }
/-- [B -/
def k8 : Class := { plain "[B" (some 0) with kind := .array 7 .byte, interfaces := #[5, 6], accessFlags := 1041 }

/-- the primitive int -/
def k9 : Class := { plain "int" none with kind := .primitive 'I', accessFlags := 0x411 }
/-- [I -/
def k10 : Class := { plain "[I" (some 0) with kind := .array 9 .int, interfaces := #[5, 6], accessFlags := 1041 }

def heap : Heap := #[]
def classes : Array Class := #[k0, k1, k2, k3, k4, k5, k6, k7, k8, k9, k10]
def interned : List (Array UInt16 × Addr) := []
def slotsUsed : Nat := 0
def theMethod : MethodId := ⟨1, 1⟩
def args0 : Array Value := #[.int 5, .int 6]
def aboutOver (below : List Frame) : State where
  vm := { classes := classes, interned := interned.toArray }
  heap := heap
  slotsUsed := slotsUsed
  threads := #[{ frames := .invoking theMethod args0 :: below }]
def below0 : List Frame := [.native { method := ⟨0, 0⟩, args := #[] }]
def about1 : State := aboutOver below0
def p0 : Program := .bare "" "" ""
def e0 : Env := launch0.env 0 0 0
theorem w_frames : about1.frames = Frame.invoking theMethod args0 :: below0 := rfl
set_option maxRecDepth 65536 in
theorem w_args : argsFit about1.vm theMethod args0 = true := by decide +kernel
set_option maxRecDepth 65536 in
theorem w_heap : heapFits about1 = true := by decide +kernel
set_option maxRecDepth 65536 in
theorem w_runnable : about1.curStatus? = some .runnable := by decide +kernel
set_option maxRecDepth 65536 in
theorem w_alone : about1.alone = true := by decide +kernel
set_option maxRecDepth 65536 in
theorem w_named : about1.methodNamed? x = some theMethod := by decide +kernel
set_option maxRecDepth 65536 in
theorem w_hears : about1.hears theMethod below0 = true := by decide +kernel
set_option maxRecDepth 65536 in
theorem w_ripe : about1.ripe theMethod args0 below0 = true := by decide +kernel
theorem w_running : about1.status = .running := rfl
set_option maxRecDepth 65536 in
theorem w_room : about1.hasRoom e0.platform room_1 = true :=
  launch0.hasRoom_least _ room_1 (by decide +kernel) (by decide +kernel) (by decide +kernel) (by decide +kernel) (by decide +kernel) (by decide +kernel)
theorem allAtoms_all (ts : List Jvm.Cond) (a : Array Jvm.Value) (st : Jvm.State) : (allAtoms ts).before a st = ts.all (fun c => c.before a st) := by
  induction ts with
  | nil => rfl
  | cons c t ih =>
    show (Jvm.Cond.and c (allAtoms t)).before a st = _
    rw [Jvm.Cond.before_and, ih, List.all_cons]
def words1 : List Jvm.Cond := Jvm.Cond.code x code maxLocals ret :: tables_1
/-- a 'code' word, met by the world's own term for the bytes: nothing is compared byte by byte -/
theorem code_word {y : MethodName} {bytes : ByteArray} {mx : Nat} {rt : Option FieldType} {a : Array Value} {s : State} {m : MethodId} {meth : Method} {c : Code} (h1 : s.methodNamed? y = some m) (h2 : s.vm.method? m = some meth) (h3 : meth.code = some c) (h4 : c.code = bytes)
    (h5 : (c.maxLocals == mx && c.exceptionTable.isEmpty && decide (c.maxStack ≤ mostOperands) && decide (meth.sig.returnType = rt) && !meth.locks && decide (parseMethodDescriptor y.desc = some meth.sig)) = true) : (Jvm.Cond.code y bytes mx rt).before a s = true := by
  simp only [Bool.and_eq_true, beq_iff_eq, Bool.not_eq_true', decide_eq_true_eq] at h5
  obtain ⟨⟨⟨⟨⟨g1, g2⟩, g3⟩, g4⟩, g5⟩, g6⟩ := h5
  simp [Cond.before, Cond.holds, Cond.value, h1, h2, h3, h4, g1, g2, g3, g4, g5, g6]
def isCode : Jvm.Cond → Bool
  | .code _ _ _ _ => true
  | _ => false
theorem all_split {L : List Jvm.Cond} {P : Jvm.Cond → Bool} (h1 : L.all (fun c => isCode c || P c) = true) (h2 : ∀ c ∈ L.filter isCode, P c = true) : L.all P = true := by
  refine List.all_eq_true.mpr fun c hc => ?_
  have h := List.all_eq_true.mp h1 c hc
  rcases Bool.eq_false_or_eq_true (isCode c) with hi | hi
  · exact h2 c (List.mem_filter.mpr ⟨hc, hi⟩)
  · simpa [hi] using h
set_option maxRecDepth 65536 in
theorem w_c0 : (Jvm.Cond.code x code maxLocals ret).before args0 about1 = true := code_word (m := ⟨1, 1⟩) (meth := k1m1) (c := k1c1) (by decide +kernel) rfl rfl rfl (by decide +kernel)
set_option maxRecDepth 65536 in
theorem w_c1 : (Jvm.Cond.code ({ cls := "com/example/swathwork/swathwork/planner/SearchPlanner", name := "defaultIterations", desc := "(I)I" } : Jvm.MethodName) prog_37_method_4_code (1 : Nat) (Option.some Jvm.ClassFile.FieldType.int)).before args0 about1 = true := code_word (m := ⟨3, 0⟩) (meth := k3m0) (c := k3c0) (by decide +kernel) rfl rfl rfl (by decide +kernel)
set_option maxRecDepth 65536 in
theorem w_c2 : (Jvm.Cond.code ({ cls := "java/lang/Math", name := "max", desc := "(II)I" } : Jvm.MethodName) jdk_29_method_65_code (2 : Nat) (Option.some Jvm.ClassFile.FieldType.int)).before args0 about1 = true := code_word (m := ⟨4, 1⟩) (meth := k4m1) (c := k4c1) (by decide +kernel) rfl rfl rfl (by decide +kernel)
def codes1 : List Jvm.Cond := [Jvm.Cond.code x code maxLocals ret, Jvm.Cond.code ({ cls := "com/example/swathwork/swathwork/planner/SearchPlanner", name := "defaultIterations", desc := "(I)I" } : Jvm.MethodName) prog_37_method_4_code (1 : Nat) (Option.some Jvm.ClassFile.FieldType.int), Jvm.Cond.code ({ cls := "java/lang/Math", name := "max", desc := "(II)I" } : Jvm.MethodName) jdk_29_method_65_code (2 : Nat) (Option.some Jvm.ClassFile.FieldType.int)]
set_option maxRecDepth 65536 in
theorem codes_eq : words1.filter isCode = codes1 := rfl
theorem w_codes : ∀ c ∈ words1.filter isCode, c.before args0 about1 = true := by
  rw [codes_eq]
  intro c hc
  simp only [codes1, List.mem_cons, List.not_mem_nil, or_false] at hc
  rcases hc with rfl | rfl | rfl
  · exact w_c0
  · exact w_c1
  · exact w_c2
set_option maxRecDepth 65536 in
theorem w_t1 : words1.all (fun c => isCode c || c.before args0 about1) = true := by decide +kernel
theorem w_tables : (allAtoms (Jvm.Cond.code x code maxLocals ret :: tables_1)).before args0 about1 = true := by
  rw [allAtoms_all]
  show words1.all (fun c => c.before args0 about1) = true
  refine all_split ?_ w_codes
  rw [w_t1]
set_option maxRecDepth 65536 in
theorem w_case : (Jvm.Cond.and given_1 narrow_1).before args0 about1 = true := by decide +kernel
theorem w_applies : (headSpec (Jvm.Cond.code x code maxLocals ret :: tables_1) room_1).applies x e0.platform about1 = true :=
  (Spec.applies_iff w_frames).mpr ⟨w_running, w_runnable, w_alone, w_named, w_hears, w_ripe, w_room, w_tables⟩
theorem atStart : AtStart classFile x code maxLocals ret World_1 tables_1 room_1 Calls_1 rest_1 Pre_1 launch0 p0 e0 about1 theMethod args0 below0 :=
  ⟨lists_1, trivial, launch0.admits_env _ _ _, launch0.least_env, fairChoices_fair.cas, fairChoices_fair.clock, w_frames, w_args, w_heap, w_applies, trivial, trivial, w_case⟩
end start1
theorem witness_1 : WitnessClaimed_1 := ⟨start1.p0, start1.e0, start1.about1, start1.theMethod, start1.args0, start1.below0, start1.atStart⟩
end Jvm.Pilot.@@N@@

import JvmDerived
import JvmDerived.Pilot.@@N@@Statement
import JvmDerived.Pilot.@@N@@Code
set_option linter.unusedVariables false
set_option linter.unusedSimpArgs false
namespace Jvm.Pilot.@@N@@
open Jvm Jvm.ClassFile Sem Op Lib Jvm.Free Jvm.Stand Jvm.LawKit Jvm.RoadKit Bundle Jvm.Pilot.@@N@@.Jvm.D
abbrev Gets (p : Program) (e : Env) (below : List Frame) (S0 S : State) : Prop := ∀ t, Steps p.tables e below S t → Steps p.tables e below S0 t
section Own
variable {p : Program} {e : Env} {below : List Frame} {S0 T : State} {m : MethodId} {c : Code} {pc q : Nat} {Ls : Array Slot} {st : List Value}
theorem own_iand {x y v : Int32} (G : Gets p e below S0 (T.setTop (mkF m pc Ls (.int y :: .int x :: st)))) (h : At T m c below) (hx : p.tables.exec = Jvm.exec) (hd : decode c.code pc = .ok (.iand, 1)) (hv : x &&& y = v) (hq : pc + 1 = q) : Gets p e below S0 (T.setTop (mkF m q Ls (.int v :: st))) := by
  subst hv hq; exact fun t k => G t (XS.iand h hx rfl hd rfl k)
theorem own_irem {x y v : Int32} (G : Gets p e below S0 (T.setTop (mkF m pc Ls (.int y :: .int x :: st)))) (h : At T m c below) (hx : p.tables.exec = Jvm.exec) (hd : decode c.code pc = .ok (.irem, 1)) (hy : y ≠ 0) (hv : x % y = v) (hq : pc + 1 = q) : Gets p e below S0 (T.setTop (mkF m q Ls (.int v :: st))) := by
  subst hv hq; exact fun t k => G t (XS.irem h hx rfl hd rfl hy (by rw [Jvm.irem_eq_mod]; exact k))
theorem own_iconst {i : Int} {v : Int32} (G : Gets p e below S0 (T.setTop (mkF m pc Ls st))) (h : At T m c below) (hx : p.tables.exec = Jvm.exec) (hd : decode c.code pc = .ok (.iconst i, 1)) (hv : Int32.ofInt i = v) (hq : pc + 1 = q) : Gets p e below S0 (T.setTop (mkF m q Ls (.int v :: st))) := by
  subst hv hq; exact fun t k => G t (XS.iconst h hx rfl hd k)
theorem own_bipush {i : Int} {v : Int32} (G : Gets p e below S0 (T.setTop (mkF m pc Ls st))) (h : At T m c below) (hx : p.tables.exec = Jvm.exec) (hd : decode c.code pc = .ok (.bipush i, 2)) (hv : (Int8.ofInt i).toInt32 = v) (hq : pc + 2 = q) : Gets p e below S0 (T.setTop (mkF m q Ls (.int v :: st))) := by
  subst hv hq; exact fun t k => G t (XS.bipush h hx rfl hd k)
theorem own_iloadN {i : Fin 4} {v : Int32} (G : Gets p e below S0 (T.setTop (mkF m pc Ls st))) (h : At T m c below) (hx : p.tables.exec = Jvm.exec) (hd : decode c.code pc = .ok (.iload_n i, 1)) (hl : Ls[i.val]? = some (.val (.int v))) (hq : pc + 1 = q) : Gets p e below S0 (T.setTop (mkF m q Ls (.int v :: st))) := by
  subst hq; exact fun t k => G t (XS.iloadN h hx rfl hd hl k)
theorem own_aloadN {i : Fin 4} {v : Value} (G : Gets p e below S0 (T.setTop (mkF m pc Ls st))) (h : At T m c below) (hx : p.tables.exec = Jvm.exec) (hd : decode c.code pc = .ok (.aload_n i, 1)) (hl : Ls[i.val]? = some (.val v)) (hv : v.isRef = true) (hq : pc + 1 = q) : Gets p e below S0 (T.setTop (mkF m q Ls (v :: st))) := by
  subst hq; exact fun t k => G t (XS.aloadN h hx rfl hd hl hv k)
theorem own_istoreN {i : Fin 4} {v : Int32} {l' : Array Slot} (G : Gets p e below S0 (T.setTop (mkF m pc Ls (.int v :: st)))) (h : At T m c below) (hx : p.tables.exec = Jvm.exec) (hd : decode c.code pc = .ok (.istore_n i, 1)) (hl : storeLocals Ls i.val (.int v) = some l') (hq : pc + 1 = q) : Gets p e below S0 (T.setTop (mkF m q l' st)) := by
  subst hq; exact fun t k => G t (XS.istoreN h hx rfl hd rfl hl k)
theorem own_astoreN {i : Fin 4} {v : Value} {l' : Array Slot} (G : Gets p e below S0 (T.setTop (mkF m pc Ls (v :: st)))) (h : At T m c below) (hx : p.tables.exec = Jvm.exec) (hd : decode c.code pc = .ok (.astore_n i, 1)) (hv : v.isRef = true) (hl : storeLocals Ls i.val v = some l') (hq : pc + 1 = q) : Gets p e below S0 (T.setTop (mkF m q l' st)) := by
  subst hq; exact fun t k => G t (XS.astoreN h hx rfl hd rfl hv hl k)
theorem own_goto {o : Int} (G : Gets p e below S0 (T.setTop (mkF m pc Ls st))) (h : At T m c below) (hx : p.tables.exec = Jvm.exec) (hd : decode c.code pc = .ok (.goto o, 3))  (ho : 0 ≤ (pc : Int) + o) (hp : ((pc : Int) + o).toNat = q) : Gets p e below S0 (T.setTop (mkF m q Ls st)) := by
  exact fun t k => G t (XS.goto h hx rfl rfl hd ho hp k)
theorem own_ifYes {cd : ClassFile.Cond} {o : Int} {x : Int32} (G : Gets p e below S0 (T.setTop (mkF m pc Ls (.int x :: st)))) (h : At T m c below) (hx : p.tables.exec = Jvm.exec) (hd : decode c.code pc = .ok (.ifCond cd o, 3)) (hc : ifCond.holds cd x = true) (ho : 0 ≤ (pc : Int) + o) (hp : ((pc : Int) + o).toNat = q) : Gets p e below S0 (T.setTop (mkF m q Ls st)) := by
  exact fun t k => G t (XS.ifYes h hx rfl rfl hd rfl hc ho hp k)
theorem own_ifNo {cd : ClassFile.Cond} {o : Int} {x : Int32} (G : Gets p e below S0 (T.setTop (mkF m pc Ls (.int x :: st)))) (h : At T m c below) (hx : p.tables.exec = Jvm.exec) (hd : decode c.code pc = .ok (.ifCond cd o, 3)) (hc : ifCond.holds cd x = false) (hq : pc + 3 = q) : Gets p e below S0 (T.setTop (mkF m q Ls st)) := by
  subst hq; exact fun t k => G t (XS.ifNo h hx rfl hd rfl hc k)
theorem own_icmpYes {cd : ClassFile.Cond} {o : Int} {x y : Int32} (G : Gets p e below S0 (T.setTop (mkF m pc Ls (.int y :: .int x :: st)))) (h : At T m c below) (hx : p.tables.exec = Jvm.exec) (hd : decode c.code pc = .ok (.if_icmp cd o, 3)) (hc : if_icmp.holds cd x y = true) (ho : 0 ≤ (pc : Int) + o) (hp : ((pc : Int) + o).toNat = q) : Gets p e below S0 (T.setTop (mkF m q Ls st)) := by
  exact fun t k => G t (XS.icmpYes h hx rfl rfl hd rfl hc ho hp k)
theorem own_icmpNo {cd : ClassFile.Cond} {o : Int} {x y : Int32} (G : Gets p e below S0 (T.setTop (mkF m pc Ls (.int y :: .int x :: st)))) (h : At T m c below) (hx : p.tables.exec = Jvm.exec) (hd : decode c.code pc = .ok (.if_icmp cd o, 3)) (hc : if_icmp.holds cd x y = false) (hq : pc + 3 = q) : Gets p e below S0 (T.setTop (mkF m q Ls st)) := by
  subst hq; exact fun t k => G t (XS.icmpNo h hx rfl hd rfl hc k)
end Own
theorem own_ord {args : Array Value} {s : State} {t : Term} {a : Addr} {C n d : String} {k : Int32} (ht : t.eval args s none [] s = some (.ref a)) (h : (Jvm.Cond.eq (.field t C n d) (.int k)).value args s none s [] = some true) : s.fieldOf? a C n d = some (.int k) := by
  have e := fld_at (C := C) (n := n) (dd := d) ht
  have e2 : (Term.int k).eval args s none [] s = some (.int k) := Term.int_eval k
  cases hf : s.fieldOf? a C n d with
  | none => rw [hf] at e; simp [Cond.value, e] at h
  | some v =>
    rw [hf] at e
    cases v <;> simp [Cond.value, e, e2] at h
    subst h; rfl
theorem own_lt32 {x y : Int32} : x < y ↔ x.toInt < y.toInt := Int32.lt_iff_toInt_lt
theorem own_rem {i u : Int32} (d : Int32) (k : Int) (hk : d.toInt = k) (h0 : 0 < k) (h : (u &&& 2147483647) % d = i) : 0 ≤ i.toInt ∧ i.toInt < k := by
  have a1 := c_mask u 2147483647 31 (by decide) (by decide)
  have a2 := (c_irem (u &&& 2147483647) d k hk).1 (by omega)
  rw [h] at a2
  have m2 := Int.emod_nonneg (u &&& 2147483647).toInt (show k ≠ 0 by omega)
  have m3 := Int.emod_lt_of_pos (u &&& 2147483647).toInt h0
  omega
theorem own_num {i : Int32} (k : Int32) (h : i.toInt = k.toInt) : i = k := Int32.toInt_inj.mp h
theorem own_cases6 {i : Int32} (h : 0 ≤ i.toInt ∧ i.toInt < 6) : i = 0 ∨ i = 1 ∨ i = 2 ∨ i = 3 ∨ i = 4 ∨ i = 5 := by
  have e0 : (0 : Int32).toInt = 0 := rfl
  have e1 : (1 : Int32).toInt = 1 := rfl
  have e2 : (2 : Int32).toInt = 2 := rfl
  have e3 : (3 : Int32).toInt = 3 := rfl
  have e4 : (4 : Int32).toInt = 4 := rfl
  have e5 : (5 : Int32).toInt = 5 := rfl
  have q : i.toInt = 0 ∨ i.toInt = 1 ∨ i.toInt = 2 ∨ i.toInt = 3 ∨ i.toInt = 4 ∨ i.toInt = 5 := by omega
  rcases q with q | q | q | q | q | q
  · exact Or.inl (own_num 0 q)
  · exact Or.inr (Or.inl (own_num 1 q))
  · exact Or.inr (Or.inr (Or.inl (own_num 2 q)))
  · exact Or.inr (Or.inr (Or.inr (Or.inl (own_num 3 q))))
  · exact Or.inr (Or.inr (Or.inr (Or.inr (Or.inl (own_num 4 q)))))
  · exact Or.inr (Or.inr (Or.inr (Or.inr (Or.inr ((own_num 5 q))))))
def own_dif (a b d : Addr) : Int32 := if a = b then 0 else if a = d then 0 else 1
theorem d2_0 : decode prog_21_method_5_code 0 = .ok (.aload_n 0, 1) := by decide +kernel
theorem d2_1 : decode prog_21_method_5_code 1 = .ok (.getstatic 16, 3) := by decide +kernel
theorem d2_4 : decode prog_21_method_5_code 4 = .ok (.if_acmp .eq 14, 3) := by decide +kernel
theorem d2_7 : decode prog_21_method_5_code 7 = .ok (.aload_n 0, 1) := by decide +kernel
theorem d2_8 : decode prog_21_method_5_code 8 = .ok (.getstatic 19, 3) := by decide +kernel
theorem d2_11 : decode prog_21_method_5_code 11 = .ok (.if_acmp .eq 7, 3) := by decide +kernel
theorem d2_14 : decode prog_21_method_5_code 14 = .ok (.iconst 1, 1) := by decide +kernel
theorem d2_15 : decode prog_21_method_5_code 15 = .ok (.goto 4, 3) := by decide +kernel
theorem d2_18 : decode prog_21_method_5_code 18 = .ok (.iconst 0, 1) := by decide +kernel
theorem d2_19 : decode prog_21_method_5_code 19 = .ok (.ireturn, 1) := by decide +kernel
theorem pn_com_example_gridwright_gridwright_core_Rating : plainName "com/example/gridwright/gridwright/core/Rating" = true := by first | (simp [plainName, overriddenIn]; done) | decide +kernel
theorem ef_2 (m : MethodId) (x0 : Addr) : entryFrame m #[(.ref x0)] 1 = mkF m 0 #[.val (.ref x0)] [] := by first | (simp [entryFrame, mkF, argsToLocals, Value.category]; done) | rfl
def Q2 (Z : State) (a : Addr) (b : Addr) (d : Addr) (h0 : Heap) (n0 : Nat) (v : Option Value) (h : Heap) (L : List Loc) : Prop := v = some (.int (own_dif a b d)) ∧ Fr n0 L ∧ h = h0
set_option maxRecDepth 65536 in
set_option maxHeartbeats 40000000 in
theorem rm2 (l : Launch) (Z : State) (a0 : Array Value) (hw : ∀ d ∈ tables_1, d.before a0 Z = true) (ws : List Jvm.Cond) (a : Addr) (b : Addr) (d : Addr) (h0 : Heap) (n0 : Nat) (Z0 : n0 ≤ h0.size) (P0 : Sta Z h0 "com/example/gridwright/gridwright/core/Rating" "NONE" "Lcom/example/gridwright/gridwright/core/Rating;" (.ref b)) (P1 : Sta Z h0 "com/example/gridwright/gridwright/core/Rating" "SEVERAL" "Lcom/example/gridwright/gridwright/core/Rating;" (.ref d)) :
    MetFree l (⟨"com/example/gridwright/gridwright/core/Rating", "isDifficultyClass", "()Z"⟩ : MethodName) (head1 (Jvm.Cond.code (⟨"com/example/gridwright/gridwright/core/Rating", "isDifficultyClass", "()Z"⟩ : MethodName) prog_21_method_5_code 1 (some .boolean) :: ws) ({ frames := 0, cells := 0, slots := 0, locals := 0 } : Room)) (fun zz U => zz = #[(.ref a)] ∧ Z.Warmed39 U.vm ∧ U.heap = h0) (fun _ _ _ _ _ => True) (fun _ U o U' => ∃ v L, o = .returned v ∧ Q2 Z a b d h0 n0 v U'.heap L ∧ FrameEnd U o U' L ({ frames := 0, cells := 0, slots := 0, locals := 0 } : Room).cells ({ frames := 0, cells := 0, slots := 0, locals := 0 } : Room).slots) := by
  refine MetFree.of_bodySF (plainFor_of_name pn_com_example_gridwright_gridwright_core_Rating) hisR ?_
  intro p e s m args below meth c s₁ Bd hml0 hP hK
  obtain ⟨rfl, hZ, hh⟩ := hP
  have hx := Bd.exec
  have hby := Bd.bytes
  have hml : c.maxLocals = 1 := hml0
  have hown : s.vm.findClass "com/example/gridwright/gridwright/core/Rating" = some m.cls := findClass_of_methodNamed Bd.named
  have hnm := (name_of_methodNamed Bd.named Bd.method).1
  have X0 : Stand p l e ({ frames := 0, cells := 0, slots := 0, locals := 0 } : Room) s m #[(.ref a)] below meth c s₁ [] 0 0 := Stand.of_body Bd
  have e0 : s₁.heap = h0 := by rw [← hh, Bd.state]; rfl
  have N0 := Fr.nil n0
  have G : Gets p e below (s₁.setTop (entryFrame m #[(.ref a)] 1)) (s₁.setTop (mkF m 0 #[.val (.ref a)] [])) := fun t k => castTop (ef_2 m a) k
  replace G := own_aloadN (q := 1) G X0.here hx (hb hby d2_0) rfl rfl rfl
  obtain ⟨T1, X1, e1, st1⟩ := getS2 X0 hx hZ hown (host := "") (Or.inl (hw _ (List.mem_of_getElem? (i := 13) rfl))) Via.refl e0 P0 (g := (mkF m 1 #[.val (.ref a)] [(.ref a)])) rfl (hb hby d2_1)
  replace G : Gets p e below _ (T1.setTop (mkF m 4 #[.val (.ref a)] [(.ref b), (.ref a)])) := fun t k => G t (st1 t k)
  by_cases ha4_2 : a = b
  · replace G : Gets p e below _ (T1.setTop (mkF m 18 #[.val (.ref a)] [])) := fun t k => G t (Jvm.RoadKit.acmp (g := (mkF m 4 #[.val (.ref a)] [(.ref b), (.ref a)])) X1 hx rfl rfl rfl (pc0 := 4) (pc' := 18) (same := true) rfl (hb hby d2_4) rfl (decide_eq_true (congrArg Value.ref ha4_2)) (by decide) (by decide) k)
    replace G := own_iconst (q := 19) G X1.here hx (hb hby d2_18) (v := (0 : Int32)) (by decide) rfl
    obtain ⟨fs, hr, hrun, hended, hW, hsame⟩ := X1.leave (v := some (.int (0 : Int32))) (fun h => by rw [Bd.returns] at h; cases h)
    refine ⟨_, _, G _ (retOut X1 hx Bd.returns rfl (Or.inl ⟨rfl, Or.inr (Or.inl rfl), _, rfl⟩) (hb hby d2_19) hr), hrun, hended, _, _, rfl, ?_, ⟨_, rfl⟩, hW, hsame.mono (by decide) (by decide)⟩
    show Q2 Z a b d h0 n0 _ T1.heap _
    rw [e1]
    exact ⟨(congrArg (fun z => some (Value.int z)) (by simp [own_dif, ha4_2])), N0, rfl⟩
  · replace G : Gets p e below _ (T1.setTop (mkF m 7 #[.val (.ref a)] [])) := fun t k => G t (Jvm.RoadKit.acmp (g := (mkF m 4 #[.val (.ref a)] [(.ref b), (.ref a)])) X1 hx rfl rfl rfl (pc0 := 4) (pc' := 7) (same := false) rfl (hb hby d2_4) rfl (decide_eq_false fun q => ha4_2 (Value.ref.inj q)) (by decide) (by decide) k)
    replace G := own_aloadN (q := 8) G X1.here hx (hb hby d2_7) rfl rfl rfl
    obtain ⟨T3, X3, e3, st3⟩ := getS2 X1 hx hZ hown (host := "") (Or.inl (hw _ (List.mem_of_getElem? (i := 15) rfl))) Via.refl e1 P1 (g := (mkF m 8 #[.val (.ref a)] [(.ref a)])) rfl (hb hby d2_8)
    replace G : Gets p e below _ (T3.setTop (mkF m 11 #[.val (.ref a)] [(.ref d), (.ref a)])) := fun t k => G t (st3 t k)
    by_cases ha11_4 : a = d
    · replace G : Gets p e below _ (T3.setTop (mkF m 18 #[.val (.ref a)] [])) := fun t k => G t (Jvm.RoadKit.acmp (g := (mkF m 11 #[.val (.ref a)] [(.ref d), (.ref a)])) X3 hx rfl rfl rfl (pc0 := 11) (pc' := 18) (same := true) rfl (hb hby d2_11) rfl (decide_eq_true (congrArg Value.ref ha11_4)) (by decide) (by decide) k)
      replace G := own_iconst (q := 19) G X3.here hx (hb hby d2_18) (v := (0 : Int32)) (by decide) rfl
      obtain ⟨fs, hr, hrun, hended, hW, hsame⟩ := X3.leave (v := some (.int (0 : Int32))) (fun h => by rw [Bd.returns] at h; cases h)
      refine ⟨_, _, G _ (retOut X3 hx Bd.returns rfl (Or.inl ⟨rfl, Or.inr (Or.inl rfl), _, rfl⟩) (hb hby d2_19) hr), hrun, hended, _, _, rfl, ?_, ⟨_, rfl⟩, hW, hsame.mono (by decide) (by decide)⟩
      show Q2 Z a b d h0 n0 _ T3.heap _
      rw [e3]
      exact ⟨(congrArg (fun z => some (Value.int z)) (by simp [own_dif, ha4_2, ha11_4])), N0, rfl⟩
    · replace G : Gets p e below _ (T3.setTop (mkF m 14 #[.val (.ref a)] [])) := fun t k => G t (Jvm.RoadKit.acmp (g := (mkF m 11 #[.val (.ref a)] [(.ref d), (.ref a)])) X3 hx rfl rfl rfl (pc0 := 11) (pc' := 14) (same := false) rfl (hb hby d2_11) rfl (decide_eq_false fun q => ha11_4 (Value.ref.inj q)) (by decide) (by decide) k)
      replace G := own_iconst (q := 15) G X3.here hx (hb hby d2_14) (v := (1 : Int32)) (by decide) rfl
      replace G := own_goto (q := 19) G X3.here hx (hb hby d2_15) (by decide) (by decide)
      obtain ⟨fs, hr, hrun, hended, hW, hsame⟩ := X3.leave (v := some (.int (1 : Int32))) (fun h => by rw [Bd.returns] at h; cases h)
      refine ⟨_, _, G _ (retOut X3 hx Bd.returns rfl (Or.inl ⟨rfl, Or.inr (Or.inl rfl), _, rfl⟩) (hb hby d2_19) hr), hrun, hended, _, _, rfl, ?_, ⟨_, rfl⟩, hW, hsame.mono (by decide) (by decide)⟩
      show Q2 Z a b d h0 n0 _ T3.heap _
      rw [e3]
      exact ⟨(congrArg (fun z => some (Value.int z)) (by simp [own_dif, ha4_2, ha11_4])), N0, rfl⟩
theorem d1_0 : decode method_2_code 0 = .ok (.iload_n 0, 1) := by decide +kernel
theorem d1_1 : decode method_2_code 1 = .ok (.ifCond .ne 10, 3) := by decide +kernel
theorem d1_4 : decode method_2_code 4 = .ok (.getstatic 7, 3) := by decide +kernel
theorem d1_7 : decode method_2_code 7 = .ok (.astore_n 1, 1) := by decide +kernel
theorem d1_8 : decode method_2_code 8 = .ok (.goto 55, 3) := by decide +kernel
theorem d1_63 : decode method_2_code 63 = .ok (.aload_n 1, 1) := by decide +kernel
theorem d1_64 : decode method_2_code 64 = .ok (.areturn, 1) := by decide +kernel
theorem pn_com_example_gridwright_gridwright_core_RatingIsDifficultyClassPinLaw : plainName "com/example/gridwright/gridwright/core/RatingIsDifficultyClassPinLaw" = true := by first | (simp [plainName, overriddenIn]; done) | decide +kernel
theorem ef_1k0 (m : MethodId)  : entryFrame m #[(.int (0 : Int32))] 2 = mkF m 0 #[.val (.int (0 : Int32)), .unset] [] := by first | (simp [entryFrame, mkF, argsToLocals, Value.category]; done) | rfl
def Q1k0 (Z : State) (b : Addr) (h0 : Heap) (n0 : Nat) (v : Option Value) (h : Heap) (L : List Loc) : Prop := v = some (.ref b) ∧ Fr n0 L ∧ h = h0
set_option maxRecDepth 65536 in
set_option maxHeartbeats 40000000 in
theorem rm1k0 (l : Launch) (Z : State) (a0 : Array Value) (hw : ∀ d ∈ tables_1, d.before a0 Z = true) (ws : List Jvm.Cond) (b : Addr) (h0 : Heap) (n0 : Nat) (Z0 : n0 ≤ h0.size) (P0 : Sta Z h0 "com/example/gridwright/gridwright/core/Rating" "SIMPLE" "Lcom/example/gridwright/gridwright/core/Rating;" (.ref b)) :
    MetFree l (⟨"com/example/gridwright/gridwright/core/RatingIsDifficultyClassPinLaw", "pick", "(I)Lcom/example/gridwright/gridwright/core/Rating;"⟩ : MethodName) (head1 (Jvm.Cond.code (⟨"com/example/gridwright/gridwright/core/RatingIsDifficultyClassPinLaw", "pick", "(I)Lcom/example/gridwright/gridwright/core/Rating;"⟩ : MethodName) method_2_code 2 (some (.object "com/example/gridwright/gridwright/core/Rating")) :: ws) ({ frames := 0, cells := 0, slots := 0, locals := 0 } : Room)) (fun zz U => zz = #[(.int (0 : Int32))] ∧ Z.Warmed39 U.vm ∧ U.heap = h0) (fun _ _ _ _ _ => True) (fun _ U o U' => ∃ v L, o = .returned v ∧ Q1k0 Z b h0 n0 v U'.heap L ∧ FrameEnd U o U' L ({ frames := 0, cells := 0, slots := 0, locals := 0 } : Room).cells ({ frames := 0, cells := 0, slots := 0, locals := 0 } : Room).slots) := by
  refine MetFree.of_bodySF (plainFor_of_name pn_com_example_gridwright_gridwright_core_RatingIsDifficultyClassPinLaw) hisR ?_
  intro p e s m args below meth c s₁ Bd hml0 hP hK
  obtain ⟨rfl, hZ, hh⟩ := hP
  have hx := Bd.exec
  have hby := Bd.bytes
  have hml : c.maxLocals = 2 := hml0
  have hown : s.vm.findClass "com/example/gridwright/gridwright/core/RatingIsDifficultyClassPinLaw" = some m.cls := findClass_of_methodNamed Bd.named
  have hnm := (name_of_methodNamed Bd.named Bd.method).1
  have X0 : Stand p l e ({ frames := 0, cells := 0, slots := 0, locals := 0 } : Room) s m #[(.int (0 : Int32))] below meth c s₁ [] 0 0 := Stand.of_body Bd
  have e0 : s₁.heap = h0 := by rw [← hh, Bd.state]; rfl
  have N0 := Fr.nil n0
  have G : Gets p e below (s₁.setTop (entryFrame m #[(.int (0 : Int32))] 2)) (s₁.setTop (mkF m 0 #[.val (.int (0 : Int32)), .unset] [])) := fun t k => castTop (ef_1k0 m ) k
  replace G := own_iloadN (q := 1) G X0.here hx (hb hby d1_0) rfl rfl
  have hc1_1 : (0 : Int32) = (0 : Int32) := by decide
  replace G := own_ifNo (q := 4) G X0.here hx (hb hby d1_1) ((if0 _ _).trans (teq hc1_1).2) rfl
  obtain ⟨T2, X2, e2, st2⟩ := getS2 X0 hx hZ hown (host := "") (Or.inl (hw _ (List.mem_of_getElem? (i := 5) rfl))) Via.refl e0 P0 (g := (mkF m 4 #[.val (.int (0 : Int32)), .unset] [])) rfl (hb hby d1_4)
  replace G : Gets p e below _ (T2.setTop (mkF m 7 #[.val (.int (0 : Int32)), .unset] [(.ref b)])) := fun t k => G t (st2 t k)
  replace G := own_astoreN (q := 8) (l' := #[.val (.int (0 : Int32)), .val (.ref b)]) G X2.here hx (hb hby d1_7) rfl rfl rfl
  replace G := own_goto (q := 63) G X2.here hx (hb hby d1_8) (by decide) (by decide)
  replace G := own_aloadN (q := 64) G X2.here hx (hb hby d1_63) rfl rfl rfl
  obtain ⟨fs, hr, hrun, hended, hW, hsame⟩ := X2.leave (v := some (.ref b)) (fun h => by rw [Bd.returns] at h; cases h)
  refine ⟨_, _, G _ (retOut X2 hx Bd.returns rfl (Or.inr (Or.inr (Or.inr (Or.inr ⟨rfl, rfl, rfl⟩)))) (hb hby d1_64) hr), hrun, hended, _, _, rfl, ?_, ⟨_, rfl⟩, hW, hsame.mono (by decide) (by decide)⟩
  show Q1k0 Z b h0 n0 _ T2.heap _
  rw [e2]
  exact ⟨rfl, N0, rfl⟩
theorem d1_11 : decode method_2_code 11 = .ok (.iload_n 0, 1) := by decide +kernel
theorem d1_12 : decode method_2_code 12 = .ok (.iconst 1, 1) := by decide +kernel
theorem d1_13 : decode method_2_code 13 = .ok (.if_icmp .ne 10, 3) := by decide +kernel
theorem d1_16 : decode method_2_code 16 = .ok (.getstatic 13, 3) := by decide +kernel
theorem d1_19 : decode method_2_code 19 = .ok (.astore_n 1, 1) := by decide +kernel
theorem d1_20 : decode method_2_code 20 = .ok (.goto 43, 3) := by decide +kernel
theorem ef_1k1 (m : MethodId)  : entryFrame m #[(.int (1 : Int32))] 2 = mkF m 0 #[.val (.int (1 : Int32)), .unset] [] := by first | (simp [entryFrame, mkF, argsToLocals, Value.category]; done) | rfl
def Q1k1 (Z : State) (b : Addr) (h0 : Heap) (n0 : Nat) (v : Option Value) (h : Heap) (L : List Loc) : Prop := v = some (.ref b) ∧ Fr n0 L ∧ h = h0
set_option maxRecDepth 65536 in
set_option maxHeartbeats 40000000 in
theorem rm1k1 (l : Launch) (Z : State) (a0 : Array Value) (hw : ∀ d ∈ tables_1, d.before a0 Z = true) (ws : List Jvm.Cond) (b : Addr) (h0 : Heap) (n0 : Nat) (Z0 : n0 ≤ h0.size) (P0 : Sta Z h0 "com/example/gridwright/gridwright/core/Rating" "EASY" "Lcom/example/gridwright/gridwright/core/Rating;" (.ref b)) :
    MetFree l (⟨"com/example/gridwright/gridwright/core/RatingIsDifficultyClassPinLaw", "pick", "(I)Lcom/example/gridwright/gridwright/core/Rating;"⟩ : MethodName) (head1 (Jvm.Cond.code (⟨"com/example/gridwright/gridwright/core/RatingIsDifficultyClassPinLaw", "pick", "(I)Lcom/example/gridwright/gridwright/core/Rating;"⟩ : MethodName) method_2_code 2 (some (.object "com/example/gridwright/gridwright/core/Rating")) :: ws) ({ frames := 0, cells := 0, slots := 0, locals := 0 } : Room)) (fun zz U => zz = #[(.int (1 : Int32))] ∧ Z.Warmed39 U.vm ∧ U.heap = h0) (fun _ _ _ _ _ => True) (fun _ U o U' => ∃ v L, o = .returned v ∧ Q1k1 Z b h0 n0 v U'.heap L ∧ FrameEnd U o U' L ({ frames := 0, cells := 0, slots := 0, locals := 0 } : Room).cells ({ frames := 0, cells := 0, slots := 0, locals := 0 } : Room).slots) := by
  refine MetFree.of_bodySF (plainFor_of_name pn_com_example_gridwright_gridwright_core_RatingIsDifficultyClassPinLaw) hisR ?_
  intro p e s m args below meth c s₁ Bd hml0 hP hK
  obtain ⟨rfl, hZ, hh⟩ := hP
  have hx := Bd.exec
  have hby := Bd.bytes
  have hml : c.maxLocals = 2 := hml0
  have hown : s.vm.findClass "com/example/gridwright/gridwright/core/RatingIsDifficultyClassPinLaw" = some m.cls := findClass_of_methodNamed Bd.named
  have hnm := (name_of_methodNamed Bd.named Bd.method).1
  have X0 : Stand p l e ({ frames := 0, cells := 0, slots := 0, locals := 0 } : Room) s m #[(.int (1 : Int32))] below meth c s₁ [] 0 0 := Stand.of_body Bd
  have e0 : s₁.heap = h0 := by rw [← hh, Bd.state]; rfl
  have N0 := Fr.nil n0
  have G : Gets p e below (s₁.setTop (entryFrame m #[(.int (1 : Int32))] 2)) (s₁.setTop (mkF m 0 #[.val (.int (1 : Int32)), .unset] [])) := fun t k => castTop (ef_1k1 m ) k
  replace G := own_iloadN (q := 1) G X0.here hx (hb hby d1_0) rfl rfl
  have hc1_1 : ¬ ((1 : Int32) = (0 : Int32)) := by decide
  replace G := own_ifYes (q := 11) G X0.here hx (hb hby d1_1) ((if0 _ _).trans (feq hc1_1).2) (by decide) (by decide)
  replace G := own_iloadN (q := 12) G X0.here hx (hb hby d1_11) rfl rfl
  replace G := own_iconst (q := 13) G X0.here hx (hb hby d1_12) (v := (1 : Int32)) (by decide) rfl
  have hc13_2 : (1 : Int32) = (1 : Int32) := by decide
  replace G := own_icmpNo (q := 16) G X0.here hx (hb hby d1_13) (teq hc13_2).2 rfl
  obtain ⟨T3, X3, e3, st3⟩ := getS2 X0 hx hZ hown (host := "") (Or.inl (hw _ (List.mem_of_getElem? (i := 21) rfl))) Via.refl e0 P0 (g := (mkF m 16 #[.val (.int (1 : Int32)), .unset] [])) rfl (hb hby d1_16)
  replace G : Gets p e below _ (T3.setTop (mkF m 19 #[.val (.int (1 : Int32)), .unset] [(.ref b)])) := fun t k => G t (st3 t k)
  replace G := own_astoreN (q := 20) (l' := #[.val (.int (1 : Int32)), .val (.ref b)]) G X3.here hx (hb hby d1_19) rfl rfl rfl
  replace G := own_goto (q := 63) G X3.here hx (hb hby d1_20) (by decide) (by decide)
  replace G := own_aloadN (q := 64) G X3.here hx (hb hby d1_63) rfl rfl rfl
  obtain ⟨fs, hr, hrun, hended, hW, hsame⟩ := X3.leave (v := some (.ref b)) (fun h => by rw [Bd.returns] at h; cases h)
  refine ⟨_, _, G _ (retOut X3 hx Bd.returns rfl (Or.inr (Or.inr (Or.inr (Or.inr ⟨rfl, rfl, rfl⟩)))) (hb hby d1_64) hr), hrun, hended, _, _, rfl, ?_, ⟨_, rfl⟩, hW, hsame.mono (by decide) (by decide)⟩
  show Q1k1 Z b h0 n0 _ T3.heap _
  rw [e3]
  exact ⟨rfl, N0, rfl⟩
theorem d1_23 : decode method_2_code 23 = .ok (.iload_n 0, 1) := by decide +kernel
theorem d1_24 : decode method_2_code 24 = .ok (.iconst 2, 1) := by decide +kernel
theorem d1_25 : decode method_2_code 25 = .ok (.if_icmp .ne 10, 3) := by decide +kernel
theorem d1_28 : decode method_2_code 28 = .ok (.getstatic 16, 3) := by decide +kernel
theorem d1_31 : decode method_2_code 31 = .ok (.astore_n 1, 1) := by decide +kernel
theorem d1_32 : decode method_2_code 32 = .ok (.goto 31, 3) := by decide +kernel
theorem ef_1k2 (m : MethodId)  : entryFrame m #[(.int (2 : Int32))] 2 = mkF m 0 #[.val (.int (2 : Int32)), .unset] [] := by first | (simp [entryFrame, mkF, argsToLocals, Value.category]; done) | rfl
def Q1k2 (Z : State) (b : Addr) (h0 : Heap) (n0 : Nat) (v : Option Value) (h : Heap) (L : List Loc) : Prop := v = some (.ref b) ∧ Fr n0 L ∧ h = h0
set_option maxRecDepth 65536 in
set_option maxHeartbeats 40000000 in
theorem rm1k2 (l : Launch) (Z : State) (a0 : Array Value) (hw : ∀ d ∈ tables_1, d.before a0 Z = true) (ws : List Jvm.Cond) (b : Addr) (h0 : Heap) (n0 : Nat) (Z0 : n0 ≤ h0.size) (P0 : Sta Z h0 "com/example/gridwright/gridwright/core/Rating" "INTERMEDIATE" "Lcom/example/gridwright/gridwright/core/Rating;" (.ref b)) :
    MetFree l (⟨"com/example/gridwright/gridwright/core/RatingIsDifficultyClassPinLaw", "pick", "(I)Lcom/example/gridwright/gridwright/core/Rating;"⟩ : MethodName) (head1 (Jvm.Cond.code (⟨"com/example/gridwright/gridwright/core/RatingIsDifficultyClassPinLaw", "pick", "(I)Lcom/example/gridwright/gridwright/core/Rating;"⟩ : MethodName) method_2_code 2 (some (.object "com/example/gridwright/gridwright/core/Rating")) :: ws) ({ frames := 0, cells := 0, slots := 0, locals := 0 } : Room)) (fun zz U => zz = #[(.int (2 : Int32))] ∧ Z.Warmed39 U.vm ∧ U.heap = h0) (fun _ _ _ _ _ => True) (fun _ U o U' => ∃ v L, o = .returned v ∧ Q1k2 Z b h0 n0 v U'.heap L ∧ FrameEnd U o U' L ({ frames := 0, cells := 0, slots := 0, locals := 0 } : Room).cells ({ frames := 0, cells := 0, slots := 0, locals := 0 } : Room).slots) := by
  refine MetFree.of_bodySF (plainFor_of_name pn_com_example_gridwright_gridwright_core_RatingIsDifficultyClassPinLaw) hisR ?_
  intro p e s m args below meth c s₁ Bd hml0 hP hK
  obtain ⟨rfl, hZ, hh⟩ := hP
  have hx := Bd.exec
  have hby := Bd.bytes
  have hml : c.maxLocals = 2 := hml0
  have hown : s.vm.findClass "com/example/gridwright/gridwright/core/RatingIsDifficultyClassPinLaw" = some m.cls := findClass_of_methodNamed Bd.named
  have hnm := (name_of_methodNamed Bd.named Bd.method).1
  have X0 : Stand p l e ({ frames := 0, cells := 0, slots := 0, locals := 0 } : Room) s m #[(.int (2 : Int32))] below meth c s₁ [] 0 0 := Stand.of_body Bd
  have e0 : s₁.heap = h0 := by rw [← hh, Bd.state]; rfl
  have N0 := Fr.nil n0
  have G : Gets p e below (s₁.setTop (entryFrame m #[(.int (2 : Int32))] 2)) (s₁.setTop (mkF m 0 #[.val (.int (2 : Int32)), .unset] [])) := fun t k => castTop (ef_1k2 m ) k
  replace G := own_iloadN (q := 1) G X0.here hx (hb hby d1_0) rfl rfl
  have hc1_1 : ¬ ((2 : Int32) = (0 : Int32)) := by decide
  replace G := own_ifYes (q := 11) G X0.here hx (hb hby d1_1) ((if0 _ _).trans (feq hc1_1).2) (by decide) (by decide)
  replace G := own_iloadN (q := 12) G X0.here hx (hb hby d1_11) rfl rfl
  replace G := own_iconst (q := 13) G X0.here hx (hb hby d1_12) (v := (1 : Int32)) (by decide) rfl
  have hc13_2 : ¬ ((2 : Int32) = (1 : Int32)) := by decide
  replace G := own_icmpYes (q := 23) G X0.here hx (hb hby d1_13) (feq hc13_2).2 (by decide) (by decide)
  replace G := own_iloadN (q := 24) G X0.here hx (hb hby d1_23) rfl rfl
  replace G := own_iconst (q := 25) G X0.here hx (hb hby d1_24) (v := (2 : Int32)) (by decide) rfl
  have hc25_3 : (2 : Int32) = (2 : Int32) := by decide
  replace G := own_icmpNo (q := 28) G X0.here hx (hb hby d1_25) (teq hc25_3).2 rfl
  obtain ⟨T4, X4, e4, st4⟩ := getS2 X0 hx hZ hown (host := "") (Or.inl (hw _ (List.mem_of_getElem? (i := 19) rfl))) Via.refl e0 P0 (g := (mkF m 28 #[.val (.int (2 : Int32)), .unset] [])) rfl (hb hby d1_28)
  replace G : Gets p e below _ (T4.setTop (mkF m 31 #[.val (.int (2 : Int32)), .unset] [(.ref b)])) := fun t k => G t (st4 t k)
  replace G := own_astoreN (q := 32) (l' := #[.val (.int (2 : Int32)), .val (.ref b)]) G X4.here hx (hb hby d1_31) rfl rfl rfl
  replace G := own_goto (q := 63) G X4.here hx (hb hby d1_32) (by decide) (by decide)
  replace G := own_aloadN (q := 64) G X4.here hx (hb hby d1_63) rfl rfl rfl
  obtain ⟨fs, hr, hrun, hended, hW, hsame⟩ := X4.leave (v := some (.ref b)) (fun h => by rw [Bd.returns] at h; cases h)
  refine ⟨_, _, G _ (retOut X4 hx Bd.returns rfl (Or.inr (Or.inr (Or.inr (Or.inr ⟨rfl, rfl, rfl⟩)))) (hb hby d1_64) hr), hrun, hended, _, _, rfl, ?_, ⟨_, rfl⟩, hW, hsame.mono (by decide) (by decide)⟩
  show Q1k2 Z b h0 n0 _ T4.heap _
  rw [e4]
  exact ⟨rfl, N0, rfl⟩
theorem d1_35 : decode method_2_code 35 = .ok (.iload_n 0, 1) := by decide +kernel
theorem d1_36 : decode method_2_code 36 = .ok (.iconst 3, 1) := by decide +kernel
theorem d1_37 : decode method_2_code 37 = .ok (.if_icmp .ne 10, 3) := by decide +kernel
theorem d1_40 : decode method_2_code 40 = .ok (.getstatic 19, 3) := by decide +kernel
theorem d1_43 : decode method_2_code 43 = .ok (.astore_n 1, 1) := by decide +kernel
theorem d1_44 : decode method_2_code 44 = .ok (.goto 19, 3) := by decide +kernel
theorem ef_1k3 (m : MethodId)  : entryFrame m #[(.int (3 : Int32))] 2 = mkF m 0 #[.val (.int (3 : Int32)), .unset] [] := by first | (simp [entryFrame, mkF, argsToLocals, Value.category]; done) | rfl
def Q1k3 (Z : State) (b : Addr) (h0 : Heap) (n0 : Nat) (v : Option Value) (h : Heap) (L : List Loc) : Prop := v = some (.ref b) ∧ Fr n0 L ∧ h = h0
set_option maxRecDepth 65536 in
set_option maxHeartbeats 40000000 in
theorem rm1k3 (l : Launch) (Z : State) (a0 : Array Value) (hw : ∀ d ∈ tables_1, d.before a0 Z = true) (ws : List Jvm.Cond) (b : Addr) (h0 : Heap) (n0 : Nat) (Z0 : n0 ≤ h0.size) (P0 : Sta Z h0 "com/example/gridwright/gridwright/core/Rating" "EXPERT" "Lcom/example/gridwright/gridwright/core/Rating;" (.ref b)) :
    MetFree l (⟨"com/example/gridwright/gridwright/core/RatingIsDifficultyClassPinLaw", "pick", "(I)Lcom/example/gridwright/gridwright/core/Rating;"⟩ : MethodName) (head1 (Jvm.Cond.code (⟨"com/example/gridwright/gridwright/core/RatingIsDifficultyClassPinLaw", "pick", "(I)Lcom/example/gridwright/gridwright/core/Rating;"⟩ : MethodName) method_2_code 2 (some (.object "com/example/gridwright/gridwright/core/Rating")) :: ws) ({ frames := 0, cells := 0, slots := 0, locals := 0 } : Room)) (fun zz U => zz = #[(.int (3 : Int32))] ∧ Z.Warmed39 U.vm ∧ U.heap = h0) (fun _ _ _ _ _ => True) (fun _ U o U' => ∃ v L, o = .returned v ∧ Q1k3 Z b h0 n0 v U'.heap L ∧ FrameEnd U o U' L ({ frames := 0, cells := 0, slots := 0, locals := 0 } : Room).cells ({ frames := 0, cells := 0, slots := 0, locals := 0 } : Room).slots) := by
  refine MetFree.of_bodySF (plainFor_of_name pn_com_example_gridwright_gridwright_core_RatingIsDifficultyClassPinLaw) hisR ?_
  intro p e s m args below meth c s₁ Bd hml0 hP hK
  obtain ⟨rfl, hZ, hh⟩ := hP
  have hx := Bd.exec
  have hby := Bd.bytes
  have hml : c.maxLocals = 2 := hml0
  have hown : s.vm.findClass "com/example/gridwright/gridwright/core/RatingIsDifficultyClassPinLaw" = some m.cls := findClass_of_methodNamed Bd.named
  have hnm := (name_of_methodNamed Bd.named Bd.method).1
  have X0 : Stand p l e ({ frames := 0, cells := 0, slots := 0, locals := 0 } : Room) s m #[(.int (3 : Int32))] below meth c s₁ [] 0 0 := Stand.of_body Bd
  have e0 : s₁.heap = h0 := by rw [← hh, Bd.state]; rfl
  have N0 := Fr.nil n0
  have G : Gets p e below (s₁.setTop (entryFrame m #[(.int (3 : Int32))] 2)) (s₁.setTop (mkF m 0 #[.val (.int (3 : Int32)), .unset] [])) := fun t k => castTop (ef_1k3 m ) k
  replace G := own_iloadN (q := 1) G X0.here hx (hb hby d1_0) rfl rfl
  have hc1_1 : ¬ ((3 : Int32) = (0 : Int32)) := by decide
  replace G := own_ifYes (q := 11) G X0.here hx (hb hby d1_1) ((if0 _ _).trans (feq hc1_1).2) (by decide) (by decide)
  replace G := own_iloadN (q := 12) G X0.here hx (hb hby d1_11) rfl rfl
  replace G := own_iconst (q := 13) G X0.here hx (hb hby d1_12) (v := (1 : Int32)) (by decide) rfl
  have hc13_2 : ¬ ((3 : Int32) = (1 : Int32)) := by decide
  replace G := own_icmpYes (q := 23) G X0.here hx (hb hby d1_13) (feq hc13_2).2 (by decide) (by decide)
  replace G := own_iloadN (q := 24) G X0.here hx (hb hby d1_23) rfl rfl
  replace G := own_iconst (q := 25) G X0.here hx (hb hby d1_24) (v := (2 : Int32)) (by decide) rfl
  have hc25_3 : ¬ ((3 : Int32) = (2 : Int32)) := by decide
  replace G := own_icmpYes (q := 35) G X0.here hx (hb hby d1_25) (feq hc25_3).2 (by decide) (by decide)
  replace G := own_iloadN (q := 36) G X0.here hx (hb hby d1_35) rfl rfl
  replace G := own_iconst (q := 37) G X0.here hx (hb hby d1_36) (v := (3 : Int32)) (by decide) rfl
  have hc37_4 : (3 : Int32) = (3 : Int32) := by decide
  replace G := own_icmpNo (q := 40) G X0.here hx (hb hby d1_37) (teq hc37_4).2 rfl
  obtain ⟨T5, X5, e5, st5⟩ := getS2 X0 hx hZ hown (host := "") (Or.inl (hw _ (List.mem_of_getElem? (i := 17) rfl))) Via.refl e0 P0 (g := (mkF m 40 #[.val (.int (3 : Int32)), .unset] [])) rfl (hb hby d1_40)
  replace G : Gets p e below _ (T5.setTop (mkF m 43 #[.val (.int (3 : Int32)), .unset] [(.ref b)])) := fun t k => G t (st5 t k)
  replace G := own_astoreN (q := 44) (l' := #[.val (.int (3 : Int32)), .val (.ref b)]) G X5.here hx (hb hby d1_43) rfl rfl rfl
  replace G := own_goto (q := 63) G X5.here hx (hb hby d1_44) (by decide) (by decide)
  replace G := own_aloadN (q := 64) G X5.here hx (hb hby d1_63) rfl rfl rfl
  obtain ⟨fs, hr, hrun, hended, hW, hsame⟩ := X5.leave (v := some (.ref b)) (fun h => by rw [Bd.returns] at h; cases h)
  refine ⟨_, _, G _ (retOut X5 hx Bd.returns rfl (Or.inr (Or.inr (Or.inr (Or.inr ⟨rfl, rfl, rfl⟩)))) (hb hby d1_64) hr), hrun, hended, _, _, rfl, ?_, ⟨_, rfl⟩, hW, hsame.mono (by decide) (by decide)⟩
  show Q1k3 Z b h0 n0 _ T5.heap _
  rw [e5]
  exact ⟨rfl, N0, rfl⟩
theorem d1_47 : decode method_2_code 47 = .ok (.iload_n 0, 1) := by decide +kernel
theorem d1_48 : decode method_2_code 48 = .ok (.iconst 4, 1) := by decide +kernel
theorem d1_49 : decode method_2_code 49 = .ok (.if_icmp .ne 10, 3) := by decide +kernel
theorem d1_52 : decode method_2_code 52 = .ok (.getstatic 22, 3) := by decide +kernel
theorem d1_55 : decode method_2_code 55 = .ok (.astore_n 1, 1) := by decide +kernel
theorem d1_56 : decode method_2_code 56 = .ok (.goto 7, 3) := by decide +kernel
theorem ef_1k4 (m : MethodId)  : entryFrame m #[(.int (4 : Int32))] 2 = mkF m 0 #[.val (.int (4 : Int32)), .unset] [] := by first | (simp [entryFrame, mkF, argsToLocals, Value.category]; done) | rfl
def Q1k4 (Z : State) (b : Addr) (h0 : Heap) (n0 : Nat) (v : Option Value) (h : Heap) (L : List Loc) : Prop := v = some (.ref b) ∧ Fr n0 L ∧ h = h0
set_option maxRecDepth 65536 in
set_option maxHeartbeats 40000000 in
theorem rm1k4 (l : Launch) (Z : State) (a0 : Array Value) (hw : ∀ d ∈ tables_1, d.before a0 Z = true) (ws : List Jvm.Cond) (b : Addr) (h0 : Heap) (n0 : Nat) (Z0 : n0 ≤ h0.size) (P0 : Sta Z h0 "com/example/gridwright/gridwright/core/Rating" "NONE" "Lcom/example/gridwright/gridwright/core/Rating;" (.ref b)) :
    MetFree l (⟨"com/example/gridwright/gridwright/core/RatingIsDifficultyClassPinLaw", "pick", "(I)Lcom/example/gridwright/gridwright/core/Rating;"⟩ : MethodName) (head1 (Jvm.Cond.code (⟨"com/example/gridwright/gridwright/core/RatingIsDifficultyClassPinLaw", "pick", "(I)Lcom/example/gridwright/gridwright/core/Rating;"⟩ : MethodName) method_2_code 2 (some (.object "com/example/gridwright/gridwright/core/Rating")) :: ws) ({ frames := 0, cells := 0, slots := 0, locals := 0 } : Room)) (fun zz U => zz = #[(.int (4 : Int32))] ∧ Z.Warmed39 U.vm ∧ U.heap = h0) (fun _ _ _ _ _ => True) (fun _ U o U' => ∃ v L, o = .returned v ∧ Q1k4 Z b h0 n0 v U'.heap L ∧ FrameEnd U o U' L ({ frames := 0, cells := 0, slots := 0, locals := 0 } : Room).cells ({ frames := 0, cells := 0, slots := 0, locals := 0 } : Room).slots) := by
  refine MetFree.of_bodySF (plainFor_of_name pn_com_example_gridwright_gridwright_core_RatingIsDifficultyClassPinLaw) hisR ?_
  intro p e s m args below meth c s₁ Bd hml0 hP hK
  obtain ⟨rfl, hZ, hh⟩ := hP
  have hx := Bd.exec
  have hby := Bd.bytes
  have hml : c.maxLocals = 2 := hml0
  have hown : s.vm.findClass "com/example/gridwright/gridwright/core/RatingIsDifficultyClassPinLaw" = some m.cls := findClass_of_methodNamed Bd.named
  have hnm := (name_of_methodNamed Bd.named Bd.method).1
  have X0 : Stand p l e ({ frames := 0, cells := 0, slots := 0, locals := 0 } : Room) s m #[(.int (4 : Int32))] below meth c s₁ [] 0 0 := Stand.of_body Bd
  have e0 : s₁.heap = h0 := by rw [← hh, Bd.state]; rfl
  have N0 := Fr.nil n0
  have G : Gets p e below (s₁.setTop (entryFrame m #[(.int (4 : Int32))] 2)) (s₁.setTop (mkF m 0 #[.val (.int (4 : Int32)), .unset] [])) := fun t k => castTop (ef_1k4 m ) k
  replace G := own_iloadN (q := 1) G X0.here hx (hb hby d1_0) rfl rfl
  have hc1_1 : ¬ ((4 : Int32) = (0 : Int32)) := by decide
  replace G := own_ifYes (q := 11) G X0.here hx (hb hby d1_1) ((if0 _ _).trans (feq hc1_1).2) (by decide) (by decide)
  replace G := own_iloadN (q := 12) G X0.here hx (hb hby d1_11) rfl rfl
  replace G := own_iconst (q := 13) G X0.here hx (hb hby d1_12) (v := (1 : Int32)) (by decide) rfl
  have hc13_2 : ¬ ((4 : Int32) = (1 : Int32)) := by decide
  replace G := own_icmpYes (q := 23) G X0.here hx (hb hby d1_13) (feq hc13_2).2 (by decide) (by decide)
  replace G := own_iloadN (q := 24) G X0.here hx (hb hby d1_23) rfl rfl
  replace G := own_iconst (q := 25) G X0.here hx (hb hby d1_24) (v := (2 : Int32)) (by decide) rfl
  have hc25_3 : ¬ ((4 : Int32) = (2 : Int32)) := by decide
  replace G := own_icmpYes (q := 35) G X0.here hx (hb hby d1_25) (feq hc25_3).2 (by decide) (by decide)
  replace G := own_iloadN (q := 36) G X0.here hx (hb hby d1_35) rfl rfl
  replace G := own_iconst (q := 37) G X0.here hx (hb hby d1_36) (v := (3 : Int32)) (by decide) rfl
  have hc37_4 : ¬ ((4 : Int32) = (3 : Int32)) := by decide
  replace G := own_icmpYes (q := 47) G X0.here hx (hb hby d1_37) (feq hc37_4).2 (by decide) (by decide)
  replace G := own_iloadN (q := 48) G X0.here hx (hb hby d1_47) rfl rfl
  replace G := own_iconst (q := 49) G X0.here hx (hb hby d1_48) (v := (4 : Int32)) (by decide) rfl
  have hc49_5 : (4 : Int32) = (4 : Int32) := by decide
  replace G := own_icmpNo (q := 52) G X0.here hx (hb hby d1_49) (teq hc49_5).2 rfl
  obtain ⟨T6, X6, e6, st6⟩ := getS2 X0 hx hZ hown (host := "") (Or.inl (hw _ (List.mem_of_getElem? (i := 24) rfl))) Via.refl e0 P0 (g := (mkF m 52 #[.val (.int (4 : Int32)), .unset] [])) rfl (hb hby d1_52)
  replace G : Gets p e below _ (T6.setTop (mkF m 55 #[.val (.int (4 : Int32)), .unset] [(.ref b)])) := fun t k => G t (st6 t k)
  replace G := own_astoreN (q := 56) (l' := #[.val (.int (4 : Int32)), .val (.ref b)]) G X6.here hx (hb hby d1_55) rfl rfl rfl
  replace G := own_goto (q := 63) G X6.here hx (hb hby d1_56) (by decide) (by decide)
  replace G := own_aloadN (q := 64) G X6.here hx (hb hby d1_63) rfl rfl rfl
  obtain ⟨fs, hr, hrun, hended, hW, hsame⟩ := X6.leave (v := some (.ref b)) (fun h => by rw [Bd.returns] at h; cases h)
  refine ⟨_, _, G _ (retOut X6 hx Bd.returns rfl (Or.inr (Or.inr (Or.inr (Or.inr ⟨rfl, rfl, rfl⟩)))) (hb hby d1_64) hr), hrun, hended, _, _, rfl, ?_, ⟨_, rfl⟩, hW, hsame.mono (by decide) (by decide)⟩
  show Q1k4 Z b h0 n0 _ T6.heap _
  rw [e6]
  exact ⟨rfl, N0, rfl⟩
theorem d1_59 : decode method_2_code 59 = .ok (.getstatic 25, 3) := by decide +kernel
theorem d1_62 : decode method_2_code 62 = .ok (.astore_n 1, 1) := by decide +kernel
theorem ef_1k5 (m : MethodId)  : entryFrame m #[(.int (5 : Int32))] 2 = mkF m 0 #[.val (.int (5 : Int32)), .unset] [] := by first | (simp [entryFrame, mkF, argsToLocals, Value.category]; done) | rfl
def Q1k5 (Z : State) (b : Addr) (h0 : Heap) (n0 : Nat) (v : Option Value) (h : Heap) (L : List Loc) : Prop := v = some (.ref b) ∧ Fr n0 L ∧ h = h0
set_option maxRecDepth 65536 in
set_option maxHeartbeats 40000000 in
theorem rm1k5 (l : Launch) (Z : State) (a0 : Array Value) (hw : ∀ d ∈ tables_1, d.before a0 Z = true) (ws : List Jvm.Cond) (b : Addr) (h0 : Heap) (n0 : Nat) (Z0 : n0 ≤ h0.size) (P0 : Sta Z h0 "com/example/gridwright/gridwright/core/Rating" "SEVERAL" "Lcom/example/gridwright/gridwright/core/Rating;" (.ref b)) :
    MetFree l (⟨"com/example/gridwright/gridwright/core/RatingIsDifficultyClassPinLaw", "pick", "(I)Lcom/example/gridwright/gridwright/core/Rating;"⟩ : MethodName) (head1 (Jvm.Cond.code (⟨"com/example/gridwright/gridwright/core/RatingIsDifficultyClassPinLaw", "pick", "(I)Lcom/example/gridwright/gridwright/core/Rating;"⟩ : MethodName) method_2_code 2 (some (.object "com/example/gridwright/gridwright/core/Rating")) :: ws) ({ frames := 0, cells := 0, slots := 0, locals := 0 } : Room)) (fun zz U => zz = #[(.int (5 : Int32))] ∧ Z.Warmed39 U.vm ∧ U.heap = h0) (fun _ _ _ _ _ => True) (fun _ U o U' => ∃ v L, o = .returned v ∧ Q1k5 Z b h0 n0 v U'.heap L ∧ FrameEnd U o U' L ({ frames := 0, cells := 0, slots := 0, locals := 0 } : Room).cells ({ frames := 0, cells := 0, slots := 0, locals := 0 } : Room).slots) := by
  refine MetFree.of_bodySF (plainFor_of_name pn_com_example_gridwright_gridwright_core_RatingIsDifficultyClassPinLaw) hisR ?_
  intro p e s m args below meth c s₁ Bd hml0 hP hK
  obtain ⟨rfl, hZ, hh⟩ := hP
  have hx := Bd.exec
  have hby := Bd.bytes
  have hml : c.maxLocals = 2 := hml0
  have hown : s.vm.findClass "com/example/gridwright/gridwright/core/RatingIsDifficultyClassPinLaw" = some m.cls := findClass_of_methodNamed Bd.named
  have hnm := (name_of_methodNamed Bd.named Bd.method).1
  have X0 : Stand p l e ({ frames := 0, cells := 0, slots := 0, locals := 0 } : Room) s m #[(.int (5 : Int32))] below meth c s₁ [] 0 0 := Stand.of_body Bd
  have e0 : s₁.heap = h0 := by rw [← hh, Bd.state]; rfl
  have N0 := Fr.nil n0
  have G : Gets p e below (s₁.setTop (entryFrame m #[(.int (5 : Int32))] 2)) (s₁.setTop (mkF m 0 #[.val (.int (5 : Int32)), .unset] [])) := fun t k => castTop (ef_1k5 m ) k
  replace G := own_iloadN (q := 1) G X0.here hx (hb hby d1_0) rfl rfl
  have hc1_1 : ¬ ((5 : Int32) = (0 : Int32)) := by decide
  replace G := own_ifYes (q := 11) G X0.here hx (hb hby d1_1) ((if0 _ _).trans (feq hc1_1).2) (by decide) (by decide)
  replace G := own_iloadN (q := 12) G X0.here hx (hb hby d1_11) rfl rfl
  replace G := own_iconst (q := 13) G X0.here hx (hb hby d1_12) (v := (1 : Int32)) (by decide) rfl
  have hc13_2 : ¬ ((5 : Int32) = (1 : Int32)) := by decide
  replace G := own_icmpYes (q := 23) G X0.here hx (hb hby d1_13) (feq hc13_2).2 (by decide) (by decide)
  replace G := own_iloadN (q := 24) G X0.here hx (hb hby d1_23) rfl rfl
  replace G := own_iconst (q := 25) G X0.here hx (hb hby d1_24) (v := (2 : Int32)) (by decide) rfl
  have hc25_3 : ¬ ((5 : Int32) = (2 : Int32)) := by decide
  replace G := own_icmpYes (q := 35) G X0.here hx (hb hby d1_25) (feq hc25_3).2 (by decide) (by decide)
  replace G := own_iloadN (q := 36) G X0.here hx (hb hby d1_35) rfl rfl
  replace G := own_iconst (q := 37) G X0.here hx (hb hby d1_36) (v := (3 : Int32)) (by decide) rfl
  have hc37_4 : ¬ ((5 : Int32) = (3 : Int32)) := by decide
  replace G := own_icmpYes (q := 47) G X0.here hx (hb hby d1_37) (feq hc37_4).2 (by decide) (by decide)
  replace G := own_iloadN (q := 48) G X0.here hx (hb hby d1_47) rfl rfl
  replace G := own_iconst (q := 49) G X0.here hx (hb hby d1_48) (v := (4 : Int32)) (by decide) rfl
  have hc49_5 : ¬ ((5 : Int32) = (4 : Int32)) := by decide
  replace G := own_icmpYes (q := 59) G X0.here hx (hb hby d1_49) (feq hc49_5).2 (by decide) (by decide)
  obtain ⟨T6, X6, e6, st6⟩ := getS2 X0 hx hZ hown (host := "") (Or.inl (hw _ (List.mem_of_getElem? (i := 23) rfl))) Via.refl e0 P0 (g := (mkF m 59 #[.val (.int (5 : Int32)), .unset] [])) rfl (hb hby d1_59)
  replace G : Gets p e below _ (T6.setTop (mkF m 62 #[.val (.int (5 : Int32)), .unset] [(.ref b)])) := fun t k => G t (st6 t k)
  replace G := own_astoreN (q := 63) (l' := #[.val (.int (5 : Int32)), .val (.ref b)]) G X6.here hx (hb hby d1_62) rfl rfl rfl
  replace G := own_aloadN (q := 64) G X6.here hx (hb hby d1_63) rfl rfl rfl
  obtain ⟨fs, hr, hrun, hended, hW, hsame⟩ := X6.leave (v := some (.ref b)) (fun h => by rw [Bd.returns] at h; cases h)
  refine ⟨_, _, G _ (retOut X6 hx Bd.returns rfl (Or.inr (Or.inr (Or.inr (Or.inr ⟨rfl, rfl, rfl⟩)))) (hb hby d1_64) hr), hrun, hended, _, _, rfl, ?_, ⟨_, rfl⟩, hW, hsame.mono (by decide) (by decide)⟩
  show Q1k5 Z b h0 n0 _ T6.heap _
  rw [e6]
  exact ⟨rfl, N0, rfl⟩
theorem pd_0 : parseMethodDescriptor "(I)Lcom/example/gridwright/gridwright/core/Rating;" = some ⟨[.int], some (.object "com/example/gridwright/gridwright/core/Rating")⟩ := by decide +kernel
theorem pd_1 : parseMethodDescriptor "()Z" = some ⟨[], some .boolean⟩ := by decide +kernel
theorem ef_0 (m : MethodId) (x0 : Int32) : entryFrame m #[(.int x0)] maxLocals = mkF m 0 #[.val (.int x0), .unset, .unset, .unset] [] := by first | (simp [entryFrame, mkF, argsToLocals, Value.category, maxLocals]; done) | rfl
def Q0 (Z : State) (i0 : Int32) (aS : Addr) (aE : Addr) (aI : Addr) (aX : Addr) (aN : Addr) (aV : Addr) (h0 : Heap) (n0 : Nat) (v : Option Value) (h : Heap) (L : List Loc) : Prop := v = some (.int (1 : Int32)) ∧ Fr n0 L
set_option maxRecDepth 65536 in
set_option maxHeartbeats 40000000 in
theorem rm0 (l : Launch) (Z : State) (a0 : Array Value) (hw : ∀ d ∈ tables_1, d.before a0 Z = true) (ws : List Jvm.Cond) (i0 : Int32) (aS : Addr) (aE : Addr) (aI : Addr) (aX : Addr) (aN : Addr) (aV : Addr) (h0 : Heap) (n0 : Nat) (Z0 : n0 ≤ h0.size) (P0 : Sta Z h0 "com/example/gridwright/gridwright/core/Rating" "SIMPLE" "Lcom/example/gridwright/gridwright/core/Rating;" (.ref aS)) (P1 : Sta Z h0 "com/example/gridwright/gridwright/core/Rating" "EASY" "Lcom/example/gridwright/gridwright/core/Rating;" (.ref aE)) (P2 : Sta Z h0 "com/example/gridwright/gridwright/core/Rating" "INTERMEDIATE" "Lcom/example/gridwright/gridwright/core/Rating;" (.ref aI)) (P3 : Sta Z h0 "com/example/gridwright/gridwright/core/Rating" "EXPERT" "Lcom/example/gridwright/gridwright/core/Rating;" (.ref aX)) (P4 : Sta Z h0 "com/example/gridwright/gridwright/core/Rating" "NONE" "Lcom/example/gridwright/gridwright/core/Rating;" (.ref aN)) (P5 : Sta Z h0 "com/example/gridwright/gridwright/core/Rating" "SEVERAL" "Lcom/example/gridwright/gridwright/core/Rating;" (.ref aV)) (P6 : Exa Z h0 aS "com/example/gridwright/gridwright/core/Rating") (P7 : Exa Z h0 aE "com/example/gridwright/gridwright/core/Rating") (P8 : Exa Z h0 aI "com/example/gridwright/gridwright/core/Rating") (P9 : Exa Z h0 aX "com/example/gridwright/gridwright/core/Rating") (P10 : Exa Z h0 aN "com/example/gridwright/gridwright/core/Rating") (P11 : Exa Z h0 aV "com/example/gridwright/gridwright/core/Rating") (P12 : aS ≠ aE) (P13 : aS ≠ aI) (P14 : aS ≠ aX) (P15 : aS ≠ aN) (P16 : aS ≠ aV) (P17 : aE ≠ aI) (P18 : aE ≠ aX) (P19 : aE ≠ aN) (P20 : aE ≠ aV) (P21 : aI ≠ aX) (P22 : aI ≠ aN) (P23 : aI ≠ aV) (P24 : aX ≠ aN) (P25 : aX ≠ aV) (P26 : aN ≠ aV) :
    MetFree l x (head1 (Jvm.Cond.code x code maxLocals ret :: ws) room_1) (fun zz U => zz = #[(.int i0)] ∧ Z.Warmed39 U.vm ∧ U.heap = h0) (fun _ _ _ _ _ => True) (fun _ U o U' => ∃ v L, o = .returned v ∧ Q0 Z i0 aS aE aI aX aN aV h0 n0 v U'.heap L ∧ FrameEnd U o U' L room_1.cells room_1.slots) := by
  refine MetFree.of_bodySF (plainFor_of_name pn_com_example_gridwright_gridwright_core_RatingIsDifficultyClassPinLaw) hisR ?_
  intro p e s m args below meth c s₁ Bd hml0 hP hK
  obtain ⟨rfl, hZ, hh⟩ := hP
  have hx := Bd.exec
  have hby := Bd.bytes
  have hml : c.maxLocals = 4 := hml0
  have hown : s.vm.findClass "com/example/gridwright/gridwright/core/RatingIsDifficultyClassPinLaw" = some m.cls := findClass_of_methodNamed Bd.named
  have hnm := (name_of_methodNamed Bd.named Bd.method).1
  have X0 : Stand p l e room_1 s m #[(.int i0)] below meth c s₁ [] 0 0 := Stand.of_body Bd
  have e0 : s₁.heap = h0 := by rw [← hh, Bd.state]; rfl
  have N0 := Fr.nil n0
  have G : Gets p e below (s₁.setTop (entryFrame m #[(.int i0)] maxLocals)) (s₁.setTop (mkF m 0 #[.val (.int i0), .unset, .unset, .unset] [])) := fun t k => castTop (ef_0 m i0) k
  replace G := own_iloadN (q := 1) G X0.here hx (hb hby at_0) rfl rfl
  replace G : Gets p e below _ (s₁.setTop (mkF m 3 #[.val (.int i0), .unset, .unset, .unset] [(.int (2147483647 : Int32)), (.int i0)])) := fun t k => G t (X0.ldcInt hx hown (mvT hZ (hw _ (List.mem_of_getElem? (i := 0) rfl))) (g := (mkF m 1 #[.val (.int i0), .unset, .unset, .unset] [(.int i0)])) rfl (hb hby at_1) t k)
  obtain ⟨u, hn_u⟩ : ∃ z : Int32, (i0 &&& (2147483647 : Int32)) = z := ⟨_, rfl⟩
  replace G := own_iand (q := 4) G X0.here hx (hb hby at_3) hn_u rfl
  replace G := own_bipush (q := 6) G X0.here hx (hb hby at_4) (v := (6 : Int32)) (by decide) rfl
  obtain ⟨i, hn_i⟩ : ∃ z : Int32, (u % (6 : Int32)) = z := ⟨_, rfl⟩
  replace G := own_irem (q := 7) G X0.here hx (hb hby at_6) (by decide) hn_i rfl
  replace G := own_istoreN (q := 8) (l' := #[.val (.int i0), .val (.int i), .unset, .unset]) G X0.here hx (hb hby at_7) rfl rfl
  rw [← hn_u] at hn_i
  rcases own_cases6 (own_rem 6 6 rfl (by decide) hn_i) with rfl | rfl | rfl | rfl | rfl | rfl
  · replace G := own_iloadN (q := 9) G X0.here hx (hb hby at_8) rfl rfl
    obtain ⟨_, _, ⟨T1, L1, kk1, nn1⟩, -, X1, ⟨Lc1, hQ1, l1, y1, z1⟩, st1⟩ := Jvm.LawKit.callS X0 hx (y := (⟨"com/example/gridwright/gridwright/core/RatingIsDifficultyClassPinLaw", "pick", "(I)Lcom/example/gridwright/gridwright/core/Rating;"⟩ : MethodName)) hown (mvT hZ (hw _ (List.mem_of_getElem? (i := 1) rfl))) (mvT hZ (hw _ (List.mem_of_getElem? (i := 2) rfl))) (mvT hZ (hw _ (List.mem_of_getElem? (i := 3) rfl))) (mvT hZ (hw _ (List.mem_of_getElem? (i := 4) rfl))) (by decide) (backOf (W := 0) (rm1k0 l Z a0 hw [] aS h0 n0 Z0 P0) hZ (hw _ (List.mem_of_getElem? (i := 4) rfl)) (hw _ (List.mem_of_getElem? (i := 3) rfl)) (by decide) (by decide)) (g := (mkF m 9 #[.val (.int i0), .val (.int (0 : Int32)), .unset, .unset] [(.int (0 : Int32))])) rfl (by rw [hml]; rfl) (argsL := [(.int (0 : Int32))]) (rest := []) (lenOf pd_0 rfl) rfl (by show 2 * 0 + _ ≤ _; exact Nat.le_of_eq rfl) (hb hby at_9) (fun _ _ => ⟨rfl, e0, (by decide : 0 + 0 ≤ _), (by decide : 0 + 0 ≤ _)⟩)
    dsimp only [Pt.U, Pt.locs, Pt.cells, Pt.slots] at X1 l1 y1 z1 st1 hQ1
    subst l1 y1 z1
    obtain ⟨rfl, N1q, e1⟩ := hQ1
    have N1 := Fr.app N0 N1q
    replace G : Gets p e below _ (T1.setTop (mkF m 12 #[.val (.int i0), .val (.int (0 : Int32)), .unset, .unset] [(.ref aS)])) := fun t k => G t (st1 t k)
    replace G := own_astoreN (q := 13) (l' := #[.val (.int i0), .val (.int (0 : Int32)), .val (.ref aS), .unset]) G X1.here hx (hb hby at_12) rfl rfl rfl
    replace G := own_iloadN (q := 14) G X1.here hx (hb hby at_13) rfl rfl
    replace G := own_iconst (q := 15) G X1.here hx (hb hby at_14) (v := (4 : Int32)) (by decide) rfl
    have hc15_2 : (0 : Int32) < (4 : Int32) := by decide
    replace G := own_icmpNo (q := 18) G X1.here hx (hb hby at_15) (tlt hc15_2).2.1 rfl
    replace G := own_iconst (q := 19) G X1.here hx (hb hby at_18) (v := (1 : Int32)) (by decide) rfl
    replace G := own_goto (q := 23) G X1.here hx (hb hby at_19) (by decide) (by decide)
    replace G := own_istoreN (q := 24) (l' := #[.val (.int i0), .val (.int (0 : Int32)), .val (.ref aS), .val (.int (1 : Int32))]) G X1.here hx (hb hby at_23) rfl rfl
    replace G := own_aloadN (q := 25) G X1.here hx (hb hby at_24) rfl rfl rfl
    obtain ⟨cq3, kq3, q3a, q3b, q3c⟩ := isOf hZ e1 P6
    obtain ⟨_, _, ⟨T3, L3, kk3, nn3⟩, -, X3, ⟨Lc3, hQ3, l3, y3, z3⟩, st3⟩ := X1.virtualBack hx (y := (⟨"com/example/gridwright/gridwright/core/Rating", "isDifficultyClass", "()Z"⟩ : MethodName)) (z := (⟨"com/example/gridwright/gridwright/core/Rating", "isDifficultyClass", "()Z"⟩ : MethodName)) hown (mvT hZ (hw _ (List.mem_of_getElem? (i := 8) rfl))) (mvT hZ (hw _ (List.mem_of_getElem? (i := 9) rfl))) (notFace_of_selects (args := #[]) (mvT hZ (hw _ (List.mem_of_getElem? (i := 11) rfl)))) (mvT hZ (hw _ (List.mem_of_getElem? (i := 11) rfl))) (mvT hZ (hw _ (List.mem_of_getElem? (i := 10) rfl))) (by decide) (backOf (W := 0) (rm2 l Z a0 hw [] aS aN aV h0 n0 Z0 P4 P5) hZ (hw _ (List.mem_of_getElem? (i := 12) rfl)) (hw _ (List.mem_of_getElem? (i := 6) rfl)) (by decide) (by decide)) q3a q3c (g := (mkF m 25 #[.val (.int i0), .val (.int (0 : Int32)), .val (.ref aS), .val (.int (1 : Int32))] [(.ref aS)])) rfl (by rw [hml]; rfl) (Steps.refl _) (argsL := []) (rest := []) (lenOf pd_1 rfl) rfl (by show 2 * 0 + _ ≤ _; exact Nat.le_of_eq rfl) (hb hby at_25) (fun _ _ => ⟨rfl, e1, (by decide : 0 + 0 ≤ _), (by decide : 0 + 0 ≤ _)⟩)
    dsimp only [Pt.U, Pt.locs, Pt.cells, Pt.slots] at X3 l3 y3 z3 st3 hQ3
    subst l3 y3 z3
    obtain ⟨rfl, N3q, e3⟩ := hQ3
    have N3 := Fr.app N1 N3q
    replace G : Gets p e below _ (T3.setTop (mkF m 28 #[.val (.int i0), .val (.int (0 : Int32)), .val (.ref aS), .val (.int (1 : Int32))] [(.int (own_dif aS aN aV))])) := fun t k => G t (st3.trans k)
    replace G := own_iloadN (q := 29) G X3.here hx (hb hby at_28) rfl rfl
    have hc29_4 : (own_dif aS aN aV) = (1 : Int32) := by simp [own_dif, P15, P16]
    replace G := own_icmpNo (q := 32) G X3.here hx (hb hby at_29) (teq hc29_4).2 rfl
    replace G := own_iconst (q := 33) G X3.here hx (hb hby at_32) (v := (1 : Int32)) (by decide) rfl
    replace G := own_goto (q := 37) G X3.here hx (hb hby at_33) (by decide) (by decide)
    obtain ⟨fs, hr, hrun, hended, hW, hsame⟩ := X3.leave (v := some (.int (1 : Int32))) (fun h => by rw [Bd.returns] at h; cases h)
    refine ⟨_, _, G _ (retOut X3 hx Bd.returns rfl (Or.inl ⟨rfl, Or.inr (Or.inl rfl), _, rfl⟩) (hb hby at_37) hr), hrun, hended, _, _, rfl, ?_, ⟨_, rfl⟩, hW, hsame.mono (by decide) (by decide)⟩
    show Q0 Z i0 aS aE aI aX aN aV h0 n0 _ T3.heap _
    rw [e3]
    exact ⟨rfl, N3⟩
  · replace G := own_iloadN (q := 9) G X0.here hx (hb hby at_8) rfl rfl
    obtain ⟨_, _, ⟨T5, L5, kk5, nn5⟩, -, X5, ⟨Lc5, hQ5, l5, y5, z5⟩, st5⟩ := Jvm.LawKit.callS X0 hx (y := (⟨"com/example/gridwright/gridwright/core/RatingIsDifficultyClassPinLaw", "pick", "(I)Lcom/example/gridwright/gridwright/core/Rating;"⟩ : MethodName)) hown (mvT hZ (hw _ (List.mem_of_getElem? (i := 1) rfl))) (mvT hZ (hw _ (List.mem_of_getElem? (i := 2) rfl))) (mvT hZ (hw _ (List.mem_of_getElem? (i := 3) rfl))) (mvT hZ (hw _ (List.mem_of_getElem? (i := 4) rfl))) (by decide) (backOf (W := 0) (rm1k1 l Z a0 hw [] aE h0 n0 Z0 P1) hZ (hw _ (List.mem_of_getElem? (i := 4) rfl)) (hw _ (List.mem_of_getElem? (i := 3) rfl)) (by decide) (by decide)) (g := (mkF m 9 #[.val (.int i0), .val (.int (1 : Int32)), .unset, .unset] [(.int (1 : Int32))])) rfl (by rw [hml]; rfl) (argsL := [(.int (1 : Int32))]) (rest := []) (lenOf pd_0 rfl) rfl (by show 2 * 0 + _ ≤ _; exact Nat.le_of_eq rfl) (hb hby at_9) (fun _ _ => ⟨rfl, e0, (by decide : 0 + 0 ≤ _), (by decide : 0 + 0 ≤ _)⟩)
    dsimp only [Pt.U, Pt.locs, Pt.cells, Pt.slots] at X5 l5 y5 z5 st5 hQ5
    subst l5 y5 z5
    obtain ⟨rfl, N5q, e5⟩ := hQ5
    have N5 := Fr.app N0 N5q
    replace G : Gets p e below _ (T5.setTop (mkF m 12 #[.val (.int i0), .val (.int (1 : Int32)), .unset, .unset] [(.ref aE)])) := fun t k => G t (st5 t k)
    replace G := own_astoreN (q := 13) (l' := #[.val (.int i0), .val (.int (1 : Int32)), .val (.ref aE), .unset]) G X5.here hx (hb hby at_12) rfl rfl rfl
    replace G := own_iloadN (q := 14) G X5.here hx (hb hby at_13) rfl rfl
    replace G := own_iconst (q := 15) G X5.here hx (hb hby at_14) (v := (4 : Int32)) (by decide) rfl
    have hc15_6 : (1 : Int32) < (4 : Int32) := by decide
    replace G := own_icmpNo (q := 18) G X5.here hx (hb hby at_15) (tlt hc15_6).2.1 rfl
    replace G := own_iconst (q := 19) G X5.here hx (hb hby at_18) (v := (1 : Int32)) (by decide) rfl
    replace G := own_goto (q := 23) G X5.here hx (hb hby at_19) (by decide) (by decide)
    replace G := own_istoreN (q := 24) (l' := #[.val (.int i0), .val (.int (1 : Int32)), .val (.ref aE), .val (.int (1 : Int32))]) G X5.here hx (hb hby at_23) rfl rfl
    replace G := own_aloadN (q := 25) G X5.here hx (hb hby at_24) rfl rfl rfl
    obtain ⟨cq7, kq7, q7a, q7b, q7c⟩ := isOf hZ e5 P7
    obtain ⟨_, _, ⟨T7, L7, kk7, nn7⟩, -, X7, ⟨Lc7, hQ7, l7, y7, z7⟩, st7⟩ := X5.virtualBack hx (y := (⟨"com/example/gridwright/gridwright/core/Rating", "isDifficultyClass", "()Z"⟩ : MethodName)) (z := (⟨"com/example/gridwright/gridwright/core/Rating", "isDifficultyClass", "()Z"⟩ : MethodName)) hown (mvT hZ (hw _ (List.mem_of_getElem? (i := 8) rfl))) (mvT hZ (hw _ (List.mem_of_getElem? (i := 9) rfl))) (notFace_of_selects (args := #[]) (mvT hZ (hw _ (List.mem_of_getElem? (i := 11) rfl)))) (mvT hZ (hw _ (List.mem_of_getElem? (i := 11) rfl))) (mvT hZ (hw _ (List.mem_of_getElem? (i := 10) rfl))) (by decide) (backOf (W := 0) (rm2 l Z a0 hw [] aE aN aV h0 n0 Z0 P4 P5) hZ (hw _ (List.mem_of_getElem? (i := 12) rfl)) (hw _ (List.mem_of_getElem? (i := 6) rfl)) (by decide) (by decide)) q7a q7c (g := (mkF m 25 #[.val (.int i0), .val (.int (1 : Int32)), .val (.ref aE), .val (.int (1 : Int32))] [(.ref aE)])) rfl (by rw [hml]; rfl) (Steps.refl _) (argsL := []) (rest := []) (lenOf pd_1 rfl) rfl (by show 2 * 0 + _ ≤ _; exact Nat.le_of_eq rfl) (hb hby at_25) (fun _ _ => ⟨rfl, e5, (by decide : 0 + 0 ≤ _), (by decide : 0 + 0 ≤ _)⟩)
    dsimp only [Pt.U, Pt.locs, Pt.cells, Pt.slots] at X7 l7 y7 z7 st7 hQ7
    subst l7 y7 z7
    obtain ⟨rfl, N7q, e7⟩ := hQ7
    have N7 := Fr.app N5 N7q
    replace G : Gets p e below _ (T7.setTop (mkF m 28 #[.val (.int i0), .val (.int (1 : Int32)), .val (.ref aE), .val (.int (1 : Int32))] [(.int (own_dif aE aN aV))])) := fun t k => G t (st7.trans k)
    replace G := own_iloadN (q := 29) G X7.here hx (hb hby at_28) rfl rfl
    have hc29_8 : (own_dif aE aN aV) = (1 : Int32) := by simp [own_dif, P19, P20]
    replace G := own_icmpNo (q := 32) G X7.here hx (hb hby at_29) (teq hc29_8).2 rfl
    replace G := own_iconst (q := 33) G X7.here hx (hb hby at_32) (v := (1 : Int32)) (by decide) rfl
    replace G := own_goto (q := 37) G X7.here hx (hb hby at_33) (by decide) (by decide)
    obtain ⟨fs, hr, hrun, hended, hW, hsame⟩ := X7.leave (v := some (.int (1 : Int32))) (fun h => by rw [Bd.returns] at h; cases h)
    refine ⟨_, _, G _ (retOut X7 hx Bd.returns rfl (Or.inl ⟨rfl, Or.inr (Or.inl rfl), _, rfl⟩) (hb hby at_37) hr), hrun, hended, _, _, rfl, ?_, ⟨_, rfl⟩, hW, hsame.mono (by decide) (by decide)⟩
    show Q0 Z i0 aS aE aI aX aN aV h0 n0 _ T7.heap _
    rw [e7]
    exact ⟨rfl, N7⟩
  · replace G := own_iloadN (q := 9) G X0.here hx (hb hby at_8) rfl rfl
    obtain ⟨_, _, ⟨T9, L9, kk9, nn9⟩, -, X9, ⟨Lc9, hQ9, l9, y9, z9⟩, st9⟩ := Jvm.LawKit.callS X0 hx (y := (⟨"com/example/gridwright/gridwright/core/RatingIsDifficultyClassPinLaw", "pick", "(I)Lcom/example/gridwright/gridwright/core/Rating;"⟩ : MethodName)) hown (mvT hZ (hw _ (List.mem_of_getElem? (i := 1) rfl))) (mvT hZ (hw _ (List.mem_of_getElem? (i := 2) rfl))) (mvT hZ (hw _ (List.mem_of_getElem? (i := 3) rfl))) (mvT hZ (hw _ (List.mem_of_getElem? (i := 4) rfl))) (by decide) (backOf (W := 0) (rm1k2 l Z a0 hw [] aI h0 n0 Z0 P2) hZ (hw _ (List.mem_of_getElem? (i := 4) rfl)) (hw _ (List.mem_of_getElem? (i := 3) rfl)) (by decide) (by decide)) (g := (mkF m 9 #[.val (.int i0), .val (.int (2 : Int32)), .unset, .unset] [(.int (2 : Int32))])) rfl (by rw [hml]; rfl) (argsL := [(.int (2 : Int32))]) (rest := []) (lenOf pd_0 rfl) rfl (by show 2 * 0 + _ ≤ _; exact Nat.le_of_eq rfl) (hb hby at_9) (fun _ _ => ⟨rfl, e0, (by decide : 0 + 0 ≤ _), (by decide : 0 + 0 ≤ _)⟩)
    dsimp only [Pt.U, Pt.locs, Pt.cells, Pt.slots] at X9 l9 y9 z9 st9 hQ9
    subst l9 y9 z9
    obtain ⟨rfl, N9q, e9⟩ := hQ9
    have N9 := Fr.app N0 N9q
    replace G : Gets p e below _ (T9.setTop (mkF m 12 #[.val (.int i0), .val (.int (2 : Int32)), .unset, .unset] [(.ref aI)])) := fun t k => G t (st9 t k)
    replace G := own_astoreN (q := 13) (l' := #[.val (.int i0), .val (.int (2 : Int32)), .val (.ref aI), .unset]) G X9.here hx (hb hby at_12) rfl rfl rfl
    replace G := own_iloadN (q := 14) G X9.here hx (hb hby at_13) rfl rfl
    replace G := own_iconst (q := 15) G X9.here hx (hb hby at_14) (v := (4 : Int32)) (by decide) rfl
    have hc15_10 : (2 : Int32) < (4 : Int32) := by decide
    replace G := own_icmpNo (q := 18) G X9.here hx (hb hby at_15) (tlt hc15_10).2.1 rfl
    replace G := own_iconst (q := 19) G X9.here hx (hb hby at_18) (v := (1 : Int32)) (by decide) rfl
    replace G := own_goto (q := 23) G X9.here hx (hb hby at_19) (by decide) (by decide)
    replace G := own_istoreN (q := 24) (l' := #[.val (.int i0), .val (.int (2 : Int32)), .val (.ref aI), .val (.int (1 : Int32))]) G X9.here hx (hb hby at_23) rfl rfl
    replace G := own_aloadN (q := 25) G X9.here hx (hb hby at_24) rfl rfl rfl
    obtain ⟨cq11, kq11, q11a, q11b, q11c⟩ := isOf hZ e9 P8
    obtain ⟨_, _, ⟨T11, L11, kk11, nn11⟩, -, X11, ⟨Lc11, hQ11, l11, y11, z11⟩, st11⟩ := X9.virtualBack hx (y := (⟨"com/example/gridwright/gridwright/core/Rating", "isDifficultyClass", "()Z"⟩ : MethodName)) (z := (⟨"com/example/gridwright/gridwright/core/Rating", "isDifficultyClass", "()Z"⟩ : MethodName)) hown (mvT hZ (hw _ (List.mem_of_getElem? (i := 8) rfl))) (mvT hZ (hw _ (List.mem_of_getElem? (i := 9) rfl))) (notFace_of_selects (args := #[]) (mvT hZ (hw _ (List.mem_of_getElem? (i := 11) rfl)))) (mvT hZ (hw _ (List.mem_of_getElem? (i := 11) rfl))) (mvT hZ (hw _ (List.mem_of_getElem? (i := 10) rfl))) (by decide) (backOf (W := 0) (rm2 l Z a0 hw [] aI aN aV h0 n0 Z0 P4 P5) hZ (hw _ (List.mem_of_getElem? (i := 12) rfl)) (hw _ (List.mem_of_getElem? (i := 6) rfl)) (by decide) (by decide)) q11a q11c (g := (mkF m 25 #[.val (.int i0), .val (.int (2 : Int32)), .val (.ref aI), .val (.int (1 : Int32))] [(.ref aI)])) rfl (by rw [hml]; rfl) (Steps.refl _) (argsL := []) (rest := []) (lenOf pd_1 rfl) rfl (by show 2 * 0 + _ ≤ _; exact Nat.le_of_eq rfl) (hb hby at_25) (fun _ _ => ⟨rfl, e9, (by decide : 0 + 0 ≤ _), (by decide : 0 + 0 ≤ _)⟩)
    dsimp only [Pt.U, Pt.locs, Pt.cells, Pt.slots] at X11 l11 y11 z11 st11 hQ11
    subst l11 y11 z11
    obtain ⟨rfl, N11q, e11⟩ := hQ11
    have N11 := Fr.app N9 N11q
    replace G : Gets p e below _ (T11.setTop (mkF m 28 #[.val (.int i0), .val (.int (2 : Int32)), .val (.ref aI), .val (.int (1 : Int32))] [(.int (own_dif aI aN aV))])) := fun t k => G t (st11.trans k)
    replace G := own_iloadN (q := 29) G X11.here hx (hb hby at_28) rfl rfl
    have hc29_12 : (own_dif aI aN aV) = (1 : Int32) := by simp [own_dif, P22, P23]
    replace G := own_icmpNo (q := 32) G X11.here hx (hb hby at_29) (teq hc29_12).2 rfl
    replace G := own_iconst (q := 33) G X11.here hx (hb hby at_32) (v := (1 : Int32)) (by decide) rfl
    replace G := own_goto (q := 37) G X11.here hx (hb hby at_33) (by decide) (by decide)
    obtain ⟨fs, hr, hrun, hended, hW, hsame⟩ := X11.leave (v := some (.int (1 : Int32))) (fun h => by rw [Bd.returns] at h; cases h)
    refine ⟨_, _, G _ (retOut X11 hx Bd.returns rfl (Or.inl ⟨rfl, Or.inr (Or.inl rfl), _, rfl⟩) (hb hby at_37) hr), hrun, hended, _, _, rfl, ?_, ⟨_, rfl⟩, hW, hsame.mono (by decide) (by decide)⟩
    show Q0 Z i0 aS aE aI aX aN aV h0 n0 _ T11.heap _
    rw [e11]
    exact ⟨rfl, N11⟩
  · replace G := own_iloadN (q := 9) G X0.here hx (hb hby at_8) rfl rfl
    obtain ⟨_, _, ⟨T13, L13, kk13, nn13⟩, -, X13, ⟨Lc13, hQ13, l13, y13, z13⟩, st13⟩ := Jvm.LawKit.callS X0 hx (y := (⟨"com/example/gridwright/gridwright/core/RatingIsDifficultyClassPinLaw", "pick", "(I)Lcom/example/gridwright/gridwright/core/Rating;"⟩ : MethodName)) hown (mvT hZ (hw _ (List.mem_of_getElem? (i := 1) rfl))) (mvT hZ (hw _ (List.mem_of_getElem? (i := 2) rfl))) (mvT hZ (hw _ (List.mem_of_getElem? (i := 3) rfl))) (mvT hZ (hw _ (List.mem_of_getElem? (i := 4) rfl))) (by decide) (backOf (W := 0) (rm1k3 l Z a0 hw [] aX h0 n0 Z0 P3) hZ (hw _ (List.mem_of_getElem? (i := 4) rfl)) (hw _ (List.mem_of_getElem? (i := 3) rfl)) (by decide) (by decide)) (g := (mkF m 9 #[.val (.int i0), .val (.int (3 : Int32)), .unset, .unset] [(.int (3 : Int32))])) rfl (by rw [hml]; rfl) (argsL := [(.int (3 : Int32))]) (rest := []) (lenOf pd_0 rfl) rfl (by show 2 * 0 + _ ≤ _; exact Nat.le_of_eq rfl) (hb hby at_9) (fun _ _ => ⟨rfl, e0, (by decide : 0 + 0 ≤ _), (by decide : 0 + 0 ≤ _)⟩)
    dsimp only [Pt.U, Pt.locs, Pt.cells, Pt.slots] at X13 l13 y13 z13 st13 hQ13
    subst l13 y13 z13
    obtain ⟨rfl, N13q, e13⟩ := hQ13
    have N13 := Fr.app N0 N13q
    replace G : Gets p e below _ (T13.setTop (mkF m 12 #[.val (.int i0), .val (.int (3 : Int32)), .unset, .unset] [(.ref aX)])) := fun t k => G t (st13 t k)
    replace G := own_astoreN (q := 13) (l' := #[.val (.int i0), .val (.int (3 : Int32)), .val (.ref aX), .unset]) G X13.here hx (hb hby at_12) rfl rfl rfl
    replace G := own_iloadN (q := 14) G X13.here hx (hb hby at_13) rfl rfl
    replace G := own_iconst (q := 15) G X13.here hx (hb hby at_14) (v := (4 : Int32)) (by decide) rfl
    have hc15_14 : (3 : Int32) < (4 : Int32) := by decide
    replace G := own_icmpNo (q := 18) G X13.here hx (hb hby at_15) (tlt hc15_14).2.1 rfl
    replace G := own_iconst (q := 19) G X13.here hx (hb hby at_18) (v := (1 : Int32)) (by decide) rfl
    replace G := own_goto (q := 23) G X13.here hx (hb hby at_19) (by decide) (by decide)
    replace G := own_istoreN (q := 24) (l' := #[.val (.int i0), .val (.int (3 : Int32)), .val (.ref aX), .val (.int (1 : Int32))]) G X13.here hx (hb hby at_23) rfl rfl
    replace G := own_aloadN (q := 25) G X13.here hx (hb hby at_24) rfl rfl rfl
    obtain ⟨cq15, kq15, q15a, q15b, q15c⟩ := isOf hZ e13 P9
    obtain ⟨_, _, ⟨T15, L15, kk15, nn15⟩, -, X15, ⟨Lc15, hQ15, l15, y15, z15⟩, st15⟩ := X13.virtualBack hx (y := (⟨"com/example/gridwright/gridwright/core/Rating", "isDifficultyClass", "()Z"⟩ : MethodName)) (z := (⟨"com/example/gridwright/gridwright/core/Rating", "isDifficultyClass", "()Z"⟩ : MethodName)) hown (mvT hZ (hw _ (List.mem_of_getElem? (i := 8) rfl))) (mvT hZ (hw _ (List.mem_of_getElem? (i := 9) rfl))) (notFace_of_selects (args := #[]) (mvT hZ (hw _ (List.mem_of_getElem? (i := 11) rfl)))) (mvT hZ (hw _ (List.mem_of_getElem? (i := 11) rfl))) (mvT hZ (hw _ (List.mem_of_getElem? (i := 10) rfl))) (by decide) (backOf (W := 0) (rm2 l Z a0 hw [] aX aN aV h0 n0 Z0 P4 P5) hZ (hw _ (List.mem_of_getElem? (i := 12) rfl)) (hw _ (List.mem_of_getElem? (i := 6) rfl)) (by decide) (by decide)) q15a q15c (g := (mkF m 25 #[.val (.int i0), .val (.int (3 : Int32)), .val (.ref aX), .val (.int (1 : Int32))] [(.ref aX)])) rfl (by rw [hml]; rfl) (Steps.refl _) (argsL := []) (rest := []) (lenOf pd_1 rfl) rfl (by show 2 * 0 + _ ≤ _; exact Nat.le_of_eq rfl) (hb hby at_25) (fun _ _ => ⟨rfl, e13, (by decide : 0 + 0 ≤ _), (by decide : 0 + 0 ≤ _)⟩)
    dsimp only [Pt.U, Pt.locs, Pt.cells, Pt.slots] at X15 l15 y15 z15 st15 hQ15
    subst l15 y15 z15
    obtain ⟨rfl, N15q, e15⟩ := hQ15
    have N15 := Fr.app N13 N15q
    replace G : Gets p e below _ (T15.setTop (mkF m 28 #[.val (.int i0), .val (.int (3 : Int32)), .val (.ref aX), .val (.int (1 : Int32))] [(.int (own_dif aX aN aV))])) := fun t k => G t (st15.trans k)
    replace G := own_iloadN (q := 29) G X15.here hx (hb hby at_28) rfl rfl
    have hc29_16 : (own_dif aX aN aV) = (1 : Int32) := by simp [own_dif, P24, P25]
    replace G := own_icmpNo (q := 32) G X15.here hx (hb hby at_29) (teq hc29_16).2 rfl
    replace G := own_iconst (q := 33) G X15.here hx (hb hby at_32) (v := (1 : Int32)) (by decide) rfl
    replace G := own_goto (q := 37) G X15.here hx (hb hby at_33) (by decide) (by decide)
    obtain ⟨fs, hr, hrun, hended, hW, hsame⟩ := X15.leave (v := some (.int (1 : Int32))) (fun h => by rw [Bd.returns] at h; cases h)
    refine ⟨_, _, G _ (retOut X15 hx Bd.returns rfl (Or.inl ⟨rfl, Or.inr (Or.inl rfl), _, rfl⟩) (hb hby at_37) hr), hrun, hended, _, _, rfl, ?_, ⟨_, rfl⟩, hW, hsame.mono (by decide) (by decide)⟩
    show Q0 Z i0 aS aE aI aX aN aV h0 n0 _ T15.heap _
    rw [e15]
    exact ⟨rfl, N15⟩
  · replace G := own_iloadN (q := 9) G X0.here hx (hb hby at_8) rfl rfl
    obtain ⟨_, _, ⟨T17, L17, kk17, nn17⟩, -, X17, ⟨Lc17, hQ17, l17, y17, z17⟩, st17⟩ := Jvm.LawKit.callS X0 hx (y := (⟨"com/example/gridwright/gridwright/core/RatingIsDifficultyClassPinLaw", "pick", "(I)Lcom/example/gridwright/gridwright/core/Rating;"⟩ : MethodName)) hown (mvT hZ (hw _ (List.mem_of_getElem? (i := 1) rfl))) (mvT hZ (hw _ (List.mem_of_getElem? (i := 2) rfl))) (mvT hZ (hw _ (List.mem_of_getElem? (i := 3) rfl))) (mvT hZ (hw _ (List.mem_of_getElem? (i := 4) rfl))) (by decide) (backOf (W := 0) (rm1k4 l Z a0 hw [] aN h0 n0 Z0 P4) hZ (hw _ (List.mem_of_getElem? (i := 4) rfl)) (hw _ (List.mem_of_getElem? (i := 3) rfl)) (by decide) (by decide)) (g := (mkF m 9 #[.val (.int i0), .val (.int (4 : Int32)), .unset, .unset] [(.int (4 : Int32))])) rfl (by rw [hml]; rfl) (argsL := [(.int (4 : Int32))]) (rest := []) (lenOf pd_0 rfl) rfl (by show 2 * 0 + _ ≤ _; exact Nat.le_of_eq rfl) (hb hby at_9) (fun _ _ => ⟨rfl, e0, (by decide : 0 + 0 ≤ _), (by decide : 0 + 0 ≤ _)⟩)
    dsimp only [Pt.U, Pt.locs, Pt.cells, Pt.slots] at X17 l17 y17 z17 st17 hQ17
    subst l17 y17 z17
    obtain ⟨rfl, N17q, e17⟩ := hQ17
    have N17 := Fr.app N0 N17q
    replace G : Gets p e below _ (T17.setTop (mkF m 12 #[.val (.int i0), .val (.int (4 : Int32)), .unset, .unset] [(.ref aN)])) := fun t k => G t (st17 t k)
    replace G := own_astoreN (q := 13) (l' := #[.val (.int i0), .val (.int (4 : Int32)), .val (.ref aN), .unset]) G X17.here hx (hb hby at_12) rfl rfl rfl
    replace G := own_iloadN (q := 14) G X17.here hx (hb hby at_13) rfl rfl
    replace G := own_iconst (q := 15) G X17.here hx (hb hby at_14) (v := (4 : Int32)) (by decide) rfl
    have hc15_18 : ¬ ((4 : Int32) < (4 : Int32)) := by decide
    replace G := own_icmpYes (q := 22) G X17.here hx (hb hby at_15) (flt hc15_18).2.1 (by decide) (by decide)
    replace G := own_iconst (q := 23) G X17.here hx (hb hby at_22) (v := (0 : Int32)) (by decide) rfl
    replace G := own_istoreN (q := 24) (l' := #[.val (.int i0), .val (.int (4 : Int32)), .val (.ref aN), .val (.int (0 : Int32))]) G X17.here hx (hb hby at_23) rfl rfl
    replace G := own_aloadN (q := 25) G X17.here hx (hb hby at_24) rfl rfl rfl
    obtain ⟨cq19, kq19, q19a, q19b, q19c⟩ := isOf hZ e17 P10
    obtain ⟨_, _, ⟨T19, L19, kk19, nn19⟩, -, X19, ⟨Lc19, hQ19, l19, y19, z19⟩, st19⟩ := X17.virtualBack hx (y := (⟨"com/example/gridwright/gridwright/core/Rating", "isDifficultyClass", "()Z"⟩ : MethodName)) (z := (⟨"com/example/gridwright/gridwright/core/Rating", "isDifficultyClass", "()Z"⟩ : MethodName)) hown (mvT hZ (hw _ (List.mem_of_getElem? (i := 8) rfl))) (mvT hZ (hw _ (List.mem_of_getElem? (i := 9) rfl))) (notFace_of_selects (args := #[]) (mvT hZ (hw _ (List.mem_of_getElem? (i := 11) rfl)))) (mvT hZ (hw _ (List.mem_of_getElem? (i := 11) rfl))) (mvT hZ (hw _ (List.mem_of_getElem? (i := 10) rfl))) (by decide) (backOf (W := 0) (rm2 l Z a0 hw [] aN aN aV h0 n0 Z0 P4 P5) hZ (hw _ (List.mem_of_getElem? (i := 12) rfl)) (hw _ (List.mem_of_getElem? (i := 6) rfl)) (by decide) (by decide)) q19a q19c (g := (mkF m 25 #[.val (.int i0), .val (.int (4 : Int32)), .val (.ref aN), .val (.int (0 : Int32))] [(.ref aN)])) rfl (by rw [hml]; rfl) (Steps.refl _) (argsL := []) (rest := []) (lenOf pd_1 rfl) rfl (by show 2 * 0 + _ ≤ _; exact Nat.le_of_eq rfl) (hb hby at_25) (fun _ _ => ⟨rfl, e17, (by decide : 0 + 0 ≤ _), (by decide : 0 + 0 ≤ _)⟩)
    dsimp only [Pt.U, Pt.locs, Pt.cells, Pt.slots] at X19 l19 y19 z19 st19 hQ19
    subst l19 y19 z19
    obtain ⟨rfl, N19q, e19⟩ := hQ19
    have N19 := Fr.app N17 N19q
    replace G : Gets p e below _ (T19.setTop (mkF m 28 #[.val (.int i0), .val (.int (4 : Int32)), .val (.ref aN), .val (.int (0 : Int32))] [(.int (own_dif aN aN aV))])) := fun t k => G t (st19.trans k)
    replace G := own_iloadN (q := 29) G X19.here hx (hb hby at_28) rfl rfl
    have hc29_20 : (own_dif aN aN aV) = (0 : Int32) := by simp [own_dif, P26]
    replace G := own_icmpNo (q := 32) G X19.here hx (hb hby at_29) (teq hc29_20).2 rfl
    replace G := own_iconst (q := 33) G X19.here hx (hb hby at_32) (v := (1 : Int32)) (by decide) rfl
    replace G := own_goto (q := 37) G X19.here hx (hb hby at_33) (by decide) (by decide)
    obtain ⟨fs, hr, hrun, hended, hW, hsame⟩ := X19.leave (v := some (.int (1 : Int32))) (fun h => by rw [Bd.returns] at h; cases h)
    refine ⟨_, _, G _ (retOut X19 hx Bd.returns rfl (Or.inl ⟨rfl, Or.inr (Or.inl rfl), _, rfl⟩) (hb hby at_37) hr), hrun, hended, _, _, rfl, ?_, ⟨_, rfl⟩, hW, hsame.mono (by decide) (by decide)⟩
    show Q0 Z i0 aS aE aI aX aN aV h0 n0 _ T19.heap _
    rw [e19]
    exact ⟨rfl, N19⟩
  · replace G := own_iloadN (q := 9) G X0.here hx (hb hby at_8) rfl rfl
    obtain ⟨_, _, ⟨T21, L21, kk21, nn21⟩, -, X21, ⟨Lc21, hQ21, l21, y21, z21⟩, st21⟩ := Jvm.LawKit.callS X0 hx (y := (⟨"com/example/gridwright/gridwright/core/RatingIsDifficultyClassPinLaw", "pick", "(I)Lcom/example/gridwright/gridwright/core/Rating;"⟩ : MethodName)) hown (mvT hZ (hw _ (List.mem_of_getElem? (i := 1) rfl))) (mvT hZ (hw _ (List.mem_of_getElem? (i := 2) rfl))) (mvT hZ (hw _ (List.mem_of_getElem? (i := 3) rfl))) (mvT hZ (hw _ (List.mem_of_getElem? (i := 4) rfl))) (by decide) (backOf (W := 0) (rm1k5 l Z a0 hw [] aV h0 n0 Z0 P5) hZ (hw _ (List.mem_of_getElem? (i := 4) rfl)) (hw _ (List.mem_of_getElem? (i := 3) rfl)) (by decide) (by decide)) (g := (mkF m 9 #[.val (.int i0), .val (.int (5 : Int32)), .unset, .unset] [(.int (5 : Int32))])) rfl (by rw [hml]; rfl) (argsL := [(.int (5 : Int32))]) (rest := []) (lenOf pd_0 rfl) rfl (by show 2 * 0 + _ ≤ _; exact Nat.le_of_eq rfl) (hb hby at_9) (fun _ _ => ⟨rfl, e0, (by decide : 0 + 0 ≤ _), (by decide : 0 + 0 ≤ _)⟩)
    dsimp only [Pt.U, Pt.locs, Pt.cells, Pt.slots] at X21 l21 y21 z21 st21 hQ21
    subst l21 y21 z21
    obtain ⟨rfl, N21q, e21⟩ := hQ21
    have N21 := Fr.app N0 N21q
    replace G : Gets p e below _ (T21.setTop (mkF m 12 #[.val (.int i0), .val (.int (5 : Int32)), .unset, .unset] [(.ref aV)])) := fun t k => G t (st21 t k)
    replace G := own_astoreN (q := 13) (l' := #[.val (.int i0), .val (.int (5 : Int32)), .val (.ref aV), .unset]) G X21.here hx (hb hby at_12) rfl rfl rfl
    replace G := own_iloadN (q := 14) G X21.here hx (hb hby at_13) rfl rfl
    replace G := own_iconst (q := 15) G X21.here hx (hb hby at_14) (v := (4 : Int32)) (by decide) rfl
    have hc15_22 : ¬ ((5 : Int32) < (4 : Int32)) := by decide
    replace G := own_icmpYes (q := 22) G X21.here hx (hb hby at_15) (flt hc15_22).2.1 (by decide) (by decide)
    replace G := own_iconst (q := 23) G X21.here hx (hb hby at_22) (v := (0 : Int32)) (by decide) rfl
    replace G := own_istoreN (q := 24) (l' := #[.val (.int i0), .val (.int (5 : Int32)), .val (.ref aV), .val (.int (0 : Int32))]) G X21.here hx (hb hby at_23) rfl rfl
    replace G := own_aloadN (q := 25) G X21.here hx (hb hby at_24) rfl rfl rfl
    obtain ⟨cq23, kq23, q23a, q23b, q23c⟩ := isOf hZ e21 P11
    obtain ⟨_, _, ⟨T23, L23, kk23, nn23⟩, -, X23, ⟨Lc23, hQ23, l23, y23, z23⟩, st23⟩ := X21.virtualBack hx (y := (⟨"com/example/gridwright/gridwright/core/Rating", "isDifficultyClass", "()Z"⟩ : MethodName)) (z := (⟨"com/example/gridwright/gridwright/core/Rating", "isDifficultyClass", "()Z"⟩ : MethodName)) hown (mvT hZ (hw _ (List.mem_of_getElem? (i := 8) rfl))) (mvT hZ (hw _ (List.mem_of_getElem? (i := 9) rfl))) (notFace_of_selects (args := #[]) (mvT hZ (hw _ (List.mem_of_getElem? (i := 11) rfl)))) (mvT hZ (hw _ (List.mem_of_getElem? (i := 11) rfl))) (mvT hZ (hw _ (List.mem_of_getElem? (i := 10) rfl))) (by decide) (backOf (W := 0) (rm2 l Z a0 hw [] aV aN aV h0 n0 Z0 P4 P5) hZ (hw _ (List.mem_of_getElem? (i := 12) rfl)) (hw _ (List.mem_of_getElem? (i := 6) rfl)) (by decide) (by decide)) q23a q23c (g := (mkF m 25 #[.val (.int i0), .val (.int (5 : Int32)), .val (.ref aV), .val (.int (0 : Int32))] [(.ref aV)])) rfl (by rw [hml]; rfl) (Steps.refl _) (argsL := []) (rest := []) (lenOf pd_1 rfl) rfl (by show 2 * 0 + _ ≤ _; exact Nat.le_of_eq rfl) (hb hby at_25) (fun _ _ => ⟨rfl, e21, (by decide : 0 + 0 ≤ _), (by decide : 0 + 0 ≤ _)⟩)
    dsimp only [Pt.U, Pt.locs, Pt.cells, Pt.slots] at X23 l23 y23 z23 st23 hQ23
    subst l23 y23 z23
    obtain ⟨rfl, N23q, e23⟩ := hQ23
    have N23 := Fr.app N21 N23q
    replace G : Gets p e below _ (T23.setTop (mkF m 28 #[.val (.int i0), .val (.int (5 : Int32)), .val (.ref aV), .val (.int (0 : Int32))] [(.int (own_dif aV aN aV))])) := fun t k => G t (st23.trans k)
    replace G := own_iloadN (q := 29) G X23.here hx (hb hby at_28) rfl rfl
    have hc29_24 : (own_dif aV aN aV) = (0 : Int32) := by simp [own_dif, (Ne.symm P26)]
    replace G := own_icmpNo (q := 32) G X23.here hx (hb hby at_29) (teq hc29_24).2 rfl
    replace G := own_iconst (q := 33) G X23.here hx (hb hby at_32) (v := (1 : Int32)) (by decide) rfl
    replace G := own_goto (q := 37) G X23.here hx (hb hby at_33) (by decide) (by decide)
    obtain ⟨fs, hr, hrun, hended, hW, hsame⟩ := X23.leave (v := some (.int (1 : Int32))) (fun h => by rw [Bd.returns] at h; cases h)
    refine ⟨_, _, G _ (retOut X23 hx Bd.returns rfl (Or.inl ⟨rfl, Or.inr (Or.inl rfl), _, rfl⟩) (hb hby at_37) hr), hrun, hended, _, _, rfl, ?_, ⟨_, rfl⟩, hW, hsame.mono (by decide) (by decide)⟩
    show Q0 Z i0 aS aE aI aX aN aV h0 n0 _ T23.heap _
    rw [e23]
    exact ⟨rfl, N23⟩
set_option maxRecDepth 65536 in
set_option maxHeartbeats 40000000 in
theorem comes_1 {Post : Tables → Env → Array Value → State → Outcome → State → Prop} (hpost : ∀ tb e args s v u, (limb_1_1.after args s (.returned v) u = true ∧ limb_1_2.after args s (.returned v) u = true ∧ True) → FrameEnd s (.returned v) u (Jvm.fieldLocs frame_1_writes args s ++ Jvm.arrayLocs frame_1_arrays args s ++ Jvm.staticLocs frame_1_statics s) 0 0 → Post tb e args s (.returned v) u) :
    ArmFor flags0 classFile x code maxLocals ret World_1 tables_1 room_1 Calls_1 rest_1 Pre_1 Post := by
  intro l hfl _ _ p e ha hc hk s m args below hf hA hF happ hP
  obtain ⟨hcalls, hrest, hpre⟩ := hP
  obtain ⟨-, -, -, hnamed, -, -, -, hat⟩ := (Spec.applies_iff hf).mp happ
  obtain ⟨hg, hn⟩ := and_e (Cond.before_iff.mp (show (Jvm.Cond.and given_1 narrow_1).before args s = true from hpre))
  obtain ⟨g1, g2⟩ := and_e hg
  obtain ⟨w0, rfl⟩ : ∃ w0 : Value, args = #[w0] := by
    have hs : args.size = 1 := by simpa [Cond.value, given_1] using g1
    obtain ⟨L⟩ := args
    match L, hs with
    | [w0], _ => exact ⟨w0, rfl⟩
  have hw := fun d (hd : d ∈ tables_1) => atoms_spec (ws := Jvm.Cond.code x code maxLocals ret :: tables_1) hat d (List.mem_cons_of_mem _ hd)
  have hfit : Fit s := fun {y c} hc i hi => by
    obtain ⟨ha, rfl⟩ := Array.getElem?_eq_some_iff.mp hc
    have q := List.all_eq_true.mp ((Array.all_eq_true_iff_forall_mem.mp hF) _ (Array.getElem_mem ha)) i (List.mem_range.mpr hi)
    simpa [Array.getElem?_eq_getElem hi] using q
  obtain ⟨i0, ei0⟩ := is_v g2
  obtain rfl : w0 = (.int i0) := Option.some.inj ei0
  obtain ⟨nn1, nn2⟩ := and_e hn
  obtain ⟨nn3, nn4⟩ := and_e nn2
  obtain ⟨nn5, nn6⟩ := and_e nn4
  obtain ⟨nn7, nn8⟩ := and_e nn6
  obtain ⟨nn9, nn10⟩ := and_e nn8
  obtain ⟨nn11, nn12⟩ := and_e nn10
  obtain ⟨nn13, nn14⟩ := and_e nn12
  obtain ⟨nn15, nn16⟩ := and_e nn14
  obtain ⟨nn17, nn18⟩ := and_e nn16
  obtain ⟨nn19, nn20⟩ := and_e nn18
  obtain ⟨nn21, nn22⟩ := and_e nn20
  obtain ⟨aS, ev_aS⟩ := exa_v nn1
  have Ex_aS := Exa.start ev_aS nn1
  have St_aS := Sta.start ev_aS (Or.inr ⟨(hw _ (List.mem_of_getElem? (i := 6) rfl)), (hw _ (List.mem_of_getElem? (i := 7) rfl))⟩)
  have Od_aS := Fld.start (own_ord ev_aS nn5)
  obtain ⟨aN, ev_aN⟩ := exa_v nn3
  have Ex_aN := Exa.start ev_aN nn3
  have St_aN := Sta.start ev_aN (Or.inr ⟨(hw _ (List.mem_of_getElem? (i := 6) rfl)), (hw _ (List.mem_of_getElem? (i := 14) rfl))⟩)
  have Od_aN := Fld.start (own_ord ev_aN nn7)
  obtain ⟨aV, ev_aV⟩ := exa_v nn9
  have Ex_aV := Exa.start ev_aV nn9
  have St_aV := Sta.start ev_aV (Or.inr ⟨(hw _ (List.mem_of_getElem? (i := 6) rfl)), (hw _ (List.mem_of_getElem? (i := 16) rfl))⟩)
  have Od_aV := Fld.start (own_ord ev_aV nn11)
  obtain ⟨aX, ev_aX⟩ := exa_v nn13
  have Ex_aX := Exa.start ev_aX nn13
  have St_aX := Sta.start ev_aX (Or.inr ⟨(hw _ (List.mem_of_getElem? (i := 6) rfl)), (hw _ (List.mem_of_getElem? (i := 18) rfl))⟩)
  have Od_aX := Fld.start (own_ord ev_aX nn15)
  obtain ⟨aI, ev_aI⟩ := exa_v nn17
  have Ex_aI := Exa.start ev_aI nn17
  have St_aI := Sta.start ev_aI (Or.inr ⟨(hw _ (List.mem_of_getElem? (i := 6) rfl)), (hw _ (List.mem_of_getElem? (i := 20) rfl))⟩)
  have Od_aI := Fld.start (own_ord ev_aI nn19)
  obtain ⟨aE, ev_aE⟩ := exa_v nn21
  have Ex_aE := Exa.start ev_aE nn21
  have St_aE := Sta.start ev_aE (Or.inr ⟨(hw _ (List.mem_of_getElem? (i := 6) rfl)), (hw _ (List.mem_of_getElem? (i := 22) rfl))⟩)
  have Od_aE := Fld.start (own_ord ev_aE nn22)
  obtain ⟨n, o, h1, h2, h3, _, L, rfl, ⟨rfl, N⟩, hq⟩ := rm0 l s _ hw tables_1 i0 aS aE aI aX aN aV s.heap s.heap.size (Nat.le_refl _) St_aS St_aE St_aI St_aX St_aN St_aV Ex_aS Ex_aE Ex_aI Ex_aX Ex_aN Ex_aV (Fld.ne Od_aS Od_aE (by decide)) (Fld.ne Od_aS Od_aI (by decide)) (Fld.ne Od_aS Od_aX (by decide)) (Fld.ne Od_aS Od_aN (by decide)) (Fld.ne Od_aS Od_aV (by decide)) (Fld.ne Od_aE Od_aI (by decide)) (Fld.ne Od_aE Od_aX (by decide)) (Fld.ne Od_aE Od_aN (by decide)) (Fld.ne Od_aE Od_aV (by decide)) (Fld.ne Od_aI Od_aX (by decide)) (Fld.ne Od_aI Od_aN (by decide)) (Fld.ne Od_aI Od_aV (by decide)) (Fld.ne Od_aX Od_aN (by decide)) (Fld.ne Od_aX Od_aV (by decide)) (Fld.ne Od_aN Od_aV (by decide)) p e ha hc hk s m _ below hf ((Spec.applies_iff_loose hf).mp happ).1 ⟨rfl, State.Warmed39.refl s, rfl⟩ trivial
  refine ⟨n, _, h1, h2, h3, hpost _ _ _ _ _ _ ⟨Cond.after_iff.mpr rfl, Cond.after_iff.mpr (eq_i res_at (Term.int_eval (1)) rfl), trivial⟩ ⟨hq.1, hq.2.1, (hq.2.2.sift fun y hy => Or.inr (N y hy)).mono (by decide) (by decide)⟩⟩
theorem main_1_1 : Claimed_1_1 := comes_1 fun _ _ _ _ _ _ h hF => ⟨h.1, hF⟩
theorem main_1_2 : Claimed_1_2 := comes_1 fun _ _ _ _ _ _ h hF => ⟨h.2.1, hF⟩
end Jvm.Pilot.@@N@@
namespace Jvm.Pilot.@@N@@
open Jvm Jvm.ClassFile Sem Op Lib Jvm.Free Jvm.Stand Jvm.Pilot.@@N@@.Jvm.D
/-! MADE BY PROGRAM (witnessworld.py) out of the Statement's table words and the real class files: 12 classes; the members and pool entries that the words name. The judged class is class 1, her method 2. -/
namespace start1
open Jvm.ClassFile
def u (s : String) : CpInfo := .utf8 (stringToUtf16 s)
/-- a pool by its gaps: so many unusable entries, then the entry; so many at the end -/
def gap : Nat → List CpInfo → List CpInfo
  | 0, r => r
  | n + 1, r => .unusable :: gap n r
def poolList (es : List (Nat × CpInfo)) (last : Nat) : List CpInfo := es.foldr (fun e r => gap e.1 (e.2 :: r)) (gap last [])
def pool (es : List (Nat × CpInfo)) (last : Nat) : Array CpInfo := ⟨poolList es last⟩
def fileOf (pool : Array CpInfo) (this : Nat) (attrs : Array Attribute := #[]) (ms : Array MethodInfo := #[]) (fl : Nat := 33) (sup : Nat := 0) (ifs : Array Nat := #[]) (fds : Array FieldInfo := #[]) : ClassFile where
  minorVersion := 0
  majorVersion := 65
  constantPool := pool
  accessFlags := fl
  thisClass := this
  superClass := sup
  interfaces := ifs
  fields := fds
  methods := ms
  attributes := attrs
def plain (name : String) (sup : Option ClassId) : Class where
  name := name
  kind := .ordinary
  loader := none
  accessFlags := 33
  super := sup
  interfaces := #[]
  cf := none
  fields := #[]
  methods := #[]
  instanceTypes := #[]
  staticTypes := #[]
  resolved := #[]
  callSites := []
  init := .initialized
  statics := none
  mirror := none

def pool0 : Array CpInfo := pool [(5, u "<init>"), (0, u "()V"), (1, .class_ 10), (1, u "java/lang/Object")] 113

def k0m0 : Method := { name := "<init>", desc := "()V", sig := { parameters := [], returnType := none }, accessFlags := 1, code := none }
/-- java/lang/Object -/
def k0 : Class := { plain "java/lang/Object" none with
  accessFlags := 33
  interfaces := #[]
  cf := some (fileOf pool0 8 #[] #[{ accessFlags := 1, nameIndex := 5, descriptorIndex := 6, attributes := #[] }] 33 0 #[] #[])
  fields := #[]
  methods := #[k0m0]
  instanceTypes := #[]
  staticTypes := #[]
  resolved := Array.replicate 124 none
  statics := none }

def pool1 : Array CpInfo := pool [(2, .class_ 4), (1, u "java/lang/Object"), (0, u "<init>"), (0, u "()V"), (0, .fieldref 8 9), (0, .class_ 10), (0, .nameAndType 11 12), (0, u "com/example/gridwright/gridwright/core/Rating"), (0, u "SIMPLE"), (0, u "Lcom/example/gridwright/gridwright/core/Rating;"), (0, .fieldref 8 14), (0, .nameAndType 15 12), (0, u "EASY"), (0, .fieldref 8 17), (0, .nameAndType 18 12), (0, u "INTERMEDIATE"), (0, .fieldref 8 20), (0, .nameAndType 21 12), (0, u "EXPERT"), (0, .fieldref 8 23), (0, .nameAndType 24 12), (0, u "NONE"), (0, .fieldref 8 26), (0, .nameAndType 27 12), (0, u "SEVERAL"), (0, .integer 2147483647), (0, .methodref 30 31), (0, .class_ 32), (0, .nameAndType 33 34), (0, u "com/example/gridwright/gridwright/core/RatingIsDifficultyClassPinLaw"), (0, u "pick"), (0, u "(I)Lcom/example/gridwright/gridwright/core/Rating;"), (0, .methodref 8 36), (0, .nameAndType 37 38), (0, u "isDifficultyClass"), (0, u "()Z"), (3, u "law"), (0, u "(I)Z")] 2

def k1m0 : Method := { name := "<init>", desc := "()V", sig := { parameters := [], returnType := none }, accessFlags := 2, code := none }
def k1c1 : Code := { maxStack := 2, maxLocals := 2, code := method_2_code, exceptionTable := #[], attributes := #[] }
def k1m1 : Method := { name := "pick", desc := "(I)Lcom/example/gridwright/gridwright/core/Rating;", sig := { parameters := [.int], returnType := some (.object "com/example/gridwright/gridwright/core/Rating") }, accessFlags := 10, code := some k1c1 }
def k1c2 : Code := { maxStack := 2, maxLocals := 4, code := code, exceptionTable := #[], attributes := #[] }
def k1m2 : Method := { name := "law", desc := "(I)Z", sig := { parameters := [.int], returnType := some .boolean }, accessFlags := 9, code := some k1c2 }
/-- com/example/gridwright/gridwright/core/RatingIsDifficultyClassPinLaw -/
def k1 : Class := { plain "com/example/gridwright/gridwright/core/RatingIsDifficultyClassPinLaw" (some 0) with
  accessFlags := 49
  interfaces := #[]
  cf := some (fileOf pool1 30 #[] #[{ accessFlags := 2, nameIndex := 5, descriptorIndex := 6, attributes := #[] }, { accessFlags := 10, nameIndex := 33, descriptorIndex := 34, attributes := #[] }, { accessFlags := 9, nameIndex := 42, descriptorIndex := 43, attributes := #[] }] 49 2 #[] #[])
  fields := #[]
  methods := #[k1m0, k1m1, k1m2]
  instanceTypes := #[]
  staticTypes := #[]
  resolved := Array.replicate 46 none
  statics := none }

def pool2 : Array CpInfo := pool [(1, .class_ 2), (0, u "java/lang/constant/Constable"), (0, .class_ 4), (0, u "java/lang/Object")] 6

/-- java/lang/constant/Constable -/
def k2 : Class := { plain "java/lang/constant/Constable" (some 0) with
  accessFlags := 1537
  interfaces := #[]
  cf := some (fileOf pool2 1 #[] #[] 1537 3 #[] #[])
  fields := #[]
  methods := #[]
  instanceTypes := #[]
  staticTypes := #[]
  resolved := Array.replicate 11 none
  statics := none }

def pool3 : Array CpInfo := pool [(1, .class_ 2), (0, u "java/lang/Comparable"), (0, .class_ 4), (0, u "java/lang/Object")] 7

/-- java/lang/Comparable -/
def k3 : Class := { plain "java/lang/Comparable" (some 0) with
  accessFlags := 1537
  interfaces := #[]
  cf := some (fileOf pool3 1 #[] #[] 1537 3 #[] #[])
  fields := #[]
  methods := #[]
  instanceTypes := #[]
  staticTypes := #[]
  resolved := Array.replicate 12 none
  statics := none }

def pool4 : Array CpInfo := pool [(1, .class_ 2), (0, u "java/io/Serializable"), (0, .class_ 4), (0, u "java/lang/Object")] 2

/-- java/io/Serializable -/
def k4 : Class := { plain "java/io/Serializable" (some 0) with
  accessFlags := 1537
  interfaces := #[]
  cf := some (fileOf pool4 1 #[] #[] 1537 3 #[] #[])
  fields := #[]
  methods := #[]
  instanceTypes := #[]
  staticTypes := #[]
  resolved := Array.replicate 7 none
  statics := none }

def pool5 : Array CpInfo := pool [(2, .class_ 4), (1, u "java/lang/Enum"), (0, u "name"), (0, u "Ljava/lang/String;"), (2, u "ordinal"), (0, u "I"), (1, .class_ 14), (1, u "java/lang/Object"), (4, u "hash"), (86, .class_ 108), (1, u "java/lang/Enum$EnumDesc"), (2, .class_ 112), (0, u "java/lang/constant/Constable"), (0, .class_ 114), (0, u "java/lang/Comparable"), (0, .class_ 116), (0, u "java/io/Serializable")] 87

/-- java/lang/Enum -/
def k5 : Class := { plain "java/lang/Enum" (some 0) with
  accessFlags := 1057
  interfaces := #[2, 3, 4]
  cf := some (fileOf pool5 2 #[.nestMembers #[106]] #[] 1057 12 #[111, 113, 115] #[{ accessFlags := 18, nameIndex := 5, descriptorIndex := 6, attributes := #[] }, { accessFlags := 18, nameIndex := 9, descriptorIndex := 10, attributes := #[] }, { accessFlags := 2, nameIndex := 19, descriptorIndex := 10, attributes := #[] }])
  fields := #[{ name := "name", type := (.object "java/lang/String"), accessFlags := 18, slot := 0, constantValue := 0 }, { name := "ordinal", type := .int, accessFlags := 18, slot := 1, constantValue := 0 }, { name := "hash", type := .int, accessFlags := 2, slot := 2, constantValue := 0 }]
  methods := #[]
  instanceTypes := #[(.object "java/lang/String"), .int, .int]
  staticTypes := #[]
  resolved := Array.replicate 204 none
  statics := none }

def pool6 : Array CpInfo := pool [(1, .class_ 2), (0, u "com/example/gridwright/gridwright/core/Rating"), (2, u "SIMPLE"), (0, u "Lcom/example/gridwright/gridwright/core/Rating;"), (2, u "EASY"), (2, u "INTERMEDIATE"), (2, u "EXPERT"), (0, .fieldref 1 17), (0, .nameAndType 18 6), (0, u "NONE"), (0, .fieldref 1 20), (0, .nameAndType 21 6), (0, u "SEVERAL"), (2, u "$VALUES"), (0, u "[Lcom/example/gridwright/gridwright/core/Rating;"), (6, .class_ 34), (1, u "java/lang/Enum"), (34, u "SEVERAL_SOLUTIONS"), (0, u "J"), (11, u "isDifficultyClass"), (0, u "()Z")] 4

def k6c0 : Code := { maxStack := 2, maxLocals := 1, code := prog_21_method_5_code, exceptionTable := #[], attributes := #[] }
def k6m0 : Method := { name := "isDifficultyClass", desc := "()Z", sig := { parameters := [], returnType := some .boolean }, accessFlags := 1, code := some k6c0 }
/-- com/example/gridwright/gridwright/core/Rating -/
def k6 : Class := { plain "com/example/gridwright/gridwright/core/Rating" (some 5) with
  accessFlags := 16433
  interfaces := #[]
  cf := some (fileOf pool6 1 #[] #[{ accessFlags := 1, nameIndex := 82, descriptorIndex := 83, attributes := #[] }] 16433 32 #[] #[{ accessFlags := 16409, nameIndex := 5, descriptorIndex := 6, attributes := #[] }, { accessFlags := 16409, nameIndex := 9, descriptorIndex := 6, attributes := #[] }, { accessFlags := 16409, nameIndex := 12, descriptorIndex := 6, attributes := #[] }, { accessFlags := 16409, nameIndex := 15, descriptorIndex := 6, attributes := #[] }, { accessFlags := 16409, nameIndex := 18, descriptorIndex := 6, attributes := #[] }, { accessFlags := 16409, nameIndex := 21, descriptorIndex := 6, attributes := #[] }, { accessFlags := 26, nameIndex := 69, descriptorIndex := 70, attributes := #[] }, { accessFlags := 4122, nameIndex := 24, descriptorIndex := 25, attributes := #[] }])
  fields := #[{ name := "SIMPLE", type := (.object "com/example/gridwright/gridwright/core/Rating"), accessFlags := 16409, slot := 0, constantValue := 0 }, { name := "EASY", type := (.object "com/example/gridwright/gridwright/core/Rating"), accessFlags := 16409, slot := 1, constantValue := 0 }, { name := "INTERMEDIATE", type := (.object "com/example/gridwright/gridwright/core/Rating"), accessFlags := 16409, slot := 2, constantValue := 0 }, { name := "EXPERT", type := (.object "com/example/gridwright/gridwright/core/Rating"), accessFlags := 16409, slot := 3, constantValue := 0 }, { name := "NONE", type := (.object "com/example/gridwright/gridwright/core/Rating"), accessFlags := 16409, slot := 4, constantValue := 0 }, { name := "SEVERAL", type := (.object "com/example/gridwright/gridwright/core/Rating"), accessFlags := 16409, slot := 5, constantValue := 0 }, { name := "SEVERAL_SOLUTIONS", type := .long, accessFlags := 26, slot := 6, constantValue := 0 }, { name := "$VALUES", type := (.array (.object "com/example/gridwright/gridwright/core/Rating")), accessFlags := 4122, slot := 7, constantValue := 0 }]
  methods := #[k6m0]
  instanceTypes := #[(.object "java/lang/String"), .int, .int]
  staticTypes := #[(.object "com/example/gridwright/gridwright/core/Rating"), (.object "com/example/gridwright/gridwright/core/Rating"), (.object "com/example/gridwright/gridwright/core/Rating"), (.object "com/example/gridwright/gridwright/core/Rating"), (.object "com/example/gridwright/gridwright/core/Rating"), (.object "com/example/gridwright/gridwright/core/Rating"), .long, (.array (.object "com/example/gridwright/gridwright/core/Rating"))]
  resolved := Array.replicate 88 none
  statics := some 0 }

def pool7 : Array CpInfo := pool [(1, u "java/lang/Cloneable"), (0, .class_ 1), (0, u "java/lang/Object"), (0, .class_ 3)] 3

/-- java/lang/Cloneable -/
def k7 : Class := { plain "java/lang/Cloneable" (some 0) with
  accessFlags := 1537
  interfaces := #[]
  cf := some (fileOf pool7 2 #[] #[] 1537 4 #[] #[])
  fields := #[]
  methods := #[]
  instanceTypes := #[]
  staticTypes := #[]
  resolved := Array.replicate 8 none
  statics := none }

/-- the primitive byte -/
def k8 : Class := { plain "byte" none with kind := .primitive 'B', accessFlags := 0x411 }
/-- [B -/
def k9 : Class := { plain "[B" (some 0) with kind := .array 8 .byte, interfaces := #[7, 4], accessFlags := 1041 }

/-- the primitive int -/
def k10 : Class := { plain "int" none with kind := .primitive 'I', accessFlags := 0x411 }
/-- [I -/
def k11 : Class := { plain "[I" (some 0) with kind := .array 10 .int, interfaces := #[7, 4], accessFlags := 1041 }

def heap : Heap := #[{ cls := 6, slots := #[.ref 1, .ref 2, .ref 3, .ref 4, .ref 5, .ref 6, .long 0, .null], vm := .statics 6 },
  { cls := 6, slots := #[.null, .int 0, .int 0], vm := .none },
  { cls := 6, slots := #[.null, .int 1, .int 0], vm := .none },
  { cls := 6, slots := #[.null, .int 2, .int 0], vm := .none },
  { cls := 6, slots := #[.null, .int 3, .int 0], vm := .none },
  { cls := 6, slots := #[.null, .int 4, .int 0], vm := .none },
  { cls := 6, slots := #[.null, .int 5, .int 0], vm := .none }]
def classes : Array Class := #[k0, k1, k2, k3, k4, k5, k6, k7, k8, k9, k10, k11]
def interned : List (Array UInt16 × Addr) := []
def slotsUsed : Nat := 26
def theMethod : MethodId := ⟨1, 2⟩
def args0 : Array Value := #[.int 5]
def aboutOver (below : List Frame) : State where
  vm := { classes := classes, interned := interned.toArray }
  heap := heap
  slotsUsed := slotsUsed
  threads := #[{ frames := .invoking theMethod args0 :: below }]
def below0 : List Frame := [.native { method := ⟨0, 0⟩, args := #[] }]
def about1 : State := aboutOver below0
def p0 : Program := .bare "" "" ""
def e0 : Env := launch0.env 0 0 0
theorem w_frames : about1.frames = Frame.invoking theMethod args0 :: below0 := rfl
set_option maxRecDepth 65536 in
theorem w_args : argsFit about1.vm theMethod args0 = true := by decide +kernel
set_option maxRecDepth 65536 in
theorem w_heap : heapFits about1 = true := by decide +kernel
set_option maxRecDepth 65536 in
theorem w_runnable : about1.curStatus? = some .runnable := by decide +kernel
set_option maxRecDepth 65536 in
theorem w_alone : about1.alone = true := by decide +kernel
set_option maxRecDepth 65536 in
theorem w_named : about1.methodNamed? x = some theMethod := by decide +kernel
set_option maxRecDepth 65536 in
theorem w_hears : about1.hears theMethod below0 = true := by decide +kernel
set_option maxRecDepth 65536 in
theorem w_ripe : about1.ripe theMethod args0 below0 = true := by decide +kernel
theorem w_running : about1.status = .running := rfl
set_option maxRecDepth 65536 in
theorem w_room : about1.hasRoom e0.platform room_1 = true :=
  launch0.hasRoom_least _ room_1 (by decide +kernel) (by decide +kernel) (by decide +kernel) (by decide +kernel) (by decide +kernel) (by decide +kernel)
theorem allAtoms_all (ts : List Jvm.Cond) (a : Array Jvm.Value) (st : Jvm.State) : (allAtoms ts).before a st = ts.all (fun c => c.before a st) := by
  induction ts with
  | nil => rfl
  | cons c t ih =>
    show (Jvm.Cond.and c (allAtoms t)).before a st = _
    rw [Jvm.Cond.before_and, ih, List.all_cons]
def words1 : List Jvm.Cond := Jvm.Cond.code x code maxLocals ret :: tables_1
/-- a 'code' word, met by the world's own term for the bytes: nothing is compared byte by byte -/
theorem code_word {y : MethodName} {bytes : ByteArray} {mx : Nat} {rt : Option FieldType} {a : Array Value} {s : State} {m : MethodId} {meth : Method} {c : Code} (h1 : s.methodNamed? y = some m) (h2 : s.vm.method? m = some meth) (h3 : meth.code = some c) (h4 : c.code = bytes)
    (h5 : (c.maxLocals == mx && c.exceptionTable.isEmpty && decide (c.maxStack ≤ mostOperands) && decide (meth.sig.returnType = rt) && !meth.locks && decide (parseMethodDescriptor y.desc = some meth.sig)) = true) : (Jvm.Cond.code y bytes mx rt).before a s = true := by
  simp only [Bool.and_eq_true, beq_iff_eq, Bool.not_eq_true', decide_eq_true_eq] at h5
  obtain ⟨⟨⟨⟨⟨g1, g2⟩, g3⟩, g4⟩, g5⟩, g6⟩ := h5
  simp [Cond.before, Cond.holds, Cond.value, h1, h2, h3, h4, g1, g2, g3, g4, g5, g6]
def isCode : Jvm.Cond → Bool
  | .code _ _ _ _ => true
  | _ => false
theorem all_split {L : List Jvm.Cond} {P : Jvm.Cond → Bool} (h1 : L.all (fun c => isCode c || P c) = true) (h2 : ∀ c ∈ L.filter isCode, P c = true) : L.all P = true := by
  refine List.all_eq_true.mpr fun c hc => ?_
  have h := List.all_eq_true.mp h1 c hc
  rcases Bool.eq_false_or_eq_true (isCode c) with hi | hi
  · exact h2 c (List.mem_filter.mpr ⟨hc, hi⟩)
  · simpa [hi] using h
set_option maxRecDepth 65536 in
theorem w_c0 : (Jvm.Cond.code x code maxLocals ret).before args0 about1 = true := code_word (m := ⟨1, 2⟩) (meth := k1m2) (c := k1c2) (by decide +kernel) rfl rfl rfl (by decide +kernel)
set_option maxRecDepth 65536 in
theorem w_c1 : (Jvm.Cond.code ({ cls := "com/example/gridwright/gridwright/core/RatingIsDifficultyClassPinLaw", name := "pick", desc := "(I)Lcom/example/gridwright/gridwright/core/Rating;" } : Jvm.MethodName) method_2_code (2 : Nat) (Option.some (Jvm.ClassFile.FieldType.object "com/example/gridwright/gridwright/core/Rating"))).before args0 about1 = true := code_word (m := ⟨1, 1⟩) (meth := k1m1) (c := k1c1) (by decide +kernel) rfl rfl rfl (by decide +kernel)
set_option maxRecDepth 65536 in
theorem w_c2 : (Jvm.Cond.code ({ cls := "com/example/gridwright/gridwright/core/Rating", name := "isDifficultyClass", desc := "()Z" } : Jvm.MethodName) prog_21_method_5_code (1 : Nat) (Option.some Jvm.ClassFile.FieldType.boolean)).before args0 about1 = true := code_word (m := ⟨6, 0⟩) (meth := k6m0) (c := k6c0) (by decide +kernel) rfl rfl rfl (by decide +kernel)
def codes1 : List Jvm.Cond := [Jvm.Cond.code x code maxLocals ret, Jvm.Cond.code ({ cls := "com/example/gridwright/gridwright/core/RatingIsDifficultyClassPinLaw", name := "pick", desc := "(I)Lcom/example/gridwright/gridwright/core/Rating;" } : Jvm.MethodName) method_2_code (2 : Nat) (Option.some (Jvm.ClassFile.FieldType.object "com/example/gridwright/gridwright/core/Rating")), Jvm.Cond.code ({ cls := "com/example/gridwright/gridwright/core/Rating", name := "isDifficultyClass", desc := "()Z" } : Jvm.MethodName) prog_21_method_5_code (1 : Nat) (Option.some Jvm.ClassFile.FieldType.boolean)]
set_option maxRecDepth 65536 in
theorem codes_eq : words1.filter isCode = codes1 := rfl
theorem w_codes : ∀ c ∈ words1.filter isCode, c.before args0 about1 = true := by
  rw [codes_eq]
  intro c hc
  simp only [codes1, List.mem_cons, List.not_mem_nil, or_false] at hc
  rcases hc with rfl | rfl | rfl
  · exact w_c0
  · exact w_c1
  · exact w_c2
set_option maxRecDepth 65536 in
theorem w_t1 : (words1.take 24).all (fun c => isCode c || c.before args0 about1) = true := by decide +kernel
set_option maxRecDepth 65536 in
theorem w_t2 : (words1.drop 24).all (fun c => isCode c || c.before args0 about1) = true := by decide +kernel
theorem w_tables : (allAtoms (Jvm.Cond.code x code maxLocals ret :: tables_1)).before args0 about1 = true := by
  rw [allAtoms_all]
  show words1.all (fun c => c.before args0 about1) = true
  refine all_split ?_ w_codes
  rw [← List.take_append_drop 24 words1, List.all_append, w_t1, w_t2]
  rfl
set_option maxRecDepth 65536 in
theorem w_case : (Jvm.Cond.and given_1 narrow_1).before args0 about1 = true := by decide +kernel
theorem w_applies : (headSpec (Jvm.Cond.code x code maxLocals ret :: tables_1) room_1).applies x e0.platform about1 = true :=
  (Spec.applies_iff w_frames).mpr ⟨w_running, w_runnable, w_alone, w_named, w_hears, w_ripe, w_room, w_tables⟩
theorem atStart : AtStart classFile x code maxLocals ret World_1 tables_1 room_1 Calls_1 rest_1 Pre_1 launch0 p0 e0 about1 theMethod args0 below0 :=
  ⟨lists_1, trivial, launch0.admits_env _ _ _, launch0.least_env, fairChoices_fair.cas, fairChoices_fair.clock, w_frames, w_args, w_heap, w_applies, trivial, trivial, w_case⟩
end start1
theorem witness_1 : WitnessClaimed_1 := ⟨start1.p0, start1.e0, start1.about1, start1.theMethod, start1.args0, start1.below0, start1.atStart⟩
end Jvm.Pilot.@@N@@

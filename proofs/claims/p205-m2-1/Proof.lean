import JvmDerived
import JvmDerived.Pilot.@@N@@Statement
import JvmDerived.Pilot.@@N@@Code
set_option linter.unusedVariables false
set_option linter.unusedSimpArgs false
namespace Jvm.Pilot.@@N@@
open Jvm Jvm.ClassFile Sem Op Lib Jvm.Free Jvm.Stand Jvm.LawKit Jvm.RoadKit Bundle Jvm.Pilot.@@N@@.Jvm.D
abbrev Gets (p : Program) (e : Env) (below : List Frame) (S0 S : State) : Prop := ∀ t, Steps p.tables e below S t → Steps p.tables e below S0 t
section Own
variable {p : Program} {e : Env} {below : List Frame} {S0 T : State} {m : MethodId} {c : Code} {pc q : Nat} {Ls : Array Slot} {st : List Value}
theorem own_iand {x y v : Int32} (G : Gets p e below S0 (T.setTop (mkF m pc Ls (.int y :: .int x :: st)))) (h : At T m c below) (hx : p.tables.exec = Jvm.exec) (hd : decode c.code pc = .ok (.iand, 1)) (hv : x &&& y = v) (hq : pc + 1 = q) : Gets p e below S0 (T.setTop (mkF m q Ls (.int v :: st))) := by
  subst hv hq; exact fun t k => G t (XS.iand h hx rfl hd rfl k)
theorem own_irem {x y v : Int32} (G : Gets p e below S0 (T.setTop (mkF m pc Ls (.int y :: .int x :: st)))) (h : At T m c below) (hx : p.tables.exec = Jvm.exec) (hd : decode c.code pc = .ok (.irem, 1)) (hy : y ≠ 0) (hv : x % y = v) (hq : pc + 1 = q) : Gets p e below S0 (T.setTop (mkF m q Ls (.int v :: st))) := by
  subst hv hq; exact fun t k => G t (XS.irem h hx rfl hd rfl hy (by rw [Jvm.irem_eq_mod]; exact k))
theorem own_iconst {i : Int} {v : Int32} (G : Gets p e below S0 (T.setTop (mkF m pc Ls st))) (h : At T m c below) (hx : p.tables.exec = Jvm.exec) (hd : decode c.code pc = .ok (.iconst i, 1)) (hv : Int32.ofInt i = v) (hq : pc + 1 = q) : Gets p e below S0 (T.setTop (mkF m q Ls (.int v :: st))) := by
  subst hv hq; exact fun t k => G t (XS.iconst h hx rfl hd k)
theorem own_iloadN {i : Fin 4} {v : Int32} (G : Gets p e below S0 (T.setTop (mkF m pc Ls st))) (h : At T m c below) (hx : p.tables.exec = Jvm.exec) (hd : decode c.code pc = .ok (.iload_n i, 1)) (hl : Ls[i.val]? = some (.val (.int v))) (hq : pc + 1 = q) : Gets p e below S0 (T.setTop (mkF m q Ls (.int v :: st))) := by
  subst hq; exact fun t k => G t (XS.iloadN h hx rfl hd hl k)
theorem own_aloadN {i : Fin 4} {v : Value} (G : Gets p e below S0 (T.setTop (mkF m pc Ls st))) (h : At T m c below) (hx : p.tables.exec = Jvm.exec) (hd : decode c.code pc = .ok (.aload_n i, 1)) (hl : Ls[i.val]? = some (.val v)) (hv : v.isRef = true) (hq : pc + 1 = q) : Gets p e below S0 (T.setTop (mkF m q Ls (v :: st))) := by
  subst hq; exact fun t k => G t (XS.aloadN h hx rfl hd hl hv k)
theorem own_istoreN {i : Fin 4} {v : Int32} {l' : Array Slot} (G : Gets p e below S0 (T.setTop (mkF m pc Ls (.int v :: st)))) (h : At T m c below) (hx : p.tables.exec = Jvm.exec) (hd : decode c.code pc = .ok (.istore_n i, 1)) (hl : storeLocals Ls i.val (.int v) = some l') (hq : pc + 1 = q) : Gets p e below S0 (T.setTop (mkF m q l' st)) := by
  subst hq; exact fun t k => G t (XS.istoreN h hx rfl hd rfl hl k)
theorem own_astoreN {i : Fin 4} {v : Value} {l' : Array Slot} (G : Gets p e below S0 (T.setTop (mkF m pc Ls (v :: st)))) (h : At T m c below) (hx : p.tables.exec = Jvm.exec) (hd : decode c.code pc = .ok (.astore_n i, 1)) (hv : v.isRef = true) (hl : storeLocals Ls i.val v = some l') (hq : pc + 1 = q) : Gets p e below S0 (T.setTop (mkF m q l' st)) := by
  subst hq; exact fun t k => G t (XS.astoreN h hx rfl hd rfl hv hl k)
theorem own_goto {o : Int} (G : Gets p e below S0 (T.setTop (mkF m pc Ls st))) (h : At T m c below) (hx : p.tables.exec = Jvm.exec) (hd : decode c.code pc = .ok (.goto o, 3))  (ho : 0 ≤ (pc : Int) + o) (hp : ((pc : Int) + o).toNat = q) : Gets p e below S0 (T.setTop (mkF m q Ls st)) := by
  exact fun t k => G t (XS.goto h hx rfl rfl hd ho hp k)
theorem own_ifYes {cd : ClassFile.Cond} {o : Int} {x : Int32} (G : Gets p e below S0 (T.setTop (mkF m pc Ls (.int x :: st)))) (h : At T m c below) (hx : p.tables.exec = Jvm.exec) (hd : decode c.code pc = .ok (.ifCond cd o, 3)) (hc : ifCond.holds cd x = true) (ho : 0 ≤ (pc : Int) + o) (hp : ((pc : Int) + o).toNat = q) : Gets p e below S0 (T.setTop (mkF m q Ls st)) := by
  exact fun t k => G t (XS.ifYes h hx rfl rfl hd rfl hc ho hp k)
theorem own_ifNo {cd : ClassFile.Cond} {o : Int} {x : Int32} (G : Gets p e below S0 (T.setTop (mkF m pc Ls (.int x :: st)))) (h : At T m c below) (hx : p.tables.exec = Jvm.exec) (hd : decode c.code pc = .ok (.ifCond cd o, 3)) (hc : ifCond.holds cd x = false) (hq : pc + 3 = q) : Gets p e below S0 (T.setTop (mkF m q Ls st)) := by
  subst hq; exact fun t k => G t (XS.ifNo h hx rfl hd rfl hc k)
theorem own_icmpYes {cd : ClassFile.Cond} {o : Int} {x y : Int32} (G : Gets p e below S0 (T.setTop (mkF m pc Ls (.int y :: .int x :: st)))) (h : At T m c below) (hx : p.tables.exec = Jvm.exec) (hd : decode c.code pc = .ok (.if_icmp cd o, 3)) (hc : if_icmp.holds cd x y = true) (ho : 0 ≤ (pc : Int) + o) (hp : ((pc : Int) + o).toNat = q) : Gets p e below S0 (T.setTop (mkF m q Ls st)) := by
  exact fun t k => G t (XS.icmpYes h hx rfl rfl hd rfl hc ho hp k)
theorem own_icmpNo {cd : ClassFile.Cond} {o : Int} {x y : Int32} (G : Gets p e below S0 (T.setTop (mkF m pc Ls (.int y :: .int x :: st)))) (h : At T m c below) (hx : p.tables.exec = Jvm.exec) (hd : decode c.code pc = .ok (.if_icmp cd o, 3)) (hc : if_icmp.holds cd x y = false) (hq : pc + 3 = q) : Gets p e below S0 (T.setTop (mkF m q Ls st)) := by
  subst hq; exact fun t k => G t (XS.icmpNo h hx rfl hd rfl hc k)
end Own
theorem own_ord {args : Array Value} {s : State} {t : Term} {a : Addr} {C n d : String} {k : Int32} (ht : t.eval args s none [] s = some (.ref a)) (h : (Jvm.Cond.eq (.field t C n d) (.int k)).value args s none s [] = some true) : s.fieldOf? a C n d = some (.int k) := by
  have e := fld_at (C := C) (n := n) (dd := d) ht
  have e2 : (Term.int k).eval args s none [] s = some (.int k) := Term.int_eval k
  cases hf : s.fieldOf? a C n d with
  | none => rw [hf] at e; simp [Cond.value, e] at h
  | some v =>
    rw [hf] at e
    cases v <;> simp [Cond.value, e, e2] at h
    subst h; rfl
theorem own_lt32 {x y : Int32} : x < y ↔ x.toInt < y.toInt := Int32.lt_iff_toInt_lt
theorem own_rem {i u : Int32} (d : Int32) (k : Int) (hk : d.toInt = k) (h0 : 0 < k) (h : (u &&& 2147483647) % d = i) : 0 ≤ i.toInt ∧ i.toInt < k := by
  have a1 := c_mask u 2147483647 31 (by decide) (by decide)
  have a2 := (c_irem (u &&& 2147483647) d k hk).1 (by omega)
  rw [h] at a2
  have m2 := Int.emod_nonneg (u &&& 2147483647).toInt (show k ≠ 0 by omega)
  have m3 := Int.emod_lt_of_pos (u &&& 2147483647).toInt h0
  omega
theorem own_num {i : Int32} (k : Int32) (h : i.toInt = k.toInt) : i = k := Int32.toInt_inj.mp h
theorem own_cases5 {i : Int32} (h : 0 ≤ i.toInt ∧ i.toInt < 5) : i = 0 ∨ i = 1 ∨ i = 2 ∨ i = 3 ∨ i = 4 := by
  have e0 : (0 : Int32).toInt = 0 := rfl
  have e1 : (1 : Int32).toInt = 1 := rfl
  have e2 : (2 : Int32).toInt = 2 := rfl
  have e3 : (3 : Int32).toInt = 3 := rfl
  have e4 : (4 : Int32).toInt = 4 := rfl
  have q : i.toInt = 0 ∨ i.toInt = 1 ∨ i.toInt = 2 ∨ i.toInt = 3 ∨ i.toInt = 4 := by omega
  rcases q with q | q | q | q | q
  · exact Or.inl (own_num 0 q)
  · exact Or.inr (Or.inl (own_num 1 q))
  · exact Or.inr (Or.inr (Or.inl (own_num 2 q)))
  · exact Or.inr (Or.inr (Or.inr (Or.inl (own_num 3 q))))
  · exact Or.inr (Or.inr (Or.inr (Or.inr ((own_num 4 q)))))
def own_end (a b d : Addr) : Int32 := if a = b then 1 else if a = d then 1 else 0
theorem d1_0 : decode prog_32_method_4_code 0 = .ok (.aload_n 0, 1) := by decide +kernel
theorem d1_1 : decode prog_32_method_4_code 1 = .ok (.getstatic 13, 3) := by decide +kernel
theorem d1_4 : decode prog_32_method_4_code 4 = .ok (.if_acmp .eq 10, 3) := by decide +kernel
theorem d1_7 : decode prog_32_method_4_code 7 = .ok (.aload_n 0, 1) := by decide +kernel
theorem d1_8 : decode prog_32_method_4_code 8 = .ok (.getstatic 16, 3) := by decide +kernel
theorem d1_11 : decode prog_32_method_4_code 11 = .ok (.if_acmp .ne 7, 3) := by decide +kernel
theorem d1_14 : decode prog_32_method_4_code 14 = .ok (.iconst 1, 1) := by decide +kernel
theorem d1_15 : decode prog_32_method_4_code 15 = .ok (.goto 4, 3) := by decide +kernel
theorem d1_18 : decode prog_32_method_4_code 18 = .ok (.iconst 0, 1) := by decide +kernel
theorem d1_19 : decode prog_32_method_4_code 19 = .ok (.ireturn, 1) := by decide +kernel
theorem pn_com_example_cued_cued_JobState : plainName "com/example/cued/cued/JobState" = true := by first | (simp [plainName, overriddenIn]; done) | decide +kernel
theorem ef_1 (m : MethodId) (x0 : Addr) : entryFrame m #[(.ref x0)] 1 = mkF m 0 #[.val (.ref x0)] [] := by first | (simp [entryFrame, mkF, argsToLocals, Value.category]; done) | rfl
def Q1 (Z : State) (a : Addr) (b : Addr) (d : Addr) (h0 : Heap) (n0 : Nat) (v : Option Value) (h : Heap) (L : List Loc) : Prop := v = some (.int (own_end a b d)) ∧ Fr n0 L ∧ h = h0
set_option maxRecDepth 65536 in
set_option maxHeartbeats 40000000 in
theorem rm1 (l : Launch) (Z : State) (a0 : Array Value) (hw : ∀ d ∈ tables_1, d.before a0 Z = true) (ws : List Jvm.Cond) (a : Addr) (b : Addr) (d : Addr) (h0 : Heap) (n0 : Nat) (Z0 : n0 ≤ h0.size) (P0 : Sta Z h0 "com/example/cued/cued/JobState" "ABORTED" "Lcom/example/cued/cued/JobState;" (.ref b)) (P1 : Sta Z h0 "com/example/cued/cued/JobState" "FINISHED" "Lcom/example/cued/cued/JobState;" (.ref d)) :
    MetFree l (⟨"com/example/cued/cued/JobState", "ended", "()Z"⟩ : MethodName) (head1 (Jvm.Cond.code (⟨"com/example/cued/cued/JobState", "ended", "()Z"⟩ : MethodName) prog_32_method_4_code 1 (some .boolean) :: ws) ({ frames := 0, cells := 0, slots := 0, locals := 0 } : Room)) (fun zz U => zz = #[(.ref a)] ∧ Z.Warmed39 U.vm ∧ U.heap = h0) (fun _ _ _ _ _ => True) (fun _ U o U' => ∃ v L, o = .returned v ∧ Q1 Z a b d h0 n0 v U'.heap L ∧ FrameEnd U o U' L ({ frames := 0, cells := 0, slots := 0, locals := 0 } : Room).cells ({ frames := 0, cells := 0, slots := 0, locals := 0 } : Room).slots) := by
  refine MetFree.of_bodySF (plainFor_of_name pn_com_example_cued_cued_JobState) hisR ?_
  intro p e s m args below meth c s₁ Bd hml0 hP hK
  obtain ⟨rfl, hZ, hh⟩ := hP
  have hx := Bd.exec
  have hby := Bd.bytes
  have hml : c.maxLocals = 1 := hml0
  have hown : s.vm.findClass "com/example/cued/cued/JobState" = some m.cls := findClass_of_methodNamed Bd.named
  have hnm := (name_of_methodNamed Bd.named Bd.method).1
  have X0 : Stand p l e ({ frames := 0, cells := 0, slots := 0, locals := 0 } : Room) s m #[(.ref a)] below meth c s₁ [] 0 0 := Stand.of_body Bd
  have e0 : s₁.heap = h0 := by rw [← hh, Bd.state]; rfl
  have N0 := Fr.nil n0
  have G : Gets p e below (s₁.setTop (entryFrame m #[(.ref a)] 1)) (s₁.setTop (mkF m 0 #[.val (.ref a)] [])) := fun t k => castTop (ef_1 m a) k
  replace G := own_aloadN (q := 1) G X0.here hx (hb hby d1_0) rfl rfl rfl
  obtain ⟨T1, X1, e1, st1⟩ := getS2 X0 hx hZ hown (host := "") (Or.inl (hw _ (List.mem_of_getElem? (i := 9) rfl))) Via.refl e0 P0 (g := (mkF m 1 #[.val (.ref a)] [(.ref a)])) rfl (hb hby d1_1)
  replace G : Gets p e below _ (T1.setTop (mkF m 4 #[.val (.ref a)] [(.ref b), (.ref a)])) := fun t k => G t (st1 t k)
  by_cases ha4_2 : a = b
  · replace G : Gets p e below _ (T1.setTop (mkF m 14 #[.val (.ref a)] [])) := fun t k => G t (Jvm.RoadKit.acmp (g := (mkF m 4 #[.val (.ref a)] [(.ref b), (.ref a)])) X1 hx rfl rfl rfl (pc0 := 4) (pc' := 14) (same := true) rfl (hb hby d1_4) rfl (decide_eq_true (congrArg Value.ref ha4_2)) (by decide) (by decide) k)
    replace G := own_iconst (q := 15) G X1.here hx (hb hby d1_14) (v := (1 : Int32)) (by decide) rfl
    replace G := own_goto (q := 19) G X1.here hx (hb hby d1_15) (by decide) (by decide)
    obtain ⟨fs, hr, hrun, hended, hW, hsame⟩ := X1.leave (v := some (.int (1 : Int32))) (fun h => by rw [Bd.returns] at h; cases h)
    refine ⟨_, _, G _ (retOut X1 hx Bd.returns rfl (Or.inl ⟨rfl, Or.inr (Or.inl rfl), _, rfl⟩) (hb hby d1_19) hr), hrun, hended, _, _, rfl, ?_, ⟨_, rfl⟩, hW, hsame.mono (by decide) (by decide)⟩
    show Q1 Z a b d h0 n0 _ T1.heap _
    rw [e1]
    exact ⟨(congrArg (fun z => some (Value.int z)) (by simp [own_end, ha4_2])), N0, rfl⟩
  · replace G : Gets p e below _ (T1.setTop (mkF m 7 #[.val (.ref a)] [])) := fun t k => G t (Jvm.RoadKit.acmp (g := (mkF m 4 #[.val (.ref a)] [(.ref b), (.ref a)])) X1 hx rfl rfl rfl (pc0 := 4) (pc' := 7) (same := false) rfl (hb hby d1_4) rfl (decide_eq_false fun q => ha4_2 (Value.ref.inj q)) (by decide) (by decide) k)
    replace G := own_aloadN (q := 8) G X1.here hx (hb hby d1_7) rfl rfl rfl
    obtain ⟨T3, X3, e3, st3⟩ := getS2 X1 hx hZ hown (host := "") (Or.inl (hw _ (List.mem_of_getElem? (i := 11) rfl))) Via.refl e1 P1 (g := (mkF m 8 #[.val (.ref a)] [(.ref a)])) rfl (hb hby d1_8)
    replace G : Gets p e below _ (T3.setTop (mkF m 11 #[.val (.ref a)] [(.ref d), (.ref a)])) := fun t k => G t (st3 t k)
    by_cases ha11_4 : a = d
    · replace G : Gets p e below _ (T3.setTop (mkF m 14 #[.val (.ref a)] [])) := fun t k => G t (Jvm.RoadKit.acmp (g := (mkF m 11 #[.val (.ref a)] [(.ref d), (.ref a)])) X3 hx rfl rfl rfl (pc0 := 11) (pc' := 14) (same := true) rfl (hb hby d1_11) rfl (decide_eq_true (congrArg Value.ref ha11_4)) (by decide) (by decide) k)
      replace G := own_iconst (q := 15) G X3.here hx (hb hby d1_14) (v := (1 : Int32)) (by decide) rfl
      replace G := own_goto (q := 19) G X3.here hx (hb hby d1_15) (by decide) (by decide)
      obtain ⟨fs, hr, hrun, hended, hW, hsame⟩ := X3.leave (v := some (.int (1 : Int32))) (fun h => by rw [Bd.returns] at h; cases h)
      refine ⟨_, _, G _ (retOut X3 hx Bd.returns rfl (Or.inl ⟨rfl, Or.inr (Or.inl rfl), _, rfl⟩) (hb hby d1_19) hr), hrun, hended, _, _, rfl, ?_, ⟨_, rfl⟩, hW, hsame.mono (by decide) (by decide)⟩
      show Q1 Z a b d h0 n0 _ T3.heap _
      rw [e3]
      exact ⟨(congrArg (fun z => some (Value.int z)) (by simp [own_end, ha4_2, ha11_4])), N0, rfl⟩
    · replace G : Gets p e below _ (T3.setTop (mkF m 18 #[.val (.ref a)] [])) := fun t k => G t (Jvm.RoadKit.acmp (g := (mkF m 11 #[.val (.ref a)] [(.ref d), (.ref a)])) X3 hx rfl rfl rfl (pc0 := 11) (pc' := 18) (same := false) rfl (hb hby d1_11) rfl (decide_eq_false fun q => ha11_4 (Value.ref.inj q)) (by decide) (by decide) k)
      replace G := own_iconst (q := 19) G X3.here hx (hb hby d1_18) (v := (0 : Int32)) (by decide) rfl
      obtain ⟨fs, hr, hrun, hended, hW, hsame⟩ := X3.leave (v := some (.int (0 : Int32))) (fun h => by rw [Bd.returns] at h; cases h)
      refine ⟨_, _, G _ (retOut X3 hx Bd.returns rfl (Or.inl ⟨rfl, Or.inr (Or.inl rfl), _, rfl⟩) (hb hby d1_19) hr), hrun, hended, _, _, rfl, ?_, ⟨_, rfl⟩, hW, hsame.mono (by decide) (by decide)⟩
      show Q1 Z a b d h0 n0 _ T3.heap _
      rw [e3]
      exact ⟨(congrArg (fun z => some (Value.int z)) (by simp [own_end, ha4_2, ha11_4])), N0, rfl⟩
theorem pd_0 : parseMethodDescriptor "()Z" = some ⟨[], some .boolean⟩ := by decide +kernel
theorem pn_com_example_cued_cued_JobStateEndedPinLaw : plainName "com/example/cued/cued/JobStateEndedPinLaw" = true := by first | (simp [plainName, overriddenIn]; done) | decide +kernel
theorem ef_0 (m : MethodId) (x0 : Int32) : entryFrame m #[(.int x0)] maxLocals = mkF m 0 #[.val (.int x0), .unset, .unset, .unset] [] := by first | (simp [entryFrame, mkF, argsToLocals, Value.category, maxLocals]; done) | rfl
def Q0 (Z : State) (i0 : Int32) (aQ : Addr) (aR : Addr) (aB : Addr) (aA : Addr) (aF : Addr) (h0 : Heap) (n0 : Nat) (v : Option Value) (h : Heap) (L : List Loc) : Prop := v = some (.int (1 : Int32)) ∧ Fr n0 L
set_option maxRecDepth 65536 in
set_option maxHeartbeats 40000000 in
theorem rm0 (l : Launch) (Z : State) (a0 : Array Value) (hw : ∀ d ∈ tables_1, d.before a0 Z = true) (ws : List Jvm.Cond) (i0 : Int32) (aQ : Addr) (aR : Addr) (aB : Addr) (aA : Addr) (aF : Addr) (h0 : Heap) (n0 : Nat) (Z0 : n0 ≤ h0.size) (P0 : Sta Z h0 "com/example/cued/cued/JobState" "QUEUED" "Lcom/example/cued/cued/JobState;" (.ref aQ)) (P1 : Sta Z h0 "com/example/cued/cued/JobState" "RUNNING" "Lcom/example/cued/cued/JobState;" (.ref aR)) (P2 : Sta Z h0 "com/example/cued/cued/JobState" "ABORTING" "Lcom/example/cued/cued/JobState;" (.ref aB)) (P3 : Sta Z h0 "com/example/cued/cued/JobState" "ABORTED" "Lcom/example/cued/cued/JobState;" (.ref aA)) (P4 : Sta Z h0 "com/example/cued/cued/JobState" "FINISHED" "Lcom/example/cued/cued/JobState;" (.ref aF)) (P5 : Exa Z h0 aQ "com/example/cued/cued/JobState") (P6 : Exa Z h0 aR "com/example/cued/cued/JobState") (P7 : Exa Z h0 aB "com/example/cued/cued/JobState") (P8 : Exa Z h0 aA "com/example/cued/cued/JobState") (P9 : Exa Z h0 aF "com/example/cued/cued/JobState") (P10 : aQ ≠ aR) (P11 : aQ ≠ aB) (P12 : aQ ≠ aA) (P13 : aQ ≠ aF) (P14 : aR ≠ aB) (P15 : aR ≠ aA) (P16 : aR ≠ aF) (P17 : aB ≠ aA) (P18 : aB ≠ aF) (P19 : aA ≠ aF) :
    MetFree l x (head1 (Jvm.Cond.code x code maxLocals ret :: ws) room_1) (fun zz U => zz = #[(.int i0)] ∧ Z.Warmed39 U.vm ∧ U.heap = h0) (fun _ _ _ _ _ => True) (fun _ U o U' => ∃ v L, o = .returned v ∧ Q0 Z i0 aQ aR aB aA aF h0 n0 v U'.heap L ∧ FrameEnd U o U' L room_1.cells room_1.slots) := by
  refine MetFree.of_bodySF (plainFor_of_name pn_com_example_cued_cued_JobStateEndedPinLaw) hisR ?_
  intro p e s m args below meth c s₁ Bd hml0 hP hK
  obtain ⟨rfl, hZ, hh⟩ := hP
  have hx := Bd.exec
  have hby := Bd.bytes
  have hml : c.maxLocals = 4 := hml0
  have hown : s.vm.findClass "com/example/cued/cued/JobStateEndedPinLaw" = some m.cls := findClass_of_methodNamed Bd.named
  have hnm := (name_of_methodNamed Bd.named Bd.method).1
  have X0 : Stand p l e room_1 s m #[(.int i0)] below meth c s₁ [] 0 0 := Stand.of_body Bd
  have e0 : s₁.heap = h0 := by rw [← hh, Bd.state]; rfl
  have N0 := Fr.nil n0
  have G : Gets p e below (s₁.setTop (entryFrame m #[(.int i0)] maxLocals)) (s₁.setTop (mkF m 0 #[.val (.int i0), .unset, .unset, .unset] [])) := fun t k => castTop (ef_0 m i0) k
  replace G := own_iloadN (q := 1) G X0.here hx (hb hby at_0) rfl rfl
  replace G : Gets p e below _ (s₁.setTop (mkF m 3 #[.val (.int i0), .unset, .unset, .unset] [(.int (2147483647 : Int32)), (.int i0)])) := fun t k => G t (X0.ldcInt hx hown (mvT hZ (hw _ (List.mem_of_getElem? (i := 0) rfl))) (g := (mkF m 1 #[.val (.int i0), .unset, .unset, .unset] [(.int i0)])) rfl (hb hby at_1) t k)
  obtain ⟨u, hn_u⟩ : ∃ z : Int32, (i0 &&& (2147483647 : Int32)) = z := ⟨_, rfl⟩
  replace G := own_iand (q := 4) G X0.here hx (hb hby at_3) hn_u rfl
  replace G := own_iconst (q := 5) G X0.here hx (hb hby at_4) (v := (5 : Int32)) (by decide) rfl
  obtain ⟨i, hn_i⟩ : ∃ z : Int32, (u % (5 : Int32)) = z := ⟨_, rfl⟩
  replace G := own_irem (q := 6) G X0.here hx (hb hby at_5) (by decide) hn_i rfl
  replace G := own_istoreN (q := 7) (l' := #[.val (.int i0), .val (.int i), .unset, .unset]) G X0.here hx (hb hby at_6) rfl rfl
  rw [← hn_u] at hn_i
  rcases own_cases5 (own_rem 5 5 rfl (by decide) hn_i) with rfl | rfl | rfl | rfl | rfl
  · replace G := own_iloadN (q := 8) G X0.here hx (hb hby at_7) rfl rfl
    have hc8_1 : (0 : Int32) = (0 : Int32) := by decide
    replace G := own_ifNo (q := 11) G X0.here hx (hb hby at_8) ((if0 _ _).trans (teq hc8_1).2) rfl
    obtain ⟨T2, X2, e2, st2⟩ := getS2 X0 hx hZ hown (host := "") (Or.inl (hw _ (List.mem_of_getElem? (i := 1) rfl))) Via.refl e0 P0 (g := (mkF m 11 #[.val (.int i0), .val (.int (0 : Int32)), .unset, .unset] [])) rfl (hb hby at_11)
    replace G : Gets p e below _ (T2.setTop (mkF m 14 #[.val (.int i0), .val (.int (0 : Int32)), .unset, .unset] [(.ref aQ)])) := fun t k => G t (st2 t k)
    replace G := own_astoreN (q := 15) (l' := #[.val (.int i0), .val (.int (0 : Int32)), .val (.ref aQ), .unset]) G X2.here hx (hb hby at_14) rfl rfl rfl
    replace G := own_iconst (q := 16) G X2.here hx (hb hby at_15) (v := (0 : Int32)) (by decide) rfl
    replace G := own_istoreN (q := 17) (l' := #[.val (.int i0), .val (.int (0 : Int32)), .val (.ref aQ), .val (.int (0 : Int32))]) G X2.here hx (hb hby at_16) rfl rfl
    replace G := own_goto (q := 68) G X2.here hx (hb hby at_17) (by decide) (by decide)
    replace G := own_aloadN (q := 69) G X2.here hx (hb hby at_68) rfl rfl rfl
    obtain ⟨cq3, kq3, q3a, q3b, q3c⟩ := isOf hZ e2 P5
    obtain ⟨_, _, ⟨T3, L3, kk3, nn3⟩, -, X3, ⟨Lc3, hQ3, l3, y3, z3⟩, st3⟩ := X2.virtualBack hx (y := (⟨"com/example/cued/cued/JobState", "ended", "()Z"⟩ : MethodName)) (z := (⟨"com/example/cued/cued/JobState", "ended", "()Z"⟩ : MethodName)) hown (mvT hZ (hw _ (List.mem_of_getElem? (i := 4) rfl))) (mvT hZ (hw _ (List.mem_of_getElem? (i := 5) rfl))) (notFace_of_selects (args := #[]) (mvT hZ (hw _ (List.mem_of_getElem? (i := 7) rfl)))) (mvT hZ (hw _ (List.mem_of_getElem? (i := 7) rfl))) (mvT hZ (hw _ (List.mem_of_getElem? (i := 6) rfl))) (by decide) (backOf (W := 0) (rm1 l Z a0 hw [] aQ aA aF h0 n0 Z0 P3 P4) hZ (hw _ (List.mem_of_getElem? (i := 8) rfl)) (hw _ (List.mem_of_getElem? (i := 2) rfl)) (by decide) (by decide)) q3a q3c (g := (mkF m 69 #[.val (.int i0), .val (.int (0 : Int32)), .val (.ref aQ), .val (.int (0 : Int32))] [(.ref aQ)])) rfl (by rw [hml]; rfl) (Steps.refl _) (argsL := []) (rest := []) (lenOf pd_0 rfl) rfl (by show 2 * 0 + _ ≤ _; exact Nat.le_of_eq rfl) (hb hby at_69) (fun _ _ => ⟨rfl, e2, (by decide : 0 + 0 ≤ _), (by decide : 0 + 0 ≤ _)⟩)
    dsimp only [Pt.U, Pt.locs, Pt.cells, Pt.slots] at X3 l3 y3 z3 st3 hQ3
    subst l3 y3 z3
    obtain ⟨rfl, N3q, e3⟩ := hQ3
    have N3 := Fr.app N0 N3q
    replace G : Gets p e below _ (T3.setTop (mkF m 72 #[.val (.int i0), .val (.int (0 : Int32)), .val (.ref aQ), .val (.int (0 : Int32))] [(.int (own_end aQ aA aF))])) := fun t k => G t (st3.trans k)
    replace G := own_iloadN (q := 73) G X3.here hx (hb hby at_72) rfl rfl
    have hc73_4 : (own_end aQ aA aF) = (0 : Int32) := by simp [own_end, P12, P13]
    replace G := own_icmpNo (q := 76) G X3.here hx (hb hby at_73) (teq hc73_4).2 rfl
    replace G := own_iconst (q := 77) G X3.here hx (hb hby at_76) (v := (1 : Int32)) (by decide) rfl
    replace G := own_goto (q := 81) G X3.here hx (hb hby at_77) (by decide) (by decide)
    obtain ⟨fs, hr, hrun, hended, hW, hsame⟩ := X3.leave (v := some (.int (1 : Int32))) (fun h => by rw [Bd.returns] at h; cases h)
    refine ⟨_, _, G _ (retOut X3 hx Bd.returns rfl (Or.inl ⟨rfl, Or.inr (Or.inl rfl), _, rfl⟩) (hb hby at_81) hr), hrun, hended, _, _, rfl, ?_, ⟨_, rfl⟩, hW, hsame.mono (by decide) (by decide)⟩
    show Q0 Z i0 aQ aR aB aA aF h0 n0 _ T3.heap _
    rw [e3]
    exact ⟨rfl, N3⟩
  · replace G := own_iloadN (q := 8) G X0.here hx (hb hby at_7) rfl rfl
    have hc8_5 : ¬ ((1 : Int32) = (0 : Int32)) := by decide
    replace G := own_ifYes (q := 20) G X0.here hx (hb hby at_8) ((if0 _ _).trans (feq hc8_5).2) (by decide) (by decide)
    replace G := own_iloadN (q := 21) G X0.here hx (hb hby at_20) rfl rfl
    replace G := own_iconst (q := 22) G X0.here hx (hb hby at_21) (v := (1 : Int32)) (by decide) rfl
    have hc22_6 : (1 : Int32) = (1 : Int32) := by decide
    replace G := own_icmpNo (q := 25) G X0.here hx (hb hby at_22) (teq hc22_6).2 rfl
    obtain ⟨T7, X7, e7, st7⟩ := getS2 X0 hx hZ hown (host := "") (Or.inl (hw _ (List.mem_of_getElem? (i := 14) rfl))) Via.refl e0 P1 (g := (mkF m 25 #[.val (.int i0), .val (.int (1 : Int32)), .unset, .unset] [])) rfl (hb hby at_25)
    replace G : Gets p e below _ (T7.setTop (mkF m 28 #[.val (.int i0), .val (.int (1 : Int32)), .unset, .unset] [(.ref aR)])) := fun t k => G t (st7 t k)
    replace G := own_astoreN (q := 29) (l' := #[.val (.int i0), .val (.int (1 : Int32)), .val (.ref aR), .unset]) G X7.here hx (hb hby at_28) rfl rfl rfl
    replace G := own_iconst (q := 30) G X7.here hx (hb hby at_29) (v := (0 : Int32)) (by decide) rfl
    replace G := own_istoreN (q := 31) (l' := #[.val (.int i0), .val (.int (1 : Int32)), .val (.ref aR), .val (.int (0 : Int32))]) G X7.here hx (hb hby at_30) rfl rfl
    replace G := own_goto (q := 68) G X7.here hx (hb hby at_31) (by decide) (by decide)
    replace G := own_aloadN (q := 69) G X7.here hx (hb hby at_68) rfl rfl rfl
    obtain ⟨cq8, kq8, q8a, q8b, q8c⟩ := isOf hZ e7 P6
    obtain ⟨_, _, ⟨T8, L8, kk8, nn8⟩, -, X8, ⟨Lc8, hQ8, l8, y8, z8⟩, st8⟩ := X7.virtualBack hx (y := (⟨"com/example/cued/cued/JobState", "ended", "()Z"⟩ : MethodName)) (z := (⟨"com/example/cued/cued/JobState", "ended", "()Z"⟩ : MethodName)) hown (mvT hZ (hw _ (List.mem_of_getElem? (i := 4) rfl))) (mvT hZ (hw _ (List.mem_of_getElem? (i := 5) rfl))) (notFace_of_selects (args := #[]) (mvT hZ (hw _ (List.mem_of_getElem? (i := 7) rfl)))) (mvT hZ (hw _ (List.mem_of_getElem? (i := 7) rfl))) (mvT hZ (hw _ (List.mem_of_getElem? (i := 6) rfl))) (by decide) (backOf (W := 0) (rm1 l Z a0 hw [] aR aA aF h0 n0 Z0 P3 P4) hZ (hw _ (List.mem_of_getElem? (i := 8) rfl)) (hw _ (List.mem_of_getElem? (i := 2) rfl)) (by decide) (by decide)) q8a q8c (g := (mkF m 69 #[.val (.int i0), .val (.int (1 : Int32)), .val (.ref aR), .val (.int (0 : Int32))] [(.ref aR)])) rfl (by rw [hml]; rfl) (Steps.refl _) (argsL := []) (rest := []) (lenOf pd_0 rfl) rfl (by show 2 * 0 + _ ≤ _; exact Nat.le_of_eq rfl) (hb hby at_69) (fun _ _ => ⟨rfl, e7, (by decide : 0 + 0 ≤ _), (by decide : 0 + 0 ≤ _)⟩)
    dsimp only [Pt.U, Pt.locs, Pt.cells, Pt.slots] at X8 l8 y8 z8 st8 hQ8
    subst l8 y8 z8
    obtain ⟨rfl, N8q, e8⟩ := hQ8
    have N8 := Fr.app N0 N8q
    replace G : Gets p e below _ (T8.setTop (mkF m 72 #[.val (.int i0), .val (.int (1 : Int32)), .val (.ref aR), .val (.int (0 : Int32))] [(.int (own_end aR aA aF))])) := fun t k => G t (st8.trans k)
    replace G := own_iloadN (q := 73) G X8.here hx (hb hby at_72) rfl rfl
    have hc73_9 : (own_end aR aA aF) = (0 : Int32) := by simp [own_end, P15, P16]
    replace G := own_icmpNo (q := 76) G X8.here hx (hb hby at_73) (teq hc73_9).2 rfl
    replace G := own_iconst (q := 77) G X8.here hx (hb hby at_76) (v := (1 : Int32)) (by decide) rfl
    replace G := own_goto (q := 81) G X8.here hx (hb hby at_77) (by decide) (by decide)
    obtain ⟨fs, hr, hrun, hended, hW, hsame⟩ := X8.leave (v := some (.int (1 : Int32))) (fun h => by rw [Bd.returns] at h; cases h)
    refine ⟨_, _, G _ (retOut X8 hx Bd.returns rfl (Or.inl ⟨rfl, Or.inr (Or.inl rfl), _, rfl⟩) (hb hby at_81) hr), hrun, hended, _, _, rfl, ?_, ⟨_, rfl⟩, hW, hsame.mono (by decide) (by decide)⟩
    show Q0 Z i0 aQ aR aB aA aF h0 n0 _ T8.heap _
    rw [e8]
    exact ⟨rfl, N8⟩
  · replace G := own_iloadN (q := 8) G X0.here hx (hb hby at_7) rfl rfl
    have hc8_10 : ¬ ((2 : Int32) = (0 : Int32)) := by decide
    replace G := own_ifYes (q := 20) G X0.here hx (hb hby at_8) ((if0 _ _).trans (feq hc8_10).2) (by decide) (by decide)
    replace G := own_iloadN (q := 21) G X0.here hx (hb hby at_20) rfl rfl
    replace G := own_iconst (q := 22) G X0.here hx (hb hby at_21) (v := (1 : Int32)) (by decide) rfl
    have hc22_11 : ¬ ((2 : Int32) = (1 : Int32)) := by decide
    replace G := own_icmpYes (q := 34) G X0.here hx (hb hby at_22) (feq hc22_11).2 (by decide) (by decide)
    replace G := own_iloadN (q := 35) G X0.here hx (hb hby at_34) rfl rfl
    replace G := own_iconst (q := 36) G X0.here hx (hb hby at_35) (v := (2 : Int32)) (by decide) rfl
    have hc36_12 : (2 : Int32) = (2 : Int32) := by decide
    replace G := own_icmpNo (q := 39) G X0.here hx (hb hby at_36) (teq hc36_12).2 rfl
    obtain ⟨T13, X13, e13, st13⟩ := getS2 X0 hx hZ hown (host := "") (Or.inl (hw _ (List.mem_of_getElem? (i := 17) rfl))) Via.refl e0 P2 (g := (mkF m 39 #[.val (.int i0), .val (.int (2 : Int32)), .unset, .unset] [])) rfl (hb hby at_39)
    replace G : Gets p e below _ (T13.setTop (mkF m 42 #[.val (.int i0), .val (.int (2 : Int32)), .unset, .unset] [(.ref aB)])) := fun t k => G t (st13 t k)
    replace G := own_astoreN (q := 43) (l' := #[.val (.int i0), .val (.int (2 : Int32)), .val (.ref aB), .unset]) G X13.here hx (hb hby at_42) rfl rfl rfl
    replace G := own_iconst (q := 44) G X13.here hx (hb hby at_43) (v := (0 : Int32)) (by decide) rfl
    replace G := own_istoreN (q := 45) (l' := #[.val (.int i0), .val (.int (2 : Int32)), .val (.ref aB), .val (.int (0 : Int32))]) G X13.here hx (hb hby at_44) rfl rfl
    replace G := own_goto (q := 68) G X13.here hx (hb hby at_45) (by decide) (by decide)
    replace G := own_aloadN (q := 69) G X13.here hx (hb hby at_68) rfl rfl rfl
    obtain ⟨cq14, kq14, q14a, q14b, q14c⟩ := isOf hZ e13 P7
    obtain ⟨_, _, ⟨T14, L14, kk14, nn14⟩, -, X14, ⟨Lc14, hQ14, l14, y14, z14⟩, st14⟩ := X13.virtualBack hx (y := (⟨"com/example/cued/cued/JobState", "ended", "()Z"⟩ : MethodName)) (z := (⟨"com/example/cued/cued/JobState", "ended", "()Z"⟩ : MethodName)) hown (mvT hZ (hw _ (List.mem_of_getElem? (i := 4) rfl))) (mvT hZ (hw _ (List.mem_of_getElem? (i := 5) rfl))) (notFace_of_selects (args := #[]) (mvT hZ (hw _ (List.mem_of_getElem? (i := 7) rfl)))) (mvT hZ (hw _ (List.mem_of_getElem? (i := 7) rfl))) (mvT hZ (hw _ (List.mem_of_getElem? (i := 6) rfl))) (by decide) (backOf (W := 0) (rm1 l Z a0 hw [] aB aA aF h0 n0 Z0 P3 P4) hZ (hw _ (List.mem_of_getElem? (i := 8) rfl)) (hw _ (List.mem_of_getElem? (i := 2) rfl)) (by decide) (by decide)) q14a q14c (g := (mkF m 69 #[.val (.int i0), .val (.int (2 : Int32)), .val (.ref aB), .val (.int (0 : Int32))] [(.ref aB)])) rfl (by rw [hml]; rfl) (Steps.refl _) (argsL := []) (rest := []) (lenOf pd_0 rfl) rfl (by show 2 * 0 + _ ≤ _; exact Nat.le_of_eq rfl) (hb hby at_69) (fun _ _ => ⟨rfl, e13, (by decide : 0 + 0 ≤ _), (by decide : 0 + 0 ≤ _)⟩)
    dsimp only [Pt.U, Pt.locs, Pt.cells, Pt.slots] at X14 l14 y14 z14 st14 hQ14
    subst l14 y14 z14
    obtain ⟨rfl, N14q, e14⟩ := hQ14
    have N14 := Fr.app N0 N14q
    replace G : Gets p e below _ (T14.setTop (mkF m 72 #[.val (.int i0), .val (.int (2 : Int32)), .val (.ref aB), .val (.int (0 : Int32))] [(.int (own_end aB aA aF))])) := fun t k => G t (st14.trans k)
    replace G := own_iloadN (q := 73) G X14.here hx (hb hby at_72) rfl rfl
    have hc73_15 : (own_end aB aA aF) = (0 : Int32) := by simp [own_end, P17, P18]
    replace G := own_icmpNo (q := 76) G X14.here hx (hb hby at_73) (teq hc73_15).2 rfl
    replace G := own_iconst (q := 77) G X14.here hx (hb hby at_76) (v := (1 : Int32)) (by decide) rfl
    replace G := own_goto (q := 81) G X14.here hx (hb hby at_77) (by decide) (by decide)
    obtain ⟨fs, hr, hrun, hended, hW, hsame⟩ := X14.leave (v := some (.int (1 : Int32))) (fun h => by rw [Bd.returns] at h; cases h)
    refine ⟨_, _, G _ (retOut X14 hx Bd.returns rfl (Or.inl ⟨rfl, Or.inr (Or.inl rfl), _, rfl⟩) (hb hby at_81) hr), hrun, hended, _, _, rfl, ?_, ⟨_, rfl⟩, hW, hsame.mono (by decide) (by decide)⟩
    show Q0 Z i0 aQ aR aB aA aF h0 n0 _ T14.heap _
    rw [e14]
    exact ⟨rfl, N14⟩
  · replace G := own_iloadN (q := 8) G X0.here hx (hb hby at_7) rfl rfl
    have hc8_16 : ¬ ((3 : Int32) = (0 : Int32)) := by decide
    replace G := own_ifYes (q := 20) G X0.here hx (hb hby at_8) ((if0 _ _).trans (feq hc8_16).2) (by decide) (by decide)
    replace G := own_iloadN (q := 21) G X0.here hx (hb hby at_20) rfl rfl
    replace G := own_iconst (q := 22) G X0.here hx (hb hby at_21) (v := (1 : Int32)) (by decide) rfl
    have hc22_17 : ¬ ((3 : Int32) = (1 : Int32)) := by decide
    replace G := own_icmpYes (q := 34) G X0.here hx (hb hby at_22) (feq hc22_17).2 (by decide) (by decide)
    replace G := own_iloadN (q := 35) G X0.here hx (hb hby at_34) rfl rfl
    replace G := own_iconst (q := 36) G X0.here hx (hb hby at_35) (v := (2 : Int32)) (by decide) rfl
    have hc36_18 : ¬ ((3 : Int32) = (2 : Int32)) := by decide
    replace G := own_icmpYes (q := 48) G X0.here hx (hb hby at_36) (feq hc36_18).2 (by decide) (by decide)
    replace G := own_iloadN (q := 49) G X0.here hx (hb hby at_48) rfl rfl
    replace G := own_iconst (q := 50) G X0.here hx (hb hby at_49) (v := (3 : Int32)) (by decide) rfl
    have hc50_19 : (3 : Int32) = (3 : Int32) := by decide
    replace G := own_icmpNo (q := 53) G X0.here hx (hb hby at_50) (teq hc50_19).2 rfl
    obtain ⟨T20, X20, e20, st20⟩ := getS2 X0 hx hZ hown (host := "") (Or.inl (hw _ (List.mem_of_getElem? (i := 13) rfl))) Via.refl e0 P3 (g := (mkF m 53 #[.val (.int i0), .val (.int (3 : Int32)), .unset, .unset] [])) rfl (hb hby at_53)
    replace G : Gets p e below _ (T20.setTop (mkF m 56 #[.val (.int i0), .val (.int (3 : Int32)), .unset, .unset] [(.ref aA)])) := fun t k => G t (st20 t k)
    replace G := own_astoreN (q := 57) (l' := #[.val (.int i0), .val (.int (3 : Int32)), .val (.ref aA), .unset]) G X20.here hx (hb hby at_56) rfl rfl rfl
    replace G := own_iconst (q := 58) G X20.here hx (hb hby at_57) (v := (1 : Int32)) (by decide) rfl
    replace G := own_istoreN (q := 59) (l' := #[.val (.int i0), .val (.int (3 : Int32)), .val (.ref aA), .val (.int (1 : Int32))]) G X20.here hx (hb hby at_58) rfl rfl
    replace G := own_goto (q := 68) G X20.here hx (hb hby at_59) (by decide) (by decide)
    replace G := own_aloadN (q := 69) G X20.here hx (hb hby at_68) rfl rfl rfl
    obtain ⟨cq21, kq21, q21a, q21b, q21c⟩ := isOf hZ e20 P8
    obtain ⟨_, _, ⟨T21, L21, kk21, nn21⟩, -, X21, ⟨Lc21, hQ21, l21, y21, z21⟩, st21⟩ := X20.virtualBack hx (y := (⟨"com/example/cued/cued/JobState", "ended", "()Z"⟩ : MethodName)) (z := (⟨"com/example/cued/cued/JobState", "ended", "()Z"⟩ : MethodName)) hown (mvT hZ (hw _ (List.mem_of_getElem? (i := 4) rfl))) (mvT hZ (hw _ (List.mem_of_getElem? (i := 5) rfl))) (notFace_of_selects (args := #[]) (mvT hZ (hw _ (List.mem_of_getElem? (i := 7) rfl)))) (mvT hZ (hw _ (List.mem_of_getElem? (i := 7) rfl))) (mvT hZ (hw _ (List.mem_of_getElem? (i := 6) rfl))) (by decide) (backOf (W := 0) (rm1 l Z a0 hw [] aA aA aF h0 n0 Z0 P3 P4) hZ (hw _ (List.mem_of_getElem? (i := 8) rfl)) (hw _ (List.mem_of_getElem? (i := 2) rfl)) (by decide) (by decide)) q21a q21c (g := (mkF m 69 #[.val (.int i0), .val (.int (3 : Int32)), .val (.ref aA), .val (.int (1 : Int32))] [(.ref aA)])) rfl (by rw [hml]; rfl) (Steps.refl _) (argsL := []) (rest := []) (lenOf pd_0 rfl) rfl (by show 2 * 0 + _ ≤ _; exact Nat.le_of_eq rfl) (hb hby at_69) (fun _ _ => ⟨rfl, e20, (by decide : 0 + 0 ≤ _), (by decide : 0 + 0 ≤ _)⟩)
    dsimp only [Pt.U, Pt.locs, Pt.cells, Pt.slots] at X21 l21 y21 z21 st21 hQ21
    subst l21 y21 z21
    obtain ⟨rfl, N21q, e21⟩ := hQ21
    have N21 := Fr.app N0 N21q
    replace G : Gets p e below _ (T21.setTop (mkF m 72 #[.val (.int i0), .val (.int (3 : Int32)), .val (.ref aA), .val (.int (1 : Int32))] [(.int (own_end aA aA aF))])) := fun t k => G t (st21.trans k)
    replace G := own_iloadN (q := 73) G X21.here hx (hb hby at_72) rfl rfl
    have hc73_22 : (own_end aA aA aF) = (1 : Int32) := by simp [own_end, P19]
    replace G := own_icmpNo (q := 76) G X21.here hx (hb hby at_73) (teq hc73_22).2 rfl
    replace G := own_iconst (q := 77) G X21.here hx (hb hby at_76) (v := (1 : Int32)) (by decide) rfl
    replace G := own_goto (q := 81) G X21.here hx (hb hby at_77) (by decide) (by decide)
    obtain ⟨fs, hr, hrun, hended, hW, hsame⟩ := X21.leave (v := some (.int (1 : Int32))) (fun h => by rw [Bd.returns] at h; cases h)
    refine ⟨_, _, G _ (retOut X21 hx Bd.returns rfl (Or.inl ⟨rfl, Or.inr (Or.inl rfl), _, rfl⟩) (hb hby at_81) hr), hrun, hended, _, _, rfl, ?_, ⟨_, rfl⟩, hW, hsame.mono (by decide) (by decide)⟩
    show Q0 Z i0 aQ aR aB aA aF h0 n0 _ T21.heap _
    rw [e21]
    exact ⟨rfl, N21⟩
  · replace G := own_iloadN (q := 8) G X0.here hx (hb hby at_7) rfl rfl
    have hc8_23 : ¬ ((4 : Int32) = (0 : Int32)) := by decide
    replace G := own_ifYes (q := 20) G X0.here hx (hb hby at_8) ((if0 _ _).trans (feq hc8_23).2) (by decide) (by decide)
    replace G := own_iloadN (q := 21) G X0.here hx (hb hby at_20) rfl rfl
    replace G := own_iconst (q := 22) G X0.here hx (hb hby at_21) (v := (1 : Int32)) (by decide) rfl
    have hc22_24 : ¬ ((4 : Int32) = (1 : Int32)) := by decide
    replace G := own_icmpYes (q := 34) G X0.here hx (hb hby at_22) (feq hc22_24).2 (by decide) (by decide)
    replace G := own_iloadN (q := 35) G X0.here hx (hb hby at_34) rfl rfl
    replace G := own_iconst (q := 36) G X0.here hx (hb hby at_35) (v := (2 : Int32)) (by decide) rfl
    have hc36_25 : ¬ ((4 : Int32) = (2 : Int32)) := by decide
    replace G := own_icmpYes (q := 48) G X0.here hx (hb hby at_36) (feq hc36_25).2 (by decide) (by decide)
    replace G := own_iloadN (q := 49) G X0.here hx (hb hby at_48) rfl rfl
    replace G := own_iconst (q := 50) G X0.here hx (hb hby at_49) (v := (3 : Int32)) (by decide) rfl
    have hc50_26 : ¬ ((4 : Int32) = (3 : Int32)) := by decide
    replace G := own_icmpYes (q := 62) G X0.here hx (hb hby at_50) (feq hc50_26).2 (by decide) (by decide)
    obtain ⟨T27, X27, e27, st27⟩ := getS2 X0 hx hZ hown (host := "") (Or.inl (hw _ (List.mem_of_getElem? (i := 16) rfl))) Via.refl e0 P4 (g := (mkF m 62 #[.val (.int i0), .val (.int (4 : Int32)), .unset, .unset] [])) rfl (hb hby at_62)
    replace G : Gets p e below _ (T27.setTop (mkF m 65 #[.val (.int i0), .val (.int (4 : Int32)), .unset, .unset] [(.ref aF)])) := fun t k => G t (st27 t k)
    replace G := own_astoreN (q := 66) (l' := #[.val (.int i0), .val (.int (4 : Int32)), .val (.ref aF), .unset]) G X27.here hx (hb hby at_65) rfl rfl rfl
    replace G := own_iconst (q := 67) G X27.here hx (hb hby at_66) (v := (1 : Int32)) (by decide) rfl
    replace G := own_istoreN (q := 68) (l' := #[.val (.int i0), .val (.int (4 : Int32)), .val (.ref aF), .val (.int (1 : Int32))]) G X27.here hx (hb hby at_67) rfl rfl
    replace G := own_aloadN (q := 69) G X27.here hx (hb hby at_68) rfl rfl rfl
    obtain ⟨cq28, kq28, q28a, q28b, q28c⟩ := isOf hZ e27 P9
    obtain ⟨_, _, ⟨T28, L28, kk28, nn28⟩, -, X28, ⟨Lc28, hQ28, l28, y28, z28⟩, st28⟩ := X27.virtualBack hx (y := (⟨"com/example/cued/cued/JobState", "ended", "()Z"⟩ : MethodName)) (z := (⟨"com/example/cued/cued/JobState", "ended", "()Z"⟩ : MethodName)) hown (mvT hZ (hw _ (List.mem_of_getElem? (i := 4) rfl))) (mvT hZ (hw _ (List.mem_of_getElem? (i := 5) rfl))) (notFace_of_selects (args := #[]) (mvT hZ (hw _ (List.mem_of_getElem? (i := 7) rfl)))) (mvT hZ (hw _ (List.mem_of_getElem? (i := 7) rfl))) (mvT hZ (hw _ (List.mem_of_getElem? (i := 6) rfl))) (by decide) (backOf (W := 0) (rm1 l Z a0 hw [] aF aA aF h0 n0 Z0 P3 P4) hZ (hw _ (List.mem_of_getElem? (i := 8) rfl)) (hw _ (List.mem_of_getElem? (i := 2) rfl)) (by decide) (by decide)) q28a q28c (g := (mkF m 69 #[.val (.int i0), .val (.int (4 : Int32)), .val (.ref aF), .val (.int (1 : Int32))] [(.ref aF)])) rfl (by rw [hml]; rfl) (Steps.refl _) (argsL := []) (rest := []) (lenOf pd_0 rfl) rfl (by show 2 * 0 + _ ≤ _; exact Nat.le_of_eq rfl) (hb hby at_69) (fun _ _ => ⟨rfl, e27, (by decide : 0 + 0 ≤ _), (by decide : 0 + 0 ≤ _)⟩)
    dsimp only [Pt.U, Pt.locs, Pt.cells, Pt.slots] at X28 l28 y28 z28 st28 hQ28
    subst l28 y28 z28
    obtain ⟨rfl, N28q, e28⟩ := hQ28
    have N28 := Fr.app N0 N28q
    replace G : Gets p e below _ (T28.setTop (mkF m 72 #[.val (.int i0), .val (.int (4 : Int32)), .val (.ref aF), .val (.int (1 : Int32))] [(.int (own_end aF aA aF))])) := fun t k => G t (st28.trans k)
    replace G := own_iloadN (q := 73) G X28.here hx (hb hby at_72) rfl rfl
    have hc73_29 : (own_end aF aA aF) = (1 : Int32) := by simp [own_end, (Ne.symm P19)]
    replace G := own_icmpNo (q := 76) G X28.here hx (hb hby at_73) (teq hc73_29).2 rfl
    replace G := own_iconst (q := 77) G X28.here hx (hb hby at_76) (v := (1 : Int32)) (by decide) rfl
    replace G := own_goto (q := 81) G X28.here hx (hb hby at_77) (by decide) (by decide)
    obtain ⟨fs, hr, hrun, hended, hW, hsame⟩ := X28.leave (v := some (.int (1 : Int32))) (fun h => by rw [Bd.returns] at h; cases h)
    refine ⟨_, _, G _ (retOut X28 hx Bd.returns rfl (Or.inl ⟨rfl, Or.inr (Or.inl rfl), _, rfl⟩) (hb hby at_81) hr), hrun, hended, _, _, rfl, ?_, ⟨_, rfl⟩, hW, hsame.mono (by decide) (by decide)⟩
    show Q0 Z i0 aQ aR aB aA aF h0 n0 _ T28.heap _
    rw [e28]
    exact ⟨rfl, N28⟩
set_option maxRecDepth 65536 in
set_option maxHeartbeats 40000000 in
theorem comes_1 {Post : Tables → Env → Array Value → State → Outcome → State → Prop} (hpost : ∀ tb e args s v u, (limb_1_1.after args s (.returned v) u = true ∧ limb_1_2.after args s (.returned v) u = true ∧ True) → FrameEnd s (.returned v) u (Jvm.fieldLocs frame_1_writes args s ++ Jvm.arrayLocs frame_1_arrays args s ++ Jvm.staticLocs frame_1_statics s) 0 0 → Post tb e args s (.returned v) u) :
    ArmFor flags0 classFile x code maxLocals ret World_1 tables_1 room_1 Calls_1 rest_1 Pre_1 Post := by
  intro l hfl _ _ p e ha hc hk s m args below hf hA hF happ hP
  obtain ⟨hcalls, hrest, hpre⟩ := hP
  obtain ⟨-, -, -, hnamed, -, -, -, hat⟩ := (Spec.applies_iff hf).mp happ
  obtain ⟨hg, hn⟩ := and_e (Cond.before_iff.mp (show (Jvm.Cond.and given_1 narrow_1).before args s = true from hpre))
  obtain ⟨g1, g2⟩ := and_e hg
  obtain ⟨w0, rfl⟩ : ∃ w0 : Value, args = #[w0] := by
    have hs : args.size = 1 := by simpa [Cond.value, given_1] using g1
    obtain ⟨L⟩ := args
    match L, hs with
    | [w0], _ => exact ⟨w0, rfl⟩
  have hw := fun d (hd : d ∈ tables_1) => atoms_spec (ws := Jvm.Cond.code x code maxLocals ret :: tables_1) hat d (List.mem_cons_of_mem _ hd)
  have hfit : Fit s := fun {y c} hc i hi => by
    obtain ⟨ha, rfl⟩ := Array.getElem?_eq_some_iff.mp hc
    have q := List.all_eq_true.mp ((Array.all_eq_true_iff_forall_mem.mp hF) _ (Array.getElem_mem ha)) i (List.mem_range.mpr hi)
    simpa [Array.getElem?_eq_getElem hi] using q
  obtain ⟨i0, ei0⟩ := is_v g2
  obtain rfl : w0 = (.int i0) := Option.some.inj ei0
  obtain ⟨nn1, nn2⟩ := and_e hn
  obtain ⟨nn3, nn4⟩ := and_e nn2
  obtain ⟨nn5, nn6⟩ := and_e nn4
  obtain ⟨nn7, nn8⟩ := and_e nn6
  obtain ⟨nn9, nn10⟩ := and_e nn8
  obtain ⟨nn11, nn12⟩ := and_e nn10
  obtain ⟨nn13, nn14⟩ := and_e nn12
  obtain ⟨nn15, nn16⟩ := and_e nn14
  obtain ⟨nn17, nn18⟩ := and_e nn16
  obtain ⟨aQ, ev_aQ⟩ := exa_v nn1
  have Ex_aQ := Exa.start ev_aQ nn1
  have St_aQ := Sta.start ev_aQ (Or.inr ⟨(hw _ (List.mem_of_getElem? (i := 2) rfl)), (hw _ (List.mem_of_getElem? (i := 3) rfl))⟩)
  have Od_aQ := Fld.start (own_ord ev_aQ nn5)
  obtain ⟨aA, ev_aA⟩ := exa_v nn3
  have Ex_aA := Exa.start ev_aA nn3
  have St_aA := Sta.start ev_aA (Or.inr ⟨(hw _ (List.mem_of_getElem? (i := 2) rfl)), (hw _ (List.mem_of_getElem? (i := 10) rfl))⟩)
  have Od_aA := Fld.start (own_ord ev_aA nn7)
  obtain ⟨aF, ev_aF⟩ := exa_v nn9
  have Ex_aF := Exa.start ev_aF nn9
  have St_aF := Sta.start ev_aF (Or.inr ⟨(hw _ (List.mem_of_getElem? (i := 2) rfl)), (hw _ (List.mem_of_getElem? (i := 12) rfl))⟩)
  have Od_aF := Fld.start (own_ord ev_aF nn11)
  obtain ⟨aR, ev_aR⟩ := exa_v nn13
  have Ex_aR := Exa.start ev_aR nn13
  have St_aR := Sta.start ev_aR (Or.inr ⟨(hw _ (List.mem_of_getElem? (i := 2) rfl)), (hw _ (List.mem_of_getElem? (i := 15) rfl))⟩)
  have Od_aR := Fld.start (own_ord ev_aR nn15)
  obtain ⟨aB, ev_aB⟩ := exa_v nn17
  have Ex_aB := Exa.start ev_aB nn17
  have St_aB := Sta.start ev_aB (Or.inr ⟨(hw _ (List.mem_of_getElem? (i := 2) rfl)), (hw _ (List.mem_of_getElem? (i := 18) rfl))⟩)
  have Od_aB := Fld.start (own_ord ev_aB nn18)
  obtain ⟨n, o, h1, h2, h3, _, L, rfl, ⟨rfl, N⟩, hq⟩ := rm0 l s _ hw tables_1 i0 aQ aR aB aA aF s.heap s.heap.size (Nat.le_refl _) St_aQ St_aR St_aB St_aA St_aF Ex_aQ Ex_aR Ex_aB Ex_aA Ex_aF (Fld.ne Od_aQ Od_aR (by decide)) (Fld.ne Od_aQ Od_aB (by decide)) (Fld.ne Od_aQ Od_aA (by decide)) (Fld.ne Od_aQ Od_aF (by decide)) (Fld.ne Od_aR Od_aB (by decide)) (Fld.ne Od_aR Od_aA (by decide)) (Fld.ne Od_aR Od_aF (by decide)) (Fld.ne Od_aB Od_aA (by decide)) (Fld.ne Od_aB Od_aF (by decide)) (Fld.ne Od_aA Od_aF (by decide)) p e ha hc hk s m _ below hf ((Spec.applies_iff_loose hf).mp happ).1 ⟨rfl, State.Warmed39.refl s, rfl⟩ trivial
  refine ⟨n, _, h1, h2, h3, hpost _ _ _ _ _ _ ⟨Cond.after_iff.mpr rfl, Cond.after_iff.mpr (eq_i res_at (Term.int_eval (1)) rfl), trivial⟩ ⟨hq.1, hq.2.1, (hq.2.2.sift fun y hy => Or.inr (N y hy)).mono (by decide) (by decide)⟩⟩
theorem main_1_1 : Claimed_1_1 := comes_1 fun _ _ _ _ _ _ h hF => ⟨h.1, hF⟩
theorem main_1_2 : Claimed_1_2 := comes_1 fun _ _ _ _ _ _ h hF => ⟨h.2.1, hF⟩
end Jvm.Pilot.@@N@@
namespace Jvm.Pilot.@@N@@
open Jvm Jvm.ClassFile Sem Op Lib Jvm.Free Jvm.Stand Jvm.Pilot.@@N@@.Jvm.D
/-! MADE BY PROGRAM (witnessworld.py) out of the Statement's table words and the real class files: 12 classes; the members and pool entries that the words name. The judged class is class 1, her method 1. -/
namespace start1
open Jvm.ClassFile
def u (s : String) : CpInfo := .utf8 (stringToUtf16 s)
/-- a pool by its gaps: so many unusable entries, then the entry; so many at the end -/
def gap : Nat → List CpInfo → List CpInfo
  | 0, r => r
  | n + 1, r => .unusable :: gap n r
def poolList (es : List (Nat × CpInfo)) (last : Nat) : List CpInfo := es.foldr (fun e r => gap e.1 (e.2 :: r)) (gap last [])
def pool (es : List (Nat × CpInfo)) (last : Nat) : Array CpInfo := ⟨poolList es last⟩
def fileOf (pool : Array CpInfo) (this : Nat) (attrs : Array Attribute := #[]) (ms : Array MethodInfo := #[]) (fl : Nat := 33) (sup : Nat := 0) (ifs : Array Nat := #[]) (fds : Array FieldInfo := #[]) : ClassFile where
  minorVersion := 0
  majorVersion := 65
  constantPool := pool
  accessFlags := fl
  thisClass := this
  superClass := sup
  interfaces := ifs
  fields := fds
  methods := ms
  attributes := attrs
def plain (name : String) (sup : Option ClassId) : Class where
  name := name
  kind := .ordinary
  loader := none
  accessFlags := 33
  super := sup
  interfaces := #[]
  cf := none
  fields := #[]
  methods := #[]
  instanceTypes := #[]
  staticTypes := #[]
  resolved := #[]
  callSites := []
  init := .initialized
  statics := none
  mirror := none

def pool0 : Array CpInfo := pool [(5, u "<init>"), (0, u "()V"), (1, .class_ 10), (1, u "java/lang/Object")] 113

def k0m0 : Method := { name := "<init>", desc := "()V", sig := { parameters := [], returnType := none }, accessFlags := 1, code := none }
/-- java/lang/Object -/
def k0 : Class := { plain "java/lang/Object" none with
  accessFlags := 33
  interfaces := #[]
  cf := some (fileOf pool0 8 #[] #[{ accessFlags := 1, nameIndex := 5, descriptorIndex := 6, attributes := #[] }] 33 0 #[] #[])
  fields := #[]
  methods := #[k0m0]
  instanceTypes := #[]
  staticTypes := #[]
  resolved := Array.replicate 124 none
  statics := none }

def pool1 : Array CpInfo := pool [(2, .class_ 4), (1, u "java/lang/Object"), (0, u "<init>"), (0, u "()V"), (0, .integer 2147483647), (0, .fieldref 9 10), (0, .class_ 11), (0, .nameAndType 12 13), (0, u "com/example/cued/cued/JobState"), (0, u "QUEUED"), (0, u "Lcom/example/cued/cued/JobState;"), (0, .fieldref 9 15), (0, .nameAndType 16 13), (0, u "RUNNING"), (0, .fieldref 9 18), (0, .nameAndType 19 13), (0, u "ABORTING"), (0, .fieldref 9 21), (0, .nameAndType 22 13), (0, u "ABORTED"), (0, .fieldref 9 24), (0, .nameAndType 25 13), (0, u "FINISHED"), (0, .methodref 9 27), (0, .nameAndType 28 29), (0, u "ended"), (0, u "()Z"), (0, .class_ 31), (0, u "com/example/cued/cued/JobStateEndedPinLaw"), (2, u "law"), (0, u "(I)Z")] 3

def k1m0 : Method := { name := "<init>", desc := "()V", sig := { parameters := [], returnType := none }, accessFlags := 1, code := none }
def k1c1 : Code := { maxStack := 2, maxLocals := 4, code := code, exceptionTable := #[], attributes := #[] }
def k1m1 : Method := { name := "law", desc := "(I)Z", sig := { parameters := [.int], returnType := some .boolean }, accessFlags := 9, code := some k1c1 }
/-- com/example/cued/cued/JobStateEndedPinLaw -/
def k1 : Class := { plain "com/example/cued/cued/JobStateEndedPinLaw" (some 0) with
  accessFlags := 49
  interfaces := #[]
  cf := some (fileOf pool1 30 #[] #[{ accessFlags := 1, nameIndex := 5, descriptorIndex := 6, attributes := #[] }, { accessFlags := 9, nameIndex := 34, descriptorIndex := 35, attributes := #[] }] 49 2 #[] #[])
  fields := #[]
  methods := #[k1m0, k1m1]
  instanceTypes := #[]
  staticTypes := #[]
  resolved := Array.replicate 39 none
  statics := none }

def pool2 : Array CpInfo := pool [(1, .class_ 2), (0, u "java/lang/constant/Constable"), (0, .class_ 4), (0, u "java/lang/Object")] 6

/-- java/lang/constant/Constable -/
def k2 : Class := { plain "java/lang/constant/Constable" (some 0) with
  accessFlags := 1537
  interfaces := #[]
  cf := some (fileOf pool2 1 #[] #[] 1537 3 #[] #[])
  fields := #[]
  methods := #[]
  instanceTypes := #[]
  staticTypes := #[]
  resolved := Array.replicate 11 none
  statics := none }

def pool3 : Array CpInfo := pool [(1, .class_ 2), (0, u "java/lang/Comparable"), (0, .class_ 4), (0, u "java/lang/Object")] 7

/-- java/lang/Comparable -/
def k3 : Class := { plain "java/lang/Comparable" (some 0) with
  accessFlags := 1537
  interfaces := #[]
  cf := some (fileOf pool3 1 #[] #[] 1537 3 #[] #[])
  fields := #[]
  methods := #[]
  instanceTypes := #[]
  staticTypes := #[]
  resolved := Array.replicate 12 none
  statics := none }

def pool4 : Array CpInfo := pool [(1, .class_ 2), (0, u "java/io/Serializable"), (0, .class_ 4), (0, u "java/lang/Object")] 2

/-- java/io/Serializable -/
def k4 : Class := { plain "java/io/Serializable" (some 0) with
  accessFlags := 1537
  interfaces := #[]
  cf := some (fileOf pool4 1 #[] #[] 1537 3 #[] #[])
  fields := #[]
  methods := #[]
  instanceTypes := #[]
  staticTypes := #[]
  resolved := Array.replicate 7 none
  statics := none }

def pool5 : Array CpInfo := pool [(2, .class_ 4), (1, u "java/lang/Enum"), (0, u "name"), (0, u "Ljava/lang/String;"), (2, u "ordinal"), (0, u "I"), (1, .class_ 14), (1, u "java/lang/Object"), (4, u "hash"), (86, .class_ 108), (1, u "java/lang/Enum$EnumDesc"), (2, .class_ 112), (0, u "java/lang/constant/Constable"), (0, .class_ 114), (0, u "java/lang/Comparable"), (0, .class_ 116), (0, u "java/io/Serializable")] 87

/-- java/lang/Enum -/
def k5 : Class := { plain "java/lang/Enum" (some 0) with
  accessFlags := 1057
  interfaces := #[2, 3, 4]
  cf := some (fileOf pool5 2 #[.nestMembers #[106]] #[] 1057 12 #[111, 113, 115] #[{ accessFlags := 18, nameIndex := 5, descriptorIndex := 6, attributes := #[] }, { accessFlags := 18, nameIndex := 9, descriptorIndex := 10, attributes := #[] }, { accessFlags := 2, nameIndex := 19, descriptorIndex := 10, attributes := #[] }])
  fields := #[{ name := "name", type := (.object "java/lang/String"), accessFlags := 18, slot := 0, constantValue := 0 }, { name := "ordinal", type := .int, accessFlags := 18, slot := 1, constantValue := 0 }, { name := "hash", type := .int, accessFlags := 2, slot := 2, constantValue := 0 }]
  methods := #[]
  instanceTypes := #[(.object "java/lang/String"), .int, .int]
  staticTypes := #[]
  resolved := Array.replicate 204 none
  statics := none }

def pool6 : Array CpInfo := pool [(1, .class_ 2), (0, u "com/example/cued/cued/JobState"), (2, u "QUEUED"), (0, u "Lcom/example/cued/cued/JobState;"), (2, u "RUNNING"), (2, u "ABORTING"), (0, .fieldref 1 14), (0, .nameAndType 15 6), (0, u "ABORTED"), (0, .fieldref 1 17), (0, .nameAndType 18 6), (0, u "FINISHED"), (2, u "$VALUES"), (0, u "[Lcom/example/cued/cued/JobState;"), (6, .class_ 31), (1, u "java/lang/Enum"), (33, u "ended"), (0, u "()Z")] 9

def k6c0 : Code := { maxStack := 2, maxLocals := 1, code := prog_32_method_4_code, exceptionTable := #[], attributes := #[] }
def k6m0 : Method := { name := "ended", desc := "()Z", sig := { parameters := [], returnType := some .boolean }, accessFlags := 0, code := some k6c0 }
/-- com/example/cued/cued/JobState -/
def k6 : Class := { plain "com/example/cued/cued/JobState" (some 5) with
  accessFlags := 16432
  interfaces := #[]
  cf := some (fileOf pool6 1 #[] #[{ accessFlags := 0, nameIndex := 65, descriptorIndex := 66, attributes := #[] }] 16432 29 #[] #[{ accessFlags := 16409, nameIndex := 5, descriptorIndex := 6, attributes := #[] }, { accessFlags := 16409, nameIndex := 9, descriptorIndex := 6, attributes := #[] }, { accessFlags := 16409, nameIndex := 12, descriptorIndex := 6, attributes := #[] }, { accessFlags := 16409, nameIndex := 15, descriptorIndex := 6, attributes := #[] }, { accessFlags := 16409, nameIndex := 18, descriptorIndex := 6, attributes := #[] }, { accessFlags := 4122, nameIndex := 21, descriptorIndex := 22, attributes := #[] }])
  fields := #[{ name := "QUEUED", type := (.object "com/example/cued/cued/JobState"), accessFlags := 16409, slot := 0, constantValue := 0 }, { name := "RUNNING", type := (.object "com/example/cued/cued/JobState"), accessFlags := 16409, slot := 1, constantValue := 0 }, { name := "ABORTING", type := (.object "com/example/cued/cued/JobState"), accessFlags := 16409, slot := 2, constantValue := 0 }, { name := "ABORTED", type := (.object "com/example/cued/cued/JobState"), accessFlags := 16409, slot := 3, constantValue := 0 }, { name := "FINISHED", type := (.object "com/example/cued/cued/JobState"), accessFlags := 16409, slot := 4, constantValue := 0 }, { name := "$VALUES", type := (.array (.object "com/example/cued/cued/JobState")), accessFlags := 4122, slot := 5, constantValue := 0 }]
  methods := #[k6m0]
  instanceTypes := #[(.object "java/lang/String"), .int, .int]
  staticTypes := #[(.object "com/example/cued/cued/JobState"), (.object "com/example/cued/cued/JobState"), (.object "com/example/cued/cued/JobState"), (.object "com/example/cued/cued/JobState"), (.object "com/example/cued/cued/JobState"), (.array (.object "com/example/cued/cued/JobState"))]
  resolved := Array.replicate 76 none
  statics := some 0 }

def pool7 : Array CpInfo := pool [(1, u "java/lang/Cloneable"), (0, .class_ 1), (0, u "java/lang/Object"), (0, .class_ 3)] 3

/-- java/lang/Cloneable -/
def k7 : Class := { plain "java/lang/Cloneable" (some 0) with
  accessFlags := 1537
  interfaces := #[]
  cf := some (fileOf pool7 2 #[] #[] 1537 4 #[] #[])
  fields := #[]
  methods := #[]
  instanceTypes := #[]
  staticTypes := #[]
  resolved := Array.replicate 8 none
  statics := none }

/-- the primitive byte -/
def k8 : Class := { plain "byte" none with kind := .primitive 'B', accessFlags := 0x411 }
/-- [B -/
def k9 : Class := { plain "[B" (some 0) with kind := .array 8 .byte, interfaces := #[7, 4], accessFlags := 1041 }

/-- the primitive int -/
def k10 : Class := { plain "int" none with kind := .primitive 'I', accessFlags := 0x411 }
/-- [I -/
def k11 : Class := { plain "[I" (some 0) with kind := .array 10 .int, interfaces := #[7, 4], accessFlags := 1041 }

def heap : Heap := #[{ cls := 6, slots := #[.ref 1, .ref 2, .ref 3, .ref 4, .ref 5, .null], vm := .statics 6 },
  { cls := 6, slots := #[.null, .int 0, .int 0], vm := .none },
  { cls := 6, slots := #[.null, .int 1, .int 0], vm := .none },
  { cls := 6, slots := #[.null, .int 2, .int 0], vm := .none },
  { cls := 6, slots := #[.null, .int 3, .int 0], vm := .none },
  { cls := 6, slots := #[.null, .int 4, .int 0], vm := .none }]
def classes : Array Class := #[k0, k1, k2, k3, k4, k5, k6, k7, k8, k9, k10, k11]
def interned : List (Array UInt16 × Addr) := []
def slotsUsed : Nat := 21
def theMethod : MethodId := ⟨1, 1⟩
def args0 : Array Value := #[.int 5]
def aboutOver (below : List Frame) : State where
  vm := { classes := classes, interned := interned.toArray }
  heap := heap
  slotsUsed := slotsUsed
  threads := #[{ frames := .invoking theMethod args0 :: below }]
def below0 : List Frame := [.native { method := ⟨0, 0⟩, args := #[] }]
def about1 : State := aboutOver below0
def p0 : Program := .bare "" "" ""
def e0 : Env := launch0.env 0 0 0
theorem w_frames : about1.frames = Frame.invoking theMethod args0 :: below0 := rfl
set_option maxRecDepth 65536 in
theorem w_args : argsFit about1.vm theMethod args0 = true := by decide +kernel
set_option maxRecDepth 65536 in
theorem w_heap : heapFits about1 = true := by decide +kernel
set_option maxRecDepth 65536 in
theorem w_runnable : about1.curStatus? = some .runnable := by decide +kernel
set_option maxRecDepth 65536 in
theorem w_alone : about1.alone = true := by decide +kernel
set_option maxRecDepth 65536 in
theorem w_named : about1.methodNamed? x = some theMethod := by decide +kernel
set_option maxRecDepth 65536 in
theorem w_hears : about1.hears theMethod below0 = true := by decide +kernel
set_option maxRecDepth 65536 in
theorem w_ripe : about1.ripe theMethod args0 below0 = true := by decide +kernel
theorem w_running : about1.status = .running := rfl
set_option maxRecDepth 65536 in
theorem w_room : about1.hasRoom e0.platform room_1 = true :=
  launch0.hasRoom_least _ room_1 (by decide +kernel) (by decide +kernel) (by decide +kernel) (by decide +kernel) (by decide +kernel) (by decide +kernel)
theorem allAtoms_all (ts : List Jvm.Cond) (a : Array Jvm.Value) (st : Jvm.State) : (allAtoms ts).before a st = ts.all (fun c => c.before a st) := by
  induction ts with
  | nil => rfl
  | cons c t ih =>
    show (Jvm.Cond.and c (allAtoms t)).before a st = _
    rw [Jvm.Cond.before_and, ih, List.all_cons]
def words1 : List Jvm.Cond := Jvm.Cond.code x code maxLocals ret :: tables_1
/-- a 'code' word, met by the world's own term for the bytes: nothing is compared byte by byte -/
theorem code_word {y : MethodName} {bytes : ByteArray} {mx : Nat} {rt : Option FieldType} {a : Array Value} {s : State} {m : MethodId} {meth : Method} {c : Code} (h1 : s.methodNamed? y = some m) (h2 : s.vm.method? m = some meth) (h3 : meth.code = some c) (h4 : c.code = bytes)
    (h5 : (c.maxLocals == mx && c.exceptionTable.isEmpty && decide (c.maxStack ≤ mostOperands) && decide (meth.sig.returnType = rt) && !meth.locks && decide (parseMethodDescriptor y.desc = some meth.sig)) = true) : (Jvm.Cond.code y bytes mx rt).before a s = true := by
  simp only [Bool.and_eq_true, beq_iff_eq, Bool.not_eq_true', decide_eq_true_eq] at h5
  obtain ⟨⟨⟨⟨⟨g1, g2⟩, g3⟩, g4⟩, g5⟩, g6⟩ := h5
  simp [Cond.before, Cond.holds, Cond.value, h1, h2, h3, h4, g1, g2, g3, g4, g5, g6]
def isCode : Jvm.Cond → Bool
  | .code _ _ _ _ => true
  | _ => false
theorem all_split {L : List Jvm.Cond} {P : Jvm.Cond → Bool} (h1 : L.all (fun c => isCode c || P c) = true) (h2 : ∀ c ∈ L.filter isCode, P c = true) : L.all P = true := by
  refine List.all_eq_true.mpr fun c hc => ?_
  have h := List.all_eq_true.mp h1 c hc
  rcases Bool.eq_false_or_eq_true (isCode c) with hi | hi
  · exact h2 c (List.mem_filter.mpr ⟨hc, hi⟩)
  · simpa [hi] using h
set_option maxRecDepth 65536 in
theorem w_c0 : (Jvm.Cond.code x code maxLocals ret).before args0 about1 = true := code_word (m := ⟨1, 1⟩) (meth := k1m1) (c := k1c1) (by decide +kernel) rfl rfl rfl (by decide +kernel)
set_option maxRecDepth 65536 in
theorem w_c1 : (Jvm.Cond.code ({ cls := "com/example/cued/cued/JobState", name := "ended", desc := "()Z" } : Jvm.MethodName) prog_32_method_4_code (1 : Nat) (Option.some Jvm.ClassFile.FieldType.boolean)).before args0 about1 = true := code_word (m := ⟨6, 0⟩) (meth := k6m0) (c := k6c0) (by decide +kernel) rfl rfl rfl (by decide +kernel)
def codes1 : List Jvm.Cond := [Jvm.Cond.code x code maxLocals ret, Jvm.Cond.code ({ cls := "com/example/cued/cued/JobState", name := "ended", desc := "()Z" } : Jvm.MethodName) prog_32_method_4_code (1 : Nat) (Option.some Jvm.ClassFile.FieldType.boolean)]
set_option maxRecDepth 65536 in
theorem codes_eq : words1.filter isCode = codes1 := rfl
theorem w_codes : ∀ c ∈ words1.filter isCode, c.before args0 about1 = true := by
  rw [codes_eq]
  intro c hc
  simp only [codes1, List.mem_cons, List.not_mem_nil, or_false] at hc
  rcases hc with rfl | rfl
  · exact w_c0
  · exact w_c1
set_option maxRecDepth 65536 in
theorem w_t1 : words1.all (fun c => isCode c || c.before args0 about1) = true := by decide +kernel
theorem w_tables : (allAtoms (Jvm.Cond.code x code maxLocals ret :: tables_1)).before args0 about1 = true := by
  rw [allAtoms_all]
  show words1.all (fun c => c.before args0 about1) = true
  refine all_split ?_ w_codes
  rw [w_t1]
set_option maxRecDepth 65536 in
theorem w_case : (Jvm.Cond.and given_1 narrow_1).before args0 about1 = true := by decide +kernel
theorem w_applies : (headSpec (Jvm.Cond.code x code maxLocals ret :: tables_1) room_1).applies x e0.platform about1 = true :=
  (Spec.applies_iff w_frames).mpr ⟨w_running, w_runnable, w_alone, w_named, w_hears, w_ripe, w_room, w_tables⟩
theorem atStart : AtStart classFile x code maxLocals ret World_1 tables_1 room_1 Calls_1 rest_1 Pre_1 launch0 p0 e0 about1 theMethod args0 below0 :=
  ⟨lists_1, trivial, launch0.admits_env _ _ _, launch0.least_env, fairChoices_fair.cas, fairChoices_fair.clock, w_frames, w_args, w_heap, w_applies, trivial, trivial, w_case⟩
end start1
theorem witness_1 : WitnessClaimed_1 := ⟨start1.p0, start1.e0, start1.about1, start1.theMethod, start1.args0, start1.below0, start1.atStart⟩
end Jvm.Pilot.@@N@@

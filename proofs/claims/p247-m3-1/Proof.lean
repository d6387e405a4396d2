import JvmDerived
import JvmDerived.Pilot.@@N@@Statement
import JvmDerived.Pilot.@@N@@Code
set_option linter.unusedVariables false
set_option linter.unusedSimpArgs false
namespace Jvm.Pilot.@@N@@
open Jvm Jvm.ClassFile Sem Op Lib Jvm.Free Jvm.Stand Jvm.LawKit Jvm.RoadKit Bundle Jvm.Pilot.@@N@@.Jvm.D
abbrev Gets (p : Program) (e : Env) (below : List Frame) (S0 S : State) : Prop := ∀ t, Steps p.tables e below S t → Steps p.tables e below S0 t
section Own
variable {p : Program} {e : Env} {below : List Frame} {S0 T : State} {m : MethodId} {c : Code} {pc q : Nat} {Ls : Array Slot} {st : List Value}
theorem own_iadd {x y v : Int32} (G : Gets p e below S0 (T.setTop (mkF m pc Ls (.int y :: .int x :: st)))) (h : At T m c below) (hx : p.tables.exec = Jvm.exec) (hd : decode c.code pc = .ok (.iadd, 1)) (hv : x + y = v) (hq : pc + 1 = q) : Gets p e below S0 (T.setTop (mkF m q Ls (.int v :: st))) := by
  subst hv hq; exact fun t k => G t (XS.iadd h hx rfl hd rfl k)
theorem own_imul {x y v : Int32} (G : Gets p e below S0 (T.setTop (mkF m pc Ls (.int y :: .int x :: st)))) (h : At T m c below) (hx : p.tables.exec = Jvm.exec) (hd : decode c.code pc = .ok (.imul, 1)) (hv : x * y = v) (hq : pc + 1 = q) : Gets p e below S0 (T.setTop (mkF m q Ls (.int v :: st))) := by
  subst hv hq; exact fun t k => G t (XS.imul h hx rfl hd rfl k)
theorem own_iand {x y v : Int32} (G : Gets p e below S0 (T.setTop (mkF m pc Ls (.int y :: .int x :: st)))) (h : At T m c below) (hx : p.tables.exec = Jvm.exec) (hd : decode c.code pc = .ok (.iand, 1)) (hv : x &&& y = v) (hq : pc + 1 = q) : Gets p e below S0 (T.setTop (mkF m q Ls (.int v :: st))) := by
  subst hv hq; exact fun t k => G t (XS.iand h hx rfl hd rfl k)
theorem own_iushr {x y v : Int32} (G : Gets p e below S0 (T.setTop (mkF m pc Ls (.int y :: .int x :: st)))) (h : At T m c below) (hx : p.tables.exec = Jvm.exec) (hd : decode c.code pc = .ok (.iushr, 1)) (hv : ((x.toUInt32 >>> (y &&& 31).toUInt32).toInt32) = v) (hq : pc + 1 = q) : Gets p e below S0 (T.setTop (mkF m q Ls (.int v :: st))) := by
  subst hv hq; exact fun t k => G t (XS.iushr h hx rfl hd rfl k)
theorem own_irem {x y v : Int32} (G : Gets p e below S0 (T.setTop (mkF m pc Ls (.int y :: .int x :: st)))) (h : At T m c below) (hx : p.tables.exec = Jvm.exec) (hd : decode c.code pc = .ok (.irem, 1)) (hy : y ≠ 0) (hv : x % y = v) (hq : pc + 1 = q) : Gets p e below S0 (T.setTop (mkF m q Ls (.int v :: st))) := by
  subst hv hq; exact fun t k => G t (XS.irem h hx rfl hd rfl hy (by rw [Jvm.irem_eq_mod]; exact k))
theorem own_iconst {i : Int} {v : Int32} (G : Gets p e below S0 (T.setTop (mkF m pc Ls st))) (h : At T m c below) (hx : p.tables.exec = Jvm.exec) (hd : decode c.code pc = .ok (.iconst i, 1)) (hv : Int32.ofInt i = v) (hq : pc + 1 = q) : Gets p e below S0 (T.setTop (mkF m q Ls (.int v :: st))) := by
  subst hv hq; exact fun t k => G t (XS.iconst h hx rfl hd k)
theorem own_bipush {i : Int} {v : Int32} (G : Gets p e below S0 (T.setTop (mkF m pc Ls st))) (h : At T m c below) (hx : p.tables.exec = Jvm.exec) (hd : decode c.code pc = .ok (.bipush i, 2)) (hv : (Int8.ofInt i).toInt32 = v) (hq : pc + 2 = q) : Gets p e below S0 (T.setTop (mkF m q Ls (.int v :: st))) := by
  subst hv hq; exact fun t k => G t (XS.bipush h hx rfl hd k)
theorem own_iload {i : Nat} {v : Int32} (G : Gets p e below S0 (T.setTop (mkF m pc Ls st))) (h : At T m c below) (hx : p.tables.exec = Jvm.exec) (hd : decode c.code pc = .ok (.iload i, 2)) (hl : Ls[i]? = some (.val (.int v))) (hq : pc + 2 = q) : Gets p e below S0 (T.setTop (mkF m q Ls (.int v :: st))) := by
  subst hq; exact fun t k => G t (XS.iload h hx rfl hd hl k)
theorem own_iloadN {i : Fin 4} {v : Int32} (G : Gets p e below S0 (T.setTop (mkF m pc Ls st))) (h : At T m c below) (hx : p.tables.exec = Jvm.exec) (hd : decode c.code pc = .ok (.iload_n i, 1)) (hl : Ls[i.val]? = some (.val (.int v))) (hq : pc + 1 = q) : Gets p e below S0 (T.setTop (mkF m q Ls (.int v :: st))) := by
  subst hq; exact fun t k => G t (XS.iloadN h hx rfl hd hl k)
theorem own_istore {i : Nat} {v : Int32} {l' : Array Slot} (G : Gets p e below S0 (T.setTop (mkF m pc Ls (.int v :: st)))) (h : At T m c below) (hx : p.tables.exec = Jvm.exec) (hd : decode c.code pc = .ok (.istore i, 2)) (hl : storeLocals Ls i (.int v) = some l') (hq : pc + 2 = q) : Gets p e below S0 (T.setTop (mkF m q l' st)) := by
  subst hq; exact fun t k => G t (XS.istore h hx rfl hd rfl hl k)
theorem own_istoreN {i : Fin 4} {v : Int32} {l' : Array Slot} (G : Gets p e below S0 (T.setTop (mkF m pc Ls (.int v :: st)))) (h : At T m c below) (hx : p.tables.exec = Jvm.exec) (hd : decode c.code pc = .ok (.istore_n i, 1)) (hl : storeLocals Ls i.val (.int v) = some l') (hq : pc + 1 = q) : Gets p e below S0 (T.setTop (mkF m q l' st)) := by
  subst hq; exact fun t k => G t (XS.istoreN h hx rfl hd rfl hl k)
theorem own_goto {o : Int} (G : Gets p e below S0 (T.setTop (mkF m pc Ls st))) (h : At T m c below) (hx : p.tables.exec = Jvm.exec) (hd : decode c.code pc = .ok (.goto o, 3))  (ho : 0 ≤ (pc : Int) + o) (hp : ((pc : Int) + o).toNat = q) : Gets p e below S0 (T.setTop (mkF m q Ls st)) := by
  exact fun t k => G t (XS.goto h hx rfl rfl hd ho hp k)
theorem own_ifYes {cd : ClassFile.Cond} {o : Int} {x : Int32} (G : Gets p e below S0 (T.setTop (mkF m pc Ls (.int x :: st)))) (h : At T m c below) (hx : p.tables.exec = Jvm.exec) (hd : decode c.code pc = .ok (.ifCond cd o, 3)) (hc : ifCond.holds cd x = true) (ho : 0 ≤ (pc : Int) + o) (hp : ((pc : Int) + o).toNat = q) : Gets p e below S0 (T.setTop (mkF m q Ls st)) := by
  exact fun t k => G t (XS.ifYes h hx rfl rfl hd rfl hc ho hp k)
theorem own_ifNo {cd : ClassFile.Cond} {o : Int} {x : Int32} (G : Gets p e below S0 (T.setTop (mkF m pc Ls (.int x :: st)))) (h : At T m c below) (hx : p.tables.exec = Jvm.exec) (hd : decode c.code pc = .ok (.ifCond cd o, 3)) (hc : ifCond.holds cd x = false) (hq : pc + 3 = q) : Gets p e below S0 (T.setTop (mkF m q Ls st)) := by
  subst hq; exact fun t k => G t (XS.ifNo h hx rfl hd rfl hc k)
theorem own_icmpYes {cd : ClassFile.Cond} {o : Int} {x y : Int32} (G : Gets p e below S0 (T.setTop (mkF m pc Ls (.int y :: .int x :: st)))) (h : At T m c below) (hx : p.tables.exec = Jvm.exec) (hd : decode c.code pc = .ok (.if_icmp cd o, 3)) (hc : if_icmp.holds cd x y = true) (ho : 0 ≤ (pc : Int) + o) (hp : ((pc : Int) + o).toNat = q) : Gets p e below S0 (T.setTop (mkF m q Ls st)) := by
  exact fun t k => G t (XS.icmpYes h hx rfl rfl hd rfl hc ho hp k)
theorem own_icmpNo {cd : ClassFile.Cond} {o : Int} {x y : Int32} (G : Gets p e below S0 (T.setTop (mkF m pc Ls (.int y :: .int x :: st)))) (h : At T m c below) (hx : p.tables.exec = Jvm.exec) (hd : decode c.code pc = .ok (.if_icmp cd o, 3)) (hc : if_icmp.holds cd x y = false) (hq : pc + 3 = q) : Gets p e below S0 (T.setTop (mkF m q Ls st)) := by
  subst hq; exact fun t k => G t (XS.icmpNo h hx rfl hd rfl hc k)
end Own

def own_pe (x : Int32) : Int32 := if (x &&& 65534) = 65534 then 1 else 0
def own_isn (x : Int32) : Int32 := if x < 64976 then own_pe x else if 65007 < x then own_pe x else 1
def own_re (x : Int32) : Int32 := if x % 65536 = 65534 then 1 else if x % 65536 = 65535 then 1 else 0
def own_ref (x : Int32) : Int32 := if x < 64976 then own_re x else if 65007 < x then own_re x else 1
theorem own_mask (y : Nat) : y &&& 65534 = 2 * (y / 2 % 32768) := by
  have h1 : (y &&& 65534) / 2 = y / 2 % 32768 := by
    have := @Nat.and_div_two_pow y 65534 1
    rw [show (2 : Nat) ^ 1 = 2 from rfl] at this
    rw [this, show 65534 / 2 = 2 ^ 15 - 1 from rfl, Nat.and_two_pow_sub_one_eq_mod]
  have h2 : (y &&& 65534) % 2 = 0 := by
    have := @Nat.and_mod_two_pow y 65534 1
    rw [show (2 : Nat) ^ 1 = 2 from rfl] at this
    rw [this, show 65534 % 2 = 0 from rfl, Nat.and_zero]
  omega
theorem own_nn {x : Int32} (h : ¬ x < 0) : x.toInt = (x.toBitVec.toNat : Int) ∧ x.toBitVec.toNat < 2147483648 := by
  have h0 : 0 ≤ x.toInt := by rw [Int32.lt_iff_toInt_lt] at h; have : (0 : Int32).toInt = 0 := rfl; omega
  have e : x.toInt = x.toBitVec.toInt := rfl
  rw [e] at h0 ⊢
  have hl := x.toBitVec.isLt
  have hc := BitVec.toInt_eq_toNat_cond x.toBitVec
  by_cases hh : 2 * x.toBitVec.toNat < 2 ^ 32
  · rw [if_pos hh] at hc; exact ⟨hc, by omega⟩
  · rw [if_neg hh] at hc; omega
theorem own_pere (x : Int32) (h : ¬ x < 0) : own_pe x = own_re x := by
  obtain ⟨h1, h2⟩ := own_nn h
  have hr := (c_irem x 65536 65536 (by decide)).1 (by omega)
  have e1 : (x &&& 65534) = 65534 ↔ x.toBitVec.toNat &&& 65534 = 65534 := by
    rw [← Int32.toBitVec_inj, Int32.toBitVec_and, ← BitVec.toNat_inj, BitVec.toNat_and]; rfl
  have e2 : x % 65536 = 65534 ↔ x.toInt % 65536 = 65534 := by rw [← Int32.toInt_inj, hr]; rfl
  have e3 : x % 65536 = 65535 ↔ x.toInt % 65536 = 65535 := by rw [← Int32.toInt_inj, hr]; rfl
  rw [own_mask] at e1
  unfold own_pe own_re
  by_cases q1 : x % 65536 = 65534
  · rw [if_pos q1, if_pos (e1.mpr (by have := e2.mp q1; omega))]
  · by_cases q2 : x % 65536 = 65535
    · rw [if_neg q1, if_pos q2, if_pos (e1.mpr (by have := e3.mp q2; omega))]
    · rw [if_neg q1, if_neg q2, if_neg (fun z => by have hz := e1.mp z; have a : ¬ (x.toInt % 65536 = 65534) := fun z => q1 (e2.mpr z); have b : ¬ (x.toInt % 65536 = 65535) := fun z => q2 (e3.mpr z); omega)]
theorem own_eq (x : Int32) (h : ¬ x < 0) : own_isn x = own_ref x := by
  unfold own_isn own_ref; rw [own_pere x h]
theorem own_pos {x : Int32} (h : 0 ≤ x.toInt) : ¬ x < 0 := by rw [Int32.lt_iff_toInt_lt]; have : (0 : Int32).toInt = 0 := rfl; omega
theorem d1_0 : decode prog_3_method_20_code 0 = .ok (.iload_n 0, 1) := by decide +kernel
theorem d1_1 : decode prog_3_method_20_code 1 = .ok (.ldc 193, 2) := by decide +kernel
theorem d1_3 : decode prog_3_method_20_code 3 = .ok (.if_icmp .lt 9, 3) := by decide +kernel
theorem d1_6 : decode prog_3_method_20_code 6 = .ok (.iload_n 0, 1) := by decide +kernel
theorem d1_7 : decode prog_3_method_20_code 7 = .ok (.ldc 194, 2) := by decide +kernel
theorem d1_9 : decode prog_3_method_20_code 9 = .ok (.if_icmp .le 12, 3) := by decide +kernel
theorem d1_12 : decode prog_3_method_20_code 12 = .ok (.iload_n 0, 1) := by decide +kernel
theorem d1_13 : decode prog_3_method_20_code 13 = .ok (.ldc 195, 2) := by decide +kernel
theorem d1_15 : decode prog_3_method_20_code 15 = .ok (.iand, 1) := by decide +kernel
theorem d1_16 : decode prog_3_method_20_code 16 = .ok (.ldc 195, 2) := by decide +kernel
theorem d1_18 : decode prog_3_method_20_code 18 = .ok (.if_icmp .ne 7, 3) := by decide +kernel
theorem d1_21 : decode prog_3_method_20_code 21 = .ok (.iconst 1, 1) := by decide +kernel
theorem d1_22 : decode prog_3_method_20_code 22 = .ok (.goto 4, 3) := by decide +kernel
theorem d1_25 : decode prog_3_method_20_code 25 = .ok (.iconst 0, 1) := by decide +kernel
theorem d1_26 : decode prog_3_method_20_code 26 = .ok (.ireturn, 1) := by decide +kernel
theorem pn_com_example_leafcutter_leafcutter_io_Input : plainName "com/example/leafcutter/leafcutter/io/Input" = true := by first | (simp [plainName, overriddenIn]; done) | decide +kernel
theorem ef_1 (m : MethodId) (x0 : Int32) : entryFrame m #[(.int x0)] 1 = mkF m 0 #[.val (.int x0)] [] := by first | (simp [entryFrame, mkF, argsToLocals, Value.category]; done) | rfl
def Q1 (Z : State) (y : Int32) (h0 : Heap) (n0 : Nat) (v : Option Value) (h : Heap) (L : List Loc) : Prop := v = some (.int (own_isn y)) ∧ Fr n0 L ∧ h = h0
set_option maxRecDepth 65536 in
set_option maxHeartbeats 40000000 in
theorem rm1 (l : Launch) (Z : State) (a0 : Array Value) (hw : ∀ d ∈ tables_1, d.before a0 Z = true) (ws : List Jvm.Cond) (y : Int32) (h0 : Heap) (n0 : Nat) (Z0 : n0 ≤ h0.size)  :
    MetFree l (⟨"com/example/leafcutter/leafcutter/io/Input", "isNoncharacter", "(I)Z"⟩ : MethodName) (head1 (Jvm.Cond.code (⟨"com/example/leafcutter/leafcutter/io/Input", "isNoncharacter", "(I)Z"⟩ : MethodName) prog_3_method_20_code 1 (some .boolean) :: ws) ({ frames := 0, cells := 0, slots := 0, locals := 0 } : Room)) (fun zz U => zz = #[(.int y)] ∧ Z.Warmed39 U.vm ∧ U.heap = h0) (fun _ _ _ _ _ => True) (fun _ U o U' => ∃ v L, o = .returned v ∧ Q1 Z y h0 n0 v U'.heap L ∧ FrameEnd U o U' L ({ frames := 0, cells := 0, slots := 0, locals := 0 } : Room).cells ({ frames := 0, cells := 0, slots := 0, locals := 0 } : Room).slots) := by
  refine MetFree.of_bodySF (plainFor_of_name pn_com_example_leafcutter_leafcutter_io_Input) hisR ?_
  intro p e s m args below meth c s₁ Bd hml0 hP hK
  obtain ⟨rfl, hZ, hh⟩ := hP
  have hx := Bd.exec
  have hby := Bd.bytes
  have hml : c.maxLocals = 1 := hml0
  have hown : s.vm.findClass "com/example/leafcutter/leafcutter/io/Input" = some m.cls := findClass_of_methodNamed Bd.named
  have hnm := (name_of_methodNamed Bd.named Bd.method).1
  have X0 : Stand p l e ({ frames := 0, cells := 0, slots := 0, locals := 0 } : Room) s m #[(.int y)] below meth c s₁ [] 0 0 := Stand.of_body Bd
  have e0 : s₁.heap = h0 := by rw [← hh, Bd.state]; rfl
  have N0 := Fr.nil n0
  have G : Gets p e below (s₁.setTop (entryFrame m #[(.int y)] 1)) (s₁.setTop (mkF m 0 #[.val (.int y)] [])) := fun t k => castTop (ef_1 m y) k
  replace G := own_iloadN (q := 1) G X0.here hx (hb hby d1_0) rfl rfl
  replace G : Gets p e below _ (s₁.setTop (mkF m 3 #[.val (.int y)] [(.int (64976 : Int32)), (.int y)])) := fun t k => G t (X0.ldcInt hx hown (mvT hZ (hw _ (List.mem_of_getElem? (i := 9) rfl))) (g := (mkF m 1 #[.val (.int y)] [(.int y)])) rfl (hb hby d1_1) t k)
  by_cases hc3_1 : y < (64976 : Int32)
  · replace G := own_icmpYes (q := 12) G X0.here hx (hb hby d1_3) (tlt hc3_1).1 (by decide) (by decide)
    replace G := own_iloadN (q := 13) G X0.here hx (hb hby d1_12) rfl rfl
    replace G : Gets p e below _ (s₁.setTop (mkF m 15 #[.val (.int y)] [(.int (65534 : Int32)), (.int y)])) := fun t k => G t (X0.ldcInt hx hown (mvT hZ (hw _ (List.mem_of_getElem? (i := 10) rfl))) (g := (mkF m 13 #[.val (.int y)] [(.int y)])) rfl (hb hby d1_13) t k)
    replace G := own_iand (q := 16) G X0.here hx (hb hby d1_15) rfl rfl
    replace G : Gets p e below _ (s₁.setTop (mkF m 18 #[.val (.int y)] [(.int (65534 : Int32)), (.int (y &&& (65534 : Int32)))])) := fun t k => G t (X0.ldcInt hx hown (mvT hZ (hw _ (List.mem_of_getElem? (i := 10) rfl))) (g := (mkF m 16 #[.val (.int y)] [(.int (y &&& (65534 : Int32)))])) rfl (hb hby d1_16) t k)
    by_cases hc18_2 : (y &&& (65534 : Int32)) = (65534 : Int32)
    · replace G := own_icmpNo (q := 21) G X0.here hx (hb hby d1_18) (teq hc18_2).2 rfl
      replace G := own_iconst (q := 22) G X0.here hx (hb hby d1_21) (v := (1 : Int32)) (by decide) rfl
      replace G := own_goto (q := 26) G X0.here hx (hb hby d1_22) (by decide) (by decide)
      obtain ⟨fs, hr, hrun, hended, hW, hsame⟩ := X0.leave (v := some (.int (1 : Int32))) (fun h => by rw [Bd.returns] at h; cases h)
      refine ⟨_, _, G _ (retOut X0 hx Bd.returns rfl (Or.inl ⟨rfl, Or.inr (Or.inl rfl), _, rfl⟩) (hb hby d1_26) hr), hrun, hended, _, _, rfl, ?_, ⟨_, rfl⟩, hW, hsame.mono (by decide) (by decide)⟩
      show Q1 Z y h0 n0 _ s₁.heap _
      rw [e0]
      exact ⟨(congrArg (fun z => some (Value.int z)) (by simp [own_isn, own_pe, hc3_1, hc18_2])), N0, rfl⟩
    · replace G := own_icmpYes (q := 25) G X0.here hx (hb hby d1_18) (feq hc18_2).2 (by decide) (by decide)
      replace G := own_iconst (q := 26) G X0.here hx (hb hby d1_25) (v := (0 : Int32)) (by decide) rfl
      obtain ⟨fs, hr, hrun, hended, hW, hsame⟩ := X0.leave (v := some (.int (0 : Int32))) (fun h => by rw [Bd.returns] at h; cases h)
      refine ⟨_, _, G _ (retOut X0 hx Bd.returns rfl (Or.inl ⟨rfl, Or.inr (Or.inl rfl), _, rfl⟩) (hb hby d1_26) hr), hrun, hended, _, _, rfl, ?_, ⟨_, rfl⟩, hW, hsame.mono (by decide) (by decide)⟩
      show Q1 Z y h0 n0 _ s₁.heap _
      rw [e0]
      exact ⟨(congrArg (fun z => some (Value.int z)) (by simp [own_isn, own_pe, hc3_1, hc18_2])), N0, rfl⟩
  · replace G := own_icmpNo (q := 6) G X0.here hx (hb hby d1_3) (flt hc3_1).1 rfl
    replace G := own_iloadN (q := 7) G X0.here hx (hb hby d1_6) rfl rfl
    replace G : Gets p e below _ (s₁.setTop (mkF m 9 #[.val (.int y)] [(.int (65007 : Int32)), (.int y)])) := fun t k => G t (X0.ldcInt hx hown (mvT hZ (hw _ (List.mem_of_getElem? (i := 18) rfl))) (g := (mkF m 7 #[.val (.int y)] [(.int y)])) rfl (hb hby d1_7) t k)
    by_cases hc9_3 : (65007 : Int32) < y
    · replace G := own_icmpNo (q := 12) G X0.here hx (hb hby d1_9) (tlt hc9_3).2.2.2 rfl
      replace G := own_iloadN (q := 13) G X0.here hx (hb hby d1_12) rfl rfl
      replace G : Gets p e below _ (s₁.setTop (mkF m 15 #[.val (.int y)] [(.int (65534 : Int32)), (.int y)])) := fun t k => G t (X0.ldcInt hx hown (mvT hZ (hw _ (List.mem_of_getElem? (i := 10) rfl))) (g := (mkF m 13 #[.val (.int y)] [(.int y)])) rfl (hb hby d1_13) t k)
      replace G := own_iand (q := 16) G X0.here hx (hb hby d1_15) rfl rfl
      replace G : Gets p e below _ (s₁.setTop (mkF m 18 #[.val (.int y)] [(.int (65534 : Int32)), (.int (y &&& (65534 : Int32)))])) := fun t k => G t (X0.ldcInt hx hown (mvT hZ (hw _ (List.mem_of_getElem? (i := 10) rfl))) (g := (mkF m 16 #[.val (.int y)] [(.int (y &&& (65534 : Int32)))])) rfl (hb hby d1_16) t k)
      by_cases hc18_4 : (y &&& (65534 : Int32)) = (65534 : Int32)
      · replace G := own_icmpNo (q := 21) G X0.here hx (hb hby d1_18) (teq hc18_4).2 rfl
        replace G := own_iconst (q := 22) G X0.here hx (hb hby d1_21) (v := (1 : Int32)) (by decide) rfl
        replace G := own_goto (q := 26) G X0.here hx (hb hby d1_22) (by decide) (by decide)
        obtain ⟨fs, hr, hrun, hended, hW, hsame⟩ := X0.leave (v := some (.int (1 : Int32))) (fun h => by rw [Bd.returns] at h; cases h)
        refine ⟨_, _, G _ (retOut X0 hx Bd.returns rfl (Or.inl ⟨rfl, Or.inr (Or.inl rfl), _, rfl⟩) (hb hby d1_26) hr), hrun, hended, _, _, rfl, ?_, ⟨_, rfl⟩, hW, hsame.mono (by decide) (by decide)⟩
        show Q1 Z y h0 n0 _ s₁.heap _
        rw [e0]
        exact ⟨(congrArg (fun z => some (Value.int z)) (by simp [own_isn, own_pe, hc3_1, hc9_3, hc18_4])), N0, rfl⟩
      · replace G := own_icmpYes (q := 25) G X0.here hx (hb hby d1_18) (feq hc18_4).2 (by decide) (by decide)
        replace G := own_iconst (q := 26) G X0.here hx (hb hby d1_25) (v := (0 : Int32)) (by decide) rfl
        obtain ⟨fs, hr, hrun, hended, hW, hsame⟩ := X0.leave (v := some (.int (0 : Int32))) (fun h => by rw [Bd.returns] at h; cases h)
        refine ⟨_, _, G _ (retOut X0 hx Bd.returns rfl (Or.inl ⟨rfl, Or.inr (Or.inl rfl), _, rfl⟩) (hb hby d1_26) hr), hrun, hended, _, _, rfl, ?_, ⟨_, rfl⟩, hW, hsame.mono (by decide) (by decide)⟩
        show Q1 Z y h0 n0 _ s₁.heap _
        rw [e0]
        exact ⟨(congrArg (fun z => some (Value.int z)) (by simp [own_isn, own_pe, hc3_1, hc9_3, hc18_4])), N0, rfl⟩
    · replace G := own_icmpYes (q := 21) G X0.here hx (hb hby d1_9) (flt hc9_3).2.2.2 (by decide) (by decide)
      replace G := own_iconst (q := 22) G X0.here hx (hb hby d1_21) (v := (1 : Int32)) (by decide) rfl
      replace G := own_goto (q := 26) G X0.here hx (hb hby d1_22) (by decide) (by decide)
      obtain ⟨fs, hr, hrun, hended, hW, hsame⟩ := X0.leave (v := some (.int (1 : Int32))) (fun h => by rw [Bd.returns] at h; cases h)
      refine ⟨_, _, G _ (retOut X0 hx Bd.returns rfl (Or.inl ⟨rfl, Or.inr (Or.inl rfl), _, rfl⟩) (hb hby d1_26) hr), hrun, hended, _, _, rfl, ?_, ⟨_, rfl⟩, hW, hsame.mono (by decide) (by decide)⟩
      show Q1 Z y h0 n0 _ s₁.heap _
      rw [e0]
      exact ⟨(congrArg (fun z => some (Value.int z)) (by simp [own_isn, own_pe, hc3_1, hc9_3])), N0, rfl⟩
theorem d2_0 : decode method_2_code 0 = .ok (.iload_n 0, 1) := by decide +kernel
theorem d2_1 : decode method_2_code 1 = .ok (.ldc 7, 2) := by decide +kernel
theorem d2_3 : decode method_2_code 3 = .ok (.irem, 1) := by decide +kernel
theorem d2_4 : decode method_2_code 4 = .ok (.istore_n 1, 1) := by decide +kernel
theorem d2_5 : decode method_2_code 5 = .ok (.iload_n 0, 1) := by decide +kernel
theorem d2_6 : decode method_2_code 6 = .ok (.ldc 8, 2) := by decide +kernel
theorem d2_8 : decode method_2_code 8 = .ok (.if_icmp .lt 13, 3) := by decide +kernel
theorem d2_11 : decode method_2_code 11 = .ok (.iload_n 0, 1) := by decide +kernel
theorem d2_12 : decode method_2_code 12 = .ok (.ldc 9, 2) := by decide +kernel
theorem d2_14 : decode method_2_code 14 = .ok (.if_icmp .gt 7, 3) := by decide +kernel
theorem d2_17 : decode method_2_code 17 = .ok (.iconst 1, 1) := by decide +kernel
theorem d2_18 : decode method_2_code 18 = .ok (.goto 4, 3) := by decide +kernel
theorem d2_21 : decode method_2_code 21 = .ok (.iconst 0, 1) := by decide +kernel
theorem d2_22 : decode method_2_code 22 = .ok (.istore_n 2, 1) := by decide +kernel
theorem d2_23 : decode method_2_code 23 = .ok (.iload_n 1, 1) := by decide +kernel
theorem d2_24 : decode method_2_code 24 = .ok (.ldc 10, 2) := by decide +kernel
theorem d2_26 : decode method_2_code 26 = .ok (.if_icmp .eq 9, 3) := by decide +kernel
theorem d2_29 : decode method_2_code 29 = .ok (.iload_n 1, 1) := by decide +kernel
theorem d2_30 : decode method_2_code 30 = .ok (.ldc 11, 2) := by decide +kernel
theorem d2_32 : decode method_2_code 32 = .ok (.if_icmp .ne 7, 3) := by decide +kernel
theorem d2_35 : decode method_2_code 35 = .ok (.iconst 1, 1) := by decide +kernel
theorem d2_36 : decode method_2_code 36 = .ok (.goto 4, 3) := by decide +kernel
theorem d2_39 : decode method_2_code 39 = .ok (.iconst 0, 1) := by decide +kernel
theorem d2_40 : decode method_2_code 40 = .ok (.istore_n 3, 1) := by decide +kernel
theorem d2_41 : decode method_2_code 41 = .ok (.iload_n 2, 1) := by decide +kernel
theorem d2_42 : decode method_2_code 42 = .ok (.ifCond .ne 7, 3) := by decide +kernel
theorem d2_45 : decode method_2_code 45 = .ok (.iload_n 3, 1) := by decide +kernel
theorem d2_46 : decode method_2_code 46 = .ok (.ifCond .eq 7, 3) := by decide +kernel
theorem d2_49 : decode method_2_code 49 = .ok (.iconst 1, 1) := by decide +kernel
theorem d2_50 : decode method_2_code 50 = .ok (.goto 4, 3) := by decide +kernel
theorem d2_53 : decode method_2_code 53 = .ok (.iconst 0, 1) := by decide +kernel
theorem d2_54 : decode method_2_code 54 = .ok (.ireturn, 1) := by decide +kernel
theorem pn_com_example_leafcutter_leafcutter_io_InputIsNoncharacterPinLaw : plainName "com/example/leafcutter/leafcutter/io/InputIsNoncharacterPinLaw" = true := by first | (simp [plainName, overriddenIn]; done) | decide +kernel
theorem ef_2 (m : MethodId) (x0 : Int32) : entryFrame m #[(.int x0)] 4 = mkF m 0 #[.val (.int x0), .unset, .unset, .unset] [] := by first | (simp [entryFrame, mkF, argsToLocals, Value.category]; done) | rfl
def Q2 (Z : State) (y : Int32) (h0 : Heap) (n0 : Nat) (v : Option Value) (h : Heap) (L : List Loc) : Prop := v = some (.int (own_ref y)) ∧ Fr n0 L ∧ h = h0
set_option maxRecDepth 65536 in
set_option maxHeartbeats 40000000 in
theorem rm2 (l : Launch) (Z : State) (a0 : Array Value) (hw : ∀ d ∈ tables_1, d.before a0 Z = true) (ws : List Jvm.Cond) (y : Int32) (h0 : Heap) (n0 : Nat) (Z0 : n0 ≤ h0.size)  :
    MetFree l (⟨"com/example/leafcutter/leafcutter/io/InputIsNoncharacterPinLaw", "ref", "(I)Z"⟩ : MethodName) (head1 (Jvm.Cond.code (⟨"com/example/leafcutter/leafcutter/io/InputIsNoncharacterPinLaw", "ref", "(I)Z"⟩ : MethodName) method_2_code 4 (some .boolean) :: ws) ({ frames := 0, cells := 0, slots := 0, locals := 0 } : Room)) (fun zz U => zz = #[(.int y)] ∧ Z.Warmed39 U.vm ∧ U.heap = h0) (fun _ _ _ _ _ => True) (fun _ U o U' => ∃ v L, o = .returned v ∧ Q2 Z y h0 n0 v U'.heap L ∧ FrameEnd U o U' L ({ frames := 0, cells := 0, slots := 0, locals := 0 } : Room).cells ({ frames := 0, cells := 0, slots := 0, locals := 0 } : Room).slots) := by
  refine MetFree.of_bodySF (plainFor_of_name pn_com_example_leafcutter_leafcutter_io_InputIsNoncharacterPinLaw) hisR ?_
  intro p e s m args below meth c s₁ Bd hml0 hP hK
  obtain ⟨rfl, hZ, hh⟩ := hP
  have hx := Bd.exec
  have hby := Bd.bytes
  have hml : c.maxLocals = 4 := hml0
  have hown : s.vm.findClass "com/example/leafcutter/leafcutter/io/InputIsNoncharacterPinLaw" = some m.cls := findClass_of_methodNamed Bd.named
  have hnm := (name_of_methodNamed Bd.named Bd.method).1
  have X0 : Stand p l e ({ frames := 0, cells := 0, slots := 0, locals := 0 } : Room) s m #[(.int y)] below meth c s₁ [] 0 0 := Stand.of_body Bd
  have e0 : s₁.heap = h0 := by rw [← hh, Bd.state]; rfl
  have N0 := Fr.nil n0
  have G : Gets p e below (s₁.setTop (entryFrame m #[(.int y)] 4)) (s₁.setTop (mkF m 0 #[.val (.int y), .unset, .unset, .unset] [])) := fun t k => castTop (ef_2 m y) k
  replace G := own_iloadN (q := 1) G X0.here hx (hb hby d2_0) rfl rfl
  replace G : Gets p e below _ (s₁.setTop (mkF m 3 #[.val (.int y), .unset, .unset, .unset] [(.int (65536 : Int32)), (.int y)])) := fun t k => G t (X0.ldcInt hx hown (mvT hZ (hw _ (List.mem_of_getElem? (i := 2) rfl))) (g := (mkF m 1 #[.val (.int y), .unset, .unset, .unset] [(.int y)])) rfl (hb hby d2_1) t k)
  replace G := own_irem (q := 4) G X0.here hx (hb hby d2_3) (by decide) rfl rfl
  replace G := own_istoreN (q := 5) (l' := #[.val (.int y), .val (.int (y % (65536 : Int32))), .unset, .unset]) G X0.here hx (hb hby d2_4) rfl rfl
  replace G := own_iloadN (q := 6) G X0.here hx (hb hby d2_5) rfl rfl
  replace G : Gets p e below _ (s₁.setTop (mkF m 8 #[.val (.int y), .val (.int (y % (65536 : Int32))), .unset, .unset] [(.int (64976 : Int32)), (.int y)])) := fun t k => G t (X0.ldcInt hx hown (mvT hZ (hw _ (List.mem_of_getElem? (i := 15) rfl))) (g := (mkF m 6 #[.val (.int y), .val (.int (y % (65536 : Int32))), .unset, .unset] [(.int y)])) rfl (hb hby d2_6) t k)
  by_cases hc8_1 : y < (64976 : Int32)
  · replace G := own_icmpYes (q := 21) G X0.here hx (hb hby d2_8) (tlt hc8_1).1 (by decide) (by decide)
    replace G := own_iconst (q := 22) G X0.here hx (hb hby d2_21) (v := (0 : Int32)) (by decide) rfl
    replace G := own_istoreN (q := 23) (l' := #[.val (.int y), .val (.int (y % (65536 : Int32))), .val (.int (0 : Int32)), .unset]) G X0.here hx (hb hby d2_22) rfl rfl
    replace G := own_iloadN (q := 24) G X0.here hx (hb hby d2_23) rfl rfl
    replace G : Gets p e below _ (s₁.setTop (mkF m 26 #[.val (.int y), .val (.int (y % (65536 : Int32))), .val (.int (0 : Int32)), .unset] [(.int (65534 : Int32)), (.int (y % (65536 : Int32)))])) := fun t k => G t (X0.ldcInt hx hown (mvT hZ (hw _ (List.mem_of_getElem? (i := 16) rfl))) (g := (mkF m 24 #[.val (.int y), .val (.int (y % (65536 : Int32))), .val (.int (0 : Int32)), .unset] [(.int (y % (65536 : Int32)))])) rfl (hb hby d2_24) t k)
    by_cases hc26_2 : (y % (65536 : Int32)) = (65534 : Int32)
    · replace G := own_icmpYes (q := 35) G X0.here hx (hb hby d2_26) (teq hc26_2).1 (by decide) (by decide)
      replace G := own_iconst (q := 36) G X0.here hx (hb hby d2_35) (v := (1 : Int32)) (by decide) rfl
      replace G := own_goto (q := 40) G X0.here hx (hb hby d2_36) (by decide) (by decide)
      replace G := own_istoreN (q := 41) (l' := #[.val (.int y), .val (.int (y % (65536 : Int32))), .val (.int (0 : Int32)), .val (.int (1 : Int32))]) G X0.here hx (hb hby d2_40) rfl rfl
      replace G := own_iloadN (q := 42) G X0.here hx (hb hby d2_41) rfl rfl
      have hc42_3 : (0 : Int32) = (0 : Int32) := by decide
      replace G := own_ifNo (q := 45) G X0.here hx (hb hby d2_42) ((if0 _ _).trans (teq hc42_3).2) rfl
      replace G := own_iloadN (q := 46) G X0.here hx (hb hby d2_45) rfl rfl
      have hc46_4 : ¬ ((1 : Int32) = (0 : Int32)) := by decide
      replace G := own_ifNo (q := 49) G X0.here hx (hb hby d2_46) ((if0 _ _).trans (feq hc46_4).1) rfl
      replace G := own_iconst (q := 50) G X0.here hx (hb hby d2_49) (v := (1 : Int32)) (by decide) rfl
      replace G := own_goto (q := 54) G X0.here hx (hb hby d2_50) (by decide) (by decide)
      obtain ⟨fs, hr, hrun, hended, hW, hsame⟩ := X0.leave (v := some (.int (1 : Int32))) (fun h => by rw [Bd.returns] at h; cases h)
      refine ⟨_, _, G _ (retOut X0 hx Bd.returns rfl (Or.inl ⟨rfl, Or.inr (Or.inl rfl), _, rfl⟩) (hb hby d2_54) hr), hrun, hended, _, _, rfl, ?_, ⟨_, rfl⟩, hW, hsame.mono (by decide) (by decide)⟩
      show Q2 Z y h0 n0 _ s₁.heap _
      rw [e0]
      exact ⟨(congrArg (fun z => some (Value.int z)) (by simp [own_ref, own_re, hc8_1, hc26_2, hc42_3, hc46_4])), N0, rfl⟩
    · replace G := own_icmpNo (q := 29) G X0.here hx (hb hby d2_26) (feq hc26_2).1 rfl
      replace G := own_iloadN (q := 30) G X0.here hx (hb hby d2_29) rfl rfl
      replace G : Gets p e below _ (s₁.setTop (mkF m 32 #[.val (.int y), .val (.int (y % (65536 : Int32))), .val (.int (0 : Int32)), .unset] [(.int (65535 : Int32)), (.int (y % (65536 : Int32)))])) := fun t k => G t (X0.ldcInt hx hown (mvT hZ (hw _ (List.mem_of_getElem? (i := 17) rfl))) (g := (mkF m 30 #[.val (.int y), .val (.int (y % (65536 : Int32))), .val (.int (0 : Int32)), .unset] [(.int (y % (65536 : Int32)))])) rfl (hb hby d2_30) t k)
      by_cases hc32_5 : (y % (65536 : Int32)) = (65535 : Int32)
      · replace G := own_icmpNo (q := 35) G X0.here hx (hb hby d2_32) (teq hc32_5).2 rfl
        replace G := own_iconst (q := 36) G X0.here hx (hb hby d2_35) (v := (1 : Int32)) (by decide) rfl
        replace G := own_goto (q := 40) G X0.here hx (hb hby d2_36) (by decide) (by decide)
        replace G := own_istoreN (q := 41) (l' := #[.val (.int y), .val (.int (y % (65536 : Int32))), .val (.int (0 : Int32)), .val (.int (1 : Int32))]) G X0.here hx (hb hby d2_40) rfl rfl
        replace G := own_iloadN (q := 42) G X0.here hx (hb hby d2_41) rfl rfl
        have hc42_6 : (0 : Int32) = (0 : Int32) := by decide
        replace G := own_ifNo (q := 45) G X0.here hx (hb hby d2_42) ((if0 _ _).trans (teq hc42_6).2) rfl
        replace G := own_iloadN (q := 46) G X0.here hx (hb hby d2_45) rfl rfl
        have hc46_7 : ¬ ((1 : Int32) = (0 : Int32)) := by decide
        replace G := own_ifNo (q := 49) G X0.here hx (hb hby d2_46) ((if0 _ _).trans (feq hc46_7).1) rfl
        replace G := own_iconst (q := 50) G X0.here hx (hb hby d2_49) (v := (1 : Int32)) (by decide) rfl
        replace G := own_goto (q := 54) G X0.here hx (hb hby d2_50) (by decide) (by decide)
        obtain ⟨fs, hr, hrun, hended, hW, hsame⟩ := X0.leave (v := some (.int (1 : Int32))) (fun h => by rw [Bd.returns] at h; cases h)
        refine ⟨_, _, G _ (retOut X0 hx Bd.returns rfl (Or.inl ⟨rfl, Or.inr (Or.inl rfl), _, rfl⟩) (hb hby d2_54) hr), hrun, hended, _, _, rfl, ?_, ⟨_, rfl⟩, hW, hsame.mono (by decide) (by decide)⟩
        show Q2 Z y h0 n0 _ s₁.heap _
        rw [e0]
        exact ⟨(congrArg (fun z => some (Value.int z)) (by simp [own_ref, own_re, hc8_1, hc26_2, hc32_5, hc42_6, hc46_7])), N0, rfl⟩
      · replace G := own_icmpYes (q := 39) G X0.here hx (hb hby d2_32) (feq hc32_5).2 (by decide) (by decide)
        replace G := own_iconst (q := 40) G X0.here hx (hb hby d2_39) (v := (0 : Int32)) (by decide) rfl
        replace G := own_istoreN (q := 41) (l' := #[.val (.int y), .val (.int (y % (65536 : Int32))), .val (.int (0 : Int32)), .val (.int (0 : Int32))]) G X0.here hx (hb hby d2_40) rfl rfl
        replace G := own_iloadN (q := 42) G X0.here hx (hb hby d2_41) rfl rfl
        have hc42_8 : (0 : Int32) = (0 : Int32) := by decide
        replace G := own_ifNo (q := 45) G X0.here hx (hb hby d2_42) ((if0 _ _).trans (teq hc42_8).2) rfl
        replace G := own_iloadN (q := 46) G X0.here hx (hb hby d2_45) rfl rfl
        have hc46_9 : (0 : Int32) = (0 : Int32) := by decide
        replace G := own_ifYes (q := 53) G X0.here hx (hb hby d2_46) ((if0 _ _).trans (teq hc46_9).1) (by decide) (by decide)
        replace G := own_iconst (q := 54) G X0.here hx (hb hby d2_53) (v := (0 : Int32)) (by decide) rfl
        obtain ⟨fs, hr, hrun, hended, hW, hsame⟩ := X0.leave (v := some (.int (0 : Int32))) (fun h => by rw [Bd.returns] at h; cases h)
        refine ⟨_, _, G _ (retOut X0 hx Bd.returns rfl (Or.inl ⟨rfl, Or.inr (Or.inl rfl), _, rfl⟩) (hb hby d2_54) hr), hrun, hended, _, _, rfl, ?_, ⟨_, rfl⟩, hW, hsame.mono (by decide) (by decide)⟩
        show Q2 Z y h0 n0 _ s₁.heap _
        rw [e0]
        exact ⟨(congrArg (fun z => some (Value.int z)) (by simp [own_ref, own_re, hc8_1, hc26_2, hc32_5, hc42_8, hc46_9])), N0, rfl⟩
  · replace G := own_icmpNo (q := 11) G X0.here hx (hb hby d2_8) (flt hc8_1).1 rfl
    replace G := own_iloadN (q := 12) G X0.here hx (hb hby d2_11) rfl rfl
    replace G : Gets p e below _ (s₁.setTop (mkF m 14 #[.val (.int y), .val (.int (y % (65536 : Int32))), .unset, .unset] [(.int (65007 : Int32)), (.int y)])) := fun t k => G t (X0.ldcInt hx hown (mvT hZ (hw _ (List.mem_of_getElem? (i := 19) rfl))) (g := (mkF m 12 #[.val (.int y), .val (.int (y % (65536 : Int32))), .unset, .unset] [(.int y)])) rfl (hb hby d2_12) t k)
    by_cases hc14_10 : (65007 : Int32) < y
    · replace G := own_icmpYes (q := 21) G X0.here hx (hb hby d2_14) (tlt hc14_10).2.2.1 (by decide) (by decide)
      replace G := own_iconst (q := 22) G X0.here hx (hb hby d2_21) (v := (0 : Int32)) (by decide) rfl
      replace G := own_istoreN (q := 23) (l' := #[.val (.int y), .val (.int (y % (65536 : Int32))), .val (.int (0 : Int32)), .unset]) G X0.here hx (hb hby d2_22) rfl rfl
      replace G := own_iloadN (q := 24) G X0.here hx (hb hby d2_23) rfl rfl
      replace G : Gets p e below _ (s₁.setTop (mkF m 26 #[.val (.int y), .val (.int (y % (65536 : Int32))), .val (.int (0 : Int32)), .unset] [(.int (65534 : Int32)), (.int (y % (65536 : Int32)))])) := fun t k => G t (X0.ldcInt hx hown (mvT hZ (hw _ (List.mem_of_getElem? (i := 16) rfl))) (g := (mkF m 24 #[.val (.int y), .val (.int (y % (65536 : Int32))), .val (.int (0 : Int32)), .unset] [(.int (y % (65536 : Int32)))])) rfl (hb hby d2_24) t k)
      by_cases hc26_11 : (y % (65536 : Int32)) = (65534 : Int32)
      · replace G := own_icmpYes (q := 35) G X0.here hx (hb hby d2_26) (teq hc26_11).1 (by decide) (by decide)
        replace G := own_iconst (q := 36) G X0.here hx (hb hby d2_35) (v := (1 : Int32)) (by decide) rfl
        replace G := own_goto (q := 40) G X0.here hx (hb hby d2_36) (by decide) (by decide)
        replace G := own_istoreN (q := 41) (l' := #[.val (.int y), .val (.int (y % (65536 : Int32))), .val (.int (0 : Int32)), .val (.int (1 : Int32))]) G X0.here hx (hb hby d2_40) rfl rfl
        replace G := own_iloadN (q := 42) G X0.here hx (hb hby d2_41) rfl rfl
        have hc42_12 : (0 : Int32) = (0 : Int32) := by decide
        replace G := own_ifNo (q := 45) G X0.here hx (hb hby d2_42) ((if0 _ _).trans (teq hc42_12).2) rfl
        replace G := own_iloadN (q := 46) G X0.here hx (hb hby d2_45) rfl rfl
        have hc46_13 : ¬ ((1 : Int32) = (0 : Int32)) := by decide
        replace G := own_ifNo (q := 49) G X0.here hx (hb hby d2_46) ((if0 _ _).trans (feq hc46_13).1) rfl
        replace G := own_iconst (q := 50) G X0.here hx (hb hby d2_49) (v := (1 : Int32)) (by decide) rfl
        replace G := own_goto (q := 54) G X0.here hx (hb hby d2_50) (by decide) (by decide)
        obtain ⟨fs, hr, hrun, hended, hW, hsame⟩ := X0.leave (v := some (.int (1 : Int32))) (fun h => by rw [Bd.returns] at h; cases h)
        refine ⟨_, _, G _ (retOut X0 hx Bd.returns rfl (Or.inl ⟨rfl, Or.inr (Or.inl rfl), _, rfl⟩) (hb hby d2_54) hr), hrun, hended, _, _, rfl, ?_, ⟨_, rfl⟩, hW, hsame.mono (by decide) (by decide)⟩
        show Q2 Z y h0 n0 _ s₁.heap _
        rw [e0]
        exact ⟨(congrArg (fun z => some (Value.int z)) (by simp [own_ref, own_re, hc8_1, hc14_10, hc26_11, hc42_12, hc46_13])), N0, rfl⟩
      · replace G := own_icmpNo (q := 29) G X0.here hx (hb hby d2_26) (feq hc26_11).1 rfl
        replace G := own_iloadN (q := 30) G X0.here hx (hb hby d2_29) rfl rfl
        replace G : Gets p e below _ (s₁.setTop (mkF m 32 #[.val (.int y), .val (.int (y % (65536 : Int32))), .val (.int (0 : Int32)), .unset] [(.int (65535 : Int32)), (.int (y % (65536 : Int32)))])) := fun t k => G t (X0.ldcInt hx hown (mvT hZ (hw _ (List.mem_of_getElem? (i := 17) rfl))) (g := (mkF m 30 #[.val (.int y), .val (.int (y % (65536 : Int32))), .val (.int (0 : Int32)), .unset] [(.int (y % (65536 : Int32)))])) rfl (hb hby d2_30) t k)
        by_cases hc32_14 : (y % (65536 : Int32)) = (65535 : Int32)
        · replace G := own_icmpNo (q := 35) G X0.here hx (hb hby d2_32) (teq hc32_14).2 rfl
          replace G := own_iconst (q := 36) G X0.here hx (hb hby d2_35) (v := (1 : Int32)) (by decide) rfl
          replace G := own_goto (q := 40) G X0.here hx (hb hby d2_36) (by decide) (by decide)
          replace G := own_istoreN (q := 41) (l' := #[.val (.int y), .val (.int (y % (65536 : Int32))), .val (.int (0 : Int32)), .val (.int (1 : Int32))]) G X0.here hx (hb hby d2_40) rfl rfl
          replace G := own_iloadN (q := 42) G X0.here hx (hb hby d2_41) rfl rfl
          have hc42_15 : (0 : Int32) = (0 : Int32) := by decide
          replace G := own_ifNo (q := 45) G X0.here hx (hb hby d2_42) ((if0 _ _).trans (teq hc42_15).2) rfl
          replace G := own_iloadN (q := 46) G X0.here hx (hb hby d2_45) rfl rfl
          have hc46_16 : ¬ ((1 : Int32) = (0 : Int32)) := by decide
          replace G := own_ifNo (q := 49) G X0.here hx (hb hby d2_46) ((if0 _ _).trans (feq hc46_16).1) rfl
          replace G := own_iconst (q := 50) G X0.here hx (hb hby d2_49) (v := (1 : Int32)) (by decide) rfl
          replace G := own_goto (q := 54) G X0.here hx (hb hby d2_50) (by decide) (by decide)
          obtain ⟨fs, hr, hrun, hended, hW, hsame⟩ := X0.leave (v := some (.int (1 : Int32))) (fun h => by rw [Bd.returns] at h; cases h)
          refine ⟨_, _, G _ (retOut X0 hx Bd.returns rfl (Or.inl ⟨rfl, Or.inr (Or.inl rfl), _, rfl⟩) (hb hby d2_54) hr), hrun, hended, _, _, rfl, ?_, ⟨_, rfl⟩, hW, hsame.mono (by decide) (by decide)⟩
          show Q2 Z y h0 n0 _ s₁.heap _
          rw [e0]
          exact ⟨(congrArg (fun z => some (Value.int z)) (by simp [own_ref, own_re, hc8_1, hc14_10, hc26_11, hc32_14, hc42_15, hc46_16])), N0, rfl⟩
        · replace G := own_icmpYes (q := 39) G X0.here hx (hb hby d2_32) (feq hc32_14).2 (by decide) (by decide)
          replace G := own_iconst (q := 40) G X0.here hx (hb hby d2_39) (v := (0 : Int32)) (by decide) rfl
          replace G := own_istoreN (q := 41) (l' := #[.val (.int y), .val (.int (y % (65536 : Int32))), .val (.int (0 : Int32)), .val (.int (0 : Int32))]) G X0.here hx (hb hby d2_40) rfl rfl
          replace G := own_iloadN (q := 42) G X0.here hx (hb hby d2_41) rfl rfl
          have hc42_17 : (0 : Int32) = (0 : Int32) := by decide
          replace G := own_ifNo (q := 45) G X0.here hx (hb hby d2_42) ((if0 _ _).trans (teq hc42_17).2) rfl
          replace G := own_iloadN (q := 46) G X0.here hx (hb hby d2_45) rfl rfl
          have hc46_18 : (0 : Int32) = (0 : Int32) := by decide
          replace G := own_ifYes (q := 53) G X0.here hx (hb hby d2_46) ((if0 _ _).trans (teq hc46_18).1) (by decide) (by decide)
          replace G := own_iconst (q := 54) G X0.here hx (hb hby d2_53) (v := (0 : Int32)) (by decide) rfl
          obtain ⟨fs, hr, hrun, hended, hW, hsame⟩ := X0.leave (v := some (.int (0 : Int32))) (fun h => by rw [Bd.returns] at h; cases h)
          refine ⟨_, _, G _ (retOut X0 hx Bd.returns rfl (Or.inl ⟨rfl, Or.inr (Or.inl rfl), _, rfl⟩) (hb hby d2_54) hr), hrun, hended, _, _, rfl, ?_, ⟨_, rfl⟩, hW, hsame.mono (by decide) (by decide)⟩
          show Q2 Z y h0 n0 _ s₁.heap _
          rw [e0]
          exact ⟨(congrArg (fun z => some (Value.int z)) (by simp [own_ref, own_re, hc8_1, hc14_10, hc26_11, hc32_14, hc42_17, hc46_18])), N0, rfl⟩
    · replace G := own_icmpNo (q := 17) G X0.here hx (hb hby d2_14) (flt hc14_10).2.2.1 rfl
      replace G := own_iconst (q := 18) G X0.here hx (hb hby d2_17) (v := (1 : Int32)) (by decide) rfl
      replace G := own_goto (q := 22) G X0.here hx (hb hby d2_18) (by decide) (by decide)
      replace G := own_istoreN (q := 23) (l' := #[.val (.int y), .val (.int (y % (65536 : Int32))), .val (.int (1 : Int32)), .unset]) G X0.here hx (hb hby d2_22) rfl rfl
      replace G := own_iloadN (q := 24) G X0.here hx (hb hby d2_23) rfl rfl
      replace G : Gets p e below _ (s₁.setTop (mkF m 26 #[.val (.int y), .val (.int (y % (65536 : Int32))), .val (.int (1 : Int32)), .unset] [(.int (65534 : Int32)), (.int (y % (65536 : Int32)))])) := fun t k => G t (X0.ldcInt hx hown (mvT hZ (hw _ (List.mem_of_getElem? (i := 16) rfl))) (g := (mkF m 24 #[.val (.int y), .val (.int (y % (65536 : Int32))), .val (.int (1 : Int32)), .unset] [(.int (y % (65536 : Int32)))])) rfl (hb hby d2_24) t k)
      by_cases hc26_19 : (y % (65536 : Int32)) = (65534 : Int32)
      · replace G := own_icmpYes (q := 35) G X0.here hx (hb hby d2_26) (teq hc26_19).1 (by decide) (by decide)
        replace G := own_iconst (q := 36) G X0.here hx (hb hby d2_35) (v := (1 : Int32)) (by decide) rfl
        replace G := own_goto (q := 40) G X0.here hx (hb hby d2_36) (by decide) (by decide)
        replace G := own_istoreN (q := 41) (l' := #[.val (.int y), .val (.int (y % (65536 : Int32))), .val (.int (1 : Int32)), .val (.int (1 : Int32))]) G X0.here hx (hb hby d2_40) rfl rfl
        replace G := own_iloadN (q := 42) G X0.here hx (hb hby d2_41) rfl rfl
        have hc42_20 : ¬ ((1 : Int32) = (0 : Int32)) := by decide
        replace G := own_ifYes (q := 49) G X0.here hx (hb hby d2_42) ((if0 _ _).trans (feq hc42_20).2) (by decide) (by decide)
        replace G := own_iconst (q := 50) G X0.here hx (hb hby d2_49) (v := (1 : Int32)) (by decide) rfl
        replace G := own_goto (q := 54) G X0.here hx (hb hby d2_50) (by decide) (by decide)
        obtain ⟨fs, hr, hrun, hended, hW, hsame⟩ := X0.leave (v := some (.int (1 : Int32))) (fun h => by rw [Bd.returns] at h; cases h)
        refine ⟨_, _, G _ (retOut X0 hx Bd.returns rfl (Or.inl ⟨rfl, Or.inr (Or.inl rfl), _, rfl⟩) (hb hby d2_54) hr), hrun, hended, _, _, rfl, ?_, ⟨_, rfl⟩, hW, hsame.mono (by decide) (by decide)⟩
        show Q2 Z y h0 n0 _ s₁.heap _
        rw [e0]
        exact ⟨(congrArg (fun z => some (Value.int z)) (by simp [own_ref, own_re, hc8_1, hc14_10, hc26_19, hc42_20])), N0, rfl⟩
      · replace G := own_icmpNo (q := 29) G X0.here hx (hb hby d2_26) (feq hc26_19).1 rfl
        replace G := own_iloadN (q := 30) G X0.here hx (hb hby d2_29) rfl rfl
        replace G : Gets p e below _ (s₁.setTop (mkF m 32 #[.val (.int y), .val (.int (y % (65536 : Int32))), .val (.int (1 : Int32)), .unset] [(.int (65535 : Int32)), (.int (y % (65536 : Int32)))])) := fun t k => G t (X0.ldcInt hx hown (mvT hZ (hw _ (List.mem_of_getElem? (i := 17) rfl))) (g := (mkF m 30 #[.val (.int y), .val (.int (y % (65536 : Int32))), .val (.int (1 : Int32)), .unset] [(.int (y % (65536 : Int32)))])) rfl (hb hby d2_30) t k)
        by_cases hc32_21 : (y % (65536 : Int32)) = (65535 : Int32)
        · replace G := own_icmpNo (q := 35) G X0.here hx (hb hby d2_32) (teq hc32_21).2 rfl
          replace G := own_iconst (q := 36) G X0.here hx (hb hby d2_35) (v := (1 : Int32)) (by decide) rfl
          replace G := own_goto (q := 40) G X0.here hx (hb hby d2_36) (by decide) (by decide)
          replace G := own_istoreN (q := 41) (l' := #[.val (.int y), .val (.int (y % (65536 : Int32))), .val (.int (1 : Int32)), .val (.int (1 : Int32))]) G X0.here hx (hb hby d2_40) rfl rfl
          replace G := own_iloadN (q := 42) G X0.here hx (hb hby d2_41) rfl rfl
          have hc42_22 : ¬ ((1 : Int32) = (0 : Int32)) := by decide
          replace G := own_ifYes (q := 49) G X0.here hx (hb hby d2_42) ((if0 _ _).trans (feq hc42_22).2) (by decide) (by decide)
          replace G := own_iconst (q := 50) G X0.here hx (hb hby d2_49) (v := (1 : Int32)) (by decide) rfl
          replace G := own_goto (q := 54) G X0.here hx (hb hby d2_50) (by decide) (by decide)
          obtain ⟨fs, hr, hrun, hended, hW, hsame⟩ := X0.leave (v := some (.int (1 : Int32))) (fun h => by rw [Bd.returns] at h; cases h)
          refine ⟨_, _, G _ (retOut X0 hx Bd.returns rfl (Or.inl ⟨rfl, Or.inr (Or.inl rfl), _, rfl⟩) (hb hby d2_54) hr), hrun, hended, _, _, rfl, ?_, ⟨_, rfl⟩, hW, hsame.mono (by decide) (by decide)⟩
          show Q2 Z y h0 n0 _ s₁.heap _
          rw [e0]
          exact ⟨(congrArg (fun z => some (Value.int z)) (by simp [own_ref, own_re, hc8_1, hc14_10, hc26_19, hc32_21, hc42_22])), N0, rfl⟩
        · replace G := own_icmpYes (q := 39) G X0.here hx (hb hby d2_32) (feq hc32_21).2 (by decide) (by decide)
          replace G := own_iconst (q := 40) G X0.here hx (hb hby d2_39) (v := (0 : Int32)) (by decide) rfl
          replace G := own_istoreN (q := 41) (l' := #[.val (.int y), .val (.int (y % (65536 : Int32))), .val (.int (1 : Int32)), .val (.int (0 : Int32))]) G X0.here hx (hb hby d2_40) rfl rfl
          replace G := own_iloadN (q := 42) G X0.here hx (hb hby d2_41) rfl rfl
          have hc42_23 : ¬ ((1 : Int32) = (0 : Int32)) := by decide
          replace G := own_ifYes (q := 49) G X0.here hx (hb hby d2_42) ((if0 _ _).trans (feq hc42_23).2) (by decide) (by decide)
          replace G := own_iconst (q := 50) G X0.here hx (hb hby d2_49) (v := (1 : Int32)) (by decide) rfl
          replace G := own_goto (q := 54) G X0.here hx (hb hby d2_50) (by decide) (by decide)
          obtain ⟨fs, hr, hrun, hended, hW, hsame⟩ := X0.leave (v := some (.int (1 : Int32))) (fun h => by rw [Bd.returns] at h; cases h)
          refine ⟨_, _, G _ (retOut X0 hx Bd.returns rfl (Or.inl ⟨rfl, Or.inr (Or.inl rfl), _, rfl⟩) (hb hby d2_54) hr), hrun, hended, _, _, rfl, ?_, ⟨_, rfl⟩, hW, hsame.mono (by decide) (by decide)⟩
          show Q2 Z y h0 n0 _ s₁.heap _
          rw [e0]
          exact ⟨(congrArg (fun z => some (Value.int z)) (by simp [own_ref, own_re, hc8_1, hc14_10, hc26_19, hc32_21, hc42_23])), N0, rfl⟩
theorem pd_0 : parseMethodDescriptor "(I)Z" = some ⟨[.int], some .boolean⟩ := by decide +kernel
theorem ef_0 (m : MethodId) (x0 : Int32) (x1 : Int32) (x2 : Int32) : entryFrame m #[(.int x0), (.int x1), (.int x2)] maxLocals = mkF m 0 #[.val (.int x0), .val (.int x1), .val (.int x2), .unset, .unset, .unset, .unset, .unset, .unset, .unset] [] := by first | (simp [entryFrame, mkF, argsToLocals, Value.category, maxLocals]; done) | rfl
def Q0 (Z : State) (i0 : Int32) (i1 : Int32) (i2 : Int32) (h0 : Heap) (n0 : Nat) (v : Option Value) (h : Heap) (L : List Loc) : Prop := v = some (.int (1 : Int32)) ∧ Fr n0 L
set_option maxRecDepth 65536 in
set_option maxHeartbeats 40000000 in
theorem rm0 (l : Launch) (Z : State) (a0 : Array Value) (hw : ∀ d ∈ tables_1, d.before a0 Z = true) (ws : List Jvm.Cond) (i0 : Int32) (i1 : Int32) (i2 : Int32) (h0 : Heap) (n0 : Nat) (Z0 : n0 ≤ h0.size)  :
    MetFree l x (head1 (Jvm.Cond.code x code maxLocals ret :: ws) room_1) (fun zz U => zz = #[(.int i0), (.int i1), (.int i2)] ∧ Z.Warmed39 U.vm ∧ U.heap = h0) (fun _ _ _ _ _ => True) (fun _ U o U' => ∃ v L, o = .returned v ∧ Q0 Z i0 i1 i2 h0 n0 v U'.heap L ∧ FrameEnd U o U' L room_1.cells room_1.slots) := by
  refine MetFree.of_bodySF (plainFor_of_name pn_com_example_leafcutter_leafcutter_io_InputIsNoncharacterPinLaw) hisR ?_
  intro p e s m args below meth c s₁ Bd hml0 hP hK
  obtain ⟨rfl, hZ, hh⟩ := hP
  have hx := Bd.exec
  have hby := Bd.bytes
  have hml : c.maxLocals = 10 := hml0
  have hown : s.vm.findClass "com/example/leafcutter/leafcutter/io/InputIsNoncharacterPinLaw" = some m.cls := findClass_of_methodNamed Bd.named
  have hnm := (name_of_methodNamed Bd.named Bd.method).1
  have X0 : Stand p l e room_1 s m #[(.int i0), (.int i1), (.int i2)] below meth c s₁ [] 0 0 := Stand.of_body Bd
  have e0 : s₁.heap = h0 := by rw [← hh, Bd.state]; rfl
  have N0 := Fr.nil n0
  have G : Gets p e below (s₁.setTop (entryFrame m #[(.int i0), (.int i1), (.int i2)] maxLocals)) (s₁.setTop (mkF m 0 #[.val (.int i0), .val (.int i1), .val (.int i2), .unset, .unset, .unset, .unset, .unset, .unset, .unset] [])) := fun t k => castTop (ef_0 m i0 i1 i2) k
  replace G := own_iloadN (q := 1) G X0.here hx (hb hby at_0) rfl rfl
  replace G : Gets p e below _ (s₁.setTop (mkF m 3 #[.val (.int i0), .val (.int i1), .val (.int i2), .unset, .unset, .unset, .unset, .unset, .unset, .unset] [(.int (2147483647 : Int32)), (.int i0)])) := fun t k => G t (X0.ldcInt hx hown (mvT hZ (hw _ (List.mem_of_getElem? (i := 0) rfl))) (g := (mkF m 1 #[.val (.int i0), .val (.int i1), .val (.int i2), .unset, .unset, .unset, .unset, .unset, .unset, .unset] [(.int i0)])) rfl (hb hby at_1) t k)
  obtain ⟨u1, hn_u1⟩ : ∃ z : Int32, (i0 &&& (2147483647 : Int32)) = z := ⟨_, rfl⟩
  replace G := own_iand (q := 4) G X0.here hx (hb hby at_3) hn_u1 rfl
  replace G : Gets p e below _ (s₁.setTop (mkF m 6 #[.val (.int i0), .val (.int i1), .val (.int i2), .unset, .unset, .unset, .unset, .unset, .unset, .unset] [(.int (1114112 : Int32)), (.int u1)])) := fun t k => G t (X0.ldcInt hx hown (mvT hZ (hw _ (List.mem_of_getElem? (i := 1) rfl))) (g := (mkF m 4 #[.val (.int i0), .val (.int i1), .val (.int i2), .unset, .unset, .unset, .unset, .unset, .unset, .unset] [(.int u1)])) rfl (hb hby at_4) t k)
  obtain ⟨cp1, hn_cp1⟩ : ∃ z : Int32, (u1 % (1114112 : Int32)) = z := ⟨_, rfl⟩
  replace G := own_irem (q := 7) G X0.here hx (hb hby at_6) (by decide) hn_cp1 rfl
  replace G := own_istoreN (q := 8) (l' := #[.val (.int i0), .val (.int i1), .val (.int i2), .val (.int cp1), .unset, .unset, .unset, .unset, .unset, .unset]) G X0.here hx (hb hby at_7) rfl rfl
  replace G := own_iloadN (q := 9) G X0.here hx (hb hby at_8) rfl rfl
  replace G : Gets p e below _ (s₁.setTop (mkF m 11 #[.val (.int i0), .val (.int i1), .val (.int i2), .val (.int cp1), .unset, .unset, .unset, .unset, .unset, .unset] [(.int (2147483647 : Int32)), (.int i1)])) := fun t k => G t (X0.ldcInt hx hown (mvT hZ (hw _ (List.mem_of_getElem? (i := 0) rfl))) (g := (mkF m 9 #[.val (.int i0), .val (.int i1), .val (.int i2), .val (.int cp1), .unset, .unset, .unset, .unset, .unset, .unset] [(.int i1)])) rfl (hb hby at_9) t k)
  obtain ⟨u2, hn_u2⟩ : ∃ z : Int32, (i1 &&& (2147483647 : Int32)) = z := ⟨_, rfl⟩
  replace G := own_iand (q := 12) G X0.here hx (hb hby at_11) hn_u2 rfl
  replace G := own_bipush (q := 14) G X0.here hx (hb hby at_12) (v := (17 : Int32)) (by decide) rfl
  obtain ⟨pl, hn_pl⟩ : ∃ z : Int32, (u2 % (17 : Int32)) = z := ⟨_, rfl⟩
  replace G := own_irem (q := 15) G X0.here hx (hb hby at_14) (by decide) hn_pl rfl
  replace G := own_istore (q := 17) (l' := #[.val (.int i0), .val (.int i1), .val (.int i2), .val (.int cp1), .val (.int pl), .unset, .unset, .unset, .unset, .unset]) G X0.here hx (hb hby at_15) rfl rfl
  replace G := own_iload (q := 19) G X0.here hx (hb hby at_17) rfl rfl
  replace G : Gets p e below _ (s₁.setTop (mkF m 21 #[.val (.int i0), .val (.int i1), .val (.int i2), .val (.int cp1), .val (.int pl), .unset, .unset, .unset, .unset, .unset] [(.int (65536 : Int32)), (.int pl)])) := fun t k => G t (X0.ldcInt hx hown (mvT hZ (hw _ (List.mem_of_getElem? (i := 2) rfl))) (g := (mkF m 19 #[.val (.int i0), .val (.int i1), .val (.int i2), .val (.int cp1), .val (.int pl), .unset, .unset, .unset, .unset, .unset] [(.int pl)])) rfl (hb hby at_19) t k)
  obtain ⟨m2, hn_m2⟩ : ∃ z : Int32, (pl * (65536 : Int32)) = z := ⟨_, rfl⟩
  replace G := own_imul (q := 22) G X0.here hx (hb hby at_21) hn_m2 rfl
  replace G : Gets p e below _ (s₁.setTop (mkF m 24 #[.val (.int i0), .val (.int i1), .val (.int i2), .val (.int cp1), .val (.int pl), .unset, .unset, .unset, .unset, .unset] [(.int (65520 : Int32)), (.int m2)])) := fun t k => G t (X0.ldcInt hx hown (mvT hZ (hw _ (List.mem_of_getElem? (i := 3) rfl))) (g := (mkF m 22 #[.val (.int i0), .val (.int i1), .val (.int i2), .val (.int cp1), .val (.int pl), .unset, .unset, .unset, .unset, .unset] [(.int m2)])) rfl (hb hby at_22) t k)
  obtain ⟨s2, hn_s2⟩ : ∃ z : Int32, (m2 + (65520 : Int32)) = z := ⟨_, rfl⟩
  replace G := own_iadd (q := 25) G X0.here hx (hb hby at_24) hn_s2 rfl
  replace G := own_iloadN (q := 26) G X0.here hx (hb hby at_25) rfl rfl
  replace G := own_bipush (q := 28) G X0.here hx (hb hby at_26) (v := (15 : Int32)) (by decide) rfl
  obtain ⟨w2, hn_w2⟩ : ∃ z : Int32, (i2 &&& (15 : Int32)) = z := ⟨_, rfl⟩
  replace G := own_iand (q := 29) G X0.here hx (hb hby at_28) hn_w2 rfl
  obtain ⟨cp2, hn_cp2⟩ : ∃ z : Int32, (s2 + w2) = z := ⟨_, rfl⟩
  replace G := own_iadd (q := 30) G X0.here hx (hb hby at_29) hn_cp2 rfl
  replace G := own_istore (q := 32) (l' := #[.val (.int i0), .val (.int i1), .val (.int i2), .val (.int cp1), .val (.int pl), .val (.int cp2), .unset, .unset, .unset, .unset]) G X0.here hx (hb hby at_30) rfl rfl
  replace G := own_iload (q := 34) G X0.here hx (hb hby at_32) rfl rfl
  replace G : Gets p e below _ (s₁.setTop (mkF m 36 #[.val (.int i0), .val (.int i1), .val (.int i2), .val (.int cp1), .val (.int pl), .val (.int cp2), .unset, .unset, .unset, .unset] [(.int (65536 : Int32)), (.int pl)])) := fun t k => G t (X0.ldcInt hx hown (mvT hZ (hw _ (List.mem_of_getElem? (i := 2) rfl))) (g := (mkF m 34 #[.val (.int i0), .val (.int i1), .val (.int i2), .val (.int cp1), .val (.int pl), .val (.int cp2), .unset, .unset, .unset, .unset] [(.int pl)])) rfl (hb hby at_34) t k)
  obtain ⟨m3, hn_m3⟩ : ∃ z : Int32, (pl * (65536 : Int32)) = z := ⟨_, rfl⟩
  replace G := own_imul (q := 37) G X0.here hx (hb hby at_36) hn_m3 rfl
  replace G : Gets p e below _ (s₁.setTop (mkF m 39 #[.val (.int i0), .val (.int i1), .val (.int i2), .val (.int cp1), .val (.int pl), .val (.int cp2), .unset, .unset, .unset, .unset] [(.int (64960 : Int32)), (.int m3)])) := fun t k => G t (X0.ldcInt hx hown (mvT hZ (hw _ (List.mem_of_getElem? (i := 4) rfl))) (g := (mkF m 37 #[.val (.int i0), .val (.int i1), .val (.int i2), .val (.int cp1), .val (.int pl), .val (.int cp2), .unset, .unset, .unset, .unset] [(.int m3)])) rfl (hb hby at_37) t k)
  obtain ⟨s3, hn_s3⟩ : ∃ z : Int32, (m3 + (64960 : Int32)) = z := ⟨_, rfl⟩
  replace G := own_iadd (q := 40) G X0.here hx (hb hby at_39) hn_s3 rfl
  replace G := own_iloadN (q := 41) G X0.here hx (hb hby at_40) rfl rfl
  replace G := own_iconst (q := 42) G X0.here hx (hb hby at_41) (v := (4 : Int32)) (by decide) rfl
  obtain ⟨v3, hn_v3⟩ : ∃ z : Int32, ((i2.toUInt32 >>> ((4 : Int32) &&& 31).toUInt32).toInt32) = z := ⟨_, rfl⟩
  replace G := own_iushr (q := 43) G X0.here hx (hb hby at_42) hn_v3 rfl
  replace G := own_bipush (q := 45) G X0.here hx (hb hby at_43) (v := (63 : Int32)) (by decide) rfl
  obtain ⟨w3, hn_w3⟩ : ∃ z : Int32, (v3 &&& (63 : Int32)) = z := ⟨_, rfl⟩
  replace G := own_iand (q := 46) G X0.here hx (hb hby at_45) hn_w3 rfl
  obtain ⟨cp3, hn_cp3⟩ : ∃ z : Int32, (s3 + w3) = z := ⟨_, rfl⟩
  replace G := own_iadd (q := 47) G X0.here hx (hb hby at_46) hn_cp3 rfl
  replace G := own_istore (q := 49) (l' := #[.val (.int i0), .val (.int i1), .val (.int i2), .val (.int cp1), .val (.int pl), .val (.int cp2), .val (.int cp3), .unset, .unset, .unset]) G X0.here hx (hb hby at_47) rfl rfl
  replace G := own_iloadN (q := 50) G X0.here hx (hb hby at_49) rfl rfl
  have hm3 : m3 = m2 := hn_m3.symm.trans hn_m2
  rw [hm3] at hn_s3
  have a1 := c_mask i0 2147483647 31 (by decide) (by decide)
  rw [hn_u1] at a1
  have a2 := (c_irem u1 1114112 1114112 (by decide)).1 (by omega)
  rw [hn_cp1] at a2
  have k1 : ¬ cp1 < 0 := own_pos (by omega)
  have b1 := c_mask i1 2147483647 31 (by decide) (by decide)
  rw [hn_u2] at b1
  have b2 := (c_irem u2 17 17 (by decide)).1 (by omega)
  rw [hn_pl] at b2
  have b3 := c_imul pl 65536
  rw [hn_m2, show (65536 : Int32).toInt = 65536 from rfl] at b3
  have r1 := rng32 m2
  have b4 := c_iadd m2 65520
  rw [hn_s2, show (65520 : Int32).toInt = 65520 from rfl] at b4
  have r2 := rng32 s2
  have b5 := c_mask i2 15 4 (by decide) (by decide)
  rw [hn_w2] at b5
  have b6 := c_iadd s2 w2
  rw [hn_cp2] at b6
  have r3 := rng32 cp2
  have k2 : ¬ cp2 < 0 := own_pos (by omega)
  have d4 := c_iadd m2 64960
  rw [hn_s3, show (64960 : Int32).toInt = 64960 from rfl] at d4
  have r4 := rng32 s3
  have d5 := c_mask v3 63 6 (by decide) (by decide)
  rw [hn_w3] at d5
  have d6 := c_iadd s3 w3
  rw [hn_cp3] at d6
  have r5 := rng32 cp3
  have k3 : ¬ cp3 < 0 := own_pos (by omega)
  obtain ⟨_, _, ⟨T1, L1, kk1, nn1⟩, -, X1, ⟨Lc1, hQ1, l1, y1, z1⟩, st1⟩ := Jvm.LawKit.callS X0 hx (y := (⟨"com/example/leafcutter/leafcutter/io/Input", "isNoncharacter", "(I)Z"⟩ : MethodName)) hown (mvT hZ (hw _ (List.mem_of_getElem? (i := 5) rfl))) (mvT hZ (hw _ (List.mem_of_getElem? (i := 6) rfl))) (mvT hZ (hw _ (List.mem_of_getElem? (i := 7) rfl))) (mvT hZ (hw _ (List.mem_of_getElem? (i := 8) rfl))) (by decide) (backOf (W := 0) (rm1 l Z a0 hw [] cp1 h0 n0 Z0 ) hZ (hw _ (List.mem_of_getElem? (i := 8) rfl)) (hw _ (List.mem_of_getElem? (i := 7) rfl)) (by decide) (by decide)) (g := (mkF m 50 #[.val (.int i0), .val (.int i1), .val (.int i2), .val (.int cp1), .val (.int pl), .val (.int cp2), .val (.int cp3), .unset, .unset, .unset] [(.int cp1)])) rfl (by rw [hml]; rfl) (argsL := [(.int cp1)]) (rest := []) (lenOf pd_0 rfl) rfl (by show 2 * 0 + _ ≤ _; exact Nat.le_of_eq rfl) (hb hby at_50) (fun _ _ => ⟨rfl, e0, (by decide : 0 + 0 ≤ _), (by decide : 0 + 0 ≤ _)⟩)
  dsimp only [Pt.U, Pt.locs, Pt.cells, Pt.slots] at X1 l1 y1 z1 st1 hQ1
  subst l1 y1 z1
  obtain ⟨rfl, N1q, e1⟩ := hQ1
  have N1 := Fr.app N0 N1q
  replace G : Gets p e below _ (T1.setTop (mkF m 53 #[.val (.int i0), .val (.int i1), .val (.int i2), .val (.int cp1), .val (.int pl), .val (.int cp2), .val (.int cp3), .unset, .unset, .unset] [(.int (own_isn cp1))])) := fun t k => G t (st1 t k)
  replace G := own_iloadN (q := 54) G X1.here hx (hb hby at_53) rfl rfl
  obtain ⟨_, _, ⟨T2, L2, kk2, nn2⟩, -, X2, ⟨Lc2, hQ2, l2, y2, z2⟩, st2⟩ := Jvm.LawKit.callS X1 hx (y := (⟨"com/example/leafcutter/leafcutter/io/InputIsNoncharacterPinLaw", "ref", "(I)Z"⟩ : MethodName)) hown (mvT hZ (hw _ (List.mem_of_getElem? (i := 11) rfl))) (mvT hZ (hw _ (List.mem_of_getElem? (i := 12) rfl))) (mvT hZ (hw _ (List.mem_of_getElem? (i := 13) rfl))) (mvT hZ (hw _ (List.mem_of_getElem? (i := 14) rfl))) (by decide) (backOf (W := 1) (rm2 l Z a0 hw [] cp1 h0 n0 Z0 ) hZ (hw _ (List.mem_of_getElem? (i := 14) rfl)) (hw _ (List.mem_of_getElem? (i := 13) rfl)) (by decide) (by decide)) (g := (mkF m 54 #[.val (.int i0), .val (.int i1), .val (.int i2), .val (.int cp1), .val (.int pl), .val (.int cp2), .val (.int cp3), .unset, .unset, .unset] [(.int cp1), (.int (own_isn cp1))])) rfl (by rw [hml]; rfl) (argsL := [(.int cp1)]) (rest := [(.int (own_isn cp1))]) (lenOf pd_0 rfl) rfl (by show 2 * 0 + _ ≤ _; exact Nat.le_of_eq rfl) (hb hby at_54) (fun _ _ => ⟨rfl, e1, (by decide : 0 + 0 ≤ _), (by decide : 0 + 0 ≤ _)⟩)
  dsimp only [Pt.U, Pt.locs, Pt.cells, Pt.slots] at X2 l2 y2 z2 st2 hQ2
  subst l2 y2 z2
  obtain ⟨rfl, N2q, e2⟩ := hQ2
  have N2 := Fr.app N1 N2q
  replace G : Gets p e below _ (T2.setTop (mkF m 57 #[.val (.int i0), .val (.int i1), .val (.int i2), .val (.int cp1), .val (.int pl), .val (.int cp2), .val (.int cp3), .unset, .unset, .unset] [(.int (own_ref cp1)), (.int (own_isn cp1))])) := fun t k => G t (st2 t k)
  have hc57_3 : (own_isn cp1) = (own_ref cp1) := own_eq _ k1
  replace G := own_icmpNo (q := 60) G X2.here hx (hb hby at_57) (teq hc57_3).2 rfl
  replace G := own_iconst (q := 61) G X2.here hx (hb hby at_60) (v := (1 : Int32)) (by decide) rfl
  replace G := own_goto (q := 65) G X2.here hx (hb hby at_61) (by decide) (by decide)
  replace G := own_istore (q := 67) (l' := #[.val (.int i0), .val (.int i1), .val (.int i2), .val (.int cp1), .val (.int pl), .val (.int cp2), .val (.int cp3), .val (.int (1 : Int32)), .unset, .unset]) G X2.here hx (hb hby at_65) rfl rfl
  replace G := own_iload (q := 69) G X2.here hx (hb hby at_67) rfl rfl
  obtain ⟨_, _, ⟨T4, L4, kk4, nn4⟩, -, X4, ⟨Lc4, hQ4, l4, y4, z4⟩, st4⟩ := Jvm.LawKit.callS X2 hx (y := (⟨"com/example/leafcutter/leafcutter/io/Input", "isNoncharacter", "(I)Z"⟩ : MethodName)) hown (mvT hZ (hw _ (List.mem_of_getElem? (i := 5) rfl))) (mvT hZ (hw _ (List.mem_of_getElem? (i := 6) rfl))) (mvT hZ (hw _ (List.mem_of_getElem? (i := 7) rfl))) (mvT hZ (hw _ (List.mem_of_getElem? (i := 8) rfl))) (by decide) (backOf (W := 0) (rm1 l Z a0 hw [] cp2 h0 n0 Z0 ) hZ (hw _ (List.mem_of_getElem? (i := 8) rfl)) (hw _ (List.mem_of_getElem? (i := 7) rfl)) (by decide) (by decide)) (g := (mkF m 69 #[.val (.int i0), .val (.int i1), .val (.int i2), .val (.int cp1), .val (.int pl), .val (.int cp2), .val (.int cp3), .val (.int (1 : Int32)), .unset, .unset] [(.int cp2)])) rfl (by rw [hml]; rfl) (argsL := [(.int cp2)]) (rest := []) (lenOf pd_0 rfl) rfl (by show 2 * 0 + _ ≤ _; exact Nat.le_of_eq rfl) (hb hby at_69) (fun _ _ => ⟨rfl, e2, (by decide : 0 + 0 ≤ _), (by decide : 0 + 0 ≤ _)⟩)
  dsimp only [Pt.U, Pt.locs, Pt.cells, Pt.slots] at X4 l4 y4 z4 st4 hQ4
  subst l4 y4 z4
  obtain ⟨rfl, N4q, e4⟩ := hQ4
  have N4 := Fr.app N2 N4q
  replace G : Gets p e below _ (T4.setTop (mkF m 72 #[.val (.int i0), .val (.int i1), .val (.int i2), .val (.int cp1), .val (.int pl), .val (.int cp2), .val (.int cp3), .val (.int (1 : Int32)), .unset, .unset] [(.int (own_isn cp2))])) := fun t k => G t (st4 t k)
  replace G := own_iload (q := 74) G X4.here hx (hb hby at_72) rfl rfl
  obtain ⟨_, _, ⟨T5, L5, kk5, nn5⟩, -, X5, ⟨Lc5, hQ5, l5, y5, z5⟩, st5⟩ := Jvm.LawKit.callS X4 hx (y := (⟨"com/example/leafcutter/leafcutter/io/InputIsNoncharacterPinLaw", "ref", "(I)Z"⟩ : MethodName)) hown (mvT hZ (hw _ (List.mem_of_getElem? (i := 11) rfl))) (mvT hZ (hw _ (List.mem_of_getElem? (i := 12) rfl))) (mvT hZ (hw _ (List.mem_of_getElem? (i := 13) rfl))) (mvT hZ (hw _ (List.mem_of_getElem? (i := 14) rfl))) (by decide) (backOf (W := 1) (rm2 l Z a0 hw [] cp2 h0 n0 Z0 ) hZ (hw _ (List.mem_of_getElem? (i := 14) rfl)) (hw _ (List.mem_of_getElem? (i := 13) rfl)) (by decide) (by decide)) (g := (mkF m 74 #[.val (.int i0), .val (.int i1), .val (.int i2), .val (.int cp1), .val (.int pl), .val (.int cp2), .val (.int cp3), .val (.int (1 : Int32)), .unset, .unset] [(.int cp2), (.int (own_isn cp2))])) rfl (by rw [hml]; rfl) (argsL := [(.int cp2)]) (rest := [(.int (own_isn cp2))]) (lenOf pd_0 rfl) rfl (by show 2 * 0 + _ ≤ _; exact Nat.le_of_eq rfl) (hb hby at_74) (fun _ _ => ⟨rfl, e4, (by decide : 0 + 0 ≤ _), (by decide : 0 + 0 ≤ _)⟩)
  dsimp only [Pt.U, Pt.locs, Pt.cells, Pt.slots] at X5 l5 y5 z5 st5 hQ5
  subst l5 y5 z5
  obtain ⟨rfl, N5q, e5⟩ := hQ5
  have N5 := Fr.app N4 N5q
  replace G : Gets p e below _ (T5.setTop (mkF m 77 #[.val (.int i0), .val (.int i1), .val (.int i2), .val (.int cp1), .val (.int pl), .val (.int cp2), .val (.int cp3), .val (.int (1 : Int32)), .unset, .unset] [(.int (own_ref cp2)), (.int (own_isn cp2))])) := fun t k => G t (st5 t k)
  have hc77_6 : (own_isn cp2) = (own_ref cp2) := own_eq _ k2
  replace G := own_icmpNo (q := 80) G X5.here hx (hb hby at_77) (teq hc77_6).2 rfl
  replace G := own_iconst (q := 81) G X5.here hx (hb hby at_80) (v := (1 : Int32)) (by decide) rfl
  replace G := own_goto (q := 85) G X5.here hx (hb hby at_81) (by decide) (by decide)
  replace G := own_istore (q := 87) (l' := #[.val (.int i0), .val (.int i1), .val (.int i2), .val (.int cp1), .val (.int pl), .val (.int cp2), .val (.int cp3), .val (.int (1 : Int32)), .val (.int (1 : Int32)), .unset]) G X5.here hx (hb hby at_85) rfl rfl
  replace G := own_iload (q := 89) G X5.here hx (hb hby at_87) rfl rfl
  obtain ⟨_, _, ⟨T7, L7, kk7, nn7⟩, -, X7, ⟨Lc7, hQ7, l7, y7, z7⟩, st7⟩ := Jvm.LawKit.callS X5 hx (y := (⟨"com/example/leafcutter/leafcutter/io/Input", "isNoncharacter", "(I)Z"⟩ : MethodName)) hown (mvT hZ (hw _ (List.mem_of_getElem? (i := 5) rfl))) (mvT hZ (hw _ (List.mem_of_getElem? (i := 6) rfl))) (mvT hZ (hw _ (List.mem_of_getElem? (i := 7) rfl))) (mvT hZ (hw _ (List.mem_of_getElem? (i := 8) rfl))) (by decide) (backOf (W := 0) (rm1 l Z a0 hw [] cp3 h0 n0 Z0 ) hZ (hw _ (List.mem_of_getElem? (i := 8) rfl)) (hw _ (List.mem_of_getElem? (i := 7) rfl)) (by decide) (by decide)) (g := (mkF m 89 #[.val (.int i0), .val (.int i1), .val (.int i2), .val (.int cp1), .val (.int pl), .val (.int cp2), .val (.int cp3), .val (.int (1 : Int32)), .val (.int (1 : Int32)), .unset] [(.int cp3)])) rfl (by rw [hml]; rfl) (argsL := [(.int cp3)]) (rest := []) (lenOf pd_0 rfl) rfl (by show 2 * 0 + _ ≤ _; exact Nat.le_of_eq rfl) (hb hby at_89) (fun _ _ => ⟨rfl, e5, (by decide : 0 + 0 ≤ _), (by decide : 0 + 0 ≤ _)⟩)
  dsimp only [Pt.U, Pt.locs, Pt.cells, Pt.slots] at X7 l7 y7 z7 st7 hQ7
  subst l7 y7 z7
  obtain ⟨rfl, N7q, e7⟩ := hQ7
  have N7 := Fr.app N5 N7q
  replace G : Gets p e below _ (T7.setTop (mkF m 92 #[.val (.int i0), .val (.int i1), .val (.int i2), .val (.int cp1), .val (.int pl), .val (.int cp2), .val (.int cp3), .val (.int (1 : Int32)), .val (.int (1 : Int32)), .unset] [(.int (own_isn cp3))])) := fun t k => G t (st7 t k)
  replace G := own_iload (q := 94) G X7.here hx (hb hby at_92) rfl rfl
  obtain ⟨_, _, ⟨T8, L8, kk8, nn8⟩, -, X8, ⟨Lc8, hQ8, l8, y8, z8⟩, st8⟩ := Jvm.LawKit.callS X7 hx (y := (⟨"com/example/leafcutter/leafcutter/io/InputIsNoncharacterPinLaw", "ref", "(I)Z"⟩ : MethodName)) hown (mvT hZ (hw _ (List.mem_of_getElem? (i := 11) rfl))) (mvT hZ (hw _ (List.mem_of_getElem? (i := 12) rfl))) (mvT hZ (hw _ (List.mem_of_getElem? (i := 13) rfl))) (mvT hZ (hw _ (List.mem_of_getElem? (i := 14) rfl))) (by decide) (backOf (W := 1) (rm2 l Z a0 hw [] cp3 h0 n0 Z0 ) hZ (hw _ (List.mem_of_getElem? (i := 14) rfl)) (hw _ (List.mem_of_getElem? (i := 13) rfl)) (by decide) (by decide)) (g := (mkF m 94 #[.val (.int i0), .val (.int i1), .val (.int i2), .val (.int cp1), .val (.int pl), .val (.int cp2), .val (.int cp3), .val (.int (1 : Int32)), .val (.int (1 : Int32)), .unset] [(.int cp3), (.int (own_isn cp3))])) rfl (by rw [hml]; rfl) (argsL := [(.int cp3)]) (rest := [(.int (own_isn cp3))]) (lenOf pd_0 rfl) rfl (by show 2 * 0 + _ ≤ _; exact Nat.le_of_eq rfl) (hb hby at_94) (fun _ _ => ⟨rfl, e7, (by decide : 0 + 0 ≤ _), (by decide : 0 + 0 ≤ _)⟩)
  dsimp only [Pt.U, Pt.locs, Pt.cells, Pt.slots] at X8 l8 y8 z8 st8 hQ8
  subst l8 y8 z8
  obtain ⟨rfl, N8q, e8⟩ := hQ8
  have N8 := Fr.app N7 N8q
  replace G : Gets p e below _ (T8.setTop (mkF m 97 #[.val (.int i0), .val (.int i1), .val (.int i2), .val (.int cp1), .val (.int pl), .val (.int cp2), .val (.int cp3), .val (.int (1 : Int32)), .val (.int (1 : Int32)), .unset] [(.int (own_ref cp3)), (.int (own_isn cp3))])) := fun t k => G t (st8 t k)
  have hc97_9 : (own_isn cp3) = (own_ref cp3) := own_eq _ k3
  replace G := own_icmpNo (q := 100) G X8.here hx (hb hby at_97) (teq hc97_9).2 rfl
  replace G := own_iconst (q := 101) G X8.here hx (hb hby at_100) (v := (1 : Int32)) (by decide) rfl
  replace G := own_goto (q := 105) G X8.here hx (hb hby at_101) (by decide) (by decide)
  replace G := own_istore (q := 107) (l' := #[.val (.int i0), .val (.int i1), .val (.int i2), .val (.int cp1), .val (.int pl), .val (.int cp2), .val (.int cp3), .val (.int (1 : Int32)), .val (.int (1 : Int32)), .val (.int (1 : Int32))]) G X8.here hx (hb hby at_105) rfl rfl
  replace G := own_iload (q := 109) G X8.here hx (hb hby at_107) rfl rfl
  have hc109_10 : ¬ ((1 : Int32) = (0 : Int32)) := by decide
  replace G := own_ifNo (q := 112) G X8.here hx (hb hby at_109) ((if0 _ _).trans (feq hc109_10).1) rfl
  replace G := own_iload (q := 114) G X8.here hx (hb hby at_112) rfl rfl
  have hc114_11 : ¬ ((1 : Int32) = (0 : Int32)) := by decide
  replace G := own_ifNo (q := 117) G X8.here hx (hb hby at_114) ((if0 _ _).trans (feq hc114_11).1) rfl
  replace G := own_iload (q := 119) G X8.here hx (hb hby at_117) rfl rfl
  have hc119_12 : ¬ ((1 : Int32) = (0 : Int32)) := by decide
  replace G := own_ifNo (q := 122) G X8.here hx (hb hby at_119) ((if0 _ _).trans (feq hc119_12).1) rfl
  replace G := own_iconst (q := 123) G X8.here hx (hb hby at_122) (v := (1 : Int32)) (by decide) rfl
  replace G := own_goto (q := 127) G X8.here hx (hb hby at_123) (by decide) (by decide)
  obtain ⟨fs, hr, hrun, hended, hW, hsame⟩ := X8.leave (v := some (.int (1 : Int32))) (fun h => by rw [Bd.returns] at h; cases h)
  refine ⟨_, _, G _ (retOut X8 hx Bd.returns rfl (Or.inl ⟨rfl, Or.inr (Or.inl rfl), _, rfl⟩) (hb hby at_127) hr), hrun, hended, _, _, rfl, ?_, ⟨_, rfl⟩, hW, hsame.mono (by decide) (by decide)⟩
  show Q0 Z i0 i1 i2 h0 n0 _ T8.heap _
  rw [e8]
  exact ⟨rfl, N8⟩
set_option maxRecDepth 65536 in
set_option maxHeartbeats 40000000 in
theorem comes_1 {Post : Tables → Env → Array Value → State → Outcome → State → Prop} (hpost : ∀ tb e args s v u, (limb_1_1.after args s (.returned v) u = true ∧ limb_1_2.after args s (.returned v) u = true ∧ True) → FrameEnd s (.returned v) u (Jvm.fieldLocs frame_1_writes args s ++ Jvm.arrayLocs frame_1_arrays args s ++ Jvm.staticLocs frame_1_statics s) 0 0 → Post tb e args s (.returned v) u) :
    ArmFor flags0 classFile x code maxLocals ret World_1 tables_1 room_1 Calls_1 rest_1 Pre_1 Post := by
  intro l hfl _ _ p e ha hc hk s m args below hf hA hF happ hP
  obtain ⟨hcalls, hrest, hpre⟩ := hP
  obtain ⟨-, -, -, hnamed, -, -, -, hat⟩ := (Spec.applies_iff hf).mp happ
  obtain ⟨hg, hn⟩ := and_e (Cond.before_iff.mp (show (Jvm.Cond.and given_1 narrow_1).before args s = true from hpre))
  obtain ⟨g1, g2⟩ := and_e hg
  obtain ⟨g3, g4⟩ := and_e g2
  obtain ⟨g5, g6⟩ := and_e g4
  obtain ⟨w0, w1, w2, rfl⟩ : ∃ w0 w1 w2 : Value, args = #[w0, w1, w2] := by
    have hs : args.size = 3 := by simpa [Cond.value, given_1] using g1
    obtain ⟨L⟩ := args
    match L, hs with
    | [w0, w1, w2], _ => exact ⟨w0, w1, w2, rfl⟩
  have hw := fun d (hd : d ∈ tables_1) => atoms_spec (ws := Jvm.Cond.code x code maxLocals ret :: tables_1) hat d (List.mem_cons_of_mem _ hd)
  have hfit : Fit s := fun {y c} hc i hi => by
    obtain ⟨ha, rfl⟩ := Array.getElem?_eq_some_iff.mp hc
    have q := List.all_eq_true.mp ((Array.all_eq_true_iff_forall_mem.mp hF) _ (Array.getElem_mem ha)) i (List.mem_range.mpr hi)
    simpa [Array.getElem?_eq_getElem hi] using q
  obtain ⟨i0, ei0⟩ := is_v g3
  obtain rfl : w0 = (.int i0) := Option.some.inj ei0
  obtain ⟨i1, ei1⟩ := is_v g5
  obtain rfl : w1 = (.int i1) := Option.some.inj ei1
  obtain ⟨i2, ei2⟩ := is_v g6
  obtain rfl : w2 = (.int i2) := Option.some.inj ei2
  obtain ⟨n, o, h1, h2, h3, _, L, rfl, ⟨rfl, N⟩, hq⟩ := rm0 l s _ hw tables_1 i0 i1 i2 s.heap s.heap.size (Nat.le_refl _)  p e ha hc hk s m _ below hf ((Spec.applies_iff_loose hf).mp happ).1 ⟨rfl, State.Warmed39.refl s, rfl⟩ trivial
  refine ⟨n, _, h1, h2, h3, hpost _ _ _ _ _ _ ⟨Cond.after_iff.mpr rfl, Cond.after_iff.mpr (eq_i res_at (Term.int_eval (1)) rfl), trivial⟩ ⟨hq.1, hq.2.1, (hq.2.2.sift fun y hy => Or.inr (N y hy)).mono (by decide) (by decide)⟩⟩
theorem main_1_1 : Claimed_1_1 := comes_1 fun _ _ _ _ _ _ h hF => ⟨h.1, hF⟩
theorem main_1_2 : Claimed_1_2 := comes_1 fun _ _ _ _ _ _ h hF => ⟨h.2.1, hF⟩
end Jvm.Pilot.@@N@@
namespace Jvm.Pilot.@@N@@
open Jvm Jvm.ClassFile Sem Op Lib Jvm.Free Jvm.Stand Jvm.Pilot.@@N@@.Jvm.D
/-! MADE BY PROGRAM (witnessworld.py) out of the Statement's table words and the real class files: 9 classes; the members and pool entries that the words name. The judged class is class 1, her method 2. -/
namespace start1
open Jvm.ClassFile
def u (s : String) : CpInfo := .utf8 (stringToUtf16 s)
/-- a pool by its gaps: so many unusable entries, then the entry; so many at the end -/
def gap : Nat → List CpInfo → List CpInfo
  | 0, r => r
  | n + 1, r => .unusable :: gap n r
def poolList (es : List (Nat × CpInfo)) (last : Nat) : List CpInfo := es.foldr (fun e r => gap e.1 (e.2 :: r)) (gap last [])
def pool (es : List (Nat × CpInfo)) (last : Nat) : Array CpInfo := ⟨poolList es last⟩
def fileOf (pool : Array CpInfo) (this : Nat) (attrs : Array Attribute := #[]) (ms : Array MethodInfo := #[]) (fl : Nat := 33) (sup : Nat := 0) (ifs : Array Nat := #[]) (fds : Array FieldInfo := #[]) : ClassFile where
  minorVersion := 0
  majorVersion := 65
  constantPool := pool
  accessFlags := fl
  thisClass := this
  superClass := sup
  interfaces := ifs
  fields := fds
  methods := ms
  attributes := attrs
def plain (name : String) (sup : Option ClassId) : Class where
  name := name
  kind := .ordinary
  loader := none
  accessFlags := 33
  super := sup
  interfaces := #[]
  cf := none
  fields := #[]
  methods := #[]
  instanceTypes := #[]
  staticTypes := #[]
  resolved := #[]
  callSites := []
  init := .initialized
  statics := none
  mirror := none

def pool0 : Array CpInfo := pool [(5, u "<init>"), (0, u "()V"), (1, .class_ 10), (1, u "java/lang/Object")] 113

def k0m0 : Method := { name := "<init>", desc := "()V", sig := { parameters := [], returnType := none }, accessFlags := 1, code := none }
/-- java/lang/Object -/
def k0 : Class := { plain "java/lang/Object" none with
  accessFlags := 33
  interfaces := #[]
  cf := some (fileOf pool0 8 #[] #[{ accessFlags := 1, nameIndex := 5, descriptorIndex := 6, attributes := #[] }] 33 0 #[] #[])
  fields := #[]
  methods := #[k0m0]
  instanceTypes := #[]
  staticTypes := #[]
  resolved := Array.replicate 124 none
  statics := none }

def pool1 : Array CpInfo := pool [(2, .class_ 4), (1, u "java/lang/Object"), (0, u "<init>"), (0, u "()V"), (0, .integer 65536), (0, .integer 64976), (0, .integer 65007), (0, .integer 65534), (0, .integer 65535), (0, .integer 2147483647), (0, .integer 1114112), (0, .integer 65520), (0, .integer 64960), (0, .methodref 17 18), (0, .class_ 19), (0, .nameAndType 20 21), (0, u "com/example/leafcutter/leafcutter/io/Input"), (0, u "isNoncharacter"), (0, u "(I)Z"), (0, .methodref 23 24), (0, .class_ 25), (0, .nameAndType 26 21), (0, u "com/example/leafcutter/leafcutter/io/InputIsNoncharacterPinLaw"), (0, u "ref"), (3, u "law"), (0, u "(III)Z")] 2

def k1m0 : Method := { name := "<init>", desc := "()V", sig := { parameters := [], returnType := none }, accessFlags := 2, code := none }
def k1c1 : Code := { maxStack := 2, maxLocals := 4, code := method_2_code, exceptionTable := #[], attributes := #[] }
def k1m1 : Method := { name := "ref", desc := "(I)Z", sig := { parameters := [.int], returnType := some .boolean }, accessFlags := 10, code := some k1c1 }
def k1c2 : Code := { maxStack := 3, maxLocals := 10, code := code, exceptionTable := #[], attributes := #[] }
def k1m2 : Method := { name := "law", desc := "(III)Z", sig := { parameters := [.int, .int, .int], returnType := some .boolean }, accessFlags := 9, code := some k1c2 }
/-- com/example/leafcutter/leafcutter/io/InputIsNoncharacterPinLaw -/
def k1 : Class := { plain "com/example/leafcutter/leafcutter/io/InputIsNoncharacterPinLaw" (some 0) with
  accessFlags := 49
  interfaces := #[]
  cf := some (fileOf pool1 23 #[] #[{ accessFlags := 2, nameIndex := 5, descriptorIndex := 6, attributes := #[] }, { accessFlags := 10, nameIndex := 26, descriptorIndex := 21, attributes := #[] }, { accessFlags := 9, nameIndex := 30, descriptorIndex := 31, attributes := #[] }] 49 2 #[] #[])
  fields := #[]
  methods := #[k1m0, k1m1, k1m2]
  instanceTypes := #[]
  staticTypes := #[]
  resolved := Array.replicate 34 none
  statics := none }

def pool2 : Array CpInfo := pool [(2, .class_ 4), (1, u "java/lang/Object"), (3, .class_ 10), (1, u "com/example/leafcutter/leafcutter/io/Input"), (0, u "buffer"), (0, u "[C"), (2, u "line"), (0, u "J"), (2, u "errors"), (0, u "Ljava/util/function/Consumer;"), (11, u "limit"), (0, u "I"), (27, u "decoder"), (0, u "Lcom/example/leafcutter/leafcutter/io/Utf8;"), (6, u "ended"), (0, u "Z"), (6, u "offset"), (18, u "atLineEnd"), (22, u "column"), (16, u "text"), (30, u "lowSurrogateOfPair"), (6, u "isNoncharacter"), (0, u "(I)Z"), (17, .integer 64976), (0, .integer 65007), (0, .integer 65534), (0, u "EOF"), (2, u "MORE_NEEDED")] 24

def k2c0 : Code := { maxStack := 2, maxLocals := 1, code := prog_3_method_20_code, exceptionTable := #[], attributes := #[] }
def k2m0 : Method := { name := "isNoncharacter", desc := "(I)Z", sig := { parameters := [.int], returnType := some .boolean }, accessFlags := 9, code := some k2c0 }
/-- com/example/leafcutter/leafcutter/io/Input -/
def k2 : Class := { plain "com/example/leafcutter/leafcutter/io/Input" (some 0) with
  accessFlags := 49
  interfaces := #[]
  cf := some (fileOf pool2 8 #[] #[{ accessFlags := 9, nameIndex := 174, descriptorIndex := 175, attributes := #[] }] 49 2 #[] #[{ accessFlags := 25, nameIndex := 196, descriptorIndex := 33, attributes := #[] }, { accessFlags := 25, nameIndex := 199, descriptorIndex := 33, attributes := #[] }, { accessFlags := 18, nameIndex := 19, descriptorIndex := 20, attributes := #[] }, { accessFlags := 2, nameIndex := 11, descriptorIndex := 12, attributes := #[] }, { accessFlags := 2, nameIndex := 77, descriptorIndex := 33, attributes := #[] }, { accessFlags := 2, nameIndex := 32, descriptorIndex := 33, attributes := #[] }, { accessFlags := 2, nameIndex := 69, descriptorIndex := 70, attributes := #[] }, { accessFlags := 2, nameIndex := 167, descriptorIndex := 70, attributes := #[] }, { accessFlags := 2, nameIndex := 136, descriptorIndex := 70, attributes := #[] }, { accessFlags := 2, nameIndex := 61, descriptorIndex := 62, attributes := #[] }, { accessFlags := 2, nameIndex := 15, descriptorIndex := 16, attributes := #[] }, { accessFlags := 2, nameIndex := 119, descriptorIndex := 16, attributes := #[] }, { accessFlags := 2, nameIndex := 96, descriptorIndex := 70, attributes := #[] }])
  fields := #[{ name := "EOF", type := .int, accessFlags := 25, slot := 0, constantValue := 0 }, { name := "MORE_NEEDED", type := .int, accessFlags := 25, slot := 1, constantValue := 0 }, { name := "errors", type := (.object "java/util/function/Consumer"), accessFlags := 18, slot := 0, constantValue := 0 }, { name := "buffer", type := (.array .char), accessFlags := 2, slot := 1, constantValue := 0 }, { name := "offset", type := .int, accessFlags := 2, slot := 2, constantValue := 0 }, { name := "limit", type := .int, accessFlags := 2, slot := 3, constantValue := 0 }, { name := "ended", type := .boolean, accessFlags := 2, slot := 4, constantValue := 0 }, { name := "lowSurrogateOfPair", type := .boolean, accessFlags := 2, slot := 5, constantValue := 0 }, { name := "text", type := .boolean, accessFlags := 2, slot := 6, constantValue := 0 }, { name := "decoder", type := (.object "com/example/leafcutter/leafcutter/io/Utf8"), accessFlags := 2, slot := 7, constantValue := 0 }, { name := "line", type := .long, accessFlags := 2, slot := 8, constantValue := 0 }, { name := "column", type := .long, accessFlags := 2, slot := 9, constantValue := 0 }, { name := "atLineEnd", type := .boolean, accessFlags := 2, slot := 10, constantValue := 0 }]
  methods := #[k2m0]
  instanceTypes := #[(.object "java/util/function/Consumer"), (.array .char), .int, .int, .boolean, .boolean, .boolean, (.object "com/example/leafcutter/leafcutter/io/Utf8"), .long, .long, .boolean]
  staticTypes := #[.int, .int]
  resolved := Array.replicate 224 none
  statics := none }

def pool3 : Array CpInfo := pool [(1, u "java/lang/Cloneable"), (0, .class_ 1), (0, u "java/lang/Object"), (0, .class_ 3)] 3

/-- java/lang/Cloneable -/
def k3 : Class := { plain "java/lang/Cloneable" (some 0) with
  accessFlags := 1537
  interfaces := #[]
  cf := some (fileOf pool3 2 #[] #[] 1537 4 #[] #[])
  fields := #[]
  methods := #[]
  instanceTypes := #[]
  staticTypes := #[]
  resolved := Array.replicate 8 none
  statics := none }

def pool4 : Array CpInfo := pool [(1, u "java/io/Serializable"), (0, .class_ 1), (0, u "java/lang/Object"), (0, .class_ 3)] 3

/-- java/io/Serializable -/
def k4 : Class := { plain "java/io/Serializable" (some 0) with
  accessFlags := 1537
  interfaces := #[]
  cf := some (fileOf pool4 2 #[] #[] 1537 4 #[] #[])
  fields := #[]
  methods := #[]
  instanceTypes := #[]
  staticTypes := #[]
  resolved := Array.replicate 8 none
  statics := none }

/-- the primitive byte -/
def k5 : Class := { plain "byte" none with kind := .primitive 'B', accessFlags := 0x411 }
/-- [B -/
def k6 : Class := { plain "[B" (some 0) with kind := .array 5 .byte, interfaces := #[3, 4], accessFlags := 1041 }

/-- the primitive int -/
def k7 : Class := { plain "int" none with kind := .primitive 'I', accessFlags := 0x411 }
/-- [I -/
def k8 : Class := { plain "[I" (some 0) with kind := .array 7 .int, interfaces := #[3, 4], accessFlags := 1041 }

def heap : Heap := #[]
def classes : Array Class := #[k0, k1, k2, k3, k4, k5, k6, k7, k8]
def interned : List (Array UInt16 × Addr) := []
def slotsUsed : Nat := 0
def theMethod : MethodId := ⟨1, 2⟩
def args0 : Array Value := #[.int 5, .int 6, .int 7]
def aboutOver (below : List Frame) : State where
  vm := { classes := classes, interned := interned.toArray }
  heap := heap
  slotsUsed := slotsUsed
  threads := #[{ frames := .invoking theMethod args0 :: below }]
def below0 : List Frame := [.native { method := ⟨0, 0⟩, args := #[] }]
def about1 : State := aboutOver below0
def p0 : Program := .bare "" "" ""
def e0 : Env := launch0.env 0 0 0
theorem w_frames : about1.frames = Frame.invoking theMethod args0 :: below0 := rfl
set_option maxRecDepth 65536 in
theorem w_args : argsFit about1.vm theMethod args0 = true := by decide +kernel
set_option maxRecDepth 65536 in
theorem w_heap : heapFits about1 = true := by decide +kernel
set_option maxRecDepth 65536 in
theorem w_runnable : about1.curStatus? = some .runnable := by decide +kernel
set_option maxRecDepth 65536 in
theorem w_alone : about1.alone = true := by decide +kernel
set_option maxRecDepth 65536 in
theorem w_named : about1.methodNamed? x = some theMethod := by decide +kernel
set_option maxRecDepth 65536 in
theorem w_hears : about1.hears theMethod below0 = true := by decide +kernel
set_option maxRecDepth 65536 in
theorem w_ripe : about1.ripe theMethod args0 below0 = true := by decide +kernel
theorem w_running : about1.status = .running := rfl
set_option maxRecDepth 65536 in
theorem w_room : about1.hasRoom e0.platform room_1 = true :=
  launch0.hasRoom_least _ room_1 (by decide +kernel) (by decide +kernel) (by decide +kernel) (by decide +kernel) (by decide +kernel) (by decide +kernel)
theorem allAtoms_all (ts : List Jvm.Cond) (a : Array Jvm.Value) (st : Jvm.State) : (allAtoms ts).before a st = ts.all (fun c => c.before a st) := by
  induction ts with
  | nil => rfl
  | cons c t ih =>
    show (Jvm.Cond.and c (allAtoms t)).before a st = _
    rw [Jvm.Cond.before_and, ih, List.all_cons]
def words1 : List Jvm.Cond := Jvm.Cond.code x code maxLocals ret :: tables_1
/-- a 'code' word, met by the world's own term for the bytes: nothing is compared byte by byte -/
theorem code_word {y : MethodName} {bytes : ByteArray} {mx : Nat} {rt : Option FieldType} {a : Array Value} {s : State} {m : MethodId} {meth : Method} {c : Code} (h1 : s.methodNamed? y = some m) (h2 : s.vm.method? m = some meth) (h3 : meth.code = some c) (h4 : c.code = bytes)
    (h5 : (c.maxLocals == mx && c.exceptionTable.isEmpty && decide (c.maxStack ≤ mostOperands) && decide (meth.sig.returnType = rt) && !meth.locks && decide (parseMethodDescriptor y.desc = some meth.sig)) = true) : (Jvm.Cond.code y bytes mx rt).before a s = true := by
  simp only [Bool.and_eq_true, beq_iff_eq, Bool.not_eq_true', decide_eq_true_eq] at h5
  obtain ⟨⟨⟨⟨⟨g1, g2⟩, g3⟩, g4⟩, g5⟩, g6⟩ := h5
  simp [Cond.before, Cond.holds, Cond.value, h1, h2, h3, h4, g1, g2, g3, g4, g5, g6]
def isCode : Jvm.Cond → Bool
  | .code _ _ _ _ => true
  | _ => false
theorem all_split {L : List Jvm.Cond} {P : Jvm.Cond → Bool} (h1 : L.all (fun c => isCode c || P c) = true) (h2 : ∀ c ∈ L.filter isCode, P c = true) : L.all P = true := by
  refine List.all_eq_true.mpr fun c hc => ?_
  have h := List.all_eq_true.mp h1 c hc
  rcases Bool.eq_false_or_eq_true (isCode c) with hi | hi
  · exact h2 c (List.mem_filter.mpr ⟨hc, hi⟩)
  · simpa [hi] using h
set_option maxRecDepth 65536 in
theorem w_c0 : (Jvm.Cond.code x code maxLocals ret).before args0 about1 = true := code_word (m := ⟨1, 2⟩) (meth := k1m2) (c := k1c2) (by decide +kernel) rfl rfl rfl (by decide +kernel)
set_option maxRecDepth 65536 in
theorem w_c1 : (Jvm.Cond.code ({ cls := "com/example/leafcutter/leafcutter/io/Input", name := "isNoncharacter", desc := "(I)Z" } : Jvm.MethodName) prog_3_method_20_code (1 : Nat) (Option.some Jvm.ClassFile.FieldType.boolean)).before args0 about1 = true := code_word (m := ⟨2, 0⟩) (meth := k2m0) (c := k2c0) (by decide +kernel) rfl rfl rfl (by decide +kernel)
set_option maxRecDepth 65536 in
theorem w_c2 : (Jvm.Cond.code ({ cls := "com/example/leafcutter/leafcutter/io/InputIsNoncharacterPinLaw", name := "ref", desc := "(I)Z" } : Jvm.MethodName) method_2_code (4 : Nat) (Option.some Jvm.ClassFile.FieldType.boolean)).before args0 about1 = true := code_word (m := ⟨1, 1⟩) (meth := k1m1) (c := k1c1) (by decide +kernel) rfl rfl rfl (by decide +kernel)
def codes1 : List Jvm.Cond := [Jvm.Cond.code x code maxLocals ret, Jvm.Cond.code ({ cls := "com/example/leafcutter/leafcutter/io/Input", name := "isNoncharacter", desc := "(I)Z" } : Jvm.MethodName) prog_3_method_20_code (1 : Nat) (Option.some Jvm.ClassFile.FieldType.boolean), Jvm.Cond.code ({ cls := "com/example/leafcutter/leafcutter/io/InputIsNoncharacterPinLaw", name := "ref", desc := "(I)Z" } : Jvm.MethodName) method_2_code (4 : Nat) (Option.some Jvm.ClassFile.FieldType.boolean)]
set_option maxRecDepth 65536 in
theorem codes_eq : words1.filter isCode = codes1 := rfl
theorem w_codes : ∀ c ∈ words1.filter isCode, c.before args0 about1 = true := by
  rw [codes_eq]
  intro c hc
  simp only [codes1, List.mem_cons, List.not_mem_nil, or_false] at hc
  rcases hc with rfl | rfl | rfl
  · exact w_c0
  · exact w_c1
  · exact w_c2
set_option maxRecDepth 65536 in
theorem w_t1 : words1.all (fun c => isCode c || c.before args0 about1) = true := by decide +kernel
theorem w_tables : (allAtoms (Jvm.Cond.code x code maxLocals ret :: tables_1)).before args0 about1 = true := by
  rw [allAtoms_all]
  show words1.all (fun c => c.before args0 about1) = true
  refine all_split ?_ w_codes
  rw [w_t1]
set_option maxRecDepth 65536 in
theorem w_case : (Jvm.Cond.and given_1 narrow_1).before args0 about1 = true := by decide +kernel
theorem w_applies : (headSpec (Jvm.Cond.code x code maxLocals ret :: tables_1) room_1).applies x e0.platform about1 = true :=
  (Spec.applies_iff w_frames).mpr ⟨w_running, w_runnable, w_alone, w_named, w_hears, w_ripe, w_room, w_tables⟩
theorem atStart : AtStart classFile x code maxLocals ret World_1 tables_1 room_1 Calls_1 rest_1 Pre_1 launch0 p0 e0 about1 theMethod args0 below0 :=
  ⟨lists_1, trivial, launch0.admits_env _ _ _, launch0.least_env, fairChoices_fair.cas, fairChoices_fair.clock, w_frames, w_args, w_heap, w_applies, trivial, trivial, w_case⟩
end start1
theorem witness_1 : WitnessClaimed_1 := ⟨start1.p0, start1.e0, start1.about1, start1.theMethod, start1.args0, start1.below0, start1.atStart⟩
end Jvm.Pilot.@@N@@

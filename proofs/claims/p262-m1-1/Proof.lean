import JvmDerived
import JvmDerived.Pilot.@@N@@Statement
import JvmDerived.Pilot.@@N@@Code
set_option linter.unusedVariables false
set_option linter.unusedSimpArgs false
namespace Jvm.Pilot.@@N@@
open Jvm Jvm.ClassFile Sem Op Lib Jvm.Free Jvm.Stand Jvm.LawKit Jvm.RoadKit Bundle Jvm.Pilot.@@N@@.Jvm.D
abbrev Gets (p : Program) (e : Env) (below : List Frame) (S0 S : State) : Prop := ∀ t, Steps p.tables e below S t → Steps p.tables e below S0 t
section Own
variable {p : Program} {e : Env} {below : List Frame} {S0 T : State} {m : MethodId} {c : Code} {pc q : Nat} {Ls : Array Slot} {st : List Value}
theorem own_ladd {x y v : Int64} (G : Gets p e below S0 (T.setTop (mkF m pc Ls (.long y :: .long x :: st)))) (h : At T m c below) (hx : p.tables.exec = Jvm.exec) (hd : decode c.code pc = .ok (.ladd, 1)) (hv : x + y = v) (hq : pc + 1 = q) : Gets p e below S0 (T.setTop (mkF m q Ls (.long v :: st))) := by
  subst hv hq; exact fun t k => G t (XS.ladd h hx rfl hd rfl k)
theorem own_lmul {x y v : Int64} (G : Gets p e below S0 (T.setTop (mkF m pc Ls (.long y :: .long x :: st)))) (h : At T m c below) (hx : p.tables.exec = Jvm.exec) (hd : decode c.code pc = .ok (.lmul, 1)) (hv : x * y = v) (hq : pc + 1 = q) : Gets p e below S0 (T.setTop (mkF m q Ls (.long v :: st))) := by
  subst hv hq; exact fun t k => G t (XS.lmul h hx rfl hd rfl k)
theorem own_lxor {x y v : Int64} (G : Gets p e below S0 (T.setTop (mkF m pc Ls (.long y :: .long x :: st)))) (h : At T m c below) (hx : p.tables.exec = Jvm.exec) (hd : decode c.code pc = .ok (.lxor, 1)) (hv : x ^^^ y = v) (hq : pc + 1 = q) : Gets p e below S0 (T.setTop (mkF m q Ls (.long v :: st))) := by
  subst hv hq; exact fun t k => G t (XS.lxor h hx rfl hd rfl k)
theorem own_lushr {x : Int64} {y : Int32} {v : Int64} (G : Gets p e below S0 (T.setTop (mkF m pc Ls (.int y :: .long x :: st)))) (h : At T m c below) (hx : p.tables.exec = Jvm.exec) (hd : decode c.code pc = .ok (.lushr, 1)) (hv : ((x.toUInt64 >>> (y &&& 0x3f).toInt64.toUInt64).toInt64) = v) (hq : pc + 1 = q) : Gets p e below S0 (T.setTop (mkF m q Ls (.long v :: st))) := by
  subst hv hq; exact fun t k => G t (XS.lushr h hx rfl hd rfl k)
theorem own_lcmp {x y : Int64} (G : Gets p e below S0 (T.setTop (mkF m pc Ls (.long y :: .long x :: st)))) (h : At T m c below) (hx : p.tables.exec = Jvm.exec) (hd : decode c.code pc = .ok (.lcmp, 1))  (hq : pc + 1 = q) : Gets p e below S0 (T.setTop (mkF m q Ls (.int (lcmpW x y) :: st))) := by
  subst hq; exact fun t k => G t (XS.lcmp h hx rfl hd rfl k)
theorem own_iconst {i : Int} {v : Int32} (G : Gets p e below S0 (T.setTop (mkF m pc Ls st))) (h : At T m c below) (hx : p.tables.exec = Jvm.exec) (hd : decode c.code pc = .ok (.iconst i, 1)) (hv : Int32.ofInt i = v) (hq : pc + 1 = q) : Gets p e below S0 (T.setTop (mkF m q Ls (.int v :: st))) := by
  subst hv hq; exact fun t k => G t (XS.iconst h hx rfl hd k)
theorem own_bipush {i : Int} {v : Int32} (G : Gets p e below S0 (T.setTop (mkF m pc Ls st))) (h : At T m c below) (hx : p.tables.exec = Jvm.exec) (hd : decode c.code pc = .ok (.bipush i, 2)) (hv : (Int8.ofInt i).toInt32 = v) (hq : pc + 2 = q) : Gets p e below S0 (T.setTop (mkF m q Ls (.int v :: st))) := by
  subst hv hq; exact fun t k => G t (XS.bipush h hx rfl hd k)
theorem own_lload {i : Nat} {v : Int64} (G : Gets p e below S0 (T.setTop (mkF m pc Ls st))) (h : At T m c below) (hx : p.tables.exec = Jvm.exec) (hd : decode c.code pc = .ok (.lload i, 2)) (hl : Ls[i]? = some (.val (.long v))) (hq : pc + 2 = q) : Gets p e below S0 (T.setTop (mkF m q Ls (.long v :: st))) := by
  subst hq; exact fun t k => G t (XS.lload h hx rfl hd hl k)
theorem own_lloadN {i : Fin 4} {v : Int64} (G : Gets p e below S0 (T.setTop (mkF m pc Ls st))) (h : At T m c below) (hx : p.tables.exec = Jvm.exec) (hd : decode c.code pc = .ok (.lload_n i, 1)) (hl : Ls[i.val]? = some (.val (.long v))) (hq : pc + 1 = q) : Gets p e below S0 (T.setTop (mkF m q Ls (.long v :: st))) := by
  subst hq; exact fun t k => G t (XS.lloadN h hx rfl hd hl k)
theorem own_aloadN {i : Fin 4} {v : Value} (G : Gets p e below S0 (T.setTop (mkF m pc Ls st))) (h : At T m c below) (hx : p.tables.exec = Jvm.exec) (hd : decode c.code pc = .ok (.aload_n i, 1)) (hl : Ls[i.val]? = some (.val v)) (hv : v.isRef = true) (hq : pc + 1 = q) : Gets p e below S0 (T.setTop (mkF m q Ls (v :: st))) := by
  subst hq; exact fun t k => G t (XS.aloadN h hx rfl hd hl hv k)
theorem own_lstore {i : Nat} {v : Int64} {l' : Array Slot} (G : Gets p e below S0 (T.setTop (mkF m pc Ls (.long v :: st)))) (h : At T m c below) (hx : p.tables.exec = Jvm.exec) (hd : decode c.code pc = .ok (.lstore i, 2)) (hl : storeLocals Ls i (.long v) = some l') (hq : pc + 2 = q) : Gets p e below S0 (T.setTop (mkF m q l' st)) := by
  subst hq; exact fun t k => G t (XS.lstore h hx rfl hd rfl hl k)
theorem own_lstoreN {i : Fin 4} {v : Int64} {l' : Array Slot} (G : Gets p e below S0 (T.setTop (mkF m pc Ls (.long v :: st)))) (h : At T m c below) (hx : p.tables.exec = Jvm.exec) (hd : decode c.code pc = .ok (.lstore_n i, 1)) (hl : storeLocals Ls i.val (.long v) = some l') (hq : pc + 1 = q) : Gets p e below S0 (T.setTop (mkF m q l' st)) := by
  subst hq; exact fun t k => G t (XS.lstoreN h hx rfl hd rfl hl k)
theorem own_astoreN {i : Fin 4} {v : Value} {l' : Array Slot} (G : Gets p e below S0 (T.setTop (mkF m pc Ls (v :: st)))) (h : At T m c below) (hx : p.tables.exec = Jvm.exec) (hd : decode c.code pc = .ok (.astore_n i, 1)) (hv : v.isRef = true) (hl : storeLocals Ls i.val v = some l') (hq : pc + 1 = q) : Gets p e below S0 (T.setTop (mkF m q l' st)) := by
  subst hq; exact fun t k => G t (XS.astoreN h hx rfl hd rfl hv hl k)
theorem own_dup {x : Value} (G : Gets p e below S0 (T.setTop (mkF m pc Ls (x :: st)))) (h : At T m c below) (hx : p.tables.exec = Jvm.exec) (hd : decode c.code pc = .ok (.dup, 1)) (hc : x.category = 1) (hq : pc + 1 = q) : Gets p e below S0 (T.setTop (mkF m q Ls (x :: x :: st))) := by
  subst hq; exact fun t k => G t (XS.dup h hx rfl hd rfl hc k)
theorem own_goto {o : Int} (G : Gets p e below S0 (T.setTop (mkF m pc Ls st))) (h : At T m c below) (hx : p.tables.exec = Jvm.exec) (hd : decode c.code pc = .ok (.goto o, 3))  (ho : 0 ≤ (pc : Int) + o) (hp : ((pc : Int) + o).toNat = q) : Gets p e below S0 (T.setTop (mkF m q Ls st)) := by
  exact fun t k => G t (XS.goto h hx rfl rfl hd ho hp k)
theorem own_ifNo {cd : ClassFile.Cond} {o : Int} {x : Int32} (G : Gets p e below S0 (T.setTop (mkF m pc Ls (.int x :: st)))) (h : At T m c below) (hx : p.tables.exec = Jvm.exec) (hd : decode c.code pc = .ok (.ifCond cd o, 3)) (hc : ifCond.holds cd x = false) (hq : pc + 3 = q) : Gets p e below S0 (T.setTop (mkF m q Ls st)) := by
  subst hq; exact fun t k => G t (XS.ifNo h hx rfl hd rfl hc k)
end Own

def own_sh (x : Int64) (k : Int32) : Int64 := ((x.toUInt64 >>> (k &&& 0x3f).toInt64.toUInt64).toInt64)
def own_m1 (z : Int64) : Int64 := (z ^^^ own_sh z 30) * (-4658895280553007687 : Int64)
def own_m2 (z : Int64) : Int64 := (z ^^^ own_sh z 27) * (-7723592293110705685 : Int64)
def own_m3 (z : Int64) : Int64 := z ^^^ own_sh z 31
def own_mix (z : Int64) : Int64 := own_m3 (own_m2 (own_m1 z))
def own_u1 (z : Int64) : Int64 := ((z ^^^ own_sh z 31) ^^^ own_sh z 62) * (3573116690164977347 : Int64)
def own_u2 (z : Int64) : Int64 := ((z ^^^ own_sh z 27) ^^^ own_sh z 54) * (-7575587736534282103 : Int64)
def own_u3 (z : Int64) : Int64 := (z ^^^ own_sh z 30) ^^^ own_sh z 60
def own_unmix (z : Int64) : Int64 := own_u3 (own_u2 (own_u1 z))
theorem own_xsb (x : BitVec 64) (a b : Nat) (h : a + a = b) (h2 : 64 ≤ a + b) : ((x ^^^ x >>> a) ^^^ (x ^^^ x >>> a) >>> a) ^^^ (x ^^^ x >>> a) >>> b = x := by
  apply BitVec.eq_of_getLsbD_eq
  intro i hi
  have e1 : a + (a + i) = b + i := by omega
  have e2 : x.getLsbD (a + (b + i)) = false := BitVec.getLsbD_of_ge _ _ (by omega)
  simp only [BitVec.getLsbD_xor, BitVec.getLsbD_ushiftRight, e1, e2]
  cases x.getLsbD i <;> cases x.getLsbD (a + i) <;> cases x.getLsbD (b + i) <;> rfl
theorem own_shb (x : Int64) (k : Int32) (n : Nat) (h : (k &&& 0x3f).toInt64.toUInt64 = UInt64.ofNat n) (hn : n < 64) : (own_sh x k).toBitVec = x.toBitVec >>> n := by
  unfold own_sh
  rw [h]
  show (x.toUInt64 >>> UInt64.ofNat n).toBitVec = _
  rw [UInt64.toBitVec_shiftRight]
  show x.toBitVec >>> ((UInt64.ofNat n).toBitVec % 64) = _
  rw [BitVec.ushiftRight_eq']
  congr 1
  show (BitVec.ofNat 64 n % 64).toNat = n
  rw [BitVec.toNat_umod, BitVec.toNat_ofNat]
  show n % 2 ^ 64 % 64 = n
  omega
theorem own_xs (x : Int64) (k k2 : Int32) (a b : Nat) (h1 : (k &&& 0x3f).toInt64.toUInt64 = UInt64.ofNat a) (h2 : (k2 &&& 0x3f).toInt64.toUInt64 = UInt64.ofNat b) (h : a + a = b) (h3 : 64 ≤ a + b) (h4 : b < 64) :
    ((x ^^^ own_sh x k) ^^^ own_sh (x ^^^ own_sh x k) k) ^^^ own_sh (x ^^^ own_sh x k) k2 = x := by
  apply Int64.toBitVec_inj.mp
  simp only [Int64.toBitVec_xor, own_shb _ k a h1 (by omega), own_shb _ k2 b h2 h4]
  exact own_xsb x.toBitVec a b h h3
theorem own_inv (z : Int64) : own_unmix (own_mix z) = z := by
  have e1 : ∀ z, own_u1 (own_m3 z) = z * (3573116690164977347 : Int64) := fun z => by
    unfold own_u1 own_m3; rw [own_xs z 31 62 31 62 (by decide) (by decide) (by decide) (by decide) (by decide)]
  have e2 : ∀ z, (z ^^^ own_sh z 27) ^^^ own_sh (z ^^^ own_sh z 27) 27 ^^^ own_sh (z ^^^ own_sh z 27) 54 = z := fun z => own_xs z 27 54 27 54 (by decide) (by decide) (by decide) (by decide) (by decide)
  have e3 : ∀ z, (z ^^^ own_sh z 30) ^^^ own_sh (z ^^^ own_sh z 30) 30 ^^^ own_sh (z ^^^ own_sh z 30) 60 = z := fun z => own_xs z 30 60 30 60 (by decide) (by decide) (by decide) (by decide) (by decide)
  have m1 : (-7723592293110705685 : Int64) * (3573116690164977347 : Int64) = 1 := by decide
  have m2 : (-4658895280553007687 : Int64) * (-7575587736534282103 : Int64) = 1 := by decide
  unfold own_unmix own_mix
  rw [e1]
  have f1 : own_m2 (own_m1 z) * (3573116690164977347 : Int64) = own_m1 z ^^^ own_sh (own_m1 z) 27 := by unfold own_m2; rw [Int64.mul_assoc, m1, Int64.mul_one]
  rw [f1]
  have f2 : own_u2 (own_m1 z ^^^ own_sh (own_m1 z) 27) = own_m1 z * (-7575587736534282103 : Int64) := by unfold own_u2; rw [e2]
  rw [f2]
  have f3 : own_m1 z * (-7575587736534282103 : Int64) = z ^^^ own_sh z 30 := by unfold own_m1; rw [Int64.mul_assoc, m2, Int64.mul_one]
  rw [f3]
  unfold own_u3; rw [e3]
theorem d1_0 : decode prog_25_method_1_code 0 = .ok (.aload_n 0, 1) := by decide +kernel
theorem d1_1 : decode prog_25_method_1_code 1 = .ok (.invokespecial 1, 3) := by decide +kernel
theorem d1_4 : decode prog_25_method_1_code 4 = .ok (.aload_n 0, 1) := by decide +kernel
theorem d1_5 : decode prog_25_method_1_code 5 = .ok (.lload_n 1, 1) := by decide +kernel
theorem d1_6 : decode prog_25_method_1_code 6 = .ok (.putfield 7, 3) := by decide +kernel
theorem d1_9 : decode prog_25_method_1_code 9 = .ok (.return_, 1) := by decide +kernel
theorem pn_com_example_gridwright_gridwright_core_SplitMix64 : plainName "com/example/gridwright/gridwright/core/SplitMix64" = true := by first | (simp [plainName, overriddenIn]; done) | decide +kernel
theorem ef_1 (m : MethodId) (x0 : Addr) (x1 : Int64) : entryFrame m #[(.ref x0), (.long x1)] 3 = mkF m 0 #[.val (.ref x0), .val (.long x1), .second] [] := by first | (simp [entryFrame, mkF, argsToLocals, Value.category]; done) | rfl
def Q1 (Z : State) (a : Addr) (q : Int64) (h0 : Heap) (n0 : Nat) (v : Option Value) (h : Heap) (L : List Loc) : Prop := v = none ∧ Fr n0 L ∧ Keep h0 h [a] ∧ (Fld Z h a "com/example/gridwright/gridwright/core/SplitMix64" "state" "J" (.long q))
set_option maxRecDepth 65536 in
set_option maxHeartbeats 40000000 in
theorem rm1 (l : Launch) (Z : State) (a0 : Array Value) (hw : ∀ d ∈ tables_1, d.before a0 Z = true) (ws : List Jvm.Cond) (a : Addr) (q : Int64) (h0 : Heap) (n0 : Nat) (Z0 : n0 ≤ h0.size) (P0 : Fld Z h0 a "com/example/gridwright/gridwright/core/SplitMix64" "state" "J" (.long (0 : Int64))) (P1 : Exa Z h0 a "com/example/gridwright/gridwright/core/SplitMix64") (P2 : n0 ≤ a) :
    MetFree l (⟨"com/example/gridwright/gridwright/core/SplitMix64", "<init>", "(J)V"⟩ : MethodName) (head1 (Jvm.Cond.code (⟨"com/example/gridwright/gridwright/core/SplitMix64", "<init>", "(J)V"⟩ : MethodName) prog_25_method_1_code 3 none :: ws) ({ frames := 1, cells := 0, slots := 0, locals := 12 } : Room)) (fun zz U => zz = #[(.ref a), (.long q)] ∧ Z.Warmed39 U.vm ∧ U.heap = h0) (fun _ _ _ _ _ => True) (fun _ U o U' => ∃ v L, o = .returned v ∧ Q1 Z a q h0 n0 v U'.heap L ∧ FrameEnd U o U' L ({ frames := 1, cells := 0, slots := 0, locals := 12 } : Room).cells ({ frames := 1, cells := 0, slots := 0, locals := 12 } : Room).slots) := by
  refine MetFree.of_bodySF (plainFor_of_name pn_com_example_gridwright_gridwright_core_SplitMix64) hisR ?_
  intro p e s m args below meth c s₁ Bd hml0 hP hK
  obtain ⟨rfl, hZ, hh⟩ := hP
  have hx := Bd.exec
  have hby := Bd.bytes
  have hml : c.maxLocals = 3 := hml0
  have hown : s.vm.findClass "com/example/gridwright/gridwright/core/SplitMix64" = some m.cls := findClass_of_methodNamed Bd.named
  have hnm := (name_of_methodNamed Bd.named Bd.method).1
  have X0 : Stand p l e ({ frames := 1, cells := 0, slots := 0, locals := 12 } : Room) s m #[(.ref a), (.long q)] below meth c s₁ [] 0 0 := Stand.of_body Bd
  have e0 : s₁.heap = h0 := by rw [← hh, Bd.state]; rfl
  have N0 := Fr.nil n0
  have K0 : Keep h0 h0 [a] := Keep.refl _ _
  have G : Gets p e below (s₁.setTop (entryFrame m #[(.ref a), (.long q)] 3)) (s₁.setTop (mkF m 0 #[.val (.ref a), .val (.long q), .second] [])) := fun t k => castTop (ef_1 m a q) k
  replace G := own_aloadN (q := 1) G X0.here hx (hb hby d1_0) rfl rfl rfl
  obtain ⟨T1, X1, e1, st1⟩ := initO X0 hx hZ hown (hw _ (List.mem_of_getElem? (i := 6) rfl)) (hw _ (List.mem_of_getElem? (i := 7) rfl)) (hw _ (List.mem_of_getElem? (i := 8) rfl)) e0 (g := (mkF m 1 #[.val (.ref a), .val (.long q), .second] [(.ref a)])) rfl (by rw [hml]; rfl) rfl (hb hby d1_1) (by decide) (W := 0) (by show 2 * 0 + _ ≤ _; exact Nat.le_of_eq rfl) (by decide)
  replace G : Gets p e below _ (T1.setTop (mkF m 4 #[.val (.ref a), .val (.long q), .second] [])) := fun t k => G t (st1 t k)
  replace G := own_aloadN (q := 5) G X1.here hx (hb hby d1_4) rfl rfl rfl
  replace G := own_lloadN (q := 6) G X1.here hx (hb hby d1_5) rfl rfl
  obtain ⟨T2, h2, X2, e2, W2, st2⟩ := putF X1 hx hZ hown (host := "") (Or.inl (hw _ (List.mem_of_getElem? (i := 9) rfl))) Via.refl e1 P0 P1 (Or.inl (hw _ (List.mem_of_getElem? (i := 10) rfl))) (hw _ (List.mem_of_getElem? (i := 1) rfl)) (ty := .long) (by decide) rfl rfl (g := (mkF m 6 #[.val (.ref a), .val (.long q), .second] [(.long q), (.ref a)])) rfl rfl (hb hby d1_6)
  have N2 := Fr.snoc X2 N0 P2
  have Z2 : n0 ≤ h2.size := Nat.le_trans Z0 (Keep.of_wr W2).1
  have K2 : Keep h0 h2 [a] := K0.wr W2 (Or.inl (List.mem_of_getElem? (i := 0) rfl))
  have F2 : Fld Z h2 a "com/example/gridwright/gridwright/core/SplitMix64" "state" "J" (.long q) := P0.same W2
  replace G : Gets p e below _ (T2.setTop (mkF m 9 #[.val (.ref a), .val (.long q), .second] [])) := fun t k => G t (st2 t k)
  obtain ⟨fs, hr, hrun, hended, hW, hsame⟩ := X2.leave (v := none) (fun _ => rfl)
  refine ⟨_, _, G _ (X2.returnOut hx Bd.returns (hb hby d1_9) hr), hrun, hended, _, _, rfl, ?_, ⟨_, rfl⟩, hW, hsame.mono (by decide) (by decide)⟩
  show Q1 Z a q h0 n0 _ T2.heap _
  rw [e2]
  exact ⟨rfl, N2, K2, F2⟩
theorem d3_0 : decode prog_25_method_2_code 0 = .ok (.aload_n 0, 1) := by decide +kernel
theorem d3_1 : decode prog_25_method_2_code 1 = .ok (.dup, 1) := by decide +kernel
theorem d3_2 : decode prog_25_method_2_code 2 = .ok (.getfield 7, 3) := by decide +kernel
theorem d3_5 : decode prog_25_method_2_code 5 = .ok (.ldc2_w 13, 3) := by decide +kernel
theorem d3_8 : decode prog_25_method_2_code 8 = .ok (.ladd, 1) := by decide +kernel
theorem d3_9 : decode prog_25_method_2_code 9 = .ok (.putfield 7, 3) := by decide +kernel
theorem d3_12 : decode prog_25_method_2_code 12 = .ok (.aload_n 0, 1) := by decide +kernel
theorem d3_13 : decode prog_25_method_2_code 13 = .ok (.getfield 7, 3) := by decide +kernel
theorem d3_16 : decode prog_25_method_2_code 16 = .ok (.aload_n 0, 1) := by decide +kernel
theorem d3_17 : decode prog_25_method_2_code 17 = .ok (.getfield 7, 3) := by decide +kernel
theorem d3_20 : decode prog_25_method_2_code 20 = .ok (.bipush 30, 2) := by decide +kernel
theorem d3_22 : decode prog_25_method_2_code 22 = .ok (.lushr, 1) := by decide +kernel
theorem d3_23 : decode prog_25_method_2_code 23 = .ok (.lxor, 1) := by decide +kernel
theorem d3_24 : decode prog_25_method_2_code 24 = .ok (.ldc2_w 15, 3) := by decide +kernel
theorem d3_27 : decode prog_25_method_2_code 27 = .ok (.lmul, 1) := by decide +kernel
theorem d3_28 : decode prog_25_method_2_code 28 = .ok (.lstore_n 1, 1) := by decide +kernel
theorem d3_29 : decode prog_25_method_2_code 29 = .ok (.lload_n 1, 1) := by decide +kernel
theorem d3_30 : decode prog_25_method_2_code 30 = .ok (.lload_n 1, 1) := by decide +kernel
theorem d3_31 : decode prog_25_method_2_code 31 = .ok (.bipush 27, 2) := by decide +kernel
theorem d3_33 : decode prog_25_method_2_code 33 = .ok (.lushr, 1) := by decide +kernel
theorem d3_34 : decode prog_25_method_2_code 34 = .ok (.lxor, 1) := by decide +kernel
theorem d3_35 : decode prog_25_method_2_code 35 = .ok (.ldc2_w 17, 3) := by decide +kernel
theorem d3_38 : decode prog_25_method_2_code 38 = .ok (.lmul, 1) := by decide +kernel
theorem d3_39 : decode prog_25_method_2_code 39 = .ok (.lstore_n 1, 1) := by decide +kernel
theorem d3_40 : decode prog_25_method_2_code 40 = .ok (.lload_n 1, 1) := by decide +kernel
theorem d3_41 : decode prog_25_method_2_code 41 = .ok (.lload_n 1, 1) := by decide +kernel
theorem d3_42 : decode prog_25_method_2_code 42 = .ok (.bipush 31, 2) := by decide +kernel
theorem d3_44 : decode prog_25_method_2_code 44 = .ok (.lushr, 1) := by decide +kernel
theorem d3_45 : decode prog_25_method_2_code 45 = .ok (.lxor, 1) := by decide +kernel
theorem d3_46 : decode prog_25_method_2_code 46 = .ok (.lreturn, 1) := by decide +kernel
theorem ef_3 (m : MethodId) (x0 : Addr) : entryFrame m #[(.ref x0)] 3 = mkF m 0 #[.val (.ref x0), .unset, .unset] [] := by first | (simp [entryFrame, mkF, argsToLocals, Value.category]; done) | rfl
def Q3 (Z : State) (a : Addr) (w : Int64) (h0 : Heap) (n0 : Nat) (v : Option Value) (h : Heap) (L : List Loc) : Prop := v = some (.long (own_mix (w + (-7046029254386353131 : Int64)))) ∧ Fr n0 L ∧ Keep h0 h [a] ∧ (Fld Z h a "com/example/gridwright/gridwright/core/SplitMix64" "state" "J" (.long (w + (-7046029254386353131 : Int64))))
set_option maxRecDepth 65536 in
set_option maxHeartbeats 40000000 in
theorem rm3 (l : Launch) (Z : State) (a0 : Array Value) (hw : ∀ d ∈ tables_1, d.before a0 Z = true) (ws : List Jvm.Cond) (a : Addr) (w : Int64) (h0 : Heap) (n0 : Nat) (Z0 : n0 ≤ h0.size) (P0 : Fld Z h0 a "com/example/gridwright/gridwright/core/SplitMix64" "state" "J" (.long w)) (P1 : Exa Z h0 a "com/example/gridwright/gridwright/core/SplitMix64") (P2 : n0 ≤ a) :
    MetFree l (⟨"com/example/gridwright/gridwright/core/SplitMix64", "nextLong", "()J"⟩ : MethodName) (head1 (Jvm.Cond.code (⟨"com/example/gridwright/gridwright/core/SplitMix64", "nextLong", "()J"⟩ : MethodName) prog_25_method_2_code 3 (some .long) :: ws) ({ frames := 0, cells := 0, slots := 0, locals := 0 } : Room)) (fun zz U => zz = #[(.ref a)] ∧ Z.Warmed39 U.vm ∧ U.heap = h0) (fun _ _ _ _ _ => True) (fun _ U o U' => ∃ v L, o = .returned v ∧ Q3 Z a w h0 n0 v U'.heap L ∧ FrameEnd U o U' L ({ frames := 0, cells := 0, slots := 0, locals := 0 } : Room).cells ({ frames := 0, cells := 0, slots := 0, locals := 0 } : Room).slots) := by
  refine MetFree.of_bodySF (plainFor_of_name pn_com_example_gridwright_gridwright_core_SplitMix64) hisR ?_
  intro p e s m args below meth c s₁ Bd hml0 hP hK
  obtain ⟨rfl, hZ, hh⟩ := hP
  have hx := Bd.exec
  have hby := Bd.bytes
  have hml : c.maxLocals = 3 := hml0
  have hown : s.vm.findClass "com/example/gridwright/gridwright/core/SplitMix64" = some m.cls := findClass_of_methodNamed Bd.named
  have hnm := (name_of_methodNamed Bd.named Bd.method).1
  have X0 : Stand p l e ({ frames := 0, cells := 0, slots := 0, locals := 0 } : Room) s m #[(.ref a)] below meth c s₁ [] 0 0 := Stand.of_body Bd
  have e0 : s₁.heap = h0 := by rw [← hh, Bd.state]; rfl
  have N0 := Fr.nil n0
  have K0 : Keep h0 h0 [a] := Keep.refl _ _
  have G : Gets p e below (s₁.setTop (entryFrame m #[(.ref a)] 3)) (s₁.setTop (mkF m 0 #[.val (.ref a), .unset, .unset] [])) := fun t k => castTop (ef_3 m a) k
  replace G := own_aloadN (q := 1) G X0.here hx (hb hby d3_0) rfl rfl rfl
  replace G := own_dup (q := 2) G X0.here hx (hb hby d3_1) rfl rfl
  obtain ⟨T1, X1, e1, st1⟩ := getF X0 hx hZ hown (host := "") (Or.inl (hw _ (List.mem_of_getElem? (i := 9) rfl))) Via.refl e0 P0 (g := (mkF m 2 #[.val (.ref a), .unset, .unset] [(.ref a), (.ref a)])) rfl rfl (hb hby d3_2)
  replace G : Gets p e below _ (T1.setTop (mkF m 5 #[.val (.ref a), .unset, .unset] [(.long w), (.ref a)])) := fun t k => G t (st1 t k)
  replace G : Gets p e below _ (T1.setTop (mkF m 8 #[.val (.ref a), .unset, .unset] [(.long (-7046029254386353131 : Int64)), (.long w), (.ref a)])) := fun t k => G t (X1.ldc2Long hx hown (mvT hZ (hw _ (List.mem_of_getElem? (i := 16) rfl))) (g := (mkF m 5 #[.val (.ref a), .unset, .unset] [(.long w), (.ref a)])) rfl (hb hby d3_5) t k)
  obtain ⟨z0, hn_z0⟩ : ∃ z : Int64, (w + (-7046029254386353131 : Int64)) = z := ⟨_, rfl⟩
  replace G := own_ladd (q := 9) G X1.here hx (hb hby d3_8) hn_z0 rfl
  obtain ⟨T2, h2, X2, e2, W2, st2⟩ := putF X1 hx hZ hown (host := "") (Or.inl (hw _ (List.mem_of_getElem? (i := 9) rfl))) Via.refl e1 P0 P1 (Or.inl (hw _ (List.mem_of_getElem? (i := 10) rfl))) (hw _ (List.mem_of_getElem? (i := 1) rfl)) (ty := .long) (by decide) rfl rfl (g := (mkF m 9 #[.val (.ref a), .unset, .unset] [(.long z0), (.ref a)])) rfl rfl (hb hby d3_9)
  have N2 := Fr.snoc X2 N0 P2
  have Z2 : n0 ≤ h2.size := Nat.le_trans Z0 (Keep.of_wr W2).1
  have K2 : Keep h0 h2 [a] := K0.wr W2 (Or.inl (List.mem_of_getElem? (i := 0) rfl))
  have F2 : Fld Z h2 a "com/example/gridwright/gridwright/core/SplitMix64" "state" "J" (.long z0) := P0.same W2
  replace G : Gets p e below _ (T2.setTop (mkF m 12 #[.val (.ref a), .unset, .unset] [])) := fun t k => G t (st2 t k)
  replace G := own_aloadN (q := 13) G X2.here hx (hb hby d3_12) rfl rfl rfl
  obtain ⟨T3, X3, e3, st3⟩ := getF X2 hx hZ hown (host := "") (Or.inl (hw _ (List.mem_of_getElem? (i := 9) rfl))) Via.refl e2 F2 (g := (mkF m 13 #[.val (.ref a), .unset, .unset] [(.ref a)])) rfl rfl (hb hby d3_13)
  replace G : Gets p e below _ (T3.setTop (mkF m 16 #[.val (.ref a), .unset, .unset] [(.long z0)])) := fun t k => G t (st3 t k)
  replace G := own_aloadN (q := 17) G X3.here hx (hb hby d3_16) rfl rfl rfl
  obtain ⟨T4, X4, e4, st4⟩ := getF X3 hx hZ hown (host := "") (Or.inl (hw _ (List.mem_of_getElem? (i := 9) rfl))) Via.refl e3 F2 (g := (mkF m 17 #[.val (.ref a), .unset, .unset] [(.ref a), (.long z0)])) rfl rfl (hb hby d3_17)
  replace G : Gets p e below _ (T4.setTop (mkF m 20 #[.val (.ref a), .unset, .unset] [(.long z0), (.long z0)])) := fun t k => G t (st4 t k)
  replace G := own_bipush (q := 22) G X4.here hx (hb hby d3_20) (v := (30 : Int32)) (by decide) rfl
  replace G := own_lushr (q := 23) G X4.here hx (hb hby d3_22) rfl rfl
  replace G := own_lxor (q := 24) G X4.here hx (hb hby d3_23) rfl rfl
  replace G : Gets p e below _ (T4.setTop (mkF m 27 #[.val (.ref a), .unset, .unset] [(.long (-4658895280553007687 : Int64)), (.long (z0 ^^^ ((z0.toUInt64 >>> ((30 : Int32) &&& 0x3f).toInt64.toUInt64).toInt64)))])) := fun t k => G t (X4.ldc2Long hx hown (mvT hZ (hw _ (List.mem_of_getElem? (i := 17) rfl))) (g := (mkF m 24 #[.val (.ref a), .unset, .unset] [(.long (z0 ^^^ ((z0.toUInt64 >>> ((30 : Int32) &&& 0x3f).toInt64.toUInt64).toInt64)))])) rfl (hb hby d3_24) t k)
  obtain ⟨z1, hn_z1⟩ : ∃ z : Int64, ((z0 ^^^ ((z0.toUInt64 >>> ((30 : Int32) &&& 0x3f).toInt64.toUInt64).toInt64)) * (-4658895280553007687 : Int64)) = z := ⟨_, rfl⟩
  replace G := own_lmul (q := 28) G X4.here hx (hb hby d3_27) hn_z1 rfl
  replace G := own_lstoreN (q := 29) (l' := #[.val (.ref a), .val (.long z1), .second]) G X4.here hx (hb hby d3_28) rfl rfl
  replace G := own_lloadN (q := 30) G X4.here hx (hb hby d3_29) rfl rfl
  replace G := own_lloadN (q := 31) G X4.here hx (hb hby d3_30) rfl rfl
  replace G := own_bipush (q := 33) G X4.here hx (hb hby d3_31) (v := (27 : Int32)) (by decide) rfl
  replace G := own_lushr (q := 34) G X4.here hx (hb hby d3_33) rfl rfl
  replace G := own_lxor (q := 35) G X4.here hx (hb hby d3_34) rfl rfl
  replace G : Gets p e below _ (T4.setTop (mkF m 38 #[.val (.ref a), .val (.long z1), .second] [(.long (-7723592293110705685 : Int64)), (.long (z1 ^^^ ((z1.toUInt64 >>> ((27 : Int32) &&& 0x3f).toInt64.toUInt64).toInt64)))])) := fun t k => G t (X4.ldc2Long hx hown (mvT hZ (hw _ (List.mem_of_getElem? (i := 18) rfl))) (g := (mkF m 35 #[.val (.ref a), .val (.long z1), .second] [(.long (z1 ^^^ ((z1.toUInt64 >>> ((27 : Int32) &&& 0x3f).toInt64.toUInt64).toInt64)))])) rfl (hb hby d3_35) t k)
  obtain ⟨z2, hn_z2⟩ : ∃ z : Int64, ((z1 ^^^ ((z1.toUInt64 >>> ((27 : Int32) &&& 0x3f).toInt64.toUInt64).toInt64)) * (-7723592293110705685 : Int64)) = z := ⟨_, rfl⟩
  replace G := own_lmul (q := 39) G X4.here hx (hb hby d3_38) hn_z2 rfl
  replace G := own_lstoreN (q := 40) (l' := #[.val (.ref a), .val (.long z2), .second]) G X4.here hx (hb hby d3_39) rfl rfl
  replace G := own_lloadN (q := 41) G X4.here hx (hb hby d3_40) rfl rfl
  replace G := own_lloadN (q := 42) G X4.here hx (hb hby d3_41) rfl rfl
  replace G := own_bipush (q := 44) G X4.here hx (hb hby d3_42) (v := (31 : Int32)) (by decide) rfl
  replace G := own_lushr (q := 45) G X4.here hx (hb hby d3_44) rfl rfl
  replace G := own_lxor (q := 46) G X4.here hx (hb hby d3_45) rfl rfl
  obtain ⟨fs, hr, hrun, hended, hW, hsame⟩ := X4.leave (v := some (.long (z2 ^^^ ((z2.toUInt64 >>> ((31 : Int32) &&& 0x3f).toInt64.toUInt64).toInt64)))) (fun h => by rw [Bd.returns] at h; cases h)
  refine ⟨_, _, G _ (retOut X4 hx Bd.returns rfl (Or.inr (Or.inl ⟨rfl, rfl, _, rfl⟩)) (hb hby d3_46) hr), hrun, hended, _, _, rfl, ?_, ⟨_, rfl⟩, hW, hsame.mono (by decide) (by decide)⟩
  subst hn_z2 hn_z1 hn_z0
  show Q3 Z a w h0 n0 _ T4.heap _
  rw [e4]
  exact ⟨(congrArg (fun z => some (Value.long z)) (rfl)), N2, K2, F2⟩
theorem d4_0 : decode method_2_code 0 = .ok (.lload_n 0, 1) := by decide +kernel
theorem d4_1 : decode method_2_code 1 = .ok (.lload_n 0, 1) := by decide +kernel
theorem d4_2 : decode method_2_code 2 = .ok (.bipush 31, 2) := by decide +kernel
theorem d4_4 : decode method_2_code 4 = .ok (.lushr, 1) := by decide +kernel
theorem d4_5 : decode method_2_code 5 = .ok (.lxor, 1) := by decide +kernel
theorem d4_6 : decode method_2_code 6 = .ok (.lload_n 0, 1) := by decide +kernel
theorem d4_7 : decode method_2_code 7 = .ok (.bipush 62, 2) := by decide +kernel
theorem d4_9 : decode method_2_code 9 = .ok (.lushr, 1) := by decide +kernel
theorem d4_10 : decode method_2_code 10 = .ok (.lxor, 1) := by decide +kernel
theorem d4_11 : decode method_2_code 11 = .ok (.lstore_n 2, 1) := by decide +kernel
theorem d4_12 : decode method_2_code 12 = .ok (.lload_n 2, 1) := by decide +kernel
theorem d4_13 : decode method_2_code 13 = .ok (.ldc2_w 7, 3) := by decide +kernel
theorem d4_16 : decode method_2_code 16 = .ok (.lmul, 1) := by decide +kernel
theorem d4_17 : decode method_2_code 17 = .ok (.lstore_n 2, 1) := by decide +kernel
theorem d4_18 : decode method_2_code 18 = .ok (.lload_n 2, 1) := by decide +kernel
theorem d4_19 : decode method_2_code 19 = .ok (.lload_n 2, 1) := by decide +kernel
theorem d4_20 : decode method_2_code 20 = .ok (.bipush 27, 2) := by decide +kernel
theorem d4_22 : decode method_2_code 22 = .ok (.lushr, 1) := by decide +kernel
theorem d4_23 : decode method_2_code 23 = .ok (.lxor, 1) := by decide +kernel
theorem d4_24 : decode method_2_code 24 = .ok (.lload_n 2, 1) := by decide +kernel
theorem d4_25 : decode method_2_code 25 = .ok (.bipush 54, 2) := by decide +kernel
theorem d4_27 : decode method_2_code 27 = .ok (.lushr, 1) := by decide +kernel
theorem d4_28 : decode method_2_code 28 = .ok (.lxor, 1) := by decide +kernel
theorem d4_29 : decode method_2_code 29 = .ok (.lstore_n 2, 1) := by decide +kernel
theorem d4_30 : decode method_2_code 30 = .ok (.lload_n 2, 1) := by decide +kernel
theorem d4_31 : decode method_2_code 31 = .ok (.ldc2_w 9, 3) := by decide +kernel
theorem d4_34 : decode method_2_code 34 = .ok (.lmul, 1) := by decide +kernel
theorem d4_35 : decode method_2_code 35 = .ok (.lstore_n 2, 1) := by decide +kernel
theorem d4_36 : decode method_2_code 36 = .ok (.lload_n 2, 1) := by decide +kernel
theorem d4_37 : decode method_2_code 37 = .ok (.lload_n 2, 1) := by decide +kernel
theorem d4_38 : decode method_2_code 38 = .ok (.bipush 30, 2) := by decide +kernel
theorem d4_40 : decode method_2_code 40 = .ok (.lushr, 1) := by decide +kernel
theorem d4_41 : decode method_2_code 41 = .ok (.lxor, 1) := by decide +kernel
theorem d4_42 : decode method_2_code 42 = .ok (.lload_n 2, 1) := by decide +kernel
theorem d4_43 : decode method_2_code 43 = .ok (.bipush 60, 2) := by decide +kernel
theorem d4_45 : decode method_2_code 45 = .ok (.lushr, 1) := by decide +kernel
theorem d4_46 : decode method_2_code 46 = .ok (.lxor, 1) := by decide +kernel
theorem d4_47 : decode method_2_code 47 = .ok (.lstore_n 2, 1) := by decide +kernel
theorem d4_48 : decode method_2_code 48 = .ok (.lload_n 2, 1) := by decide +kernel
theorem d4_49 : decode method_2_code 49 = .ok (.lreturn, 1) := by decide +kernel
theorem pn_com_example_gridwright_gridwright_core_SplitMix64NextLongPinLaw : plainName "com/example/gridwright/gridwright/core/SplitMix64NextLongPinLaw" = true := by first | (simp [plainName, overriddenIn]; done) | decide +kernel
theorem ef_4 (m : MethodId) (x0 : Int64) : entryFrame m #[(.long x0)] 4 = mkF m 0 #[.val (.long x0), .second, .unset, .unset] [] := by first | (simp [entryFrame, mkF, argsToLocals, Value.category]; done) | rfl
def Q4 (Z : State) (q : Int64) (h0 : Heap) (n0 : Nat) (v : Option Value) (h : Heap) (L : List Loc) : Prop := v = some (.long (own_unmix q)) ∧ Fr n0 L ∧ h = h0
set_option maxRecDepth 65536 in
set_option maxHeartbeats 40000000 in
theorem rm4 (l : Launch) (Z : State) (a0 : Array Value) (hw : ∀ d ∈ tables_1, d.before a0 Z = true) (ws : List Jvm.Cond) (q : Int64) (h0 : Heap) (n0 : Nat) (Z0 : n0 ≤ h0.size)  :
    MetFree l (⟨"com/example/gridwright/gridwright/core/SplitMix64NextLongPinLaw", "unmix", "(J)J"⟩ : MethodName) (head1 (Jvm.Cond.code (⟨"com/example/gridwright/gridwright/core/SplitMix64NextLongPinLaw", "unmix", "(J)J"⟩ : MethodName) method_2_code 4 (some .long) :: ws) ({ frames := 0, cells := 0, slots := 0, locals := 0 } : Room)) (fun zz U => zz = #[(.long q)] ∧ Z.Warmed39 U.vm ∧ U.heap = h0) (fun _ _ _ _ _ => True) (fun _ U o U' => ∃ v L, o = .returned v ∧ Q4 Z q h0 n0 v U'.heap L ∧ FrameEnd U o U' L ({ frames := 0, cells := 0, slots := 0, locals := 0 } : Room).cells ({ frames := 0, cells := 0, slots := 0, locals := 0 } : Room).slots) := by
  refine MetFree.of_bodySF (plainFor_of_name pn_com_example_gridwright_gridwright_core_SplitMix64NextLongPinLaw) hisR ?_
  intro p e s m args below meth c s₁ Bd hml0 hP hK
  obtain ⟨rfl, hZ, hh⟩ := hP
  have hx := Bd.exec
  have hby := Bd.bytes
  have hml : c.maxLocals = 4 := hml0
  have hown : s.vm.findClass "com/example/gridwright/gridwright/core/SplitMix64NextLongPinLaw" = some m.cls := findClass_of_methodNamed Bd.named
  have hnm := (name_of_methodNamed Bd.named Bd.method).1
  have X0 : Stand p l e ({ frames := 0, cells := 0, slots := 0, locals := 0 } : Room) s m #[(.long q)] below meth c s₁ [] 0 0 := Stand.of_body Bd
  have e0 : s₁.heap = h0 := by rw [← hh, Bd.state]; rfl
  have N0 := Fr.nil n0
  have G : Gets p e below (s₁.setTop (entryFrame m #[(.long q)] 4)) (s₁.setTop (mkF m 0 #[.val (.long q), .second, .unset, .unset] [])) := fun t k => castTop (ef_4 m q) k
  replace G := own_lloadN (q := 1) G X0.here hx (hb hby d4_0) rfl rfl
  replace G := own_lloadN (q := 2) G X0.here hx (hb hby d4_1) rfl rfl
  replace G := own_bipush (q := 4) G X0.here hx (hb hby d4_2) (v := (31 : Int32)) (by decide) rfl
  replace G := own_lushr (q := 5) G X0.here hx (hb hby d4_4) rfl rfl
  replace G := own_lxor (q := 6) G X0.here hx (hb hby d4_5) rfl rfl
  replace G := own_lloadN (q := 7) G X0.here hx (hb hby d4_6) rfl rfl
  replace G := own_bipush (q := 9) G X0.here hx (hb hby d4_7) (v := (62 : Int32)) (by decide) rfl
  replace G := own_lushr (q := 10) G X0.here hx (hb hby d4_9) rfl rfl
  replace G := own_lxor (q := 11) G X0.here hx (hb hby d4_10) rfl rfl
  replace G := own_lstoreN (q := 12) (l' := #[.val (.long q), .second, .val (.long ((q ^^^ ((q.toUInt64 >>> ((31 : Int32) &&& 0x3f).toInt64.toUInt64).toInt64)) ^^^ ((q.toUInt64 >>> ((62 : Int32) &&& 0x3f).toInt64.toUInt64).toInt64))), .second]) G X0.here hx (hb hby d4_11) rfl rfl
  replace G := own_lloadN (q := 13) G X0.here hx (hb hby d4_12) rfl rfl
  replace G : Gets p e below _ (s₁.setTop (mkF m 16 #[.val (.long q), .second, .val (.long ((q ^^^ ((q.toUInt64 >>> ((31 : Int32) &&& 0x3f).toInt64.toUInt64).toInt64)) ^^^ ((q.toUInt64 >>> ((62 : Int32) &&& 0x3f).toInt64.toUInt64).toInt64))), .second] [(.long (3573116690164977347 : Int64)), (.long ((q ^^^ ((q.toUInt64 >>> ((31 : Int32) &&& 0x3f).toInt64.toUInt64).toInt64)) ^^^ ((q.toUInt64 >>> ((62 : Int32) &&& 0x3f).toInt64.toUInt64).toInt64)))])) := fun t k => G t (X0.ldc2Long hx hown (mvT hZ (hw _ (List.mem_of_getElem? (i := 23) rfl))) (g := (mkF m 13 #[.val (.long q), .second, .val (.long ((q ^^^ ((q.toUInt64 >>> ((31 : Int32) &&& 0x3f).toInt64.toUInt64).toInt64)) ^^^ ((q.toUInt64 >>> ((62 : Int32) &&& 0x3f).toInt64.toUInt64).toInt64))), .second] [(.long ((q ^^^ ((q.toUInt64 >>> ((31 : Int32) &&& 0x3f).toInt64.toUInt64).toInt64)) ^^^ ((q.toUInt64 >>> ((62 : Int32) &&& 0x3f).toInt64.toUInt64).toInt64)))])) rfl (hb hby d4_13) t k)
  obtain ⟨z1, hn_z1⟩ : ∃ z : Int64, (((q ^^^ ((q.toUInt64 >>> ((31 : Int32) &&& 0x3f).toInt64.toUInt64).toInt64)) ^^^ ((q.toUInt64 >>> ((62 : Int32) &&& 0x3f).toInt64.toUInt64).toInt64)) * (3573116690164977347 : Int64)) = z := ⟨_, rfl⟩
  replace G := own_lmul (q := 17) G X0.here hx (hb hby d4_16) hn_z1 rfl
  replace G := own_lstoreN (q := 18) (l' := #[.val (.long q), .second, .val (.long z1), .second]) G X0.here hx (hb hby d4_17) rfl rfl
  replace G := own_lloadN (q := 19) G X0.here hx (hb hby d4_18) rfl rfl
  replace G := own_lloadN (q := 20) G X0.here hx (hb hby d4_19) rfl rfl
  replace G := own_bipush (q := 22) G X0.here hx (hb hby d4_20) (v := (27 : Int32)) (by decide) rfl
  replace G := own_lushr (q := 23) G X0.here hx (hb hby d4_22) rfl rfl
  replace G := own_lxor (q := 24) G X0.here hx (hb hby d4_23) rfl rfl
  replace G := own_lloadN (q := 25) G X0.here hx (hb hby d4_24) rfl rfl
  replace G := own_bipush (q := 27) G X0.here hx (hb hby d4_25) (v := (54 : Int32)) (by decide) rfl
  replace G := own_lushr (q := 28) G X0.here hx (hb hby d4_27) rfl rfl
  replace G := own_lxor (q := 29) G X0.here hx (hb hby d4_28) rfl rfl
  replace G := own_lstoreN (q := 30) (l' := #[.val (.long q), .second, .val (.long ((z1 ^^^ ((z1.toUInt64 >>> ((27 : Int32) &&& 0x3f).toInt64.toUInt64).toInt64)) ^^^ ((z1.toUInt64 >>> ((54 : Int32) &&& 0x3f).toInt64.toUInt64).toInt64))), .second]) G X0.here hx (hb hby d4_29) rfl rfl
  replace G := own_lloadN (q := 31) G X0.here hx (hb hby d4_30) rfl rfl
  replace G : Gets p e below _ (s₁.setTop (mkF m 34 #[.val (.long q), .second, .val (.long ((z1 ^^^ ((z1.toUInt64 >>> ((27 : Int32) &&& 0x3f).toInt64.toUInt64).toInt64)) ^^^ ((z1.toUInt64 >>> ((54 : Int32) &&& 0x3f).toInt64.toUInt64).toInt64))), .second] [(.long (-7575587736534282103 : Int64)), (.long ((z1 ^^^ ((z1.toUInt64 >>> ((27 : Int32) &&& 0x3f).toInt64.toUInt64).toInt64)) ^^^ ((z1.toUInt64 >>> ((54 : Int32) &&& 0x3f).toInt64.toUInt64).toInt64)))])) := fun t k => G t (X0.ldc2Long hx hown (mvT hZ (hw _ (List.mem_of_getElem? (i := 24) rfl))) (g := (mkF m 31 #[.val (.long q), .second, .val (.long ((z1 ^^^ ((z1.toUInt64 >>> ((27 : Int32) &&& 0x3f).toInt64.toUInt64).toInt64)) ^^^ ((z1.toUInt64 >>> ((54 : Int32) &&& 0x3f).toInt64.toUInt64).toInt64))), .second] [(.long ((z1 ^^^ ((z1.toUInt64 >>> ((27 : Int32) &&& 0x3f).toInt64.toUInt64).toInt64)) ^^^ ((z1.toUInt64 >>> ((54 : Int32) &&& 0x3f).toInt64.toUInt64).toInt64)))])) rfl (hb hby d4_31) t k)
  obtain ⟨z2, hn_z2⟩ : ∃ z : Int64, (((z1 ^^^ ((z1.toUInt64 >>> ((27 : Int32) &&& 0x3f).toInt64.toUInt64).toInt64)) ^^^ ((z1.toUInt64 >>> ((54 : Int32) &&& 0x3f).toInt64.toUInt64).toInt64)) * (-7575587736534282103 : Int64)) = z := ⟨_, rfl⟩
  replace G := own_lmul (q := 35) G X0.here hx (hb hby d4_34) hn_z2 rfl
  replace G := own_lstoreN (q := 36) (l' := #[.val (.long q), .second, .val (.long z2), .second]) G X0.here hx (hb hby d4_35) rfl rfl
  replace G := own_lloadN (q := 37) G X0.here hx (hb hby d4_36) rfl rfl
  replace G := own_lloadN (q := 38) G X0.here hx (hb hby d4_37) rfl rfl
  replace G := own_bipush (q := 40) G X0.here hx (hb hby d4_38) (v := (30 : Int32)) (by decide) rfl
  replace G := own_lushr (q := 41) G X0.here hx (hb hby d4_40) rfl rfl
  replace G := own_lxor (q := 42) G X0.here hx (hb hby d4_41) rfl rfl
  replace G := own_lloadN (q := 43) G X0.here hx (hb hby d4_42) rfl rfl
  replace G := own_bipush (q := 45) G X0.here hx (hb hby d4_43) (v := (60 : Int32)) (by decide) rfl
  replace G := own_lushr (q := 46) G X0.here hx (hb hby d4_45) rfl rfl
  replace G := own_lxor (q := 47) G X0.here hx (hb hby d4_46) rfl rfl
  replace G := own_lstoreN (q := 48) (l' := #[.val (.long q), .second, .val (.long ((z2 ^^^ ((z2.toUInt64 >>> ((30 : Int32) &&& 0x3f).toInt64.toUInt64).toInt64)) ^^^ ((z2.toUInt64 >>> ((60 : Int32) &&& 0x3f).toInt64.toUInt64).toInt64))), .second]) G X0.here hx (hb hby d4_47) rfl rfl
  replace G := own_lloadN (q := 49) G X0.here hx (hb hby d4_48) rfl rfl
  obtain ⟨fs, hr, hrun, hended, hW, hsame⟩ := X0.leave (v := some (.long ((z2 ^^^ ((z2.toUInt64 >>> ((30 : Int32) &&& 0x3f).toInt64.toUInt64).toInt64)) ^^^ ((z2.toUInt64 >>> ((60 : Int32) &&& 0x3f).toInt64.toUInt64).toInt64)))) (fun h => by rw [Bd.returns] at h; cases h)
  refine ⟨_, _, G _ (retOut X0 hx Bd.returns rfl (Or.inr (Or.inl ⟨rfl, rfl, _, rfl⟩)) (hb hby d4_49) hr), hrun, hended, _, _, rfl, ?_, ⟨_, rfl⟩, hW, hsame.mono (by decide) (by decide)⟩
  subst hn_z2 hn_z1
  show Q4 Z q h0 n0 _ s₁.heap _
  rw [e0]
  exact ⟨(congrArg (fun z => some (Value.long z)) (rfl)), N0, rfl⟩
theorem pd_0 : parseMethodDescriptor "(J)V" = some ⟨[.long], none⟩ := by decide +kernel
theorem pd_1 : parseMethodDescriptor "()J" = some ⟨[], some .long⟩ := by decide +kernel
theorem pd_2 : parseMethodDescriptor "(J)J" = some ⟨[.long], some .long⟩ := by decide +kernel
theorem ef_0 (m : MethodId) (x0 : Int64) : entryFrame m #[(.long x0)] maxLocals = mkF m 0 #[.val (.long x0), .second, .unset, .unset, .unset, .unset, .unset] [] := by first | (simp [entryFrame, mkF, argsToLocals, Value.category, maxLocals]; done) | rfl
def Q0 (Z : State) (q : Int64) (h0 : Heap) (n0 : Nat) (v : Option Value) (h : Heap) (L : List Loc) : Prop := v = some (.int (1 : Int32)) ∧ Fr n0 L
set_option maxRecDepth 65536 in
set_option maxHeartbeats 40000000 in
theorem rm0 (l : Launch) (Z : State) (a0 : Array Value) (hw : ∀ d ∈ tables_1, d.before a0 Z = true) (ws : List Jvm.Cond) (q : Int64) (h0 : Heap) (n0 : Nat) (Z0 : n0 ≤ h0.size)  :
    MetFree l x (head1 (Jvm.Cond.code x code maxLocals ret :: ws) room_1) (fun zz U => zz = #[(.long q)] ∧ Z.Warmed39 U.vm ∧ U.heap = h0) (fun _ _ _ _ _ => True) (fun _ U o U' => ∃ v L, o = .returned v ∧ Q0 Z q h0 n0 v U'.heap L ∧ FrameEnd U o U' L room_1.cells room_1.slots) := by
  refine MetFree.of_bodySF (plainFor_of_name pn_com_example_gridwright_gridwright_core_SplitMix64NextLongPinLaw) hisR ?_
  intro p e s m args below meth c s₁ Bd hml0 hP hK
  obtain ⟨rfl, hZ, hh⟩ := hP
  have hx := Bd.exec
  have hby := Bd.bytes
  have hml : c.maxLocals = 7 := hml0
  have hown : s.vm.findClass "com/example/gridwright/gridwright/core/SplitMix64NextLongPinLaw" = some m.cls := findClass_of_methodNamed Bd.named
  have hnm := (name_of_methodNamed Bd.named Bd.method).1
  have X0 : Stand p l e room_1 s m #[(.long q)] below meth c s₁ [] 0 0 := Stand.of_body Bd
  have e0 : s₁.heap = h0 := by rw [← hh, Bd.state]; rfl
  have N0 := Fr.nil n0
  have G : Gets p e below (s₁.setTop (entryFrame m #[(.long q)] maxLocals)) (s₁.setTop (mkF m 0 #[.val (.long q), .second, .unset, .unset, .unset, .unset, .unset] [])) := fun t k => castTop (ef_0 m q) k
  obtain ⟨T1, h1, X1, e1, E1, A1, D1, -, st1⟩ := newO X0 hx hZ hown (hw _ (List.mem_of_getElem? (i := 0) rfl)) (hw _ (List.mem_of_getElem? (i := 1) rfl)) (hw _ (List.mem_of_getElem? (i := 2) rfl)) e0 (g := (mkF m 0 #[.val (.long q), .second, .unset, .unset, .unset, .unset, .unset] [])) rfl (hb hby at_0) (by decide) (by decide)
  obtain ⟨b1, g1⟩ : ∃ z, z = h0.size := ⟨_, rfl⟩
  rw [← g1] at A1 D1 st1
  have ge_b1 : n0 ≤ b1 := Nat.le_trans Z0 (Nat.le_of_eq g1.symm)
  have Z1 : n0 ≤ h1.size := Nat.le_trans Z0 E1.1
  have F1_state : Fld Z h1 b1 "com/example/gridwright/gridwright/core/SplitMix64" "state" "J" (.long (0 : Int64)) := D1 (Or.inl (hw _ (List.mem_of_getElem? (i := 10) rfl))) (ty := .long) (by decide)
  replace G : Gets p e below _ (T1.setTop (mkF m 3 #[.val (.long q), .second, .unset, .unset, .unset, .unset, .unset] [(.ref b1)])) := fun t k => G t (st1 t k)
  replace G := own_dup (q := 4) G X1.here hx (hb hby at_3) rfl rfl
  replace G := own_lloadN (q := 5) G X1.here hx (hb hby at_4) rfl rfl
  obtain ⟨_, _, ⟨T2, L2, kk2, nn2⟩, -, X2, ⟨Lc2, hQ2, l2, y2, z2⟩, st2⟩ := X1.specialBack hx (y := (⟨"com/example/gridwright/gridwright/core/SplitMix64", "<init>", "(J)V"⟩ : MethodName)) rfl hown (mvT hZ (hw _ (List.mem_of_getElem? (i := 3) rfl))) (mvT hZ (hw _ (List.mem_of_getElem? (i := 4) rfl))) (mvT hZ (hw _ (List.mem_of_getElem? (i := 5) rfl))) (by decide) (backOf (W := 1) (rm1 l Z a0 hw [] b1 q h1 n0 Z1 F1_state A1 ge_b1) hZ (hw _ (List.mem_of_getElem? (i := 5) rfl)) (hw _ (List.mem_of_getElem? (i := 2) rfl)) (by decide) (by decide)) (g := (mkF m 5 #[.val (.long q), .second, .unset, .unset, .unset, .unset, .unset] [(.long q), (.ref b1), (.ref b1)])) rfl (by rw [hml]; rfl) (Steps.refl _) (a := b1) (argsL := [(.long q)]) (rest := [(.ref b1)]) (lenOf pd_0 rfl) rfl (by show 2 * 0 + _ ≤ _; exact Nat.le_of_eq rfl) (hb hby at_5) (fun _ _ => ⟨rfl, e1, (by decide : 1 + 0 ≤ _), (by decide : 1 + 0 ≤ _)⟩)
  dsimp only [Pt.U, Pt.locs, Pt.cells, Pt.slots] at X2 l2 y2 z2 st2 hQ2
  subst l2 y2 z2
  obtain ⟨rfl, N2q, K2q, B2_0⟩ := hQ2
  have Z2 : n0 ≤ T2.heap.size := Nat.le_trans Z1 K2q.1
  have N2 := Fr.app N0 N2q
  replace G : Gets p e below _ (T2.setTop (mkF m 8 #[.val (.long q), .second, .unset, .unset, .unset, .unset, .unset] [(.ref b1)])) := fun t k => G t (st2.trans k)
  replace G := own_astoreN (q := 9) (l' := #[.val (.long q), .second, .val (.ref b1), .unset, .unset, .unset, .unset]) G X2.here hx (hb hby at_8) rfl rfl rfl
  replace G := own_aloadN (q := 10) G X2.here hx (hb hby at_9) rfl rfl rfl
  have F4 : Exa Z T2.heap b1 "com/example/gridwright/gridwright/core/SplitMix64" := (A1.keep K2q)
  obtain ⟨cq3, kq3, q3a, q3b, q3c⟩ := isOf hZ rfl F4
  obtain ⟨_, _, ⟨T3, L3, kk3, nn3⟩, -, X3, ⟨Lc3, hQ3, l3, y3, z3⟩, st3⟩ := X2.virtualBack hx (y := (⟨"com/example/gridwright/gridwright/core/SplitMix64", "nextLong", "()J"⟩ : MethodName)) (z := (⟨"com/example/gridwright/gridwright/core/SplitMix64", "nextLong", "()J"⟩ : MethodName)) hown (mvT hZ (hw _ (List.mem_of_getElem? (i := 11) rfl))) (mvT hZ (hw _ (List.mem_of_getElem? (i := 12) rfl))) (notFace_of_selects (args := #[]) (mvT hZ (hw _ (List.mem_of_getElem? (i := 14) rfl)))) (mvT hZ (hw _ (List.mem_of_getElem? (i := 14) rfl))) (mvT hZ (hw _ (List.mem_of_getElem? (i := 13) rfl))) (by decide) (backOf (W := 0) (rm3 l Z a0 hw [] b1 q T2.heap n0 Z2 B2_0 F4 ge_b1) hZ (hw _ (List.mem_of_getElem? (i := 15) rfl)) (hw _ (List.mem_of_getElem? (i := 2) rfl)) (by decide) (by decide)) q3a q3c (g := (mkF m 10 #[.val (.long q), .second, .val (.ref b1), .unset, .unset, .unset, .unset] [(.ref b1)])) rfl (by rw [hml]; rfl) (Steps.refl _) (argsL := []) (rest := []) (lenOf pd_1 rfl) rfl (by show 2 * 0 + _ ≤ _; exact Nat.le_of_eq rfl) (hb hby at_10) (fun _ _ => ⟨rfl, rfl, (by decide : 1 + 0 ≤ _), (by decide : 1 + 0 ≤ _)⟩)
  dsimp only [Pt.U, Pt.locs, Pt.cells, Pt.slots] at X3 l3 y3 z3 st3 hQ3
  subst l3 y3 z3
  obtain ⟨rfl, N3q, K3q, B3_0⟩ := hQ3
  have Z3 : n0 ≤ T3.heap.size := Nat.le_trans Z2 K3q.1
  have N3 := Fr.app N2 N3q
  replace G : Gets p e below _ (T3.setTop (mkF m 13 #[.val (.long q), .second, .val (.ref b1), .unset, .unset, .unset, .unset] [(.long (own_mix (q + (-7046029254386353131 : Int64))))])) := fun t k => G t (st3.trans k)
  replace G := own_lstoreN (q := 14) (l' := #[.val (.long q), .second, .val (.ref b1), .val (.long (own_mix (q + (-7046029254386353131 : Int64)))), .second, .unset, .unset]) G X3.here hx (hb hby at_13) rfl rfl
  replace G := own_aloadN (q := 15) G X3.here hx (hb hby at_14) rfl rfl rfl
  have F6 : Exa Z T3.heap b1 "com/example/gridwright/gridwright/core/SplitMix64" := (F4.keep K3q)
  obtain ⟨cq5, kq5, q5a, q5b, q5c⟩ := isOf hZ rfl F6
  obtain ⟨_, _, ⟨T5, L5, kk5, nn5⟩, -, X5, ⟨Lc5, hQ5, l5, y5, z5⟩, st5⟩ := X3.virtualBack hx (y := (⟨"com/example/gridwright/gridwright/core/SplitMix64", "nextLong", "()J"⟩ : MethodName)) (z := (⟨"com/example/gridwright/gridwright/core/SplitMix64", "nextLong", "()J"⟩ : MethodName)) hown (mvT hZ (hw _ (List.mem_of_getElem? (i := 11) rfl))) (mvT hZ (hw _ (List.mem_of_getElem? (i := 12) rfl))) (notFace_of_selects (args := #[]) (mvT hZ (hw _ (List.mem_of_getElem? (i := 14) rfl)))) (mvT hZ (hw _ (List.mem_of_getElem? (i := 14) rfl))) (mvT hZ (hw _ (List.mem_of_getElem? (i := 13) rfl))) (by decide) (backOf (W := 0) (rm3 l Z a0 hw [] b1 (q + (-7046029254386353131 : Int64)) T3.heap n0 Z3 B3_0 F6 ge_b1) hZ (hw _ (List.mem_of_getElem? (i := 15) rfl)) (hw _ (List.mem_of_getElem? (i := 2) rfl)) (by decide) (by decide)) q5a q5c (g := (mkF m 15 #[.val (.long q), .second, .val (.ref b1), .val (.long (own_mix (q + (-7046029254386353131 : Int64)))), .second, .unset, .unset] [(.ref b1)])) rfl (by rw [hml]; rfl) (Steps.refl _) (argsL := []) (rest := []) (lenOf pd_1 rfl) rfl (by show 2 * 0 + _ ≤ _; exact Nat.le_of_eq rfl) (hb hby at_15) (fun _ _ => ⟨rfl, rfl, (by decide : 1 + 0 ≤ _), (by decide : 1 + 0 ≤ _)⟩)
  dsimp only [Pt.U, Pt.locs, Pt.cells, Pt.slots] at X5 l5 y5 z5 st5 hQ5
  subst l5 y5 z5
  obtain ⟨rfl, N5q, K5q, B5_0⟩ := hQ5
  have Z5 : n0 ≤ T5.heap.size := Nat.le_trans Z3 K5q.1
  have N5 := Fr.app N3 N5q
  replace G : Gets p e below _ (T5.setTop (mkF m 18 #[.val (.long q), .second, .val (.ref b1), .val (.long (own_mix (q + (-7046029254386353131 : Int64)))), .second, .unset, .unset] [(.long (own_mix ((q + (-7046029254386353131 : Int64)) + (-7046029254386353131 : Int64))))])) := fun t k => G t (st5.trans k)
  replace G := own_lstore (q := 20) (l' := #[.val (.long q), .second, .val (.ref b1), .val (.long (own_mix (q + (-7046029254386353131 : Int64)))), .second, .val (.long (own_mix ((q + (-7046029254386353131 : Int64)) + (-7046029254386353131 : Int64)))), .second]) G X5.here hx (hb hby at_18) rfl rfl
  replace G := own_lloadN (q := 21) G X5.here hx (hb hby at_20) rfl rfl
  obtain ⟨_, _, ⟨T7, L7, kk7, nn7⟩, -, X7, ⟨Lc7, hQ7, l7, y7, z7⟩, st7⟩ := Jvm.LawKit.callS X5 hx (y := (⟨"com/example/gridwright/gridwright/core/SplitMix64NextLongPinLaw", "unmix", "(J)J"⟩ : MethodName)) hown (mvT hZ (hw _ (List.mem_of_getElem? (i := 19) rfl))) (mvT hZ (hw _ (List.mem_of_getElem? (i := 20) rfl))) (mvT hZ (hw _ (List.mem_of_getElem? (i := 21) rfl))) (mvT hZ (hw _ (List.mem_of_getElem? (i := 22) rfl))) (by decide) (backOf (W := 0) (rm4 l Z a0 hw [] (own_mix (q + (-7046029254386353131 : Int64))) T5.heap n0 Z5 ) hZ (hw _ (List.mem_of_getElem? (i := 22) rfl)) (hw _ (List.mem_of_getElem? (i := 21) rfl)) (by decide) (by decide)) (g := (mkF m 21 #[.val (.long q), .second, .val (.ref b1), .val (.long (own_mix (q + (-7046029254386353131 : Int64)))), .second, .val (.long (own_mix ((q + (-7046029254386353131 : Int64)) + (-7046029254386353131 : Int64)))), .second] [(.long (own_mix (q + (-7046029254386353131 : Int64))))])) rfl (by rw [hml]; rfl) (argsL := [(.long (own_mix (q + (-7046029254386353131 : Int64))))]) (rest := []) (lenOf pd_2 rfl) rfl (by show 2 * 0 + _ ≤ _; exact Nat.le_of_eq rfl) (hb hby at_21) (fun _ _ => ⟨rfl, rfl, (by decide : 1 + 0 ≤ _), (by decide : 1 + 0 ≤ _)⟩)
  dsimp only [Pt.U, Pt.locs, Pt.cells, Pt.slots] at X7 l7 y7 z7 st7 hQ7
  subst l7 y7 z7
  obtain ⟨rfl, N7q, e7⟩ := hQ7
  have N7 := Fr.app N5 N7q
  replace G : Gets p e below _ (T7.setTop (mkF m 24 #[.val (.long q), .second, .val (.ref b1), .val (.long (own_mix (q + (-7046029254386353131 : Int64)))), .second, .val (.long (own_mix ((q + (-7046029254386353131 : Int64)) + (-7046029254386353131 : Int64)))), .second] [(.long (own_unmix (own_mix (q + (-7046029254386353131 : Int64)))))])) := fun t k => G t (st7 t k)
  replace G := own_lloadN (q := 25) G X7.here hx (hb hby at_24) rfl rfl
  replace G : Gets p e below _ (T7.setTop (mkF m 28 #[.val (.long q), .second, .val (.ref b1), .val (.long (own_mix (q + (-7046029254386353131 : Int64)))), .second, .val (.long (own_mix ((q + (-7046029254386353131 : Int64)) + (-7046029254386353131 : Int64)))), .second] [(.long (-7046029254386353131 : Int64)), (.long q), (.long (own_unmix (own_mix (q + (-7046029254386353131 : Int64)))))])) := fun t k => G t (X7.ldc2Long hx hown (mvT hZ (hw _ (List.mem_of_getElem? (i := 25) rfl))) (g := (mkF m 25 #[.val (.long q), .second, .val (.ref b1), .val (.long (own_mix (q + (-7046029254386353131 : Int64)))), .second, .val (.long (own_mix ((q + (-7046029254386353131 : Int64)) + (-7046029254386353131 : Int64)))), .second] [(.long q), (.long (own_unmix (own_mix (q + (-7046029254386353131 : Int64)))))])) rfl (hb hby at_25) t k)
  replace G := own_ladd (q := 29) G X7.here hx (hb hby at_28) rfl rfl
  replace G := own_lcmp (q := 30) G X7.here hx (hb hby at_29) rfl
  have hc30_8 : (own_unmix (own_mix (q + (-7046029254386353131 : Int64)))) = (q + (-7046029254386353131 : Int64)) := own_inv _
  replace G := own_ifNo (q := 33) G X7.here hx (hb hby at_30) ((if0 _ _).trans (teq ((lw_eq _ _).mpr hc30_8)).2) rfl
  replace G := own_lload (q := 35) G X7.here hx (hb hby at_33) rfl rfl
  obtain ⟨_, _, ⟨T9, L9, kk9, nn9⟩, -, X9, ⟨Lc9, hQ9, l9, y9, z9⟩, st9⟩ := Jvm.LawKit.callS X7 hx (y := (⟨"com/example/gridwright/gridwright/core/SplitMix64NextLongPinLaw", "unmix", "(J)J"⟩ : MethodName)) hown (mvT hZ (hw _ (List.mem_of_getElem? (i := 19) rfl))) (mvT hZ (hw _ (List.mem_of_getElem? (i := 20) rfl))) (mvT hZ (hw _ (List.mem_of_getElem? (i := 21) rfl))) (mvT hZ (hw _ (List.mem_of_getElem? (i := 22) rfl))) (by decide) (backOf (W := 0) (rm4 l Z a0 hw [] (own_mix ((q + (-7046029254386353131 : Int64)) + (-7046029254386353131 : Int64))) T5.heap n0 Z5 ) hZ (hw _ (List.mem_of_getElem? (i := 22) rfl)) (hw _ (List.mem_of_getElem? (i := 21) rfl)) (by decide) (by decide)) (g := (mkF m 35 #[.val (.long q), .second, .val (.ref b1), .val (.long (own_mix (q + (-7046029254386353131 : Int64)))), .second, .val (.long (own_mix ((q + (-7046029254386353131 : Int64)) + (-7046029254386353131 : Int64)))), .second] [(.long (own_mix ((q + (-7046029254386353131 : Int64)) + (-7046029254386353131 : Int64))))])) rfl (by rw [hml]; rfl) (argsL := [(.long (own_mix ((q + (-7046029254386353131 : Int64)) + (-7046029254386353131 : Int64))))]) (rest := []) (lenOf pd_2 rfl) rfl (by show 2 * 0 + _ ≤ _; exact Nat.le_of_eq rfl) (hb hby at_35) (fun _ _ => ⟨rfl, e7, (by decide : 1 + 0 ≤ _), (by decide : 1 + 0 ≤ _)⟩)
  dsimp only [Pt.U, Pt.locs, Pt.cells, Pt.slots] at X9 l9 y9 z9 st9 hQ9
  subst l9 y9 z9
  obtain ⟨rfl, N9q, e9⟩ := hQ9
  have N9 := Fr.app N7 N9q
  replace G : Gets p e below _ (T9.setTop (mkF m 38 #[.val (.long q), .second, .val (.ref b1), .val (.long (own_mix (q + (-7046029254386353131 : Int64)))), .second, .val (.long (own_mix ((q + (-7046029254386353131 : Int64)) + (-7046029254386353131 : Int64)))), .second] [(.long (own_unmix (own_mix ((q + (-7046029254386353131 : Int64)) + (-7046029254386353131 : Int64)))))])) := fun t k => G t (st9 t k)
  replace G := own_lloadN (q := 39) G X9.here hx (hb hby at_38) rfl rfl
  replace G : Gets p e below _ (T9.setTop (mkF m 42 #[.val (.long q), .second, .val (.ref b1), .val (.long (own_mix (q + (-7046029254386353131 : Int64)))), .second, .val (.long (own_mix ((q + (-7046029254386353131 : Int64)) + (-7046029254386353131 : Int64)))), .second] [(.long (-7046029254386353131 : Int64)), (.long q), (.long (own_unmix (own_mix ((q + (-7046029254386353131 : Int64)) + (-7046029254386353131 : Int64)))))])) := fun t k => G t (X9.ldc2Long hx hown (mvT hZ (hw _ (List.mem_of_getElem? (i := 25) rfl))) (g := (mkF m 39 #[.val (.long q), .second, .val (.ref b1), .val (.long (own_mix (q + (-7046029254386353131 : Int64)))), .second, .val (.long (own_mix ((q + (-7046029254386353131 : Int64)) + (-7046029254386353131 : Int64)))), .second] [(.long q), (.long (own_unmix (own_mix ((q + (-7046029254386353131 : Int64)) + (-7046029254386353131 : Int64)))))])) rfl (hb hby at_39) t k)
  replace G := own_ladd (q := 43) G X9.here hx (hb hby at_42) rfl rfl
  replace G : Gets p e below _ (T9.setTop (mkF m 46 #[.val (.long q), .second, .val (.ref b1), .val (.long (own_mix (q + (-7046029254386353131 : Int64)))), .second, .val (.long (own_mix ((q + (-7046029254386353131 : Int64)) + (-7046029254386353131 : Int64)))), .second] [(.long (-7046029254386353131 : Int64)), (.long (q + (-7046029254386353131 : Int64))), (.long (own_unmix (own_mix ((q + (-7046029254386353131 : Int64)) + (-7046029254386353131 : Int64)))))])) := fun t k => G t (X9.ldc2Long hx hown (mvT hZ (hw _ (List.mem_of_getElem? (i := 25) rfl))) (g := (mkF m 43 #[.val (.long q), .second, .val (.ref b1), .val (.long (own_mix (q + (-7046029254386353131 : Int64)))), .second, .val (.long (own_mix ((q + (-7046029254386353131 : Int64)) + (-7046029254386353131 : Int64)))), .second] [(.long (q + (-7046029254386353131 : Int64))), (.long (own_unmix (own_mix ((q + (-7046029254386353131 : Int64)) + (-7046029254386353131 : Int64)))))])) rfl (hb hby at_43) t k)
  replace G := own_ladd (q := 47) G X9.here hx (hb hby at_46) rfl rfl
  replace G := own_lcmp (q := 48) G X9.here hx (hb hby at_47) rfl
  have hc48_10 : (own_unmix (own_mix ((q + (-7046029254386353131 : Int64)) + (-7046029254386353131 : Int64)))) = ((q + (-7046029254386353131 : Int64)) + (-7046029254386353131 : Int64)) := own_inv _
  replace G := own_ifNo (q := 51) G X9.here hx (hb hby at_48) ((if0 _ _).trans (teq ((lw_eq _ _).mpr hc48_10)).2) rfl
  replace G := own_iconst (q := 52) G X9.here hx (hb hby at_51) (v := (1 : Int32)) (by decide) rfl
  replace G := own_goto (q := 56) G X9.here hx (hb hby at_52) (by decide) (by decide)
  obtain ⟨fs, hr, hrun, hended, hW, hsame⟩ := X9.leave (v := some (.int (1 : Int32))) (fun h => by rw [Bd.returns] at h; cases h)
  refine ⟨_, _, G _ (retOut X9 hx Bd.returns rfl (Or.inl ⟨rfl, Or.inr (Or.inl rfl), _, rfl⟩) (hb hby at_56) hr), hrun, hended, _, _, rfl, ?_, ⟨_, rfl⟩, hW, hsame.mono (by decide) (by decide)⟩
  show Q0 Z q h0 n0 _ T9.heap _
  rw [e9]
  exact ⟨rfl, N9⟩
set_option maxRecDepth 65536 in
set_option maxHeartbeats 40000000 in
theorem comes_1 {Post : Tables → Env → Array Value → State → Outcome → State → Prop} (hpost : ∀ tb e args s v u, (limb_1_1.after args s (.returned v) u = true ∧ limb_1_2.after args s (.returned v) u = true ∧ True) → FrameEnd s (.returned v) u (Jvm.fieldLocs frame_1_writes args s ++ Jvm.arrayLocs frame_1_arrays args s ++ Jvm.staticLocs frame_1_statics s) 16 128 → Post tb e args s (.returned v) u) :
    ArmFor flags0 classFile x code maxLocals ret World_1 tables_1 room_1 Calls_1 rest_1 Pre_1 Post := by
  intro l hfl _ _ p e ha hc hk s m args below hf hA hF happ hP
  obtain ⟨hcalls, hrest, hpre⟩ := hP
  obtain ⟨-, -, -, hnamed, -, -, -, hat⟩ := (Spec.applies_iff hf).mp happ
  obtain ⟨hg, hn⟩ := and_e (Cond.before_iff.mp (show (Jvm.Cond.and given_1 narrow_1).before args s = true from hpre))
  obtain ⟨g1, g2⟩ := and_e hg
  obtain ⟨w0, rfl⟩ : ∃ w0 : Value, args = #[w0] := by
    have hs : args.size = 1 := by simpa [Cond.value, given_1] using g1
    obtain ⟨L⟩ := args
    match L, hs with
    | [w0], _ => exact ⟨w0, rfl⟩
  have hw := fun d (hd : d ∈ tables_1) => atoms_spec (ws := Jvm.Cond.code x code maxLocals ret :: tables_1) hat d (List.mem_cons_of_mem _ hd)
  have hfit : Fit s := fun {y c} hc i hi => by
    obtain ⟨ha, rfl⟩ := Array.getElem?_eq_some_iff.mp hc
    have q := List.all_eq_true.mp ((Array.all_eq_true_iff_forall_mem.mp hF) _ (Array.getElem_mem ha)) i (List.mem_range.mpr hi)
    simpa [Array.getElem?_eq_getElem hi] using q
  obtain ⟨i0, ei0⟩ := isL_v g2
  obtain rfl : w0 = (.long i0) := Option.some.inj ei0
  obtain ⟨n, o, h1, h2, h3, _, L, rfl, ⟨rfl, N⟩, hq⟩ := rm0 l s _ hw tables_1 i0 s.heap s.heap.size (Nat.le_refl _)  p e ha hc hk s m _ below hf ((Spec.applies_iff_loose hf).mp happ).1 ⟨rfl, State.Warmed39.refl s, rfl⟩ trivial
  refine ⟨n, _, h1, h2, h3, hpost _ _ _ _ _ _ ⟨Cond.after_iff.mpr rfl, Cond.after_iff.mpr (eq_i res_at (Term.int_eval (1)) rfl), trivial⟩ ⟨hq.1, hq.2.1, (hq.2.2.sift fun y hy => Or.inr (N y hy)).mono (by decide) (by decide)⟩⟩
theorem main_1_1 : Claimed_1_1 := comes_1 fun _ _ _ _ _ _ h hF => ⟨h.1, hF⟩
theorem main_1_2 : Claimed_1_2 := comes_1 fun _ _ _ _ _ _ h hF => ⟨h.2.1, hF⟩
end Jvm.Pilot.@@N@@
namespace Jvm.Pilot.@@N@@
open Jvm Jvm.ClassFile Sem Op Lib Jvm.Free Jvm.Stand Jvm.Pilot.@@N@@.Jvm.D
/-! MADE BY PROGRAM (witnessworld.py) out of the Statement's table words and the real class files: 9 classes; the members and pool entries that the words name. The judged class is class 1, her method 2. -/
namespace start1
open Jvm.ClassFile
def u (s : String) : CpInfo := .utf8 (stringToUtf16 s)
/-- a pool by its gaps: so many unusable entries, then the entry; so many at the end -/
def gap : Nat → List CpInfo → List CpInfo
  | 0, r => r
  | n + 1, r => .unusable :: gap n r
def poolList (es : List (Nat × CpInfo)) (last : Nat) : List CpInfo := es.foldr (fun e r => gap e.1 (e.2 :: r)) (gap last [])
def pool (es : List (Nat × CpInfo)) (last : Nat) : Array CpInfo := ⟨poolList es last⟩
def fileOf (pool : Array CpInfo) (this : Nat) (attrs : Array Attribute := #[]) (ms : Array MethodInfo := #[]) (fl : Nat := 33) (sup : Nat := 0) (ifs : Array Nat := #[]) (fds : Array FieldInfo := #[]) : ClassFile where
  minorVersion := 0
  majorVersion := 65
  constantPool := pool
  accessFlags := fl
  thisClass := this
  superClass := sup
  interfaces := ifs
  fields := fds
  methods := ms
  attributes := attrs
def plain (name : String) (sup : Option ClassId) : Class where
  name := name
  kind := .ordinary
  loader := none
  accessFlags := 33
  super := sup
  interfaces := #[]
  cf := none
  fields := #[]
  methods := #[]
  instanceTypes := #[]
  staticTypes := #[]
  resolved := #[]
  callSites := []
  init := .initialized
  statics := none
  mirror := none

def pool0 : Array CpInfo := pool [(5, u "<init>"), (0, u "()V"), (1, .class_ 10), (1, u "java/lang/Object")] 113

def k0c0 : Code := { maxStack := 0, maxLocals := 1, code := object_method_1_code, exceptionTable := #[], attributes := #[] }
def k0m0 : Method := { name := "<init>", desc := "()V", sig := { parameters := [], returnType := none }, accessFlags := 1, code := some k0c0 }
/-- java/lang/Object -/
def k0 : Class := { plain "java/lang/Object" none with
  accessFlags := 33
  interfaces := #[]
  cf := some (fileOf pool0 8 #[] #[{ accessFlags := 1, nameIndex := 5, descriptorIndex := 6, attributes := #[] }] 33 0 #[] #[])
  fields := #[]
  methods := #[k0m0]
  instanceTypes := #[]
  staticTypes := #[]
  resolved := Array.replicate 124 none
  statics := none }

def pool1 : Array CpInfo := pool [(2, .class_ 4), (1, u "java/lang/Object"), (0, u "<init>"), (0, u "()V"), (0, .long 3573116690164977347), (1, .long 10871156337175269513), (1, .class_ 12), (0, u "com/example/gridwright/gridwright/core/SplitMix64"), (0, .methodref 11 14), (0, .nameAndType 5 15), (0, u "(J)V"), (0, .methodref 11 17), (0, .nameAndType 18 19), (0, u "nextLong"), (0, u "()J"), (0, .methodref 21 22), (0, .class_ 23), (0, .nameAndType 24 25), (0, u "com/example/gridwright/gridwright/core/SplitMix64NextLongPinLaw"), (0, u "unmix"), (0, u "(J)J"), (0, .long 11400714819323198485), (1, u "GAMMA"), (0, u "J"), (3, u "law"), (0, u "(J)Z")] 3

def k1m0 : Method := { name := "<init>", desc := "()V", sig := { parameters := [], returnType := none }, accessFlags := 1, code := none }
def k1c1 : Code := { maxStack := 5, maxLocals := 4, code := method_2_code, exceptionTable := #[], attributes := #[] }
def k1m1 : Method := { name := "unmix", desc := "(J)J", sig := { parameters := [.long], returnType := some .long }, accessFlags := 10, code := some k1c1 }
def k1c2 : Code := { maxStack := 6, maxLocals := 7, code := code, exceptionTable := #[], attributes := #[] }
def k1m2 : Method := { name := "law", desc := "(J)Z", sig := { parameters := [.long], returnType := some .boolean }, accessFlags := 9, code := some k1c2 }
/-- com/example/gridwright/gridwright/core/SplitMix64NextLongPinLaw -/
def k1 : Class := { plain "com/example/gridwright/gridwright/core/SplitMix64NextLongPinLaw" (some 0) with
  accessFlags := 49
  interfaces := #[]
  cf := some (fileOf pool1 21 #[] #[{ accessFlags := 1, nameIndex := 5, descriptorIndex := 6, attributes := #[] }, { accessFlags := 10, nameIndex := 24, descriptorIndex := 25, attributes := #[] }, { accessFlags := 9, nameIndex := 33, descriptorIndex := 34, attributes := #[] }] 49 2 #[] #[{ accessFlags := 26, nameIndex := 28, descriptorIndex := 29, attributes := #[] }])
  fields := #[{ name := "GAMMA", type := .long, accessFlags := 26, slot := 0, constantValue := 0 }]
  methods := #[k1m0, k1m1, k1m2]
  instanceTypes := #[]
  staticTypes := #[.long]
  resolved := Array.replicate 38 none
  statics := none }

def pool2 : Array CpInfo := pool [(1, .methodref 2 3), (0, .class_ 4), (0, .nameAndType 5 6), (0, u "java/lang/Object"), (0, u "<init>"), (0, u "()V"), (0, .fieldref 8 9), (0, .class_ 10), (0, .nameAndType 11 12), (0, u "com/example/gridwright/gridwright/core/SplitMix64"), (0, u "state"), (0, u "J"), (0, .long 11400714819323198485), (1, .long 13787848793156543929), (1, .long 10723151780598845931), (12, u "nextLong"), (0, u "()J"), (13, u "GAMMA"), (1, u "(J)V")] 28

def k2c0 : Code := { maxStack := 3, maxLocals := 3, code := prog_25_method_1_code, exceptionTable := #[], attributes := #[] }
def k2m0 : Method := { name := "<init>", desc := "(J)V", sig := { parameters := [.long], returnType := none }, accessFlags := 1, code := some k2c0 }
def k2c1 : Code := { maxStack := 5, maxLocals := 3, code := prog_25_method_2_code, exceptionTable := #[], attributes := #[] }
def k2m1 : Method := { name := "nextLong", desc := "()J", sig := { parameters := [], returnType := some .long }, accessFlags := 1, code := some k2c1 }
/-- com/example/gridwright/gridwright/core/SplitMix64 -/
def k2 : Class := { plain "com/example/gridwright/gridwright/core/SplitMix64" (some 0) with
  accessFlags := 49
  interfaces := #[]
  cf := some (fileOf pool2 8 #[] #[{ accessFlags := 1, nameIndex := 5, descriptorIndex := 47, attributes := #[] }, { accessFlags := 1, nameIndex := 30, descriptorIndex := 31, attributes := #[] }] 49 2 #[] #[{ accessFlags := 26, nameIndex := 45, descriptorIndex := 12, attributes := #[] }, { accessFlags := 2, nameIndex := 11, descriptorIndex := 12, attributes := #[] }])
  fields := #[{ name := "GAMMA", type := .long, accessFlags := 26, slot := 0, constantValue := 0 }, { name := "state", type := .long, accessFlags := 2, slot := 0, constantValue := 0 }]
  methods := #[k2m0, k2m1]
  instanceTypes := #[.long]
  staticTypes := #[.long]
  resolved := Array.replicate 76 none
  statics := none }

def pool3 : Array CpInfo := pool [(1, u "java/lang/Cloneable"), (0, .class_ 1), (0, u "java/lang/Object"), (0, .class_ 3)] 3

/-- java/lang/Cloneable -/
def k3 : Class := { plain "java/lang/Cloneable" (some 0) with
  accessFlags := 1537
  interfaces := #[]
  cf := some (fileOf pool3 2 #[] #[] 1537 4 #[] #[])
  fields := #[]
  methods := #[]
  instanceTypes := #[]
  staticTypes := #[]
  resolved := Array.replicate 8 none
  statics := none }

def pool4 : Array CpInfo := pool [(1, u "java/io/Serializable"), (0, .class_ 1), (0, u "java/lang/Object"), (0, .class_ 3)] 3

/-- java/io/Serializable -/
def k4 : Class := { plain "java/io/Serializable" (some 0) with
  accessFlags := 1537
  interfaces := #[]
  cf := some (fileOf pool4 2 #[] #[] 1537 4 #[] #[])
  fields := #[]
  methods := #[]
  instanceTypes := #[]
  staticTypes := #[]
  resolved := Array.replicate 8 none
  statics := none }

/-- the primitive byte -/
def k5 : Class := { plain "byte" none with kind := .primitive 'B', accessFlags := 0x411 }
/-- [B -/
def k6 : Class := { plain "[B" (some 0) with kind := .array 5 .byte, interfaces := #[3, 4], accessFlags := 1041 }

/-- the primitive int -/
def k7 : Class := { plain "int" none with kind := .primitive 'I', accessFlags := 0x411 }
/-- [I -/
def k8 : Class := { plain "[I" (some 0) with kind := .array 7 .int, interfaces := #[3, 4], accessFlags := 1041 }

def heap : Heap := #[]
def classes : Array Class := #[k0, k1, k2, k3, k4, k5, k6, k7, k8]
def interned : List (Array UInt16 × Addr) := []
def slotsUsed : Nat := 0
def theMethod : MethodId := ⟨1, 2⟩
def args0 : Array Value := #[.long 7]
def aboutOver (below : List Frame) : State where
  vm := { classes := classes, interned := interned.toArray }
  heap := heap
  slotsUsed := slotsUsed
  threads := #[{ frames := .invoking theMethod args0 :: below }]
def below0 : List Frame := [.native { method := ⟨0, 0⟩, args := #[] }]
def about1 : State := aboutOver below0
def p0 : Program := .bare "" "" ""
def e0 : Env := launch0.env 0 0 0
theorem w_frames : about1.frames = Frame.invoking theMethod args0 :: below0 := rfl
set_option maxRecDepth 65536 in
theorem w_args : argsFit about1.vm theMethod args0 = true := by decide +kernel
set_option maxRecDepth 65536 in
theorem w_heap : heapFits about1 = true := by decide +kernel
set_option maxRecDepth 65536 in
theorem w_runnable : about1.curStatus? = some .runnable := by decide +kernel
set_option maxRecDepth 65536 in
theorem w_alone : about1.alone = true := by decide +kernel
set_option maxRecDepth 65536 in
theorem w_named : about1.methodNamed? x = some theMethod := by decide +kernel
set_option maxRecDepth 65536 in
theorem w_hears : about1.hears theMethod below0 = true := by decide +kernel
set_option maxRecDepth 65536 in
theorem w_ripe : about1.ripe theMethod args0 below0 = true := by decide +kernel
theorem w_running : about1.status = .running := rfl
set_option maxRecDepth 65536 in
theorem w_room : about1.hasRoom e0.platform room_1 = true :=
  launch0.hasRoom_least _ room_1 (by decide +kernel) (by decide +kernel) (by decide +kernel) (by decide +kernel) (by decide +kernel) (by decide +kernel)
theorem allAtoms_all (ts : List Jvm.Cond) (a : Array Jvm.Value) (st : Jvm.State) : (allAtoms ts).before a st = ts.all (fun c => c.before a st) := by
  induction ts with
  | nil => rfl
  | cons c t ih =>
    show (Jvm.Cond.and c (allAtoms t)).before a st = _
    rw [Jvm.Cond.before_and, ih, List.all_cons]
def words1 : List Jvm.Cond := Jvm.Cond.code x code maxLocals ret :: tables_1
/-- a 'code' word, met by the world's own term for the bytes: nothing is compared byte by byte -/
theorem code_word {y : MethodName} {bytes : ByteArray} {mx : Nat} {rt : Option FieldType} {a : Array Value} {s : State} {m : MethodId} {meth : Method} {c : Code} (h1 : s.methodNamed? y = some m) (h2 : s.vm.method? m = some meth) (h3 : meth.code = some c) (h4 : c.code = bytes)
    (h5 : (c.maxLocals == mx && c.exceptionTable.isEmpty && decide (c.maxStack ≤ mostOperands) && decide (meth.sig.returnType = rt) && !meth.locks && decide (parseMethodDescriptor y.desc = some meth.sig)) = true) : (Jvm.Cond.code y bytes mx rt).before a s = true := by
  simp only [Bool.and_eq_true, beq_iff_eq, Bool.not_eq_true', decide_eq_true_eq] at h5
  obtain ⟨⟨⟨⟨⟨g1, g2⟩, g3⟩, g4⟩, g5⟩, g6⟩ := h5
  simp [Cond.before, Cond.holds, Cond.value, h1, h2, h3, h4, g1, g2, g3, g4, g5, g6]
def isCode : Jvm.Cond → Bool
  | .code _ _ _ _ => true
  | _ => false
theorem all_split {L : List Jvm.Cond} {P : Jvm.Cond → Bool} (h1 : L.all (fun c => isCode c || P c) = true) (h2 : ∀ c ∈ L.filter isCode, P c = true) : L.all P = true := by
  refine List.all_eq_true.mpr fun c hc => ?_
  have h := List.all_eq_true.mp h1 c hc
  rcases Bool.eq_false_or_eq_true (isCode c) with hi | hi
  · exact h2 c (List.mem_filter.mpr ⟨hc, hi⟩)
  · simpa [hi] using h
set_option maxRecDepth 65536 in
theorem w_c0 : (Jvm.Cond.code x code maxLocals ret).before args0 about1 = true := code_word (m := ⟨1, 2⟩) (meth := k1m2) (c := k1c2) (by decide +kernel) rfl rfl rfl (by decide +kernel)
set_option maxRecDepth 65536 in
theorem w_c1 : (Jvm.Cond.code ({ cls := "com/example/gridwright/gridwright/core/SplitMix64", name := "<init>", desc := "(J)V" } : Jvm.MethodName) prog_25_method_1_code (3 : Nat) (Option.none : Option Jvm.ClassFile.FieldType)).before args0 about1 = true := code_word (m := ⟨2, 0⟩) (meth := k2m0) (c := k2c0) (by decide +kernel) rfl rfl rfl (by decide +kernel)
set_option maxRecDepth 65536 in
theorem w_c2 : (Jvm.Cond.code ({ cls := "java/lang/Object", name := "<init>", desc := "()V" } : Jvm.MethodName) object_method_1_code (1 : Nat) (Option.none : Option Jvm.ClassFile.FieldType)).before args0 about1 = true := code_word (m := ⟨0, 0⟩) (meth := k0m0) (c := k0c0) (by decide +kernel) rfl rfl rfl (by decide +kernel)
set_option maxRecDepth 65536 in
theorem w_c3 : (Jvm.Cond.code ({ cls := "com/example/gridwright/gridwright/core/SplitMix64", name := "nextLong", desc := "()J" } : Jvm.MethodName) prog_25_method_2_code (3 : Nat) (Option.some Jvm.ClassFile.FieldType.long)).before args0 about1 = true := code_word (m := ⟨2, 1⟩) (meth := k2m1) (c := k2c1) (by decide +kernel) rfl rfl rfl (by decide +kernel)
set_option maxRecDepth 65536 in
theorem w_c4 : (Jvm.Cond.code ({ cls := "com/example/gridwright/gridwright/core/SplitMix64NextLongPinLaw", name := "unmix", desc := "(J)J" } : Jvm.MethodName) method_2_code (4 : Nat) (Option.some Jvm.ClassFile.FieldType.long)).before args0 about1 = true := code_word (m := ⟨1, 1⟩) (meth := k1m1) (c := k1c1) (by decide +kernel) rfl rfl rfl (by decide +kernel)
def codes1 : List Jvm.Cond := [Jvm.Cond.code x code maxLocals ret, Jvm.Cond.code ({ cls := "com/example/gridwright/gridwright/core/SplitMix64", name := "<init>", desc := "(J)V" } : Jvm.MethodName) prog_25_method_1_code (3 : Nat) (Option.none : Option Jvm.ClassFile.FieldType), Jvm.Cond.code ({ cls := "java/lang/Object", name := "<init>", desc := "()V" } : Jvm.MethodName) object_method_1_code (1 : Nat) (Option.none : Option Jvm.ClassFile.FieldType), Jvm.Cond.code ({ cls := "com/example/gridwright/gridwright/core/SplitMix64", name := "nextLong", desc := "()J" } : Jvm.MethodName) prog_25_method_2_code (3 : Nat) (Option.some Jvm.ClassFile.FieldType.long), Jvm.Cond.code ({ cls := "com/example/gridwright/gridwright/core/SplitMix64NextLongPinLaw", name := "unmix", desc := "(J)J" } : Jvm.MethodName) method_2_code (4 : Nat) (Option.some Jvm.ClassFile.FieldType.long)]
set_option maxRecDepth 65536 in
theorem codes_eq : words1.filter isCode = codes1 := rfl
theorem w_codes : ∀ c ∈ words1.filter isCode, c.before args0 about1 = true := by
  rw [codes_eq]
  intro c hc
  simp only [codes1, List.mem_cons, List.not_mem_nil, or_false] at hc
  rcases hc with rfl | rfl | rfl | rfl | rfl
  · exact w_c0
  · exact w_c1
  · exact w_c2
  · exact w_c3
  · exact w_c4
set_option maxRecDepth 65536 in
theorem w_t1 : (words1.take 24).all (fun c => isCode c || c.before args0 about1) = true := by decide +kernel
set_option maxRecDepth 65536 in
theorem w_t2 : (words1.drop 24).all (fun c => isCode c || c.before args0 about1) = true := by decide +kernel
theorem w_tables : (allAtoms (Jvm.Cond.code x code maxLocals ret :: tables_1)).before args0 about1 = true := by
  rw [allAtoms_all]
  show words1.all (fun c => c.before args0 about1) = true
  refine all_split ?_ w_codes
  rw [← List.take_append_drop 24 words1, List.all_append, w_t1, w_t2]
  rfl
set_option maxRecDepth 65536 in
theorem w_case : (Jvm.Cond.and given_1 narrow_1).before args0 about1 = true := by decide +kernel
theorem w_applies : (headSpec (Jvm.Cond.code x code maxLocals ret :: tables_1) room_1).applies x e0.platform about1 = true :=
  (Spec.applies_iff w_frames).mpr ⟨w_running, w_runnable, w_alone, w_named, w_hears, w_ripe, w_room, w_tables⟩
theorem atStart : AtStart classFile x code maxLocals ret World_1 tables_1 room_1 Calls_1 rest_1 Pre_1 launch0 p0 e0 about1 theMethod args0 below0 :=
  ⟨lists_1, trivial, launch0.admits_env _ _ _, launch0.least_env, fairChoices_fair.cas, fairChoices_fair.clock, w_frames, w_args, w_heap, w_applies, trivial, trivial, w_case⟩
end start1
theorem witness_1 : WitnessClaimed_1 := ⟨start1.p0, start1.e0, start1.about1, start1.theMethod, start1.args0, start1.below0, start1.atStart⟩
end Jvm.Pilot.@@N@@

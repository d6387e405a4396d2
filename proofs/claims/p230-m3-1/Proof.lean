import JvmDerived
import JvmDerived.Pilot.@@N@@Statement
import JvmDerived.Pilot.@@N@@Code
set_option linter.unusedVariables false
set_option linter.unusedSimpArgs false
namespace Jvm.Pilot.@@N@@
open Jvm Jvm.ClassFile Sem Op Lib Jvm.Free Jvm.Stand Jvm.LawKit Jvm.RoadKit Bundle Jvm.Pilot.@@N@@.Jvm.D
abbrev Gets (p : Program) (e : Env) (below : List Frame) (S0 S : State) : Prop := ∀ t, Steps p.tables e below S t → Steps p.tables e below S0 t
section Own
variable {p : Program} {e : Env} {below : List Frame} {S0 T : State} {m : MethodId} {c : Code} {pc q : Nat} {Ls : Array Slot} {st : List Value}
theorem own_isub {x y v : Int32} (G : Gets p e below S0 (T.setTop (mkF m pc Ls (.int y :: .int x :: st)))) (h : At T m c below) (hx : p.tables.exec = Jvm.exec) (hd : decode c.code pc = .ok (.isub, 1)) (hv : x - y = v) (hq : pc + 1 = q) : Gets p e below S0 (T.setTop (mkF m q Ls (.int v :: st))) := by
  subst hv hq; exact fun t k => G t (XS.isub h hx rfl hd rfl k)
theorem own_iand {x y v : Int32} (G : Gets p e below S0 (T.setTop (mkF m pc Ls (.int y :: .int x :: st)))) (h : At T m c below) (hx : p.tables.exec = Jvm.exec) (hd : decode c.code pc = .ok (.iand, 1)) (hv : x &&& y = v) (hq : pc + 1 = q) : Gets p e below S0 (T.setTop (mkF m q Ls (.int v :: st))) := by
  subst hv hq; exact fun t k => G t (XS.iand h hx rfl hd rfl k)
theorem own_iushr {x y v : Int32} (G : Gets p e below S0 (T.setTop (mkF m pc Ls (.int y :: .int x :: st)))) (h : At T m c below) (hx : p.tables.exec = Jvm.exec) (hd : decode c.code pc = .ok (.iushr, 1)) (hv : ((x.toUInt32 >>> (y &&& 31).toUInt32).toInt32) = v) (hq : pc + 1 = q) : Gets p e below S0 (T.setTop (mkF m q Ls (.int v :: st))) := by
  subst hv hq; exact fun t k => G t (XS.iushr h hx rfl hd rfl k)
theorem own_i2b {x : Int32} {v : Int32} (G : Gets p e below S0 (T.setTop (mkF m pc Ls (.int x :: st)))) (h : At T m c below) (hx : p.tables.exec = Jvm.exec) (hd : decode c.code pc = .ok (.i2b, 1)) (hv : (x.toInt8.toInt32) = v) (hq : pc + 1 = q) : Gets p e below S0 (T.setTop (mkF m q Ls (.int v :: st))) := by
  subst hv hq; exact fun t k => G t (XS.i2b h hx rfl hd rfl k)
theorem own_i2c {x : Int32} {v : Int32} (G : Gets p e below S0 (T.setTop (mkF m pc Ls (.int x :: st)))) (h : At T m c below) (hx : p.tables.exec = Jvm.exec) (hd : decode c.code pc = .ok (.i2c, 1)) (hv : (x.toUInt32.toUInt16.toUInt32.toInt32) = v) (hq : pc + 1 = q) : Gets p e below S0 (T.setTop (mkF m q Ls (.int v :: st))) := by
  subst hv hq; exact fun t k => G t (XS.i2c h hx rfl hd rfl k)
theorem own_iconst {i : Int} {v : Int32} (G : Gets p e below S0 (T.setTop (mkF m pc Ls st))) (h : At T m c below) (hx : p.tables.exec = Jvm.exec) (hd : decode c.code pc = .ok (.iconst i, 1)) (hv : Int32.ofInt i = v) (hq : pc + 1 = q) : Gets p e below S0 (T.setTop (mkF m q Ls (.int v :: st))) := by
  subst hv hq; exact fun t k => G t (XS.iconst h hx rfl hd k)
theorem own_bipush {i : Int} {v : Int32} (G : Gets p e below S0 (T.setTop (mkF m pc Ls st))) (h : At T m c below) (hx : p.tables.exec = Jvm.exec) (hd : decode c.code pc = .ok (.bipush i, 2)) (hv : (Int8.ofInt i).toInt32 = v) (hq : pc + 2 = q) : Gets p e below S0 (T.setTop (mkF m q Ls (.int v :: st))) := by
  subst hv hq; exact fun t k => G t (XS.bipush h hx rfl hd k)
theorem own_sipush {i : Int} {v : Int32} (G : Gets p e below S0 (T.setTop (mkF m pc Ls st))) (h : At T m c below) (hx : p.tables.exec = Jvm.exec) (hd : decode c.code pc = .ok (.sipush i, 3)) (hv : (Int16.ofInt i).toInt32 = v) (hq : pc + 3 = q) : Gets p e below S0 (T.setTop (mkF m q Ls (.int v :: st))) := by
  subst hv hq; exact fun t k => G t (XS.sipush h hx rfl hd k)
theorem own_aconst_null  (G : Gets p e below S0 (T.setTop (mkF m pc Ls st))) (h : At T m c below) (hx : p.tables.exec = Jvm.exec) (hd : decode c.code pc = .ok (.aconst_null, 1))  (hq : pc + 1 = q) : Gets p e below S0 (T.setTop (mkF m q Ls (.null :: st))) := by
  subst hq; exact fun t k => G t (XS.aconstNull h hx rfl hd k)
theorem own_iload {i : Nat} {v : Int32} (G : Gets p e below S0 (T.setTop (mkF m pc Ls st))) (h : At T m c below) (hx : p.tables.exec = Jvm.exec) (hd : decode c.code pc = .ok (.iload i, 2)) (hl : Ls[i]? = some (.val (.int v))) (hq : pc + 2 = q) : Gets p e below S0 (T.setTop (mkF m q Ls (.int v :: st))) := by
  subst hq; exact fun t k => G t (XS.iload h hx rfl hd hl k)
theorem own_iloadN {i : Fin 4} {v : Int32} (G : Gets p e below S0 (T.setTop (mkF m pc Ls st))) (h : At T m c below) (hx : p.tables.exec = Jvm.exec) (hd : decode c.code pc = .ok (.iload_n i, 1)) (hl : Ls[i.val]? = some (.val (.int v))) (hq : pc + 1 = q) : Gets p e below S0 (T.setTop (mkF m q Ls (.int v :: st))) := by
  subst hq; exact fun t k => G t (XS.iloadN h hx rfl hd hl k)
theorem own_aload {i : Nat} {v : Value} (G : Gets p e below S0 (T.setTop (mkF m pc Ls st))) (h : At T m c below) (hx : p.tables.exec = Jvm.exec) (hd : decode c.code pc = .ok (.aload i, 2)) (hl : Ls[i]? = some (.val v)) (hv : v.isRef = true) (hq : pc + 2 = q) : Gets p e below S0 (T.setTop (mkF m q Ls (v :: st))) := by
  subst hq; exact fun t k => G t (XS.aload h hx rfl hd hl hv k)
theorem own_aloadN {i : Fin 4} {v : Value} (G : Gets p e below S0 (T.setTop (mkF m pc Ls st))) (h : At T m c below) (hx : p.tables.exec = Jvm.exec) (hd : decode c.code pc = .ok (.aload_n i, 1)) (hl : Ls[i.val]? = some (.val v)) (hv : v.isRef = true) (hq : pc + 1 = q) : Gets p e below S0 (T.setTop (mkF m q Ls (v :: st))) := by
  subst hq; exact fun t k => G t (XS.aloadN h hx rfl hd hl hv k)
theorem own_istore {i : Nat} {v : Int32} {l' : Array Slot} (G : Gets p e below S0 (T.setTop (mkF m pc Ls (.int v :: st)))) (h : At T m c below) (hx : p.tables.exec = Jvm.exec) (hd : decode c.code pc = .ok (.istore i, 2)) (hl : storeLocals Ls i (.int v) = some l') (hq : pc + 2 = q) : Gets p e below S0 (T.setTop (mkF m q l' st)) := by
  subst hq; exact fun t k => G t (XS.istore h hx rfl hd rfl hl k)
theorem own_astore {i : Nat} {v : Value} {l' : Array Slot} (G : Gets p e below S0 (T.setTop (mkF m pc Ls (v :: st)))) (h : At T m c below) (hx : p.tables.exec = Jvm.exec) (hd : decode c.code pc = .ok (.astore i, 2)) (hv : v.isRef = true) (hl : storeLocals Ls i v = some l') (hq : pc + 2 = q) : Gets p e below S0 (T.setTop (mkF m q l' st)) := by
  subst hq; exact fun t k => G t (XS.astore h hx rfl hd rfl hv hl k)
theorem own_astoreN {i : Fin 4} {v : Value} {l' : Array Slot} (G : Gets p e below S0 (T.setTop (mkF m pc Ls (v :: st)))) (h : At T m c below) (hx : p.tables.exec = Jvm.exec) (hd : decode c.code pc = .ok (.astore_n i, 1)) (hv : v.isRef = true) (hl : storeLocals Ls i.val v = some l') (hq : pc + 1 = q) : Gets p e below S0 (T.setTop (mkF m q l' st)) := by
  subst hq; exact fun t k => G t (XS.astoreN h hx rfl hd rfl hv hl k)
theorem own_iinc {i : Nat} {d : Int} {x w v : Int32} {l' : Array Slot} (G : Gets p e below S0 (T.setTop (mkF m pc Ls st))) (h : At T m c below) (hx : p.tables.exec = Jvm.exec) (hd : decode c.code pc = .ok (.iinc i d, 3)) (hw : Int32.ofInt d = w) (hl : Ls[i]? = some (.val (.int x))) (hv : x + w = v) (hl' : storeLocals Ls i (.int v) = some l') (hq : pc + 3 = q) : Gets p e below S0 (T.setTop (mkF m q l' st)) := by
  subst hw hv hq; exact fun t k => G t (XS.iinc h hx rfl hd hl hl' k)
theorem own_dup {x : Value} (G : Gets p e below S0 (T.setTop (mkF m pc Ls (x :: st)))) (h : At T m c below) (hx : p.tables.exec = Jvm.exec) (hd : decode c.code pc = .ok (.dup, 1)) (hc : x.category = 1) (hq : pc + 1 = q) : Gets p e below S0 (T.setTop (mkF m q Ls (x :: x :: st))) := by
  subst hq; exact fun t k => G t (XS.dup h hx rfl hd rfl hc k)
theorem own_goto {o : Int} (G : Gets p e below S0 (T.setTop (mkF m pc Ls st))) (h : At T m c below) (hx : p.tables.exec = Jvm.exec) (hd : decode c.code pc = .ok (.goto o, 3))  (ho : 0 ≤ (pc : Int) + o) (hp : ((pc : Int) + o).toNat = q) : Gets p e below S0 (T.setTop (mkF m q Ls st)) := by
  exact fun t k => G t (XS.goto h hx rfl rfl hd ho hp k)
theorem own_ifYes {cd : ClassFile.Cond} {o : Int} {x : Int32} (G : Gets p e below S0 (T.setTop (mkF m pc Ls (.int x :: st)))) (h : At T m c below) (hx : p.tables.exec = Jvm.exec) (hd : decode c.code pc = .ok (.ifCond cd o, 3)) (hc : ifCond.holds cd x = true) (ho : 0 ≤ (pc : Int) + o) (hp : ((pc : Int) + o).toNat = q) : Gets p e below S0 (T.setTop (mkF m q Ls st)) := by
  exact fun t k => G t (XS.ifYes h hx rfl rfl hd rfl hc ho hp k)
theorem own_ifNo {cd : ClassFile.Cond} {o : Int} {x : Int32} (G : Gets p e below S0 (T.setTop (mkF m pc Ls (.int x :: st)))) (h : At T m c below) (hx : p.tables.exec = Jvm.exec) (hd : decode c.code pc = .ok (.ifCond cd o, 3)) (hc : ifCond.holds cd x = false) (hq : pc + 3 = q) : Gets p e below S0 (T.setTop (mkF m q Ls st)) := by
  subst hq; exact fun t k => G t (XS.ifNo h hx rfl hd rfl hc k)
theorem own_icmpYes {cd : ClassFile.Cond} {o : Int} {x y : Int32} (G : Gets p e below S0 (T.setTop (mkF m pc Ls (.int y :: .int x :: st)))) (h : At T m c below) (hx : p.tables.exec = Jvm.exec) (hd : decode c.code pc = .ok (.if_icmp cd o, 3)) (hc : if_icmp.holds cd x y = true) (ho : 0 ≤ (pc : Int) + o) (hp : ((pc : Int) + o).toNat = q) : Gets p e below S0 (T.setTop (mkF m q Ls st)) := by
  exact fun t k => G t (XS.icmpYes h hx rfl rfl hd rfl hc ho hp k)
theorem own_icmpNo {cd : ClassFile.Cond} {o : Int} {x y : Int32} (G : Gets p e below S0 (T.setTop (mkF m pc Ls (.int y :: .int x :: st)))) (h : At T m c below) (hx : p.tables.exec = Jvm.exec) (hd : decode c.code pc = .ok (.if_icmp cd o, 3)) (hc : if_icmp.holds cd x y = false) (hq : pc + 3 = q) : Gets p e below S0 (T.setTop (mkF m q Ls st)) := by
  subst hq; exact fun t k => G t (XS.icmpNo h hx rfl hd rfl hc k)
theorem own_ifnullYes {o : Int} (G : Gets p e below S0 (T.setTop (mkF m pc Ls (.null :: st)))) (h : At T m c below) (hx : p.tables.exec = Jvm.exec) (hd : decode c.code pc = .ok (.ifnull o, 3))  (ho : 0 ≤ (pc : Int) + o) (hp : ((pc : Int) + o).toNat = q) : Gets p e below S0 (T.setTop (mkF m q Ls st)) := by
  exact fun t k => G t (XS.ifnullYes h hx rfl rfl hd rfl ho hp k)
theorem own_ifnonnullYes {o : Int} {b : Addr} (G : Gets p e below S0 (T.setTop (mkF m pc Ls (.ref b :: st)))) (h : At T m c below) (hx : p.tables.exec = Jvm.exec) (hd : decode c.code pc = .ok (.ifnonnull o, 3))  (ho : 0 ≤ (pc : Int) + o) (hp : ((pc : Int) + o).toNat = q) : Gets p e below S0 (T.setTop (mkF m q Ls st)) := by
  exact fun t k => G t (XS.ifnonnullYes h hx rfl rfl hd rfl ho hp k)
theorem own_ifnonnullNo {o : Int} (G : Gets p e below S0 (T.setTop (mkF m pc Ls (.null :: st)))) (h : At T m c below) (hx : p.tables.exec = Jvm.exec) (hd : decode c.code pc = .ok (.ifnonnull o, 3))  (hq : pc + 3 = q) : Gets p e below S0 (T.setTop (mkF m q Ls st)) := by
  subst hq; exact fun t k => G t (XS.ifnonnullNo h hx rfl hd rfl k)
theorem own_ibw {s : State} {Z : State} {vm1 : Vm} {Ts : List String} (I : IB Z s.vm Ts) (h : s.WarmedH vm1) : IB Z vm1 Ts := by
  obtain ⟨more, h1, h2⟩ := I
  exact ⟨more, h.interned_eq.trans h1, h2⟩
theorem own_backV {l : Launch} {R : Room} {s : State} {args : Array Value} {Z : State} {a0 : Array Value} {h : Heap} {y : MethodName} {bytes : ByteArray} {maxL : Nat} {ret : Option FieldType} {rm : Room} {len W : Nat} {as' : Array Value} {Q : Option Value → Heap → List Loc → Prop} {V : Vm → Prop}
    (hM : MetFree l y (head1 [Cond.code y bytes maxL ret] rm) (fun a U => a = as' ∧ Z.Warmed39 U.vm ∧ U.heap = h ∧ V U.vm) (fun _ _ _ _ _ => True) (fun _ U o U' => ∃ v L, o = .returned v ∧ Q v U'.heap L ∧ ReturnedEndW U o U' L rm.cells rm.slots))
    (hZ : Z.Warmed39 s.vm) (wc : (Cond.code y bytes maxL ret).before a0 Z = true) (wz : (Cond.initialized y.cls).before a0 Z = true) (hf : rm.frames + 1 ≤ R.frames) (hl : W + (maxL + 11) + rm.locals ≤ R.locals) :
    BackS l R p e below s args y len W (fun A a => a = as' ∧ A.U.heap = h ∧ A.cells + rm.cells ≤ R.cells ∧ A.slots + rm.slots ≤ R.slots ∧ V A.U.vm)
      (fun A _ v B => ∃ L, Q v B.U.heap L ∧ B.locs = A.locs ++ L ∧ B.cells = A.cells + rm.cells ∧ B.slots = A.slots + rm.slots) :=
  BackS.of_freeW (bytes := bytes) (maxL := maxL) (ret := ret) (E := fun _ _ o t L k n => k = rm.cells ∧ n = rm.slots ∧ ∃ v, o = .returned v ∧ Q v t.heap L) hM hf hl
    (fun m meth c A a Y hp => have hU : Z.Warmed39 A.U.vm := wtrans hZ Y.warmed
      ⟨by show (Cond.and _ .tt).before a A.U = true; rw [Cond.before_and, mv hU wc]; rfl, mv hU wc, mv hU wz, hp.2.2.1, hp.2.2.2.1⟩)
    (fun m meth c A a g mk Y hp => ⟨hp.1, wtrans hZ Y.warmed, hp.2.1, hp.2.2.2.2⟩) (fun _ _ _ _ _ _ _ _ _ => trivial)
    (fun _ _ _ _ ⟨v, L, h1, h2, h3⟩ => ⟨L, _, _, h3, rfl, rfl, v, h1, h2⟩)
    (fun m meth c A a g mk v t L k n Y hp _ _ ⟨e1, e2, v', e3, e4⟩ => by cases e3; subst e1 e2; exact ⟨L, e4, rfl, rfl, rfl⟩)
end Own
theorem own_lt32 {x y : Int32} : x < y ↔ x.toInt < y.toInt := Int32.lt_iff_toInt_lt
theorem own_rem {i u : Int32} (d : Int32) (k : Int) (hk : d.toInt = k) (h0 : 0 < k) (h : (u &&& 2147483647) % d = i) : 0 ≤ i.toInt ∧ i.toInt < k := by
  have a1 := c_mask u 2147483647 31 (by decide) (by decide)
  have a2 := (c_irem (u &&& 2147483647) d k hk).1 (by omega)
  rw [h] at a2
  have m2 := Int.emod_nonneg (u &&& 2147483647).toInt (show k ≠ 0 by omega)
  have m3 := Int.emod_lt_of_pos (u &&& 2147483647).toInt h0
  omega
theorem own_num {i : Int32} (k : Int32) (h : i.toInt = k.toInt) : i = k := Int32.toInt_inj.mp h
theorem own_cases4 {i : Int32} (h : 0 ≤ i.toInt ∧ i.toInt < 4) : i = 0 ∨ i = 1 ∨ i = 2 ∨ i = 3 := by
  have e0 : (0 : Int32).toInt = 0 := rfl
  have e1 : (1 : Int32).toInt = 1 := rfl
  have e2 : (2 : Int32).toInt = 2 := rfl
  have e3 : (3 : Int32).toInt = 3 := rfl
  have q : i.toInt = 0 ∨ i.toInt = 1 ∨ i.toInt = 2 ∨ i.toInt = 3 := by omega
  rcases q with q | q | q | q
  · exact Or.inl (own_num 0 q)
  · exact Or.inr (Or.inl (own_num 1 q))
  · exact Or.inr (Or.inr (Or.inl (own_num 2 q)))
  · exact Or.inr (Or.inr (Or.inr ((own_num 3 q))))
theorem own_ch {x i : Int32} (h : (x &&& 255).toUInt32.toUInt16.toUInt32.toInt32 = i) : ¬ ((255 : Int32) < nar .char i) := by
  rw [Jvm.RoadKit.i2c_mask] at h
  have e : nar .char i = i := by rw [← h]; exact Jvm.RoadKit.i2c_mask x
  have a := c_mask x 255 8 (by decide) (by decide)
  rw [h] at a
  rw [e, Int32.lt_iff_toInt_lt, show (255 : Int32).toInt = 255 from rfl]; omega
theorem own_since (s : State) : s.Since s.vm s.heap.size := ⟨State.Warmed39.refl s, fun j p hj hp => by
  have := (Array.getElem?_eq_some_iff.mp hp).1
  omega⟩
theorem own_strs : ∀ d ∈ Bundle.stringAtoms, d ∈ tables_1 := by decide +kernel
theorem d3_0 : decode jdk_42_method_149_code 0 = .ok (.aload_n 0, 1) := by decide +kernel
theorem d3_1 : decode jdk_42_method_149_code 1 = .ok (.invokespecial 1, 3) := by decide +kernel
theorem d3_4 : decode jdk_42_method_149_code 4 = .ok (.iload_n 3, 1) := by decide +kernel
theorem d3_5 : decode jdk_42_method_149_code 5 = .ok (.ifCond .ne 22, 3) := by decide +kernel
theorem d3_8 : decode jdk_42_method_149_code 8 = .ok (.aload_n 0, 1) := by decide +kernel
theorem d3_9 : decode jdk_42_method_149_code 9 = .ok (.ldc 7, 2) := by decide +kernel
theorem d3_11 : decode jdk_42_method_149_code 11 = .ok (.getfield 9, 3) := by decide +kernel
theorem d3_14 : decode jdk_42_method_149_code 14 = .ok (.putfield 9, 3) := by decide +kernel
theorem d3_17 : decode jdk_42_method_149_code 17 = .ok (.aload_n 0, 1) := by decide +kernel
theorem d3_18 : decode jdk_42_method_149_code 18 = .ok (.ldc 7, 2) := by decide +kernel
theorem d3_20 : decode jdk_42_method_149_code 20 = .ok (.getfield 15, 3) := by decide +kernel
theorem d3_23 : decode jdk_42_method_149_code 23 = .ok (.putfield 15, 3) := by decide +kernel
theorem d3_26 : decode jdk_42_method_149_code 26 = .ok (.return_, 1) := by decide +kernel
theorem pn_java_lang_String : plainName "java/lang/String" = true := by first | (simp [plainName, overriddenIn]; done) | decide +kernel
theorem ef_3z (m : MethodId) (x0 : Addr) (x1 : Addr) : entryFrame m #[(.ref x0), (.ref x1), (.int (0 : Int32)), (.int (0 : Int32)), .null] 6 = mkF m 0 #[.val (.ref x0), .val (.ref x1), .val (.int (0 : Int32)), .val (.int (0 : Int32)), .val .null, .unset] [] := by first | (simp [entryFrame, mkF, argsToLocals, Value.category]; done) | rfl
def Q3z (Z : State) (tt : Addr) (a : Addr) (h0 : Heap) (n0 : Nat) (v : Option Value) (h : Heap) (L : List Loc) : Prop := ∃ (b : Addr) (kb : ClassId), v = none ∧ Fr n0 L ∧ Keep h0 h [tt] ∧ (Fld Z h tt "java/lang/String" "value" "[B" (.ref b)) ∧ (Fld Z h tt "java/lang/String" "coder" "B" (.int (0 : Int32))) ∧ (Arv Z h b kb .byte (0 : Int32) [] (.int (0 : Int32)))
set_option maxRecDepth 65536 in
set_option maxHeartbeats 40000000 in
theorem rm3z (l : Launch) (Z : State) (a0 : Array Value) (hw : ∀ d ∈ tables_1, d.before a0 Z = true) (ws : List Jvm.Cond) (tt : Addr) (a : Addr) (h0 : Heap) (n0 : Nat) (Z0 : n0 ≤ h0.size) (P0 : Old Z n0 h0) (P1 : Fld Z h0 tt "java/lang/String" "value" "[B" .null) (P2 : Fld Z h0 tt "java/lang/String" "coder" "B" (.int (0 : Int32))) (P3 : Exa Z h0 tt "java/lang/String") (P4 : n0 ≤ tt) (hch : Jvm.Lit.constHeld Z "java/lang/String" 7) (hcb : Jvm.Lit.compactW.before a0 Z = true) :
    MetFree l (⟨"java/lang/String", "<init>", "([CIILjava/lang/Void;)V"⟩ : MethodName) (head1 (Jvm.Cond.code (⟨"java/lang/String", "<init>", "([CIILjava/lang/Void;)V"⟩ : MethodName) jdk_42_method_149_code 6 none :: ws) ({ frames := 1, cells := 2, slots := 4, locals := 12 } : Room)) (fun argz U => argz = #[(.ref tt), (.ref a), (.int (0 : Int32)), (.int (0 : Int32)), .null] ∧ Z.Warmed39 U.vm ∧ U.heap = h0 ∧ IB Z U.vm []) (fun _ _ _ _ _ => True) (fun _ U o U' => ∃ v L, o = .returned v ∧ Q3z Z tt a h0 n0 v U'.heap L ∧ ReturnedEndW U o U' L ({ frames := 1, cells := 2, slots := 4, locals := 12 } : Room).cells ({ frames := 1, cells := 2, slots := 4, locals := 12 } : Room).slots) := by
  refine MetFree.of_bodySF (plainFor_of_name pn_java_lang_String) hisR ?_
  intro p e s m args below meth c s₁ Bd hml0 hP hK
  obtain ⟨rfl, hZ, hh, hV⟩ := hP
  have hx := Bd.exec
  have hby := Bd.bytes
  have hml : c.maxLocals = 6 := hml0
  have hown : s.vm.findClass "java/lang/String" = some m.cls := findClass_of_methodNamed Bd.named
  have hnm := (name_of_methodNamed Bd.named Bd.method).1
  have X0 : Stand p l e ({ frames := 1, cells := 2, slots := 4, locals := 12 } : Room) s m #[(.ref tt), (.ref a), (.int (0 : Int32)), (.int (0 : Int32)), .null] below meth c s₁ [] 0 0 := Stand.of_body Bd
  have e0 : s₁.heap = h0 := by rw [← hh, Bd.state]; rfl
  have N0 := Fr.nil n0
  have K0 : Keep h0 h0 [tt] := Keep.refl _ _
  have G : Gets p e below (s₁.setTop (entryFrame m #[(.ref tt), (.ref a), (.int (0 : Int32)), (.int (0 : Int32)), .null] 6)) (s₁.setTop (mkF m 0 #[.val (.ref tt), .val (.ref a), .val (.int (0 : Int32)), .val (.int (0 : Int32)), .val .null, .unset] [])) := fun t k => castTop (ef_3z m tt a) k
  replace G := own_aloadN (q := 1) G X0.here hx (hb hby d3_0) rfl rfl rfl
  obtain ⟨T1, X1, e1, st1⟩ := initO X0 hx hZ hown (hw _ (List.mem_of_getElem? (i := 15) rfl)) (hw _ (List.mem_of_getElem? (i := 16) rfl)) (hw _ (List.mem_of_getElem? (i := 17) rfl)) e0 (g := (mkF m 1 #[.val (.ref tt), .val (.ref a), .val (.int (0 : Int32)), .val (.int (0 : Int32)), .val .null, .unset] [(.ref tt)])) rfl (by rw [hml]; rfl) rfl (hb hby d3_1) (by decide) (W := 0) (by show 2 * 0 + _ ≤ _; exact Nat.le_of_eq rfl) (by decide)
  replace G : Gets p e below _ (T1.setTop (mkF m 4 #[.val (.ref tt), .val (.ref a), .val (.int (0 : Int32)), .val (.int (0 : Int32)), .val .null, .unset] [])) := fun t k => G t (st1 t k)
  replace G := own_iloadN (q := 5) G X1.here hx (hb hby d3_4) rfl rfl
  have hc5_2 : (0 : Int32) = (0 : Int32) := by decide
  replace G := own_ifNo (q := 8) G X1.here hx (hb hby d3_5) ((if0 _ _).trans (teq hc5_2).2) rfl
  replace G := own_aloadN (q := 9) G X1.here hx (hb hby d3_8) rfl rfl rfl
  have own_size : s.heap.size ≤ h0.size := by rw [hh]; exact Nat.le_refl _
  obtain ⟨b3, T3, h3, k13, v3, kv3, X3, e3, E3, S3, hk3, hZ3, hown3, A3, C3, V3, R3, -, -, I3, M3, st3⟩ := ldcSVL (s := s) (vm0 := s.vm) X1 hx hZ hown (hw _ (List.mem_of_getElem? (i := 94) rfl)) (fun d hd => hw d (own_strs d hd)) e1 (own_since s) own_size (Fr.nil _) (fun b cl q => by rw [hh]; exact P0.2.2 b cl q) hV (fun q => by cases q) hch hcb (vs := []) (z := (0 : Int32)) (by constructor <;> decide) (by decide) rfl (g := (mkF m 9 #[.val (.ref tt), .val (.ref a), .val (.int (0 : Int32)), .val (.int (0 : Int32)), .val .null, .unset] [(.ref tt)])) rfl (hb hby d3_9) (n := 0) (by decide) (by decide) (by decide) (by decide)
  have Z3 : n0 ≤ h3.size := Nat.le_trans Z0 E3.1
  have K3 : Keep h0 h3 [tt] := K0.ext E3
  have F4 : Exa Z h3 tt "java/lang/String" := (P3.ext E3)
  have ne5 : tt ≠ v3 := Exa.neArv F4 R3 (hw _ (List.mem_of_getElem? (i := 5) rfl))
  replace G : Gets p e below _ (T3.setTop (mkF m 11 #[.val (.ref tt), .val (.ref a), .val (.int (0 : Int32)), .val (.int (0 : Int32)), .val .null, .unset] [(.ref b3), (.ref tt)])) := fun t k => G t (st3 t k)
  obtain ⟨T6, X6, e6, st6⟩ := getF X3 hx hZ3 hown3 (host := "") (Or.inl (hw _ (List.mem_of_getElem? (i := 32) rfl))) Via.refl e3 V3 (g := (mkF m 11 #[.val (.ref tt), .val (.ref a), .val (.int (0 : Int32)), .val (.int (0 : Int32)), .val .null, .unset] [(.ref b3), (.ref tt)])) rfl rfl (hb hby d3_11)
  replace G : Gets p e below _ (T6.setTop (mkF m 14 #[.val (.ref tt), .val (.ref a), .val (.int (0 : Int32)), .val (.int (0 : Int32)), .val .null, .unset] [(.ref v3), (.ref tt)])) := fun t k => G t (st6 t k)
  have F7 : Fld Z h3 tt "java/lang/String" "value" "[B" .null := (P1.ext E3)
  obtain ⟨T8, h8, X8, e8, W8, st8⟩ := putF X6 hx hZ3 hown3 (host := "") (Or.inl (hw _ (List.mem_of_getElem? (i := 32) rfl))) Via.refl e6 F7 F4 (Or.inr ⟨(hw _ (List.mem_of_getElem? (i := 33) rfl)), rfl, hnm⟩) (hw _ (List.mem_of_getElem? (i := 5) rfl)) (ty := (.array .byte)) (by decide) rfl rfl (g := (mkF m 14 #[.val (.ref tt), .val (.ref a), .val (.int (0 : Int32)), .val (.int (0 : Int32)), .val .null, .unset] [(.ref v3), (.ref tt)])) rfl rfl (hb hby d3_14)
  have hk9 := Nat.le_trans hk3 (Keep.of_wr W8).1
  have N8 := Fr.snoc X8 N0 P4
  have Z8 : n0 ≤ h8.size := Nat.le_trans Z3 (Keep.of_wr W8).1
  have K8 : Keep h0 h8 [tt] := K3.wr W8 (Or.inl (List.mem_of_getElem? (i := 0) rfl))
  have F8 : Fld Z h8 tt "java/lang/String" "value" "[B" (.ref v3) := F7.same W8
  replace G : Gets p e below _ (T8.setTop (mkF m 17 #[.val (.ref tt), .val (.ref a), .val (.int (0 : Int32)), .val (.int (0 : Int32)), .val .null, .unset] [])) := fun t k => G t (st8 t k)
  replace G := own_aloadN (q := 18) G X8.here hx (hb hby d3_17) rfl rfl rfl
  replace G : Gets p e below _ (T8.setTop (mkF m 20 #[.val (.ref tt), .val (.ref a), .val (.int (0 : Int32)), .val (.int (0 : Int32)), .val .null, .unset] [(.ref b3), (.ref tt)])) := fun t k => G t (ldcAgain (s := s) (vm0 := T3.vm) X8 hx hZ3 hown3 (hw _ (List.mem_of_getElem? (i := 94) rfl)) M3 (g := (mkF m 18 #[.val (.ref tt), .val (.ref a), .val (.int (0 : Int32)), .val (.int (0 : Int32)), .val .null, .unset] [(.ref tt)])) rfl (hb hby d3_18) t k)
  have F10 : Fld Z h8 b3 "java/lang/String" "coder" "B" (.int (0 : Int32)) := (C3.other W8 (Or.inr (slot_ne (Or.inr (hw _ (List.mem_of_getElem? (i := 31) rfl))) (Or.inr (hw _ (List.mem_of_getElem? (i := 33) rfl))) (by decide) (t := .byte) (t' := (.array .byte)) (by decide) (by decide))))
  obtain ⟨T11, X11, e11, st11⟩ := getF X8 hx hZ3 hown3 (host := "") (Or.inl (hw _ (List.mem_of_getElem? (i := 30) rfl))) Via.refl e8 F10 (g := (mkF m 20 #[.val (.ref tt), .val (.ref a), .val (.int (0 : Int32)), .val (.int (0 : Int32)), .val .null, .unset] [(.ref b3), (.ref tt)])) rfl rfl (hb hby d3_20)
  replace G : Gets p e below _ (T11.setTop (mkF m 23 #[.val (.ref tt), .val (.ref a), .val (.int (0 : Int32)), .val (.int (0 : Int32)), .val .null, .unset] [(.int (0 : Int32)), (.ref tt)])) := fun t k => G t (st11 t k)
  have F12 : Exa Z h8 tt "java/lang/String" := (F4.wr W8)
  have F13 : Fld Z h8 tt "java/lang/String" "coder" "B" (.int (0 : Int32)) := ((P2.ext E3).other W8 (Or.inr (slot_ne (Or.inr (hw _ (List.mem_of_getElem? (i := 31) rfl))) (Or.inr (hw _ (List.mem_of_getElem? (i := 33) rfl))) (by decide) (t := .byte) (t' := (.array .byte)) (by decide) (by decide))))
  obtain ⟨T14, h14, X14, e14, W14, st14⟩ := putFN X11 hx hZ3 hown3 (hw _ (List.mem_of_getElem? (i := 30) rfl)) Via.refl e11 F13 F12 (Or.inr ⟨(hw _ (List.mem_of_getElem? (i := 31) rfl)), rfl, hnm⟩) (hw _ (List.mem_of_getElem? (i := 5) rfl)) (ty := .byte) (v' := (.int (0 : Int32))) (by decide) rfl (by first | rfl | decide) (g := (mkF m 23 #[.val (.ref tt), .val (.ref a), .val (.int (0 : Int32)), .val (.int (0 : Int32)), .val .null, .unset] [(.int (0 : Int32)), (.ref tt)])) rfl rfl (hb hby d3_23)
  have hk15 := Nat.le_trans hk9 (Keep.of_wr W14).1
  have N14 := Fr.snoc X14 N8 P4
  have Z14 : n0 ≤ h14.size := Nat.le_trans Z8 (Keep.of_wr W14).1
  have K14 : Keep h0 h14 [tt] := K8.wr W14 (Or.inl (List.mem_of_getElem? (i := 0) rfl))
  have F14 : Fld Z h14 tt "java/lang/String" "coder" "B" (.int (0 : Int32)) := F13.same W14
  replace G : Gets p e below _ (T14.setTop (mkF m 26 #[.val (.ref tt), .val (.ref a), .val (.int (0 : Int32)), .val (.int (0 : Int32)), .val .null, .unset] [])) := fun t k => G t (st14 t k)
  obtain ⟨fs, hr, hrun, hended, -, hW, hBk, hsame⟩ := X14.leaveW S3 (by rw [e14]; exact hk15) (v := none) (fun _ => rfl)
  refine ⟨_, _, G _ (X14.returnOut hx Bd.returns (hb hby d3_26) hr), hrun, hended, _, _, rfl, ?_, ⟨_, rfl⟩, hW, hBk, hsame.mono (by decide) (by decide)⟩
  have F16 : Fld Z h14 tt "java/lang/String" "value" "[B" (.ref v3) := (F8.other W14 (Or.inr (slot_ne (Or.inr (hw _ (List.mem_of_getElem? (i := 33) rfl))) (Or.inr (hw _ (List.mem_of_getElem? (i := 31) rfl))) (by decide) (t := (.array .byte)) (t' := .byte) (by decide) (by decide))))
  have F17 : Arv Z h14 v3 kv3 .byte (0 : Int32) [] (.int (0 : Int32)) := ((R3.other W8 (Ne.symm ne5)).other W14 (Ne.symm ne5))
  show Q3z Z tt a h0 n0 _ T14.heap _
  rw [e14]
  exact ⟨v3, kv3, rfl, N14, K14, F16, F14, F17⟩
theorem pd_0 : parseMethodDescriptor "([CIILjava/lang/Void;)V" = some ⟨[(.array .char), .int, .int, (.object "java/lang/Void")], none⟩ := by decide +kernel
theorem d2_0 : decode jdk_42_method_3_code 0 = .ok (.aload_n 0, 1) := by decide +kernel
theorem d2_1 : decode jdk_42_method_3_code 1 = .ok (.aload_n 1, 1) := by decide +kernel
theorem d2_2 : decode jdk_42_method_3_code 2 = .ok (.iconst 0, 1) := by decide +kernel
theorem d2_3 : decode jdk_42_method_3_code 3 = .ok (.aload_n 1, 1) := by decide +kernel
theorem d2_4 : decode jdk_42_method_3_code 4 = .ok (.arraylength, 1) := by decide +kernel
theorem d2_5 : decode jdk_42_method_3_code 5 = .ok (.aconst_null, 1) := by decide +kernel
theorem d2_6 : decode jdk_42_method_3_code 6 = .ok (.invokespecial 27, 3) := by decide +kernel
theorem d2_9 : decode jdk_42_method_3_code 9 = .ok (.return_, 1) := by decide +kernel
theorem ef_2z (m : MethodId) (x0 : Addr) (x1 : Addr) : entryFrame m #[(.ref x0), (.ref x1)] 2 = mkF m 0 #[.val (.ref x0), .val (.ref x1)] [] := by first | (simp [entryFrame, mkF, argsToLocals, Value.category]; done) | rfl
def Q2z (Z : State) (tt : Addr) (a : Addr) (ks : ClassId) (h0 : Heap) (n0 : Nat) (v : Option Value) (h : Heap) (L : List Loc) : Prop := ∃ (b : Addr) (kb : ClassId), v = none ∧ Fr n0 L ∧ Keep h0 h [tt] ∧ (Fld Z h tt "java/lang/String" "value" "[B" (.ref b)) ∧ (Fld Z h tt "java/lang/String" "coder" "B" (.int (0 : Int32))) ∧ (Arv Z h b kb .byte (0 : Int32) [] (.int (0 : Int32)))
set_option maxRecDepth 65536 in
set_option maxHeartbeats 40000000 in
theorem rm2z (l : Launch) (Z : State) (a0 : Array Value) (hw : ∀ d ∈ tables_1, d.before a0 Z = true) (ws : List Jvm.Cond) (tt : Addr) (a : Addr) (ks : ClassId) (h0 : Heap) (n0 : Nat) (Z0 : n0 ≤ h0.size) (P0 : Old Z n0 h0) (P1 : Fld Z h0 tt "java/lang/String" "value" "[B" .null) (P2 : Fld Z h0 tt "java/lang/String" "coder" "B" (.int (0 : Int32))) (P3 : Exa Z h0 tt "java/lang/String") (P4 : n0 ≤ tt) (hch : Jvm.Lit.constHeld Z "java/lang/String" 7) (hcb : Jvm.Lit.compactW.before a0 Z = true) (P7 : Arv Z h0 a ks .char (0 : Int32) [] (.int (0 : Int32))) :
    MetFree l (⟨"java/lang/String", "<init>", "([C)V"⟩ : MethodName) (head1 (Jvm.Cond.code (⟨"java/lang/String", "<init>", "([C)V"⟩ : MethodName) jdk_42_method_3_code 2 none :: ws) ({ frames := 2, cells := 2, slots := 4, locals := 29 } : Room)) (fun argz U => argz = #[(.ref tt), (.ref a)] ∧ Z.Warmed39 U.vm ∧ U.heap = h0 ∧ IB Z U.vm []) (fun _ _ _ _ _ => True) (fun _ U o U' => ∃ v L, o = .returned v ∧ Q2z Z tt a ks h0 n0 v U'.heap L ∧ ReturnedEndW U o U' L ({ frames := 2, cells := 2, slots := 4, locals := 29 } : Room).cells ({ frames := 2, cells := 2, slots := 4, locals := 29 } : Room).slots) := by
  refine MetFree.of_bodySF (plainFor_of_name pn_java_lang_String) hisR ?_
  intro p e s m args below meth c s₁ Bd hml0 hP hK
  obtain ⟨rfl, hZ, hh, hV⟩ := hP
  have hx := Bd.exec
  have hby := Bd.bytes
  have hml : c.maxLocals = 2 := hml0
  have hown : s.vm.findClass "java/lang/String" = some m.cls := findClass_of_methodNamed Bd.named
  have hnm := (name_of_methodNamed Bd.named Bd.method).1
  have X0 : Stand p l e ({ frames := 2, cells := 2, slots := 4, locals := 29 } : Room) s m #[(.ref tt), (.ref a)] below meth c s₁ [] 0 0 := Stand.of_body Bd
  have e0 : s₁.heap = h0 := by rw [← hh, Bd.state]; rfl
  have N0 := Fr.nil n0
  have K0 : Keep h0 h0 [tt] := Keep.refl _ _
  have G : Gets p e below (s₁.setTop (entryFrame m #[(.ref tt), (.ref a)] 2)) (s₁.setTop (mkF m 0 #[.val (.ref tt), .val (.ref a)] [])) := fun t k => castTop (ef_2z m tt a) k
  replace G := own_aloadN (q := 1) G X0.here hx (hb hby d2_0) rfl rfl rfl
  replace G := own_aloadN (q := 2) G X0.here hx (hb hby d2_1) rfl rfl rfl
  replace G := own_iconst (q := 3) G X0.here hx (hb hby d2_2) (v := (0 : Int32)) (by decide) rfl
  replace G := own_aloadN (q := 4) G X0.here hx (hb hby d2_3) rfl rfl rfl
  obtain ⟨c1, Ar1, -, S1, N1', -, -⟩ := id P7
  replace G : Gets p e below _ (s₁.setTop (mkF m 5 #[.val (.ref tt), .val (.ref a)] [(.int (0 : Int32)), (.int (0 : Int32)), (.ref a), (.ref tt)])) := fun t k => G t (X0.arraylength hx (by rw [e0]; exact Ar1.1) (State.isArrayOf_alike hZ.alike Ar1.2.1) (g := (mkF m 4 #[.val (.ref tt), .val (.ref a)] [(.ref a), (.int (0 : Int32)), (.ref a), (.ref tt)])) rfl rfl (hb hby d2_4) t (by rw [len_of S1 N1']; exact k))
  replace G := own_aconst_null (q := 6) G X0.here hx (hb hby d2_5) rfl
  obtain ⟨_, _, ⟨T2, L2, kk2, nn2⟩, -, X2, S2', g2', ⟨Lc2, hQ2, l2, y2, z2⟩, st2⟩ := X0.specialBackS hx (y := (⟨"java/lang/String", "<init>", "([CIILjava/lang/Void;)V"⟩ : MethodName)) rfl hown (mvT hZ (hw _ (List.mem_of_getElem? (i := 11) rfl))) (mvT hZ (hw _ (List.mem_of_getElem? (i := 12) rfl))) (mvT hZ (hw _ (List.mem_of_getElem? (i := 14) rfl))) (by decide) (own_backV (V := fun vm => IB Z vm []) (W := 0) (rm3z l Z a0 hw [] tt a h0 n0 Z0 P0 P1 P2 P3 P4 (by assumption) (by assumption)) hZ (hw _ (List.mem_of_getElem? (i := 14) rfl)) (hw _ (List.mem_of_getElem? (i := 6) rfl)) (by decide) (by decide)) (g := (mkF m 6 #[.val (.ref tt), .val (.ref a)] [.null, (.int (0 : Int32)), (.int (0 : Int32)), (.ref a), (.ref tt)])) rfl (by rw [hml]; rfl) (Steps.refl _) (a := tt) (argsL := [(.ref a), (.int (0 : Int32)), (.int (0 : Int32)), .null]) (rest := []) (lenOf pd_0 rfl) rfl (by show 2 * 0 + _ ≤ _; exact Nat.le_of_eq rfl) (hb hby d2_6) (fun _ hvm => ⟨rfl, e0, (by decide : 0 + 2 ≤ _), (by decide : 0 + 4 ≤ _), own_ibw hV hvm⟩)
  dsimp only [Pt.U, Pt.locs, Pt.cells, Pt.slots] at X2 l2 y2 z2 st2 hQ2 S2' g2'
  subst l2 y2 z2
  have S2 := S2'
  have hZ2 : Z.Warmed39 (s.setVm T2.vm).vm := State.Warmed39.trans hZ S2.1
  have hown2 := (S2.1.alike.findClass _ _).trans hown
  obtain ⟨b_2, kb_2, rfl, N2q, K2q, B2_0, B2_1, B2_2⟩ := hQ2
  have Z2 : n0 ≤ T2.heap.size := Nat.le_trans Z0 K2q.1
  have K2 : Keep h0 T2.heap [tt] := K0.trans K2q (allS (Or.inl (List.mem_of_getElem? (i := 0) rfl)) all0)
  have N2 := Fr.app N0 N2q
  replace G : Gets p e below _ (T2.setTop (mkF m 9 #[.val (.ref tt), .val (.ref a)] [])) := fun t k => G t (st2.trans k)
  obtain ⟨fs, hr, hrun, hended, -, hW, hBk, hsame⟩ := X2.leaveW S2 (Nat.le_refl _) (v := none) (fun _ => rfl)
  refine ⟨_, _, G _ (X2.returnOut hx Bd.returns (hb hby d2_9) hr), hrun, hended, _, _, rfl, ?_, ⟨_, rfl⟩, hW, hBk, hsame.mono (by decide) (by decide)⟩
  show Q2z Z tt a ks h0 n0 _ T2.heap _
  exact ⟨b_2, kb_2, rfl, N2, K2, B2_0, B2_1, B2_2⟩
theorem d6_0 : decode jdk_52_method_21_code 0 = .ok (.iconst 0, 1) := by decide +kernel
theorem d6_1 : decode jdk_52_method_21_code 1 = .ok (.istore 5, 2) := by decide +kernel
theorem d6_3 : decode jdk_52_method_21_code 3 = .ok (.iload 5, 2) := by decide +kernel
theorem d6_5 : decode jdk_52_method_21_code 5 = .ok (.iload 4, 2) := by decide +kernel
theorem d6_7 : decode jdk_52_method_21_code 7 = .ok (.if_icmp .ge 37, 3) := by decide +kernel
theorem d6_10 : decode jdk_52_method_21_code 10 = .ok (.aload_n 0, 1) := by decide +kernel
theorem d6_11 : decode jdk_52_method_21_code 11 = .ok (.iload_n 1, 1) := by decide +kernel
theorem d6_12 : decode jdk_52_method_21_code 12 = .ok (.caload, 1) := by decide +kernel
theorem d6_13 : decode jdk_52_method_21_code 13 = .ok (.istore 6, 2) := by decide +kernel
theorem d6_15 : decode jdk_52_method_21_code 15 = .ok (.iload 6, 2) := by decide +kernel
theorem d6_17 : decode jdk_52_method_21_code 17 = .ok (.sipush 255, 3) := by decide +kernel
theorem d6_20 : decode jdk_52_method_21_code 20 = .ok (.if_icmp .le 6, 3) := by decide +kernel
theorem d6_26 : decode jdk_52_method_21_code 26 = .ok (.aload_n 2, 1) := by decide +kernel
theorem d6_27 : decode jdk_52_method_21_code 27 = .ok (.iload_n 3, 1) := by decide +kernel
theorem d6_28 : decode jdk_52_method_21_code 28 = .ok (.iload 6, 2) := by decide +kernel
theorem d6_30 : decode jdk_52_method_21_code 30 = .ok (.i2b, 1) := by decide +kernel
theorem d6_31 : decode jdk_52_method_21_code 31 = .ok (.bastore, 1) := by decide +kernel
theorem d6_32 : decode jdk_52_method_21_code 32 = .ok (.iinc 1 1, 3) := by decide +kernel
theorem d6_35 : decode jdk_52_method_21_code 35 = .ok (.iinc 3 1, 3) := by decide +kernel
theorem d6_38 : decode jdk_52_method_21_code 38 = .ok (.iinc 5 1, 3) := by decide +kernel
theorem d6_41 : decode jdk_52_method_21_code 41 = .ok (.goto (-38), 3) := by decide +kernel
theorem d6_44 : decode jdk_52_method_21_code 44 = .ok (.iload 4, 2) := by decide +kernel
theorem d6_46 : decode jdk_52_method_21_code 46 = .ok (.ireturn, 1) := by decide +kernel
theorem pn_java_lang_StringUTF16 : plainName "java/lang/StringUTF16" = true := by first | (simp [plainName, overriddenIn]; done) | decide +kernel
theorem ef_6n1 (m : MethodId) (x0 : Addr) (x2 : Addr) : entryFrame m #[(.ref x0), (.int (0 : Int32)), (.ref x2), (.int (0 : Int32)), (.int (1 : Int32))] 7 = mkF m 0 #[.val (.ref x0), .val (.int (0 : Int32)), .val (.ref x2), .val (.int (0 : Int32)), .val (.int (1 : Int32)), .unset, .unset] [] := by first | (simp [entryFrame, mkF, argsToLocals, Value.category]; done) | rfl
def Q6n1 (Z : State) (a : Addr) (d : Addr) (ks : ClassId) (kd : ClassId) (ec0 : Int32) (h0 : Heap) (n0 : Nat) (v : Option Value) (h : Heap) (L : List Loc) : Prop := v = some (.int (1 : Int32)) ∧ Fr n0 L ∧ Keep h0 h [d] ∧ (Arv Z h d kd .byte (1 : Int32) [(.int (nar .byte (ec0.toInt8.toInt32)))] (.int (0 : Int32)))
set_option maxRecDepth 65536 in
set_option maxHeartbeats 40000000 in
theorem rm6n1 (l : Launch) (Z : State) (a0 : Array Value) (hw : ∀ d ∈ tables_1, d.before a0 Z = true) (ws : List Jvm.Cond) (a : Addr) (d : Addr) (ks : ClassId) (kd : ClassId) (ec0 : Int32) (h0 : Heap) (n0 : Nat) (Z0 : n0 ≤ h0.size) (P0 : Arv Z h0 a ks .char (1 : Int32) [(.int ec0)] (.int (0 : Int32))) (P1 : Arv Z h0 d kd .byte (1 : Int32) [(.int (0 : Int32))] (.int (0 : Int32))) (P2 : n0 ≤ d) (P3 : a ≠ d) (he0 : ¬ ((255 : Int32) < ec0)) :
    MetFree l (⟨"java/lang/StringUTF16", "compress", "([CI[BII)I"⟩ : MethodName) (head1 (Jvm.Cond.code (⟨"java/lang/StringUTF16", "compress", "([CI[BII)I"⟩ : MethodName) jdk_52_method_21_code 7 (some .int) :: ws) ({ frames := 0, cells := 0, slots := 0, locals := 0 } : Room)) (fun argz U => argz = #[(.ref a), (.int (0 : Int32)), (.ref d), (.int (0 : Int32)), (.int (1 : Int32))] ∧ Z.Warmed39 U.vm ∧ U.heap = h0) (fun _ _ _ _ _ => True) (fun _ U o U' => ∃ v L, o = .returned v ∧ Q6n1 Z a d ks kd ec0 h0 n0 v U'.heap L ∧ FrameEnd U o U' L ({ frames := 0, cells := 0, slots := 0, locals := 0 } : Room).cells ({ frames := 0, cells := 0, slots := 0, locals := 0 } : Room).slots) := by
  refine MetFree.of_bodySF (plainFor_of_name pn_java_lang_StringUTF16) hisR ?_
  intro p e s m args below meth c s₁ Bd hml0 hP hK
  obtain ⟨rfl, hZ, hh⟩ := hP
  have hx := Bd.exec
  have hby := Bd.bytes
  have hml : c.maxLocals = 7 := hml0
  have hown : s.vm.findClass "java/lang/StringUTF16" = some m.cls := findClass_of_methodNamed Bd.named
  have hnm := (name_of_methodNamed Bd.named Bd.method).1
  have X0 : Stand p l e ({ frames := 0, cells := 0, slots := 0, locals := 0 } : Room) s m #[(.ref a), (.int (0 : Int32)), (.ref d), (.int (0 : Int32)), (.int (1 : Int32))] below meth c s₁ [] 0 0 := Stand.of_body Bd
  have e0 : s₁.heap = h0 := by rw [← hh, Bd.state]; rfl
  have N0 := Fr.nil n0
  have K0 : Keep h0 h0 [d] := Keep.refl _ _
  have G : Gets p e below (s₁.setTop (entryFrame m #[(.ref a), (.int (0 : Int32)), (.ref d), (.int (0 : Int32)), (.int (1 : Int32))] 7)) (s₁.setTop (mkF m 0 #[.val (.ref a), .val (.int (0 : Int32)), .val (.ref d), .val (.int (0 : Int32)), .val (.int (1 : Int32)), .unset, .unset] [])) := fun t k => castTop (ef_6n1 m a d) k
  replace G := own_iconst (q := 1) G X0.here hx (hb hby d6_0) (v := (0 : Int32)) (by decide) rfl
  replace G := own_istore (q := 3) (l' := #[.val (.ref a), .val (.int (0 : Int32)), .val (.ref d), .val (.int (0 : Int32)), .val (.int (1 : Int32)), .val (.int (0 : Int32)), .unset]) G X0.here hx (hb hby d6_1) rfl rfl
  replace G := own_iload (q := 5) G X0.here hx (hb hby d6_3) rfl rfl
  replace G := own_iload (q := 7) G X0.here hx (hb hby d6_5) rfl rfl
  have hc7_1 : (0 : Int32) < (1 : Int32) := by decide
  replace G := own_icmpNo (q := 10) G X0.here hx (hb hby d6_7) (tlt hc7_1).2.1 rfl
  replace G := own_aloadN (q := 11) G X0.here hx (hb hby d6_10) rfl rfl rfl
  replace G := own_iloadN (q := 12) G X0.here hx (hb hby d6_11) rfl rfl
  obtain ⟨c2, Ar2, -, S2, -, H2, -⟩ := id P0
  have hin2 : ¬ ((0 : Int32) < 0 ∨ c2.slots.size ≤ ((0 : Int32)).toNatClampNeg) := inb_of S2 ⟨by decide, by decide⟩
  replace G : Gets p e below _ (s₁.setTop (mkF m 13 #[.val (.ref a), .val (.int (0 : Int32)), .val (.ref d), .val (.int (0 : Int32)), .val (.int (1 : Int32)), .val (.int (0 : Int32)), .unset] [(.int ec0)])) := fun t k => G t (X0.caload hx (j := (0 : Int32)) (v := (.int ec0)) (by rw [e0]; exact Ar2.1) (State.isArrayOf_alike hZ.alike Ar2.2.1) Ar2.2.2 hin2 (Has.at H2 hin2 rfl) (g := (mkF m 12 #[.val (.ref a), .val (.int (0 : Int32)), .val (.ref d), .val (.int (0 : Int32)), .val (.int (1 : Int32)), .val (.int (0 : Int32)), .unset] [(.int (0 : Int32)), (.ref a)])) rfl rfl (hb hby d6_12) t k)
  replace G := own_istore (q := 15) (l' := #[.val (.ref a), .val (.int (0 : Int32)), .val (.ref d), .val (.int (0 : Int32)), .val (.int (1 : Int32)), .val (.int (0 : Int32)), .val (.int ec0)]) G X0.here hx (hb hby d6_13) rfl rfl
  replace G := own_iload (q := 17) G X0.here hx (hb hby d6_15) rfl rfl
  replace G := own_sipush (q := 20) G X0.here hx (hb hby d6_17) (v := (255 : Int32)) (by decide) rfl
  have hc20_3 : ¬ ((255 : Int32) < ec0) := he0
  replace G := own_icmpYes (q := 26) G X0.here hx (hb hby d6_20) (flt hc20_3).2.2.2 (by decide) (by decide)
  replace G := own_aloadN (q := 27) G X0.here hx (hb hby d6_26) rfl rfl rfl
  replace G := own_iloadN (q := 28) G X0.here hx (hb hby d6_27) rfl rfl
  replace G := own_iload (q := 30) G X0.here hx (hb hby d6_28) rfl rfl
  replace G := own_i2b (q := 31) G X0.here hx (hb hby d6_30) rfl rfl
  obtain ⟨c4, Ar4, q4, S4, N4', H4, G4'⟩ := id P1
  have hin4 : ¬ ((0 : Int32) < 0 ∨ c4.slots.size ≤ ((0 : Int32)).toNatClampNeg) := inb_of S4 ⟨by decide, by decide⟩
  obtain ⟨T4, h4, X4, e4, W4, st4⟩ := stB X0 hx hZ e0 Ar4 (j := (0 : Int32)) hin4 (g := (mkF m 31 #[.val (.ref a), .val (.int (0 : Int32)), .val (.ref d), .val (.int (0 : Int32)), .val (.int (1 : Int32)), .val (.int (0 : Int32)), .val (.int ec0)] [(.int (ec0.toInt8.toInt32)), (.int (0 : Int32)), (.ref d)])) rfl rfl (hb hby d6_31)
  have N4 := Fr.snoc X4 N0 P2
  have Z4 : n0 ≤ h4.size := Nat.le_trans Z0 (Keep.of_wr W4).1
  have K4 : Keep h0 h4 [d] := K0.wr W4 (Or.inl (List.mem_of_getElem? (i := 0) rfl))
  have V4 : Arv Z h4 d kd .byte (1 : Int32) [(.int (nar .byte (ec0.toInt8.toInt32)))] (.int (0 : Int32)) := Arv.set Ar4 q4 S4 N4' H4 G4' (fits_nar_byte _) W4 0 rfl (Nat.le_of_ble_eq_true rfl)
  replace G : Gets p e below _ (T4.setTop (mkF m 32 #[.val (.ref a), .val (.int (0 : Int32)), .val (.ref d), .val (.int (0 : Int32)), .val (.int (1 : Int32)), .val (.int (0 : Int32)), .val (.int ec0)] [])) := fun t k => G t (st4 t k)
  replace G := own_iinc (q := 35) (l' := #[.val (.ref a), .val (.int (1 : Int32)), .val (.ref d), .val (.int (0 : Int32)), .val (.int (1 : Int32)), .val (.int (0 : Int32)), .val (.int ec0)]) (w := (1 : Int32)) G X4.here hx (hb hby d6_32) (by decide) rfl (by decide : ((0 : Int32) + (1 : Int32)) = (1 : Int32)) rfl rfl
  replace G := own_iinc (q := 38) (l' := #[.val (.ref a), .val (.int (1 : Int32)), .val (.ref d), .val (.int (1 : Int32)), .val (.int (1 : Int32)), .val (.int (0 : Int32)), .val (.int ec0)]) (w := (1 : Int32)) G X4.here hx (hb hby d6_35) (by decide) rfl (by decide : ((0 : Int32) + (1 : Int32)) = (1 : Int32)) rfl rfl
  replace G := own_iinc (q := 41) (l' := #[.val (.ref a), .val (.int (1 : Int32)), .val (.ref d), .val (.int (1 : Int32)), .val (.int (1 : Int32)), .val (.int (1 : Int32)), .val (.int ec0)]) (w := (1 : Int32)) G X4.here hx (hb hby d6_38) (by decide) rfl (by decide : ((0 : Int32) + (1 : Int32)) = (1 : Int32)) rfl rfl
  replace G := own_goto (q := 3) G X4.here hx (hb hby d6_41) (by decide) (by decide)
  replace G := own_iload (q := 5) G X4.here hx (hb hby d6_3) rfl rfl
  replace G := own_iload (q := 7) G X4.here hx (hb hby d6_5) rfl rfl
  have hc7_5 : ¬ ((1 : Int32) < (1 : Int32)) := by decide
  replace G := own_icmpYes (q := 44) G X4.here hx (hb hby d6_7) (flt hc7_5).2.1 (by decide) (by decide)
  replace G := own_iload (q := 46) G X4.here hx (hb hby d6_44) rfl rfl
  obtain ⟨fs, hr, hrun, hended, hW, hsame⟩ := X4.leave (v := some (.int (1 : Int32))) (fun h => by rw [Bd.returns] at h; cases h)
  refine ⟨_, _, G _ (retOut X4 hx Bd.returns rfl (Or.inl ⟨rfl, Or.inl rfl, _, rfl⟩) (hb hby d6_46) hr), hrun, hended, _, _, rfl, ?_, ⟨_, rfl⟩, hW, hsame.mono (by decide) (by decide)⟩
  show Q6n1 Z a d ks kd ec0 h0 n0 _ T4.heap _
  rw [e4]
  exact ⟨rfl, N4, K4, V4⟩
theorem pd_1 : parseMethodDescriptor "([CI[BII)I" = some ⟨[(.array .char), .int, (.array .byte), .int, .int], some .int⟩ := by decide +kernel
theorem d5_0 : decode jdk_52_method_16_code 0 = .ok (.iload_n 2, 1) := by decide +kernel
theorem d5_1 : decode jdk_52_method_16_code 1 = .ok (.newarray .byte, 2) := by decide +kernel
theorem d5_3 : decode jdk_52_method_16_code 3 = .ok (.astore_n 3, 1) := by decide +kernel
theorem d5_4 : decode jdk_52_method_16_code 4 = .ok (.aload_n 0, 1) := by decide +kernel
theorem d5_5 : decode jdk_52_method_16_code 5 = .ok (.iload_n 1, 1) := by decide +kernel
theorem d5_6 : decode jdk_52_method_16_code 6 = .ok (.aload_n 3, 1) := by decide +kernel
theorem d5_7 : decode jdk_52_method_16_code 7 = .ok (.iconst 0, 1) := by decide +kernel
theorem d5_8 : decode jdk_52_method_16_code 8 = .ok (.iload_n 2, 1) := by decide +kernel
theorem d5_9 : decode jdk_52_method_16_code 9 = .ok (.invokestatic 115, 3) := by decide +kernel
theorem d5_12 : decode jdk_52_method_16_code 12 = .ok (.istore 4, 2) := by decide +kernel
theorem d5_14 : decode jdk_52_method_16_code 14 = .ok (.iload 4, 2) := by decide +kernel
theorem d5_16 : decode jdk_52_method_16_code 16 = .ok (.iload_n 2, 1) := by decide +kernel
theorem d5_17 : decode jdk_52_method_16_code 17 = .ok (.if_icmp .eq 40, 3) := by decide +kernel
theorem d5_57 : decode jdk_52_method_16_code 57 = .ok (.aload_n 3, 1) := by decide +kernel
theorem d5_58 : decode jdk_52_method_16_code 58 = .ok (.areturn, 1) := by decide +kernel
theorem ef_5n1 (m : MethodId) (x0 : Addr) : entryFrame m #[(.ref x0), (.int (0 : Int32)), (.int (1 : Int32))] 6 = mkF m 0 #[.val (.ref x0), .val (.int (0 : Int32)), .val (.int (1 : Int32)), .unset, .unset, .unset] [] := by first | (simp [entryFrame, mkF, argsToLocals, Value.category]; done) | rfl
def Q5n1 (Z : State) (a : Addr) (ks : ClassId) (ec0 : Int32) (h0 : Heap) (n0 : Nat) (v : Option Value) (h : Heap) (L : List Loc) : Prop := ∃ (b : Addr) (kb : ClassId), v = some (.ref b) ∧ Fr n0 L ∧ Keep h0 h [] ∧ h0.size ≤ b ∧ (Arv Z h b kb .byte (1 : Int32) [(.int (nar .byte (ec0.toInt8.toInt32)))] (.int (0 : Int32)))
set_option maxRecDepth 65536 in
set_option maxHeartbeats 40000000 in
theorem rm5n1 (l : Launch) (Z : State) (a0 : Array Value) (hw : ∀ d ∈ tables_1, d.before a0 Z = true) (ws : List Jvm.Cond) (a : Addr) (ks : ClassId) (ec0 : Int32) (h0 : Heap) (n0 : Nat) (Z0 : n0 ≤ h0.size) (P0 : Arv Z h0 a ks .char (1 : Int32) [(.int ec0)] (.int (0 : Int32))) (he0 : ¬ ((255 : Int32) < ec0)) :
    MetFree l (⟨"java/lang/StringUTF16", "compress", "([CII)[B"⟩ : MethodName) (head1 (Jvm.Cond.code (⟨"java/lang/StringUTF16", "compress", "([CII)[B"⟩ : MethodName) jdk_52_method_16_code 6 (some (.array .byte)) :: ws) ({ frames := 1, cells := 1, slots := 1, locals := 18 } : Room)) (fun argz U => argz = #[(.ref a), (.int (0 : Int32)), (.int (1 : Int32))] ∧ Z.Warmed39 U.vm ∧ U.heap = h0) (fun _ _ _ _ _ => True) (fun _ U o U' => ∃ v L, o = .returned v ∧ Q5n1 Z a ks ec0 h0 n0 v U'.heap L ∧ FrameEnd U o U' L ({ frames := 1, cells := 1, slots := 1, locals := 18 } : Room).cells ({ frames := 1, cells := 1, slots := 1, locals := 18 } : Room).slots) := by
  refine MetFree.of_bodySF (plainFor_of_name pn_java_lang_StringUTF16) hisR ?_
  intro p e s m args below meth c s₁ Bd hml0 hP hK
  obtain ⟨rfl, hZ, hh⟩ := hP
  have hx := Bd.exec
  have hby := Bd.bytes
  have hml : c.maxLocals = 6 := hml0
  have hown : s.vm.findClass "java/lang/StringUTF16" = some m.cls := findClass_of_methodNamed Bd.named
  have hnm := (name_of_methodNamed Bd.named Bd.method).1
  have X0 : Stand p l e ({ frames := 1, cells := 1, slots := 1, locals := 18 } : Room) s m #[(.ref a), (.int (0 : Int32)), (.int (1 : Int32))] below meth c s₁ [] 0 0 := Stand.of_body Bd
  have e0 : s₁.heap = h0 := by rw [← hh, Bd.state]; rfl
  have N0 := Fr.nil n0
  have K0 : Keep h0 h0 [] := Keep.refl _ _
  have G : Gets p e below (s₁.setTop (entryFrame m #[(.ref a), (.int (0 : Int32)), (.int (1 : Int32))] 6)) (s₁.setTop (mkF m 0 #[.val (.ref a), .val (.int (0 : Int32)), .val (.int (1 : Int32)), .unset, .unset, .unset] [])) := fun t k => castTop (ef_5n1 m a) k
  replace G := own_iloadN (q := 1) G X0.here hx (hb hby d5_0) rfl rfl
  obtain ⟨T1, h1, k1, X1, e1, E1, A1, st1⟩ := newP X0 hx hZ (hw _ (List.mem_of_getElem? (i := 23) rfl)) e0 (g := (mkF m 1 #[.val (.ref a), .val (.int (0 : Int32)), .val (.int (1 : Int32)), .unset, .unset, .unset] [(.int (1 : Int32))])) rfl (hb hby d5_1) rfl (by decide) (cap := 1) (by decide) (by decide) (by decide) (by decide)
  obtain ⟨b1, g1⟩ : ∃ z, z = h0.size := ⟨_, rfl⟩
  rw [← g1] at A1 st1
  have ne2 : a ≠ b1 := Nat.ne_of_lt (Nat.lt_of_lt_of_le P0.lt (Nat.le_of_eq g1.symm))
  have ge_b1 : n0 ≤ b1 := Nat.le_trans Z0 (Nat.le_of_eq g1.symm)
  have sz_b1 : h0.size ≤ b1 := Nat.le_trans K0.1 (Nat.le_of_eq g1.symm)
  have Z1 : n0 ≤ h1.size := Nat.le_trans Z0 E1.1
  have K1 : Keep h0 h1 [] := K0.ext E1
  have V1 : Arv Z h1 b1 k1 .byte (1 : Int32) [(.int (0 : Int32))] (.int (0 : Int32)) := (Arv.new A1 (by decide)).pad (pad_rep [] (.int (0 : Int32)) 1)
  replace G : Gets p e below _ (T1.setTop (mkF m 3 #[.val (.ref a), .val (.int (0 : Int32)), .val (.int (1 : Int32)), .unset, .unset, .unset] [(.ref b1)])) := fun t k => G t (st1 t k)
  replace G := own_astoreN (q := 4) (l' := #[.val (.ref a), .val (.int (0 : Int32)), .val (.int (1 : Int32)), .val (.ref b1), .unset, .unset]) G X1.here hx (hb hby d5_3) rfl rfl rfl
  replace G := own_aloadN (q := 5) G X1.here hx (hb hby d5_4) rfl rfl rfl
  replace G := own_iloadN (q := 6) G X1.here hx (hb hby d5_5) rfl rfl
  replace G := own_aloadN (q := 7) G X1.here hx (hb hby d5_6) rfl rfl rfl
  replace G := own_iconst (q := 8) G X1.here hx (hb hby d5_7) (v := (0 : Int32)) (by decide) rfl
  replace G := own_iloadN (q := 9) G X1.here hx (hb hby d5_8) rfl rfl
  have F4 : Arv Z h1 a ks .char (1 : Int32) [(.int ec0)] (.int (0 : Int32)) := (P0.ext E1)
  obtain ⟨_, _, ⟨T3, L3, kk3, nn3⟩, -, X3, ⟨Lc3, hQ3, l3, y3, z3⟩, st3⟩ := Jvm.LawKit.callS X1 hx (y := (⟨"java/lang/StringUTF16", "compress", "([CI[BII)I"⟩ : MethodName)) hown (mvT hZ (hw _ (List.mem_of_getElem? (i := 24) rfl))) (mvT hZ (hw _ (List.mem_of_getElem? (i := 25) rfl))) (mvT hZ (hw _ (List.mem_of_getElem? (i := 21) rfl))) (mvT hZ (hw _ (List.mem_of_getElem? (i := 26) rfl))) (by decide) (backOf (W := 0) (rm6n1 l Z a0 hw [] a b1 ks k1 ec0 h1 n0 Z1 F4 V1 ge_b1 ne2 he0) hZ (hw _ (List.mem_of_getElem? (i := 26) rfl)) (hw _ (List.mem_of_getElem? (i := 21) rfl)) (by decide) (by decide)) (g := (mkF m 9 #[.val (.ref a), .val (.int (0 : Int32)), .val (.int (1 : Int32)), .val (.ref b1), .unset, .unset] [(.int (1 : Int32)), (.int (0 : Int32)), (.ref b1), (.int (0 : Int32)), (.ref a)])) rfl (by rw [hml]; rfl) (argsL := [(.ref a), (.int (0 : Int32)), (.ref b1), (.int (0 : Int32)), (.int (1 : Int32))]) (rest := []) (lenOf pd_1 rfl) rfl (by show 2 * 0 + _ ≤ _; exact Nat.le_of_eq rfl) (hb hby d5_9) (fun _ _ => ⟨rfl, e1, (by decide : 1 + 0 ≤ _), (by decide : 1 + 0 ≤ _)⟩)
  dsimp only [Pt.U, Pt.locs, Pt.cells, Pt.slots] at X3 l3 y3 z3 st3 hQ3
  subst l3 y3 z3
  obtain ⟨rfl, N3q, K3q, B3_0⟩ := hQ3
  have Z3 : n0 ≤ T3.heap.size := Nat.le_trans Z1 K3q.1
  have K3 : Keep h0 T3.heap [] := K1.trans K3q (allS (Or.inr sz_b1) all0)
  have N3 := Fr.app N0 N3q
  replace G : Gets p e below _ (T3.setTop (mkF m 12 #[.val (.ref a), .val (.int (0 : Int32)), .val (.int (1 : Int32)), .val (.ref b1), .unset, .unset] [(.int (1 : Int32))])) := fun t k => G t (st3 t k)
  replace G := own_istore (q := 14) (l' := #[.val (.ref a), .val (.int (0 : Int32)), .val (.int (1 : Int32)), .val (.ref b1), .val (.int (1 : Int32)), .unset]) G X3.here hx (hb hby d5_12) rfl rfl
  replace G := own_iload (q := 16) G X3.here hx (hb hby d5_14) rfl rfl
  replace G := own_iloadN (q := 17) G X3.here hx (hb hby d5_16) rfl rfl
  have hc17_5 : (1 : Int32) = (1 : Int32) := by decide
  replace G := own_icmpYes (q := 57) G X3.here hx (hb hby d5_17) (teq hc17_5).1 (by decide) (by decide)
  replace G := own_aloadN (q := 58) G X3.here hx (hb hby d5_57) rfl rfl rfl
  obtain ⟨fs, hr, hrun, hended, hW, hsame⟩ := X3.leave (v := some (.ref b1)) (fun h => by rw [Bd.returns] at h; cases h)
  refine ⟨_, _, G _ (retOut X3 hx Bd.returns rfl (Or.inr (Or.inr (Or.inr (Or.inr ⟨rfl, rfl, rfl⟩)))) (hb hby d5_58) hr), hrun, hended, _, _, rfl, ?_, ⟨_, rfl⟩, hW, hsame.mono (by decide) (by decide)⟩
  show Q5n1 Z a ks ec0 h0 n0 _ T3.heap _
  exact ⟨b1, k1, rfl, N3, K3, sz_b1, B3_0⟩
theorem d7_0 : decode jdk_52_method_15_code 0 = .ok (.iload_n 1, 1) := by decide +kernel
theorem d7_1 : decode jdk_52_method_15_code 1 = .ok (.aload_n 0, 1) := by decide +kernel
theorem d7_2 : decode jdk_52_method_15_code 2 = .ok (.arraylength, 1) := by decide +kernel
theorem d7_3 : decode jdk_52_method_15_code 3 = .ok (.isub, 1) := by decide +kernel
theorem d7_4 : decode jdk_52_method_15_code 4 = .ok (.bipush 31, 2) := by decide +kernel
theorem d7_6 : decode jdk_52_method_15_code 6 = .ok (.iushr, 1) := by decide +kernel
theorem d7_7 : decode jdk_52_method_15_code 7 = .ok (.i2b, 1) := by decide +kernel
theorem d7_8 : decode jdk_52_method_15_code 8 = .ok (.ireturn, 1) := by decide +kernel
theorem ef_7n1 (m : MethodId) (x0 : Addr) : entryFrame m #[(.ref x0), (.int (1 : Int32))] 2 = mkF m 0 #[.val (.ref x0), .val (.int (1 : Int32))] [] := by first | (simp [entryFrame, mkF, argsToLocals, Value.category]; done) | rfl
def Q7n1 (Z : State) (d : Addr) (kd : ClassId) (vs : List Value) (h0 : Heap) (n0 : Nat) (v : Option Value) (h : Heap) (L : List Loc) : Prop := v = some (.int (0 : Int32)) ∧ Fr n0 L ∧ h = h0
set_option maxRecDepth 65536 in
set_option maxHeartbeats 40000000 in
theorem rm7n1 (l : Launch) (Z : State) (a0 : Array Value) (hw : ∀ d ∈ tables_1, d.before a0 Z = true) (ws : List Jvm.Cond) (d : Addr) (kd : ClassId) (vs : List Value) (h0 : Heap) (n0 : Nat) (Z0 : n0 ≤ h0.size) (P0 : Arv Z h0 d kd .byte (1 : Int32) vs (.int (0 : Int32))) :
    MetFree l (⟨"java/lang/StringUTF16", "coderFromArrayLen", "([BI)B"⟩ : MethodName) (head1 (Jvm.Cond.code (⟨"java/lang/StringUTF16", "coderFromArrayLen", "([BI)B"⟩ : MethodName) jdk_52_method_15_code 2 (some .byte) :: ws) ({ frames := 0, cells := 0, slots := 0, locals := 0 } : Room)) (fun argz U => argz = #[(.ref d), (.int (1 : Int32))] ∧ Z.Warmed39 U.vm ∧ U.heap = h0) (fun _ _ _ _ _ => True) (fun _ U o U' => ∃ v L, o = .returned v ∧ Q7n1 Z d kd vs h0 n0 v U'.heap L ∧ FrameEnd U o U' L ({ frames := 0, cells := 0, slots := 0, locals := 0 } : Room).cells ({ frames := 0, cells := 0, slots := 0, locals := 0 } : Room).slots) := by
  refine MetFree.of_bodySF (plainFor_of_name pn_java_lang_StringUTF16) hisR ?_
  intro p e s m args below meth c s₁ Bd hml0 hP hK
  obtain ⟨rfl, hZ, hh⟩ := hP
  have hx := Bd.exec
  have hby := Bd.bytes
  have hml : c.maxLocals = 2 := hml0
  have hown : s.vm.findClass "java/lang/StringUTF16" = some m.cls := findClass_of_methodNamed Bd.named
  have hnm := (name_of_methodNamed Bd.named Bd.method).1
  have X0 : Stand p l e ({ frames := 0, cells := 0, slots := 0, locals := 0 } : Room) s m #[(.ref d), (.int (1 : Int32))] below meth c s₁ [] 0 0 := Stand.of_body Bd
  have e0 : s₁.heap = h0 := by rw [← hh, Bd.state]; rfl
  have N0 := Fr.nil n0
  have G : Gets p e below (s₁.setTop (entryFrame m #[(.ref d), (.int (1 : Int32))] 2)) (s₁.setTop (mkF m 0 #[.val (.ref d), .val (.int (1 : Int32))] [])) := fun t k => castTop (ef_7n1 m d) k
  replace G := own_iloadN (q := 1) G X0.here hx (hb hby d7_0) rfl rfl
  replace G := own_aloadN (q := 2) G X0.here hx (hb hby d7_1) rfl rfl rfl
  obtain ⟨c1, Ar1, -, S1, N1', -, -⟩ := id P0
  replace G : Gets p e below _ (s₁.setTop (mkF m 3 #[.val (.ref d), .val (.int (1 : Int32))] [(.int (1 : Int32)), (.int (1 : Int32))])) := fun t k => G t (X0.arraylength hx (by rw [e0]; exact Ar1.1) (State.isArrayOf_alike hZ.alike Ar1.2.1) (g := (mkF m 2 #[.val (.ref d), .val (.int (1 : Int32))] [(.ref d), (.int (1 : Int32))])) rfl rfl (hb hby d7_2) t (by rw [len_of S1 N1']; exact k))
  replace G := own_isub (q := 4) G X0.here hx (hb hby d7_3) (by decide : ((1 : Int32) - (1 : Int32)) = (0 : Int32)) rfl
  replace G := own_bipush (q := 6) G X0.here hx (hb hby d7_4) (v := (31 : Int32)) (by decide) rfl
  replace G := own_iushr (q := 7) G X0.here hx (hb hby d7_6) (by decide : (((0 : Int32).toUInt32 >>> ((31 : Int32) &&& 31).toUInt32).toInt32) = (0 : Int32)) rfl
  replace G := own_i2b (q := 8) G X0.here hx (hb hby d7_7) (by decide : ((0 : Int32).toInt8.toInt32) = (0 : Int32)) rfl
  obtain ⟨fs, hr, hrun, hended, hW, hsame⟩ := X0.leave (v := some (.int (0 : Int32))) (fun h => by rw [Bd.returns] at h; cases h)
  refine ⟨_, _, G _ (retOut X0 hx Bd.returns rfl (Or.inl ⟨rfl, Or.inr (Or.inr (Or.inl rfl)), _, rfl⟩) (hb hby d7_8) hr), hrun, hended, _, _, rfl, ?_, ⟨_, rfl⟩, hW, hsame.mono (by decide) (by decide)⟩
  show Q7n1 Z d kd vs h0 n0 _ s₁.heap _
  rw [e0]
  exact ⟨rfl, N0, rfl⟩
theorem pd_2 : parseMethodDescriptor "([CII)[B" = some ⟨[(.array .char), .int, .int], some (.array .byte)⟩ := by decide +kernel
theorem pd_3 : parseMethodDescriptor "([BI)B" = some ⟨[(.array .byte), .int], some .byte⟩ := by decide +kernel
theorem d3_27 : decode jdk_42_method_149_code 27 = .ok (.getstatic 38, 3) := by decide +kernel
theorem d3_30 : decode jdk_42_method_149_code 30 = .ok (.ifCond .eq 28, 3) := by decide +kernel
theorem d3_33 : decode jdk_42_method_149_code 33 = .ok (.aload_n 1, 1) := by decide +kernel
theorem d3_34 : decode jdk_42_method_149_code 34 = .ok (.iload_n 2, 1) := by decide +kernel
theorem d3_35 : decode jdk_42_method_149_code 35 = .ok (.iload_n 3, 1) := by decide +kernel
theorem d3_36 : decode jdk_42_method_149_code 36 = .ok (.invokestatic 177, 3) := by decide +kernel
theorem d3_39 : decode jdk_42_method_149_code 39 = .ok (.astore 5, 2) := by decide +kernel
theorem d3_41 : decode jdk_42_method_149_code 41 = .ok (.aload_n 0, 1) := by decide +kernel
theorem d3_42 : decode jdk_42_method_149_code 42 = .ok (.aload 5, 2) := by decide +kernel
theorem d3_44 : decode jdk_42_method_149_code 44 = .ok (.iload_n 3, 1) := by decide +kernel
theorem d3_45 : decode jdk_42_method_149_code 45 = .ok (.invokestatic 47, 3) := by decide +kernel
theorem d3_48 : decode jdk_42_method_149_code 48 = .ok (.putfield 15, 3) := by decide +kernel
theorem d3_51 : decode jdk_42_method_149_code 51 = .ok (.aload_n 0, 1) := by decide +kernel
theorem d3_52 : decode jdk_42_method_149_code 52 = .ok (.aload 5, 2) := by decide +kernel
theorem d3_54 : decode jdk_42_method_149_code 54 = .ok (.putfield 9, 3) := by decide +kernel
theorem d3_57 : decode jdk_42_method_149_code 57 = .ok (.return_, 1) := by decide +kernel
theorem ef_3n1 (m : MethodId) (x0 : Addr) (x1 : Addr) : entryFrame m #[(.ref x0), (.ref x1), (.int (0 : Int32)), (.int (1 : Int32)), .null] 6 = mkF m 0 #[.val (.ref x0), .val (.ref x1), .val (.int (0 : Int32)), .val (.int (1 : Int32)), .val .null, .unset] [] := by first | (simp [entryFrame, mkF, argsToLocals, Value.category]; done) | rfl
def Q3n1 (Z : State) (tt : Addr) (a : Addr) (ks : ClassId) (cw : Int32) (ec0 : Int32) (h0 : Heap) (n0 : Nat) (v : Option Value) (h : Heap) (L : List Loc) : Prop := ∃ (b : Addr) (kb : ClassId), v = none ∧ Fr n0 L ∧ Keep h0 h [tt] ∧ (Fld Z h tt "java/lang/String" "value" "[B" (.ref b)) ∧ (Fld Z h tt "java/lang/String" "coder" "B" (.int (0 : Int32))) ∧ h0.size ≤ b ∧ (Arv Z h b kb .byte (1 : Int32) [(.int (nar .byte (ec0.toInt8.toInt32)))] (.int (0 : Int32)))
set_option maxRecDepth 65536 in
set_option maxHeartbeats 40000000 in
theorem rm3n1 (l : Launch) (Z : State) (a0 : Array Value) (hw : ∀ d ∈ tables_1, d.before a0 Z = true) (ws : List Jvm.Cond) (tt : Addr) (a : Addr) (ks : ClassId) (cw : Int32) (ec0 : Int32) (h0 : Heap) (n0 : Nat) (Z0 : n0 ≤ h0.size) (P0 : Fld Z h0 tt "java/lang/String" "value" "[B" .null) (P1 : Fld Z h0 tt "java/lang/String" "coder" "B" (.int (0 : Int32))) (P2 : Exa Z h0 tt "java/lang/String") (P3 : n0 ≤ tt) (P4 : Arv Z h0 a ks .char (1 : Int32) [(.int ec0)] (.int (0 : Int32))) (P5 : Sta Z h0 "java/lang/String" "COMPACT_STRINGS" "Z" (.int cw)) (hcw : ¬ cw = (0 : Int32)) (he0 : ¬ ((255 : Int32) < ec0)) :
    MetFree l (⟨"java/lang/String", "<init>", "([CIILjava/lang/Void;)V"⟩ : MethodName) (head1 (Jvm.Cond.code (⟨"java/lang/String", "<init>", "([CIILjava/lang/Void;)V"⟩ : MethodName) jdk_42_method_149_code 6 none :: ws) ({ frames := 2, cells := 1, slots := 1, locals := 35 } : Room)) (fun argz U => argz = #[(.ref tt), (.ref a), (.int (0 : Int32)), (.int (1 : Int32)), .null] ∧ Z.Warmed39 U.vm ∧ U.heap = h0) (fun _ _ _ _ _ => True) (fun _ U o U' => ∃ v L, o = .returned v ∧ Q3n1 Z tt a ks cw ec0 h0 n0 v U'.heap L ∧ FrameEnd U o U' L ({ frames := 2, cells := 1, slots := 1, locals := 35 } : Room).cells ({ frames := 2, cells := 1, slots := 1, locals := 35 } : Room).slots) := by
  refine MetFree.of_bodySF (plainFor_of_name pn_java_lang_String) hisR ?_
  intro p e s m args below meth c s₁ Bd hml0 hP hK
  obtain ⟨rfl, hZ, hh⟩ := hP
  have hx := Bd.exec
  have hby := Bd.bytes
  have hml : c.maxLocals = 6 := hml0
  have hown : s.vm.findClass "java/lang/String" = some m.cls := findClass_of_methodNamed Bd.named
  have hnm := (name_of_methodNamed Bd.named Bd.method).1
  have X0 : Stand p l e ({ frames := 2, cells := 1, slots := 1, locals := 35 } : Room) s m #[(.ref tt), (.ref a), (.int (0 : Int32)), (.int (1 : Int32)), .null] below meth c s₁ [] 0 0 := Stand.of_body Bd
  have e0 : s₁.heap = h0 := by rw [← hh, Bd.state]; rfl
  have N0 := Fr.nil n0
  have K0 : Keep h0 h0 [tt] := Keep.refl _ _
  have G : Gets p e below (s₁.setTop (entryFrame m #[(.ref tt), (.ref a), (.int (0 : Int32)), (.int (1 : Int32)), .null] 6)) (s₁.setTop (mkF m 0 #[.val (.ref tt), .val (.ref a), .val (.int (0 : Int32)), .val (.int (1 : Int32)), .val .null, .unset] [])) := fun t k => castTop (ef_3n1 m tt a) k
  replace G := own_aloadN (q := 1) G X0.here hx (hb hby d3_0) rfl rfl rfl
  obtain ⟨T1, X1, e1, st1⟩ := initO X0 hx hZ hown (hw _ (List.mem_of_getElem? (i := 15) rfl)) (hw _ (List.mem_of_getElem? (i := 16) rfl)) (hw _ (List.mem_of_getElem? (i := 17) rfl)) e0 (g := (mkF m 1 #[.val (.ref tt), .val (.ref a), .val (.int (0 : Int32)), .val (.int (1 : Int32)), .val .null, .unset] [(.ref tt)])) rfl (by rw [hml]; rfl) rfl (hb hby d3_1) (by decide) (W := 0) (by show 2 * 0 + _ ≤ _; exact Nat.le_of_eq rfl) (by decide)
  replace G : Gets p e below _ (T1.setTop (mkF m 4 #[.val (.ref tt), .val (.ref a), .val (.int (0 : Int32)), .val (.int (1 : Int32)), .val .null, .unset] [])) := fun t k => G t (st1 t k)
  replace G := own_iloadN (q := 5) G X1.here hx (hb hby d3_4) rfl rfl
  have hc5_2 : ¬ ((1 : Int32) = (0 : Int32)) := by decide
  replace G := own_ifYes (q := 27) G X1.here hx (hb hby d3_5) ((if0 _ _).trans (feq hc5_2).2) (by decide) (by decide)
  obtain ⟨T3, X3, e3, st3⟩ := getS2 X1 hx hZ hown (host := "") (Or.inl (hw _ (List.mem_of_getElem? (i := 18) rfl))) Via.refl e1 P5 (g := (mkF m 27 #[.val (.ref tt), .val (.ref a), .val (.int (0 : Int32)), .val (.int (1 : Int32)), .val .null, .unset] [])) rfl (hb hby d3_27)
  replace G : Gets p e below _ (T3.setTop (mkF m 30 #[.val (.ref tt), .val (.ref a), .val (.int (0 : Int32)), .val (.int (1 : Int32)), .val .null, .unset] [(.int cw)])) := fun t k => G t (st3 t k)
  have hc30_4 : ¬ (cw = (0 : Int32)) := hcw
  replace G := own_ifNo (q := 33) G X3.here hx (hb hby d3_30) ((if0 _ _).trans (feq hc30_4).1) rfl
  replace G := own_aloadN (q := 34) G X3.here hx (hb hby d3_33) rfl rfl rfl
  replace G := own_iloadN (q := 35) G X3.here hx (hb hby d3_34) rfl rfl
  replace G := own_iloadN (q := 36) G X3.here hx (hb hby d3_35) rfl rfl
  obtain ⟨_, _, ⟨T5, L5, kk5, nn5⟩, -, X5, ⟨Lc5, hQ5, l5, y5, z5⟩, st5⟩ := Jvm.LawKit.callS X3 hx (y := (⟨"java/lang/StringUTF16", "compress", "([CII)[B"⟩ : MethodName)) hown (mvT hZ (hw _ (List.mem_of_getElem? (i := 19) rfl))) (mvT hZ (hw _ (List.mem_of_getElem? (i := 20) rfl))) (mvT hZ (hw _ (List.mem_of_getElem? (i := 21) rfl))) (mvT hZ (hw _ (List.mem_of_getElem? (i := 22) rfl))) (by decide) (backOf (W := 0) (rm5n1 l Z a0 hw [] a ks ec0 h0 n0 Z0 P4 he0) hZ (hw _ (List.mem_of_getElem? (i := 22) rfl)) (hw _ (List.mem_of_getElem? (i := 21) rfl)) (by decide) (by decide)) (g := (mkF m 36 #[.val (.ref tt), .val (.ref a), .val (.int (0 : Int32)), .val (.int (1 : Int32)), .val .null, .unset] [(.int (1 : Int32)), (.int (0 : Int32)), (.ref a)])) rfl (by rw [hml]; rfl) (argsL := [(.ref a), (.int (0 : Int32)), (.int (1 : Int32))]) (rest := []) (lenOf pd_2 rfl) rfl (by show 2 * 0 + _ ≤ _; exact Nat.le_of_eq rfl) (hb hby d3_36) (fun _ _ => ⟨rfl, e3, (by decide : 0 + 1 ≤ _), (by decide : 0 + 1 ≤ _)⟩)
  dsimp only [Pt.U, Pt.locs, Pt.cells, Pt.slots] at X5 l5 y5 z5 st5 hQ5
  subst l5 y5 z5
  obtain ⟨b_5, kb_5, rfl, N5q, K5q, B5_0, B5_1⟩ := hQ5
  have ne6 : tt ≠ b_5 := Nat.ne_of_lt (Nat.lt_of_lt_of_le P0.lt B5_0)
  have ne7 : a ≠ b_5 := Nat.ne_of_lt (Nat.lt_of_lt_of_le P4.lt B5_0)
  have ge_b_5 : n0 ≤ b_5 := Nat.le_trans Z0 B5_0
  have sz_b_5 : h0.size ≤ b_5 := Nat.le_trans K0.1 B5_0
  have Z5 : n0 ≤ T5.heap.size := Nat.le_trans Z0 K5q.1
  have K5 : Keep h0 T5.heap [tt] := K0.trans K5q all0
  have N5 := Fr.app N0 N5q
  replace G : Gets p e below _ (T5.setTop (mkF m 39 #[.val (.ref tt), .val (.ref a), .val (.int (0 : Int32)), .val (.int (1 : Int32)), .val .null, .unset] [(.ref b_5)])) := fun t k => G t (st5 t k)
  replace G := own_astore (q := 41) (l' := #[.val (.ref tt), .val (.ref a), .val (.int (0 : Int32)), .val (.int (1 : Int32)), .val .null, .val (.ref b_5)]) G X5.here hx (hb hby d3_39) rfl rfl rfl
  replace G := own_aloadN (q := 42) G X5.here hx (hb hby d3_41) rfl rfl rfl
  replace G := own_aload (q := 44) G X5.here hx (hb hby d3_42) rfl rfl rfl
  replace G := own_iloadN (q := 45) G X5.here hx (hb hby d3_44) rfl rfl
  obtain ⟨_, _, ⟨T8, L8, kk8, nn8⟩, -, X8, ⟨Lc8, hQ8, l8, y8, z8⟩, st8⟩ := Jvm.LawKit.callS X5 hx (y := (⟨"java/lang/StringUTF16", "coderFromArrayLen", "([BI)B"⟩ : MethodName)) hown (mvT hZ (hw _ (List.mem_of_getElem? (i := 27) rfl))) (mvT hZ (hw _ (List.mem_of_getElem? (i := 28) rfl))) (mvT hZ (hw _ (List.mem_of_getElem? (i := 21) rfl))) (mvT hZ (hw _ (List.mem_of_getElem? (i := 29) rfl))) (by decide) (backOf (W := 1) (rm7n1 l Z a0 hw [] b_5 kb_5 [(.int (nar .byte (ec0.toInt8.toInt32)))] T5.heap n0 Z5 B5_1) hZ (hw _ (List.mem_of_getElem? (i := 29) rfl)) (hw _ (List.mem_of_getElem? (i := 21) rfl)) (by decide) (by decide)) (g := (mkF m 45 #[.val (.ref tt), .val (.ref a), .val (.int (0 : Int32)), .val (.int (1 : Int32)), .val .null, .val (.ref b_5)] [(.int (1 : Int32)), (.ref b_5), (.ref tt)])) rfl (by rw [hml]; rfl) (argsL := [(.ref b_5), (.int (1 : Int32))]) (rest := [(.ref tt)]) (lenOf pd_3 rfl) rfl (by show 2 * 0 + _ ≤ _; exact Nat.le_of_eq rfl) (hb hby d3_45) (fun _ _ => ⟨rfl, rfl, (by decide : 1 + 0 ≤ _), (by decide : 1 + 0 ≤ _)⟩)
  dsimp only [Pt.U, Pt.locs, Pt.cells, Pt.slots] at X8 l8 y8 z8 st8 hQ8
  subst l8 y8 z8
  obtain ⟨rfl, N8q, e8⟩ := hQ8
  have N8 := Fr.app N5 N8q
  replace G : Gets p e below _ (T8.setTop (mkF m 48 #[.val (.ref tt), .val (.ref a), .val (.int (0 : Int32)), .val (.int (1 : Int32)), .val .null, .val (.ref b_5)] [(.int (0 : Int32)), (.ref tt)])) := fun t k => G t (st8 t k)
  have F9 : Exa Z T5.heap tt "java/lang/String" := (P2.keep K5q)
  have F10 : Fld Z T5.heap tt "java/lang/String" "coder" "B" (.int (0 : Int32)) := (P1.keep K5q nin0)
  obtain ⟨T11, h11, X11, e11, W11, st11⟩ := putFN X8 hx hZ hown (hw _ (List.mem_of_getElem? (i := 30) rfl)) Via.refl e8 F10 F9 (Or.inr ⟨(hw _ (List.mem_of_getElem? (i := 31) rfl)), rfl, hnm⟩) (hw _ (List.mem_of_getElem? (i := 5) rfl)) (ty := .byte) (v' := (.int (0 : Int32))) (by decide) rfl (by first | rfl | decide) (g := (mkF m 48 #[.val (.ref tt), .val (.ref a), .val (.int (0 : Int32)), .val (.int (1 : Int32)), .val .null, .val (.ref b_5)] [(.int (0 : Int32)), (.ref tt)])) rfl rfl (hb hby d3_48)
  have N11 := Fr.snoc X11 N8 P3
  have Z11 : n0 ≤ h11.size := Nat.le_trans Z5 (Keep.of_wr W11).1
  have K11 : Keep h0 h11 [tt] := K5.wr W11 (Or.inl (List.mem_of_getElem? (i := 0) rfl))
  have F11 : Fld Z h11 tt "java/lang/String" "coder" "B" (.int (0 : Int32)) := F10.same W11
  replace G : Gets p e below _ (T11.setTop (mkF m 51 #[.val (.ref tt), .val (.ref a), .val (.int (0 : Int32)), .val (.int (1 : Int32)), .val .null, .val (.ref b_5)] [])) := fun t k => G t (st11 t k)
  replace G := own_aloadN (q := 52) G X11.here hx (hb hby d3_51) rfl rfl rfl
  replace G := own_aload (q := 54) G X11.here hx (hb hby d3_52) rfl rfl rfl
  have F12 : Exa Z h11 tt "java/lang/String" := (F9.wr W11)
  have F13 : Fld Z h11 tt "java/lang/String" "value" "[B" .null := ((P0.keep K5q nin0).other W11 (Or.inr (slot_ne (Or.inr (hw _ (List.mem_of_getElem? (i := 33) rfl))) (Or.inr (hw _ (List.mem_of_getElem? (i := 31) rfl))) (by decide) (t := (.array .byte)) (t' := .byte) (by decide) (by decide))))
  obtain ⟨T14, h14, X14, e14, W14, st14⟩ := putF X11 hx hZ hown (host := "") (Or.inl (hw _ (List.mem_of_getElem? (i := 32) rfl))) Via.refl e11 F13 F12 (Or.inr ⟨(hw _ (List.mem_of_getElem? (i := 33) rfl)), rfl, hnm⟩) (hw _ (List.mem_of_getElem? (i := 5) rfl)) (ty := (.array .byte)) (by decide) rfl rfl (g := (mkF m 54 #[.val (.ref tt), .val (.ref a), .val (.int (0 : Int32)), .val (.int (1 : Int32)), .val .null, .val (.ref b_5)] [(.ref b_5), (.ref tt)])) rfl rfl (hb hby d3_54)
  have N14 := Fr.snoc X14 N11 P3
  have Z14 : n0 ≤ h14.size := Nat.le_trans Z11 (Keep.of_wr W14).1
  have K14 : Keep h0 h14 [tt] := K11.wr W14 (Or.inl (List.mem_of_getElem? (i := 0) rfl))
  have F14 : Fld Z h14 tt "java/lang/String" "value" "[B" (.ref b_5) := F13.same W14
  replace G : Gets p e below _ (T14.setTop (mkF m 57 #[.val (.ref tt), .val (.ref a), .val (.int (0 : Int32)), .val (.int (1 : Int32)), .val .null, .val (.ref b_5)] [])) := fun t k => G t (st14 t k)
  obtain ⟨fs, hr, hrun, hended, hW, hsame⟩ := X14.leave (v := none) (fun _ => rfl)
  refine ⟨_, _, G _ (X14.returnOut hx Bd.returns (hb hby d3_57) hr), hrun, hended, _, _, rfl, ?_, ⟨_, rfl⟩, hW, hsame.mono (by decide) (by decide)⟩
  have F15 : Fld Z h14 tt "java/lang/String" "coder" "B" (.int (0 : Int32)) := (F11.other W14 (Or.inr (slot_ne (Or.inr (hw _ (List.mem_of_getElem? (i := 31) rfl))) (Or.inr (hw _ (List.mem_of_getElem? (i := 33) rfl))) (by decide) (t := .byte) (t' := (.array .byte)) (by decide) (by decide))))
  have F16 : Arv Z h14 b_5 kb_5 .byte (1 : Int32) [(.int (nar .byte (ec0.toInt8.toInt32)))] (.int (0 : Int32)) := ((B5_1.other W11 (Ne.symm ne6)).other W14 (Ne.symm ne6))
  show Q3n1 Z tt a ks cw ec0 h0 n0 _ T14.heap _
  rw [e14]
  exact ⟨b_5, kb_5, rfl, N14, K14, F14, F15, sz_b_5, F16⟩
theorem ef_2n1 (m : MethodId) (x0 : Addr) (x1 : Addr) : entryFrame m #[(.ref x0), (.ref x1)] 2 = mkF m 0 #[.val (.ref x0), .val (.ref x1)] [] := by first | (simp [entryFrame, mkF, argsToLocals, Value.category]; done) | rfl
def Q2n1 (Z : State) (tt : Addr) (a : Addr) (ks : ClassId) (cw : Int32) (ec0 : Int32) (h0 : Heap) (n0 : Nat) (v : Option Value) (h : Heap) (L : List Loc) : Prop := ∃ (b : Addr) (kb : ClassId), v = none ∧ Fr n0 L ∧ Keep h0 h [tt] ∧ (Fld Z h tt "java/lang/String" "value" "[B" (.ref b)) ∧ (Fld Z h tt "java/lang/String" "coder" "B" (.int (0 : Int32))) ∧ h0.size ≤ b ∧ (Arv Z h b kb .byte (1 : Int32) [(.int (nar .byte (ec0.toInt8.toInt32)))] (.int (0 : Int32)))
set_option maxRecDepth 65536 in
set_option maxHeartbeats 40000000 in
theorem rm2n1 (l : Launch) (Z : State) (a0 : Array Value) (hw : ∀ d ∈ tables_1, d.before a0 Z = true) (ws : List Jvm.Cond) (tt : Addr) (a : Addr) (ks : ClassId) (cw : Int32) (ec0 : Int32) (h0 : Heap) (n0 : Nat) (Z0 : n0 ≤ h0.size) (P0 : Fld Z h0 tt "java/lang/String" "value" "[B" .null) (P1 : Fld Z h0 tt "java/lang/String" "coder" "B" (.int (0 : Int32))) (P2 : Exa Z h0 tt "java/lang/String") (P3 : n0 ≤ tt) (P4 : Arv Z h0 a ks .char (1 : Int32) [(.int ec0)] (.int (0 : Int32))) (P5 : Sta Z h0 "java/lang/String" "COMPACT_STRINGS" "Z" (.int cw)) (hcw : ¬ cw = (0 : Int32)) (he0 : ¬ ((255 : Int32) < ec0)) :
    MetFree l (⟨"java/lang/String", "<init>", "([C)V"⟩ : MethodName) (head1 (Jvm.Cond.code (⟨"java/lang/String", "<init>", "([C)V"⟩ : MethodName) jdk_42_method_3_code 2 none :: ws) ({ frames := 3, cells := 1, slots := 1, locals := 52 } : Room)) (fun argz U => argz = #[(.ref tt), (.ref a)] ∧ Z.Warmed39 U.vm ∧ U.heap = h0) (fun _ _ _ _ _ => True) (fun _ U o U' => ∃ v L, o = .returned v ∧ Q2n1 Z tt a ks cw ec0 h0 n0 v U'.heap L ∧ FrameEnd U o U' L ({ frames := 3, cells := 1, slots := 1, locals := 52 } : Room).cells ({ frames := 3, cells := 1, slots := 1, locals := 52 } : Room).slots) := by
  refine MetFree.of_bodySF (plainFor_of_name pn_java_lang_String) hisR ?_
  intro p e s m args below meth c s₁ Bd hml0 hP hK
  obtain ⟨rfl, hZ, hh⟩ := hP
  have hx := Bd.exec
  have hby := Bd.bytes
  have hml : c.maxLocals = 2 := hml0
  have hown : s.vm.findClass "java/lang/String" = some m.cls := findClass_of_methodNamed Bd.named
  have hnm := (name_of_methodNamed Bd.named Bd.method).1
  have X0 : Stand p l e ({ frames := 3, cells := 1, slots := 1, locals := 52 } : Room) s m #[(.ref tt), (.ref a)] below meth c s₁ [] 0 0 := Stand.of_body Bd
  have e0 : s₁.heap = h0 := by rw [← hh, Bd.state]; rfl
  have N0 := Fr.nil n0
  have K0 : Keep h0 h0 [tt] := Keep.refl _ _
  have G : Gets p e below (s₁.setTop (entryFrame m #[(.ref tt), (.ref a)] 2)) (s₁.setTop (mkF m 0 #[.val (.ref tt), .val (.ref a)] [])) := fun t k => castTop (ef_2n1 m tt a) k
  replace G := own_aloadN (q := 1) G X0.here hx (hb hby d2_0) rfl rfl rfl
  replace G := own_aloadN (q := 2) G X0.here hx (hb hby d2_1) rfl rfl rfl
  replace G := own_iconst (q := 3) G X0.here hx (hb hby d2_2) (v := (0 : Int32)) (by decide) rfl
  replace G := own_aloadN (q := 4) G X0.here hx (hb hby d2_3) rfl rfl rfl
  obtain ⟨c1, Ar1, -, S1, N1', -, -⟩ := id P4
  replace G : Gets p e below _ (s₁.setTop (mkF m 5 #[.val (.ref tt), .val (.ref a)] [(.int (1 : Int32)), (.int (0 : Int32)), (.ref a), (.ref tt)])) := fun t k => G t (X0.arraylength hx (by rw [e0]; exact Ar1.1) (State.isArrayOf_alike hZ.alike Ar1.2.1) (g := (mkF m 4 #[.val (.ref tt), .val (.ref a)] [(.ref a), (.int (0 : Int32)), (.ref a), (.ref tt)])) rfl rfl (hb hby d2_4) t (by rw [len_of S1 N1']; exact k))
  replace G := own_aconst_null (q := 6) G X0.here hx (hb hby d2_5) rfl
  obtain ⟨_, _, ⟨T2, L2, kk2, nn2⟩, -, X2, ⟨Lc2, hQ2, l2, y2, z2⟩, st2⟩ := X0.specialBack hx (y := (⟨"java/lang/String", "<init>", "([CIILjava/lang/Void;)V"⟩ : MethodName)) rfl hown (mvT hZ (hw _ (List.mem_of_getElem? (i := 11) rfl))) (mvT hZ (hw _ (List.mem_of_getElem? (i := 12) rfl))) (mvT hZ (hw _ (List.mem_of_getElem? (i := 14) rfl))) (by decide) (backOf (W := 0) (rm3n1 l Z a0 hw [] tt a ks cw ec0 h0 n0 Z0 P0 P1 P2 P3 P4 P5 hcw he0) hZ (hw _ (List.mem_of_getElem? (i := 14) rfl)) (hw _ (List.mem_of_getElem? (i := 6) rfl)) (by decide) (by decide)) (g := (mkF m 6 #[.val (.ref tt), .val (.ref a)] [.null, (.int (1 : Int32)), (.int (0 : Int32)), (.ref a), (.ref tt)])) rfl (by rw [hml]; rfl) (Steps.refl _) (a := tt) (argsL := [(.ref a), (.int (0 : Int32)), (.int (1 : Int32)), .null]) (rest := []) (lenOf pd_0 rfl) rfl (by show 2 * 0 + _ ≤ _; exact Nat.le_of_eq rfl) (hb hby d2_6) (fun _ _ => ⟨rfl, e0, (by decide : 0 + 1 ≤ _), (by decide : 0 + 1 ≤ _)⟩)
  dsimp only [Pt.U, Pt.locs, Pt.cells, Pt.slots] at X2 l2 y2 z2 st2 hQ2
  subst l2 y2 z2
  obtain ⟨b_2, kb_2, rfl, N2q, K2q, B2_0, B2_1, B2_2, B2_3⟩ := hQ2
  have ne3 : tt ≠ b_2 := Nat.ne_of_lt (Nat.lt_of_lt_of_le P0.lt B2_2)
  have ne4 : a ≠ b_2 := Nat.ne_of_lt (Nat.lt_of_lt_of_le P4.lt B2_2)
  have ge_b_2 : n0 ≤ b_2 := Nat.le_trans Z0 B2_2
  have sz_b_2 : h0.size ≤ b_2 := Nat.le_trans K0.1 B2_2
  have Z2 : n0 ≤ T2.heap.size := Nat.le_trans Z0 K2q.1
  have K2 : Keep h0 T2.heap [tt] := K0.trans K2q (allS (Or.inl (List.mem_of_getElem? (i := 0) rfl)) all0)
  have N2 := Fr.app N0 N2q
  replace G : Gets p e below _ (T2.setTop (mkF m 9 #[.val (.ref tt), .val (.ref a)] [])) := fun t k => G t (st2.trans k)
  obtain ⟨fs, hr, hrun, hended, hW, hsame⟩ := X2.leave (v := none) (fun _ => rfl)
  refine ⟨_, _, G _ (X2.returnOut hx Bd.returns (hb hby d2_9) hr), hrun, hended, _, _, rfl, ?_, ⟨_, rfl⟩, hW, hsame.mono (by decide) (by decide)⟩
  show Q2n1 Z tt a ks cw ec0 h0 n0 _ T2.heap _
  exact ⟨b_2, kb_2, rfl, N2, K2, B2_0, B2_1, sz_b_2, B2_3⟩
theorem ef_6n2 (m : MethodId) (x0 : Addr) (x2 : Addr) : entryFrame m #[(.ref x0), (.int (0 : Int32)), (.ref x2), (.int (0 : Int32)), (.int (2 : Int32))] 7 = mkF m 0 #[.val (.ref x0), .val (.int (0 : Int32)), .val (.ref x2), .val (.int (0 : Int32)), .val (.int (2 : Int32)), .unset, .unset] [] := by first | (simp [entryFrame, mkF, argsToLocals, Value.category]; done) | rfl
def Q6n2 (Z : State) (a : Addr) (d : Addr) (ks : ClassId) (kd : ClassId) (ec0 : Int32) (ec1 : Int32) (h0 : Heap) (n0 : Nat) (v : Option Value) (h : Heap) (L : List Loc) : Prop := v = some (.int (2 : Int32)) ∧ Fr n0 L ∧ Keep h0 h [d] ∧ (Arv Z h d kd .byte (2 : Int32) [(.int (nar .byte (ec0.toInt8.toInt32))), (.int (nar .byte (ec1.toInt8.toInt32)))] (.int (0 : Int32)))
set_option maxRecDepth 65536 in
set_option maxHeartbeats 40000000 in
theorem rm6n2 (l : Launch) (Z : State) (a0 : Array Value) (hw : ∀ d ∈ tables_1, d.before a0 Z = true) (ws : List Jvm.Cond) (a : Addr) (d : Addr) (ks : ClassId) (kd : ClassId) (ec0 : Int32) (ec1 : Int32) (h0 : Heap) (n0 : Nat) (Z0 : n0 ≤ h0.size) (P0 : Arv Z h0 a ks .char (2 : Int32) [(.int ec0), (.int ec1)] (.int (0 : Int32))) (P1 : Arv Z h0 d kd .byte (2 : Int32) [(.int (0 : Int32)), (.int (0 : Int32))] (.int (0 : Int32))) (P2 : n0 ≤ d) (P3 : a ≠ d) (he0 : ¬ ((255 : Int32) < ec0)) (he1 : ¬ ((255 : Int32) < ec1)) :
    MetFree l (⟨"java/lang/StringUTF16", "compress", "([CI[BII)I"⟩ : MethodName) (head1 (Jvm.Cond.code (⟨"java/lang/StringUTF16", "compress", "([CI[BII)I"⟩ : MethodName) jdk_52_method_21_code 7 (some .int) :: ws) ({ frames := 0, cells := 0, slots := 0, locals := 0 } : Room)) (fun argz U => argz = #[(.ref a), (.int (0 : Int32)), (.ref d), (.int (0 : Int32)), (.int (2 : Int32))] ∧ Z.Warmed39 U.vm ∧ U.heap = h0) (fun _ _ _ _ _ => True) (fun _ U o U' => ∃ v L, o = .returned v ∧ Q6n2 Z a d ks kd ec0 ec1 h0 n0 v U'.heap L ∧ FrameEnd U o U' L ({ frames := 0, cells := 0, slots := 0, locals := 0 } : Room).cells ({ frames := 0, cells := 0, slots := 0, locals := 0 } : Room).slots) := by
  refine MetFree.of_bodySF (plainFor_of_name pn_java_lang_StringUTF16) hisR ?_
  intro p e s m args below meth c s₁ Bd hml0 hP hK
  obtain ⟨rfl, hZ, hh⟩ := hP
  have hx := Bd.exec
  have hby := Bd.bytes
  have hml : c.maxLocals = 7 := hml0
  have hown : s.vm.findClass "java/lang/StringUTF16" = some m.cls := findClass_of_methodNamed Bd.named
  have hnm := (name_of_methodNamed Bd.named Bd.method).1
  have X0 : Stand p l e ({ frames := 0, cells := 0, slots := 0, locals := 0 } : Room) s m #[(.ref a), (.int (0 : Int32)), (.ref d), (.int (0 : Int32)), (.int (2 : Int32))] below meth c s₁ [] 0 0 := Stand.of_body Bd
  have e0 : s₁.heap = h0 := by rw [← hh, Bd.state]; rfl
  have N0 := Fr.nil n0
  have K0 : Keep h0 h0 [d] := Keep.refl _ _
  have G : Gets p e below (s₁.setTop (entryFrame m #[(.ref a), (.int (0 : Int32)), (.ref d), (.int (0 : Int32)), (.int (2 : Int32))] 7)) (s₁.setTop (mkF m 0 #[.val (.ref a), .val (.int (0 : Int32)), .val (.ref d), .val (.int (0 : Int32)), .val (.int (2 : Int32)), .unset, .unset] [])) := fun t k => castTop (ef_6n2 m a d) k
  replace G := own_iconst (q := 1) G X0.here hx (hb hby d6_0) (v := (0 : Int32)) (by decide) rfl
  replace G := own_istore (q := 3) (l' := #[.val (.ref a), .val (.int (0 : Int32)), .val (.ref d), .val (.int (0 : Int32)), .val (.int (2 : Int32)), .val (.int (0 : Int32)), .unset]) G X0.here hx (hb hby d6_1) rfl rfl
  replace G := own_iload (q := 5) G X0.here hx (hb hby d6_3) rfl rfl
  replace G := own_iload (q := 7) G X0.here hx (hb hby d6_5) rfl rfl
  have hc7_1 : (0 : Int32) < (2 : Int32) := by decide
  replace G := own_icmpNo (q := 10) G X0.here hx (hb hby d6_7) (tlt hc7_1).2.1 rfl
  replace G := own_aloadN (q := 11) G X0.here hx (hb hby d6_10) rfl rfl rfl
  replace G := own_iloadN (q := 12) G X0.here hx (hb hby d6_11) rfl rfl
  obtain ⟨c2, Ar2, -, S2, -, H2, -⟩ := id P0
  have hin2 : ¬ ((0 : Int32) < 0 ∨ c2.slots.size ≤ ((0 : Int32)).toNatClampNeg) := inb_of S2 ⟨by decide, by decide⟩
  replace G : Gets p e below _ (s₁.setTop (mkF m 13 #[.val (.ref a), .val (.int (0 : Int32)), .val (.ref d), .val (.int (0 : Int32)), .val (.int (2 : Int32)), .val (.int (0 : Int32)), .unset] [(.int ec0)])) := fun t k => G t (X0.caload hx (j := (0 : Int32)) (v := (.int ec0)) (by rw [e0]; exact Ar2.1) (State.isArrayOf_alike hZ.alike Ar2.2.1) Ar2.2.2 hin2 (Has.at H2 hin2 rfl) (g := (mkF m 12 #[.val (.ref a), .val (.int (0 : Int32)), .val (.ref d), .val (.int (0 : Int32)), .val (.int (2 : Int32)), .val (.int (0 : Int32)), .unset] [(.int (0 : Int32)), (.ref a)])) rfl rfl (hb hby d6_12) t k)
  replace G := own_istore (q := 15) (l' := #[.val (.ref a), .val (.int (0 : Int32)), .val (.ref d), .val (.int (0 : Int32)), .val (.int (2 : Int32)), .val (.int (0 : Int32)), .val (.int ec0)]) G X0.here hx (hb hby d6_13) rfl rfl
  replace G := own_iload (q := 17) G X0.here hx (hb hby d6_15) rfl rfl
  replace G := own_sipush (q := 20) G X0.here hx (hb hby d6_17) (v := (255 : Int32)) (by decide) rfl
  have hc20_3 : ¬ ((255 : Int32) < ec0) := he0
  replace G := own_icmpYes (q := 26) G X0.here hx (hb hby d6_20) (flt hc20_3).2.2.2 (by decide) (by decide)
  replace G := own_aloadN (q := 27) G X0.here hx (hb hby d6_26) rfl rfl rfl
  replace G := own_iloadN (q := 28) G X0.here hx (hb hby d6_27) rfl rfl
  replace G := own_iload (q := 30) G X0.here hx (hb hby d6_28) rfl rfl
  replace G := own_i2b (q := 31) G X0.here hx (hb hby d6_30) rfl rfl
  obtain ⟨c4, Ar4, q4, S4, N4', H4, G4'⟩ := id P1
  have hin4 : ¬ ((0 : Int32) < 0 ∨ c4.slots.size ≤ ((0 : Int32)).toNatClampNeg) := inb_of S4 ⟨by decide, by decide⟩
  obtain ⟨T4, h4, X4, e4, W4, st4⟩ := stB X0 hx hZ e0 Ar4 (j := (0 : Int32)) hin4 (g := (mkF m 31 #[.val (.ref a), .val (.int (0 : Int32)), .val (.ref d), .val (.int (0 : Int32)), .val (.int (2 : Int32)), .val (.int (0 : Int32)), .val (.int ec0)] [(.int (ec0.toInt8.toInt32)), (.int (0 : Int32)), (.ref d)])) rfl rfl (hb hby d6_31)
  have N4 := Fr.snoc X4 N0 P2
  have Z4 : n0 ≤ h4.size := Nat.le_trans Z0 (Keep.of_wr W4).1
  have K4 : Keep h0 h4 [d] := K0.wr W4 (Or.inl (List.mem_of_getElem? (i := 0) rfl))
  have V4 : Arv Z h4 d kd .byte (2 : Int32) [(.int (nar .byte (ec0.toInt8.toInt32))), (.int (0 : Int32))] (.int (0 : Int32)) := Arv.set Ar4 q4 S4 N4' H4 G4' (fits_nar_byte _) W4 0 rfl (Nat.le_of_ble_eq_true rfl)
  replace G : Gets p e below _ (T4.setTop (mkF m 32 #[.val (.ref a), .val (.int (0 : Int32)), .val (.ref d), .val (.int (0 : Int32)), .val (.int (2 : Int32)), .val (.int (0 : Int32)), .val (.int ec0)] [])) := fun t k => G t (st4 t k)
  replace G := own_iinc (q := 35) (l' := #[.val (.ref a), .val (.int (1 : Int32)), .val (.ref d), .val (.int (0 : Int32)), .val (.int (2 : Int32)), .val (.int (0 : Int32)), .val (.int ec0)]) (w := (1 : Int32)) G X4.here hx (hb hby d6_32) (by decide) rfl (by decide : ((0 : Int32) + (1 : Int32)) = (1 : Int32)) rfl rfl
  replace G := own_iinc (q := 38) (l' := #[.val (.ref a), .val (.int (1 : Int32)), .val (.ref d), .val (.int (1 : Int32)), .val (.int (2 : Int32)), .val (.int (0 : Int32)), .val (.int ec0)]) (w := (1 : Int32)) G X4.here hx (hb hby d6_35) (by decide) rfl (by decide : ((0 : Int32) + (1 : Int32)) = (1 : Int32)) rfl rfl
  replace G := own_iinc (q := 41) (l' := #[.val (.ref a), .val (.int (1 : Int32)), .val (.ref d), .val (.int (1 : Int32)), .val (.int (2 : Int32)), .val (.int (1 : Int32)), .val (.int ec0)]) (w := (1 : Int32)) G X4.here hx (hb hby d6_38) (by decide) rfl (by decide : ((0 : Int32) + (1 : Int32)) = (1 : Int32)) rfl rfl
  replace G := own_goto (q := 3) G X4.here hx (hb hby d6_41) (by decide) (by decide)
  replace G := own_iload (q := 5) G X4.here hx (hb hby d6_3) rfl rfl
  replace G := own_iload (q := 7) G X4.here hx (hb hby d6_5) rfl rfl
  have hc7_5 : (1 : Int32) < (2 : Int32) := by decide
  replace G := own_icmpNo (q := 10) G X4.here hx (hb hby d6_7) (tlt hc7_5).2.1 rfl
  replace G := own_aloadN (q := 11) G X4.here hx (hb hby d6_10) rfl rfl rfl
  replace G := own_iloadN (q := 12) G X4.here hx (hb hby d6_11) rfl rfl
  have F6 : Arv Z h4 a ks .char (2 : Int32) [(.int ec0), (.int ec1)] (.int (0 : Int32)) := (P0.other W4 P3)
  obtain ⟨c7, Ar7, -, S7, -, H7, -⟩ := id F6
  have hin7 : ¬ ((1 : Int32) < 0 ∨ c7.slots.size ≤ ((1 : Int32)).toNatClampNeg) := inb_of S7 ⟨by decide, by decide⟩
  replace G : Gets p e below _ (T4.setTop (mkF m 13 #[.val (.ref a), .val (.int (1 : Int32)), .val (.ref d), .val (.int (1 : Int32)), .val (.int (2 : Int32)), .val (.int (1 : Int32)), .val (.int ec0)] [(.int ec1)])) := fun t k => G t (X4.caload hx (j := (1 : Int32)) (v := (.int ec1)) (by rw [e4]; exact Ar7.1) (State.isArrayOf_alike hZ.alike Ar7.2.1) Ar7.2.2 hin7 (Has.at H7 hin7 rfl) (g := (mkF m 12 #[.val (.ref a), .val (.int (1 : Int32)), .val (.ref d), .val (.int (1 : Int32)), .val (.int (2 : Int32)), .val (.int (1 : Int32)), .val (.int ec0)] [(.int (1 : Int32)), (.ref a)])) rfl rfl (hb hby d6_12) t k)
  replace G := own_istore (q := 15) (l' := #[.val (.ref a), .val (.int (1 : Int32)), .val (.ref d), .val (.int (1 : Int32)), .val (.int (2 : Int32)), .val (.int (1 : Int32)), .val (.int ec1)]) G X4.here hx (hb hby d6_13) rfl rfl
  replace G := own_iload (q := 17) G X4.here hx (hb hby d6_15) rfl rfl
  replace G := own_sipush (q := 20) G X4.here hx (hb hby d6_17) (v := (255 : Int32)) (by decide) rfl
  have hc20_8 : ¬ ((255 : Int32) < ec1) := he1
  replace G := own_icmpYes (q := 26) G X4.here hx (hb hby d6_20) (flt hc20_8).2.2.2 (by decide) (by decide)
  replace G := own_aloadN (q := 27) G X4.here hx (hb hby d6_26) rfl rfl rfl
  replace G := own_iloadN (q := 28) G X4.here hx (hb hby d6_27) rfl rfl
  replace G := own_iload (q := 30) G X4.here hx (hb hby d6_28) rfl rfl
  replace G := own_i2b (q := 31) G X4.here hx (hb hby d6_30) rfl rfl
  obtain ⟨c9, Ar9, q9, S9, N9', H9, G9'⟩ := id V4
  have hin9 : ¬ ((1 : Int32) < 0 ∨ c9.slots.size ≤ ((1 : Int32)).toNatClampNeg) := inb_of S9 ⟨by decide, by decide⟩
  obtain ⟨T9, h9, X9, e9, W9, st9⟩ := stB X4 hx hZ e4 Ar9 (j := (1 : Int32)) hin9 (g := (mkF m 31 #[.val (.ref a), .val (.int (1 : Int32)), .val (.ref d), .val (.int (1 : Int32)), .val (.int (2 : Int32)), .val (.int (1 : Int32)), .val (.int ec1)] [(.int (ec1.toInt8.toInt32)), (.int (1 : Int32)), (.ref d)])) rfl rfl (hb hby d6_31)
  have N9 := Fr.snoc X9 N4 P2
  have Z9 : n0 ≤ h9.size := Nat.le_trans Z4 (Keep.of_wr W9).1
  have K9 : Keep h0 h9 [d] := K4.wr W9 (Or.inl (List.mem_of_getElem? (i := 0) rfl))
  have V9 : Arv Z h9 d kd .byte (2 : Int32) [(.int (nar .byte (ec0.toInt8.toInt32))), (.int (nar .byte (ec1.toInt8.toInt32)))] (.int (0 : Int32)) := Arv.set Ar9 q9 S9 N9' H9 G9' (fits_nar_byte _) W9 1 rfl (Nat.le_of_ble_eq_true rfl)
  replace G : Gets p e below _ (T9.setTop (mkF m 32 #[.val (.ref a), .val (.int (1 : Int32)), .val (.ref d), .val (.int (1 : Int32)), .val (.int (2 : Int32)), .val (.int (1 : Int32)), .val (.int ec1)] [])) := fun t k => G t (st9 t k)
  replace G := own_iinc (q := 35) (l' := #[.val (.ref a), .val (.int (2 : Int32)), .val (.ref d), .val (.int (1 : Int32)), .val (.int (2 : Int32)), .val (.int (1 : Int32)), .val (.int ec1)]) (w := (1 : Int32)) G X9.here hx (hb hby d6_32) (by decide) rfl (by decide : ((1 : Int32) + (1 : Int32)) = (2 : Int32)) rfl rfl
  replace G := own_iinc (q := 38) (l' := #[.val (.ref a), .val (.int (2 : Int32)), .val (.ref d), .val (.int (2 : Int32)), .val (.int (2 : Int32)), .val (.int (1 : Int32)), .val (.int ec1)]) (w := (1 : Int32)) G X9.here hx (hb hby d6_35) (by decide) rfl (by decide : ((1 : Int32) + (1 : Int32)) = (2 : Int32)) rfl rfl
  replace G := own_iinc (q := 41) (l' := #[.val (.ref a), .val (.int (2 : Int32)), .val (.ref d), .val (.int (2 : Int32)), .val (.int (2 : Int32)), .val (.int (2 : Int32)), .val (.int ec1)]) (w := (1 : Int32)) G X9.here hx (hb hby d6_38) (by decide) rfl (by decide : ((1 : Int32) + (1 : Int32)) = (2 : Int32)) rfl rfl
  replace G := own_goto (q := 3) G X9.here hx (hb hby d6_41) (by decide) (by decide)
  replace G := own_iload (q := 5) G X9.here hx (hb hby d6_3) rfl rfl
  replace G := own_iload (q := 7) G X9.here hx (hb hby d6_5) rfl rfl
  have hc7_10 : ¬ ((2 : Int32) < (2 : Int32)) := by decide
  replace G := own_icmpYes (q := 44) G X9.here hx (hb hby d6_7) (flt hc7_10).2.1 (by decide) (by decide)
  replace G := own_iload (q := 46) G X9.here hx (hb hby d6_44) rfl rfl
  obtain ⟨fs, hr, hrun, hended, hW, hsame⟩ := X9.leave (v := some (.int (2 : Int32))) (fun h => by rw [Bd.returns] at h; cases h)
  refine ⟨_, _, G _ (retOut X9 hx Bd.returns rfl (Or.inl ⟨rfl, Or.inl rfl, _, rfl⟩) (hb hby d6_46) hr), hrun, hended, _, _, rfl, ?_, ⟨_, rfl⟩, hW, hsame.mono (by decide) (by decide)⟩
  show Q6n2 Z a d ks kd ec0 ec1 h0 n0 _ T9.heap _
  rw [e9]
  exact ⟨rfl, N9, K9, V9⟩
theorem ef_5n2 (m : MethodId) (x0 : Addr) : entryFrame m #[(.ref x0), (.int (0 : Int32)), (.int (2 : Int32))] 6 = mkF m 0 #[.val (.ref x0), .val (.int (0 : Int32)), .val (.int (2 : Int32)), .unset, .unset, .unset] [] := by first | (simp [entryFrame, mkF, argsToLocals, Value.category]; done) | rfl
def Q5n2 (Z : State) (a : Addr) (ks : ClassId) (ec0 : Int32) (ec1 : Int32) (h0 : Heap) (n0 : Nat) (v : Option Value) (h : Heap) (L : List Loc) : Prop := ∃ (b : Addr) (kb : ClassId), v = some (.ref b) ∧ Fr n0 L ∧ Keep h0 h [] ∧ h0.size ≤ b ∧ (Arv Z h b kb .byte (2 : Int32) [(.int (nar .byte (ec0.toInt8.toInt32))), (.int (nar .byte (ec1.toInt8.toInt32)))] (.int (0 : Int32)))
set_option maxRecDepth 65536 in
set_option maxHeartbeats 40000000 in
theorem rm5n2 (l : Launch) (Z : State) (a0 : Array Value) (hw : ∀ d ∈ tables_1, d.before a0 Z = true) (ws : List Jvm.Cond) (a : Addr) (ks : ClassId) (ec0 : Int32) (ec1 : Int32) (h0 : Heap) (n0 : Nat) (Z0 : n0 ≤ h0.size) (P0 : Arv Z h0 a ks .char (2 : Int32) [(.int ec0), (.int ec1)] (.int (0 : Int32))) (he0 : ¬ ((255 : Int32) < ec0)) (he1 : ¬ ((255 : Int32) < ec1)) :
    MetFree l (⟨"java/lang/StringUTF16", "compress", "([CII)[B"⟩ : MethodName) (head1 (Jvm.Cond.code (⟨"java/lang/StringUTF16", "compress", "([CII)[B"⟩ : MethodName) jdk_52_method_16_code 6 (some (.array .byte)) :: ws) ({ frames := 1, cells := 1, slots := 2, locals := 18 } : Room)) (fun argz U => argz = #[(.ref a), (.int (0 : Int32)), (.int (2 : Int32))] ∧ Z.Warmed39 U.vm ∧ U.heap = h0) (fun _ _ _ _ _ => True) (fun _ U o U' => ∃ v L, o = .returned v ∧ Q5n2 Z a ks ec0 ec1 h0 n0 v U'.heap L ∧ FrameEnd U o U' L ({ frames := 1, cells := 1, slots := 2, locals := 18 } : Room).cells ({ frames := 1, cells := 1, slots := 2, locals := 18 } : Room).slots) := by
  refine MetFree.of_bodySF (plainFor_of_name pn_java_lang_StringUTF16) hisR ?_
  intro p e s m args below meth c s₁ Bd hml0 hP hK
  obtain ⟨rfl, hZ, hh⟩ := hP
  have hx := Bd.exec
  have hby := Bd.bytes
  have hml : c.maxLocals = 6 := hml0
  have hown : s.vm.findClass "java/lang/StringUTF16" = some m.cls := findClass_of_methodNamed Bd.named
  have hnm := (name_of_methodNamed Bd.named Bd.method).1
  have X0 : Stand p l e ({ frames := 1, cells := 1, slots := 2, locals := 18 } : Room) s m #[(.ref a), (.int (0 : Int32)), (.int (2 : Int32))] below meth c s₁ [] 0 0 := Stand.of_body Bd
  have e0 : s₁.heap = h0 := by rw [← hh, Bd.state]; rfl
  have N0 := Fr.nil n0
  have K0 : Keep h0 h0 [] := Keep.refl _ _
  have G : Gets p e below (s₁.setTop (entryFrame m #[(.ref a), (.int (0 : Int32)), (.int (2 : Int32))] 6)) (s₁.setTop (mkF m 0 #[.val (.ref a), .val (.int (0 : Int32)), .val (.int (2 : Int32)), .unset, .unset, .unset] [])) := fun t k => castTop (ef_5n2 m a) k
  replace G := own_iloadN (q := 1) G X0.here hx (hb hby d5_0) rfl rfl
  obtain ⟨T1, h1, k1, X1, e1, E1, A1, st1⟩ := newP X0 hx hZ (hw _ (List.mem_of_getElem? (i := 23) rfl)) e0 (g := (mkF m 1 #[.val (.ref a), .val (.int (0 : Int32)), .val (.int (2 : Int32)), .unset, .unset, .unset] [(.int (2 : Int32))])) rfl (hb hby d5_1) rfl (by decide) (cap := 2) (by decide) (by decide) (by decide) (by decide)
  obtain ⟨b1, g1⟩ : ∃ z, z = h0.size := ⟨_, rfl⟩
  rw [← g1] at A1 st1
  have ne2 : a ≠ b1 := Nat.ne_of_lt (Nat.lt_of_lt_of_le P0.lt (Nat.le_of_eq g1.symm))
  have ge_b1 : n0 ≤ b1 := Nat.le_trans Z0 (Nat.le_of_eq g1.symm)
  have sz_b1 : h0.size ≤ b1 := Nat.le_trans K0.1 (Nat.le_of_eq g1.symm)
  have Z1 : n0 ≤ h1.size := Nat.le_trans Z0 E1.1
  have K1 : Keep h0 h1 [] := K0.ext E1
  have V1 : Arv Z h1 b1 k1 .byte (2 : Int32) [(.int (0 : Int32)), (.int (0 : Int32))] (.int (0 : Int32)) := (Arv.new A1 (by decide)).pad (pad_rep [] (.int (0 : Int32)) 2)
  replace G : Gets p e below _ (T1.setTop (mkF m 3 #[.val (.ref a), .val (.int (0 : Int32)), .val (.int (2 : Int32)), .unset, .unset, .unset] [(.ref b1)])) := fun t k => G t (st1 t k)
  replace G := own_astoreN (q := 4) (l' := #[.val (.ref a), .val (.int (0 : Int32)), .val (.int (2 : Int32)), .val (.ref b1), .unset, .unset]) G X1.here hx (hb hby d5_3) rfl rfl rfl
  replace G := own_aloadN (q := 5) G X1.here hx (hb hby d5_4) rfl rfl rfl
  replace G := own_iloadN (q := 6) G X1.here hx (hb hby d5_5) rfl rfl
  replace G := own_aloadN (q := 7) G X1.here hx (hb hby d5_6) rfl rfl rfl
  replace G := own_iconst (q := 8) G X1.here hx (hb hby d5_7) (v := (0 : Int32)) (by decide) rfl
  replace G := own_iloadN (q := 9) G X1.here hx (hb hby d5_8) rfl rfl
  have F4 : Arv Z h1 a ks .char (2 : Int32) [(.int ec0), (.int ec1)] (.int (0 : Int32)) := (P0.ext E1)
  obtain ⟨_, _, ⟨T3, L3, kk3, nn3⟩, -, X3, ⟨Lc3, hQ3, l3, y3, z3⟩, st3⟩ := Jvm.LawKit.callS X1 hx (y := (⟨"java/lang/StringUTF16", "compress", "([CI[BII)I"⟩ : MethodName)) hown (mvT hZ (hw _ (List.mem_of_getElem? (i := 24) rfl))) (mvT hZ (hw _ (List.mem_of_getElem? (i := 25) rfl))) (mvT hZ (hw _ (List.mem_of_getElem? (i := 21) rfl))) (mvT hZ (hw _ (List.mem_of_getElem? (i := 26) rfl))) (by decide) (backOf (W := 0) (rm6n2 l Z a0 hw [] a b1 ks k1 ec0 ec1 h1 n0 Z1 F4 V1 ge_b1 ne2 he0 he1) hZ (hw _ (List.mem_of_getElem? (i := 26) rfl)) (hw _ (List.mem_of_getElem? (i := 21) rfl)) (by decide) (by decide)) (g := (mkF m 9 #[.val (.ref a), .val (.int (0 : Int32)), .val (.int (2 : Int32)), .val (.ref b1), .unset, .unset] [(.int (2 : Int32)), (.int (0 : Int32)), (.ref b1), (.int (0 : Int32)), (.ref a)])) rfl (by rw [hml]; rfl) (argsL := [(.ref a), (.int (0 : Int32)), (.ref b1), (.int (0 : Int32)), (.int (2 : Int32))]) (rest := []) (lenOf pd_1 rfl) rfl (by show 2 * 0 + _ ≤ _; exact Nat.le_of_eq rfl) (hb hby d5_9) (fun _ _ => ⟨rfl, e1, (by decide : 1 + 0 ≤ _), (by decide : 2 + 0 ≤ _)⟩)
  dsimp only [Pt.U, Pt.locs, Pt.cells, Pt.slots] at X3 l3 y3 z3 st3 hQ3
  subst l3 y3 z3
  obtain ⟨rfl, N3q, K3q, B3_0⟩ := hQ3
  have Z3 : n0 ≤ T3.heap.size := Nat.le_trans Z1 K3q.1
  have K3 : Keep h0 T3.heap [] := K1.trans K3q (allS (Or.inr sz_b1) all0)
  have N3 := Fr.app N0 N3q
  replace G : Gets p e below _ (T3.setTop (mkF m 12 #[.val (.ref a), .val (.int (0 : Int32)), .val (.int (2 : Int32)), .val (.ref b1), .unset, .unset] [(.int (2 : Int32))])) := fun t k => G t (st3 t k)
  replace G := own_istore (q := 14) (l' := #[.val (.ref a), .val (.int (0 : Int32)), .val (.int (2 : Int32)), .val (.ref b1), .val (.int (2 : Int32)), .unset]) G X3.here hx (hb hby d5_12) rfl rfl
  replace G := own_iload (q := 16) G X3.here hx (hb hby d5_14) rfl rfl
  replace G := own_iloadN (q := 17) G X3.here hx (hb hby d5_16) rfl rfl
  have hc17_5 : (2 : Int32) = (2 : Int32) := by decide
  replace G := own_icmpYes (q := 57) G X3.here hx (hb hby d5_17) (teq hc17_5).1 (by decide) (by decide)
  replace G := own_aloadN (q := 58) G X3.here hx (hb hby d5_57) rfl rfl rfl
  obtain ⟨fs, hr, hrun, hended, hW, hsame⟩ := X3.leave (v := some (.ref b1)) (fun h => by rw [Bd.returns] at h; cases h)
  refine ⟨_, _, G _ (retOut X3 hx Bd.returns rfl (Or.inr (Or.inr (Or.inr (Or.inr ⟨rfl, rfl, rfl⟩)))) (hb hby d5_58) hr), hrun, hended, _, _, rfl, ?_, ⟨_, rfl⟩, hW, hsame.mono (by decide) (by decide)⟩
  show Q5n2 Z a ks ec0 ec1 h0 n0 _ T3.heap _
  exact ⟨b1, k1, rfl, N3, K3, sz_b1, B3_0⟩
theorem ef_7n2 (m : MethodId) (x0 : Addr) : entryFrame m #[(.ref x0), (.int (2 : Int32))] 2 = mkF m 0 #[.val (.ref x0), .val (.int (2 : Int32))] [] := by first | (simp [entryFrame, mkF, argsToLocals, Value.category]; done) | rfl
def Q7n2 (Z : State) (d : Addr) (kd : ClassId) (vs : List Value) (h0 : Heap) (n0 : Nat) (v : Option Value) (h : Heap) (L : List Loc) : Prop := v = some (.int (0 : Int32)) ∧ Fr n0 L ∧ h = h0
set_option maxRecDepth 65536 in
set_option maxHeartbeats 40000000 in
theorem rm7n2 (l : Launch) (Z : State) (a0 : Array Value) (hw : ∀ d ∈ tables_1, d.before a0 Z = true) (ws : List Jvm.Cond) (d : Addr) (kd : ClassId) (vs : List Value) (h0 : Heap) (n0 : Nat) (Z0 : n0 ≤ h0.size) (P0 : Arv Z h0 d kd .byte (2 : Int32) vs (.int (0 : Int32))) :
    MetFree l (⟨"java/lang/StringUTF16", "coderFromArrayLen", "([BI)B"⟩ : MethodName) (head1 (Jvm.Cond.code (⟨"java/lang/StringUTF16", "coderFromArrayLen", "([BI)B"⟩ : MethodName) jdk_52_method_15_code 2 (some .byte) :: ws) ({ frames := 0, cells := 0, slots := 0, locals := 0 } : Room)) (fun argz U => argz = #[(.ref d), (.int (2 : Int32))] ∧ Z.Warmed39 U.vm ∧ U.heap = h0) (fun _ _ _ _ _ => True) (fun _ U o U' => ∃ v L, o = .returned v ∧ Q7n2 Z d kd vs h0 n0 v U'.heap L ∧ FrameEnd U o U' L ({ frames := 0, cells := 0, slots := 0, locals := 0 } : Room).cells ({ frames := 0, cells := 0, slots := 0, locals := 0 } : Room).slots) := by
  refine MetFree.of_bodySF (plainFor_of_name pn_java_lang_StringUTF16) hisR ?_
  intro p e s m args below meth c s₁ Bd hml0 hP hK
  obtain ⟨rfl, hZ, hh⟩ := hP
  have hx := Bd.exec
  have hby := Bd.bytes
  have hml : c.maxLocals = 2 := hml0
  have hown : s.vm.findClass "java/lang/StringUTF16" = some m.cls := findClass_of_methodNamed Bd.named
  have hnm := (name_of_methodNamed Bd.named Bd.method).1
  have X0 : Stand p l e ({ frames := 0, cells := 0, slots := 0, locals := 0 } : Room) s m #[(.ref d), (.int (2 : Int32))] below meth c s₁ [] 0 0 := Stand.of_body Bd
  have e0 : s₁.heap = h0 := by rw [← hh, Bd.state]; rfl
  have N0 := Fr.nil n0
  have G : Gets p e below (s₁.setTop (entryFrame m #[(.ref d), (.int (2 : Int32))] 2)) (s₁.setTop (mkF m 0 #[.val (.ref d), .val (.int (2 : Int32))] [])) := fun t k => castTop (ef_7n2 m d) k
  replace G := own_iloadN (q := 1) G X0.here hx (hb hby d7_0) rfl rfl
  replace G := own_aloadN (q := 2) G X0.here hx (hb hby d7_1) rfl rfl rfl
  obtain ⟨c1, Ar1, -, S1, N1', -, -⟩ := id P0
  replace G : Gets p e below _ (s₁.setTop (mkF m 3 #[.val (.ref d), .val (.int (2 : Int32))] [(.int (2 : Int32)), (.int (2 : Int32))])) := fun t k => G t (X0.arraylength hx (by rw [e0]; exact Ar1.1) (State.isArrayOf_alike hZ.alike Ar1.2.1) (g := (mkF m 2 #[.val (.ref d), .val (.int (2 : Int32))] [(.ref d), (.int (2 : Int32))])) rfl rfl (hb hby d7_2) t (by rw [len_of S1 N1']; exact k))
  replace G := own_isub (q := 4) G X0.here hx (hb hby d7_3) (by decide : ((2 : Int32) - (2 : Int32)) = (0 : Int32)) rfl
  replace G := own_bipush (q := 6) G X0.here hx (hb hby d7_4) (v := (31 : Int32)) (by decide) rfl
  replace G := own_iushr (q := 7) G X0.here hx (hb hby d7_6) (by decide : (((0 : Int32).toUInt32 >>> ((31 : Int32) &&& 31).toUInt32).toInt32) = (0 : Int32)) rfl
  replace G := own_i2b (q := 8) G X0.here hx (hb hby d7_7) (by decide : ((0 : Int32).toInt8.toInt32) = (0 : Int32)) rfl
  obtain ⟨fs, hr, hrun, hended, hW, hsame⟩ := X0.leave (v := some (.int (0 : Int32))) (fun h => by rw [Bd.returns] at h; cases h)
  refine ⟨_, _, G _ (retOut X0 hx Bd.returns rfl (Or.inl ⟨rfl, Or.inr (Or.inr (Or.inl rfl)), _, rfl⟩) (hb hby d7_8) hr), hrun, hended, _, _, rfl, ?_, ⟨_, rfl⟩, hW, hsame.mono (by decide) (by decide)⟩
  show Q7n2 Z d kd vs h0 n0 _ s₁.heap _
  rw [e0]
  exact ⟨rfl, N0, rfl⟩
theorem ef_3n2 (m : MethodId) (x0 : Addr) (x1 : Addr) : entryFrame m #[(.ref x0), (.ref x1), (.int (0 : Int32)), (.int (2 : Int32)), .null] 6 = mkF m 0 #[.val (.ref x0), .val (.ref x1), .val (.int (0 : Int32)), .val (.int (2 : Int32)), .val .null, .unset] [] := by first | (simp [entryFrame, mkF, argsToLocals, Value.category]; done) | rfl
def Q3n2 (Z : State) (tt : Addr) (a : Addr) (ks : ClassId) (cw : Int32) (ec0 : Int32) (ec1 : Int32) (h0 : Heap) (n0 : Nat) (v : Option Value) (h : Heap) (L : List Loc) : Prop := ∃ (b : Addr) (kb : ClassId), v = none ∧ Fr n0 L ∧ Keep h0 h [tt] ∧ (Fld Z h tt "java/lang/String" "value" "[B" (.ref b)) ∧ (Fld Z h tt "java/lang/String" "coder" "B" (.int (0 : Int32))) ∧ h0.size ≤ b ∧ (Arv Z h b kb .byte (2 : Int32) [(.int (nar .byte (ec0.toInt8.toInt32))), (.int (nar .byte (ec1.toInt8.toInt32)))] (.int (0 : Int32)))
set_option maxRecDepth 65536 in
set_option maxHeartbeats 40000000 in
theorem rm3n2 (l : Launch) (Z : State) (a0 : Array Value) (hw : ∀ d ∈ tables_1, d.before a0 Z = true) (ws : List Jvm.Cond) (tt : Addr) (a : Addr) (ks : ClassId) (cw : Int32) (ec0 : Int32) (ec1 : Int32) (h0 : Heap) (n0 : Nat) (Z0 : n0 ≤ h0.size) (P0 : Fld Z h0 tt "java/lang/String" "value" "[B" .null) (P1 : Fld Z h0 tt "java/lang/String" "coder" "B" (.int (0 : Int32))) (P2 : Exa Z h0 tt "java/lang/String") (P3 : n0 ≤ tt) (P4 : Arv Z h0 a ks .char (2 : Int32) [(.int ec0), (.int ec1)] (.int (0 : Int32))) (P5 : Sta Z h0 "java/lang/String" "COMPACT_STRINGS" "Z" (.int cw)) (hcw : ¬ cw = (0 : Int32)) (he0 : ¬ ((255 : Int32) < ec0)) (he1 : ¬ ((255 : Int32) < ec1)) :
    MetFree l (⟨"java/lang/String", "<init>", "([CIILjava/lang/Void;)V"⟩ : MethodName) (head1 (Jvm.Cond.code (⟨"java/lang/String", "<init>", "([CIILjava/lang/Void;)V"⟩ : MethodName) jdk_42_method_149_code 6 none :: ws) ({ frames := 2, cells := 1, slots := 2, locals := 35 } : Room)) (fun argz U => argz = #[(.ref tt), (.ref a), (.int (0 : Int32)), (.int (2 : Int32)), .null] ∧ Z.Warmed39 U.vm ∧ U.heap = h0) (fun _ _ _ _ _ => True) (fun _ U o U' => ∃ v L, o = .returned v ∧ Q3n2 Z tt a ks cw ec0 ec1 h0 n0 v U'.heap L ∧ FrameEnd U o U' L ({ frames := 2, cells := 1, slots := 2, locals := 35 } : Room).cells ({ frames := 2, cells := 1, slots := 2, locals := 35 } : Room).slots) := by
  refine MetFree.of_bodySF (plainFor_of_name pn_java_lang_String) hisR ?_
  intro p e s m args below meth c s₁ Bd hml0 hP hK
  obtain ⟨rfl, hZ, hh⟩ := hP
  have hx := Bd.exec
  have hby := Bd.bytes
  have hml : c.maxLocals = 6 := hml0
  have hown : s.vm.findClass "java/lang/String" = some m.cls := findClass_of_methodNamed Bd.named
  have hnm := (name_of_methodNamed Bd.named Bd.method).1
  have X0 : Stand p l e ({ frames := 2, cells := 1, slots := 2, locals := 35 } : Room) s m #[(.ref tt), (.ref a), (.int (0 : Int32)), (.int (2 : Int32)), .null] below meth c s₁ [] 0 0 := Stand.of_body Bd
  have e0 : s₁.heap = h0 := by rw [← hh, Bd.state]; rfl
  have N0 := Fr.nil n0
  have K0 : Keep h0 h0 [tt] := Keep.refl _ _
  have G : Gets p e below (s₁.setTop (entryFrame m #[(.ref tt), (.ref a), (.int (0 : Int32)), (.int (2 : Int32)), .null] 6)) (s₁.setTop (mkF m 0 #[.val (.ref tt), .val (.ref a), .val (.int (0 : Int32)), .val (.int (2 : Int32)), .val .null, .unset] [])) := fun t k => castTop (ef_3n2 m tt a) k
  replace G := own_aloadN (q := 1) G X0.here hx (hb hby d3_0) rfl rfl rfl
  obtain ⟨T1, X1, e1, st1⟩ := initO X0 hx hZ hown (hw _ (List.mem_of_getElem? (i := 15) rfl)) (hw _ (List.mem_of_getElem? (i := 16) rfl)) (hw _ (List.mem_of_getElem? (i := 17) rfl)) e0 (g := (mkF m 1 #[.val (.ref tt), .val (.ref a), .val (.int (0 : Int32)), .val (.int (2 : Int32)), .val .null, .unset] [(.ref tt)])) rfl (by rw [hml]; rfl) rfl (hb hby d3_1) (by decide) (W := 0) (by show 2 * 0 + _ ≤ _; exact Nat.le_of_eq rfl) (by decide)
  replace G : Gets p e below _ (T1.setTop (mkF m 4 #[.val (.ref tt), .val (.ref a), .val (.int (0 : Int32)), .val (.int (2 : Int32)), .val .null, .unset] [])) := fun t k => G t (st1 t k)
  replace G := own_iloadN (q := 5) G X1.here hx (hb hby d3_4) rfl rfl
  have hc5_2 : ¬ ((2 : Int32) = (0 : Int32)) := by decide
  replace G := own_ifYes (q := 27) G X1.here hx (hb hby d3_5) ((if0 _ _).trans (feq hc5_2).2) (by decide) (by decide)
  obtain ⟨T3, X3, e3, st3⟩ := getS2 X1 hx hZ hown (host := "") (Or.inl (hw _ (List.mem_of_getElem? (i := 18) rfl))) Via.refl e1 P5 (g := (mkF m 27 #[.val (.ref tt), .val (.ref a), .val (.int (0 : Int32)), .val (.int (2 : Int32)), .val .null, .unset] [])) rfl (hb hby d3_27)
  replace G : Gets p e below _ (T3.setTop (mkF m 30 #[.val (.ref tt), .val (.ref a), .val (.int (0 : Int32)), .val (.int (2 : Int32)), .val .null, .unset] [(.int cw)])) := fun t k => G t (st3 t k)
  have hc30_4 : ¬ (cw = (0 : Int32)) := hcw
  replace G := own_ifNo (q := 33) G X3.here hx (hb hby d3_30) ((if0 _ _).trans (feq hc30_4).1) rfl
  replace G := own_aloadN (q := 34) G X3.here hx (hb hby d3_33) rfl rfl rfl
  replace G := own_iloadN (q := 35) G X3.here hx (hb hby d3_34) rfl rfl
  replace G := own_iloadN (q := 36) G X3.here hx (hb hby d3_35) rfl rfl
  obtain ⟨_, _, ⟨T5, L5, kk5, nn5⟩, -, X5, ⟨Lc5, hQ5, l5, y5, z5⟩, st5⟩ := Jvm.LawKit.callS X3 hx (y := (⟨"java/lang/StringUTF16", "compress", "([CII)[B"⟩ : MethodName)) hown (mvT hZ (hw _ (List.mem_of_getElem? (i := 19) rfl))) (mvT hZ (hw _ (List.mem_of_getElem? (i := 20) rfl))) (mvT hZ (hw _ (List.mem_of_getElem? (i := 21) rfl))) (mvT hZ (hw _ (List.mem_of_getElem? (i := 22) rfl))) (by decide) (backOf (W := 0) (rm5n2 l Z a0 hw [] a ks ec0 ec1 h0 n0 Z0 P4 he0 he1) hZ (hw _ (List.mem_of_getElem? (i := 22) rfl)) (hw _ (List.mem_of_getElem? (i := 21) rfl)) (by decide) (by decide)) (g := (mkF m 36 #[.val (.ref tt), .val (.ref a), .val (.int (0 : Int32)), .val (.int (2 : Int32)), .val .null, .unset] [(.int (2 : Int32)), (.int (0 : Int32)), (.ref a)])) rfl (by rw [hml]; rfl) (argsL := [(.ref a), (.int (0 : Int32)), (.int (2 : Int32))]) (rest := []) (lenOf pd_2 rfl) rfl (by show 2 * 0 + _ ≤ _; exact Nat.le_of_eq rfl) (hb hby d3_36) (fun _ _ => ⟨rfl, e3, (by decide : 0 + 1 ≤ _), (by decide : 0 + 2 ≤ _)⟩)
  dsimp only [Pt.U, Pt.locs, Pt.cells, Pt.slots] at X5 l5 y5 z5 st5 hQ5
  subst l5 y5 z5
  obtain ⟨b_5, kb_5, rfl, N5q, K5q, B5_0, B5_1⟩ := hQ5
  have ne6 : tt ≠ b_5 := Nat.ne_of_lt (Nat.lt_of_lt_of_le P0.lt B5_0)
  have ne7 : a ≠ b_5 := Nat.ne_of_lt (Nat.lt_of_lt_of_le P4.lt B5_0)
  have ge_b_5 : n0 ≤ b_5 := Nat.le_trans Z0 B5_0
  have sz_b_5 : h0.size ≤ b_5 := Nat.le_trans K0.1 B5_0
  have Z5 : n0 ≤ T5.heap.size := Nat.le_trans Z0 K5q.1
  have K5 : Keep h0 T5.heap [tt] := K0.trans K5q all0
  have N5 := Fr.app N0 N5q
  replace G : Gets p e below _ (T5.setTop (mkF m 39 #[.val (.ref tt), .val (.ref a), .val (.int (0 : Int32)), .val (.int (2 : Int32)), .val .null, .unset] [(.ref b_5)])) := fun t k => G t (st5 t k)
  replace G := own_astore (q := 41) (l' := #[.val (.ref tt), .val (.ref a), .val (.int (0 : Int32)), .val (.int (2 : Int32)), .val .null, .val (.ref b_5)]) G X5.here hx (hb hby d3_39) rfl rfl rfl
  replace G := own_aloadN (q := 42) G X5.here hx (hb hby d3_41) rfl rfl rfl
  replace G := own_aload (q := 44) G X5.here hx (hb hby d3_42) rfl rfl rfl
  replace G := own_iloadN (q := 45) G X5.here hx (hb hby d3_44) rfl rfl
  obtain ⟨_, _, ⟨T8, L8, kk8, nn8⟩, -, X8, ⟨Lc8, hQ8, l8, y8, z8⟩, st8⟩ := Jvm.LawKit.callS X5 hx (y := (⟨"java/lang/StringUTF16", "coderFromArrayLen", "([BI)B"⟩ : MethodName)) hown (mvT hZ (hw _ (List.mem_of_getElem? (i := 27) rfl))) (mvT hZ (hw _ (List.mem_of_getElem? (i := 28) rfl))) (mvT hZ (hw _ (List.mem_of_getElem? (i := 21) rfl))) (mvT hZ (hw _ (List.mem_of_getElem? (i := 29) rfl))) (by decide) (backOf (W := 1) (rm7n2 l Z a0 hw [] b_5 kb_5 [(.int (nar .byte (ec0.toInt8.toInt32))), (.int (nar .byte (ec1.toInt8.toInt32)))] T5.heap n0 Z5 B5_1) hZ (hw _ (List.mem_of_getElem? (i := 29) rfl)) (hw _ (List.mem_of_getElem? (i := 21) rfl)) (by decide) (by decide)) (g := (mkF m 45 #[.val (.ref tt), .val (.ref a), .val (.int (0 : Int32)), .val (.int (2 : Int32)), .val .null, .val (.ref b_5)] [(.int (2 : Int32)), (.ref b_5), (.ref tt)])) rfl (by rw [hml]; rfl) (argsL := [(.ref b_5), (.int (2 : Int32))]) (rest := [(.ref tt)]) (lenOf pd_3 rfl) rfl (by show 2 * 0 + _ ≤ _; exact Nat.le_of_eq rfl) (hb hby d3_45) (fun _ _ => ⟨rfl, rfl, (by decide : 1 + 0 ≤ _), (by decide : 2 + 0 ≤ _)⟩)
  dsimp only [Pt.U, Pt.locs, Pt.cells, Pt.slots] at X8 l8 y8 z8 st8 hQ8
  subst l8 y8 z8
  obtain ⟨rfl, N8q, e8⟩ := hQ8
  have N8 := Fr.app N5 N8q
  replace G : Gets p e below _ (T8.setTop (mkF m 48 #[.val (.ref tt), .val (.ref a), .val (.int (0 : Int32)), .val (.int (2 : Int32)), .val .null, .val (.ref b_5)] [(.int (0 : Int32)), (.ref tt)])) := fun t k => G t (st8 t k)
  have F9 : Exa Z T5.heap tt "java/lang/String" := (P2.keep K5q)
  have F10 : Fld Z T5.heap tt "java/lang/String" "coder" "B" (.int (0 : Int32)) := (P1.keep K5q nin0)
  obtain ⟨T11, h11, X11, e11, W11, st11⟩ := putFN X8 hx hZ hown (hw _ (List.mem_of_getElem? (i := 30) rfl)) Via.refl e8 F10 F9 (Or.inr ⟨(hw _ (List.mem_of_getElem? (i := 31) rfl)), rfl, hnm⟩) (hw _ (List.mem_of_getElem? (i := 5) rfl)) (ty := .byte) (v' := (.int (0 : Int32))) (by decide) rfl (by first | rfl | decide) (g := (mkF m 48 #[.val (.ref tt), .val (.ref a), .val (.int (0 : Int32)), .val (.int (2 : Int32)), .val .null, .val (.ref b_5)] [(.int (0 : Int32)), (.ref tt)])) rfl rfl (hb hby d3_48)
  have N11 := Fr.snoc X11 N8 P3
  have Z11 : n0 ≤ h11.size := Nat.le_trans Z5 (Keep.of_wr W11).1
  have K11 : Keep h0 h11 [tt] := K5.wr W11 (Or.inl (List.mem_of_getElem? (i := 0) rfl))
  have F11 : Fld Z h11 tt "java/lang/String" "coder" "B" (.int (0 : Int32)) := F10.same W11
  replace G : Gets p e below _ (T11.setTop (mkF m 51 #[.val (.ref tt), .val (.ref a), .val (.int (0 : Int32)), .val (.int (2 : Int32)), .val .null, .val (.ref b_5)] [])) := fun t k => G t (st11 t k)
  replace G := own_aloadN (q := 52) G X11.here hx (hb hby d3_51) rfl rfl rfl
  replace G := own_aload (q := 54) G X11.here hx (hb hby d3_52) rfl rfl rfl
  have F12 : Exa Z h11 tt "java/lang/String" := (F9.wr W11)
  have F13 : Fld Z h11 tt "java/lang/String" "value" "[B" .null := ((P0.keep K5q nin0).other W11 (Or.inr (slot_ne (Or.inr (hw _ (List.mem_of_getElem? (i := 33) rfl))) (Or.inr (hw _ (List.mem_of_getElem? (i := 31) rfl))) (by decide) (t := (.array .byte)) (t' := .byte) (by decide) (by decide))))
  obtain ⟨T14, h14, X14, e14, W14, st14⟩ := putF X11 hx hZ hown (host := "") (Or.inl (hw _ (List.mem_of_getElem? (i := 32) rfl))) Via.refl e11 F13 F12 (Or.inr ⟨(hw _ (List.mem_of_getElem? (i := 33) rfl)), rfl, hnm⟩) (hw _ (List.mem_of_getElem? (i := 5) rfl)) (ty := (.array .byte)) (by decide) rfl rfl (g := (mkF m 54 #[.val (.ref tt), .val (.ref a), .val (.int (0 : Int32)), .val (.int (2 : Int32)), .val .null, .val (.ref b_5)] [(.ref b_5), (.ref tt)])) rfl rfl (hb hby d3_54)
  have N14 := Fr.snoc X14 N11 P3
  have Z14 : n0 ≤ h14.size := Nat.le_trans Z11 (Keep.of_wr W14).1
  have K14 : Keep h0 h14 [tt] := K11.wr W14 (Or.inl (List.mem_of_getElem? (i := 0) rfl))
  have F14 : Fld Z h14 tt "java/lang/String" "value" "[B" (.ref b_5) := F13.same W14
  replace G : Gets p e below _ (T14.setTop (mkF m 57 #[.val (.ref tt), .val (.ref a), .val (.int (0 : Int32)), .val (.int (2 : Int32)), .val .null, .val (.ref b_5)] [])) := fun t k => G t (st14 t k)
  obtain ⟨fs, hr, hrun, hended, hW, hsame⟩ := X14.leave (v := none) (fun _ => rfl)
  refine ⟨_, _, G _ (X14.returnOut hx Bd.returns (hb hby d3_57) hr), hrun, hended, _, _, rfl, ?_, ⟨_, rfl⟩, hW, hsame.mono (by decide) (by decide)⟩
  have F15 : Fld Z h14 tt "java/lang/String" "coder" "B" (.int (0 : Int32)) := (F11.other W14 (Or.inr (slot_ne (Or.inr (hw _ (List.mem_of_getElem? (i := 31) rfl))) (Or.inr (hw _ (List.mem_of_getElem? (i := 33) rfl))) (by decide) (t := .byte) (t' := (.array .byte)) (by decide) (by decide))))
  have F16 : Arv Z h14 b_5 kb_5 .byte (2 : Int32) [(.int (nar .byte (ec0.toInt8.toInt32))), (.int (nar .byte (ec1.toInt8.toInt32)))] (.int (0 : Int32)) := ((B5_1.other W11 (Ne.symm ne6)).other W14 (Ne.symm ne6))
  show Q3n2 Z tt a ks cw ec0 ec1 h0 n0 _ T14.heap _
  rw [e14]
  exact ⟨b_5, kb_5, rfl, N14, K14, F14, F15, sz_b_5, F16⟩
theorem ef_2n2 (m : MethodId) (x0 : Addr) (x1 : Addr) : entryFrame m #[(.ref x0), (.ref x1)] 2 = mkF m 0 #[.val (.ref x0), .val (.ref x1)] [] := by first | (simp [entryFrame, mkF, argsToLocals, Value.category]; done) | rfl
def Q2n2 (Z : State) (tt : Addr) (a : Addr) (ks : ClassId) (cw : Int32) (ec0 : Int32) (ec1 : Int32) (h0 : Heap) (n0 : Nat) (v : Option Value) (h : Heap) (L : List Loc) : Prop := ∃ (b : Addr) (kb : ClassId), v = none ∧ Fr n0 L ∧ Keep h0 h [tt] ∧ (Fld Z h tt "java/lang/String" "value" "[B" (.ref b)) ∧ (Fld Z h tt "java/lang/String" "coder" "B" (.int (0 : Int32))) ∧ h0.size ≤ b ∧ (Arv Z h b kb .byte (2 : Int32) [(.int (nar .byte (ec0.toInt8.toInt32))), (.int (nar .byte (ec1.toInt8.toInt32)))] (.int (0 : Int32)))
set_option maxRecDepth 65536 in
set_option maxHeartbeats 40000000 in
theorem rm2n2 (l : Launch) (Z : State) (a0 : Array Value) (hw : ∀ d ∈ tables_1, d.before a0 Z = true) (ws : List Jvm.Cond) (tt : Addr) (a : Addr) (ks : ClassId) (cw : Int32) (ec0 : Int32) (ec1 : Int32) (h0 : Heap) (n0 : Nat) (Z0 : n0 ≤ h0.size) (P0 : Fld Z h0 tt "java/lang/String" "value" "[B" .null) (P1 : Fld Z h0 tt "java/lang/String" "coder" "B" (.int (0 : Int32))) (P2 : Exa Z h0 tt "java/lang/String") (P3 : n0 ≤ tt) (P4 : Arv Z h0 a ks .char (2 : Int32) [(.int ec0), (.int ec1)] (.int (0 : Int32))) (P5 : Sta Z h0 "java/lang/String" "COMPACT_STRINGS" "Z" (.int cw)) (hcw : ¬ cw = (0 : Int32)) (he0 : ¬ ((255 : Int32) < ec0)) (he1 : ¬ ((255 : Int32) < ec1)) :
    MetFree l (⟨"java/lang/String", "<init>", "([C)V"⟩ : MethodName) (head1 (Jvm.Cond.code (⟨"java/lang/String", "<init>", "([C)V"⟩ : MethodName) jdk_42_method_3_code 2 none :: ws) ({ frames := 3, cells := 1, slots := 2, locals := 52 } : Room)) (fun argz U => argz = #[(.ref tt), (.ref a)] ∧ Z.Warmed39 U.vm ∧ U.heap = h0) (fun _ _ _ _ _ => True) (fun _ U o U' => ∃ v L, o = .returned v ∧ Q2n2 Z tt a ks cw ec0 ec1 h0 n0 v U'.heap L ∧ FrameEnd U o U' L ({ frames := 3, cells := 1, slots := 2, locals := 52 } : Room).cells ({ frames := 3, cells := 1, slots := 2, locals := 52 } : Room).slots) := by
  refine MetFree.of_bodySF (plainFor_of_name pn_java_lang_String) hisR ?_
  intro p e s m args below meth c s₁ Bd hml0 hP hK
  obtain ⟨rfl, hZ, hh⟩ := hP
  have hx := Bd.exec
  have hby := Bd.bytes
  have hml : c.maxLocals = 2 := hml0
  have hown : s.vm.findClass "java/lang/String" = some m.cls := findClass_of_methodNamed Bd.named
  have hnm := (name_of_methodNamed Bd.named Bd.method).1
  have X0 : Stand p l e ({ frames := 3, cells := 1, slots := 2, locals := 52 } : Room) s m #[(.ref tt), (.ref a)] below meth c s₁ [] 0 0 := Stand.of_body Bd
  have e0 : s₁.heap = h0 := by rw [← hh, Bd.state]; rfl
  have N0 := Fr.nil n0
  have K0 : Keep h0 h0 [tt] := Keep.refl _ _
  have G : Gets p e below (s₁.setTop (entryFrame m #[(.ref tt), (.ref a)] 2)) (s₁.setTop (mkF m 0 #[.val (.ref tt), .val (.ref a)] [])) := fun t k => castTop (ef_2n2 m tt a) k
  replace G := own_aloadN (q := 1) G X0.here hx (hb hby d2_0) rfl rfl rfl
  replace G := own_aloadN (q := 2) G X0.here hx (hb hby d2_1) rfl rfl rfl
  replace G := own_iconst (q := 3) G X0.here hx (hb hby d2_2) (v := (0 : Int32)) (by decide) rfl
  replace G := own_aloadN (q := 4) G X0.here hx (hb hby d2_3) rfl rfl rfl
  obtain ⟨c1, Ar1, -, S1, N1', -, -⟩ := id P4
  replace G : Gets p e below _ (s₁.setTop (mkF m 5 #[.val (.ref tt), .val (.ref a)] [(.int (2 : Int32)), (.int (0 : Int32)), (.ref a), (.ref tt)])) := fun t k => G t (X0.arraylength hx (by rw [e0]; exact Ar1.1) (State.isArrayOf_alike hZ.alike Ar1.2.1) (g := (mkF m 4 #[.val (.ref tt), .val (.ref a)] [(.ref a), (.int (0 : Int32)), (.ref a), (.ref tt)])) rfl rfl (hb hby d2_4) t (by rw [len_of S1 N1']; exact k))
  replace G := own_aconst_null (q := 6) G X0.here hx (hb hby d2_5) rfl
  obtain ⟨_, _, ⟨T2, L2, kk2, nn2⟩, -, X2, ⟨Lc2, hQ2, l2, y2, z2⟩, st2⟩ := X0.specialBack hx (y := (⟨"java/lang/String", "<init>", "([CIILjava/lang/Void;)V"⟩ : MethodName)) rfl hown (mvT hZ (hw _ (List.mem_of_getElem? (i := 11) rfl))) (mvT hZ (hw _ (List.mem_of_getElem? (i := 12) rfl))) (mvT hZ (hw _ (List.mem_of_getElem? (i := 14) rfl))) (by decide) (backOf (W := 0) (rm3n2 l Z a0 hw [] tt a ks cw ec0 ec1 h0 n0 Z0 P0 P1 P2 P3 P4 P5 hcw he0 he1) hZ (hw _ (List.mem_of_getElem? (i := 14) rfl)) (hw _ (List.mem_of_getElem? (i := 6) rfl)) (by decide) (by decide)) (g := (mkF m 6 #[.val (.ref tt), .val (.ref a)] [.null, (.int (2 : Int32)), (.int (0 : Int32)), (.ref a), (.ref tt)])) rfl (by rw [hml]; rfl) (Steps.refl _) (a := tt) (argsL := [(.ref a), (.int (0 : Int32)), (.int (2 : Int32)), .null]) (rest := []) (lenOf pd_0 rfl) rfl (by show 2 * 0 + _ ≤ _; exact Nat.le_of_eq rfl) (hb hby d2_6) (fun _ _ => ⟨rfl, e0, (by decide : 0 + 1 ≤ _), (by decide : 0 + 2 ≤ _)⟩)
  dsimp only [Pt.U, Pt.locs, Pt.cells, Pt.slots] at X2 l2 y2 z2 st2 hQ2
  subst l2 y2 z2
  obtain ⟨b_2, kb_2, rfl, N2q, K2q, B2_0, B2_1, B2_2, B2_3⟩ := hQ2
  have ne3 : tt ≠ b_2 := Nat.ne_of_lt (Nat.lt_of_lt_of_le P0.lt B2_2)
  have ne4 : a ≠ b_2 := Nat.ne_of_lt (Nat.lt_of_lt_of_le P4.lt B2_2)
  have ge_b_2 : n0 ≤ b_2 := Nat.le_trans Z0 B2_2
  have sz_b_2 : h0.size ≤ b_2 := Nat.le_trans K0.1 B2_2
  have Z2 : n0 ≤ T2.heap.size := Nat.le_trans Z0 K2q.1
  have K2 : Keep h0 T2.heap [tt] := K0.trans K2q (allS (Or.inl (List.mem_of_getElem? (i := 0) rfl)) all0)
  have N2 := Fr.app N0 N2q
  replace G : Gets p e below _ (T2.setTop (mkF m 9 #[.val (.ref tt), .val (.ref a)] [])) := fun t k => G t (st2.trans k)
  obtain ⟨fs, hr, hrun, hended, hW, hsame⟩ := X2.leave (v := none) (fun _ => rfl)
  refine ⟨_, _, G _ (X2.returnOut hx Bd.returns (hb hby d2_9) hr), hrun, hended, _, _, rfl, ?_, ⟨_, rfl⟩, hW, hsame.mono (by decide) (by decide)⟩
  show Q2n2 Z tt a ks cw ec0 ec1 h0 n0 _ T2.heap _
  exact ⟨b_2, kb_2, rfl, N2, K2, B2_0, B2_1, sz_b_2, B2_3⟩
theorem ef_6n3 (m : MethodId) (x0 : Addr) (x2 : Addr) : entryFrame m #[(.ref x0), (.int (0 : Int32)), (.ref x2), (.int (0 : Int32)), (.int (3 : Int32))] 7 = mkF m 0 #[.val (.ref x0), .val (.int (0 : Int32)), .val (.ref x2), .val (.int (0 : Int32)), .val (.int (3 : Int32)), .unset, .unset] [] := by first | (simp [entryFrame, mkF, argsToLocals, Value.category]; done) | rfl
def Q6n3 (Z : State) (a : Addr) (d : Addr) (ks : ClassId) (kd : ClassId) (ec0 : Int32) (ec1 : Int32) (ec2 : Int32) (h0 : Heap) (n0 : Nat) (v : Option Value) (h : Heap) (L : List Loc) : Prop := v = some (.int (3 : Int32)) ∧ Fr n0 L ∧ Keep h0 h [d] ∧ (Arv Z h d kd .byte (3 : Int32) [(.int (nar .byte (ec0.toInt8.toInt32))), (.int (nar .byte (ec1.toInt8.toInt32))), (.int (nar .byte (ec2.toInt8.toInt32)))] (.int (0 : Int32)))
set_option maxRecDepth 65536 in
set_option maxHeartbeats 40000000 in
theorem rm6n3 (l : Launch) (Z : State) (a0 : Array Value) (hw : ∀ d ∈ tables_1, d.before a0 Z = true) (ws : List Jvm.Cond) (a : Addr) (d : Addr) (ks : ClassId) (kd : ClassId) (ec0 : Int32) (ec1 : Int32) (ec2 : Int32) (h0 : Heap) (n0 : Nat) (Z0 : n0 ≤ h0.size) (P0 : Arv Z h0 a ks .char (3 : Int32) [(.int ec0), (.int ec1), (.int ec2)] (.int (0 : Int32))) (P1 : Arv Z h0 d kd .byte (3 : Int32) [(.int (0 : Int32)), (.int (0 : Int32)), (.int (0 : Int32))] (.int (0 : Int32))) (P2 : n0 ≤ d) (P3 : a ≠ d) (he0 : ¬ ((255 : Int32) < ec0)) (he1 : ¬ ((255 : Int32) < ec1)) (he2 : ¬ ((255 : Int32) < ec2)) :
    MetFree l (⟨"java/lang/StringUTF16", "compress", "([CI[BII)I"⟩ : MethodName) (head1 (Jvm.Cond.code (⟨"java/lang/StringUTF16", "compress", "([CI[BII)I"⟩ : MethodName) jdk_52_method_21_code 7 (some .int) :: ws) ({ frames := 0, cells := 0, slots := 0, locals := 0 } : Room)) (fun argz U => argz = #[(.ref a), (.int (0 : Int32)), (.ref d), (.int (0 : Int32)), (.int (3 : Int32))] ∧ Z.Warmed39 U.vm ∧ U.heap = h0) (fun _ _ _ _ _ => True) (fun _ U o U' => ∃ v L, o = .returned v ∧ Q6n3 Z a d ks kd ec0 ec1 ec2 h0 n0 v U'.heap L ∧ FrameEnd U o U' L ({ frames := 0, cells := 0, slots := 0, locals := 0 } : Room).cells ({ frames := 0, cells := 0, slots := 0, locals := 0 } : Room).slots) := by
  refine MetFree.of_bodySF (plainFor_of_name pn_java_lang_StringUTF16) hisR ?_
  intro p e s m args below meth c s₁ Bd hml0 hP hK
  obtain ⟨rfl, hZ, hh⟩ := hP
  have hx := Bd.exec
  have hby := Bd.bytes
  have hml : c.maxLocals = 7 := hml0
  have hown : s.vm.findClass "java/lang/StringUTF16" = some m.cls := findClass_of_methodNamed Bd.named
  have hnm := (name_of_methodNamed Bd.named Bd.method).1
  have X0 : Stand p l e ({ frames := 0, cells := 0, slots := 0, locals := 0 } : Room) s m #[(.ref a), (.int (0 : Int32)), (.ref d), (.int (0 : Int32)), (.int (3 : Int32))] below meth c s₁ [] 0 0 := Stand.of_body Bd
  have e0 : s₁.heap = h0 := by rw [← hh, Bd.state]; rfl
  have N0 := Fr.nil n0
  have K0 : Keep h0 h0 [d] := Keep.refl _ _
  have G : Gets p e below (s₁.setTop (entryFrame m #[(.ref a), (.int (0 : Int32)), (.ref d), (.int (0 : Int32)), (.int (3 : Int32))] 7)) (s₁.setTop (mkF m 0 #[.val (.ref a), .val (.int (0 : Int32)), .val (.ref d), .val (.int (0 : Int32)), .val (.int (3 : Int32)), .unset, .unset] [])) := fun t k => castTop (ef_6n3 m a d) k
  replace G := own_iconst (q := 1) G X0.here hx (hb hby d6_0) (v := (0 : Int32)) (by decide) rfl
  replace G := own_istore (q := 3) (l' := #[.val (.ref a), .val (.int (0 : Int32)), .val (.ref d), .val (.int (0 : Int32)), .val (.int (3 : Int32)), .val (.int (0 : Int32)), .unset]) G X0.here hx (hb hby d6_1) rfl rfl
  replace G := own_iload (q := 5) G X0.here hx (hb hby d6_3) rfl rfl
  replace G := own_iload (q := 7) G X0.here hx (hb hby d6_5) rfl rfl
  have hc7_1 : (0 : Int32) < (3 : Int32) := by decide
  replace G := own_icmpNo (q := 10) G X0.here hx (hb hby d6_7) (tlt hc7_1).2.1 rfl
  replace G := own_aloadN (q := 11) G X0.here hx (hb hby d6_10) rfl rfl rfl
  replace G := own_iloadN (q := 12) G X0.here hx (hb hby d6_11) rfl rfl
  obtain ⟨c2, Ar2, -, S2, -, H2, -⟩ := id P0
  have hin2 : ¬ ((0 : Int32) < 0 ∨ c2.slots.size ≤ ((0 : Int32)).toNatClampNeg) := inb_of S2 ⟨by decide, by decide⟩
  replace G : Gets p e below _ (s₁.setTop (mkF m 13 #[.val (.ref a), .val (.int (0 : Int32)), .val (.ref d), .val (.int (0 : Int32)), .val (.int (3 : Int32)), .val (.int (0 : Int32)), .unset] [(.int ec0)])) := fun t k => G t (X0.caload hx (j := (0 : Int32)) (v := (.int ec0)) (by rw [e0]; exact Ar2.1) (State.isArrayOf_alike hZ.alike Ar2.2.1) Ar2.2.2 hin2 (Has.at H2 hin2 rfl) (g := (mkF m 12 #[.val (.ref a), .val (.int (0 : Int32)), .val (.ref d), .val (.int (0 : Int32)), .val (.int (3 : Int32)), .val (.int (0 : Int32)), .unset] [(.int (0 : Int32)), (.ref a)])) rfl rfl (hb hby d6_12) t k)
  replace G := own_istore (q := 15) (l' := #[.val (.ref a), .val (.int (0 : Int32)), .val (.ref d), .val (.int (0 : Int32)), .val (.int (3 : Int32)), .val (.int (0 : Int32)), .val (.int ec0)]) G X0.here hx (hb hby d6_13) rfl rfl
  replace G := own_iload (q := 17) G X0.here hx (hb hby d6_15) rfl rfl
  replace G := own_sipush (q := 20) G X0.here hx (hb hby d6_17) (v := (255 : Int32)) (by decide) rfl
  have hc20_3 : ¬ ((255 : Int32) < ec0) := he0
  replace G := own_icmpYes (q := 26) G X0.here hx (hb hby d6_20) (flt hc20_3).2.2.2 (by decide) (by decide)
  replace G := own_aloadN (q := 27) G X0.here hx (hb hby d6_26) rfl rfl rfl
  replace G := own_iloadN (q := 28) G X0.here hx (hb hby d6_27) rfl rfl
  replace G := own_iload (q := 30) G X0.here hx (hb hby d6_28) rfl rfl
  replace G := own_i2b (q := 31) G X0.here hx (hb hby d6_30) rfl rfl
  obtain ⟨c4, Ar4, q4, S4, N4', H4, G4'⟩ := id P1
  have hin4 : ¬ ((0 : Int32) < 0 ∨ c4.slots.size ≤ ((0 : Int32)).toNatClampNeg) := inb_of S4 ⟨by decide, by decide⟩
  obtain ⟨T4, h4, X4, e4, W4, st4⟩ := stB X0 hx hZ e0 Ar4 (j := (0 : Int32)) hin4 (g := (mkF m 31 #[.val (.ref a), .val (.int (0 : Int32)), .val (.ref d), .val (.int (0 : Int32)), .val (.int (3 : Int32)), .val (.int (0 : Int32)), .val (.int ec0)] [(.int (ec0.toInt8.toInt32)), (.int (0 : Int32)), (.ref d)])) rfl rfl (hb hby d6_31)
  have N4 := Fr.snoc X4 N0 P2
  have Z4 : n0 ≤ h4.size := Nat.le_trans Z0 (Keep.of_wr W4).1
  have K4 : Keep h0 h4 [d] := K0.wr W4 (Or.inl (List.mem_of_getElem? (i := 0) rfl))
  have V4 : Arv Z h4 d kd .byte (3 : Int32) [(.int (nar .byte (ec0.toInt8.toInt32))), (.int (0 : Int32)), (.int (0 : Int32))] (.int (0 : Int32)) := Arv.set Ar4 q4 S4 N4' H4 G4' (fits_nar_byte _) W4 0 rfl (Nat.le_of_ble_eq_true rfl)
  replace G : Gets p e below _ (T4.setTop (mkF m 32 #[.val (.ref a), .val (.int (0 : Int32)), .val (.ref d), .val (.int (0 : Int32)), .val (.int (3 : Int32)), .val (.int (0 : Int32)), .val (.int ec0)] [])) := fun t k => G t (st4 t k)
  replace G := own_iinc (q := 35) (l' := #[.val (.ref a), .val (.int (1 : Int32)), .val (.ref d), .val (.int (0 : Int32)), .val (.int (3 : Int32)), .val (.int (0 : Int32)), .val (.int ec0)]) (w := (1 : Int32)) G X4.here hx (hb hby d6_32) (by decide) rfl (by decide : ((0 : Int32) + (1 : Int32)) = (1 : Int32)) rfl rfl
  replace G := own_iinc (q := 38) (l' := #[.val (.ref a), .val (.int (1 : Int32)), .val (.ref d), .val (.int (1 : Int32)), .val (.int (3 : Int32)), .val (.int (0 : Int32)), .val (.int ec0)]) (w := (1 : Int32)) G X4.here hx (hb hby d6_35) (by decide) rfl (by decide : ((0 : Int32) + (1 : Int32)) = (1 : Int32)) rfl rfl
  replace G := own_iinc (q := 41) (l' := #[.val (.ref a), .val (.int (1 : Int32)), .val (.ref d), .val (.int (1 : Int32)), .val (.int (3 : Int32)), .val (.int (1 : Int32)), .val (.int ec0)]) (w := (1 : Int32)) G X4.here hx (hb hby d6_38) (by decide) rfl (by decide : ((0 : Int32) + (1 : Int32)) = (1 : Int32)) rfl rfl
  replace G := own_goto (q := 3) G X4.here hx (hb hby d6_41) (by decide) (by decide)
  replace G := own_iload (q := 5) G X4.here hx (hb hby d6_3) rfl rfl
  replace G := own_iload (q := 7) G X4.here hx (hb hby d6_5) rfl rfl
  have hc7_5 : (1 : Int32) < (3 : Int32) := by decide
  replace G := own_icmpNo (q := 10) G X4.here hx (hb hby d6_7) (tlt hc7_5).2.1 rfl
  replace G := own_aloadN (q := 11) G X4.here hx (hb hby d6_10) rfl rfl rfl
  replace G := own_iloadN (q := 12) G X4.here hx (hb hby d6_11) rfl rfl
  have F6 : Arv Z h4 a ks .char (3 : Int32) [(.int ec0), (.int ec1), (.int ec2)] (.int (0 : Int32)) := (P0.other W4 P3)
  obtain ⟨c7, Ar7, -, S7, -, H7, -⟩ := id F6
  have hin7 : ¬ ((1 : Int32) < 0 ∨ c7.slots.size ≤ ((1 : Int32)).toNatClampNeg) := inb_of S7 ⟨by decide, by decide⟩
  replace G : Gets p e below _ (T4.setTop (mkF m 13 #[.val (.ref a), .val (.int (1 : Int32)), .val (.ref d), .val (.int (1 : Int32)), .val (.int (3 : Int32)), .val (.int (1 : Int32)), .val (.int ec0)] [(.int ec1)])) := fun t k => G t (X4.caload hx (j := (1 : Int32)) (v := (.int ec1)) (by rw [e4]; exact Ar7.1) (State.isArrayOf_alike hZ.alike Ar7.2.1) Ar7.2.2 hin7 (Has.at H7 hin7 rfl) (g := (mkF m 12 #[.val (.ref a), .val (.int (1 : Int32)), .val (.ref d), .val (.int (1 : Int32)), .val (.int (3 : Int32)), .val (.int (1 : Int32)), .val (.int ec0)] [(.int (1 : Int32)), (.ref a)])) rfl rfl (hb hby d6_12) t k)
  replace G := own_istore (q := 15) (l' := #[.val (.ref a), .val (.int (1 : Int32)), .val (.ref d), .val (.int (1 : Int32)), .val (.int (3 : Int32)), .val (.int (1 : Int32)), .val (.int ec1)]) G X4.here hx (hb hby d6_13) rfl rfl
  replace G := own_iload (q := 17) G X4.here hx (hb hby d6_15) rfl rfl
  replace G := own_sipush (q := 20) G X4.here hx (hb hby d6_17) (v := (255 : Int32)) (by decide) rfl
  have hc20_8 : ¬ ((255 : Int32) < ec1) := he1
  replace G := own_icmpYes (q := 26) G X4.here hx (hb hby d6_20) (flt hc20_8).2.2.2 (by decide) (by decide)
  replace G := own_aloadN (q := 27) G X4.here hx (hb hby d6_26) rfl rfl rfl
  replace G := own_iloadN (q := 28) G X4.here hx (hb hby d6_27) rfl rfl
  replace G := own_iload (q := 30) G X4.here hx (hb hby d6_28) rfl rfl
  replace G := own_i2b (q := 31) G X4.here hx (hb hby d6_30) rfl rfl
  obtain ⟨c9, Ar9, q9, S9, N9', H9, G9'⟩ := id V4
  have hin9 : ¬ ((1 : Int32) < 0 ∨ c9.slots.size ≤ ((1 : Int32)).toNatClampNeg) := inb_of S9 ⟨by decide, by decide⟩
  obtain ⟨T9, h9, X9, e9, W9, st9⟩ := stB X4 hx hZ e4 Ar9 (j := (1 : Int32)) hin9 (g := (mkF m 31 #[.val (.ref a), .val (.int (1 : Int32)), .val (.ref d), .val (.int (1 : Int32)), .val (.int (3 : Int32)), .val (.int (1 : Int32)), .val (.int ec1)] [(.int (ec1.toInt8.toInt32)), (.int (1 : Int32)), (.ref d)])) rfl rfl (hb hby d6_31)
  have N9 := Fr.snoc X9 N4 P2
  have Z9 : n0 ≤ h9.size := Nat.le_trans Z4 (Keep.of_wr W9).1
  have K9 : Keep h0 h9 [d] := K4.wr W9 (Or.inl (List.mem_of_getElem? (i := 0) rfl))
  have V9 : Arv Z h9 d kd .byte (3 : Int32) [(.int (nar .byte (ec0.toInt8.toInt32))), (.int (nar .byte (ec1.toInt8.toInt32))), (.int (0 : Int32))] (.int (0 : Int32)) := Arv.set Ar9 q9 S9 N9' H9 G9' (fits_nar_byte _) W9 1 rfl (Nat.le_of_ble_eq_true rfl)
  replace G : Gets p e below _ (T9.setTop (mkF m 32 #[.val (.ref a), .val (.int (1 : Int32)), .val (.ref d), .val (.int (1 : Int32)), .val (.int (3 : Int32)), .val (.int (1 : Int32)), .val (.int ec1)] [])) := fun t k => G t (st9 t k)
  replace G := own_iinc (q := 35) (l' := #[.val (.ref a), .val (.int (2 : Int32)), .val (.ref d), .val (.int (1 : Int32)), .val (.int (3 : Int32)), .val (.int (1 : Int32)), .val (.int ec1)]) (w := (1 : Int32)) G X9.here hx (hb hby d6_32) (by decide) rfl (by decide : ((1 : Int32) + (1 : Int32)) = (2 : Int32)) rfl rfl
  replace G := own_iinc (q := 38) (l' := #[.val (.ref a), .val (.int (2 : Int32)), .val (.ref d), .val (.int (2 : Int32)), .val (.int (3 : Int32)), .val (.int (1 : Int32)), .val (.int ec1)]) (w := (1 : Int32)) G X9.here hx (hb hby d6_35) (by decide) rfl (by decide : ((1 : Int32) + (1 : Int32)) = (2 : Int32)) rfl rfl
  replace G := own_iinc (q := 41) (l' := #[.val (.ref a), .val (.int (2 : Int32)), .val (.ref d), .val (.int (2 : Int32)), .val (.int (3 : Int32)), .val (.int (2 : Int32)), .val (.int ec1)]) (w := (1 : Int32)) G X9.here hx (hb hby d6_38) (by decide) rfl (by decide : ((1 : Int32) + (1 : Int32)) = (2 : Int32)) rfl rfl
  replace G := own_goto (q := 3) G X9.here hx (hb hby d6_41) (by decide) (by decide)
  replace G := own_iload (q := 5) G X9.here hx (hb hby d6_3) rfl rfl
  replace G := own_iload (q := 7) G X9.here hx (hb hby d6_5) rfl rfl
  have hc7_10 : (2 : Int32) < (3 : Int32) := by decide
  replace G := own_icmpNo (q := 10) G X9.here hx (hb hby d6_7) (tlt hc7_10).2.1 rfl
  replace G := own_aloadN (q := 11) G X9.here hx (hb hby d6_10) rfl rfl rfl
  replace G := own_iloadN (q := 12) G X9.here hx (hb hby d6_11) rfl rfl
  have F11 : Arv Z h9 a ks .char (3 : Int32) [(.int ec0), (.int ec1), (.int ec2)] (.int (0 : Int32)) := (F6.other W9 P3)
  obtain ⟨c12, Ar12, -, S12, -, H12, -⟩ := id F11
  have hin12 : ¬ ((2 : Int32) < 0 ∨ c12.slots.size ≤ ((2 : Int32)).toNatClampNeg) := inb_of S12 ⟨by decide, by decide⟩
  replace G : Gets p e below _ (T9.setTop (mkF m 13 #[.val (.ref a), .val (.int (2 : Int32)), .val (.ref d), .val (.int (2 : Int32)), .val (.int (3 : Int32)), .val (.int (2 : Int32)), .val (.int ec1)] [(.int ec2)])) := fun t k => G t (X9.caload hx (j := (2 : Int32)) (v := (.int ec2)) (by rw [e9]; exact Ar12.1) (State.isArrayOf_alike hZ.alike Ar12.2.1) Ar12.2.2 hin12 (Has.at H12 hin12 rfl) (g := (mkF m 12 #[.val (.ref a), .val (.int (2 : Int32)), .val (.ref d), .val (.int (2 : Int32)), .val (.int (3 : Int32)), .val (.int (2 : Int32)), .val (.int ec1)] [(.int (2 : Int32)), (.ref a)])) rfl rfl (hb hby d6_12) t k)
  replace G := own_istore (q := 15) (l' := #[.val (.ref a), .val (.int (2 : Int32)), .val (.ref d), .val (.int (2 : Int32)), .val (.int (3 : Int32)), .val (.int (2 : Int32)), .val (.int ec2)]) G X9.here hx (hb hby d6_13) rfl rfl
  replace G := own_iload (q := 17) G X9.here hx (hb hby d6_15) rfl rfl
  replace G := own_sipush (q := 20) G X9.here hx (hb hby d6_17) (v := (255 : Int32)) (by decide) rfl
  have hc20_13 : ¬ ((255 : Int32) < ec2) := he2
  replace G := own_icmpYes (q := 26) G X9.here hx (hb hby d6_20) (flt hc20_13).2.2.2 (by decide) (by decide)
  replace G := own_aloadN (q := 27) G X9.here hx (hb hby d6_26) rfl rfl rfl
  replace G := own_iloadN (q := 28) G X9.here hx (hb hby d6_27) rfl rfl
  replace G := own_iload (q := 30) G X9.here hx (hb hby d6_28) rfl rfl
  replace G := own_i2b (q := 31) G X9.here hx (hb hby d6_30) rfl rfl
  obtain ⟨c14, Ar14, q14, S14, N14', H14, G14'⟩ := id V9
  have hin14 : ¬ ((2 : Int32) < 0 ∨ c14.slots.size ≤ ((2 : Int32)).toNatClampNeg) := inb_of S14 ⟨by decide, by decide⟩
  obtain ⟨T14, h14, X14, e14, W14, st14⟩ := stB X9 hx hZ e9 Ar14 (j := (2 : Int32)) hin14 (g := (mkF m 31 #[.val (.ref a), .val (.int (2 : Int32)), .val (.ref d), .val (.int (2 : Int32)), .val (.int (3 : Int32)), .val (.int (2 : Int32)), .val (.int ec2)] [(.int (ec2.toInt8.toInt32)), (.int (2 : Int32)), (.ref d)])) rfl rfl (hb hby d6_31)
  have N14 := Fr.snoc X14 N9 P2
  have Z14 : n0 ≤ h14.size := Nat.le_trans Z9 (Keep.of_wr W14).1
  have K14 : Keep h0 h14 [d] := K9.wr W14 (Or.inl (List.mem_of_getElem? (i := 0) rfl))
  have V14 : Arv Z h14 d kd .byte (3 : Int32) [(.int (nar .byte (ec0.toInt8.toInt32))), (.int (nar .byte (ec1.toInt8.toInt32))), (.int (nar .byte (ec2.toInt8.toInt32)))] (.int (0 : Int32)) := Arv.set Ar14 q14 S14 N14' H14 G14' (fits_nar_byte _) W14 2 rfl (Nat.le_of_ble_eq_true rfl)
  replace G : Gets p e below _ (T14.setTop (mkF m 32 #[.val (.ref a), .val (.int (2 : Int32)), .val (.ref d), .val (.int (2 : Int32)), .val (.int (3 : Int32)), .val (.int (2 : Int32)), .val (.int ec2)] [])) := fun t k => G t (st14 t k)
  replace G := own_iinc (q := 35) (l' := #[.val (.ref a), .val (.int (3 : Int32)), .val (.ref d), .val (.int (2 : Int32)), .val (.int (3 : Int32)), .val (.int (2 : Int32)), .val (.int ec2)]) (w := (1 : Int32)) G X14.here hx (hb hby d6_32) (by decide) rfl (by decide : ((2 : Int32) + (1 : Int32)) = (3 : Int32)) rfl rfl
  replace G := own_iinc (q := 38) (l' := #[.val (.ref a), .val (.int (3 : Int32)), .val (.ref d), .val (.int (3 : Int32)), .val (.int (3 : Int32)), .val (.int (2 : Int32)), .val (.int ec2)]) (w := (1 : Int32)) G X14.here hx (hb hby d6_35) (by decide) rfl (by decide : ((2 : Int32) + (1 : Int32)) = (3 : Int32)) rfl rfl
  replace G := own_iinc (q := 41) (l' := #[.val (.ref a), .val (.int (3 : Int32)), .val (.ref d), .val (.int (3 : Int32)), .val (.int (3 : Int32)), .val (.int (3 : Int32)), .val (.int ec2)]) (w := (1 : Int32)) G X14.here hx (hb hby d6_38) (by decide) rfl (by decide : ((2 : Int32) + (1 : Int32)) = (3 : Int32)) rfl rfl
  replace G := own_goto (q := 3) G X14.here hx (hb hby d6_41) (by decide) (by decide)
  replace G := own_iload (q := 5) G X14.here hx (hb hby d6_3) rfl rfl
  replace G := own_iload (q := 7) G X14.here hx (hb hby d6_5) rfl rfl
  have hc7_15 : ¬ ((3 : Int32) < (3 : Int32)) := by decide
  replace G := own_icmpYes (q := 44) G X14.here hx (hb hby d6_7) (flt hc7_15).2.1 (by decide) (by decide)
  replace G := own_iload (q := 46) G X14.here hx (hb hby d6_44) rfl rfl
  obtain ⟨fs, hr, hrun, hended, hW, hsame⟩ := X14.leave (v := some (.int (3 : Int32))) (fun h => by rw [Bd.returns] at h; cases h)
  refine ⟨_, _, G _ (retOut X14 hx Bd.returns rfl (Or.inl ⟨rfl, Or.inl rfl, _, rfl⟩) (hb hby d6_46) hr), hrun, hended, _, _, rfl, ?_, ⟨_, rfl⟩, hW, hsame.mono (by decide) (by decide)⟩
  show Q6n3 Z a d ks kd ec0 ec1 ec2 h0 n0 _ T14.heap _
  rw [e14]
  exact ⟨rfl, N14, K14, V14⟩
theorem ef_5n3 (m : MethodId) (x0 : Addr) : entryFrame m #[(.ref x0), (.int (0 : Int32)), (.int (3 : Int32))] 6 = mkF m 0 #[.val (.ref x0), .val (.int (0 : Int32)), .val (.int (3 : Int32)), .unset, .unset, .unset] [] := by first | (simp [entryFrame, mkF, argsToLocals, Value.category]; done) | rfl
def Q5n3 (Z : State) (a : Addr) (ks : ClassId) (ec0 : Int32) (ec1 : Int32) (ec2 : Int32) (h0 : Heap) (n0 : Nat) (v : Option Value) (h : Heap) (L : List Loc) : Prop := ∃ (b : Addr) (kb : ClassId), v = some (.ref b) ∧ Fr n0 L ∧ Keep h0 h [] ∧ h0.size ≤ b ∧ (Arv Z h b kb .byte (3 : Int32) [(.int (nar .byte (ec0.toInt8.toInt32))), (.int (nar .byte (ec1.toInt8.toInt32))), (.int (nar .byte (ec2.toInt8.toInt32)))] (.int (0 : Int32)))
set_option maxRecDepth 65536 in
set_option maxHeartbeats 40000000 in
theorem rm5n3 (l : Launch) (Z : State) (a0 : Array Value) (hw : ∀ d ∈ tables_1, d.before a0 Z = true) (ws : List Jvm.Cond) (a : Addr) (ks : ClassId) (ec0 : Int32) (ec1 : Int32) (ec2 : Int32) (h0 : Heap) (n0 : Nat) (Z0 : n0 ≤ h0.size) (P0 : Arv Z h0 a ks .char (3 : Int32) [(.int ec0), (.int ec1), (.int ec2)] (.int (0 : Int32))) (he0 : ¬ ((255 : Int32) < ec0)) (he1 : ¬ ((255 : Int32) < ec1)) (he2 : ¬ ((255 : Int32) < ec2)) :
    MetFree l (⟨"java/lang/StringUTF16", "compress", "([CII)[B"⟩ : MethodName) (head1 (Jvm.Cond.code (⟨"java/lang/StringUTF16", "compress", "([CII)[B"⟩ : MethodName) jdk_52_method_16_code 6 (some (.array .byte)) :: ws) ({ frames := 1, cells := 1, slots := 3, locals := 18 } : Room)) (fun argz U => argz = #[(.ref a), (.int (0 : Int32)), (.int (3 : Int32))] ∧ Z.Warmed39 U.vm ∧ U.heap = h0) (fun _ _ _ _ _ => True) (fun _ U o U' => ∃ v L, o = .returned v ∧ Q5n3 Z a ks ec0 ec1 ec2 h0 n0 v U'.heap L ∧ FrameEnd U o U' L ({ frames := 1, cells := 1, slots := 3, locals := 18 } : Room).cells ({ frames := 1, cells := 1, slots := 3, locals := 18 } : Room).slots) := by
  refine MetFree.of_bodySF (plainFor_of_name pn_java_lang_StringUTF16) hisR ?_
  intro p e s m args below meth c s₁ Bd hml0 hP hK
  obtain ⟨rfl, hZ, hh⟩ := hP
  have hx := Bd.exec
  have hby := Bd.bytes
  have hml : c.maxLocals = 6 := hml0
  have hown : s.vm.findClass "java/lang/StringUTF16" = some m.cls := findClass_of_methodNamed Bd.named
  have hnm := (name_of_methodNamed Bd.named Bd.method).1
  have X0 : Stand p l e ({ frames := 1, cells := 1, slots := 3, locals := 18 } : Room) s m #[(.ref a), (.int (0 : Int32)), (.int (3 : Int32))] below meth c s₁ [] 0 0 := Stand.of_body Bd
  have e0 : s₁.heap = h0 := by rw [← hh, Bd.state]; rfl
  have N0 := Fr.nil n0
  have K0 : Keep h0 h0 [] := Keep.refl _ _
  have G : Gets p e below (s₁.setTop (entryFrame m #[(.ref a), (.int (0 : Int32)), (.int (3 : Int32))] 6)) (s₁.setTop (mkF m 0 #[.val (.ref a), .val (.int (0 : Int32)), .val (.int (3 : Int32)), .unset, .unset, .unset] [])) := fun t k => castTop (ef_5n3 m a) k
  replace G := own_iloadN (q := 1) G X0.here hx (hb hby d5_0) rfl rfl
  obtain ⟨T1, h1, k1, X1, e1, E1, A1, st1⟩ := newP X0 hx hZ (hw _ (List.mem_of_getElem? (i := 23) rfl)) e0 (g := (mkF m 1 #[.val (.ref a), .val (.int (0 : Int32)), .val (.int (3 : Int32)), .unset, .unset, .unset] [(.int (3 : Int32))])) rfl (hb hby d5_1) rfl (by decide) (cap := 3) (by decide) (by decide) (by decide) (by decide)
  obtain ⟨b1, g1⟩ : ∃ z, z = h0.size := ⟨_, rfl⟩
  rw [← g1] at A1 st1
  have ne2 : a ≠ b1 := Nat.ne_of_lt (Nat.lt_of_lt_of_le P0.lt (Nat.le_of_eq g1.symm))
  have ge_b1 : n0 ≤ b1 := Nat.le_trans Z0 (Nat.le_of_eq g1.symm)
  have sz_b1 : h0.size ≤ b1 := Nat.le_trans K0.1 (Nat.le_of_eq g1.symm)
  have Z1 : n0 ≤ h1.size := Nat.le_trans Z0 E1.1
  have K1 : Keep h0 h1 [] := K0.ext E1
  have V1 : Arv Z h1 b1 k1 .byte (3 : Int32) [(.int (0 : Int32)), (.int (0 : Int32)), (.int (0 : Int32))] (.int (0 : Int32)) := (Arv.new A1 (by decide)).pad (pad_rep [] (.int (0 : Int32)) 3)
  replace G : Gets p e below _ (T1.setTop (mkF m 3 #[.val (.ref a), .val (.int (0 : Int32)), .val (.int (3 : Int32)), .unset, .unset, .unset] [(.ref b1)])) := fun t k => G t (st1 t k)
  replace G := own_astoreN (q := 4) (l' := #[.val (.ref a), .val (.int (0 : Int32)), .val (.int (3 : Int32)), .val (.ref b1), .unset, .unset]) G X1.here hx (hb hby d5_3) rfl rfl rfl
  replace G := own_aloadN (q := 5) G X1.here hx (hb hby d5_4) rfl rfl rfl
  replace G := own_iloadN (q := 6) G X1.here hx (hb hby d5_5) rfl rfl
  replace G := own_aloadN (q := 7) G X1.here hx (hb hby d5_6) rfl rfl rfl
  replace G := own_iconst (q := 8) G X1.here hx (hb hby d5_7) (v := (0 : Int32)) (by decide) rfl
  replace G := own_iloadN (q := 9) G X1.here hx (hb hby d5_8) rfl rfl
  have F4 : Arv Z h1 a ks .char (3 : Int32) [(.int ec0), (.int ec1), (.int ec2)] (.int (0 : Int32)) := (P0.ext E1)
  obtain ⟨_, _, ⟨T3, L3, kk3, nn3⟩, -, X3, ⟨Lc3, hQ3, l3, y3, z3⟩, st3⟩ := Jvm.LawKit.callS X1 hx (y := (⟨"java/lang/StringUTF16", "compress", "([CI[BII)I"⟩ : MethodName)) hown (mvT hZ (hw _ (List.mem_of_getElem? (i := 24) rfl))) (mvT hZ (hw _ (List.mem_of_getElem? (i := 25) rfl))) (mvT hZ (hw _ (List.mem_of_getElem? (i := 21) rfl))) (mvT hZ (hw _ (List.mem_of_getElem? (i := 26) rfl))) (by decide) (backOf (W := 0) (rm6n3 l Z a0 hw [] a b1 ks k1 ec0 ec1 ec2 h1 n0 Z1 F4 V1 ge_b1 ne2 he0 he1 he2) hZ (hw _ (List.mem_of_getElem? (i := 26) rfl)) (hw _ (List.mem_of_getElem? (i := 21) rfl)) (by decide) (by decide)) (g := (mkF m 9 #[.val (.ref a), .val (.int (0 : Int32)), .val (.int (3 : Int32)), .val (.ref b1), .unset, .unset] [(.int (3 : Int32)), (.int (0 : Int32)), (.ref b1), (.int (0 : Int32)), (.ref a)])) rfl (by rw [hml]; rfl) (argsL := [(.ref a), (.int (0 : Int32)), (.ref b1), (.int (0 : Int32)), (.int (3 : Int32))]) (rest := []) (lenOf pd_1 rfl) rfl (by show 2 * 0 + _ ≤ _; exact Nat.le_of_eq rfl) (hb hby d5_9) (fun _ _ => ⟨rfl, e1, (by decide : 1 + 0 ≤ _), (by decide : 3 + 0 ≤ _)⟩)
  dsimp only [Pt.U, Pt.locs, Pt.cells, Pt.slots] at X3 l3 y3 z3 st3 hQ3
  subst l3 y3 z3
  obtain ⟨rfl, N3q, K3q, B3_0⟩ := hQ3
  have Z3 : n0 ≤ T3.heap.size := Nat.le_trans Z1 K3q.1
  have K3 : Keep h0 T3.heap [] := K1.trans K3q (allS (Or.inr sz_b1) all0)
  have N3 := Fr.app N0 N3q
  replace G : Gets p e below _ (T3.setTop (mkF m 12 #[.val (.ref a), .val (.int (0 : Int32)), .val (.int (3 : Int32)), .val (.ref b1), .unset, .unset] [(.int (3 : Int32))])) := fun t k => G t (st3 t k)
  replace G := own_istore (q := 14) (l' := #[.val (.ref a), .val (.int (0 : Int32)), .val (.int (3 : Int32)), .val (.ref b1), .val (.int (3 : Int32)), .unset]) G X3.here hx (hb hby d5_12) rfl rfl
  replace G := own_iload (q := 16) G X3.here hx (hb hby d5_14) rfl rfl
  replace G := own_iloadN (q := 17) G X3.here hx (hb hby d5_16) rfl rfl
  have hc17_5 : (3 : Int32) = (3 : Int32) := by decide
  replace G := own_icmpYes (q := 57) G X3.here hx (hb hby d5_17) (teq hc17_5).1 (by decide) (by decide)
  replace G := own_aloadN (q := 58) G X3.here hx (hb hby d5_57) rfl rfl rfl
  obtain ⟨fs, hr, hrun, hended, hW, hsame⟩ := X3.leave (v := some (.ref b1)) (fun h => by rw [Bd.returns] at h; cases h)
  refine ⟨_, _, G _ (retOut X3 hx Bd.returns rfl (Or.inr (Or.inr (Or.inr (Or.inr ⟨rfl, rfl, rfl⟩)))) (hb hby d5_58) hr), hrun, hended, _, _, rfl, ?_, ⟨_, rfl⟩, hW, hsame.mono (by decide) (by decide)⟩
  show Q5n3 Z a ks ec0 ec1 ec2 h0 n0 _ T3.heap _
  exact ⟨b1, k1, rfl, N3, K3, sz_b1, B3_0⟩
theorem ef_7n3 (m : MethodId) (x0 : Addr) : entryFrame m #[(.ref x0), (.int (3 : Int32))] 2 = mkF m 0 #[.val (.ref x0), .val (.int (3 : Int32))] [] := by first | (simp [entryFrame, mkF, argsToLocals, Value.category]; done) | rfl
def Q7n3 (Z : State) (d : Addr) (kd : ClassId) (vs : List Value) (h0 : Heap) (n0 : Nat) (v : Option Value) (h : Heap) (L : List Loc) : Prop := v = some (.int (0 : Int32)) ∧ Fr n0 L ∧ h = h0
set_option maxRecDepth 65536 in
set_option maxHeartbeats 40000000 in
theorem rm7n3 (l : Launch) (Z : State) (a0 : Array Value) (hw : ∀ d ∈ tables_1, d.before a0 Z = true) (ws : List Jvm.Cond) (d : Addr) (kd : ClassId) (vs : List Value) (h0 : Heap) (n0 : Nat) (Z0 : n0 ≤ h0.size) (P0 : Arv Z h0 d kd .byte (3 : Int32) vs (.int (0 : Int32))) :
    MetFree l (⟨"java/lang/StringUTF16", "coderFromArrayLen", "([BI)B"⟩ : MethodName) (head1 (Jvm.Cond.code (⟨"java/lang/StringUTF16", "coderFromArrayLen", "([BI)B"⟩ : MethodName) jdk_52_method_15_code 2 (some .byte) :: ws) ({ frames := 0, cells := 0, slots := 0, locals := 0 } : Room)) (fun argz U => argz = #[(.ref d), (.int (3 : Int32))] ∧ Z.Warmed39 U.vm ∧ U.heap = h0) (fun _ _ _ _ _ => True) (fun _ U o U' => ∃ v L, o = .returned v ∧ Q7n3 Z d kd vs h0 n0 v U'.heap L ∧ FrameEnd U o U' L ({ frames := 0, cells := 0, slots := 0, locals := 0 } : Room).cells ({ frames := 0, cells := 0, slots := 0, locals := 0 } : Room).slots) := by
  refine MetFree.of_bodySF (plainFor_of_name pn_java_lang_StringUTF16) hisR ?_
  intro p e s m args below meth c s₁ Bd hml0 hP hK
  obtain ⟨rfl, hZ, hh⟩ := hP
  have hx := Bd.exec
  have hby := Bd.bytes
  have hml : c.maxLocals = 2 := hml0
  have hown : s.vm.findClass "java/lang/StringUTF16" = some m.cls := findClass_of_methodNamed Bd.named
  have hnm := (name_of_methodNamed Bd.named Bd.method).1
  have X0 : Stand p l e ({ frames := 0, cells := 0, slots := 0, locals := 0 } : Room) s m #[(.ref d), (.int (3 : Int32))] below meth c s₁ [] 0 0 := Stand.of_body Bd
  have e0 : s₁.heap = h0 := by rw [← hh, Bd.state]; rfl
  have N0 := Fr.nil n0
  have G : Gets p e below (s₁.setTop (entryFrame m #[(.ref d), (.int (3 : Int32))] 2)) (s₁.setTop (mkF m 0 #[.val (.ref d), .val (.int (3 : Int32))] [])) := fun t k => castTop (ef_7n3 m d) k
  replace G := own_iloadN (q := 1) G X0.here hx (hb hby d7_0) rfl rfl
  replace G := own_aloadN (q := 2) G X0.here hx (hb hby d7_1) rfl rfl rfl
  obtain ⟨c1, Ar1, -, S1, N1', -, -⟩ := id P0
  replace G : Gets p e below _ (s₁.setTop (mkF m 3 #[.val (.ref d), .val (.int (3 : Int32))] [(.int (3 : Int32)), (.int (3 : Int32))])) := fun t k => G t (X0.arraylength hx (by rw [e0]; exact Ar1.1) (State.isArrayOf_alike hZ.alike Ar1.2.1) (g := (mkF m 2 #[.val (.ref d), .val (.int (3 : Int32))] [(.ref d), (.int (3 : Int32))])) rfl rfl (hb hby d7_2) t (by rw [len_of S1 N1']; exact k))
  replace G := own_isub (q := 4) G X0.here hx (hb hby d7_3) (by decide : ((3 : Int32) - (3 : Int32)) = (0 : Int32)) rfl
  replace G := own_bipush (q := 6) G X0.here hx (hb hby d7_4) (v := (31 : Int32)) (by decide) rfl
  replace G := own_iushr (q := 7) G X0.here hx (hb hby d7_6) (by decide : (((0 : Int32).toUInt32 >>> ((31 : Int32) &&& 31).toUInt32).toInt32) = (0 : Int32)) rfl
  replace G := own_i2b (q := 8) G X0.here hx (hb hby d7_7) (by decide : ((0 : Int32).toInt8.toInt32) = (0 : Int32)) rfl
  obtain ⟨fs, hr, hrun, hended, hW, hsame⟩ := X0.leave (v := some (.int (0 : Int32))) (fun h => by rw [Bd.returns] at h; cases h)
  refine ⟨_, _, G _ (retOut X0 hx Bd.returns rfl (Or.inl ⟨rfl, Or.inr (Or.inr (Or.inl rfl)), _, rfl⟩) (hb hby d7_8) hr), hrun, hended, _, _, rfl, ?_, ⟨_, rfl⟩, hW, hsame.mono (by decide) (by decide)⟩
  show Q7n3 Z d kd vs h0 n0 _ s₁.heap _
  rw [e0]
  exact ⟨rfl, N0, rfl⟩
theorem ef_3n3 (m : MethodId) (x0 : Addr) (x1 : Addr) : entryFrame m #[(.ref x0), (.ref x1), (.int (0 : Int32)), (.int (3 : Int32)), .null] 6 = mkF m 0 #[.val (.ref x0), .val (.ref x1), .val (.int (0 : Int32)), .val (.int (3 : Int32)), .val .null, .unset] [] := by first | (simp [entryFrame, mkF, argsToLocals, Value.category]; done) | rfl
def Q3n3 (Z : State) (tt : Addr) (a : Addr) (ks : ClassId) (cw : Int32) (ec0 : Int32) (ec1 : Int32) (ec2 : Int32) (h0 : Heap) (n0 : Nat) (v : Option Value) (h : Heap) (L : List Loc) : Prop := ∃ (b : Addr) (kb : ClassId), v = none ∧ Fr n0 L ∧ Keep h0 h [tt] ∧ (Fld Z h tt "java/lang/String" "value" "[B" (.ref b)) ∧ (Fld Z h tt "java/lang/String" "coder" "B" (.int (0 : Int32))) ∧ h0.size ≤ b ∧ (Arv Z h b kb .byte (3 : Int32) [(.int (nar .byte (ec0.toInt8.toInt32))), (.int (nar .byte (ec1.toInt8.toInt32))), (.int (nar .byte (ec2.toInt8.toInt32)))] (.int (0 : Int32)))
set_option maxRecDepth 65536 in
set_option maxHeartbeats 40000000 in
theorem rm3n3 (l : Launch) (Z : State) (a0 : Array Value) (hw : ∀ d ∈ tables_1, d.before a0 Z = true) (ws : List Jvm.Cond) (tt : Addr) (a : Addr) (ks : ClassId) (cw : Int32) (ec0 : Int32) (ec1 : Int32) (ec2 : Int32) (h0 : Heap) (n0 : Nat) (Z0 : n0 ≤ h0.size) (P0 : Fld Z h0 tt "java/lang/String" "value" "[B" .null) (P1 : Fld Z h0 tt "java/lang/String" "coder" "B" (.int (0 : Int32))) (P2 : Exa Z h0 tt "java/lang/String") (P3 : n0 ≤ tt) (P4 : Arv Z h0 a ks .char (3 : Int32) [(.int ec0), (.int ec1), (.int ec2)] (.int (0 : Int32))) (P5 : Sta Z h0 "java/lang/String" "COMPACT_STRINGS" "Z" (.int cw)) (hcw : ¬ cw = (0 : Int32)) (he0 : ¬ ((255 : Int32) < ec0)) (he1 : ¬ ((255 : Int32) < ec1)) (he2 : ¬ ((255 : Int32) < ec2)) :
    MetFree l (⟨"java/lang/String", "<init>", "([CIILjava/lang/Void;)V"⟩ : MethodName) (head1 (Jvm.Cond.code (⟨"java/lang/String", "<init>", "([CIILjava/lang/Void;)V"⟩ : MethodName) jdk_42_method_149_code 6 none :: ws) ({ frames := 2, cells := 1, slots := 3, locals := 35 } : Room)) (fun argz U => argz = #[(.ref tt), (.ref a), (.int (0 : Int32)), (.int (3 : Int32)), .null] ∧ Z.Warmed39 U.vm ∧ U.heap = h0) (fun _ _ _ _ _ => True) (fun _ U o U' => ∃ v L, o = .returned v ∧ Q3n3 Z tt a ks cw ec0 ec1 ec2 h0 n0 v U'.heap L ∧ FrameEnd U o U' L ({ frames := 2, cells := 1, slots := 3, locals := 35 } : Room).cells ({ frames := 2, cells := 1, slots := 3, locals := 35 } : Room).slots) := by
  refine MetFree.of_bodySF (plainFor_of_name pn_java_lang_String) hisR ?_
  intro p e s m args below meth c s₁ Bd hml0 hP hK
  obtain ⟨rfl, hZ, hh⟩ := hP
  have hx := Bd.exec
  have hby := Bd.bytes
  have hml : c.maxLocals = 6 := hml0
  have hown : s.vm.findClass "java/lang/String" = some m.cls := findClass_of_methodNamed Bd.named
  have hnm := (name_of_methodNamed Bd.named Bd.method).1
  have X0 : Stand p l e ({ frames := 2, cells := 1, slots := 3, locals := 35 } : Room) s m #[(.ref tt), (.ref a), (.int (0 : Int32)), (.int (3 : Int32)), .null] below meth c s₁ [] 0 0 := Stand.of_body Bd
  have e0 : s₁.heap = h0 := by rw [← hh, Bd.state]; rfl
  have N0 := Fr.nil n0
  have K0 : Keep h0 h0 [tt] := Keep.refl _ _
  have G : Gets p e below (s₁.setTop (entryFrame m #[(.ref tt), (.ref a), (.int (0 : Int32)), (.int (3 : Int32)), .null] 6)) (s₁.setTop (mkF m 0 #[.val (.ref tt), .val (.ref a), .val (.int (0 : Int32)), .val (.int (3 : Int32)), .val .null, .unset] [])) := fun t k => castTop (ef_3n3 m tt a) k
  replace G := own_aloadN (q := 1) G X0.here hx (hb hby d3_0) rfl rfl rfl
  obtain ⟨T1, X1, e1, st1⟩ := initO X0 hx hZ hown (hw _ (List.mem_of_getElem? (i := 15) rfl)) (hw _ (List.mem_of_getElem? (i := 16) rfl)) (hw _ (List.mem_of_getElem? (i := 17) rfl)) e0 (g := (mkF m 1 #[.val (.ref tt), .val (.ref a), .val (.int (0 : Int32)), .val (.int (3 : Int32)), .val .null, .unset] [(.ref tt)])) rfl (by rw [hml]; rfl) rfl (hb hby d3_1) (by decide) (W := 0) (by show 2 * 0 + _ ≤ _; exact Nat.le_of_eq rfl) (by decide)
  replace G : Gets p e below _ (T1.setTop (mkF m 4 #[.val (.ref tt), .val (.ref a), .val (.int (0 : Int32)), .val (.int (3 : Int32)), .val .null, .unset] [])) := fun t k => G t (st1 t k)
  replace G := own_iloadN (q := 5) G X1.here hx (hb hby d3_4) rfl rfl
  have hc5_2 : ¬ ((3 : Int32) = (0 : Int32)) := by decide
  replace G := own_ifYes (q := 27) G X1.here hx (hb hby d3_5) ((if0 _ _).trans (feq hc5_2).2) (by decide) (by decide)
  obtain ⟨T3, X3, e3, st3⟩ := getS2 X1 hx hZ hown (host := "") (Or.inl (hw _ (List.mem_of_getElem? (i := 18) rfl))) Via.refl e1 P5 (g := (mkF m 27 #[.val (.ref tt), .val (.ref a), .val (.int (0 : Int32)), .val (.int (3 : Int32)), .val .null, .unset] [])) rfl (hb hby d3_27)
  replace G : Gets p e below _ (T3.setTop (mkF m 30 #[.val (.ref tt), .val (.ref a), .val (.int (0 : Int32)), .val (.int (3 : Int32)), .val .null, .unset] [(.int cw)])) := fun t k => G t (st3 t k)
  have hc30_4 : ¬ (cw = (0 : Int32)) := hcw
  replace G := own_ifNo (q := 33) G X3.here hx (hb hby d3_30) ((if0 _ _).trans (feq hc30_4).1) rfl
  replace G := own_aloadN (q := 34) G X3.here hx (hb hby d3_33) rfl rfl rfl
  replace G := own_iloadN (q := 35) G X3.here hx (hb hby d3_34) rfl rfl
  replace G := own_iloadN (q := 36) G X3.here hx (hb hby d3_35) rfl rfl
  obtain ⟨_, _, ⟨T5, L5, kk5, nn5⟩, -, X5, ⟨Lc5, hQ5, l5, y5, z5⟩, st5⟩ := Jvm.LawKit.callS X3 hx (y := (⟨"java/lang/StringUTF16", "compress", "([CII)[B"⟩ : MethodName)) hown (mvT hZ (hw _ (List.mem_of_getElem? (i := 19) rfl))) (mvT hZ (hw _ (List.mem_of_getElem? (i := 20) rfl))) (mvT hZ (hw _ (List.mem_of_getElem? (i := 21) rfl))) (mvT hZ (hw _ (List.mem_of_getElem? (i := 22) rfl))) (by decide) (backOf (W := 0) (rm5n3 l Z a0 hw [] a ks ec0 ec1 ec2 h0 n0 Z0 P4 he0 he1 he2) hZ (hw _ (List.mem_of_getElem? (i := 22) rfl)) (hw _ (List.mem_of_getElem? (i := 21) rfl)) (by decide) (by decide)) (g := (mkF m 36 #[.val (.ref tt), .val (.ref a), .val (.int (0 : Int32)), .val (.int (3 : Int32)), .val .null, .unset] [(.int (3 : Int32)), (.int (0 : Int32)), (.ref a)])) rfl (by rw [hml]; rfl) (argsL := [(.ref a), (.int (0 : Int32)), (.int (3 : Int32))]) (rest := []) (lenOf pd_2 rfl) rfl (by show 2 * 0 + _ ≤ _; exact Nat.le_of_eq rfl) (hb hby d3_36) (fun _ _ => ⟨rfl, e3, (by decide : 0 + 1 ≤ _), (by decide : 0 + 3 ≤ _)⟩)
  dsimp only [Pt.U, Pt.locs, Pt.cells, Pt.slots] at X5 l5 y5 z5 st5 hQ5
  subst l5 y5 z5
  obtain ⟨b_5, kb_5, rfl, N5q, K5q, B5_0, B5_1⟩ := hQ5
  have ne6 : tt ≠ b_5 := Nat.ne_of_lt (Nat.lt_of_lt_of_le P0.lt B5_0)
  have ne7 : a ≠ b_5 := Nat.ne_of_lt (Nat.lt_of_lt_of_le P4.lt B5_0)
  have ge_b_5 : n0 ≤ b_5 := Nat.le_trans Z0 B5_0
  have sz_b_5 : h0.size ≤ b_5 := Nat.le_trans K0.1 B5_0
  have Z5 : n0 ≤ T5.heap.size := Nat.le_trans Z0 K5q.1
  have K5 : Keep h0 T5.heap [tt] := K0.trans K5q all0
  have N5 := Fr.app N0 N5q
  replace G : Gets p e below _ (T5.setTop (mkF m 39 #[.val (.ref tt), .val (.ref a), .val (.int (0 : Int32)), .val (.int (3 : Int32)), .val .null, .unset] [(.ref b_5)])) := fun t k => G t (st5 t k)
  replace G := own_astore (q := 41) (l' := #[.val (.ref tt), .val (.ref a), .val (.int (0 : Int32)), .val (.int (3 : Int32)), .val .null, .val (.ref b_5)]) G X5.here hx (hb hby d3_39) rfl rfl rfl
  replace G := own_aloadN (q := 42) G X5.here hx (hb hby d3_41) rfl rfl rfl
  replace G := own_aload (q := 44) G X5.here hx (hb hby d3_42) rfl rfl rfl
  replace G := own_iloadN (q := 45) G X5.here hx (hb hby d3_44) rfl rfl
  obtain ⟨_, _, ⟨T8, L8, kk8, nn8⟩, -, X8, ⟨Lc8, hQ8, l8, y8, z8⟩, st8⟩ := Jvm.LawKit.callS X5 hx (y := (⟨"java/lang/StringUTF16", "coderFromArrayLen", "([BI)B"⟩ : MethodName)) hown (mvT hZ (hw _ (List.mem_of_getElem? (i := 27) rfl))) (mvT hZ (hw _ (List.mem_of_getElem? (i := 28) rfl))) (mvT hZ (hw _ (List.mem_of_getElem? (i := 21) rfl))) (mvT hZ (hw _ (List.mem_of_getElem? (i := 29) rfl))) (by decide) (backOf (W := 1) (rm7n3 l Z a0 hw [] b_5 kb_5 [(.int (nar .byte (ec0.toInt8.toInt32))), (.int (nar .byte (ec1.toInt8.toInt32))), (.int (nar .byte (ec2.toInt8.toInt32)))] T5.heap n0 Z5 B5_1) hZ (hw _ (List.mem_of_getElem? (i := 29) rfl)) (hw _ (List.mem_of_getElem? (i := 21) rfl)) (by decide) (by decide)) (g := (mkF m 45 #[.val (.ref tt), .val (.ref a), .val (.int (0 : Int32)), .val (.int (3 : Int32)), .val .null, .val (.ref b_5)] [(.int (3 : Int32)), (.ref b_5), (.ref tt)])) rfl (by rw [hml]; rfl) (argsL := [(.ref b_5), (.int (3 : Int32))]) (rest := [(.ref tt)]) (lenOf pd_3 rfl) rfl (by show 2 * 0 + _ ≤ _; exact Nat.le_of_eq rfl) (hb hby d3_45) (fun _ _ => ⟨rfl, rfl, (by decide : 1 + 0 ≤ _), (by decide : 3 + 0 ≤ _)⟩)
  dsimp only [Pt.U, Pt.locs, Pt.cells, Pt.slots] at X8 l8 y8 z8 st8 hQ8
  subst l8 y8 z8
  obtain ⟨rfl, N8q, e8⟩ := hQ8
  have N8 := Fr.app N5 N8q
  replace G : Gets p e below _ (T8.setTop (mkF m 48 #[.val (.ref tt), .val (.ref a), .val (.int (0 : Int32)), .val (.int (3 : Int32)), .val .null, .val (.ref b_5)] [(.int (0 : Int32)), (.ref tt)])) := fun t k => G t (st8 t k)
  have F9 : Exa Z T5.heap tt "java/lang/String" := (P2.keep K5q)
  have F10 : Fld Z T5.heap tt "java/lang/String" "coder" "B" (.int (0 : Int32)) := (P1.keep K5q nin0)
  obtain ⟨T11, h11, X11, e11, W11, st11⟩ := putFN X8 hx hZ hown (hw _ (List.mem_of_getElem? (i := 30) rfl)) Via.refl e8 F10 F9 (Or.inr ⟨(hw _ (List.mem_of_getElem? (i := 31) rfl)), rfl, hnm⟩) (hw _ (List.mem_of_getElem? (i := 5) rfl)) (ty := .byte) (v' := (.int (0 : Int32))) (by decide) rfl (by first | rfl | decide) (g := (mkF m 48 #[.val (.ref tt), .val (.ref a), .val (.int (0 : Int32)), .val (.int (3 : Int32)), .val .null, .val (.ref b_5)] [(.int (0 : Int32)), (.ref tt)])) rfl rfl (hb hby d3_48)
  have N11 := Fr.snoc X11 N8 P3
  have Z11 : n0 ≤ h11.size := Nat.le_trans Z5 (Keep.of_wr W11).1
  have K11 : Keep h0 h11 [tt] := K5.wr W11 (Or.inl (List.mem_of_getElem? (i := 0) rfl))
  have F11 : Fld Z h11 tt "java/lang/String" "coder" "B" (.int (0 : Int32)) := F10.same W11
  replace G : Gets p e below _ (T11.setTop (mkF m 51 #[.val (.ref tt), .val (.ref a), .val (.int (0 : Int32)), .val (.int (3 : Int32)), .val .null, .val (.ref b_5)] [])) := fun t k => G t (st11 t k)
  replace G := own_aloadN (q := 52) G X11.here hx (hb hby d3_51) rfl rfl rfl
  replace G := own_aload (q := 54) G X11.here hx (hb hby d3_52) rfl rfl rfl
  have F12 : Exa Z h11 tt "java/lang/String" := (F9.wr W11)
  have F13 : Fld Z h11 tt "java/lang/String" "value" "[B" .null := ((P0.keep K5q nin0).other W11 (Or.inr (slot_ne (Or.inr (hw _ (List.mem_of_getElem? (i := 33) rfl))) (Or.inr (hw _ (List.mem_of_getElem? (i := 31) rfl))) (by decide) (t := (.array .byte)) (t' := .byte) (by decide) (by decide))))
  obtain ⟨T14, h14, X14, e14, W14, st14⟩ := putF X11 hx hZ hown (host := "") (Or.inl (hw _ (List.mem_of_getElem? (i := 32) rfl))) Via.refl e11 F13 F12 (Or.inr ⟨(hw _ (List.mem_of_getElem? (i := 33) rfl)), rfl, hnm⟩) (hw _ (List.mem_of_getElem? (i := 5) rfl)) (ty := (.array .byte)) (by decide) rfl rfl (g := (mkF m 54 #[.val (.ref tt), .val (.ref a), .val (.int (0 : Int32)), .val (.int (3 : Int32)), .val .null, .val (.ref b_5)] [(.ref b_5), (.ref tt)])) rfl rfl (hb hby d3_54)
  have N14 := Fr.snoc X14 N11 P3
  have Z14 : n0 ≤ h14.size := Nat.le_trans Z11 (Keep.of_wr W14).1
  have K14 : Keep h0 h14 [tt] := K11.wr W14 (Or.inl (List.mem_of_getElem? (i := 0) rfl))
  have F14 : Fld Z h14 tt "java/lang/String" "value" "[B" (.ref b_5) := F13.same W14
  replace G : Gets p e below _ (T14.setTop (mkF m 57 #[.val (.ref tt), .val (.ref a), .val (.int (0 : Int32)), .val (.int (3 : Int32)), .val .null, .val (.ref b_5)] [])) := fun t k => G t (st14 t k)
  obtain ⟨fs, hr, hrun, hended, hW, hsame⟩ := X14.leave (v := none) (fun _ => rfl)
  refine ⟨_, _, G _ (X14.returnOut hx Bd.returns (hb hby d3_57) hr), hrun, hended, _, _, rfl, ?_, ⟨_, rfl⟩, hW, hsame.mono (by decide) (by decide)⟩
  have F15 : Fld Z h14 tt "java/lang/String" "coder" "B" (.int (0 : Int32)) := (F11.other W14 (Or.inr (slot_ne (Or.inr (hw _ (List.mem_of_getElem? (i := 31) rfl))) (Or.inr (hw _ (List.mem_of_getElem? (i := 33) rfl))) (by decide) (t := .byte) (t' := (.array .byte)) (by decide) (by decide))))
  have F16 : Arv Z h14 b_5 kb_5 .byte (3 : Int32) [(.int (nar .byte (ec0.toInt8.toInt32))), (.int (nar .byte (ec1.toInt8.toInt32))), (.int (nar .byte (ec2.toInt8.toInt32)))] (.int (0 : Int32)) := ((B5_1.other W11 (Ne.symm ne6)).other W14 (Ne.symm ne6))
  show Q3n3 Z tt a ks cw ec0 ec1 ec2 h0 n0 _ T14.heap _
  rw [e14]
  exact ⟨b_5, kb_5, rfl, N14, K14, F14, F15, sz_b_5, F16⟩
theorem ef_2n3 (m : MethodId) (x0 : Addr) (x1 : Addr) : entryFrame m #[(.ref x0), (.ref x1)] 2 = mkF m 0 #[.val (.ref x0), .val (.ref x1)] [] := by first | (simp [entryFrame, mkF, argsToLocals, Value.category]; done) | rfl
def Q2n3 (Z : State) (tt : Addr) (a : Addr) (ks : ClassId) (cw : Int32) (ec0 : Int32) (ec1 : Int32) (ec2 : Int32) (h0 : Heap) (n0 : Nat) (v : Option Value) (h : Heap) (L : List Loc) : Prop := ∃ (b : Addr) (kb : ClassId), v = none ∧ Fr n0 L ∧ Keep h0 h [tt] ∧ (Fld Z h tt "java/lang/String" "value" "[B" (.ref b)) ∧ (Fld Z h tt "java/lang/String" "coder" "B" (.int (0 : Int32))) ∧ h0.size ≤ b ∧ (Arv Z h b kb .byte (3 : Int32) [(.int (nar .byte (ec0.toInt8.toInt32))), (.int (nar .byte (ec1.toInt8.toInt32))), (.int (nar .byte (ec2.toInt8.toInt32)))] (.int (0 : Int32)))
set_option maxRecDepth 65536 in
set_option maxHeartbeats 40000000 in
theorem rm2n3 (l : Launch) (Z : State) (a0 : Array Value) (hw : ∀ d ∈ tables_1, d.before a0 Z = true) (ws : List Jvm.Cond) (tt : Addr) (a : Addr) (ks : ClassId) (cw : Int32) (ec0 : Int32) (ec1 : Int32) (ec2 : Int32) (h0 : Heap) (n0 : Nat) (Z0 : n0 ≤ h0.size) (P0 : Fld Z h0 tt "java/lang/String" "value" "[B" .null) (P1 : Fld Z h0 tt "java/lang/String" "coder" "B" (.int (0 : Int32))) (P2 : Exa Z h0 tt "java/lang/String") (P3 : n0 ≤ tt) (P4 : Arv Z h0 a ks .char (3 : Int32) [(.int ec0), (.int ec1), (.int ec2)] (.int (0 : Int32))) (P5 : Sta Z h0 "java/lang/String" "COMPACT_STRINGS" "Z" (.int cw)) (hcw : ¬ cw = (0 : Int32)) (he0 : ¬ ((255 : Int32) < ec0)) (he1 : ¬ ((255 : Int32) < ec1)) (he2 : ¬ ((255 : Int32) < ec2)) :
    MetFree l (⟨"java/lang/String", "<init>", "([C)V"⟩ : MethodName) (head1 (Jvm.Cond.code (⟨"java/lang/String", "<init>", "([C)V"⟩ : MethodName) jdk_42_method_3_code 2 none :: ws) ({ frames := 3, cells := 1, slots := 3, locals := 52 } : Room)) (fun argz U => argz = #[(.ref tt), (.ref a)] ∧ Z.Warmed39 U.vm ∧ U.heap = h0) (fun _ _ _ _ _ => True) (fun _ U o U' => ∃ v L, o = .returned v ∧ Q2n3 Z tt a ks cw ec0 ec1 ec2 h0 n0 v U'.heap L ∧ FrameEnd U o U' L ({ frames := 3, cells := 1, slots := 3, locals := 52 } : Room).cells ({ frames := 3, cells := 1, slots := 3, locals := 52 } : Room).slots) := by
  refine MetFree.of_bodySF (plainFor_of_name pn_java_lang_String) hisR ?_
  intro p e s m args below meth c s₁ Bd hml0 hP hK
  obtain ⟨rfl, hZ, hh⟩ := hP
  have hx := Bd.exec
  have hby := Bd.bytes
  have hml : c.maxLocals = 2 := hml0
  have hown : s.vm.findClass "java/lang/String" = some m.cls := findClass_of_methodNamed Bd.named
  have hnm := (name_of_methodNamed Bd.named Bd.method).1
  have X0 : Stand p l e ({ frames := 3, cells := 1, slots := 3, locals := 52 } : Room) s m #[(.ref tt), (.ref a)] below meth c s₁ [] 0 0 := Stand.of_body Bd
  have e0 : s₁.heap = h0 := by rw [← hh, Bd.state]; rfl
  have N0 := Fr.nil n0
  have K0 : Keep h0 h0 [tt] := Keep.refl _ _
  have G : Gets p e below (s₁.setTop (entryFrame m #[(.ref tt), (.ref a)] 2)) (s₁.setTop (mkF m 0 #[.val (.ref tt), .val (.ref a)] [])) := fun t k => castTop (ef_2n3 m tt a) k
  replace G := own_aloadN (q := 1) G X0.here hx (hb hby d2_0) rfl rfl rfl
  replace G := own_aloadN (q := 2) G X0.here hx (hb hby d2_1) rfl rfl rfl
  replace G := own_iconst (q := 3) G X0.here hx (hb hby d2_2) (v := (0 : Int32)) (by decide) rfl
  replace G := own_aloadN (q := 4) G X0.here hx (hb hby d2_3) rfl rfl rfl
  obtain ⟨c1, Ar1, -, S1, N1', -, -⟩ := id P4
  replace G : Gets p e below _ (s₁.setTop (mkF m 5 #[.val (.ref tt), .val (.ref a)] [(.int (3 : Int32)), (.int (0 : Int32)), (.ref a), (.ref tt)])) := fun t k => G t (X0.arraylength hx (by rw [e0]; exact Ar1.1) (State.isArrayOf_alike hZ.alike Ar1.2.1) (g := (mkF m 4 #[.val (.ref tt), .val (.ref a)] [(.ref a), (.int (0 : Int32)), (.ref a), (.ref tt)])) rfl rfl (hb hby d2_4) t (by rw [len_of S1 N1']; exact k))
  replace G := own_aconst_null (q := 6) G X0.here hx (hb hby d2_5) rfl
  obtain ⟨_, _, ⟨T2, L2, kk2, nn2⟩, -, X2, ⟨Lc2, hQ2, l2, y2, z2⟩, st2⟩ := X0.specialBack hx (y := (⟨"java/lang/String", "<init>", "([CIILjava/lang/Void;)V"⟩ : MethodName)) rfl hown (mvT hZ (hw _ (List.mem_of_getElem? (i := 11) rfl))) (mvT hZ (hw _ (List.mem_of_getElem? (i := 12) rfl))) (mvT hZ (hw _ (List.mem_of_getElem? (i := 14) rfl))) (by decide) (backOf (W := 0) (rm3n3 l Z a0 hw [] tt a ks cw ec0 ec1 ec2 h0 n0 Z0 P0 P1 P2 P3 P4 P5 hcw he0 he1 he2) hZ (hw _ (List.mem_of_getElem? (i := 14) rfl)) (hw _ (List.mem_of_getElem? (i := 6) rfl)) (by decide) (by decide)) (g := (mkF m 6 #[.val (.ref tt), .val (.ref a)] [.null, (.int (3 : Int32)), (.int (0 : Int32)), (.ref a), (.ref tt)])) rfl (by rw [hml]; rfl) (Steps.refl _) (a := tt) (argsL := [(.ref a), (.int (0 : Int32)), (.int (3 : Int32)), .null]) (rest := []) (lenOf pd_0 rfl) rfl (by show 2 * 0 + _ ≤ _; exact Nat.le_of_eq rfl) (hb hby d2_6) (fun _ _ => ⟨rfl, e0, (by decide : 0 + 1 ≤ _), (by decide : 0 + 3 ≤ _)⟩)
  dsimp only [Pt.U, Pt.locs, Pt.cells, Pt.slots] at X2 l2 y2 z2 st2 hQ2
  subst l2 y2 z2
  obtain ⟨b_2, kb_2, rfl, N2q, K2q, B2_0, B2_1, B2_2, B2_3⟩ := hQ2
  have ne3 : tt ≠ b_2 := Nat.ne_of_lt (Nat.lt_of_lt_of_le P0.lt B2_2)
  have ne4 : a ≠ b_2 := Nat.ne_of_lt (Nat.lt_of_lt_of_le P4.lt B2_2)
  have ge_b_2 : n0 ≤ b_2 := Nat.le_trans Z0 B2_2
  have sz_b_2 : h0.size ≤ b_2 := Nat.le_trans K0.1 B2_2
  have Z2 : n0 ≤ T2.heap.size := Nat.le_trans Z0 K2q.1
  have K2 : Keep h0 T2.heap [tt] := K0.trans K2q (allS (Or.inl (List.mem_of_getElem? (i := 0) rfl)) all0)
  have N2 := Fr.app N0 N2q
  replace G : Gets p e below _ (T2.setTop (mkF m 9 #[.val (.ref tt), .val (.ref a)] [])) := fun t k => G t (st2.trans k)
  obtain ⟨fs, hr, hrun, hended, hW, hsame⟩ := X2.leave (v := none) (fun _ => rfl)
  refine ⟨_, _, G _ (X2.returnOut hx Bd.returns (hb hby d2_9) hr), hrun, hended, _, _, rfl, ?_, ⟨_, rfl⟩, hW, hsame.mono (by decide) (by decide)⟩
  show Q2n3 Z tt a ks cw ec0 ec1 ec2 h0 n0 _ T2.heap _
  exact ⟨b_2, kb_2, rfl, N2, K2, B2_0, B2_1, sz_b_2, B2_3⟩
theorem own_m3 {x i : Int32} (h : (x &&& 3) = i) : 0 ≤ i.toInt ∧ i.toInt < 4 := by
  have a := c_mask x 3 2 (by decide) (by decide)
  rw [h] at a; omega
theorem pd_4 : parseMethodDescriptor "([C)V" = some ⟨[(.array .char)], none⟩ := by decide +kernel
theorem d1_0 : decode method_3_code 0 = .ok (.iload_n 0, 1) := by decide +kernel
theorem d1_1 : decode method_3_code 1 = .ok (.sipush 255, 3) := by decide +kernel
theorem d1_4 : decode method_3_code 4 = .ok (.iand, 1) := by decide +kernel
theorem d1_5 : decode method_3_code 5 = .ok (.i2c, 1) := by decide +kernel
theorem d1_6 : decode method_3_code 6 = .ok (.istore 4, 2) := by decide +kernel
theorem d1_8 : decode method_3_code 8 = .ok (.iload_n 1, 1) := by decide +kernel
theorem d1_9 : decode method_3_code 9 = .ok (.sipush 255, 3) := by decide +kernel
theorem d1_12 : decode method_3_code 12 = .ok (.iand, 1) := by decide +kernel
theorem d1_13 : decode method_3_code 13 = .ok (.i2c, 1) := by decide +kernel
theorem d1_14 : decode method_3_code 14 = .ok (.istore 5, 2) := by decide +kernel
theorem d1_16 : decode method_3_code 16 = .ok (.iload_n 2, 1) := by decide +kernel
theorem d1_17 : decode method_3_code 17 = .ok (.sipush 255, 3) := by decide +kernel
theorem d1_20 : decode method_3_code 20 = .ok (.iand, 1) := by decide +kernel
theorem d1_21 : decode method_3_code 21 = .ok (.i2c, 1) := by decide +kernel
theorem d1_22 : decode method_3_code 22 = .ok (.istore 6, 2) := by decide +kernel
theorem d1_24 : decode method_3_code 24 = .ok (.iload_n 3, 1) := by decide +kernel
theorem d1_25 : decode method_3_code 25 = .ok (.iconst 3, 1) := by decide +kernel
theorem d1_26 : decode method_3_code 26 = .ok (.iand, 1) := by decide +kernel
theorem d1_27 : decode method_3_code 27 = .ok (.istore 7, 2) := by decide +kernel
theorem d1_29 : decode method_3_code 29 = .ok (.iload 7, 2) := by decide +kernel
theorem d1_31 : decode method_3_code 31 = .ok (.ifCond .ne 14, 3) := by decide +kernel
theorem d1_34 : decode method_3_code 34 = .ok (.new 24, 3) := by decide +kernel
theorem d1_37 : decode method_3_code 37 = .ok (.dup, 1) := by decide +kernel
theorem d1_38 : decode method_3_code 38 = .ok (.iconst 0, 1) := by decide +kernel
theorem d1_39 : decode method_3_code 39 = .ok (.newarray .char, 2) := by decide +kernel
theorem d1_41 : decode method_3_code 41 = .ok (.invokespecial 46, 3) := by decide +kernel
theorem d1_44 : decode method_3_code 44 = .ok (.areturn, 1) := by decide +kernel
theorem d1_45 : decode method_3_code 45 = .ok (.iload 7, 2) := by decide +kernel
theorem d1_47 : decode method_3_code 47 = .ok (.iconst 1, 1) := by decide +kernel
theorem d1_48 : decode method_3_code 48 = .ok (.if_icmp .ne 19, 3) := by decide +kernel
theorem d1_51 : decode method_3_code 51 = .ok (.new 24, 3) := by decide +kernel
theorem d1_54 : decode method_3_code 54 = .ok (.dup, 1) := by decide +kernel
theorem d1_55 : decode method_3_code 55 = .ok (.iconst 1, 1) := by decide +kernel
theorem d1_56 : decode method_3_code 56 = .ok (.newarray .char, 2) := by decide +kernel
theorem d1_58 : decode method_3_code 58 = .ok (.dup, 1) := by decide +kernel
theorem d1_59 : decode method_3_code 59 = .ok (.iconst 0, 1) := by decide +kernel
theorem d1_60 : decode method_3_code 60 = .ok (.iload 4, 2) := by decide +kernel
theorem d1_62 : decode method_3_code 62 = .ok (.castore, 1) := by decide +kernel
theorem d1_63 : decode method_3_code 63 = .ok (.invokespecial 46, 3) := by decide +kernel
theorem d1_66 : decode method_3_code 66 = .ok (.areturn, 1) := by decide +kernel
theorem d1_67 : decode method_3_code 67 = .ok (.iload 7, 2) := by decide +kernel
theorem d1_69 : decode method_3_code 69 = .ok (.iconst 2, 1) := by decide +kernel
theorem d1_70 : decode method_3_code 70 = .ok (.if_icmp .ne 24, 3) := by decide +kernel
theorem d1_73 : decode method_3_code 73 = .ok (.new 24, 3) := by decide +kernel
theorem d1_76 : decode method_3_code 76 = .ok (.dup, 1) := by decide +kernel
theorem d1_77 : decode method_3_code 77 = .ok (.iconst 2, 1) := by decide +kernel
theorem d1_78 : decode method_3_code 78 = .ok (.newarray .char, 2) := by decide +kernel
theorem d1_80 : decode method_3_code 80 = .ok (.dup, 1) := by decide +kernel
theorem d1_81 : decode method_3_code 81 = .ok (.iconst 0, 1) := by decide +kernel
theorem d1_82 : decode method_3_code 82 = .ok (.iload 4, 2) := by decide +kernel
theorem d1_84 : decode method_3_code 84 = .ok (.castore, 1) := by decide +kernel
theorem d1_85 : decode method_3_code 85 = .ok (.dup, 1) := by decide +kernel
theorem d1_86 : decode method_3_code 86 = .ok (.iconst 1, 1) := by decide +kernel
theorem d1_87 : decode method_3_code 87 = .ok (.iload 5, 2) := by decide +kernel
theorem d1_89 : decode method_3_code 89 = .ok (.castore, 1) := by decide +kernel
theorem d1_90 : decode method_3_code 90 = .ok (.invokespecial 46, 3) := by decide +kernel
theorem d1_93 : decode method_3_code 93 = .ok (.areturn, 1) := by decide +kernel
theorem d1_94 : decode method_3_code 94 = .ok (.new 24, 3) := by decide +kernel
theorem d1_97 : decode method_3_code 97 = .ok (.dup, 1) := by decide +kernel
theorem d1_98 : decode method_3_code 98 = .ok (.iconst 3, 1) := by decide +kernel
theorem d1_99 : decode method_3_code 99 = .ok (.newarray .char, 2) := by decide +kernel
theorem d1_101 : decode method_3_code 101 = .ok (.dup, 1) := by decide +kernel
theorem d1_102 : decode method_3_code 102 = .ok (.iconst 0, 1) := by decide +kernel
theorem d1_103 : decode method_3_code 103 = .ok (.iload 4, 2) := by decide +kernel
theorem d1_105 : decode method_3_code 105 = .ok (.castore, 1) := by decide +kernel
theorem d1_106 : decode method_3_code 106 = .ok (.dup, 1) := by decide +kernel
theorem d1_107 : decode method_3_code 107 = .ok (.iconst 1, 1) := by decide +kernel
theorem d1_108 : decode method_3_code 108 = .ok (.iload 5, 2) := by decide +kernel
theorem d1_110 : decode method_3_code 110 = .ok (.castore, 1) := by decide +kernel
theorem d1_111 : decode method_3_code 111 = .ok (.dup, 1) := by decide +kernel
theorem d1_112 : decode method_3_code 112 = .ok (.iconst 2, 1) := by decide +kernel
theorem d1_113 : decode method_3_code 113 = .ok (.iload 6, 2) := by decide +kernel
theorem d1_115 : decode method_3_code 115 = .ok (.castore, 1) := by decide +kernel
theorem d1_116 : decode method_3_code 116 = .ok (.invokespecial 46, 3) := by decide +kernel
theorem d1_119 : decode method_3_code 119 = .ok (.areturn, 1) := by decide +kernel
theorem pn_com_example_assertgate_assertgate_store_OrganisationNamedPinLaw : plainName "com/example/assertgate/assertgate/store/OrganisationNamedPinLaw" = true := by first | (simp [plainName, overriddenIn]; done) | decide +kernel
theorem ef_1 (m : MethodId) (x0 : Int32) (x1 : Int32) (x2 : Int32) (x3 : Int32) : entryFrame m #[(.int x0), (.int x1), (.int x2), (.int x3)] 8 = mkF m 0 #[.val (.int x0), .val (.int x1), .val (.int x2), .val (.int x3), .unset, .unset, .unset, .unset] [] := by first | (simp [entryFrame, mkF, argsToLocals, Value.category]; done) | rfl
def Q1 (Z : State) (i0 : Int32) (i1 : Int32) (i2 : Int32) (i3 : Int32) (cw : Int32) (h0 : Heap) (n0 : Nat) (v : Option Value) (h : Heap) (L : List Loc) : Prop := ∃ (t : Addr), v = some (.ref t) ∧ Fr n0 L ∧ Keep h0 h [] ∧ h0.size ≤ t ∧ (Exa Z h t "java/lang/String")
set_option maxRecDepth 65536 in
set_option maxHeartbeats 40000000 in
theorem rm1 (l : Launch) (Z : State) (a0 : Array Value) (hw : ∀ d ∈ tables_1, d.before a0 Z = true) (ws : List Jvm.Cond) (i0 : Int32) (i1 : Int32) (i2 : Int32) (i3 : Int32) (cw : Int32) (h0 : Heap) (n0 : Nat) (Z0 : n0 ≤ h0.size) (P0 : Old Z n0 h0) (P1 : Sta Z Z.heap "java/lang/String" "COMPACT_STRINGS" "Z" (.int cw)) (hcw : ¬ cw = (0 : Int32)) (hch : Jvm.Lit.constHeld Z "java/lang/String" 7) (hcb : Jvm.Lit.compactW.before a0 Z = true) :
    MetFree l (⟨"com/example/assertgate/assertgate/store/OrganisationNamedPinLaw", "drawn", "(IIII)Ljava/lang/String;"⟩ : MethodName) (head1 (Jvm.Cond.code (⟨"com/example/assertgate/assertgate/store/OrganisationNamedPinLaw", "drawn", "(IIII)Ljava/lang/String;"⟩ : MethodName) method_3_code 8 (some (.object "java/lang/String")) :: ws) ({ frames := 4, cells := 4, slots := 10, locals := 66 } : Room)) (fun argz U => argz = #[(.int i0), (.int i1), (.int i2), (.int i3)] ∧ Z.Warmed39 U.vm ∧ U.heap = h0 ∧ IB Z U.vm []) (fun _ _ _ _ _ => True) (fun _ U o U' => ∃ v L, o = .returned v ∧ Q1 Z i0 i1 i2 i3 cw h0 n0 v U'.heap L ∧ ReturnedEndW U o U' L ({ frames := 4, cells := 4, slots := 10, locals := 66 } : Room).cells ({ frames := 4, cells := 4, slots := 10, locals := 66 } : Room).slots) := by
  refine MetFree.of_bodySF (plainFor_of_name pn_com_example_assertgate_assertgate_store_OrganisationNamedPinLaw) hisR ?_
  intro p e s m args below meth c s₁ Bd hml0 hP hK
  obtain ⟨rfl, hZ, hh, hV⟩ := hP
  have hx := Bd.exec
  have hby := Bd.bytes
  have hml : c.maxLocals = 8 := hml0
  have hown : s.vm.findClass "com/example/assertgate/assertgate/store/OrganisationNamedPinLaw" = some m.cls := findClass_of_methodNamed Bd.named
  have hnm := (name_of_methodNamed Bd.named Bd.method).1
  have X0 : Stand p l e ({ frames := 4, cells := 4, slots := 10, locals := 66 } : Room) s m #[(.int i0), (.int i1), (.int i2), (.int i3)] below meth c s₁ [] 0 0 := Stand.of_body Bd
  have e0 : s₁.heap = h0 := by rw [← hh, Bd.state]; rfl
  have N0 := Fr.nil n0
  have K0 : Keep h0 h0 [] := Keep.refl _ _
  have G : Gets p e below (s₁.setTop (entryFrame m #[(.int i0), (.int i1), (.int i2), (.int i3)] 8)) (s₁.setTop (mkF m 0 #[.val (.int i0), .val (.int i1), .val (.int i2), .val (.int i3), .unset, .unset, .unset, .unset] [])) := fun t k => castTop (ef_1 m i0 i1 i2 i3) k
  replace G := own_iloadN (q := 1) G X0.here hx (hb hby d1_0) rfl rfl
  replace G := own_sipush (q := 4) G X0.here hx (hb hby d1_1) (v := (255 : Int32)) (by decide) rfl
  replace G := own_iand (q := 5) G X0.here hx (hb hby d1_4) rfl rfl
  obtain ⟨c0, hn_c0⟩ : ∃ z : Int32, ((i0 &&& (255 : Int32)).toUInt32.toUInt16.toUInt32.toInt32) = z := ⟨_, rfl⟩
  replace G := own_i2c (q := 6) G X0.here hx (hb hby d1_5) hn_c0 rfl
  replace G := own_istore (q := 8) (l' := #[.val (.int i0), .val (.int i1), .val (.int i2), .val (.int i3), .val (.int c0), .unset, .unset, .unset]) G X0.here hx (hb hby d1_6) rfl rfl
  replace G := own_iloadN (q := 9) G X0.here hx (hb hby d1_8) rfl rfl
  replace G := own_sipush (q := 12) G X0.here hx (hb hby d1_9) (v := (255 : Int32)) (by decide) rfl
  replace G := own_iand (q := 13) G X0.here hx (hb hby d1_12) rfl rfl
  obtain ⟨c1, hn_c1⟩ : ∃ z : Int32, ((i1 &&& (255 : Int32)).toUInt32.toUInt16.toUInt32.toInt32) = z := ⟨_, rfl⟩
  replace G := own_i2c (q := 14) G X0.here hx (hb hby d1_13) hn_c1 rfl
  replace G := own_istore (q := 16) (l' := #[.val (.int i0), .val (.int i1), .val (.int i2), .val (.int i3), .val (.int c0), .val (.int c1), .unset, .unset]) G X0.here hx (hb hby d1_14) rfl rfl
  replace G := own_iloadN (q := 17) G X0.here hx (hb hby d1_16) rfl rfl
  replace G := own_sipush (q := 20) G X0.here hx (hb hby d1_17) (v := (255 : Int32)) (by decide) rfl
  replace G := own_iand (q := 21) G X0.here hx (hb hby d1_20) rfl rfl
  obtain ⟨c2, hn_c2⟩ : ∃ z : Int32, ((i2 &&& (255 : Int32)).toUInt32.toUInt16.toUInt32.toInt32) = z := ⟨_, rfl⟩
  replace G := own_i2c (q := 22) G X0.here hx (hb hby d1_21) hn_c2 rfl
  replace G := own_istore (q := 24) (l' := #[.val (.int i0), .val (.int i1), .val (.int i2), .val (.int i3), .val (.int c0), .val (.int c1), .val (.int c2), .unset]) G X0.here hx (hb hby d1_22) rfl rfl
  replace G := own_iloadN (q := 25) G X0.here hx (hb hby d1_24) rfl rfl
  replace G := own_iconst (q := 26) G X0.here hx (hb hby d1_25) (v := (3 : Int32)) (by decide) rfl
  obtain ⟨kk, hn_kk⟩ : ∃ z : Int32, (i3 &&& (3 : Int32)) = z := ⟨_, rfl⟩
  replace G := own_iand (q := 27) G X0.here hx (hb hby d1_26) hn_kk rfl
  rcases own_cases4 (own_m3 hn_kk) with rfl | rfl | rfl | rfl
  · replace G := own_istore (q := 29) (l' := #[.val (.int i0), .val (.int i1), .val (.int i2), .val (.int i3), .val (.int c0), .val (.int c1), .val (.int c2), .val (.int (0 : Int32))]) G X0.here hx (hb hby d1_27) rfl rfl
    replace G := own_iload (q := 31) G X0.here hx (hb hby d1_29) rfl rfl
    have hc31_1 : (0 : Int32) = (0 : Int32) := by decide
    replace G := own_ifNo (q := 34) G X0.here hx (hb hby d1_31) ((if0 _ _).trans (teq hc31_1).2) rfl
    obtain ⟨T2, h2, X2, e2, E2, A2, D2, -, st2⟩ := newO X0 hx hZ hown (hw _ (List.mem_of_getElem? (i := 4) rfl)) (hw _ (List.mem_of_getElem? (i := 5) rfl)) (hw _ (List.mem_of_getElem? (i := 6) rfl)) e0 (g := (mkF m 34 #[.val (.int i0), .val (.int i1), .val (.int i2), .val (.int i3), .val (.int c0), .val (.int c1), .val (.int c2), .val (.int (0 : Int32))] [])) rfl (hb hby d1_34) (by decide) (by decide)
    obtain ⟨b2, g2⟩ : ∃ z, z = h0.size := ⟨_, rfl⟩
    rw [← g2] at A2 D2 st2
    have ge_b2 : n0 ≤ b2 := Nat.le_trans Z0 (Nat.le_of_eq g2.symm)
    have sz_b2 : h0.size ≤ b2 := Nat.le_trans K0.1 (Nat.le_of_eq g2.symm)
    have Z2 : n0 ≤ h2.size := Nat.le_trans Z0 E2.1
    have K2 : Keep h0 h2 [] := K0.ext E2
    have F2_coder : Fld Z h2 b2 "java/lang/String" "coder" "B" (.int (0 : Int32)) := D2 (Or.inr (hw _ (List.mem_of_getElem? (i := 31) rfl))) (ty := .byte) (by decide)
    have F2_value : Fld Z h2 b2 "java/lang/String" "value" "[B" .null := D2 (Or.inr (hw _ (List.mem_of_getElem? (i := 33) rfl))) (ty := (.array .byte)) (by decide)
    replace G : Gets p e below _ (T2.setTop (mkF m 37 #[.val (.int i0), .val (.int i1), .val (.int i2), .val (.int i3), .val (.int c0), .val (.int c1), .val (.int c2), .val (.int (0 : Int32))] [(.ref b2)])) := fun t k => G t (st2 t k)
    replace G := own_dup (q := 38) G X2.here hx (hb hby d1_37) rfl rfl
    replace G := own_iconst (q := 39) G X2.here hx (hb hby d1_38) (v := (0 : Int32)) (by decide) rfl
    obtain ⟨T3, h3, k3, X3, e3, E3, A3, st3⟩ := newP X2 hx hZ (hw _ (List.mem_of_getElem? (i := 7) rfl)) e2 (g := (mkF m 39 #[.val (.int i0), .val (.int i1), .val (.int i2), .val (.int i3), .val (.int c0), .val (.int c1), .val (.int c2), .val (.int (0 : Int32))] [(.int (0 : Int32)), (.ref b2), (.ref b2)])) rfl (hb hby d1_39) rfl (by decide) (cap := 0) (by decide) (by decide) (by decide) (by decide)
    obtain ⟨b3, g3⟩ : ∃ z, z = h2.size := ⟨_, rfl⟩
    rw [← g3] at A3 st3
    have ne4 : b2 ≠ b3 := Nat.ne_of_lt (Nat.lt_of_lt_of_le F2_value.lt (Nat.le_of_eq g3.symm))
    have ge_b3 : n0 ≤ b3 := Nat.le_trans Z2 (Nat.le_of_eq g3.symm)
    have sz_b3 : h0.size ≤ b3 := Nat.le_trans K2.1 (Nat.le_of_eq g3.symm)
    have Z3 : n0 ≤ h3.size := Nat.le_trans Z2 E3.1
    have K3 : Keep h0 h3 [] := K2.ext E3
    have V3 : Arv Z h3 b3 k3 .char (0 : Int32) [] (.int (0 : Int32)) := (Arv.new A3 (by decide)).pad (pad_rep [] (.int (0 : Int32)) 0)
    replace G : Gets p e below _ (T3.setTop (mkF m 41 #[.val (.int i0), .val (.int i1), .val (.int i2), .val (.int i3), .val (.int c0), .val (.int c1), .val (.int c2), .val (.int (0 : Int32))] [(.ref b3), (.ref b2), (.ref b2)])) := fun t k => G t (st3 t k)
    have F6 : Old Z n0 h3 := ((P0.ext E2).ext E3)
    have F7 : Fld Z h3 b2 "java/lang/String" "value" "[B" .null := (F2_value.ext E3)
    have F8 : Fld Z h3 b2 "java/lang/String" "coder" "B" (.int (0 : Int32)) := (F2_coder.ext E3)
    have F9 : Exa Z h3 b2 "java/lang/String" := (A2.ext E3)
    obtain ⟨_, _, ⟨T5, L5, kk5, nn5⟩, -, X5, S5', g5', ⟨Lc5, hQ5, l5, y5, z5⟩, st5⟩ := X3.specialBackS hx (y := (⟨"java/lang/String", "<init>", "([C)V"⟩ : MethodName)) rfl hown (mvT hZ (hw _ (List.mem_of_getElem? (i := 8) rfl))) (mvT hZ (hw _ (List.mem_of_getElem? (i := 9) rfl))) (mvT hZ (hw _ (List.mem_of_getElem? (i := 10) rfl))) (by decide) (own_backV (V := fun vm => IB Z vm []) (W := 1) (rm2z l Z a0 hw [] b2 b3 k3 h3 n0 Z3 F6 F7 F8 F9 ge_b2 (by assumption) (by assumption) V3) hZ (hw _ (List.mem_of_getElem? (i := 10) rfl)) (hw _ (List.mem_of_getElem? (i := 6) rfl)) (by decide) (by decide)) (g := (mkF m 41 #[.val (.int i0), .val (.int i1), .val (.int i2), .val (.int i3), .val (.int c0), .val (.int c1), .val (.int c2), .val (.int (0 : Int32))] [(.ref b3), (.ref b2), (.ref b2)])) rfl (by rw [hml]; rfl) (Steps.refl _) (a := b2) (argsL := [(.ref b3)]) (rest := [(.ref b2)]) (lenOf pd_4 rfl) rfl (by show 2 * 0 + _ ≤ _; exact Nat.le_of_eq rfl) (hb hby d1_41) (fun _ hvm => ⟨rfl, e3, (by decide : 2 + 2 ≤ _), (by decide : 4 + 4 ≤ _), own_ibw hV hvm⟩)
    dsimp only [Pt.U, Pt.locs, Pt.cells, Pt.slots] at X5 l5 y5 z5 st5 hQ5 S5' g5'
    subst l5 y5 z5
    have S5 := S5'
    have hZ5 : Z.Warmed39 (s.setVm T5.vm).vm := State.Warmed39.trans hZ S5.1
    have hown5 := (S5.1.alike.findClass _ _).trans hown
    obtain ⟨b_5, kb_5, rfl, N5q, K5q, B5_0, B5_1, B5_2⟩ := hQ5
    have Z5 : n0 ≤ T5.heap.size := Nat.le_trans Z3 K5q.1
    have K5 : Keep h0 T5.heap [] := K3.trans K5q (allS (Or.inr sz_b2) all0)
    have N5 := Fr.app N0 N5q
    replace G : Gets p e below _ (T5.setTop (mkF m 44 #[.val (.int i0), .val (.int i1), .val (.int i2), .val (.int i3), .val (.int c0), .val (.int c1), .val (.int c2), .val (.int (0 : Int32))] [(.ref b2)])) := fun t k => G t (st5.trans k)
    obtain ⟨fs, hr, hrun, hended, -, hW, hBk, hsame⟩ := X5.leaveW S5 (Nat.le_refl _) (v := some (.ref b2)) (fun h => by rw [Bd.returns] at h; cases h)
    refine ⟨_, _, G _ (retOut X5 hx Bd.returns rfl (Or.inr (Or.inr (Or.inr (Or.inr ⟨rfl, rfl, rfl⟩)))) (hb hby d1_44) hr), hrun, hended, _, _, rfl, ?_, ⟨_, rfl⟩, hW, hBk, hsame.mono (by decide) (by decide)⟩
    have F10 : Exa Z T5.heap b2 "java/lang/String" := (F9.keep K5q)
    show Q1 Z i0 i1 i2 i3 cw h0 n0 _ T5.heap _
    exact ⟨b2, rfl, N5, K5, sz_b2, F10⟩
  · replace G := own_istore (q := 29) (l' := #[.val (.int i0), .val (.int i1), .val (.int i2), .val (.int i3), .val (.int c0), .val (.int c1), .val (.int c2), .val (.int (1 : Int32))]) G X0.here hx (hb hby d1_27) rfl rfl
    replace G := own_iload (q := 31) G X0.here hx (hb hby d1_29) rfl rfl
    have hc31_11 : ¬ ((1 : Int32) = (0 : Int32)) := by decide
    replace G := own_ifYes (q := 45) G X0.here hx (hb hby d1_31) ((if0 _ _).trans (feq hc31_11).2) (by decide) (by decide)
    replace G := own_iload (q := 47) G X0.here hx (hb hby d1_45) rfl rfl
    replace G := own_iconst (q := 48) G X0.here hx (hb hby d1_47) (v := (1 : Int32)) (by decide) rfl
    have hc48_12 : (1 : Int32) = (1 : Int32) := by decide
    replace G := own_icmpNo (q := 51) G X0.here hx (hb hby d1_48) (teq hc48_12).2 rfl
    obtain ⟨T13, h13, X13, e13, E13, A13, D13, -, st13⟩ := newO X0 hx hZ hown (hw _ (List.mem_of_getElem? (i := 4) rfl)) (hw _ (List.mem_of_getElem? (i := 5) rfl)) (hw _ (List.mem_of_getElem? (i := 6) rfl)) e0 (g := (mkF m 51 #[.val (.int i0), .val (.int i1), .val (.int i2), .val (.int i3), .val (.int c0), .val (.int c1), .val (.int c2), .val (.int (1 : Int32))] [])) rfl (hb hby d1_51) (by decide) (by decide)
    obtain ⟨b13, g13⟩ : ∃ z, z = h0.size := ⟨_, rfl⟩
    rw [← g13] at A13 D13 st13
    have ge_b13 : n0 ≤ b13 := Nat.le_trans Z0 (Nat.le_of_eq g13.symm)
    have sz_b13 : h0.size ≤ b13 := Nat.le_trans K0.1 (Nat.le_of_eq g13.symm)
    have Z13 : n0 ≤ h13.size := Nat.le_trans Z0 E13.1
    have K13 : Keep h0 h13 [] := K0.ext E13
    have F13_coder : Fld Z h13 b13 "java/lang/String" "coder" "B" (.int (0 : Int32)) := D13 (Or.inr (hw _ (List.mem_of_getElem? (i := 31) rfl))) (ty := .byte) (by decide)
    have F13_value : Fld Z h13 b13 "java/lang/String" "value" "[B" .null := D13 (Or.inr (hw _ (List.mem_of_getElem? (i := 33) rfl))) (ty := (.array .byte)) (by decide)
    replace G : Gets p e below _ (T13.setTop (mkF m 54 #[.val (.int i0), .val (.int i1), .val (.int i2), .val (.int i3), .val (.int c0), .val (.int c1), .val (.int c2), .val (.int (1 : Int32))] [(.ref b13)])) := fun t k => G t (st13 t k)
    replace G := own_dup (q := 55) G X13.here hx (hb hby d1_54) rfl rfl
    replace G := own_iconst (q := 56) G X13.here hx (hb hby d1_55) (v := (1 : Int32)) (by decide) rfl
    obtain ⟨T14, h14, k14, X14, e14, E14, A14, st14⟩ := newP X13 hx hZ (hw _ (List.mem_of_getElem? (i := 7) rfl)) e13 (g := (mkF m 56 #[.val (.int i0), .val (.int i1), .val (.int i2), .val (.int i3), .val (.int c0), .val (.int c1), .val (.int c2), .val (.int (1 : Int32))] [(.int (1 : Int32)), (.ref b13), (.ref b13)])) rfl (hb hby d1_56) rfl (by decide) (cap := 1) (by decide) (by decide) (by decide) (by decide)
    obtain ⟨b14, g14⟩ : ∃ z, z = h13.size := ⟨_, rfl⟩
    rw [← g14] at A14 st14
    have ne15 : b13 ≠ b14 := Nat.ne_of_lt (Nat.lt_of_lt_of_le F13_value.lt (Nat.le_of_eq g14.symm))
    have ge_b14 : n0 ≤ b14 := Nat.le_trans Z13 (Nat.le_of_eq g14.symm)
    have sz_b14 : h0.size ≤ b14 := Nat.le_trans K13.1 (Nat.le_of_eq g14.symm)
    have Z14 : n0 ≤ h14.size := Nat.le_trans Z13 E14.1
    have K14 : Keep h0 h14 [] := K13.ext E14
    have V14 : Arv Z h14 b14 k14 .char (1 : Int32) [(.int (0 : Int32))] (.int (0 : Int32)) := (Arv.new A14 (by decide)).pad (pad_rep [] (.int (0 : Int32)) 1)
    replace G : Gets p e below _ (T14.setTop (mkF m 58 #[.val (.int i0), .val (.int i1), .val (.int i2), .val (.int i3), .val (.int c0), .val (.int c1), .val (.int c2), .val (.int (1 : Int32))] [(.ref b14), (.ref b13), (.ref b13)])) := fun t k => G t (st14 t k)
    replace G := own_dup (q := 59) G X14.here hx (hb hby d1_58) rfl rfl
    replace G := own_iconst (q := 60) G X14.here hx (hb hby d1_59) (v := (0 : Int32)) (by decide) rfl
    replace G := own_iload (q := 62) G X14.here hx (hb hby d1_60) rfl rfl
    obtain ⟨c16, Ar16, q16, S16, N16', H16, G16'⟩ := id V14
    have hin16 : ¬ ((0 : Int32) < 0 ∨ c16.slots.size ≤ ((0 : Int32)).toNatClampNeg) := inb_of S16 ⟨by decide, by decide⟩
    obtain ⟨T16, h16, X16, e16, W16, st16⟩ := stC X14 hx hZ e14 Ar16 (j := (0 : Int32)) hin16 (g := (mkF m 62 #[.val (.int i0), .val (.int i1), .val (.int i2), .val (.int i3), .val (.int c0), .val (.int c1), .val (.int c2), .val (.int (1 : Int32))] [(.int c0), (.int (0 : Int32)), (.ref b14), (.ref b14), (.ref b13), (.ref b13)])) rfl rfl (hb hby d1_62)
    have N16 := Fr.snoc X16 N0 ge_b14
    have Z16 : n0 ≤ h16.size := Nat.le_trans Z14 (Keep.of_wr W16).1
    have K16 : Keep h0 h16 [] := K14.wr W16 (Or.inr sz_b14)
    have V16 : Arv Z h16 b14 k14 .char (1 : Int32) [(.int (nar .char c0))] (.int (0 : Int32)) := Arv.set Ar16 q16 S16 N16' H16 G16' (fits_nar_char _) W16 0 rfl (Nat.le_of_ble_eq_true rfl)
    replace G : Gets p e below _ (T16.setTop (mkF m 63 #[.val (.int i0), .val (.int i1), .val (.int i2), .val (.int i3), .val (.int c0), .val (.int c1), .val (.int c2), .val (.int (1 : Int32))] [(.ref b14), (.ref b13), (.ref b13)])) := fun t k => G t (st16 t k)
    have F18 : Fld Z h16 b13 "java/lang/String" "value" "[B" .null := ((F13_value.ext E14).other W16 (Or.inl ne15))
    have F19 : Fld Z h16 b13 "java/lang/String" "coder" "B" (.int (0 : Int32)) := ((F13_coder.ext E14).other W16 (Or.inl ne15))
    have F20 : Exa Z h16 b13 "java/lang/String" := ((A13.ext E14).wr W16)
    have F21 : Old Z n0 h16 := (((P0.ext E13).ext E14).wr W16 ge_b14)
    have F22 : Sta Z h16 "java/lang/String" "COMPACT_STRINGS" "Z" (.int cw) := P1.ext F21.2
    obtain ⟨_, _, ⟨T17, L17, kk17, nn17⟩, -, X17, ⟨Lc17, hQ17, l17, y17, z17⟩, st17⟩ := X16.specialBack hx (y := (⟨"java/lang/String", "<init>", "([C)V"⟩ : MethodName)) rfl hown (mvT hZ (hw _ (List.mem_of_getElem? (i := 8) rfl))) (mvT hZ (hw _ (List.mem_of_getElem? (i := 9) rfl))) (mvT hZ (hw _ (List.mem_of_getElem? (i := 10) rfl))) (by decide) (backOf (W := 1) (rm2n1 l Z a0 hw [] b13 b14 k14 cw (nar .char c0) h16 n0 Z16 F18 F19 F20 ge_b13 V16 F22 hcw (own_ch hn_c0)) hZ (hw _ (List.mem_of_getElem? (i := 10) rfl)) (hw _ (List.mem_of_getElem? (i := 6) rfl)) (by decide) (by decide)) (g := (mkF m 63 #[.val (.int i0), .val (.int i1), .val (.int i2), .val (.int i3), .val (.int c0), .val (.int c1), .val (.int c2), .val (.int (1 : Int32))] [(.ref b14), (.ref b13), (.ref b13)])) rfl (by rw [hml]; rfl) (Steps.refl _) (a := b13) (argsL := [(.ref b14)]) (rest := [(.ref b13)]) (lenOf pd_4 rfl) rfl (by show 2 * 0 + _ ≤ _; exact Nat.le_of_eq rfl) (hb hby d1_63) (fun _ _ => ⟨rfl, e16, (by decide : 2 + 1 ≤ _), (by decide : 5 + 1 ≤ _)⟩)
    dsimp only [Pt.U, Pt.locs, Pt.cells, Pt.slots] at X17 l17 y17 z17 st17 hQ17
    subst l17 y17 z17
    obtain ⟨b_17, kb_17, rfl, N17q, K17q, B17_0, B17_1, B17_2, B17_3⟩ := hQ17
    have ne23 : b14 ≠ b_17 := Nat.ne_of_lt (Nat.lt_of_lt_of_le V16.lt B17_2)
    have ne24 : b13 ≠ b_17 := Nat.ne_of_lt (Nat.lt_of_lt_of_le F18.lt B17_2)
    have ge_b_17 : n0 ≤ b_17 := Nat.le_trans Z16 B17_2
    have sz_b_17 : h0.size ≤ b_17 := Nat.le_trans K16.1 B17_2
    have Z17 : n0 ≤ T17.heap.size := Nat.le_trans Z16 K17q.1
    have K17 : Keep h0 T17.heap [] := K16.trans K17q (allS (Or.inr sz_b13) all0)
    have N17 := Fr.app N16 N17q
    replace G : Gets p e below _ (T17.setTop (mkF m 66 #[.val (.int i0), .val (.int i1), .val (.int i2), .val (.int i3), .val (.int c0), .val (.int c1), .val (.int c2), .val (.int (1 : Int32))] [(.ref b13)])) := fun t k => G t (st17.trans k)
    obtain ⟨fs, hr, hrun, hended, hW, hsame⟩ := X17.leave (v := some (.ref b13)) (fun h => by rw [Bd.returns] at h; cases h)
    refine ⟨_, _, G _ (retOut X17 hx Bd.returns rfl (Or.inr (Or.inr (Or.inr (Or.inr ⟨rfl, rfl, rfl⟩)))) (hb hby d1_66) hr), hrun, hended, _, _, rfl, ?_, ReturnedEndW.of_narrow ⟨_, rfl⟩ hW (hsame.mono (by decide) (by decide))⟩
    have F25 : Exa Z T17.heap b13 "java/lang/String" := (F20.keep K17q)
    show Q1 Z i0 i1 i2 i3 cw h0 n0 _ T17.heap _
    exact ⟨b13, rfl, N17, K17, sz_b13, F25⟩
  · replace G := own_istore (q := 29) (l' := #[.val (.int i0), .val (.int i1), .val (.int i2), .val (.int i3), .val (.int c0), .val (.int c1), .val (.int c2), .val (.int (2 : Int32))]) G X0.here hx (hb hby d1_27) rfl rfl
    replace G := own_iload (q := 31) G X0.here hx (hb hby d1_29) rfl rfl
    have hc31_26 : ¬ ((2 : Int32) = (0 : Int32)) := by decide
    replace G := own_ifYes (q := 45) G X0.here hx (hb hby d1_31) ((if0 _ _).trans (feq hc31_26).2) (by decide) (by decide)
    replace G := own_iload (q := 47) G X0.here hx (hb hby d1_45) rfl rfl
    replace G := own_iconst (q := 48) G X0.here hx (hb hby d1_47) (v := (1 : Int32)) (by decide) rfl
    have hc48_27 : ¬ ((2 : Int32) = (1 : Int32)) := by decide
    replace G := own_icmpYes (q := 67) G X0.here hx (hb hby d1_48) (feq hc48_27).2 (by decide) (by decide)
    replace G := own_iload (q := 69) G X0.here hx (hb hby d1_67) rfl rfl
    replace G := own_iconst (q := 70) G X0.here hx (hb hby d1_69) (v := (2 : Int32)) (by decide) rfl
    have hc70_28 : (2 : Int32) = (2 : Int32) := by decide
    replace G := own_icmpNo (q := 73) G X0.here hx (hb hby d1_70) (teq hc70_28).2 rfl
    obtain ⟨T29, h29, X29, e29, E29, A29, D29, -, st29⟩ := newO X0 hx hZ hown (hw _ (List.mem_of_getElem? (i := 4) rfl)) (hw _ (List.mem_of_getElem? (i := 5) rfl)) (hw _ (List.mem_of_getElem? (i := 6) rfl)) e0 (g := (mkF m 73 #[.val (.int i0), .val (.int i1), .val (.int i2), .val (.int i3), .val (.int c0), .val (.int c1), .val (.int c2), .val (.int (2 : Int32))] [])) rfl (hb hby d1_73) (by decide) (by decide)
    obtain ⟨b29, g29⟩ : ∃ z, z = h0.size := ⟨_, rfl⟩
    rw [← g29] at A29 D29 st29
    have ge_b29 : n0 ≤ b29 := Nat.le_trans Z0 (Nat.le_of_eq g29.symm)
    have sz_b29 : h0.size ≤ b29 := Nat.le_trans K0.1 (Nat.le_of_eq g29.symm)
    have Z29 : n0 ≤ h29.size := Nat.le_trans Z0 E29.1
    have K29 : Keep h0 h29 [] := K0.ext E29
    have F29_coder : Fld Z h29 b29 "java/lang/String" "coder" "B" (.int (0 : Int32)) := D29 (Or.inr (hw _ (List.mem_of_getElem? (i := 31) rfl))) (ty := .byte) (by decide)
    have F29_value : Fld Z h29 b29 "java/lang/String" "value" "[B" .null := D29 (Or.inr (hw _ (List.mem_of_getElem? (i := 33) rfl))) (ty := (.array .byte)) (by decide)
    replace G : Gets p e below _ (T29.setTop (mkF m 76 #[.val (.int i0), .val (.int i1), .val (.int i2), .val (.int i3), .val (.int c0), .val (.int c1), .val (.int c2), .val (.int (2 : Int32))] [(.ref b29)])) := fun t k => G t (st29 t k)
    replace G := own_dup (q := 77) G X29.here hx (hb hby d1_76) rfl rfl
    replace G := own_iconst (q := 78) G X29.here hx (hb hby d1_77) (v := (2 : Int32)) (by decide) rfl
    obtain ⟨T30, h30, k30, X30, e30, E30, A30, st30⟩ := newP X29 hx hZ (hw _ (List.mem_of_getElem? (i := 7) rfl)) e29 (g := (mkF m 78 #[.val (.int i0), .val (.int i1), .val (.int i2), .val (.int i3), .val (.int c0), .val (.int c1), .val (.int c2), .val (.int (2 : Int32))] [(.int (2 : Int32)), (.ref b29), (.ref b29)])) rfl (hb hby d1_78) rfl (by decide) (cap := 2) (by decide) (by decide) (by decide) (by decide)
    obtain ⟨b30, g30⟩ : ∃ z, z = h29.size := ⟨_, rfl⟩
    rw [← g30] at A30 st30
    have ne31 : b29 ≠ b30 := Nat.ne_of_lt (Nat.lt_of_lt_of_le F29_value.lt (Nat.le_of_eq g30.symm))
    have ge_b30 : n0 ≤ b30 := Nat.le_trans Z29 (Nat.le_of_eq g30.symm)
    have sz_b30 : h0.size ≤ b30 := Nat.le_trans K29.1 (Nat.le_of_eq g30.symm)
    have Z30 : n0 ≤ h30.size := Nat.le_trans Z29 E30.1
    have K30 : Keep h0 h30 [] := K29.ext E30
    have V30 : Arv Z h30 b30 k30 .char (2 : Int32) [(.int (0 : Int32)), (.int (0 : Int32))] (.int (0 : Int32)) := (Arv.new A30 (by decide)).pad (pad_rep [] (.int (0 : Int32)) 2)
    replace G : Gets p e below _ (T30.setTop (mkF m 80 #[.val (.int i0), .val (.int i1), .val (.int i2), .val (.int i3), .val (.int c0), .val (.int c1), .val (.int c2), .val (.int (2 : Int32))] [(.ref b30), (.ref b29), (.ref b29)])) := fun t k => G t (st30 t k)
    replace G := own_dup (q := 81) G X30.here hx (hb hby d1_80) rfl rfl
    replace G := own_iconst (q := 82) G X30.here hx (hb hby d1_81) (v := (0 : Int32)) (by decide) rfl
    replace G := own_iload (q := 84) G X30.here hx (hb hby d1_82) rfl rfl
    obtain ⟨c32, Ar32, q32, S32, N32', H32, G32'⟩ := id V30
    have hin32 : ¬ ((0 : Int32) < 0 ∨ c32.slots.size ≤ ((0 : Int32)).toNatClampNeg) := inb_of S32 ⟨by decide, by decide⟩
    obtain ⟨T32, h32, X32, e32, W32, st32⟩ := stC X30 hx hZ e30 Ar32 (j := (0 : Int32)) hin32 (g := (mkF m 84 #[.val (.int i0), .val (.int i1), .val (.int i2), .val (.int i3), .val (.int c0), .val (.int c1), .val (.int c2), .val (.int (2 : Int32))] [(.int c0), (.int (0 : Int32)), (.ref b30), (.ref b30), (.ref b29), (.ref b29)])) rfl rfl (hb hby d1_84)
    have N32 := Fr.snoc X32 N0 ge_b30
    have Z32 : n0 ≤ h32.size := Nat.le_trans Z30 (Keep.of_wr W32).1
    have K32 : Keep h0 h32 [] := K30.wr W32 (Or.inr sz_b30)
    have V32 : Arv Z h32 b30 k30 .char (2 : Int32) [(.int (nar .char c0)), (.int (0 : Int32))] (.int (0 : Int32)) := Arv.set Ar32 q32 S32 N32' H32 G32' (fits_nar_char _) W32 0 rfl (Nat.le_of_ble_eq_true rfl)
    replace G : Gets p e below _ (T32.setTop (mkF m 85 #[.val (.int i0), .val (.int i1), .val (.int i2), .val (.int i3), .val (.int c0), .val (.int c1), .val (.int c2), .val (.int (2 : Int32))] [(.ref b30), (.ref b29), (.ref b29)])) := fun t k => G t (st32 t k)
    replace G := own_dup (q := 86) G X32.here hx (hb hby d1_85) rfl rfl
    replace G := own_iconst (q := 87) G X32.here hx (hb hby d1_86) (v := (1 : Int32)) (by decide) rfl
    replace G := own_iload (q := 89) G X32.here hx (hb hby d1_87) rfl rfl
    obtain ⟨c33, Ar33, q33, S33, N33', H33, G33'⟩ := id V32
    have hin33 : ¬ ((1 : Int32) < 0 ∨ c33.slots.size ≤ ((1 : Int32)).toNatClampNeg) := inb_of S33 ⟨by decide, by decide⟩
    obtain ⟨T33, h33, X33, e33, W33, st33⟩ := stC X32 hx hZ e32 Ar33 (j := (1 : Int32)) hin33 (g := (mkF m 89 #[.val (.int i0), .val (.int i1), .val (.int i2), .val (.int i3), .val (.int c0), .val (.int c1), .val (.int c2), .val (.int (2 : Int32))] [(.int c1), (.int (1 : Int32)), (.ref b30), (.ref b30), (.ref b29), (.ref b29)])) rfl rfl (hb hby d1_89)
    have N33 := Fr.snoc X33 N32 ge_b30
    have Z33 : n0 ≤ h33.size := Nat.le_trans Z32 (Keep.of_wr W33).1
    have K33 : Keep h0 h33 [] := K32.wr W33 (Or.inr sz_b30)
    have V33 : Arv Z h33 b30 k30 .char (2 : Int32) [(.int (nar .char c0)), (.int (nar .char c1))] (.int (0 : Int32)) := Arv.set Ar33 q33 S33 N33' H33 G33' (fits_nar_char _) W33 1 rfl (Nat.le_of_ble_eq_true rfl)
    replace G : Gets p e below _ (T33.setTop (mkF m 90 #[.val (.int i0), .val (.int i1), .val (.int i2), .val (.int i3), .val (.int c0), .val (.int c1), .val (.int c2), .val (.int (2 : Int32))] [(.ref b30), (.ref b29), (.ref b29)])) := fun t k => G t (st33 t k)
    have F35 : Fld Z h33 b29 "java/lang/String" "value" "[B" .null := (((F29_value.ext E30).other W32 (Or.inl ne31)).other W33 (Or.inl ne31))
    have F36 : Fld Z h33 b29 "java/lang/String" "coder" "B" (.int (0 : Int32)) := (((F29_coder.ext E30).other W32 (Or.inl ne31)).other W33 (Or.inl ne31))
    have F37 : Exa Z h33 b29 "java/lang/String" := (((A29.ext E30).wr W32).wr W33)
    have F38 : Old Z n0 h33 := ((((P0.ext E29).ext E30).wr W32 ge_b30).wr W33 ge_b30)
    have F39 : Sta Z h33 "java/lang/String" "COMPACT_STRINGS" "Z" (.int cw) := P1.ext F38.2
    obtain ⟨_, _, ⟨T34, L34, kk34, nn34⟩, -, X34, ⟨Lc34, hQ34, l34, y34, z34⟩, st34⟩ := X33.specialBack hx (y := (⟨"java/lang/String", "<init>", "([C)V"⟩ : MethodName)) rfl hown (mvT hZ (hw _ (List.mem_of_getElem? (i := 8) rfl))) (mvT hZ (hw _ (List.mem_of_getElem? (i := 9) rfl))) (mvT hZ (hw _ (List.mem_of_getElem? (i := 10) rfl))) (by decide) (backOf (W := 1) (rm2n2 l Z a0 hw [] b29 b30 k30 cw (nar .char c0) (nar .char c1) h33 n0 Z33 F35 F36 F37 ge_b29 V33 F39 hcw (own_ch hn_c0) (own_ch hn_c1)) hZ (hw _ (List.mem_of_getElem? (i := 10) rfl)) (hw _ (List.mem_of_getElem? (i := 6) rfl)) (by decide) (by decide)) (g := (mkF m 90 #[.val (.int i0), .val (.int i1), .val (.int i2), .val (.int i3), .val (.int c0), .val (.int c1), .val (.int c2), .val (.int (2 : Int32))] [(.ref b30), (.ref b29), (.ref b29)])) rfl (by rw [hml]; rfl) (Steps.refl _) (a := b29) (argsL := [(.ref b30)]) (rest := [(.ref b29)]) (lenOf pd_4 rfl) rfl (by show 2 * 0 + _ ≤ _; exact Nat.le_of_eq rfl) (hb hby d1_90) (fun _ _ => ⟨rfl, e33, (by decide : 2 + 1 ≤ _), (by decide : 6 + 2 ≤ _)⟩)
    dsimp only [Pt.U, Pt.locs, Pt.cells, Pt.slots] at X34 l34 y34 z34 st34 hQ34
    subst l34 y34 z34
    obtain ⟨b_34, kb_34, rfl, N34q, K34q, B34_0, B34_1, B34_2, B34_3⟩ := hQ34
    have ne40 : b30 ≠ b_34 := Nat.ne_of_lt (Nat.lt_of_lt_of_le V33.lt B34_2)
    have ne41 : b29 ≠ b_34 := Nat.ne_of_lt (Nat.lt_of_lt_of_le F35.lt B34_2)
    have ge_b_34 : n0 ≤ b_34 := Nat.le_trans Z33 B34_2
    have sz_b_34 : h0.size ≤ b_34 := Nat.le_trans K33.1 B34_2
    have Z34 : n0 ≤ T34.heap.size := Nat.le_trans Z33 K34q.1
    have K34 : Keep h0 T34.heap [] := K33.trans K34q (allS (Or.inr sz_b29) all0)
    have N34 := Fr.app N33 N34q
    replace G : Gets p e below _ (T34.setTop (mkF m 93 #[.val (.int i0), .val (.int i1), .val (.int i2), .val (.int i3), .val (.int c0), .val (.int c1), .val (.int c2), .val (.int (2 : Int32))] [(.ref b29)])) := fun t k => G t (st34.trans k)
    obtain ⟨fs, hr, hrun, hended, hW, hsame⟩ := X34.leave (v := some (.ref b29)) (fun h => by rw [Bd.returns] at h; cases h)
    refine ⟨_, _, G _ (retOut X34 hx Bd.returns rfl (Or.inr (Or.inr (Or.inr (Or.inr ⟨rfl, rfl, rfl⟩)))) (hb hby d1_93) hr), hrun, hended, _, _, rfl, ?_, ReturnedEndW.of_narrow ⟨_, rfl⟩ hW (hsame.mono (by decide) (by decide))⟩
    have F42 : Exa Z T34.heap b29 "java/lang/String" := (F37.keep K34q)
    show Q1 Z i0 i1 i2 i3 cw h0 n0 _ T34.heap _
    exact ⟨b29, rfl, N34, K34, sz_b29, F42⟩
  · replace G := own_istore (q := 29) (l' := #[.val (.int i0), .val (.int i1), .val (.int i2), .val (.int i3), .val (.int c0), .val (.int c1), .val (.int c2), .val (.int (3 : Int32))]) G X0.here hx (hb hby d1_27) rfl rfl
    replace G := own_iload (q := 31) G X0.here hx (hb hby d1_29) rfl rfl
    have hc31_43 : ¬ ((3 : Int32) = (0 : Int32)) := by decide
    replace G := own_ifYes (q := 45) G X0.here hx (hb hby d1_31) ((if0 _ _).trans (feq hc31_43).2) (by decide) (by decide)
    replace G := own_iload (q := 47) G X0.here hx (hb hby d1_45) rfl rfl
    replace G := own_iconst (q := 48) G X0.here hx (hb hby d1_47) (v := (1 : Int32)) (by decide) rfl
    have hc48_44 : ¬ ((3 : Int32) = (1 : Int32)) := by decide
    replace G := own_icmpYes (q := 67) G X0.here hx (hb hby d1_48) (feq hc48_44).2 (by decide) (by decide)
    replace G := own_iload (q := 69) G X0.here hx (hb hby d1_67) rfl rfl
    replace G := own_iconst (q := 70) G X0.here hx (hb hby d1_69) (v := (2 : Int32)) (by decide) rfl
    have hc70_45 : ¬ ((3 : Int32) = (2 : Int32)) := by decide
    replace G := own_icmpYes (q := 94) G X0.here hx (hb hby d1_70) (feq hc70_45).2 (by decide) (by decide)
    obtain ⟨T46, h46, X46, e46, E46, A46, D46, -, st46⟩ := newO X0 hx hZ hown (hw _ (List.mem_of_getElem? (i := 4) rfl)) (hw _ (List.mem_of_getElem? (i := 5) rfl)) (hw _ (List.mem_of_getElem? (i := 6) rfl)) e0 (g := (mkF m 94 #[.val (.int i0), .val (.int i1), .val (.int i2), .val (.int i3), .val (.int c0), .val (.int c1), .val (.int c2), .val (.int (3 : Int32))] [])) rfl (hb hby d1_94) (by decide) (by decide)
    obtain ⟨b46, g46⟩ : ∃ z, z = h0.size := ⟨_, rfl⟩
    rw [← g46] at A46 D46 st46
    have ge_b46 : n0 ≤ b46 := Nat.le_trans Z0 (Nat.le_of_eq g46.symm)
    have sz_b46 : h0.size ≤ b46 := Nat.le_trans K0.1 (Nat.le_of_eq g46.symm)
    have Z46 : n0 ≤ h46.size := Nat.le_trans Z0 E46.1
    have K46 : Keep h0 h46 [] := K0.ext E46
    have F46_coder : Fld Z h46 b46 "java/lang/String" "coder" "B" (.int (0 : Int32)) := D46 (Or.inr (hw _ (List.mem_of_getElem? (i := 31) rfl))) (ty := .byte) (by decide)
    have F46_value : Fld Z h46 b46 "java/lang/String" "value" "[B" .null := D46 (Or.inr (hw _ (List.mem_of_getElem? (i := 33) rfl))) (ty := (.array .byte)) (by decide)
    replace G : Gets p e below _ (T46.setTop (mkF m 97 #[.val (.int i0), .val (.int i1), .val (.int i2), .val (.int i3), .val (.int c0), .val (.int c1), .val (.int c2), .val (.int (3 : Int32))] [(.ref b46)])) := fun t k => G t (st46 t k)
    replace G := own_dup (q := 98) G X46.here hx (hb hby d1_97) rfl rfl
    replace G := own_iconst (q := 99) G X46.here hx (hb hby d1_98) (v := (3 : Int32)) (by decide) rfl
    obtain ⟨T47, h47, k47, X47, e47, E47, A47, st47⟩ := newP X46 hx hZ (hw _ (List.mem_of_getElem? (i := 7) rfl)) e46 (g := (mkF m 99 #[.val (.int i0), .val (.int i1), .val (.int i2), .val (.int i3), .val (.int c0), .val (.int c1), .val (.int c2), .val (.int (3 : Int32))] [(.int (3 : Int32)), (.ref b46), (.ref b46)])) rfl (hb hby d1_99) rfl (by decide) (cap := 3) (by decide) (by decide) (by decide) (by decide)
    obtain ⟨b47, g47⟩ : ∃ z, z = h46.size := ⟨_, rfl⟩
    rw [← g47] at A47 st47
    have ne48 : b46 ≠ b47 := Nat.ne_of_lt (Nat.lt_of_lt_of_le F46_value.lt (Nat.le_of_eq g47.symm))
    have ge_b47 : n0 ≤ b47 := Nat.le_trans Z46 (Nat.le_of_eq g47.symm)
    have sz_b47 : h0.size ≤ b47 := Nat.le_trans K46.1 (Nat.le_of_eq g47.symm)
    have Z47 : n0 ≤ h47.size := Nat.le_trans Z46 E47.1
    have K47 : Keep h0 h47 [] := K46.ext E47
    have V47 : Arv Z h47 b47 k47 .char (3 : Int32) [(.int (0 : Int32)), (.int (0 : Int32)), (.int (0 : Int32))] (.int (0 : Int32)) := (Arv.new A47 (by decide)).pad (pad_rep [] (.int (0 : Int32)) 3)
    replace G : Gets p e below _ (T47.setTop (mkF m 101 #[.val (.int i0), .val (.int i1), .val (.int i2), .val (.int i3), .val (.int c0), .val (.int c1), .val (.int c2), .val (.int (3 : Int32))] [(.ref b47), (.ref b46), (.ref b46)])) := fun t k => G t (st47 t k)
    replace G := own_dup (q := 102) G X47.here hx (hb hby d1_101) rfl rfl
    replace G := own_iconst (q := 103) G X47.here hx (hb hby d1_102) (v := (0 : Int32)) (by decide) rfl
    replace G := own_iload (q := 105) G X47.here hx (hb hby d1_103) rfl rfl
    obtain ⟨c49, Ar49, q49, S49, N49', H49, G49'⟩ := id V47
    have hin49 : ¬ ((0 : Int32) < 0 ∨ c49.slots.size ≤ ((0 : Int32)).toNatClampNeg) := inb_of S49 ⟨by decide, by decide⟩
    obtain ⟨T49, h49, X49, e49, W49, st49⟩ := stC X47 hx hZ e47 Ar49 (j := (0 : Int32)) hin49 (g := (mkF m 105 #[.val (.int i0), .val (.int i1), .val (.int i2), .val (.int i3), .val (.int c0), .val (.int c1), .val (.int c2), .val (.int (3 : Int32))] [(.int c0), (.int (0 : Int32)), (.ref b47), (.ref b47), (.ref b46), (.ref b46)])) rfl rfl (hb hby d1_105)
    have N49 := Fr.snoc X49 N0 ge_b47
    have Z49 : n0 ≤ h49.size := Nat.le_trans Z47 (Keep.of_wr W49).1
    have K49 : Keep h0 h49 [] := K47.wr W49 (Or.inr sz_b47)
    have V49 : Arv Z h49 b47 k47 .char (3 : Int32) [(.int (nar .char c0)), (.int (0 : Int32)), (.int (0 : Int32))] (.int (0 : Int32)) := Arv.set Ar49 q49 S49 N49' H49 G49' (fits_nar_char _) W49 0 rfl (Nat.le_of_ble_eq_true rfl)
    replace G : Gets p e below _ (T49.setTop (mkF m 106 #[.val (.int i0), .val (.int i1), .val (.int i2), .val (.int i3), .val (.int c0), .val (.int c1), .val (.int c2), .val (.int (3 : Int32))] [(.ref b47), (.ref b46), (.ref b46)])) := fun t k => G t (st49 t k)
    replace G := own_dup (q := 107) G X49.here hx (hb hby d1_106) rfl rfl
    replace G := own_iconst (q := 108) G X49.here hx (hb hby d1_107) (v := (1 : Int32)) (by decide) rfl
    replace G := own_iload (q := 110) G X49.here hx (hb hby d1_108) rfl rfl
    obtain ⟨c50, Ar50, q50, S50, N50', H50, G50'⟩ := id V49
    have hin50 : ¬ ((1 : Int32) < 0 ∨ c50.slots.size ≤ ((1 : Int32)).toNatClampNeg) := inb_of S50 ⟨by decide, by decide⟩
    obtain ⟨T50, h50, X50, e50, W50, st50⟩ := stC X49 hx hZ e49 Ar50 (j := (1 : Int32)) hin50 (g := (mkF m 110 #[.val (.int i0), .val (.int i1), .val (.int i2), .val (.int i3), .val (.int c0), .val (.int c1), .val (.int c2), .val (.int (3 : Int32))] [(.int c1), (.int (1 : Int32)), (.ref b47), (.ref b47), (.ref b46), (.ref b46)])) rfl rfl (hb hby d1_110)
    have N50 := Fr.snoc X50 N49 ge_b47
    have Z50 : n0 ≤ h50.size := Nat.le_trans Z49 (Keep.of_wr W50).1
    have K50 : Keep h0 h50 [] := K49.wr W50 (Or.inr sz_b47)
    have V50 : Arv Z h50 b47 k47 .char (3 : Int32) [(.int (nar .char c0)), (.int (nar .char c1)), (.int (0 : Int32))] (.int (0 : Int32)) := Arv.set Ar50 q50 S50 N50' H50 G50' (fits_nar_char _) W50 1 rfl (Nat.le_of_ble_eq_true rfl)
    replace G : Gets p e below _ (T50.setTop (mkF m 111 #[.val (.int i0), .val (.int i1), .val (.int i2), .val (.int i3), .val (.int c0), .val (.int c1), .val (.int c2), .val (.int (3 : Int32))] [(.ref b47), (.ref b46), (.ref b46)])) := fun t k => G t (st50 t k)
    replace G := own_dup (q := 112) G X50.here hx (hb hby d1_111) rfl rfl
    replace G := own_iconst (q := 113) G X50.here hx (hb hby d1_112) (v := (2 : Int32)) (by decide) rfl
    replace G := own_iload (q := 115) G X50.here hx (hb hby d1_113) rfl rfl
    obtain ⟨c51, Ar51, q51, S51, N51', H51, G51'⟩ := id V50
    have hin51 : ¬ ((2 : Int32) < 0 ∨ c51.slots.size ≤ ((2 : Int32)).toNatClampNeg) := inb_of S51 ⟨by decide, by decide⟩
    obtain ⟨T51, h51, X51, e51, W51, st51⟩ := stC X50 hx hZ e50 Ar51 (j := (2 : Int32)) hin51 (g := (mkF m 115 #[.val (.int i0), .val (.int i1), .val (.int i2), .val (.int i3), .val (.int c0), .val (.int c1), .val (.int c2), .val (.int (3 : Int32))] [(.int c2), (.int (2 : Int32)), (.ref b47), (.ref b47), (.ref b46), (.ref b46)])) rfl rfl (hb hby d1_115)
    have N51 := Fr.snoc X51 N50 ge_b47
    have Z51 : n0 ≤ h51.size := Nat.le_trans Z50 (Keep.of_wr W51).1
    have K51 : Keep h0 h51 [] := K50.wr W51 (Or.inr sz_b47)
    have V51 : Arv Z h51 b47 k47 .char (3 : Int32) [(.int (nar .char c0)), (.int (nar .char c1)), (.int (nar .char c2))] (.int (0 : Int32)) := Arv.set Ar51 q51 S51 N51' H51 G51' (fits_nar_char _) W51 2 rfl (Nat.le_of_ble_eq_true rfl)
    replace G : Gets p e below _ (T51.setTop (mkF m 116 #[.val (.int i0), .val (.int i1), .val (.int i2), .val (.int i3), .val (.int c0), .val (.int c1), .val (.int c2), .val (.int (3 : Int32))] [(.ref b47), (.ref b46), (.ref b46)])) := fun t k => G t (st51 t k)
    have F53 : Fld Z h51 b46 "java/lang/String" "value" "[B" .null := ((((F46_value.ext E47).other W49 (Or.inl ne48)).other W50 (Or.inl ne48)).other W51 (Or.inl ne48))
    have F54 : Fld Z h51 b46 "java/lang/String" "coder" "B" (.int (0 : Int32)) := ((((F46_coder.ext E47).other W49 (Or.inl ne48)).other W50 (Or.inl ne48)).other W51 (Or.inl ne48))
    have F55 : Exa Z h51 b46 "java/lang/String" := ((((A46.ext E47).wr W49).wr W50).wr W51)
    have F56 : Old Z n0 h51 := (((((P0.ext E46).ext E47).wr W49 ge_b47).wr W50 ge_b47).wr W51 ge_b47)
    have F57 : Sta Z h51 "java/lang/String" "COMPACT_STRINGS" "Z" (.int cw) := P1.ext F56.2
    obtain ⟨_, _, ⟨T52, L52, kk52, nn52⟩, -, X52, ⟨Lc52, hQ52, l52, y52, z52⟩, st52⟩ := X51.specialBack hx (y := (⟨"java/lang/String", "<init>", "([C)V"⟩ : MethodName)) rfl hown (mvT hZ (hw _ (List.mem_of_getElem? (i := 8) rfl))) (mvT hZ (hw _ (List.mem_of_getElem? (i := 9) rfl))) (mvT hZ (hw _ (List.mem_of_getElem? (i := 10) rfl))) (by decide) (backOf (W := 1) (rm2n3 l Z a0 hw [] b46 b47 k47 cw (nar .char c0) (nar .char c1) (nar .char c2) h51 n0 Z51 F53 F54 F55 ge_b46 V51 F57 hcw (own_ch hn_c0) (own_ch hn_c1) (own_ch hn_c2)) hZ (hw _ (List.mem_of_getElem? (i := 10) rfl)) (hw _ (List.mem_of_getElem? (i := 6) rfl)) (by decide) (by decide)) (g := (mkF m 116 #[.val (.int i0), .val (.int i1), .val (.int i2), .val (.int i3), .val (.int c0), .val (.int c1), .val (.int c2), .val (.int (3 : Int32))] [(.ref b47), (.ref b46), (.ref b46)])) rfl (by rw [hml]; rfl) (Steps.refl _) (a := b46) (argsL := [(.ref b47)]) (rest := [(.ref b46)]) (lenOf pd_4 rfl) rfl (by show 2 * 0 + _ ≤ _; exact Nat.le_of_eq rfl) (hb hby d1_116) (fun _ _ => ⟨rfl, e51, (by decide : 2 + 1 ≤ _), (by decide : 7 + 3 ≤ _)⟩)
    dsimp only [Pt.U, Pt.locs, Pt.cells, Pt.slots] at X52 l52 y52 z52 st52 hQ52
    subst l52 y52 z52
    obtain ⟨b_52, kb_52, rfl, N52q, K52q, B52_0, B52_1, B52_2, B52_3⟩ := hQ52
    have ne58 : b47 ≠ b_52 := Nat.ne_of_lt (Nat.lt_of_lt_of_le V51.lt B52_2)
    have ne59 : b46 ≠ b_52 := Nat.ne_of_lt (Nat.lt_of_lt_of_le F53.lt B52_2)
    have ge_b_52 : n0 ≤ b_52 := Nat.le_trans Z51 B52_2
    have sz_b_52 : h0.size ≤ b_52 := Nat.le_trans K51.1 B52_2
    have Z52 : n0 ≤ T52.heap.size := Nat.le_trans Z51 K52q.1
    have K52 : Keep h0 T52.heap [] := K51.trans K52q (allS (Or.inr sz_b46) all0)
    have N52 := Fr.app N51 N52q
    replace G : Gets p e below _ (T52.setTop (mkF m 119 #[.val (.int i0), .val (.int i1), .val (.int i2), .val (.int i3), .val (.int c0), .val (.int c1), .val (.int c2), .val (.int (3 : Int32))] [(.ref b46)])) := fun t k => G t (st52.trans k)
    obtain ⟨fs, hr, hrun, hended, hW, hsame⟩ := X52.leave (v := some (.ref b46)) (fun h => by rw [Bd.returns] at h; cases h)
    refine ⟨_, _, G _ (retOut X52 hx Bd.returns rfl (Or.inr (Or.inr (Or.inr (Or.inr ⟨rfl, rfl, rfl⟩)))) (hb hby d1_119) hr), hrun, hended, _, _, rfl, ?_, ReturnedEndW.of_narrow ⟨_, rfl⟩ hW (hsame.mono (by decide) (by decide))⟩
    have F60 : Exa Z T52.heap b46 "java/lang/String" := (F55.keep K52q)
    show Q1 Z i0 i1 i2 i3 cw h0 n0 _ T52.heap _
    exact ⟨b46, rfl, N52, K52, sz_b46, F60⟩
theorem d10_0 : decode jdk_30_method_1_code 0 = .ok (.aload_n 0, 1) := by decide +kernel
theorem d10_1 : decode jdk_30_method_1_code 1 = .ok (.invokespecial 1, 3) := by decide +kernel
theorem d10_4 : decode jdk_30_method_1_code 4 = .ok (.return_, 1) := by decide +kernel
theorem pn_java_lang_Record : plainName "java/lang/Record" = true := by first | (simp [plainName, overriddenIn]; done) | decide +kernel
theorem ef_10 (m : MethodId) (x0 : Addr) : entryFrame m #[(.ref x0)] 1 = mkF m 0 #[.val (.ref x0)] [] := by first | (simp [entryFrame, mkF, argsToLocals, Value.category]; done) | rfl
def Q10 (Z : State) (a : Addr) (h0 : Heap) (n0 : Nat) (v : Option Value) (h : Heap) (L : List Loc) : Prop := v = none ∧ Fr n0 L ∧ h = h0
set_option maxRecDepth 65536 in
set_option maxHeartbeats 40000000 in
theorem rm10 (l : Launch) (Z : State) (a0 : Array Value) (hw : ∀ d ∈ tables_1, d.before a0 Z = true) (ws : List Jvm.Cond) (a : Addr) (h0 : Heap) (n0 : Nat) (Z0 : n0 ≤ h0.size)  :
    MetFree l (⟨"java/lang/Record", "<init>", "()V"⟩ : MethodName) (head1 (Jvm.Cond.code (⟨"java/lang/Record", "<init>", "()V"⟩ : MethodName) jdk_30_method_1_code 1 none :: ws) ({ frames := 1, cells := 0, slots := 0, locals := 12 } : Room)) (fun argz U => argz = #[(.ref a)] ∧ Z.Warmed39 U.vm ∧ U.heap = h0) (fun _ _ _ _ _ => True) (fun _ U o U' => ∃ v L, o = .returned v ∧ Q10 Z a h0 n0 v U'.heap L ∧ FrameEnd U o U' L ({ frames := 1, cells := 0, slots := 0, locals := 12 } : Room).cells ({ frames := 1, cells := 0, slots := 0, locals := 12 } : Room).slots) := by
  refine MetFree.of_bodySF (plainFor_of_name pn_java_lang_Record) hisR ?_
  intro p e s m args below meth c s₁ Bd hml0 hP hK
  obtain ⟨rfl, hZ, hh⟩ := hP
  have hx := Bd.exec
  have hby := Bd.bytes
  have hml : c.maxLocals = 1 := hml0
  have hown : s.vm.findClass "java/lang/Record" = some m.cls := findClass_of_methodNamed Bd.named
  have hnm := (name_of_methodNamed Bd.named Bd.method).1
  have X0 : Stand p l e ({ frames := 1, cells := 0, slots := 0, locals := 12 } : Room) s m #[(.ref a)] below meth c s₁ [] 0 0 := Stand.of_body Bd
  have e0 : s₁.heap = h0 := by rw [← hh, Bd.state]; rfl
  have N0 := Fr.nil n0
  have G : Gets p e below (s₁.setTop (entryFrame m #[(.ref a)] 1)) (s₁.setTop (mkF m 0 #[.val (.ref a)] [])) := fun t k => castTop (ef_10 m a) k
  replace G := own_aloadN (q := 1) G X0.here hx (hb hby d10_0) rfl rfl rfl
  obtain ⟨T1, X1, e1, st1⟩ := initO X0 hx hZ hown (hw _ (List.mem_of_getElem? (i := 48) rfl)) (hw _ (List.mem_of_getElem? (i := 16) rfl)) (hw _ (List.mem_of_getElem? (i := 17) rfl)) e0 (g := (mkF m 1 #[.val (.ref a)] [(.ref a)])) rfl (by rw [hml]; rfl) rfl (hb hby d10_1) (by decide) (W := 0) (by show 2 * 0 + _ ≤ _; exact Nat.le_of_eq rfl) (by decide)
  replace G : Gets p e below _ (T1.setTop (mkF m 4 #[.val (.ref a)] [])) := fun t k => G t (st1 t k)
  obtain ⟨fs, hr, hrun, hended, hW, hsame⟩ := X1.leave (v := none) (fun _ => rfl)
  refine ⟨_, _, G _ (X1.returnOut hx Bd.returns (hb hby d10_4) hr), hrun, hended, _, _, rfl, ?_, ⟨_, rfl⟩, hW, hsame.mono (by decide) (by decide)⟩
  show Q10 Z a h0 n0 _ T1.heap _
  rw [e1]
  exact ⟨rfl, N0, rfl⟩
theorem pd_5 : parseMethodDescriptor "()V" = some ⟨[], none⟩ := by decide +kernel
theorem d9_0 : decode prog_56_method_1_code 0 = .ok (.aload_n 0, 1) := by decide +kernel
theorem d9_1 : decode prog_56_method_1_code 1 = .ok (.invokespecial 1, 3) := by decide +kernel
theorem d9_4 : decode prog_56_method_1_code 4 = .ok (.aload_n 0, 1) := by decide +kernel
theorem d9_5 : decode prog_56_method_1_code 5 = .ok (.aload_n 1, 1) := by decide +kernel
theorem d9_6 : decode prog_56_method_1_code 6 = .ok (.putfield 7, 3) := by decide +kernel
theorem d9_9 : decode prog_56_method_1_code 9 = .ok (.aload_n 0, 1) := by decide +kernel
theorem d9_10 : decode prog_56_method_1_code 10 = .ok (.aload_n 2, 1) := by decide +kernel
theorem d9_11 : decode prog_56_method_1_code 11 = .ok (.putfield 13, 3) := by decide +kernel
theorem d9_14 : decode prog_56_method_1_code 14 = .ok (.aload_n 0, 1) := by decide +kernel
theorem d9_15 : decode prog_56_method_1_code 15 = .ok (.aload_n 3, 1) := by decide +kernel
theorem d9_16 : decode prog_56_method_1_code 16 = .ok (.putfield 16, 3) := by decide +kernel
theorem d9_19 : decode prog_56_method_1_code 19 = .ok (.aload_n 0, 1) := by decide +kernel
theorem d9_20 : decode prog_56_method_1_code 20 = .ok (.aload 4, 2) := by decide +kernel
theorem d9_22 : decode prog_56_method_1_code 22 = .ok (.putfield 19, 3) := by decide +kernel
theorem d9_25 : decode prog_56_method_1_code 25 = .ok (.aload_n 0, 1) := by decide +kernel
theorem d9_26 : decode prog_56_method_1_code 26 = .ok (.aload 5, 2) := by decide +kernel
theorem d9_28 : decode prog_56_method_1_code 28 = .ok (.putfield 23, 3) := by decide +kernel
theorem d9_31 : decode prog_56_method_1_code 31 = .ok (.return_, 1) := by decide +kernel
theorem pn_com_example_assertgate_assertgate_store_Organisation : plainName "com/example/assertgate/assertgate/store/Organisation" = true := by first | (simp [plainName, overriddenIn]; done) | decide +kernel
theorem ef_9 (m : MethodId) (x0 : Addr) (x1 : Addr) : entryFrame m #[(.ref x0), (.ref x1), .null, .null, .null, .null] 6 = mkF m 0 #[.val (.ref x0), .val (.ref x1), .val .null, .val .null, .val .null, .val .null] [] := by first | (simp [entryFrame, mkF, argsToLocals, Value.category]; done) | rfl
def Q9 (Z : State) (a : Addr) (u : Addr) (h0 : Heap) (n0 : Nat) (v : Option Value) (h : Heap) (L : List Loc) : Prop := v = none ∧ Fr n0 L ∧ Keep h0 h [a] ∧ (Fld Z h a "com/example/assertgate/assertgate/store/Organisation" "name" "Ljava/lang/String;" (.ref u)) ∧ (Fld Z h a "com/example/assertgate/assertgate/store/Organisation" "defaultRelayState" "Ljava/lang/String;" .null) ∧ (Fld Z h a "com/example/assertgate/assertgate/store/Organisation" "nameIdFormat" "Ljava/lang/String;" .null) ∧ (Fld Z h a "com/example/assertgate/assertgate/store/Organisation" "firstSignInAt" "Ljava/time/Instant;" .null) ∧ (Fld Z h a "com/example/assertgate/assertgate/store/Organisation" "idp" "Lcom/example/assertgate/assertgate/store/Organisation$Idp;" .null)
set_option maxRecDepth 65536 in
set_option maxHeartbeats 40000000 in
theorem rm9 (l : Launch) (Z : State) (a0 : Array Value) (hw : ∀ d ∈ tables_1, d.before a0 Z = true) (ws : List Jvm.Cond) (a : Addr) (u : Addr) (h0 : Heap) (n0 : Nat) (Z0 : n0 ≤ h0.size) (P0 : Fld Z h0 a "com/example/assertgate/assertgate/store/Organisation" "name" "Ljava/lang/String;" .null) (P1 : Fld Z h0 a "com/example/assertgate/assertgate/store/Organisation" "defaultRelayState" "Ljava/lang/String;" .null) (P2 : Fld Z h0 a "com/example/assertgate/assertgate/store/Organisation" "nameIdFormat" "Ljava/lang/String;" .null) (P3 : Fld Z h0 a "com/example/assertgate/assertgate/store/Organisation" "firstSignInAt" "Ljava/time/Instant;" .null) (P4 : Fld Z h0 a "com/example/assertgate/assertgate/store/Organisation" "idp" "Lcom/example/assertgate/assertgate/store/Organisation$Idp;" .null) (P5 : Exa Z h0 a "com/example/assertgate/assertgate/store/Organisation") (P6 : n0 ≤ a) :
    MetFree l (⟨"com/example/assertgate/assertgate/store/Organisation", "<init>", "(Ljava/lang/String;Ljava/lang/String;Ljava/lang/String;Ljava/time/Instant;Lcom/example/assertgate/assertgate/store/Organisation$Idp;)V"⟩ : MethodName) (head1 (Jvm.Cond.code (⟨"com/example/assertgate/assertgate/store/Organisation", "<init>", "(Ljava/lang/String;Ljava/lang/String;Ljava/lang/String;Ljava/time/Instant;Lcom/example/assertgate/assertgate/store/Organisation$Idp;)V"⟩ : MethodName) prog_56_method_1_code 6 none :: ws) ({ frames := 2, cells := 0, slots := 0, locals := 24 } : Room)) (fun argz U => argz = #[(.ref a), (.ref u), .null, .null, .null, .null] ∧ Z.Warmed39 U.vm ∧ U.heap = h0) (fun _ _ _ _ _ => True) (fun _ U o U' => ∃ v L, o = .returned v ∧ Q9 Z a u h0 n0 v U'.heap L ∧ FrameEnd U o U' L ({ frames := 2, cells := 0, slots := 0, locals := 24 } : Room).cells ({ frames := 2, cells := 0, slots := 0, locals := 24 } : Room).slots) := by
  refine MetFree.of_bodySF (plainFor_of_name pn_com_example_assertgate_assertgate_store_Organisation) hisR ?_
  intro p e s m args below meth c s₁ Bd hml0 hP hK
  obtain ⟨rfl, hZ, hh⟩ := hP
  have hx := Bd.exec
  have hby := Bd.bytes
  have hml : c.maxLocals = 6 := hml0
  have hown : s.vm.findClass "com/example/assertgate/assertgate/store/Organisation" = some m.cls := findClass_of_methodNamed Bd.named
  have hnm := (name_of_methodNamed Bd.named Bd.method).1
  have X0 : Stand p l e ({ frames := 2, cells := 0, slots := 0, locals := 24 } : Room) s m #[(.ref a), (.ref u), .null, .null, .null, .null] below meth c s₁ [] 0 0 := Stand.of_body Bd
  have e0 : s₁.heap = h0 := by rw [← hh, Bd.state]; rfl
  have N0 := Fr.nil n0
  have K0 : Keep h0 h0 [a] := Keep.refl _ _
  have G : Gets p e below (s₁.setTop (entryFrame m #[(.ref a), (.ref u), .null, .null, .null, .null] 6)) (s₁.setTop (mkF m 0 #[.val (.ref a), .val (.ref u), .val .null, .val .null, .val .null, .val .null] [])) := fun t k => castTop (ef_9 m a u) k
  replace G := own_aloadN (q := 1) G X0.here hx (hb hby d9_0) rfl rfl rfl
  obtain ⟨_, _, ⟨T1, L1, kk1, nn1⟩, -, X1, ⟨Lc1, hQ1, l1, y1, z1⟩, st1⟩ := X0.specialBack hx (y := (⟨"java/lang/Record", "<init>", "()V"⟩ : MethodName)) rfl hown (mvT hZ (hw _ (List.mem_of_getElem? (i := 43) rfl))) (mvT hZ (hw _ (List.mem_of_getElem? (i := 44) rfl))) (mvT hZ (hw _ (List.mem_of_getElem? (i := 47) rfl))) (by decide) (backOf (W := 0) (rm10 l Z a0 hw [] a h0 n0 Z0 ) hZ (hw _ (List.mem_of_getElem? (i := 47) rfl)) (hw _ (List.mem_of_getElem? (i := 46) rfl)) (by decide) (by decide)) (g := (mkF m 1 #[.val (.ref a), .val (.ref u), .val .null, .val .null, .val .null, .val .null] [(.ref a)])) rfl (by rw [hml]; rfl) (Steps.refl _) (a := a) (argsL := []) (rest := []) (lenOf pd_5 rfl) rfl (by show 2 * 0 + _ ≤ _; exact Nat.le_of_eq rfl) (hb hby d9_1) (fun _ _ => ⟨rfl, e0, (by decide : 0 + 0 ≤ _), (by decide : 0 + 0 ≤ _)⟩)
  dsimp only [Pt.U, Pt.locs, Pt.cells, Pt.slots] at X1 l1 y1 z1 st1 hQ1
  subst l1 y1 z1
  obtain ⟨rfl, N1q, e1⟩ := hQ1
  have N1 := Fr.app N0 N1q
  replace G : Gets p e below _ (T1.setTop (mkF m 4 #[.val (.ref a), .val (.ref u), .val .null, .val .null, .val .null, .val .null] [])) := fun t k => G t (st1.trans k)
  replace G := own_aloadN (q := 5) G X1.here hx (hb hby d9_4) rfl rfl rfl
  replace G := own_aloadN (q := 6) G X1.here hx (hb hby d9_5) rfl rfl rfl
  obtain ⟨T2, h2, X2, e2, W2, st2⟩ := putF X1 hx hZ hown (host := "") (Or.inl (hw _ (List.mem_of_getElem? (i := 49) rfl))) Via.refl e1 P0 P5 (Or.inr ⟨(hw _ (List.mem_of_getElem? (i := 50) rfl)), rfl, hnm⟩) (hw _ (List.mem_of_getElem? (i := 39) rfl)) (ty := (.object "java/lang/String")) (by decide) rfl rfl (g := (mkF m 6 #[.val (.ref a), .val (.ref u), .val .null, .val .null, .val .null, .val .null] [(.ref u), (.ref a)])) rfl rfl (hb hby d9_6)
  have N2 := Fr.snoc X2 N1 P6
  have Z2 : n0 ≤ h2.size := Nat.le_trans Z0 (Keep.of_wr W2).1
  have K2 : Keep h0 h2 [a] := K0.wr W2 (Or.inl (List.mem_of_getElem? (i := 0) rfl))
  have F2 : Fld Z h2 a "com/example/assertgate/assertgate/store/Organisation" "name" "Ljava/lang/String;" (.ref u) := P0.same W2
  replace G : Gets p e below _ (T2.setTop (mkF m 9 #[.val (.ref a), .val (.ref u), .val .null, .val .null, .val .null, .val .null] [])) := fun t k => G t (st2 t k)
  replace G := own_aloadN (q := 10) G X2.here hx (hb hby d9_9) rfl rfl rfl
  replace G := own_aloadN (q := 11) G X2.here hx (hb hby d9_10) rfl rfl rfl
  have F3 : Exa Z h2 a "com/example/assertgate/assertgate/store/Organisation" := (P5.wr W2)
  have F4 : Fld Z h2 a "com/example/assertgate/assertgate/store/Organisation" "defaultRelayState" "Ljava/lang/String;" .null := (P1.other W2 (Or.inr (slot_ne (Or.inr (hw _ (List.mem_of_getElem? (i := 52) rfl))) (Or.inr (hw _ (List.mem_of_getElem? (i := 50) rfl))) (by decide) (t := (.object "java/lang/String")) (t' := (.object "java/lang/String")) (by decide) (by decide))))
  obtain ⟨T5, h5, X5, e5, W5, st5⟩ := putF X2 hx hZ hown (host := "") (Or.inl (hw _ (List.mem_of_getElem? (i := 51) rfl))) Via.refl e2 F4 F3 (Or.inr ⟨(hw _ (List.mem_of_getElem? (i := 52) rfl)), rfl, hnm⟩) (hw _ (List.mem_of_getElem? (i := 39) rfl)) (ty := (.object "java/lang/String")) (by decide) rfl rfl (g := (mkF m 11 #[.val (.ref a), .val (.ref u), .val .null, .val .null, .val .null, .val .null] [.null, (.ref a)])) rfl rfl (hb hby d9_11)
  have N5 := Fr.snoc X5 N2 P6
  have Z5 : n0 ≤ h5.size := Nat.le_trans Z2 (Keep.of_wr W5).1
  have K5 : Keep h0 h5 [a] := K2.wr W5 (Or.inl (List.mem_of_getElem? (i := 0) rfl))
  have F5 : Fld Z h5 a "com/example/assertgate/assertgate/store/Organisation" "defaultRelayState" "Ljava/lang/String;" .null := F4.same W5
  replace G : Gets p e below _ (T5.setTop (mkF m 14 #[.val (.ref a), .val (.ref u), .val .null, .val .null, .val .null, .val .null] [])) := fun t k => G t (st5 t k)
  replace G := own_aloadN (q := 15) G X5.here hx (hb hby d9_14) rfl rfl rfl
  replace G := own_aloadN (q := 16) G X5.here hx (hb hby d9_15) rfl rfl rfl
  have F6 : Exa Z h5 a "com/example/assertgate/assertgate/store/Organisation" := (F3.wr W5)
  have F7 : Fld Z h5 a "com/example/assertgate/assertgate/store/Organisation" "nameIdFormat" "Ljava/lang/String;" .null := ((P2.other W2 (Or.inr (slot_ne (Or.inr (hw _ (List.mem_of_getElem? (i := 54) rfl))) (Or.inr (hw _ (List.mem_of_getElem? (i := 50) rfl))) (by decide) (t := (.object "java/lang/String")) (t' := (.object "java/lang/String")) (by decide) (by decide)))).other W5 (Or.inr (slot_ne (Or.inr (hw _ (List.mem_of_getElem? (i := 54) rfl))) (Or.inr (hw _ (List.mem_of_getElem? (i := 52) rfl))) (by decide) (t := (.object "java/lang/String")) (t' := (.object "java/lang/String")) (by decide) (by decide))))
  obtain ⟨T8, h8, X8, e8, W8, st8⟩ := putF X5 hx hZ hown (host := "") (Or.inl (hw _ (List.mem_of_getElem? (i := 53) rfl))) Via.refl e5 F7 F6 (Or.inr ⟨(hw _ (List.mem_of_getElem? (i := 54) rfl)), rfl, hnm⟩) (hw _ (List.mem_of_getElem? (i := 39) rfl)) (ty := (.object "java/lang/String")) (by decide) rfl rfl (g := (mkF m 16 #[.val (.ref a), .val (.ref u), .val .null, .val .null, .val .null, .val .null] [.null, (.ref a)])) rfl rfl (hb hby d9_16)
  have N8 := Fr.snoc X8 N5 P6
  have Z8 : n0 ≤ h8.size := Nat.le_trans Z5 (Keep.of_wr W8).1
  have K8 : Keep h0 h8 [a] := K5.wr W8 (Or.inl (List.mem_of_getElem? (i := 0) rfl))
  have F8 : Fld Z h8 a "com/example/assertgate/assertgate/store/Organisation" "nameIdFormat" "Ljava/lang/String;" .null := F7.same W8
  replace G : Gets p e below _ (T8.setTop (mkF m 19 #[.val (.ref a), .val (.ref u), .val .null, .val .null, .val .null, .val .null] [])) := fun t k => G t (st8 t k)
  replace G := own_aloadN (q := 20) G X8.here hx (hb hby d9_19) rfl rfl rfl
  replace G := own_aload (q := 22) G X8.here hx (hb hby d9_20) rfl rfl rfl
  have F9 : Exa Z h8 a "com/example/assertgate/assertgate/store/Organisation" := (F6.wr W8)
  have F10 : Fld Z h8 a "com/example/assertgate/assertgate/store/Organisation" "firstSignInAt" "Ljava/time/Instant;" .null := (((P3.other W2 (Or.inr (slot_ne (Or.inr (hw _ (List.mem_of_getElem? (i := 56) rfl))) (Or.inr (hw _ (List.mem_of_getElem? (i := 50) rfl))) (by decide) (t := (.object "java/time/Instant")) (t' := (.object "java/lang/String")) (by decide) (by decide)))).other W5 (Or.inr (slot_ne (Or.inr (hw _ (List.mem_of_getElem? (i := 56) rfl))) (Or.inr (hw _ (List.mem_of_getElem? (i := 52) rfl))) (by decide) (t := (.object "java/time/Instant")) (t' := (.object "java/lang/String")) (by decide) (by decide)))).other W8 (Or.inr (slot_ne (Or.inr (hw _ (List.mem_of_getElem? (i := 56) rfl))) (Or.inr (hw _ (List.mem_of_getElem? (i := 54) rfl))) (by decide) (t := (.object "java/time/Instant")) (t' := (.object "java/lang/String")) (by decide) (by decide))))
  obtain ⟨T11, h11, X11, e11, W11, st11⟩ := putF X8 hx hZ hown (host := "") (Or.inl (hw _ (List.mem_of_getElem? (i := 55) rfl))) Via.refl e8 F10 F9 (Or.inr ⟨(hw _ (List.mem_of_getElem? (i := 56) rfl)), rfl, hnm⟩) (hw _ (List.mem_of_getElem? (i := 39) rfl)) (ty := (.object "java/time/Instant")) (by decide) rfl rfl (g := (mkF m 22 #[.val (.ref a), .val (.ref u), .val .null, .val .null, .val .null, .val .null] [.null, (.ref a)])) rfl rfl (hb hby d9_22)
  have N11 := Fr.snoc X11 N8 P6
  have Z11 : n0 ≤ h11.size := Nat.le_trans Z8 (Keep.of_wr W11).1
  have K11 : Keep h0 h11 [a] := K8.wr W11 (Or.inl (List.mem_of_getElem? (i := 0) rfl))
  have F11 : Fld Z h11 a "com/example/assertgate/assertgate/store/Organisation" "firstSignInAt" "Ljava/time/Instant;" .null := F10.same W11
  replace G : Gets p e below _ (T11.setTop (mkF m 25 #[.val (.ref a), .val (.ref u), .val .null, .val .null, .val .null, .val .null] [])) := fun t k => G t (st11 t k)
  replace G := own_aloadN (q := 26) G X11.here hx (hb hby d9_25) rfl rfl rfl
  replace G := own_aload (q := 28) G X11.here hx (hb hby d9_26) rfl rfl rfl
  have F12 : Exa Z h11 a "com/example/assertgate/assertgate/store/Organisation" := (F9.wr W11)
  have F13 : Fld Z h11 a "com/example/assertgate/assertgate/store/Organisation" "idp" "Lcom/example/assertgate/assertgate/store/Organisation$Idp;" .null := ((((P4.other W2 (Or.inr (slot_ne (Or.inr (hw _ (List.mem_of_getElem? (i := 58) rfl))) (Or.inr (hw _ (List.mem_of_getElem? (i := 50) rfl))) (by decide) (t := (.object "com/example/assertgate/assertgate/store/Organisation$Idp")) (t' := (.object "java/lang/String")) (by decide) (by decide)))).other W5 (Or.inr (slot_ne (Or.inr (hw _ (List.mem_of_getElem? (i := 58) rfl))) (Or.inr (hw _ (List.mem_of_getElem? (i := 52) rfl))) (by decide) (t := (.object "com/example/assertgate/assertgate/store/Organisation$Idp")) (t' := (.object "java/lang/String")) (by decide) (by decide)))).other W8 (Or.inr (slot_ne (Or.inr (hw _ (List.mem_of_getElem? (i := 58) rfl))) (Or.inr (hw _ (List.mem_of_getElem? (i := 54) rfl))) (by decide) (t := (.object "com/example/assertgate/assertgate/store/Organisation$Idp")) (t' := (.object "java/lang/String")) (by decide) (by decide)))).other W11 (Or.inr (slot_ne (Or.inr (hw _ (List.mem_of_getElem? (i := 58) rfl))) (Or.inr (hw _ (List.mem_of_getElem? (i := 56) rfl))) (by decide) (t := (.object "com/example/assertgate/assertgate/store/Organisation$Idp")) (t' := (.object "java/time/Instant")) (by decide) (by decide))))
  obtain ⟨T14, h14, X14, e14, W14, st14⟩ := putF X11 hx hZ hown (host := "") (Or.inl (hw _ (List.mem_of_getElem? (i := 57) rfl))) Via.refl e11 F13 F12 (Or.inr ⟨(hw _ (List.mem_of_getElem? (i := 58) rfl)), rfl, hnm⟩) (hw _ (List.mem_of_getElem? (i := 39) rfl)) (ty := (.object "com/example/assertgate/assertgate/store/Organisation$Idp")) (by decide) rfl rfl (g := (mkF m 28 #[.val (.ref a), .val (.ref u), .val .null, .val .null, .val .null, .val .null] [.null, (.ref a)])) rfl rfl (hb hby d9_28)
  have N14 := Fr.snoc X14 N11 P6
  have Z14 : n0 ≤ h14.size := Nat.le_trans Z11 (Keep.of_wr W14).1
  have K14 : Keep h0 h14 [a] := K11.wr W14 (Or.inl (List.mem_of_getElem? (i := 0) rfl))
  have F14 : Fld Z h14 a "com/example/assertgate/assertgate/store/Organisation" "idp" "Lcom/example/assertgate/assertgate/store/Organisation$Idp;" .null := F13.same W14
  replace G : Gets p e below _ (T14.setTop (mkF m 31 #[.val (.ref a), .val (.ref u), .val .null, .val .null, .val .null, .val .null] [])) := fun t k => G t (st14 t k)
  obtain ⟨fs, hr, hrun, hended, hW, hsame⟩ := X14.leave (v := none) (fun _ => rfl)
  refine ⟨_, _, G _ (X14.returnOut hx Bd.returns (hb hby d9_31) hr), hrun, hended, _, _, rfl, ?_, ⟨_, rfl⟩, hW, hsame.mono (by decide) (by decide)⟩
  have F15 : Fld Z h14 a "com/example/assertgate/assertgate/store/Organisation" "name" "Ljava/lang/String;" (.ref u) := ((((F2.other W5 (Or.inr (slot_ne (Or.inr (hw _ (List.mem_of_getElem? (i := 50) rfl))) (Or.inr (hw _ (List.mem_of_getElem? (i := 52) rfl))) (by decide) (t := (.object "java/lang/String")) (t' := (.object "java/lang/String")) (by decide) (by decide)))).other W8 (Or.inr (slot_ne (Or.inr (hw _ (List.mem_of_getElem? (i := 50) rfl))) (Or.inr (hw _ (List.mem_of_getElem? (i := 54) rfl))) (by decide) (t := (.object "java/lang/String")) (t' := (.object "java/lang/String")) (by decide) (by decide)))).other W11 (Or.inr (slot_ne (Or.inr (hw _ (List.mem_of_getElem? (i := 50) rfl))) (Or.inr (hw _ (List.mem_of_getElem? (i := 56) rfl))) (by decide) (t := (.object "java/lang/String")) (t' := (.object "java/time/Instant")) (by decide) (by decide)))).other W14 (Or.inr (slot_ne (Or.inr (hw _ (List.mem_of_getElem? (i := 50) rfl))) (Or.inr (hw _ (List.mem_of_getElem? (i := 58) rfl))) (by decide) (t := (.object "java/lang/String")) (t' := (.object "com/example/assertgate/assertgate/store/Organisation$Idp")) (by decide) (by decide))))
  have F16 : Fld Z h14 a "com/example/assertgate/assertgate/store/Organisation" "defaultRelayState" "Ljava/lang/String;" .null := (((F5.other W8 (Or.inr (slot_ne (Or.inr (hw _ (List.mem_of_getElem? (i := 52) rfl))) (Or.inr (hw _ (List.mem_of_getElem? (i := 54) rfl))) (by decide) (t := (.object "java/lang/String")) (t' := (.object "java/lang/String")) (by decide) (by decide)))).other W11 (Or.inr (slot_ne (Or.inr (hw _ (List.mem_of_getElem? (i := 52) rfl))) (Or.inr (hw _ (List.mem_of_getElem? (i := 56) rfl))) (by decide) (t := (.object "java/lang/String")) (t' := (.object "java/time/Instant")) (by decide) (by decide)))).other W14 (Or.inr (slot_ne (Or.inr (hw _ (List.mem_of_getElem? (i := 52) rfl))) (Or.inr (hw _ (List.mem_of_getElem? (i := 58) rfl))) (by decide) (t := (.object "java/lang/String")) (t' := (.object "com/example/assertgate/assertgate/store/Organisation$Idp")) (by decide) (by decide))))
  have F17 : Fld Z h14 a "com/example/assertgate/assertgate/store/Organisation" "nameIdFormat" "Ljava/lang/String;" .null := ((F8.other W11 (Or.inr (slot_ne (Or.inr (hw _ (List.mem_of_getElem? (i := 54) rfl))) (Or.inr (hw _ (List.mem_of_getElem? (i := 56) rfl))) (by decide) (t := (.object "java/lang/String")) (t' := (.object "java/time/Instant")) (by decide) (by decide)))).other W14 (Or.inr (slot_ne (Or.inr (hw _ (List.mem_of_getElem? (i := 54) rfl))) (Or.inr (hw _ (List.mem_of_getElem? (i := 58) rfl))) (by decide) (t := (.object "java/lang/String")) (t' := (.object "com/example/assertgate/assertgate/store/Organisation$Idp")) (by decide) (by decide))))
  have F18 : Fld Z h14 a "com/example/assertgate/assertgate/store/Organisation" "firstSignInAt" "Ljava/time/Instant;" .null := (F11.other W14 (Or.inr (slot_ne (Or.inr (hw _ (List.mem_of_getElem? (i := 56) rfl))) (Or.inr (hw _ (List.mem_of_getElem? (i := 58) rfl))) (by decide) (t := (.object "java/time/Instant")) (t' := (.object "com/example/assertgate/assertgate/store/Organisation$Idp")) (by decide) (by decide))))
  show Q9 Z a u h0 n0 _ T14.heap _
  rw [e14]
  exact ⟨rfl, N14, K14, F15, F16, F17, F18, F14⟩
theorem pd_6 : parseMethodDescriptor "(Ljava/lang/String;Ljava/lang/String;Ljava/lang/String;Ljava/time/Instant;Lcom/example/assertgate/assertgate/store/Organisation$Idp;)V" = some ⟨[(.object "java/lang/String"), (.object "java/lang/String"), (.object "java/lang/String"), (.object "java/time/Instant"), (.object "com/example/assertgate/assertgate/store/Organisation$Idp")], none⟩ := by decide +kernel
theorem d8_0 : decode prog_56_method_2_code 0 = .ok (.new 8, 3) := by decide +kernel
theorem d8_3 : decode prog_56_method_2_code 3 = .ok (.dup, 1) := by decide +kernel
theorem d8_4 : decode prog_56_method_2_code 4 = .ok (.aload_n 0, 1) := by decide +kernel
theorem d8_5 : decode prog_56_method_2_code 5 = .ok (.aconst_null, 1) := by decide +kernel
theorem d8_6 : decode prog_56_method_2_code 6 = .ok (.aconst_null, 1) := by decide +kernel
theorem d8_7 : decode prog_56_method_2_code 7 = .ok (.aconst_null, 1) := by decide +kernel
theorem d8_8 : decode prog_56_method_2_code 8 = .ok (.aconst_null, 1) := by decide +kernel
theorem d8_9 : decode prog_56_method_2_code 9 = .ok (.invokespecial 27, 3) := by decide +kernel
theorem d8_12 : decode prog_56_method_2_code 12 = .ok (.areturn, 1) := by decide +kernel
theorem ef_8 (m : MethodId) (x0 : Addr) : entryFrame m #[(.ref x0)] 1 = mkF m 0 #[.val (.ref x0)] [] := by first | (simp [entryFrame, mkF, argsToLocals, Value.category]; done) | rfl
def Q8 (Z : State) (u : Addr) (h0 : Heap) (n0 : Nat) (v : Option Value) (h : Heap) (L : List Loc) : Prop := ∃ (b : Addr), v = some (.ref b) ∧ Fr n0 L ∧ Keep h0 h [] ∧ h0.size ≤ b ∧ (Exa Z h b "com/example/assertgate/assertgate/store/Organisation") ∧ (Fld Z h b "com/example/assertgate/assertgate/store/Organisation" "name" "Ljava/lang/String;" (.ref u)) ∧ (Fld Z h b "com/example/assertgate/assertgate/store/Organisation" "defaultRelayState" "Ljava/lang/String;" .null) ∧ (Fld Z h b "com/example/assertgate/assertgate/store/Organisation" "nameIdFormat" "Ljava/lang/String;" .null) ∧ (Fld Z h b "com/example/assertgate/assertgate/store/Organisation" "firstSignInAt" "Ljava/time/Instant;" .null) ∧ (Fld Z h b "com/example/assertgate/assertgate/store/Organisation" "idp" "Lcom/example/assertgate/assertgate/store/Organisation$Idp;" .null)
set_option maxRecDepth 65536 in
set_option maxHeartbeats 40000000 in
theorem rm8 (l : Launch) (Z : State) (a0 : Array Value) (hw : ∀ d ∈ tables_1, d.before a0 Z = true) (ws : List Jvm.Cond) (u : Addr) (h0 : Heap) (n0 : Nat) (Z0 : n0 ≤ h0.size)  :
    MetFree l (⟨"com/example/assertgate/assertgate/store/Organisation", "named", "(Ljava/lang/String;)Lcom/example/assertgate/assertgate/store/Organisation;"⟩ : MethodName) (head1 (Jvm.Cond.code (⟨"com/example/assertgate/assertgate/store/Organisation", "named", "(Ljava/lang/String;)Lcom/example/assertgate/assertgate/store/Organisation;"⟩ : MethodName) prog_56_method_2_code 1 (some (.object "com/example/assertgate/assertgate/store/Organisation")) :: ws) ({ frames := 3, cells := 1, slots := 5, locals := 42 } : Room)) (fun argz U => argz = #[(.ref u)] ∧ Z.Warmed39 U.vm ∧ U.heap = h0) (fun _ _ _ _ _ => True) (fun _ U o U' => ∃ v L, o = .returned v ∧ Q8 Z u h0 n0 v U'.heap L ∧ FrameEnd U o U' L ({ frames := 3, cells := 1, slots := 5, locals := 42 } : Room).cells ({ frames := 3, cells := 1, slots := 5, locals := 42 } : Room).slots) := by
  refine MetFree.of_bodySF (plainFor_of_name pn_com_example_assertgate_assertgate_store_Organisation) hisR ?_
  intro p e s m args below meth c s₁ Bd hml0 hP hK
  obtain ⟨rfl, hZ, hh⟩ := hP
  have hx := Bd.exec
  have hby := Bd.bytes
  have hml : c.maxLocals = 1 := hml0
  have hown : s.vm.findClass "com/example/assertgate/assertgate/store/Organisation" = some m.cls := findClass_of_methodNamed Bd.named
  have hnm := (name_of_methodNamed Bd.named Bd.method).1
  have X0 : Stand p l e ({ frames := 3, cells := 1, slots := 5, locals := 42 } : Room) s m #[(.ref u)] below meth c s₁ [] 0 0 := Stand.of_body Bd
  have e0 : s₁.heap = h0 := by rw [← hh, Bd.state]; rfl
  have N0 := Fr.nil n0
  have K0 : Keep h0 h0 [] := Keep.refl _ _
  have G : Gets p e below (s₁.setTop (entryFrame m #[(.ref u)] 1)) (s₁.setTop (mkF m 0 #[.val (.ref u)] [])) := fun t k => castTop (ef_8 m u) k
  obtain ⟨T1, h1, X1, e1, E1, A1, D1, -, st1⟩ := newO X0 hx hZ hown (hw _ (List.mem_of_getElem? (i := 38) rfl)) (hw _ (List.mem_of_getElem? (i := 39) rfl)) (hw _ (List.mem_of_getElem? (i := 36) rfl)) e0 (g := (mkF m 0 #[.val (.ref u)] [])) rfl (hb hby d8_0) (by decide) (by decide)
  obtain ⟨b1, g1⟩ : ∃ z, z = h0.size := ⟨_, rfl⟩
  rw [← g1] at A1 D1 st1
  have ge_b1 : n0 ≤ b1 := Nat.le_trans Z0 (Nat.le_of_eq g1.symm)
  have sz_b1 : h0.size ≤ b1 := Nat.le_trans K0.1 (Nat.le_of_eq g1.symm)
  have Z1 : n0 ≤ h1.size := Nat.le_trans Z0 E1.1
  have K1 : Keep h0 h1 [] := K0.ext E1
  have F1_name : Fld Z h1 b1 "com/example/assertgate/assertgate/store/Organisation" "name" "Ljava/lang/String;" .null := D1 (Or.inr (hw _ (List.mem_of_getElem? (i := 50) rfl))) (ty := (.object "java/lang/String")) (by decide)
  have F1_defaultRelayState : Fld Z h1 b1 "com/example/assertgate/assertgate/store/Organisation" "defaultRelayState" "Ljava/lang/String;" .null := D1 (Or.inr (hw _ (List.mem_of_getElem? (i := 52) rfl))) (ty := (.object "java/lang/String")) (by decide)
  have F1_nameIdFormat : Fld Z h1 b1 "com/example/assertgate/assertgate/store/Organisation" "nameIdFormat" "Ljava/lang/String;" .null := D1 (Or.inr (hw _ (List.mem_of_getElem? (i := 54) rfl))) (ty := (.object "java/lang/String")) (by decide)
  have F1_firstSignInAt : Fld Z h1 b1 "com/example/assertgate/assertgate/store/Organisation" "firstSignInAt" "Ljava/time/Instant;" .null := D1 (Or.inr (hw _ (List.mem_of_getElem? (i := 56) rfl))) (ty := (.object "java/time/Instant")) (by decide)
  have F1_idp : Fld Z h1 b1 "com/example/assertgate/assertgate/store/Organisation" "idp" "Lcom/example/assertgate/assertgate/store/Organisation$Idp;" .null := D1 (Or.inr (hw _ (List.mem_of_getElem? (i := 58) rfl))) (ty := (.object "com/example/assertgate/assertgate/store/Organisation$Idp")) (by decide)
  replace G : Gets p e below _ (T1.setTop (mkF m 3 #[.val (.ref u)] [(.ref b1)])) := fun t k => G t (st1 t k)
  replace G := own_dup (q := 4) G X1.here hx (hb hby d8_3) rfl rfl
  replace G := own_aloadN (q := 5) G X1.here hx (hb hby d8_4) rfl rfl rfl
  replace G := own_aconst_null (q := 6) G X1.here hx (hb hby d8_5) rfl
  replace G := own_aconst_null (q := 7) G X1.here hx (hb hby d8_6) rfl
  replace G := own_aconst_null (q := 8) G X1.here hx (hb hby d8_7) rfl
  replace G := own_aconst_null (q := 9) G X1.here hx (hb hby d8_8) rfl
  obtain ⟨_, _, ⟨T2, L2, kk2, nn2⟩, -, X2, ⟨Lc2, hQ2, l2, y2, z2⟩, st2⟩ := X1.specialBack hx (y := (⟨"com/example/assertgate/assertgate/store/Organisation", "<init>", "(Ljava/lang/String;Ljava/lang/String;Ljava/lang/String;Ljava/time/Instant;Lcom/example/assertgate/assertgate/store/Organisation$Idp;)V"⟩ : MethodName)) rfl hown (mvT hZ (hw _ (List.mem_of_getElem? (i := 40) rfl))) (mvT hZ (hw _ (List.mem_of_getElem? (i := 41) rfl))) (mvT hZ (hw _ (List.mem_of_getElem? (i := 42) rfl))) (by decide) (backOf (W := 1) (rm9 l Z a0 hw [] b1 u h1 n0 Z1 F1_name F1_defaultRelayState F1_nameIdFormat F1_firstSignInAt F1_idp A1 ge_b1) hZ (hw _ (List.mem_of_getElem? (i := 42) rfl)) (hw _ (List.mem_of_getElem? (i := 36) rfl)) (by decide) (by decide)) (g := (mkF m 9 #[.val (.ref u)] [.null, .null, .null, .null, (.ref u), (.ref b1), (.ref b1)])) rfl (by rw [hml]; rfl) (Steps.refl _) (a := b1) (argsL := [(.ref u), .null, .null, .null, .null]) (rest := [(.ref b1)]) (lenOf pd_6 rfl) rfl (by show 2 * 0 + _ ≤ _; exact Nat.le_of_eq rfl) (hb hby d8_9) (fun _ _ => ⟨rfl, e1, (by decide : 1 + 0 ≤ _), (by decide : 5 + 0 ≤ _)⟩)
  dsimp only [Pt.U, Pt.locs, Pt.cells, Pt.slots] at X2 l2 y2 z2 st2 hQ2
  subst l2 y2 z2
  obtain ⟨rfl, N2q, K2q, B2_0, B2_1, B2_2, B2_3, B2_4⟩ := hQ2
  have Z2 : n0 ≤ T2.heap.size := Nat.le_trans Z1 K2q.1
  have K2 : Keep h0 T2.heap [] := K1.trans K2q (allS (Or.inr sz_b1) all0)
  have N2 := Fr.app N0 N2q
  replace G : Gets p e below _ (T2.setTop (mkF m 12 #[.val (.ref u)] [(.ref b1)])) := fun t k => G t (st2.trans k)
  obtain ⟨fs, hr, hrun, hended, hW, hsame⟩ := X2.leave (v := some (.ref b1)) (fun h => by rw [Bd.returns] at h; cases h)
  refine ⟨_, _, G _ (retOut X2 hx Bd.returns rfl (Or.inr (Or.inr (Or.inr (Or.inr ⟨rfl, rfl, rfl⟩)))) (hb hby d8_12) hr), hrun, hended, _, _, rfl, ?_, ⟨_, rfl⟩, hW, hsame.mono (by decide) (by decide)⟩
  have F3 : Exa Z T2.heap b1 "com/example/assertgate/assertgate/store/Organisation" := (A1.keep K2q)
  show Q8 Z u h0 n0 _ T2.heap _
  exact ⟨b1, rfl, N2, K2, sz_b1, F3, B2_0, B2_1, B2_2, B2_3, B2_4⟩
theorem d11_0 : decode prog_56_method_17_code 0 = .ok (.aload_n 0, 1) := by decide +kernel
theorem d11_1 : decode prog_56_method_17_code 1 = .ok (.getfield 7, 3) := by decide +kernel
theorem d11_4 : decode prog_56_method_17_code 4 = .ok (.areturn, 1) := by decide +kernel
theorem ef_11 (m : MethodId) (x0 : Addr) : entryFrame m #[(.ref x0)] 1 = mkF m 0 #[.val (.ref x0)] [] := by first | (simp [entryFrame, mkF, argsToLocals, Value.category]; done) | rfl
def Q11 (Z : State) (a : Addr) (u : Addr) (h0 : Heap) (n0 : Nat) (v : Option Value) (h : Heap) (L : List Loc) : Prop := v = some (.ref u) ∧ Fr n0 L ∧ h = h0
set_option maxRecDepth 65536 in
set_option maxHeartbeats 40000000 in
theorem rm11 (l : Launch) (Z : State) (a0 : Array Value) (hw : ∀ d ∈ tables_1, d.before a0 Z = true) (ws : List Jvm.Cond) (a : Addr) (u : Addr) (h0 : Heap) (n0 : Nat) (Z0 : n0 ≤ h0.size) (P0 : Fld Z h0 a "com/example/assertgate/assertgate/store/Organisation" "name" "Ljava/lang/String;" (.ref u)) :
    MetFree l (⟨"com/example/assertgate/assertgate/store/Organisation", "name", "()Ljava/lang/String;"⟩ : MethodName) (head1 (Jvm.Cond.code (⟨"com/example/assertgate/assertgate/store/Organisation", "name", "()Ljava/lang/String;"⟩ : MethodName) prog_56_method_17_code 1 (some (.object "java/lang/String")) :: ws) ({ frames := 0, cells := 0, slots := 0, locals := 0 } : Room)) (fun argz U => argz = #[(.ref a)] ∧ Z.Warmed39 U.vm ∧ U.heap = h0) (fun _ _ _ _ _ => True) (fun _ U o U' => ∃ v L, o = .returned v ∧ Q11 Z a u h0 n0 v U'.heap L ∧ FrameEnd U o U' L ({ frames := 0, cells := 0, slots := 0, locals := 0 } : Room).cells ({ frames := 0, cells := 0, slots := 0, locals := 0 } : Room).slots) := by
  refine MetFree.of_bodySF (plainFor_of_name pn_com_example_assertgate_assertgate_store_Organisation) hisR ?_
  intro p e s m args below meth c s₁ Bd hml0 hP hK
  obtain ⟨rfl, hZ, hh⟩ := hP
  have hx := Bd.exec
  have hby := Bd.bytes
  have hml : c.maxLocals = 1 := hml0
  have hown : s.vm.findClass "com/example/assertgate/assertgate/store/Organisation" = some m.cls := findClass_of_methodNamed Bd.named
  have hnm := (name_of_methodNamed Bd.named Bd.method).1
  have X0 : Stand p l e ({ frames := 0, cells := 0, slots := 0, locals := 0 } : Room) s m #[(.ref a)] below meth c s₁ [] 0 0 := Stand.of_body Bd
  have e0 : s₁.heap = h0 := by rw [← hh, Bd.state]; rfl
  have N0 := Fr.nil n0
  have G : Gets p e below (s₁.setTop (entryFrame m #[(.ref a)] 1)) (s₁.setTop (mkF m 0 #[.val (.ref a)] [])) := fun t k => castTop (ef_11 m a) k
  replace G := own_aloadN (q := 1) G X0.here hx (hb hby d11_0) rfl rfl rfl
  obtain ⟨T1, X1, e1, st1⟩ := getF X0 hx hZ hown (host := "") (Or.inl (hw _ (List.mem_of_getElem? (i := 49) rfl))) Via.refl e0 P0 (g := (mkF m 1 #[.val (.ref a)] [(.ref a)])) rfl rfl (hb hby d11_1)
  replace G : Gets p e below _ (T1.setTop (mkF m 4 #[.val (.ref a)] [(.ref u)])) := fun t k => G t (st1 t k)
  obtain ⟨fs, hr, hrun, hended, hW, hsame⟩ := X1.leave (v := some (.ref u)) (fun h => by rw [Bd.returns] at h; cases h)
  refine ⟨_, _, G _ (retOut X1 hx Bd.returns rfl (Or.inr (Or.inr (Or.inr (Or.inr ⟨rfl, rfl, rfl⟩)))) (hb hby d11_4) hr), hrun, hended, _, _, rfl, ?_, ⟨_, rfl⟩, hW, hsame.mono (by decide) (by decide)⟩
  show Q11 Z a u h0 n0 _ T1.heap _
  rw [e1]
  exact ⟨rfl, N0, rfl⟩
theorem d13_0 : decode prog_56_method_18_code 0 = .ok (.aload_n 0, 1) := by decide +kernel
theorem d13_1 : decode prog_56_method_18_code 1 = .ok (.getfield 13, 3) := by decide +kernel
theorem d13_4 : decode prog_56_method_18_code 4 = .ok (.areturn, 1) := by decide +kernel
theorem ef_13 (m : MethodId) (x0 : Addr) : entryFrame m #[(.ref x0)] 1 = mkF m 0 #[.val (.ref x0)] [] := by first | (simp [entryFrame, mkF, argsToLocals, Value.category]; done) | rfl
def Q13 (Z : State) (a : Addr) (h0 : Heap) (n0 : Nat) (v : Option Value) (h : Heap) (L : List Loc) : Prop := v = some .null ∧ Fr n0 L ∧ h = h0
set_option maxRecDepth 65536 in
set_option maxHeartbeats 40000000 in
theorem rm13 (l : Launch) (Z : State) (a0 : Array Value) (hw : ∀ d ∈ tables_1, d.before a0 Z = true) (ws : List Jvm.Cond) (a : Addr) (h0 : Heap) (n0 : Nat) (Z0 : n0 ≤ h0.size) (P0 : Fld Z h0 a "com/example/assertgate/assertgate/store/Organisation" "defaultRelayState" "Ljava/lang/String;" .null) :
    MetFree l (⟨"com/example/assertgate/assertgate/store/Organisation", "defaultRelayState", "()Ljava/lang/String;"⟩ : MethodName) (head1 (Jvm.Cond.code (⟨"com/example/assertgate/assertgate/store/Organisation", "defaultRelayState", "()Ljava/lang/String;"⟩ : MethodName) prog_56_method_18_code 1 (some (.object "java/lang/String")) :: ws) ({ frames := 0, cells := 0, slots := 0, locals := 0 } : Room)) (fun argz U => argz = #[(.ref a)] ∧ Z.Warmed39 U.vm ∧ U.heap = h0) (fun _ _ _ _ _ => True) (fun _ U o U' => ∃ v L, o = .returned v ∧ Q13 Z a h0 n0 v U'.heap L ∧ FrameEnd U o U' L ({ frames := 0, cells := 0, slots := 0, locals := 0 } : Room).cells ({ frames := 0, cells := 0, slots := 0, locals := 0 } : Room).slots) := by
  refine MetFree.of_bodySF (plainFor_of_name pn_com_example_assertgate_assertgate_store_Organisation) hisR ?_
  intro p e s m args below meth c s₁ Bd hml0 hP hK
  obtain ⟨rfl, hZ, hh⟩ := hP
  have hx := Bd.exec
  have hby := Bd.bytes
  have hml : c.maxLocals = 1 := hml0
  have hown : s.vm.findClass "com/example/assertgate/assertgate/store/Organisation" = some m.cls := findClass_of_methodNamed Bd.named
  have hnm := (name_of_methodNamed Bd.named Bd.method).1
  have X0 : Stand p l e ({ frames := 0, cells := 0, slots := 0, locals := 0 } : Room) s m #[(.ref a)] below meth c s₁ [] 0 0 := Stand.of_body Bd
  have e0 : s₁.heap = h0 := by rw [← hh, Bd.state]; rfl
  have N0 := Fr.nil n0
  have G : Gets p e below (s₁.setTop (entryFrame m #[(.ref a)] 1)) (s₁.setTop (mkF m 0 #[.val (.ref a)] [])) := fun t k => castTop (ef_13 m a) k
  replace G := own_aloadN (q := 1) G X0.here hx (hb hby d13_0) rfl rfl rfl
  obtain ⟨T1, X1, e1, st1⟩ := getF X0 hx hZ hown (host := "") (Or.inl (hw _ (List.mem_of_getElem? (i := 51) rfl))) Via.refl e0 P0 (g := (mkF m 1 #[.val (.ref a)] [(.ref a)])) rfl rfl (hb hby d13_1)
  replace G : Gets p e below _ (T1.setTop (mkF m 4 #[.val (.ref a)] [.null])) := fun t k => G t (st1 t k)
  obtain ⟨fs, hr, hrun, hended, hW, hsame⟩ := X1.leave (v := some .null) (fun h => by rw [Bd.returns] at h; cases h)
  refine ⟨_, _, G _ (retOut X1 hx Bd.returns rfl (Or.inr (Or.inr (Or.inr (Or.inr ⟨rfl, rfl, rfl⟩)))) (hb hby d13_4) hr), hrun, hended, _, _, rfl, ?_, ⟨_, rfl⟩, hW, hsame.mono (by decide) (by decide)⟩
  show Q13 Z a h0 n0 _ T1.heap _
  rw [e1]
  exact ⟨rfl, N0, rfl⟩
theorem d14_0 : decode prog_56_method_19_code 0 = .ok (.aload_n 0, 1) := by decide +kernel
theorem d14_1 : decode prog_56_method_19_code 1 = .ok (.getfield 16, 3) := by decide +kernel
theorem d14_4 : decode prog_56_method_19_code 4 = .ok (.areturn, 1) := by decide +kernel
theorem ef_14 (m : MethodId) (x0 : Addr) : entryFrame m #[(.ref x0)] 1 = mkF m 0 #[.val (.ref x0)] [] := by first | (simp [entryFrame, mkF, argsToLocals, Value.category]; done) | rfl
def Q14 (Z : State) (a : Addr) (h0 : Heap) (n0 : Nat) (v : Option Value) (h : Heap) (L : List Loc) : Prop := v = some .null ∧ Fr n0 L ∧ h = h0
set_option maxRecDepth 65536 in
set_option maxHeartbeats 40000000 in
theorem rm14 (l : Launch) (Z : State) (a0 : Array Value) (hw : ∀ d ∈ tables_1, d.before a0 Z = true) (ws : List Jvm.Cond) (a : Addr) (h0 : Heap) (n0 : Nat) (Z0 : n0 ≤ h0.size) (P0 : Fld Z h0 a "com/example/assertgate/assertgate/store/Organisation" "nameIdFormat" "Ljava/lang/String;" .null) :
    MetFree l (⟨"com/example/assertgate/assertgate/store/Organisation", "nameIdFormat", "()Ljava/lang/String;"⟩ : MethodName) (head1 (Jvm.Cond.code (⟨"com/example/assertgate/assertgate/store/Organisation", "nameIdFormat", "()Ljava/lang/String;"⟩ : MethodName) prog_56_method_19_code 1 (some (.object "java/lang/String")) :: ws) ({ frames := 0, cells := 0, slots := 0, locals := 0 } : Room)) (fun argz U => argz = #[(.ref a)] ∧ Z.Warmed39 U.vm ∧ U.heap = h0) (fun _ _ _ _ _ => True) (fun _ U o U' => ∃ v L, o = .returned v ∧ Q14 Z a h0 n0 v U'.heap L ∧ FrameEnd U o U' L ({ frames := 0, cells := 0, slots := 0, locals := 0 } : Room).cells ({ frames := 0, cells := 0, slots := 0, locals := 0 } : Room).slots) := by
  refine MetFree.of_bodySF (plainFor_of_name pn_com_example_assertgate_assertgate_store_Organisation) hisR ?_
  intro p e s m args below meth c s₁ Bd hml0 hP hK
  obtain ⟨rfl, hZ, hh⟩ := hP
  have hx := Bd.exec
  have hby := Bd.bytes
  have hml : c.maxLocals = 1 := hml0
  have hown : s.vm.findClass "com/example/assertgate/assertgate/store/Organisation" = some m.cls := findClass_of_methodNamed Bd.named
  have hnm := (name_of_methodNamed Bd.named Bd.method).1
  have X0 : Stand p l e ({ frames := 0, cells := 0, slots := 0, locals := 0 } : Room) s m #[(.ref a)] below meth c s₁ [] 0 0 := Stand.of_body Bd
  have e0 : s₁.heap = h0 := by rw [← hh, Bd.state]; rfl
  have N0 := Fr.nil n0
  have G : Gets p e below (s₁.setTop (entryFrame m #[(.ref a)] 1)) (s₁.setTop (mkF m 0 #[.val (.ref a)] [])) := fun t k => castTop (ef_14 m a) k
  replace G := own_aloadN (q := 1) G X0.here hx (hb hby d14_0) rfl rfl rfl
  obtain ⟨T1, X1, e1, st1⟩ := getF X0 hx hZ hown (host := "") (Or.inl (hw _ (List.mem_of_getElem? (i := 53) rfl))) Via.refl e0 P0 (g := (mkF m 1 #[.val (.ref a)] [(.ref a)])) rfl rfl (hb hby d14_1)
  replace G : Gets p e below _ (T1.setTop (mkF m 4 #[.val (.ref a)] [.null])) := fun t k => G t (st1 t k)
  obtain ⟨fs, hr, hrun, hended, hW, hsame⟩ := X1.leave (v := some .null) (fun h => by rw [Bd.returns] at h; cases h)
  refine ⟨_, _, G _ (retOut X1 hx Bd.returns rfl (Or.inr (Or.inr (Or.inr (Or.inr ⟨rfl, rfl, rfl⟩)))) (hb hby d14_4) hr), hrun, hended, _, _, rfl, ?_, ⟨_, rfl⟩, hW, hsame.mono (by decide) (by decide)⟩
  show Q14 Z a h0 n0 _ T1.heap _
  rw [e1]
  exact ⟨rfl, N0, rfl⟩
theorem d15_0 : decode prog_56_method_20_code 0 = .ok (.aload_n 0, 1) := by decide +kernel
theorem d15_1 : decode prog_56_method_20_code 1 = .ok (.getfield 19, 3) := by decide +kernel
theorem d15_4 : decode prog_56_method_20_code 4 = .ok (.areturn, 1) := by decide +kernel
theorem ef_15 (m : MethodId) (x0 : Addr) : entryFrame m #[(.ref x0)] 1 = mkF m 0 #[.val (.ref x0)] [] := by first | (simp [entryFrame, mkF, argsToLocals, Value.category]; done) | rfl
def Q15 (Z : State) (a : Addr) (h0 : Heap) (n0 : Nat) (v : Option Value) (h : Heap) (L : List Loc) : Prop := v = some .null ∧ Fr n0 L ∧ h = h0
set_option maxRecDepth 65536 in
set_option maxHeartbeats 40000000 in
theorem rm15 (l : Launch) (Z : State) (a0 : Array Value) (hw : ∀ d ∈ tables_1, d.before a0 Z = true) (ws : List Jvm.Cond) (a : Addr) (h0 : Heap) (n0 : Nat) (Z0 : n0 ≤ h0.size) (P0 : Fld Z h0 a "com/example/assertgate/assertgate/store/Organisation" "firstSignInAt" "Ljava/time/Instant;" .null) :
    MetFree l (⟨"com/example/assertgate/assertgate/store/Organisation", "firstSignInAt", "()Ljava/time/Instant;"⟩ : MethodName) (head1 (Jvm.Cond.code (⟨"com/example/assertgate/assertgate/store/Organisation", "firstSignInAt", "()Ljava/time/Instant;"⟩ : MethodName) prog_56_method_20_code 1 (some (.object "java/time/Instant")) :: ws) ({ frames := 0, cells := 0, slots := 0, locals := 0 } : Room)) (fun argz U => argz = #[(.ref a)] ∧ Z.Warmed39 U.vm ∧ U.heap = h0) (fun _ _ _ _ _ => True) (fun _ U o U' => ∃ v L, o = .returned v ∧ Q15 Z a h0 n0 v U'.heap L ∧ FrameEnd U o U' L ({ frames := 0, cells := 0, slots := 0, locals := 0 } : Room).cells ({ frames := 0, cells := 0, slots := 0, locals := 0 } : Room).slots) := by
  refine MetFree.of_bodySF (plainFor_of_name pn_com_example_assertgate_assertgate_store_Organisation) hisR ?_
  intro p e s m args below meth c s₁ Bd hml0 hP hK
  obtain ⟨rfl, hZ, hh⟩ := hP
  have hx := Bd.exec
  have hby := Bd.bytes
  have hml : c.maxLocals = 1 := hml0
  have hown : s.vm.findClass "com/example/assertgate/assertgate/store/Organisation" = some m.cls := findClass_of_methodNamed Bd.named
  have hnm := (name_of_methodNamed Bd.named Bd.method).1
  have X0 : Stand p l e ({ frames := 0, cells := 0, slots := 0, locals := 0 } : Room) s m #[(.ref a)] below meth c s₁ [] 0 0 := Stand.of_body Bd
  have e0 : s₁.heap = h0 := by rw [← hh, Bd.state]; rfl
  have N0 := Fr.nil n0
  have G : Gets p e below (s₁.setTop (entryFrame m #[(.ref a)] 1)) (s₁.setTop (mkF m 0 #[.val (.ref a)] [])) := fun t k => castTop (ef_15 m a) k
  replace G := own_aloadN (q := 1) G X0.here hx (hb hby d15_0) rfl rfl rfl
  obtain ⟨T1, X1, e1, st1⟩ := getF X0 hx hZ hown (host := "") (Or.inl (hw _ (List.mem_of_getElem? (i := 55) rfl))) Via.refl e0 P0 (g := (mkF m 1 #[.val (.ref a)] [(.ref a)])) rfl rfl (hb hby d15_1)
  replace G : Gets p e below _ (T1.setTop (mkF m 4 #[.val (.ref a)] [.null])) := fun t k => G t (st1 t k)
  obtain ⟨fs, hr, hrun, hended, hW, hsame⟩ := X1.leave (v := some .null) (fun h => by rw [Bd.returns] at h; cases h)
  refine ⟨_, _, G _ (retOut X1 hx Bd.returns rfl (Or.inr (Or.inr (Or.inr (Or.inr ⟨rfl, rfl, rfl⟩)))) (hb hby d15_4) hr), hrun, hended, _, _, rfl, ?_, ⟨_, rfl⟩, hW, hsame.mono (by decide) (by decide)⟩
  show Q15 Z a h0 n0 _ T1.heap _
  rw [e1]
  exact ⟨rfl, N0, rfl⟩
theorem d16_0 : decode prog_56_method_21_code 0 = .ok (.aload_n 0, 1) := by decide +kernel
theorem d16_1 : decode prog_56_method_21_code 1 = .ok (.getfield 23, 3) := by decide +kernel
theorem d16_4 : decode prog_56_method_21_code 4 = .ok (.areturn, 1) := by decide +kernel
theorem ef_16 (m : MethodId) (x0 : Addr) : entryFrame m #[(.ref x0)] 1 = mkF m 0 #[.val (.ref x0)] [] := by first | (simp [entryFrame, mkF, argsToLocals, Value.category]; done) | rfl
def Q16 (Z : State) (a : Addr) (h0 : Heap) (n0 : Nat) (v : Option Value) (h : Heap) (L : List Loc) : Prop := v = some .null ∧ Fr n0 L ∧ h = h0
set_option maxRecDepth 65536 in
set_option maxHeartbeats 40000000 in
theorem rm16 (l : Launch) (Z : State) (a0 : Array Value) (hw : ∀ d ∈ tables_1, d.before a0 Z = true) (ws : List Jvm.Cond) (a : Addr) (h0 : Heap) (n0 : Nat) (Z0 : n0 ≤ h0.size) (P0 : Fld Z h0 a "com/example/assertgate/assertgate/store/Organisation" "idp" "Lcom/example/assertgate/assertgate/store/Organisation$Idp;" .null) :
    MetFree l (⟨"com/example/assertgate/assertgate/store/Organisation", "idp", "()Lcom/example/assertgate/assertgate/store/Organisation$Idp;"⟩ : MethodName) (head1 (Jvm.Cond.code (⟨"com/example/assertgate/assertgate/store/Organisation", "idp", "()Lcom/example/assertgate/assertgate/store/Organisation$Idp;"⟩ : MethodName) prog_56_method_21_code 1 (some (.object "com/example/assertgate/assertgate/store/Organisation$Idp")) :: ws) ({ frames := 0, cells := 0, slots := 0, locals := 0 } : Room)) (fun argz U => argz = #[(.ref a)] ∧ Z.Warmed39 U.vm ∧ U.heap = h0) (fun _ _ _ _ _ => True) (fun _ U o U' => ∃ v L, o = .returned v ∧ Q16 Z a h0 n0 v U'.heap L ∧ FrameEnd U o U' L ({ frames := 0, cells := 0, slots := 0, locals := 0 } : Room).cells ({ frames := 0, cells := 0, slots := 0, locals := 0 } : Room).slots) := by
  refine MetFree.of_bodySF (plainFor_of_name pn_com_example_assertgate_assertgate_store_Organisation) hisR ?_
  intro p e s m args below meth c s₁ Bd hml0 hP hK
  obtain ⟨rfl, hZ, hh⟩ := hP
  have hx := Bd.exec
  have hby := Bd.bytes
  have hml : c.maxLocals = 1 := hml0
  have hown : s.vm.findClass "com/example/assertgate/assertgate/store/Organisation" = some m.cls := findClass_of_methodNamed Bd.named
  have hnm := (name_of_methodNamed Bd.named Bd.method).1
  have X0 : Stand p l e ({ frames := 0, cells := 0, slots := 0, locals := 0 } : Room) s m #[(.ref a)] below meth c s₁ [] 0 0 := Stand.of_body Bd
  have e0 : s₁.heap = h0 := by rw [← hh, Bd.state]; rfl
  have N0 := Fr.nil n0
  have G : Gets p e below (s₁.setTop (entryFrame m #[(.ref a)] 1)) (s₁.setTop (mkF m 0 #[.val (.ref a)] [])) := fun t k => castTop (ef_16 m a) k
  replace G := own_aloadN (q := 1) G X0.here hx (hb hby d16_0) rfl rfl rfl
  obtain ⟨T1, X1, e1, st1⟩ := getF X0 hx hZ hown (host := "") (Or.inl (hw _ (List.mem_of_getElem? (i := 57) rfl))) Via.refl e0 P0 (g := (mkF m 1 #[.val (.ref a)] [(.ref a)])) rfl rfl (hb hby d16_1)
  replace G : Gets p e below _ (T1.setTop (mkF m 4 #[.val (.ref a)] [.null])) := fun t k => G t (st1 t k)
  obtain ⟨fs, hr, hrun, hended, hW, hsame⟩ := X1.leave (v := some .null) (fun h => by rw [Bd.returns] at h; cases h)
  refine ⟨_, _, G _ (retOut X1 hx Bd.returns rfl (Or.inr (Or.inr (Or.inr (Or.inr ⟨rfl, rfl, rfl⟩)))) (hb hby d16_4) hr), hrun, hended, _, _, rfl, ?_, ⟨_, rfl⟩, hW, hsame.mono (by decide) (by decide)⟩
  show Q16 Z a h0 n0 _ T1.heap _
  rw [e1]
  exact ⟨rfl, N0, rfl⟩
theorem d17_0 : decode prog_56_method_5_code 0 = .ok (.aload_n 0, 1) := by decide +kernel
theorem d17_1 : decode prog_56_method_5_code 1 = .ok (.getfield 23, 3) := by decide +kernel
theorem d17_4 : decode prog_56_method_5_code 4 = .ok (.ifnull 13, 3) := by decide +kernel
theorem d17_17 : decode prog_56_method_5_code 17 = .ok (.aconst_null, 1) := by decide +kernel
theorem d17_18 : decode prog_56_method_5_code 18 = .ok (.goto 13, 3) := by decide +kernel
theorem d17_31 : decode prog_56_method_5_code 31 = .ok (.areturn, 1) := by decide +kernel
theorem ef_17 (m : MethodId) (x0 : Addr) : entryFrame m #[(.ref x0)] 1 = mkF m 0 #[.val (.ref x0)] [] := by first | (simp [entryFrame, mkF, argsToLocals, Value.category]; done) | rfl
def Q17 (Z : State) (a : Addr) (h0 : Heap) (n0 : Nat) (v : Option Value) (h : Heap) (L : List Loc) : Prop := v = some .null ∧ Fr n0 L ∧ h = h0
set_option maxRecDepth 65536 in
set_option maxHeartbeats 40000000 in
theorem rm17 (l : Launch) (Z : State) (a0 : Array Value) (hw : ∀ d ∈ tables_1, d.before a0 Z = true) (ws : List Jvm.Cond) (a : Addr) (h0 : Heap) (n0 : Nat) (Z0 : n0 ≤ h0.size) (P0 : Fld Z h0 a "com/example/assertgate/assertgate/store/Organisation" "idp" "Lcom/example/assertgate/assertgate/store/Organisation$Idp;" .null) :
    MetFree l (⟨"com/example/assertgate/assertgate/store/Organisation", "idpExpiresAt", "()Ljava/time/Instant;"⟩ : MethodName) (head1 (Jvm.Cond.code (⟨"com/example/assertgate/assertgate/store/Organisation", "idpExpiresAt", "()Ljava/time/Instant;"⟩ : MethodName) prog_56_method_5_code 1 (some (.object "java/time/Instant")) :: ws) ({ frames := 0, cells := 0, slots := 0, locals := 0 } : Room)) (fun argz U => argz = #[(.ref a)] ∧ Z.Warmed39 U.vm ∧ U.heap = h0) (fun _ _ _ _ _ => True) (fun _ U o U' => ∃ v L, o = .returned v ∧ Q17 Z a h0 n0 v U'.heap L ∧ FrameEnd U o U' L ({ frames := 0, cells := 0, slots := 0, locals := 0 } : Room).cells ({ frames := 0, cells := 0, slots := 0, locals := 0 } : Room).slots) := by
  refine MetFree.of_bodySF (plainFor_of_name pn_com_example_assertgate_assertgate_store_Organisation) hisR ?_
  intro p e s m args below meth c s₁ Bd hml0 hP hK
  obtain ⟨rfl, hZ, hh⟩ := hP
  have hx := Bd.exec
  have hby := Bd.bytes
  have hml : c.maxLocals = 1 := hml0
  have hown : s.vm.findClass "com/example/assertgate/assertgate/store/Organisation" = some m.cls := findClass_of_methodNamed Bd.named
  have hnm := (name_of_methodNamed Bd.named Bd.method).1
  have X0 : Stand p l e ({ frames := 0, cells := 0, slots := 0, locals := 0 } : Room) s m #[(.ref a)] below meth c s₁ [] 0 0 := Stand.of_body Bd
  have e0 : s₁.heap = h0 := by rw [← hh, Bd.state]; rfl
  have N0 := Fr.nil n0
  have G : Gets p e below (s₁.setTop (entryFrame m #[(.ref a)] 1)) (s₁.setTop (mkF m 0 #[.val (.ref a)] [])) := fun t k => castTop (ef_17 m a) k
  replace G := own_aloadN (q := 1) G X0.here hx (hb hby d17_0) rfl rfl rfl
  obtain ⟨T1, X1, e1, st1⟩ := getF X0 hx hZ hown (host := "") (Or.inl (hw _ (List.mem_of_getElem? (i := 57) rfl))) Via.refl e0 P0 (g := (mkF m 1 #[.val (.ref a)] [(.ref a)])) rfl rfl (hb hby d17_1)
  replace G : Gets p e below _ (T1.setTop (mkF m 4 #[.val (.ref a)] [.null])) := fun t k => G t (st1 t k)
  replace G := own_ifnullYes (q := 17) G X1.here hx (hb hby d17_4) (by decide) (by decide)
  replace G := own_aconst_null (q := 18) G X1.here hx (hb hby d17_17) rfl
  replace G := own_goto (q := 31) G X1.here hx (hb hby d17_18) (by decide) (by decide)
  obtain ⟨fs, hr, hrun, hended, hW, hsame⟩ := X1.leave (v := some .null) (fun h => by rw [Bd.returns] at h; cases h)
  refine ⟨_, _, G _ (retOut X1 hx Bd.returns rfl (Or.inr (Or.inr (Or.inr (Or.inr ⟨rfl, rfl, rfl⟩)))) (hb hby d17_31) hr), hrun, hended, _, _, rfl, ?_, ⟨_, rfl⟩, hW, hsame.mono (by decide) (by decide)⟩
  show Q17 Z a h0 n0 _ T1.heap _
  rw [e1]
  exact ⟨rfl, N0, rfl⟩
theorem d12_0 : decode jdk_42_method_66_code 0 = .ok (.aload_n 0, 1) := by decide +kernel
theorem d12_1 : decode jdk_42_method_66_code 1 = .ok (.aload_n 1, 1) := by decide +kernel
theorem d12_2 : decode jdk_42_method_66_code 2 = .ok (.if_acmp .ne 5, 3) := by decide +kernel
theorem d12_5 : decode jdk_42_method_66_code 5 = .ok (.iconst 1, 1) := by decide +kernel
theorem d12_6 : decode jdk_42_method_66_code 6 = .ok (.ireturn, 1) := by decide +kernel
theorem ef_12 (m : MethodId) (x0 : Addr) (x1 : Addr) : entryFrame m #[(.ref x0), (.ref x1)] 3 = mkF m 0 #[.val (.ref x0), .val (.ref x1), .unset] [] := by first | (simp [entryFrame, mkF, argsToLocals, Value.category]; done) | rfl
def Q12 (Z : State) (a : Addr) (h0 : Heap) (n0 : Nat) (v : Option Value) (h : Heap) (L : List Loc) : Prop := v = some (.int (1 : Int32)) ∧ Fr n0 L ∧ h = h0
set_option maxRecDepth 65536 in
set_option maxHeartbeats 40000000 in
theorem rm12 (l : Launch) (Z : State) (a0 : Array Value) (hw : ∀ d ∈ tables_1, d.before a0 Z = true) (ws : List Jvm.Cond) (a : Addr) (h0 : Heap) (n0 : Nat) (Z0 : n0 ≤ h0.size)  :
    MetFree l (⟨"java/lang/String", "equals", "(Ljava/lang/Object;)Z"⟩ : MethodName) (head1 (Jvm.Cond.code (⟨"java/lang/String", "equals", "(Ljava/lang/Object;)Z"⟩ : MethodName) jdk_42_method_66_code 3 (some .boolean) :: ws) ({ frames := 0, cells := 0, slots := 0, locals := 0 } : Room)) (fun argz U => argz = #[(.ref a), (.ref a)] ∧ Z.Warmed39 U.vm ∧ U.heap = h0) (fun _ _ _ _ _ => True) (fun _ U o U' => ∃ v L, o = .returned v ∧ Q12 Z a h0 n0 v U'.heap L ∧ FrameEnd U o U' L ({ frames := 0, cells := 0, slots := 0, locals := 0 } : Room).cells ({ frames := 0, cells := 0, slots := 0, locals := 0 } : Room).slots) := by
  refine MetFree.of_bodySF (plainFor_of_name pn_java_lang_String) hisR ?_
  intro p e s m args below meth c s₁ Bd hml0 hP hK
  obtain ⟨rfl, hZ, hh⟩ := hP
  have hx := Bd.exec
  have hby := Bd.bytes
  have hml : c.maxLocals = 3 := hml0
  have hown : s.vm.findClass "java/lang/String" = some m.cls := findClass_of_methodNamed Bd.named
  have hnm := (name_of_methodNamed Bd.named Bd.method).1
  have X0 : Stand p l e ({ frames := 0, cells := 0, slots := 0, locals := 0 } : Room) s m #[(.ref a), (.ref a)] below meth c s₁ [] 0 0 := Stand.of_body Bd
  have e0 : s₁.heap = h0 := by rw [← hh, Bd.state]; rfl
  have N0 := Fr.nil n0
  have G : Gets p e below (s₁.setTop (entryFrame m #[(.ref a), (.ref a)] 3)) (s₁.setTop (mkF m 0 #[.val (.ref a), .val (.ref a), .unset] [])) := fun t k => castTop (ef_12 m a a) k
  replace G := own_aloadN (q := 1) G X0.here hx (hb hby d12_0) rfl rfl rfl
  replace G := own_aloadN (q := 2) G X0.here hx (hb hby d12_1) rfl rfl rfl
  replace G : Gets p e below _ (s₁.setTop (mkF m 5 #[.val (.ref a), .val (.ref a), .unset] [])) := fun t k => G t (Jvm.RoadKit.acmp (g := (mkF m 2 #[.val (.ref a), .val (.ref a), .unset] [(.ref a), (.ref a)])) X0 hx rfl rfl rfl (pc0 := 2) (pc' := 5) (same := true) rfl (hb hby d12_2) rfl (decide_eq_true rfl) (by decide) (by decide) k)
  replace G := own_iconst (q := 6) G X0.here hx (hb hby d12_5) (v := (1 : Int32)) (by decide) rfl
  obtain ⟨fs, hr, hrun, hended, hW, hsame⟩ := X0.leave (v := some (.int (1 : Int32))) (fun h => by rw [Bd.returns] at h; cases h)
  refine ⟨_, _, G _ (retOut X0 hx Bd.returns rfl (Or.inl ⟨rfl, Or.inr (Or.inl rfl), _, rfl⟩) (hb hby d12_6) hr), hrun, hended, _, _, rfl, ?_, ⟨_, rfl⟩, hW, hsame.mono (by decide) (by decide)⟩
  show Q12 Z a h0 n0 _ s₁.heap _
  rw [e0]
  exact ⟨rfl, N0, rfl⟩
theorem pd_7 : parseMethodDescriptor "(IIII)Ljava/lang/String;" = some ⟨[.int, .int, .int, .int], some (.object "java/lang/String")⟩ := by decide +kernel
theorem pd_8 : parseMethodDescriptor "(Ljava/lang/String;)Lcom/example/assertgate/assertgate/store/Organisation;" = some ⟨[(.object "java/lang/String")], some (.object "com/example/assertgate/assertgate/store/Organisation")⟩ := by decide +kernel
theorem pd_9 : parseMethodDescriptor "()Ljava/lang/String;" = some ⟨[], some (.object "java/lang/String")⟩ := by decide +kernel
theorem pd_10 : parseMethodDescriptor "(Ljava/lang/Object;)Z" = some ⟨[(.object "java/lang/Object")], some .boolean⟩ := by decide +kernel
theorem pd_11 : parseMethodDescriptor "()Ljava/time/Instant;" = some ⟨[], some (.object "java/time/Instant")⟩ := by decide +kernel
theorem pd_12 : parseMethodDescriptor "()Lcom/example/assertgate/assertgate/store/Organisation$Idp;" = some ⟨[], some (.object "com/example/assertgate/assertgate/store/Organisation$Idp")⟩ := by decide +kernel
theorem ef_0 (m : MethodId) (x0 : Int32) (x1 : Int32) (x2 : Int32) (x3 : Int32) : entryFrame m #[(.int x0), (.int x1), (.int x2), (.int x3)] maxLocals = mkF m 0 #[.val (.int x0), .val (.int x1), .val (.int x2), .val (.int x3), .unset, .unset] [] := by first | (simp [entryFrame, mkF, argsToLocals, Value.category, maxLocals]; done) | rfl
def Q0 (Z : State) (i0 : Int32) (i1 : Int32) (i2 : Int32) (i3 : Int32) (cw : Int32) (h0 : Heap) (n0 : Nat) (v : Option Value) (h : Heap) (L : List Loc) : Prop := v = some (.int (1 : Int32)) ∧ Fr n0 L
set_option maxRecDepth 65536 in
set_option maxHeartbeats 40000000 in
theorem rm0 (l : Launch) (Z : State) (a0 : Array Value) (hw : ∀ d ∈ tables_1, d.before a0 Z = true) (ws : List Jvm.Cond) (i0 : Int32) (i1 : Int32) (i2 : Int32) (i3 : Int32) (cw : Int32) (h0 : Heap) (n0 : Nat) (Z0 : n0 ≤ h0.size) (P0 : Old Z n0 h0) (P1 : Sta Z Z.heap "java/lang/String" "COMPACT_STRINGS" "Z" (.int cw)) (hcw : ¬ cw = (0 : Int32)) (hch : Jvm.Lit.constHeld Z "java/lang/String" 7) (hcb : Jvm.Lit.compactW.before a0 Z = true) :
    MetFree l x (head1 (Jvm.Cond.code x code maxLocals ret :: ws) room_1) (fun argz U => argz = #[(.int i0), (.int i1), (.int i2), (.int i3)] ∧ Z.Warmed39 U.vm ∧ U.heap = h0 ∧ IB Z U.vm []) (fun _ _ _ _ _ => True) (fun _ U o U' => ∃ v L, o = .returned v ∧ Q0 Z i0 i1 i2 i3 cw h0 n0 v U'.heap L ∧ ReturnedEndW U o U' L room_1.cells room_1.slots) := by
  refine MetFree.of_bodySF (plainFor_of_name pn_com_example_assertgate_assertgate_store_OrganisationNamedPinLaw) hisR ?_
  intro p e s m args below meth c s₁ Bd hml0 hP hK
  obtain ⟨rfl, hZ, hh, hV⟩ := hP
  have hx := Bd.exec
  have hby := Bd.bytes
  have hml : c.maxLocals = 6 := hml0
  have hown : s.vm.findClass "com/example/assertgate/assertgate/store/OrganisationNamedPinLaw" = some m.cls := findClass_of_methodNamed Bd.named
  have hnm := (name_of_methodNamed Bd.named Bd.method).1
  have X0 : Stand p l e room_1 s m #[(.int i0), (.int i1), (.int i2), (.int i3)] below meth c s₁ [] 0 0 := Stand.of_body Bd
  have e0 : s₁.heap = h0 := by rw [← hh, Bd.state]; rfl
  have N0 := Fr.nil n0
  have G : Gets p e below (s₁.setTop (entryFrame m #[(.int i0), (.int i1), (.int i2), (.int i3)] maxLocals)) (s₁.setTop (mkF m 0 #[.val (.int i0), .val (.int i1), .val (.int i2), .val (.int i3), .unset, .unset] [])) := fun t k => castTop (ef_0 m i0 i1 i2 i3) k
  replace G := own_iloadN (q := 1) G X0.here hx (hb hby at_0) rfl rfl
  replace G := own_iloadN (q := 2) G X0.here hx (hb hby at_1) rfl rfl
  replace G := own_iloadN (q := 3) G X0.here hx (hb hby at_2) rfl rfl
  replace G := own_iloadN (q := 4) G X0.here hx (hb hby at_3) rfl rfl
  obtain ⟨_, _, ⟨T1, L1, kk1, nn1⟩, -, X1, S1', g1', ⟨Lc1, hQ1, l1, y1, z1⟩, st1⟩ := callSS X0 hx (y := (⟨"com/example/assertgate/assertgate/store/OrganisationNamedPinLaw", "drawn", "(IIII)Ljava/lang/String;"⟩ : MethodName)) hown (mvT hZ (hw _ (List.mem_of_getElem? (i := 0) rfl))) (mvT hZ (hw _ (List.mem_of_getElem? (i := 1) rfl))) (mvT hZ (hw _ (List.mem_of_getElem? (i := 2) rfl))) (mvT hZ (hw _ (List.mem_of_getElem? (i := 3) rfl))) (by decide) (own_backV (V := fun vm => IB Z vm []) (W := 0) (rm1 l Z a0 hw [] i0 i1 i2 i3 cw h0 n0 Z0 P0 P1 hcw (by assumption) (by assumption)) hZ (hw _ (List.mem_of_getElem? (i := 3) rfl)) (hw _ (List.mem_of_getElem? (i := 2) rfl)) (by decide) (by decide)) (g := (mkF m 4 #[.val (.int i0), .val (.int i1), .val (.int i2), .val (.int i3), .unset, .unset] [(.int i3), (.int i2), (.int i1), (.int i0)])) rfl (by rw [hml]; rfl) (argsL := [(.int i0), (.int i1), (.int i2), (.int i3)]) (rest := []) (lenOf pd_7 rfl) rfl (by show 2 * 0 + _ ≤ _; exact Nat.le_of_eq rfl) (hb hby at_4) (fun _ hvm => ⟨rfl, e0, (by decide : 0 + 4 ≤ _), (by decide : 0 + 10 ≤ _), own_ibw hV hvm⟩)
  dsimp only [Pt.U, Pt.locs, Pt.cells, Pt.slots] at X1 l1 y1 z1 st1 hQ1 S1' g1'
  subst l1 y1 z1
  have S1 := S1'
  have hZ1 : Z.Warmed39 (s.setVm T1.vm).vm := State.Warmed39.trans hZ S1.1
  have hown1 := (S1.1.alike.findClass _ _).trans hown
  obtain ⟨t_1, rfl, N1q, K1q, B1_0, B1_1⟩ := hQ1
  have ge_t_1 : n0 ≤ t_1 := Nat.le_trans Z0 B1_0
  have Z1 : n0 ≤ T1.heap.size := Nat.le_trans Z0 K1q.1
  have N1 := Fr.app N0 N1q
  replace G : Gets p e below _ (T1.setTop (mkF m 7 #[.val (.int i0), .val (.int i1), .val (.int i2), .val (.int i3), .unset, .unset] [(.ref t_1)])) := fun t k => G t (st1.trans k)
  replace G := own_astore (q := 9) (l' := #[.val (.int i0), .val (.int i1), .val (.int i2), .val (.int i3), .val (.ref t_1), .unset]) G X1.here hx (hb hby at_7) rfl rfl rfl
  replace G := own_aload (q := 11) G X1.here hx (hb hby at_9) rfl rfl rfl
  obtain ⟨_, _, ⟨T2, L2, kk2, nn2⟩, -, X2, ⟨Lc2, hQ2, l2, y2, z2⟩, st2⟩ := Jvm.LawKit.callS X1 hx (y := (⟨"com/example/assertgate/assertgate/store/Organisation", "named", "(Ljava/lang/String;)Lcom/example/assertgate/assertgate/store/Organisation;"⟩ : MethodName)) hown1 (mvT hZ1 (hw _ (List.mem_of_getElem? (i := 34) rfl))) (mvT hZ1 (hw _ (List.mem_of_getElem? (i := 35) rfl))) (mvT hZ1 (hw _ (List.mem_of_getElem? (i := 36) rfl))) (mvT hZ1 (hw _ (List.mem_of_getElem? (i := 37) rfl))) (by decide) (backOf (W := 0) (rm8 l Z a0 hw [] t_1 T1.heap n0 Z1 ) hZ1 (hw _ (List.mem_of_getElem? (i := 37) rfl)) (hw _ (List.mem_of_getElem? (i := 36) rfl)) (by decide) (by decide)) (g := (mkF m 11 #[.val (.int i0), .val (.int i1), .val (.int i2), .val (.int i3), .val (.ref t_1), .unset] [(.ref t_1)])) rfl (by rw [hml]; rfl) (argsL := [(.ref t_1)]) (rest := []) (lenOf pd_8 rfl) rfl (by show 2 * 0 + _ ≤ _; exact Nat.le_of_eq rfl) (hb hby at_11) (fun _ _ => ⟨rfl, rfl, (by decide : 4 + 1 ≤ _), (by decide : 10 + 5 ≤ _)⟩)
  dsimp only [Pt.U, Pt.locs, Pt.cells, Pt.slots] at X2 l2 y2 z2 st2 hQ2
  subst l2 y2 z2
  obtain ⟨b_2, rfl, N2q, K2q, B2_0, B2_1, B2_2, B2_3, B2_4, B2_5, B2_6⟩ := hQ2
  have ne3 : t_1 ≠ b_2 := Nat.ne_of_lt (Nat.lt_of_lt_of_le B1_1.lt B2_0)
  have ge_b_2 : n0 ≤ b_2 := Nat.le_trans Z1 B2_0
  have hk4 := Nat.le_trans (Nat.le_refl _) K2q.1
  have Z2 : n0 ≤ T2.heap.size := Nat.le_trans Z1 K2q.1
  have N2 := Fr.app N1 N2q
  replace G : Gets p e below _ (T2.setTop (mkF m 14 #[.val (.int i0), .val (.int i1), .val (.int i2), .val (.int i3), .val (.ref t_1), .unset] [(.ref b_2)])) := fun t k => G t (st2 t k)
  replace G := own_astore (q := 16) (l' := #[.val (.int i0), .val (.int i1), .val (.int i2), .val (.int i3), .val (.ref t_1), .val (.ref b_2)]) G X2.here hx (hb hby at_14) rfl rfl rfl
  replace G := own_aload (q := 18) G X2.here hx (hb hby at_16) rfl rfl rfl
  replace G := own_ifnonnullYes (q := 23) G X2.here hx (hb hby at_18) (by decide) (by decide)
  replace G := own_aload (q := 25) G X2.here hx (hb hby at_23) rfl rfl rfl
  replace G := own_aload (q := 27) G X2.here hx (hb hby at_25) rfl rfl rfl
  obtain ⟨cq5, kq5, q5a, q5b, q5c⟩ := isOf hZ1 rfl B2_1
  obtain ⟨_, _, ⟨T5, L5, kk5, nn5⟩, -, X5, ⟨Lc5, hQ5, l5, y5, z5⟩, st5⟩ := X2.virtualBack hx (y := (⟨"com/example/assertgate/assertgate/store/Organisation", "name", "()Ljava/lang/String;"⟩ : MethodName)) (z := (⟨"com/example/assertgate/assertgate/store/Organisation", "name", "()Ljava/lang/String;"⟩ : MethodName)) hown1 (mvT hZ1 (hw _ (List.mem_of_getElem? (i := 59) rfl))) (mvT hZ1 (hw _ (List.mem_of_getElem? (i := 60) rfl))) (notFace_of_selects (args := #[]) (mvT hZ1 (hw _ (List.mem_of_getElem? (i := 62) rfl)))) (mvT hZ1 (hw _ (List.mem_of_getElem? (i := 62) rfl))) (mvT hZ1 (hw _ (List.mem_of_getElem? (i := 61) rfl))) (by decide) (backOf (W := 1) (rm11 l Z a0 hw [] b_2 t_1 T2.heap n0 Z2 B2_2) hZ1 (hw _ (List.mem_of_getElem? (i := 63) rfl)) (hw _ (List.mem_of_getElem? (i := 36) rfl)) (by decide) (by decide)) q5a q5c (g := (mkF m 27 #[.val (.int i0), .val (.int i1), .val (.int i2), .val (.int i3), .val (.ref t_1), .val (.ref b_2)] [(.ref b_2), (.ref t_1)])) rfl (by rw [hml]; rfl) (Steps.refl _) (argsL := []) (rest := [(.ref t_1)]) (lenOf pd_9 rfl) rfl (by show 2 * 0 + _ ≤ _; exact Nat.le_of_eq rfl) (hb hby at_27) (fun _ _ => ⟨rfl, rfl, (by decide : 5 + 0 ≤ _), (by decide : 15 + 0 ≤ _)⟩)
  dsimp only [Pt.U, Pt.locs, Pt.cells, Pt.slots] at X5 l5 y5 z5 st5 hQ5
  subst l5 y5 z5
  obtain ⟨rfl, N5q, e5⟩ := hQ5
  have N5 := Fr.app N2 N5q
  replace G : Gets p e below _ (T5.setTop (mkF m 30 #[.val (.int i0), .val (.int i1), .val (.int i2), .val (.int i3), .val (.ref t_1), .val (.ref b_2)] [(.ref t_1), (.ref t_1)])) := fun t k => G t (st5.trans k)
  have F7 : Exa Z T2.heap t_1 "java/lang/String" := (B1_1.keep K2q)
  obtain ⟨cq6, kq6, q6a, q6b, q6c⟩ := isOf hZ1 e5 F7
  obtain ⟨_, _, ⟨T6, L6, kk6, nn6⟩, -, X6, ⟨Lc6, hQ6, l6, y6, z6⟩, st6⟩ := X5.virtualBack hx (y := (⟨"java/lang/String", "equals", "(Ljava/lang/Object;)Z"⟩ : MethodName)) (z := (⟨"java/lang/String", "equals", "(Ljava/lang/Object;)Z"⟩ : MethodName)) hown1 (mvT hZ1 (hw _ (List.mem_of_getElem? (i := 64) rfl))) (mvT hZ1 (hw _ (List.mem_of_getElem? (i := 65) rfl))) (notFace_of_selects (args := #[]) (mvT hZ1 (hw _ (List.mem_of_getElem? (i := 67) rfl)))) (mvT hZ1 (hw _ (List.mem_of_getElem? (i := 67) rfl))) (mvT hZ1 (hw _ (List.mem_of_getElem? (i := 66) rfl))) (by decide) (backOf (W := 0) (rm12 l Z a0 hw [] t_1 T2.heap n0 Z2 ) hZ1 (hw _ (List.mem_of_getElem? (i := 68) rfl)) (hw _ (List.mem_of_getElem? (i := 6) rfl)) (by decide) (by decide)) q6a q6c (g := (mkF m 30 #[.val (.int i0), .val (.int i1), .val (.int i2), .val (.int i3), .val (.ref t_1), .val (.ref b_2)] [(.ref t_1), (.ref t_1)])) rfl (by rw [hml]; rfl) (Steps.refl _) (argsL := [(.ref t_1)]) (rest := []) (lenOf pd_10 rfl) rfl (by show 2 * 0 + _ ≤ _; exact Nat.le_of_eq rfl) (hb hby at_30) (fun _ _ => ⟨rfl, e5, (by decide : 5 + 0 ≤ _), (by decide : 15 + 0 ≤ _)⟩)
  dsimp only [Pt.U, Pt.locs, Pt.cells, Pt.slots] at X6 l6 y6 z6 st6 hQ6
  subst l6 y6 z6
  obtain ⟨rfl, N6q, e6⟩ := hQ6
  have N6 := Fr.app N5 N6q
  replace G : Gets p e below _ (T6.setTop (mkF m 33 #[.val (.int i0), .val (.int i1), .val (.int i2), .val (.int i3), .val (.ref t_1), .val (.ref b_2)] [(.int (1 : Int32))])) := fun t k => G t (st6.trans k)
  have hc33_8 : ¬ ((1 : Int32) = (0 : Int32)) := by decide
  replace G := own_ifNo (q := 36) G X6.here hx (hb hby at_33) ((if0 _ _).trans (feq hc33_8).1) rfl
  replace G := own_aload (q := 38) G X6.here hx (hb hby at_36) rfl rfl rfl
  obtain ⟨cq9, kq9, q9a, q9b, q9c⟩ := isOf hZ1 e6 B2_1
  obtain ⟨_, _, ⟨T9, L9, kk9, nn9⟩, -, X9, ⟨Lc9, hQ9, l9, y9, z9⟩, st9⟩ := X6.virtualBack hx (y := (⟨"com/example/assertgate/assertgate/store/Organisation", "defaultRelayState", "()Ljava/lang/String;"⟩ : MethodName)) (z := (⟨"com/example/assertgate/assertgate/store/Organisation", "defaultRelayState", "()Ljava/lang/String;"⟩ : MethodName)) hown1 (mvT hZ1 (hw _ (List.mem_of_getElem? (i := 69) rfl))) (mvT hZ1 (hw _ (List.mem_of_getElem? (i := 70) rfl))) (notFace_of_selects (args := #[]) (mvT hZ1 (hw _ (List.mem_of_getElem? (i := 72) rfl)))) (mvT hZ1 (hw _ (List.mem_of_getElem? (i := 72) rfl))) (mvT hZ1 (hw _ (List.mem_of_getElem? (i := 71) rfl))) (by decide) (backOf (W := 0) (rm13 l Z a0 hw [] b_2 T2.heap n0 Z2 B2_3) hZ1 (hw _ (List.mem_of_getElem? (i := 73) rfl)) (hw _ (List.mem_of_getElem? (i := 36) rfl)) (by decide) (by decide)) q9a q9c (g := (mkF m 38 #[.val (.int i0), .val (.int i1), .val (.int i2), .val (.int i3), .val (.ref t_1), .val (.ref b_2)] [(.ref b_2)])) rfl (by rw [hml]; rfl) (Steps.refl _) (argsL := []) (rest := []) (lenOf pd_9 rfl) rfl (by show 2 * 0 + _ ≤ _; exact Nat.le_of_eq rfl) (hb hby at_38) (fun _ _ => ⟨rfl, e6, (by decide : 5 + 0 ≤ _), (by decide : 15 + 0 ≤ _)⟩)
  dsimp only [Pt.U, Pt.locs, Pt.cells, Pt.slots] at X9 l9 y9 z9 st9 hQ9
  subst l9 y9 z9
  obtain ⟨rfl, N9q, e9⟩ := hQ9
  have N9 := Fr.app N6 N9q
  replace G : Gets p e below _ (T9.setTop (mkF m 41 #[.val (.int i0), .val (.int i1), .val (.int i2), .val (.int i3), .val (.ref t_1), .val (.ref b_2)] [.null])) := fun t k => G t (st9.trans k)
  replace G := own_ifnonnullNo (q := 44) G X9.here hx (hb hby at_41) rfl
  replace G := own_aload (q := 46) G X9.here hx (hb hby at_44) rfl rfl rfl
  obtain ⟨cq10, kq10, q10a, q10b, q10c⟩ := isOf hZ1 e9 B2_1
  obtain ⟨_, _, ⟨T10, L10, kk10, nn10⟩, -, X10, ⟨Lc10, hQ10, l10, y10, z10⟩, st10⟩ := X9.virtualBack hx (y := (⟨"com/example/assertgate/assertgate/store/Organisation", "nameIdFormat", "()Ljava/lang/String;"⟩ : MethodName)) (z := (⟨"com/example/assertgate/assertgate/store/Organisation", "nameIdFormat", "()Ljava/lang/String;"⟩ : MethodName)) hown1 (mvT hZ1 (hw _ (List.mem_of_getElem? (i := 74) rfl))) (mvT hZ1 (hw _ (List.mem_of_getElem? (i := 75) rfl))) (notFace_of_selects (args := #[]) (mvT hZ1 (hw _ (List.mem_of_getElem? (i := 77) rfl)))) (mvT hZ1 (hw _ (List.mem_of_getElem? (i := 77) rfl))) (mvT hZ1 (hw _ (List.mem_of_getElem? (i := 76) rfl))) (by decide) (backOf (W := 0) (rm14 l Z a0 hw [] b_2 T2.heap n0 Z2 B2_4) hZ1 (hw _ (List.mem_of_getElem? (i := 78) rfl)) (hw _ (List.mem_of_getElem? (i := 36) rfl)) (by decide) (by decide)) q10a q10c (g := (mkF m 46 #[.val (.int i0), .val (.int i1), .val (.int i2), .val (.int i3), .val (.ref t_1), .val (.ref b_2)] [(.ref b_2)])) rfl (by rw [hml]; rfl) (Steps.refl _) (argsL := []) (rest := []) (lenOf pd_9 rfl) rfl (by show 2 * 0 + _ ≤ _; exact Nat.le_of_eq rfl) (hb hby at_46) (fun _ _ => ⟨rfl, e9, (by decide : 5 + 0 ≤ _), (by decide : 15 + 0 ≤ _)⟩)
  dsimp only [Pt.U, Pt.locs, Pt.cells, Pt.slots] at X10 l10 y10 z10 st10 hQ10
  subst l10 y10 z10
  obtain ⟨rfl, N10q, e10⟩ := hQ10
  have N10 := Fr.app N9 N10q
  replace G : Gets p e below _ (T10.setTop (mkF m 49 #[.val (.int i0), .val (.int i1), .val (.int i2), .val (.int i3), .val (.ref t_1), .val (.ref b_2)] [.null])) := fun t k => G t (st10.trans k)
  replace G := own_ifnonnullNo (q := 52) G X10.here hx (hb hby at_49) rfl
  replace G := own_aload (q := 54) G X10.here hx (hb hby at_52) rfl rfl rfl
  obtain ⟨cq11, kq11, q11a, q11b, q11c⟩ := isOf hZ1 e10 B2_1
  obtain ⟨_, _, ⟨T11, L11, kk11, nn11⟩, -, X11, ⟨Lc11, hQ11, l11, y11, z11⟩, st11⟩ := X10.virtualBack hx (y := (⟨"com/example/assertgate/assertgate/store/Organisation", "firstSignInAt", "()Ljava/time/Instant;"⟩ : MethodName)) (z := (⟨"com/example/assertgate/assertgate/store/Organisation", "firstSignInAt", "()Ljava/time/Instant;"⟩ : MethodName)) hown1 (mvT hZ1 (hw _ (List.mem_of_getElem? (i := 79) rfl))) (mvT hZ1 (hw _ (List.mem_of_getElem? (i := 80) rfl))) (notFace_of_selects (args := #[]) (mvT hZ1 (hw _ (List.mem_of_getElem? (i := 82) rfl)))) (mvT hZ1 (hw _ (List.mem_of_getElem? (i := 82) rfl))) (mvT hZ1 (hw _ (List.mem_of_getElem? (i := 81) rfl))) (by decide) (backOf (W := 0) (rm15 l Z a0 hw [] b_2 T2.heap n0 Z2 B2_5) hZ1 (hw _ (List.mem_of_getElem? (i := 83) rfl)) (hw _ (List.mem_of_getElem? (i := 36) rfl)) (by decide) (by decide)) q11a q11c (g := (mkF m 54 #[.val (.int i0), .val (.int i1), .val (.int i2), .val (.int i3), .val (.ref t_1), .val (.ref b_2)] [(.ref b_2)])) rfl (by rw [hml]; rfl) (Steps.refl _) (argsL := []) (rest := []) (lenOf pd_11 rfl) rfl (by show 2 * 0 + _ ≤ _; exact Nat.le_of_eq rfl) (hb hby at_54) (fun _ _ => ⟨rfl, e10, (by decide : 5 + 0 ≤ _), (by decide : 15 + 0 ≤ _)⟩)
  dsimp only [Pt.U, Pt.locs, Pt.cells, Pt.slots] at X11 l11 y11 z11 st11 hQ11
  subst l11 y11 z11
  obtain ⟨rfl, N11q, e11⟩ := hQ11
  have N11 := Fr.app N10 N11q
  replace G : Gets p e below _ (T11.setTop (mkF m 57 #[.val (.int i0), .val (.int i1), .val (.int i2), .val (.int i3), .val (.ref t_1), .val (.ref b_2)] [.null])) := fun t k => G t (st11.trans k)
  replace G := own_ifnonnullNo (q := 60) G X11.here hx (hb hby at_57) rfl
  replace G := own_aload (q := 62) G X11.here hx (hb hby at_60) rfl rfl rfl
  obtain ⟨cq12, kq12, q12a, q12b, q12c⟩ := isOf hZ1 e11 B2_1
  obtain ⟨_, _, ⟨T12, L12, kk12, nn12⟩, -, X12, ⟨Lc12, hQ12, l12, y12, z12⟩, st12⟩ := X11.virtualBack hx (y := (⟨"com/example/assertgate/assertgate/store/Organisation", "idp", "()Lcom/example/assertgate/assertgate/store/Organisation$Idp;"⟩ : MethodName)) (z := (⟨"com/example/assertgate/assertgate/store/Organisation", "idp", "()Lcom/example/assertgate/assertgate/store/Organisation$Idp;"⟩ : MethodName)) hown1 (mvT hZ1 (hw _ (List.mem_of_getElem? (i := 84) rfl))) (mvT hZ1 (hw _ (List.mem_of_getElem? (i := 85) rfl))) (notFace_of_selects (args := #[]) (mvT hZ1 (hw _ (List.mem_of_getElem? (i := 87) rfl)))) (mvT hZ1 (hw _ (List.mem_of_getElem? (i := 87) rfl))) (mvT hZ1 (hw _ (List.mem_of_getElem? (i := 86) rfl))) (by decide) (backOf (W := 0) (rm16 l Z a0 hw [] b_2 T2.heap n0 Z2 B2_6) hZ1 (hw _ (List.mem_of_getElem? (i := 88) rfl)) (hw _ (List.mem_of_getElem? (i := 36) rfl)) (by decide) (by decide)) q12a q12c (g := (mkF m 62 #[.val (.int i0), .val (.int i1), .val (.int i2), .val (.int i3), .val (.ref t_1), .val (.ref b_2)] [(.ref b_2)])) rfl (by rw [hml]; rfl) (Steps.refl _) (argsL := []) (rest := []) (lenOf pd_12 rfl) rfl (by show 2 * 0 + _ ≤ _; exact Nat.le_of_eq rfl) (hb hby at_62) (fun _ _ => ⟨rfl, e11, (by decide : 5 + 0 ≤ _), (by decide : 15 + 0 ≤ _)⟩)
  dsimp only [Pt.U, Pt.locs, Pt.cells, Pt.slots] at X12 l12 y12 z12 st12 hQ12
  subst l12 y12 z12
  obtain ⟨rfl, N12q, e12⟩ := hQ12
  have N12 := Fr.app N11 N12q
  replace G : Gets p e below _ (T12.setTop (mkF m 65 #[.val (.int i0), .val (.int i1), .val (.int i2), .val (.int i3), .val (.ref t_1), .val (.ref b_2)] [.null])) := fun t k => G t (st12.trans k)
  replace G := own_ifnonnullNo (q := 68) G X12.here hx (hb hby at_65) rfl
  replace G := own_aload (q := 70) G X12.here hx (hb hby at_68) rfl rfl rfl
  obtain ⟨cq13, kq13, q13a, q13b, q13c⟩ := isOf hZ1 e12 B2_1
  obtain ⟨_, _, ⟨T13, L13, kk13, nn13⟩, -, X13, ⟨Lc13, hQ13, l13, y13, z13⟩, st13⟩ := X12.virtualBack hx (y := (⟨"com/example/assertgate/assertgate/store/Organisation", "idpExpiresAt", "()Ljava/time/Instant;"⟩ : MethodName)) (z := (⟨"com/example/assertgate/assertgate/store/Organisation", "idpExpiresAt", "()Ljava/time/Instant;"⟩ : MethodName)) hown1 (mvT hZ1 (hw _ (List.mem_of_getElem? (i := 89) rfl))) (mvT hZ1 (hw _ (List.mem_of_getElem? (i := 90) rfl))) (notFace_of_selects (args := #[]) (mvT hZ1 (hw _ (List.mem_of_getElem? (i := 92) rfl)))) (mvT hZ1 (hw _ (List.mem_of_getElem? (i := 92) rfl))) (mvT hZ1 (hw _ (List.mem_of_getElem? (i := 91) rfl))) (by decide) (backOf (W := 0) (rm17 l Z a0 hw [] b_2 T2.heap n0 Z2 B2_6) hZ1 (hw _ (List.mem_of_getElem? (i := 93) rfl)) (hw _ (List.mem_of_getElem? (i := 36) rfl)) (by decide) (by decide)) q13a q13c (g := (mkF m 70 #[.val (.int i0), .val (.int i1), .val (.int i2), .val (.int i3), .val (.ref t_1), .val (.ref b_2)] [(.ref b_2)])) rfl (by rw [hml]; rfl) (Steps.refl _) (argsL := []) (rest := []) (lenOf pd_11 rfl) rfl (by show 2 * 0 + _ ≤ _; exact Nat.le_of_eq rfl) (hb hby at_70) (fun _ _ => ⟨rfl, e12, (by decide : 5 + 0 ≤ _), (by decide : 15 + 0 ≤ _)⟩)
  dsimp only [Pt.U, Pt.locs, Pt.cells, Pt.slots] at X13 l13 y13 z13 st13 hQ13
  subst l13 y13 z13
  obtain ⟨rfl, N13q, e13⟩ := hQ13
  have N13 := Fr.app N12 N13q
  replace G : Gets p e below _ (T13.setTop (mkF m 73 #[.val (.int i0), .val (.int i1), .val (.int i2), .val (.int i3), .val (.ref t_1), .val (.ref b_2)] [.null])) := fun t k => G t (st13.trans k)
  replace G := own_ifnonnullNo (q := 76) G X13.here hx (hb hby at_73) rfl
  replace G := own_iconst (q := 77) G X13.here hx (hb hby at_76) (v := (1 : Int32)) (by decide) rfl
  replace G := own_goto (q := 81) G X13.here hx (hb hby at_77) (by decide) (by decide)
  obtain ⟨fs, hr, hrun, hended, -, hW, hBk, hsame⟩ := X13.leaveW S1 (by rw [e13]; exact hk4) (v := some (.int (1 : Int32))) (fun h => by rw [Bd.returns] at h; cases h)
  refine ⟨_, _, G _ (retOut X13 hx Bd.returns rfl (Or.inl ⟨rfl, Or.inr (Or.inl rfl), _, rfl⟩) (hb hby at_81) hr), hrun, hended, _, _, rfl, ?_, ⟨_, rfl⟩, hW, hBk, hsame.mono (by decide) (by decide)⟩
  show Q0 Z i0 i1 i2 i3 cw h0 n0 _ T13.heap _
  rw [e13]
  exact ⟨rfl, N13⟩
set_option maxRecDepth 65536 in
set_option maxHeartbeats 40000000 in
theorem comes_1 {Post : Tables → Env → Array Value → State → Outcome → State → Prop} (hpost : ∀ tb e args s v u, (limb_1_1.after args s (.returned v) u = true ∧ limb_1_2.after args s (.returned v) u = true ∧ True) → ReturnedEndW s (.returned v) u (Jvm.fieldLocs frame_1_writes args s ++ Jvm.arrayLocs frame_1_arrays args s ++ Jvm.staticLocs frame_1_statics s) 24 1152 → Post tb e args s (.returned v) u) :
    ArmFor flags0 classFile x code maxLocals ret World_1 tables_1 room_1 Calls_1 rest_1 Pre_1 Post := by
  intro l hfl _ _ p e ha hc hk s m args below hf hA hF happ hP
  obtain ⟨hcalls, hrest, hpre⟩ := hP
  obtain ⟨-, -, -, hnamed, -, -, -, hat⟩ := (Spec.applies_iff hf).mp happ
  obtain ⟨hg, hn⟩ := and_e (Cond.before_iff.mp (show (Jvm.Cond.and given_1 narrow_1).before args s = true from hpre))
  obtain ⟨g1, g2⟩ := and_e hg
  obtain ⟨g3, g4⟩ := and_e g2
  obtain ⟨g5, g6⟩ := and_e g4
  obtain ⟨g7, g8⟩ := and_e g6
  obtain ⟨w0, w1, w2, w3, rfl⟩ : ∃ w0 w1 w2 w3 : Value, args = #[w0, w1, w2, w3] := by
    have hs : args.size = 4 := by simpa [Cond.value, given_1] using g1
    obtain ⟨L⟩ := args
    match L, hs with
    | [w0, w1, w2, w3], _ => exact ⟨w0, w1, w2, w3, rfl⟩
  have hw := fun d (hd : d ∈ tables_1) => atoms_spec (ws := Jvm.Cond.code x code maxLocals ret :: tables_1) hat d (List.mem_cons_of_mem _ hd)
  have hfit : Fit s := fun {y c} hc i hi => by
    obtain ⟨ha, rfl⟩ := Array.getElem?_eq_some_iff.mp hc
    have q := List.all_eq_true.mp ((Array.all_eq_true_iff_forall_mem.mp hF) _ (Array.getElem_mem ha)) i (List.mem_range.mpr hi)
    simpa [Array.getElem?_eq_getElem hi] using q
  obtain ⟨hsets, hown0⟩ := atoms_of _ (rest_1_c_eq ▸ (show rest_1_c.before _ s = true from hrest))
  have hr0 := Cond.before_iff.mp hown0
  obtain ⟨i0, ei0⟩ := is_v g3
  obtain rfl : w0 = (.int i0) := Option.some.inj ei0
  obtain ⟨i1, ei1⟩ := is_v g5
  obtain rfl : w1 = (.int i1) := Option.some.inj ei1
  obtain ⟨i2, ei2⟩ := is_v g7
  obtain rfl : w2 = (.int i2) := Option.some.inj ei2
  obtain ⟨i3, ei3⟩ := is_v g8
  obtain rfl : w3 = (.int i3) := Option.some.inj ei3
  have nc := not_v (Cond.before_iff.mp (hsets _ (List.mem_of_getElem? (i := 2) rfl)))
  obtain ⟨cw, ecw⟩ := is_v (Cond.before_iff.mp (hsets _ (List.mem_of_getElem? (i := 1) rfl)))
  have Scw : Sta s s.heap "java/lang/String" "COMPACT_STRINGS" "Z" (.int cw) := Sta.start ecw (Or.inl (hsets _ (List.mem_of_getElem? (i := 0) rfl)))
  have hcw : ¬ (cw = (0 : Int32)) := gotF (Cond.eq_ints ecw (Term.int_eval (0))) nc
  have hch : Jvm.Lit.constHeld s "java/lang/String" 7 := hcalls.1 _ (List.mem_singleton.mpr rfl)
  have hcb : Jvm.Lit.compactW.before _ s = true := hsets _ (List.mem_of_getElem? (i := 2) rfl)
  obtain ⟨n, o, h1, h2, h3, _, L, rfl, ⟨rfl, N⟩, hq⟩ := rm0 l s _ hw tables_1 i0 i1 i2 i3 cw s.heap s.heap.size (Nat.le_refl _) (Old.start s) Scw hcw hch hcb p e ha hc hk s m _ below hf ((Spec.applies_iff_loose hf).mp happ).1 ⟨rfl, State.Warmed39.refl s, rfl, IB.start⟩ trivial
  refine ⟨n, _, h1, h2, h3, hpost _ _ _ _ _ _ ⟨Cond.after_iff.mpr rfl, Cond.after_iff.mpr (eq_i res_at (Term.int_eval (1)) rfl), trivial⟩ ⟨hq.1, hq.2.1, hq.2.2.1, (hq.2.2.2.sift fun y hy => Or.inr (N y hy)).mono (by decide) (by decide)⟩⟩
theorem main_1_1 : Claimed_1_1 := comes_1 fun _ _ _ _ _ _ h hF => ⟨h.1, hF⟩
theorem main_1_2 : Claimed_1_2 := comes_1 fun _ _ _ _ _ _ h hF => ⟨h.2.1, hF⟩
end Jvm.Pilot.@@N@@
namespace Jvm.Pilot.@@N@@
open Jvm Jvm.ClassFile Sem Op Lib Jvm.Free Jvm.Stand Jvm.Pilot.@@N@@.Jvm.D
/-! MADE BY PROGRAM (witnessworld.py) out of the Statement's table words and the real class files: 21 classes; the members and pool entries that the words name. The judged class is class 1, her method 1. -/
namespace start1
open Jvm.ClassFile
def u (s : String) : CpInfo := .utf8 (stringToUtf16 s)
/-- a pool by its gaps: so many unusable entries, then the entry; so many at the end -/
def gap : Nat → List CpInfo → List CpInfo
  | 0, r => r
  | n + 1, r => .unusable :: gap n r
def poolList (es : List (Nat × CpInfo)) (last : Nat) : List CpInfo := es.foldr (fun e r => gap e.1 (e.2 :: r)) (gap last [])
def pool (es : List (Nat × CpInfo)) (last : Nat) : Array CpInfo := ⟨poolList es last⟩
def fileOf (pool : Array CpInfo) (this : Nat) (attrs : Array Attribute := #[]) (ms : Array MethodInfo := #[]) (fl : Nat := 33) (sup : Nat := 0) (ifs : Array Nat := #[]) (fds : Array FieldInfo := #[]) : ClassFile where
  minorVersion := 0
  majorVersion := 65
  constantPool := pool
  accessFlags := fl
  thisClass := this
  superClass := sup
  interfaces := ifs
  fields := fds
  methods := ms
  attributes := attrs
def plain (name : String) (sup : Option ClassId) : Class where
  name := name
  kind := .ordinary
  loader := none
  accessFlags := 33
  super := sup
  interfaces := #[]
  cf := none
  fields := #[]
  methods := #[]
  instanceTypes := #[]
  staticTypes := #[]
  resolved := #[]
  callSites := []
  init := .initialized
  statics := none
  mirror := none

def pool0 : Array CpInfo := pool [(5, u "<init>"), (0, u "()V"), (1, .class_ 10), (1, u "java/lang/Object")] 113

def k0c0 : Code := { maxStack := 0, maxLocals := 1, code := object_method_1_code, exceptionTable := #[], attributes := #[] }
def k0m0 : Method := { name := "<init>", desc := "()V", sig := { parameters := [], returnType := none }, accessFlags := 1, code := some k0c0 }
/-- java/lang/Object -/
def k0 : Class := { plain "java/lang/Object" none with
  accessFlags := 33
  interfaces := #[]
  cf := some (fileOf pool0 8 #[] #[{ accessFlags := 1, nameIndex := 5, descriptorIndex := 6, attributes := #[] }] 33 0 #[] #[])
  fields := #[]
  methods := #[k0m0]
  instanceTypes := #[]
  staticTypes := #[]
  resolved := Array.replicate 124 none
  statics := none }

def pool1 : Array CpInfo := pool [(2, .class_ 4), (1, u "java/lang/Object"), (0, u "<init>"), (0, u "()V"), (0, .methodref 8 9), (0, .class_ 10), (0, .nameAndType 11 12), (0, u "com/example/assertgate/assertgate/store/OrganisationNamedPinLaw"), (0, u "drawn"), (0, u "(IIII)Ljava/lang/String;"), (0, .methodref 14 15), (0, .class_ 16), (0, .nameAndType 17 18), (0, u "com/example/assertgate/assertgate/store/Organisation"), (0, u "named"), (0, u "(Ljava/lang/String;)Lcom/example/assertgate/assertgate/store/Organisation;"), (0, .methodref 14 20), (0, .nameAndType 21 22), (0, u "name"), (0, u "()Ljava/lang/String;"), (0, .methodref 24 25), (0, .class_ 26), (0, .nameAndType 27 28), (0, u "java/lang/String"), (0, u "equals"), (0, u "(Ljava/lang/Object;)Z"), (0, .methodref 14 30), (0, .nameAndType 31 22), (0, u "defaultRelayState"), (0, .methodref 14 33), (0, .nameAndType 34 22), (0, u "nameIdFormat"), (0, .methodref 14 36), (0, .nameAndType 37 38), (0, u "firstSignInAt"), (0, u "()Ljava/time/Instant;"), (0, .methodref 14 40), (0, .nameAndType 41 42), (0, u "idp"), (0, u "()Lcom/example/assertgate/assertgate/store/Organisation$Idp;"), (0, .methodref 14 44), (0, .nameAndType 45 38), (0, u "idpExpiresAt"), (0, .methodref 24 47), (0, .nameAndType 5 48), (0, u "([C)V"), (2, u "law"), (0, u "(IIII)Z")] 7

def k1m0 : Method := { name := "<init>", desc := "()V", sig := { parameters := [], returnType := none }, accessFlags := 1, code := none }
def k1c1 : Code := { maxStack := 4, maxLocals := 6, code := code, exceptionTable := #[], attributes := #[] }
def k1m1 : Method := { name := "law", desc := "(IIII)Z", sig := { parameters := [.int, .int, .int, .int], returnType := some .boolean }, accessFlags := 9, code := some k1c1 }
def k1c2 : Code := { maxStack := 6, maxLocals := 8, code := method_3_code, exceptionTable := #[], attributes := #[] }
def k1m2 : Method := { name := "drawn", desc := "(IIII)Ljava/lang/String;", sig := { parameters := [.int, .int, .int, .int], returnType := some (.object "java/lang/String") }, accessFlags := 10, code := some k1c2 }
/-- com/example/assertgate/assertgate/store/OrganisationNamedPinLaw -/
def k1 : Class := { plain "com/example/assertgate/assertgate/store/OrganisationNamedPinLaw" (some 0) with
  accessFlags := 49
  interfaces := #[]
  cf := some (fileOf pool1 8 #[] #[{ accessFlags := 1, nameIndex := 5, descriptorIndex := 6, attributes := #[] }, { accessFlags := 9, nameIndex := 51, descriptorIndex := 52, attributes := #[] }, { accessFlags := 10, nameIndex := 11, descriptorIndex := 12, attributes := #[] }] 49 2 #[] #[])
  fields := #[]
  methods := #[k1m0, k1m1, k1m2]
  instanceTypes := #[]
  staticTypes := #[]
  resolved := Array.replicate 60 none
  statics := none }

def pool2 : Array CpInfo := pool [(1, .class_ 2), (0, u "java/io/Serializable"), (0, .class_ 4), (0, u "java/lang/Object")] 2

/-- java/io/Serializable -/
def k2 : Class := { plain "java/io/Serializable" (some 0) with
  accessFlags := 1537
  interfaces := #[]
  cf := some (fileOf pool2 1 #[] #[] 1537 3 #[] #[])
  fields := #[]
  methods := #[]
  instanceTypes := #[]
  staticTypes := #[]
  resolved := Array.replicate 7 none
  statics := none }

def pool3 : Array CpInfo := pool [(1, .class_ 2), (0, u "java/lang/Comparable"), (0, .class_ 4), (0, u "java/lang/Object")] 7

/-- java/lang/Comparable -/
def k3 : Class := { plain "java/lang/Comparable" (some 0) with
  accessFlags := 1537
  interfaces := #[]
  cf := some (fileOf pool3 1 #[] #[] 1537 3 #[] #[])
  fields := #[]
  methods := #[]
  instanceTypes := #[]
  staticTypes := #[]
  resolved := Array.replicate 12 none
  statics := none }

def pool4 : Array CpInfo := pool [(2, .class_ 4), (1, u "java/lang/CharSequence"), (42, .class_ 48), (0, u "java/lang/CharSequence$1CodePointIterator"), (10, .class_ 60), (0, u "java/lang/CharSequence$1CharIterator"), (5, .class_ 67), (0, u "java/lang/Object")] 63

/-- java/lang/CharSequence -/
def k4 : Class := { plain "java/lang/CharSequence" (some 0) with
  accessFlags := 1537
  interfaces := #[]
  cf := some (fileOf pool4 2 #[.nestMembers #[47, 59]] #[] 1537 66 #[] #[])
  fields := #[]
  methods := #[]
  instanceTypes := #[]
  staticTypes := #[]
  resolved := Array.replicate 131 none
  statics := none }

def pool5 : Array CpInfo := pool [(1, .class_ 2), (0, u "java/lang/constant/Constable"), (0, .class_ 4), (0, u "java/lang/Object")] 6

/-- java/lang/constant/Constable -/
def k5 : Class := { plain "java/lang/constant/Constable" (some 0) with
  accessFlags := 1537
  interfaces := #[]
  cf := some (fileOf pool5 1 #[] #[] 1537 3 #[] #[])
  fields := #[]
  methods := #[]
  instanceTypes := #[]
  staticTypes := #[]
  resolved := Array.replicate 11 none
  statics := none }

def pool6 : Array CpInfo := pool [(1, .class_ 2), (0, u "java/lang/constant/ConstantDesc"), (0, .class_ 4), (0, u "java/lang/Object")] 32

/-- java/lang/constant/ConstantDesc -/
def k6 : Class := { plain "java/lang/constant/ConstantDesc" (some 0) with
  accessFlags := 1537
  interfaces := #[]
  cf := some (fileOf pool6 1 #[] #[] 1537 3 #[] #[])
  fields := #[]
  methods := #[]
  instanceTypes := #[]
  staticTypes := #[]
  resolved := Array.replicate 37 none
  statics := none }

def pool7 : Array CpInfo := pool [(1, .methodref 2 3), (0, .class_ 4), (0, .nameAndType 5 6), (0, u "java/lang/Object"), (0, u "<init>"), (0, u "()V"), (0, .string 8), (0, u ""), (0, .fieldref 10 11), (0, .class_ 12), (0, .nameAndType 13 14), (0, u "java/lang/String"), (0, u "value"), (0, u "[B"), (0, .fieldref 10 16), (0, .nameAndType 17 18), (0, u "coder"), (0, u "B"), (2, u "hash"), (0, u "I"), (2, u "hashIsZero"), (0, u "Z"), (0, .methodref 10 28), (0, .nameAndType 5 29), (0, u "([CIILjava/lang/Void;)V"), (8, .fieldref 10 39), (0, .nameAndType 40 26), (0, u "COMPACT_STRINGS"), (1, .class_ 44), (1, u "java/lang/StringUTF16"), (0, u "compress"), (1, .methodref 42 48), (0, .nameAndType 49 50), (0, u "coderFromArrayLen"), (0, u "([BI)B"), (126, .methodref 42 178), (0, .nameAndType 45 179), (0, u "([CII)[B"), (363, u "equals"), (29, u "(Ljava/lang/Object;)Z"), (1, .class_ 576), (0, u "java/lang/CharSequence"), (22, u "CASE_INSENSITIVE_ORDER"), (0, u "Ljava/util/Comparator;"), (409, u "([C)V"), (90, u "serialPersistentFields"), (0, u "[Ljava/io/ObjectStreamField;"), (0, .class_ 1104), (0, u "java/lang/String$CaseInsensitiveComparator"), (1, .class_ 1107), (0, u "java/io/Serializable"), (0, .class_ 1109), (0, u "java/lang/Comparable"), (0, .class_ 1111), (0, u "java/lang/constant/Constable"), (0, .class_ 1113), (0, u "java/lang/constant/ConstantDesc"), (2, u "serialVersionUID"), (0, u "J"), (3, u "REPL"), (0, u "C"), (2, u "LATIN1"), (1, u "UTF16")] 323

def k7m0 : Method := { name := "<init>", desc := "()V", sig := { parameters := [], returnType := none }, accessFlags := 1, code := none }
def k7c1 : Code := { maxStack := 5, maxLocals := 2, code := jdk_42_method_3_code, exceptionTable := #[], attributes := #[] }
def k7m1 : Method := { name := "<init>", desc := "([C)V", sig := { parameters := [(.array .char)], returnType := none }, accessFlags := 1, code := some k7c1 }
def k7c2 : Code := { maxStack := 2, maxLocals := 3, code := jdk_42_method_66_code, exceptionTable := #[], attributes := #[] }
def k7m2 : Method := { name := "equals", desc := "(Ljava/lang/Object;)Z", sig := { parameters := [(.object "java/lang/Object")], returnType := some .boolean }, accessFlags := 1, code := some k7c2 }
def k7c3 : Code := { maxStack := 4, maxLocals := 6, code := jdk_42_method_149_code, exceptionTable := #[], attributes := #[] }
def k7m3 : Method := { name := "<init>", desc := "([CIILjava/lang/Void;)V", sig := { parameters := [(.array .char), .int, .int, (.object "java/lang/Void")], returnType := none }, accessFlags := 2, code := some k7c3 }
/-- java/lang/String -/
def k7 : Class := { plain "java/lang/String" (some 0) with
  accessFlags := 49
  interfaces := #[2, 3, 4, 5, 6]
  cf := some (fileOf pool7 10 #[.nestMembers #[1103]] #[{ accessFlags := 1, nameIndex := 5, descriptorIndex := 6, attributes := #[] }, { accessFlags := 1, nameIndex := 5, descriptorIndex := 1010, attributes := #[] }, { accessFlags := 1, nameIndex := 543, descriptorIndex := 573, attributes := #[] }, { accessFlags := 2, nameIndex := 5, descriptorIndex := 29, attributes := #[] }] 49 2 #[1106, 1108, 575, 1110, 1112] #[{ accessFlags := 18, nameIndex := 13, descriptorIndex := 14, attributes := #[] }, { accessFlags := 18, nameIndex := 17, descriptorIndex := 18, attributes := #[] }, { accessFlags := 2, nameIndex := 21, descriptorIndex := 22, attributes := #[] }, { accessFlags := 2, nameIndex := 25, descriptorIndex := 26, attributes := #[] }, { accessFlags := 26, nameIndex := 1116, descriptorIndex := 1117, attributes := #[] }, { accessFlags := 24, nameIndex := 40, descriptorIndex := 26, attributes := #[] }, { accessFlags := 26, nameIndex := 1101, descriptorIndex := 1102, attributes := #[] }, { accessFlags := 26, nameIndex := 1121, descriptorIndex := 1122, attributes := #[] }, { accessFlags := 25, nameIndex := 599, descriptorIndex := 600, attributes := #[] }, { accessFlags := 24, nameIndex := 1125, descriptorIndex := 18, attributes := #[] }, { accessFlags := 24, nameIndex := 1127, descriptorIndex := 18, attributes := #[] }])
  fields := #[{ name := "value", type := (.array .byte), accessFlags := 18, slot := 0, constantValue := 0 }, { name := "coder", type := .byte, accessFlags := 18, slot := 1, constantValue := 0 }, { name := "hash", type := .int, accessFlags := 2, slot := 2, constantValue := 0 }, { name := "hashIsZero", type := .boolean, accessFlags := 2, slot := 3, constantValue := 0 }, { name := "serialVersionUID", type := .long, accessFlags := 26, slot := 0, constantValue := 0 }, { name := "COMPACT_STRINGS", type := .boolean, accessFlags := 24, slot := 1, constantValue := 0 }, { name := "serialPersistentFields", type := (.array (.object "java/io/ObjectStreamField")), accessFlags := 26, slot := 2, constantValue := 0 }, { name := "REPL", type := .char, accessFlags := 26, slot := 3, constantValue := 0 }, { name := "CASE_INSENSITIVE_ORDER", type := (.object "java/util/Comparator"), accessFlags := 25, slot := 4, constantValue := 0 }, { name := "LATIN1", type := .byte, accessFlags := 24, slot := 5, constantValue := 0 }, { name := "UTF16", type := .byte, accessFlags := 24, slot := 6, constantValue := 0 }]
  methods := #[k7m0, k7m1, k7m2, k7m3]
  instanceTypes := #[(.array .byte), .byte, .int, .boolean]
  staticTypes := #[.long, .boolean, (.array (.object "java/io/ObjectStreamField")), .char, (.object "java/util/Comparator"), .byte, .byte]
  resolved := Array.replicate 1451 none
  statics := some 0 }

def pool8 : Array CpInfo := pool [(6, .class_ 8), (1, u "java/lang/Object"), (0, u "<init>"), (0, u "()V"), (1, .class_ 14), (1, u "java/lang/StringUTF16"), (31, u "$assertionsDisabled"), (0, u "Z"), (13, u "HI_BYTE_SHIFT"), (0, u "I"), (2, u "LO_BYTE_SHIFT"), (49, .methodref 12 116), (0, .nameAndType 117 118), (0, u "compress"), (0, u "([CI[BII)I"), (3, u "([CII)[B"), (138, u "coderFromArrayLen"), (0, u "([BI)B"), (106, .class_ 371), (1, u "java/lang/StringUTF16$LinesSpliterator"), (58, u "MAX_LENGTH"), (196, .class_ 628), (0, u "java/lang/StringUTF16$CodePointsSpliterator"), (0, .class_ 630), (0, u "java/lang/StringUTF16$CharsSpliterator")] 4

def k8m0 : Method := { name := "<init>", desc := "()V", sig := { parameters := [], returnType := none }, accessFlags := 0, code := none }
def k8c1 : Code := { maxStack := 2, maxLocals := 2, code := jdk_52_method_15_code, exceptionTable := #[], attributes := #[] }
def k8m1 : Method := { name := "coderFromArrayLen", desc := "([BI)B", sig := { parameters := [(.array .byte), .int], returnType := some .byte }, accessFlags := 8, code := some k8c1 }
def k8c2 : Code := { maxStack := 5, maxLocals := 6, code := jdk_52_method_16_code, exceptionTable := #[], attributes := #[] }
def k8m2 : Method := { name := "compress", desc := "([CII)[B", sig := { parameters := [(.array .char), .int, .int], returnType := some (.array .byte) }, accessFlags := 9, code := some k8c2 }
def k8c3 : Code := { maxStack := 3, maxLocals := 7, code := jdk_52_method_21_code, exceptionTable := #[], attributes := #[] }
def k8m3 : Method := { name := "compress", desc := "([CI[BII)I", sig := { parameters := [(.array .char), .int, (.array .byte), .int, .int], returnType := some .int }, accessFlags := 9, code := some k8c3 }
/-- java/lang/StringUTF16 -/
def k8 : Class := { plain "java/lang/StringUTF16" (some 0) with
  accessFlags := 48
  interfaces := #[]
  cf := some (fileOf pool8 12 #[.nestMembers #[627, 629, 369]] #[{ accessFlags := 0, nameIndex := 9, descriptorIndex := 10, attributes := #[] }, { accessFlags := 8, nameIndex := 261, descriptorIndex := 262, attributes := #[] }, { accessFlags := 9, nameIndex := 117, descriptorIndex := 122, attributes := #[] }, { accessFlags := 9, nameIndex := 117, descriptorIndex := 118, attributes := #[] }] 48 6 #[] #[{ accessFlags := 26, nameIndex := 61, descriptorIndex := 62, attributes := #[] }, { accessFlags := 26, nameIndex := 65, descriptorIndex := 62, attributes := #[] }, { accessFlags := 24, nameIndex := 430, descriptorIndex := 62, attributes := #[] }, { accessFlags := 4120, nameIndex := 46, descriptorIndex := 47, attributes := #[] }])
  fields := #[{ name := "HI_BYTE_SHIFT", type := .int, accessFlags := 26, slot := 0, constantValue := 0 }, { name := "LO_BYTE_SHIFT", type := .int, accessFlags := 26, slot := 1, constantValue := 0 }, { name := "MAX_LENGTH", type := .int, accessFlags := 24, slot := 2, constantValue := 0 }, { name := "$assertionsDisabled", type := .boolean, accessFlags := 4120, slot := 3, constantValue := 0 }]
  methods := #[k8m0, k8m1, k8m2, k8m3]
  instanceTypes := #[]
  staticTypes := #[.int, .int, .int, .boolean]
  resolved := Array.replicate 635 none
  statics := none }

def pool9 : Array CpInfo := pool [(1, .methodref 2 3), (0, .class_ 4), (0, .nameAndType 5 6), (0, u "java/lang/Object"), (0, u "<init>"), (0, u "()V"), (0, .class_ 8), (0, u "java/lang/Record")] 13

def k9c0 : Code := { maxStack := 1, maxLocals := 1, code := jdk_30_method_1_code, exceptionTable := #[], attributes := #[] }
def k9m0 : Method := { name := "<init>", desc := "()V", sig := { parameters := [], returnType := none }, accessFlags := 4, code := some k9c0 }
/-- java/lang/Record -/
def k9 : Class := { plain "java/lang/Record" (some 0) with
  accessFlags := 1057
  interfaces := #[]
  cf := some (fileOf pool9 7 #[] #[{ accessFlags := 4, nameIndex := 5, descriptorIndex := 6, attributes := #[] }] 1057 2 #[] #[])
  fields := #[]
  methods := #[k9m0]
  instanceTypes := #[]
  staticTypes := #[]
  resolved := Array.replicate 22 none
  statics := none }

def pool10 : Array CpInfo := pool [(1, .methodref 2 3), (0, .class_ 4), (0, .nameAndType 5 6), (0, u "java/lang/Record"), (0, u "<init>"), (0, u "()V"), (0, .fieldref 8 9), (0, .class_ 10), (0, .nameAndType 11 12), (0, u "com/example/assertgate/assertgate/store/Organisation"), (0, u "name"), (0, u "Ljava/lang/String;"), (0, .fieldref 8 14), (0, .nameAndType 15 12), (0, u "defaultRelayState"), (0, .fieldref 8 17), (0, .nameAndType 18 12), (0, u "nameIdFormat"), (0, .fieldref 8 20), (0, .nameAndType 21 22), (0, u "firstSignInAt"), (0, u "Ljava/time/Instant;"), (0, .fieldref 8 24), (0, .nameAndType 25 26), (0, u "idp"), (0, u "Lcom/example/assertgate/assertgate/store/Organisation$Idp;"), (0, .methodref 8 28), (0, .nameAndType 5 29), (0, u "(Ljava/lang/String;Ljava/lang/String;Ljava/lang/String;Ljava/time/Instant;Lcom/example/assertgate/assertgate/store/Organisation$Idp;)V"), (2, u "NAME"), (0, u "Ljava/util/regex/Pattern;"), (22, u "()Ljava/lang/String;"), (12, .class_ 71), (1, u "com/example/assertgate/assertgate/store/Organisation$Idp"), (7, u "()Ljava/time/Instant;"), (57, u "named"), (0, u "(Ljava/lang/String;)Lcom/example/assertgate/assertgate/store/Organisation;"), (3, u "idpExpiresAt"), (11, u "()Lcom/example/assertgate/assertgate/store/Organisation$Idp;")] 35

def k10c0 : Code := { maxStack := 2, maxLocals := 6, code := prog_56_method_1_code, exceptionTable := #[], attributes := #[] }
def k10m0 : Method := { name := "<init>", desc := "(Ljava/lang/String;Ljava/lang/String;Ljava/lang/String;Ljava/time/Instant;Lcom/example/assertgate/assertgate/store/Organisation$Idp;)V", sig := { parameters := [(.object "java/lang/String"), (.object "java/lang/String"), (.object "java/lang/String"), (.object "java/time/Instant"), (.object "com/example/assertgate/assertgate/store/Organisation$Idp")], returnType := none }, accessFlags := 1, code := some k10c0 }
def k10c1 : Code := { maxStack := 7, maxLocals := 1, code := prog_56_method_2_code, exceptionTable := #[], attributes := #[] }
def k10m1 : Method := { name := "named", desc := "(Ljava/lang/String;)Lcom/example/assertgate/assertgate/store/Organisation;", sig := { parameters := [(.object "java/lang/String")], returnType := some (.object "com/example/assertgate/assertgate/store/Organisation") }, accessFlags := 8, code := some k10c1 }
def k10c2 : Code := { maxStack := 1, maxLocals := 1, code := prog_56_method_5_code, exceptionTable := #[], attributes := #[] }
def k10m2 : Method := { name := "idpExpiresAt", desc := "()Ljava/time/Instant;", sig := { parameters := [], returnType := some (.object "java/time/Instant") }, accessFlags := 1, code := some k10c2 }
def k10c3 : Code := { maxStack := 1, maxLocals := 1, code := prog_56_method_17_code, exceptionTable := #[], attributes := #[] }
def k10m3 : Method := { name := "name", desc := "()Ljava/lang/String;", sig := { parameters := [], returnType := some (.object "java/lang/String") }, accessFlags := 1, code := some k10c3 }
def k10c4 : Code := { maxStack := 1, maxLocals := 1, code := prog_56_method_18_code, exceptionTable := #[], attributes := #[] }
def k10m4 : Method := { name := "defaultRelayState", desc := "()Ljava/lang/String;", sig := { parameters := [], returnType := some (.object "java/lang/String") }, accessFlags := 1, code := some k10c4 }
def k10c5 : Code := { maxStack := 1, maxLocals := 1, code := prog_56_method_19_code, exceptionTable := #[], attributes := #[] }
def k10m5 : Method := { name := "nameIdFormat", desc := "()Ljava/lang/String;", sig := { parameters := [], returnType := some (.object "java/lang/String") }, accessFlags := 1, code := some k10c5 }
def k10c6 : Code := { maxStack := 1, maxLocals := 1, code := prog_56_method_20_code, exceptionTable := #[], attributes := #[] }
def k10m6 : Method := { name := "firstSignInAt", desc := "()Ljava/time/Instant;", sig := { parameters := [], returnType := some (.object "java/time/Instant") }, accessFlags := 1, code := some k10c6 }
def k10c7 : Code := { maxStack := 1, maxLocals := 1, code := prog_56_method_21_code, exceptionTable := #[], attributes := #[] }
def k10m7 : Method := { name := "idp", desc := "()Lcom/example/assertgate/assertgate/store/Organisation$Idp;", sig := { parameters := [], returnType := some (.object "com/example/assertgate/assertgate/store/Organisation$Idp") }, accessFlags := 1, code := some k10c7 }
/-- com/example/assertgate/assertgate/store/Organisation -/
def k10 : Class := { plain "com/example/assertgate/assertgate/store/Organisation" (some 9) with
  accessFlags := 49
  interfaces := #[]
  cf := some (fileOf pool10 8 #[.nestMembers #[69]] #[{ accessFlags := 1, nameIndex := 5, descriptorIndex := 29, attributes := #[] }, { accessFlags := 8, nameIndex := 137, descriptorIndex := 138, attributes := #[] }, { accessFlags := 1, nameIndex := 142, descriptorIndex := 79, attributes := #[] }, { accessFlags := 1, nameIndex := 11, descriptorIndex := 56, attributes := #[] }, { accessFlags := 1, nameIndex := 15, descriptorIndex := 56, attributes := #[] }, { accessFlags := 1, nameIndex := 18, descriptorIndex := 56, attributes := #[] }, { accessFlags := 1, nameIndex := 21, descriptorIndex := 79, attributes := #[] }, { accessFlags := 1, nameIndex := 25, descriptorIndex := 154, attributes := #[] }] 49 2 #[] #[{ accessFlags := 18, nameIndex := 11, descriptorIndex := 12, attributes := #[] }, { accessFlags := 18, nameIndex := 15, descriptorIndex := 12, attributes := #[] }, { accessFlags := 18, nameIndex := 18, descriptorIndex := 12, attributes := #[] }, { accessFlags := 18, nameIndex := 21, descriptorIndex := 22, attributes := #[] }, { accessFlags := 18, nameIndex := 25, descriptorIndex := 26, attributes := #[] }, { accessFlags := 26, nameIndex := 32, descriptorIndex := 33, attributes := #[] }])
  fields := #[{ name := "name", type := (.object "java/lang/String"), accessFlags := 18, slot := 0, constantValue := 0 }, { name := "defaultRelayState", type := (.object "java/lang/String"), accessFlags := 18, slot := 1, constantValue := 0 }, { name := "nameIdFormat", type := (.object "java/lang/String"), accessFlags := 18, slot := 2, constantValue := 0 }, { name := "firstSignInAt", type := (.object "java/time/Instant"), accessFlags := 18, slot := 3, constantValue := 0 }, { name := "idp", type := (.object "com/example/assertgate/assertgate/store/Organisation$Idp"), accessFlags := 18, slot := 4, constantValue := 0 }, { name := "NAME", type := (.object "java/util/regex/Pattern"), accessFlags := 26, slot := 0, constantValue := 0 }]
  methods := #[k10m0, k10m1, k10m2, k10m3, k10m4, k10m5, k10m6, k10m7]
  instanceTypes := #[(.object "java/lang/String"), (.object "java/lang/String"), (.object "java/lang/String"), (.object "java/time/Instant"), (.object "com/example/assertgate/assertgate/store/Organisation$Idp")]
  staticTypes := #[(.object "java/util/regex/Pattern")]
  resolved := Array.replicate 190 none
  statics := none }

def pool11 : Array CpInfo := pool [(4, .class_ 6), (1, u "java/lang/Object"), (0, u "<init>"), (0, u "()V"), (5, .class_ 16), (1, u "java/lang/StringLatin1"), (104, u "$assertionsDisabled"), (0, u "Z"), (98, .class_ 223), (1, u "java/lang/StringLatin1$LinesSpliterator"), (166, .class_ 391), (0, u "java/lang/StringLatin1$CharsSpliterator")] 3

def k11m0 : Method := { name := "<init>", desc := "()V", sig := { parameters := [], returnType := none }, accessFlags := 0, code := none }
/-- java/lang/StringLatin1 -/
def k11 : Class := { plain "java/lang/StringLatin1" (some 0) with
  accessFlags := 48
  interfaces := #[]
  cf := some (fileOf pool11 14 #[.nestMembers #[390, 221]] #[{ accessFlags := 0, nameIndex := 7, descriptorIndex := 8, attributes := #[] }] 48 4 #[] #[{ accessFlags := 4120, nameIndex := 121, descriptorIndex := 122, attributes := #[] }])
  fields := #[{ name := "$assertionsDisabled", type := .boolean, accessFlags := 4120, slot := 0, constantValue := 0 }]
  methods := #[k11m0]
  instanceTypes := #[]
  staticTypes := #[.boolean]
  resolved := Array.replicate 395 none
  statics := none }

def pool12 : Array CpInfo := pool [(2, .class_ 4), (1, u "java/lang/Object"), (0, u "<init>"), (0, u "()V"), (17, .class_ 26), (1, u "jdk/internal/util/Preconditions"), (28, .class_ 56), (0, u "jdk/internal/util/Preconditions$4"), (57, .class_ 115), (0, u "jdk/internal/util/Preconditions$1"), (7, u "SIOOBE_FORMATTER"), (0, u "Ljava/util/function/BiFunction;"), (0, .class_ 126), (0, u "jdk/internal/util/Preconditions$2"), (3, u "AIOOBE_FORMATTER"), (0, .class_ 132), (0, u "jdk/internal/util/Preconditions$3"), (3, u "IOOBE_FORMATTER")] 57

def k12m0 : Method := { name := "<init>", desc := "()V", sig := { parameters := [], returnType := none }, accessFlags := 1, code := none }
/-- jdk/internal/util/Preconditions -/
def k12 : Class := { plain "jdk/internal/util/Preconditions" (some 0) with
  accessFlags := 33
  interfaces := #[]
  cf := some (fileOf pool12 24 #[.nestMembers #[55, 131, 125, 114]] #[{ accessFlags := 1, nameIndex := 5, descriptorIndex := 6, attributes := #[] }] 33 2 #[] #[{ accessFlags := 25, nameIndex := 123, descriptorIndex := 124, attributes := #[] }, { accessFlags := 25, nameIndex := 130, descriptorIndex := 124, attributes := #[] }, { accessFlags := 25, nameIndex := 136, descriptorIndex := 124, attributes := #[] }])
  fields := #[{ name := "SIOOBE_FORMATTER", type := (.object "java/util/function/BiFunction"), accessFlags := 25, slot := 0, constantValue := 0 }, { name := "AIOOBE_FORMATTER", type := (.object "java/util/function/BiFunction"), accessFlags := 25, slot := 1, constantValue := 0 }, { name := "IOOBE_FORMATTER", type := (.object "java/util/function/BiFunction"), accessFlags := 25, slot := 2, constantValue := 0 }]
  methods := #[k12m0]
  instanceTypes := #[]
  staticTypes := #[(.object "java/util/function/BiFunction"), (.object "java/util/function/BiFunction"), (.object "java/util/function/BiFunction")]
  resolved := Array.replicate 194 none
  statics := some 1 }

def pool13 : Array CpInfo := pool [(9, u "<init>"), (6, .class_ 18), (1, u "java/lang/Object"), (0, u "()V"), (1, .class_ 23), (1, u "jdk/internal/util/ArraysSupport"), (0, u "LOG2_ARRAY_LONG_INDEX_SCALE"), (0, u "I"), (2, u "U"), (0, u "Ljdk/internal/misc/Unsafe;"), (8, u "BIG_ENDIAN"), (0, u "Z"), (8, u "LOG2_BYTE_BIT_SIZE"), (4, u "LOG2_ARRAY_INT_INDEX_SCALE"), (54, u "JLA"), (0, u "Ljdk/internal/access/JavaLangAccess;"), (11, u "LOG2_ARRAY_BOOLEAN_INDEX_SCALE"), (9, u "LOG2_ARRAY_BYTE_INDEX_SCALE"), (5, u "LOG2_ARRAY_CHAR_INDEX_SCALE"), (5, u "LOG2_ARRAY_SHORT_INDEX_SCALE"), (18, u "LOG2_ARRAY_FLOAT_INDEX_SCALE"), (24, u "LOG2_ARRAY_DOUBLE_INDEX_SCALE"), (89, u "T_BOOLEAN"), (2, u "T_CHAR"), (1, u "T_FLOAT"), (1, u "T_DOUBLE"), (1, u "T_BYTE"), (1, u "T_SHORT"), (1, u "T_INT"), (1, u "T_LONG"), (1, u "SOFT_MAX_ARRAY_LENGTH")] 83

def k13m0 : Method := { name := "<init>", desc := "()V", sig := { parameters := [], returnType := none }, accessFlags := 2, code := none }
/-- jdk/internal/util/ArraysSupport -/
def k13 : Class := { plain "jdk/internal/util/ArraysSupport" (some 0) with
  accessFlags := 33
  interfaces := #[]
  cf := some (fileOf pool13 21 #[] #[{ accessFlags := 2, nameIndex := 9, descriptorIndex := 19, attributes := #[] }] 33 16 #[] #[{ accessFlags := 24, nameIndex := 28, descriptorIndex := 29, attributes := #[] }, { accessFlags := 26, nameIndex := 38, descriptorIndex := 39, attributes := #[] }, { accessFlags := 25, nameIndex := 121, descriptorIndex := 25, attributes := #[] }, { accessFlags := 25, nameIndex := 131, descriptorIndex := 25, attributes := #[] }, { accessFlags := 25, nameIndex := 137, descriptorIndex := 25, attributes := #[] }, { accessFlags := 25, nameIndex := 143, descriptorIndex := 25, attributes := #[] }, { accessFlags := 25, nameIndex := 53, descriptorIndex := 25, attributes := #[] }, { accessFlags := 25, nameIndex := 24, descriptorIndex := 25, attributes := #[] }, { accessFlags := 25, nameIndex := 162, descriptorIndex := 25, attributes := #[] }, { accessFlags := 25, nameIndex := 187, descriptorIndex := 25, attributes := #[] }, { accessFlags := 26, nameIndex := 48, descriptorIndex := 25, attributes := #[] }, { accessFlags := 25, nameIndex := 277, descriptorIndex := 25, attributes := #[] }, { accessFlags := 25, nameIndex := 280, descriptorIndex := 25, attributes := #[] }, { accessFlags := 25, nameIndex := 282, descriptorIndex := 25, attributes := #[] }, { accessFlags := 25, nameIndex := 284, descriptorIndex := 25, attributes := #[] }, { accessFlags := 25, nameIndex := 286, descriptorIndex := 25, attributes := #[] }, { accessFlags := 25, nameIndex := 288, descriptorIndex := 25, attributes := #[] }, { accessFlags := 25, nameIndex := 290, descriptorIndex := 25, attributes := #[] }, { accessFlags := 25, nameIndex := 292, descriptorIndex := 25, attributes := #[] }, { accessFlags := 26, nameIndex := 108, descriptorIndex := 109, attributes := #[] }, { accessFlags := 25, nameIndex := 294, descriptorIndex := 25, attributes := #[] }])
  fields := #[{ name := "U", type := (.object "jdk/internal/misc/Unsafe"), accessFlags := 24, slot := 0, constantValue := 0 }, { name := "BIG_ENDIAN", type := .boolean, accessFlags := 26, slot := 1, constantValue := 0 }, { name := "LOG2_ARRAY_BOOLEAN_INDEX_SCALE", type := .int, accessFlags := 25, slot := 2, constantValue := 0 }, { name := "LOG2_ARRAY_BYTE_INDEX_SCALE", type := .int, accessFlags := 25, slot := 3, constantValue := 0 }, { name := "LOG2_ARRAY_CHAR_INDEX_SCALE", type := .int, accessFlags := 25, slot := 4, constantValue := 0 }, { name := "LOG2_ARRAY_SHORT_INDEX_SCALE", type := .int, accessFlags := 25, slot := 5, constantValue := 0 }, { name := "LOG2_ARRAY_INT_INDEX_SCALE", type := .int, accessFlags := 25, slot := 6, constantValue := 0 }, { name := "LOG2_ARRAY_LONG_INDEX_SCALE", type := .int, accessFlags := 25, slot := 7, constantValue := 0 }, { name := "LOG2_ARRAY_FLOAT_INDEX_SCALE", type := .int, accessFlags := 25, slot := 8, constantValue := 0 }, { name := "LOG2_ARRAY_DOUBLE_INDEX_SCALE", type := .int, accessFlags := 25, slot := 9, constantValue := 0 }, { name := "LOG2_BYTE_BIT_SIZE", type := .int, accessFlags := 26, slot := 10, constantValue := 0 }, { name := "T_BOOLEAN", type := .int, accessFlags := 25, slot := 11, constantValue := 0 }, { name := "T_CHAR", type := .int, accessFlags := 25, slot := 12, constantValue := 0 }, { name := "T_FLOAT", type := .int, accessFlags := 25, slot := 13, constantValue := 0 }, { name := "T_DOUBLE", type := .int, accessFlags := 25, slot := 14, constantValue := 0 }, { name := "T_BYTE", type := .int, accessFlags := 25, slot := 15, constantValue := 0 }, { name := "T_SHORT", type := .int, accessFlags := 25, slot := 16, constantValue := 0 }, { name := "T_INT", type := .int, accessFlags := 25, slot := 17, constantValue := 0 }, { name := "T_LONG", type := .int, accessFlags := 25, slot := 18, constantValue := 0 }, { name := "JLA", type := (.object "jdk/internal/access/JavaLangAccess"), accessFlags := 26, slot := 19, constantValue := 0 }, { name := "SOFT_MAX_ARRAY_LENGTH", type := .int, accessFlags := 25, slot := 20, constantValue := 0 }]
  methods := #[k13m0]
  instanceTypes := #[]
  staticTypes := #[(.object "jdk/internal/misc/Unsafe"), .boolean, .int, .int, .int, .int, .int, .int, .int, .int, .int, .int, .int, .int, .int, .int, .int, .int, .int, (.object "jdk/internal/access/JavaLangAccess"), .int]
  resolved := Array.replicate 378 none
  statics := none }

def pool14 : Array CpInfo := pool [(1, u "java/lang/Cloneable"), (0, .class_ 1), (0, u "java/lang/Object"), (0, .class_ 3)] 3

/-- java/lang/Cloneable -/
def k14 : Class := { plain "java/lang/Cloneable" (some 0) with
  accessFlags := 1537
  interfaces := #[]
  cf := some (fileOf pool14 2 #[] #[] 1537 4 #[] #[])
  fields := #[]
  methods := #[]
  instanceTypes := #[]
  staticTypes := #[]
  resolved := Array.replicate 8 none
  statics := none }

/-- the primitive byte -/
def k15 : Class := { plain "byte" none with kind := .primitive 'B', accessFlags := 0x411 }
/-- [B -/
def k16 : Class := { plain "[B" (some 0) with kind := .array 15 .byte, interfaces := #[14, 2], accessFlags := 1041 }

/-- the primitive char -/
def k17 : Class := { plain "char" none with kind := .primitive 'C', accessFlags := 0x411 }
/-- [C -/
def k18 : Class := { plain "[C" (some 0) with kind := .array 17 .char, interfaces := #[14, 2], accessFlags := 1041 }

/-- the primitive int -/
def k19 : Class := { plain "int" none with kind := .primitive 'I', accessFlags := 0x411 }
/-- [I -/
def k20 : Class := { plain "[I" (some 0) with kind := .array 19 .int, interfaces := #[14, 2], accessFlags := 1041 }

def heap : Heap := #[{ cls := 7, slots := #[.long 0, .int 1, .null, .int 0, .null, .int 0, .int 0], vm := .statics 7 },
  { cls := 12, slots := #[.null, .null, .null], vm := .statics 12 }]
def classes : Array Class := #[k0, k1, k2, k3, k4, k5, k6, k7, k8, k9, k10, k11, k12, k13, k14, k15, k16, k17, k18, k19, k20]
def interned : List (Array UInt16 × Addr) := []
def slotsUsed : Nat := 10
def theMethod : MethodId := ⟨1, 1⟩
def args0 : Array Value := #[.int 5, .int 6, .int 7, .int 3]
def aboutOver (below : List Frame) : State where
  vm := { classes := classes, interned := interned.toArray }
  heap := heap
  slotsUsed := slotsUsed
  threads := #[{ frames := .invoking theMethod args0 :: below }]
def below0 : List Frame := [.native { method := ⟨0, 0⟩, args := #[] }]
def about1 : State := aboutOver below0
def p0 : Program := .bare "" "" ""
def e0 : Env := launch0.env 0 0 0
theorem w_frames : about1.frames = Frame.invoking theMethod args0 :: below0 := rfl
set_option maxRecDepth 65536 in
theorem w_args : argsFit about1.vm theMethod args0 = true := by decide +kernel
set_option maxRecDepth 65536 in
theorem w_heap : heapFits about1 = true := by decide +kernel
set_option maxRecDepth 65536 in
theorem w_runnable : about1.curStatus? = some .runnable := by decide +kernel
set_option maxRecDepth 65536 in
theorem w_alone : about1.alone = true := by decide +kernel
set_option maxRecDepth 65536 in
theorem w_named : about1.methodNamed? x = some theMethod := by decide +kernel
set_option maxRecDepth 65536 in
theorem w_hears : about1.hears theMethod below0 = true := by decide +kernel
set_option maxRecDepth 65536 in
theorem w_ripe : about1.ripe theMethod args0 below0 = true := by decide +kernel
theorem w_running : about1.status = .running := rfl
set_option maxRecDepth 65536 in
theorem w_room : about1.hasRoom e0.platform room_1 = true :=
  launch0.hasRoom_least _ room_1 (by decide +kernel) (by decide +kernel) (by decide +kernel) (by decide +kernel) (by decide +kernel) (by decide +kernel)
theorem allAtoms_all (ts : List Jvm.Cond) (a : Array Jvm.Value) (st : Jvm.State) : (allAtoms ts).before a st = ts.all (fun c => c.before a st) := by
  induction ts with
  | nil => rfl
  | cons c t ih =>
    show (Jvm.Cond.and c (allAtoms t)).before a st = _
    rw [Jvm.Cond.before_and, ih, List.all_cons]
def words1 : List Jvm.Cond := Jvm.Cond.code x code maxLocals ret :: tables_1
/-- a 'code' word, met by the world's own term for the bytes: nothing is compared byte by byte -/
theorem code_word {y : MethodName} {bytes : ByteArray} {mx : Nat} {rt : Option FieldType} {a : Array Value} {s : State} {m : MethodId} {meth : Method} {c : Code} (h1 : s.methodNamed? y = some m) (h2 : s.vm.method? m = some meth) (h3 : meth.code = some c) (h4 : c.code = bytes)
    (h5 : (c.maxLocals == mx && c.exceptionTable.isEmpty && decide (c.maxStack ≤ mostOperands) && decide (meth.sig.returnType = rt) && !meth.locks && decide (parseMethodDescriptor y.desc = some meth.sig)) = true) : (Jvm.Cond.code y bytes mx rt).before a s = true := by
  simp only [Bool.and_eq_true, beq_iff_eq, Bool.not_eq_true', decide_eq_true_eq] at h5
  obtain ⟨⟨⟨⟨⟨g1, g2⟩, g3⟩, g4⟩, g5⟩, g6⟩ := h5
  simp [Cond.before, Cond.holds, Cond.value, h1, h2, h3, h4, g1, g2, g3, g4, g5, g6]
def isCode : Jvm.Cond → Bool
  | .code _ _ _ _ => true
  | _ => false
theorem all_split {L : List Jvm.Cond} {P : Jvm.Cond → Bool} (h1 : L.all (fun c => isCode c || P c) = true) (h2 : ∀ c ∈ L.filter isCode, P c = true) : L.all P = true := by
  refine List.all_eq_true.mpr fun c hc => ?_
  have h := List.all_eq_true.mp h1 c hc
  rcases Bool.eq_false_or_eq_true (isCode c) with hi | hi
  · exact h2 c (List.mem_filter.mpr ⟨hc, hi⟩)
  · simpa [hi] using h
set_option maxRecDepth 65536 in
theorem w_c0 : (Jvm.Cond.code x code maxLocals ret).before args0 about1 = true := code_word (m := ⟨1, 1⟩) (meth := k1m1) (c := k1c1) (by decide +kernel) rfl rfl rfl (by decide +kernel)
set_option maxRecDepth 65536 in
theorem w_c1 : (Jvm.Cond.code ({ cls := "com/example/assertgate/assertgate/store/OrganisationNamedPinLaw", name := "drawn", desc := "(IIII)Ljava/lang/String;" } : Jvm.MethodName) method_3_code (8 : Nat) (Option.some (Jvm.ClassFile.FieldType.object "java/lang/String"))).before args0 about1 = true := code_word (m := ⟨1, 2⟩) (meth := k1m2) (c := k1c2) (by decide +kernel) rfl rfl rfl (by decide +kernel)
set_option maxRecDepth 65536 in
theorem w_c2 : (Jvm.Cond.code ({ cls := "java/lang/String", name := "<init>", desc := "([C)V" } : Jvm.MethodName) jdk_42_method_3_code (2 : Nat) (Option.none : Option Jvm.ClassFile.FieldType)).before args0 about1 = true := code_word (m := ⟨7, 1⟩) (meth := k7m1) (c := k7c1) (by decide +kernel) rfl rfl rfl (by decide +kernel)
set_option maxRecDepth 65536 in
theorem w_c3 : (Jvm.Cond.code ({ cls := "java/lang/String", name := "<init>", desc := "([CIILjava/lang/Void;)V" } : Jvm.MethodName) jdk_42_method_149_code (6 : Nat) (Option.none : Option Jvm.ClassFile.FieldType)).before args0 about1 = true := code_word (m := ⟨7, 3⟩) (meth := k7m3) (c := k7c3) (by decide +kernel) rfl rfl rfl (by decide +kernel)
set_option maxRecDepth 65536 in
theorem w_c4 : (Jvm.Cond.code ({ cls := "java/lang/Object", name := "<init>", desc := "()V" } : Jvm.MethodName) object_method_1_code (1 : Nat) (Option.none : Option Jvm.ClassFile.FieldType)).before args0 about1 = true := code_word (m := ⟨0, 0⟩) (meth := k0m0) (c := k0c0) (by decide +kernel) rfl rfl rfl (by decide +kernel)
set_option maxRecDepth 65536 in
theorem w_c5 : (Jvm.Cond.code ({ cls := "java/lang/StringUTF16", name := "compress", desc := "([CII)[B" } : Jvm.MethodName) jdk_52_method_16_code (6 : Nat) (Option.some (Jvm.ClassFile.FieldType.array Jvm.ClassFile.FieldType.byte))).before args0 about1 = true := code_word (m := ⟨8, 2⟩) (meth := k8m2) (c := k8c2) (by decide +kernel) rfl rfl rfl (by decide +kernel)
set_option maxRecDepth 65536 in
theorem w_c6 : (Jvm.Cond.code ({ cls := "java/lang/StringUTF16", name := "compress", desc := "([CI[BII)I" } : Jvm.MethodName) jdk_52_method_21_code (7 : Nat) (Option.some Jvm.ClassFile.FieldType.int)).before args0 about1 = true := code_word (m := ⟨8, 3⟩) (meth := k8m3) (c := k8c3) (by decide +kernel) rfl rfl rfl (by decide +kernel)
set_option maxRecDepth 65536 in
theorem w_c7 : (Jvm.Cond.code ({ cls := "java/lang/StringUTF16", name := "coderFromArrayLen", desc := "([BI)B" } : Jvm.MethodName) jdk_52_method_15_code (2 : Nat) (Option.some Jvm.ClassFile.FieldType.byte)).before args0 about1 = true := code_word (m := ⟨8, 1⟩) (meth := k8m1) (c := k8c1) (by decide +kernel) rfl rfl rfl (by decide +kernel)
set_option maxRecDepth 65536 in
theorem w_c8 : (Jvm.Cond.code ({ cls := "com/example/assertgate/assertgate/store/Organisation", name := "named", desc := "(Ljava/lang/String;)Lcom/example/assertgate/assertgate/store/Organisation;" } : Jvm.MethodName) prog_56_method_2_code (1 : Nat) (Option.some (Jvm.ClassFile.FieldType.object "com/example/assertgate/assertgate/store/Organisation"))).before args0 about1 = true := code_word (m := ⟨10, 1⟩) (meth := k10m1) (c := k10c1) (by decide +kernel) rfl rfl rfl (by decide +kernel)
set_option maxRecDepth 65536 in
theorem w_c9 : (Jvm.Cond.code ({ cls := "com/example/assertgate/assertgate/store/Organisation", name := "<init>", desc := "(Ljava/lang/String;Ljava/lang/String;Ljava/lang/String;Ljava/time/Instant;Lcom/example/assertgate/assertgate/store/Organisation$Idp;)V" } : Jvm.MethodName) prog_56_method_1_code (6 : Nat) (Option.none : Option Jvm.ClassFile.FieldType)).before args0 about1 = true := code_word (m := ⟨10, 0⟩) (meth := k10m0) (c := k10c0) (by decide +kernel) rfl rfl rfl (by decide +kernel)
set_option maxRecDepth 65536 in
theorem w_c10 : (Jvm.Cond.code ({ cls := "java/lang/Record", name := "<init>", desc := "()V" } : Jvm.MethodName) jdk_30_method_1_code (1 : Nat) (Option.none : Option Jvm.ClassFile.FieldType)).before args0 about1 = true := code_word (m := ⟨9, 0⟩) (meth := k9m0) (c := k9c0) (by decide +kernel) rfl rfl rfl (by decide +kernel)
set_option maxRecDepth 65536 in
theorem w_c11 : (Jvm.Cond.code ({ cls := "com/example/assertgate/assertgate/store/Organisation", name := "name", desc := "()Ljava/lang/String;" } : Jvm.MethodName) prog_56_method_17_code (1 : Nat) (Option.some (Jvm.ClassFile.FieldType.object "java/lang/String"))).before args0 about1 = true := code_word (m := ⟨10, 3⟩) (meth := k10m3) (c := k10c3) (by decide +kernel) rfl rfl rfl (by decide +kernel)
set_option maxRecDepth 65536 in
theorem w_c12 : (Jvm.Cond.code ({ cls := "java/lang/String", name := "equals", desc := "(Ljava/lang/Object;)Z" } : Jvm.MethodName) jdk_42_method_66_code (3 : Nat) (Option.some Jvm.ClassFile.FieldType.boolean)).before args0 about1 = true := code_word (m := ⟨7, 2⟩) (meth := k7m2) (c := k7c2) (by decide +kernel) rfl rfl rfl (by decide +kernel)
set_option maxRecDepth 65536 in
theorem w_c13 : (Jvm.Cond.code ({ cls := "com/example/assertgate/assertgate/store/Organisation", name := "defaultRelayState", desc := "()Ljava/lang/String;" } : Jvm.MethodName) prog_56_method_18_code (1 : Nat) (Option.some (Jvm.ClassFile.FieldType.object "java/lang/String"))).before args0 about1 = true := code_word (m := ⟨10, 4⟩) (meth := k10m4) (c := k10c4) (by decide +kernel) rfl rfl rfl (by decide +kernel)
set_option maxRecDepth 65536 in
theorem w_c14 : (Jvm.Cond.code ({ cls := "com/example/assertgate/assertgate/store/Organisation", name := "nameIdFormat", desc := "()Ljava/lang/String;" } : Jvm.MethodName) prog_56_method_19_code (1 : Nat) (Option.some (Jvm.ClassFile.FieldType.object "java/lang/String"))).before args0 about1 = true := code_word (m := ⟨10, 5⟩) (meth := k10m5) (c := k10c5) (by decide +kernel) rfl rfl rfl (by decide +kernel)
set_option maxRecDepth 65536 in
theorem w_c15 : (Jvm.Cond.code ({ cls := "com/example/assertgate/assertgate/store/Organisation", name := "firstSignInAt", desc := "()Ljava/time/Instant;" } : Jvm.MethodName) prog_56_method_20_code (1 : Nat) (Option.some (Jvm.ClassFile.FieldType.object "java/time/Instant"))).before args0 about1 = true := code_word (m := ⟨10, 6⟩) (meth := k10m6) (c := k10c6) (by decide +kernel) rfl rfl rfl (by decide +kernel)
set_option maxRecDepth 65536 in
theorem w_c16 : (Jvm.Cond.code ({ cls := "com/example/assertgate/assertgate/store/Organisation", name := "idp", desc := "()Lcom/example/assertgate/assertgate/store/Organisation$Idp;" } : Jvm.MethodName) prog_56_method_21_code (1 : Nat) (Option.some (Jvm.ClassFile.FieldType.object "com/example/assertgate/assertgate/store/Organisation$Idp"))).before args0 about1 = true := code_word (m := ⟨10, 7⟩) (meth := k10m7) (c := k10c7) (by decide +kernel) rfl rfl rfl (by decide +kernel)
set_option maxRecDepth 65536 in
theorem w_c17 : (Jvm.Cond.code ({ cls := "com/example/assertgate/assertgate/store/Organisation", name := "idpExpiresAt", desc := "()Ljava/time/Instant;" } : Jvm.MethodName) prog_56_method_5_code (1 : Nat) (Option.some (Jvm.ClassFile.FieldType.object "java/time/Instant"))).before args0 about1 = true := code_word (m := ⟨10, 2⟩) (meth := k10m2) (c := k10c2) (by decide +kernel) rfl rfl rfl (by decide +kernel)
def codes1 : List Jvm.Cond := [Jvm.Cond.code x code maxLocals ret, Jvm.Cond.code ({ cls := "com/example/assertgate/assertgate/store/OrganisationNamedPinLaw", name := "drawn", desc := "(IIII)Ljava/lang/String;" } : Jvm.MethodName) method_3_code (8 : Nat) (Option.some (Jvm.ClassFile.FieldType.object "java/lang/String")), Jvm.Cond.code ({ cls := "java/lang/String", name := "<init>", desc := "([C)V" } : Jvm.MethodName) jdk_42_method_3_code (2 : Nat) (Option.none : Option Jvm.ClassFile.FieldType), Jvm.Cond.code ({ cls := "java/lang/String", name := "<init>", desc := "([CIILjava/lang/Void;)V" } : Jvm.MethodName) jdk_42_method_149_code (6 : Nat) (Option.none : Option Jvm.ClassFile.FieldType), Jvm.Cond.code ({ cls := "java/lang/Object", name := "<init>", desc := "()V" } : Jvm.MethodName) object_method_1_code (1 : Nat) (Option.none : Option Jvm.ClassFile.FieldType), Jvm.Cond.code ({ cls := "java/lang/StringUTF16", name := "compress", desc := "([CII)[B" } : Jvm.MethodName) jdk_52_method_16_code (6 : Nat) (Option.some (Jvm.ClassFile.FieldType.array Jvm.ClassFile.FieldType.byte)), Jvm.Cond.code ({ cls := "java/lang/StringUTF16", name := "compress", desc := "([CI[BII)I" } : Jvm.MethodName) jdk_52_method_21_code (7 : Nat) (Option.some Jvm.ClassFile.FieldType.int), Jvm.Cond.code ({ cls := "java/lang/StringUTF16", name := "coderFromArrayLen", desc := "([BI)B" } : Jvm.MethodName) jdk_52_method_15_code (2 : Nat) (Option.some Jvm.ClassFile.FieldType.byte), Jvm.Cond.code ({ cls := "com/example/assertgate/assertgate/store/Organisation", name := "named", desc := "(Ljava/lang/String;)Lcom/example/assertgate/assertgate/store/Organisation;" } : Jvm.MethodName) prog_56_method_2_code (1 : Nat) (Option.some (Jvm.ClassFile.FieldType.object "com/example/assertgate/assertgate/store/Organisation")), Jvm.Cond.code ({ cls := "com/example/assertgate/assertgate/store/Organisation", name := "<init>", desc := "(Ljava/lang/String;Ljava/lang/String;Ljava/lang/String;Ljava/time/Instant;Lcom/example/assertgate/assertgate/store/Organisation$Idp;)V" } : Jvm.MethodName) prog_56_method_1_code (6 : Nat) (Option.none : Option Jvm.ClassFile.FieldType), Jvm.Cond.code ({ cls := "java/lang/Record", name := "<init>", desc := "()V" } : Jvm.MethodName) jdk_30_method_1_code (1 : Nat) (Option.none : Option Jvm.ClassFile.FieldType), Jvm.Cond.code ({ cls := "com/example/assertgate/assertgate/store/Organisation", name := "name", desc := "()Ljava/lang/String;" } : Jvm.MethodName) prog_56_method_17_code (1 : Nat) (Option.some (Jvm.ClassFile.FieldType.object "java/lang/String")), Jvm.Cond.code ({ cls := "java/lang/String", name := "equals", desc := "(Ljava/lang/Object;)Z" } : Jvm.MethodName) jdk_42_method_66_code (3 : Nat) (Option.some Jvm.ClassFile.FieldType.boolean), Jvm.Cond.code ({ cls := "com/example/assertgate/assertgate/store/Organisation", name := "defaultRelayState", desc := "()Ljava/lang/String;" } : Jvm.MethodName) prog_56_method_18_code (1 : Nat) (Option.some (Jvm.ClassFile.FieldType.object "java/lang/String")), Jvm.Cond.code ({ cls := "com/example/assertgate/assertgate/store/Organisation", name := "nameIdFormat", desc := "()Ljava/lang/String;" } : Jvm.MethodName) prog_56_method_19_code (1 : Nat) (Option.some (Jvm.ClassFile.FieldType.object "java/lang/String")), Jvm.Cond.code ({ cls := "com/example/assertgate/assertgate/store/Organisation", name := "firstSignInAt", desc := "()Ljava/time/Instant;" } : Jvm.MethodName) prog_56_method_20_code (1 : Nat) (Option.some (Jvm.ClassFile.FieldType.object "java/time/Instant")), Jvm.Cond.code ({ cls := "com/example/assertgate/assertgate/store/Organisation", name := "idp", desc := "()Lcom/example/assertgate/assertgate/store/Organisation$Idp;" } : Jvm.MethodName) prog_56_method_21_code (1 : Nat) (Option.some (Jvm.ClassFile.FieldType.object "com/example/assertgate/assertgate/store/Organisation$Idp")), Jvm.Cond.code ({ cls := "com/example/assertgate/assertgate/store/Organisation", name := "idpExpiresAt", desc := "()Ljava/time/Instant;" } : Jvm.MethodName) prog_56_method_5_code (1 : Nat) (Option.some (Jvm.ClassFile.FieldType.object "java/time/Instant"))]
set_option maxRecDepth 65536 in
theorem codes_eq : words1.filter isCode = codes1 := rfl
theorem w_codes : ∀ c ∈ words1.filter isCode, c.before args0 about1 = true := by
  rw [codes_eq]
  intro c hc
  simp only [codes1, List.mem_cons, List.not_mem_nil, or_false] at hc
  rcases hc with rfl | rfl | rfl | rfl | rfl | rfl | rfl | rfl | rfl | rfl | rfl | rfl | rfl | rfl | rfl | rfl | rfl | rfl
  · exact w_c0
  · exact w_c1
  · exact w_c2
  · exact w_c3
  · exact w_c4
  · exact w_c5
  · exact w_c6
  · exact w_c7
  · exact w_c8
  · exact w_c9
  · exact w_c10
  · exact w_c11
  · exact w_c12
  · exact w_c13
  · exact w_c14
  · exact w_c15
  · exact w_c16
  · exact w_c17
set_option maxRecDepth 65536 in
theorem w_t1 : (words1.take 24).all (fun c => isCode c || c.before args0 about1) = true := by decide +kernel
set_option maxRecDepth 65536 in
theorem w_t2 : ((words1.drop 24).take 24).all (fun c => isCode c || c.before args0 about1) = true := by decide +kernel
set_option maxRecDepth 65536 in
theorem w_t3 : (((words1.drop 24).drop 24).take 24).all (fun c => isCode c || c.before args0 about1) = true := by decide +kernel
set_option maxRecDepth 65536 in
theorem w_t4 : ((((words1.drop 24).drop 24).drop 24).take 24).all (fun c => isCode c || c.before args0 about1) = true := by decide +kernel
set_option maxRecDepth 65536 in
theorem w_t5 : ((((words1.drop 24).drop 24).drop 24).drop 24).all (fun c => isCode c || c.before args0 about1) = true := by decide +kernel
theorem w_tables : (allAtoms (Jvm.Cond.code x code maxLocals ret :: tables_1)).before args0 about1 = true := by
  rw [allAtoms_all]
  show words1.all (fun c => c.before args0 about1) = true
  refine all_split ?_ w_codes
  rw [← List.take_append_drop 24 words1, List.all_append, w_t1, ← List.take_append_drop 24 (words1.drop 24), List.all_append, w_t2, ← List.take_append_drop 24 ((words1.drop 24).drop 24), List.all_append, w_t3, ← List.take_append_drop 24 (((words1.drop 24).drop 24).drop 24), List.all_append, w_t4, w_t5]
  rfl
set_option maxRecDepth 65536 in
theorem w_rest : rest_1_c.before args0 about1 = true := by decide +kernel
set_option maxRecDepth 65536 in
theorem w_case : (Jvm.Cond.and given_1 narrow_1).before args0 about1 = true := by decide +kernel
set_option maxRecDepth 65536 in
theorem w_consts : constsHeld consts_1 about1 := Jvm.Lit.constsHeldB_iff.mp (by decide +kernel)
theorem w_applies : (headSpec (Jvm.Cond.code x code maxLocals ret :: tables_1) room_1).applies x e0.platform about1 = true :=
  (Spec.applies_iff w_frames).mpr ⟨w_running, w_runnable, w_alone, w_named, w_hears, w_ripe, w_room, w_tables⟩
theorem atStart : AtStart classFile x code maxLocals ret World_1 tables_1 room_1 Calls_1 rest_1 Pre_1 launch0 p0 e0 about1 theMethod args0 below0 :=
  ⟨lists_1, trivial, launch0.admits_env _ _ _, launch0.least_env, fairChoices_fair.cas, fairChoices_fair.clock, w_frames, w_args, w_heap, w_applies, ⟨w_consts, trivial⟩, w_rest, w_case⟩
end start1
theorem witness_1 : WitnessClaimed_1 := ⟨start1.p0, start1.e0, start1.about1, start1.theMethod, start1.args0, start1.below0, start1.atStart⟩
end Jvm.Pilot.@@N@@

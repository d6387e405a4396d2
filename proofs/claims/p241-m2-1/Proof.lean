import JvmDerived
import JvmDerived.Pilot.@@N@@Statement
import JvmDerived.Pilot.@@N@@Code
set_option linter.unusedVariables false
set_option linter.unusedSimpArgs false
namespace Jvm.Pilot.@@N@@
open Jvm Jvm.ClassFile Sem Op Lib Jvm.Free Jvm.Stand Jvm.LawKit Jvm.RoadKit Bundle Jvm.Pilot.@@N@@.Jvm.D
abbrev Gets (p : Program) (e : Env) (below : List Frame) (S0 S : State) : Prop := ∀ t, Steps p.tables e below S t → Steps p.tables e below S0 t
section Own
variable {p : Program} {e : Env} {below : List Frame} {S0 T : State} {m : MethodId} {c : Code} {pc q : Nat} {Ls : Array Slot} {st : List Value}
theorem own_iadd {x y v : Int32} (G : Gets p e below S0 (T.setTop (mkF m pc Ls (.int y :: .int x :: st)))) (h : At T m c below) (hx : p.tables.exec = Jvm.exec) (hd : decode c.code pc = .ok (.iadd, 1)) (hv : x + y = v) (hq : pc + 1 = q) : Gets p e below S0 (T.setTop (mkF m q Ls (.int v :: st))) := by
  subst hv hq; exact fun t k => G t (XS.iadd h hx rfl hd rfl k)
theorem own_isub {x y v : Int32} (G : Gets p e below S0 (T.setTop (mkF m pc Ls (.int y :: .int x :: st)))) (h : At T m c below) (hx : p.tables.exec = Jvm.exec) (hd : decode c.code pc = .ok (.isub, 1)) (hv : x - y = v) (hq : pc + 1 = q) : Gets p e below S0 (T.setTop (mkF m q Ls (.int v :: st))) := by
  subst hv hq; exact fun t k => G t (XS.isub h hx rfl hd rfl k)
theorem own_iand {x y v : Int32} (G : Gets p e below S0 (T.setTop (mkF m pc Ls (.int y :: .int x :: st)))) (h : At T m c below) (hx : p.tables.exec = Jvm.exec) (hd : decode c.code pc = .ok (.iand, 1)) (hv : x &&& y = v) (hq : pc + 1 = q) : Gets p e below S0 (T.setTop (mkF m q Ls (.int v :: st))) := by
  subst hv hq; exact fun t k => G t (XS.iand h hx rfl hd rfl k)
theorem own_lxor {x y v : Int64} (G : Gets p e below S0 (T.setTop (mkF m pc Ls (.long y :: .long x :: st)))) (h : At T m c below) (hx : p.tables.exec = Jvm.exec) (hd : decode c.code pc = .ok (.lxor, 1)) (hv : x ^^^ y = v) (hq : pc + 1 = q) : Gets p e below S0 (T.setTop (mkF m q Ls (.long v :: st))) := by
  subst hv hq; exact fun t k => G t (XS.lxor h hx rfl hd rfl k)
theorem own_irem {x y v : Int32} (G : Gets p e below S0 (T.setTop (mkF m pc Ls (.int y :: .int x :: st)))) (h : At T m c below) (hx : p.tables.exec = Jvm.exec) (hd : decode c.code pc = .ok (.irem, 1)) (hy : y ≠ 0) (hv : x % y = v) (hq : pc + 1 = q) : Gets p e below S0 (T.setTop (mkF m q Ls (.int v :: st))) := by
  subst hv hq; exact fun t k => G t (XS.irem h hx rfl hd rfl hy (by rw [Jvm.irem_eq_mod]; exact k))
theorem own_lcmp {x y : Int64} (G : Gets p e below S0 (T.setTop (mkF m pc Ls (.long y :: .long x :: st)))) (h : At T m c below) (hx : p.tables.exec = Jvm.exec) (hd : decode c.code pc = .ok (.lcmp, 1))  (hq : pc + 1 = q) : Gets p e below S0 (T.setTop (mkF m q Ls (.int (lcmpW x y) :: st))) := by
  subst hq; exact fun t k => G t (XS.lcmp h hx rfl hd rfl k)
theorem own_iconst {i : Int} {v : Int32} (G : Gets p e below S0 (T.setTop (mkF m pc Ls st))) (h : At T m c below) (hx : p.tables.exec = Jvm.exec) (hd : decode c.code pc = .ok (.iconst i, 1)) (hv : Int32.ofInt i = v) (hq : pc + 1 = q) : Gets p e below S0 (T.setTop (mkF m q Ls (.int v :: st))) := by
  subst hv hq; exact fun t k => G t (XS.iconst h hx rfl hd k)
theorem own_bipush {i : Int} {v : Int32} (G : Gets p e below S0 (T.setTop (mkF m pc Ls st))) (h : At T m c below) (hx : p.tables.exec = Jvm.exec) (hd : decode c.code pc = .ok (.bipush i, 2)) (hv : (Int8.ofInt i).toInt32 = v) (hq : pc + 2 = q) : Gets p e below S0 (T.setTop (mkF m q Ls (.int v :: st))) := by
  subst hv hq; exact fun t k => G t (XS.bipush h hx rfl hd k)
theorem own_lconst {i : Fin 2} {v : Int64} (G : Gets p e below S0 (T.setTop (mkF m pc Ls st))) (h : At T m c below) (hx : p.tables.exec = Jvm.exec) (hd : decode c.code pc = .ok (.lconst i, 1)) (hv : Int64.ofNat i = v) (hq : pc + 1 = q) : Gets p e below S0 (T.setTop (mkF m q Ls (.long v :: st))) := by
  subst hv hq; exact fun t k => G t (XS.lconst h hx rfl hd k)
theorem own_iload {i : Nat} {v : Int32} (G : Gets p e below S0 (T.setTop (mkF m pc Ls st))) (h : At T m c below) (hx : p.tables.exec = Jvm.exec) (hd : decode c.code pc = .ok (.iload i, 2)) (hl : Ls[i]? = some (.val (.int v))) (hq : pc + 2 = q) : Gets p e below S0 (T.setTop (mkF m q Ls (.int v :: st))) := by
  subst hq; exact fun t k => G t (XS.iload h hx rfl hd hl k)
theorem own_iloadN {i : Fin 4} {v : Int32} (G : Gets p e below S0 (T.setTop (mkF m pc Ls st))) (h : At T m c below) (hx : p.tables.exec = Jvm.exec) (hd : decode c.code pc = .ok (.iload_n i, 1)) (hl : Ls[i.val]? = some (.val (.int v))) (hq : pc + 1 = q) : Gets p e below S0 (T.setTop (mkF m q Ls (.int v :: st))) := by
  subst hq; exact fun t k => G t (XS.iloadN h hx rfl hd hl k)
theorem own_lload {i : Nat} {v : Int64} (G : Gets p e below S0 (T.setTop (mkF m pc Ls st))) (h : At T m c below) (hx : p.tables.exec = Jvm.exec) (hd : decode c.code pc = .ok (.lload i, 2)) (hl : Ls[i]? = some (.val (.long v))) (hq : pc + 2 = q) : Gets p e below S0 (T.setTop (mkF m q Ls (.long v :: st))) := by
  subst hq; exact fun t k => G t (XS.lload h hx rfl hd hl k)
theorem own_lloadN {i : Fin 4} {v : Int64} (G : Gets p e below S0 (T.setTop (mkF m pc Ls st))) (h : At T m c below) (hx : p.tables.exec = Jvm.exec) (hd : decode c.code pc = .ok (.lload_n i, 1)) (hl : Ls[i.val]? = some (.val (.long v))) (hq : pc + 1 = q) : Gets p e below S0 (T.setTop (mkF m q Ls (.long v :: st))) := by
  subst hq; exact fun t k => G t (XS.lloadN h hx rfl hd hl k)
theorem own_aload {i : Nat} {v : Value} (G : Gets p e below S0 (T.setTop (mkF m pc Ls st))) (h : At T m c below) (hx : p.tables.exec = Jvm.exec) (hd : decode c.code pc = .ok (.aload i, 2)) (hl : Ls[i]? = some (.val v)) (hv : v.isRef = true) (hq : pc + 2 = q) : Gets p e below S0 (T.setTop (mkF m q Ls (v :: st))) := by
  subst hq; exact fun t k => G t (XS.aload h hx rfl hd hl hv k)
theorem own_aloadN {i : Fin 4} {v : Value} (G : Gets p e below S0 (T.setTop (mkF m pc Ls st))) (h : At T m c below) (hx : p.tables.exec = Jvm.exec) (hd : decode c.code pc = .ok (.aload_n i, 1)) (hl : Ls[i.val]? = some (.val v)) (hv : v.isRef = true) (hq : pc + 1 = q) : Gets p e below S0 (T.setTop (mkF m q Ls (v :: st))) := by
  subst hq; exact fun t k => G t (XS.aloadN h hx rfl hd hl hv k)
theorem own_istore {i : Nat} {v : Int32} {l' : Array Slot} (G : Gets p e below S0 (T.setTop (mkF m pc Ls (.int v :: st)))) (h : At T m c below) (hx : p.tables.exec = Jvm.exec) (hd : decode c.code pc = .ok (.istore i, 2)) (hl : storeLocals Ls i (.int v) = some l') (hq : pc + 2 = q) : Gets p e below S0 (T.setTop (mkF m q l' st)) := by
  subst hq; exact fun t k => G t (XS.istore h hx rfl hd rfl hl k)
theorem own_lstore {i : Nat} {v : Int64} {l' : Array Slot} (G : Gets p e below S0 (T.setTop (mkF m pc Ls (.long v :: st)))) (h : At T m c below) (hx : p.tables.exec = Jvm.exec) (hd : decode c.code pc = .ok (.lstore i, 2)) (hl : storeLocals Ls i (.long v) = some l') (hq : pc + 2 = q) : Gets p e below S0 (T.setTop (mkF m q l' st)) := by
  subst hq; exact fun t k => G t (XS.lstore h hx rfl hd rfl hl k)
theorem own_astore {i : Nat} {v : Value} {l' : Array Slot} (G : Gets p e below S0 (T.setTop (mkF m pc Ls (v :: st)))) (h : At T m c below) (hx : p.tables.exec = Jvm.exec) (hd : decode c.code pc = .ok (.astore i, 2)) (hv : v.isRef = true) (hl : storeLocals Ls i v = some l') (hq : pc + 2 = q) : Gets p e below S0 (T.setTop (mkF m q l' st)) := by
  subst hq; exact fun t k => G t (XS.astore h hx rfl hd rfl hv hl k)
theorem own_astoreN {i : Fin 4} {v : Value} {l' : Array Slot} (G : Gets p e below S0 (T.setTop (mkF m pc Ls (v :: st)))) (h : At T m c below) (hx : p.tables.exec = Jvm.exec) (hd : decode c.code pc = .ok (.astore_n i, 1)) (hv : v.isRef = true) (hl : storeLocals Ls i.val v = some l') (hq : pc + 1 = q) : Gets p e below S0 (T.setTop (mkF m q l' st)) := by
  subst hq; exact fun t k => G t (XS.astoreN h hx rfl hd rfl hv hl k)
theorem own_dup {x : Value} (G : Gets p e below S0 (T.setTop (mkF m pc Ls (x :: st)))) (h : At T m c below) (hx : p.tables.exec = Jvm.exec) (hd : decode c.code pc = .ok (.dup, 1)) (hc : x.category = 1) (hq : pc + 1 = q) : Gets p e below S0 (T.setTop (mkF m q Ls (x :: x :: st))) := by
  subst hq; exact fun t k => G t (XS.dup h hx rfl hd rfl hc k)
theorem own_goto {o : Int} (G : Gets p e below S0 (T.setTop (mkF m pc Ls st))) (h : At T m c below) (hx : p.tables.exec = Jvm.exec) (hd : decode c.code pc = .ok (.goto o, 3))  (ho : 0 ≤ (pc : Int) + o) (hp : ((pc : Int) + o).toNat = q) : Gets p e below S0 (T.setTop (mkF m q Ls st)) := by
  exact fun t k => G t (XS.goto h hx rfl rfl hd ho hp k)
theorem own_ifYes {cd : ClassFile.Cond} {o : Int} {x : Int32} (G : Gets p e below S0 (T.setTop (mkF m pc Ls (.int x :: st)))) (h : At T m c below) (hx : p.tables.exec = Jvm.exec) (hd : decode c.code pc = .ok (.ifCond cd o, 3)) (hc : ifCond.holds cd x = true) (ho : 0 ≤ (pc : Int) + o) (hp : ((pc : Int) + o).toNat = q) : Gets p e below S0 (T.setTop (mkF m q Ls st)) := by
  exact fun t k => G t (XS.ifYes h hx rfl rfl hd rfl hc ho hp k)
theorem own_ifNo {cd : ClassFile.Cond} {o : Int} {x : Int32} (G : Gets p e below S0 (T.setTop (mkF m pc Ls (.int x :: st)))) (h : At T m c below) (hx : p.tables.exec = Jvm.exec) (hd : decode c.code pc = .ok (.ifCond cd o, 3)) (hc : ifCond.holds cd x = false) (hq : pc + 3 = q) : Gets p e below S0 (T.setTop (mkF m q Ls st)) := by
  subst hq; exact fun t k => G t (XS.ifNo h hx rfl hd rfl hc k)
theorem own_icmpYes {cd : ClassFile.Cond} {o : Int} {x y : Int32} (G : Gets p e below S0 (T.setTop (mkF m pc Ls (.int y :: .int x :: st)))) (h : At T m c below) (hx : p.tables.exec = Jvm.exec) (hd : decode c.code pc = .ok (.if_icmp cd o, 3)) (hc : if_icmp.holds cd x y = true) (ho : 0 ≤ (pc : Int) + o) (hp : ((pc : Int) + o).toNat = q) : Gets p e below S0 (T.setTop (mkF m q Ls st)) := by
  exact fun t k => G t (XS.icmpYes h hx rfl rfl hd rfl hc ho hp k)
theorem own_icmpNo {cd : ClassFile.Cond} {o : Int} {x y : Int32} (G : Gets p e below S0 (T.setTop (mkF m pc Ls (.int y :: .int x :: st)))) (h : At T m c below) (hx : p.tables.exec = Jvm.exec) (hd : decode c.code pc = .ok (.if_icmp cd o, 3)) (hc : if_icmp.holds cd x y = false) (hq : pc + 3 = q) : Gets p e below S0 (T.setTop (mkF m q Ls st)) := by
  subst hq; exact fun t k => G t (XS.icmpNo h hx rfl hd rfl hc k)
end Own
theorem own_lt32 {x y : Int32} : x < y ↔ x.toInt < y.toInt := Int32.lt_iff_toInt_lt
theorem own_rem {i u : Int32} (d : Int32) (k : Int) (hk : d.toInt = k) (h0 : 0 < k) (h : (u &&& 2147483647) % d = i) : 0 ≤ i.toInt ∧ i.toInt < k := by
  have a1 := c_mask u 2147483647 31 (by decide) (by decide)
  have a2 := (c_irem (u &&& 2147483647) d k hk).1 (by omega)
  rw [h] at a2
  have m2 := Int.emod_nonneg (u &&& 2147483647).toInt (show k ≠ 0 by omega)
  have m3 := Int.emod_lt_of_pos (u &&& 2147483647).toInt h0
  omega
theorem own_num {i : Int32} (k : Int32) (h : i.toInt = k.toInt) : i = k := Int32.toInt_inj.mp h
theorem own_cases5 {i : Int32} (h : 0 ≤ i.toInt ∧ i.toInt < 5) : i = 0 ∨ i = 1 ∨ i = 2 ∨ i = 3 ∨ i = 4 := by
  have e0 : (0 : Int32).toInt = 0 := rfl
  have e1 : (1 : Int32).toInt = 1 := rfl
  have e2 : (2 : Int32).toInt = 2 := rfl
  have e3 : (3 : Int32).toInt = 3 := rfl
  have e4 : (4 : Int32).toInt = 4 := rfl
  have q : i.toInt = 0 ∨ i.toInt = 1 ∨ i.toInt = 2 ∨ i.toInt = 3 ∨ i.toInt = 4 := by omega
  rcases q with q | q | q | q | q
  · exact Or.inl (own_num 0 q)
  · exact Or.inr (Or.inl (own_num 1 q))
  · exact Or.inr (Or.inr (Or.inl (own_num 2 q)))
  · exact Or.inr (Or.inr (Or.inr (Or.inl (own_num 3 q))))
  · exact Or.inr (Or.inr (Or.inr (Or.inr ((own_num 4 q)))))
theorem d1_0 : decode prog_17_method_1_code 0 = .ok (.aload_n 0, 1) := by decide +kernel
theorem d1_1 : decode prog_17_method_1_code 1 = .ok (.invokespecial 1, 3) := by decide +kernel
theorem d1_4 : decode prog_17_method_1_code 4 = .ok (.aload_n 0, 1) := by decide +kernel
theorem d1_5 : decode prog_17_method_1_code 5 = .ok (.bipush 16, 2) := by decide +kernel
theorem d1_7 : decode prog_17_method_1_code 7 = .ok (.newarray .long, 2) := by decide +kernel
theorem d1_9 : decode prog_17_method_1_code 9 = .ok (.putfield 9, 3) := by decide +kernel
theorem d1_12 : decode prog_17_method_1_code 12 = .ok (.aload_n 0, 1) := by decide +kernel
theorem d1_13 : decode prog_17_method_1_code 13 = .ok (.bipush 16, 2) := by decide +kernel
theorem d1_15 : decode prog_17_method_1_code 15 = .ok (.newarray .long, 2) := by decide +kernel
theorem d1_17 : decode prog_17_method_1_code 17 = .ok (.putfield 13, 3) := by decide +kernel
theorem d1_20 : decode prog_17_method_1_code 20 = .ok (.aload_n 0, 1) := by decide +kernel
theorem d1_21 : decode prog_17_method_1_code 21 = .ok (.bipush 16, 2) := by decide +kernel
theorem d1_23 : decode prog_17_method_1_code 23 = .ok (.newarray .long, 2) := by decide +kernel
theorem d1_25 : decode prog_17_method_1_code 25 = .ok (.putfield 16, 3) := by decide +kernel
theorem d1_28 : decode prog_17_method_1_code 28 = .ok (.aload_n 0, 1) := by decide +kernel
theorem d1_29 : decode prog_17_method_1_code 29 = .ok (.lload_n 1, 1) := by decide +kernel
theorem d1_30 : decode prog_17_method_1_code 30 = .ok (.putfield 19, 3) := by decide +kernel
theorem d1_33 : decode prog_17_method_1_code 33 = .ok (.return_, 1) := by decide +kernel
theorem pn_com_example_crossbill_crossbill_csv_RecordSpans : plainName "com/example/crossbill/crossbill/csv/RecordSpans" = true := by first | (simp [plainName, overriddenIn]; done) | decide +kernel
theorem ef_1 (m : MethodId) (x0 : Addr) (x1 : Int64) : entryFrame m #[(.ref x0), (.long x1)] 3 = mkF m 0 #[.val (.ref x0), .val (.long x1), .second] [] := by first | (simp [entryFrame, mkF, argsToLocals, Value.category]; done) | rfl
def Q1 (Z : State) (a : Addr) (u : Int64) (h0 : Heap) (n0 : Nat) (v : Option Value) (h : Heap) (L : List Loc) : Prop := ∃ (b1 : Addr) (b2 : Addr) (b3 : Addr) (k1 : ClassId) (k2 : ClassId) (k3 : ClassId), v = none ∧ Fr n0 L ∧ Keep h0 h [a] ∧ (Fld Z h a "com/example/crossbill/crossbill/csv/RecordSpans" "starts" "[J" (.ref b1)) ∧ (Fld Z h a "com/example/crossbill/crossbill/csv/RecordSpans" "ends" "[J" (.ref b2)) ∧ (Fld Z h a "com/example/crossbill/crossbill/csv/RecordSpans" "lines" "[J" (.ref b3)) ∧ (Fld Z h a "com/example/crossbill/crossbill/csv/RecordSpans" "headerEnd" "J" (.long u)) ∧ (Fld Z h a "com/example/crossbill/crossbill/csv/RecordSpans" "size" "I" (.int (0 : Int32))) ∧ (Arv Z h b1 k1 .long (16 : Int32) [(.long (0 : Int64)), (.long (0 : Int64)), (.long (0 : Int64)), (.long (0 : Int64)), (.long (0 : Int64)), (.long (0 : Int64)), (.long (0 : Int64)), (.long (0 : Int64)), (.long (0 : Int64)), (.long (0 : Int64)), (.long (0 : Int64)), (.long (0 : Int64)), (.long (0 : Int64)), (.long (0 : Int64)), (.long (0 : Int64)), (.long (0 : Int64))] (.long (0 : Int64))) ∧ (Arv Z h b2 k2 .long (16 : Int32) [(.long (0 : Int64)), (.long (0 : Int64)), (.long (0 : Int64)), (.long (0 : Int64)), (.long (0 : Int64)), (.long (0 : Int64)), (.long (0 : Int64)), (.long (0 : Int64)), (.long (0 : Int64)), (.long (0 : Int64)), (.long (0 : Int64)), (.long (0 : Int64)), (.long (0 : Int64)), (.long (0 : Int64)), (.long (0 : Int64)), (.long (0 : Int64))] (.long (0 : Int64))) ∧ (Arv Z h b3 k3 .long (16 : Int32) [(.long (0 : Int64)), (.long (0 : Int64)), (.long (0 : Int64)), (.long (0 : Int64)), (.long (0 : Int64)), (.long (0 : Int64)), (.long (0 : Int64)), (.long (0 : Int64)), (.long (0 : Int64)), (.long (0 : Int64)), (.long (0 : Int64)), (.long (0 : Int64)), (.long (0 : Int64)), (.long (0 : Int64)), (.long (0 : Int64)), (.long (0 : Int64))] (.long (0 : Int64))) ∧ h0.size ≤ b1 ∧ h0.size ≤ b2 ∧ h0.size ≤ b3 ∧ b1 ≠ b2 ∧ b1 ≠ b3 ∧ b2 ≠ b3
set_option maxRecDepth 65536 in
set_option maxHeartbeats 40000000 in
theorem rm1 (l : Launch) (Z : State) (a0 : Array Value) (hw : ∀ d ∈ tables_1, d.before a0 Z = true) (ws : List Jvm.Cond) (a : Addr) (u : Int64) (h0 : Heap) (n0 : Nat) (Z0 : n0 ≤ h0.size) (P0 : Fld Z h0 a "com/example/crossbill/crossbill/csv/RecordSpans" "starts" "[J" .null) (P1 : Fld Z h0 a "com/example/crossbill/crossbill/csv/RecordSpans" "ends" "[J" .null) (P2 : Fld Z h0 a "com/example/crossbill/crossbill/csv/RecordSpans" "lines" "[J" .null) (P3 : Fld Z h0 a "com/example/crossbill/crossbill/csv/RecordSpans" "headerEnd" "J" (.long (0 : Int64))) (P4 : Fld Z h0 a "com/example/crossbill/crossbill/csv/RecordSpans" "size" "I" (.int (0 : Int32))) (P5 : Exa Z h0 a "com/example/crossbill/crossbill/csv/RecordSpans") (P6 : n0 ≤ a) :
    MetFree l (⟨"com/example/crossbill/crossbill/csv/RecordSpans", "<init>", "(J)V"⟩ : MethodName) (head1 (Jvm.Cond.code (⟨"com/example/crossbill/crossbill/csv/RecordSpans", "<init>", "(J)V"⟩ : MethodName) prog_17_method_1_code 3 none :: ws) ({ frames := 1, cells := 3, slots := 48, locals := 12 } : Room)) (fun argz U => argz = #[(.ref a), (.long u)] ∧ Z.Warmed39 U.vm ∧ U.heap = h0) (fun _ _ _ _ _ => True) (fun _ U o U' => ∃ v L, o = .returned v ∧ Q1 Z a u h0 n0 v U'.heap L ∧ FrameEnd U o U' L ({ frames := 1, cells := 3, slots := 48, locals := 12 } : Room).cells ({ frames := 1, cells := 3, slots := 48, locals := 12 } : Room).slots) := by
  refine MetFree.of_bodySF (plainFor_of_name pn_com_example_crossbill_crossbill_csv_RecordSpans) hisR ?_
  intro p e s m args below meth c s₁ Bd hml0 hP hK
  obtain ⟨rfl, hZ, hh⟩ := hP
  have hx := Bd.exec
  have hby := Bd.bytes
  have hml : c.maxLocals = 3 := hml0
  have hown : s.vm.findClass "com/example/crossbill/crossbill/csv/RecordSpans" = some m.cls := findClass_of_methodNamed Bd.named
  have hnm := (name_of_methodNamed Bd.named Bd.method).1
  have X0 : Stand p l e ({ frames := 1, cells := 3, slots := 48, locals := 12 } : Room) s m #[(.ref a), (.long u)] below meth c s₁ [] 0 0 := Stand.of_body Bd
  have e0 : s₁.heap = h0 := by rw [← hh, Bd.state]; rfl
  have N0 := Fr.nil n0
  have K0 : Keep h0 h0 [a] := Keep.refl _ _
  have G : Gets p e below (s₁.setTop (entryFrame m #[(.ref a), (.long u)] 3)) (s₁.setTop (mkF m 0 #[.val (.ref a), .val (.long u), .second] [])) := fun t k => castTop (ef_1 m a u) k
  replace G := own_aloadN (q := 1) G X0.here hx (hb hby d1_0) rfl rfl rfl
  obtain ⟨T1, X1, e1, st1⟩ := initO X0 hx hZ hown (hw _ (List.mem_of_getElem? (i := 7) rfl)) (hw _ (List.mem_of_getElem? (i := 8) rfl)) (hw _ (List.mem_of_getElem? (i := 9) rfl)) e0 (g := (mkF m 1 #[.val (.ref a), .val (.long u), .second] [(.ref a)])) rfl (by rw [hml]; rfl) rfl (hb hby d1_1) (by decide) (W := 0) (by show 2 * 0 + _ ≤ _; exact Nat.le_of_eq rfl) (by decide)
  replace G : Gets p e below _ (T1.setTop (mkF m 4 #[.val (.ref a), .val (.long u), .second] [])) := fun t k => G t (st1 t k)
  replace G := own_aloadN (q := 5) G X1.here hx (hb hby d1_4) rfl rfl rfl
  replace G := own_bipush (q := 7) G X1.here hx (hb hby d1_5) (v := (16 : Int32)) (by decide) rfl
  obtain ⟨T2, h2, k2, X2, e2, E2, A2, st2⟩ := newP X1 hx hZ (hw _ (List.mem_of_getElem? (i := 10) rfl)) e1 (g := (mkF m 7 #[.val (.ref a), .val (.long u), .second] [(.int (16 : Int32)), (.ref a)])) rfl (hb hby d1_7) rfl (by decide) (cap := 16) (by decide) (by decide) (by decide) (by decide)
  obtain ⟨b2, g2⟩ : ∃ z, z = h0.size := ⟨_, rfl⟩
  rw [← g2] at A2 st2
  have ne3 : a ≠ b2 := Nat.ne_of_lt (Nat.lt_of_lt_of_le P0.lt (Nat.le_of_eq g2.symm))
  have ge_b2 : n0 ≤ b2 := Nat.le_trans Z0 (Nat.le_of_eq g2.symm)
  have sz_b2 : h0.size ≤ b2 := Nat.le_trans K0.1 (Nat.le_of_eq g2.symm)
  have Z2 : n0 ≤ h2.size := Nat.le_trans Z0 E2.1
  have K2 : Keep h0 h2 [a] := K0.ext E2
  have V2 : Arv Z h2 b2 k2 .long (16 : Int32) [(.long (0 : Int64)), (.long (0 : Int64)), (.long (0 : Int64)), (.long (0 : Int64)), (.long (0 : Int64)), (.long (0 : Int64)), (.long (0 : Int64)), (.long (0 : Int64)), (.long (0 : Int64)), (.long (0 : Int64)), (.long (0 : Int64)), (.long (0 : Int64)), (.long (0 : Int64)), (.long (0 : Int64)), (.long (0 : Int64)), (.long (0 : Int64))] (.long (0 : Int64)) := (Arv.new A2 (by decide)).pad (pad_rep [] (.long (0 : Int64)) 16)
  replace G : Gets p e below _ (T2.setTop (mkF m 9 #[.val (.ref a), .val (.long u), .second] [(.ref b2), (.ref a)])) := fun t k => G t (st2 t k)
  have F4 : Exa Z h2 a "com/example/crossbill/crossbill/csv/RecordSpans" := (P5.ext E2)
  have F5 : Fld Z h2 a "com/example/crossbill/crossbill/csv/RecordSpans" "starts" "[J" .null := (P0.ext E2)
  obtain ⟨T6, h6, X6, e6, W6, st6⟩ := putF X2 hx hZ hown (host := "") (Or.inl (hw _ (List.mem_of_getElem? (i := 11) rfl))) Via.refl e2 F5 F4 (Or.inl (hw _ (List.mem_of_getElem? (i := 12) rfl))) (hw _ (List.mem_of_getElem? (i := 2) rfl)) (ty := (.array .long)) (by decide) rfl rfl (g := (mkF m 9 #[.val (.ref a), .val (.long u), .second] [(.ref b2), (.ref a)])) rfl rfl (hb hby d1_9)
  have N6 := Fr.snoc X6 N0 P6
  have Z6 : n0 ≤ h6.size := Nat.le_trans Z2 (Keep.of_wr W6).1
  have K6 : Keep h0 h6 [a] := K2.wr W6 (Or.inl (List.mem_of_getElem? (i := 0) rfl))
  have F6 : Fld Z h6 a "com/example/crossbill/crossbill/csv/RecordSpans" "starts" "[J" (.ref b2) := F5.same W6
  replace G : Gets p e below _ (T6.setTop (mkF m 12 #[.val (.ref a), .val (.long u), .second] [])) := fun t k => G t (st6 t k)
  replace G := own_aloadN (q := 13) G X6.here hx (hb hby d1_12) rfl rfl rfl
  replace G := own_bipush (q := 15) G X6.here hx (hb hby d1_13) (v := (16 : Int32)) (by decide) rfl
  obtain ⟨T7, h7, k7, X7, e7, E7, A7, st7⟩ := newP X6 hx hZ (hw _ (List.mem_of_getElem? (i := 10) rfl)) e6 (g := (mkF m 15 #[.val (.ref a), .val (.long u), .second] [(.int (16 : Int32)), (.ref a)])) rfl (hb hby d1_15) rfl (by decide) (cap := 16) (by decide) (by decide) (by decide) (by decide)
  obtain ⟨b7, g7⟩ : ∃ z, z = h6.size := ⟨_, rfl⟩
  rw [← g7] at A7 st7
  have ne8 : a ≠ b7 := Nat.ne_of_lt (Nat.lt_of_lt_of_le F6.lt (Nat.le_of_eq g7.symm))
  have F9 : Arv Z h6 b2 k2 .long (16 : Int32) [(.long (0 : Int64)), (.long (0 : Int64)), (.long (0 : Int64)), (.long (0 : Int64)), (.long (0 : Int64)), (.long (0 : Int64)), (.long (0 : Int64)), (.long (0 : Int64)), (.long (0 : Int64)), (.long (0 : Int64)), (.long (0 : Int64)), (.long (0 : Int64)), (.long (0 : Int64)), (.long (0 : Int64)), (.long (0 : Int64)), (.long (0 : Int64))] (.long (0 : Int64)) := (V2.other W6 (Ne.symm ne3))
  have ne10 : b2 ≠ b7 := Nat.ne_of_lt (Nat.lt_of_lt_of_le F9.lt (Nat.le_of_eq g7.symm))
  have ge_b7 : n0 ≤ b7 := Nat.le_trans Z6 (Nat.le_of_eq g7.symm)
  have sz_b7 : h0.size ≤ b7 := Nat.le_trans K6.1 (Nat.le_of_eq g7.symm)
  have Z7 : n0 ≤ h7.size := Nat.le_trans Z6 E7.1
  have K7 : Keep h0 h7 [a] := K6.ext E7
  have V7 : Arv Z h7 b7 k7 .long (16 : Int32) [(.long (0 : Int64)), (.long (0 : Int64)), (.long (0 : Int64)), (.long (0 : Int64)), (.long (0 : Int64)), (.long (0 : Int64)), (.long (0 : Int64)), (.long (0 : Int64)), (.long (0 : Int64)), (.long (0 : Int64)), (.long (0 : Int64)), (.long (0 : Int64)), (.long (0 : Int64)), (.long (0 : Int64)), (.long (0 : Int64)), (.long (0 : Int64))] (.long (0 : Int64)) := (Arv.new A7 (by decide)).pad (pad_rep [] (.long (0 : Int64)) 16)
  replace G : Gets p e below _ (T7.setTop (mkF m 17 #[.val (.ref a), .val (.long u), .second] [(.ref b7), (.ref a)])) := fun t k => G t (st7 t k)
  have F11 : Exa Z h7 a "com/example/crossbill/crossbill/csv/RecordSpans" := ((F4.wr W6).ext E7)
  have F12 : Fld Z h7 a "com/example/crossbill/crossbill/csv/RecordSpans" "ends" "[J" .null := (((P1.ext E2).other W6 (Or.inr (slot_ne (Or.inl (hw _ (List.mem_of_getElem? (i := 14) rfl))) (Or.inl (hw _ (List.mem_of_getElem? (i := 12) rfl))) (by decide) (t := (.array .long)) (t' := (.array .long)) (by decide) (by decide)))).ext E7)
  obtain ⟨T13, h13, X13, e13, W13, st13⟩ := putF X7 hx hZ hown (host := "") (Or.inl (hw _ (List.mem_of_getElem? (i := 13) rfl))) Via.refl e7 F12 F11 (Or.inl (hw _ (List.mem_of_getElem? (i := 14) rfl))) (hw _ (List.mem_of_getElem? (i := 2) rfl)) (ty := (.array .long)) (by decide) rfl rfl (g := (mkF m 17 #[.val (.ref a), .val (.long u), .second] [(.ref b7), (.ref a)])) rfl rfl (hb hby d1_17)
  have N13 := Fr.snoc X13 N6 P6
  have Z13 : n0 ≤ h13.size := Nat.le_trans Z7 (Keep.of_wr W13).1
  have K13 : Keep h0 h13 [a] := K7.wr W13 (Or.inl (List.mem_of_getElem? (i := 0) rfl))
  have F13 : Fld Z h13 a "com/example/crossbill/crossbill/csv/RecordSpans" "ends" "[J" (.ref b7) := F12.same W13
  replace G : Gets p e below _ (T13.setTop (mkF m 20 #[.val (.ref a), .val (.long u), .second] [])) := fun t k => G t (st13 t k)
  replace G := own_aloadN (q := 21) G X13.here hx (hb hby d1_20) rfl rfl rfl
  replace G := own_bipush (q := 23) G X13.here hx (hb hby d1_21) (v := (16 : Int32)) (by decide) rfl
  obtain ⟨T14, h14, k14, X14, e14, E14, A14, st14⟩ := newP X13 hx hZ (hw _ (List.mem_of_getElem? (i := 10) rfl)) e13 (g := (mkF m 23 #[.val (.ref a), .val (.long u), .second] [(.int (16 : Int32)), (.ref a)])) rfl (hb hby d1_23) rfl (by decide) (cap := 16) (by decide) (by decide) (by decide) (by decide)
  obtain ⟨b14, g14⟩ : ∃ z, z = h13.size := ⟨_, rfl⟩
  rw [← g14] at A14 st14
  have ne15 : a ≠ b14 := Nat.ne_of_lt (Nat.lt_of_lt_of_le F13.lt (Nat.le_of_eq g14.symm))
  have F16 : Arv Z h13 b7 k7 .long (16 : Int32) [(.long (0 : Int64)), (.long (0 : Int64)), (.long (0 : Int64)), (.long (0 : Int64)), (.long (0 : Int64)), (.long (0 : Int64)), (.long (0 : Int64)), (.long (0 : Int64)), (.long (0 : Int64)), (.long (0 : Int64)), (.long (0 : Int64)), (.long (0 : Int64)), (.long (0 : Int64)), (.long (0 : Int64)), (.long (0 : Int64)), (.long (0 : Int64))] (.long (0 : Int64)) := (V7.other W13 (Ne.symm ne8))
  have ne17 : b7 ≠ b14 := Nat.ne_of_lt (Nat.lt_of_lt_of_le F16.lt (Nat.le_of_eq g14.symm))
  have F18 : Arv Z h13 b2 k2 .long (16 : Int32) [(.long (0 : Int64)), (.long (0 : Int64)), (.long (0 : Int64)), (.long (0 : Int64)), (.long (0 : Int64)), (.long (0 : Int64)), (.long (0 : Int64)), (.long (0 : Int64)), (.long (0 : Int64)), (.long (0 : Int64)), (.long (0 : Int64)), (.long (0 : Int64)), (.long (0 : Int64)), (.long (0 : Int64)), (.long (0 : Int64)), (.long (0 : Int64))] (.long (0 : Int64)) := ((F9.ext E7).other W13 (Ne.symm ne3))
  have ne19 : b2 ≠ b14 := Nat.ne_of_lt (Nat.lt_of_lt_of_le F18.lt (Nat.le_of_eq g14.symm))
  have ge_b14 : n0 ≤ b14 := Nat.le_trans Z13 (Nat.le_of_eq g14.symm)
  have sz_b14 : h0.size ≤ b14 := Nat.le_trans K13.1 (Nat.le_of_eq g14.symm)
  have Z14 : n0 ≤ h14.size := Nat.le_trans Z13 E14.1
  have K14 : Keep h0 h14 [a] := K13.ext E14
  have V14 : Arv Z h14 b14 k14 .long (16 : Int32) [(.long (0 : Int64)), (.long (0 : Int64)), (.long (0 : Int64)), (.long (0 : Int64)), (.long (0 : Int64)), (.long (0 : Int64)), (.long (0 : Int64)), (.long (0 : Int64)), (.long (0 : Int64)), (.long (0 : Int64)), (.long (0 : Int64)), (.long (0 : Int64)), (.long (0 : Int64)), (.long (0 : Int64)), (.long (0 : Int64)), (.long (0 : Int64))] (.long (0 : Int64)) := (Arv.new A14 (by decide)).pad (pad_rep [] (.long (0 : Int64)) 16)
  replace G : Gets p e below _ (T14.setTop (mkF m 25 #[.val (.ref a), .val (.long u), .second] [(.ref b14), (.ref a)])) := fun t k => G t (st14 t k)
  have F20 : Exa Z h14 a "com/example/crossbill/crossbill/csv/RecordSpans" := ((F11.wr W13).ext E14)
  have F21 : Fld Z h14 a "com/example/crossbill/crossbill/csv/RecordSpans" "lines" "[J" .null := (((((P2.ext E2).other W6 (Or.inr (slot_ne (Or.inl (hw _ (List.mem_of_getElem? (i := 16) rfl))) (Or.inl (hw _ (List.mem_of_getElem? (i := 12) rfl))) (by decide) (t := (.array .long)) (t' := (.array .long)) (by decide) (by decide)))).ext E7).other W13 (Or.inr (slot_ne (Or.inl (hw _ (List.mem_of_getElem? (i := 16) rfl))) (Or.inl (hw _ (List.mem_of_getElem? (i := 14) rfl))) (by decide) (t := (.array .long)) (t' := (.array .long)) (by decide) (by decide)))).ext E14)
  obtain ⟨T22, h22, X22, e22, W22, st22⟩ := putF X14 hx hZ hown (host := "") (Or.inl (hw _ (List.mem_of_getElem? (i := 15) rfl))) Via.refl e14 F21 F20 (Or.inl (hw _ (List.mem_of_getElem? (i := 16) rfl))) (hw _ (List.mem_of_getElem? (i := 2) rfl)) (ty := (.array .long)) (by decide) rfl rfl (g := (mkF m 25 #[.val (.ref a), .val (.long u), .second] [(.ref b14), (.ref a)])) rfl rfl (hb hby d1_25)
  have N22 := Fr.snoc X22 N13 P6
  have Z22 : n0 ≤ h22.size := Nat.le_trans Z14 (Keep.of_wr W22).1
  have K22 : Keep h0 h22 [a] := K14.wr W22 (Or.inl (List.mem_of_getElem? (i := 0) rfl))
  have F22 : Fld Z h22 a "com/example/crossbill/crossbill/csv/RecordSpans" "lines" "[J" (.ref b14) := F21.same W22
  replace G : Gets p e below _ (T22.setTop (mkF m 28 #[.val (.ref a), .val (.long u), .second] [])) := fun t k => G t (st22 t k)
  replace G := own_aloadN (q := 29) G X22.here hx (hb hby d1_28) rfl rfl rfl
  replace G := own_lloadN (q := 30) G X22.here hx (hb hby d1_29) rfl rfl
  have F23 : Exa Z h22 a "com/example/crossbill/crossbill/csv/RecordSpans" := (F20.wr W22)
  have F24 : Fld Z h22 a "com/example/crossbill/crossbill/csv/RecordSpans" "headerEnd" "J" (.long (0 : Int64)) := ((((((P3.ext E2).other W6 (Or.inr (slot_ne (Or.inr (hw _ (List.mem_of_getElem? (i := 18) rfl))) (Or.inl (hw _ (List.mem_of_getElem? (i := 12) rfl))) (by decide) (t := .long) (t' := (.array .long)) (by decide) (by decide)))).ext E7).other W13 (Or.inr (slot_ne (Or.inr (hw _ (List.mem_of_getElem? (i := 18) rfl))) (Or.inl (hw _ (List.mem_of_getElem? (i := 14) rfl))) (by decide) (t := .long) (t' := (.array .long)) (by decide) (by decide)))).ext E14).other W22 (Or.inr (slot_ne (Or.inr (hw _ (List.mem_of_getElem? (i := 18) rfl))) (Or.inl (hw _ (List.mem_of_getElem? (i := 16) rfl))) (by decide) (t := .long) (t' := (.array .long)) (by decide) (by decide))))
  obtain ⟨T25, h25, X25, e25, W25, st25⟩ := putF X22 hx hZ hown (host := "") (Or.inl (hw _ (List.mem_of_getElem? (i := 17) rfl))) Via.refl e22 F24 F23 (Or.inr ⟨(hw _ (List.mem_of_getElem? (i := 18) rfl)), rfl, hnm⟩) (hw _ (List.mem_of_getElem? (i := 2) rfl)) (ty := .long) (by decide) rfl rfl (g := (mkF m 30 #[.val (.ref a), .val (.long u), .second] [(.long u), (.ref a)])) rfl rfl (hb hby d1_30)
  have N25 := Fr.snoc X25 N22 P6
  have Z25 : n0 ≤ h25.size := Nat.le_trans Z22 (Keep.of_wr W25).1
  have K25 : Keep h0 h25 [a] := K22.wr W25 (Or.inl (List.mem_of_getElem? (i := 0) rfl))
  have F25 : Fld Z h25 a "com/example/crossbill/crossbill/csv/RecordSpans" "headerEnd" "J" (.long u) := F24.same W25
  replace G : Gets p e below _ (T25.setTop (mkF m 33 #[.val (.ref a), .val (.long u), .second] [])) := fun t k => G t (st25 t k)
  obtain ⟨fs, hr, hrun, hended, hW, hsame⟩ := X25.leave (v := none) (fun _ => rfl)
  refine ⟨_, _, G _ (X25.returnOut hx Bd.returns (hb hby d1_33) hr), hrun, hended, _, _, rfl, ?_, ⟨_, rfl⟩, hW, hsame.mono (by decide) (by decide)⟩
  have F26 : Fld Z h25 a "com/example/crossbill/crossbill/csv/RecordSpans" "starts" "[J" (.ref b2) := (((((F6.ext E7).other W13 (Or.inr (slot_ne (Or.inl (hw _ (List.mem_of_getElem? (i := 12) rfl))) (Or.inl (hw _ (List.mem_of_getElem? (i := 14) rfl))) (by decide) (t := (.array .long)) (t' := (.array .long)) (by decide) (by decide)))).ext E14).other W22 (Or.inr (slot_ne (Or.inl (hw _ (List.mem_of_getElem? (i := 12) rfl))) (Or.inl (hw _ (List.mem_of_getElem? (i := 16) rfl))) (by decide) (t := (.array .long)) (t' := (.array .long)) (by decide) (by decide)))).other W25 (Or.inr (slot_ne (Or.inl (hw _ (List.mem_of_getElem? (i := 12) rfl))) (Or.inr (hw _ (List.mem_of_getElem? (i := 18) rfl))) (by decide) (t := (.array .long)) (t' := .long) (by decide) (by decide))))
  have F27 : Fld Z h25 a "com/example/crossbill/crossbill/csv/RecordSpans" "ends" "[J" (.ref b7) := (((F13.ext E14).other W22 (Or.inr (slot_ne (Or.inl (hw _ (List.mem_of_getElem? (i := 14) rfl))) (Or.inl (hw _ (List.mem_of_getElem? (i := 16) rfl))) (by decide) (t := (.array .long)) (t' := (.array .long)) (by decide) (by decide)))).other W25 (Or.inr (slot_ne (Or.inl (hw _ (List.mem_of_getElem? (i := 14) rfl))) (Or.inr (hw _ (List.mem_of_getElem? (i := 18) rfl))) (by decide) (t := (.array .long)) (t' := .long) (by decide) (by decide))))
  have F28 : Fld Z h25 a "com/example/crossbill/crossbill/csv/RecordSpans" "lines" "[J" (.ref b14) := (F22.other W25 (Or.inr (slot_ne (Or.inl (hw _ (List.mem_of_getElem? (i := 16) rfl))) (Or.inr (hw _ (List.mem_of_getElem? (i := 18) rfl))) (by decide) (t := (.array .long)) (t' := .long) (by decide) (by decide))))
  have F29 : Fld Z h25 a "com/example/crossbill/crossbill/csv/RecordSpans" "size" "I" (.int (0 : Int32)) := (((((((P4.ext E2).other W6 (Or.inr (slot_ne (Or.inl (hw _ (List.mem_of_getElem? (i := 25) rfl))) (Or.inl (hw _ (List.mem_of_getElem? (i := 12) rfl))) (by decide) (t := .int) (t' := (.array .long)) (by decide) (by decide)))).ext E7).other W13 (Or.inr (slot_ne (Or.inl (hw _ (List.mem_of_getElem? (i := 25) rfl))) (Or.inl (hw _ (List.mem_of_getElem? (i := 14) rfl))) (by decide) (t := .int) (t' := (.array .long)) (by decide) (by decide)))).ext E14).other W22 (Or.inr (slot_ne (Or.inl (hw _ (List.mem_of_getElem? (i := 25) rfl))) (Or.inl (hw _ (List.mem_of_getElem? (i := 16) rfl))) (by decide) (t := .int) (t' := (.array .long)) (by decide) (by decide)))).other W25 (Or.inr (slot_ne (Or.inl (hw _ (List.mem_of_getElem? (i := 25) rfl))) (Or.inr (hw _ (List.mem_of_getElem? (i := 18) rfl))) (by decide) (t := .int) (t' := .long) (by decide) (by decide))))
  have F30 : Arv Z h25 b2 k2 .long (16 : Int32) [(.long (0 : Int64)), (.long (0 : Int64)), (.long (0 : Int64)), (.long (0 : Int64)), (.long (0 : Int64)), (.long (0 : Int64)), (.long (0 : Int64)), (.long (0 : Int64)), (.long (0 : Int64)), (.long (0 : Int64)), (.long (0 : Int64)), (.long (0 : Int64)), (.long (0 : Int64)), (.long (0 : Int64)), (.long (0 : Int64)), (.long (0 : Int64))] (.long (0 : Int64)) := (((F18.ext E14).other W22 (Ne.symm ne3)).other W25 (Ne.symm ne3))
  have F31 : Arv Z h25 b7 k7 .long (16 : Int32) [(.long (0 : Int64)), (.long (0 : Int64)), (.long (0 : Int64)), (.long (0 : Int64)), (.long (0 : Int64)), (.long (0 : Int64)), (.long (0 : Int64)), (.long (0 : Int64)), (.long (0 : Int64)), (.long (0 : Int64)), (.long (0 : Int64)), (.long (0 : Int64)), (.long (0 : Int64)), (.long (0 : Int64)), (.long (0 : Int64)), (.long (0 : Int64))] (.long (0 : Int64)) := (((F16.ext E14).other W22 (Ne.symm ne8)).other W25 (Ne.symm ne8))
  have F32 : Arv Z h25 b14 k14 .long (16 : Int32) [(.long (0 : Int64)), (.long (0 : Int64)), (.long (0 : Int64)), (.long (0 : Int64)), (.long (0 : Int64)), (.long (0 : Int64)), (.long (0 : Int64)), (.long (0 : Int64)), (.long (0 : Int64)), (.long (0 : Int64)), (.long (0 : Int64)), (.long (0 : Int64)), (.long (0 : Int64)), (.long (0 : Int64)), (.long (0 : Int64)), (.long (0 : Int64))] (.long (0 : Int64)) := ((V14.other W22 (Ne.symm ne15)).other W25 (Ne.symm ne15))
  show Q1 Z a u h0 n0 _ T25.heap _
  rw [e25]
  exact ⟨b2, b7, b14, k2, k7, k14, rfl, N25, K25, F26, F27, F28, F25, F29, F30, F31, F32, sz_b2, sz_b7, sz_b14, ne10, ne19, ne17⟩
theorem d7_0 : decode prog_17_method_2_code 0 = .ok (.aload_n 0, 1) := by decide +kernel
theorem d7_1 : decode prog_17_method_2_code 1 = .ok (.getfield 23, 3) := by decide +kernel
theorem d7_4 : decode prog_17_method_2_code 4 = .ok (.ifCond .ne 12, 3) := by decide +kernel
theorem d7_7 : decode prog_17_method_2_code 7 = .ok (.aload_n 0, 1) := by decide +kernel
theorem d7_8 : decode prog_17_method_2_code 8 = .ok (.getfield 19, 3) := by decide +kernel
theorem d7_11 : decode prog_17_method_2_code 11 = .ok (.lstore 7, 2) := by decide +kernel
theorem d7_13 : decode prog_17_method_2_code 13 = .ok (.goto 16, 3) := by decide +kernel
theorem d7_29 : decode prog_17_method_2_code 29 = .ok (.lload_n 1, 1) := by decide +kernel
theorem d7_30 : decode prog_17_method_2_code 30 = .ok (.lload 7, 2) := by decide +kernel
theorem d7_32 : decode prog_17_method_2_code 32 = .ok (.lcmp, 1) := by decide +kernel
theorem d7_33 : decode prog_17_method_2_code 33 = .ok (.ifCond .lt 9, 3) := by decide +kernel
theorem d7_36 : decode prog_17_method_2_code 36 = .ok (.lload_n 3, 1) := by decide +kernel
theorem d7_37 : decode prog_17_method_2_code 37 = .ok (.lload_n 1, 1) := by decide +kernel
theorem d7_38 : decode prog_17_method_2_code 38 = .ok (.lcmp, 1) := by decide +kernel
theorem d7_39 : decode prog_17_method_2_code 39 = .ok (.ifCond .gt 20, 3) := by decide +kernel
theorem d7_59 : decode prog_17_method_2_code 59 = .ok (.aload_n 0, 1) := by decide +kernel
theorem d7_60 : decode prog_17_method_2_code 60 = .ok (.getfield 23, 3) := by decide +kernel
theorem d7_63 : decode prog_17_method_2_code 63 = .ok (.aload_n 0, 1) := by decide +kernel
theorem d7_64 : decode prog_17_method_2_code 64 = .ok (.getfield 9, 3) := by decide +kernel
theorem d7_67 : decode prog_17_method_2_code 67 = .ok (.arraylength, 1) := by decide +kernel
theorem d7_68 : decode prog_17_method_2_code 68 = .ok (.if_icmp .ne 54, 3) := by decide +kernel
theorem d7_122 : decode prog_17_method_2_code 122 = .ok (.aload_n 0, 1) := by decide +kernel
theorem d7_123 : decode prog_17_method_2_code 123 = .ok (.getfield 9, 3) := by decide +kernel
theorem d7_126 : decode prog_17_method_2_code 126 = .ok (.aload_n 0, 1) := by decide +kernel
theorem d7_127 : decode prog_17_method_2_code 127 = .ok (.getfield 23, 3) := by decide +kernel
theorem d7_130 : decode prog_17_method_2_code 130 = .ok (.lload_n 1, 1) := by decide +kernel
theorem d7_131 : decode prog_17_method_2_code 131 = .ok (.lastore, 1) := by decide +kernel
theorem d7_132 : decode prog_17_method_2_code 132 = .ok (.aload_n 0, 1) := by decide +kernel
theorem d7_133 : decode prog_17_method_2_code 133 = .ok (.getfield 13, 3) := by decide +kernel
theorem d7_136 : decode prog_17_method_2_code 136 = .ok (.aload_n 0, 1) := by decide +kernel
theorem d7_137 : decode prog_17_method_2_code 137 = .ok (.getfield 23, 3) := by decide +kernel
theorem d7_140 : decode prog_17_method_2_code 140 = .ok (.lload_n 3, 1) := by decide +kernel
theorem d7_141 : decode prog_17_method_2_code 141 = .ok (.lastore, 1) := by decide +kernel
theorem d7_142 : decode prog_17_method_2_code 142 = .ok (.aload_n 0, 1) := by decide +kernel
theorem d7_143 : decode prog_17_method_2_code 143 = .ok (.getfield 16, 3) := by decide +kernel
theorem d7_146 : decode prog_17_method_2_code 146 = .ok (.aload_n 0, 1) := by decide +kernel
theorem d7_147 : decode prog_17_method_2_code 147 = .ok (.getfield 23, 3) := by decide +kernel
theorem d7_150 : decode prog_17_method_2_code 150 = .ok (.lload 5, 2) := by decide +kernel
theorem d7_152 : decode prog_17_method_2_code 152 = .ok (.lastore, 1) := by decide +kernel
theorem d7_153 : decode prog_17_method_2_code 153 = .ok (.aload_n 0, 1) := by decide +kernel
theorem d7_154 : decode prog_17_method_2_code 154 = .ok (.dup, 1) := by decide +kernel
theorem d7_155 : decode prog_17_method_2_code 155 = .ok (.getfield 23, 3) := by decide +kernel
theorem d7_158 : decode prog_17_method_2_code 158 = .ok (.iconst 1, 1) := by decide +kernel
theorem d7_159 : decode prog_17_method_2_code 159 = .ok (.iadd, 1) := by decide +kernel
theorem d7_160 : decode prog_17_method_2_code 160 = .ok (.putfield 23, 3) := by decide +kernel
theorem d7_163 : decode prog_17_method_2_code 163 = .ok (.return_, 1) := by decide +kernel
theorem ef_7s0 (m : MethodId) (x0 : Addr) (x3 : Int64) : entryFrame m #[(.ref x0), (.long (0 : Int64)), (.long (1 : Int64)), (.long x3)] 9 = mkF m 0 #[.val (.ref x0), .val (.long (0 : Int64)), .second, .val (.long (1 : Int64)), .second, .val (.long x3), .second, .unset, .unset] [] := by first | (simp [entryFrame, mkF, argsToLocals, Value.category]; done) | rfl
def Q7s0 (Z : State) (a : Addr) (zz : Int64) (b1 : Addr) (b2 : Addr) (b3 : Addr) (k1 : ClassId) (k2 : ClassId) (k3 : ClassId) (h0 : Heap) (n0 : Nat) (v : Option Value) (h : Heap) (L : List Loc) : Prop := v = none ∧ Fr n0 L ∧ Keep h0 h [a, b1, b2, b3] ∧ (Fld Z h a "com/example/crossbill/crossbill/csv/RecordSpans" "size" "I" (.int (1 : Int32))) ∧ (Fld Z h a "com/example/crossbill/crossbill/csv/RecordSpans" "starts" "[J" (.ref b1)) ∧ (Fld Z h a "com/example/crossbill/crossbill/csv/RecordSpans" "ends" "[J" (.ref b2)) ∧ (Fld Z h a "com/example/crossbill/crossbill/csv/RecordSpans" "lines" "[J" (.ref b3)) ∧ (Fld Z h a "com/example/crossbill/crossbill/csv/RecordSpans" "headerEnd" "J" (.long (0 : Int64))) ∧ (Arv Z h b1 k1 .long (16 : Int32) [(.long (0 : Int64)), (.long (0 : Int64)), (.long (0 : Int64)), (.long (0 : Int64)), (.long (0 : Int64)), (.long (0 : Int64)), (.long (0 : Int64)), (.long (0 : Int64)), (.long (0 : Int64)), (.long (0 : Int64)), (.long (0 : Int64)), (.long (0 : Int64)), (.long (0 : Int64)), (.long (0 : Int64)), (.long (0 : Int64)), (.long (0 : Int64))] (.long (0 : Int64))) ∧ (Arv Z h b2 k2 .long (16 : Int32) [(.long (1 : Int64)), (.long (0 : Int64)), (.long (0 : Int64)), (.long (0 : Int64)), (.long (0 : Int64)), (.long (0 : Int64)), (.long (0 : Int64)), (.long (0 : Int64)), (.long (0 : Int64)), (.long (0 : Int64)), (.long (0 : Int64)), (.long (0 : Int64)), (.long (0 : Int64)), (.long (0 : Int64)), (.long (0 : Int64)), (.long (0 : Int64))] (.long (0 : Int64))) ∧ (Arv Z h b3 k3 .long (16 : Int32) [(.long zz), (.long (0 : Int64)), (.long (0 : Int64)), (.long (0 : Int64)), (.long (0 : Int64)), (.long (0 : Int64)), (.long (0 : Int64)), (.long (0 : Int64)), (.long (0 : Int64)), (.long (0 : Int64)), (.long (0 : Int64)), (.long (0 : Int64)), (.long (0 : Int64)), (.long (0 : Int64)), (.long (0 : Int64)), (.long (0 : Int64))] (.long (0 : Int64)))
set_option maxRecDepth 65536 in
set_option maxHeartbeats 40000000 in
theorem rm7s0 (l : Launch) (Z : State) (a0 : Array Value) (hw : ∀ d ∈ tables_1, d.before a0 Z = true) (ws : List Jvm.Cond) (a : Addr) (zz : Int64) (b1 : Addr) (b2 : Addr) (b3 : Addr) (k1 : ClassId) (k2 : ClassId) (k3 : ClassId) (h0 : Heap) (n0 : Nat) (Z0 : n0 ≤ h0.size) (P0 : Fld Z h0 a "com/example/crossbill/crossbill/csv/RecordSpans" "size" "I" (.int (0 : Int32))) (P1 : Fld Z h0 a "com/example/crossbill/crossbill/csv/RecordSpans" "starts" "[J" (.ref b1)) (P2 : Fld Z h0 a "com/example/crossbill/crossbill/csv/RecordSpans" "ends" "[J" (.ref b2)) (P3 : Fld Z h0 a "com/example/crossbill/crossbill/csv/RecordSpans" "lines" "[J" (.ref b3)) (P4 : Fld Z h0 a "com/example/crossbill/crossbill/csv/RecordSpans" "headerEnd" "J" (.long (0 : Int64))) (P5 : Exa Z h0 a "com/example/crossbill/crossbill/csv/RecordSpans") (P6 : Arv Z h0 b1 k1 .long (16 : Int32) [(.long (0 : Int64)), (.long (0 : Int64)), (.long (0 : Int64)), (.long (0 : Int64)), (.long (0 : Int64)), (.long (0 : Int64)), (.long (0 : Int64)), (.long (0 : Int64)), (.long (0 : Int64)), (.long (0 : Int64)), (.long (0 : Int64)), (.long (0 : Int64)), (.long (0 : Int64)), (.long (0 : Int64)), (.long (0 : Int64)), (.long (0 : Int64))] (.long (0 : Int64))) (P7 : Arv Z h0 b2 k2 .long (16 : Int32) [(.long (0 : Int64)), (.long (0 : Int64)), (.long (0 : Int64)), (.long (0 : Int64)), (.long (0 : Int64)), (.long (0 : Int64)), (.long (0 : Int64)), (.long (0 : Int64)), (.long (0 : Int64)), (.long (0 : Int64)), (.long (0 : Int64)), (.long (0 : Int64)), (.long (0 : Int64)), (.long (0 : Int64)), (.long (0 : Int64)), (.long (0 : Int64))] (.long (0 : Int64))) (P8 : Arv Z h0 b3 k3 .long (16 : Int32) [(.long (0 : Int64)), (.long (0 : Int64)), (.long (0 : Int64)), (.long (0 : Int64)), (.long (0 : Int64)), (.long (0 : Int64)), (.long (0 : Int64)), (.long (0 : Int64)), (.long (0 : Int64)), (.long (0 : Int64)), (.long (0 : Int64)), (.long (0 : Int64)), (.long (0 : Int64)), (.long (0 : Int64)), (.long (0 : Int64)), (.long (0 : Int64))] (.long (0 : Int64))) (P9 : n0 ≤ a) (P10 : n0 ≤ b1) (P11 : n0 ≤ b2) (P12 : n0 ≤ b3) (P13 : a ≠ b1) (P14 : a ≠ b2) (P15 : a ≠ b3) (P16 : b1 ≠ b2) (P17 : b1 ≠ b3) (P18 : b2 ≠ b3) :
    MetFree l (⟨"com/example/crossbill/crossbill/csv/RecordSpans", "add", "(JJJ)V"⟩ : MethodName) (head1 (Jvm.Cond.code (⟨"com/example/crossbill/crossbill/csv/RecordSpans", "add", "(JJJ)V"⟩ : MethodName) prog_17_method_2_code 9 none :: ws) ({ frames := 0, cells := 0, slots := 0, locals := 0 } : Room)) (fun argz U => argz = #[(.ref a), (.long (0 : Int64)), (.long (1 : Int64)), (.long zz)] ∧ Z.Warmed39 U.vm ∧ U.heap = h0) (fun _ _ _ _ _ => True) (fun _ U o U' => ∃ v L, o = .returned v ∧ Q7s0 Z a zz b1 b2 b3 k1 k2 k3 h0 n0 v U'.heap L ∧ FrameEnd U o U' L ({ frames := 0, cells := 0, slots := 0, locals := 0 } : Room).cells ({ frames := 0, cells := 0, slots := 0, locals := 0 } : Room).slots) := by
  refine MetFree.of_bodySF (plainFor_of_name pn_com_example_crossbill_crossbill_csv_RecordSpans) hisR ?_
  intro p e s m args below meth c s₁ Bd hml0 hP hK
  obtain ⟨rfl, hZ, hh⟩ := hP
  have hx := Bd.exec
  have hby := Bd.bytes
  have hml : c.maxLocals = 9 := hml0
  have hown : s.vm.findClass "com/example/crossbill/crossbill/csv/RecordSpans" = some m.cls := findClass_of_methodNamed Bd.named
  have hnm := (name_of_methodNamed Bd.named Bd.method).1
  have X0 : Stand p l e ({ frames := 0, cells := 0, slots := 0, locals := 0 } : Room) s m #[(.ref a), (.long (0 : Int64)), (.long (1 : Int64)), (.long zz)] below meth c s₁ [] 0 0 := Stand.of_body Bd
  have e0 : s₁.heap = h0 := by rw [← hh, Bd.state]; rfl
  have N0 := Fr.nil n0
  have K0 : Keep h0 h0 [a, b1, b2, b3] := Keep.refl _ _
  have G : Gets p e below (s₁.setTop (entryFrame m #[(.ref a), (.long (0 : Int64)), (.long (1 : Int64)), (.long zz)] 9)) (s₁.setTop (mkF m 0 #[.val (.ref a), .val (.long (0 : Int64)), .second, .val (.long (1 : Int64)), .second, .val (.long zz), .second, .unset, .unset] [])) := fun t k => castTop (ef_7s0 m a zz) k
  replace G := own_aloadN (q := 1) G X0.here hx (hb hby d7_0) rfl rfl rfl
  obtain ⟨T1, X1, e1, st1⟩ := getF X0 hx hZ hown (host := "") (Or.inl (hw _ (List.mem_of_getElem? (i := 24) rfl))) Via.refl e0 P0 (g := (mkF m 1 #[.val (.ref a), .val (.long (0 : Int64)), .second, .val (.long (1 : Int64)), .second, .val (.long zz), .second, .unset, .unset] [(.ref a)])) rfl rfl (hb hby d7_1)
  replace G : Gets p e below _ (T1.setTop (mkF m 4 #[.val (.ref a), .val (.long (0 : Int64)), .second, .val (.long (1 : Int64)), .second, .val (.long zz), .second, .unset, .unset] [(.int (0 : Int32))])) := fun t k => G t (st1 t k)
  have hc4_2 : (0 : Int32) = (0 : Int32) := by decide
  replace G := own_ifNo (q := 7) G X1.here hx (hb hby d7_4) ((if0 _ _).trans (teq hc4_2).2) rfl
  replace G := own_aloadN (q := 8) G X1.here hx (hb hby d7_7) rfl rfl rfl
  obtain ⟨T3, X3, e3, st3⟩ := getF X1 hx hZ hown (host := "") (Or.inl (hw _ (List.mem_of_getElem? (i := 17) rfl))) Via.refl e1 P4 (g := (mkF m 8 #[.val (.ref a), .val (.long (0 : Int64)), .second, .val (.long (1 : Int64)), .second, .val (.long zz), .second, .unset, .unset] [(.ref a)])) rfl rfl (hb hby d7_8)
  replace G : Gets p e below _ (T3.setTop (mkF m 11 #[.val (.ref a), .val (.long (0 : Int64)), .second, .val (.long (1 : Int64)), .second, .val (.long zz), .second, .unset, .unset] [(.long (0 : Int64))])) := fun t k => G t (st3 t k)
  replace G := own_lstore (q := 13) (l' := #[.val (.ref a), .val (.long (0 : Int64)), .second, .val (.long (1 : Int64)), .second, .val (.long zz), .second, .val (.long (0 : Int64)), .second]) G X3.here hx (hb hby d7_11) rfl rfl
  replace G := own_goto (q := 29) G X3.here hx (hb hby d7_13) (by decide) (by decide)
  replace G := own_lloadN (q := 30) G X3.here hx (hb hby d7_29) rfl rfl
  replace G := own_lload (q := 32) G X3.here hx (hb hby d7_30) rfl rfl
  replace G := own_lcmp (q := 33) G X3.here hx (hb hby d7_32) rfl
  have hc33_4 : ¬ ((0 : Int64) < (0 : Int64)) := by decide
  replace G := own_ifNo (q := 36) G X3.here hx (hb hby d7_33) ((if0 _ _).trans (flt (fun z => hc33_4 ((lw_lt _ _).mp z))).1) rfl
  replace G := own_lloadN (q := 37) G X3.here hx (hb hby d7_36) rfl rfl
  replace G := own_lloadN (q := 38) G X3.here hx (hb hby d7_37) rfl rfl
  replace G := own_lcmp (q := 39) G X3.here hx (hb hby d7_38) rfl
  have hc39_5 : (0 : Int64) < (1 : Int64) := by decide
  replace G := own_ifYes (q := 59) G X3.here hx (hb hby d7_39) ((if0 _ _).trans (tlt ((lw_gt _ _).mpr hc39_5)).2.2.1) (by decide) (by decide)
  replace G := own_aloadN (q := 60) G X3.here hx (hb hby d7_59) rfl rfl rfl
  obtain ⟨T6, X6, e6, st6⟩ := getF X3 hx hZ hown (host := "") (Or.inl (hw _ (List.mem_of_getElem? (i := 24) rfl))) Via.refl e3 P0 (g := (mkF m 60 #[.val (.ref a), .val (.long (0 : Int64)), .second, .val (.long (1 : Int64)), .second, .val (.long zz), .second, .val (.long (0 : Int64)), .second] [(.ref a)])) rfl rfl (hb hby d7_60)
  replace G : Gets p e below _ (T6.setTop (mkF m 63 #[.val (.ref a), .val (.long (0 : Int64)), .second, .val (.long (1 : Int64)), .second, .val (.long zz), .second, .val (.long (0 : Int64)), .second] [(.int (0 : Int32))])) := fun t k => G t (st6 t k)
  replace G := own_aloadN (q := 64) G X6.here hx (hb hby d7_63) rfl rfl rfl
  obtain ⟨T7, X7, e7, st7⟩ := getF X6 hx hZ hown (host := "") (Or.inl (hw _ (List.mem_of_getElem? (i := 11) rfl))) Via.refl e6 P1 (g := (mkF m 64 #[.val (.ref a), .val (.long (0 : Int64)), .second, .val (.long (1 : Int64)), .second, .val (.long zz), .second, .val (.long (0 : Int64)), .second] [(.ref a), (.int (0 : Int32))])) rfl rfl (hb hby d7_64)
  replace G : Gets p e below _ (T7.setTop (mkF m 67 #[.val (.ref a), .val (.long (0 : Int64)), .second, .val (.long (1 : Int64)), .second, .val (.long zz), .second, .val (.long (0 : Int64)), .second] [(.ref b1), (.int (0 : Int32))])) := fun t k => G t (st7 t k)
  obtain ⟨c8, Ar8, -, S8, N8', -, -⟩ := id P6
  replace G : Gets p e below _ (T7.setTop (mkF m 68 #[.val (.ref a), .val (.long (0 : Int64)), .second, .val (.long (1 : Int64)), .second, .val (.long zz), .second, .val (.long (0 : Int64)), .second] [(.int (16 : Int32)), (.int (0 : Int32))])) := fun t k => G t (X7.arraylength hx (by rw [e7]; exact Ar8.1) (State.isArrayOf_alike hZ.alike Ar8.2.1) (g := (mkF m 67 #[.val (.ref a), .val (.long (0 : Int64)), .second, .val (.long (1 : Int64)), .second, .val (.long zz), .second, .val (.long (0 : Int64)), .second] [(.ref b1), (.int (0 : Int32))])) rfl rfl (hb hby d7_67) t (by rw [len_of S8 N8']; exact k))
  have hc68_9 : ¬ ((0 : Int32) = (16 : Int32)) := by decide
  replace G := own_icmpYes (q := 122) G X7.here hx (hb hby d7_68) (feq hc68_9).2 (by decide) (by decide)
  replace G := own_aloadN (q := 123) G X7.here hx (hb hby d7_122) rfl rfl rfl
  obtain ⟨T10, X10, e10, st10⟩ := getF X7 hx hZ hown (host := "") (Or.inl (hw _ (List.mem_of_getElem? (i := 11) rfl))) Via.refl e7 P1 (g := (mkF m 123 #[.val (.ref a), .val (.long (0 : Int64)), .second, .val (.long (1 : Int64)), .second, .val (.long zz), .second, .val (.long (0 : Int64)), .second] [(.ref a)])) rfl rfl (hb hby d7_123)
  replace G : Gets p e below _ (T10.setTop (mkF m 126 #[.val (.ref a), .val (.long (0 : Int64)), .second, .val (.long (1 : Int64)), .second, .val (.long zz), .second, .val (.long (0 : Int64)), .second] [(.ref b1)])) := fun t k => G t (st10 t k)
  replace G := own_aloadN (q := 127) G X10.here hx (hb hby d7_126) rfl rfl rfl
  obtain ⟨T11, X11, e11, st11⟩ := getF X10 hx hZ hown (host := "") (Or.inl (hw _ (List.mem_of_getElem? (i := 24) rfl))) Via.refl e10 P0 (g := (mkF m 127 #[.val (.ref a), .val (.long (0 : Int64)), .second, .val (.long (1 : Int64)), .second, .val (.long zz), .second, .val (.long (0 : Int64)), .second] [(.ref a), (.ref b1)])) rfl rfl (hb hby d7_127)
  replace G : Gets p e below _ (T11.setTop (mkF m 130 #[.val (.ref a), .val (.long (0 : Int64)), .second, .val (.long (1 : Int64)), .second, .val (.long zz), .second, .val (.long (0 : Int64)), .second] [(.int (0 : Int32)), (.ref b1)])) := fun t k => G t (st11 t k)
  replace G := own_lloadN (q := 131) G X11.here hx (hb hby d7_130) rfl rfl
  obtain ⟨c12, Ar12, q12, S12, N12', H12, G12'⟩ := id P6
  have hin12 : ¬ ((0 : Int32) < 0 ∨ c12.slots.size ≤ ((0 : Int32)).toNatClampNeg) := inb_of S12 ⟨by decide, by decide⟩
  obtain ⟨T12, h12, X12, e12, W12, st12⟩ := stJ X11 hx hZ e11 Ar12 (j := (0 : Int32)) hin12 (g := (mkF m 131 #[.val (.ref a), .val (.long (0 : Int64)), .second, .val (.long (1 : Int64)), .second, .val (.long zz), .second, .val (.long (0 : Int64)), .second] [(.long (0 : Int64)), (.int (0 : Int32)), (.ref b1)])) rfl rfl (hb hby d7_131)
  have N12 := Fr.snoc X12 N0 P10
  have Z12 : n0 ≤ h12.size := Nat.le_trans Z0 (Keep.of_wr W12).1
  have K12 : Keep h0 h12 [a, b1, b2, b3] := K0.wr W12 (Or.inl (List.mem_of_getElem? (i := 1) rfl))
  have V12 : Arv Z h12 b1 k1 .long (16 : Int32) [(.long (0 : Int64)), (.long (0 : Int64)), (.long (0 : Int64)), (.long (0 : Int64)), (.long (0 : Int64)), (.long (0 : Int64)), (.long (0 : Int64)), (.long (0 : Int64)), (.long (0 : Int64)), (.long (0 : Int64)), (.long (0 : Int64)), (.long (0 : Int64)), (.long (0 : Int64)), (.long (0 : Int64)), (.long (0 : Int64)), (.long (0 : Int64))] (.long (0 : Int64)) := Arv.set Ar12 q12 S12 N12' H12 G12' rfl W12 0 rfl (Nat.le_of_ble_eq_true rfl)
  replace G : Gets p e below _ (T12.setTop (mkF m 132 #[.val (.ref a), .val (.long (0 : Int64)), .second, .val (.long (1 : Int64)), .second, .val (.long zz), .second, .val (.long (0 : Int64)), .second] [])) := fun t k => G t (st12 t k)
  replace G := own_aloadN (q := 133) G X12.here hx (hb hby d7_132) rfl rfl rfl
  have F13 : Fld Z h12 a "com/example/crossbill/crossbill/csv/RecordSpans" "ends" "[J" (.ref b2) := (P2.other W12 (Or.inl P13))
  obtain ⟨T14, X14, e14, st14⟩ := getF X12 hx hZ hown (host := "") (Or.inl (hw _ (List.mem_of_getElem? (i := 13) rfl))) Via.refl e12 F13 (g := (mkF m 133 #[.val (.ref a), .val (.long (0 : Int64)), .second, .val (.long (1 : Int64)), .second, .val (.long zz), .second, .val (.long (0 : Int64)), .second] [(.ref a)])) rfl rfl (hb hby d7_133)
  replace G : Gets p e below _ (T14.setTop (mkF m 136 #[.val (.ref a), .val (.long (0 : Int64)), .second, .val (.long (1 : Int64)), .second, .val (.long zz), .second, .val (.long (0 : Int64)), .second] [(.ref b2)])) := fun t k => G t (st14 t k)
  replace G := own_aloadN (q := 137) G X14.here hx (hb hby d7_136) rfl rfl rfl
  have F15 : Fld Z h12 a "com/example/crossbill/crossbill/csv/RecordSpans" "size" "I" (.int (0 : Int32)) := (P0.other W12 (Or.inl P13))
  obtain ⟨T16, X16, e16, st16⟩ := getF X14 hx hZ hown (host := "") (Or.inl (hw _ (List.mem_of_getElem? (i := 24) rfl))) Via.refl e14 F15 (g := (mkF m 137 #[.val (.ref a), .val (.long (0 : Int64)), .second, .val (.long (1 : Int64)), .second, .val (.long zz), .second, .val (.long (0 : Int64)), .second] [(.ref a), (.ref b2)])) rfl rfl (hb hby d7_137)
  replace G : Gets p e below _ (T16.setTop (mkF m 140 #[.val (.ref a), .val (.long (0 : Int64)), .second, .val (.long (1 : Int64)), .second, .val (.long zz), .second, .val (.long (0 : Int64)), .second] [(.int (0 : Int32)), (.ref b2)])) := fun t k => G t (st16 t k)
  replace G := own_lloadN (q := 141) G X16.here hx (hb hby d7_140) rfl rfl
  have F17 : Arv Z h12 b2 k2 .long (16 : Int32) [(.long (0 : Int64)), (.long (0 : Int64)), (.long (0 : Int64)), (.long (0 : Int64)), (.long (0 : Int64)), (.long (0 : Int64)), (.long (0 : Int64)), (.long (0 : Int64)), (.long (0 : Int64)), (.long (0 : Int64)), (.long (0 : Int64)), (.long (0 : Int64)), (.long (0 : Int64)), (.long (0 : Int64)), (.long (0 : Int64)), (.long (0 : Int64))] (.long (0 : Int64)) := (P7.other W12 (Ne.symm P16))
  obtain ⟨c18, Ar18, q18, S18, N18', H18, G18'⟩ := id F17
  have hin18 : ¬ ((0 : Int32) < 0 ∨ c18.slots.size ≤ ((0 : Int32)).toNatClampNeg) := inb_of S18 ⟨by decide, by decide⟩
  obtain ⟨T18, h18, X18, e18, W18, st18⟩ := stJ X16 hx hZ e16 Ar18 (j := (0 : Int32)) hin18 (g := (mkF m 141 #[.val (.ref a), .val (.long (0 : Int64)), .second, .val (.long (1 : Int64)), .second, .val (.long zz), .second, .val (.long (0 : Int64)), .second] [(.long (1 : Int64)), (.int (0 : Int32)), (.ref b2)])) rfl rfl (hb hby d7_141)
  have N18 := Fr.snoc X18 N12 P11
  have Z18 : n0 ≤ h18.size := Nat.le_trans Z12 (Keep.of_wr W18).1
  have K18 : Keep h0 h18 [a, b1, b2, b3] := K12.wr W18 (Or.inl (List.mem_of_getElem? (i := 2) rfl))
  have V18 : Arv Z h18 b2 k2 .long (16 : Int32) [(.long (1 : Int64)), (.long (0 : Int64)), (.long (0 : Int64)), (.long (0 : Int64)), (.long (0 : Int64)), (.long (0 : Int64)), (.long (0 : Int64)), (.long (0 : Int64)), (.long (0 : Int64)), (.long (0 : Int64)), (.long (0 : Int64)), (.long (0 : Int64)), (.long (0 : Int64)), (.long (0 : Int64)), (.long (0 : Int64)), (.long (0 : Int64))] (.long (0 : Int64)) := Arv.set Ar18 q18 S18 N18' H18 G18' rfl W18 0 rfl (Nat.le_of_ble_eq_true rfl)
  replace G : Gets p e below _ (T18.setTop (mkF m 142 #[.val (.ref a), .val (.long (0 : Int64)), .second, .val (.long (1 : Int64)), .second, .val (.long zz), .second, .val (.long (0 : Int64)), .second] [])) := fun t k => G t (st18 t k)
  replace G := own_aloadN (q := 143) G X18.here hx (hb hby d7_142) rfl rfl rfl
  have F19 : Fld Z h18 a "com/example/crossbill/crossbill/csv/RecordSpans" "lines" "[J" (.ref b3) := ((P3.other W12 (Or.inl P13)).other W18 (Or.inl P14))
  obtain ⟨T20, X20, e20, st20⟩ := getF X18 hx hZ hown (host := "") (Or.inl (hw _ (List.mem_of_getElem? (i := 15) rfl))) Via.refl e18 F19 (g := (mkF m 143 #[.val (.ref a), .val (.long (0 : Int64)), .second, .val (.long (1 : Int64)), .second, .val (.long zz), .second, .val (.long (0 : Int64)), .second] [(.ref a)])) rfl rfl (hb hby d7_143)
  replace G : Gets p e below _ (T20.setTop (mkF m 146 #[.val (.ref a), .val (.long (0 : Int64)), .second, .val (.long (1 : Int64)), .second, .val (.long zz), .second, .val (.long (0 : Int64)), .second] [(.ref b3)])) := fun t k => G t (st20 t k)
  replace G := own_aloadN (q := 147) G X20.here hx (hb hby d7_146) rfl rfl rfl
  have F21 : Fld Z h18 a "com/example/crossbill/crossbill/csv/RecordSpans" "size" "I" (.int (0 : Int32)) := (F15.other W18 (Or.inl P14))
  obtain ⟨T22, X22, e22, st22⟩ := getF X20 hx hZ hown (host := "") (Or.inl (hw _ (List.mem_of_getElem? (i := 24) rfl))) Via.refl e20 F21 (g := (mkF m 147 #[.val (.ref a), .val (.long (0 : Int64)), .second, .val (.long (1 : Int64)), .second, .val (.long zz), .second, .val (.long (0 : Int64)), .second] [(.ref a), (.ref b3)])) rfl rfl (hb hby d7_147)
  replace G : Gets p e below _ (T22.setTop (mkF m 150 #[.val (.ref a), .val (.long (0 : Int64)), .second, .val (.long (1 : Int64)), .second, .val (.long zz), .second, .val (.long (0 : Int64)), .second] [(.int (0 : Int32)), (.ref b3)])) := fun t k => G t (st22 t k)
  replace G := own_lload (q := 152) G X22.here hx (hb hby d7_150) rfl rfl
  have F23 : Arv Z h18 b3 k3 .long (16 : Int32) [(.long (0 : Int64)), (.long (0 : Int64)), (.long (0 : Int64)), (.long (0 : Int64)), (.long (0 : Int64)), (.long (0 : Int64)), (.long (0 : Int64)), (.long (0 : Int64)), (.long (0 : Int64)), (.long (0 : Int64)), (.long (0 : Int64)), (.long (0 : Int64)), (.long (0 : Int64)), (.long (0 : Int64)), (.long (0 : Int64)), (.long (0 : Int64))] (.long (0 : Int64)) := ((P8.other W12 (Ne.symm P17)).other W18 (Ne.symm P18))
  obtain ⟨c24, Ar24, q24, S24, N24', H24, G24'⟩ := id F23
  have hin24 : ¬ ((0 : Int32) < 0 ∨ c24.slots.size ≤ ((0 : Int32)).toNatClampNeg) := inb_of S24 ⟨by decide, by decide⟩
  obtain ⟨T24, h24, X24, e24, W24, st24⟩ := stJ X22 hx hZ e22 Ar24 (j := (0 : Int32)) hin24 (g := (mkF m 152 #[.val (.ref a), .val (.long (0 : Int64)), .second, .val (.long (1 : Int64)), .second, .val (.long zz), .second, .val (.long (0 : Int64)), .second] [(.long zz), (.int (0 : Int32)), (.ref b3)])) rfl rfl (hb hby d7_152)
  have N24 := Fr.snoc X24 N18 P12
  have Z24 : n0 ≤ h24.size := Nat.le_trans Z18 (Keep.of_wr W24).1
  have K24 : Keep h0 h24 [a, b1, b2, b3] := K18.wr W24 (Or.inl (List.mem_of_getElem? (i := 3) rfl))
  have V24 : Arv Z h24 b3 k3 .long (16 : Int32) [(.long zz), (.long (0 : Int64)), (.long (0 : Int64)), (.long (0 : Int64)), (.long (0 : Int64)), (.long (0 : Int64)), (.long (0 : Int64)), (.long (0 : Int64)), (.long (0 : Int64)), (.long (0 : Int64)), (.long (0 : Int64)), (.long (0 : Int64)), (.long (0 : Int64)), (.long (0 : Int64)), (.long (0 : Int64)), (.long (0 : Int64))] (.long (0 : Int64)) := Arv.set Ar24 q24 S24 N24' H24 G24' rfl W24 0 rfl (Nat.le_of_ble_eq_true rfl)
  replace G : Gets p e below _ (T24.setTop (mkF m 153 #[.val (.ref a), .val (.long (0 : Int64)), .second, .val (.long (1 : Int64)), .second, .val (.long zz), .second, .val (.long (0 : Int64)), .second] [])) := fun t k => G t (st24 t k)
  replace G := own_aloadN (q := 154) G X24.here hx (hb hby d7_153) rfl rfl rfl
  replace G := own_dup (q := 155) G X24.here hx (hb hby d7_154) rfl rfl
  have F25 : Fld Z h24 a "com/example/crossbill/crossbill/csv/RecordSpans" "size" "I" (.int (0 : Int32)) := (F21.other W24 (Or.inl P15))
  obtain ⟨T26, X26, e26, st26⟩ := getF X24 hx hZ hown (host := "") (Or.inl (hw _ (List.mem_of_getElem? (i := 24) rfl))) Via.refl e24 F25 (g := (mkF m 155 #[.val (.ref a), .val (.long (0 : Int64)), .second, .val (.long (1 : Int64)), .second, .val (.long zz), .second, .val (.long (0 : Int64)), .second] [(.ref a), (.ref a)])) rfl rfl (hb hby d7_155)
  replace G : Gets p e below _ (T26.setTop (mkF m 158 #[.val (.ref a), .val (.long (0 : Int64)), .second, .val (.long (1 : Int64)), .second, .val (.long zz), .second, .val (.long (0 : Int64)), .second] [(.int (0 : Int32)), (.ref a)])) := fun t k => G t (st26 t k)
  replace G := own_iconst (q := 159) G X26.here hx (hb hby d7_158) (v := (1 : Int32)) (by decide) rfl
  replace G := own_iadd (q := 160) G X26.here hx (hb hby d7_159) (by decide : ((0 : Int32) + (1 : Int32)) = (1 : Int32)) rfl
  have F27 : Exa Z h24 a "com/example/crossbill/crossbill/csv/RecordSpans" := (((P5.wr W12).wr W18).wr W24)
  obtain ⟨T28, h28, X28, e28, W28, st28⟩ := putF X26 hx hZ hown (host := "") (Or.inl (hw _ (List.mem_of_getElem? (i := 24) rfl))) Via.refl e26 F25 F27 (Or.inl (hw _ (List.mem_of_getElem? (i := 25) rfl))) (hw _ (List.mem_of_getElem? (i := 2) rfl)) (ty := .int) (by decide) rfl rfl (g := (mkF m 160 #[.val (.ref a), .val (.long (0 : Int64)), .second, .val (.long (1 : Int64)), .second, .val (.long zz), .second, .val (.long (0 : Int64)), .second] [(.int (1 : Int32)), (.ref a)])) rfl rfl (hb hby d7_160)
  have N28 := Fr.snoc X28 N24 P9
  have Z28 : n0 ≤ h28.size := Nat.le_trans Z24 (Keep.of_wr W28).1
  have K28 : Keep h0 h28 [a, b1, b2, b3] := K24.wr W28 (Or.inl (List.mem_of_getElem? (i := 0) rfl))
  have F28 : Fld Z h28 a "com/example/crossbill/crossbill/csv/RecordSpans" "size" "I" (.int (1 : Int32)) := F25.same W28
  replace G : Gets p e below _ (T28.setTop (mkF m 163 #[.val (.ref a), .val (.long (0 : Int64)), .second, .val (.long (1 : Int64)), .second, .val (.long zz), .second, .val (.long (0 : Int64)), .second] [])) := fun t k => G t (st28 t k)
  obtain ⟨fs, hr, hrun, hended, hW, hsame⟩ := X28.leave (v := none) (fun _ => rfl)
  refine ⟨_, _, G _ (X28.returnOut hx Bd.returns (hb hby d7_163) hr), hrun, hended, _, _, rfl, ?_, ⟨_, rfl⟩, hW, hsame.mono (by decide) (by decide)⟩
  have F29 : Fld Z h28 a "com/example/crossbill/crossbill/csv/RecordSpans" "starts" "[J" (.ref b1) := ((((P1.other W12 (Or.inl P13)).other W18 (Or.inl P14)).other W24 (Or.inl P15)).other W28 (Or.inr (slot_ne (Or.inl (hw _ (List.mem_of_getElem? (i := 12) rfl))) (Or.inl (hw _ (List.mem_of_getElem? (i := 25) rfl))) (by decide) (t := (.array .long)) (t' := .int) (by decide) (by decide))))
  have F30 : Fld Z h28 a "com/example/crossbill/crossbill/csv/RecordSpans" "ends" "[J" (.ref b2) := (((F13.other W18 (Or.inl P14)).other W24 (Or.inl P15)).other W28 (Or.inr (slot_ne (Or.inl (hw _ (List.mem_of_getElem? (i := 14) rfl))) (Or.inl (hw _ (List.mem_of_getElem? (i := 25) rfl))) (by decide) (t := (.array .long)) (t' := .int) (by decide) (by decide))))
  have F31 : Fld Z h28 a "com/example/crossbill/crossbill/csv/RecordSpans" "lines" "[J" (.ref b3) := ((F19.other W24 (Or.inl P15)).other W28 (Or.inr (slot_ne (Or.inl (hw _ (List.mem_of_getElem? (i := 16) rfl))) (Or.inl (hw _ (List.mem_of_getElem? (i := 25) rfl))) (by decide) (t := (.array .long)) (t' := .int) (by decide) (by decide))))
  have F32 : Fld Z h28 a "com/example/crossbill/crossbill/csv/RecordSpans" "headerEnd" "J" (.long (0 : Int64)) := ((((P4.other W12 (Or.inl P13)).other W18 (Or.inl P14)).other W24 (Or.inl P15)).other W28 (Or.inr (slot_ne (Or.inr (hw _ (List.mem_of_getElem? (i := 18) rfl))) (Or.inl (hw _ (List.mem_of_getElem? (i := 25) rfl))) (by decide) (t := .long) (t' := .int) (by decide) (by decide))))
  have F33 : Arv Z h28 b1 k1 .long (16 : Int32) [(.long (0 : Int64)), (.long (0 : Int64)), (.long (0 : Int64)), (.long (0 : Int64)), (.long (0 : Int64)), (.long (0 : Int64)), (.long (0 : Int64)), (.long (0 : Int64)), (.long (0 : Int64)), (.long (0 : Int64)), (.long (0 : Int64)), (.long (0 : Int64)), (.long (0 : Int64)), (.long (0 : Int64)), (.long (0 : Int64)), (.long (0 : Int64))] (.long (0 : Int64)) := (((V12.other W18 P16).other W24 P17).other W28 (Ne.symm P13))
  have F34 : Arv Z h28 b2 k2 .long (16 : Int32) [(.long (1 : Int64)), (.long (0 : Int64)), (.long (0 : Int64)), (.long (0 : Int64)), (.long (0 : Int64)), (.long (0 : Int64)), (.long (0 : Int64)), (.long (0 : Int64)), (.long (0 : Int64)), (.long (0 : Int64)), (.long (0 : Int64)), (.long (0 : Int64)), (.long (0 : Int64)), (.long (0 : Int64)), (.long (0 : Int64)), (.long (0 : Int64))] (.long (0 : Int64)) := ((V18.other W24 P18).other W28 (Ne.symm P14))
  have F35 : Arv Z h28 b3 k3 .long (16 : Int32) [(.long zz), (.long (0 : Int64)), (.long (0 : Int64)), (.long (0 : Int64)), (.long (0 : Int64)), (.long (0 : Int64)), (.long (0 : Int64)), (.long (0 : Int64)), (.long (0 : Int64)), (.long (0 : Int64)), (.long (0 : Int64)), (.long (0 : Int64)), (.long (0 : Int64)), (.long (0 : Int64)), (.long (0 : Int64)), (.long (0 : Int64))] (.long (0 : Int64)) := (V24.other W28 (Ne.symm P15))
  show Q7s0 Z a zz b1 b2 b3 k1 k2 k3 h0 n0 _ T28.heap _
  rw [e28]
  exact ⟨rfl, N28, K28, F28, F29, F30, F31, F32, F33, F34, F35⟩
theorem d7_16 : decode prog_17_method_2_code 16 = .ok (.aload_n 0, 1) := by decide +kernel
theorem d7_17 : decode prog_17_method_2_code 17 = .ok (.getfield 13, 3) := by decide +kernel
theorem d7_20 : decode prog_17_method_2_code 20 = .ok (.aload_n 0, 1) := by decide +kernel
theorem d7_21 : decode prog_17_method_2_code 21 = .ok (.getfield 23, 3) := by decide +kernel
theorem d7_24 : decode prog_17_method_2_code 24 = .ok (.iconst 1, 1) := by decide +kernel
theorem d7_25 : decode prog_17_method_2_code 25 = .ok (.isub, 1) := by decide +kernel
theorem d7_26 : decode prog_17_method_2_code 26 = .ok (.laload, 1) := by decide +kernel
theorem d7_27 : decode prog_17_method_2_code 27 = .ok (.lstore 7, 2) := by decide +kernel
theorem ef_7s1 (m : MethodId) (x0 : Addr) (x3 : Int64) : entryFrame m #[(.ref x0), (.long (1 : Int64)), (.long (2 : Int64)), (.long x3)] 9 = mkF m 0 #[.val (.ref x0), .val (.long (1 : Int64)), .second, .val (.long (2 : Int64)), .second, .val (.long x3), .second, .unset, .unset] [] := by first | (simp [entryFrame, mkF, argsToLocals, Value.category]; done) | rfl
def Q7s1 (Z : State) (a : Addr) (zz : Int64) (b1 : Addr) (b2 : Addr) (b3 : Addr) (k1 : ClassId) (k2 : ClassId) (k3 : ClassId) (z0 : Int64) (h0 : Heap) (n0 : Nat) (v : Option Value) (h : Heap) (L : List Loc) : Prop := v = none ∧ Fr n0 L ∧ Keep h0 h [a, b1, b2, b3] ∧ (Fld Z h a "com/example/crossbill/crossbill/csv/RecordSpans" "size" "I" (.int (2 : Int32))) ∧ (Fld Z h a "com/example/crossbill/crossbill/csv/RecordSpans" "starts" "[J" (.ref b1)) ∧ (Fld Z h a "com/example/crossbill/crossbill/csv/RecordSpans" "ends" "[J" (.ref b2)) ∧ (Fld Z h a "com/example/crossbill/crossbill/csv/RecordSpans" "lines" "[J" (.ref b3)) ∧ (Fld Z h a "com/example/crossbill/crossbill/csv/RecordSpans" "headerEnd" "J" (.long (0 : Int64))) ∧ (Arv Z h b1 k1 .long (16 : Int32) [(.long (0 : Int64)), (.long (1 : Int64)), (.long (0 : Int64)), (.long (0 : Int64)), (.long (0 : Int64)), (.long (0 : Int64)), (.long (0 : Int64)), (.long (0 : Int64)), (.long (0 : Int64)), (.long (0 : Int64)), (.long (0 : Int64)), (.long (0 : Int64)), (.long (0 : Int64)), (.long (0 : Int64)), (.long (0 : Int64)), (.long (0 : Int64))] (.long (0 : Int64))) ∧ (Arv Z h b2 k2 .long (16 : Int32) [(.long (1 : Int64)), (.long (2 : Int64)), (.long (0 : Int64)), (.long (0 : Int64)), (.long (0 : Int64)), (.long (0 : Int64)), (.long (0 : Int64)), (.long (0 : Int64)), (.long (0 : Int64)), (.long (0 : Int64)), (.long (0 : Int64)), (.long (0 : Int64)), (.long (0 : Int64)), (.long (0 : Int64)), (.long (0 : Int64)), (.long (0 : Int64))] (.long (0 : Int64))) ∧ (Arv Z h b3 k3 .long (16 : Int32) [(.long z0), (.long zz), (.long (0 : Int64)), (.long (0 : Int64)), (.long (0 : Int64)), (.long (0 : Int64)), (.long (0 : Int64)), (.long (0 : Int64)), (.long (0 : Int64)), (.long (0 : Int64)), (.long (0 : Int64)), (.long (0 : Int64)), (.long (0 : Int64)), (.long (0 : Int64)), (.long (0 : Int64)), (.long (0 : Int64))] (.long (0 : Int64)))
set_option maxRecDepth 65536 in
set_option maxHeartbeats 40000000 in
theorem rm7s1 (l : Launch) (Z : State) (a0 : Array Value) (hw : ∀ d ∈ tables_1, d.before a0 Z = true) (ws : List Jvm.Cond) (a : Addr) (zz : Int64) (b1 : Addr) (b2 : Addr) (b3 : Addr) (k1 : ClassId) (k2 : ClassId) (k3 : ClassId) (z0 : Int64) (h0 : Heap) (n0 : Nat) (Z0 : n0 ≤ h0.size) (P0 : Fld Z h0 a "com/example/crossbill/crossbill/csv/RecordSpans" "size" "I" (.int (1 : Int32))) (P1 : Fld Z h0 a "com/example/crossbill/crossbill/csv/RecordSpans" "starts" "[J" (.ref b1)) (P2 : Fld Z h0 a "com/example/crossbill/crossbill/csv/RecordSpans" "ends" "[J" (.ref b2)) (P3 : Fld Z h0 a "com/example/crossbill/crossbill/csv/RecordSpans" "lines" "[J" (.ref b3)) (P4 : Fld Z h0 a "com/example/crossbill/crossbill/csv/RecordSpans" "headerEnd" "J" (.long (0 : Int64))) (P5 : Exa Z h0 a "com/example/crossbill/crossbill/csv/RecordSpans") (P6 : Arv Z h0 b1 k1 .long (16 : Int32) [(.long (0 : Int64)), (.long (0 : Int64)), (.long (0 : Int64)), (.long (0 : Int64)), (.long (0 : Int64)), (.long (0 : Int64)), (.long (0 : Int64)), (.long (0 : Int64)), (.long (0 : Int64)), (.long (0 : Int64)), (.long (0 : Int64)), (.long (0 : Int64)), (.long (0 : Int64)), (.long (0 : Int64)), (.long (0 : Int64)), (.long (0 : Int64))] (.long (0 : Int64))) (P7 : Arv Z h0 b2 k2 .long (16 : Int32) [(.long (1 : Int64)), (.long (0 : Int64)), (.long (0 : Int64)), (.long (0 : Int64)), (.long (0 : Int64)), (.long (0 : Int64)), (.long (0 : Int64)), (.long (0 : Int64)), (.long (0 : Int64)), (.long (0 : Int64)), (.long (0 : Int64)), (.long (0 : Int64)), (.long (0 : Int64)), (.long (0 : Int64)), (.long (0 : Int64)), (.long (0 : Int64))] (.long (0 : Int64))) (P8 : Arv Z h0 b3 k3 .long (16 : Int32) [(.long z0), (.long (0 : Int64)), (.long (0 : Int64)), (.long (0 : Int64)), (.long (0 : Int64)), (.long (0 : Int64)), (.long (0 : Int64)), (.long (0 : Int64)), (.long (0 : Int64)), (.long (0 : Int64)), (.long (0 : Int64)), (.long (0 : Int64)), (.long (0 : Int64)), (.long (0 : Int64)), (.long (0 : Int64)), (.long (0 : Int64))] (.long (0 : Int64))) (P9 : n0 ≤ a) (P10 : n0 ≤ b1) (P11 : n0 ≤ b2) (P12 : n0 ≤ b3) (P13 : a ≠ b1) (P14 : a ≠ b2) (P15 : a ≠ b3) (P16 : b1 ≠ b2) (P17 : b1 ≠ b3) (P18 : b2 ≠ b3) :
    MetFree l (⟨"com/example/crossbill/crossbill/csv/RecordSpans", "add", "(JJJ)V"⟩ : MethodName) (head1 (Jvm.Cond.code (⟨"com/example/crossbill/crossbill/csv/RecordSpans", "add", "(JJJ)V"⟩ : MethodName) prog_17_method_2_code 9 none :: ws) ({ frames := 0, cells := 0, slots := 0, locals := 0 } : Room)) (fun argz U => argz = #[(.ref a), (.long (1 : Int64)), (.long (2 : Int64)), (.long zz)] ∧ Z.Warmed39 U.vm ∧ U.heap = h0) (fun _ _ _ _ _ => True) (fun _ U o U' => ∃ v L, o = .returned v ∧ Q7s1 Z a zz b1 b2 b3 k1 k2 k3 z0 h0 n0 v U'.heap L ∧ FrameEnd U o U' L ({ frames := 0, cells := 0, slots := 0, locals := 0 } : Room).cells ({ frames := 0, cells := 0, slots := 0, locals := 0 } : Room).slots) := by
  refine MetFree.of_bodySF (plainFor_of_name pn_com_example_crossbill_crossbill_csv_RecordSpans) hisR ?_
  intro p e s m args below meth c s₁ Bd hml0 hP hK
  obtain ⟨rfl, hZ, hh⟩ := hP
  have hx := Bd.exec
  have hby := Bd.bytes
  have hml : c.maxLocals = 9 := hml0
  have hown : s.vm.findClass "com/example/crossbill/crossbill/csv/RecordSpans" = some m.cls := findClass_of_methodNamed Bd.named
  have hnm := (name_of_methodNamed Bd.named Bd.method).1
  have X0 : Stand p l e ({ frames := 0, cells := 0, slots := 0, locals := 0 } : Room) s m #[(.ref a), (.long (1 : Int64)), (.long (2 : Int64)), (.long zz)] below meth c s₁ [] 0 0 := Stand.of_body Bd
  have e0 : s₁.heap = h0 := by rw [← hh, Bd.state]; rfl
  have N0 := Fr.nil n0
  have K0 : Keep h0 h0 [a, b1, b2, b3] := Keep.refl _ _
  have G : Gets p e below (s₁.setTop (entryFrame m #[(.ref a), (.long (1 : Int64)), (.long (2 : Int64)), (.long zz)] 9)) (s₁.setTop (mkF m 0 #[.val (.ref a), .val (.long (1 : Int64)), .second, .val (.long (2 : Int64)), .second, .val (.long zz), .second, .unset, .unset] [])) := fun t k => castTop (ef_7s1 m a zz) k
  replace G := own_aloadN (q := 1) G X0.here hx (hb hby d7_0) rfl rfl rfl
  obtain ⟨T1, X1, e1, st1⟩ := getF X0 hx hZ hown (host := "") (Or.inl (hw _ (List.mem_of_getElem? (i := 24) rfl))) Via.refl e0 P0 (g := (mkF m 1 #[.val (.ref a), .val (.long (1 : Int64)), .second, .val (.long (2 : Int64)), .second, .val (.long zz), .second, .unset, .unset] [(.ref a)])) rfl rfl (hb hby d7_1)
  replace G : Gets p e below _ (T1.setTop (mkF m 4 #[.val (.ref a), .val (.long (1 : Int64)), .second, .val (.long (2 : Int64)), .second, .val (.long zz), .second, .unset, .unset] [(.int (1 : Int32))])) := fun t k => G t (st1 t k)
  have hc4_2 : ¬ ((1 : Int32) = (0 : Int32)) := by decide
  replace G := own_ifYes (q := 16) G X1.here hx (hb hby d7_4) ((if0 _ _).trans (feq hc4_2).2) (by decide) (by decide)
  replace G := own_aloadN (q := 17) G X1.here hx (hb hby d7_16) rfl rfl rfl
  obtain ⟨T3, X3, e3, st3⟩ := getF X1 hx hZ hown (host := "") (Or.inl (hw _ (List.mem_of_getElem? (i := 13) rfl))) Via.refl e1 P2 (g := (mkF m 17 #[.val (.ref a), .val (.long (1 : Int64)), .second, .val (.long (2 : Int64)), .second, .val (.long zz), .second, .unset, .unset] [(.ref a)])) rfl rfl (hb hby d7_17)
  replace G : Gets p e below _ (T3.setTop (mkF m 20 #[.val (.ref a), .val (.long (1 : Int64)), .second, .val (.long (2 : Int64)), .second, .val (.long zz), .second, .unset, .unset] [(.ref b2)])) := fun t k => G t (st3 t k)
  replace G := own_aloadN (q := 21) G X3.here hx (hb hby d7_20) rfl rfl rfl
  obtain ⟨T4, X4, e4, st4⟩ := getF X3 hx hZ hown (host := "") (Or.inl (hw _ (List.mem_of_getElem? (i := 24) rfl))) Via.refl e3 P0 (g := (mkF m 21 #[.val (.ref a), .val (.long (1 : Int64)), .second, .val (.long (2 : Int64)), .second, .val (.long zz), .second, .unset, .unset] [(.ref a), (.ref b2)])) rfl rfl (hb hby d7_21)
  replace G : Gets p e below _ (T4.setTop (mkF m 24 #[.val (.ref a), .val (.long (1 : Int64)), .second, .val (.long (2 : Int64)), .second, .val (.long zz), .second, .unset, .unset] [(.int (1 : Int32)), (.ref b2)])) := fun t k => G t (st4 t k)
  replace G := own_iconst (q := 25) G X4.here hx (hb hby d7_24) (v := (1 : Int32)) (by decide) rfl
  replace G := own_isub (q := 26) G X4.here hx (hb hby d7_25) (by decide : ((1 : Int32) - (1 : Int32)) = (0 : Int32)) rfl
  obtain ⟨c5, Ar5, -, S5, -, H5, -⟩ := id P7
  have hin5 : ¬ ((0 : Int32) < 0 ∨ c5.slots.size ≤ ((0 : Int32)).toNatClampNeg) := inb_of S5 ⟨by decide, by decide⟩
  replace G : Gets p e below _ (T4.setTop (mkF m 27 #[.val (.ref a), .val (.long (1 : Int64)), .second, .val (.long (2 : Int64)), .second, .val (.long zz), .second, .unset, .unset] [(.long (1 : Int64))])) := fun t k => G t (X4.laload hx (j := (0 : Int32)) (v := (.long (1 : Int64))) (by rw [e4]; exact Ar5.1) (State.isArrayOf_alike hZ.alike Ar5.2.1) Ar5.2.2 hin5 (Has.at H5 hin5 rfl) (g := (mkF m 26 #[.val (.ref a), .val (.long (1 : Int64)), .second, .val (.long (2 : Int64)), .second, .val (.long zz), .second, .unset, .unset] [(.int (0 : Int32)), (.ref b2)])) rfl rfl (hb hby d7_26) t k)
  replace G := own_lstore (q := 29) (l' := #[.val (.ref a), .val (.long (1 : Int64)), .second, .val (.long (2 : Int64)), .second, .val (.long zz), .second, .val (.long (1 : Int64)), .second]) G X4.here hx (hb hby d7_27) rfl rfl
  replace G := own_lloadN (q := 30) G X4.here hx (hb hby d7_29) rfl rfl
  replace G := own_lload (q := 32) G X4.here hx (hb hby d7_30) rfl rfl
  replace G := own_lcmp (q := 33) G X4.here hx (hb hby d7_32) rfl
  have hc33_6 : ¬ ((1 : Int64) < (1 : Int64)) := by decide
  replace G := own_ifNo (q := 36) G X4.here hx (hb hby d7_33) ((if0 _ _).trans (flt (fun z => hc33_6 ((lw_lt _ _).mp z))).1) rfl
  replace G := own_lloadN (q := 37) G X4.here hx (hb hby d7_36) rfl rfl
  replace G := own_lloadN (q := 38) G X4.here hx (hb hby d7_37) rfl rfl
  replace G := own_lcmp (q := 39) G X4.here hx (hb hby d7_38) rfl
  have hc39_7 : (1 : Int64) < (2 : Int64) := by decide
  replace G := own_ifYes (q := 59) G X4.here hx (hb hby d7_39) ((if0 _ _).trans (tlt ((lw_gt _ _).mpr hc39_7)).2.2.1) (by decide) (by decide)
  replace G := own_aloadN (q := 60) G X4.here hx (hb hby d7_59) rfl rfl rfl
  obtain ⟨T8, X8, e8, st8⟩ := getF X4 hx hZ hown (host := "") (Or.inl (hw _ (List.mem_of_getElem? (i := 24) rfl))) Via.refl e4 P0 (g := (mkF m 60 #[.val (.ref a), .val (.long (1 : Int64)), .second, .val (.long (2 : Int64)), .second, .val (.long zz), .second, .val (.long (1 : Int64)), .second] [(.ref a)])) rfl rfl (hb hby d7_60)
  replace G : Gets p e below _ (T8.setTop (mkF m 63 #[.val (.ref a), .val (.long (1 : Int64)), .second, .val (.long (2 : Int64)), .second, .val (.long zz), .second, .val (.long (1 : Int64)), .second] [(.int (1 : Int32))])) := fun t k => G t (st8 t k)
  replace G := own_aloadN (q := 64) G X8.here hx (hb hby d7_63) rfl rfl rfl
  obtain ⟨T9, X9, e9, st9⟩ := getF X8 hx hZ hown (host := "") (Or.inl (hw _ (List.mem_of_getElem? (i := 11) rfl))) Via.refl e8 P1 (g := (mkF m 64 #[.val (.ref a), .val (.long (1 : Int64)), .second, .val (.long (2 : Int64)), .second, .val (.long zz), .second, .val (.long (1 : Int64)), .second] [(.ref a), (.int (1 : Int32))])) rfl rfl (hb hby d7_64)
  replace G : Gets p e below _ (T9.setTop (mkF m 67 #[.val (.ref a), .val (.long (1 : Int64)), .second, .val (.long (2 : Int64)), .second, .val (.long zz), .second, .val (.long (1 : Int64)), .second] [(.ref b1), (.int (1 : Int32))])) := fun t k => G t (st9 t k)
  obtain ⟨c10, Ar10, -, S10, N10', -, -⟩ := id P6
  replace G : Gets p e below _ (T9.setTop (mkF m 68 #[.val (.ref a), .val (.long (1 : Int64)), .second, .val (.long (2 : Int64)), .second, .val (.long zz), .second, .val (.long (1 : Int64)), .second] [(.int (16 : Int32)), (.int (1 : Int32))])) := fun t k => G t (X9.arraylength hx (by rw [e9]; exact Ar10.1) (State.isArrayOf_alike hZ.alike Ar10.2.1) (g := (mkF m 67 #[.val (.ref a), .val (.long (1 : Int64)), .second, .val (.long (2 : Int64)), .second, .val (.long zz), .second, .val (.long (1 : Int64)), .second] [(.ref b1), (.int (1 : Int32))])) rfl rfl (hb hby d7_67) t (by rw [len_of S10 N10']; exact k))
  have hc68_11 : ¬ ((1 : Int32) = (16 : Int32)) := by decide
  replace G := own_icmpYes (q := 122) G X9.here hx (hb hby d7_68) (feq hc68_11).2 (by decide) (by decide)
  replace G := own_aloadN (q := 123) G X9.here hx (hb hby d7_122) rfl rfl rfl
  obtain ⟨T12, X12, e12, st12⟩ := getF X9 hx hZ hown (host := "") (Or.inl (hw _ (List.mem_of_getElem? (i := 11) rfl))) Via.refl e9 P1 (g := (mkF m 123 #[.val (.ref a), .val (.long (1 : Int64)), .second, .val (.long (2 : Int64)), .second, .val (.long zz), .second, .val (.long (1 : Int64)), .second] [(.ref a)])) rfl rfl (hb hby d7_123)
  replace G : Gets p e below _ (T12.setTop (mkF m 126 #[.val (.ref a), .val (.long (1 : Int64)), .second, .val (.long (2 : Int64)), .second, .val (.long zz), .second, .val (.long (1 : Int64)), .second] [(.ref b1)])) := fun t k => G t (st12 t k)
  replace G := own_aloadN (q := 127) G X12.here hx (hb hby d7_126) rfl rfl rfl
  obtain ⟨T13, X13, e13, st13⟩ := getF X12 hx hZ hown (host := "") (Or.inl (hw _ (List.mem_of_getElem? (i := 24) rfl))) Via.refl e12 P0 (g := (mkF m 127 #[.val (.ref a), .val (.long (1 : Int64)), .second, .val (.long (2 : Int64)), .second, .val (.long zz), .second, .val (.long (1 : Int64)), .second] [(.ref a), (.ref b1)])) rfl rfl (hb hby d7_127)
  replace G : Gets p e below _ (T13.setTop (mkF m 130 #[.val (.ref a), .val (.long (1 : Int64)), .second, .val (.long (2 : Int64)), .second, .val (.long zz), .second, .val (.long (1 : Int64)), .second] [(.int (1 : Int32)), (.ref b1)])) := fun t k => G t (st13 t k)
  replace G := own_lloadN (q := 131) G X13.here hx (hb hby d7_130) rfl rfl
  obtain ⟨c14, Ar14, q14, S14, N14', H14, G14'⟩ := id P6
  have hin14 : ¬ ((1 : Int32) < 0 ∨ c14.slots.size ≤ ((1 : Int32)).toNatClampNeg) := inb_of S14 ⟨by decide, by decide⟩
  obtain ⟨T14, h14, X14, e14, W14, st14⟩ := stJ X13 hx hZ e13 Ar14 (j := (1 : Int32)) hin14 (g := (mkF m 131 #[.val (.ref a), .val (.long (1 : Int64)), .second, .val (.long (2 : Int64)), .second, .val (.long zz), .second, .val (.long (1 : Int64)), .second] [(.long (1 : Int64)), (.int (1 : Int32)), (.ref b1)])) rfl rfl (hb hby d7_131)
  have N14 := Fr.snoc X14 N0 P10
  have Z14 : n0 ≤ h14.size := Nat.le_trans Z0 (Keep.of_wr W14).1
  have K14 : Keep h0 h14 [a, b1, b2, b3] := K0.wr W14 (Or.inl (List.mem_of_getElem? (i := 1) rfl))
  have V14 : Arv Z h14 b1 k1 .long (16 : Int32) [(.long (0 : Int64)), (.long (1 : Int64)), (.long (0 : Int64)), (.long (0 : Int64)), (.long (0 : Int64)), (.long (0 : Int64)), (.long (0 : Int64)), (.long (0 : Int64)), (.long (0 : Int64)), (.long (0 : Int64)), (.long (0 : Int64)), (.long (0 : Int64)), (.long (0 : Int64)), (.long (0 : Int64)), (.long (0 : Int64)), (.long (0 : Int64))] (.long (0 : Int64)) := Arv.set Ar14 q14 S14 N14' H14 G14' rfl W14 1 rfl (Nat.le_of_ble_eq_true rfl)
  replace G : Gets p e below _ (T14.setTop (mkF m 132 #[.val (.ref a), .val (.long (1 : Int64)), .second, .val (.long (2 : Int64)), .second, .val (.long zz), .second, .val (.long (1 : Int64)), .second] [])) := fun t k => G t (st14 t k)
  replace G := own_aloadN (q := 133) G X14.here hx (hb hby d7_132) rfl rfl rfl
  have F15 : Fld Z h14 a "com/example/crossbill/crossbill/csv/RecordSpans" "ends" "[J" (.ref b2) := (P2.other W14 (Or.inl P13))
  obtain ⟨T16, X16, e16, st16⟩ := getF X14 hx hZ hown (host := "") (Or.inl (hw _ (List.mem_of_getElem? (i := 13) rfl))) Via.refl e14 F15 (g := (mkF m 133 #[.val (.ref a), .val (.long (1 : Int64)), .second, .val (.long (2 : Int64)), .second, .val (.long zz), .second, .val (.long (1 : Int64)), .second] [(.ref a)])) rfl rfl (hb hby d7_133)
  replace G : Gets p e below _ (T16.setTop (mkF m 136 #[.val (.ref a), .val (.long (1 : Int64)), .second, .val (.long (2 : Int64)), .second, .val (.long zz), .second, .val (.long (1 : Int64)), .second] [(.ref b2)])) := fun t k => G t (st16 t k)
  replace G := own_aloadN (q := 137) G X16.here hx (hb hby d7_136) rfl rfl rfl
  have F17 : Fld Z h14 a "com/example/crossbill/crossbill/csv/RecordSpans" "size" "I" (.int (1 : Int32)) := (P0.other W14 (Or.inl P13))
  obtain ⟨T18, X18, e18, st18⟩ := getF X16 hx hZ hown (host := "") (Or.inl (hw _ (List.mem_of_getElem? (i := 24) rfl))) Via.refl e16 F17 (g := (mkF m 137 #[.val (.ref a), .val (.long (1 : Int64)), .second, .val (.long (2 : Int64)), .second, .val (.long zz), .second, .val (.long (1 : Int64)), .second] [(.ref a), (.ref b2)])) rfl rfl (hb hby d7_137)
  replace G : Gets p e below _ (T18.setTop (mkF m 140 #[.val (.ref a), .val (.long (1 : Int64)), .second, .val (.long (2 : Int64)), .second, .val (.long zz), .second, .val (.long (1 : Int64)), .second] [(.int (1 : Int32)), (.ref b2)])) := fun t k => G t (st18 t k)
  replace G := own_lloadN (q := 141) G X18.here hx (hb hby d7_140) rfl rfl
  have F19 : Arv Z h14 b2 k2 .long (16 : Int32) [(.long (1 : Int64)), (.long (0 : Int64)), (.long (0 : Int64)), (.long (0 : Int64)), (.long (0 : Int64)), (.long (0 : Int64)), (.long (0 : Int64)), (.long (0 : Int64)), (.long (0 : Int64)), (.long (0 : Int64)), (.long (0 : Int64)), (.long (0 : Int64)), (.long (0 : Int64)), (.long (0 : Int64)), (.long (0 : Int64)), (.long (0 : Int64))] (.long (0 : Int64)) := (P7.other W14 (Ne.symm P16))
  obtain ⟨c20, Ar20, q20, S20, N20', H20, G20'⟩ := id F19
  have hin20 : ¬ ((1 : Int32) < 0 ∨ c20.slots.size ≤ ((1 : Int32)).toNatClampNeg) := inb_of S20 ⟨by decide, by decide⟩
  obtain ⟨T20, h20, X20, e20, W20, st20⟩ := stJ X18 hx hZ e18 Ar20 (j := (1 : Int32)) hin20 (g := (mkF m 141 #[.val (.ref a), .val (.long (1 : Int64)), .second, .val (.long (2 : Int64)), .second, .val (.long zz), .second, .val (.long (1 : Int64)), .second] [(.long (2 : Int64)), (.int (1 : Int32)), (.ref b2)])) rfl rfl (hb hby d7_141)
  have N20 := Fr.snoc X20 N14 P11
  have Z20 : n0 ≤ h20.size := Nat.le_trans Z14 (Keep.of_wr W20).1
  have K20 : Keep h0 h20 [a, b1, b2, b3] := K14.wr W20 (Or.inl (List.mem_of_getElem? (i := 2) rfl))
  have V20 : Arv Z h20 b2 k2 .long (16 : Int32) [(.long (1 : Int64)), (.long (2 : Int64)), (.long (0 : Int64)), (.long (0 : Int64)), (.long (0 : Int64)), (.long (0 : Int64)), (.long (0 : Int64)), (.long (0 : Int64)), (.long (0 : Int64)), (.long (0 : Int64)), (.long (0 : Int64)), (.long (0 : Int64)), (.long (0 : Int64)), (.long (0 : Int64)), (.long (0 : Int64)), (.long (0 : Int64))] (.long (0 : Int64)) := Arv.set Ar20 q20 S20 N20' H20 G20' rfl W20 1 rfl (Nat.le_of_ble_eq_true rfl)
  replace G : Gets p e below _ (T20.setTop (mkF m 142 #[.val (.ref a), .val (.long (1 : Int64)), .second, .val (.long (2 : Int64)), .second, .val (.long zz), .second, .val (.long (1 : Int64)), .second] [])) := fun t k => G t (st20 t k)
  replace G := own_aloadN (q := 143) G X20.here hx (hb hby d7_142) rfl rfl rfl
  have F21 : Fld Z h20 a "com/example/crossbill/crossbill/csv/RecordSpans" "lines" "[J" (.ref b3) := ((P3.other W14 (Or.inl P13)).other W20 (Or.inl P14))
  obtain ⟨T22, X22, e22, st22⟩ := getF X20 hx hZ hown (host := "") (Or.inl (hw _ (List.mem_of_getElem? (i := 15) rfl))) Via.refl e20 F21 (g := (mkF m 143 #[.val (.ref a), .val (.long (1 : Int64)), .second, .val (.long (2 : Int64)), .second, .val (.long zz), .second, .val (.long (1 : Int64)), .second] [(.ref a)])) rfl rfl (hb hby d7_143)
  replace G : Gets p e below _ (T22.setTop (mkF m 146 #[.val (.ref a), .val (.long (1 : Int64)), .second, .val (.long (2 : Int64)), .second, .val (.long zz), .second, .val (.long (1 : Int64)), .second] [(.ref b3)])) := fun t k => G t (st22 t k)
  replace G := own_aloadN (q := 147) G X22.here hx (hb hby d7_146) rfl rfl rfl
  have F23 : Fld Z h20 a "com/example/crossbill/crossbill/csv/RecordSpans" "size" "I" (.int (1 : Int32)) := (F17.other W20 (Or.inl P14))
  obtain ⟨T24, X24, e24, st24⟩ := getF X22 hx hZ hown (host := "") (Or.inl (hw _ (List.mem_of_getElem? (i := 24) rfl))) Via.refl e22 F23 (g := (mkF m 147 #[.val (.ref a), .val (.long (1 : Int64)), .second, .val (.long (2 : Int64)), .second, .val (.long zz), .second, .val (.long (1 : Int64)), .second] [(.ref a), (.ref b3)])) rfl rfl (hb hby d7_147)
  replace G : Gets p e below _ (T24.setTop (mkF m 150 #[.val (.ref a), .val (.long (1 : Int64)), .second, .val (.long (2 : Int64)), .second, .val (.long zz), .second, .val (.long (1 : Int64)), .second] [(.int (1 : Int32)), (.ref b3)])) := fun t k => G t (st24 t k)
  replace G := own_lload (q := 152) G X24.here hx (hb hby d7_150) rfl rfl
  have F25 : Arv Z h20 b3 k3 .long (16 : Int32) [(.long z0), (.long (0 : Int64)), (.long (0 : Int64)), (.long (0 : Int64)), (.long (0 : Int64)), (.long (0 : Int64)), (.long (0 : Int64)), (.long (0 : Int64)), (.long (0 : Int64)), (.long (0 : Int64)), (.long (0 : Int64)), (.long (0 : Int64)), (.long (0 : Int64)), (.long (0 : Int64)), (.long (0 : Int64)), (.long (0 : Int64))] (.long (0 : Int64)) := ((P8.other W14 (Ne.symm P17)).other W20 (Ne.symm P18))
  obtain ⟨c26, Ar26, q26, S26, N26', H26, G26'⟩ := id F25
  have hin26 : ¬ ((1 : Int32) < 0 ∨ c26.slots.size ≤ ((1 : Int32)).toNatClampNeg) := inb_of S26 ⟨by decide, by decide⟩
  obtain ⟨T26, h26, X26, e26, W26, st26⟩ := stJ X24 hx hZ e24 Ar26 (j := (1 : Int32)) hin26 (g := (mkF m 152 #[.val (.ref a), .val (.long (1 : Int64)), .second, .val (.long (2 : Int64)), .second, .val (.long zz), .second, .val (.long (1 : Int64)), .second] [(.long zz), (.int (1 : Int32)), (.ref b3)])) rfl rfl (hb hby d7_152)
  have N26 := Fr.snoc X26 N20 P12
  have Z26 : n0 ≤ h26.size := Nat.le_trans Z20 (Keep.of_wr W26).1
  have K26 : Keep h0 h26 [a, b1, b2, b3] := K20.wr W26 (Or.inl (List.mem_of_getElem? (i := 3) rfl))
  have V26 : Arv Z h26 b3 k3 .long (16 : Int32) [(.long z0), (.long zz), (.long (0 : Int64)), (.long (0 : Int64)), (.long (0 : Int64)), (.long (0 : Int64)), (.long (0 : Int64)), (.long (0 : Int64)), (.long (0 : Int64)), (.long (0 : Int64)), (.long (0 : Int64)), (.long (0 : Int64)), (.long (0 : Int64)), (.long (0 : Int64)), (.long (0 : Int64)), (.long (0 : Int64))] (.long (0 : Int64)) := Arv.set Ar26 q26 S26 N26' H26 G26' rfl W26 1 rfl (Nat.le_of_ble_eq_true rfl)
  replace G : Gets p e below _ (T26.setTop (mkF m 153 #[.val (.ref a), .val (.long (1 : Int64)), .second, .val (.long (2 : Int64)), .second, .val (.long zz), .second, .val (.long (1 : Int64)), .second] [])) := fun t k => G t (st26 t k)
  replace G := own_aloadN (q := 154) G X26.here hx (hb hby d7_153) rfl rfl rfl
  replace G := own_dup (q := 155) G X26.here hx (hb hby d7_154) rfl rfl
  have F27 : Fld Z h26 a "com/example/crossbill/crossbill/csv/RecordSpans" "size" "I" (.int (1 : Int32)) := (F23.other W26 (Or.inl P15))
  obtain ⟨T28, X28, e28, st28⟩ := getF X26 hx hZ hown (host := "") (Or.inl (hw _ (List.mem_of_getElem? (i := 24) rfl))) Via.refl e26 F27 (g := (mkF m 155 #[.val (.ref a), .val (.long (1 : Int64)), .second, .val (.long (2 : Int64)), .second, .val (.long zz), .second, .val (.long (1 : Int64)), .second] [(.ref a), (.ref a)])) rfl rfl (hb hby d7_155)
  replace G : Gets p e below _ (T28.setTop (mkF m 158 #[.val (.ref a), .val (.long (1 : Int64)), .second, .val (.long (2 : Int64)), .second, .val (.long zz), .second, .val (.long (1 : Int64)), .second] [(.int (1 : Int32)), (.ref a)])) := fun t k => G t (st28 t k)
  replace G := own_iconst (q := 159) G X28.here hx (hb hby d7_158) (v := (1 : Int32)) (by decide) rfl
  replace G := own_iadd (q := 160) G X28.here hx (hb hby d7_159) (by decide : ((1 : Int32) + (1 : Int32)) = (2 : Int32)) rfl
  have F29 : Exa Z h26 a "com/example/crossbill/crossbill/csv/RecordSpans" := (((P5.wr W14).wr W20).wr W26)
  obtain ⟨T30, h30, X30, e30, W30, st30⟩ := putF X28 hx hZ hown (host := "") (Or.inl (hw _ (List.mem_of_getElem? (i := 24) rfl))) Via.refl e28 F27 F29 (Or.inl (hw _ (List.mem_of_getElem? (i := 25) rfl))) (hw _ (List.mem_of_getElem? (i := 2) rfl)) (ty := .int) (by decide) rfl rfl (g := (mkF m 160 #[.val (.ref a), .val (.long (1 : Int64)), .second, .val (.long (2 : Int64)), .second, .val (.long zz), .second, .val (.long (1 : Int64)), .second] [(.int (2 : Int32)), (.ref a)])) rfl rfl (hb hby d7_160)
  have N30 := Fr.snoc X30 N26 P9
  have Z30 : n0 ≤ h30.size := Nat.le_trans Z26 (Keep.of_wr W30).1
  have K30 : Keep h0 h30 [a, b1, b2, b3] := K26.wr W30 (Or.inl (List.mem_of_getElem? (i := 0) rfl))
  have F30 : Fld Z h30 a "com/example/crossbill/crossbill/csv/RecordSpans" "size" "I" (.int (2 : Int32)) := F27.same W30
  replace G : Gets p e below _ (T30.setTop (mkF m 163 #[.val (.ref a), .val (.long (1 : Int64)), .second, .val (.long (2 : Int64)), .second, .val (.long zz), .second, .val (.long (1 : Int64)), .second] [])) := fun t k => G t (st30 t k)
  obtain ⟨fs, hr, hrun, hended, hW, hsame⟩ := X30.leave (v := none) (fun _ => rfl)
  refine ⟨_, _, G _ (X30.returnOut hx Bd.returns (hb hby d7_163) hr), hrun, hended, _, _, rfl, ?_, ⟨_, rfl⟩, hW, hsame.mono (by decide) (by decide)⟩
  have F31 : Fld Z h30 a "com/example/crossbill/crossbill/csv/RecordSpans" "starts" "[J" (.ref b1) := ((((P1.other W14 (Or.inl P13)).other W20 (Or.inl P14)).other W26 (Or.inl P15)).other W30 (Or.inr (slot_ne (Or.inl (hw _ (List.mem_of_getElem? (i := 12) rfl))) (Or.inl (hw _ (List.mem_of_getElem? (i := 25) rfl))) (by decide) (t := (.array .long)) (t' := .int) (by decide) (by decide))))
  have F32 : Fld Z h30 a "com/example/crossbill/crossbill/csv/RecordSpans" "ends" "[J" (.ref b2) := (((F15.other W20 (Or.inl P14)).other W26 (Or.inl P15)).other W30 (Or.inr (slot_ne (Or.inl (hw _ (List.mem_of_getElem? (i := 14) rfl))) (Or.inl (hw _ (List.mem_of_getElem? (i := 25) rfl))) (by decide) (t := (.array .long)) (t' := .int) (by decide) (by decide))))
  have F33 : Fld Z h30 a "com/example/crossbill/crossbill/csv/RecordSpans" "lines" "[J" (.ref b3) := ((F21.other W26 (Or.inl P15)).other W30 (Or.inr (slot_ne (Or.inl (hw _ (List.mem_of_getElem? (i := 16) rfl))) (Or.inl (hw _ (List.mem_of_getElem? (i := 25) rfl))) (by decide) (t := (.array .long)) (t' := .int) (by decide) (by decide))))
  have F34 : Fld Z h30 a "com/example/crossbill/crossbill/csv/RecordSpans" "headerEnd" "J" (.long (0 : Int64)) := ((((P4.other W14 (Or.inl P13)).other W20 (Or.inl P14)).other W26 (Or.inl P15)).other W30 (Or.inr (slot_ne (Or.inr (hw _ (List.mem_of_getElem? (i := 18) rfl))) (Or.inl (hw _ (List.mem_of_getElem? (i := 25) rfl))) (by decide) (t := .long) (t' := .int) (by decide) (by decide))))
  have F35 : Arv Z h30 b1 k1 .long (16 : Int32) [(.long (0 : Int64)), (.long (1 : Int64)), (.long (0 : Int64)), (.long (0 : Int64)), (.long (0 : Int64)), (.long (0 : Int64)), (.long (0 : Int64)), (.long (0 : Int64)), (.long (0 : Int64)), (.long (0 : Int64)), (.long (0 : Int64)), (.long (0 : Int64)), (.long (0 : Int64)), (.long (0 : Int64)), (.long (0 : Int64)), (.long (0 : Int64))] (.long (0 : Int64)) := (((V14.other W20 P16).other W26 P17).other W30 (Ne.symm P13))
  have F36 : Arv Z h30 b2 k2 .long (16 : Int32) [(.long (1 : Int64)), (.long (2 : Int64)), (.long (0 : Int64)), (.long (0 : Int64)), (.long (0 : Int64)), (.long (0 : Int64)), (.long (0 : Int64)), (.long (0 : Int64)), (.long (0 : Int64)), (.long (0 : Int64)), (.long (0 : Int64)), (.long (0 : Int64)), (.long (0 : Int64)), (.long (0 : Int64)), (.long (0 : Int64)), (.long (0 : Int64))] (.long (0 : Int64)) := ((V20.other W26 P18).other W30 (Ne.symm P14))
  have F37 : Arv Z h30 b3 k3 .long (16 : Int32) [(.long z0), (.long zz), (.long (0 : Int64)), (.long (0 : Int64)), (.long (0 : Int64)), (.long (0 : Int64)), (.long (0 : Int64)), (.long (0 : Int64)), (.long (0 : Int64)), (.long (0 : Int64)), (.long (0 : Int64)), (.long (0 : Int64)), (.long (0 : Int64)), (.long (0 : Int64)), (.long (0 : Int64)), (.long (0 : Int64))] (.long (0 : Int64)) := (V26.other W30 (Ne.symm P15))
  show Q7s1 Z a zz b1 b2 b3 k1 k2 k3 z0 h0 n0 _ T30.heap _
  rw [e30]
  exact ⟨rfl, N30, K30, F30, F31, F32, F33, F34, F35, F36, F37⟩
theorem ef_7s2 (m : MethodId) (x0 : Addr) (x3 : Int64) : entryFrame m #[(.ref x0), (.long (2 : Int64)), (.long (3 : Int64)), (.long x3)] 9 = mkF m 0 #[.val (.ref x0), .val (.long (2 : Int64)), .second, .val (.long (3 : Int64)), .second, .val (.long x3), .second, .unset, .unset] [] := by first | (simp [entryFrame, mkF, argsToLocals, Value.category]; done) | rfl
def Q7s2 (Z : State) (a : Addr) (zz : Int64) (b1 : Addr) (b2 : Addr) (b3 : Addr) (k1 : ClassId) (k2 : ClassId) (k3 : ClassId) (z0 : Int64) (z1 : Int64) (h0 : Heap) (n0 : Nat) (v : Option Value) (h : Heap) (L : List Loc) : Prop := v = none ∧ Fr n0 L ∧ Keep h0 h [a, b1, b2, b3] ∧ (Fld Z h a "com/example/crossbill/crossbill/csv/RecordSpans" "size" "I" (.int (3 : Int32))) ∧ (Fld Z h a "com/example/crossbill/crossbill/csv/RecordSpans" "starts" "[J" (.ref b1)) ∧ (Fld Z h a "com/example/crossbill/crossbill/csv/RecordSpans" "ends" "[J" (.ref b2)) ∧ (Fld Z h a "com/example/crossbill/crossbill/csv/RecordSpans" "lines" "[J" (.ref b3)) ∧ (Fld Z h a "com/example/crossbill/crossbill/csv/RecordSpans" "headerEnd" "J" (.long (0 : Int64))) ∧ (Arv Z h b1 k1 .long (16 : Int32) [(.long (0 : Int64)), (.long (1 : Int64)), (.long (2 : Int64)), (.long (0 : Int64)), (.long (0 : Int64)), (.long (0 : Int64)), (.long (0 : Int64)), (.long (0 : Int64)), (.long (0 : Int64)), (.long (0 : Int64)), (.long (0 : Int64)), (.long (0 : Int64)), (.long (0 : Int64)), (.long (0 : Int64)), (.long (0 : Int64)), (.long (0 : Int64))] (.long (0 : Int64))) ∧ (Arv Z h b2 k2 .long (16 : Int32) [(.long (1 : Int64)), (.long (2 : Int64)), (.long (3 : Int64)), (.long (0 : Int64)), (.long (0 : Int64)), (.long (0 : Int64)), (.long (0 : Int64)), (.long (0 : Int64)), (.long (0 : Int64)), (.long (0 : Int64)), (.long (0 : Int64)), (.long (0 : Int64)), (.long (0 : Int64)), (.long (0 : Int64)), (.long (0 : Int64)), (.long (0 : Int64))] (.long (0 : Int64))) ∧ (Arv Z h b3 k3 .long (16 : Int32) [(.long z0), (.long z1), (.long zz), (.long (0 : Int64)), (.long (0 : Int64)), (.long (0 : Int64)), (.long (0 : Int64)), (.long (0 : Int64)), (.long (0 : Int64)), (.long (0 : Int64)), (.long (0 : Int64)), (.long (0 : Int64)), (.long (0 : Int64)), (.long (0 : Int64)), (.long (0 : Int64)), (.long (0 : Int64))] (.long (0 : Int64)))
set_option maxRecDepth 65536 in
set_option maxHeartbeats 40000000 in
theorem rm7s2 (l : Launch) (Z : State) (a0 : Array Value) (hw : ∀ d ∈ tables_1, d.before a0 Z = true) (ws : List Jvm.Cond) (a : Addr) (zz : Int64) (b1 : Addr) (b2 : Addr) (b3 : Addr) (k1 : ClassId) (k2 : ClassId) (k3 : ClassId) (z0 : Int64) (z1 : Int64) (h0 : Heap) (n0 : Nat) (Z0 : n0 ≤ h0.size) (P0 : Fld Z h0 a "com/example/crossbill/crossbill/csv/RecordSpans" "size" "I" (.int (2 : Int32))) (P1 : Fld Z h0 a "com/example/crossbill/crossbill/csv/RecordSpans" "starts" "[J" (.ref b1)) (P2 : Fld Z h0 a "com/example/crossbill/crossbill/csv/RecordSpans" "ends" "[J" (.ref b2)) (P3 : Fld Z h0 a "com/example/crossbill/crossbill/csv/RecordSpans" "lines" "[J" (.ref b3)) (P4 : Fld Z h0 a "com/example/crossbill/crossbill/csv/RecordSpans" "headerEnd" "J" (.long (0 : Int64))) (P5 : Exa Z h0 a "com/example/crossbill/crossbill/csv/RecordSpans") (P6 : Arv Z h0 b1 k1 .long (16 : Int32) [(.long (0 : Int64)), (.long (1 : Int64)), (.long (0 : Int64)), (.long (0 : Int64)), (.long (0 : Int64)), (.long (0 : Int64)), (.long (0 : Int64)), (.long (0 : Int64)), (.long (0 : Int64)), (.long (0 : Int64)), (.long (0 : Int64)), (.long (0 : Int64)), (.long (0 : Int64)), (.long (0 : Int64)), (.long (0 : Int64)), (.long (0 : Int64))] (.long (0 : Int64))) (P7 : Arv Z h0 b2 k2 .long (16 : Int32) [(.long (1 : Int64)), (.long (2 : Int64)), (.long (0 : Int64)), (.long (0 : Int64)), (.long (0 : Int64)), (.long (0 : Int64)), (.long (0 : Int64)), (.long (0 : Int64)), (.long (0 : Int64)), (.long (0 : Int64)), (.long (0 : Int64)), (.long (0 : Int64)), (.long (0 : Int64)), (.long (0 : Int64)), (.long (0 : Int64)), (.long (0 : Int64))] (.long (0 : Int64))) (P8 : Arv Z h0 b3 k3 .long (16 : Int32) [(.long z0), (.long z1), (.long (0 : Int64)), (.long (0 : Int64)), (.long (0 : Int64)), (.long (0 : Int64)), (.long (0 : Int64)), (.long (0 : Int64)), (.long (0 : Int64)), (.long (0 : Int64)), (.long (0 : Int64)), (.long (0 : Int64)), (.long (0 : Int64)), (.long (0 : Int64)), (.long (0 : Int64)), (.long (0 : Int64))] (.long (0 : Int64))) (P9 : n0 ≤ a) (P10 : n0 ≤ b1) (P11 : n0 ≤ b2) (P12 : n0 ≤ b3) (P13 : a ≠ b1) (P14 : a ≠ b2) (P15 : a ≠ b3) (P16 : b1 ≠ b2) (P17 : b1 ≠ b3) (P18 : b2 ≠ b3) :
    MetFree l (⟨"com/example/crossbill/crossbill/csv/RecordSpans", "add", "(JJJ)V"⟩ : MethodName) (head1 (Jvm.Cond.code (⟨"com/example/crossbill/crossbill/csv/RecordSpans", "add", "(JJJ)V"⟩ : MethodName) prog_17_method_2_code 9 none :: ws) ({ frames := 0, cells := 0, slots := 0, locals := 0 } : Room)) (fun argz U => argz = #[(.ref a), (.long (2 : Int64)), (.long (3 : Int64)), (.long zz)] ∧ Z.Warmed39 U.vm ∧ U.heap = h0) (fun _ _ _ _ _ => True) (fun _ U o U' => ∃ v L, o = .returned v ∧ Q7s2 Z a zz b1 b2 b3 k1 k2 k3 z0 z1 h0 n0 v U'.heap L ∧ FrameEnd U o U' L ({ frames := 0, cells := 0, slots := 0, locals := 0 } : Room).cells ({ frames := 0, cells := 0, slots := 0, locals := 0 } : Room).slots) := by
  refine MetFree.of_bodySF (plainFor_of_name pn_com_example_crossbill_crossbill_csv_RecordSpans) hisR ?_
  intro p e s m args below meth c s₁ Bd hml0 hP hK
  obtain ⟨rfl, hZ, hh⟩ := hP
  have hx := Bd.exec
  have hby := Bd.bytes
  have hml : c.maxLocals = 9 := hml0
  have hown : s.vm.findClass "com/example/crossbill/crossbill/csv/RecordSpans" = some m.cls := findClass_of_methodNamed Bd.named
  have hnm := (name_of_methodNamed Bd.named Bd.method).1
  have X0 : Stand p l e ({ frames := 0, cells := 0, slots := 0, locals := 0 } : Room) s m #[(.ref a), (.long (2 : Int64)), (.long (3 : Int64)), (.long zz)] below meth c s₁ [] 0 0 := Stand.of_body Bd
  have e0 : s₁.heap = h0 := by rw [← hh, Bd.state]; rfl
  have N0 := Fr.nil n0
  have K0 : Keep h0 h0 [a, b1, b2, b3] := Keep.refl _ _
  have G : Gets p e below (s₁.setTop (entryFrame m #[(.ref a), (.long (2 : Int64)), (.long (3 : Int64)), (.long zz)] 9)) (s₁.setTop (mkF m 0 #[.val (.ref a), .val (.long (2 : Int64)), .second, .val (.long (3 : Int64)), .second, .val (.long zz), .second, .unset, .unset] [])) := fun t k => castTop (ef_7s2 m a zz) k
  replace G := own_aloadN (q := 1) G X0.here hx (hb hby d7_0) rfl rfl rfl
  obtain ⟨T1, X1, e1, st1⟩ := getF X0 hx hZ hown (host := "") (Or.inl (hw _ (List.mem_of_getElem? (i := 24) rfl))) Via.refl e0 P0 (g := (mkF m 1 #[.val (.ref a), .val (.long (2 : Int64)), .second, .val (.long (3 : Int64)), .second, .val (.long zz), .second, .unset, .unset] [(.ref a)])) rfl rfl (hb hby d7_1)
  replace G : Gets p e below _ (T1.setTop (mkF m 4 #[.val (.ref a), .val (.long (2 : Int64)), .second, .val (.long (3 : Int64)), .second, .val (.long zz), .second, .unset, .unset] [(.int (2 : Int32))])) := fun t k => G t (st1 t k)
  have hc4_2 : ¬ ((2 : Int32) = (0 : Int32)) := by decide
  replace G := own_ifYes (q := 16) G X1.here hx (hb hby d7_4) ((if0 _ _).trans (feq hc4_2).2) (by decide) (by decide)
  replace G := own_aloadN (q := 17) G X1.here hx (hb hby d7_16) rfl rfl rfl
  obtain ⟨T3, X3, e3, st3⟩ := getF X1 hx hZ hown (host := "") (Or.inl (hw _ (List.mem_of_getElem? (i := 13) rfl))) Via.refl e1 P2 (g := (mkF m 17 #[.val (.ref a), .val (.long (2 : Int64)), .second, .val (.long (3 : Int64)), .second, .val (.long zz), .second, .unset, .unset] [(.ref a)])) rfl rfl (hb hby d7_17)
  replace G : Gets p e below _ (T3.setTop (mkF m 20 #[.val (.ref a), .val (.long (2 : Int64)), .second, .val (.long (3 : Int64)), .second, .val (.long zz), .second, .unset, .unset] [(.ref b2)])) := fun t k => G t (st3 t k)
  replace G := own_aloadN (q := 21) G X3.here hx (hb hby d7_20) rfl rfl rfl
  obtain ⟨T4, X4, e4, st4⟩ := getF X3 hx hZ hown (host := "") (Or.inl (hw _ (List.mem_of_getElem? (i := 24) rfl))) Via.refl e3 P0 (g := (mkF m 21 #[.val (.ref a), .val (.long (2 : Int64)), .second, .val (.long (3 : Int64)), .second, .val (.long zz), .second, .unset, .unset] [(.ref a), (.ref b2)])) rfl rfl (hb hby d7_21)
  replace G : Gets p e below _ (T4.setTop (mkF m 24 #[.val (.ref a), .val (.long (2 : Int64)), .second, .val (.long (3 : Int64)), .second, .val (.long zz), .second, .unset, .unset] [(.int (2 : Int32)), (.ref b2)])) := fun t k => G t (st4 t k)
  replace G := own_iconst (q := 25) G X4.here hx (hb hby d7_24) (v := (1 : Int32)) (by decide) rfl
  replace G := own_isub (q := 26) G X4.here hx (hb hby d7_25) (by decide : ((2 : Int32) - (1 : Int32)) = (1 : Int32)) rfl
  obtain ⟨c5, Ar5, -, S5, -, H5, -⟩ := id P7
  have hin5 : ¬ ((1 : Int32) < 0 ∨ c5.slots.size ≤ ((1 : Int32)).toNatClampNeg) := inb_of S5 ⟨by decide, by decide⟩
  replace G : Gets p e below _ (T4.setTop (mkF m 27 #[.val (.ref a), .val (.long (2 : Int64)), .second, .val (.long (3 : Int64)), .second, .val (.long zz), .second, .unset, .unset] [(.long (2 : Int64))])) := fun t k => G t (X4.laload hx (j := (1 : Int32)) (v := (.long (2 : Int64))) (by rw [e4]; exact Ar5.1) (State.isArrayOf_alike hZ.alike Ar5.2.1) Ar5.2.2 hin5 (Has.at H5 hin5 rfl) (g := (mkF m 26 #[.val (.ref a), .val (.long (2 : Int64)), .second, .val (.long (3 : Int64)), .second, .val (.long zz), .second, .unset, .unset] [(.int (1 : Int32)), (.ref b2)])) rfl rfl (hb hby d7_26) t k)
  replace G := own_lstore (q := 29) (l' := #[.val (.ref a), .val (.long (2 : Int64)), .second, .val (.long (3 : Int64)), .second, .val (.long zz), .second, .val (.long (2 : Int64)), .second]) G X4.here hx (hb hby d7_27) rfl rfl
  replace G := own_lloadN (q := 30) G X4.here hx (hb hby d7_29) rfl rfl
  replace G := own_lload (q := 32) G X4.here hx (hb hby d7_30) rfl rfl
  replace G := own_lcmp (q := 33) G X4.here hx (hb hby d7_32) rfl
  have hc33_6 : ¬ ((2 : Int64) < (2 : Int64)) := by decide
  replace G := own_ifNo (q := 36) G X4.here hx (hb hby d7_33) ((if0 _ _).trans (flt (fun z => hc33_6 ((lw_lt _ _).mp z))).1) rfl
  replace G := own_lloadN (q := 37) G X4.here hx (hb hby d7_36) rfl rfl
  replace G := own_lloadN (q := 38) G X4.here hx (hb hby d7_37) rfl rfl
  replace G := own_lcmp (q := 39) G X4.here hx (hb hby d7_38) rfl
  have hc39_7 : (2 : Int64) < (3 : Int64) := by decide
  replace G := own_ifYes (q := 59) G X4.here hx (hb hby d7_39) ((if0 _ _).trans (tlt ((lw_gt _ _).mpr hc39_7)).2.2.1) (by decide) (by decide)
  replace G := own_aloadN (q := 60) G X4.here hx (hb hby d7_59) rfl rfl rfl
  obtain ⟨T8, X8, e8, st8⟩ := getF X4 hx hZ hown (host := "") (Or.inl (hw _ (List.mem_of_getElem? (i := 24) rfl))) Via.refl e4 P0 (g := (mkF m 60 #[.val (.ref a), .val (.long (2 : Int64)), .second, .val (.long (3 : Int64)), .second, .val (.long zz), .second, .val (.long (2 : Int64)), .second] [(.ref a)])) rfl rfl (hb hby d7_60)
  replace G : Gets p e below _ (T8.setTop (mkF m 63 #[.val (.ref a), .val (.long (2 : Int64)), .second, .val (.long (3 : Int64)), .second, .val (.long zz), .second, .val (.long (2 : Int64)), .second] [(.int (2 : Int32))])) := fun t k => G t (st8 t k)
  replace G := own_aloadN (q := 64) G X8.here hx (hb hby d7_63) rfl rfl rfl
  obtain ⟨T9, X9, e9, st9⟩ := getF X8 hx hZ hown (host := "") (Or.inl (hw _ (List.mem_of_getElem? (i := 11) rfl))) Via.refl e8 P1 (g := (mkF m 64 #[.val (.ref a), .val (.long (2 : Int64)), .second, .val (.long (3 : Int64)), .second, .val (.long zz), .second, .val (.long (2 : Int64)), .second] [(.ref a), (.int (2 : Int32))])) rfl rfl (hb hby d7_64)
  replace G : Gets p e below _ (T9.setTop (mkF m 67 #[.val (.ref a), .val (.long (2 : Int64)), .second, .val (.long (3 : Int64)), .second, .val (.long zz), .second, .val (.long (2 : Int64)), .second] [(.ref b1), (.int (2 : Int32))])) := fun t k => G t (st9 t k)
  obtain ⟨c10, Ar10, -, S10, N10', -, -⟩ := id P6
  replace G : Gets p e below _ (T9.setTop (mkF m 68 #[.val (.ref a), .val (.long (2 : Int64)), .second, .val (.long (3 : Int64)), .second, .val (.long zz), .second, .val (.long (2 : Int64)), .second] [(.int (16 : Int32)), (.int (2 : Int32))])) := fun t k => G t (X9.arraylength hx (by rw [e9]; exact Ar10.1) (State.isArrayOf_alike hZ.alike Ar10.2.1) (g := (mkF m 67 #[.val (.ref a), .val (.long (2 : Int64)), .second, .val (.long (3 : Int64)), .second, .val (.long zz), .second, .val (.long (2 : Int64)), .second] [(.ref b1), (.int (2 : Int32))])) rfl rfl (hb hby d7_67) t (by rw [len_of S10 N10']; exact k))
  have hc68_11 : ¬ ((2 : Int32) = (16 : Int32)) := by decide
  replace G := own_icmpYes (q := 122) G X9.here hx (hb hby d7_68) (feq hc68_11).2 (by decide) (by decide)
  replace G := own_aloadN (q := 123) G X9.here hx (hb hby d7_122) rfl rfl rfl
  obtain ⟨T12, X12, e12, st12⟩ := getF X9 hx hZ hown (host := "") (Or.inl (hw _ (List.mem_of_getElem? (i := 11) rfl))) Via.refl e9 P1 (g := (mkF m 123 #[.val (.ref a), .val (.long (2 : Int64)), .second, .val (.long (3 : Int64)), .second, .val (.long zz), .second, .val (.long (2 : Int64)), .second] [(.ref a)])) rfl rfl (hb hby d7_123)
  replace G : Gets p e below _ (T12.setTop (mkF m 126 #[.val (.ref a), .val (.long (2 : Int64)), .second, .val (.long (3 : Int64)), .second, .val (.long zz), .second, .val (.long (2 : Int64)), .second] [(.ref b1)])) := fun t k => G t (st12 t k)
  replace G := own_aloadN (q := 127) G X12.here hx (hb hby d7_126) rfl rfl rfl
  obtain ⟨T13, X13, e13, st13⟩ := getF X12 hx hZ hown (host := "") (Or.inl (hw _ (List.mem_of_getElem? (i := 24) rfl))) Via.refl e12 P0 (g := (mkF m 127 #[.val (.ref a), .val (.long (2 : Int64)), .second, .val (.long (3 : Int64)), .second, .val (.long zz), .second, .val (.long (2 : Int64)), .second] [(.ref a), (.ref b1)])) rfl rfl (hb hby d7_127)
  replace G : Gets p e below _ (T13.setTop (mkF m 130 #[.val (.ref a), .val (.long (2 : Int64)), .second, .val (.long (3 : Int64)), .second, .val (.long zz), .second, .val (.long (2 : Int64)), .second] [(.int (2 : Int32)), (.ref b1)])) := fun t k => G t (st13 t k)
  replace G := own_lloadN (q := 131) G X13.here hx (hb hby d7_130) rfl rfl
  obtain ⟨c14, Ar14, q14, S14, N14', H14, G14'⟩ := id P6
  have hin14 : ¬ ((2 : Int32) < 0 ∨ c14.slots.size ≤ ((2 : Int32)).toNatClampNeg) := inb_of S14 ⟨by decide, by decide⟩
  obtain ⟨T14, h14, X14, e14, W14, st14⟩ := stJ X13 hx hZ e13 Ar14 (j := (2 : Int32)) hin14 (g := (mkF m 131 #[.val (.ref a), .val (.long (2 : Int64)), .second, .val (.long (3 : Int64)), .second, .val (.long zz), .second, .val (.long (2 : Int64)), .second] [(.long (2 : Int64)), (.int (2 : Int32)), (.ref b1)])) rfl rfl (hb hby d7_131)
  have N14 := Fr.snoc X14 N0 P10
  have Z14 : n0 ≤ h14.size := Nat.le_trans Z0 (Keep.of_wr W14).1
  have K14 : Keep h0 h14 [a, b1, b2, b3] := K0.wr W14 (Or.inl (List.mem_of_getElem? (i := 1) rfl))
  have V14 : Arv Z h14 b1 k1 .long (16 : Int32) [(.long (0 : Int64)), (.long (1 : Int64)), (.long (2 : Int64)), (.long (0 : Int64)), (.long (0 : Int64)), (.long (0 : Int64)), (.long (0 : Int64)), (.long (0 : Int64)), (.long (0 : Int64)), (.long (0 : Int64)), (.long (0 : Int64)), (.long (0 : Int64)), (.long (0 : Int64)), (.long (0 : Int64)), (.long (0 : Int64)), (.long (0 : Int64))] (.long (0 : Int64)) := Arv.set Ar14 q14 S14 N14' H14 G14' rfl W14 2 rfl (Nat.le_of_ble_eq_true rfl)
  replace G : Gets p e below _ (T14.setTop (mkF m 132 #[.val (.ref a), .val (.long (2 : Int64)), .second, .val (.long (3 : Int64)), .second, .val (.long zz), .second, .val (.long (2 : Int64)), .second] [])) := fun t k => G t (st14 t k)
  replace G := own_aloadN (q := 133) G X14.here hx (hb hby d7_132) rfl rfl rfl
  have F15 : Fld Z h14 a "com/example/crossbill/crossbill/csv/RecordSpans" "ends" "[J" (.ref b2) := (P2.other W14 (Or.inl P13))
  obtain ⟨T16, X16, e16, st16⟩ := getF X14 hx hZ hown (host := "") (Or.inl (hw _ (List.mem_of_getElem? (i := 13) rfl))) Via.refl e14 F15 (g := (mkF m 133 #[.val (.ref a), .val (.long (2 : Int64)), .second, .val (.long (3 : Int64)), .second, .val (.long zz), .second, .val (.long (2 : Int64)), .second] [(.ref a)])) rfl rfl (hb hby d7_133)
  replace G : Gets p e below _ (T16.setTop (mkF m 136 #[.val (.ref a), .val (.long (2 : Int64)), .second, .val (.long (3 : Int64)), .second, .val (.long zz), .second, .val (.long (2 : Int64)), .second] [(.ref b2)])) := fun t k => G t (st16 t k)
  replace G := own_aloadN (q := 137) G X16.here hx (hb hby d7_136) rfl rfl rfl
  have F17 : Fld Z h14 a "com/example/crossbill/crossbill/csv/RecordSpans" "size" "I" (.int (2 : Int32)) := (P0.other W14 (Or.inl P13))
  obtain ⟨T18, X18, e18, st18⟩ := getF X16 hx hZ hown (host := "") (Or.inl (hw _ (List.mem_of_getElem? (i := 24) rfl))) Via.refl e16 F17 (g := (mkF m 137 #[.val (.ref a), .val (.long (2 : Int64)), .second, .val (.long (3 : Int64)), .second, .val (.long zz), .second, .val (.long (2 : Int64)), .second] [(.ref a), (.ref b2)])) rfl rfl (hb hby d7_137)
  replace G : Gets p e below _ (T18.setTop (mkF m 140 #[.val (.ref a), .val (.long (2 : Int64)), .second, .val (.long (3 : Int64)), .second, .val (.long zz), .second, .val (.long (2 : Int64)), .second] [(.int (2 : Int32)), (.ref b2)])) := fun t k => G t (st18 t k)
  replace G := own_lloadN (q := 141) G X18.here hx (hb hby d7_140) rfl rfl
  have F19 : Arv Z h14 b2 k2 .long (16 : Int32) [(.long (1 : Int64)), (.long (2 : Int64)), (.long (0 : Int64)), (.long (0 : Int64)), (.long (0 : Int64)), (.long (0 : Int64)), (.long (0 : Int64)), (.long (0 : Int64)), (.long (0 : Int64)), (.long (0 : Int64)), (.long (0 : Int64)), (.long (0 : Int64)), (.long (0 : Int64)), (.long (0 : Int64)), (.long (0 : Int64)), (.long (0 : Int64))] (.long (0 : Int64)) := (P7.other W14 (Ne.symm P16))
  obtain ⟨c20, Ar20, q20, S20, N20', H20, G20'⟩ := id F19
  have hin20 : ¬ ((2 : Int32) < 0 ∨ c20.slots.size ≤ ((2 : Int32)).toNatClampNeg) := inb_of S20 ⟨by decide, by decide⟩
  obtain ⟨T20, h20, X20, e20, W20, st20⟩ := stJ X18 hx hZ e18 Ar20 (j := (2 : Int32)) hin20 (g := (mkF m 141 #[.val (.ref a), .val (.long (2 : Int64)), .second, .val (.long (3 : Int64)), .second, .val (.long zz), .second, .val (.long (2 : Int64)), .second] [(.long (3 : Int64)), (.int (2 : Int32)), (.ref b2)])) rfl rfl (hb hby d7_141)
  have N20 := Fr.snoc X20 N14 P11
  have Z20 : n0 ≤ h20.size := Nat.le_trans Z14 (Keep.of_wr W20).1
  have K20 : Keep h0 h20 [a, b1, b2, b3] := K14.wr W20 (Or.inl (List.mem_of_getElem? (i := 2) rfl))
  have V20 : Arv Z h20 b2 k2 .long (16 : Int32) [(.long (1 : Int64)), (.long (2 : Int64)), (.long (3 : Int64)), (.long (0 : Int64)), (.long (0 : Int64)), (.long (0 : Int64)), (.long (0 : Int64)), (.long (0 : Int64)), (.long (0 : Int64)), (.long (0 : Int64)), (.long (0 : Int64)), (.long (0 : Int64)), (.long (0 : Int64)), (.long (0 : Int64)), (.long (0 : Int64)), (.long (0 : Int64))] (.long (0 : Int64)) := Arv.set Ar20 q20 S20 N20' H20 G20' rfl W20 2 rfl (Nat.le_of_ble_eq_true rfl)
  replace G : Gets p e below _ (T20.setTop (mkF m 142 #[.val (.ref a), .val (.long (2 : Int64)), .second, .val (.long (3 : Int64)), .second, .val (.long zz), .second, .val (.long (2 : Int64)), .second] [])) := fun t k => G t (st20 t k)
  replace G := own_aloadN (q := 143) G X20.here hx (hb hby d7_142) rfl rfl rfl
  have F21 : Fld Z h20 a "com/example/crossbill/crossbill/csv/RecordSpans" "lines" "[J" (.ref b3) := ((P3.other W14 (Or.inl P13)).other W20 (Or.inl P14))
  obtain ⟨T22, X22, e22, st22⟩ := getF X20 hx hZ hown (host := "") (Or.inl (hw _ (List.mem_of_getElem? (i := 15) rfl))) Via.refl e20 F21 (g := (mkF m 143 #[.val (.ref a), .val (.long (2 : Int64)), .second, .val (.long (3 : Int64)), .second, .val (.long zz), .second, .val (.long (2 : Int64)), .second] [(.ref a)])) rfl rfl (hb hby d7_143)
  replace G : Gets p e below _ (T22.setTop (mkF m 146 #[.val (.ref a), .val (.long (2 : Int64)), .second, .val (.long (3 : Int64)), .second, .val (.long zz), .second, .val (.long (2 : Int64)), .second] [(.ref b3)])) := fun t k => G t (st22 t k)
  replace G := own_aloadN (q := 147) G X22.here hx (hb hby d7_146) rfl rfl rfl
  have F23 : Fld Z h20 a "com/example/crossbill/crossbill/csv/RecordSpans" "size" "I" (.int (2 : Int32)) := (F17.other W20 (Or.inl P14))
  obtain ⟨T24, X24, e24, st24⟩ := getF X22 hx hZ hown (host := "") (Or.inl (hw _ (List.mem_of_getElem? (i := 24) rfl))) Via.refl e22 F23 (g := (mkF m 147 #[.val (.ref a), .val (.long (2 : Int64)), .second, .val (.long (3 : Int64)), .second, .val (.long zz), .second, .val (.long (2 : Int64)), .second] [(.ref a), (.ref b3)])) rfl rfl (hb hby d7_147)
  replace G : Gets p e below _ (T24.setTop (mkF m 150 #[.val (.ref a), .val (.long (2 : Int64)), .second, .val (.long (3 : Int64)), .second, .val (.long zz), .second, .val (.long (2 : Int64)), .second] [(.int (2 : Int32)), (.ref b3)])) := fun t k => G t (st24 t k)
  replace G := own_lload (q := 152) G X24.here hx (hb hby d7_150) rfl rfl
  have F25 : Arv Z h20 b3 k3 .long (16 : Int32) [(.long z0), (.long z1), (.long (0 : Int64)), (.long (0 : Int64)), (.long (0 : Int64)), (.long (0 : Int64)), (.long (0 : Int64)), (.long (0 : Int64)), (.long (0 : Int64)), (.long (0 : Int64)), (.long (0 : Int64)), (.long (0 : Int64)), (.long (0 : Int64)), (.long (0 : Int64)), (.long (0 : Int64)), (.long (0 : Int64))] (.long (0 : Int64)) := ((P8.other W14 (Ne.symm P17)).other W20 (Ne.symm P18))
  obtain ⟨c26, Ar26, q26, S26, N26', H26, G26'⟩ := id F25
  have hin26 : ¬ ((2 : Int32) < 0 ∨ c26.slots.size ≤ ((2 : Int32)).toNatClampNeg) := inb_of S26 ⟨by decide, by decide⟩
  obtain ⟨T26, h26, X26, e26, W26, st26⟩ := stJ X24 hx hZ e24 Ar26 (j := (2 : Int32)) hin26 (g := (mkF m 152 #[.val (.ref a), .val (.long (2 : Int64)), .second, .val (.long (3 : Int64)), .second, .val (.long zz), .second, .val (.long (2 : Int64)), .second] [(.long zz), (.int (2 : Int32)), (.ref b3)])) rfl rfl (hb hby d7_152)
  have N26 := Fr.snoc X26 N20 P12
  have Z26 : n0 ≤ h26.size := Nat.le_trans Z20 (Keep.of_wr W26).1
  have K26 : Keep h0 h26 [a, b1, b2, b3] := K20.wr W26 (Or.inl (List.mem_of_getElem? (i := 3) rfl))
  have V26 : Arv Z h26 b3 k3 .long (16 : Int32) [(.long z0), (.long z1), (.long zz), (.long (0 : Int64)), (.long (0 : Int64)), (.long (0 : Int64)), (.long (0 : Int64)), (.long (0 : Int64)), (.long (0 : Int64)), (.long (0 : Int64)), (.long (0 : Int64)), (.long (0 : Int64)), (.long (0 : Int64)), (.long (0 : Int64)), (.long (0 : Int64)), (.long (0 : Int64))] (.long (0 : Int64)) := Arv.set Ar26 q26 S26 N26' H26 G26' rfl W26 2 rfl (Nat.le_of_ble_eq_true rfl)
  replace G : Gets p e below _ (T26.setTop (mkF m 153 #[.val (.ref a), .val (.long (2 : Int64)), .second, .val (.long (3 : Int64)), .second, .val (.long zz), .second, .val (.long (2 : Int64)), .second] [])) := fun t k => G t (st26 t k)
  replace G := own_aloadN (q := 154) G X26.here hx (hb hby d7_153) rfl rfl rfl
  replace G := own_dup (q := 155) G X26.here hx (hb hby d7_154) rfl rfl
  have F27 : Fld Z h26 a "com/example/crossbill/crossbill/csv/RecordSpans" "size" "I" (.int (2 : Int32)) := (F23.other W26 (Or.inl P15))
  obtain ⟨T28, X28, e28, st28⟩ := getF X26 hx hZ hown (host := "") (Or.inl (hw _ (List.mem_of_getElem? (i := 24) rfl))) Via.refl e26 F27 (g := (mkF m 155 #[.val (.ref a), .val (.long (2 : Int64)), .second, .val (.long (3 : Int64)), .second, .val (.long zz), .second, .val (.long (2 : Int64)), .second] [(.ref a), (.ref a)])) rfl rfl (hb hby d7_155)
  replace G : Gets p e below _ (T28.setTop (mkF m 158 #[.val (.ref a), .val (.long (2 : Int64)), .second, .val (.long (3 : Int64)), .second, .val (.long zz), .second, .val (.long (2 : Int64)), .second] [(.int (2 : Int32)), (.ref a)])) := fun t k => G t (st28 t k)
  replace G := own_iconst (q := 159) G X28.here hx (hb hby d7_158) (v := (1 : Int32)) (by decide) rfl
  replace G := own_iadd (q := 160) G X28.here hx (hb hby d7_159) (by decide : ((2 : Int32) + (1 : Int32)) = (3 : Int32)) rfl
  have F29 : Exa Z h26 a "com/example/crossbill/crossbill/csv/RecordSpans" := (((P5.wr W14).wr W20).wr W26)
  obtain ⟨T30, h30, X30, e30, W30, st30⟩ := putF X28 hx hZ hown (host := "") (Or.inl (hw _ (List.mem_of_getElem? (i := 24) rfl))) Via.refl e28 F27 F29 (Or.inl (hw _ (List.mem_of_getElem? (i := 25) rfl))) (hw _ (List.mem_of_getElem? (i := 2) rfl)) (ty := .int) (by decide) rfl rfl (g := (mkF m 160 #[.val (.ref a), .val (.long (2 : Int64)), .second, .val (.long (3 : Int64)), .second, .val (.long zz), .second, .val (.long (2 : Int64)), .second] [(.int (3 : Int32)), (.ref a)])) rfl rfl (hb hby d7_160)
  have N30 := Fr.snoc X30 N26 P9
  have Z30 : n0 ≤ h30.size := Nat.le_trans Z26 (Keep.of_wr W30).1
  have K30 : Keep h0 h30 [a, b1, b2, b3] := K26.wr W30 (Or.inl (List.mem_of_getElem? (i := 0) rfl))
  have F30 : Fld Z h30 a "com/example/crossbill/crossbill/csv/RecordSpans" "size" "I" (.int (3 : Int32)) := F27.same W30
  replace G : Gets p e below _ (T30.setTop (mkF m 163 #[.val (.ref a), .val (.long (2 : Int64)), .second, .val (.long (3 : Int64)), .second, .val (.long zz), .second, .val (.long (2 : Int64)), .second] [])) := fun t k => G t (st30 t k)
  obtain ⟨fs, hr, hrun, hended, hW, hsame⟩ := X30.leave (v := none) (fun _ => rfl)
  refine ⟨_, _, G _ (X30.returnOut hx Bd.returns (hb hby d7_163) hr), hrun, hended, _, _, rfl, ?_, ⟨_, rfl⟩, hW, hsame.mono (by decide) (by decide)⟩
  have F31 : Fld Z h30 a "com/example/crossbill/crossbill/csv/RecordSpans" "starts" "[J" (.ref b1) := ((((P1.other W14 (Or.inl P13)).other W20 (Or.inl P14)).other W26 (Or.inl P15)).other W30 (Or.inr (slot_ne (Or.inl (hw _ (List.mem_of_getElem? (i := 12) rfl))) (Or.inl (hw _ (List.mem_of_getElem? (i := 25) rfl))) (by decide) (t := (.array .long)) (t' := .int) (by decide) (by decide))))
  have F32 : Fld Z h30 a "com/example/crossbill/crossbill/csv/RecordSpans" "ends" "[J" (.ref b2) := (((F15.other W20 (Or.inl P14)).other W26 (Or.inl P15)).other W30 (Or.inr (slot_ne (Or.inl (hw _ (List.mem_of_getElem? (i := 14) rfl))) (Or.inl (hw _ (List.mem_of_getElem? (i := 25) rfl))) (by decide) (t := (.array .long)) (t' := .int) (by decide) (by decide))))
  have F33 : Fld Z h30 a "com/example/crossbill/crossbill/csv/RecordSpans" "lines" "[J" (.ref b3) := ((F21.other W26 (Or.inl P15)).other W30 (Or.inr (slot_ne (Or.inl (hw _ (List.mem_of_getElem? (i := 16) rfl))) (Or.inl (hw _ (List.mem_of_getElem? (i := 25) rfl))) (by decide) (t := (.array .long)) (t' := .int) (by decide) (by decide))))
  have F34 : Fld Z h30 a "com/example/crossbill/crossbill/csv/RecordSpans" "headerEnd" "J" (.long (0 : Int64)) := ((((P4.other W14 (Or.inl P13)).other W20 (Or.inl P14)).other W26 (Or.inl P15)).other W30 (Or.inr (slot_ne (Or.inr (hw _ (List.mem_of_getElem? (i := 18) rfl))) (Or.inl (hw _ (List.mem_of_getElem? (i := 25) rfl))) (by decide) (t := .long) (t' := .int) (by decide) (by decide))))
  have F35 : Arv Z h30 b1 k1 .long (16 : Int32) [(.long (0 : Int64)), (.long (1 : Int64)), (.long (2 : Int64)), (.long (0 : Int64)), (.long (0 : Int64)), (.long (0 : Int64)), (.long (0 : Int64)), (.long (0 : Int64)), (.long (0 : Int64)), (.long (0 : Int64)), (.long (0 : Int64)), (.long (0 : Int64)), (.long (0 : Int64)), (.long (0 : Int64)), (.long (0 : Int64)), (.long (0 : Int64))] (.long (0 : Int64)) := (((V14.other W20 P16).other W26 P17).other W30 (Ne.symm P13))
  have F36 : Arv Z h30 b2 k2 .long (16 : Int32) [(.long (1 : Int64)), (.long (2 : Int64)), (.long (3 : Int64)), (.long (0 : Int64)), (.long (0 : Int64)), (.long (0 : Int64)), (.long (0 : Int64)), (.long (0 : Int64)), (.long (0 : Int64)), (.long (0 : Int64)), (.long (0 : Int64)), (.long (0 : Int64)), (.long (0 : Int64)), (.long (0 : Int64)), (.long (0 : Int64)), (.long (0 : Int64))] (.long (0 : Int64)) := ((V20.other W26 P18).other W30 (Ne.symm P14))
  have F37 : Arv Z h30 b3 k3 .long (16 : Int32) [(.long z0), (.long z1), (.long zz), (.long (0 : Int64)), (.long (0 : Int64)), (.long (0 : Int64)), (.long (0 : Int64)), (.long (0 : Int64)), (.long (0 : Int64)), (.long (0 : Int64)), (.long (0 : Int64)), (.long (0 : Int64)), (.long (0 : Int64)), (.long (0 : Int64)), (.long (0 : Int64)), (.long (0 : Int64))] (.long (0 : Int64)) := (V26.other W30 (Ne.symm P15))
  show Q7s2 Z a zz b1 b2 b3 k1 k2 k3 z0 z1 h0 n0 _ T30.heap _
  rw [e30]
  exact ⟨rfl, N30, K30, F30, F31, F32, F33, F34, F35, F36, F37⟩
theorem ef_7s3 (m : MethodId) (x0 : Addr) (x3 : Int64) : entryFrame m #[(.ref x0), (.long (3 : Int64)), (.long (4 : Int64)), (.long x3)] 9 = mkF m 0 #[.val (.ref x0), .val (.long (3 : Int64)), .second, .val (.long (4 : Int64)), .second, .val (.long x3), .second, .unset, .unset] [] := by first | (simp [entryFrame, mkF, argsToLocals, Value.category]; done) | rfl
def Q7s3 (Z : State) (a : Addr) (zz : Int64) (b1 : Addr) (b2 : Addr) (b3 : Addr) (k1 : ClassId) (k2 : ClassId) (k3 : ClassId) (z0 : Int64) (z1 : Int64) (z2 : Int64) (h0 : Heap) (n0 : Nat) (v : Option Value) (h : Heap) (L : List Loc) : Prop := v = none ∧ Fr n0 L ∧ Keep h0 h [a, b1, b2, b3] ∧ (Fld Z h a "com/example/crossbill/crossbill/csv/RecordSpans" "size" "I" (.int (4 : Int32))) ∧ (Fld Z h a "com/example/crossbill/crossbill/csv/RecordSpans" "starts" "[J" (.ref b1)) ∧ (Fld Z h a "com/example/crossbill/crossbill/csv/RecordSpans" "ends" "[J" (.ref b2)) ∧ (Fld Z h a "com/example/crossbill/crossbill/csv/RecordSpans" "lines" "[J" (.ref b3)) ∧ (Fld Z h a "com/example/crossbill/crossbill/csv/RecordSpans" "headerEnd" "J" (.long (0 : Int64))) ∧ (Arv Z h b1 k1 .long (16 : Int32) [(.long (0 : Int64)), (.long (1 : Int64)), (.long (2 : Int64)), (.long (3 : Int64)), (.long (0 : Int64)), (.long (0 : Int64)), (.long (0 : Int64)), (.long (0 : Int64)), (.long (0 : Int64)), (.long (0 : Int64)), (.long (0 : Int64)), (.long (0 : Int64)), (.long (0 : Int64)), (.long (0 : Int64)), (.long (0 : Int64)), (.long (0 : Int64))] (.long (0 : Int64))) ∧ (Arv Z h b2 k2 .long (16 : Int32) [(.long (1 : Int64)), (.long (2 : Int64)), (.long (3 : Int64)), (.long (4 : Int64)), (.long (0 : Int64)), (.long (0 : Int64)), (.long (0 : Int64)), (.long (0 : Int64)), (.long (0 : Int64)), (.long (0 : Int64)), (.long (0 : Int64)), (.long (0 : Int64)), (.long (0 : Int64)), (.long (0 : Int64)), (.long (0 : Int64)), (.long (0 : Int64))] (.long (0 : Int64))) ∧ (Arv Z h b3 k3 .long (16 : Int32) [(.long z0), (.long z1), (.long z2), (.long zz), (.long (0 : Int64)), (.long (0 : Int64)), (.long (0 : Int64)), (.long (0 : Int64)), (.long (0 : Int64)), (.long (0 : Int64)), (.long (0 : Int64)), (.long (0 : Int64)), (.long (0 : Int64)), (.long (0 : Int64)), (.long (0 : Int64)), (.long (0 : Int64))] (.long (0 : Int64)))
set_option maxRecDepth 65536 in
set_option maxHeartbeats 40000000 in
theorem rm7s3 (l : Launch) (Z : State) (a0 : Array Value) (hw : ∀ d ∈ tables_1, d.before a0 Z = true) (ws : List Jvm.Cond) (a : Addr) (zz : Int64) (b1 : Addr) (b2 : Addr) (b3 : Addr) (k1 : ClassId) (k2 : ClassId) (k3 : ClassId) (z0 : Int64) (z1 : Int64) (z2 : Int64) (h0 : Heap) (n0 : Nat) (Z0 : n0 ≤ h0.size) (P0 : Fld Z h0 a "com/example/crossbill/crossbill/csv/RecordSpans" "size" "I" (.int (3 : Int32))) (P1 : Fld Z h0 a "com/example/crossbill/crossbill/csv/RecordSpans" "starts" "[J" (.ref b1)) (P2 : Fld Z h0 a "com/example/crossbill/crossbill/csv/RecordSpans" "ends" "[J" (.ref b2)) (P3 : Fld Z h0 a "com/example/crossbill/crossbill/csv/RecordSpans" "lines" "[J" (.ref b3)) (P4 : Fld Z h0 a "com/example/crossbill/crossbill/csv/RecordSpans" "headerEnd" "J" (.long (0 : Int64))) (P5 : Exa Z h0 a "com/example/crossbill/crossbill/csv/RecordSpans") (P6 : Arv Z h0 b1 k1 .long (16 : Int32) [(.long (0 : Int64)), (.long (1 : Int64)), (.long (2 : Int64)), (.long (0 : Int64)), (.long (0 : Int64)), (.long (0 : Int64)), (.long (0 : Int64)), (.long (0 : Int64)), (.long (0 : Int64)), (.long (0 : Int64)), (.long (0 : Int64)), (.long (0 : Int64)), (.long (0 : Int64)), (.long (0 : Int64)), (.long (0 : Int64)), (.long (0 : Int64))] (.long (0 : Int64))) (P7 : Arv Z h0 b2 k2 .long (16 : Int32) [(.long (1 : Int64)), (.long (2 : Int64)), (.long (3 : Int64)), (.long (0 : Int64)), (.long (0 : Int64)), (.long (0 : Int64)), (.long (0 : Int64)), (.long (0 : Int64)), (.long (0 : Int64)), (.long (0 : Int64)), (.long (0 : Int64)), (.long (0 : Int64)), (.long (0 : Int64)), (.long (0 : Int64)), (.long (0 : Int64)), (.long (0 : Int64))] (.long (0 : Int64))) (P8 : Arv Z h0 b3 k3 .long (16 : Int32) [(.long z0), (.long z1), (.long z2), (.long (0 : Int64)), (.long (0 : Int64)), (.long (0 : Int64)), (.long (0 : Int64)), (.long (0 : Int64)), (.long (0 : Int64)), (.long (0 : Int64)), (.long (0 : Int64)), (.long (0 : Int64)), (.long (0 : Int64)), (.long (0 : Int64)), (.long (0 : Int64)), (.long (0 : Int64))] (.long (0 : Int64))) (P9 : n0 ≤ a) (P10 : n0 ≤ b1) (P11 : n0 ≤ b2) (P12 : n0 ≤ b3) (P13 : a ≠ b1) (P14 : a ≠ b2) (P15 : a ≠ b3) (P16 : b1 ≠ b2) (P17 : b1 ≠ b3) (P18 : b2 ≠ b3) :
    MetFree l (⟨"com/example/crossbill/crossbill/csv/RecordSpans", "add", "(JJJ)V"⟩ : MethodName) (head1 (Jvm.Cond.code (⟨"com/example/crossbill/crossbill/csv/RecordSpans", "add", "(JJJ)V"⟩ : MethodName) prog_17_method_2_code 9 none :: ws) ({ frames := 0, cells := 0, slots := 0, locals := 0 } : Room)) (fun argz U => argz = #[(.ref a), (.long (3 : Int64)), (.long (4 : Int64)), (.long zz)] ∧ Z.Warmed39 U.vm ∧ U.heap = h0) (fun _ _ _ _ _ => True) (fun _ U o U' => ∃ v L, o = .returned v ∧ Q7s3 Z a zz b1 b2 b3 k1 k2 k3 z0 z1 z2 h0 n0 v U'.heap L ∧ FrameEnd U o U' L ({ frames := 0, cells := 0, slots := 0, locals := 0 } : Room).cells ({ frames := 0, cells := 0, slots := 0, locals := 0 } : Room).slots) := by
  refine MetFree.of_bodySF (plainFor_of_name pn_com_example_crossbill_crossbill_csv_RecordSpans) hisR ?_
  intro p e s m args below meth c s₁ Bd hml0 hP hK
  obtain ⟨rfl, hZ, hh⟩ := hP
  have hx := Bd.exec
  have hby := Bd.bytes
  have hml : c.maxLocals = 9 := hml0
  have hown : s.vm.findClass "com/example/crossbill/crossbill/csv/RecordSpans" = some m.cls := findClass_of_methodNamed Bd.named
  have hnm := (name_of_methodNamed Bd.named Bd.method).1
  have X0 : Stand p l e ({ frames := 0, cells := 0, slots := 0, locals := 0 } : Room) s m #[(.ref a), (.long (3 : Int64)), (.long (4 : Int64)), (.long zz)] below meth c s₁ [] 0 0 := Stand.of_body Bd
  have e0 : s₁.heap = h0 := by rw [← hh, Bd.state]; rfl
  have N0 := Fr.nil n0
  have K0 : Keep h0 h0 [a, b1, b2, b3] := Keep.refl _ _
  have G : Gets p e below (s₁.setTop (entryFrame m #[(.ref a), (.long (3 : Int64)), (.long (4 : Int64)), (.long zz)] 9)) (s₁.setTop (mkF m 0 #[.val (.ref a), .val (.long (3 : Int64)), .second, .val (.long (4 : Int64)), .second, .val (.long zz), .second, .unset, .unset] [])) := fun t k => castTop (ef_7s3 m a zz) k
  replace G := own_aloadN (q := 1) G X0.here hx (hb hby d7_0) rfl rfl rfl
  obtain ⟨T1, X1, e1, st1⟩ := getF X0 hx hZ hown (host := "") (Or.inl (hw _ (List.mem_of_getElem? (i := 24) rfl))) Via.refl e0 P0 (g := (mkF m 1 #[.val (.ref a), .val (.long (3 : Int64)), .second, .val (.long (4 : Int64)), .second, .val (.long zz), .second, .unset, .unset] [(.ref a)])) rfl rfl (hb hby d7_1)
  replace G : Gets p e below _ (T1.setTop (mkF m 4 #[.val (.ref a), .val (.long (3 : Int64)), .second, .val (.long (4 : Int64)), .second, .val (.long zz), .second, .unset, .unset] [(.int (3 : Int32))])) := fun t k => G t (st1 t k)
  have hc4_2 : ¬ ((3 : Int32) = (0 : Int32)) := by decide
  replace G := own_ifYes (q := 16) G X1.here hx (hb hby d7_4) ((if0 _ _).trans (feq hc4_2).2) (by decide) (by decide)
  replace G := own_aloadN (q := 17) G X1.here hx (hb hby d7_16) rfl rfl rfl
  obtain ⟨T3, X3, e3, st3⟩ := getF X1 hx hZ hown (host := "") (Or.inl (hw _ (List.mem_of_getElem? (i := 13) rfl))) Via.refl e1 P2 (g := (mkF m 17 #[.val (.ref a), .val (.long (3 : Int64)), .second, .val (.long (4 : Int64)), .second, .val (.long zz), .second, .unset, .unset] [(.ref a)])) rfl rfl (hb hby d7_17)
  replace G : Gets p e below _ (T3.setTop (mkF m 20 #[.val (.ref a), .val (.long (3 : Int64)), .second, .val (.long (4 : Int64)), .second, .val (.long zz), .second, .unset, .unset] [(.ref b2)])) := fun t k => G t (st3 t k)
  replace G := own_aloadN (q := 21) G X3.here hx (hb hby d7_20) rfl rfl rfl
  obtain ⟨T4, X4, e4, st4⟩ := getF X3 hx hZ hown (host := "") (Or.inl (hw _ (List.mem_of_getElem? (i := 24) rfl))) Via.refl e3 P0 (g := (mkF m 21 #[.val (.ref a), .val (.long (3 : Int64)), .second, .val (.long (4 : Int64)), .second, .val (.long zz), .second, .unset, .unset] [(.ref a), (.ref b2)])) rfl rfl (hb hby d7_21)
  replace G : Gets p e below _ (T4.setTop (mkF m 24 #[.val (.ref a), .val (.long (3 : Int64)), .second, .val (.long (4 : Int64)), .second, .val (.long zz), .second, .unset, .unset] [(.int (3 : Int32)), (.ref b2)])) := fun t k => G t (st4 t k)
  replace G := own_iconst (q := 25) G X4.here hx (hb hby d7_24) (v := (1 : Int32)) (by decide) rfl
  replace G := own_isub (q := 26) G X4.here hx (hb hby d7_25) (by decide : ((3 : Int32) - (1 : Int32)) = (2 : Int32)) rfl
  obtain ⟨c5, Ar5, -, S5, -, H5, -⟩ := id P7
  have hin5 : ¬ ((2 : Int32) < 0 ∨ c5.slots.size ≤ ((2 : Int32)).toNatClampNeg) := inb_of S5 ⟨by decide, by decide⟩
  replace G : Gets p e below _ (T4.setTop (mkF m 27 #[.val (.ref a), .val (.long (3 : Int64)), .second, .val (.long (4 : Int64)), .second, .val (.long zz), .second, .unset, .unset] [(.long (3 : Int64))])) := fun t k => G t (X4.laload hx (j := (2 : Int32)) (v := (.long (3 : Int64))) (by rw [e4]; exact Ar5.1) (State.isArrayOf_alike hZ.alike Ar5.2.1) Ar5.2.2 hin5 (Has.at H5 hin5 rfl) (g := (mkF m 26 #[.val (.ref a), .val (.long (3 : Int64)), .second, .val (.long (4 : Int64)), .second, .val (.long zz), .second, .unset, .unset] [(.int (2 : Int32)), (.ref b2)])) rfl rfl (hb hby d7_26) t k)
  replace G := own_lstore (q := 29) (l' := #[.val (.ref a), .val (.long (3 : Int64)), .second, .val (.long (4 : Int64)), .second, .val (.long zz), .second, .val (.long (3 : Int64)), .second]) G X4.here hx (hb hby d7_27) rfl rfl
  replace G := own_lloadN (q := 30) G X4.here hx (hb hby d7_29) rfl rfl
  replace G := own_lload (q := 32) G X4.here hx (hb hby d7_30) rfl rfl
  replace G := own_lcmp (q := 33) G X4.here hx (hb hby d7_32) rfl
  have hc33_6 : ¬ ((3 : Int64) < (3 : Int64)) := by decide
  replace G := own_ifNo (q := 36) G X4.here hx (hb hby d7_33) ((if0 _ _).trans (flt (fun z => hc33_6 ((lw_lt _ _).mp z))).1) rfl
  replace G := own_lloadN (q := 37) G X4.here hx (hb hby d7_36) rfl rfl
  replace G := own_lloadN (q := 38) G X4.here hx (hb hby d7_37) rfl rfl
  replace G := own_lcmp (q := 39) G X4.here hx (hb hby d7_38) rfl
  have hc39_7 : (3 : Int64) < (4 : Int64) := by decide
  replace G := own_ifYes (q := 59) G X4.here hx (hb hby d7_39) ((if0 _ _).trans (tlt ((lw_gt _ _).mpr hc39_7)).2.2.1) (by decide) (by decide)
  replace G := own_aloadN (q := 60) G X4.here hx (hb hby d7_59) rfl rfl rfl
  obtain ⟨T8, X8, e8, st8⟩ := getF X4 hx hZ hown (host := "") (Or.inl (hw _ (List.mem_of_getElem? (i := 24) rfl))) Via.refl e4 P0 (g := (mkF m 60 #[.val (.ref a), .val (.long (3 : Int64)), .second, .val (.long (4 : Int64)), .second, .val (.long zz), .second, .val (.long (3 : Int64)), .second] [(.ref a)])) rfl rfl (hb hby d7_60)
  replace G : Gets p e below _ (T8.setTop (mkF m 63 #[.val (.ref a), .val (.long (3 : Int64)), .second, .val (.long (4 : Int64)), .second, .val (.long zz), .second, .val (.long (3 : Int64)), .second] [(.int (3 : Int32))])) := fun t k => G t (st8 t k)
  replace G := own_aloadN (q := 64) G X8.here hx (hb hby d7_63) rfl rfl rfl
  obtain ⟨T9, X9, e9, st9⟩ := getF X8 hx hZ hown (host := "") (Or.inl (hw _ (List.mem_of_getElem? (i := 11) rfl))) Via.refl e8 P1 (g := (mkF m 64 #[.val (.ref a), .val (.long (3 : Int64)), .second, .val (.long (4 : Int64)), .second, .val (.long zz), .second, .val (.long (3 : Int64)), .second] [(.ref a), (.int (3 : Int32))])) rfl rfl (hb hby d7_64)
  replace G : Gets p e below _ (T9.setTop (mkF m 67 #[.val (.ref a), .val (.long (3 : Int64)), .second, .val (.long (4 : Int64)), .second, .val (.long zz), .second, .val (.long (3 : Int64)), .second] [(.ref b1), (.int (3 : Int32))])) := fun t k => G t (st9 t k)
  obtain ⟨c10, Ar10, -, S10, N10', -, -⟩ := id P6
  replace G : Gets p e below _ (T9.setTop (mkF m 68 #[.val (.ref a), .val (.long (3 : Int64)), .second, .val (.long (4 : Int64)), .second, .val (.long zz), .second, .val (.long (3 : Int64)), .second] [(.int (16 : Int32)), (.int (3 : Int32))])) := fun t k => G t (X9.arraylength hx (by rw [e9]; exact Ar10.1) (State.isArrayOf_alike hZ.alike Ar10.2.1) (g := (mkF m 67 #[.val (.ref a), .val (.long (3 : Int64)), .second, .val (.long (4 : Int64)), .second, .val (.long zz), .second, .val (.long (3 : Int64)), .second] [(.ref b1), (.int (3 : Int32))])) rfl rfl (hb hby d7_67) t (by rw [len_of S10 N10']; exact k))
  have hc68_11 : ¬ ((3 : Int32) = (16 : Int32)) := by decide
  replace G := own_icmpYes (q := 122) G X9.here hx (hb hby d7_68) (feq hc68_11).2 (by decide) (by decide)
  replace G := own_aloadN (q := 123) G X9.here hx (hb hby d7_122) rfl rfl rfl
  obtain ⟨T12, X12, e12, st12⟩ := getF X9 hx hZ hown (host := "") (Or.inl (hw _ (List.mem_of_getElem? (i := 11) rfl))) Via.refl e9 P1 (g := (mkF m 123 #[.val (.ref a), .val (.long (3 : Int64)), .second, .val (.long (4 : Int64)), .second, .val (.long zz), .second, .val (.long (3 : Int64)), .second] [(.ref a)])) rfl rfl (hb hby d7_123)
  replace G : Gets p e below _ (T12.setTop (mkF m 126 #[.val (.ref a), .val (.long (3 : Int64)), .second, .val (.long (4 : Int64)), .second, .val (.long zz), .second, .val (.long (3 : Int64)), .second] [(.ref b1)])) := fun t k => G t (st12 t k)
  replace G := own_aloadN (q := 127) G X12.here hx (hb hby d7_126) rfl rfl rfl
  obtain ⟨T13, X13, e13, st13⟩ := getF X12 hx hZ hown (host := "") (Or.inl (hw _ (List.mem_of_getElem? (i := 24) rfl))) Via.refl e12 P0 (g := (mkF m 127 #[.val (.ref a), .val (.long (3 : Int64)), .second, .val (.long (4 : Int64)), .second, .val (.long zz), .second, .val (.long (3 : Int64)), .second] [(.ref a), (.ref b1)])) rfl rfl (hb hby d7_127)
  replace G : Gets p e below _ (T13.setTop (mkF m 130 #[.val (.ref a), .val (.long (3 : Int64)), .second, .val (.long (4 : Int64)), .second, .val (.long zz), .second, .val (.long (3 : Int64)), .second] [(.int (3 : Int32)), (.ref b1)])) := fun t k => G t (st13 t k)
  replace G := own_lloadN (q := 131) G X13.here hx (hb hby d7_130) rfl rfl
  obtain ⟨c14, Ar14, q14, S14, N14', H14, G14'⟩ := id P6
  have hin14 : ¬ ((3 : Int32) < 0 ∨ c14.slots.size ≤ ((3 : Int32)).toNatClampNeg) := inb_of S14 ⟨by decide, by decide⟩
  obtain ⟨T14, h14, X14, e14, W14, st14⟩ := stJ X13 hx hZ e13 Ar14 (j := (3 : Int32)) hin14 (g := (mkF m 131 #[.val (.ref a), .val (.long (3 : Int64)), .second, .val (.long (4 : Int64)), .second, .val (.long zz), .second, .val (.long (3 : Int64)), .second] [(.long (3 : Int64)), (.int (3 : Int32)), (.ref b1)])) rfl rfl (hb hby d7_131)
  have N14 := Fr.snoc X14 N0 P10
  have Z14 : n0 ≤ h14.size := Nat.le_trans Z0 (Keep.of_wr W14).1
  have K14 : Keep h0 h14 [a, b1, b2, b3] := K0.wr W14 (Or.inl (List.mem_of_getElem? (i := 1) rfl))
  have V14 : Arv Z h14 b1 k1 .long (16 : Int32) [(.long (0 : Int64)), (.long (1 : Int64)), (.long (2 : Int64)), (.long (3 : Int64)), (.long (0 : Int64)), (.long (0 : Int64)), (.long (0 : Int64)), (.long (0 : Int64)), (.long (0 : Int64)), (.long (0 : Int64)), (.long (0 : Int64)), (.long (0 : Int64)), (.long (0 : Int64)), (.long (0 : Int64)), (.long (0 : Int64)), (.long (0 : Int64))] (.long (0 : Int64)) := Arv.set Ar14 q14 S14 N14' H14 G14' rfl W14 3 rfl (Nat.le_of_ble_eq_true rfl)
  replace G : Gets p e below _ (T14.setTop (mkF m 132 #[.val (.ref a), .val (.long (3 : Int64)), .second, .val (.long (4 : Int64)), .second, .val (.long zz), .second, .val (.long (3 : Int64)), .second] [])) := fun t k => G t (st14 t k)
  replace G := own_aloadN (q := 133) G X14.here hx (hb hby d7_132) rfl rfl rfl
  have F15 : Fld Z h14 a "com/example/crossbill/crossbill/csv/RecordSpans" "ends" "[J" (.ref b2) := (P2.other W14 (Or.inl P13))
  obtain ⟨T16, X16, e16, st16⟩ := getF X14 hx hZ hown (host := "") (Or.inl (hw _ (List.mem_of_getElem? (i := 13) rfl))) Via.refl e14 F15 (g := (mkF m 133 #[.val (.ref a), .val (.long (3 : Int64)), .second, .val (.long (4 : Int64)), .second, .val (.long zz), .second, .val (.long (3 : Int64)), .second] [(.ref a)])) rfl rfl (hb hby d7_133)
  replace G : Gets p e below _ (T16.setTop (mkF m 136 #[.val (.ref a), .val (.long (3 : Int64)), .second, .val (.long (4 : Int64)), .second, .val (.long zz), .second, .val (.long (3 : Int64)), .second] [(.ref b2)])) := fun t k => G t (st16 t k)
  replace G := own_aloadN (q := 137) G X16.here hx (hb hby d7_136) rfl rfl rfl
  have F17 : Fld Z h14 a "com/example/crossbill/crossbill/csv/RecordSpans" "size" "I" (.int (3 : Int32)) := (P0.other W14 (Or.inl P13))
  obtain ⟨T18, X18, e18, st18⟩ := getF X16 hx hZ hown (host := "") (Or.inl (hw _ (List.mem_of_getElem? (i := 24) rfl))) Via.refl e16 F17 (g := (mkF m 137 #[.val (.ref a), .val (.long (3 : Int64)), .second, .val (.long (4 : Int64)), .second, .val (.long zz), .second, .val (.long (3 : Int64)), .second] [(.ref a), (.ref b2)])) rfl rfl (hb hby d7_137)
  replace G : Gets p e below _ (T18.setTop (mkF m 140 #[.val (.ref a), .val (.long (3 : Int64)), .second, .val (.long (4 : Int64)), .second, .val (.long zz), .second, .val (.long (3 : Int64)), .second] [(.int (3 : Int32)), (.ref b2)])) := fun t k => G t (st18 t k)
  replace G := own_lloadN (q := 141) G X18.here hx (hb hby d7_140) rfl rfl
  have F19 : Arv Z h14 b2 k2 .long (16 : Int32) [(.long (1 : Int64)), (.long (2 : Int64)), (.long (3 : Int64)), (.long (0 : Int64)), (.long (0 : Int64)), (.long (0 : Int64)), (.long (0 : Int64)), (.long (0 : Int64)), (.long (0 : Int64)), (.long (0 : Int64)), (.long (0 : Int64)), (.long (0 : Int64)), (.long (0 : Int64)), (.long (0 : Int64)), (.long (0 : Int64)), (.long (0 : Int64))] (.long (0 : Int64)) := (P7.other W14 (Ne.symm P16))
  obtain ⟨c20, Ar20, q20, S20, N20', H20, G20'⟩ := id F19
  have hin20 : ¬ ((3 : Int32) < 0 ∨ c20.slots.size ≤ ((3 : Int32)).toNatClampNeg) := inb_of S20 ⟨by decide, by decide⟩
  obtain ⟨T20, h20, X20, e20, W20, st20⟩ := stJ X18 hx hZ e18 Ar20 (j := (3 : Int32)) hin20 (g := (mkF m 141 #[.val (.ref a), .val (.long (3 : Int64)), .second, .val (.long (4 : Int64)), .second, .val (.long zz), .second, .val (.long (3 : Int64)), .second] [(.long (4 : Int64)), (.int (3 : Int32)), (.ref b2)])) rfl rfl (hb hby d7_141)
  have N20 := Fr.snoc X20 N14 P11
  have Z20 : n0 ≤ h20.size := Nat.le_trans Z14 (Keep.of_wr W20).1
  have K20 : Keep h0 h20 [a, b1, b2, b3] := K14.wr W20 (Or.inl (List.mem_of_getElem? (i := 2) rfl))
  have V20 : Arv Z h20 b2 k2 .long (16 : Int32) [(.long (1 : Int64)), (.long (2 : Int64)), (.long (3 : Int64)), (.long (4 : Int64)), (.long (0 : Int64)), (.long (0 : Int64)), (.long (0 : Int64)), (.long (0 : Int64)), (.long (0 : Int64)), (.long (0 : Int64)), (.long (0 : Int64)), (.long (0 : Int64)), (.long (0 : Int64)), (.long (0 : Int64)), (.long (0 : Int64)), (.long (0 : Int64))] (.long (0 : Int64)) := Arv.set Ar20 q20 S20 N20' H20 G20' rfl W20 3 rfl (Nat.le_of_ble_eq_true rfl)
  replace G : Gets p e below _ (T20.setTop (mkF m 142 #[.val (.ref a), .val (.long (3 : Int64)), .second, .val (.long (4 : Int64)), .second, .val (.long zz), .second, .val (.long (3 : Int64)), .second] [])) := fun t k => G t (st20 t k)
  replace G := own_aloadN (q := 143) G X20.here hx (hb hby d7_142) rfl rfl rfl
  have F21 : Fld Z h20 a "com/example/crossbill/crossbill/csv/RecordSpans" "lines" "[J" (.ref b3) := ((P3.other W14 (Or.inl P13)).other W20 (Or.inl P14))
  obtain ⟨T22, X22, e22, st22⟩ := getF X20 hx hZ hown (host := "") (Or.inl (hw _ (List.mem_of_getElem? (i := 15) rfl))) Via.refl e20 F21 (g := (mkF m 143 #[.val (.ref a), .val (.long (3 : Int64)), .second, .val (.long (4 : Int64)), .second, .val (.long zz), .second, .val (.long (3 : Int64)), .second] [(.ref a)])) rfl rfl (hb hby d7_143)
  replace G : Gets p e below _ (T22.setTop (mkF m 146 #[.val (.ref a), .val (.long (3 : Int64)), .second, .val (.long (4 : Int64)), .second, .val (.long zz), .second, .val (.long (3 : Int64)), .second] [(.ref b3)])) := fun t k => G t (st22 t k)
  replace G := own_aloadN (q := 147) G X22.here hx (hb hby d7_146) rfl rfl rfl
  have F23 : Fld Z h20 a "com/example/crossbill/crossbill/csv/RecordSpans" "size" "I" (.int (3 : Int32)) := (F17.other W20 (Or.inl P14))
  obtain ⟨T24, X24, e24, st24⟩ := getF X22 hx hZ hown (host := "") (Or.inl (hw _ (List.mem_of_getElem? (i := 24) rfl))) Via.refl e22 F23 (g := (mkF m 147 #[.val (.ref a), .val (.long (3 : Int64)), .second, .val (.long (4 : Int64)), .second, .val (.long zz), .second, .val (.long (3 : Int64)), .second] [(.ref a), (.ref b3)])) rfl rfl (hb hby d7_147)
  replace G : Gets p e below _ (T24.setTop (mkF m 150 #[.val (.ref a), .val (.long (3 : Int64)), .second, .val (.long (4 : Int64)), .second, .val (.long zz), .second, .val (.long (3 : Int64)), .second] [(.int (3 : Int32)), (.ref b3)])) := fun t k => G t (st24 t k)
  replace G := own_lload (q := 152) G X24.here hx (hb hby d7_150) rfl rfl
  have F25 : Arv Z h20 b3 k3 .long (16 : Int32) [(.long z0), (.long z1), (.long z2), (.long (0 : Int64)), (.long (0 : Int64)), (.long (0 : Int64)), (.long (0 : Int64)), (.long (0 : Int64)), (.long (0 : Int64)), (.long (0 : Int64)), (.long (0 : Int64)), (.long (0 : Int64)), (.long (0 : Int64)), (.long (0 : Int64)), (.long (0 : Int64)), (.long (0 : Int64))] (.long (0 : Int64)) := ((P8.other W14 (Ne.symm P17)).other W20 (Ne.symm P18))
  obtain ⟨c26, Ar26, q26, S26, N26', H26, G26'⟩ := id F25
  have hin26 : ¬ ((3 : Int32) < 0 ∨ c26.slots.size ≤ ((3 : Int32)).toNatClampNeg) := inb_of S26 ⟨by decide, by decide⟩
  obtain ⟨T26, h26, X26, e26, W26, st26⟩ := stJ X24 hx hZ e24 Ar26 (j := (3 : Int32)) hin26 (g := (mkF m 152 #[.val (.ref a), .val (.long (3 : Int64)), .second, .val (.long (4 : Int64)), .second, .val (.long zz), .second, .val (.long (3 : Int64)), .second] [(.long zz), (.int (3 : Int32)), (.ref b3)])) rfl rfl (hb hby d7_152)
  have N26 := Fr.snoc X26 N20 P12
  have Z26 : n0 ≤ h26.size := Nat.le_trans Z20 (Keep.of_wr W26).1
  have K26 : Keep h0 h26 [a, b1, b2, b3] := K20.wr W26 (Or.inl (List.mem_of_getElem? (i := 3) rfl))
  have V26 : Arv Z h26 b3 k3 .long (16 : Int32) [(.long z0), (.long z1), (.long z2), (.long zz), (.long (0 : Int64)), (.long (0 : Int64)), (.long (0 : Int64)), (.long (0 : Int64)), (.long (0 : Int64)), (.long (0 : Int64)), (.long (0 : Int64)), (.long (0 : Int64)), (.long (0 : Int64)), (.long (0 : Int64)), (.long (0 : Int64)), (.long (0 : Int64))] (.long (0 : Int64)) := Arv.set Ar26 q26 S26 N26' H26 G26' rfl W26 3 rfl (Nat.le_of_ble_eq_true rfl)
  replace G : Gets p e below _ (T26.setTop (mkF m 153 #[.val (.ref a), .val (.long (3 : Int64)), .second, .val (.long (4 : Int64)), .second, .val (.long zz), .second, .val (.long (3 : Int64)), .second] [])) := fun t k => G t (st26 t k)
  replace G := own_aloadN (q := 154) G X26.here hx (hb hby d7_153) rfl rfl rfl
  replace G := own_dup (q := 155) G X26.here hx (hb hby d7_154) rfl rfl
  have F27 : Fld Z h26 a "com/example/crossbill/crossbill/csv/RecordSpans" "size" "I" (.int (3 : Int32)) := (F23.other W26 (Or.inl P15))
  obtain ⟨T28, X28, e28, st28⟩ := getF X26 hx hZ hown (host := "") (Or.inl (hw _ (List.mem_of_getElem? (i := 24) rfl))) Via.refl e26 F27 (g := (mkF m 155 #[.val (.ref a), .val (.long (3 : Int64)), .second, .val (.long (4 : Int64)), .second, .val (.long zz), .second, .val (.long (3 : Int64)), .second] [(.ref a), (.ref a)])) rfl rfl (hb hby d7_155)
  replace G : Gets p e below _ (T28.setTop (mkF m 158 #[.val (.ref a), .val (.long (3 : Int64)), .second, .val (.long (4 : Int64)), .second, .val (.long zz), .second, .val (.long (3 : Int64)), .second] [(.int (3 : Int32)), (.ref a)])) := fun t k => G t (st28 t k)
  replace G := own_iconst (q := 159) G X28.here hx (hb hby d7_158) (v := (1 : Int32)) (by decide) rfl
  replace G := own_iadd (q := 160) G X28.here hx (hb hby d7_159) (by decide : ((3 : Int32) + (1 : Int32)) = (4 : Int32)) rfl
  have F29 : Exa Z h26 a "com/example/crossbill/crossbill/csv/RecordSpans" := (((P5.wr W14).wr W20).wr W26)
  obtain ⟨T30, h30, X30, e30, W30, st30⟩ := putF X28 hx hZ hown (host := "") (Or.inl (hw _ (List.mem_of_getElem? (i := 24) rfl))) Via.refl e28 F27 F29 (Or.inl (hw _ (List.mem_of_getElem? (i := 25) rfl))) (hw _ (List.mem_of_getElem? (i := 2) rfl)) (ty := .int) (by decide) rfl rfl (g := (mkF m 160 #[.val (.ref a), .val (.long (3 : Int64)), .second, .val (.long (4 : Int64)), .second, .val (.long zz), .second, .val (.long (3 : Int64)), .second] [(.int (4 : Int32)), (.ref a)])) rfl rfl (hb hby d7_160)
  have N30 := Fr.snoc X30 N26 P9
  have Z30 : n0 ≤ h30.size := Nat.le_trans Z26 (Keep.of_wr W30).1
  have K30 : Keep h0 h30 [a, b1, b2, b3] := K26.wr W30 (Or.inl (List.mem_of_getElem? (i := 0) rfl))
  have F30 : Fld Z h30 a "com/example/crossbill/crossbill/csv/RecordSpans" "size" "I" (.int (4 : Int32)) := F27.same W30
  replace G : Gets p e below _ (T30.setTop (mkF m 163 #[.val (.ref a), .val (.long (3 : Int64)), .second, .val (.long (4 : Int64)), .second, .val (.long zz), .second, .val (.long (3 : Int64)), .second] [])) := fun t k => G t (st30 t k)
  obtain ⟨fs, hr, hrun, hended, hW, hsame⟩ := X30.leave (v := none) (fun _ => rfl)
  refine ⟨_, _, G _ (X30.returnOut hx Bd.returns (hb hby d7_163) hr), hrun, hended, _, _, rfl, ?_, ⟨_, rfl⟩, hW, hsame.mono (by decide) (by decide)⟩
  have F31 : Fld Z h30 a "com/example/crossbill/crossbill/csv/RecordSpans" "starts" "[J" (.ref b1) := ((((P1.other W14 (Or.inl P13)).other W20 (Or.inl P14)).other W26 (Or.inl P15)).other W30 (Or.inr (slot_ne (Or.inl (hw _ (List.mem_of_getElem? (i := 12) rfl))) (Or.inl (hw _ (List.mem_of_getElem? (i := 25) rfl))) (by decide) (t := (.array .long)) (t' := .int) (by decide) (by decide))))
  have F32 : Fld Z h30 a "com/example/crossbill/crossbill/csv/RecordSpans" "ends" "[J" (.ref b2) := (((F15.other W20 (Or.inl P14)).other W26 (Or.inl P15)).other W30 (Or.inr (slot_ne (Or.inl (hw _ (List.mem_of_getElem? (i := 14) rfl))) (Or.inl (hw _ (List.mem_of_getElem? (i := 25) rfl))) (by decide) (t := (.array .long)) (t' := .int) (by decide) (by decide))))
  have F33 : Fld Z h30 a "com/example/crossbill/crossbill/csv/RecordSpans" "lines" "[J" (.ref b3) := ((F21.other W26 (Or.inl P15)).other W30 (Or.inr (slot_ne (Or.inl (hw _ (List.mem_of_getElem? (i := 16) rfl))) (Or.inl (hw _ (List.mem_of_getElem? (i := 25) rfl))) (by decide) (t := (.array .long)) (t' := .int) (by decide) (by decide))))
  have F34 : Fld Z h30 a "com/example/crossbill/crossbill/csv/RecordSpans" "headerEnd" "J" (.long (0 : Int64)) := ((((P4.other W14 (Or.inl P13)).other W20 (Or.inl P14)).other W26 (Or.inl P15)).other W30 (Or.inr (slot_ne (Or.inr (hw _ (List.mem_of_getElem? (i := 18) rfl))) (Or.inl (hw _ (List.mem_of_getElem? (i := 25) rfl))) (by decide) (t := .long) (t' := .int) (by decide) (by decide))))
  have F35 : Arv Z h30 b1 k1 .long (16 : Int32) [(.long (0 : Int64)), (.long (1 : Int64)), (.long (2 : Int64)), (.long (3 : Int64)), (.long (0 : Int64)), (.long (0 : Int64)), (.long (0 : Int64)), (.long (0 : Int64)), (.long (0 : Int64)), (.long (0 : Int64)), (.long (0 : Int64)), (.long (0 : Int64)), (.long (0 : Int64)), (.long (0 : Int64)), (.long (0 : Int64)), (.long (0 : Int64))] (.long (0 : Int64)) := (((V14.other W20 P16).other W26 P17).other W30 (Ne.symm P13))
  have F36 : Arv Z h30 b2 k2 .long (16 : Int32) [(.long (1 : Int64)), (.long (2 : Int64)), (.long (3 : Int64)), (.long (4 : Int64)), (.long (0 : Int64)), (.long (0 : Int64)), (.long (0 : Int64)), (.long (0 : Int64)), (.long (0 : Int64)), (.long (0 : Int64)), (.long (0 : Int64)), (.long (0 : Int64)), (.long (0 : Int64)), (.long (0 : Int64)), (.long (0 : Int64)), (.long (0 : Int64))] (.long (0 : Int64)) := ((V20.other W26 P18).other W30 (Ne.symm P14))
  have F37 : Arv Z h30 b3 k3 .long (16 : Int32) [(.long z0), (.long z1), (.long z2), (.long zz), (.long (0 : Int64)), (.long (0 : Int64)), (.long (0 : Int64)), (.long (0 : Int64)), (.long (0 : Int64)), (.long (0 : Int64)), (.long (0 : Int64)), (.long (0 : Int64)), (.long (0 : Int64)), (.long (0 : Int64)), (.long (0 : Int64)), (.long (0 : Int64))] (.long (0 : Int64)) := (V26.other W30 (Ne.symm P15))
  show Q7s3 Z a zz b1 b2 b3 k1 k2 k3 z0 z1 z2 h0 n0 _ T30.heap _
  rw [e30]
  exact ⟨rfl, N30, K30, F30, F31, F32, F33, F34, F35, F36, F37⟩
theorem d5_0 : decode jdk_29_method_69_code 0 = .ok (.iload_n 0, 1) := by decide +kernel
theorem d5_1 : decode jdk_29_method_69_code 1 = .ok (.iload_n 1, 1) := by decide +kernel
theorem d5_2 : decode jdk_29_method_69_code 2 = .ok (.if_icmp .gt 7, 3) := by decide +kernel
theorem d5_9 : decode jdk_29_method_69_code 9 = .ok (.iload_n 1, 1) := by decide +kernel
theorem d5_10 : decode jdk_29_method_69_code 10 = .ok (.ireturn, 1) := by decide +kernel
theorem ef_5k0 (m : MethodId)  : entryFrame m #[(.int (16 : Int32)), (.int (0 : Int32))] 2 = mkF m 0 #[.val (.int (16 : Int32)), .val (.int (0 : Int32))] [] := by first | (simp [entryFrame, mkF, argsToLocals, Value.category]; done) | rfl
def Q5k0 (Z : State)  (h0 : Heap) (n0 : Nat) (v : Option Value) (h : Heap) (L : List Loc) : Prop := v = some (.int (0 : Int32)) ∧ Fr n0 L ∧ h = h0
set_option maxRecDepth 65536 in
set_option maxHeartbeats 40000000 in
theorem rm5k0 (l : Launch) (Z : State) (a0 : Array Value) (hw : ∀ d ∈ tables_1, d.before a0 Z = true) (ws : List Jvm.Cond)  (h0 : Heap) (n0 : Nat) (Z0 : n0 ≤ h0.size)  :
    MetFree l (⟨"java/lang/Math", "min", "(II)I"⟩ : MethodName) (head1 (Jvm.Cond.code (⟨"java/lang/Math", "min", "(II)I"⟩ : MethodName) jdk_29_method_69_code 2 (some .int) :: ws) ({ frames := 0, cells := 0, slots := 0, locals := 0 } : Room)) (fun argz U => argz = #[(.int (16 : Int32)), (.int (0 : Int32))] ∧ Z.Warmed39 U.vm ∧ U.heap = h0) (fun _ _ _ _ _ => True) (fun _ U o U' => ∃ v L, o = .returned v ∧ Q5k0 Z  h0 n0 v U'.heap L ∧ FrameEnd U o U' L ({ frames := 0, cells := 0, slots := 0, locals := 0 } : Room).cells ({ frames := 0, cells := 0, slots := 0, locals := 0 } : Room).slots) := by
  refine MetFree.of_bodySF (Jvm.Free.JP.mathPlain rfl (by decide +kernel)) hisR ?_
  intro p e s m args below meth c s₁ Bd hml0 hP hK
  obtain ⟨rfl, hZ, hh⟩ := hP
  have hx := Bd.exec
  have hby := Bd.bytes
  have hml : c.maxLocals = 2 := hml0
  have hown : s.vm.findClass "java/lang/Math" = some m.cls := findClass_of_methodNamed Bd.named
  have hnm := (name_of_methodNamed Bd.named Bd.method).1
  have X0 : Stand p l e ({ frames := 0, cells := 0, slots := 0, locals := 0 } : Room) s m #[(.int (16 : Int32)), (.int (0 : Int32))] below meth c s₁ [] 0 0 := Stand.of_body Bd
  have e0 : s₁.heap = h0 := by rw [← hh, Bd.state]; rfl
  have N0 := Fr.nil n0
  have G : Gets p e below (s₁.setTop (entryFrame m #[(.int (16 : Int32)), (.int (0 : Int32))] 2)) (s₁.setTop (mkF m 0 #[.val (.int (16 : Int32)), .val (.int (0 : Int32))] [])) := fun t k => castTop (ef_5k0 m ) k
  replace G := own_iloadN (q := 1) G X0.here hx (hb hby d5_0) rfl rfl
  replace G := own_iloadN (q := 2) G X0.here hx (hb hby d5_1) rfl rfl
  have hc2_1 : (0 : Int32) < (16 : Int32) := by decide
  replace G := own_icmpYes (q := 9) G X0.here hx (hb hby d5_2) (tlt hc2_1).2.2.1 (by decide) (by decide)
  replace G := own_iloadN (q := 10) G X0.here hx (hb hby d5_9) rfl rfl
  obtain ⟨fs, hr, hrun, hended, hW, hsame⟩ := X0.leave (v := some (.int (0 : Int32))) (fun h => by rw [Bd.returns] at h; cases h)
  refine ⟨_, _, G _ (retOut X0 hx Bd.returns rfl (Or.inl ⟨rfl, Or.inl rfl, _, rfl⟩) (hb hby d5_10) hr), hrun, hended, _, _, rfl, ?_, ⟨_, rfl⟩, hW, hsame.mono (by decide) (by decide)⟩
  show Q5k0 Z  h0 n0 _ s₁.heap _
  rw [e0]
  exact ⟨rfl, N0, rfl⟩
theorem ef_5k1 (m : MethodId)  : entryFrame m #[(.int (16 : Int32)), (.int (1 : Int32))] 2 = mkF m 0 #[.val (.int (16 : Int32)), .val (.int (1 : Int32))] [] := by first | (simp [entryFrame, mkF, argsToLocals, Value.category]; done) | rfl
def Q5k1 (Z : State)  (h0 : Heap) (n0 : Nat) (v : Option Value) (h : Heap) (L : List Loc) : Prop := v = some (.int (1 : Int32)) ∧ Fr n0 L ∧ h = h0
set_option maxRecDepth 65536 in
set_option maxHeartbeats 40000000 in
theorem rm5k1 (l : Launch) (Z : State) (a0 : Array Value) (hw : ∀ d ∈ tables_1, d.before a0 Z = true) (ws : List Jvm.Cond)  (h0 : Heap) (n0 : Nat) (Z0 : n0 ≤ h0.size)  :
    MetFree l (⟨"java/lang/Math", "min", "(II)I"⟩ : MethodName) (head1 (Jvm.Cond.code (⟨"java/lang/Math", "min", "(II)I"⟩ : MethodName) jdk_29_method_69_code 2 (some .int) :: ws) ({ frames := 0, cells := 0, slots := 0, locals := 0 } : Room)) (fun argz U => argz = #[(.int (16 : Int32)), (.int (1 : Int32))] ∧ Z.Warmed39 U.vm ∧ U.heap = h0) (fun _ _ _ _ _ => True) (fun _ U o U' => ∃ v L, o = .returned v ∧ Q5k1 Z  h0 n0 v U'.heap L ∧ FrameEnd U o U' L ({ frames := 0, cells := 0, slots := 0, locals := 0 } : Room).cells ({ frames := 0, cells := 0, slots := 0, locals := 0 } : Room).slots) := by
  refine MetFree.of_bodySF (Jvm.Free.JP.mathPlain rfl (by decide +kernel)) hisR ?_
  intro p e s m args below meth c s₁ Bd hml0 hP hK
  obtain ⟨rfl, hZ, hh⟩ := hP
  have hx := Bd.exec
  have hby := Bd.bytes
  have hml : c.maxLocals = 2 := hml0
  have hown : s.vm.findClass "java/lang/Math" = some m.cls := findClass_of_methodNamed Bd.named
  have hnm := (name_of_methodNamed Bd.named Bd.method).1
  have X0 : Stand p l e ({ frames := 0, cells := 0, slots := 0, locals := 0 } : Room) s m #[(.int (16 : Int32)), (.int (1 : Int32))] below meth c s₁ [] 0 0 := Stand.of_body Bd
  have e0 : s₁.heap = h0 := by rw [← hh, Bd.state]; rfl
  have N0 := Fr.nil n0
  have G : Gets p e below (s₁.setTop (entryFrame m #[(.int (16 : Int32)), (.int (1 : Int32))] 2)) (s₁.setTop (mkF m 0 #[.val (.int (16 : Int32)), .val (.int (1 : Int32))] [])) := fun t k => castTop (ef_5k1 m ) k
  replace G := own_iloadN (q := 1) G X0.here hx (hb hby d5_0) rfl rfl
  replace G := own_iloadN (q := 2) G X0.here hx (hb hby d5_1) rfl rfl
  have hc2_1 : (1 : Int32) < (16 : Int32) := by decide
  replace G := own_icmpYes (q := 9) G X0.here hx (hb hby d5_2) (tlt hc2_1).2.2.1 (by decide) (by decide)
  replace G := own_iloadN (q := 10) G X0.here hx (hb hby d5_9) rfl rfl
  obtain ⟨fs, hr, hrun, hended, hW, hsame⟩ := X0.leave (v := some (.int (1 : Int32))) (fun h => by rw [Bd.returns] at h; cases h)
  refine ⟨_, _, G _ (retOut X0 hx Bd.returns rfl (Or.inl ⟨rfl, Or.inl rfl, _, rfl⟩) (hb hby d5_10) hr), hrun, hended, _, _, rfl, ?_, ⟨_, rfl⟩, hW, hsame.mono (by decide) (by decide)⟩
  show Q5k1 Z  h0 n0 _ s₁.heap _
  rw [e0]
  exact ⟨rfl, N0, rfl⟩
theorem ef_5k2 (m : MethodId)  : entryFrame m #[(.int (16 : Int32)), (.int (2 : Int32))] 2 = mkF m 0 #[.val (.int (16 : Int32)), .val (.int (2 : Int32))] [] := by first | (simp [entryFrame, mkF, argsToLocals, Value.category]; done) | rfl
def Q5k2 (Z : State)  (h0 : Heap) (n0 : Nat) (v : Option Value) (h : Heap) (L : List Loc) : Prop := v = some (.int (2 : Int32)) ∧ Fr n0 L ∧ h = h0
set_option maxRecDepth 65536 in
set_option maxHeartbeats 40000000 in
theorem rm5k2 (l : Launch) (Z : State) (a0 : Array Value) (hw : ∀ d ∈ tables_1, d.before a0 Z = true) (ws : List Jvm.Cond)  (h0 : Heap) (n0 : Nat) (Z0 : n0 ≤ h0.size)  :
    MetFree l (⟨"java/lang/Math", "min", "(II)I"⟩ : MethodName) (head1 (Jvm.Cond.code (⟨"java/lang/Math", "min", "(II)I"⟩ : MethodName) jdk_29_method_69_code 2 (some .int) :: ws) ({ frames := 0, cells := 0, slots := 0, locals := 0 } : Room)) (fun argz U => argz = #[(.int (16 : Int32)), (.int (2 : Int32))] ∧ Z.Warmed39 U.vm ∧ U.heap = h0) (fun _ _ _ _ _ => True) (fun _ U o U' => ∃ v L, o = .returned v ∧ Q5k2 Z  h0 n0 v U'.heap L ∧ FrameEnd U o U' L ({ frames := 0, cells := 0, slots := 0, locals := 0 } : Room).cells ({ frames := 0, cells := 0, slots := 0, locals := 0 } : Room).slots) := by
  refine MetFree.of_bodySF (Jvm.Free.JP.mathPlain rfl (by decide +kernel)) hisR ?_
  intro p e s m args below meth c s₁ Bd hml0 hP hK
  obtain ⟨rfl, hZ, hh⟩ := hP
  have hx := Bd.exec
  have hby := Bd.bytes
  have hml : c.maxLocals = 2 := hml0
  have hown : s.vm.findClass "java/lang/Math" = some m.cls := findClass_of_methodNamed Bd.named
  have hnm := (name_of_methodNamed Bd.named Bd.method).1
  have X0 : Stand p l e ({ frames := 0, cells := 0, slots := 0, locals := 0 } : Room) s m #[(.int (16 : Int32)), (.int (2 : Int32))] below meth c s₁ [] 0 0 := Stand.of_body Bd
  have e0 : s₁.heap = h0 := by rw [← hh, Bd.state]; rfl
  have N0 := Fr.nil n0
  have G : Gets p e below (s₁.setTop (entryFrame m #[(.int (16 : Int32)), (.int (2 : Int32))] 2)) (s₁.setTop (mkF m 0 #[.val (.int (16 : Int32)), .val (.int (2 : Int32))] [])) := fun t k => castTop (ef_5k2 m ) k
  replace G := own_iloadN (q := 1) G X0.here hx (hb hby d5_0) rfl rfl
  replace G := own_iloadN (q := 2) G X0.here hx (hb hby d5_1) rfl rfl
  have hc2_1 : (2 : Int32) < (16 : Int32) := by decide
  replace G := own_icmpYes (q := 9) G X0.here hx (hb hby d5_2) (tlt hc2_1).2.2.1 (by decide) (by decide)
  replace G := own_iloadN (q := 10) G X0.here hx (hb hby d5_9) rfl rfl
  obtain ⟨fs, hr, hrun, hended, hW, hsame⟩ := X0.leave (v := some (.int (2 : Int32))) (fun h => by rw [Bd.returns] at h; cases h)
  refine ⟨_, _, G _ (retOut X0 hx Bd.returns rfl (Or.inl ⟨rfl, Or.inl rfl, _, rfl⟩) (hb hby d5_10) hr), hrun, hended, _, _, rfl, ?_, ⟨_, rfl⟩, hW, hsame.mono (by decide) (by decide)⟩
  show Q5k2 Z  h0 n0 _ s₁.heap _
  rw [e0]
  exact ⟨rfl, N0, rfl⟩
theorem ef_5k3 (m : MethodId)  : entryFrame m #[(.int (16 : Int32)), (.int (3 : Int32))] 2 = mkF m 0 #[.val (.int (16 : Int32)), .val (.int (3 : Int32))] [] := by first | (simp [entryFrame, mkF, argsToLocals, Value.category]; done) | rfl
def Q5k3 (Z : State)  (h0 : Heap) (n0 : Nat) (v : Option Value) (h : Heap) (L : List Loc) : Prop := v = some (.int (3 : Int32)) ∧ Fr n0 L ∧ h = h0
set_option maxRecDepth 65536 in
set_option maxHeartbeats 40000000 in
theorem rm5k3 (l : Launch) (Z : State) (a0 : Array Value) (hw : ∀ d ∈ tables_1, d.before a0 Z = true) (ws : List Jvm.Cond)  (h0 : Heap) (n0 : Nat) (Z0 : n0 ≤ h0.size)  :
    MetFree l (⟨"java/lang/Math", "min", "(II)I"⟩ : MethodName) (head1 (Jvm.Cond.code (⟨"java/lang/Math", "min", "(II)I"⟩ : MethodName) jdk_29_method_69_code 2 (some .int) :: ws) ({ frames := 0, cells := 0, slots := 0, locals := 0 } : Room)) (fun argz U => argz = #[(.int (16 : Int32)), (.int (3 : Int32))] ∧ Z.Warmed39 U.vm ∧ U.heap = h0) (fun _ _ _ _ _ => True) (fun _ U o U' => ∃ v L, o = .returned v ∧ Q5k3 Z  h0 n0 v U'.heap L ∧ FrameEnd U o U' L ({ frames := 0, cells := 0, slots := 0, locals := 0 } : Room).cells ({ frames := 0, cells := 0, slots := 0, locals := 0 } : Room).slots) := by
  refine MetFree.of_bodySF (Jvm.Free.JP.mathPlain rfl (by decide +kernel)) hisR ?_
  intro p e s m args below meth c s₁ Bd hml0 hP hK
  obtain ⟨rfl, hZ, hh⟩ := hP
  have hx := Bd.exec
  have hby := Bd.bytes
  have hml : c.maxLocals = 2 := hml0
  have hown : s.vm.findClass "java/lang/Math" = some m.cls := findClass_of_methodNamed Bd.named
  have hnm := (name_of_methodNamed Bd.named Bd.method).1
  have X0 : Stand p l e ({ frames := 0, cells := 0, slots := 0, locals := 0 } : Room) s m #[(.int (16 : Int32)), (.int (3 : Int32))] below meth c s₁ [] 0 0 := Stand.of_body Bd
  have e0 : s₁.heap = h0 := by rw [← hh, Bd.state]; rfl
  have N0 := Fr.nil n0
  have G : Gets p e below (s₁.setTop (entryFrame m #[(.int (16 : Int32)), (.int (3 : Int32))] 2)) (s₁.setTop (mkF m 0 #[.val (.int (16 : Int32)), .val (.int (3 : Int32))] [])) := fun t k => castTop (ef_5k3 m ) k
  replace G := own_iloadN (q := 1) G X0.here hx (hb hby d5_0) rfl rfl
  replace G := own_iloadN (q := 2) G X0.here hx (hb hby d5_1) rfl rfl
  have hc2_1 : (3 : Int32) < (16 : Int32) := by decide
  replace G := own_icmpYes (q := 9) G X0.here hx (hb hby d5_2) (tlt hc2_1).2.2.1 (by decide) (by decide)
  replace G := own_iloadN (q := 10) G X0.here hx (hb hby d5_9) rfl rfl
  obtain ⟨fs, hr, hrun, hended, hW, hsame⟩ := X0.leave (v := some (.int (3 : Int32))) (fun h => by rw [Bd.returns] at h; cases h)
  refine ⟨_, _, G _ (retOut X0 hx Bd.returns rfl (Or.inl ⟨rfl, Or.inl rfl, _, rfl⟩) (hb hby d5_10) hr), hrun, hended, _, _, rfl, ?_, ⟨_, rfl⟩, hW, hsame.mono (by decide) (by decide)⟩
  show Q5k3 Z  h0 n0 _ s₁.heap _
  rw [e0]
  exact ⟨rfl, N0, rfl⟩
theorem ef_5k4 (m : MethodId)  : entryFrame m #[(.int (16 : Int32)), (.int (4 : Int32))] 2 = mkF m 0 #[.val (.int (16 : Int32)), .val (.int (4 : Int32))] [] := by first | (simp [entryFrame, mkF, argsToLocals, Value.category]; done) | rfl
def Q5k4 (Z : State)  (h0 : Heap) (n0 : Nat) (v : Option Value) (h : Heap) (L : List Loc) : Prop := v = some (.int (4 : Int32)) ∧ Fr n0 L ∧ h = h0
set_option maxRecDepth 65536 in
set_option maxHeartbeats 40000000 in
theorem rm5k4 (l : Launch) (Z : State) (a0 : Array Value) (hw : ∀ d ∈ tables_1, d.before a0 Z = true) (ws : List Jvm.Cond)  (h0 : Heap) (n0 : Nat) (Z0 : n0 ≤ h0.size)  :
    MetFree l (⟨"java/lang/Math", "min", "(II)I"⟩ : MethodName) (head1 (Jvm.Cond.code (⟨"java/lang/Math", "min", "(II)I"⟩ : MethodName) jdk_29_method_69_code 2 (some .int) :: ws) ({ frames := 0, cells := 0, slots := 0, locals := 0 } : Room)) (fun argz U => argz = #[(.int (16 : Int32)), (.int (4 : Int32))] ∧ Z.Warmed39 U.vm ∧ U.heap = h0) (fun _ _ _ _ _ => True) (fun _ U o U' => ∃ v L, o = .returned v ∧ Q5k4 Z  h0 n0 v U'.heap L ∧ FrameEnd U o U' L ({ frames := 0, cells := 0, slots := 0, locals := 0 } : Room).cells ({ frames := 0, cells := 0, slots := 0, locals := 0 } : Room).slots) := by
  refine MetFree.of_bodySF (Jvm.Free.JP.mathPlain rfl (by decide +kernel)) hisR ?_
  intro p e s m args below meth c s₁ Bd hml0 hP hK
  obtain ⟨rfl, hZ, hh⟩ := hP
  have hx := Bd.exec
  have hby := Bd.bytes
  have hml : c.maxLocals = 2 := hml0
  have hown : s.vm.findClass "java/lang/Math" = some m.cls := findClass_of_methodNamed Bd.named
  have hnm := (name_of_methodNamed Bd.named Bd.method).1
  have X0 : Stand p l e ({ frames := 0, cells := 0, slots := 0, locals := 0 } : Room) s m #[(.int (16 : Int32)), (.int (4 : Int32))] below meth c s₁ [] 0 0 := Stand.of_body Bd
  have e0 : s₁.heap = h0 := by rw [← hh, Bd.state]; rfl
  have N0 := Fr.nil n0
  have G : Gets p e below (s₁.setTop (entryFrame m #[(.int (16 : Int32)), (.int (4 : Int32))] 2)) (s₁.setTop (mkF m 0 #[.val (.int (16 : Int32)), .val (.int (4 : Int32))] [])) := fun t k => castTop (ef_5k4 m ) k
  replace G := own_iloadN (q := 1) G X0.here hx (hb hby d5_0) rfl rfl
  replace G := own_iloadN (q := 2) G X0.here hx (hb hby d5_1) rfl rfl
  have hc2_1 : (4 : Int32) < (16 : Int32) := by decide
  replace G := own_icmpYes (q := 9) G X0.here hx (hb hby d5_2) (tlt hc2_1).2.2.1 (by decide) (by decide)
  replace G := own_iloadN (q := 10) G X0.here hx (hb hby d5_9) rfl rfl
  obtain ⟨fs, hr, hrun, hended, hW, hsame⟩ := X0.leave (v := some (.int (4 : Int32))) (fun h => by rw [Bd.returns] at h; cases h)
  refine ⟨_, _, G _ (retOut X0 hx Bd.returns rfl (Or.inl ⟨rfl, Or.inl rfl, _, rfl⟩) (hb hby d5_10) hr), hrun, hended, _, _, rfl, ?_, ⟨_, rfl⟩, hW, hsame.mono (by decide) (by decide)⟩
  show Q5k4 Z  h0 n0 _ s₁.heap _
  rw [e0]
  exact ⟨rfl, N0, rfl⟩
theorem pd_0 : parseMethodDescriptor "(II)I" = some ⟨[.int, .int], some .int⟩ := by decide +kernel
theorem d4_0 : decode jdk_65_method_124_code 0 = .ok (.iload_n 1, 1) := by decide +kernel
theorem d4_1 : decode jdk_65_method_124_code 1 = .ok (.aload_n 0, 1) := by decide +kernel
theorem d4_2 : decode jdk_65_method_124_code 2 = .ok (.arraylength, 1) := by decide +kernel
theorem d4_3 : decode jdk_65_method_124_code 3 = .ok (.if_icmp .ne 11, 3) := by decide +kernel
theorem d4_14 : decode jdk_65_method_124_code 14 = .ok (.iload_n 1, 1) := by decide +kernel
theorem d4_15 : decode jdk_65_method_124_code 15 = .ok (.newarray .long, 2) := by decide +kernel
theorem d4_17 : decode jdk_65_method_124_code 17 = .ok (.astore_n 2, 1) := by decide +kernel
theorem d4_18 : decode jdk_65_method_124_code 18 = .ok (.aload_n 0, 1) := by decide +kernel
theorem d4_19 : decode jdk_65_method_124_code 19 = .ok (.iconst 0, 1) := by decide +kernel
theorem d4_20 : decode jdk_65_method_124_code 20 = .ok (.aload_n 2, 1) := by decide +kernel
theorem d4_21 : decode jdk_65_method_124_code 21 = .ok (.iconst 0, 1) := by decide +kernel
theorem d4_22 : decode jdk_65_method_124_code 22 = .ok (.aload_n 0, 1) := by decide +kernel
theorem d4_23 : decode jdk_65_method_124_code 23 = .ok (.arraylength, 1) := by decide +kernel
theorem d4_24 : decode jdk_65_method_124_code 24 = .ok (.iload_n 1, 1) := by decide +kernel
theorem d4_25 : decode jdk_65_method_124_code 25 = .ok (.invokestatic 304, 3) := by decide +kernel
theorem d4_28 : decode jdk_65_method_124_code 28 = .ok (.invokestatic 150, 3) := by decide +kernel
theorem d4_31 : decode jdk_65_method_124_code 31 = .ok (.aload_n 2, 1) := by decide +kernel
theorem d4_32 : decode jdk_65_method_124_code 32 = .ok (.areturn, 1) := by decide +kernel
theorem pn_java_util_Arrays : plainName "java/util/Arrays" = true := by first | (simp [plainName, overriddenIn]; done) | decide +kernel
theorem ef_4k0 (m : MethodId) (x0 : Addr) : entryFrame m #[(.ref x0), (.int (0 : Int32))] 3 = mkF m 0 #[.val (.ref x0), .val (.int (0 : Int32)), .unset] [] := by first | (simp [entryFrame, mkF, argsToLocals, Value.category]; done) | rfl
def Q4k0 (Z : State) (a : Addr) (k1 : ClassId) (h0 : Heap) (n0 : Nat) (v : Option Value) (h : Heap) (L : List Loc) : Prop := ∃ (b : Addr) (kb : ClassId), v = some (.ref b) ∧ Fr n0 L ∧ Keep h0 h [] ∧ h0.size ≤ b ∧ (Arv Z h b kb .long (0 : Int32) [] (.long (0 : Int64)))
set_option maxRecDepth 65536 in
set_option maxHeartbeats 40000000 in
theorem rm4k0 (l : Launch) (Z : State) (a0 : Array Value) (hw : ∀ d ∈ tables_1, d.before a0 Z = true) (ws : List Jvm.Cond) (a : Addr) (k1 : ClassId) (h0 : Heap) (n0 : Nat) (Z0 : n0 ≤ h0.size) (P0 : Arv Z h0 a k1 .long (16 : Int32) [(.long (0 : Int64)), (.long (0 : Int64)), (.long (0 : Int64)), (.long (0 : Int64)), (.long (0 : Int64)), (.long (0 : Int64)), (.long (0 : Int64)), (.long (0 : Int64)), (.long (0 : Int64)), (.long (0 : Int64)), (.long (0 : Int64)), (.long (0 : Int64)), (.long (0 : Int64)), (.long (0 : Int64)), (.long (0 : Int64)), (.long (0 : Int64))] (.long (0 : Int64))) :
    MetFree l (⟨"java/util/Arrays", "copyOf", "([JI)[J"⟩ : MethodName) (head1 (Jvm.Cond.code (⟨"java/util/Arrays", "copyOf", "([JI)[J"⟩ : MethodName) jdk_65_method_124_code 3 (some (.array .long)) :: ws) ({ frames := 1, cells := 1, slots := 0, locals := 18 } : Room)) (fun argz U => argz = #[(.ref a), (.int (0 : Int32))] ∧ Z.Warmed39 U.vm ∧ U.heap = h0) (fun _ _ _ _ _ => True) (fun _ U o U' => ∃ v L, o = .returned v ∧ Q4k0 Z a k1 h0 n0 v U'.heap L ∧ FrameEnd U o U' L ({ frames := 1, cells := 1, slots := 0, locals := 18 } : Room).cells ({ frames := 1, cells := 1, slots := 0, locals := 18 } : Room).slots) := by
  refine MetFree.of_bodySF (plainFor_of_name pn_java_util_Arrays) hisR ?_
  intro p e s m args below meth c s₁ Bd hml0 hP hK
  obtain ⟨rfl, hZ, hh⟩ := hP
  have hx := Bd.exec
  have hby := Bd.bytes
  have hml : c.maxLocals = 3 := hml0
  have hown : s.vm.findClass "java/util/Arrays" = some m.cls := findClass_of_methodNamed Bd.named
  have hnm := (name_of_methodNamed Bd.named Bd.method).1
  have X0 : Stand p l e ({ frames := 1, cells := 1, slots := 0, locals := 18 } : Room) s m #[(.ref a), (.int (0 : Int32))] below meth c s₁ [] 0 0 := Stand.of_body Bd
  have e0 : s₁.heap = h0 := by rw [← hh, Bd.state]; rfl
  have N0 := Fr.nil n0
  have K0 : Keep h0 h0 [] := Keep.refl _ _
  have G : Gets p e below (s₁.setTop (entryFrame m #[(.ref a), (.int (0 : Int32))] 3)) (s₁.setTop (mkF m 0 #[.val (.ref a), .val (.int (0 : Int32)), .unset] [])) := fun t k => castTop (ef_4k0 m a) k
  replace G := own_iloadN (q := 1) G X0.here hx (hb hby d4_0) rfl rfl
  replace G := own_aloadN (q := 2) G X0.here hx (hb hby d4_1) rfl rfl rfl
  obtain ⟨c1, Ar1, -, S1, N1', -, -⟩ := id P0
  replace G : Gets p e below _ (s₁.setTop (mkF m 3 #[.val (.ref a), .val (.int (0 : Int32)), .unset] [(.int (16 : Int32)), (.int (0 : Int32))])) := fun t k => G t (X0.arraylength hx (by rw [e0]; exact Ar1.1) (State.isArrayOf_alike hZ.alike Ar1.2.1) (g := (mkF m 2 #[.val (.ref a), .val (.int (0 : Int32)), .unset] [(.ref a), (.int (0 : Int32))])) rfl rfl (hb hby d4_2) t (by rw [len_of S1 N1']; exact k))
  have hc3_2 : ¬ ((0 : Int32) = (16 : Int32)) := by decide
  replace G := own_icmpYes (q := 14) G X0.here hx (hb hby d4_3) (feq hc3_2).2 (by decide) (by decide)
  replace G := own_iloadN (q := 15) G X0.here hx (hb hby d4_14) rfl rfl
  obtain ⟨T3, h3, k3, X3, e3, E3, A3, st3⟩ := newP X0 hx hZ (hw _ (List.mem_of_getElem? (i := 10) rfl)) e0 (g := (mkF m 15 #[.val (.ref a), .val (.int (0 : Int32)), .unset] [(.int (0 : Int32))])) rfl (hb hby d4_15) rfl (by decide) (cap := 0) (by decide) (by decide) (by decide) (by decide)
  obtain ⟨b3, g3⟩ : ∃ z, z = h0.size := ⟨_, rfl⟩
  rw [← g3] at A3 st3
  have ne4 : a ≠ b3 := Nat.ne_of_lt (Nat.lt_of_lt_of_le P0.lt (Nat.le_of_eq g3.symm))
  have ge_b3 : n0 ≤ b3 := Nat.le_trans Z0 (Nat.le_of_eq g3.symm)
  have sz_b3 : h0.size ≤ b3 := Nat.le_trans K0.1 (Nat.le_of_eq g3.symm)
  have Z3 : n0 ≤ h3.size := Nat.le_trans Z0 E3.1
  have K3 : Keep h0 h3 [] := K0.ext E3
  have V3 : Arv Z h3 b3 k3 .long (0 : Int32) [] (.long (0 : Int64)) := (Arv.new A3 (by decide)).pad (pad_rep [] (.long (0 : Int64)) 0)
  replace G : Gets p e below _ (T3.setTop (mkF m 17 #[.val (.ref a), .val (.int (0 : Int32)), .unset] [(.ref b3)])) := fun t k => G t (st3 t k)
  replace G := own_astoreN (q := 18) (l' := #[.val (.ref a), .val (.int (0 : Int32)), .val (.ref b3)]) G X3.here hx (hb hby d4_17) rfl rfl rfl
  replace G := own_aloadN (q := 19) G X3.here hx (hb hby d4_18) rfl rfl rfl
  replace G := own_iconst (q := 20) G X3.here hx (hb hby d4_19) (v := (0 : Int32)) (by decide) rfl
  replace G := own_aloadN (q := 21) G X3.here hx (hb hby d4_20) rfl rfl rfl
  replace G := own_iconst (q := 22) G X3.here hx (hb hby d4_21) (v := (0 : Int32)) (by decide) rfl
  replace G := own_aloadN (q := 23) G X3.here hx (hb hby d4_22) rfl rfl rfl
  have F5 : Arv Z h3 a k1 .long (16 : Int32) [(.long (0 : Int64)), (.long (0 : Int64)), (.long (0 : Int64)), (.long (0 : Int64)), (.long (0 : Int64)), (.long (0 : Int64)), (.long (0 : Int64)), (.long (0 : Int64)), (.long (0 : Int64)), (.long (0 : Int64)), (.long (0 : Int64)), (.long (0 : Int64)), (.long (0 : Int64)), (.long (0 : Int64)), (.long (0 : Int64)), (.long (0 : Int64))] (.long (0 : Int64)) := (P0.ext E3)
  obtain ⟨c6, Ar6, -, S6, N6', -, -⟩ := id F5
  replace G : Gets p e below _ (T3.setTop (mkF m 24 #[.val (.ref a), .val (.int (0 : Int32)), .val (.ref b3)] [(.int (16 : Int32)), (.int (0 : Int32)), (.ref b3), (.int (0 : Int32)), (.ref a)])) := fun t k => G t (X3.arraylength hx (by rw [e3]; exact Ar6.1) (State.isArrayOf_alike hZ.alike Ar6.2.1) (g := (mkF m 23 #[.val (.ref a), .val (.int (0 : Int32)), .val (.ref b3)] [(.ref a), (.int (0 : Int32)), (.ref b3), (.int (0 : Int32)), (.ref a)])) rfl rfl (hb hby d4_23) t (by rw [len_of S6 N6']; exact k))
  replace G := own_iloadN (q := 25) G X3.here hx (hb hby d4_24) rfl rfl
  obtain ⟨_, _, ⟨T7, L7, kk7, nn7⟩, -, X7, ⟨Lc7, hQ7, l7, y7, z7⟩, st7⟩ := Jvm.LawKit.callS X3 hx (y := (⟨"java/lang/Math", "min", "(II)I"⟩ : MethodName)) hown (mvT hZ (hw _ (List.mem_of_getElem? (i := 30) rfl))) (mvT hZ (hw _ (List.mem_of_getElem? (i := 31) rfl))) (mvT hZ (hw _ (List.mem_of_getElem? (i := 32) rfl))) (mvT hZ (hw _ (List.mem_of_getElem? (i := 33) rfl))) (by decide) (backOf (W := 4) (rm5k0 l Z a0 hw []  h3 n0 Z3 ) hZ (hw _ (List.mem_of_getElem? (i := 33) rfl)) (hw _ (List.mem_of_getElem? (i := 32) rfl)) (by decide) (by decide)) (g := (mkF m 25 #[.val (.ref a), .val (.int (0 : Int32)), .val (.ref b3)] [(.int (0 : Int32)), (.int (16 : Int32)), (.int (0 : Int32)), (.ref b3), (.int (0 : Int32)), (.ref a)])) rfl (by rw [hml]; rfl) (argsL := [(.int (16 : Int32)), (.int (0 : Int32))]) (rest := [(.int (0 : Int32)), (.ref b3), (.int (0 : Int32)), (.ref a)]) (lenOf pd_0 rfl) rfl (by show 2 * 0 + _ ≤ _; exact Nat.le_of_eq rfl) (hb hby d4_25) (fun _ _ => ⟨rfl, e3, (by decide : 1 + 0 ≤ _), (by decide : 0 + 0 ≤ _)⟩)
  dsimp only [Pt.U, Pt.locs, Pt.cells, Pt.slots] at X7 l7 y7 z7 st7 hQ7
  subst l7 y7 z7
  obtain ⟨rfl, N7q, e7⟩ := hQ7
  have N7 := Fr.app N0 N7q
  replace G : Gets p e below _ (T7.setTop (mkF m 28 #[.val (.ref a), .val (.int (0 : Int32)), .val (.ref b3)] [(.int (0 : Int32)), (.int (0 : Int32)), (.ref b3), (.int (0 : Int32)), (.ref a)])) := fun t k => G t (st7 t k)
  obtain ⟨T8, h8, L8, X8, e8, N8, K8q, V8, st8⟩ := cpA X7 hx hZ hown (hw _ (List.mem_of_getElem? (i := 34) rfl)) (hw _ (List.mem_of_getElem? (i := 37) rfl)) (hw _ (List.mem_of_getElem? (i := 35) rfl)) (hw _ (List.mem_of_getElem? (i := 36) rfl)) e7 F5 V3 (us := []) (Or.inl ⟨rfl, rfl⟩) (by decide) (by decide) (by decide) (by decide) (by decide) (by rfl) (by decide) N7 ge_b3 (g := (mkF m 28 #[.val (.ref a), .val (.int (0 : Int32)), .val (.ref b3)] [(.int (0 : Int32)), (.int (0 : Int32)), (.ref b3), (.int (0 : Int32)), (.ref a)])) rfl (by rw [hml]; rfl) rfl (hb hby d4_28) (by decide) (W := 0) (by show 2 * 0 + _ ≤ _; exact Nat.le_of_eq rfl) (by decide)
  have Z8 : n0 ≤ h8.size := Nat.le_trans Z3 K8q.1
  have K8 : Keep h0 h8 [] := K3.trans K8q (allS (Or.inr sz_b3) all0)
  have U8 : Arv Z h8 b3 k3 .long (0 : Int32) [] (.long (0 : Int64)) := V8
  replace G : Gets p e below _ (T8.setTop (mkF m 31 #[.val (.ref a), .val (.int (0 : Int32)), .val (.ref b3)] [])) := fun t k => G t (st8 t k)
  replace G := own_aloadN (q := 32) G X8.here hx (hb hby d4_31) rfl rfl rfl
  obtain ⟨fs, hr, hrun, hended, hW, hsame⟩ := X8.leave (v := some (.ref b3)) (fun h => by rw [Bd.returns] at h; cases h)
  refine ⟨_, _, G _ (retOut X8 hx Bd.returns rfl (Or.inr (Or.inr (Or.inr (Or.inr ⟨rfl, rfl, rfl⟩)))) (hb hby d4_32) hr), hrun, hended, _, _, rfl, ?_, ⟨_, rfl⟩, hW, hsame.mono (by decide) (by decide)⟩
  show Q4k0 Z a k1 h0 n0 _ T8.heap _
  rw [e8]
  exact ⟨b3, k3, rfl, N8, K8, sz_b3, U8⟩
theorem pd_1 : parseMethodDescriptor "([JI)[J" = some ⟨[(.array .long), .int], some (.array .long)⟩ := by decide +kernel
theorem d3_0 : decode prog_17_method_7_code 0 = .ok (.aload_n 0, 1) := by decide +kernel
theorem d3_1 : decode prog_17_method_7_code 1 = .ok (.getfield 16, 3) := by decide +kernel
theorem d3_4 : decode prog_17_method_7_code 4 = .ok (.aload_n 0, 1) := by decide +kernel
theorem d3_5 : decode prog_17_method_7_code 5 = .ok (.getfield 23, 3) := by decide +kernel
theorem d3_8 : decode prog_17_method_7_code 8 = .ok (.invokestatic 36, 3) := by decide +kernel
theorem d3_11 : decode prog_17_method_7_code 11 = .ok (.areturn, 1) := by decide +kernel
theorem ef_3k0 (m : MethodId) (x0 : Addr) : entryFrame m #[(.ref x0)] 1 = mkF m 0 #[.val (.ref x0)] [] := by first | (simp [entryFrame, mkF, argsToLocals, Value.category]; done) | rfl
def Q3k0 (Z : State) (a : Addr) (b3 : Addr) (k3 : ClassId) (h0 : Heap) (n0 : Nat) (v : Option Value) (h : Heap) (L : List Loc) : Prop := ∃ (b : Addr) (kb : ClassId), v = some (.ref b) ∧ Fr n0 L ∧ Keep h0 h [] ∧ h0.size ≤ b ∧ (Arv Z h b kb .long (0 : Int32) [] (.long (0 : Int64)))
set_option maxRecDepth 65536 in
set_option maxHeartbeats 40000000 in
theorem rm3k0 (l : Launch) (Z : State) (a0 : Array Value) (hw : ∀ d ∈ tables_1, d.before a0 Z = true) (ws : List Jvm.Cond) (a : Addr) (b3 : Addr) (k3 : ClassId) (h0 : Heap) (n0 : Nat) (Z0 : n0 ≤ h0.size) (P0 : Fld Z h0 a "com/example/crossbill/crossbill/csv/RecordSpans" "size" "I" (.int (0 : Int32))) (P1 : Fld Z h0 a "com/example/crossbill/crossbill/csv/RecordSpans" "lines" "[J" (.ref b3)) (P2 : Arv Z h0 b3 k3 .long (16 : Int32) [(.long (0 : Int64)), (.long (0 : Int64)), (.long (0 : Int64)), (.long (0 : Int64)), (.long (0 : Int64)), (.long (0 : Int64)), (.long (0 : Int64)), (.long (0 : Int64)), (.long (0 : Int64)), (.long (0 : Int64)), (.long (0 : Int64)), (.long (0 : Int64)), (.long (0 : Int64)), (.long (0 : Int64)), (.long (0 : Int64)), (.long (0 : Int64))] (.long (0 : Int64))) :
    MetFree l (⟨"com/example/crossbill/crossbill/csv/RecordSpans", "lines", "()[J"⟩ : MethodName) (head1 (Jvm.Cond.code (⟨"com/example/crossbill/crossbill/csv/RecordSpans", "lines", "()[J"⟩ : MethodName) prog_17_method_7_code 1 (some (.array .long)) :: ws) ({ frames := 2, cells := 1, slots := 0, locals := 32 } : Room)) (fun argz U => argz = #[(.ref a)] ∧ Z.Warmed39 U.vm ∧ U.heap = h0) (fun _ _ _ _ _ => True) (fun _ U o U' => ∃ v L, o = .returned v ∧ Q3k0 Z a b3 k3 h0 n0 v U'.heap L ∧ FrameEnd U o U' L ({ frames := 2, cells := 1, slots := 0, locals := 32 } : Room).cells ({ frames := 2, cells := 1, slots := 0, locals := 32 } : Room).slots) := by
  refine MetFree.of_bodySF (plainFor_of_name pn_com_example_crossbill_crossbill_csv_RecordSpans) hisR ?_
  intro p e s m args below meth c s₁ Bd hml0 hP hK
  obtain ⟨rfl, hZ, hh⟩ := hP
  have hx := Bd.exec
  have hby := Bd.bytes
  have hml : c.maxLocals = 1 := hml0
  have hown : s.vm.findClass "com/example/crossbill/crossbill/csv/RecordSpans" = some m.cls := findClass_of_methodNamed Bd.named
  have hnm := (name_of_methodNamed Bd.named Bd.method).1
  have X0 : Stand p l e ({ frames := 2, cells := 1, slots := 0, locals := 32 } : Room) s m #[(.ref a)] below meth c s₁ [] 0 0 := Stand.of_body Bd
  have e0 : s₁.heap = h0 := by rw [← hh, Bd.state]; rfl
  have N0 := Fr.nil n0
  have K0 : Keep h0 h0 [] := Keep.refl _ _
  have G : Gets p e below (s₁.setTop (entryFrame m #[(.ref a)] 1)) (s₁.setTop (mkF m 0 #[.val (.ref a)] [])) := fun t k => castTop (ef_3k0 m a) k
  replace G := own_aloadN (q := 1) G X0.here hx (hb hby d3_0) rfl rfl rfl
  obtain ⟨T1, X1, e1, st1⟩ := getF X0 hx hZ hown (host := "") (Or.inl (hw _ (List.mem_of_getElem? (i := 15) rfl))) Via.refl e0 P1 (g := (mkF m 1 #[.val (.ref a)] [(.ref a)])) rfl rfl (hb hby d3_1)
  replace G : Gets p e below _ (T1.setTop (mkF m 4 #[.val (.ref a)] [(.ref b3)])) := fun t k => G t (st1 t k)
  replace G := own_aloadN (q := 5) G X1.here hx (hb hby d3_4) rfl rfl rfl
  obtain ⟨T2, X2, e2, st2⟩ := getF X1 hx hZ hown (host := "") (Or.inl (hw _ (List.mem_of_getElem? (i := 24) rfl))) Via.refl e1 P0 (g := (mkF m 5 #[.val (.ref a)] [(.ref a), (.ref b3)])) rfl rfl (hb hby d3_5)
  replace G : Gets p e below _ (T2.setTop (mkF m 8 #[.val (.ref a)] [(.int (0 : Int32)), (.ref b3)])) := fun t k => G t (st2 t k)
  obtain ⟨_, _, ⟨T3, L3, kk3, nn3⟩, -, X3, ⟨Lc3, hQ3, l3, y3, z3⟩, st3⟩ := Jvm.LawKit.callS X2 hx (y := (⟨"java/util/Arrays", "copyOf", "([JI)[J"⟩ : MethodName)) hown (mvT hZ (hw _ (List.mem_of_getElem? (i := 26) rfl))) (mvT hZ (hw _ (List.mem_of_getElem? (i := 27) rfl))) (mvT hZ (hw _ (List.mem_of_getElem? (i := 28) rfl))) (mvT hZ (hw _ (List.mem_of_getElem? (i := 29) rfl))) (by decide) (backOf (W := 0) (rm4k0 l Z a0 hw [] b3 k3 h0 n0 Z0 P2) hZ (hw _ (List.mem_of_getElem? (i := 29) rfl)) (hw _ (List.mem_of_getElem? (i := 28) rfl)) (by decide) (by decide)) (g := (mkF m 8 #[.val (.ref a)] [(.int (0 : Int32)), (.ref b3)])) rfl (by rw [hml]; rfl) (argsL := [(.ref b3), (.int (0 : Int32))]) (rest := []) (lenOf pd_1 rfl) rfl (by show 2 * 0 + _ ≤ _; exact Nat.le_of_eq rfl) (hb hby d3_8) (fun _ _ => ⟨rfl, e2, (by decide : 0 + 1 ≤ _), (by decide : 0 + 0 ≤ _)⟩)
  dsimp only [Pt.U, Pt.locs, Pt.cells, Pt.slots] at X3 l3 y3 z3 st3 hQ3
  subst l3 y3 z3
  obtain ⟨b_3, kb_3, rfl, N3q, K3q, B3_0, B3_1⟩ := hQ3
  have ne4 : a ≠ b_3 := Nat.ne_of_lt (Nat.lt_of_lt_of_le P0.lt B3_0)
  have ne5 : b3 ≠ b_3 := Nat.ne_of_lt (Nat.lt_of_lt_of_le P2.lt B3_0)
  have ge_b_3 : n0 ≤ b_3 := Nat.le_trans Z0 B3_0
  have sz_b_3 : h0.size ≤ b_3 := Nat.le_trans K0.1 B3_0
  have Z3 : n0 ≤ T3.heap.size := Nat.le_trans Z0 K3q.1
  have K3 : Keep h0 T3.heap [] := K0.trans K3q all0
  have N3 := Fr.app N0 N3q
  replace G : Gets p e below _ (T3.setTop (mkF m 11 #[.val (.ref a)] [(.ref b_3)])) := fun t k => G t (st3 t k)
  obtain ⟨fs, hr, hrun, hended, hW, hsame⟩ := X3.leave (v := some (.ref b_3)) (fun h => by rw [Bd.returns] at h; cases h)
  refine ⟨_, _, G _ (retOut X3 hx Bd.returns rfl (Or.inr (Or.inr (Or.inr (Or.inr ⟨rfl, rfl, rfl⟩)))) (hb hby d3_11) hr), hrun, hended, _, _, rfl, ?_, ⟨_, rfl⟩, hW, hsame.mono (by decide) (by decide)⟩
  show Q3k0 Z a b3 k3 h0 n0 _ T3.heap _
  exact ⟨b_3, kb_3, rfl, N3, K3, sz_b_3, B3_1⟩
theorem d6_0 : decode method_2_code 0 = .ok (.aload_n 0, 1) := by decide +kernel
theorem d6_1 : decode method_2_code 1 = .ok (.arraylength, 1) := by decide +kernel
theorem d6_2 : decode method_2_code 2 = .ok (.iload_n 1, 1) := by decide +kernel
theorem d6_3 : decode method_2_code 3 = .ok (.if_icmp .eq 5, 3) := by decide +kernel
theorem d6_8 : decode method_2_code 8 = .ok (.iload_n 1, 1) := by decide +kernel
theorem d6_9 : decode method_2_code 9 = .ok (.ifCond .le 13, 3) := by decide +kernel
theorem d6_22 : decode method_2_code 22 = .ok (.iload_n 1, 1) := by decide +kernel
theorem d6_23 : decode method_2_code 23 = .ok (.iconst 1, 1) := by decide +kernel
theorem d6_24 : decode method_2_code 24 = .ok (.if_icmp .le 14, 3) := by decide +kernel
theorem d6_38 : decode method_2_code 38 = .ok (.iload_n 1, 1) := by decide +kernel
theorem d6_39 : decode method_2_code 39 = .ok (.iconst 2, 1) := by decide +kernel
theorem d6_40 : decode method_2_code 40 = .ok (.if_icmp .le 14, 3) := by decide +kernel
theorem d6_54 : decode method_2_code 54 = .ok (.iload_n 1, 1) := by decide +kernel
theorem d6_55 : decode method_2_code 55 = .ok (.iconst 3, 1) := by decide +kernel
theorem d6_56 : decode method_2_code 56 = .ok (.if_icmp .le 14, 3) := by decide +kernel
theorem d6_70 : decode method_2_code 70 = .ok (.iconst 1, 1) := by decide +kernel
theorem d6_71 : decode method_2_code 71 = .ok (.ireturn, 1) := by decide +kernel
theorem pn_com_example_crossbill_crossbill_csv_RecordSpansLinesPinLaw : plainName "com/example/crossbill/crossbill/csv/RecordSpansLinesPinLaw" = true := by first | (simp [plainName, overriddenIn]; done) | decide +kernel
theorem ef_6k0 (m : MethodId) (x0 : Addr) (x2 : Int64) (x3 : Int64) (x4 : Int64) (x5 : Int64) : entryFrame m #[(.ref x0), (.int (0 : Int32)), (.long x2), (.long x3), (.long x4), (.long x5)] 10 = mkF m 0 #[.val (.ref x0), .val (.int (0 : Int32)), .val (.long x2), .second, .val (.long x3), .second, .val (.long x4), .second, .val (.long x5), .second] [] := by first | (simp [entryFrame, mkF, argsToLocals, Value.category]; done) | rfl
def Q6k0 (Z : State) (a : Addr) (z0 : Int64) (z1 : Int64) (z2 : Int64) (z3 : Int64) (k1 : ClassId) (h0 : Heap) (n0 : Nat) (v : Option Value) (h : Heap) (L : List Loc) : Prop := v = some (.int (1 : Int32)) ∧ Fr n0 L ∧ h = h0
set_option maxRecDepth 65536 in
set_option maxHeartbeats 40000000 in
theorem rm6k0 (l : Launch) (Z : State) (a0 : Array Value) (hw : ∀ d ∈ tables_1, d.before a0 Z = true) (ws : List Jvm.Cond) (a : Addr) (z0 : Int64) (z1 : Int64) (z2 : Int64) (z3 : Int64) (k1 : ClassId) (h0 : Heap) (n0 : Nat) (Z0 : n0 ≤ h0.size) (P0 : Arv Z h0 a k1 .long (0 : Int32) [] (.long (0 : Int64))) :
    MetFree l (⟨"com/example/crossbill/crossbill/csv/RecordSpansLinesPinLaw", "same", "([JIJJJJ)Z"⟩ : MethodName) (head1 (Jvm.Cond.code (⟨"com/example/crossbill/crossbill/csv/RecordSpansLinesPinLaw", "same", "([JIJJJJ)Z"⟩ : MethodName) method_2_code 10 (some .boolean) :: ws) ({ frames := 0, cells := 0, slots := 0, locals := 0 } : Room)) (fun argz U => argz = #[(.ref a), (.int (0 : Int32)), (.long z0), (.long z1), (.long z2), (.long z3)] ∧ Z.Warmed39 U.vm ∧ U.heap = h0) (fun _ _ _ _ _ => True) (fun _ U o U' => ∃ v L, o = .returned v ∧ Q6k0 Z a z0 z1 z2 z3 k1 h0 n0 v U'.heap L ∧ FrameEnd U o U' L ({ frames := 0, cells := 0, slots := 0, locals := 0 } : Room).cells ({ frames := 0, cells := 0, slots := 0, locals := 0 } : Room).slots) := by
  refine MetFree.of_bodySF (plainFor_of_name pn_com_example_crossbill_crossbill_csv_RecordSpansLinesPinLaw) hisR ?_
  intro p e s m args below meth c s₁ Bd hml0 hP hK
  obtain ⟨rfl, hZ, hh⟩ := hP
  have hx := Bd.exec
  have hby := Bd.bytes
  have hml : c.maxLocals = 10 := hml0
  have hown : s.vm.findClass "com/example/crossbill/crossbill/csv/RecordSpansLinesPinLaw" = some m.cls := findClass_of_methodNamed Bd.named
  have hnm := (name_of_methodNamed Bd.named Bd.method).1
  have X0 : Stand p l e ({ frames := 0, cells := 0, slots := 0, locals := 0 } : Room) s m #[(.ref a), (.int (0 : Int32)), (.long z0), (.long z1), (.long z2), (.long z3)] below meth c s₁ [] 0 0 := Stand.of_body Bd
  have e0 : s₁.heap = h0 := by rw [← hh, Bd.state]; rfl
  have N0 := Fr.nil n0
  have G : Gets p e below (s₁.setTop (entryFrame m #[(.ref a), (.int (0 : Int32)), (.long z0), (.long z1), (.long z2), (.long z3)] 10)) (s₁.setTop (mkF m 0 #[.val (.ref a), .val (.int (0 : Int32)), .val (.long z0), .second, .val (.long z1), .second, .val (.long z2), .second, .val (.long z3), .second] [])) := fun t k => castTop (ef_6k0 m a z0 z1 z2 z3) k
  replace G := own_aloadN (q := 1) G X0.here hx (hb hby d6_0) rfl rfl rfl
  obtain ⟨c1, Ar1, -, S1, N1', -, -⟩ := id P0
  replace G : Gets p e below _ (s₁.setTop (mkF m 2 #[.val (.ref a), .val (.int (0 : Int32)), .val (.long z0), .second, .val (.long z1), .second, .val (.long z2), .second, .val (.long z3), .second] [(.int (0 : Int32))])) := fun t k => G t (X0.arraylength hx (by rw [e0]; exact Ar1.1) (State.isArrayOf_alike hZ.alike Ar1.2.1) (g := (mkF m 1 #[.val (.ref a), .val (.int (0 : Int32)), .val (.long z0), .second, .val (.long z1), .second, .val (.long z2), .second, .val (.long z3), .second] [(.ref a)])) rfl rfl (hb hby d6_1) t (by rw [len_of S1 N1']; exact k))
  replace G := own_iloadN (q := 3) G X0.here hx (hb hby d6_2) rfl rfl
  have hc3_2 : (0 : Int32) = (0 : Int32) := by decide
  replace G := own_icmpYes (q := 8) G X0.here hx (hb hby d6_3) (teq hc3_2).1 (by decide) (by decide)
  replace G := own_iloadN (q := 9) G X0.here hx (hb hby d6_8) rfl rfl
  have hc9_3 : ¬ ((0 : Int32) < (0 : Int32)) := by decide
  replace G := own_ifYes (q := 22) G X0.here hx (hb hby d6_9) ((if0 _ _).trans (flt hc9_3).2.2.2) (by decide) (by decide)
  replace G := own_iloadN (q := 23) G X0.here hx (hb hby d6_22) rfl rfl
  replace G := own_iconst (q := 24) G X0.here hx (hb hby d6_23) (v := (1 : Int32)) (by decide) rfl
  have hc24_4 : ¬ ((1 : Int32) < (0 : Int32)) := by decide
  replace G := own_icmpYes (q := 38) G X0.here hx (hb hby d6_24) (flt hc24_4).2.2.2 (by decide) (by decide)
  replace G := own_iloadN (q := 39) G X0.here hx (hb hby d6_38) rfl rfl
  replace G := own_iconst (q := 40) G X0.here hx (hb hby d6_39) (v := (2 : Int32)) (by decide) rfl
  have hc40_5 : ¬ ((2 : Int32) < (0 : Int32)) := by decide
  replace G := own_icmpYes (q := 54) G X0.here hx (hb hby d6_40) (flt hc40_5).2.2.2 (by decide) (by decide)
  replace G := own_iloadN (q := 55) G X0.here hx (hb hby d6_54) rfl rfl
  replace G := own_iconst (q := 56) G X0.here hx (hb hby d6_55) (v := (3 : Int32)) (by decide) rfl
  have hc56_6 : ¬ ((3 : Int32) < (0 : Int32)) := by decide
  replace G := own_icmpYes (q := 70) G X0.here hx (hb hby d6_56) (flt hc56_6).2.2.2 (by decide) (by decide)
  replace G := own_iconst (q := 71) G X0.here hx (hb hby d6_70) (v := (1 : Int32)) (by decide) rfl
  obtain ⟨fs, hr, hrun, hended, hW, hsame⟩ := X0.leave (v := some (.int (1 : Int32))) (fun h => by rw [Bd.returns] at h; cases h)
  refine ⟨_, _, G _ (retOut X0 hx Bd.returns rfl (Or.inl ⟨rfl, Or.inr (Or.inl rfl), _, rfl⟩) (hb hby d6_71) hr), hrun, hended, _, _, rfl, ?_, ⟨_, rfl⟩, hW, hsame.mono (by decide) (by decide)⟩
  show Q6k0 Z a z0 z1 z2 z3 k1 h0 n0 _ s₁.heap _
  rw [e0]
  exact ⟨rfl, N0, rfl⟩
theorem ef_4k1 (m : MethodId) (x0 : Addr) : entryFrame m #[(.ref x0), (.int (1 : Int32))] 3 = mkF m 0 #[.val (.ref x0), .val (.int (1 : Int32)), .unset] [] := by first | (simp [entryFrame, mkF, argsToLocals, Value.category]; done) | rfl
def Q4k1 (Z : State) (a : Addr) (k1 : ClassId) (z0 : Int64) (h0 : Heap) (n0 : Nat) (v : Option Value) (h : Heap) (L : List Loc) : Prop := ∃ (b : Addr) (kb : ClassId), v = some (.ref b) ∧ Fr n0 L ∧ Keep h0 h [] ∧ h0.size ≤ b ∧ (Arv Z h b kb .long (1 : Int32) [(.long z0)] (.long (0 : Int64)))
set_option maxRecDepth 65536 in
set_option maxHeartbeats 40000000 in
theorem rm4k1 (l : Launch) (Z : State) (a0 : Array Value) (hw : ∀ d ∈ tables_1, d.before a0 Z = true) (ws : List Jvm.Cond) (a : Addr) (k1 : ClassId) (z0 : Int64) (h0 : Heap) (n0 : Nat) (Z0 : n0 ≤ h0.size) (P0 : Arv Z h0 a k1 .long (16 : Int32) [(.long z0), (.long (0 : Int64)), (.long (0 : Int64)), (.long (0 : Int64)), (.long (0 : Int64)), (.long (0 : Int64)), (.long (0 : Int64)), (.long (0 : Int64)), (.long (0 : Int64)), (.long (0 : Int64)), (.long (0 : Int64)), (.long (0 : Int64)), (.long (0 : Int64)), (.long (0 : Int64)), (.long (0 : Int64)), (.long (0 : Int64))] (.long (0 : Int64))) :
    MetFree l (⟨"java/util/Arrays", "copyOf", "([JI)[J"⟩ : MethodName) (head1 (Jvm.Cond.code (⟨"java/util/Arrays", "copyOf", "([JI)[J"⟩ : MethodName) jdk_65_method_124_code 3 (some (.array .long)) :: ws) ({ frames := 1, cells := 1, slots := 1, locals := 18 } : Room)) (fun argz U => argz = #[(.ref a), (.int (1 : Int32))] ∧ Z.Warmed39 U.vm ∧ U.heap = h0) (fun _ _ _ _ _ => True) (fun _ U o U' => ∃ v L, o = .returned v ∧ Q4k1 Z a k1 z0 h0 n0 v U'.heap L ∧ FrameEnd U o U' L ({ frames := 1, cells := 1, slots := 1, locals := 18 } : Room).cells ({ frames := 1, cells := 1, slots := 1, locals := 18 } : Room).slots) := by
  refine MetFree.of_bodySF (plainFor_of_name pn_java_util_Arrays) hisR ?_
  intro p e s m args below meth c s₁ Bd hml0 hP hK
  obtain ⟨rfl, hZ, hh⟩ := hP
  have hx := Bd.exec
  have hby := Bd.bytes
  have hml : c.maxLocals = 3 := hml0
  have hown : s.vm.findClass "java/util/Arrays" = some m.cls := findClass_of_methodNamed Bd.named
  have hnm := (name_of_methodNamed Bd.named Bd.method).1
  have X0 : Stand p l e ({ frames := 1, cells := 1, slots := 1, locals := 18 } : Room) s m #[(.ref a), (.int (1 : Int32))] below meth c s₁ [] 0 0 := Stand.of_body Bd
  have e0 : s₁.heap = h0 := by rw [← hh, Bd.state]; rfl
  have N0 := Fr.nil n0
  have K0 : Keep h0 h0 [] := Keep.refl _ _
  have G : Gets p e below (s₁.setTop (entryFrame m #[(.ref a), (.int (1 : Int32))] 3)) (s₁.setTop (mkF m 0 #[.val (.ref a), .val (.int (1 : Int32)), .unset] [])) := fun t k => castTop (ef_4k1 m a) k
  replace G := own_iloadN (q := 1) G X0.here hx (hb hby d4_0) rfl rfl
  replace G := own_aloadN (q := 2) G X0.here hx (hb hby d4_1) rfl rfl rfl
  obtain ⟨c1, Ar1, -, S1, N1', -, -⟩ := id P0
  replace G : Gets p e below _ (s₁.setTop (mkF m 3 #[.val (.ref a), .val (.int (1 : Int32)), .unset] [(.int (16 : Int32)), (.int (1 : Int32))])) := fun t k => G t (X0.arraylength hx (by rw [e0]; exact Ar1.1) (State.isArrayOf_alike hZ.alike Ar1.2.1) (g := (mkF m 2 #[.val (.ref a), .val (.int (1 : Int32)), .unset] [(.ref a), (.int (1 : Int32))])) rfl rfl (hb hby d4_2) t (by rw [len_of S1 N1']; exact k))
  have hc3_2 : ¬ ((1 : Int32) = (16 : Int32)) := by decide
  replace G := own_icmpYes (q := 14) G X0.here hx (hb hby d4_3) (feq hc3_2).2 (by decide) (by decide)
  replace G := own_iloadN (q := 15) G X0.here hx (hb hby d4_14) rfl rfl
  obtain ⟨T3, h3, k3, X3, e3, E3, A3, st3⟩ := newP X0 hx hZ (hw _ (List.mem_of_getElem? (i := 10) rfl)) e0 (g := (mkF m 15 #[.val (.ref a), .val (.int (1 : Int32)), .unset] [(.int (1 : Int32))])) rfl (hb hby d4_15) rfl (by decide) (cap := 1) (by decide) (by decide) (by decide) (by decide)
  obtain ⟨b3, g3⟩ : ∃ z, z = h0.size := ⟨_, rfl⟩
  rw [← g3] at A3 st3
  have ne4 : a ≠ b3 := Nat.ne_of_lt (Nat.lt_of_lt_of_le P0.lt (Nat.le_of_eq g3.symm))
  have ge_b3 : n0 ≤ b3 := Nat.le_trans Z0 (Nat.le_of_eq g3.symm)
  have sz_b3 : h0.size ≤ b3 := Nat.le_trans K0.1 (Nat.le_of_eq g3.symm)
  have Z3 : n0 ≤ h3.size := Nat.le_trans Z0 E3.1
  have K3 : Keep h0 h3 [] := K0.ext E3
  have V3 : Arv Z h3 b3 k3 .long (1 : Int32) [(.long (0 : Int64))] (.long (0 : Int64)) := (Arv.new A3 (by decide)).pad (pad_rep [] (.long (0 : Int64)) 1)
  replace G : Gets p e below _ (T3.setTop (mkF m 17 #[.val (.ref a), .val (.int (1 : Int32)), .unset] [(.ref b3)])) := fun t k => G t (st3 t k)
  replace G := own_astoreN (q := 18) (l' := #[.val (.ref a), .val (.int (1 : Int32)), .val (.ref b3)]) G X3.here hx (hb hby d4_17) rfl rfl rfl
  replace G := own_aloadN (q := 19) G X3.here hx (hb hby d4_18) rfl rfl rfl
  replace G := own_iconst (q := 20) G X3.here hx (hb hby d4_19) (v := (0 : Int32)) (by decide) rfl
  replace G := own_aloadN (q := 21) G X3.here hx (hb hby d4_20) rfl rfl rfl
  replace G := own_iconst (q := 22) G X3.here hx (hb hby d4_21) (v := (0 : Int32)) (by decide) rfl
  replace G := own_aloadN (q := 23) G X3.here hx (hb hby d4_22) rfl rfl rfl
  have F5 : Arv Z h3 a k1 .long (16 : Int32) [(.long z0), (.long (0 : Int64)), (.long (0 : Int64)), (.long (0 : Int64)), (.long (0 : Int64)), (.long (0 : Int64)), (.long (0 : Int64)), (.long (0 : Int64)), (.long (0 : Int64)), (.long (0 : Int64)), (.long (0 : Int64)), (.long (0 : Int64)), (.long (0 : Int64)), (.long (0 : Int64)), (.long (0 : Int64)), (.long (0 : Int64))] (.long (0 : Int64)) := (P0.ext E3)
  obtain ⟨c6, Ar6, -, S6, N6', -, -⟩ := id F5
  replace G : Gets p e below _ (T3.setTop (mkF m 24 #[.val (.ref a), .val (.int (1 : Int32)), .val (.ref b3)] [(.int (16 : Int32)), (.int (0 : Int32)), (.ref b3), (.int (0 : Int32)), (.ref a)])) := fun t k => G t (X3.arraylength hx (by rw [e3]; exact Ar6.1) (State.isArrayOf_alike hZ.alike Ar6.2.1) (g := (mkF m 23 #[.val (.ref a), .val (.int (1 : Int32)), .val (.ref b3)] [(.ref a), (.int (0 : Int32)), (.ref b3), (.int (0 : Int32)), (.ref a)])) rfl rfl (hb hby d4_23) t (by rw [len_of S6 N6']; exact k))
  replace G := own_iloadN (q := 25) G X3.here hx (hb hby d4_24) rfl rfl
  obtain ⟨_, _, ⟨T7, L7, kk7, nn7⟩, -, X7, ⟨Lc7, hQ7, l7, y7, z7⟩, st7⟩ := Jvm.LawKit.callS X3 hx (y := (⟨"java/lang/Math", "min", "(II)I"⟩ : MethodName)) hown (mvT hZ (hw _ (List.mem_of_getElem? (i := 30) rfl))) (mvT hZ (hw _ (List.mem_of_getElem? (i := 31) rfl))) (mvT hZ (hw _ (List.mem_of_getElem? (i := 32) rfl))) (mvT hZ (hw _ (List.mem_of_getElem? (i := 33) rfl))) (by decide) (backOf (W := 4) (rm5k1 l Z a0 hw []  h3 n0 Z3 ) hZ (hw _ (List.mem_of_getElem? (i := 33) rfl)) (hw _ (List.mem_of_getElem? (i := 32) rfl)) (by decide) (by decide)) (g := (mkF m 25 #[.val (.ref a), .val (.int (1 : Int32)), .val (.ref b3)] [(.int (1 : Int32)), (.int (16 : Int32)), (.int (0 : Int32)), (.ref b3), (.int (0 : Int32)), (.ref a)])) rfl (by rw [hml]; rfl) (argsL := [(.int (16 : Int32)), (.int (1 : Int32))]) (rest := [(.int (0 : Int32)), (.ref b3), (.int (0 : Int32)), (.ref a)]) (lenOf pd_0 rfl) rfl (by show 2 * 0 + _ ≤ _; exact Nat.le_of_eq rfl) (hb hby d4_25) (fun _ _ => ⟨rfl, e3, (by decide : 1 + 0 ≤ _), (by decide : 1 + 0 ≤ _)⟩)
  dsimp only [Pt.U, Pt.locs, Pt.cells, Pt.slots] at X7 l7 y7 z7 st7 hQ7
  subst l7 y7 z7
  obtain ⟨rfl, N7q, e7⟩ := hQ7
  have N7 := Fr.app N0 N7q
  replace G : Gets p e below _ (T7.setTop (mkF m 28 #[.val (.ref a), .val (.int (1 : Int32)), .val (.ref b3)] [(.int (1 : Int32)), (.int (0 : Int32)), (.ref b3), (.int (0 : Int32)), (.ref a)])) := fun t k => G t (st7 t k)
  obtain ⟨T8, h8, L8, X8, e8, N8, K8q, V8, st8⟩ := cpA X7 hx hZ hown (hw _ (List.mem_of_getElem? (i := 34) rfl)) (hw _ (List.mem_of_getElem? (i := 37) rfl)) (hw _ (List.mem_of_getElem? (i := 35) rfl)) (hw _ (List.mem_of_getElem? (i := 36) rfl)) e7 F5 V3 (us := [(.long z0)]) (Or.inl ⟨rfl, rfl⟩) (by decide) (by decide) (by decide) (by decide) (by decide) (by rfl) (by decide) N7 ge_b3 (g := (mkF m 28 #[.val (.ref a), .val (.int (1 : Int32)), .val (.ref b3)] [(.int (1 : Int32)), (.int (0 : Int32)), (.ref b3), (.int (0 : Int32)), (.ref a)])) rfl (by rw [hml]; rfl) rfl (hb hby d4_28) (by decide) (W := 0) (by show 2 * 0 + _ ≤ _; exact Nat.le_of_eq rfl) (by decide)
  have Z8 : n0 ≤ h8.size := Nat.le_trans Z3 K8q.1
  have K8 : Keep h0 h8 [] := K3.trans K8q (allS (Or.inr sz_b3) all0)
  have U8 : Arv Z h8 b3 k3 .long (1 : Int32) [(.long z0)] (.long (0 : Int64)) := V8
  replace G : Gets p e below _ (T8.setTop (mkF m 31 #[.val (.ref a), .val (.int (1 : Int32)), .val (.ref b3)] [])) := fun t k => G t (st8 t k)
  replace G := own_aloadN (q := 32) G X8.here hx (hb hby d4_31) rfl rfl rfl
  obtain ⟨fs, hr, hrun, hended, hW, hsame⟩ := X8.leave (v := some (.ref b3)) (fun h => by rw [Bd.returns] at h; cases h)
  refine ⟨_, _, G _ (retOut X8 hx Bd.returns rfl (Or.inr (Or.inr (Or.inr (Or.inr ⟨rfl, rfl, rfl⟩)))) (hb hby d4_32) hr), hrun, hended, _, _, rfl, ?_, ⟨_, rfl⟩, hW, hsame.mono (by decide) (by decide)⟩
  show Q4k1 Z a k1 z0 h0 n0 _ T8.heap _
  rw [e8]
  exact ⟨b3, k3, rfl, N8, K8, sz_b3, U8⟩
theorem ef_3k1 (m : MethodId) (x0 : Addr) : entryFrame m #[(.ref x0)] 1 = mkF m 0 #[.val (.ref x0)] [] := by first | (simp [entryFrame, mkF, argsToLocals, Value.category]; done) | rfl
def Q3k1 (Z : State) (a : Addr) (b3 : Addr) (k3 : ClassId) (z0 : Int64) (h0 : Heap) (n0 : Nat) (v : Option Value) (h : Heap) (L : List Loc) : Prop := ∃ (b : Addr) (kb : ClassId), v = some (.ref b) ∧ Fr n0 L ∧ Keep h0 h [] ∧ h0.size ≤ b ∧ (Arv Z h b kb .long (1 : Int32) [(.long z0)] (.long (0 : Int64)))
set_option maxRecDepth 65536 in
set_option maxHeartbeats 40000000 in
theorem rm3k1 (l : Launch) (Z : State) (a0 : Array Value) (hw : ∀ d ∈ tables_1, d.before a0 Z = true) (ws : List Jvm.Cond) (a : Addr) (b3 : Addr) (k3 : ClassId) (z0 : Int64) (h0 : Heap) (n0 : Nat) (Z0 : n0 ≤ h0.size) (P0 : Fld Z h0 a "com/example/crossbill/crossbill/csv/RecordSpans" "size" "I" (.int (1 : Int32))) (P1 : Fld Z h0 a "com/example/crossbill/crossbill/csv/RecordSpans" "lines" "[J" (.ref b3)) (P2 : Arv Z h0 b3 k3 .long (16 : Int32) [(.long z0), (.long (0 : Int64)), (.long (0 : Int64)), (.long (0 : Int64)), (.long (0 : Int64)), (.long (0 : Int64)), (.long (0 : Int64)), (.long (0 : Int64)), (.long (0 : Int64)), (.long (0 : Int64)), (.long (0 : Int64)), (.long (0 : Int64)), (.long (0 : Int64)), (.long (0 : Int64)), (.long (0 : Int64)), (.long (0 : Int64))] (.long (0 : Int64))) :
    MetFree l (⟨"com/example/crossbill/crossbill/csv/RecordSpans", "lines", "()[J"⟩ : MethodName) (head1 (Jvm.Cond.code (⟨"com/example/crossbill/crossbill/csv/RecordSpans", "lines", "()[J"⟩ : MethodName) prog_17_method_7_code 1 (some (.array .long)) :: ws) ({ frames := 2, cells := 1, slots := 1, locals := 32 } : Room)) (fun argz U => argz = #[(.ref a)] ∧ Z.Warmed39 U.vm ∧ U.heap = h0) (fun _ _ _ _ _ => True) (fun _ U o U' => ∃ v L, o = .returned v ∧ Q3k1 Z a b3 k3 z0 h0 n0 v U'.heap L ∧ FrameEnd U o U' L ({ frames := 2, cells := 1, slots := 1, locals := 32 } : Room).cells ({ frames := 2, cells := 1, slots := 1, locals := 32 } : Room).slots) := by
  refine MetFree.of_bodySF (plainFor_of_name pn_com_example_crossbill_crossbill_csv_RecordSpans) hisR ?_
  intro p e s m args below meth c s₁ Bd hml0 hP hK
  obtain ⟨rfl, hZ, hh⟩ := hP
  have hx := Bd.exec
  have hby := Bd.bytes
  have hml : c.maxLocals = 1 := hml0
  have hown : s.vm.findClass "com/example/crossbill/crossbill/csv/RecordSpans" = some m.cls := findClass_of_methodNamed Bd.named
  have hnm := (name_of_methodNamed Bd.named Bd.method).1
  have X0 : Stand p l e ({ frames := 2, cells := 1, slots := 1, locals := 32 } : Room) s m #[(.ref a)] below meth c s₁ [] 0 0 := Stand.of_body Bd
  have e0 : s₁.heap = h0 := by rw [← hh, Bd.state]; rfl
  have N0 := Fr.nil n0
  have K0 : Keep h0 h0 [] := Keep.refl _ _
  have G : Gets p e below (s₁.setTop (entryFrame m #[(.ref a)] 1)) (s₁.setTop (mkF m 0 #[.val (.ref a)] [])) := fun t k => castTop (ef_3k1 m a) k
  replace G := own_aloadN (q := 1) G X0.here hx (hb hby d3_0) rfl rfl rfl
  obtain ⟨T1, X1, e1, st1⟩ := getF X0 hx hZ hown (host := "") (Or.inl (hw _ (List.mem_of_getElem? (i := 15) rfl))) Via.refl e0 P1 (g := (mkF m 1 #[.val (.ref a)] [(.ref a)])) rfl rfl (hb hby d3_1)
  replace G : Gets p e below _ (T1.setTop (mkF m 4 #[.val (.ref a)] [(.ref b3)])) := fun t k => G t (st1 t k)
  replace G := own_aloadN (q := 5) G X1.here hx (hb hby d3_4) rfl rfl rfl
  obtain ⟨T2, X2, e2, st2⟩ := getF X1 hx hZ hown (host := "") (Or.inl (hw _ (List.mem_of_getElem? (i := 24) rfl))) Via.refl e1 P0 (g := (mkF m 5 #[.val (.ref a)] [(.ref a), (.ref b3)])) rfl rfl (hb hby d3_5)
  replace G : Gets p e below _ (T2.setTop (mkF m 8 #[.val (.ref a)] [(.int (1 : Int32)), (.ref b3)])) := fun t k => G t (st2 t k)
  obtain ⟨_, _, ⟨T3, L3, kk3, nn3⟩, -, X3, ⟨Lc3, hQ3, l3, y3, z3⟩, st3⟩ := Jvm.LawKit.callS X2 hx (y := (⟨"java/util/Arrays", "copyOf", "([JI)[J"⟩ : MethodName)) hown (mvT hZ (hw _ (List.mem_of_getElem? (i := 26) rfl))) (mvT hZ (hw _ (List.mem_of_getElem? (i := 27) rfl))) (mvT hZ (hw _ (List.mem_of_getElem? (i := 28) rfl))) (mvT hZ (hw _ (List.mem_of_getElem? (i := 29) rfl))) (by decide) (backOf (W := 0) (rm4k1 l Z a0 hw [] b3 k3 z0 h0 n0 Z0 P2) hZ (hw _ (List.mem_of_getElem? (i := 29) rfl)) (hw _ (List.mem_of_getElem? (i := 28) rfl)) (by decide) (by decide)) (g := (mkF m 8 #[.val (.ref a)] [(.int (1 : Int32)), (.ref b3)])) rfl (by rw [hml]; rfl) (argsL := [(.ref b3), (.int (1 : Int32))]) (rest := []) (lenOf pd_1 rfl) rfl (by show 2 * 0 + _ ≤ _; exact Nat.le_of_eq rfl) (hb hby d3_8) (fun _ _ => ⟨rfl, e2, (by decide : 0 + 1 ≤ _), (by decide : 0 + 1 ≤ _)⟩)
  dsimp only [Pt.U, Pt.locs, Pt.cells, Pt.slots] at X3 l3 y3 z3 st3 hQ3
  subst l3 y3 z3
  obtain ⟨b_3, kb_3, rfl, N3q, K3q, B3_0, B3_1⟩ := hQ3
  have ne4 : a ≠ b_3 := Nat.ne_of_lt (Nat.lt_of_lt_of_le P0.lt B3_0)
  have ne5 : b3 ≠ b_3 := Nat.ne_of_lt (Nat.lt_of_lt_of_le P2.lt B3_0)
  have ge_b_3 : n0 ≤ b_3 := Nat.le_trans Z0 B3_0
  have sz_b_3 : h0.size ≤ b_3 := Nat.le_trans K0.1 B3_0
  have Z3 : n0 ≤ T3.heap.size := Nat.le_trans Z0 K3q.1
  have K3 : Keep h0 T3.heap [] := K0.trans K3q all0
  have N3 := Fr.app N0 N3q
  replace G : Gets p e below _ (T3.setTop (mkF m 11 #[.val (.ref a)] [(.ref b_3)])) := fun t k => G t (st3 t k)
  obtain ⟨fs, hr, hrun, hended, hW, hsame⟩ := X3.leave (v := some (.ref b_3)) (fun h => by rw [Bd.returns] at h; cases h)
  refine ⟨_, _, G _ (retOut X3 hx Bd.returns rfl (Or.inr (Or.inr (Or.inr (Or.inr ⟨rfl, rfl, rfl⟩)))) (hb hby d3_11) hr), hrun, hended, _, _, rfl, ?_, ⟨_, rfl⟩, hW, hsame.mono (by decide) (by decide)⟩
  show Q3k1 Z a b3 k3 z0 h0 n0 _ T3.heap _
  exact ⟨b_3, kb_3, rfl, N3, K3, sz_b_3, B3_1⟩
theorem d6_12 : decode method_2_code 12 = .ok (.aload_n 0, 1) := by decide +kernel
theorem d6_13 : decode method_2_code 13 = .ok (.iconst 0, 1) := by decide +kernel
theorem d6_14 : decode method_2_code 14 = .ok (.laload, 1) := by decide +kernel
theorem d6_15 : decode method_2_code 15 = .ok (.lload_n 2, 1) := by decide +kernel
theorem d6_16 : decode method_2_code 16 = .ok (.lcmp, 1) := by decide +kernel
theorem d6_17 : decode method_2_code 17 = .ok (.ifCond .eq 5, 3) := by decide +kernel
theorem ef_6k1 (m : MethodId) (x0 : Addr) (x2 : Int64) (x3 : Int64) (x4 : Int64) (x5 : Int64) : entryFrame m #[(.ref x0), (.int (1 : Int32)), (.long x2), (.long x3), (.long x4), (.long x5)] 10 = mkF m 0 #[.val (.ref x0), .val (.int (1 : Int32)), .val (.long x2), .second, .val (.long x3), .second, .val (.long x4), .second, .val (.long x5), .second] [] := by first | (simp [entryFrame, mkF, argsToLocals, Value.category]; done) | rfl
def Q6k1 (Z : State) (a : Addr) (z0 : Int64) (z1 : Int64) (z2 : Int64) (z3 : Int64) (k1 : ClassId) (h0 : Heap) (n0 : Nat) (v : Option Value) (h : Heap) (L : List Loc) : Prop := v = some (.int (1 : Int32)) ∧ Fr n0 L ∧ h = h0
set_option maxRecDepth 65536 in
set_option maxHeartbeats 40000000 in
theorem rm6k1 (l : Launch) (Z : State) (a0 : Array Value) (hw : ∀ d ∈ tables_1, d.before a0 Z = true) (ws : List Jvm.Cond) (a : Addr) (z0 : Int64) (z1 : Int64) (z2 : Int64) (z3 : Int64) (k1 : ClassId) (h0 : Heap) (n0 : Nat) (Z0 : n0 ≤ h0.size) (P0 : Arv Z h0 a k1 .long (1 : Int32) [(.long z0)] (.long (0 : Int64))) :
    MetFree l (⟨"com/example/crossbill/crossbill/csv/RecordSpansLinesPinLaw", "same", "([JIJJJJ)Z"⟩ : MethodName) (head1 (Jvm.Cond.code (⟨"com/example/crossbill/crossbill/csv/RecordSpansLinesPinLaw", "same", "([JIJJJJ)Z"⟩ : MethodName) method_2_code 10 (some .boolean) :: ws) ({ frames := 0, cells := 0, slots := 0, locals := 0 } : Room)) (fun argz U => argz = #[(.ref a), (.int (1 : Int32)), (.long z0), (.long z1), (.long z2), (.long z3)] ∧ Z.Warmed39 U.vm ∧ U.heap = h0) (fun _ _ _ _ _ => True) (fun _ U o U' => ∃ v L, o = .returned v ∧ Q6k1 Z a z0 z1 z2 z3 k1 h0 n0 v U'.heap L ∧ FrameEnd U o U' L ({ frames := 0, cells := 0, slots := 0, locals := 0 } : Room).cells ({ frames := 0, cells := 0, slots := 0, locals := 0 } : Room).slots) := by
  refine MetFree.of_bodySF (plainFor_of_name pn_com_example_crossbill_crossbill_csv_RecordSpansLinesPinLaw) hisR ?_
  intro p e s m args below meth c s₁ Bd hml0 hP hK
  obtain ⟨rfl, hZ, hh⟩ := hP
  have hx := Bd.exec
  have hby := Bd.bytes
  have hml : c.maxLocals = 10 := hml0
  have hown : s.vm.findClass "com/example/crossbill/crossbill/csv/RecordSpansLinesPinLaw" = some m.cls := findClass_of_methodNamed Bd.named
  have hnm := (name_of_methodNamed Bd.named Bd.method).1
  have X0 : Stand p l e ({ frames := 0, cells := 0, slots := 0, locals := 0 } : Room) s m #[(.ref a), (.int (1 : Int32)), (.long z0), (.long z1), (.long z2), (.long z3)] below meth c s₁ [] 0 0 := Stand.of_body Bd
  have e0 : s₁.heap = h0 := by rw [← hh, Bd.state]; rfl
  have N0 := Fr.nil n0
  have G : Gets p e below (s₁.setTop (entryFrame m #[(.ref a), (.int (1 : Int32)), (.long z0), (.long z1), (.long z2), (.long z3)] 10)) (s₁.setTop (mkF m 0 #[.val (.ref a), .val (.int (1 : Int32)), .val (.long z0), .second, .val (.long z1), .second, .val (.long z2), .second, .val (.long z3), .second] [])) := fun t k => castTop (ef_6k1 m a z0 z1 z2 z3) k
  replace G := own_aloadN (q := 1) G X0.here hx (hb hby d6_0) rfl rfl rfl
  obtain ⟨c1, Ar1, -, S1, N1', -, -⟩ := id P0
  replace G : Gets p e below _ (s₁.setTop (mkF m 2 #[.val (.ref a), .val (.int (1 : Int32)), .val (.long z0), .second, .val (.long z1), .second, .val (.long z2), .second, .val (.long z3), .second] [(.int (1 : Int32))])) := fun t k => G t (X0.arraylength hx (by rw [e0]; exact Ar1.1) (State.isArrayOf_alike hZ.alike Ar1.2.1) (g := (mkF m 1 #[.val (.ref a), .val (.int (1 : Int32)), .val (.long z0), .second, .val (.long z1), .second, .val (.long z2), .second, .val (.long z3), .second] [(.ref a)])) rfl rfl (hb hby d6_1) t (by rw [len_of S1 N1']; exact k))
  replace G := own_iloadN (q := 3) G X0.here hx (hb hby d6_2) rfl rfl
  have hc3_2 : (1 : Int32) = (1 : Int32) := by decide
  replace G := own_icmpYes (q := 8) G X0.here hx (hb hby d6_3) (teq hc3_2).1 (by decide) (by decide)
  replace G := own_iloadN (q := 9) G X0.here hx (hb hby d6_8) rfl rfl
  have hc9_3 : (0 : Int32) < (1 : Int32) := by decide
  replace G := own_ifNo (q := 12) G X0.here hx (hb hby d6_9) ((if0 _ _).trans (tlt hc9_3).2.2.2) rfl
  replace G := own_aloadN (q := 13) G X0.here hx (hb hby d6_12) rfl rfl rfl
  replace G := own_iconst (q := 14) G X0.here hx (hb hby d6_13) (v := (0 : Int32)) (by decide) rfl
  obtain ⟨c4, Ar4, -, S4, -, H4, -⟩ := id P0
  have hin4 : ¬ ((0 : Int32) < 0 ∨ c4.slots.size ≤ ((0 : Int32)).toNatClampNeg) := inb_of S4 ⟨by decide, by decide⟩
  replace G : Gets p e below _ (s₁.setTop (mkF m 15 #[.val (.ref a), .val (.int (1 : Int32)), .val (.long z0), .second, .val (.long z1), .second, .val (.long z2), .second, .val (.long z3), .second] [(.long z0)])) := fun t k => G t (X0.laload hx (j := (0 : Int32)) (v := (.long z0)) (by rw [e0]; exact Ar4.1) (State.isArrayOf_alike hZ.alike Ar4.2.1) Ar4.2.2 hin4 (Has.at H4 hin4 rfl) (g := (mkF m 14 #[.val (.ref a), .val (.int (1 : Int32)), .val (.long z0), .second, .val (.long z1), .second, .val (.long z2), .second, .val (.long z3), .second] [(.int (0 : Int32)), (.ref a)])) rfl rfl (hb hby d6_14) t k)
  replace G := own_lloadN (q := 16) G X0.here hx (hb hby d6_15) rfl rfl
  replace G := own_lcmp (q := 17) G X0.here hx (hb hby d6_16) rfl
  have hc17_5 : z0 = z0 := rfl
  replace G := own_ifYes (q := 22) G X0.here hx (hb hby d6_17) ((if0 _ _).trans (teq ((lw_eq _ _).mpr hc17_5)).1) (by decide) (by decide)
  replace G := own_iloadN (q := 23) G X0.here hx (hb hby d6_22) rfl rfl
  replace G := own_iconst (q := 24) G X0.here hx (hb hby d6_23) (v := (1 : Int32)) (by decide) rfl
  have hc24_6 : ¬ ((1 : Int32) < (1 : Int32)) := by decide
  replace G := own_icmpYes (q := 38) G X0.here hx (hb hby d6_24) (flt hc24_6).2.2.2 (by decide) (by decide)
  replace G := own_iloadN (q := 39) G X0.here hx (hb hby d6_38) rfl rfl
  replace G := own_iconst (q := 40) G X0.here hx (hb hby d6_39) (v := (2 : Int32)) (by decide) rfl
  have hc40_7 : ¬ ((2 : Int32) < (1 : Int32)) := by decide
  replace G := own_icmpYes (q := 54) G X0.here hx (hb hby d6_40) (flt hc40_7).2.2.2 (by decide) (by decide)
  replace G := own_iloadN (q := 55) G X0.here hx (hb hby d6_54) rfl rfl
  replace G := own_iconst (q := 56) G X0.here hx (hb hby d6_55) (v := (3 : Int32)) (by decide) rfl
  have hc56_8 : ¬ ((3 : Int32) < (1 : Int32)) := by decide
  replace G := own_icmpYes (q := 70) G X0.here hx (hb hby d6_56) (flt hc56_8).2.2.2 (by decide) (by decide)
  replace G := own_iconst (q := 71) G X0.here hx (hb hby d6_70) (v := (1 : Int32)) (by decide) rfl
  obtain ⟨fs, hr, hrun, hended, hW, hsame⟩ := X0.leave (v := some (.int (1 : Int32))) (fun h => by rw [Bd.returns] at h; cases h)
  refine ⟨_, _, G _ (retOut X0 hx Bd.returns rfl (Or.inl ⟨rfl, Or.inr (Or.inl rfl), _, rfl⟩) (hb hby d6_71) hr), hrun, hended, _, _, rfl, ?_, ⟨_, rfl⟩, hW, hsame.mono (by decide) (by decide)⟩
  show Q6k1 Z a z0 z1 z2 z3 k1 h0 n0 _ s₁.heap _
  rw [e0]
  exact ⟨rfl, N0, rfl⟩
theorem ef_4k2 (m : MethodId) (x0 : Addr) : entryFrame m #[(.ref x0), (.int (2 : Int32))] 3 = mkF m 0 #[.val (.ref x0), .val (.int (2 : Int32)), .unset] [] := by first | (simp [entryFrame, mkF, argsToLocals, Value.category]; done) | rfl
def Q4k2 (Z : State) (a : Addr) (k1 : ClassId) (z0 : Int64) (z1 : Int64) (h0 : Heap) (n0 : Nat) (v : Option Value) (h : Heap) (L : List Loc) : Prop := ∃ (b : Addr) (kb : ClassId), v = some (.ref b) ∧ Fr n0 L ∧ Keep h0 h [] ∧ h0.size ≤ b ∧ (Arv Z h b kb .long (2 : Int32) [(.long z0), (.long z1)] (.long (0 : Int64)))
set_option maxRecDepth 65536 in
set_option maxHeartbeats 40000000 in
theorem rm4k2 (l : Launch) (Z : State) (a0 : Array Value) (hw : ∀ d ∈ tables_1, d.before a0 Z = true) (ws : List Jvm.Cond) (a : Addr) (k1 : ClassId) (z0 : Int64) (z1 : Int64) (h0 : Heap) (n0 : Nat) (Z0 : n0 ≤ h0.size) (P0 : Arv Z h0 a k1 .long (16 : Int32) [(.long z0), (.long z1), (.long (0 : Int64)), (.long (0 : Int64)), (.long (0 : Int64)), (.long (0 : Int64)), (.long (0 : Int64)), (.long (0 : Int64)), (.long (0 : Int64)), (.long (0 : Int64)), (.long (0 : Int64)), (.long (0 : Int64)), (.long (0 : Int64)), (.long (0 : Int64)), (.long (0 : Int64)), (.long (0 : Int64))] (.long (0 : Int64))) :
    MetFree l (⟨"java/util/Arrays", "copyOf", "([JI)[J"⟩ : MethodName) (head1 (Jvm.Cond.code (⟨"java/util/Arrays", "copyOf", "([JI)[J"⟩ : MethodName) jdk_65_method_124_code 3 (some (.array .long)) :: ws) ({ frames := 1, cells := 1, slots := 2, locals := 18 } : Room)) (fun argz U => argz = #[(.ref a), (.int (2 : Int32))] ∧ Z.Warmed39 U.vm ∧ U.heap = h0) (fun _ _ _ _ _ => True) (fun _ U o U' => ∃ v L, o = .returned v ∧ Q4k2 Z a k1 z0 z1 h0 n0 v U'.heap L ∧ FrameEnd U o U' L ({ frames := 1, cells := 1, slots := 2, locals := 18 } : Room).cells ({ frames := 1, cells := 1, slots := 2, locals := 18 } : Room).slots) := by
  refine MetFree.of_bodySF (plainFor_of_name pn_java_util_Arrays) hisR ?_
  intro p e s m args below meth c s₁ Bd hml0 hP hK
  obtain ⟨rfl, hZ, hh⟩ := hP
  have hx := Bd.exec
  have hby := Bd.bytes
  have hml : c.maxLocals = 3 := hml0
  have hown : s.vm.findClass "java/util/Arrays" = some m.cls := findClass_of_methodNamed Bd.named
  have hnm := (name_of_methodNamed Bd.named Bd.method).1
  have X0 : Stand p l e ({ frames := 1, cells := 1, slots := 2, locals := 18 } : Room) s m #[(.ref a), (.int (2 : Int32))] below meth c s₁ [] 0 0 := Stand.of_body Bd
  have e0 : s₁.heap = h0 := by rw [← hh, Bd.state]; rfl
  have N0 := Fr.nil n0
  have K0 : Keep h0 h0 [] := Keep.refl _ _
  have G : Gets p e below (s₁.setTop (entryFrame m #[(.ref a), (.int (2 : Int32))] 3)) (s₁.setTop (mkF m 0 #[.val (.ref a), .val (.int (2 : Int32)), .unset] [])) := fun t k => castTop (ef_4k2 m a) k
  replace G := own_iloadN (q := 1) G X0.here hx (hb hby d4_0) rfl rfl
  replace G := own_aloadN (q := 2) G X0.here hx (hb hby d4_1) rfl rfl rfl
  obtain ⟨c1, Ar1, -, S1, N1', -, -⟩ := id P0
  replace G : Gets p e below _ (s₁.setTop (mkF m 3 #[.val (.ref a), .val (.int (2 : Int32)), .unset] [(.int (16 : Int32)), (.int (2 : Int32))])) := fun t k => G t (X0.arraylength hx (by rw [e0]; exact Ar1.1) (State.isArrayOf_alike hZ.alike Ar1.2.1) (g := (mkF m 2 #[.val (.ref a), .val (.int (2 : Int32)), .unset] [(.ref a), (.int (2 : Int32))])) rfl rfl (hb hby d4_2) t (by rw [len_of S1 N1']; exact k))
  have hc3_2 : ¬ ((2 : Int32) = (16 : Int32)) := by decide
  replace G := own_icmpYes (q := 14) G X0.here hx (hb hby d4_3) (feq hc3_2).2 (by decide) (by decide)
  replace G := own_iloadN (q := 15) G X0.here hx (hb hby d4_14) rfl rfl
  obtain ⟨T3, h3, k3, X3, e3, E3, A3, st3⟩ := newP X0 hx hZ (hw _ (List.mem_of_getElem? (i := 10) rfl)) e0 (g := (mkF m 15 #[.val (.ref a), .val (.int (2 : Int32)), .unset] [(.int (2 : Int32))])) rfl (hb hby d4_15) rfl (by decide) (cap := 2) (by decide) (by decide) (by decide) (by decide)
  obtain ⟨b3, g3⟩ : ∃ z, z = h0.size := ⟨_, rfl⟩
  rw [← g3] at A3 st3
  have ne4 : a ≠ b3 := Nat.ne_of_lt (Nat.lt_of_lt_of_le P0.lt (Nat.le_of_eq g3.symm))
  have ge_b3 : n0 ≤ b3 := Nat.le_trans Z0 (Nat.le_of_eq g3.symm)
  have sz_b3 : h0.size ≤ b3 := Nat.le_trans K0.1 (Nat.le_of_eq g3.symm)
  have Z3 : n0 ≤ h3.size := Nat.le_trans Z0 E3.1
  have K3 : Keep h0 h3 [] := K0.ext E3
  have V3 : Arv Z h3 b3 k3 .long (2 : Int32) [(.long (0 : Int64)), (.long (0 : Int64))] (.long (0 : Int64)) := (Arv.new A3 (by decide)).pad (pad_rep [] (.long (0 : Int64)) 2)
  replace G : Gets p e below _ (T3.setTop (mkF m 17 #[.val (.ref a), .val (.int (2 : Int32)), .unset] [(.ref b3)])) := fun t k => G t (st3 t k)
  replace G := own_astoreN (q := 18) (l' := #[.val (.ref a), .val (.int (2 : Int32)), .val (.ref b3)]) G X3.here hx (hb hby d4_17) rfl rfl rfl
  replace G := own_aloadN (q := 19) G X3.here hx (hb hby d4_18) rfl rfl rfl
  replace G := own_iconst (q := 20) G X3.here hx (hb hby d4_19) (v := (0 : Int32)) (by decide) rfl
  replace G := own_aloadN (q := 21) G X3.here hx (hb hby d4_20) rfl rfl rfl
  replace G := own_iconst (q := 22) G X3.here hx (hb hby d4_21) (v := (0 : Int32)) (by decide) rfl
  replace G := own_aloadN (q := 23) G X3.here hx (hb hby d4_22) rfl rfl rfl
  have F5 : Arv Z h3 a k1 .long (16 : Int32) [(.long z0), (.long z1), (.long (0 : Int64)), (.long (0 : Int64)), (.long (0 : Int64)), (.long (0 : Int64)), (.long (0 : Int64)), (.long (0 : Int64)), (.long (0 : Int64)), (.long (0 : Int64)), (.long (0 : Int64)), (.long (0 : Int64)), (.long (0 : Int64)), (.long (0 : Int64)), (.long (0 : Int64)), (.long (0 : Int64))] (.long (0 : Int64)) := (P0.ext E3)
  obtain ⟨c6, Ar6, -, S6, N6', -, -⟩ := id F5
  replace G : Gets p e below _ (T3.setTop (mkF m 24 #[.val (.ref a), .val (.int (2 : Int32)), .val (.ref b3)] [(.int (16 : Int32)), (.int (0 : Int32)), (.ref b3), (.int (0 : Int32)), (.ref a)])) := fun t k => G t (X3.arraylength hx (by rw [e3]; exact Ar6.1) (State.isArrayOf_alike hZ.alike Ar6.2.1) (g := (mkF m 23 #[.val (.ref a), .val (.int (2 : Int32)), .val (.ref b3)] [(.ref a), (.int (0 : Int32)), (.ref b3), (.int (0 : Int32)), (.ref a)])) rfl rfl (hb hby d4_23) t (by rw [len_of S6 N6']; exact k))
  replace G := own_iloadN (q := 25) G X3.here hx (hb hby d4_24) rfl rfl
  obtain ⟨_, _, ⟨T7, L7, kk7, nn7⟩, -, X7, ⟨Lc7, hQ7, l7, y7, z7⟩, st7⟩ := Jvm.LawKit.callS X3 hx (y := (⟨"java/lang/Math", "min", "(II)I"⟩ : MethodName)) hown (mvT hZ (hw _ (List.mem_of_getElem? (i := 30) rfl))) (mvT hZ (hw _ (List.mem_of_getElem? (i := 31) rfl))) (mvT hZ (hw _ (List.mem_of_getElem? (i := 32) rfl))) (mvT hZ (hw _ (List.mem_of_getElem? (i := 33) rfl))) (by decide) (backOf (W := 4) (rm5k2 l Z a0 hw []  h3 n0 Z3 ) hZ (hw _ (List.mem_of_getElem? (i := 33) rfl)) (hw _ (List.mem_of_getElem? (i := 32) rfl)) (by decide) (by decide)) (g := (mkF m 25 #[.val (.ref a), .val (.int (2 : Int32)), .val (.ref b3)] [(.int (2 : Int32)), (.int (16 : Int32)), (.int (0 : Int32)), (.ref b3), (.int (0 : Int32)), (.ref a)])) rfl (by rw [hml]; rfl) (argsL := [(.int (16 : Int32)), (.int (2 : Int32))]) (rest := [(.int (0 : Int32)), (.ref b3), (.int (0 : Int32)), (.ref a)]) (lenOf pd_0 rfl) rfl (by show 2 * 0 + _ ≤ _; exact Nat.le_of_eq rfl) (hb hby d4_25) (fun _ _ => ⟨rfl, e3, (by decide : 1 + 0 ≤ _), (by decide : 2 + 0 ≤ _)⟩)
  dsimp only [Pt.U, Pt.locs, Pt.cells, Pt.slots] at X7 l7 y7 z7 st7 hQ7
  subst l7 y7 z7
  obtain ⟨rfl, N7q, e7⟩ := hQ7
  have N7 := Fr.app N0 N7q
  replace G : Gets p e below _ (T7.setTop (mkF m 28 #[.val (.ref a), .val (.int (2 : Int32)), .val (.ref b3)] [(.int (2 : Int32)), (.int (0 : Int32)), (.ref b3), (.int (0 : Int32)), (.ref a)])) := fun t k => G t (st7 t k)
  obtain ⟨T8, h8, L8, X8, e8, N8, K8q, V8, st8⟩ := cpA X7 hx hZ hown (hw _ (List.mem_of_getElem? (i := 34) rfl)) (hw _ (List.mem_of_getElem? (i := 37) rfl)) (hw _ (List.mem_of_getElem? (i := 35) rfl)) (hw _ (List.mem_of_getElem? (i := 36) rfl)) e7 F5 V3 (us := [(.long z0), (.long z1)]) (Or.inl ⟨rfl, rfl⟩) (by decide) (by decide) (by decide) (by decide) (by decide) (by rfl) (by decide) N7 ge_b3 (g := (mkF m 28 #[.val (.ref a), .val (.int (2 : Int32)), .val (.ref b3)] [(.int (2 : Int32)), (.int (0 : Int32)), (.ref b3), (.int (0 : Int32)), (.ref a)])) rfl (by rw [hml]; rfl) rfl (hb hby d4_28) (by decide) (W := 0) (by show 2 * 0 + _ ≤ _; exact Nat.le_of_eq rfl) (by decide)
  have Z8 : n0 ≤ h8.size := Nat.le_trans Z3 K8q.1
  have K8 : Keep h0 h8 [] := K3.trans K8q (allS (Or.inr sz_b3) all0)
  have U8 : Arv Z h8 b3 k3 .long (2 : Int32) [(.long z0), (.long z1)] (.long (0 : Int64)) := V8
  replace G : Gets p e below _ (T8.setTop (mkF m 31 #[.val (.ref a), .val (.int (2 : Int32)), .val (.ref b3)] [])) := fun t k => G t (st8 t k)
  replace G := own_aloadN (q := 32) G X8.here hx (hb hby d4_31) rfl rfl rfl
  obtain ⟨fs, hr, hrun, hended, hW, hsame⟩ := X8.leave (v := some (.ref b3)) (fun h => by rw [Bd.returns] at h; cases h)
  refine ⟨_, _, G _ (retOut X8 hx Bd.returns rfl (Or.inr (Or.inr (Or.inr (Or.inr ⟨rfl, rfl, rfl⟩)))) (hb hby d4_32) hr), hrun, hended, _, _, rfl, ?_, ⟨_, rfl⟩, hW, hsame.mono (by decide) (by decide)⟩
  show Q4k2 Z a k1 z0 z1 h0 n0 _ T8.heap _
  rw [e8]
  exact ⟨b3, k3, rfl, N8, K8, sz_b3, U8⟩
theorem ef_3k2 (m : MethodId) (x0 : Addr) : entryFrame m #[(.ref x0)] 1 = mkF m 0 #[.val (.ref x0)] [] := by first | (simp [entryFrame, mkF, argsToLocals, Value.category]; done) | rfl
def Q3k2 (Z : State) (a : Addr) (b3 : Addr) (k3 : ClassId) (z0 : Int64) (z1 : Int64) (h0 : Heap) (n0 : Nat) (v : Option Value) (h : Heap) (L : List Loc) : Prop := ∃ (b : Addr) (kb : ClassId), v = some (.ref b) ∧ Fr n0 L ∧ Keep h0 h [] ∧ h0.size ≤ b ∧ (Arv Z h b kb .long (2 : Int32) [(.long z0), (.long z1)] (.long (0 : Int64)))
set_option maxRecDepth 65536 in
set_option maxHeartbeats 40000000 in
theorem rm3k2 (l : Launch) (Z : State) (a0 : Array Value) (hw : ∀ d ∈ tables_1, d.before a0 Z = true) (ws : List Jvm.Cond) (a : Addr) (b3 : Addr) (k3 : ClassId) (z0 : Int64) (z1 : Int64) (h0 : Heap) (n0 : Nat) (Z0 : n0 ≤ h0.size) (P0 : Fld Z h0 a "com/example/crossbill/crossbill/csv/RecordSpans" "size" "I" (.int (2 : Int32))) (P1 : Fld Z h0 a "com/example/crossbill/crossbill/csv/RecordSpans" "lines" "[J" (.ref b3)) (P2 : Arv Z h0 b3 k3 .long (16 : Int32) [(.long z0), (.long z1), (.long (0 : Int64)), (.long (0 : Int64)), (.long (0 : Int64)), (.long (0 : Int64)), (.long (0 : Int64)), (.long (0 : Int64)), (.long (0 : Int64)), (.long (0 : Int64)), (.long (0 : Int64)), (.long (0 : Int64)), (.long (0 : Int64)), (.long (0 : Int64)), (.long (0 : Int64)), (.long (0 : Int64))] (.long (0 : Int64))) :
    MetFree l (⟨"com/example/crossbill/crossbill/csv/RecordSpans", "lines", "()[J"⟩ : MethodName) (head1 (Jvm.Cond.code (⟨"com/example/crossbill/crossbill/csv/RecordSpans", "lines", "()[J"⟩ : MethodName) prog_17_method_7_code 1 (some (.array .long)) :: ws) ({ frames := 2, cells := 1, slots := 2, locals := 32 } : Room)) (fun argz U => argz = #[(.ref a)] ∧ Z.Warmed39 U.vm ∧ U.heap = h0) (fun _ _ _ _ _ => True) (fun _ U o U' => ∃ v L, o = .returned v ∧ Q3k2 Z a b3 k3 z0 z1 h0 n0 v U'.heap L ∧ FrameEnd U o U' L ({ frames := 2, cells := 1, slots := 2, locals := 32 } : Room).cells ({ frames := 2, cells := 1, slots := 2, locals := 32 } : Room).slots) := by
  refine MetFree.of_bodySF (plainFor_of_name pn_com_example_crossbill_crossbill_csv_RecordSpans) hisR ?_
  intro p e s m args below meth c s₁ Bd hml0 hP hK
  obtain ⟨rfl, hZ, hh⟩ := hP
  have hx := Bd.exec
  have hby := Bd.bytes
  have hml : c.maxLocals = 1 := hml0
  have hown : s.vm.findClass "com/example/crossbill/crossbill/csv/RecordSpans" = some m.cls := findClass_of_methodNamed Bd.named
  have hnm := (name_of_methodNamed Bd.named Bd.method).1
  have X0 : Stand p l e ({ frames := 2, cells := 1, slots := 2, locals := 32 } : Room) s m #[(.ref a)] below meth c s₁ [] 0 0 := Stand.of_body Bd
  have e0 : s₁.heap = h0 := by rw [← hh, Bd.state]; rfl
  have N0 := Fr.nil n0
  have K0 : Keep h0 h0 [] := Keep.refl _ _
  have G : Gets p e below (s₁.setTop (entryFrame m #[(.ref a)] 1)) (s₁.setTop (mkF m 0 #[.val (.ref a)] [])) := fun t k => castTop (ef_3k2 m a) k
  replace G := own_aloadN (q := 1) G X0.here hx (hb hby d3_0) rfl rfl rfl
  obtain ⟨T1, X1, e1, st1⟩ := getF X0 hx hZ hown (host := "") (Or.inl (hw _ (List.mem_of_getElem? (i := 15) rfl))) Via.refl e0 P1 (g := (mkF m 1 #[.val (.ref a)] [(.ref a)])) rfl rfl (hb hby d3_1)
  replace G : Gets p e below _ (T1.setTop (mkF m 4 #[.val (.ref a)] [(.ref b3)])) := fun t k => G t (st1 t k)
  replace G := own_aloadN (q := 5) G X1.here hx (hb hby d3_4) rfl rfl rfl
  obtain ⟨T2, X2, e2, st2⟩ := getF X1 hx hZ hown (host := "") (Or.inl (hw _ (List.mem_of_getElem? (i := 24) rfl))) Via.refl e1 P0 (g := (mkF m 5 #[.val (.ref a)] [(.ref a), (.ref b3)])) rfl rfl (hb hby d3_5)
  replace G : Gets p e below _ (T2.setTop (mkF m 8 #[.val (.ref a)] [(.int (2 : Int32)), (.ref b3)])) := fun t k => G t (st2 t k)
  obtain ⟨_, _, ⟨T3, L3, kk3, nn3⟩, -, X3, ⟨Lc3, hQ3, l3, y3, z3⟩, st3⟩ := Jvm.LawKit.callS X2 hx (y := (⟨"java/util/Arrays", "copyOf", "([JI)[J"⟩ : MethodName)) hown (mvT hZ (hw _ (List.mem_of_getElem? (i := 26) rfl))) (mvT hZ (hw _ (List.mem_of_getElem? (i := 27) rfl))) (mvT hZ (hw _ (List.mem_of_getElem? (i := 28) rfl))) (mvT hZ (hw _ (List.mem_of_getElem? (i := 29) rfl))) (by decide) (backOf (W := 0) (rm4k2 l Z a0 hw [] b3 k3 z0 z1 h0 n0 Z0 P2) hZ (hw _ (List.mem_of_getElem? (i := 29) rfl)) (hw _ (List.mem_of_getElem? (i := 28) rfl)) (by decide) (by decide)) (g := (mkF m 8 #[.val (.ref a)] [(.int (2 : Int32)), (.ref b3)])) rfl (by rw [hml]; rfl) (argsL := [(.ref b3), (.int (2 : Int32))]) (rest := []) (lenOf pd_1 rfl) rfl (by show 2 * 0 + _ ≤ _; exact Nat.le_of_eq rfl) (hb hby d3_8) (fun _ _ => ⟨rfl, e2, (by decide : 0 + 1 ≤ _), (by decide : 0 + 2 ≤ _)⟩)
  dsimp only [Pt.U, Pt.locs, Pt.cells, Pt.slots] at X3 l3 y3 z3 st3 hQ3
  subst l3 y3 z3
  obtain ⟨b_3, kb_3, rfl, N3q, K3q, B3_0, B3_1⟩ := hQ3
  have ne4 : a ≠ b_3 := Nat.ne_of_lt (Nat.lt_of_lt_of_le P0.lt B3_0)
  have ne5 : b3 ≠ b_3 := Nat.ne_of_lt (Nat.lt_of_lt_of_le P2.lt B3_0)
  have ge_b_3 : n0 ≤ b_3 := Nat.le_trans Z0 B3_0
  have sz_b_3 : h0.size ≤ b_3 := Nat.le_trans K0.1 B3_0
  have Z3 : n0 ≤ T3.heap.size := Nat.le_trans Z0 K3q.1
  have K3 : Keep h0 T3.heap [] := K0.trans K3q all0
  have N3 := Fr.app N0 N3q
  replace G : Gets p e below _ (T3.setTop (mkF m 11 #[.val (.ref a)] [(.ref b_3)])) := fun t k => G t (st3 t k)
  obtain ⟨fs, hr, hrun, hended, hW, hsame⟩ := X3.leave (v := some (.ref b_3)) (fun h => by rw [Bd.returns] at h; cases h)
  refine ⟨_, _, G _ (retOut X3 hx Bd.returns rfl (Or.inr (Or.inr (Or.inr (Or.inr ⟨rfl, rfl, rfl⟩)))) (hb hby d3_11) hr), hrun, hended, _, _, rfl, ?_, ⟨_, rfl⟩, hW, hsame.mono (by decide) (by decide)⟩
  show Q3k2 Z a b3 k3 z0 z1 h0 n0 _ T3.heap _
  exact ⟨b_3, kb_3, rfl, N3, K3, sz_b_3, B3_1⟩
theorem d6_27 : decode method_2_code 27 = .ok (.aload_n 0, 1) := by decide +kernel
theorem d6_28 : decode method_2_code 28 = .ok (.iconst 1, 1) := by decide +kernel
theorem d6_29 : decode method_2_code 29 = .ok (.laload, 1) := by decide +kernel
theorem d6_30 : decode method_2_code 30 = .ok (.lload 4, 2) := by decide +kernel
theorem d6_32 : decode method_2_code 32 = .ok (.lcmp, 1) := by decide +kernel
theorem d6_33 : decode method_2_code 33 = .ok (.ifCond .eq 5, 3) := by decide +kernel
theorem ef_6k2 (m : MethodId) (x0 : Addr) (x2 : Int64) (x3 : Int64) (x4 : Int64) (x5 : Int64) : entryFrame m #[(.ref x0), (.int (2 : Int32)), (.long x2), (.long x3), (.long x4), (.long x5)] 10 = mkF m 0 #[.val (.ref x0), .val (.int (2 : Int32)), .val (.long x2), .second, .val (.long x3), .second, .val (.long x4), .second, .val (.long x5), .second] [] := by first | (simp [entryFrame, mkF, argsToLocals, Value.category]; done) | rfl
def Q6k2 (Z : State) (a : Addr) (z0 : Int64) (z1 : Int64) (z2 : Int64) (z3 : Int64) (k1 : ClassId) (h0 : Heap) (n0 : Nat) (v : Option Value) (h : Heap) (L : List Loc) : Prop := v = some (.int (1 : Int32)) ∧ Fr n0 L ∧ h = h0
set_option maxRecDepth 65536 in
set_option maxHeartbeats 40000000 in
theorem rm6k2 (l : Launch) (Z : State) (a0 : Array Value) (hw : ∀ d ∈ tables_1, d.before a0 Z = true) (ws : List Jvm.Cond) (a : Addr) (z0 : Int64) (z1 : Int64) (z2 : Int64) (z3 : Int64) (k1 : ClassId) (h0 : Heap) (n0 : Nat) (Z0 : n0 ≤ h0.size) (P0 : Arv Z h0 a k1 .long (2 : Int32) [(.long z0), (.long z1)] (.long (0 : Int64))) :
    MetFree l (⟨"com/example/crossbill/crossbill/csv/RecordSpansLinesPinLaw", "same", "([JIJJJJ)Z"⟩ : MethodName) (head1 (Jvm.Cond.code (⟨"com/example/crossbill/crossbill/csv/RecordSpansLinesPinLaw", "same", "([JIJJJJ)Z"⟩ : MethodName) method_2_code 10 (some .boolean) :: ws) ({ frames := 0, cells := 0, slots := 0, locals := 0 } : Room)) (fun argz U => argz = #[(.ref a), (.int (2 : Int32)), (.long z0), (.long z1), (.long z2), (.long z3)] ∧ Z.Warmed39 U.vm ∧ U.heap = h0) (fun _ _ _ _ _ => True) (fun _ U o U' => ∃ v L, o = .returned v ∧ Q6k2 Z a z0 z1 z2 z3 k1 h0 n0 v U'.heap L ∧ FrameEnd U o U' L ({ frames := 0, cells := 0, slots := 0, locals := 0 } : Room).cells ({ frames := 0, cells := 0, slots := 0, locals := 0 } : Room).slots) := by
  refine MetFree.of_bodySF (plainFor_of_name pn_com_example_crossbill_crossbill_csv_RecordSpansLinesPinLaw) hisR ?_
  intro p e s m args below meth c s₁ Bd hml0 hP hK
  obtain ⟨rfl, hZ, hh⟩ := hP
  have hx := Bd.exec
  have hby := Bd.bytes
  have hml : c.maxLocals = 10 := hml0
  have hown : s.vm.findClass "com/example/crossbill/crossbill/csv/RecordSpansLinesPinLaw" = some m.cls := findClass_of_methodNamed Bd.named
  have hnm := (name_of_methodNamed Bd.named Bd.method).1
  have X0 : Stand p l e ({ frames := 0, cells := 0, slots := 0, locals := 0 } : Room) s m #[(.ref a), (.int (2 : Int32)), (.long z0), (.long z1), (.long z2), (.long z3)] below meth c s₁ [] 0 0 := Stand.of_body Bd
  have e0 : s₁.heap = h0 := by rw [← hh, Bd.state]; rfl
  have N0 := Fr.nil n0
  have G : Gets p e below (s₁.setTop (entryFrame m #[(.ref a), (.int (2 : Int32)), (.long z0), (.long z1), (.long z2), (.long z3)] 10)) (s₁.setTop (mkF m 0 #[.val (.ref a), .val (.int (2 : Int32)), .val (.long z0), .second, .val (.long z1), .second, .val (.long z2), .second, .val (.long z3), .second] [])) := fun t k => castTop (ef_6k2 m a z0 z1 z2 z3) k
  replace G := own_aloadN (q := 1) G X0.here hx (hb hby d6_0) rfl rfl rfl
  obtain ⟨c1, Ar1, -, S1, N1', -, -⟩ := id P0
  replace G : Gets p e below _ (s₁.setTop (mkF m 2 #[.val (.ref a), .val (.int (2 : Int32)), .val (.long z0), .second, .val (.long z1), .second, .val (.long z2), .second, .val (.long z3), .second] [(.int (2 : Int32))])) := fun t k => G t (X0.arraylength hx (by rw [e0]; exact Ar1.1) (State.isArrayOf_alike hZ.alike Ar1.2.1) (g := (mkF m 1 #[.val (.ref a), .val (.int (2 : Int32)), .val (.long z0), .second, .val (.long z1), .second, .val (.long z2), .second, .val (.long z3), .second] [(.ref a)])) rfl rfl (hb hby d6_1) t (by rw [len_of S1 N1']; exact k))
  replace G := own_iloadN (q := 3) G X0.here hx (hb hby d6_2) rfl rfl
  have hc3_2 : (2 : Int32) = (2 : Int32) := by decide
  replace G := own_icmpYes (q := 8) G X0.here hx (hb hby d6_3) (teq hc3_2).1 (by decide) (by decide)
  replace G := own_iloadN (q := 9) G X0.here hx (hb hby d6_8) rfl rfl
  have hc9_3 : (0 : Int32) < (2 : Int32) := by decide
  replace G := own_ifNo (q := 12) G X0.here hx (hb hby d6_9) ((if0 _ _).trans (tlt hc9_3).2.2.2) rfl
  replace G := own_aloadN (q := 13) G X0.here hx (hb hby d6_12) rfl rfl rfl
  replace G := own_iconst (q := 14) G X0.here hx (hb hby d6_13) (v := (0 : Int32)) (by decide) rfl
  obtain ⟨c4, Ar4, -, S4, -, H4, -⟩ := id P0
  have hin4 : ¬ ((0 : Int32) < 0 ∨ c4.slots.size ≤ ((0 : Int32)).toNatClampNeg) := inb_of S4 ⟨by decide, by decide⟩
  replace G : Gets p e below _ (s₁.setTop (mkF m 15 #[.val (.ref a), .val (.int (2 : Int32)), .val (.long z0), .second, .val (.long z1), .second, .val (.long z2), .second, .val (.long z3), .second] [(.long z0)])) := fun t k => G t (X0.laload hx (j := (0 : Int32)) (v := (.long z0)) (by rw [e0]; exact Ar4.1) (State.isArrayOf_alike hZ.alike Ar4.2.1) Ar4.2.2 hin4 (Has.at H4 hin4 rfl) (g := (mkF m 14 #[.val (.ref a), .val (.int (2 : Int32)), .val (.long z0), .second, .val (.long z1), .second, .val (.long z2), .second, .val (.long z3), .second] [(.int (0 : Int32)), (.ref a)])) rfl rfl (hb hby d6_14) t k)
  replace G := own_lloadN (q := 16) G X0.here hx (hb hby d6_15) rfl rfl
  replace G := own_lcmp (q := 17) G X0.here hx (hb hby d6_16) rfl
  have hc17_5 : z0 = z0 := rfl
  replace G := own_ifYes (q := 22) G X0.here hx (hb hby d6_17) ((if0 _ _).trans (teq ((lw_eq _ _).mpr hc17_5)).1) (by decide) (by decide)
  replace G := own_iloadN (q := 23) G X0.here hx (hb hby d6_22) rfl rfl
  replace G := own_iconst (q := 24) G X0.here hx (hb hby d6_23) (v := (1 : Int32)) (by decide) rfl
  have hc24_6 : (1 : Int32) < (2 : Int32) := by decide
  replace G := own_icmpNo (q := 27) G X0.here hx (hb hby d6_24) (tlt hc24_6).2.2.2 rfl
  replace G := own_aloadN (q := 28) G X0.here hx (hb hby d6_27) rfl rfl rfl
  replace G := own_iconst (q := 29) G X0.here hx (hb hby d6_28) (v := (1 : Int32)) (by decide) rfl
  obtain ⟨c7, Ar7, -, S7, -, H7, -⟩ := id P0
  have hin7 : ¬ ((1 : Int32) < 0 ∨ c7.slots.size ≤ ((1 : Int32)).toNatClampNeg) := inb_of S7 ⟨by decide, by decide⟩
  replace G : Gets p e below _ (s₁.setTop (mkF m 30 #[.val (.ref a), .val (.int (2 : Int32)), .val (.long z0), .second, .val (.long z1), .second, .val (.long z2), .second, .val (.long z3), .second] [(.long z1)])) := fun t k => G t (X0.laload hx (j := (1 : Int32)) (v := (.long z1)) (by rw [e0]; exact Ar7.1) (State.isArrayOf_alike hZ.alike Ar7.2.1) Ar7.2.2 hin7 (Has.at H7 hin7 rfl) (g := (mkF m 29 #[.val (.ref a), .val (.int (2 : Int32)), .val (.long z0), .second, .val (.long z1), .second, .val (.long z2), .second, .val (.long z3), .second] [(.int (1 : Int32)), (.ref a)])) rfl rfl (hb hby d6_29) t k)
  replace G := own_lload (q := 32) G X0.here hx (hb hby d6_30) rfl rfl
  replace G := own_lcmp (q := 33) G X0.here hx (hb hby d6_32) rfl
  have hc33_8 : z1 = z1 := rfl
  replace G := own_ifYes (q := 38) G X0.here hx (hb hby d6_33) ((if0 _ _).trans (teq ((lw_eq _ _).mpr hc33_8)).1) (by decide) (by decide)
  replace G := own_iloadN (q := 39) G X0.here hx (hb hby d6_38) rfl rfl
  replace G := own_iconst (q := 40) G X0.here hx (hb hby d6_39) (v := (2 : Int32)) (by decide) rfl
  have hc40_9 : ¬ ((2 : Int32) < (2 : Int32)) := by decide
  replace G := own_icmpYes (q := 54) G X0.here hx (hb hby d6_40) (flt hc40_9).2.2.2 (by decide) (by decide)
  replace G := own_iloadN (q := 55) G X0.here hx (hb hby d6_54) rfl rfl
  replace G := own_iconst (q := 56) G X0.here hx (hb hby d6_55) (v := (3 : Int32)) (by decide) rfl
  have hc56_10 : ¬ ((3 : Int32) < (2 : Int32)) := by decide
  replace G := own_icmpYes (q := 70) G X0.here hx (hb hby d6_56) (flt hc56_10).2.2.2 (by decide) (by decide)
  replace G := own_iconst (q := 71) G X0.here hx (hb hby d6_70) (v := (1 : Int32)) (by decide) rfl
  obtain ⟨fs, hr, hrun, hended, hW, hsame⟩ := X0.leave (v := some (.int (1 : Int32))) (fun h => by rw [Bd.returns] at h; cases h)
  refine ⟨_, _, G _ (retOut X0 hx Bd.returns rfl (Or.inl ⟨rfl, Or.inr (Or.inl rfl), _, rfl⟩) (hb hby d6_71) hr), hrun, hended, _, _, rfl, ?_, ⟨_, rfl⟩, hW, hsame.mono (by decide) (by decide)⟩
  show Q6k2 Z a z0 z1 z2 z3 k1 h0 n0 _ s₁.heap _
  rw [e0]
  exact ⟨rfl, N0, rfl⟩
theorem ef_4k3 (m : MethodId) (x0 : Addr) : entryFrame m #[(.ref x0), (.int (3 : Int32))] 3 = mkF m 0 #[.val (.ref x0), .val (.int (3 : Int32)), .unset] [] := by first | (simp [entryFrame, mkF, argsToLocals, Value.category]; done) | rfl
def Q4k3 (Z : State) (a : Addr) (k1 : ClassId) (z0 : Int64) (z1 : Int64) (z2 : Int64) (h0 : Heap) (n0 : Nat) (v : Option Value) (h : Heap) (L : List Loc) : Prop := ∃ (b : Addr) (kb : ClassId), v = some (.ref b) ∧ Fr n0 L ∧ Keep h0 h [] ∧ h0.size ≤ b ∧ (Arv Z h b kb .long (3 : Int32) [(.long z0), (.long z1), (.long z2)] (.long (0 : Int64)))
set_option maxRecDepth 65536 in
set_option maxHeartbeats 40000000 in
theorem rm4k3 (l : Launch) (Z : State) (a0 : Array Value) (hw : ∀ d ∈ tables_1, d.before a0 Z = true) (ws : List Jvm.Cond) (a : Addr) (k1 : ClassId) (z0 : Int64) (z1 : Int64) (z2 : Int64) (h0 : Heap) (n0 : Nat) (Z0 : n0 ≤ h0.size) (P0 : Arv Z h0 a k1 .long (16 : Int32) [(.long z0), (.long z1), (.long z2), (.long (0 : Int64)), (.long (0 : Int64)), (.long (0 : Int64)), (.long (0 : Int64)), (.long (0 : Int64)), (.long (0 : Int64)), (.long (0 : Int64)), (.long (0 : Int64)), (.long (0 : Int64)), (.long (0 : Int64)), (.long (0 : Int64)), (.long (0 : Int64)), (.long (0 : Int64))] (.long (0 : Int64))) :
    MetFree l (⟨"java/util/Arrays", "copyOf", "([JI)[J"⟩ : MethodName) (head1 (Jvm.Cond.code (⟨"java/util/Arrays", "copyOf", "([JI)[J"⟩ : MethodName) jdk_65_method_124_code 3 (some (.array .long)) :: ws) ({ frames := 1, cells := 1, slots := 3, locals := 18 } : Room)) (fun argz U => argz = #[(.ref a), (.int (3 : Int32))] ∧ Z.Warmed39 U.vm ∧ U.heap = h0) (fun _ _ _ _ _ => True) (fun _ U o U' => ∃ v L, o = .returned v ∧ Q4k3 Z a k1 z0 z1 z2 h0 n0 v U'.heap L ∧ FrameEnd U o U' L ({ frames := 1, cells := 1, slots := 3, locals := 18 } : Room).cells ({ frames := 1, cells := 1, slots := 3, locals := 18 } : Room).slots) := by
  refine MetFree.of_bodySF (plainFor_of_name pn_java_util_Arrays) hisR ?_
  intro p e s m args below meth c s₁ Bd hml0 hP hK
  obtain ⟨rfl, hZ, hh⟩ := hP
  have hx := Bd.exec
  have hby := Bd.bytes
  have hml : c.maxLocals = 3 := hml0
  have hown : s.vm.findClass "java/util/Arrays" = some m.cls := findClass_of_methodNamed Bd.named
  have hnm := (name_of_methodNamed Bd.named Bd.method).1
  have X0 : Stand p l e ({ frames := 1, cells := 1, slots := 3, locals := 18 } : Room) s m #[(.ref a), (.int (3 : Int32))] below meth c s₁ [] 0 0 := Stand.of_body Bd
  have e0 : s₁.heap = h0 := by rw [← hh, Bd.state]; rfl
  have N0 := Fr.nil n0
  have K0 : Keep h0 h0 [] := Keep.refl _ _
  have G : Gets p e below (s₁.setTop (entryFrame m #[(.ref a), (.int (3 : Int32))] 3)) (s₁.setTop (mkF m 0 #[.val (.ref a), .val (.int (3 : Int32)), .unset] [])) := fun t k => castTop (ef_4k3 m a) k
  replace G := own_iloadN (q := 1) G X0.here hx (hb hby d4_0) rfl rfl
  replace G := own_aloadN (q := 2) G X0.here hx (hb hby d4_1) rfl rfl rfl
  obtain ⟨c1, Ar1, -, S1, N1', -, -⟩ := id P0
  replace G : Gets p e below _ (s₁.setTop (mkF m 3 #[.val (.ref a), .val (.int (3 : Int32)), .unset] [(.int (16 : Int32)), (.int (3 : Int32))])) := fun t k => G t (X0.arraylength hx (by rw [e0]; exact Ar1.1) (State.isArrayOf_alike hZ.alike Ar1.2.1) (g := (mkF m 2 #[.val (.ref a), .val (.int (3 : Int32)), .unset] [(.ref a), (.int (3 : Int32))])) rfl rfl (hb hby d4_2) t (by rw [len_of S1 N1']; exact k))
  have hc3_2 : ¬ ((3 : Int32) = (16 : Int32)) := by decide
  replace G := own_icmpYes (q := 14) G X0.here hx (hb hby d4_3) (feq hc3_2).2 (by decide) (by decide)
  replace G := own_iloadN (q := 15) G X0.here hx (hb hby d4_14) rfl rfl
  obtain ⟨T3, h3, k3, X3, e3, E3, A3, st3⟩ := newP X0 hx hZ (hw _ (List.mem_of_getElem? (i := 10) rfl)) e0 (g := (mkF m 15 #[.val (.ref a), .val (.int (3 : Int32)), .unset] [(.int (3 : Int32))])) rfl (hb hby d4_15) rfl (by decide) (cap := 3) (by decide) (by decide) (by decide) (by decide)
  obtain ⟨b3, g3⟩ : ∃ z, z = h0.size := ⟨_, rfl⟩
  rw [← g3] at A3 st3
  have ne4 : a ≠ b3 := Nat.ne_of_lt (Nat.lt_of_lt_of_le P0.lt (Nat.le_of_eq g3.symm))
  have ge_b3 : n0 ≤ b3 := Nat.le_trans Z0 (Nat.le_of_eq g3.symm)
  have sz_b3 : h0.size ≤ b3 := Nat.le_trans K0.1 (Nat.le_of_eq g3.symm)
  have Z3 : n0 ≤ h3.size := Nat.le_trans Z0 E3.1
  have K3 : Keep h0 h3 [] := K0.ext E3
  have V3 : Arv Z h3 b3 k3 .long (3 : Int32) [(.long (0 : Int64)), (.long (0 : Int64)), (.long (0 : Int64))] (.long (0 : Int64)) := (Arv.new A3 (by decide)).pad (pad_rep [] (.long (0 : Int64)) 3)
  replace G : Gets p e below _ (T3.setTop (mkF m 17 #[.val (.ref a), .val (.int (3 : Int32)), .unset] [(.ref b3)])) := fun t k => G t (st3 t k)
  replace G := own_astoreN (q := 18) (l' := #[.val (.ref a), .val (.int (3 : Int32)), .val (.ref b3)]) G X3.here hx (hb hby d4_17) rfl rfl rfl
  replace G := own_aloadN (q := 19) G X3.here hx (hb hby d4_18) rfl rfl rfl
  replace G := own_iconst (q := 20) G X3.here hx (hb hby d4_19) (v := (0 : Int32)) (by decide) rfl
  replace G := own_aloadN (q := 21) G X3.here hx (hb hby d4_20) rfl rfl rfl
  replace G := own_iconst (q := 22) G X3.here hx (hb hby d4_21) (v := (0 : Int32)) (by decide) rfl
  replace G := own_aloadN (q := 23) G X3.here hx (hb hby d4_22) rfl rfl rfl
  have F5 : Arv Z h3 a k1 .long (16 : Int32) [(.long z0), (.long z1), (.long z2), (.long (0 : Int64)), (.long (0 : Int64)), (.long (0 : Int64)), (.long (0 : Int64)), (.long (0 : Int64)), (.long (0 : Int64)), (.long (0 : Int64)), (.long (0 : Int64)), (.long (0 : Int64)), (.long (0 : Int64)), (.long (0 : Int64)), (.long (0 : Int64)), (.long (0 : Int64))] (.long (0 : Int64)) := (P0.ext E3)
  obtain ⟨c6, Ar6, -, S6, N6', -, -⟩ := id F5
  replace G : Gets p e below _ (T3.setTop (mkF m 24 #[.val (.ref a), .val (.int (3 : Int32)), .val (.ref b3)] [(.int (16 : Int32)), (.int (0 : Int32)), (.ref b3), (.int (0 : Int32)), (.ref a)])) := fun t k => G t (X3.arraylength hx (by rw [e3]; exact Ar6.1) (State.isArrayOf_alike hZ.alike Ar6.2.1) (g := (mkF m 23 #[.val (.ref a), .val (.int (3 : Int32)), .val (.ref b3)] [(.ref a), (.int (0 : Int32)), (.ref b3), (.int (0 : Int32)), (.ref a)])) rfl rfl (hb hby d4_23) t (by rw [len_of S6 N6']; exact k))
  replace G := own_iloadN (q := 25) G X3.here hx (hb hby d4_24) rfl rfl
  obtain ⟨_, _, ⟨T7, L7, kk7, nn7⟩, -, X7, ⟨Lc7, hQ7, l7, y7, z7⟩, st7⟩ := Jvm.LawKit.callS X3 hx (y := (⟨"java/lang/Math", "min", "(II)I"⟩ : MethodName)) hown (mvT hZ (hw _ (List.mem_of_getElem? (i := 30) rfl))) (mvT hZ (hw _ (List.mem_of_getElem? (i := 31) rfl))) (mvT hZ (hw _ (List.mem_of_getElem? (i := 32) rfl))) (mvT hZ (hw _ (List.mem_of_getElem? (i := 33) rfl))) (by decide) (backOf (W := 4) (rm5k3 l Z a0 hw []  h3 n0 Z3 ) hZ (hw _ (List.mem_of_getElem? (i := 33) rfl)) (hw _ (List.mem_of_getElem? (i := 32) rfl)) (by decide) (by decide)) (g := (mkF m 25 #[.val (.ref a), .val (.int (3 : Int32)), .val (.ref b3)] [(.int (3 : Int32)), (.int (16 : Int32)), (.int (0 : Int32)), (.ref b3), (.int (0 : Int32)), (.ref a)])) rfl (by rw [hml]; rfl) (argsL := [(.int (16 : Int32)), (.int (3 : Int32))]) (rest := [(.int (0 : Int32)), (.ref b3), (.int (0 : Int32)), (.ref a)]) (lenOf pd_0 rfl) rfl (by show 2 * 0 + _ ≤ _; exact Nat.le_of_eq rfl) (hb hby d4_25) (fun _ _ => ⟨rfl, e3, (by decide : 1 + 0 ≤ _), (by decide : 3 + 0 ≤ _)⟩)
  dsimp only [Pt.U, Pt.locs, Pt.cells, Pt.slots] at X7 l7 y7 z7 st7 hQ7
  subst l7 y7 z7
  obtain ⟨rfl, N7q, e7⟩ := hQ7
  have N7 := Fr.app N0 N7q
  replace G : Gets p e below _ (T7.setTop (mkF m 28 #[.val (.ref a), .val (.int (3 : Int32)), .val (.ref b3)] [(.int (3 : Int32)), (.int (0 : Int32)), (.ref b3), (.int (0 : Int32)), (.ref a)])) := fun t k => G t (st7 t k)
  obtain ⟨T8, h8, L8, X8, e8, N8, K8q, V8, st8⟩ := cpA X7 hx hZ hown (hw _ (List.mem_of_getElem? (i := 34) rfl)) (hw _ (List.mem_of_getElem? (i := 37) rfl)) (hw _ (List.mem_of_getElem? (i := 35) rfl)) (hw _ (List.mem_of_getElem? (i := 36) rfl)) e7 F5 V3 (us := [(.long z0), (.long z1), (.long z2)]) (Or.inl ⟨rfl, rfl⟩) (by decide) (by decide) (by decide) (by decide) (by decide) (by rfl) (by decide) N7 ge_b3 (g := (mkF m 28 #[.val (.ref a), .val (.int (3 : Int32)), .val (.ref b3)] [(.int (3 : Int32)), (.int (0 : Int32)), (.ref b3), (.int (0 : Int32)), (.ref a)])) rfl (by rw [hml]; rfl) rfl (hb hby d4_28) (by decide) (W := 0) (by show 2 * 0 + _ ≤ _; exact Nat.le_of_eq rfl) (by decide)
  have Z8 : n0 ≤ h8.size := Nat.le_trans Z3 K8q.1
  have K8 : Keep h0 h8 [] := K3.trans K8q (allS (Or.inr sz_b3) all0)
  have U8 : Arv Z h8 b3 k3 .long (3 : Int32) [(.long z0), (.long z1), (.long z2)] (.long (0 : Int64)) := V8
  replace G : Gets p e below _ (T8.setTop (mkF m 31 #[.val (.ref a), .val (.int (3 : Int32)), .val (.ref b3)] [])) := fun t k => G t (st8 t k)
  replace G := own_aloadN (q := 32) G X8.here hx (hb hby d4_31) rfl rfl rfl
  obtain ⟨fs, hr, hrun, hended, hW, hsame⟩ := X8.leave (v := some (.ref b3)) (fun h => by rw [Bd.returns] at h; cases h)
  refine ⟨_, _, G _ (retOut X8 hx Bd.returns rfl (Or.inr (Or.inr (Or.inr (Or.inr ⟨rfl, rfl, rfl⟩)))) (hb hby d4_32) hr), hrun, hended, _, _, rfl, ?_, ⟨_, rfl⟩, hW, hsame.mono (by decide) (by decide)⟩
  show Q4k3 Z a k1 z0 z1 z2 h0 n0 _ T8.heap _
  rw [e8]
  exact ⟨b3, k3, rfl, N8, K8, sz_b3, U8⟩
theorem ef_3k3 (m : MethodId) (x0 : Addr) : entryFrame m #[(.ref x0)] 1 = mkF m 0 #[.val (.ref x0)] [] := by first | (simp [entryFrame, mkF, argsToLocals, Value.category]; done) | rfl
def Q3k3 (Z : State) (a : Addr) (b3 : Addr) (k3 : ClassId) (z0 : Int64) (z1 : Int64) (z2 : Int64) (h0 : Heap) (n0 : Nat) (v : Option Value) (h : Heap) (L : List Loc) : Prop := ∃ (b : Addr) (kb : ClassId), v = some (.ref b) ∧ Fr n0 L ∧ Keep h0 h [] ∧ h0.size ≤ b ∧ (Arv Z h b kb .long (3 : Int32) [(.long z0), (.long z1), (.long z2)] (.long (0 : Int64)))
set_option maxRecDepth 65536 in
set_option maxHeartbeats 40000000 in
theorem rm3k3 (l : Launch) (Z : State) (a0 : Array Value) (hw : ∀ d ∈ tables_1, d.before a0 Z = true) (ws : List Jvm.Cond) (a : Addr) (b3 : Addr) (k3 : ClassId) (z0 : Int64) (z1 : Int64) (z2 : Int64) (h0 : Heap) (n0 : Nat) (Z0 : n0 ≤ h0.size) (P0 : Fld Z h0 a "com/example/crossbill/crossbill/csv/RecordSpans" "size" "I" (.int (3 : Int32))) (P1 : Fld Z h0 a "com/example/crossbill/crossbill/csv/RecordSpans" "lines" "[J" (.ref b3)) (P2 : Arv Z h0 b3 k3 .long (16 : Int32) [(.long z0), (.long z1), (.long z2), (.long (0 : Int64)), (.long (0 : Int64)), (.long (0 : Int64)), (.long (0 : Int64)), (.long (0 : Int64)), (.long (0 : Int64)), (.long (0 : Int64)), (.long (0 : Int64)), (.long (0 : Int64)), (.long (0 : Int64)), (.long (0 : Int64)), (.long (0 : Int64)), (.long (0 : Int64))] (.long (0 : Int64))) :
    MetFree l (⟨"com/example/crossbill/crossbill/csv/RecordSpans", "lines", "()[J"⟩ : MethodName) (head1 (Jvm.Cond.code (⟨"com/example/crossbill/crossbill/csv/RecordSpans", "lines", "()[J"⟩ : MethodName) prog_17_method_7_code 1 (some (.array .long)) :: ws) ({ frames := 2, cells := 1, slots := 3, locals := 32 } : Room)) (fun argz U => argz = #[(.ref a)] ∧ Z.Warmed39 U.vm ∧ U.heap = h0) (fun _ _ _ _ _ => True) (fun _ U o U' => ∃ v L, o = .returned v ∧ Q3k3 Z a b3 k3 z0 z1 z2 h0 n0 v U'.heap L ∧ FrameEnd U o U' L ({ frames := 2, cells := 1, slots := 3, locals := 32 } : Room).cells ({ frames := 2, cells := 1, slots := 3, locals := 32 } : Room).slots) := by
  refine MetFree.of_bodySF (plainFor_of_name pn_com_example_crossbill_crossbill_csv_RecordSpans) hisR ?_
  intro p e s m args below meth c s₁ Bd hml0 hP hK
  obtain ⟨rfl, hZ, hh⟩ := hP
  have hx := Bd.exec
  have hby := Bd.bytes
  have hml : c.maxLocals = 1 := hml0
  have hown : s.vm.findClass "com/example/crossbill/crossbill/csv/RecordSpans" = some m.cls := findClass_of_methodNamed Bd.named
  have hnm := (name_of_methodNamed Bd.named Bd.method).1
  have X0 : Stand p l e ({ frames := 2, cells := 1, slots := 3, locals := 32 } : Room) s m #[(.ref a)] below meth c s₁ [] 0 0 := Stand.of_body Bd
  have e0 : s₁.heap = h0 := by rw [← hh, Bd.state]; rfl
  have N0 := Fr.nil n0
  have K0 : Keep h0 h0 [] := Keep.refl _ _
  have G : Gets p e below (s₁.setTop (entryFrame m #[(.ref a)] 1)) (s₁.setTop (mkF m 0 #[.val (.ref a)] [])) := fun t k => castTop (ef_3k3 m a) k
  replace G := own_aloadN (q := 1) G X0.here hx (hb hby d3_0) rfl rfl rfl
  obtain ⟨T1, X1, e1, st1⟩ := getF X0 hx hZ hown (host := "") (Or.inl (hw _ (List.mem_of_getElem? (i := 15) rfl))) Via.refl e0 P1 (g := (mkF m 1 #[.val (.ref a)] [(.ref a)])) rfl rfl (hb hby d3_1)
  replace G : Gets p e below _ (T1.setTop (mkF m 4 #[.val (.ref a)] [(.ref b3)])) := fun t k => G t (st1 t k)
  replace G := own_aloadN (q := 5) G X1.here hx (hb hby d3_4) rfl rfl rfl
  obtain ⟨T2, X2, e2, st2⟩ := getF X1 hx hZ hown (host := "") (Or.inl (hw _ (List.mem_of_getElem? (i := 24) rfl))) Via.refl e1 P0 (g := (mkF m 5 #[.val (.ref a)] [(.ref a), (.ref b3)])) rfl rfl (hb hby d3_5)
  replace G : Gets p e below _ (T2.setTop (mkF m 8 #[.val (.ref a)] [(.int (3 : Int32)), (.ref b3)])) := fun t k => G t (st2 t k)
  obtain ⟨_, _, ⟨T3, L3, kk3, nn3⟩, -, X3, ⟨Lc3, hQ3, l3, y3, z3⟩, st3⟩ := Jvm.LawKit.callS X2 hx (y := (⟨"java/util/Arrays", "copyOf", "([JI)[J"⟩ : MethodName)) hown (mvT hZ (hw _ (List.mem_of_getElem? (i := 26) rfl))) (mvT hZ (hw _ (List.mem_of_getElem? (i := 27) rfl))) (mvT hZ (hw _ (List.mem_of_getElem? (i := 28) rfl))) (mvT hZ (hw _ (List.mem_of_getElem? (i := 29) rfl))) (by decide) (backOf (W := 0) (rm4k3 l Z a0 hw [] b3 k3 z0 z1 z2 h0 n0 Z0 P2) hZ (hw _ (List.mem_of_getElem? (i := 29) rfl)) (hw _ (List.mem_of_getElem? (i := 28) rfl)) (by decide) (by decide)) (g := (mkF m 8 #[.val (.ref a)] [(.int (3 : Int32)), (.ref b3)])) rfl (by rw [hml]; rfl) (argsL := [(.ref b3), (.int (3 : Int32))]) (rest := []) (lenOf pd_1 rfl) rfl (by show 2 * 0 + _ ≤ _; exact Nat.le_of_eq rfl) (hb hby d3_8) (fun _ _ => ⟨rfl, e2, (by decide : 0 + 1 ≤ _), (by decide : 0 + 3 ≤ _)⟩)
  dsimp only [Pt.U, Pt.locs, Pt.cells, Pt.slots] at X3 l3 y3 z3 st3 hQ3
  subst l3 y3 z3
  obtain ⟨b_3, kb_3, rfl, N3q, K3q, B3_0, B3_1⟩ := hQ3
  have ne4 : a ≠ b_3 := Nat.ne_of_lt (Nat.lt_of_lt_of_le P0.lt B3_0)
  have ne5 : b3 ≠ b_3 := Nat.ne_of_lt (Nat.lt_of_lt_of_le P2.lt B3_0)
  have ge_b_3 : n0 ≤ b_3 := Nat.le_trans Z0 B3_0
  have sz_b_3 : h0.size ≤ b_3 := Nat.le_trans K0.1 B3_0
  have Z3 : n0 ≤ T3.heap.size := Nat.le_trans Z0 K3q.1
  have K3 : Keep h0 T3.heap [] := K0.trans K3q all0
  have N3 := Fr.app N0 N3q
  replace G : Gets p e below _ (T3.setTop (mkF m 11 #[.val (.ref a)] [(.ref b_3)])) := fun t k => G t (st3 t k)
  obtain ⟨fs, hr, hrun, hended, hW, hsame⟩ := X3.leave (v := some (.ref b_3)) (fun h => by rw [Bd.returns] at h; cases h)
  refine ⟨_, _, G _ (retOut X3 hx Bd.returns rfl (Or.inr (Or.inr (Or.inr (Or.inr ⟨rfl, rfl, rfl⟩)))) (hb hby d3_11) hr), hrun, hended, _, _, rfl, ?_, ⟨_, rfl⟩, hW, hsame.mono (by decide) (by decide)⟩
  show Q3k3 Z a b3 k3 z0 z1 z2 h0 n0 _ T3.heap _
  exact ⟨b_3, kb_3, rfl, N3, K3, sz_b_3, B3_1⟩
theorem d6_43 : decode method_2_code 43 = .ok (.aload_n 0, 1) := by decide +kernel
theorem d6_44 : decode method_2_code 44 = .ok (.iconst 2, 1) := by decide +kernel
theorem d6_45 : decode method_2_code 45 = .ok (.laload, 1) := by decide +kernel
theorem d6_46 : decode method_2_code 46 = .ok (.lload 6, 2) := by decide +kernel
theorem d6_48 : decode method_2_code 48 = .ok (.lcmp, 1) := by decide +kernel
theorem d6_49 : decode method_2_code 49 = .ok (.ifCond .eq 5, 3) := by decide +kernel
theorem ef_6k3 (m : MethodId) (x0 : Addr) (x2 : Int64) (x3 : Int64) (x4 : Int64) (x5 : Int64) : entryFrame m #[(.ref x0), (.int (3 : Int32)), (.long x2), (.long x3), (.long x4), (.long x5)] 10 = mkF m 0 #[.val (.ref x0), .val (.int (3 : Int32)), .val (.long x2), .second, .val (.long x3), .second, .val (.long x4), .second, .val (.long x5), .second] [] := by first | (simp [entryFrame, mkF, argsToLocals, Value.category]; done) | rfl
def Q6k3 (Z : State) (a : Addr) (z0 : Int64) (z1 : Int64) (z2 : Int64) (z3 : Int64) (k1 : ClassId) (h0 : Heap) (n0 : Nat) (v : Option Value) (h : Heap) (L : List Loc) : Prop := v = some (.int (1 : Int32)) ∧ Fr n0 L ∧ h = h0
set_option maxRecDepth 65536 in
set_option maxHeartbeats 40000000 in
theorem rm6k3 (l : Launch) (Z : State) (a0 : Array Value) (hw : ∀ d ∈ tables_1, d.before a0 Z = true) (ws : List Jvm.Cond) (a : Addr) (z0 : Int64) (z1 : Int64) (z2 : Int64) (z3 : Int64) (k1 : ClassId) (h0 : Heap) (n0 : Nat) (Z0 : n0 ≤ h0.size) (P0 : Arv Z h0 a k1 .long (3 : Int32) [(.long z0), (.long z1), (.long z2)] (.long (0 : Int64))) :
    MetFree l (⟨"com/example/crossbill/crossbill/csv/RecordSpansLinesPinLaw", "same", "([JIJJJJ)Z"⟩ : MethodName) (head1 (Jvm.Cond.code (⟨"com/example/crossbill/crossbill/csv/RecordSpansLinesPinLaw", "same", "([JIJJJJ)Z"⟩ : MethodName) method_2_code 10 (some .boolean) :: ws) ({ frames := 0, cells := 0, slots := 0, locals := 0 } : Room)) (fun argz U => argz = #[(.ref a), (.int (3 : Int32)), (.long z0), (.long z1), (.long z2), (.long z3)] ∧ Z.Warmed39 U.vm ∧ U.heap = h0) (fun _ _ _ _ _ => True) (fun _ U o U' => ∃ v L, o = .returned v ∧ Q6k3 Z a z0 z1 z2 z3 k1 h0 n0 v U'.heap L ∧ FrameEnd U o U' L ({ frames := 0, cells := 0, slots := 0, locals := 0 } : Room).cells ({ frames := 0, cells := 0, slots := 0, locals := 0 } : Room).slots) := by
  refine MetFree.of_bodySF (plainFor_of_name pn_com_example_crossbill_crossbill_csv_RecordSpansLinesPinLaw) hisR ?_
  intro p e s m args below meth c s₁ Bd hml0 hP hK
  obtain ⟨rfl, hZ, hh⟩ := hP
  have hx := Bd.exec
  have hby := Bd.bytes
  have hml : c.maxLocals = 10 := hml0
  have hown : s.vm.findClass "com/example/crossbill/crossbill/csv/RecordSpansLinesPinLaw" = some m.cls := findClass_of_methodNamed Bd.named
  have hnm := (name_of_methodNamed Bd.named Bd.method).1
  have X0 : Stand p l e ({ frames := 0, cells := 0, slots := 0, locals := 0 } : Room) s m #[(.ref a), (.int (3 : Int32)), (.long z0), (.long z1), (.long z2), (.long z3)] below meth c s₁ [] 0 0 := Stand.of_body Bd
  have e0 : s₁.heap = h0 := by rw [← hh, Bd.state]; rfl
  have N0 := Fr.nil n0
  have G : Gets p e below (s₁.setTop (entryFrame m #[(.ref a), (.int (3 : Int32)), (.long z0), (.long z1), (.long z2), (.long z3)] 10)) (s₁.setTop (mkF m 0 #[.val (.ref a), .val (.int (3 : Int32)), .val (.long z0), .second, .val (.long z1), .second, .val (.long z2), .second, .val (.long z3), .second] [])) := fun t k => castTop (ef_6k3 m a z0 z1 z2 z3) k
  replace G := own_aloadN (q := 1) G X0.here hx (hb hby d6_0) rfl rfl rfl
  obtain ⟨c1, Ar1, -, S1, N1', -, -⟩ := id P0
  replace G : Gets p e below _ (s₁.setTop (mkF m 2 #[.val (.ref a), .val (.int (3 : Int32)), .val (.long z0), .second, .val (.long z1), .second, .val (.long z2), .second, .val (.long z3), .second] [(.int (3 : Int32))])) := fun t k => G t (X0.arraylength hx (by rw [e0]; exact Ar1.1) (State.isArrayOf_alike hZ.alike Ar1.2.1) (g := (mkF m 1 #[.val (.ref a), .val (.int (3 : Int32)), .val (.long z0), .second, .val (.long z1), .second, .val (.long z2), .second, .val (.long z3), .second] [(.ref a)])) rfl rfl (hb hby d6_1) t (by rw [len_of S1 N1']; exact k))
  replace G := own_iloadN (q := 3) G X0.here hx (hb hby d6_2) rfl rfl
  have hc3_2 : (3 : Int32) = (3 : Int32) := by decide
  replace G := own_icmpYes (q := 8) G X0.here hx (hb hby d6_3) (teq hc3_2).1 (by decide) (by decide)
  replace G := own_iloadN (q := 9) G X0.here hx (hb hby d6_8) rfl rfl
  have hc9_3 : (0 : Int32) < (3 : Int32) := by decide
  replace G := own_ifNo (q := 12) G X0.here hx (hb hby d6_9) ((if0 _ _).trans (tlt hc9_3).2.2.2) rfl
  replace G := own_aloadN (q := 13) G X0.here hx (hb hby d6_12) rfl rfl rfl
  replace G := own_iconst (q := 14) G X0.here hx (hb hby d6_13) (v := (0 : Int32)) (by decide) rfl
  obtain ⟨c4, Ar4, -, S4, -, H4, -⟩ := id P0
  have hin4 : ¬ ((0 : Int32) < 0 ∨ c4.slots.size ≤ ((0 : Int32)).toNatClampNeg) := inb_of S4 ⟨by decide, by decide⟩
  replace G : Gets p e below _ (s₁.setTop (mkF m 15 #[.val (.ref a), .val (.int (3 : Int32)), .val (.long z0), .second, .val (.long z1), .second, .val (.long z2), .second, .val (.long z3), .second] [(.long z0)])) := fun t k => G t (X0.laload hx (j := (0 : Int32)) (v := (.long z0)) (by rw [e0]; exact Ar4.1) (State.isArrayOf_alike hZ.alike Ar4.2.1) Ar4.2.2 hin4 (Has.at H4 hin4 rfl) (g := (mkF m 14 #[.val (.ref a), .val (.int (3 : Int32)), .val (.long z0), .second, .val (.long z1), .second, .val (.long z2), .second, .val (.long z3), .second] [(.int (0 : Int32)), (.ref a)])) rfl rfl (hb hby d6_14) t k)
  replace G := own_lloadN (q := 16) G X0.here hx (hb hby d6_15) rfl rfl
  replace G := own_lcmp (q := 17) G X0.here hx (hb hby d6_16) rfl
  have hc17_5 : z0 = z0 := rfl
  replace G := own_ifYes (q := 22) G X0.here hx (hb hby d6_17) ((if0 _ _).trans (teq ((lw_eq _ _).mpr hc17_5)).1) (by decide) (by decide)
  replace G := own_iloadN (q := 23) G X0.here hx (hb hby d6_22) rfl rfl
  replace G := own_iconst (q := 24) G X0.here hx (hb hby d6_23) (v := (1 : Int32)) (by decide) rfl
  have hc24_6 : (1 : Int32) < (3 : Int32) := by decide
  replace G := own_icmpNo (q := 27) G X0.here hx (hb hby d6_24) (tlt hc24_6).2.2.2 rfl
  replace G := own_aloadN (q := 28) G X0.here hx (hb hby d6_27) rfl rfl rfl
  replace G := own_iconst (q := 29) G X0.here hx (hb hby d6_28) (v := (1 : Int32)) (by decide) rfl
  obtain ⟨c7, Ar7, -, S7, -, H7, -⟩ := id P0
  have hin7 : ¬ ((1 : Int32) < 0 ∨ c7.slots.size ≤ ((1 : Int32)).toNatClampNeg) := inb_of S7 ⟨by decide, by decide⟩
  replace G : Gets p e below _ (s₁.setTop (mkF m 30 #[.val (.ref a), .val (.int (3 : Int32)), .val (.long z0), .second, .val (.long z1), .second, .val (.long z2), .second, .val (.long z3), .second] [(.long z1)])) := fun t k => G t (X0.laload hx (j := (1 : Int32)) (v := (.long z1)) (by rw [e0]; exact Ar7.1) (State.isArrayOf_alike hZ.alike Ar7.2.1) Ar7.2.2 hin7 (Has.at H7 hin7 rfl) (g := (mkF m 29 #[.val (.ref a), .val (.int (3 : Int32)), .val (.long z0), .second, .val (.long z1), .second, .val (.long z2), .second, .val (.long z3), .second] [(.int (1 : Int32)), (.ref a)])) rfl rfl (hb hby d6_29) t k)
  replace G := own_lload (q := 32) G X0.here hx (hb hby d6_30) rfl rfl
  replace G := own_lcmp (q := 33) G X0.here hx (hb hby d6_32) rfl
  have hc33_8 : z1 = z1 := rfl
  replace G := own_ifYes (q := 38) G X0.here hx (hb hby d6_33) ((if0 _ _).trans (teq ((lw_eq _ _).mpr hc33_8)).1) (by decide) (by decide)
  replace G := own_iloadN (q := 39) G X0.here hx (hb hby d6_38) rfl rfl
  replace G := own_iconst (q := 40) G X0.here hx (hb hby d6_39) (v := (2 : Int32)) (by decide) rfl
  have hc40_9 : (2 : Int32) < (3 : Int32) := by decide
  replace G := own_icmpNo (q := 43) G X0.here hx (hb hby d6_40) (tlt hc40_9).2.2.2 rfl
  replace G := own_aloadN (q := 44) G X0.here hx (hb hby d6_43) rfl rfl rfl
  replace G := own_iconst (q := 45) G X0.here hx (hb hby d6_44) (v := (2 : Int32)) (by decide) rfl
  obtain ⟨c10, Ar10, -, S10, -, H10, -⟩ := id P0
  have hin10 : ¬ ((2 : Int32) < 0 ∨ c10.slots.size ≤ ((2 : Int32)).toNatClampNeg) := inb_of S10 ⟨by decide, by decide⟩
  replace G : Gets p e below _ (s₁.setTop (mkF m 46 #[.val (.ref a), .val (.int (3 : Int32)), .val (.long z0), .second, .val (.long z1), .second, .val (.long z2), .second, .val (.long z3), .second] [(.long z2)])) := fun t k => G t (X0.laload hx (j := (2 : Int32)) (v := (.long z2)) (by rw [e0]; exact Ar10.1) (State.isArrayOf_alike hZ.alike Ar10.2.1) Ar10.2.2 hin10 (Has.at H10 hin10 rfl) (g := (mkF m 45 #[.val (.ref a), .val (.int (3 : Int32)), .val (.long z0), .second, .val (.long z1), .second, .val (.long z2), .second, .val (.long z3), .second] [(.int (2 : Int32)), (.ref a)])) rfl rfl (hb hby d6_45) t k)
  replace G := own_lload (q := 48) G X0.here hx (hb hby d6_46) rfl rfl
  replace G := own_lcmp (q := 49) G X0.here hx (hb hby d6_48) rfl
  have hc49_11 : z2 = z2 := rfl
  replace G := own_ifYes (q := 54) G X0.here hx (hb hby d6_49) ((if0 _ _).trans (teq ((lw_eq _ _).mpr hc49_11)).1) (by decide) (by decide)
  replace G := own_iloadN (q := 55) G X0.here hx (hb hby d6_54) rfl rfl
  replace G := own_iconst (q := 56) G X0.here hx (hb hby d6_55) (v := (3 : Int32)) (by decide) rfl
  have hc56_12 : ¬ ((3 : Int32) < (3 : Int32)) := by decide
  replace G := own_icmpYes (q := 70) G X0.here hx (hb hby d6_56) (flt hc56_12).2.2.2 (by decide) (by decide)
  replace G := own_iconst (q := 71) G X0.here hx (hb hby d6_70) (v := (1 : Int32)) (by decide) rfl
  obtain ⟨fs, hr, hrun, hended, hW, hsame⟩ := X0.leave (v := some (.int (1 : Int32))) (fun h => by rw [Bd.returns] at h; cases h)
  refine ⟨_, _, G _ (retOut X0 hx Bd.returns rfl (Or.inl ⟨rfl, Or.inr (Or.inl rfl), _, rfl⟩) (hb hby d6_71) hr), hrun, hended, _, _, rfl, ?_, ⟨_, rfl⟩, hW, hsame.mono (by decide) (by decide)⟩
  show Q6k3 Z a z0 z1 z2 z3 k1 h0 n0 _ s₁.heap _
  rw [e0]
  exact ⟨rfl, N0, rfl⟩
theorem ef_4k4 (m : MethodId) (x0 : Addr) : entryFrame m #[(.ref x0), (.int (4 : Int32))] 3 = mkF m 0 #[.val (.ref x0), .val (.int (4 : Int32)), .unset] [] := by first | (simp [entryFrame, mkF, argsToLocals, Value.category]; done) | rfl
def Q4k4 (Z : State) (a : Addr) (k1 : ClassId) (z0 : Int64) (z1 : Int64) (z2 : Int64) (z3 : Int64) (h0 : Heap) (n0 : Nat) (v : Option Value) (h : Heap) (L : List Loc) : Prop := ∃ (b : Addr) (kb : ClassId), v = some (.ref b) ∧ Fr n0 L ∧ Keep h0 h [] ∧ h0.size ≤ b ∧ (Arv Z h b kb .long (4 : Int32) [(.long z0), (.long z1), (.long z2), (.long z3)] (.long (0 : Int64)))
set_option maxRecDepth 65536 in
set_option maxHeartbeats 40000000 in
theorem rm4k4 (l : Launch) (Z : State) (a0 : Array Value) (hw : ∀ d ∈ tables_1, d.before a0 Z = true) (ws : List Jvm.Cond) (a : Addr) (k1 : ClassId) (z0 : Int64) (z1 : Int64) (z2 : Int64) (z3 : Int64) (h0 : Heap) (n0 : Nat) (Z0 : n0 ≤ h0.size) (P0 : Arv Z h0 a k1 .long (16 : Int32) [(.long z0), (.long z1), (.long z2), (.long z3), (.long (0 : Int64)), (.long (0 : Int64)), (.long (0 : Int64)), (.long (0 : Int64)), (.long (0 : Int64)), (.long (0 : Int64)), (.long (0 : Int64)), (.long (0 : Int64)), (.long (0 : Int64)), (.long (0 : Int64)), (.long (0 : Int64)), (.long (0 : Int64))] (.long (0 : Int64))) :
    MetFree l (⟨"java/util/Arrays", "copyOf", "([JI)[J"⟩ : MethodName) (head1 (Jvm.Cond.code (⟨"java/util/Arrays", "copyOf", "([JI)[J"⟩ : MethodName) jdk_65_method_124_code 3 (some (.array .long)) :: ws) ({ frames := 1, cells := 1, slots := 4, locals := 18 } : Room)) (fun argz U => argz = #[(.ref a), (.int (4 : Int32))] ∧ Z.Warmed39 U.vm ∧ U.heap = h0) (fun _ _ _ _ _ => True) (fun _ U o U' => ∃ v L, o = .returned v ∧ Q4k4 Z a k1 z0 z1 z2 z3 h0 n0 v U'.heap L ∧ FrameEnd U o U' L ({ frames := 1, cells := 1, slots := 4, locals := 18 } : Room).cells ({ frames := 1, cells := 1, slots := 4, locals := 18 } : Room).slots) := by
  refine MetFree.of_bodySF (plainFor_of_name pn_java_util_Arrays) hisR ?_
  intro p e s m args below meth c s₁ Bd hml0 hP hK
  obtain ⟨rfl, hZ, hh⟩ := hP
  have hx := Bd.exec
  have hby := Bd.bytes
  have hml : c.maxLocals = 3 := hml0
  have hown : s.vm.findClass "java/util/Arrays" = some m.cls := findClass_of_methodNamed Bd.named
  have hnm := (name_of_methodNamed Bd.named Bd.method).1
  have X0 : Stand p l e ({ frames := 1, cells := 1, slots := 4, locals := 18 } : Room) s m #[(.ref a), (.int (4 : Int32))] below meth c s₁ [] 0 0 := Stand.of_body Bd
  have e0 : s₁.heap = h0 := by rw [← hh, Bd.state]; rfl
  have N0 := Fr.nil n0
  have K0 : Keep h0 h0 [] := Keep.refl _ _
  have G : Gets p e below (s₁.setTop (entryFrame m #[(.ref a), (.int (4 : Int32))] 3)) (s₁.setTop (mkF m 0 #[.val (.ref a), .val (.int (4 : Int32)), .unset] [])) := fun t k => castTop (ef_4k4 m a) k
  replace G := own_iloadN (q := 1) G X0.here hx (hb hby d4_0) rfl rfl
  replace G := own_aloadN (q := 2) G X0.here hx (hb hby d4_1) rfl rfl rfl
  obtain ⟨c1, Ar1, -, S1, N1', -, -⟩ := id P0
  replace G : Gets p e below _ (s₁.setTop (mkF m 3 #[.val (.ref a), .val (.int (4 : Int32)), .unset] [(.int (16 : Int32)), (.int (4 : Int32))])) := fun t k => G t (X0.arraylength hx (by rw [e0]; exact Ar1.1) (State.isArrayOf_alike hZ.alike Ar1.2.1) (g := (mkF m 2 #[.val (.ref a), .val (.int (4 : Int32)), .unset] [(.ref a), (.int (4 : Int32))])) rfl rfl (hb hby d4_2) t (by rw [len_of S1 N1']; exact k))
  have hc3_2 : ¬ ((4 : Int32) = (16 : Int32)) := by decide
  replace G := own_icmpYes (q := 14) G X0.here hx (hb hby d4_3) (feq hc3_2).2 (by decide) (by decide)
  replace G := own_iloadN (q := 15) G X0.here hx (hb hby d4_14) rfl rfl
  obtain ⟨T3, h3, k3, X3, e3, E3, A3, st3⟩ := newP X0 hx hZ (hw _ (List.mem_of_getElem? (i := 10) rfl)) e0 (g := (mkF m 15 #[.val (.ref a), .val (.int (4 : Int32)), .unset] [(.int (4 : Int32))])) rfl (hb hby d4_15) rfl (by decide) (cap := 4) (by decide) (by decide) (by decide) (by decide)
  obtain ⟨b3, g3⟩ : ∃ z, z = h0.size := ⟨_, rfl⟩
  rw [← g3] at A3 st3
  have ne4 : a ≠ b3 := Nat.ne_of_lt (Nat.lt_of_lt_of_le P0.lt (Nat.le_of_eq g3.symm))
  have ge_b3 : n0 ≤ b3 := Nat.le_trans Z0 (Nat.le_of_eq g3.symm)
  have sz_b3 : h0.size ≤ b3 := Nat.le_trans K0.1 (Nat.le_of_eq g3.symm)
  have Z3 : n0 ≤ h3.size := Nat.le_trans Z0 E3.1
  have K3 : Keep h0 h3 [] := K0.ext E3
  have V3 : Arv Z h3 b3 k3 .long (4 : Int32) [(.long (0 : Int64)), (.long (0 : Int64)), (.long (0 : Int64)), (.long (0 : Int64))] (.long (0 : Int64)) := (Arv.new A3 (by decide)).pad (pad_rep [] (.long (0 : Int64)) 4)
  replace G : Gets p e below _ (T3.setTop (mkF m 17 #[.val (.ref a), .val (.int (4 : Int32)), .unset] [(.ref b3)])) := fun t k => G t (st3 t k)
  replace G := own_astoreN (q := 18) (l' := #[.val (.ref a), .val (.int (4 : Int32)), .val (.ref b3)]) G X3.here hx (hb hby d4_17) rfl rfl rfl
  replace G := own_aloadN (q := 19) G X3.here hx (hb hby d4_18) rfl rfl rfl
  replace G := own_iconst (q := 20) G X3.here hx (hb hby d4_19) (v := (0 : Int32)) (by decide) rfl
  replace G := own_aloadN (q := 21) G X3.here hx (hb hby d4_20) rfl rfl rfl
  replace G := own_iconst (q := 22) G X3.here hx (hb hby d4_21) (v := (0 : Int32)) (by decide) rfl
  replace G := own_aloadN (q := 23) G X3.here hx (hb hby d4_22) rfl rfl rfl
  have F5 : Arv Z h3 a k1 .long (16 : Int32) [(.long z0), (.long z1), (.long z2), (.long z3), (.long (0 : Int64)), (.long (0 : Int64)), (.long (0 : Int64)), (.long (0 : Int64)), (.long (0 : Int64)), (.long (0 : Int64)), (.long (0 : Int64)), (.long (0 : Int64)), (.long (0 : Int64)), (.long (0 : Int64)), (.long (0 : Int64)), (.long (0 : Int64))] (.long (0 : Int64)) := (P0.ext E3)
  obtain ⟨c6, Ar6, -, S6, N6', -, -⟩ := id F5
  replace G : Gets p e below _ (T3.setTop (mkF m 24 #[.val (.ref a), .val (.int (4 : Int32)), .val (.ref b3)] [(.int (16 : Int32)), (.int (0 : Int32)), (.ref b3), (.int (0 : Int32)), (.ref a)])) := fun t k => G t (X3.arraylength hx (by rw [e3]; exact Ar6.1) (State.isArrayOf_alike hZ.alike Ar6.2.1) (g := (mkF m 23 #[.val (.ref a), .val (.int (4 : Int32)), .val (.ref b3)] [(.ref a), (.int (0 : Int32)), (.ref b3), (.int (0 : Int32)), (.ref a)])) rfl rfl (hb hby d4_23) t (by rw [len_of S6 N6']; exact k))
  replace G := own_iloadN (q := 25) G X3.here hx (hb hby d4_24) rfl rfl
  obtain ⟨_, _, ⟨T7, L7, kk7, nn7⟩, -, X7, ⟨Lc7, hQ7, l7, y7, z7⟩, st7⟩ := Jvm.LawKit.callS X3 hx (y := (⟨"java/lang/Math", "min", "(II)I"⟩ : MethodName)) hown (mvT hZ (hw _ (List.mem_of_getElem? (i := 30) rfl))) (mvT hZ (hw _ (List.mem_of_getElem? (i := 31) rfl))) (mvT hZ (hw _ (List.mem_of_getElem? (i := 32) rfl))) (mvT hZ (hw _ (List.mem_of_getElem? (i := 33) rfl))) (by decide) (backOf (W := 4) (rm5k4 l Z a0 hw []  h3 n0 Z3 ) hZ (hw _ (List.mem_of_getElem? (i := 33) rfl)) (hw _ (List.mem_of_getElem? (i := 32) rfl)) (by decide) (by decide)) (g := (mkF m 25 #[.val (.ref a), .val (.int (4 : Int32)), .val (.ref b3)] [(.int (4 : Int32)), (.int (16 : Int32)), (.int (0 : Int32)), (.ref b3), (.int (0 : Int32)), (.ref a)])) rfl (by rw [hml]; rfl) (argsL := [(.int (16 : Int32)), (.int (4 : Int32))]) (rest := [(.int (0 : Int32)), (.ref b3), (.int (0 : Int32)), (.ref a)]) (lenOf pd_0 rfl) rfl (by show 2 * 0 + _ ≤ _; exact Nat.le_of_eq rfl) (hb hby d4_25) (fun _ _ => ⟨rfl, e3, (by decide : 1 + 0 ≤ _), (by decide : 4 + 0 ≤ _)⟩)
  dsimp only [Pt.U, Pt.locs, Pt.cells, Pt.slots] at X7 l7 y7 z7 st7 hQ7
  subst l7 y7 z7
  obtain ⟨rfl, N7q, e7⟩ := hQ7
  have N7 := Fr.app N0 N7q
  replace G : Gets p e below _ (T7.setTop (mkF m 28 #[.val (.ref a), .val (.int (4 : Int32)), .val (.ref b3)] [(.int (4 : Int32)), (.int (0 : Int32)), (.ref b3), (.int (0 : Int32)), (.ref a)])) := fun t k => G t (st7 t k)
  obtain ⟨T8, h8, L8, X8, e8, N8, K8q, V8, st8⟩ := cpA X7 hx hZ hown (hw _ (List.mem_of_getElem? (i := 34) rfl)) (hw _ (List.mem_of_getElem? (i := 37) rfl)) (hw _ (List.mem_of_getElem? (i := 35) rfl)) (hw _ (List.mem_of_getElem? (i := 36) rfl)) e7 F5 V3 (us := [(.long z0), (.long z1), (.long z2), (.long z3)]) (Or.inl ⟨rfl, rfl⟩) (by decide) (by decide) (by decide) (by decide) (by decide) (by rfl) (by decide) N7 ge_b3 (g := (mkF m 28 #[.val (.ref a), .val (.int (4 : Int32)), .val (.ref b3)] [(.int (4 : Int32)), (.int (0 : Int32)), (.ref b3), (.int (0 : Int32)), (.ref a)])) rfl (by rw [hml]; rfl) rfl (hb hby d4_28) (by decide) (W := 0) (by show 2 * 0 + _ ≤ _; exact Nat.le_of_eq rfl) (by decide)
  have Z8 : n0 ≤ h8.size := Nat.le_trans Z3 K8q.1
  have K8 : Keep h0 h8 [] := K3.trans K8q (allS (Or.inr sz_b3) all0)
  have U8 : Arv Z h8 b3 k3 .long (4 : Int32) [(.long z0), (.long z1), (.long z2), (.long z3)] (.long (0 : Int64)) := V8
  replace G : Gets p e below _ (T8.setTop (mkF m 31 #[.val (.ref a), .val (.int (4 : Int32)), .val (.ref b3)] [])) := fun t k => G t (st8 t k)
  replace G := own_aloadN (q := 32) G X8.here hx (hb hby d4_31) rfl rfl rfl
  obtain ⟨fs, hr, hrun, hended, hW, hsame⟩ := X8.leave (v := some (.ref b3)) (fun h => by rw [Bd.returns] at h; cases h)
  refine ⟨_, _, G _ (retOut X8 hx Bd.returns rfl (Or.inr (Or.inr (Or.inr (Or.inr ⟨rfl, rfl, rfl⟩)))) (hb hby d4_32) hr), hrun, hended, _, _, rfl, ?_, ⟨_, rfl⟩, hW, hsame.mono (by decide) (by decide)⟩
  show Q4k4 Z a k1 z0 z1 z2 z3 h0 n0 _ T8.heap _
  rw [e8]
  exact ⟨b3, k3, rfl, N8, K8, sz_b3, U8⟩
theorem ef_3k4 (m : MethodId) (x0 : Addr) : entryFrame m #[(.ref x0)] 1 = mkF m 0 #[.val (.ref x0)] [] := by first | (simp [entryFrame, mkF, argsToLocals, Value.category]; done) | rfl
def Q3k4 (Z : State) (a : Addr) (b3 : Addr) (k3 : ClassId) (z0 : Int64) (z1 : Int64) (z2 : Int64) (z3 : Int64) (h0 : Heap) (n0 : Nat) (v : Option Value) (h : Heap) (L : List Loc) : Prop := ∃ (b : Addr) (kb : ClassId), v = some (.ref b) ∧ Fr n0 L ∧ Keep h0 h [] ∧ h0.size ≤ b ∧ (Arv Z h b kb .long (4 : Int32) [(.long z0), (.long z1), (.long z2), (.long z3)] (.long (0 : Int64)))
set_option maxRecDepth 65536 in
set_option maxHeartbeats 40000000 in
theorem rm3k4 (l : Launch) (Z : State) (a0 : Array Value) (hw : ∀ d ∈ tables_1, d.before a0 Z = true) (ws : List Jvm.Cond) (a : Addr) (b3 : Addr) (k3 : ClassId) (z0 : Int64) (z1 : Int64) (z2 : Int64) (z3 : Int64) (h0 : Heap) (n0 : Nat) (Z0 : n0 ≤ h0.size) (P0 : Fld Z h0 a "com/example/crossbill/crossbill/csv/RecordSpans" "size" "I" (.int (4 : Int32))) (P1 : Fld Z h0 a "com/example/crossbill/crossbill/csv/RecordSpans" "lines" "[J" (.ref b3)) (P2 : Arv Z h0 b3 k3 .long (16 : Int32) [(.long z0), (.long z1), (.long z2), (.long z3), (.long (0 : Int64)), (.long (0 : Int64)), (.long (0 : Int64)), (.long (0 : Int64)), (.long (0 : Int64)), (.long (0 : Int64)), (.long (0 : Int64)), (.long (0 : Int64)), (.long (0 : Int64)), (.long (0 : Int64)), (.long (0 : Int64)), (.long (0 : Int64))] (.long (0 : Int64))) :
    MetFree l (⟨"com/example/crossbill/crossbill/csv/RecordSpans", "lines", "()[J"⟩ : MethodName) (head1 (Jvm.Cond.code (⟨"com/example/crossbill/crossbill/csv/RecordSpans", "lines", "()[J"⟩ : MethodName) prog_17_method_7_code 1 (some (.array .long)) :: ws) ({ frames := 2, cells := 1, slots := 4, locals := 32 } : Room)) (fun argz U => argz = #[(.ref a)] ∧ Z.Warmed39 U.vm ∧ U.heap = h0) (fun _ _ _ _ _ => True) (fun _ U o U' => ∃ v L, o = .returned v ∧ Q3k4 Z a b3 k3 z0 z1 z2 z3 h0 n0 v U'.heap L ∧ FrameEnd U o U' L ({ frames := 2, cells := 1, slots := 4, locals := 32 } : Room).cells ({ frames := 2, cells := 1, slots := 4, locals := 32 } : Room).slots) := by
  refine MetFree.of_bodySF (plainFor_of_name pn_com_example_crossbill_crossbill_csv_RecordSpans) hisR ?_
  intro p e s m args below meth c s₁ Bd hml0 hP hK
  obtain ⟨rfl, hZ, hh⟩ := hP
  have hx := Bd.exec
  have hby := Bd.bytes
  have hml : c.maxLocals = 1 := hml0
  have hown : s.vm.findClass "com/example/crossbill/crossbill/csv/RecordSpans" = some m.cls := findClass_of_methodNamed Bd.named
  have hnm := (name_of_methodNamed Bd.named Bd.method).1
  have X0 : Stand p l e ({ frames := 2, cells := 1, slots := 4, locals := 32 } : Room) s m #[(.ref a)] below meth c s₁ [] 0 0 := Stand.of_body Bd
  have e0 : s₁.heap = h0 := by rw [← hh, Bd.state]; rfl
  have N0 := Fr.nil n0
  have K0 : Keep h0 h0 [] := Keep.refl _ _
  have G : Gets p e below (s₁.setTop (entryFrame m #[(.ref a)] 1)) (s₁.setTop (mkF m 0 #[.val (.ref a)] [])) := fun t k => castTop (ef_3k4 m a) k
  replace G := own_aloadN (q := 1) G X0.here hx (hb hby d3_0) rfl rfl rfl
  obtain ⟨T1, X1, e1, st1⟩ := getF X0 hx hZ hown (host := "") (Or.inl (hw _ (List.mem_of_getElem? (i := 15) rfl))) Via.refl e0 P1 (g := (mkF m 1 #[.val (.ref a)] [(.ref a)])) rfl rfl (hb hby d3_1)
  replace G : Gets p e below _ (T1.setTop (mkF m 4 #[.val (.ref a)] [(.ref b3)])) := fun t k => G t (st1 t k)
  replace G := own_aloadN (q := 5) G X1.here hx (hb hby d3_4) rfl rfl rfl
  obtain ⟨T2, X2, e2, st2⟩ := getF X1 hx hZ hown (host := "") (Or.inl (hw _ (List.mem_of_getElem? (i := 24) rfl))) Via.refl e1 P0 (g := (mkF m 5 #[.val (.ref a)] [(.ref a), (.ref b3)])) rfl rfl (hb hby d3_5)
  replace G : Gets p e below _ (T2.setTop (mkF m 8 #[.val (.ref a)] [(.int (4 : Int32)), (.ref b3)])) := fun t k => G t (st2 t k)
  obtain ⟨_, _, ⟨T3, L3, kk3, nn3⟩, -, X3, ⟨Lc3, hQ3, l3, y3, z3⟩, st3⟩ := Jvm.LawKit.callS X2 hx (y := (⟨"java/util/Arrays", "copyOf", "([JI)[J"⟩ : MethodName)) hown (mvT hZ (hw _ (List.mem_of_getElem? (i := 26) rfl))) (mvT hZ (hw _ (List.mem_of_getElem? (i := 27) rfl))) (mvT hZ (hw _ (List.mem_of_getElem? (i := 28) rfl))) (mvT hZ (hw _ (List.mem_of_getElem? (i := 29) rfl))) (by decide) (backOf (W := 0) (rm4k4 l Z a0 hw [] b3 k3 z0 z1 z2 z3 h0 n0 Z0 P2) hZ (hw _ (List.mem_of_getElem? (i := 29) rfl)) (hw _ (List.mem_of_getElem? (i := 28) rfl)) (by decide) (by decide)) (g := (mkF m 8 #[.val (.ref a)] [(.int (4 : Int32)), (.ref b3)])) rfl (by rw [hml]; rfl) (argsL := [(.ref b3), (.int (4 : Int32))]) (rest := []) (lenOf pd_1 rfl) rfl (by show 2 * 0 + _ ≤ _; exact Nat.le_of_eq rfl) (hb hby d3_8) (fun _ _ => ⟨rfl, e2, (by decide : 0 + 1 ≤ _), (by decide : 0 + 4 ≤ _)⟩)
  dsimp only [Pt.U, Pt.locs, Pt.cells, Pt.slots] at X3 l3 y3 z3 st3 hQ3
  subst l3 y3 z3
  obtain ⟨b_3, kb_3, rfl, N3q, K3q, B3_0, B3_1⟩ := hQ3
  have ne4 : a ≠ b_3 := Nat.ne_of_lt (Nat.lt_of_lt_of_le P0.lt B3_0)
  have ne5 : b3 ≠ b_3 := Nat.ne_of_lt (Nat.lt_of_lt_of_le P2.lt B3_0)
  have ge_b_3 : n0 ≤ b_3 := Nat.le_trans Z0 B3_0
  have sz_b_3 : h0.size ≤ b_3 := Nat.le_trans K0.1 B3_0
  have Z3 : n0 ≤ T3.heap.size := Nat.le_trans Z0 K3q.1
  have K3 : Keep h0 T3.heap [] := K0.trans K3q all0
  have N3 := Fr.app N0 N3q
  replace G : Gets p e below _ (T3.setTop (mkF m 11 #[.val (.ref a)] [(.ref b_3)])) := fun t k => G t (st3 t k)
  obtain ⟨fs, hr, hrun, hended, hW, hsame⟩ := X3.leave (v := some (.ref b_3)) (fun h => by rw [Bd.returns] at h; cases h)
  refine ⟨_, _, G _ (retOut X3 hx Bd.returns rfl (Or.inr (Or.inr (Or.inr (Or.inr ⟨rfl, rfl, rfl⟩)))) (hb hby d3_11) hr), hrun, hended, _, _, rfl, ?_, ⟨_, rfl⟩, hW, hsame.mono (by decide) (by decide)⟩
  show Q3k4 Z a b3 k3 z0 z1 z2 z3 h0 n0 _ T3.heap _
  exact ⟨b_3, kb_3, rfl, N3, K3, sz_b_3, B3_1⟩
theorem d6_59 : decode method_2_code 59 = .ok (.aload_n 0, 1) := by decide +kernel
theorem d6_60 : decode method_2_code 60 = .ok (.iconst 3, 1) := by decide +kernel
theorem d6_61 : decode method_2_code 61 = .ok (.laload, 1) := by decide +kernel
theorem d6_62 : decode method_2_code 62 = .ok (.lload 8, 2) := by decide +kernel
theorem d6_64 : decode method_2_code 64 = .ok (.lcmp, 1) := by decide +kernel
theorem d6_65 : decode method_2_code 65 = .ok (.ifCond .eq 5, 3) := by decide +kernel
theorem ef_6k4 (m : MethodId) (x0 : Addr) (x2 : Int64) (x3 : Int64) (x4 : Int64) (x5 : Int64) : entryFrame m #[(.ref x0), (.int (4 : Int32)), (.long x2), (.long x3), (.long x4), (.long x5)] 10 = mkF m 0 #[.val (.ref x0), .val (.int (4 : Int32)), .val (.long x2), .second, .val (.long x3), .second, .val (.long x4), .second, .val (.long x5), .second] [] := by first | (simp [entryFrame, mkF, argsToLocals, Value.category]; done) | rfl
def Q6k4 (Z : State) (a : Addr) (z0 : Int64) (z1 : Int64) (z2 : Int64) (z3 : Int64) (k1 : ClassId) (h0 : Heap) (n0 : Nat) (v : Option Value) (h : Heap) (L : List Loc) : Prop := v = some (.int (1 : Int32)) ∧ Fr n0 L ∧ h = h0
set_option maxRecDepth 65536 in
set_option maxHeartbeats 40000000 in
theorem rm6k4 (l : Launch) (Z : State) (a0 : Array Value) (hw : ∀ d ∈ tables_1, d.before a0 Z = true) (ws : List Jvm.Cond) (a : Addr) (z0 : Int64) (z1 : Int64) (z2 : Int64) (z3 : Int64) (k1 : ClassId) (h0 : Heap) (n0 : Nat) (Z0 : n0 ≤ h0.size) (P0 : Arv Z h0 a k1 .long (4 : Int32) [(.long z0), (.long z1), (.long z2), (.long z3)] (.long (0 : Int64))) :
    MetFree l (⟨"com/example/crossbill/crossbill/csv/RecordSpansLinesPinLaw", "same", "([JIJJJJ)Z"⟩ : MethodName) (head1 (Jvm.Cond.code (⟨"com/example/crossbill/crossbill/csv/RecordSpansLinesPinLaw", "same", "([JIJJJJ)Z"⟩ : MethodName) method_2_code 10 (some .boolean) :: ws) ({ frames := 0, cells := 0, slots := 0, locals := 0 } : Room)) (fun argz U => argz = #[(.ref a), (.int (4 : Int32)), (.long z0), (.long z1), (.long z2), (.long z3)] ∧ Z.Warmed39 U.vm ∧ U.heap = h0) (fun _ _ _ _ _ => True) (fun _ U o U' => ∃ v L, o = .returned v ∧ Q6k4 Z a z0 z1 z2 z3 k1 h0 n0 v U'.heap L ∧ FrameEnd U o U' L ({ frames := 0, cells := 0, slots := 0, locals := 0 } : Room).cells ({ frames := 0, cells := 0, slots := 0, locals := 0 } : Room).slots) := by
  refine MetFree.of_bodySF (plainFor_of_name pn_com_example_crossbill_crossbill_csv_RecordSpansLinesPinLaw) hisR ?_
  intro p e s m args below meth c s₁ Bd hml0 hP hK
  obtain ⟨rfl, hZ, hh⟩ := hP
  have hx := Bd.exec
  have hby := Bd.bytes
  have hml : c.maxLocals = 10 := hml0
  have hown : s.vm.findClass "com/example/crossbill/crossbill/csv/RecordSpansLinesPinLaw" = some m.cls := findClass_of_methodNamed Bd.named
  have hnm := (name_of_methodNamed Bd.named Bd.method).1
  have X0 : Stand p l e ({ frames := 0, cells := 0, slots := 0, locals := 0 } : Room) s m #[(.ref a), (.int (4 : Int32)), (.long z0), (.long z1), (.long z2), (.long z3)] below meth c s₁ [] 0 0 := Stand.of_body Bd
  have e0 : s₁.heap = h0 := by rw [← hh, Bd.state]; rfl
  have N0 := Fr.nil n0
  have G : Gets p e below (s₁.setTop (entryFrame m #[(.ref a), (.int (4 : Int32)), (.long z0), (.long z1), (.long z2), (.long z3)] 10)) (s₁.setTop (mkF m 0 #[.val (.ref a), .val (.int (4 : Int32)), .val (.long z0), .second, .val (.long z1), .second, .val (.long z2), .second, .val (.long z3), .second] [])) := fun t k => castTop (ef_6k4 m a z0 z1 z2 z3) k
  replace G := own_aloadN (q := 1) G X0.here hx (hb hby d6_0) rfl rfl rfl
  obtain ⟨c1, Ar1, -, S1, N1', -, -⟩ := id P0
  replace G : Gets p e below _ (s₁.setTop (mkF m 2 #[.val (.ref a), .val (.int (4 : Int32)), .val (.long z0), .second, .val (.long z1), .second, .val (.long z2), .second, .val (.long z3), .second] [(.int (4 : Int32))])) := fun t k => G t (X0.arraylength hx (by rw [e0]; exact Ar1.1) (State.isArrayOf_alike hZ.alike Ar1.2.1) (g := (mkF m 1 #[.val (.ref a), .val (.int (4 : Int32)), .val (.long z0), .second, .val (.long z1), .second, .val (.long z2), .second, .val (.long z3), .second] [(.ref a)])) rfl rfl (hb hby d6_1) t (by rw [len_of S1 N1']; exact k))
  replace G := own_iloadN (q := 3) G X0.here hx (hb hby d6_2) rfl rfl
  have hc3_2 : (4 : Int32) = (4 : Int32) := by decide
  replace G := own_icmpYes (q := 8) G X0.here hx (hb hby d6_3) (teq hc3_2).1 (by decide) (by decide)
  replace G := own_iloadN (q := 9) G X0.here hx (hb hby d6_8) rfl rfl
  have hc9_3 : (0 : Int32) < (4 : Int32) := by decide
  replace G := own_ifNo (q := 12) G X0.here hx (hb hby d6_9) ((if0 _ _).trans (tlt hc9_3).2.2.2) rfl
  replace G := own_aloadN (q := 13) G X0.here hx (hb hby d6_12) rfl rfl rfl
  replace G := own_iconst (q := 14) G X0.here hx (hb hby d6_13) (v := (0 : Int32)) (by decide) rfl
  obtain ⟨c4, Ar4, -, S4, -, H4, -⟩ := id P0
  have hin4 : ¬ ((0 : Int32) < 0 ∨ c4.slots.size ≤ ((0 : Int32)).toNatClampNeg) := inb_of S4 ⟨by decide, by decide⟩
  replace G : Gets p e below _ (s₁.setTop (mkF m 15 #[.val (.ref a), .val (.int (4 : Int32)), .val (.long z0), .second, .val (.long z1), .second, .val (.long z2), .second, .val (.long z3), .second] [(.long z0)])) := fun t k => G t (X0.laload hx (j := (0 : Int32)) (v := (.long z0)) (by rw [e0]; exact Ar4.1) (State.isArrayOf_alike hZ.alike Ar4.2.1) Ar4.2.2 hin4 (Has.at H4 hin4 rfl) (g := (mkF m 14 #[.val (.ref a), .val (.int (4 : Int32)), .val (.long z0), .second, .val (.long z1), .second, .val (.long z2), .second, .val (.long z3), .second] [(.int (0 : Int32)), (.ref a)])) rfl rfl (hb hby d6_14) t k)
  replace G := own_lloadN (q := 16) G X0.here hx (hb hby d6_15) rfl rfl
  replace G := own_lcmp (q := 17) G X0.here hx (hb hby d6_16) rfl
  have hc17_5 : z0 = z0 := rfl
  replace G := own_ifYes (q := 22) G X0.here hx (hb hby d6_17) ((if0 _ _).trans (teq ((lw_eq _ _).mpr hc17_5)).1) (by decide) (by decide)
  replace G := own_iloadN (q := 23) G X0.here hx (hb hby d6_22) rfl rfl
  replace G := own_iconst (q := 24) G X0.here hx (hb hby d6_23) (v := (1 : Int32)) (by decide) rfl
  have hc24_6 : (1 : Int32) < (4 : Int32) := by decide
  replace G := own_icmpNo (q := 27) G X0.here hx (hb hby d6_24) (tlt hc24_6).2.2.2 rfl
  replace G := own_aloadN (q := 28) G X0.here hx (hb hby d6_27) rfl rfl rfl
  replace G := own_iconst (q := 29) G X0.here hx (hb hby d6_28) (v := (1 : Int32)) (by decide) rfl
  obtain ⟨c7, Ar7, -, S7, -, H7, -⟩ := id P0
  have hin7 : ¬ ((1 : Int32) < 0 ∨ c7.slots.size ≤ ((1 : Int32)).toNatClampNeg) := inb_of S7 ⟨by decide, by decide⟩
  replace G : Gets p e below _ (s₁.setTop (mkF m 30 #[.val (.ref a), .val (.int (4 : Int32)), .val (.long z0), .second, .val (.long z1), .second, .val (.long z2), .second, .val (.long z3), .second] [(.long z1)])) := fun t k => G t (X0.laload hx (j := (1 : Int32)) (v := (.long z1)) (by rw [e0]; exact Ar7.1) (State.isArrayOf_alike hZ.alike Ar7.2.1) Ar7.2.2 hin7 (Has.at H7 hin7 rfl) (g := (mkF m 29 #[.val (.ref a), .val (.int (4 : Int32)), .val (.long z0), .second, .val (.long z1), .second, .val (.long z2), .second, .val (.long z3), .second] [(.int (1 : Int32)), (.ref a)])) rfl rfl (hb hby d6_29) t k)
  replace G := own_lload (q := 32) G X0.here hx (hb hby d6_30) rfl rfl
  replace G := own_lcmp (q := 33) G X0.here hx (hb hby d6_32) rfl
  have hc33_8 : z1 = z1 := rfl
  replace G := own_ifYes (q := 38) G X0.here hx (hb hby d6_33) ((if0 _ _).trans (teq ((lw_eq _ _).mpr hc33_8)).1) (by decide) (by decide)
  replace G := own_iloadN (q := 39) G X0.here hx (hb hby d6_38) rfl rfl
  replace G := own_iconst (q := 40) G X0.here hx (hb hby d6_39) (v := (2 : Int32)) (by decide) rfl
  have hc40_9 : (2 : Int32) < (4 : Int32) := by decide
  replace G := own_icmpNo (q := 43) G X0.here hx (hb hby d6_40) (tlt hc40_9).2.2.2 rfl
  replace G := own_aloadN (q := 44) G X0.here hx (hb hby d6_43) rfl rfl rfl
  replace G := own_iconst (q := 45) G X0.here hx (hb hby d6_44) (v := (2 : Int32)) (by decide) rfl
  obtain ⟨c10, Ar10, -, S10, -, H10, -⟩ := id P0
  have hin10 : ¬ ((2 : Int32) < 0 ∨ c10.slots.size ≤ ((2 : Int32)).toNatClampNeg) := inb_of S10 ⟨by decide, by decide⟩
  replace G : Gets p e below _ (s₁.setTop (mkF m 46 #[.val (.ref a), .val (.int (4 : Int32)), .val (.long z0), .second, .val (.long z1), .second, .val (.long z2), .second, .val (.long z3), .second] [(.long z2)])) := fun t k => G t (X0.laload hx (j := (2 : Int32)) (v := (.long z2)) (by rw [e0]; exact Ar10.1) (State.isArrayOf_alike hZ.alike Ar10.2.1) Ar10.2.2 hin10 (Has.at H10 hin10 rfl) (g := (mkF m 45 #[.val (.ref a), .val (.int (4 : Int32)), .val (.long z0), .second, .val (.long z1), .second, .val (.long z2), .second, .val (.long z3), .second] [(.int (2 : Int32)), (.ref a)])) rfl rfl (hb hby d6_45) t k)
  replace G := own_lload (q := 48) G X0.here hx (hb hby d6_46) rfl rfl
  replace G := own_lcmp (q := 49) G X0.here hx (hb hby d6_48) rfl
  have hc49_11 : z2 = z2 := rfl
  replace G := own_ifYes (q := 54) G X0.here hx (hb hby d6_49) ((if0 _ _).trans (teq ((lw_eq _ _).mpr hc49_11)).1) (by decide) (by decide)
  replace G := own_iloadN (q := 55) G X0.here hx (hb hby d6_54) rfl rfl
  replace G := own_iconst (q := 56) G X0.here hx (hb hby d6_55) (v := (3 : Int32)) (by decide) rfl
  have hc56_12 : (3 : Int32) < (4 : Int32) := by decide
  replace G := own_icmpNo (q := 59) G X0.here hx (hb hby d6_56) (tlt hc56_12).2.2.2 rfl
  replace G := own_aloadN (q := 60) G X0.here hx (hb hby d6_59) rfl rfl rfl
  replace G := own_iconst (q := 61) G X0.here hx (hb hby d6_60) (v := (3 : Int32)) (by decide) rfl
  obtain ⟨c13, Ar13, -, S13, -, H13, -⟩ := id P0
  have hin13 : ¬ ((3 : Int32) < 0 ∨ c13.slots.size ≤ ((3 : Int32)).toNatClampNeg) := inb_of S13 ⟨by decide, by decide⟩
  replace G : Gets p e below _ (s₁.setTop (mkF m 62 #[.val (.ref a), .val (.int (4 : Int32)), .val (.long z0), .second, .val (.long z1), .second, .val (.long z2), .second, .val (.long z3), .second] [(.long z3)])) := fun t k => G t (X0.laload hx (j := (3 : Int32)) (v := (.long z3)) (by rw [e0]; exact Ar13.1) (State.isArrayOf_alike hZ.alike Ar13.2.1) Ar13.2.2 hin13 (Has.at H13 hin13 rfl) (g := (mkF m 61 #[.val (.ref a), .val (.int (4 : Int32)), .val (.long z0), .second, .val (.long z1), .second, .val (.long z2), .second, .val (.long z3), .second] [(.int (3 : Int32)), (.ref a)])) rfl rfl (hb hby d6_61) t k)
  replace G := own_lload (q := 64) G X0.here hx (hb hby d6_62) rfl rfl
  replace G := own_lcmp (q := 65) G X0.here hx (hb hby d6_64) rfl
  have hc65_14 : z3 = z3 := rfl
  replace G := own_ifYes (q := 70) G X0.here hx (hb hby d6_65) ((if0 _ _).trans (teq ((lw_eq _ _).mpr hc65_14)).1) (by decide) (by decide)
  replace G := own_iconst (q := 71) G X0.here hx (hb hby d6_70) (v := (1 : Int32)) (by decide) rfl
  obtain ⟨fs, hr, hrun, hended, hW, hsame⟩ := X0.leave (v := some (.int (1 : Int32))) (fun h => by rw [Bd.returns] at h; cases h)
  refine ⟨_, _, G _ (retOut X0 hx Bd.returns rfl (Or.inl ⟨rfl, Or.inr (Or.inl rfl), _, rfl⟩) (hb hby d6_71) hr), hrun, hended, _, _, rfl, ?_, ⟨_, rfl⟩, hW, hsame.mono (by decide) (by decide)⟩
  show Q6k4 Z a z0 z1 z2 z3 k1 h0 n0 _ s₁.heap _
  rw [e0]
  exact ⟨rfl, N0, rfl⟩
theorem pd_2 : parseMethodDescriptor "(J)V" = some ⟨[.long], none⟩ := by decide +kernel
theorem pd_3 : parseMethodDescriptor "()[J" = some ⟨[], some (.array .long)⟩ := by decide +kernel
theorem pd_4 : parseMethodDescriptor "([JIJJJJ)Z" = some ⟨[(.array .long), .int, .long, .long, .long, .long], some .boolean⟩ := by decide +kernel
theorem pd_5 : parseMethodDescriptor "(JJJ)V" = some ⟨[.long, .long, .long], none⟩ := by decide +kernel
theorem ef_0 (m : MethodId) (x0 : Int32) (x1 : Int64) (x2 : Int64) (x3 : Int64) (x4 : Int64) : entryFrame m #[(.int x0), (.long x1), (.long x2), (.long x3), (.long x4)] maxLocals = mkF m 0 #[.val (.int x0), .val (.long x1), .second, .val (.long x2), .second, .val (.long x3), .second, .val (.long x4), .second, .unset, .unset, .unset, .unset] [] := by first | (simp [entryFrame, mkF, argsToLocals, Value.category, maxLocals]; done) | rfl
def Q0 (Z : State) (i0 : Int32) (i1 : Int64) (i2 : Int64) (i3 : Int64) (i4 : Int64) (h0 : Heap) (n0 : Nat) (v : Option Value) (h : Heap) (L : List Loc) : Prop := v = some (.int (1 : Int32)) ∧ Fr n0 L
set_option maxRecDepth 65536 in
set_option maxHeartbeats 40000000 in
theorem rm0 (l : Launch) (Z : State) (a0 : Array Value) (hw : ∀ d ∈ tables_1, d.before a0 Z = true) (ws : List Jvm.Cond) (i0 : Int32) (i1 : Int64) (i2 : Int64) (i3 : Int64) (i4 : Int64) (h0 : Heap) (n0 : Nat) (Z0 : n0 ≤ h0.size)  :
    MetFree l x (head1 (Jvm.Cond.code x code maxLocals ret :: ws) room_1) (fun argz U => argz = #[(.int i0), (.long i1), (.long i2), (.long i3), (.long i4)] ∧ Z.Warmed39 U.vm ∧ U.heap = h0) (fun _ _ _ _ _ => True) (fun _ U o U' => ∃ v L, o = .returned v ∧ Q0 Z i0 i1 i2 i3 i4 h0 n0 v U'.heap L ∧ FrameEnd U o U' L room_1.cells room_1.slots) := by
  refine MetFree.of_bodySF (plainFor_of_name pn_com_example_crossbill_crossbill_csv_RecordSpansLinesPinLaw) hisR ?_
  intro p e s m args below meth c s₁ Bd hml0 hP hK
  obtain ⟨rfl, hZ, hh⟩ := hP
  have hx := Bd.exec
  have hby := Bd.bytes
  have hml : c.maxLocals = 13 := hml0
  have hown : s.vm.findClass "com/example/crossbill/crossbill/csv/RecordSpansLinesPinLaw" = some m.cls := findClass_of_methodNamed Bd.named
  have hnm := (name_of_methodNamed Bd.named Bd.method).1
  have X0 : Stand p l e room_1 s m #[(.int i0), (.long i1), (.long i2), (.long i3), (.long i4)] below meth c s₁ [] 0 0 := Stand.of_body Bd
  have e0 : s₁.heap = h0 := by rw [← hh, Bd.state]; rfl
  have N0 := Fr.nil n0
  have G : Gets p e below (s₁.setTop (entryFrame m #[(.int i0), (.long i1), (.long i2), (.long i3), (.long i4)] maxLocals)) (s₁.setTop (mkF m 0 #[.val (.int i0), .val (.long i1), .second, .val (.long i2), .second, .val (.long i3), .second, .val (.long i4), .second, .unset, .unset, .unset, .unset] [])) := fun t k => castTop (ef_0 m i0 i1 i2 i3 i4) k
  replace G := own_iloadN (q := 1) G X0.here hx (hb hby at_0) rfl rfl
  replace G : Gets p e below _ (s₁.setTop (mkF m 3 #[.val (.int i0), .val (.long i1), .second, .val (.long i2), .second, .val (.long i3), .second, .val (.long i4), .second, .unset, .unset, .unset, .unset] [(.int (2147483647 : Int32)), (.int i0)])) := fun t k => G t (X0.ldcInt hx hown (mvT hZ (hw _ (List.mem_of_getElem? (i := 0) rfl))) (g := (mkF m 1 #[.val (.int i0), .val (.long i1), .second, .val (.long i2), .second, .val (.long i3), .second, .val (.long i4), .second, .unset, .unset, .unset, .unset] [(.int i0)])) rfl (hb hby at_1) t k)
  obtain ⟨u, hn_u⟩ : ∃ z : Int32, (i0 &&& (2147483647 : Int32)) = z := ⟨_, rfl⟩
  replace G := own_iand (q := 4) G X0.here hx (hb hby at_3) hn_u rfl
  replace G := own_iconst (q := 5) G X0.here hx (hb hby at_4) (v := (5 : Int32)) (by decide) rfl
  obtain ⟨i, hn_i⟩ : ∃ z : Int32, (u % (5 : Int32)) = z := ⟨_, rfl⟩
  replace G := own_irem (q := 6) G X0.here hx (hb hby at_5) (by decide) hn_i rfl
  rw [← hn_u] at hn_i
  rcases own_cases5 (own_rem 5 5 rfl (by decide) hn_i) with rfl | rfl | rfl | rfl | rfl
  · replace G := own_istore (q := 8) (l' := #[.val (.int i0), .val (.long i1), .second, .val (.long i2), .second, .val (.long i3), .second, .val (.long i4), .second, .val (.int (0 : Int32)), .unset, .unset, .unset]) G X0.here hx (hb hby at_6) rfl rfl
    obtain ⟨T1, h1, X1, e1, E1, A1, D1, -, st1⟩ := newO X0 hx hZ hown (hw _ (List.mem_of_getElem? (i := 1) rfl)) (hw _ (List.mem_of_getElem? (i := 2) rfl)) (hw _ (List.mem_of_getElem? (i := 3) rfl)) e0 (g := (mkF m 8 #[.val (.int i0), .val (.long i1), .second, .val (.long i2), .second, .val (.long i3), .second, .val (.long i4), .second, .val (.int (0 : Int32)), .unset, .unset, .unset] [])) rfl (hb hby at_8) (by decide) (by decide)
    obtain ⟨b1, g1⟩ : ∃ z, z = h0.size := ⟨_, rfl⟩
    rw [← g1] at A1 D1 st1
    have ge_b1 : n0 ≤ b1 := Nat.le_trans Z0 (Nat.le_of_eq g1.symm)
    have Z1 : n0 ≤ h1.size := Nat.le_trans Z0 E1.1
    have F1_starts : Fld Z h1 b1 "com/example/crossbill/crossbill/csv/RecordSpans" "starts" "[J" .null := D1 (Or.inl (hw _ (List.mem_of_getElem? (i := 12) rfl))) (ty := (.array .long)) (by decide)
    have F1_ends : Fld Z h1 b1 "com/example/crossbill/crossbill/csv/RecordSpans" "ends" "[J" .null := D1 (Or.inl (hw _ (List.mem_of_getElem? (i := 14) rfl))) (ty := (.array .long)) (by decide)
    have F1_lines : Fld Z h1 b1 "com/example/crossbill/crossbill/csv/RecordSpans" "lines" "[J" .null := D1 (Or.inl (hw _ (List.mem_of_getElem? (i := 16) rfl))) (ty := (.array .long)) (by decide)
    have F1_headerEnd : Fld Z h1 b1 "com/example/crossbill/crossbill/csv/RecordSpans" "headerEnd" "J" (.long (0 : Int64)) := D1 (Or.inr (hw _ (List.mem_of_getElem? (i := 18) rfl))) (ty := .long) (by decide)
    have F1_size : Fld Z h1 b1 "com/example/crossbill/crossbill/csv/RecordSpans" "size" "I" (.int (0 : Int32)) := D1 (Or.inl (hw _ (List.mem_of_getElem? (i := 25) rfl))) (ty := .int) (by decide)
    replace G : Gets p e below _ (T1.setTop (mkF m 11 #[.val (.int i0), .val (.long i1), .second, .val (.long i2), .second, .val (.long i3), .second, .val (.long i4), .second, .val (.int (0 : Int32)), .unset, .unset, .unset] [(.ref b1)])) := fun t k => G t (st1 t k)
    replace G := own_dup (q := 12) G X1.here hx (hb hby at_11) rfl rfl
    replace G := own_lconst (q := 13) G X1.here hx (hb hby at_12) (v := (0 : Int64)) (by decide) rfl
    obtain ⟨_, _, ⟨T2, L2, kk2, nn2⟩, -, X2, ⟨Lc2, hQ2, l2, y2, z2⟩, st2⟩ := X1.specialBack hx (y := (⟨"com/example/crossbill/crossbill/csv/RecordSpans", "<init>", "(J)V"⟩ : MethodName)) rfl hown (mvT hZ (hw _ (List.mem_of_getElem? (i := 4) rfl))) (mvT hZ (hw _ (List.mem_of_getElem? (i := 5) rfl))) (mvT hZ (hw _ (List.mem_of_getElem? (i := 6) rfl))) (by decide) (backOf (W := 1) (rm1 l Z a0 hw [] b1 (0 : Int64) h1 n0 Z1 F1_starts F1_ends F1_lines F1_headerEnd F1_size A1 ge_b1) hZ (hw _ (List.mem_of_getElem? (i := 6) rfl)) (hw _ (List.mem_of_getElem? (i := 3) rfl)) (by decide) (by decide)) (g := (mkF m 13 #[.val (.int i0), .val (.long i1), .second, .val (.long i2), .second, .val (.long i3), .second, .val (.long i4), .second, .val (.int (0 : Int32)), .unset, .unset, .unset] [(.long (0 : Int64)), (.ref b1), (.ref b1)])) rfl (by rw [hml]; rfl) (Steps.refl _) (a := b1) (argsL := [(.long (0 : Int64))]) (rest := [(.ref b1)]) (lenOf pd_2 rfl) rfl (by show 2 * 0 + _ ≤ _; exact Nat.le_of_eq rfl) (hb hby at_13) (fun _ _ => ⟨rfl, e1, (by decide : 1 + 3 ≤ _), (by decide : 5 + 48 ≤ _)⟩)
    dsimp only [Pt.U, Pt.locs, Pt.cells, Pt.slots] at X2 l2 y2 z2 st2 hQ2
    subst l2 y2 z2
    obtain ⟨b1_2, b2_2, b3_2, k1_2, k2_2, k3_2, rfl, N2q, K2q, B2_0, B2_1, B2_2, B2_3, B2_4, B2_5, B2_6, B2_7, B2_8, B2_9, B2_10, B2_11, B2_12, B2_13⟩ := hQ2
    have ne3 : b1 ≠ b1_2 := Nat.ne_of_lt (Nat.lt_of_lt_of_le F1_size.lt B2_8)
    have ge_b1_2 : n0 ≤ b1_2 := Nat.le_trans Z1 B2_8
    have ne4 : b1 ≠ b2_2 := Nat.ne_of_lt (Nat.lt_of_lt_of_le F1_size.lt B2_9)
    have ge_b2_2 : n0 ≤ b2_2 := Nat.le_trans Z1 B2_9
    have ne5 : b1 ≠ b3_2 := Nat.ne_of_lt (Nat.lt_of_lt_of_le F1_size.lt B2_10)
    have ge_b3_2 : n0 ≤ b3_2 := Nat.le_trans Z1 B2_10
    have Z2 : n0 ≤ T2.heap.size := Nat.le_trans Z1 K2q.1
    have N2 := Fr.app N0 N2q
    replace G : Gets p e below _ (T2.setTop (mkF m 16 #[.val (.int i0), .val (.long i1), .second, .val (.long i2), .second, .val (.long i3), .second, .val (.long i4), .second, .val (.int (0 : Int32)), .unset, .unset, .unset] [(.ref b1)])) := fun t k => G t (st2.trans k)
    replace G := own_astore (q := 18) (l' := #[.val (.int i0), .val (.long i1), .second, .val (.long i2), .second, .val (.long i3), .second, .val (.long i4), .second, .val (.int (0 : Int32)), .val (.ref b1), .unset, .unset]) G X2.here hx (hb hby at_16) rfl rfl rfl
    replace G := own_iload (q := 20) G X2.here hx (hb hby at_18) rfl rfl
    have hc20_6 : ¬ ((0 : Int32) < (0 : Int32)) := by decide
    replace G := own_ifYes (q := 31) G X2.here hx (hb hby at_20) ((if0 _ _).trans (flt hc20_6).2.2.2) (by decide) (by decide)
    replace G := own_iload (q := 33) G X2.here hx (hb hby at_31) rfl rfl
    replace G := own_iconst (q := 34) G X2.here hx (hb hby at_33) (v := (1 : Int32)) (by decide) rfl
    have hc34_7 : ¬ ((1 : Int32) < (0 : Int32)) := by decide
    replace G := own_icmpYes (q := 47) G X2.here hx (hb hby at_34) (flt hc34_7).2.2.2 (by decide) (by decide)
    replace G := own_iload (q := 49) G X2.here hx (hb hby at_47) rfl rfl
    replace G := own_iconst (q := 50) G X2.here hx (hb hby at_49) (v := (2 : Int32)) (by decide) rfl
    have hc50_8 : ¬ ((2 : Int32) < (0 : Int32)) := by decide
    replace G := own_icmpYes (q := 66) G X2.here hx (hb hby at_50) (flt hc50_8).2.2.2 (by decide) (by decide)
    replace G := own_iload (q := 68) G X2.here hx (hb hby at_66) rfl rfl
    replace G := own_iconst (q := 69) G X2.here hx (hb hby at_68) (v := (3 : Int32)) (by decide) rfl
    have hc69_9 : ¬ ((3 : Int32) < (0 : Int32)) := by decide
    replace G := own_icmpYes (q := 85) G X2.here hx (hb hby at_69) (flt hc69_9).2.2.2 (by decide) (by decide)
    replace G := own_aload (q := 87) G X2.here hx (hb hby at_85) rfl rfl rfl
    have F11 : Exa Z T2.heap b1 "com/example/crossbill/crossbill/csv/RecordSpans" := (A1.keep K2q)
    obtain ⟨cq10, kq10, q10a, q10b, q10c⟩ := isOf hZ rfl F11
    obtain ⟨_, _, ⟨T10, L10, kk10, nn10⟩, -, X10, ⟨Lc10, hQ10, l10, y10, z10⟩, st10⟩ := X2.virtualBack hx (y := (⟨"com/example/crossbill/crossbill/csv/RecordSpans", "lines", "()[J"⟩ : MethodName)) (z := (⟨"com/example/crossbill/crossbill/csv/RecordSpans", "lines", "()[J"⟩ : MethodName)) hown (mvT hZ (hw _ (List.mem_of_getElem? (i := 19) rfl))) (mvT hZ (hw _ (List.mem_of_getElem? (i := 20) rfl))) (notFace_of_selects (args := #[]) (mvT hZ (hw _ (List.mem_of_getElem? (i := 22) rfl)))) (mvT hZ (hw _ (List.mem_of_getElem? (i := 22) rfl))) (mvT hZ (hw _ (List.mem_of_getElem? (i := 21) rfl))) (by decide) (backOf (W := 0) (rm3k0 l Z a0 hw [] b1 b3_2 k3_2 T2.heap n0 Z2 B2_4 B2_2 B2_7) hZ (hw _ (List.mem_of_getElem? (i := 23) rfl)) (hw _ (List.mem_of_getElem? (i := 3) rfl)) (by decide) (by decide)) q10a q10c (g := (mkF m 87 #[.val (.int i0), .val (.long i1), .second, .val (.long i2), .second, .val (.long i3), .second, .val (.long i4), .second, .val (.int (0 : Int32)), .val (.ref b1), .unset, .unset] [(.ref b1)])) rfl (by rw [hml]; rfl) (Steps.refl _) (argsL := []) (rest := []) (lenOf pd_3 rfl) rfl (by show 2 * 0 + _ ≤ _; exact Nat.le_of_eq rfl) (hb hby at_87) (fun _ _ => ⟨rfl, rfl, (by decide : 4 + 1 ≤ _), (by decide : 53 + 0 ≤ _)⟩)
    dsimp only [Pt.U, Pt.locs, Pt.cells, Pt.slots] at X10 l10 y10 z10 st10 hQ10
    subst l10 y10 z10
    obtain ⟨b_10, kb_10, rfl, N10q, K10q, B10_0, B10_1⟩ := hQ10
    have ne12 : b3_2 ≠ b_10 := Nat.ne_of_lt (Nat.lt_of_lt_of_le B2_7.lt B10_0)
    have ne13 : b2_2 ≠ b_10 := Nat.ne_of_lt (Nat.lt_of_lt_of_le B2_6.lt B10_0)
    have ne14 : b1_2 ≠ b_10 := Nat.ne_of_lt (Nat.lt_of_lt_of_le B2_5.lt B10_0)
    have ne15 : b1 ≠ b_10 := Nat.ne_of_lt (Nat.lt_of_lt_of_le B2_4.lt B10_0)
    have ge_b_10 : n0 ≤ b_10 := Nat.le_trans Z2 B10_0
    have Z10 : n0 ≤ T10.heap.size := Nat.le_trans Z2 K10q.1
    have N10 := Fr.app N2 N10q
    replace G : Gets p e below _ (T10.setTop (mkF m 90 #[.val (.int i0), .val (.long i1), .second, .val (.long i2), .second, .val (.long i3), .second, .val (.long i4), .second, .val (.int (0 : Int32)), .val (.ref b1), .unset, .unset] [(.ref b_10)])) := fun t k => G t (st10.trans k)
    replace G := own_astore (q := 92) (l' := #[.val (.int i0), .val (.long i1), .second, .val (.long i2), .second, .val (.long i3), .second, .val (.long i4), .second, .val (.int (0 : Int32)), .val (.ref b1), .val (.ref b_10), .unset]) G X10.here hx (hb hby at_90) rfl rfl rfl
    replace G := own_aload (q := 94) G X10.here hx (hb hby at_92) rfl rfl rfl
    replace G := own_iload (q := 96) G X10.here hx (hb hby at_94) rfl rfl
    replace G := own_lloadN (q := 97) G X10.here hx (hb hby at_96) rfl rfl
    replace G := own_lloadN (q := 98) G X10.here hx (hb hby at_97) rfl rfl
    replace G := own_lload (q := 100) G X10.here hx (hb hby at_98) rfl rfl
    replace G := own_lload (q := 102) G X10.here hx (hb hby at_100) rfl rfl
    obtain ⟨_, _, ⟨T16, L16, kk16, nn16⟩, -, X16, ⟨Lc16, hQ16, l16, y16, z16⟩, st16⟩ := Jvm.LawKit.callS X10 hx (y := (⟨"com/example/crossbill/crossbill/csv/RecordSpansLinesPinLaw", "same", "([JIJJJJ)Z"⟩ : MethodName)) hown (mvT hZ (hw _ (List.mem_of_getElem? (i := 38) rfl))) (mvT hZ (hw _ (List.mem_of_getElem? (i := 39) rfl))) (mvT hZ (hw _ (List.mem_of_getElem? (i := 40) rfl))) (mvT hZ (hw _ (List.mem_of_getElem? (i := 41) rfl))) (by decide) (backOf (W := 0) (rm6k0 l Z a0 hw [] b_10 i1 i2 i3 i4 kb_10 T10.heap n0 Z10 B10_1) hZ (hw _ (List.mem_of_getElem? (i := 41) rfl)) (hw _ (List.mem_of_getElem? (i := 40) rfl)) (by decide) (by decide)) (g := (mkF m 102 #[.val (.int i0), .val (.long i1), .second, .val (.long i2), .second, .val (.long i3), .second, .val (.long i4), .second, .val (.int (0 : Int32)), .val (.ref b1), .val (.ref b_10), .unset] [(.long i4), (.long i3), (.long i2), (.long i1), (.int (0 : Int32)), (.ref b_10)])) rfl (by rw [hml]; rfl) (argsL := [(.ref b_10), (.int (0 : Int32)), (.long i1), (.long i2), (.long i3), (.long i4)]) (rest := []) (lenOf pd_4 rfl) rfl (by show 2 * 0 + _ ≤ _; exact Nat.le_of_eq rfl) (hb hby at_102) (fun _ _ => ⟨rfl, rfl, (by decide : 5 + 0 ≤ _), (by decide : 53 + 0 ≤ _)⟩)
    dsimp only [Pt.U, Pt.locs, Pt.cells, Pt.slots] at X16 l16 y16 z16 st16 hQ16
    subst l16 y16 z16
    obtain ⟨rfl, N16q, e16⟩ := hQ16
    have N16 := Fr.app N10 N16q
    replace G : Gets p e below _ (T16.setTop (mkF m 105 #[.val (.int i0), .val (.long i1), .second, .val (.long i2), .second, .val (.long i3), .second, .val (.long i4), .second, .val (.int (0 : Int32)), .val (.ref b1), .val (.ref b_10), .unset] [(.int (1 : Int32))])) := fun t k => G t (st16 t k)
    have hc105_17 : ¬ ((1 : Int32) = (0 : Int32)) := by decide
    replace G := own_ifYes (q := 110) G X16.here hx (hb hby at_105) ((if0 _ _).trans (feq hc105_17).2) (by decide) (by decide)
    replace G := own_iload (q := 112) G X16.here hx (hb hby at_110) rfl rfl
    have hc112_18 : ¬ ((0 : Int32) < (0 : Int32)) := by decide
    replace G := own_ifYes (q := 127) G X16.here hx (hb hby at_112) ((if0 _ _).trans (flt hc112_18).2.2.2) (by decide) (by decide)
    replace G := own_iload (q := 129) G X16.here hx (hb hby at_127) rfl rfl
    replace G := own_iconst (q := 130) G X16.here hx (hb hby at_129) (v := (1 : Int32)) (by decide) rfl
    have hc130_19 : ¬ ((1 : Int32) < (0 : Int32)) := by decide
    replace G := own_icmpYes (q := 145) G X16.here hx (hb hby at_130) (flt hc130_19).2.2.2 (by decide) (by decide)
    replace G := own_iload (q := 147) G X16.here hx (hb hby at_145) rfl rfl
    replace G := own_iconst (q := 148) G X16.here hx (hb hby at_147) (v := (2 : Int32)) (by decide) rfl
    have hc148_20 : ¬ ((2 : Int32) < (0 : Int32)) := by decide
    replace G := own_icmpYes (q := 163) G X16.here hx (hb hby at_148) (flt hc148_20).2.2.2 (by decide) (by decide)
    replace G := own_iload (q := 165) G X16.here hx (hb hby at_163) rfl rfl
    replace G := own_iconst (q := 166) G X16.here hx (hb hby at_165) (v := (3 : Int32)) (by decide) rfl
    have hc166_21 : ¬ ((3 : Int32) < (0 : Int32)) := by decide
    replace G := own_icmpYes (q := 181) G X16.here hx (hb hby at_166) (flt hc166_21).2.2.2 (by decide) (by decide)
    replace G := own_aload (q := 183) G X16.here hx (hb hby at_181) rfl rfl rfl
    have F23 : Exa Z T10.heap b1 "com/example/crossbill/crossbill/csv/RecordSpans" := (F11.keep K10q)
    have F24 : Fld Z T10.heap b1 "com/example/crossbill/crossbill/csv/RecordSpans" "size" "I" (.int (0 : Int32)) := (B2_4.keep K10q nin0)
    have F25 : Fld Z T10.heap b1 "com/example/crossbill/crossbill/csv/RecordSpans" "lines" "[J" (.ref b3_2) := (B2_2.keep K10q nin0)
    have F26 : Arv Z T10.heap b3_2 k3_2 .long (16 : Int32) [(.long (0 : Int64)), (.long (0 : Int64)), (.long (0 : Int64)), (.long (0 : Int64)), (.long (0 : Int64)), (.long (0 : Int64)), (.long (0 : Int64)), (.long (0 : Int64)), (.long (0 : Int64)), (.long (0 : Int64)), (.long (0 : Int64)), (.long (0 : Int64)), (.long (0 : Int64)), (.long (0 : Int64)), (.long (0 : Int64)), (.long (0 : Int64))] (.long (0 : Int64)) := (B2_7.keep K10q nin0)
    obtain ⟨cq22, kq22, q22a, q22b, q22c⟩ := isOf hZ e16 F23
    obtain ⟨_, _, ⟨T22, L22, kk22, nn22⟩, -, X22, ⟨Lc22, hQ22, l22, y22, z22⟩, st22⟩ := X16.virtualBack hx (y := (⟨"com/example/crossbill/crossbill/csv/RecordSpans", "lines", "()[J"⟩ : MethodName)) (z := (⟨"com/example/crossbill/crossbill/csv/RecordSpans", "lines", "()[J"⟩ : MethodName)) hown (mvT hZ (hw _ (List.mem_of_getElem? (i := 19) rfl))) (mvT hZ (hw _ (List.mem_of_getElem? (i := 20) rfl))) (notFace_of_selects (args := #[]) (mvT hZ (hw _ (List.mem_of_getElem? (i := 22) rfl)))) (mvT hZ (hw _ (List.mem_of_getElem? (i := 22) rfl))) (mvT hZ (hw _ (List.mem_of_getElem? (i := 21) rfl))) (by decide) (backOf (W := 0) (rm3k0 l Z a0 hw [] b1 b3_2 k3_2 T10.heap n0 Z10 F24 F25 F26) hZ (hw _ (List.mem_of_getElem? (i := 23) rfl)) (hw _ (List.mem_of_getElem? (i := 3) rfl)) (by decide) (by decide)) q22a q22c (g := (mkF m 183 #[.val (.int i0), .val (.long i1), .second, .val (.long i2), .second, .val (.long i3), .second, .val (.long i4), .second, .val (.int (0 : Int32)), .val (.ref b1), .val (.ref b_10), .unset] [(.ref b1)])) rfl (by rw [hml]; rfl) (Steps.refl _) (argsL := []) (rest := []) (lenOf pd_3 rfl) rfl (by show 2 * 0 + _ ≤ _; exact Nat.le_of_eq rfl) (hb hby at_183) (fun _ _ => ⟨rfl, e16, (by decide : 5 + 1 ≤ _), (by decide : 53 + 0 ≤ _)⟩)
    dsimp only [Pt.U, Pt.locs, Pt.cells, Pt.slots] at X22 l22 y22 z22 st22 hQ22
    subst l22 y22 z22
    obtain ⟨b_22, kb_22, rfl, N22q, K22q, B22_0, B22_1⟩ := hQ22
    have ne27 : b_10 ≠ b_22 := Nat.ne_of_lt (Nat.lt_of_lt_of_le B10_1.lt B22_0)
    have ne28 : b3_2 ≠ b_22 := Nat.ne_of_lt (Nat.lt_of_lt_of_le F26.lt B22_0)
    have F29 : Arv Z T10.heap b2_2 k2_2 .long (16 : Int32) [(.long (0 : Int64)), (.long (0 : Int64)), (.long (0 : Int64)), (.long (0 : Int64)), (.long (0 : Int64)), (.long (0 : Int64)), (.long (0 : Int64)), (.long (0 : Int64)), (.long (0 : Int64)), (.long (0 : Int64)), (.long (0 : Int64)), (.long (0 : Int64)), (.long (0 : Int64)), (.long (0 : Int64)), (.long (0 : Int64)), (.long (0 : Int64))] (.long (0 : Int64)) := (B2_6.keep K10q nin0)
    have ne30 : b2_2 ≠ b_22 := Nat.ne_of_lt (Nat.lt_of_lt_of_le F29.lt B22_0)
    have F31 : Arv Z T10.heap b1_2 k1_2 .long (16 : Int32) [(.long (0 : Int64)), (.long (0 : Int64)), (.long (0 : Int64)), (.long (0 : Int64)), (.long (0 : Int64)), (.long (0 : Int64)), (.long (0 : Int64)), (.long (0 : Int64)), (.long (0 : Int64)), (.long (0 : Int64)), (.long (0 : Int64)), (.long (0 : Int64)), (.long (0 : Int64)), (.long (0 : Int64)), (.long (0 : Int64)), (.long (0 : Int64))] (.long (0 : Int64)) := (B2_5.keep K10q nin0)
    have ne32 : b1_2 ≠ b_22 := Nat.ne_of_lt (Nat.lt_of_lt_of_le F31.lt B22_0)
    have ne33 : b1 ≠ b_22 := Nat.ne_of_lt (Nat.lt_of_lt_of_le F24.lt B22_0)
    have ge_b_22 : n0 ≤ b_22 := Nat.le_trans Z10 B22_0
    have Z22 : n0 ≤ T22.heap.size := Nat.le_trans Z10 K22q.1
    have N22 := Fr.app N16 N22q
    replace G : Gets p e below _ (T22.setTop (mkF m 186 #[.val (.int i0), .val (.long i1), .second, .val (.long i2), .second, .val (.long i3), .second, .val (.long i4), .second, .val (.int (0 : Int32)), .val (.ref b1), .val (.ref b_10), .unset] [(.ref b_22)])) := fun t k => G t (st22.trans k)
    replace G := own_astore (q := 188) (l' := #[.val (.int i0), .val (.long i1), .second, .val (.long i2), .second, .val (.long i3), .second, .val (.long i4), .second, .val (.int (0 : Int32)), .val (.ref b1), .val (.ref b_10), .val (.ref b_22)]) G X22.here hx (hb hby at_186) rfl rfl rfl
    replace G := own_aload (q := 190) G X22.here hx (hb hby at_188) rfl rfl rfl
    replace G := own_iload (q := 192) G X22.here hx (hb hby at_190) rfl rfl
    replace G := own_lloadN (q := 193) G X22.here hx (hb hby at_192) rfl rfl
    replace G := own_lloadN (q := 194) G X22.here hx (hb hby at_193) rfl rfl
    replace G := own_lload (q := 196) G X22.here hx (hb hby at_194) rfl rfl
    replace G := own_lload (q := 198) G X22.here hx (hb hby at_196) rfl rfl
    obtain ⟨_, _, ⟨T34, L34, kk34, nn34⟩, -, X34, ⟨Lc34, hQ34, l34, y34, z34⟩, st34⟩ := Jvm.LawKit.callS X22 hx (y := (⟨"com/example/crossbill/crossbill/csv/RecordSpansLinesPinLaw", "same", "([JIJJJJ)Z"⟩ : MethodName)) hown (mvT hZ (hw _ (List.mem_of_getElem? (i := 38) rfl))) (mvT hZ (hw _ (List.mem_of_getElem? (i := 39) rfl))) (mvT hZ (hw _ (List.mem_of_getElem? (i := 40) rfl))) (mvT hZ (hw _ (List.mem_of_getElem? (i := 41) rfl))) (by decide) (backOf (W := 0) (rm6k0 l Z a0 hw [] b_22 i1 i2 i3 i4 kb_22 T22.heap n0 Z22 B22_1) hZ (hw _ (List.mem_of_getElem? (i := 41) rfl)) (hw _ (List.mem_of_getElem? (i := 40) rfl)) (by decide) (by decide)) (g := (mkF m 198 #[.val (.int i0), .val (.long i1), .second, .val (.long i2), .second, .val (.long i3), .second, .val (.long i4), .second, .val (.int (0 : Int32)), .val (.ref b1), .val (.ref b_10), .val (.ref b_22)] [(.long i4), (.long i3), (.long i2), (.long i1), (.int (0 : Int32)), (.ref b_22)])) rfl (by rw [hml]; rfl) (argsL := [(.ref b_22), (.int (0 : Int32)), (.long i1), (.long i2), (.long i3), (.long i4)]) (rest := []) (lenOf pd_4 rfl) rfl (by show 2 * 0 + _ ≤ _; exact Nat.le_of_eq rfl) (hb hby at_198) (fun _ _ => ⟨rfl, rfl, (by decide : 6 + 0 ≤ _), (by decide : 53 + 0 ≤ _)⟩)
    dsimp only [Pt.U, Pt.locs, Pt.cells, Pt.slots] at X34 l34 y34 z34 st34 hQ34
    subst l34 y34 z34
    obtain ⟨rfl, N34q, e34⟩ := hQ34
    have N34 := Fr.app N22 N34q
    replace G : Gets p e below _ (T34.setTop (mkF m 201 #[.val (.int i0), .val (.long i1), .second, .val (.long i2), .second, .val (.long i3), .second, .val (.long i4), .second, .val (.int (0 : Int32)), .val (.ref b1), .val (.ref b_10), .val (.ref b_22)] [(.int (1 : Int32))])) := fun t k => G t (st34 t k)
    obtain ⟨fs, hr, hrun, hended, hW, hsame⟩ := X34.leave (v := some (.int (1 : Int32))) (fun h => by rw [Bd.returns] at h; cases h)
    refine ⟨_, _, G _ (retOut X34 hx Bd.returns rfl (Or.inl ⟨rfl, Or.inr (Or.inl rfl), _, rfl⟩) (hb hby at_201) hr), hrun, hended, _, _, rfl, ?_, ⟨_, rfl⟩, hW, hsame.mono (by decide) (by decide)⟩
    show Q0 Z i0 i1 i2 i3 i4 h0 n0 _ T34.heap _
    rw [e34]
    exact ⟨rfl, N34⟩
  · replace G := own_istore (q := 8) (l' := #[.val (.int i0), .val (.long i1), .second, .val (.long i2), .second, .val (.long i3), .second, .val (.long i4), .second, .val (.int (1 : Int32)), .unset, .unset, .unset]) G X0.here hx (hb hby at_6) rfl rfl
    obtain ⟨T35, h35, X35, e35, E35, A35, D35, -, st35⟩ := newO X0 hx hZ hown (hw _ (List.mem_of_getElem? (i := 1) rfl)) (hw _ (List.mem_of_getElem? (i := 2) rfl)) (hw _ (List.mem_of_getElem? (i := 3) rfl)) e0 (g := (mkF m 8 #[.val (.int i0), .val (.long i1), .second, .val (.long i2), .second, .val (.long i3), .second, .val (.long i4), .second, .val (.int (1 : Int32)), .unset, .unset, .unset] [])) rfl (hb hby at_8) (by decide) (by decide)
    obtain ⟨b35, g35⟩ : ∃ z, z = h0.size := ⟨_, rfl⟩
    rw [← g35] at A35 D35 st35
    have ge_b35 : n0 ≤ b35 := Nat.le_trans Z0 (Nat.le_of_eq g35.symm)
    have Z35 : n0 ≤ h35.size := Nat.le_trans Z0 E35.1
    have F35_starts : Fld Z h35 b35 "com/example/crossbill/crossbill/csv/RecordSpans" "starts" "[J" .null := D35 (Or.inl (hw _ (List.mem_of_getElem? (i := 12) rfl))) (ty := (.array .long)) (by decide)
    have F35_ends : Fld Z h35 b35 "com/example/crossbill/crossbill/csv/RecordSpans" "ends" "[J" .null := D35 (Or.inl (hw _ (List.mem_of_getElem? (i := 14) rfl))) (ty := (.array .long)) (by decide)
    have F35_lines : Fld Z h35 b35 "com/example/crossbill/crossbill/csv/RecordSpans" "lines" "[J" .null := D35 (Or.inl (hw _ (List.mem_of_getElem? (i := 16) rfl))) (ty := (.array .long)) (by decide)
    have F35_headerEnd : Fld Z h35 b35 "com/example/crossbill/crossbill/csv/RecordSpans" "headerEnd" "J" (.long (0 : Int64)) := D35 (Or.inr (hw _ (List.mem_of_getElem? (i := 18) rfl))) (ty := .long) (by decide)
    have F35_size : Fld Z h35 b35 "com/example/crossbill/crossbill/csv/RecordSpans" "size" "I" (.int (0 : Int32)) := D35 (Or.inl (hw _ (List.mem_of_getElem? (i := 25) rfl))) (ty := .int) (by decide)
    replace G : Gets p e below _ (T35.setTop (mkF m 11 #[.val (.int i0), .val (.long i1), .second, .val (.long i2), .second, .val (.long i3), .second, .val (.long i4), .second, .val (.int (1 : Int32)), .unset, .unset, .unset] [(.ref b35)])) := fun t k => G t (st35 t k)
    replace G := own_dup (q := 12) G X35.here hx (hb hby at_11) rfl rfl
    replace G := own_lconst (q := 13) G X35.here hx (hb hby at_12) (v := (0 : Int64)) (by decide) rfl
    obtain ⟨_, _, ⟨T36, L36, kk36, nn36⟩, -, X36, ⟨Lc36, hQ36, l36, y36, z36⟩, st36⟩ := X35.specialBack hx (y := (⟨"com/example/crossbill/crossbill/csv/RecordSpans", "<init>", "(J)V"⟩ : MethodName)) rfl hown (mvT hZ (hw _ (List.mem_of_getElem? (i := 4) rfl))) (mvT hZ (hw _ (List.mem_of_getElem? (i := 5) rfl))) (mvT hZ (hw _ (List.mem_of_getElem? (i := 6) rfl))) (by decide) (backOf (W := 1) (rm1 l Z a0 hw [] b35 (0 : Int64) h35 n0 Z35 F35_starts F35_ends F35_lines F35_headerEnd F35_size A35 ge_b35) hZ (hw _ (List.mem_of_getElem? (i := 6) rfl)) (hw _ (List.mem_of_getElem? (i := 3) rfl)) (by decide) (by decide)) (g := (mkF m 13 #[.val (.int i0), .val (.long i1), .second, .val (.long i2), .second, .val (.long i3), .second, .val (.long i4), .second, .val (.int (1 : Int32)), .unset, .unset, .unset] [(.long (0 : Int64)), (.ref b35), (.ref b35)])) rfl (by rw [hml]; rfl) (Steps.refl _) (a := b35) (argsL := [(.long (0 : Int64))]) (rest := [(.ref b35)]) (lenOf pd_2 rfl) rfl (by show 2 * 0 + _ ≤ _; exact Nat.le_of_eq rfl) (hb hby at_13) (fun _ _ => ⟨rfl, e35, (by decide : 1 + 3 ≤ _), (by decide : 5 + 48 ≤ _)⟩)
    dsimp only [Pt.U, Pt.locs, Pt.cells, Pt.slots] at X36 l36 y36 z36 st36 hQ36
    subst l36 y36 z36
    obtain ⟨b1_36, b2_36, b3_36, k1_36, k2_36, k3_36, rfl, N36q, K36q, B36_0, B36_1, B36_2, B36_3, B36_4, B36_5, B36_6, B36_7, B36_8, B36_9, B36_10, B36_11, B36_12, B36_13⟩ := hQ36
    have ne37 : b35 ≠ b1_36 := Nat.ne_of_lt (Nat.lt_of_lt_of_le F35_size.lt B36_8)
    have ge_b1_36 : n0 ≤ b1_36 := Nat.le_trans Z35 B36_8
    have ne38 : b35 ≠ b2_36 := Nat.ne_of_lt (Nat.lt_of_lt_of_le F35_size.lt B36_9)
    have ge_b2_36 : n0 ≤ b2_36 := Nat.le_trans Z35 B36_9
    have ne39 : b35 ≠ b3_36 := Nat.ne_of_lt (Nat.lt_of_lt_of_le F35_size.lt B36_10)
    have ge_b3_36 : n0 ≤ b3_36 := Nat.le_trans Z35 B36_10
    have Z36 : n0 ≤ T36.heap.size := Nat.le_trans Z35 K36q.1
    have N36 := Fr.app N0 N36q
    replace G : Gets p e below _ (T36.setTop (mkF m 16 #[.val (.int i0), .val (.long i1), .second, .val (.long i2), .second, .val (.long i3), .second, .val (.long i4), .second, .val (.int (1 : Int32)), .unset, .unset, .unset] [(.ref b35)])) := fun t k => G t (st36.trans k)
    replace G := own_astore (q := 18) (l' := #[.val (.int i0), .val (.long i1), .second, .val (.long i2), .second, .val (.long i3), .second, .val (.long i4), .second, .val (.int (1 : Int32)), .val (.ref b35), .unset, .unset]) G X36.here hx (hb hby at_16) rfl rfl rfl
    replace G := own_iload (q := 20) G X36.here hx (hb hby at_18) rfl rfl
    have hc20_40 : (0 : Int32) < (1 : Int32) := by decide
    replace G := own_ifNo (q := 23) G X36.here hx (hb hby at_20) ((if0 _ _).trans (tlt hc20_40).2.2.2) rfl
    replace G := own_aload (q := 25) G X36.here hx (hb hby at_23) rfl rfl rfl
    replace G := own_lconst (q := 26) G X36.here hx (hb hby at_25) (v := (0 : Int64)) (by decide) rfl
    replace G := own_lconst (q := 27) G X36.here hx (hb hby at_26) (v := (1 : Int64)) (by decide) rfl
    replace G := own_lloadN (q := 28) G X36.here hx (hb hby at_27) rfl rfl
    have F42 : Exa Z T36.heap b35 "com/example/crossbill/crossbill/csv/RecordSpans" := (A35.keep K36q)
    obtain ⟨cq41, kq41, q41a, q41b, q41c⟩ := isOf hZ rfl F42
    obtain ⟨_, _, ⟨T41, L41, kk41, nn41⟩, -, X41, ⟨Lc41, hQ41, l41, y41, z41⟩, st41⟩ := X36.virtualBack hx (y := (⟨"com/example/crossbill/crossbill/csv/RecordSpans", "add", "(JJJ)V"⟩ : MethodName)) (z := (⟨"com/example/crossbill/crossbill/csv/RecordSpans", "add", "(JJJ)V"⟩ : MethodName)) hown (mvT hZ (hw _ (List.mem_of_getElem? (i := 42) rfl))) (mvT hZ (hw _ (List.mem_of_getElem? (i := 43) rfl))) (notFace_of_selects (args := #[]) (mvT hZ (hw _ (List.mem_of_getElem? (i := 45) rfl)))) (mvT hZ (hw _ (List.mem_of_getElem? (i := 45) rfl))) (mvT hZ (hw _ (List.mem_of_getElem? (i := 44) rfl))) (by decide) (backOf (W := 0) (rm7s0 l Z a0 hw [] b35 i1 b1_36 b2_36 b3_36 k1_36 k2_36 k3_36 T36.heap n0 Z36 B36_4 B36_0 B36_1 B36_2 B36_3 F42 B36_5 B36_6 B36_7 ge_b35 ge_b1_36 ge_b2_36 ge_b3_36 ne37 ne38 ne39 B36_11 B36_12 B36_13) hZ (hw _ (List.mem_of_getElem? (i := 46) rfl)) (hw _ (List.mem_of_getElem? (i := 3) rfl)) (by decide) (by decide)) q41a q41c (g := (mkF m 28 #[.val (.int i0), .val (.long i1), .second, .val (.long i2), .second, .val (.long i3), .second, .val (.long i4), .second, .val (.int (1 : Int32)), .val (.ref b35), .unset, .unset] [(.long i1), (.long (1 : Int64)), (.long (0 : Int64)), (.ref b35)])) rfl (by rw [hml]; rfl) (Steps.refl _) (argsL := [(.long (0 : Int64)), (.long (1 : Int64)), (.long i1)]) (rest := []) (lenOf pd_5 rfl) rfl (by show 2 * 0 + _ ≤ _; exact Nat.le_of_eq rfl) (hb hby at_28) (fun _ _ => ⟨rfl, rfl, (by decide : 4 + 0 ≤ _), (by decide : 53 + 0 ≤ _)⟩)
    dsimp only [Pt.U, Pt.locs, Pt.cells, Pt.slots] at X41 l41 y41 z41 st41 hQ41
    subst l41 y41 z41
    obtain ⟨rfl, N41q, K41q, B41_0, B41_1, B41_2, B41_3, B41_4, B41_5, B41_6, B41_7⟩ := hQ41
    have Z41 : n0 ≤ T41.heap.size := Nat.le_trans Z36 K41q.1
    have N41 := Fr.app N36 N41q
    replace G : Gets p e below _ (T41.setTop (mkF m 31 #[.val (.int i0), .val (.long i1), .second, .val (.long i2), .second, .val (.long i3), .second, .val (.long i4), .second, .val (.int (1 : Int32)), .val (.ref b35), .unset, .unset] [])) := fun t k => G t (st41.trans k)
    replace G := own_iload (q := 33) G X41.here hx (hb hby at_31) rfl rfl
    replace G := own_iconst (q := 34) G X41.here hx (hb hby at_33) (v := (1 : Int32)) (by decide) rfl
    have hc34_43 : ¬ ((1 : Int32) < (1 : Int32)) := by decide
    replace G := own_icmpYes (q := 47) G X41.here hx (hb hby at_34) (flt hc34_43).2.2.2 (by decide) (by decide)
    replace G := own_iload (q := 49) G X41.here hx (hb hby at_47) rfl rfl
    replace G := own_iconst (q := 50) G X41.here hx (hb hby at_49) (v := (2 : Int32)) (by decide) rfl
    have hc50_44 : ¬ ((2 : Int32) < (1 : Int32)) := by decide
    replace G := own_icmpYes (q := 66) G X41.here hx (hb hby at_50) (flt hc50_44).2.2.2 (by decide) (by decide)
    replace G := own_iload (q := 68) G X41.here hx (hb hby at_66) rfl rfl
    replace G := own_iconst (q := 69) G X41.here hx (hb hby at_68) (v := (3 : Int32)) (by decide) rfl
    have hc69_45 : ¬ ((3 : Int32) < (1 : Int32)) := by decide
    replace G := own_icmpYes (q := 85) G X41.here hx (hb hby at_69) (flt hc69_45).2.2.2 (by decide) (by decide)
    replace G := own_aload (q := 87) G X41.here hx (hb hby at_85) rfl rfl rfl
    have F47 : Exa Z T41.heap b35 "com/example/crossbill/crossbill/csv/RecordSpans" := (F42.keep K41q)
    obtain ⟨cq46, kq46, q46a, q46b, q46c⟩ := isOf hZ rfl F47
    obtain ⟨_, _, ⟨T46, L46, kk46, nn46⟩, -, X46, ⟨Lc46, hQ46, l46, y46, z46⟩, st46⟩ := X41.virtualBack hx (y := (⟨"com/example/crossbill/crossbill/csv/RecordSpans", "lines", "()[J"⟩ : MethodName)) (z := (⟨"com/example/crossbill/crossbill/csv/RecordSpans", "lines", "()[J"⟩ : MethodName)) hown (mvT hZ (hw _ (List.mem_of_getElem? (i := 19) rfl))) (mvT hZ (hw _ (List.mem_of_getElem? (i := 20) rfl))) (notFace_of_selects (args := #[]) (mvT hZ (hw _ (List.mem_of_getElem? (i := 22) rfl)))) (mvT hZ (hw _ (List.mem_of_getElem? (i := 22) rfl))) (mvT hZ (hw _ (List.mem_of_getElem? (i := 21) rfl))) (by decide) (backOf (W := 0) (rm3k1 l Z a0 hw [] b35 b3_36 k3_36 i1 T41.heap n0 Z41 B41_0 B41_3 B41_7) hZ (hw _ (List.mem_of_getElem? (i := 23) rfl)) (hw _ (List.mem_of_getElem? (i := 3) rfl)) (by decide) (by decide)) q46a q46c (g := (mkF m 87 #[.val (.int i0), .val (.long i1), .second, .val (.long i2), .second, .val (.long i3), .second, .val (.long i4), .second, .val (.int (1 : Int32)), .val (.ref b35), .unset, .unset] [(.ref b35)])) rfl (by rw [hml]; rfl) (Steps.refl _) (argsL := []) (rest := []) (lenOf pd_3 rfl) rfl (by show 2 * 0 + _ ≤ _; exact Nat.le_of_eq rfl) (hb hby at_87) (fun _ _ => ⟨rfl, rfl, (by decide : 4 + 1 ≤ _), (by decide : 53 + 1 ≤ _)⟩)
    dsimp only [Pt.U, Pt.locs, Pt.cells, Pt.slots] at X46 l46 y46 z46 st46 hQ46
    subst l46 y46 z46
    obtain ⟨b_46, kb_46, rfl, N46q, K46q, B46_0, B46_1⟩ := hQ46
    have ne48 : b3_36 ≠ b_46 := Nat.ne_of_lt (Nat.lt_of_lt_of_le B41_7.lt B46_0)
    have ne49 : b2_36 ≠ b_46 := Nat.ne_of_lt (Nat.lt_of_lt_of_le B41_6.lt B46_0)
    have ne50 : b1_36 ≠ b_46 := Nat.ne_of_lt (Nat.lt_of_lt_of_le B41_5.lt B46_0)
    have ne51 : b35 ≠ b_46 := Nat.ne_of_lt (Nat.lt_of_lt_of_le B41_4.lt B46_0)
    have ge_b_46 : n0 ≤ b_46 := Nat.le_trans Z41 B46_0
    have Z46 : n0 ≤ T46.heap.size := Nat.le_trans Z41 K46q.1
    have N46 := Fr.app N41 N46q
    replace G : Gets p e below _ (T46.setTop (mkF m 90 #[.val (.int i0), .val (.long i1), .second, .val (.long i2), .second, .val (.long i3), .second, .val (.long i4), .second, .val (.int (1 : Int32)), .val (.ref b35), .unset, .unset] [(.ref b_46)])) := fun t k => G t (st46.trans k)
    replace G := own_astore (q := 92) (l' := #[.val (.int i0), .val (.long i1), .second, .val (.long i2), .second, .val (.long i3), .second, .val (.long i4), .second, .val (.int (1 : Int32)), .val (.ref b35), .val (.ref b_46), .unset]) G X46.here hx (hb hby at_90) rfl rfl rfl
    replace G := own_aload (q := 94) G X46.here hx (hb hby at_92) rfl rfl rfl
    replace G := own_iload (q := 96) G X46.here hx (hb hby at_94) rfl rfl
    replace G := own_lloadN (q := 97) G X46.here hx (hb hby at_96) rfl rfl
    replace G := own_lloadN (q := 98) G X46.here hx (hb hby at_97) rfl rfl
    replace G := own_lload (q := 100) G X46.here hx (hb hby at_98) rfl rfl
    replace G := own_lload (q := 102) G X46.here hx (hb hby at_100) rfl rfl
    obtain ⟨_, _, ⟨T52, L52, kk52, nn52⟩, -, X52, ⟨Lc52, hQ52, l52, y52, z52⟩, st52⟩ := Jvm.LawKit.callS X46 hx (y := (⟨"com/example/crossbill/crossbill/csv/RecordSpansLinesPinLaw", "same", "([JIJJJJ)Z"⟩ : MethodName)) hown (mvT hZ (hw _ (List.mem_of_getElem? (i := 38) rfl))) (mvT hZ (hw _ (List.mem_of_getElem? (i := 39) rfl))) (mvT hZ (hw _ (List.mem_of_getElem? (i := 40) rfl))) (mvT hZ (hw _ (List.mem_of_getElem? (i := 41) rfl))) (by decide) (backOf (W := 0) (rm6k1 l Z a0 hw [] b_46 i1 i2 i3 i4 kb_46 T46.heap n0 Z46 B46_1) hZ (hw _ (List.mem_of_getElem? (i := 41) rfl)) (hw _ (List.mem_of_getElem? (i := 40) rfl)) (by decide) (by decide)) (g := (mkF m 102 #[.val (.int i0), .val (.long i1), .second, .val (.long i2), .second, .val (.long i3), .second, .val (.long i4), .second, .val (.int (1 : Int32)), .val (.ref b35), .val (.ref b_46), .unset] [(.long i4), (.long i3), (.long i2), (.long i1), (.int (1 : Int32)), (.ref b_46)])) rfl (by rw [hml]; rfl) (argsL := [(.ref b_46), (.int (1 : Int32)), (.long i1), (.long i2), (.long i3), (.long i4)]) (rest := []) (lenOf pd_4 rfl) rfl (by show 2 * 0 + _ ≤ _; exact Nat.le_of_eq rfl) (hb hby at_102) (fun _ _ => ⟨rfl, rfl, (by decide : 5 + 0 ≤ _), (by decide : 54 + 0 ≤ _)⟩)
    dsimp only [Pt.U, Pt.locs, Pt.cells, Pt.slots] at X52 l52 y52 z52 st52 hQ52
    subst l52 y52 z52
    obtain ⟨rfl, N52q, e52⟩ := hQ52
    have N52 := Fr.app N46 N52q
    replace G : Gets p e below _ (T52.setTop (mkF m 105 #[.val (.int i0), .val (.long i1), .second, .val (.long i2), .second, .val (.long i3), .second, .val (.long i4), .second, .val (.int (1 : Int32)), .val (.ref b35), .val (.ref b_46), .unset] [(.int (1 : Int32))])) := fun t k => G t (st52 t k)
    have hc105_53 : ¬ ((1 : Int32) = (0 : Int32)) := by decide
    replace G := own_ifYes (q := 110) G X52.here hx (hb hby at_105) ((if0 _ _).trans (feq hc105_53).2) (by decide) (by decide)
    replace G := own_iload (q := 112) G X52.here hx (hb hby at_110) rfl rfl
    have hc112_54 : (0 : Int32) < (1 : Int32) := by decide
    replace G := own_ifNo (q := 115) G X52.here hx (hb hby at_112) ((if0 _ _).trans (tlt hc112_54).2.2.2) rfl
    replace G := own_aload (q := 117) G X52.here hx (hb hby at_115) rfl rfl rfl
    replace G := own_iconst (q := 118) G X52.here hx (hb hby at_117) (v := (0 : Int32)) (by decide) rfl
    replace G := own_aload (q := 120) G X52.here hx (hb hby at_118) rfl rfl rfl
    replace G := own_iconst (q := 121) G X52.here hx (hb hby at_120) (v := (0 : Int32)) (by decide) rfl
    obtain ⟨c55, Ar55, -, S55, -, H55, -⟩ := id B46_1
    have hin55 : ¬ ((0 : Int32) < 0 ∨ c55.slots.size ≤ ((0 : Int32)).toNatClampNeg) := inb_of S55 ⟨by decide, by decide⟩
    replace G : Gets p e below _ (T52.setTop (mkF m 122 #[.val (.int i0), .val (.long i1), .second, .val (.long i2), .second, .val (.long i3), .second, .val (.long i4), .second, .val (.int (1 : Int32)), .val (.ref b35), .val (.ref b_46), .unset] [(.long i1), (.int (0 : Int32)), (.ref b_46)])) := fun t k => G t (X52.laload hx (j := (0 : Int32)) (v := (.long i1)) (by rw [e52]; exact Ar55.1) (State.isArrayOf_alike hZ.alike Ar55.2.1) Ar55.2.2 hin55 (Has.at H55 hin55 rfl) (g := (mkF m 121 #[.val (.int i0), .val (.long i1), .second, .val (.long i2), .second, .val (.long i3), .second, .val (.long i4), .second, .val (.int (1 : Int32)), .val (.ref b35), .val (.ref b_46), .unset] [(.int (0 : Int32)), (.ref b_46), (.int (0 : Int32)), (.ref b_46)])) rfl rfl (hb hby at_121) t k)
    replace G : Gets p e below _ (T52.setTop (mkF m 125 #[.val (.int i0), .val (.long i1), .second, .val (.long i2), .second, .val (.long i3), .second, .val (.long i4), .second, .val (.int (1 : Int32)), .val (.ref b35), .val (.ref b_46), .unset] [(.long (-1 : Int64)), (.long i1), (.int (0 : Int32)), (.ref b_46)])) := fun t k => G t (X52.ldc2Long hx hown (mvT hZ (hw _ (List.mem_of_getElem? (i := 49) rfl))) (g := (mkF m 122 #[.val (.int i0), .val (.long i1), .second, .val (.long i2), .second, .val (.long i3), .second, .val (.long i4), .second, .val (.int (1 : Int32)), .val (.ref b35), .val (.ref b_46), .unset] [(.long i1), (.int (0 : Int32)), (.ref b_46)])) rfl (hb hby at_122) t k)
    replace G := own_lxor (q := 126) G X52.here hx (hb hby at_125) rfl rfl
    obtain ⟨c56, Ar56, q56, S56, N56', H56, G56'⟩ := id B46_1
    have hin56 : ¬ ((0 : Int32) < 0 ∨ c56.slots.size ≤ ((0 : Int32)).toNatClampNeg) := inb_of S56 ⟨by decide, by decide⟩
    obtain ⟨T56, h56, X56, e56, W56, st56⟩ := stJ X52 hx hZ e52 Ar56 (j := (0 : Int32)) hin56 (g := (mkF m 126 #[.val (.int i0), .val (.long i1), .second, .val (.long i2), .second, .val (.long i3), .second, .val (.long i4), .second, .val (.int (1 : Int32)), .val (.ref b35), .val (.ref b_46), .unset] [(.long (i1 ^^^ (-1 : Int64))), (.int (0 : Int32)), (.ref b_46)])) rfl rfl (hb hby at_126)
    have N56 := Fr.snoc X56 N52 ge_b_46
    have Z56 : n0 ≤ h56.size := Nat.le_trans Z46 (Keep.of_wr W56).1
    have V56 : Arv Z h56 b_46 kb_46 .long (1 : Int32) [(.long (i1 ^^^ (-1 : Int64)))] (.long (0 : Int64)) := Arv.set Ar56 q56 S56 N56' H56 G56' rfl W56 0 rfl (Nat.le_of_ble_eq_true rfl)
    replace G : Gets p e below _ (T56.setTop (mkF m 127 #[.val (.int i0), .val (.long i1), .second, .val (.long i2), .second, .val (.long i3), .second, .val (.long i4), .second, .val (.int (1 : Int32)), .val (.ref b35), .val (.ref b_46), .unset] [])) := fun t k => G t (st56 t k)
    replace G := own_iload (q := 129) G X56.here hx (hb hby at_127) rfl rfl
    replace G := own_iconst (q := 130) G X56.here hx (hb hby at_129) (v := (1 : Int32)) (by decide) rfl
    have hc130_57 : ¬ ((1 : Int32) < (1 : Int32)) := by decide
    replace G := own_icmpYes (q := 145) G X56.here hx (hb hby at_130) (flt hc130_57).2.2.2 (by decide) (by decide)
    replace G := own_iload (q := 147) G X56.here hx (hb hby at_145) rfl rfl
    replace G := own_iconst (q := 148) G X56.here hx (hb hby at_147) (v := (2 : Int32)) (by decide) rfl
    have hc148_58 : ¬ ((2 : Int32) < (1 : Int32)) := by decide
    replace G := own_icmpYes (q := 163) G X56.here hx (hb hby at_148) (flt hc148_58).2.2.2 (by decide) (by decide)
    replace G := own_iload (q := 165) G X56.here hx (hb hby at_163) rfl rfl
    replace G := own_iconst (q := 166) G X56.here hx (hb hby at_165) (v := (3 : Int32)) (by decide) rfl
    have hc166_59 : ¬ ((3 : Int32) < (1 : Int32)) := by decide
    replace G := own_icmpYes (q := 181) G X56.here hx (hb hby at_166) (flt hc166_59).2.2.2 (by decide) (by decide)
    replace G := own_aload (q := 183) G X56.here hx (hb hby at_181) rfl rfl rfl
    have F61 : Exa Z h56 b35 "com/example/crossbill/crossbill/csv/RecordSpans" := ((F47.keep K46q).wr W56)
    have F62 : Fld Z h56 b35 "com/example/crossbill/crossbill/csv/RecordSpans" "size" "I" (.int (1 : Int32)) := ((B41_0.keep K46q nin0).other W56 (Or.inl ne51))
    have F63 : Fld Z h56 b35 "com/example/crossbill/crossbill/csv/RecordSpans" "lines" "[J" (.ref b3_36) := ((B41_3.keep K46q nin0).other W56 (Or.inl ne51))
    have F64 : Arv Z h56 b3_36 k3_36 .long (16 : Int32) [(.long i1), (.long (0 : Int64)), (.long (0 : Int64)), (.long (0 : Int64)), (.long (0 : Int64)), (.long (0 : Int64)), (.long (0 : Int64)), (.long (0 : Int64)), (.long (0 : Int64)), (.long (0 : Int64)), (.long (0 : Int64)), (.long (0 : Int64)), (.long (0 : Int64)), (.long (0 : Int64)), (.long (0 : Int64)), (.long (0 : Int64))] (.long (0 : Int64)) := ((B41_7.keep K46q nin0).other W56 ne48)
    obtain ⟨cq60, kq60, q60a, q60b, q60c⟩ := isOf hZ e56 F61
    obtain ⟨_, _, ⟨T60, L60, kk60, nn60⟩, -, X60, ⟨Lc60, hQ60, l60, y60, z60⟩, st60⟩ := X56.virtualBack hx (y := (⟨"com/example/crossbill/crossbill/csv/RecordSpans", "lines", "()[J"⟩ : MethodName)) (z := (⟨"com/example/crossbill/crossbill/csv/RecordSpans", "lines", "()[J"⟩ : MethodName)) hown (mvT hZ (hw _ (List.mem_of_getElem? (i := 19) rfl))) (mvT hZ (hw _ (List.mem_of_getElem? (i := 20) rfl))) (notFace_of_selects (args := #[]) (mvT hZ (hw _ (List.mem_of_getElem? (i := 22) rfl)))) (mvT hZ (hw _ (List.mem_of_getElem? (i := 22) rfl))) (mvT hZ (hw _ (List.mem_of_getElem? (i := 21) rfl))) (by decide) (backOf (W := 0) (rm3k1 l Z a0 hw [] b35 b3_36 k3_36 i1 h56 n0 Z56 F62 F63 F64) hZ (hw _ (List.mem_of_getElem? (i := 23) rfl)) (hw _ (List.mem_of_getElem? (i := 3) rfl)) (by decide) (by decide)) q60a q60c (g := (mkF m 183 #[.val (.int i0), .val (.long i1), .second, .val (.long i2), .second, .val (.long i3), .second, .val (.long i4), .second, .val (.int (1 : Int32)), .val (.ref b35), .val (.ref b_46), .unset] [(.ref b35)])) rfl (by rw [hml]; rfl) (Steps.refl _) (argsL := []) (rest := []) (lenOf pd_3 rfl) rfl (by show 2 * 0 + _ ≤ _; exact Nat.le_of_eq rfl) (hb hby at_183) (fun _ _ => ⟨rfl, e56, (by decide : 5 + 1 ≤ _), (by decide : 54 + 1 ≤ _)⟩)
    dsimp only [Pt.U, Pt.locs, Pt.cells, Pt.slots] at X60 l60 y60 z60 st60 hQ60
    subst l60 y60 z60
    obtain ⟨b_60, kb_60, rfl, N60q, K60q, B60_0, B60_1⟩ := hQ60
    have ne65 : b_46 ≠ b_60 := Nat.ne_of_lt (Nat.lt_of_lt_of_le V56.lt B60_0)
    have ne66 : b3_36 ≠ b_60 := Nat.ne_of_lt (Nat.lt_of_lt_of_le F64.lt B60_0)
    have F67 : Arv Z h56 b2_36 k2_36 .long (16 : Int32) [(.long (1 : Int64)), (.long (0 : Int64)), (.long (0 : Int64)), (.long (0 : Int64)), (.long (0 : Int64)), (.long (0 : Int64)), (.long (0 : Int64)), (.long (0 : Int64)), (.long (0 : Int64)), (.long (0 : Int64)), (.long (0 : Int64)), (.long (0 : Int64)), (.long (0 : Int64)), (.long (0 : Int64)), (.long (0 : Int64)), (.long (0 : Int64))] (.long (0 : Int64)) := ((B41_6.keep K46q nin0).other W56 ne49)
    have ne68 : b2_36 ≠ b_60 := Nat.ne_of_lt (Nat.lt_of_lt_of_le F67.lt B60_0)
    have F69 : Arv Z h56 b1_36 k1_36 .long (16 : Int32) [(.long (0 : Int64)), (.long (0 : Int64)), (.long (0 : Int64)), (.long (0 : Int64)), (.long (0 : Int64)), (.long (0 : Int64)), (.long (0 : Int64)), (.long (0 : Int64)), (.long (0 : Int64)), (.long (0 : Int64)), (.long (0 : Int64)), (.long (0 : Int64)), (.long (0 : Int64)), (.long (0 : Int64)), (.long (0 : Int64)), (.long (0 : Int64))] (.long (0 : Int64)) := ((B41_5.keep K46q nin0).other W56 ne50)
    have ne70 : b1_36 ≠ b_60 := Nat.ne_of_lt (Nat.lt_of_lt_of_le F69.lt B60_0)
    have F71 : Fld Z h56 b35 "com/example/crossbill/crossbill/csv/RecordSpans" "headerEnd" "J" (.long (0 : Int64)) := ((B41_4.keep K46q nin0).other W56 (Or.inl ne51))
    have ne72 : b35 ≠ b_60 := Nat.ne_of_lt (Nat.lt_of_lt_of_le F71.lt B60_0)
    have ge_b_60 : n0 ≤ b_60 := Nat.le_trans Z56 B60_0
    have Z60 : n0 ≤ T60.heap.size := Nat.le_trans Z56 K60q.1
    have N60 := Fr.app N56 N60q
    replace G : Gets p e below _ (T60.setTop (mkF m 186 #[.val (.int i0), .val (.long i1), .second, .val (.long i2), .second, .val (.long i3), .second, .val (.long i4), .second, .val (.int (1 : Int32)), .val (.ref b35), .val (.ref b_46), .unset] [(.ref b_60)])) := fun t k => G t (st60.trans k)
    replace G := own_astore (q := 188) (l' := #[.val (.int i0), .val (.long i1), .second, .val (.long i2), .second, .val (.long i3), .second, .val (.long i4), .second, .val (.int (1 : Int32)), .val (.ref b35), .val (.ref b_46), .val (.ref b_60)]) G X60.here hx (hb hby at_186) rfl rfl rfl
    replace G := own_aload (q := 190) G X60.here hx (hb hby at_188) rfl rfl rfl
    replace G := own_iload (q := 192) G X60.here hx (hb hby at_190) rfl rfl
    replace G := own_lloadN (q := 193) G X60.here hx (hb hby at_192) rfl rfl
    replace G := own_lloadN (q := 194) G X60.here hx (hb hby at_193) rfl rfl
    replace G := own_lload (q := 196) G X60.here hx (hb hby at_194) rfl rfl
    replace G := own_lload (q := 198) G X60.here hx (hb hby at_196) rfl rfl
    obtain ⟨_, _, ⟨T73, L73, kk73, nn73⟩, -, X73, ⟨Lc73, hQ73, l73, y73, z73⟩, st73⟩ := Jvm.LawKit.callS X60 hx (y := (⟨"com/example/crossbill/crossbill/csv/RecordSpansLinesPinLaw", "same", "([JIJJJJ)Z"⟩ : MethodName)) hown (mvT hZ (hw _ (List.mem_of_getElem? (i := 38) rfl))) (mvT hZ (hw _ (List.mem_of_getElem? (i := 39) rfl))) (mvT hZ (hw _ (List.mem_of_getElem? (i := 40) rfl))) (mvT hZ (hw _ (List.mem_of_getElem? (i := 41) rfl))) (by decide) (backOf (W := 0) (rm6k1 l Z a0 hw [] b_60 i1 i2 i3 i4 kb_60 T60.heap n0 Z60 B60_1) hZ (hw _ (List.mem_of_getElem? (i := 41) rfl)) (hw _ (List.mem_of_getElem? (i := 40) rfl)) (by decide) (by decide)) (g := (mkF m 198 #[.val (.int i0), .val (.long i1), .second, .val (.long i2), .second, .val (.long i3), .second, .val (.long i4), .second, .val (.int (1 : Int32)), .val (.ref b35), .val (.ref b_46), .val (.ref b_60)] [(.long i4), (.long i3), (.long i2), (.long i1), (.int (1 : Int32)), (.ref b_60)])) rfl (by rw [hml]; rfl) (argsL := [(.ref b_60), (.int (1 : Int32)), (.long i1), (.long i2), (.long i3), (.long i4)]) (rest := []) (lenOf pd_4 rfl) rfl (by show 2 * 0 + _ ≤ _; exact Nat.le_of_eq rfl) (hb hby at_198) (fun _ _ => ⟨rfl, rfl, (by decide : 6 + 0 ≤ _), (by decide : 55 + 0 ≤ _)⟩)
    dsimp only [Pt.U, Pt.locs, Pt.cells, Pt.slots] at X73 l73 y73 z73 st73 hQ73
    subst l73 y73 z73
    obtain ⟨rfl, N73q, e73⟩ := hQ73
    have N73 := Fr.app N60 N73q
    replace G : Gets p e below _ (T73.setTop (mkF m 201 #[.val (.int i0), .val (.long i1), .second, .val (.long i2), .second, .val (.long i3), .second, .val (.long i4), .second, .val (.int (1 : Int32)), .val (.ref b35), .val (.ref b_46), .val (.ref b_60)] [(.int (1 : Int32))])) := fun t k => G t (st73 t k)
    obtain ⟨fs, hr, hrun, hended, hW, hsame⟩ := X73.leave (v := some (.int (1 : Int32))) (fun h => by rw [Bd.returns] at h; cases h)
    refine ⟨_, _, G _ (retOut X73 hx Bd.returns rfl (Or.inl ⟨rfl, Or.inr (Or.inl rfl), _, rfl⟩) (hb hby at_201) hr), hrun, hended, _, _, rfl, ?_, ⟨_, rfl⟩, hW, hsame.mono (by decide) (by decide)⟩
    show Q0 Z i0 i1 i2 i3 i4 h0 n0 _ T73.heap _
    rw [e73]
    exact ⟨rfl, N73⟩
  · replace G := own_istore (q := 8) (l' := #[.val (.int i0), .val (.long i1), .second, .val (.long i2), .second, .val (.long i3), .second, .val (.long i4), .second, .val (.int (2 : Int32)), .unset, .unset, .unset]) G X0.here hx (hb hby at_6) rfl rfl
    obtain ⟨T74, h74, X74, e74, E74, A74, D74, -, st74⟩ := newO X0 hx hZ hown (hw _ (List.mem_of_getElem? (i := 1) rfl)) (hw _ (List.mem_of_getElem? (i := 2) rfl)) (hw _ (List.mem_of_getElem? (i := 3) rfl)) e0 (g := (mkF m 8 #[.val (.int i0), .val (.long i1), .second, .val (.long i2), .second, .val (.long i3), .second, .val (.long i4), .second, .val (.int (2 : Int32)), .unset, .unset, .unset] [])) rfl (hb hby at_8) (by decide) (by decide)
    obtain ⟨b74, g74⟩ : ∃ z, z = h0.size := ⟨_, rfl⟩
    rw [← g74] at A74 D74 st74
    have ge_b74 : n0 ≤ b74 := Nat.le_trans Z0 (Nat.le_of_eq g74.symm)
    have Z74 : n0 ≤ h74.size := Nat.le_trans Z0 E74.1
    have F74_starts : Fld Z h74 b74 "com/example/crossbill/crossbill/csv/RecordSpans" "starts" "[J" .null := D74 (Or.inl (hw _ (List.mem_of_getElem? (i := 12) rfl))) (ty := (.array .long)) (by decide)
    have F74_ends : Fld Z h74 b74 "com/example/crossbill/crossbill/csv/RecordSpans" "ends" "[J" .null := D74 (Or.inl (hw _ (List.mem_of_getElem? (i := 14) rfl))) (ty := (.array .long)) (by decide)
    have F74_lines : Fld Z h74 b74 "com/example/crossbill/crossbill/csv/RecordSpans" "lines" "[J" .null := D74 (Or.inl (hw _ (List.mem_of_getElem? (i := 16) rfl))) (ty := (.array .long)) (by decide)
    have F74_headerEnd : Fld Z h74 b74 "com/example/crossbill/crossbill/csv/RecordSpans" "headerEnd" "J" (.long (0 : Int64)) := D74 (Or.inr (hw _ (List.mem_of_getElem? (i := 18) rfl))) (ty := .long) (by decide)
    have F74_size : Fld Z h74 b74 "com/example/crossbill/crossbill/csv/RecordSpans" "size" "I" (.int (0 : Int32)) := D74 (Or.inl (hw _ (List.mem_of_getElem? (i := 25) rfl))) (ty := .int) (by decide)
    replace G : Gets p e below _ (T74.setTop (mkF m 11 #[.val (.int i0), .val (.long i1), .second, .val (.long i2), .second, .val (.long i3), .second, .val (.long i4), .second, .val (.int (2 : Int32)), .unset, .unset, .unset] [(.ref b74)])) := fun t k => G t (st74 t k)
    replace G := own_dup (q := 12) G X74.here hx (hb hby at_11) rfl rfl
    replace G := own_lconst (q := 13) G X74.here hx (hb hby at_12) (v := (0 : Int64)) (by decide) rfl
    obtain ⟨_, _, ⟨T75, L75, kk75, nn75⟩, -, X75, ⟨Lc75, hQ75, l75, y75, z75⟩, st75⟩ := X74.specialBack hx (y := (⟨"com/example/crossbill/crossbill/csv/RecordSpans", "<init>", "(J)V"⟩ : MethodName)) rfl hown (mvT hZ (hw _ (List.mem_of_getElem? (i := 4) rfl))) (mvT hZ (hw _ (List.mem_of_getElem? (i := 5) rfl))) (mvT hZ (hw _ (List.mem_of_getElem? (i := 6) rfl))) (by decide) (backOf (W := 1) (rm1 l Z a0 hw [] b74 (0 : Int64) h74 n0 Z74 F74_starts F74_ends F74_lines F74_headerEnd F74_size A74 ge_b74) hZ (hw _ (List.mem_of_getElem? (i := 6) rfl)) (hw _ (List.mem_of_getElem? (i := 3) rfl)) (by decide) (by decide)) (g := (mkF m 13 #[.val (.int i0), .val (.long i1), .second, .val (.long i2), .second, .val (.long i3), .second, .val (.long i4), .second, .val (.int (2 : Int32)), .unset, .unset, .unset] [(.long (0 : Int64)), (.ref b74), (.ref b74)])) rfl (by rw [hml]; rfl) (Steps.refl _) (a := b74) (argsL := [(.long (0 : Int64))]) (rest := [(.ref b74)]) (lenOf pd_2 rfl) rfl (by show 2 * 0 + _ ≤ _; exact Nat.le_of_eq rfl) (hb hby at_13) (fun _ _ => ⟨rfl, e74, (by decide : 1 + 3 ≤ _), (by decide : 5 + 48 ≤ _)⟩)
    dsimp only [Pt.U, Pt.locs, Pt.cells, Pt.slots] at X75 l75 y75 z75 st75 hQ75
    subst l75 y75 z75
    obtain ⟨b1_75, b2_75, b3_75, k1_75, k2_75, k3_75, rfl, N75q, K75q, B75_0, B75_1, B75_2, B75_3, B75_4, B75_5, B75_6, B75_7, B75_8, B75_9, B75_10, B75_11, B75_12, B75_13⟩ := hQ75
    have ne76 : b74 ≠ b1_75 := Nat.ne_of_lt (Nat.lt_of_lt_of_le F74_size.lt B75_8)
    have ge_b1_75 : n0 ≤ b1_75 := Nat.le_trans Z74 B75_8
    have ne77 : b74 ≠ b2_75 := Nat.ne_of_lt (Nat.lt_of_lt_of_le F74_size.lt B75_9)
    have ge_b2_75 : n0 ≤ b2_75 := Nat.le_trans Z74 B75_9
    have ne78 : b74 ≠ b3_75 := Nat.ne_of_lt (Nat.lt_of_lt_of_le F74_size.lt B75_10)
    have ge_b3_75 : n0 ≤ b3_75 := Nat.le_trans Z74 B75_10
    have Z75 : n0 ≤ T75.heap.size := Nat.le_trans Z74 K75q.1
    have N75 := Fr.app N0 N75q
    replace G : Gets p e below _ (T75.setTop (mkF m 16 #[.val (.int i0), .val (.long i1), .second, .val (.long i2), .second, .val (.long i3), .second, .val (.long i4), .second, .val (.int (2 : Int32)), .unset, .unset, .unset] [(.ref b74)])) := fun t k => G t (st75.trans k)
    replace G := own_astore (q := 18) (l' := #[.val (.int i0), .val (.long i1), .second, .val (.long i2), .second, .val (.long i3), .second, .val (.long i4), .second, .val (.int (2 : Int32)), .val (.ref b74), .unset, .unset]) G X75.here hx (hb hby at_16) rfl rfl rfl
    replace G := own_iload (q := 20) G X75.here hx (hb hby at_18) rfl rfl
    have hc20_79 : (0 : Int32) < (2 : Int32) := by decide
    replace G := own_ifNo (q := 23) G X75.here hx (hb hby at_20) ((if0 _ _).trans (tlt hc20_79).2.2.2) rfl
    replace G := own_aload (q := 25) G X75.here hx (hb hby at_23) rfl rfl rfl
    replace G := own_lconst (q := 26) G X75.here hx (hb hby at_25) (v := (0 : Int64)) (by decide) rfl
    replace G := own_lconst (q := 27) G X75.here hx (hb hby at_26) (v := (1 : Int64)) (by decide) rfl
    replace G := own_lloadN (q := 28) G X75.here hx (hb hby at_27) rfl rfl
    have F81 : Exa Z T75.heap b74 "com/example/crossbill/crossbill/csv/RecordSpans" := (A74.keep K75q)
    obtain ⟨cq80, kq80, q80a, q80b, q80c⟩ := isOf hZ rfl F81
    obtain ⟨_, _, ⟨T80, L80, kk80, nn80⟩, -, X80, ⟨Lc80, hQ80, l80, y80, z80⟩, st80⟩ := X75.virtualBack hx (y := (⟨"com/example/crossbill/crossbill/csv/RecordSpans", "add", "(JJJ)V"⟩ : MethodName)) (z := (⟨"com/example/crossbill/crossbill/csv/RecordSpans", "add", "(JJJ)V"⟩ : MethodName)) hown (mvT hZ (hw _ (List.mem_of_getElem? (i := 42) rfl))) (mvT hZ (hw _ (List.mem_of_getElem? (i := 43) rfl))) (notFace_of_selects (args := #[]) (mvT hZ (hw _ (List.mem_of_getElem? (i := 45) rfl)))) (mvT hZ (hw _ (List.mem_of_getElem? (i := 45) rfl))) (mvT hZ (hw _ (List.mem_of_getElem? (i := 44) rfl))) (by decide) (backOf (W := 0) (rm7s0 l Z a0 hw [] b74 i1 b1_75 b2_75 b3_75 k1_75 k2_75 k3_75 T75.heap n0 Z75 B75_4 B75_0 B75_1 B75_2 B75_3 F81 B75_5 B75_6 B75_7 ge_b74 ge_b1_75 ge_b2_75 ge_b3_75 ne76 ne77 ne78 B75_11 B75_12 B75_13) hZ (hw _ (List.mem_of_getElem? (i := 46) rfl)) (hw _ (List.mem_of_getElem? (i := 3) rfl)) (by decide) (by decide)) q80a q80c (g := (mkF m 28 #[.val (.int i0), .val (.long i1), .second, .val (.long i2), .second, .val (.long i3), .second, .val (.long i4), .second, .val (.int (2 : Int32)), .val (.ref b74), .unset, .unset] [(.long i1), (.long (1 : Int64)), (.long (0 : Int64)), (.ref b74)])) rfl (by rw [hml]; rfl) (Steps.refl _) (argsL := [(.long (0 : Int64)), (.long (1 : Int64)), (.long i1)]) (rest := []) (lenOf pd_5 rfl) rfl (by show 2 * 0 + _ ≤ _; exact Nat.le_of_eq rfl) (hb hby at_28) (fun _ _ => ⟨rfl, rfl, (by decide : 4 + 0 ≤ _), (by decide : 53 + 0 ≤ _)⟩)
    dsimp only [Pt.U, Pt.locs, Pt.cells, Pt.slots] at X80 l80 y80 z80 st80 hQ80
    subst l80 y80 z80
    obtain ⟨rfl, N80q, K80q, B80_0, B80_1, B80_2, B80_3, B80_4, B80_5, B80_6, B80_7⟩ := hQ80
    have Z80 : n0 ≤ T80.heap.size := Nat.le_trans Z75 K80q.1
    have N80 := Fr.app N75 N80q
    replace G : Gets p e below _ (T80.setTop (mkF m 31 #[.val (.int i0), .val (.long i1), .second, .val (.long i2), .second, .val (.long i3), .second, .val (.long i4), .second, .val (.int (2 : Int32)), .val (.ref b74), .unset, .unset] [])) := fun t k => G t (st80.trans k)
    replace G := own_iload (q := 33) G X80.here hx (hb hby at_31) rfl rfl
    replace G := own_iconst (q := 34) G X80.here hx (hb hby at_33) (v := (1 : Int32)) (by decide) rfl
    have hc34_82 : (1 : Int32) < (2 : Int32) := by decide
    replace G := own_icmpNo (q := 37) G X80.here hx (hb hby at_34) (tlt hc34_82).2.2.2 rfl
    replace G := own_aload (q := 39) G X80.here hx (hb hby at_37) rfl rfl rfl
    replace G := own_lconst (q := 40) G X80.here hx (hb hby at_39) (v := (1 : Int64)) (by decide) rfl
    replace G : Gets p e below _ (T80.setTop (mkF m 43 #[.val (.int i0), .val (.long i1), .second, .val (.long i2), .second, .val (.long i3), .second, .val (.long i4), .second, .val (.int (2 : Int32)), .val (.ref b74), .unset, .unset] [(.long (2 : Int64)), (.long (1 : Int64)), (.ref b74)])) := fun t k => G t (X80.ldc2Long hx hown (mvT hZ (hw _ (List.mem_of_getElem? (i := 47) rfl))) (g := (mkF m 40 #[.val (.int i0), .val (.long i1), .second, .val (.long i2), .second, .val (.long i3), .second, .val (.long i4), .second, .val (.int (2 : Int32)), .val (.ref b74), .unset, .unset] [(.long (1 : Int64)), (.ref b74)])) rfl (hb hby at_40) t k)
    replace G := own_lloadN (q := 44) G X80.here hx (hb hby at_43) rfl rfl
    have F84 : Exa Z T80.heap b74 "com/example/crossbill/crossbill/csv/RecordSpans" := (F81.keep K80q)
    obtain ⟨cq83, kq83, q83a, q83b, q83c⟩ := isOf hZ rfl F84
    obtain ⟨_, _, ⟨T83, L83, kk83, nn83⟩, -, X83, ⟨Lc83, hQ83, l83, y83, z83⟩, st83⟩ := X80.virtualBack hx (y := (⟨"com/example/crossbill/crossbill/csv/RecordSpans", "add", "(JJJ)V"⟩ : MethodName)) (z := (⟨"com/example/crossbill/crossbill/csv/RecordSpans", "add", "(JJJ)V"⟩ : MethodName)) hown (mvT hZ (hw _ (List.mem_of_getElem? (i := 42) rfl))) (mvT hZ (hw _ (List.mem_of_getElem? (i := 43) rfl))) (notFace_of_selects (args := #[]) (mvT hZ (hw _ (List.mem_of_getElem? (i := 45) rfl)))) (mvT hZ (hw _ (List.mem_of_getElem? (i := 45) rfl))) (mvT hZ (hw _ (List.mem_of_getElem? (i := 44) rfl))) (by decide) (backOf (W := 0) (rm7s1 l Z a0 hw [] b74 i2 b1_75 b2_75 b3_75 k1_75 k2_75 k3_75 i1 T80.heap n0 Z80 B80_0 B80_1 B80_2 B80_3 B80_4 F84 B80_5 B80_6 B80_7 ge_b74 ge_b1_75 ge_b2_75 ge_b3_75 ne76 ne77 ne78 B75_11 B75_12 B75_13) hZ (hw _ (List.mem_of_getElem? (i := 46) rfl)) (hw _ (List.mem_of_getElem? (i := 3) rfl)) (by decide) (by decide)) q83a q83c (g := (mkF m 44 #[.val (.int i0), .val (.long i1), .second, .val (.long i2), .second, .val (.long i3), .second, .val (.long i4), .second, .val (.int (2 : Int32)), .val (.ref b74), .unset, .unset] [(.long i2), (.long (2 : Int64)), (.long (1 : Int64)), (.ref b74)])) rfl (by rw [hml]; rfl) (Steps.refl _) (argsL := [(.long (1 : Int64)), (.long (2 : Int64)), (.long i2)]) (rest := []) (lenOf pd_5 rfl) rfl (by show 2 * 0 + _ ≤ _; exact Nat.le_of_eq rfl) (hb hby at_44) (fun _ _ => ⟨rfl, rfl, (by decide : 4 + 0 ≤ _), (by decide : 53 + 0 ≤ _)⟩)
    dsimp only [Pt.U, Pt.locs, Pt.cells, Pt.slots] at X83 l83 y83 z83 st83 hQ83
    subst l83 y83 z83
    obtain ⟨rfl, N83q, K83q, B83_0, B83_1, B83_2, B83_3, B83_4, B83_5, B83_6, B83_7⟩ := hQ83
    have Z83 : n0 ≤ T83.heap.size := Nat.le_trans Z80 K83q.1
    have N83 := Fr.app N80 N83q
    replace G : Gets p e below _ (T83.setTop (mkF m 47 #[.val (.int i0), .val (.long i1), .second, .val (.long i2), .second, .val (.long i3), .second, .val (.long i4), .second, .val (.int (2 : Int32)), .val (.ref b74), .unset, .unset] [])) := fun t k => G t (st83.trans k)
    replace G := own_iload (q := 49) G X83.here hx (hb hby at_47) rfl rfl
    replace G := own_iconst (q := 50) G X83.here hx (hb hby at_49) (v := (2 : Int32)) (by decide) rfl
    have hc50_85 : ¬ ((2 : Int32) < (2 : Int32)) := by decide
    replace G := own_icmpYes (q := 66) G X83.here hx (hb hby at_50) (flt hc50_85).2.2.2 (by decide) (by decide)
    replace G := own_iload (q := 68) G X83.here hx (hb hby at_66) rfl rfl
    replace G := own_iconst (q := 69) G X83.here hx (hb hby at_68) (v := (3 : Int32)) (by decide) rfl
    have hc69_86 : ¬ ((3 : Int32) < (2 : Int32)) := by decide
    replace G := own_icmpYes (q := 85) G X83.here hx (hb hby at_69) (flt hc69_86).2.2.2 (by decide) (by decide)
    replace G := own_aload (q := 87) G X83.here hx (hb hby at_85) rfl rfl rfl
    have F88 : Exa Z T83.heap b74 "com/example/crossbill/crossbill/csv/RecordSpans" := (F84.keep K83q)
    obtain ⟨cq87, kq87, q87a, q87b, q87c⟩ := isOf hZ rfl F88
    obtain ⟨_, _, ⟨T87, L87, kk87, nn87⟩, -, X87, ⟨Lc87, hQ87, l87, y87, z87⟩, st87⟩ := X83.virtualBack hx (y := (⟨"com/example/crossbill/crossbill/csv/RecordSpans", "lines", "()[J"⟩ : MethodName)) (z := (⟨"com/example/crossbill/crossbill/csv/RecordSpans", "lines", "()[J"⟩ : MethodName)) hown (mvT hZ (hw _ (List.mem_of_getElem? (i := 19) rfl))) (mvT hZ (hw _ (List.mem_of_getElem? (i := 20) rfl))) (notFace_of_selects (args := #[]) (mvT hZ (hw _ (List.mem_of_getElem? (i := 22) rfl)))) (mvT hZ (hw _ (List.mem_of_getElem? (i := 22) rfl))) (mvT hZ (hw _ (List.mem_of_getElem? (i := 21) rfl))) (by decide) (backOf (W := 0) (rm3k2 l Z a0 hw [] b74 b3_75 k3_75 i1 i2 T83.heap n0 Z83 B83_0 B83_3 B83_7) hZ (hw _ (List.mem_of_getElem? (i := 23) rfl)) (hw _ (List.mem_of_getElem? (i := 3) rfl)) (by decide) (by decide)) q87a q87c (g := (mkF m 87 #[.val (.int i0), .val (.long i1), .second, .val (.long i2), .second, .val (.long i3), .second, .val (.long i4), .second, .val (.int (2 : Int32)), .val (.ref b74), .unset, .unset] [(.ref b74)])) rfl (by rw [hml]; rfl) (Steps.refl _) (argsL := []) (rest := []) (lenOf pd_3 rfl) rfl (by show 2 * 0 + _ ≤ _; exact Nat.le_of_eq rfl) (hb hby at_87) (fun _ _ => ⟨rfl, rfl, (by decide : 4 + 1 ≤ _), (by decide : 53 + 2 ≤ _)⟩)
    dsimp only [Pt.U, Pt.locs, Pt.cells, Pt.slots] at X87 l87 y87 z87 st87 hQ87
    subst l87 y87 z87
    obtain ⟨b_87, kb_87, rfl, N87q, K87q, B87_0, B87_1⟩ := hQ87
    have ne89 : b3_75 ≠ b_87 := Nat.ne_of_lt (Nat.lt_of_lt_of_le B83_7.lt B87_0)
    have ne90 : b2_75 ≠ b_87 := Nat.ne_of_lt (Nat.lt_of_lt_of_le B83_6.lt B87_0)
    have ne91 : b1_75 ≠ b_87 := Nat.ne_of_lt (Nat.lt_of_lt_of_le B83_5.lt B87_0)
    have ne92 : b74 ≠ b_87 := Nat.ne_of_lt (Nat.lt_of_lt_of_le B83_4.lt B87_0)
    have ge_b_87 : n0 ≤ b_87 := Nat.le_trans Z83 B87_0
    have Z87 : n0 ≤ T87.heap.size := Nat.le_trans Z83 K87q.1
    have N87 := Fr.app N83 N87q
    replace G : Gets p e below _ (T87.setTop (mkF m 90 #[.val (.int i0), .val (.long i1), .second, .val (.long i2), .second, .val (.long i3), .second, .val (.long i4), .second, .val (.int (2 : Int32)), .val (.ref b74), .unset, .unset] [(.ref b_87)])) := fun t k => G t (st87.trans k)
    replace G := own_astore (q := 92) (l' := #[.val (.int i0), .val (.long i1), .second, .val (.long i2), .second, .val (.long i3), .second, .val (.long i4), .second, .val (.int (2 : Int32)), .val (.ref b74), .val (.ref b_87), .unset]) G X87.here hx (hb hby at_90) rfl rfl rfl
    replace G := own_aload (q := 94) G X87.here hx (hb hby at_92) rfl rfl rfl
    replace G := own_iload (q := 96) G X87.here hx (hb hby at_94) rfl rfl
    replace G := own_lloadN (q := 97) G X87.here hx (hb hby at_96) rfl rfl
    replace G := own_lloadN (q := 98) G X87.here hx (hb hby at_97) rfl rfl
    replace G := own_lload (q := 100) G X87.here hx (hb hby at_98) rfl rfl
    replace G := own_lload (q := 102) G X87.here hx (hb hby at_100) rfl rfl
    obtain ⟨_, _, ⟨T93, L93, kk93, nn93⟩, -, X93, ⟨Lc93, hQ93, l93, y93, z93⟩, st93⟩ := Jvm.LawKit.callS X87 hx (y := (⟨"com/example/crossbill/crossbill/csv/RecordSpansLinesPinLaw", "same", "([JIJJJJ)Z"⟩ : MethodName)) hown (mvT hZ (hw _ (List.mem_of_getElem? (i := 38) rfl))) (mvT hZ (hw _ (List.mem_of_getElem? (i := 39) rfl))) (mvT hZ (hw _ (List.mem_of_getElem? (i := 40) rfl))) (mvT hZ (hw _ (List.mem_of_getElem? (i := 41) rfl))) (by decide) (backOf (W := 0) (rm6k2 l Z a0 hw [] b_87 i1 i2 i3 i4 kb_87 T87.heap n0 Z87 B87_1) hZ (hw _ (List.mem_of_getElem? (i := 41) rfl)) (hw _ (List.mem_of_getElem? (i := 40) rfl)) (by decide) (by decide)) (g := (mkF m 102 #[.val (.int i0), .val (.long i1), .second, .val (.long i2), .second, .val (.long i3), .second, .val (.long i4), .second, .val (.int (2 : Int32)), .val (.ref b74), .val (.ref b_87), .unset] [(.long i4), (.long i3), (.long i2), (.long i1), (.int (2 : Int32)), (.ref b_87)])) rfl (by rw [hml]; rfl) (argsL := [(.ref b_87), (.int (2 : Int32)), (.long i1), (.long i2), (.long i3), (.long i4)]) (rest := []) (lenOf pd_4 rfl) rfl (by show 2 * 0 + _ ≤ _; exact Nat.le_of_eq rfl) (hb hby at_102) (fun _ _ => ⟨rfl, rfl, (by decide : 5 + 0 ≤ _), (by decide : 55 + 0 ≤ _)⟩)
    dsimp only [Pt.U, Pt.locs, Pt.cells, Pt.slots] at X93 l93 y93 z93 st93 hQ93
    subst l93 y93 z93
    obtain ⟨rfl, N93q, e93⟩ := hQ93
    have N93 := Fr.app N87 N93q
    replace G : Gets p e below _ (T93.setTop (mkF m 105 #[.val (.int i0), .val (.long i1), .second, .val (.long i2), .second, .val (.long i3), .second, .val (.long i4), .second, .val (.int (2 : Int32)), .val (.ref b74), .val (.ref b_87), .unset] [(.int (1 : Int32))])) := fun t k => G t (st93 t k)
    have hc105_94 : ¬ ((1 : Int32) = (0 : Int32)) := by decide
    replace G := own_ifYes (q := 110) G X93.here hx (hb hby at_105) ((if0 _ _).trans (feq hc105_94).2) (by decide) (by decide)
    replace G := own_iload (q := 112) G X93.here hx (hb hby at_110) rfl rfl
    have hc112_95 : (0 : Int32) < (2 : Int32) := by decide
    replace G := own_ifNo (q := 115) G X93.here hx (hb hby at_112) ((if0 _ _).trans (tlt hc112_95).2.2.2) rfl
    replace G := own_aload (q := 117) G X93.here hx (hb hby at_115) rfl rfl rfl
    replace G := own_iconst (q := 118) G X93.here hx (hb hby at_117) (v := (0 : Int32)) (by decide) rfl
    replace G := own_aload (q := 120) G X93.here hx (hb hby at_118) rfl rfl rfl
    replace G := own_iconst (q := 121) G X93.here hx (hb hby at_120) (v := (0 : Int32)) (by decide) rfl
    obtain ⟨c96, Ar96, -, S96, -, H96, -⟩ := id B87_1
    have hin96 : ¬ ((0 : Int32) < 0 ∨ c96.slots.size ≤ ((0 : Int32)).toNatClampNeg) := inb_of S96 ⟨by decide, by decide⟩
    replace G : Gets p e below _ (T93.setTop (mkF m 122 #[.val (.int i0), .val (.long i1), .second, .val (.long i2), .second, .val (.long i3), .second, .val (.long i4), .second, .val (.int (2 : Int32)), .val (.ref b74), .val (.ref b_87), .unset] [(.long i1), (.int (0 : Int32)), (.ref b_87)])) := fun t k => G t (X93.laload hx (j := (0 : Int32)) (v := (.long i1)) (by rw [e93]; exact Ar96.1) (State.isArrayOf_alike hZ.alike Ar96.2.1) Ar96.2.2 hin96 (Has.at H96 hin96 rfl) (g := (mkF m 121 #[.val (.int i0), .val (.long i1), .second, .val (.long i2), .second, .val (.long i3), .second, .val (.long i4), .second, .val (.int (2 : Int32)), .val (.ref b74), .val (.ref b_87), .unset] [(.int (0 : Int32)), (.ref b_87), (.int (0 : Int32)), (.ref b_87)])) rfl rfl (hb hby at_121) t k)
    replace G : Gets p e below _ (T93.setTop (mkF m 125 #[.val (.int i0), .val (.long i1), .second, .val (.long i2), .second, .val (.long i3), .second, .val (.long i4), .second, .val (.int (2 : Int32)), .val (.ref b74), .val (.ref b_87), .unset] [(.long (-1 : Int64)), (.long i1), (.int (0 : Int32)), (.ref b_87)])) := fun t k => G t (X93.ldc2Long hx hown (mvT hZ (hw _ (List.mem_of_getElem? (i := 49) rfl))) (g := (mkF m 122 #[.val (.int i0), .val (.long i1), .second, .val (.long i2), .second, .val (.long i3), .second, .val (.long i4), .second, .val (.int (2 : Int32)), .val (.ref b74), .val (.ref b_87), .unset] [(.long i1), (.int (0 : Int32)), (.ref b_87)])) rfl (hb hby at_122) t k)
    replace G := own_lxor (q := 126) G X93.here hx (hb hby at_125) rfl rfl
    obtain ⟨c97, Ar97, q97, S97, N97', H97, G97'⟩ := id B87_1
    have hin97 : ¬ ((0 : Int32) < 0 ∨ c97.slots.size ≤ ((0 : Int32)).toNatClampNeg) := inb_of S97 ⟨by decide, by decide⟩
    obtain ⟨T97, h97, X97, e97, W97, st97⟩ := stJ X93 hx hZ e93 Ar97 (j := (0 : Int32)) hin97 (g := (mkF m 126 #[.val (.int i0), .val (.long i1), .second, .val (.long i2), .second, .val (.long i3), .second, .val (.long i4), .second, .val (.int (2 : Int32)), .val (.ref b74), .val (.ref b_87), .unset] [(.long (i1 ^^^ (-1 : Int64))), (.int (0 : Int32)), (.ref b_87)])) rfl rfl (hb hby at_126)
    have N97 := Fr.snoc X97 N93 ge_b_87
    have Z97 : n0 ≤ h97.size := Nat.le_trans Z87 (Keep.of_wr W97).1
    have V97 : Arv Z h97 b_87 kb_87 .long (2 : Int32) [(.long (i1 ^^^ (-1 : Int64))), (.long i2)] (.long (0 : Int64)) := Arv.set Ar97 q97 S97 N97' H97 G97' rfl W97 0 rfl (Nat.le_of_ble_eq_true rfl)
    replace G : Gets p e below _ (T97.setTop (mkF m 127 #[.val (.int i0), .val (.long i1), .second, .val (.long i2), .second, .val (.long i3), .second, .val (.long i4), .second, .val (.int (2 : Int32)), .val (.ref b74), .val (.ref b_87), .unset] [])) := fun t k => G t (st97 t k)
    replace G := own_iload (q := 129) G X97.here hx (hb hby at_127) rfl rfl
    replace G := own_iconst (q := 130) G X97.here hx (hb hby at_129) (v := (1 : Int32)) (by decide) rfl
    have hc130_98 : (1 : Int32) < (2 : Int32) := by decide
    replace G := own_icmpNo (q := 133) G X97.here hx (hb hby at_130) (tlt hc130_98).2.2.2 rfl
    replace G := own_aload (q := 135) G X97.here hx (hb hby at_133) rfl rfl rfl
    replace G := own_iconst (q := 136) G X97.here hx (hb hby at_135) (v := (1 : Int32)) (by decide) rfl
    replace G := own_aload (q := 138) G X97.here hx (hb hby at_136) rfl rfl rfl
    replace G := own_iconst (q := 139) G X97.here hx (hb hby at_138) (v := (1 : Int32)) (by decide) rfl
    obtain ⟨c99, Ar99, -, S99, -, H99, -⟩ := id V97
    have hin99 : ¬ ((1 : Int32) < 0 ∨ c99.slots.size ≤ ((1 : Int32)).toNatClampNeg) := inb_of S99 ⟨by decide, by decide⟩
    replace G : Gets p e below _ (T97.setTop (mkF m 140 #[.val (.int i0), .val (.long i1), .second, .val (.long i2), .second, .val (.long i3), .second, .val (.long i4), .second, .val (.int (2 : Int32)), .val (.ref b74), .val (.ref b_87), .unset] [(.long i2), (.int (1 : Int32)), (.ref b_87)])) := fun t k => G t (X97.laload hx (j := (1 : Int32)) (v := (.long i2)) (by rw [e97]; exact Ar99.1) (State.isArrayOf_alike hZ.alike Ar99.2.1) Ar99.2.2 hin99 (Has.at H99 hin99 rfl) (g := (mkF m 139 #[.val (.int i0), .val (.long i1), .second, .val (.long i2), .second, .val (.long i3), .second, .val (.long i4), .second, .val (.int (2 : Int32)), .val (.ref b74), .val (.ref b_87), .unset] [(.int (1 : Int32)), (.ref b_87), (.int (1 : Int32)), (.ref b_87)])) rfl rfl (hb hby at_139) t k)
    replace G : Gets p e below _ (T97.setTop (mkF m 143 #[.val (.int i0), .val (.long i1), .second, .val (.long i2), .second, .val (.long i3), .second, .val (.long i4), .second, .val (.int (2 : Int32)), .val (.ref b74), .val (.ref b_87), .unset] [(.long (-1 : Int64)), (.long i2), (.int (1 : Int32)), (.ref b_87)])) := fun t k => G t (X97.ldc2Long hx hown (mvT hZ (hw _ (List.mem_of_getElem? (i := 49) rfl))) (g := (mkF m 140 #[.val (.int i0), .val (.long i1), .second, .val (.long i2), .second, .val (.long i3), .second, .val (.long i4), .second, .val (.int (2 : Int32)), .val (.ref b74), .val (.ref b_87), .unset] [(.long i2), (.int (1 : Int32)), (.ref b_87)])) rfl (hb hby at_140) t k)
    replace G := own_lxor (q := 144) G X97.here hx (hb hby at_143) rfl rfl
    obtain ⟨c100, Ar100, q100, S100, N100', H100, G100'⟩ := id V97
    have hin100 : ¬ ((1 : Int32) < 0 ∨ c100.slots.size ≤ ((1 : Int32)).toNatClampNeg) := inb_of S100 ⟨by decide, by decide⟩
    obtain ⟨T100, h100, X100, e100, W100, st100⟩ := stJ X97 hx hZ e97 Ar100 (j := (1 : Int32)) hin100 (g := (mkF m 144 #[.val (.int i0), .val (.long i1), .second, .val (.long i2), .second, .val (.long i3), .second, .val (.long i4), .second, .val (.int (2 : Int32)), .val (.ref b74), .val (.ref b_87), .unset] [(.long (i2 ^^^ (-1 : Int64))), (.int (1 : Int32)), (.ref b_87)])) rfl rfl (hb hby at_144)
    have N100 := Fr.snoc X100 N97 ge_b_87
    have Z100 : n0 ≤ h100.size := Nat.le_trans Z97 (Keep.of_wr W100).1
    have V100 : Arv Z h100 b_87 kb_87 .long (2 : Int32) [(.long (i1 ^^^ (-1 : Int64))), (.long (i2 ^^^ (-1 : Int64)))] (.long (0 : Int64)) := Arv.set Ar100 q100 S100 N100' H100 G100' rfl W100 1 rfl (Nat.le_of_ble_eq_true rfl)
    replace G : Gets p e below _ (T100.setTop (mkF m 145 #[.val (.int i0), .val (.long i1), .second, .val (.long i2), .second, .val (.long i3), .second, .val (.long i4), .second, .val (.int (2 : Int32)), .val (.ref b74), .val (.ref b_87), .unset] [])) := fun t k => G t (st100 t k)
    replace G := own_iload (q := 147) G X100.here hx (hb hby at_145) rfl rfl
    replace G := own_iconst (q := 148) G X100.here hx (hb hby at_147) (v := (2 : Int32)) (by decide) rfl
    have hc148_101 : ¬ ((2 : Int32) < (2 : Int32)) := by decide
    replace G := own_icmpYes (q := 163) G X100.here hx (hb hby at_148) (flt hc148_101).2.2.2 (by decide) (by decide)
    replace G := own_iload (q := 165) G X100.here hx (hb hby at_163) rfl rfl
    replace G := own_iconst (q := 166) G X100.here hx (hb hby at_165) (v := (3 : Int32)) (by decide) rfl
    have hc166_102 : ¬ ((3 : Int32) < (2 : Int32)) := by decide
    replace G := own_icmpYes (q := 181) G X100.here hx (hb hby at_166) (flt hc166_102).2.2.2 (by decide) (by decide)
    replace G := own_aload (q := 183) G X100.here hx (hb hby at_181) rfl rfl rfl
    have F104 : Exa Z h100 b74 "com/example/crossbill/crossbill/csv/RecordSpans" := (((F88.keep K87q).wr W97).wr W100)
    have F105 : Fld Z h100 b74 "com/example/crossbill/crossbill/csv/RecordSpans" "size" "I" (.int (2 : Int32)) := (((B83_0.keep K87q nin0).other W97 (Or.inl ne92)).other W100 (Or.inl ne92))
    have F106 : Fld Z h100 b74 "com/example/crossbill/crossbill/csv/RecordSpans" "lines" "[J" (.ref b3_75) := (((B83_3.keep K87q nin0).other W97 (Or.inl ne92)).other W100 (Or.inl ne92))
    have F107 : Arv Z h100 b3_75 k3_75 .long (16 : Int32) [(.long i1), (.long i2), (.long (0 : Int64)), (.long (0 : Int64)), (.long (0 : Int64)), (.long (0 : Int64)), (.long (0 : Int64)), (.long (0 : Int64)), (.long (0 : Int64)), (.long (0 : Int64)), (.long (0 : Int64)), (.long (0 : Int64)), (.long (0 : Int64)), (.long (0 : Int64)), (.long (0 : Int64)), (.long (0 : Int64))] (.long (0 : Int64)) := (((B83_7.keep K87q nin0).other W97 ne89).other W100 ne89)
    obtain ⟨cq103, kq103, q103a, q103b, q103c⟩ := isOf hZ e100 F104
    obtain ⟨_, _, ⟨T103, L103, kk103, nn103⟩, -, X103, ⟨Lc103, hQ103, l103, y103, z103⟩, st103⟩ := X100.virtualBack hx (y := (⟨"com/example/crossbill/crossbill/csv/RecordSpans", "lines", "()[J"⟩ : MethodName)) (z := (⟨"com/example/crossbill/crossbill/csv/RecordSpans", "lines", "()[J"⟩ : MethodName)) hown (mvT hZ (hw _ (List.mem_of_getElem? (i := 19) rfl))) (mvT hZ (hw _ (List.mem_of_getElem? (i := 20) rfl))) (notFace_of_selects (args := #[]) (mvT hZ (hw _ (List.mem_of_getElem? (i := 22) rfl)))) (mvT hZ (hw _ (List.mem_of_getElem? (i := 22) rfl))) (mvT hZ (hw _ (List.mem_of_getElem? (i := 21) rfl))) (by decide) (backOf (W := 0) (rm3k2 l Z a0 hw [] b74 b3_75 k3_75 i1 i2 h100 n0 Z100 F105 F106 F107) hZ (hw _ (List.mem_of_getElem? (i := 23) rfl)) (hw _ (List.mem_of_getElem? (i := 3) rfl)) (by decide) (by decide)) q103a q103c (g := (mkF m 183 #[.val (.int i0), .val (.long i1), .second, .val (.long i2), .second, .val (.long i3), .second, .val (.long i4), .second, .val (.int (2 : Int32)), .val (.ref b74), .val (.ref b_87), .unset] [(.ref b74)])) rfl (by rw [hml]; rfl) (Steps.refl _) (argsL := []) (rest := []) (lenOf pd_3 rfl) rfl (by show 2 * 0 + _ ≤ _; exact Nat.le_of_eq rfl) (hb hby at_183) (fun _ _ => ⟨rfl, e100, (by decide : 5 + 1 ≤ _), (by decide : 55 + 2 ≤ _)⟩)
    dsimp only [Pt.U, Pt.locs, Pt.cells, Pt.slots] at X103 l103 y103 z103 st103 hQ103
    subst l103 y103 z103
    obtain ⟨b_103, kb_103, rfl, N103q, K103q, B103_0, B103_1⟩ := hQ103
    have ne108 : b_87 ≠ b_103 := Nat.ne_of_lt (Nat.lt_of_lt_of_le V100.lt B103_0)
    have ne109 : b3_75 ≠ b_103 := Nat.ne_of_lt (Nat.lt_of_lt_of_le F107.lt B103_0)
    have F110 : Arv Z h100 b2_75 k2_75 .long (16 : Int32) [(.long (1 : Int64)), (.long (2 : Int64)), (.long (0 : Int64)), (.long (0 : Int64)), (.long (0 : Int64)), (.long (0 : Int64)), (.long (0 : Int64)), (.long (0 : Int64)), (.long (0 : Int64)), (.long (0 : Int64)), (.long (0 : Int64)), (.long (0 : Int64)), (.long (0 : Int64)), (.long (0 : Int64)), (.long (0 : Int64)), (.long (0 : Int64))] (.long (0 : Int64)) := (((B83_6.keep K87q nin0).other W97 ne90).other W100 ne90)
    have ne111 : b2_75 ≠ b_103 := Nat.ne_of_lt (Nat.lt_of_lt_of_le F110.lt B103_0)
    have F112 : Arv Z h100 b1_75 k1_75 .long (16 : Int32) [(.long (0 : Int64)), (.long (1 : Int64)), (.long (0 : Int64)), (.long (0 : Int64)), (.long (0 : Int64)), (.long (0 : Int64)), (.long (0 : Int64)), (.long (0 : Int64)), (.long (0 : Int64)), (.long (0 : Int64)), (.long (0 : Int64)), (.long (0 : Int64)), (.long (0 : Int64)), (.long (0 : Int64)), (.long (0 : Int64)), (.long (0 : Int64))] (.long (0 : Int64)) := (((B83_5.keep K87q nin0).other W97 ne91).other W100 ne91)
    have ne113 : b1_75 ≠ b_103 := Nat.ne_of_lt (Nat.lt_of_lt_of_le F112.lt B103_0)
    have F114 : Fld Z h100 b74 "com/example/crossbill/crossbill/csv/RecordSpans" "headerEnd" "J" (.long (0 : Int64)) := (((B83_4.keep K87q nin0).other W97 (Or.inl ne92)).other W100 (Or.inl ne92))
    have ne115 : b74 ≠ b_103 := Nat.ne_of_lt (Nat.lt_of_lt_of_le F114.lt B103_0)
    have ge_b_103 : n0 ≤ b_103 := Nat.le_trans Z100 B103_0
    have Z103 : n0 ≤ T103.heap.size := Nat.le_trans Z100 K103q.1
    have N103 := Fr.app N100 N103q
    replace G : Gets p e below _ (T103.setTop (mkF m 186 #[.val (.int i0), .val (.long i1), .second, .val (.long i2), .second, .val (.long i3), .second, .val (.long i4), .second, .val (.int (2 : Int32)), .val (.ref b74), .val (.ref b_87), .unset] [(.ref b_103)])) := fun t k => G t (st103.trans k)
    replace G := own_astore (q := 188) (l' := #[.val (.int i0), .val (.long i1), .second, .val (.long i2), .second, .val (.long i3), .second, .val (.long i4), .second, .val (.int (2 : Int32)), .val (.ref b74), .val (.ref b_87), .val (.ref b_103)]) G X103.here hx (hb hby at_186) rfl rfl rfl
    replace G := own_aload (q := 190) G X103.here hx (hb hby at_188) rfl rfl rfl
    replace G := own_iload (q := 192) G X103.here hx (hb hby at_190) rfl rfl
    replace G := own_lloadN (q := 193) G X103.here hx (hb hby at_192) rfl rfl
    replace G := own_lloadN (q := 194) G X103.here hx (hb hby at_193) rfl rfl
    replace G := own_lload (q := 196) G X103.here hx (hb hby at_194) rfl rfl
    replace G := own_lload (q := 198) G X103.here hx (hb hby at_196) rfl rfl
    obtain ⟨_, _, ⟨T116, L116, kk116, nn116⟩, -, X116, ⟨Lc116, hQ116, l116, y116, z116⟩, st116⟩ := Jvm.LawKit.callS X103 hx (y := (⟨"com/example/crossbill/crossbill/csv/RecordSpansLinesPinLaw", "same", "([JIJJJJ)Z"⟩ : MethodName)) hown (mvT hZ (hw _ (List.mem_of_getElem? (i := 38) rfl))) (mvT hZ (hw _ (List.mem_of_getElem? (i := 39) rfl))) (mvT hZ (hw _ (List.mem_of_getElem? (i := 40) rfl))) (mvT hZ (hw _ (List.mem_of_getElem? (i := 41) rfl))) (by decide) (backOf (W := 0) (rm6k2 l Z a0 hw [] b_103 i1 i2 i3 i4 kb_103 T103.heap n0 Z103 B103_1) hZ (hw _ (List.mem_of_getElem? (i := 41) rfl)) (hw _ (List.mem_of_getElem? (i := 40) rfl)) (by decide) (by decide)) (g := (mkF m 198 #[.val (.int i0), .val (.long i1), .second, .val (.long i2), .second, .val (.long i3), .second, .val (.long i4), .second, .val (.int (2 : Int32)), .val (.ref b74), .val (.ref b_87), .val (.ref b_103)] [(.long i4), (.long i3), (.long i2), (.long i1), (.int (2 : Int32)), (.ref b_103)])) rfl (by rw [hml]; rfl) (argsL := [(.ref b_103), (.int (2 : Int32)), (.long i1), (.long i2), (.long i3), (.long i4)]) (rest := []) (lenOf pd_4 rfl) rfl (by show 2 * 0 + _ ≤ _; exact Nat.le_of_eq rfl) (hb hby at_198) (fun _ _ => ⟨rfl, rfl, (by decide : 6 + 0 ≤ _), (by decide : 57 + 0 ≤ _)⟩)
    dsimp only [Pt.U, Pt.locs, Pt.cells, Pt.slots] at X116 l116 y116 z116 st116 hQ116
    subst l116 y116 z116
    obtain ⟨rfl, N116q, e116⟩ := hQ116
    have N116 := Fr.app N103 N116q
    replace G : Gets p e below _ (T116.setTop (mkF m 201 #[.val (.int i0), .val (.long i1), .second, .val (.long i2), .second, .val (.long i3), .second, .val (.long i4), .second, .val (.int (2 : Int32)), .val (.ref b74), .val (.ref b_87), .val (.ref b_103)] [(.int (1 : Int32))])) := fun t k => G t (st116 t k)
    obtain ⟨fs, hr, hrun, hended, hW, hsame⟩ := X116.leave (v := some (.int (1 : Int32))) (fun h => by rw [Bd.returns] at h; cases h)
    refine ⟨_, _, G _ (retOut X116 hx Bd.returns rfl (Or.inl ⟨rfl, Or.inr (Or.inl rfl), _, rfl⟩) (hb hby at_201) hr), hrun, hended, _, _, rfl, ?_, ⟨_, rfl⟩, hW, hsame.mono (by decide) (by decide)⟩
    show Q0 Z i0 i1 i2 i3 i4 h0 n0 _ T116.heap _
    rw [e116]
    exact ⟨rfl, N116⟩
  · replace G := own_istore (q := 8) (l' := #[.val (.int i0), .val (.long i1), .second, .val (.long i2), .second, .val (.long i3), .second, .val (.long i4), .second, .val (.int (3 : Int32)), .unset, .unset, .unset]) G X0.here hx (hb hby at_6) rfl rfl
    obtain ⟨T117, h117, X117, e117, E117, A117, D117, -, st117⟩ := newO X0 hx hZ hown (hw _ (List.mem_of_getElem? (i := 1) rfl)) (hw _ (List.mem_of_getElem? (i := 2) rfl)) (hw _ (List.mem_of_getElem? (i := 3) rfl)) e0 (g := (mkF m 8 #[.val (.int i0), .val (.long i1), .second, .val (.long i2), .second, .val (.long i3), .second, .val (.long i4), .second, .val (.int (3 : Int32)), .unset, .unset, .unset] [])) rfl (hb hby at_8) (by decide) (by decide)
    obtain ⟨b117, g117⟩ : ∃ z, z = h0.size := ⟨_, rfl⟩
    rw [← g117] at A117 D117 st117
    have ge_b117 : n0 ≤ b117 := Nat.le_trans Z0 (Nat.le_of_eq g117.symm)
    have Z117 : n0 ≤ h117.size := Nat.le_trans Z0 E117.1
    have F117_starts : Fld Z h117 b117 "com/example/crossbill/crossbill/csv/RecordSpans" "starts" "[J" .null := D117 (Or.inl (hw _ (List.mem_of_getElem? (i := 12) rfl))) (ty := (.array .long)) (by decide)
    have F117_ends : Fld Z h117 b117 "com/example/crossbill/crossbill/csv/RecordSpans" "ends" "[J" .null := D117 (Or.inl (hw _ (List.mem_of_getElem? (i := 14) rfl))) (ty := (.array .long)) (by decide)
    have F117_lines : Fld Z h117 b117 "com/example/crossbill/crossbill/csv/RecordSpans" "lines" "[J" .null := D117 (Or.inl (hw _ (List.mem_of_getElem? (i := 16) rfl))) (ty := (.array .long)) (by decide)
    have F117_headerEnd : Fld Z h117 b117 "com/example/crossbill/crossbill/csv/RecordSpans" "headerEnd" "J" (.long (0 : Int64)) := D117 (Or.inr (hw _ (List.mem_of_getElem? (i := 18) rfl))) (ty := .long) (by decide)
    have F117_size : Fld Z h117 b117 "com/example/crossbill/crossbill/csv/RecordSpans" "size" "I" (.int (0 : Int32)) := D117 (Or.inl (hw _ (List.mem_of_getElem? (i := 25) rfl))) (ty := .int) (by decide)
    replace G : Gets p e below _ (T117.setTop (mkF m 11 #[.val (.int i0), .val (.long i1), .second, .val (.long i2), .second, .val (.long i3), .second, .val (.long i4), .second, .val (.int (3 : Int32)), .unset, .unset, .unset] [(.ref b117)])) := fun t k => G t (st117 t k)
    replace G := own_dup (q := 12) G X117.here hx (hb hby at_11) rfl rfl
    replace G := own_lconst (q := 13) G X117.here hx (hb hby at_12) (v := (0 : Int64)) (by decide) rfl
    obtain ⟨_, _, ⟨T118, L118, kk118, nn118⟩, -, X118, ⟨Lc118, hQ118, l118, y118, z118⟩, st118⟩ := X117.specialBack hx (y := (⟨"com/example/crossbill/crossbill/csv/RecordSpans", "<init>", "(J)V"⟩ : MethodName)) rfl hown (mvT hZ (hw _ (List.mem_of_getElem? (i := 4) rfl))) (mvT hZ (hw _ (List.mem_of_getElem? (i := 5) rfl))) (mvT hZ (hw _ (List.mem_of_getElem? (i := 6) rfl))) (by decide) (backOf (W := 1) (rm1 l Z a0 hw [] b117 (0 : Int64) h117 n0 Z117 F117_starts F117_ends F117_lines F117_headerEnd F117_size A117 ge_b117) hZ (hw _ (List.mem_of_getElem? (i := 6) rfl)) (hw _ (List.mem_of_getElem? (i := 3) rfl)) (by decide) (by decide)) (g := (mkF m 13 #[.val (.int i0), .val (.long i1), .second, .val (.long i2), .second, .val (.long i3), .second, .val (.long i4), .second, .val (.int (3 : Int32)), .unset, .unset, .unset] [(.long (0 : Int64)), (.ref b117), (.ref b117)])) rfl (by rw [hml]; rfl) (Steps.refl _) (a := b117) (argsL := [(.long (0 : Int64))]) (rest := [(.ref b117)]) (lenOf pd_2 rfl) rfl (by show 2 * 0 + _ ≤ _; exact Nat.le_of_eq rfl) (hb hby at_13) (fun _ _ => ⟨rfl, e117, (by decide : 1 + 3 ≤ _), (by decide : 5 + 48 ≤ _)⟩)
    dsimp only [Pt.U, Pt.locs, Pt.cells, Pt.slots] at X118 l118 y118 z118 st118 hQ118
    subst l118 y118 z118
    obtain ⟨b1_118, b2_118, b3_118, k1_118, k2_118, k3_118, rfl, N118q, K118q, B118_0, B118_1, B118_2, B118_3, B118_4, B118_5, B118_6, B118_7, B118_8, B118_9, B118_10, B118_11, B118_12, B118_13⟩ := hQ118
    have ne119 : b117 ≠ b1_118 := Nat.ne_of_lt (Nat.lt_of_lt_of_le F117_size.lt B118_8)
    have ge_b1_118 : n0 ≤ b1_118 := Nat.le_trans Z117 B118_8
    have ne120 : b117 ≠ b2_118 := Nat.ne_of_lt (Nat.lt_of_lt_of_le F117_size.lt B118_9)
    have ge_b2_118 : n0 ≤ b2_118 := Nat.le_trans Z117 B118_9
    have ne121 : b117 ≠ b3_118 := Nat.ne_of_lt (Nat.lt_of_lt_of_le F117_size.lt B118_10)
    have ge_b3_118 : n0 ≤ b3_118 := Nat.le_trans Z117 B118_10
    have Z118 : n0 ≤ T118.heap.size := Nat.le_trans Z117 K118q.1
    have N118 := Fr.app N0 N118q
    replace G : Gets p e below _ (T118.setTop (mkF m 16 #[.val (.int i0), .val (.long i1), .second, .val (.long i2), .second, .val (.long i3), .second, .val (.long i4), .second, .val (.int (3 : Int32)), .unset, .unset, .unset] [(.ref b117)])) := fun t k => G t (st118.trans k)
    replace G := own_astore (q := 18) (l' := #[.val (.int i0), .val (.long i1), .second, .val (.long i2), .second, .val (.long i3), .second, .val (.long i4), .second, .val (.int (3 : Int32)), .val (.ref b117), .unset, .unset]) G X118.here hx (hb hby at_16) rfl rfl rfl
    replace G := own_iload (q := 20) G X118.here hx (hb hby at_18) rfl rfl
    have hc20_122 : (0 : Int32) < (3 : Int32) := by decide
    replace G := own_ifNo (q := 23) G X118.here hx (hb hby at_20) ((if0 _ _).trans (tlt hc20_122).2.2.2) rfl
    replace G := own_aload (q := 25) G X118.here hx (hb hby at_23) rfl rfl rfl
    replace G := own_lconst (q := 26) G X118.here hx (hb hby at_25) (v := (0 : Int64)) (by decide) rfl
    replace G := own_lconst (q := 27) G X118.here hx (hb hby at_26) (v := (1 : Int64)) (by decide) rfl
    replace G := own_lloadN (q := 28) G X118.here hx (hb hby at_27) rfl rfl
    have F124 : Exa Z T118.heap b117 "com/example/crossbill/crossbill/csv/RecordSpans" := (A117.keep K118q)
    obtain ⟨cq123, kq123, q123a, q123b, q123c⟩ := isOf hZ rfl F124
    obtain ⟨_, _, ⟨T123, L123, kk123, nn123⟩, -, X123, ⟨Lc123, hQ123, l123, y123, z123⟩, st123⟩ := X118.virtualBack hx (y := (⟨"com/example/crossbill/crossbill/csv/RecordSpans", "add", "(JJJ)V"⟩ : MethodName)) (z := (⟨"com/example/crossbill/crossbill/csv/RecordSpans", "add", "(JJJ)V"⟩ : MethodName)) hown (mvT hZ (hw _ (List.mem_of_getElem? (i := 42) rfl))) (mvT hZ (hw _ (List.mem_of_getElem? (i := 43) rfl))) (notFace_of_selects (args := #[]) (mvT hZ (hw _ (List.mem_of_getElem? (i := 45) rfl)))) (mvT hZ (hw _ (List.mem_of_getElem? (i := 45) rfl))) (mvT hZ (hw _ (List.mem_of_getElem? (i := 44) rfl))) (by decide) (backOf (W := 0) (rm7s0 l Z a0 hw [] b117 i1 b1_118 b2_118 b3_118 k1_118 k2_118 k3_118 T118.heap n0 Z118 B118_4 B118_0 B118_1 B118_2 B118_3 F124 B118_5 B118_6 B118_7 ge_b117 ge_b1_118 ge_b2_118 ge_b3_118 ne119 ne120 ne121 B118_11 B118_12 B118_13) hZ (hw _ (List.mem_of_getElem? (i := 46) rfl)) (hw _ (List.mem_of_getElem? (i := 3) rfl)) (by decide) (by decide)) q123a q123c (g := (mkF m 28 #[.val (.int i0), .val (.long i1), .second, .val (.long i2), .second, .val (.long i3), .second, .val (.long i4), .second, .val (.int (3 : Int32)), .val (.ref b117), .unset, .unset] [(.long i1), (.long (1 : Int64)), (.long (0 : Int64)), (.ref b117)])) rfl (by rw [hml]; rfl) (Steps.refl _) (argsL := [(.long (0 : Int64)), (.long (1 : Int64)), (.long i1)]) (rest := []) (lenOf pd_5 rfl) rfl (by show 2 * 0 + _ ≤ _; exact Nat.le_of_eq rfl) (hb hby at_28) (fun _ _ => ⟨rfl, rfl, (by decide : 4 + 0 ≤ _), (by decide : 53 + 0 ≤ _)⟩)
    dsimp only [Pt.U, Pt.locs, Pt.cells, Pt.slots] at X123 l123 y123 z123 st123 hQ123
    subst l123 y123 z123
    obtain ⟨rfl, N123q, K123q, B123_0, B123_1, B123_2, B123_3, B123_4, B123_5, B123_6, B123_7⟩ := hQ123
    have Z123 : n0 ≤ T123.heap.size := Nat.le_trans Z118 K123q.1
    have N123 := Fr.app N118 N123q
    replace G : Gets p e below _ (T123.setTop (mkF m 31 #[.val (.int i0), .val (.long i1), .second, .val (.long i2), .second, .val (.long i3), .second, .val (.long i4), .second, .val (.int (3 : Int32)), .val (.ref b117), .unset, .unset] [])) := fun t k => G t (st123.trans k)
    replace G := own_iload (q := 33) G X123.here hx (hb hby at_31) rfl rfl
    replace G := own_iconst (q := 34) G X123.here hx (hb hby at_33) (v := (1 : Int32)) (by decide) rfl
    have hc34_125 : (1 : Int32) < (3 : Int32) := by decide
    replace G := own_icmpNo (q := 37) G X123.here hx (hb hby at_34) (tlt hc34_125).2.2.2 rfl
    replace G := own_aload (q := 39) G X123.here hx (hb hby at_37) rfl rfl rfl
    replace G := own_lconst (q := 40) G X123.here hx (hb hby at_39) (v := (1 : Int64)) (by decide) rfl
    replace G : Gets p e below _ (T123.setTop (mkF m 43 #[.val (.int i0), .val (.long i1), .second, .val (.long i2), .second, .val (.long i3), .second, .val (.long i4), .second, .val (.int (3 : Int32)), .val (.ref b117), .unset, .unset] [(.long (2 : Int64)), (.long (1 : Int64)), (.ref b117)])) := fun t k => G t (X123.ldc2Long hx hown (mvT hZ (hw _ (List.mem_of_getElem? (i := 47) rfl))) (g := (mkF m 40 #[.val (.int i0), .val (.long i1), .second, .val (.long i2), .second, .val (.long i3), .second, .val (.long i4), .second, .val (.int (3 : Int32)), .val (.ref b117), .unset, .unset] [(.long (1 : Int64)), (.ref b117)])) rfl (hb hby at_40) t k)
    replace G := own_lloadN (q := 44) G X123.here hx (hb hby at_43) rfl rfl
    have F127 : Exa Z T123.heap b117 "com/example/crossbill/crossbill/csv/RecordSpans" := (F124.keep K123q)
    obtain ⟨cq126, kq126, q126a, q126b, q126c⟩ := isOf hZ rfl F127
    obtain ⟨_, _, ⟨T126, L126, kk126, nn126⟩, -, X126, ⟨Lc126, hQ126, l126, y126, z126⟩, st126⟩ := X123.virtualBack hx (y := (⟨"com/example/crossbill/crossbill/csv/RecordSpans", "add", "(JJJ)V"⟩ : MethodName)) (z := (⟨"com/example/crossbill/crossbill/csv/RecordSpans", "add", "(JJJ)V"⟩ : MethodName)) hown (mvT hZ (hw _ (List.mem_of_getElem? (i := 42) rfl))) (mvT hZ (hw _ (List.mem_of_getElem? (i := 43) rfl))) (notFace_of_selects (args := #[]) (mvT hZ (hw _ (List.mem_of_getElem? (i := 45) rfl)))) (mvT hZ (hw _ (List.mem_of_getElem? (i := 45) rfl))) (mvT hZ (hw _ (List.mem_of_getElem? (i := 44) rfl))) (by decide) (backOf (W := 0) (rm7s1 l Z a0 hw [] b117 i2 b1_118 b2_118 b3_118 k1_118 k2_118 k3_118 i1 T123.heap n0 Z123 B123_0 B123_1 B123_2 B123_3 B123_4 F127 B123_5 B123_6 B123_7 ge_b117 ge_b1_118 ge_b2_118 ge_b3_118 ne119 ne120 ne121 B118_11 B118_12 B118_13) hZ (hw _ (List.mem_of_getElem? (i := 46) rfl)) (hw _ (List.mem_of_getElem? (i := 3) rfl)) (by decide) (by decide)) q126a q126c (g := (mkF m 44 #[.val (.int i0), .val (.long i1), .second, .val (.long i2), .second, .val (.long i3), .second, .val (.long i4), .second, .val (.int (3 : Int32)), .val (.ref b117), .unset, .unset] [(.long i2), (.long (2 : Int64)), (.long (1 : Int64)), (.ref b117)])) rfl (by rw [hml]; rfl) (Steps.refl _) (argsL := [(.long (1 : Int64)), (.long (2 : Int64)), (.long i2)]) (rest := []) (lenOf pd_5 rfl) rfl (by show 2 * 0 + _ ≤ _; exact Nat.le_of_eq rfl) (hb hby at_44) (fun _ _ => ⟨rfl, rfl, (by decide : 4 + 0 ≤ _), (by decide : 53 + 0 ≤ _)⟩)
    dsimp only [Pt.U, Pt.locs, Pt.cells, Pt.slots] at X126 l126 y126 z126 st126 hQ126
    subst l126 y126 z126
    obtain ⟨rfl, N126q, K126q, B126_0, B126_1, B126_2, B126_3, B126_4, B126_5, B126_6, B126_7⟩ := hQ126
    have Z126 : n0 ≤ T126.heap.size := Nat.le_trans Z123 K126q.1
    have N126 := Fr.app N123 N126q
    replace G : Gets p e below _ (T126.setTop (mkF m 47 #[.val (.int i0), .val (.long i1), .second, .val (.long i2), .second, .val (.long i3), .second, .val (.long i4), .second, .val (.int (3 : Int32)), .val (.ref b117), .unset, .unset] [])) := fun t k => G t (st126.trans k)
    replace G := own_iload (q := 49) G X126.here hx (hb hby at_47) rfl rfl
    replace G := own_iconst (q := 50) G X126.here hx (hb hby at_49) (v := (2 : Int32)) (by decide) rfl
    have hc50_128 : (2 : Int32) < (3 : Int32) := by decide
    replace G := own_icmpNo (q := 53) G X126.here hx (hb hby at_50) (tlt hc50_128).2.2.2 rfl
    replace G := own_aload (q := 55) G X126.here hx (hb hby at_53) rfl rfl rfl
    replace G : Gets p e below _ (T126.setTop (mkF m 58 #[.val (.int i0), .val (.long i1), .second, .val (.long i2), .second, .val (.long i3), .second, .val (.long i4), .second, .val (.int (3 : Int32)), .val (.ref b117), .unset, .unset] [(.long (2 : Int64)), (.ref b117)])) := fun t k => G t (X126.ldc2Long hx hown (mvT hZ (hw _ (List.mem_of_getElem? (i := 47) rfl))) (g := (mkF m 55 #[.val (.int i0), .val (.long i1), .second, .val (.long i2), .second, .val (.long i3), .second, .val (.long i4), .second, .val (.int (3 : Int32)), .val (.ref b117), .unset, .unset] [(.ref b117)])) rfl (hb hby at_55) t k)
    replace G : Gets p e below _ (T126.setTop (mkF m 61 #[.val (.int i0), .val (.long i1), .second, .val (.long i2), .second, .val (.long i3), .second, .val (.long i4), .second, .val (.int (3 : Int32)), .val (.ref b117), .unset, .unset] [(.long (3 : Int64)), (.long (2 : Int64)), (.ref b117)])) := fun t k => G t (X126.ldc2Long hx hown (mvT hZ (hw _ (List.mem_of_getElem? (i := 48) rfl))) (g := (mkF m 58 #[.val (.int i0), .val (.long i1), .second, .val (.long i2), .second, .val (.long i3), .second, .val (.long i4), .second, .val (.int (3 : Int32)), .val (.ref b117), .unset, .unset] [(.long (2 : Int64)), (.ref b117)])) rfl (hb hby at_58) t k)
    replace G := own_lload (q := 63) G X126.here hx (hb hby at_61) rfl rfl
    have F130 : Exa Z T126.heap b117 "com/example/crossbill/crossbill/csv/RecordSpans" := (F127.keep K126q)
    obtain ⟨cq129, kq129, q129a, q129b, q129c⟩ := isOf hZ rfl F130
    obtain ⟨_, _, ⟨T129, L129, kk129, nn129⟩, -, X129, ⟨Lc129, hQ129, l129, y129, z129⟩, st129⟩ := X126.virtualBack hx (y := (⟨"com/example/crossbill/crossbill/csv/RecordSpans", "add", "(JJJ)V"⟩ : MethodName)) (z := (⟨"com/example/crossbill/crossbill/csv/RecordSpans", "add", "(JJJ)V"⟩ : MethodName)) hown (mvT hZ (hw _ (List.mem_of_getElem? (i := 42) rfl))) (mvT hZ (hw _ (List.mem_of_getElem? (i := 43) rfl))) (notFace_of_selects (args := #[]) (mvT hZ (hw _ (List.mem_of_getElem? (i := 45) rfl)))) (mvT hZ (hw _ (List.mem_of_getElem? (i := 45) rfl))) (mvT hZ (hw _ (List.mem_of_getElem? (i := 44) rfl))) (by decide) (backOf (W := 0) (rm7s2 l Z a0 hw [] b117 i3 b1_118 b2_118 b3_118 k1_118 k2_118 k3_118 i1 i2 T126.heap n0 Z126 B126_0 B126_1 B126_2 B126_3 B126_4 F130 B126_5 B126_6 B126_7 ge_b117 ge_b1_118 ge_b2_118 ge_b3_118 ne119 ne120 ne121 B118_11 B118_12 B118_13) hZ (hw _ (List.mem_of_getElem? (i := 46) rfl)) (hw _ (List.mem_of_getElem? (i := 3) rfl)) (by decide) (by decide)) q129a q129c (g := (mkF m 63 #[.val (.int i0), .val (.long i1), .second, .val (.long i2), .second, .val (.long i3), .second, .val (.long i4), .second, .val (.int (3 : Int32)), .val (.ref b117), .unset, .unset] [(.long i3), (.long (3 : Int64)), (.long (2 : Int64)), (.ref b117)])) rfl (by rw [hml]; rfl) (Steps.refl _) (argsL := [(.long (2 : Int64)), (.long (3 : Int64)), (.long i3)]) (rest := []) (lenOf pd_5 rfl) rfl (by show 2 * 0 + _ ≤ _; exact Nat.le_of_eq rfl) (hb hby at_63) (fun _ _ => ⟨rfl, rfl, (by decide : 4 + 0 ≤ _), (by decide : 53 + 0 ≤ _)⟩)
    dsimp only [Pt.U, Pt.locs, Pt.cells, Pt.slots] at X129 l129 y129 z129 st129 hQ129
    subst l129 y129 z129
    obtain ⟨rfl, N129q, K129q, B129_0, B129_1, B129_2, B129_3, B129_4, B129_5, B129_6, B129_7⟩ := hQ129
    have Z129 : n0 ≤ T129.heap.size := Nat.le_trans Z126 K129q.1
    have N129 := Fr.app N126 N129q
    replace G : Gets p e below _ (T129.setTop (mkF m 66 #[.val (.int i0), .val (.long i1), .second, .val (.long i2), .second, .val (.long i3), .second, .val (.long i4), .second, .val (.int (3 : Int32)), .val (.ref b117), .unset, .unset] [])) := fun t k => G t (st129.trans k)
    replace G := own_iload (q := 68) G X129.here hx (hb hby at_66) rfl rfl
    replace G := own_iconst (q := 69) G X129.here hx (hb hby at_68) (v := (3 : Int32)) (by decide) rfl
    have hc69_131 : ¬ ((3 : Int32) < (3 : Int32)) := by decide
    replace G := own_icmpYes (q := 85) G X129.here hx (hb hby at_69) (flt hc69_131).2.2.2 (by decide) (by decide)
    replace G := own_aload (q := 87) G X129.here hx (hb hby at_85) rfl rfl rfl
    have F133 : Exa Z T129.heap b117 "com/example/crossbill/crossbill/csv/RecordSpans" := (F130.keep K129q)
    obtain ⟨cq132, kq132, q132a, q132b, q132c⟩ := isOf hZ rfl F133
    obtain ⟨_, _, ⟨T132, L132, kk132, nn132⟩, -, X132, ⟨Lc132, hQ132, l132, y132, z132⟩, st132⟩ := X129.virtualBack hx (y := (⟨"com/example/crossbill/crossbill/csv/RecordSpans", "lines", "()[J"⟩ : MethodName)) (z := (⟨"com/example/crossbill/crossbill/csv/RecordSpans", "lines", "()[J"⟩ : MethodName)) hown (mvT hZ (hw _ (List.mem_of_getElem? (i := 19) rfl))) (mvT hZ (hw _ (List.mem_of_getElem? (i := 20) rfl))) (notFace_of_selects (args := #[]) (mvT hZ (hw _ (List.mem_of_getElem? (i := 22) rfl)))) (mvT hZ (hw _ (List.mem_of_getElem? (i := 22) rfl))) (mvT hZ (hw _ (List.mem_of_getElem? (i := 21) rfl))) (by decide) (backOf (W := 0) (rm3k3 l Z a0 hw [] b117 b3_118 k3_118 i1 i2 i3 T129.heap n0 Z129 B129_0 B129_3 B129_7) hZ (hw _ (List.mem_of_getElem? (i := 23) rfl)) (hw _ (List.mem_of_getElem? (i := 3) rfl)) (by decide) (by decide)) q132a q132c (g := (mkF m 87 #[.val (.int i0), .val (.long i1), .second, .val (.long i2), .second, .val (.long i3), .second, .val (.long i4), .second, .val (.int (3 : Int32)), .val (.ref b117), .unset, .unset] [(.ref b117)])) rfl (by rw [hml]; rfl) (Steps.refl _) (argsL := []) (rest := []) (lenOf pd_3 rfl) rfl (by show 2 * 0 + _ ≤ _; exact Nat.le_of_eq rfl) (hb hby at_87) (fun _ _ => ⟨rfl, rfl, (by decide : 4 + 1 ≤ _), (by decide : 53 + 3 ≤ _)⟩)
    dsimp only [Pt.U, Pt.locs, Pt.cells, Pt.slots] at X132 l132 y132 z132 st132 hQ132
    subst l132 y132 z132
    obtain ⟨b_132, kb_132, rfl, N132q, K132q, B132_0, B132_1⟩ := hQ132
    have ne134 : b3_118 ≠ b_132 := Nat.ne_of_lt (Nat.lt_of_lt_of_le B129_7.lt B132_0)
    have ne135 : b2_118 ≠ b_132 := Nat.ne_of_lt (Nat.lt_of_lt_of_le B129_6.lt B132_0)
    have ne136 : b1_118 ≠ b_132 := Nat.ne_of_lt (Nat.lt_of_lt_of_le B129_5.lt B132_0)
    have ne137 : b117 ≠ b_132 := Nat.ne_of_lt (Nat.lt_of_lt_of_le B129_4.lt B132_0)
    have ge_b_132 : n0 ≤ b_132 := Nat.le_trans Z129 B132_0
    have Z132 : n0 ≤ T132.heap.size := Nat.le_trans Z129 K132q.1
    have N132 := Fr.app N129 N132q
    replace G : Gets p e below _ (T132.setTop (mkF m 90 #[.val (.int i0), .val (.long i1), .second, .val (.long i2), .second, .val (.long i3), .second, .val (.long i4), .second, .val (.int (3 : Int32)), .val (.ref b117), .unset, .unset] [(.ref b_132)])) := fun t k => G t (st132.trans k)
    replace G := own_astore (q := 92) (l' := #[.val (.int i0), .val (.long i1), .second, .val (.long i2), .second, .val (.long i3), .second, .val (.long i4), .second, .val (.int (3 : Int32)), .val (.ref b117), .val (.ref b_132), .unset]) G X132.here hx (hb hby at_90) rfl rfl rfl
    replace G := own_aload (q := 94) G X132.here hx (hb hby at_92) rfl rfl rfl
    replace G := own_iload (q := 96) G X132.here hx (hb hby at_94) rfl rfl
    replace G := own_lloadN (q := 97) G X132.here hx (hb hby at_96) rfl rfl
    replace G := own_lloadN (q := 98) G X132.here hx (hb hby at_97) rfl rfl
    replace G := own_lload (q := 100) G X132.here hx (hb hby at_98) rfl rfl
    replace G := own_lload (q := 102) G X132.here hx (hb hby at_100) rfl rfl
    obtain ⟨_, _, ⟨T138, L138, kk138, nn138⟩, -, X138, ⟨Lc138, hQ138, l138, y138, z138⟩, st138⟩ := Jvm.LawKit.callS X132 hx (y := (⟨"com/example/crossbill/crossbill/csv/RecordSpansLinesPinLaw", "same", "([JIJJJJ)Z"⟩ : MethodName)) hown (mvT hZ (hw _ (List.mem_of_getElem? (i := 38) rfl))) (mvT hZ (hw _ (List.mem_of_getElem? (i := 39) rfl))) (mvT hZ (hw _ (List.mem_of_getElem? (i := 40) rfl))) (mvT hZ (hw _ (List.mem_of_getElem? (i := 41) rfl))) (by decide) (backOf (W := 0) (rm6k3 l Z a0 hw [] b_132 i1 i2 i3 i4 kb_132 T132.heap n0 Z132 B132_1) hZ (hw _ (List.mem_of_getElem? (i := 41) rfl)) (hw _ (List.mem_of_getElem? (i := 40) rfl)) (by decide) (by decide)) (g := (mkF m 102 #[.val (.int i0), .val (.long i1), .second, .val (.long i2), .second, .val (.long i3), .second, .val (.long i4), .second, .val (.int (3 : Int32)), .val (.ref b117), .val (.ref b_132), .unset] [(.long i4), (.long i3), (.long i2), (.long i1), (.int (3 : Int32)), (.ref b_132)])) rfl (by rw [hml]; rfl) (argsL := [(.ref b_132), (.int (3 : Int32)), (.long i1), (.long i2), (.long i3), (.long i4)]) (rest := []) (lenOf pd_4 rfl) rfl (by show 2 * 0 + _ ≤ _; exact Nat.le_of_eq rfl) (hb hby at_102) (fun _ _ => ⟨rfl, rfl, (by decide : 5 + 0 ≤ _), (by decide : 56 + 0 ≤ _)⟩)
    dsimp only [Pt.U, Pt.locs, Pt.cells, Pt.slots] at X138 l138 y138 z138 st138 hQ138
    subst l138 y138 z138
    obtain ⟨rfl, N138q, e138⟩ := hQ138
    have N138 := Fr.app N132 N138q
    replace G : Gets p e below _ (T138.setTop (mkF m 105 #[.val (.int i0), .val (.long i1), .second, .val (.long i2), .second, .val (.long i3), .second, .val (.long i4), .second, .val (.int (3 : Int32)), .val (.ref b117), .val (.ref b_132), .unset] [(.int (1 : Int32))])) := fun t k => G t (st138 t k)
    have hc105_139 : ¬ ((1 : Int32) = (0 : Int32)) := by decide
    replace G := own_ifYes (q := 110) G X138.here hx (hb hby at_105) ((if0 _ _).trans (feq hc105_139).2) (by decide) (by decide)
    replace G := own_iload (q := 112) G X138.here hx (hb hby at_110) rfl rfl
    have hc112_140 : (0 : Int32) < (3 : Int32) := by decide
    replace G := own_ifNo (q := 115) G X138.here hx (hb hby at_112) ((if0 _ _).trans (tlt hc112_140).2.2.2) rfl
    replace G := own_aload (q := 117) G X138.here hx (hb hby at_115) rfl rfl rfl
    replace G := own_iconst (q := 118) G X138.here hx (hb hby at_117) (v := (0 : Int32)) (by decide) rfl
    replace G := own_aload (q := 120) G X138.here hx (hb hby at_118) rfl rfl rfl
    replace G := own_iconst (q := 121) G X138.here hx (hb hby at_120) (v := (0 : Int32)) (by decide) rfl
    obtain ⟨c141, Ar141, -, S141, -, H141, -⟩ := id B132_1
    have hin141 : ¬ ((0 : Int32) < 0 ∨ c141.slots.size ≤ ((0 : Int32)).toNatClampNeg) := inb_of S141 ⟨by decide, by decide⟩
    replace G : Gets p e below _ (T138.setTop (mkF m 122 #[.val (.int i0), .val (.long i1), .second, .val (.long i2), .second, .val (.long i3), .second, .val (.long i4), .second, .val (.int (3 : Int32)), .val (.ref b117), .val (.ref b_132), .unset] [(.long i1), (.int (0 : Int32)), (.ref b_132)])) := fun t k => G t (X138.laload hx (j := (0 : Int32)) (v := (.long i1)) (by rw [e138]; exact Ar141.1) (State.isArrayOf_alike hZ.alike Ar141.2.1) Ar141.2.2 hin141 (Has.at H141 hin141 rfl) (g := (mkF m 121 #[.val (.int i0), .val (.long i1), .second, .val (.long i2), .second, .val (.long i3), .second, .val (.long i4), .second, .val (.int (3 : Int32)), .val (.ref b117), .val (.ref b_132), .unset] [(.int (0 : Int32)), (.ref b_132), (.int (0 : Int32)), (.ref b_132)])) rfl rfl (hb hby at_121) t k)
    replace G : Gets p e below _ (T138.setTop (mkF m 125 #[.val (.int i0), .val (.long i1), .second, .val (.long i2), .second, .val (.long i3), .second, .val (.long i4), .second, .val (.int (3 : Int32)), .val (.ref b117), .val (.ref b_132), .unset] [(.long (-1 : Int64)), (.long i1), (.int (0 : Int32)), (.ref b_132)])) := fun t k => G t (X138.ldc2Long hx hown (mvT hZ (hw _ (List.mem_of_getElem? (i := 49) rfl))) (g := (mkF m 122 #[.val (.int i0), .val (.long i1), .second, .val (.long i2), .second, .val (.long i3), .second, .val (.long i4), .second, .val (.int (3 : Int32)), .val (.ref b117), .val (.ref b_132), .unset] [(.long i1), (.int (0 : Int32)), (.ref b_132)])) rfl (hb hby at_122) t k)
    replace G := own_lxor (q := 126) G X138.here hx (hb hby at_125) rfl rfl
    obtain ⟨c142, Ar142, q142, S142, N142', H142, G142'⟩ := id B132_1
    have hin142 : ¬ ((0 : Int32) < 0 ∨ c142.slots.size ≤ ((0 : Int32)).toNatClampNeg) := inb_of S142 ⟨by decide, by decide⟩
    obtain ⟨T142, h142, X142, e142, W142, st142⟩ := stJ X138 hx hZ e138 Ar142 (j := (0 : Int32)) hin142 (g := (mkF m 126 #[.val (.int i0), .val (.long i1), .second, .val (.long i2), .second, .val (.long i3), .second, .val (.long i4), .second, .val (.int (3 : Int32)), .val (.ref b117), .val (.ref b_132), .unset] [(.long (i1 ^^^ (-1 : Int64))), (.int (0 : Int32)), (.ref b_132)])) rfl rfl (hb hby at_126)
    have N142 := Fr.snoc X142 N138 ge_b_132
    have Z142 : n0 ≤ h142.size := Nat.le_trans Z132 (Keep.of_wr W142).1
    have V142 : Arv Z h142 b_132 kb_132 .long (3 : Int32) [(.long (i1 ^^^ (-1 : Int64))), (.long i2), (.long i3)] (.long (0 : Int64)) := Arv.set Ar142 q142 S142 N142' H142 G142' rfl W142 0 rfl (Nat.le_of_ble_eq_true rfl)
    replace G : Gets p e below _ (T142.setTop (mkF m 127 #[.val (.int i0), .val (.long i1), .second, .val (.long i2), .second, .val (.long i3), .second, .val (.long i4), .second, .val (.int (3 : Int32)), .val (.ref b117), .val (.ref b_132), .unset] [])) := fun t k => G t (st142 t k)
    replace G := own_iload (q := 129) G X142.here hx (hb hby at_127) rfl rfl
    replace G := own_iconst (q := 130) G X142.here hx (hb hby at_129) (v := (1 : Int32)) (by decide) rfl
    have hc130_143 : (1 : Int32) < (3 : Int32) := by decide
    replace G := own_icmpNo (q := 133) G X142.here hx (hb hby at_130) (tlt hc130_143).2.2.2 rfl
    replace G := own_aload (q := 135) G X142.here hx (hb hby at_133) rfl rfl rfl
    replace G := own_iconst (q := 136) G X142.here hx (hb hby at_135) (v := (1 : Int32)) (by decide) rfl
    replace G := own_aload (q := 138) G X142.here hx (hb hby at_136) rfl rfl rfl
    replace G := own_iconst (q := 139) G X142.here hx (hb hby at_138) (v := (1 : Int32)) (by decide) rfl
    obtain ⟨c144, Ar144, -, S144, -, H144, -⟩ := id V142
    have hin144 : ¬ ((1 : Int32) < 0 ∨ c144.slots.size ≤ ((1 : Int32)).toNatClampNeg) := inb_of S144 ⟨by decide, by decide⟩
    replace G : Gets p e below _ (T142.setTop (mkF m 140 #[.val (.int i0), .val (.long i1), .second, .val (.long i2), .second, .val (.long i3), .second, .val (.long i4), .second, .val (.int (3 : Int32)), .val (.ref b117), .val (.ref b_132), .unset] [(.long i2), (.int (1 : Int32)), (.ref b_132)])) := fun t k => G t (X142.laload hx (j := (1 : Int32)) (v := (.long i2)) (by rw [e142]; exact Ar144.1) (State.isArrayOf_alike hZ.alike Ar144.2.1) Ar144.2.2 hin144 (Has.at H144 hin144 rfl) (g := (mkF m 139 #[.val (.int i0), .val (.long i1), .second, .val (.long i2), .second, .val (.long i3), .second, .val (.long i4), .second, .val (.int (3 : Int32)), .val (.ref b117), .val (.ref b_132), .unset] [(.int (1 : Int32)), (.ref b_132), (.int (1 : Int32)), (.ref b_132)])) rfl rfl (hb hby at_139) t k)
    replace G : Gets p e below _ (T142.setTop (mkF m 143 #[.val (.int i0), .val (.long i1), .second, .val (.long i2), .second, .val (.long i3), .second, .val (.long i4), .second, .val (.int (3 : Int32)), .val (.ref b117), .val (.ref b_132), .unset] [(.long (-1 : Int64)), (.long i2), (.int (1 : Int32)), (.ref b_132)])) := fun t k => G t (X142.ldc2Long hx hown (mvT hZ (hw _ (List.mem_of_getElem? (i := 49) rfl))) (g := (mkF m 140 #[.val (.int i0), .val (.long i1), .second, .val (.long i2), .second, .val (.long i3), .second, .val (.long i4), .second, .val (.int (3 : Int32)), .val (.ref b117), .val (.ref b_132), .unset] [(.long i2), (.int (1 : Int32)), (.ref b_132)])) rfl (hb hby at_140) t k)
    replace G := own_lxor (q := 144) G X142.here hx (hb hby at_143) rfl rfl
    obtain ⟨c145, Ar145, q145, S145, N145', H145, G145'⟩ := id V142
    have hin145 : ¬ ((1 : Int32) < 0 ∨ c145.slots.size ≤ ((1 : Int32)).toNatClampNeg) := inb_of S145 ⟨by decide, by decide⟩
    obtain ⟨T145, h145, X145, e145, W145, st145⟩ := stJ X142 hx hZ e142 Ar145 (j := (1 : Int32)) hin145 (g := (mkF m 144 #[.val (.int i0), .val (.long i1), .second, .val (.long i2), .second, .val (.long i3), .second, .val (.long i4), .second, .val (.int (3 : Int32)), .val (.ref b117), .val (.ref b_132), .unset] [(.long (i2 ^^^ (-1 : Int64))), (.int (1 : Int32)), (.ref b_132)])) rfl rfl (hb hby at_144)
    have N145 := Fr.snoc X145 N142 ge_b_132
    have Z145 : n0 ≤ h145.size := Nat.le_trans Z142 (Keep.of_wr W145).1
    have V145 : Arv Z h145 b_132 kb_132 .long (3 : Int32) [(.long (i1 ^^^ (-1 : Int64))), (.long (i2 ^^^ (-1 : Int64))), (.long i3)] (.long (0 : Int64)) := Arv.set Ar145 q145 S145 N145' H145 G145' rfl W145 1 rfl (Nat.le_of_ble_eq_true rfl)
    replace G : Gets p e below _ (T145.setTop (mkF m 145 #[.val (.int i0), .val (.long i1), .second, .val (.long i2), .second, .val (.long i3), .second, .val (.long i4), .second, .val (.int (3 : Int32)), .val (.ref b117), .val (.ref b_132), .unset] [])) := fun t k => G t (st145 t k)
    replace G := own_iload (q := 147) G X145.here hx (hb hby at_145) rfl rfl
    replace G := own_iconst (q := 148) G X145.here hx (hb hby at_147) (v := (2 : Int32)) (by decide) rfl
    have hc148_146 : (2 : Int32) < (3 : Int32) := by decide
    replace G := own_icmpNo (q := 151) G X145.here hx (hb hby at_148) (tlt hc148_146).2.2.2 rfl
    replace G := own_aload (q := 153) G X145.here hx (hb hby at_151) rfl rfl rfl
    replace G := own_iconst (q := 154) G X145.here hx (hb hby at_153) (v := (2 : Int32)) (by decide) rfl
    replace G := own_aload (q := 156) G X145.here hx (hb hby at_154) rfl rfl rfl
    replace G := own_iconst (q := 157) G X145.here hx (hb hby at_156) (v := (2 : Int32)) (by decide) rfl
    obtain ⟨c147, Ar147, -, S147, -, H147, -⟩ := id V145
    have hin147 : ¬ ((2 : Int32) < 0 ∨ c147.slots.size ≤ ((2 : Int32)).toNatClampNeg) := inb_of S147 ⟨by decide, by decide⟩
    replace G : Gets p e below _ (T145.setTop (mkF m 158 #[.val (.int i0), .val (.long i1), .second, .val (.long i2), .second, .val (.long i3), .second, .val (.long i4), .second, .val (.int (3 : Int32)), .val (.ref b117), .val (.ref b_132), .unset] [(.long i3), (.int (2 : Int32)), (.ref b_132)])) := fun t k => G t (X145.laload hx (j := (2 : Int32)) (v := (.long i3)) (by rw [e145]; exact Ar147.1) (State.isArrayOf_alike hZ.alike Ar147.2.1) Ar147.2.2 hin147 (Has.at H147 hin147 rfl) (g := (mkF m 157 #[.val (.int i0), .val (.long i1), .second, .val (.long i2), .second, .val (.long i3), .second, .val (.long i4), .second, .val (.int (3 : Int32)), .val (.ref b117), .val (.ref b_132), .unset] [(.int (2 : Int32)), (.ref b_132), (.int (2 : Int32)), (.ref b_132)])) rfl rfl (hb hby at_157) t k)
    replace G : Gets p e below _ (T145.setTop (mkF m 161 #[.val (.int i0), .val (.long i1), .second, .val (.long i2), .second, .val (.long i3), .second, .val (.long i4), .second, .val (.int (3 : Int32)), .val (.ref b117), .val (.ref b_132), .unset] [(.long (-1 : Int64)), (.long i3), (.int (2 : Int32)), (.ref b_132)])) := fun t k => G t (X145.ldc2Long hx hown (mvT hZ (hw _ (List.mem_of_getElem? (i := 49) rfl))) (g := (mkF m 158 #[.val (.int i0), .val (.long i1), .second, .val (.long i2), .second, .val (.long i3), .second, .val (.long i4), .second, .val (.int (3 : Int32)), .val (.ref b117), .val (.ref b_132), .unset] [(.long i3), (.int (2 : Int32)), (.ref b_132)])) rfl (hb hby at_158) t k)
    replace G := own_lxor (q := 162) G X145.here hx (hb hby at_161) rfl rfl
    obtain ⟨c148, Ar148, q148, S148, N148', H148, G148'⟩ := id V145
    have hin148 : ¬ ((2 : Int32) < 0 ∨ c148.slots.size ≤ ((2 : Int32)).toNatClampNeg) := inb_of S148 ⟨by decide, by decide⟩
    obtain ⟨T148, h148, X148, e148, W148, st148⟩ := stJ X145 hx hZ e145 Ar148 (j := (2 : Int32)) hin148 (g := (mkF m 162 #[.val (.int i0), .val (.long i1), .second, .val (.long i2), .second, .val (.long i3), .second, .val (.long i4), .second, .val (.int (3 : Int32)), .val (.ref b117), .val (.ref b_132), .unset] [(.long (i3 ^^^ (-1 : Int64))), (.int (2 : Int32)), (.ref b_132)])) rfl rfl (hb hby at_162)
    have N148 := Fr.snoc X148 N145 ge_b_132
    have Z148 : n0 ≤ h148.size := Nat.le_trans Z145 (Keep.of_wr W148).1
    have V148 : Arv Z h148 b_132 kb_132 .long (3 : Int32) [(.long (i1 ^^^ (-1 : Int64))), (.long (i2 ^^^ (-1 : Int64))), (.long (i3 ^^^ (-1 : Int64)))] (.long (0 : Int64)) := Arv.set Ar148 q148 S148 N148' H148 G148' rfl W148 2 rfl (Nat.le_of_ble_eq_true rfl)
    replace G : Gets p e below _ (T148.setTop (mkF m 163 #[.val (.int i0), .val (.long i1), .second, .val (.long i2), .second, .val (.long i3), .second, .val (.long i4), .second, .val (.int (3 : Int32)), .val (.ref b117), .val (.ref b_132), .unset] [])) := fun t k => G t (st148 t k)
    replace G := own_iload (q := 165) G X148.here hx (hb hby at_163) rfl rfl
    replace G := own_iconst (q := 166) G X148.here hx (hb hby at_165) (v := (3 : Int32)) (by decide) rfl
    have hc166_149 : ¬ ((3 : Int32) < (3 : Int32)) := by decide
    replace G := own_icmpYes (q := 181) G X148.here hx (hb hby at_166) (flt hc166_149).2.2.2 (by decide) (by decide)
    replace G := own_aload (q := 183) G X148.here hx (hb hby at_181) rfl rfl rfl
    have F151 : Exa Z h148 b117 "com/example/crossbill/crossbill/csv/RecordSpans" := ((((F133.keep K132q).wr W142).wr W145).wr W148)
    have F152 : Fld Z h148 b117 "com/example/crossbill/crossbill/csv/RecordSpans" "size" "I" (.int (3 : Int32)) := ((((B129_0.keep K132q nin0).other W142 (Or.inl ne137)).other W145 (Or.inl ne137)).other W148 (Or.inl ne137))
    have F153 : Fld Z h148 b117 "com/example/crossbill/crossbill/csv/RecordSpans" "lines" "[J" (.ref b3_118) := ((((B129_3.keep K132q nin0).other W142 (Or.inl ne137)).other W145 (Or.inl ne137)).other W148 (Or.inl ne137))
    have F154 : Arv Z h148 b3_118 k3_118 .long (16 : Int32) [(.long i1), (.long i2), (.long i3), (.long (0 : Int64)), (.long (0 : Int64)), (.long (0 : Int64)), (.long (0 : Int64)), (.long (0 : Int64)), (.long (0 : Int64)), (.long (0 : Int64)), (.long (0 : Int64)), (.long (0 : Int64)), (.long (0 : Int64)), (.long (0 : Int64)), (.long (0 : Int64)), (.long (0 : Int64))] (.long (0 : Int64)) := ((((B129_7.keep K132q nin0).other W142 ne134).other W145 ne134).other W148 ne134)
    obtain ⟨cq150, kq150, q150a, q150b, q150c⟩ := isOf hZ e148 F151
    obtain ⟨_, _, ⟨T150, L150, kk150, nn150⟩, -, X150, ⟨Lc150, hQ150, l150, y150, z150⟩, st150⟩ := X148.virtualBack hx (y := (⟨"com/example/crossbill/crossbill/csv/RecordSpans", "lines", "()[J"⟩ : MethodName)) (z := (⟨"com/example/crossbill/crossbill/csv/RecordSpans", "lines", "()[J"⟩ : MethodName)) hown (mvT hZ (hw _ (List.mem_of_getElem? (i := 19) rfl))) (mvT hZ (hw _ (List.mem_of_getElem? (i := 20) rfl))) (notFace_of_selects (args := #[]) (mvT hZ (hw _ (List.mem_of_getElem? (i := 22) rfl)))) (mvT hZ (hw _ (List.mem_of_getElem? (i := 22) rfl))) (mvT hZ (hw _ (List.mem_of_getElem? (i := 21) rfl))) (by decide) (backOf (W := 0) (rm3k3 l Z a0 hw [] b117 b3_118 k3_118 i1 i2 i3 h148 n0 Z148 F152 F153 F154) hZ (hw _ (List.mem_of_getElem? (i := 23) rfl)) (hw _ (List.mem_of_getElem? (i := 3) rfl)) (by decide) (by decide)) q150a q150c (g := (mkF m 183 #[.val (.int i0), .val (.long i1), .second, .val (.long i2), .second, .val (.long i3), .second, .val (.long i4), .second, .val (.int (3 : Int32)), .val (.ref b117), .val (.ref b_132), .unset] [(.ref b117)])) rfl (by rw [hml]; rfl) (Steps.refl _) (argsL := []) (rest := []) (lenOf pd_3 rfl) rfl (by show 2 * 0 + _ ≤ _; exact Nat.le_of_eq rfl) (hb hby at_183) (fun _ _ => ⟨rfl, e148, (by decide : 5 + 1 ≤ _), (by decide : 56 + 3 ≤ _)⟩)
    dsimp only [Pt.U, Pt.locs, Pt.cells, Pt.slots] at X150 l150 y150 z150 st150 hQ150
    subst l150 y150 z150
    obtain ⟨b_150, kb_150, rfl, N150q, K150q, B150_0, B150_1⟩ := hQ150
    have ne155 : b_132 ≠ b_150 := Nat.ne_of_lt (Nat.lt_of_lt_of_le V148.lt B150_0)
    have ne156 : b3_118 ≠ b_150 := Nat.ne_of_lt (Nat.lt_of_lt_of_le F154.lt B150_0)
    have F157 : Arv Z h148 b2_118 k2_118 .long (16 : Int32) [(.long (1 : Int64)), (.long (2 : Int64)), (.long (3 : Int64)), (.long (0 : Int64)), (.long (0 : Int64)), (.long (0 : Int64)), (.long (0 : Int64)), (.long (0 : Int64)), (.long (0 : Int64)), (.long (0 : Int64)), (.long (0 : Int64)), (.long (0 : Int64)), (.long (0 : Int64)), (.long (0 : Int64)), (.long (0 : Int64)), (.long (0 : Int64))] (.long (0 : Int64)) := ((((B129_6.keep K132q nin0).other W142 ne135).other W145 ne135).other W148 ne135)
    have ne158 : b2_118 ≠ b_150 := Nat.ne_of_lt (Nat.lt_of_lt_of_le F157.lt B150_0)
    have F159 : Arv Z h148 b1_118 k1_118 .long (16 : Int32) [(.long (0 : Int64)), (.long (1 : Int64)), (.long (2 : Int64)), (.long (0 : Int64)), (.long (0 : Int64)), (.long (0 : Int64)), (.long (0 : Int64)), (.long (0 : Int64)), (.long (0 : Int64)), (.long (0 : Int64)), (.long (0 : Int64)), (.long (0 : Int64)), (.long (0 : Int64)), (.long (0 : Int64)), (.long (0 : Int64)), (.long (0 : Int64))] (.long (0 : Int64)) := ((((B129_5.keep K132q nin0).other W142 ne136).other W145 ne136).other W148 ne136)
    have ne160 : b1_118 ≠ b_150 := Nat.ne_of_lt (Nat.lt_of_lt_of_le F159.lt B150_0)
    have F161 : Fld Z h148 b117 "com/example/crossbill/crossbill/csv/RecordSpans" "headerEnd" "J" (.long (0 : Int64)) := ((((B129_4.keep K132q nin0).other W142 (Or.inl ne137)).other W145 (Or.inl ne137)).other W148 (Or.inl ne137))
    have ne162 : b117 ≠ b_150 := Nat.ne_of_lt (Nat.lt_of_lt_of_le F161.lt B150_0)
    have ge_b_150 : n0 ≤ b_150 := Nat.le_trans Z148 B150_0
    have Z150 : n0 ≤ T150.heap.size := Nat.le_trans Z148 K150q.1
    have N150 := Fr.app N148 N150q
    replace G : Gets p e below _ (T150.setTop (mkF m 186 #[.val (.int i0), .val (.long i1), .second, .val (.long i2), .second, .val (.long i3), .second, .val (.long i4), .second, .val (.int (3 : Int32)), .val (.ref b117), .val (.ref b_132), .unset] [(.ref b_150)])) := fun t k => G t (st150.trans k)
    replace G := own_astore (q := 188) (l' := #[.val (.int i0), .val (.long i1), .second, .val (.long i2), .second, .val (.long i3), .second, .val (.long i4), .second, .val (.int (3 : Int32)), .val (.ref b117), .val (.ref b_132), .val (.ref b_150)]) G X150.here hx (hb hby at_186) rfl rfl rfl
    replace G := own_aload (q := 190) G X150.here hx (hb hby at_188) rfl rfl rfl
    replace G := own_iload (q := 192) G X150.here hx (hb hby at_190) rfl rfl
    replace G := own_lloadN (q := 193) G X150.here hx (hb hby at_192) rfl rfl
    replace G := own_lloadN (q := 194) G X150.here hx (hb hby at_193) rfl rfl
    replace G := own_lload (q := 196) G X150.here hx (hb hby at_194) rfl rfl
    replace G := own_lload (q := 198) G X150.here hx (hb hby at_196) rfl rfl
    obtain ⟨_, _, ⟨T163, L163, kk163, nn163⟩, -, X163, ⟨Lc163, hQ163, l163, y163, z163⟩, st163⟩ := Jvm.LawKit.callS X150 hx (y := (⟨"com/example/crossbill/crossbill/csv/RecordSpansLinesPinLaw", "same", "([JIJJJJ)Z"⟩ : MethodName)) hown (mvT hZ (hw _ (List.mem_of_getElem? (i := 38) rfl))) (mvT hZ (hw _ (List.mem_of_getElem? (i := 39) rfl))) (mvT hZ (hw _ (List.mem_of_getElem? (i := 40) rfl))) (mvT hZ (hw _ (List.mem_of_getElem? (i := 41) rfl))) (by decide) (backOf (W := 0) (rm6k3 l Z a0 hw [] b_150 i1 i2 i3 i4 kb_150 T150.heap n0 Z150 B150_1) hZ (hw _ (List.mem_of_getElem? (i := 41) rfl)) (hw _ (List.mem_of_getElem? (i := 40) rfl)) (by decide) (by decide)) (g := (mkF m 198 #[.val (.int i0), .val (.long i1), .second, .val (.long i2), .second, .val (.long i3), .second, .val (.long i4), .second, .val (.int (3 : Int32)), .val (.ref b117), .val (.ref b_132), .val (.ref b_150)] [(.long i4), (.long i3), (.long i2), (.long i1), (.int (3 : Int32)), (.ref b_150)])) rfl (by rw [hml]; rfl) (argsL := [(.ref b_150), (.int (3 : Int32)), (.long i1), (.long i2), (.long i3), (.long i4)]) (rest := []) (lenOf pd_4 rfl) rfl (by show 2 * 0 + _ ≤ _; exact Nat.le_of_eq rfl) (hb hby at_198) (fun _ _ => ⟨rfl, rfl, (by decide : 6 + 0 ≤ _), (by decide : 59 + 0 ≤ _)⟩)
    dsimp only [Pt.U, Pt.locs, Pt.cells, Pt.slots] at X163 l163 y163 z163 st163 hQ163
    subst l163 y163 z163
    obtain ⟨rfl, N163q, e163⟩ := hQ163
    have N163 := Fr.app N150 N163q
    replace G : Gets p e below _ (T163.setTop (mkF m 201 #[.val (.int i0), .val (.long i1), .second, .val (.long i2), .second, .val (.long i3), .second, .val (.long i4), .second, .val (.int (3 : Int32)), .val (.ref b117), .val (.ref b_132), .val (.ref b_150)] [(.int (1 : Int32))])) := fun t k => G t (st163 t k)
    obtain ⟨fs, hr, hrun, hended, hW, hsame⟩ := X163.leave (v := some (.int (1 : Int32))) (fun h => by rw [Bd.returns] at h; cases h)
    refine ⟨_, _, G _ (retOut X163 hx Bd.returns rfl (Or.inl ⟨rfl, Or.inr (Or.inl rfl), _, rfl⟩) (hb hby at_201) hr), hrun, hended, _, _, rfl, ?_, ⟨_, rfl⟩, hW, hsame.mono (by decide) (by decide)⟩
    show Q0 Z i0 i1 i2 i3 i4 h0 n0 _ T163.heap _
    rw [e163]
    exact ⟨rfl, N163⟩
  · replace G := own_istore (q := 8) (l' := #[.val (.int i0), .val (.long i1), .second, .val (.long i2), .second, .val (.long i3), .second, .val (.long i4), .second, .val (.int (4 : Int32)), .unset, .unset, .unset]) G X0.here hx (hb hby at_6) rfl rfl
    obtain ⟨T164, h164, X164, e164, E164, A164, D164, -, st164⟩ := newO X0 hx hZ hown (hw _ (List.mem_of_getElem? (i := 1) rfl)) (hw _ (List.mem_of_getElem? (i := 2) rfl)) (hw _ (List.mem_of_getElem? (i := 3) rfl)) e0 (g := (mkF m 8 #[.val (.int i0), .val (.long i1), .second, .val (.long i2), .second, .val (.long i3), .second, .val (.long i4), .second, .val (.int (4 : Int32)), .unset, .unset, .unset] [])) rfl (hb hby at_8) (by decide) (by decide)
    obtain ⟨b164, g164⟩ : ∃ z, z = h0.size := ⟨_, rfl⟩
    rw [← g164] at A164 D164 st164
    have ge_b164 : n0 ≤ b164 := Nat.le_trans Z0 (Nat.le_of_eq g164.symm)
    have Z164 : n0 ≤ h164.size := Nat.le_trans Z0 E164.1
    have F164_starts : Fld Z h164 b164 "com/example/crossbill/crossbill/csv/RecordSpans" "starts" "[J" .null := D164 (Or.inl (hw _ (List.mem_of_getElem? (i := 12) rfl))) (ty := (.array .long)) (by decide)
    have F164_ends : Fld Z h164 b164 "com/example/crossbill/crossbill/csv/RecordSpans" "ends" "[J" .null := D164 (Or.inl (hw _ (List.mem_of_getElem? (i := 14) rfl))) (ty := (.array .long)) (by decide)
    have F164_lines : Fld Z h164 b164 "com/example/crossbill/crossbill/csv/RecordSpans" "lines" "[J" .null := D164 (Or.inl (hw _ (List.mem_of_getElem? (i := 16) rfl))) (ty := (.array .long)) (by decide)
    have F164_headerEnd : Fld Z h164 b164 "com/example/crossbill/crossbill/csv/RecordSpans" "headerEnd" "J" (.long (0 : Int64)) := D164 (Or.inr (hw _ (List.mem_of_getElem? (i := 18) rfl))) (ty := .long) (by decide)
    have F164_size : Fld Z h164 b164 "com/example/crossbill/crossbill/csv/RecordSpans" "size" "I" (.int (0 : Int32)) := D164 (Or.inl (hw _ (List.mem_of_getElem? (i := 25) rfl))) (ty := .int) (by decide)
    replace G : Gets p e below _ (T164.setTop (mkF m 11 #[.val (.int i0), .val (.long i1), .second, .val (.long i2), .second, .val (.long i3), .second, .val (.long i4), .second, .val (.int (4 : Int32)), .unset, .unset, .unset] [(.ref b164)])) := fun t k => G t (st164 t k)
    replace G := own_dup (q := 12) G X164.here hx (hb hby at_11) rfl rfl
    replace G := own_lconst (q := 13) G X164.here hx (hb hby at_12) (v := (0 : Int64)) (by decide) rfl
    obtain ⟨_, _, ⟨T165, L165, kk165, nn165⟩, -, X165, ⟨Lc165, hQ165, l165, y165, z165⟩, st165⟩ := X164.specialBack hx (y := (⟨"com/example/crossbill/crossbill/csv/RecordSpans", "<init>", "(J)V"⟩ : MethodName)) rfl hown (mvT hZ (hw _ (List.mem_of_getElem? (i := 4) rfl))) (mvT hZ (hw _ (List.mem_of_getElem? (i := 5) rfl))) (mvT hZ (hw _ (List.mem_of_getElem? (i := 6) rfl))) (by decide) (backOf (W := 1) (rm1 l Z a0 hw [] b164 (0 : Int64) h164 n0 Z164 F164_starts F164_ends F164_lines F164_headerEnd F164_size A164 ge_b164) hZ (hw _ (List.mem_of_getElem? (i := 6) rfl)) (hw _ (List.mem_of_getElem? (i := 3) rfl)) (by decide) (by decide)) (g := (mkF m 13 #[.val (.int i0), .val (.long i1), .second, .val (.long i2), .second, .val (.long i3), .second, .val (.long i4), .second, .val (.int (4 : Int32)), .unset, .unset, .unset] [(.long (0 : Int64)), (.ref b164), (.ref b164)])) rfl (by rw [hml]; rfl) (Steps.refl _) (a := b164) (argsL := [(.long (0 : Int64))]) (rest := [(.ref b164)]) (lenOf pd_2 rfl) rfl (by show 2 * 0 + _ ≤ _; exact Nat.le_of_eq rfl) (hb hby at_13) (fun _ _ => ⟨rfl, e164, (by decide : 1 + 3 ≤ _), (by decide : 5 + 48 ≤ _)⟩)
    dsimp only [Pt.U, Pt.locs, Pt.cells, Pt.slots] at X165 l165 y165 z165 st165 hQ165
    subst l165 y165 z165
    obtain ⟨b1_165, b2_165, b3_165, k1_165, k2_165, k3_165, rfl, N165q, K165q, B165_0, B165_1, B165_2, B165_3, B165_4, B165_5, B165_6, B165_7, B165_8, B165_9, B165_10, B165_11, B165_12, B165_13⟩ := hQ165
    have ne166 : b164 ≠ b1_165 := Nat.ne_of_lt (Nat.lt_of_lt_of_le F164_size.lt B165_8)
    have ge_b1_165 : n0 ≤ b1_165 := Nat.le_trans Z164 B165_8
    have ne167 : b164 ≠ b2_165 := Nat.ne_of_lt (Nat.lt_of_lt_of_le F164_size.lt B165_9)
    have ge_b2_165 : n0 ≤ b2_165 := Nat.le_trans Z164 B165_9
    have ne168 : b164 ≠ b3_165 := Nat.ne_of_lt (Nat.lt_of_lt_of_le F164_size.lt B165_10)
    have ge_b3_165 : n0 ≤ b3_165 := Nat.le_trans Z164 B165_10
    have Z165 : n0 ≤ T165.heap.size := Nat.le_trans Z164 K165q.1
    have N165 := Fr.app N0 N165q
    replace G : Gets p e below _ (T165.setTop (mkF m 16 #[.val (.int i0), .val (.long i1), .second, .val (.long i2), .second, .val (.long i3), .second, .val (.long i4), .second, .val (.int (4 : Int32)), .unset, .unset, .unset] [(.ref b164)])) := fun t k => G t (st165.trans k)
    replace G := own_astore (q := 18) (l' := #[.val (.int i0), .val (.long i1), .second, .val (.long i2), .second, .val (.long i3), .second, .val (.long i4), .second, .val (.int (4 : Int32)), .val (.ref b164), .unset, .unset]) G X165.here hx (hb hby at_16) rfl rfl rfl
    replace G := own_iload (q := 20) G X165.here hx (hb hby at_18) rfl rfl
    have hc20_169 : (0 : Int32) < (4 : Int32) := by decide
    replace G := own_ifNo (q := 23) G X165.here hx (hb hby at_20) ((if0 _ _).trans (tlt hc20_169).2.2.2) rfl
    replace G := own_aload (q := 25) G X165.here hx (hb hby at_23) rfl rfl rfl
    replace G := own_lconst (q := 26) G X165.here hx (hb hby at_25) (v := (0 : Int64)) (by decide) rfl
    replace G := own_lconst (q := 27) G X165.here hx (hb hby at_26) (v := (1 : Int64)) (by decide) rfl
    replace G := own_lloadN (q := 28) G X165.here hx (hb hby at_27) rfl rfl
    have F171 : Exa Z T165.heap b164 "com/example/crossbill/crossbill/csv/RecordSpans" := (A164.keep K165q)
    obtain ⟨cq170, kq170, q170a, q170b, q170c⟩ := isOf hZ rfl F171
    obtain ⟨_, _, ⟨T170, L170, kk170, nn170⟩, -, X170, ⟨Lc170, hQ170, l170, y170, z170⟩, st170⟩ := X165.virtualBack hx (y := (⟨"com/example/crossbill/crossbill/csv/RecordSpans", "add", "(JJJ)V"⟩ : MethodName)) (z := (⟨"com/example/crossbill/crossbill/csv/RecordSpans", "add", "(JJJ)V"⟩ : MethodName)) hown (mvT hZ (hw _ (List.mem_of_getElem? (i := 42) rfl))) (mvT hZ (hw _ (List.mem_of_getElem? (i := 43) rfl))) (notFace_of_selects (args := #[]) (mvT hZ (hw _ (List.mem_of_getElem? (i := 45) rfl)))) (mvT hZ (hw _ (List.mem_of_getElem? (i := 45) rfl))) (mvT hZ (hw _ (List.mem_of_getElem? (i := 44) rfl))) (by decide) (backOf (W := 0) (rm7s0 l Z a0 hw [] b164 i1 b1_165 b2_165 b3_165 k1_165 k2_165 k3_165 T165.heap n0 Z165 B165_4 B165_0 B165_1 B165_2 B165_3 F171 B165_5 B165_6 B165_7 ge_b164 ge_b1_165 ge_b2_165 ge_b3_165 ne166 ne167 ne168 B165_11 B165_12 B165_13) hZ (hw _ (List.mem_of_getElem? (i := 46) rfl)) (hw _ (List.mem_of_getElem? (i := 3) rfl)) (by decide) (by decide)) q170a q170c (g := (mkF m 28 #[.val (.int i0), .val (.long i1), .second, .val (.long i2), .second, .val (.long i3), .second, .val (.long i4), .second, .val (.int (4 : Int32)), .val (.ref b164), .unset, .unset] [(.long i1), (.long (1 : Int64)), (.long (0 : Int64)), (.ref b164)])) rfl (by rw [hml]; rfl) (Steps.refl _) (argsL := [(.long (0 : Int64)), (.long (1 : Int64)), (.long i1)]) (rest := []) (lenOf pd_5 rfl) rfl (by show 2 * 0 + _ ≤ _; exact Nat.le_of_eq rfl) (hb hby at_28) (fun _ _ => ⟨rfl, rfl, (by decide : 4 + 0 ≤ _), (by decide : 53 + 0 ≤ _)⟩)
    dsimp only [Pt.U, Pt.locs, Pt.cells, Pt.slots] at X170 l170 y170 z170 st170 hQ170
    subst l170 y170 z170
    obtain ⟨rfl, N170q, K170q, B170_0, B170_1, B170_2, B170_3, B170_4, B170_5, B170_6, B170_7⟩ := hQ170
    have Z170 : n0 ≤ T170.heap.size := Nat.le_trans Z165 K170q.1
    have N170 := Fr.app N165 N170q
    replace G : Gets p e below _ (T170.setTop (mkF m 31 #[.val (.int i0), .val (.long i1), .second, .val (.long i2), .second, .val (.long i3), .second, .val (.long i4), .second, .val (.int (4 : Int32)), .val (.ref b164), .unset, .unset] [])) := fun t k => G t (st170.trans k)
    replace G := own_iload (q := 33) G X170.here hx (hb hby at_31) rfl rfl
    replace G := own_iconst (q := 34) G X170.here hx (hb hby at_33) (v := (1 : Int32)) (by decide) rfl
    have hc34_172 : (1 : Int32) < (4 : Int32) := by decide
    replace G := own_icmpNo (q := 37) G X170.here hx (hb hby at_34) (tlt hc34_172).2.2.2 rfl
    replace G := own_aload (q := 39) G X170.here hx (hb hby at_37) rfl rfl rfl
    replace G := own_lconst (q := 40) G X170.here hx (hb hby at_39) (v := (1 : Int64)) (by decide) rfl
    replace G : Gets p e below _ (T170.setTop (mkF m 43 #[.val (.int i0), .val (.long i1), .second, .val (.long i2), .second, .val (.long i3), .second, .val (.long i4), .second, .val (.int (4 : Int32)), .val (.ref b164), .unset, .unset] [(.long (2 : Int64)), (.long (1 : Int64)), (.ref b164)])) := fun t k => G t (X170.ldc2Long hx hown (mvT hZ (hw _ (List.mem_of_getElem? (i := 47) rfl))) (g := (mkF m 40 #[.val (.int i0), .val (.long i1), .second, .val (.long i2), .second, .val (.long i3), .second, .val (.long i4), .second, .val (.int (4 : Int32)), .val (.ref b164), .unset, .unset] [(.long (1 : Int64)), (.ref b164)])) rfl (hb hby at_40) t k)
    replace G := own_lloadN (q := 44) G X170.here hx (hb hby at_43) rfl rfl
    have F174 : Exa Z T170.heap b164 "com/example/crossbill/crossbill/csv/RecordSpans" := (F171.keep K170q)
    obtain ⟨cq173, kq173, q173a, q173b, q173c⟩ := isOf hZ rfl F174
    obtain ⟨_, _, ⟨T173, L173, kk173, nn173⟩, -, X173, ⟨Lc173, hQ173, l173, y173, z173⟩, st173⟩ := X170.virtualBack hx (y := (⟨"com/example/crossbill/crossbill/csv/RecordSpans", "add", "(JJJ)V"⟩ : MethodName)) (z := (⟨"com/example/crossbill/crossbill/csv/RecordSpans", "add", "(JJJ)V"⟩ : MethodName)) hown (mvT hZ (hw _ (List.mem_of_getElem? (i := 42) rfl))) (mvT hZ (hw _ (List.mem_of_getElem? (i := 43) rfl))) (notFace_of_selects (args := #[]) (mvT hZ (hw _ (List.mem_of_getElem? (i := 45) rfl)))) (mvT hZ (hw _ (List.mem_of_getElem? (i := 45) rfl))) (mvT hZ (hw _ (List.mem_of_getElem? (i := 44) rfl))) (by decide) (backOf (W := 0) (rm7s1 l Z a0 hw [] b164 i2 b1_165 b2_165 b3_165 k1_165 k2_165 k3_165 i1 T170.heap n0 Z170 B170_0 B170_1 B170_2 B170_3 B170_4 F174 B170_5 B170_6 B170_7 ge_b164 ge_b1_165 ge_b2_165 ge_b3_165 ne166 ne167 ne168 B165_11 B165_12 B165_13) hZ (hw _ (List.mem_of_getElem? (i := 46) rfl)) (hw _ (List.mem_of_getElem? (i := 3) rfl)) (by decide) (by decide)) q173a q173c (g := (mkF m 44 #[.val (.int i0), .val (.long i1), .second, .val (.long i2), .second, .val (.long i3), .second, .val (.long i4), .second, .val (.int (4 : Int32)), .val (.ref b164), .unset, .unset] [(.long i2), (.long (2 : Int64)), (.long (1 : Int64)), (.ref b164)])) rfl (by rw [hml]; rfl) (Steps.refl _) (argsL := [(.long (1 : Int64)), (.long (2 : Int64)), (.long i2)]) (rest := []) (lenOf pd_5 rfl) rfl (by show 2 * 0 + _ ≤ _; exact Nat.le_of_eq rfl) (hb hby at_44) (fun _ _ => ⟨rfl, rfl, (by decide : 4 + 0 ≤ _), (by decide : 53 + 0 ≤ _)⟩)
    dsimp only [Pt.U, Pt.locs, Pt.cells, Pt.slots] at X173 l173 y173 z173 st173 hQ173
    subst l173 y173 z173
    obtain ⟨rfl, N173q, K173q, B173_0, B173_1, B173_2, B173_3, B173_4, B173_5, B173_6, B173_7⟩ := hQ173
    have Z173 : n0 ≤ T173.heap.size := Nat.le_trans Z170 K173q.1
    have N173 := Fr.app N170 N173q
    replace G : Gets p e below _ (T173.setTop (mkF m 47 #[.val (.int i0), .val (.long i1), .second, .val (.long i2), .second, .val (.long i3), .second, .val (.long i4), .second, .val (.int (4 : Int32)), .val (.ref b164), .unset, .unset] [])) := fun t k => G t (st173.trans k)
    replace G := own_iload (q := 49) G X173.here hx (hb hby at_47) rfl rfl
    replace G := own_iconst (q := 50) G X173.here hx (hb hby at_49) (v := (2 : Int32)) (by decide) rfl
    have hc50_175 : (2 : Int32) < (4 : Int32) := by decide
    replace G := own_icmpNo (q := 53) G X173.here hx (hb hby at_50) (tlt hc50_175).2.2.2 rfl
    replace G := own_aload (q := 55) G X173.here hx (hb hby at_53) rfl rfl rfl
    replace G : Gets p e below _ (T173.setTop (mkF m 58 #[.val (.int i0), .val (.long i1), .second, .val (.long i2), .second, .val (.long i3), .second, .val (.long i4), .second, .val (.int (4 : Int32)), .val (.ref b164), .unset, .unset] [(.long (2 : Int64)), (.ref b164)])) := fun t k => G t (X173.ldc2Long hx hown (mvT hZ (hw _ (List.mem_of_getElem? (i := 47) rfl))) (g := (mkF m 55 #[.val (.int i0), .val (.long i1), .second, .val (.long i2), .second, .val (.long i3), .second, .val (.long i4), .second, .val (.int (4 : Int32)), .val (.ref b164), .unset, .unset] [(.ref b164)])) rfl (hb hby at_55) t k)
    replace G : Gets p e below _ (T173.setTop (mkF m 61 #[.val (.int i0), .val (.long i1), .second, .val (.long i2), .second, .val (.long i3), .second, .val (.long i4), .second, .val (.int (4 : Int32)), .val (.ref b164), .unset, .unset] [(.long (3 : Int64)), (.long (2 : Int64)), (.ref b164)])) := fun t k => G t (X173.ldc2Long hx hown (mvT hZ (hw _ (List.mem_of_getElem? (i := 48) rfl))) (g := (mkF m 58 #[.val (.int i0), .val (.long i1), .second, .val (.long i2), .second, .val (.long i3), .second, .val (.long i4), .second, .val (.int (4 : Int32)), .val (.ref b164), .unset, .unset] [(.long (2 : Int64)), (.ref b164)])) rfl (hb hby at_58) t k)
    replace G := own_lload (q := 63) G X173.here hx (hb hby at_61) rfl rfl
    have F177 : Exa Z T173.heap b164 "com/example/crossbill/crossbill/csv/RecordSpans" := (F174.keep K173q)
    obtain ⟨cq176, kq176, q176a, q176b, q176c⟩ := isOf hZ rfl F177
    obtain ⟨_, _, ⟨T176, L176, kk176, nn176⟩, -, X176, ⟨Lc176, hQ176, l176, y176, z176⟩, st176⟩ := X173.virtualBack hx (y := (⟨"com/example/crossbill/crossbill/csv/RecordSpans", "add", "(JJJ)V"⟩ : MethodName)) (z := (⟨"com/example/crossbill/crossbill/csv/RecordSpans", "add", "(JJJ)V"⟩ : MethodName)) hown (mvT hZ (hw _ (List.mem_of_getElem? (i := 42) rfl))) (mvT hZ (hw _ (List.mem_of_getElem? (i := 43) rfl))) (notFace_of_selects (args := #[]) (mvT hZ (hw _ (List.mem_of_getElem? (i := 45) rfl)))) (mvT hZ (hw _ (List.mem_of_getElem? (i := 45) rfl))) (mvT hZ (hw _ (List.mem_of_getElem? (i := 44) rfl))) (by decide) (backOf (W := 0) (rm7s2 l Z a0 hw [] b164 i3 b1_165 b2_165 b3_165 k1_165 k2_165 k3_165 i1 i2 T173.heap n0 Z173 B173_0 B173_1 B173_2 B173_3 B173_4 F177 B173_5 B173_6 B173_7 ge_b164 ge_b1_165 ge_b2_165 ge_b3_165 ne166 ne167 ne168 B165_11 B165_12 B165_13) hZ (hw _ (List.mem_of_getElem? (i := 46) rfl)) (hw _ (List.mem_of_getElem? (i := 3) rfl)) (by decide) (by decide)) q176a q176c (g := (mkF m 63 #[.val (.int i0), .val (.long i1), .second, .val (.long i2), .second, .val (.long i3), .second, .val (.long i4), .second, .val (.int (4 : Int32)), .val (.ref b164), .unset, .unset] [(.long i3), (.long (3 : Int64)), (.long (2 : Int64)), (.ref b164)])) rfl (by rw [hml]; rfl) (Steps.refl _) (argsL := [(.long (2 : Int64)), (.long (3 : Int64)), (.long i3)]) (rest := []) (lenOf pd_5 rfl) rfl (by show 2 * 0 + _ ≤ _; exact Nat.le_of_eq rfl) (hb hby at_63) (fun _ _ => ⟨rfl, rfl, (by decide : 4 + 0 ≤ _), (by decide : 53 + 0 ≤ _)⟩)
    dsimp only [Pt.U, Pt.locs, Pt.cells, Pt.slots] at X176 l176 y176 z176 st176 hQ176
    subst l176 y176 z176
    obtain ⟨rfl, N176q, K176q, B176_0, B176_1, B176_2, B176_3, B176_4, B176_5, B176_6, B176_7⟩ := hQ176
    have Z176 : n0 ≤ T176.heap.size := Nat.le_trans Z173 K176q.1
    have N176 := Fr.app N173 N176q
    replace G : Gets p e below _ (T176.setTop (mkF m 66 #[.val (.int i0), .val (.long i1), .second, .val (.long i2), .second, .val (.long i3), .second, .val (.long i4), .second, .val (.int (4 : Int32)), .val (.ref b164), .unset, .unset] [])) := fun t k => G t (st176.trans k)
    replace G := own_iload (q := 68) G X176.here hx (hb hby at_66) rfl rfl
    replace G := own_iconst (q := 69) G X176.here hx (hb hby at_68) (v := (3 : Int32)) (by decide) rfl
    have hc69_178 : (3 : Int32) < (4 : Int32) := by decide
    replace G := own_icmpNo (q := 72) G X176.here hx (hb hby at_69) (tlt hc69_178).2.2.2 rfl
    replace G := own_aload (q := 74) G X176.here hx (hb hby at_72) rfl rfl rfl
    replace G : Gets p e below _ (T176.setTop (mkF m 77 #[.val (.int i0), .val (.long i1), .second, .val (.long i2), .second, .val (.long i3), .second, .val (.long i4), .second, .val (.int (4 : Int32)), .val (.ref b164), .unset, .unset] [(.long (3 : Int64)), (.ref b164)])) := fun t k => G t (X176.ldc2Long hx hown (mvT hZ (hw _ (List.mem_of_getElem? (i := 48) rfl))) (g := (mkF m 74 #[.val (.int i0), .val (.long i1), .second, .val (.long i2), .second, .val (.long i3), .second, .val (.long i4), .second, .val (.int (4 : Int32)), .val (.ref b164), .unset, .unset] [(.ref b164)])) rfl (hb hby at_74) t k)
    replace G : Gets p e below _ (T176.setTop (mkF m 80 #[.val (.int i0), .val (.long i1), .second, .val (.long i2), .second, .val (.long i3), .second, .val (.long i4), .second, .val (.int (4 : Int32)), .val (.ref b164), .unset, .unset] [(.long (4 : Int64)), (.long (3 : Int64)), (.ref b164)])) := fun t k => G t (X176.ldc2Long hx hown (mvT hZ (hw _ (List.mem_of_getElem? (i := 50) rfl))) (g := (mkF m 77 #[.val (.int i0), .val (.long i1), .second, .val (.long i2), .second, .val (.long i3), .second, .val (.long i4), .second, .val (.int (4 : Int32)), .val (.ref b164), .unset, .unset] [(.long (3 : Int64)), (.ref b164)])) rfl (hb hby at_77) t k)
    replace G := own_lload (q := 82) G X176.here hx (hb hby at_80) rfl rfl
    have F180 : Exa Z T176.heap b164 "com/example/crossbill/crossbill/csv/RecordSpans" := (F177.keep K176q)
    obtain ⟨cq179, kq179, q179a, q179b, q179c⟩ := isOf hZ rfl F180
    obtain ⟨_, _, ⟨T179, L179, kk179, nn179⟩, -, X179, ⟨Lc179, hQ179, l179, y179, z179⟩, st179⟩ := X176.virtualBack hx (y := (⟨"com/example/crossbill/crossbill/csv/RecordSpans", "add", "(JJJ)V"⟩ : MethodName)) (z := (⟨"com/example/crossbill/crossbill/csv/RecordSpans", "add", "(JJJ)V"⟩ : MethodName)) hown (mvT hZ (hw _ (List.mem_of_getElem? (i := 42) rfl))) (mvT hZ (hw _ (List.mem_of_getElem? (i := 43) rfl))) (notFace_of_selects (args := #[]) (mvT hZ (hw _ (List.mem_of_getElem? (i := 45) rfl)))) (mvT hZ (hw _ (List.mem_of_getElem? (i := 45) rfl))) (mvT hZ (hw _ (List.mem_of_getElem? (i := 44) rfl))) (by decide) (backOf (W := 0) (rm7s3 l Z a0 hw [] b164 i4 b1_165 b2_165 b3_165 k1_165 k2_165 k3_165 i1 i2 i3 T176.heap n0 Z176 B176_0 B176_1 B176_2 B176_3 B176_4 F180 B176_5 B176_6 B176_7 ge_b164 ge_b1_165 ge_b2_165 ge_b3_165 ne166 ne167 ne168 B165_11 B165_12 B165_13) hZ (hw _ (List.mem_of_getElem? (i := 46) rfl)) (hw _ (List.mem_of_getElem? (i := 3) rfl)) (by decide) (by decide)) q179a q179c (g := (mkF m 82 #[.val (.int i0), .val (.long i1), .second, .val (.long i2), .second, .val (.long i3), .second, .val (.long i4), .second, .val (.int (4 : Int32)), .val (.ref b164), .unset, .unset] [(.long i4), (.long (4 : Int64)), (.long (3 : Int64)), (.ref b164)])) rfl (by rw [hml]; rfl) (Steps.refl _) (argsL := [(.long (3 : Int64)), (.long (4 : Int64)), (.long i4)]) (rest := []) (lenOf pd_5 rfl) rfl (by show 2 * 0 + _ ≤ _; exact Nat.le_of_eq rfl) (hb hby at_82) (fun _ _ => ⟨rfl, rfl, (by decide : 4 + 0 ≤ _), (by decide : 53 + 0 ≤ _)⟩)
    dsimp only [Pt.U, Pt.locs, Pt.cells, Pt.slots] at X179 l179 y179 z179 st179 hQ179
    subst l179 y179 z179
    obtain ⟨rfl, N179q, K179q, B179_0, B179_1, B179_2, B179_3, B179_4, B179_5, B179_6, B179_7⟩ := hQ179
    have Z179 : n0 ≤ T179.heap.size := Nat.le_trans Z176 K179q.1
    have N179 := Fr.app N176 N179q
    replace G : Gets p e below _ (T179.setTop (mkF m 85 #[.val (.int i0), .val (.long i1), .second, .val (.long i2), .second, .val (.long i3), .second, .val (.long i4), .second, .val (.int (4 : Int32)), .val (.ref b164), .unset, .unset] [])) := fun t k => G t (st179.trans k)
    replace G := own_aload (q := 87) G X179.here hx (hb hby at_85) rfl rfl rfl
    have F182 : Exa Z T179.heap b164 "com/example/crossbill/crossbill/csv/RecordSpans" := (F180.keep K179q)
    obtain ⟨cq181, kq181, q181a, q181b, q181c⟩ := isOf hZ rfl F182
    obtain ⟨_, _, ⟨T181, L181, kk181, nn181⟩, -, X181, ⟨Lc181, hQ181, l181, y181, z181⟩, st181⟩ := X179.virtualBack hx (y := (⟨"com/example/crossbill/crossbill/csv/RecordSpans", "lines", "()[J"⟩ : MethodName)) (z := (⟨"com/example/crossbill/crossbill/csv/RecordSpans", "lines", "()[J"⟩ : MethodName)) hown (mvT hZ (hw _ (List.mem_of_getElem? (i := 19) rfl))) (mvT hZ (hw _ (List.mem_of_getElem? (i := 20) rfl))) (notFace_of_selects (args := #[]) (mvT hZ (hw _ (List.mem_of_getElem? (i := 22) rfl)))) (mvT hZ (hw _ (List.mem_of_getElem? (i := 22) rfl))) (mvT hZ (hw _ (List.mem_of_getElem? (i := 21) rfl))) (by decide) (backOf (W := 0) (rm3k4 l Z a0 hw [] b164 b3_165 k3_165 i1 i2 i3 i4 T179.heap n0 Z179 B179_0 B179_3 B179_7) hZ (hw _ (List.mem_of_getElem? (i := 23) rfl)) (hw _ (List.mem_of_getElem? (i := 3) rfl)) (by decide) (by decide)) q181a q181c (g := (mkF m 87 #[.val (.int i0), .val (.long i1), .second, .val (.long i2), .second, .val (.long i3), .second, .val (.long i4), .second, .val (.int (4 : Int32)), .val (.ref b164), .unset, .unset] [(.ref b164)])) rfl (by rw [hml]; rfl) (Steps.refl _) (argsL := []) (rest := []) (lenOf pd_3 rfl) rfl (by show 2 * 0 + _ ≤ _; exact Nat.le_of_eq rfl) (hb hby at_87) (fun _ _ => ⟨rfl, rfl, (by decide : 4 + 1 ≤ _), (by decide : 53 + 4 ≤ _)⟩)
    dsimp only [Pt.U, Pt.locs, Pt.cells, Pt.slots] at X181 l181 y181 z181 st181 hQ181
    subst l181 y181 z181
    obtain ⟨b_181, kb_181, rfl, N181q, K181q, B181_0, B181_1⟩ := hQ181
    have ne183 : b3_165 ≠ b_181 := Nat.ne_of_lt (Nat.lt_of_lt_of_le B179_7.lt B181_0)
    have ne184 : b2_165 ≠ b_181 := Nat.ne_of_lt (Nat.lt_of_lt_of_le B179_6.lt B181_0)
    have ne185 : b1_165 ≠ b_181 := Nat.ne_of_lt (Nat.lt_of_lt_of_le B179_5.lt B181_0)
    have ne186 : b164 ≠ b_181 := Nat.ne_of_lt (Nat.lt_of_lt_of_le B179_4.lt B181_0)
    have ge_b_181 : n0 ≤ b_181 := Nat.le_trans Z179 B181_0
    have Z181 : n0 ≤ T181.heap.size := Nat.le_trans Z179 K181q.1
    have N181 := Fr.app N179 N181q
    replace G : Gets p e below _ (T181.setTop (mkF m 90 #[.val (.int i0), .val (.long i1), .second, .val (.long i2), .second, .val (.long i3), .second, .val (.long i4), .second, .val (.int (4 : Int32)), .val (.ref b164), .unset, .unset] [(.ref b_181)])) := fun t k => G t (st181.trans k)
    replace G := own_astore (q := 92) (l' := #[.val (.int i0), .val (.long i1), .second, .val (.long i2), .second, .val (.long i3), .second, .val (.long i4), .second, .val (.int (4 : Int32)), .val (.ref b164), .val (.ref b_181), .unset]) G X181.here hx (hb hby at_90) rfl rfl rfl
    replace G := own_aload (q := 94) G X181.here hx (hb hby at_92) rfl rfl rfl
    replace G := own_iload (q := 96) G X181.here hx (hb hby at_94) rfl rfl
    replace G := own_lloadN (q := 97) G X181.here hx (hb hby at_96) rfl rfl
    replace G := own_lloadN (q := 98) G X181.here hx (hb hby at_97) rfl rfl
    replace G := own_lload (q := 100) G X181.here hx (hb hby at_98) rfl rfl
    replace G := own_lload (q := 102) G X181.here hx (hb hby at_100) rfl rfl
    obtain ⟨_, _, ⟨T187, L187, kk187, nn187⟩, -, X187, ⟨Lc187, hQ187, l187, y187, z187⟩, st187⟩ := Jvm.LawKit.callS X181 hx (y := (⟨"com/example/crossbill/crossbill/csv/RecordSpansLinesPinLaw", "same", "([JIJJJJ)Z"⟩ : MethodName)) hown (mvT hZ (hw _ (List.mem_of_getElem? (i := 38) rfl))) (mvT hZ (hw _ (List.mem_of_getElem? (i := 39) rfl))) (mvT hZ (hw _ (List.mem_of_getElem? (i := 40) rfl))) (mvT hZ (hw _ (List.mem_of_getElem? (i := 41) rfl))) (by decide) (backOf (W := 0) (rm6k4 l Z a0 hw [] b_181 i1 i2 i3 i4 kb_181 T181.heap n0 Z181 B181_1) hZ (hw _ (List.mem_of_getElem? (i := 41) rfl)) (hw _ (List.mem_of_getElem? (i := 40) rfl)) (by decide) (by decide)) (g := (mkF m 102 #[.val (.int i0), .val (.long i1), .second, .val (.long i2), .second, .val (.long i3), .second, .val (.long i4), .second, .val (.int (4 : Int32)), .val (.ref b164), .val (.ref b_181), .unset] [(.long i4), (.long i3), (.long i2), (.long i1), (.int (4 : Int32)), (.ref b_181)])) rfl (by rw [hml]; rfl) (argsL := [(.ref b_181), (.int (4 : Int32)), (.long i1), (.long i2), (.long i3), (.long i4)]) (rest := []) (lenOf pd_4 rfl) rfl (by show 2 * 0 + _ ≤ _; exact Nat.le_of_eq rfl) (hb hby at_102) (fun _ _ => ⟨rfl, rfl, (by decide : 5 + 0 ≤ _), (by decide : 57 + 0 ≤ _)⟩)
    dsimp only [Pt.U, Pt.locs, Pt.cells, Pt.slots] at X187 l187 y187 z187 st187 hQ187
    subst l187 y187 z187
    obtain ⟨rfl, N187q, e187⟩ := hQ187
    have N187 := Fr.app N181 N187q
    replace G : Gets p e below _ (T187.setTop (mkF m 105 #[.val (.int i0), .val (.long i1), .second, .val (.long i2), .second, .val (.long i3), .second, .val (.long i4), .second, .val (.int (4 : Int32)), .val (.ref b164), .val (.ref b_181), .unset] [(.int (1 : Int32))])) := fun t k => G t (st187 t k)
    have hc105_188 : ¬ ((1 : Int32) = (0 : Int32)) := by decide
    replace G := own_ifYes (q := 110) G X187.here hx (hb hby at_105) ((if0 _ _).trans (feq hc105_188).2) (by decide) (by decide)
    replace G := own_iload (q := 112) G X187.here hx (hb hby at_110) rfl rfl
    have hc112_189 : (0 : Int32) < (4 : Int32) := by decide
    replace G := own_ifNo (q := 115) G X187.here hx (hb hby at_112) ((if0 _ _).trans (tlt hc112_189).2.2.2) rfl
    replace G := own_aload (q := 117) G X187.here hx (hb hby at_115) rfl rfl rfl
    replace G := own_iconst (q := 118) G X187.here hx (hb hby at_117) (v := (0 : Int32)) (by decide) rfl
    replace G := own_aload (q := 120) G X187.here hx (hb hby at_118) rfl rfl rfl
    replace G := own_iconst (q := 121) G X187.here hx (hb hby at_120) (v := (0 : Int32)) (by decide) rfl
    obtain ⟨c190, Ar190, -, S190, -, H190, -⟩ := id B181_1
    have hin190 : ¬ ((0 : Int32) < 0 ∨ c190.slots.size ≤ ((0 : Int32)).toNatClampNeg) := inb_of S190 ⟨by decide, by decide⟩
    replace G : Gets p e below _ (T187.setTop (mkF m 122 #[.val (.int i0), .val (.long i1), .second, .val (.long i2), .second, .val (.long i3), .second, .val (.long i4), .second, .val (.int (4 : Int32)), .val (.ref b164), .val (.ref b_181), .unset] [(.long i1), (.int (0 : Int32)), (.ref b_181)])) := fun t k => G t (X187.laload hx (j := (0 : Int32)) (v := (.long i1)) (by rw [e187]; exact Ar190.1) (State.isArrayOf_alike hZ.alike Ar190.2.1) Ar190.2.2 hin190 (Has.at H190 hin190 rfl) (g := (mkF m 121 #[.val (.int i0), .val (.long i1), .second, .val (.long i2), .second, .val (.long i3), .second, .val (.long i4), .second, .val (.int (4 : Int32)), .val (.ref b164), .val (.ref b_181), .unset] [(.int (0 : Int32)), (.ref b_181), (.int (0 : Int32)), (.ref b_181)])) rfl rfl (hb hby at_121) t k)
    replace G : Gets p e below _ (T187.setTop (mkF m 125 #[.val (.int i0), .val (.long i1), .second, .val (.long i2), .second, .val (.long i3), .second, .val (.long i4), .second, .val (.int (4 : Int32)), .val (.ref b164), .val (.ref b_181), .unset] [(.long (-1 : Int64)), (.long i1), (.int (0 : Int32)), (.ref b_181)])) := fun t k => G t (X187.ldc2Long hx hown (mvT hZ (hw _ (List.mem_of_getElem? (i := 49) rfl))) (g := (mkF m 122 #[.val (.int i0), .val (.long i1), .second, .val (.long i2), .second, .val (.long i3), .second, .val (.long i4), .second, .val (.int (4 : Int32)), .val (.ref b164), .val (.ref b_181), .unset] [(.long i1), (.int (0 : Int32)), (.ref b_181)])) rfl (hb hby at_122) t k)
    replace G := own_lxor (q := 126) G X187.here hx (hb hby at_125) rfl rfl
    obtain ⟨c191, Ar191, q191, S191, N191', H191, G191'⟩ := id B181_1
    have hin191 : ¬ ((0 : Int32) < 0 ∨ c191.slots.size ≤ ((0 : Int32)).toNatClampNeg) := inb_of S191 ⟨by decide, by decide⟩
    obtain ⟨T191, h191, X191, e191, W191, st191⟩ := stJ X187 hx hZ e187 Ar191 (j := (0 : Int32)) hin191 (g := (mkF m 126 #[.val (.int i0), .val (.long i1), .second, .val (.long i2), .second, .val (.long i3), .second, .val (.long i4), .second, .val (.int (4 : Int32)), .val (.ref b164), .val (.ref b_181), .unset] [(.long (i1 ^^^ (-1 : Int64))), (.int (0 : Int32)), (.ref b_181)])) rfl rfl (hb hby at_126)
    have N191 := Fr.snoc X191 N187 ge_b_181
    have Z191 : n0 ≤ h191.size := Nat.le_trans Z181 (Keep.of_wr W191).1
    have V191 : Arv Z h191 b_181 kb_181 .long (4 : Int32) [(.long (i1 ^^^ (-1 : Int64))), (.long i2), (.long i3), (.long i4)] (.long (0 : Int64)) := Arv.set Ar191 q191 S191 N191' H191 G191' rfl W191 0 rfl (Nat.le_of_ble_eq_true rfl)
    replace G : Gets p e below _ (T191.setTop (mkF m 127 #[.val (.int i0), .val (.long i1), .second, .val (.long i2), .second, .val (.long i3), .second, .val (.long i4), .second, .val (.int (4 : Int32)), .val (.ref b164), .val (.ref b_181), .unset] [])) := fun t k => G t (st191 t k)
    replace G := own_iload (q := 129) G X191.here hx (hb hby at_127) rfl rfl
    replace G := own_iconst (q := 130) G X191.here hx (hb hby at_129) (v := (1 : Int32)) (by decide) rfl
    have hc130_192 : (1 : Int32) < (4 : Int32) := by decide
    replace G := own_icmpNo (q := 133) G X191.here hx (hb hby at_130) (tlt hc130_192).2.2.2 rfl
    replace G := own_aload (q := 135) G X191.here hx (hb hby at_133) rfl rfl rfl
    replace G := own_iconst (q := 136) G X191.here hx (hb hby at_135) (v := (1 : Int32)) (by decide) rfl
    replace G := own_aload (q := 138) G X191.here hx (hb hby at_136) rfl rfl rfl
    replace G := own_iconst (q := 139) G X191.here hx (hb hby at_138) (v := (1 : Int32)) (by decide) rfl
    obtain ⟨c193, Ar193, -, S193, -, H193, -⟩ := id V191
    have hin193 : ¬ ((1 : Int32) < 0 ∨ c193.slots.size ≤ ((1 : Int32)).toNatClampNeg) := inb_of S193 ⟨by decide, by decide⟩
    replace G : Gets p e below _ (T191.setTop (mkF m 140 #[.val (.int i0), .val (.long i1), .second, .val (.long i2), .second, .val (.long i3), .second, .val (.long i4), .second, .val (.int (4 : Int32)), .val (.ref b164), .val (.ref b_181), .unset] [(.long i2), (.int (1 : Int32)), (.ref b_181)])) := fun t k => G t (X191.laload hx (j := (1 : Int32)) (v := (.long i2)) (by rw [e191]; exact Ar193.1) (State.isArrayOf_alike hZ.alike Ar193.2.1) Ar193.2.2 hin193 (Has.at H193 hin193 rfl) (g := (mkF m 139 #[.val (.int i0), .val (.long i1), .second, .val (.long i2), .second, .val (.long i3), .second, .val (.long i4), .second, .val (.int (4 : Int32)), .val (.ref b164), .val (.ref b_181), .unset] [(.int (1 : Int32)), (.ref b_181), (.int (1 : Int32)), (.ref b_181)])) rfl rfl (hb hby at_139) t k)
    replace G : Gets p e below _ (T191.setTop (mkF m 143 #[.val (.int i0), .val (.long i1), .second, .val (.long i2), .second, .val (.long i3), .second, .val (.long i4), .second, .val (.int (4 : Int32)), .val (.ref b164), .val (.ref b_181), .unset] [(.long (-1 : Int64)), (.long i2), (.int (1 : Int32)), (.ref b_181)])) := fun t k => G t (X191.ldc2Long hx hown (mvT hZ (hw _ (List.mem_of_getElem? (i := 49) rfl))) (g := (mkF m 140 #[.val (.int i0), .val (.long i1), .second, .val (.long i2), .second, .val (.long i3), .second, .val (.long i4), .second, .val (.int (4 : Int32)), .val (.ref b164), .val (.ref b_181), .unset] [(.long i2), (.int (1 : Int32)), (.ref b_181)])) rfl (hb hby at_140) t k)
    replace G := own_lxor (q := 144) G X191.here hx (hb hby at_143) rfl rfl
    obtain ⟨c194, Ar194, q194, S194, N194', H194, G194'⟩ := id V191
    have hin194 : ¬ ((1 : Int32) < 0 ∨ c194.slots.size ≤ ((1 : Int32)).toNatClampNeg) := inb_of S194 ⟨by decide, by decide⟩
    obtain ⟨T194, h194, X194, e194, W194, st194⟩ := stJ X191 hx hZ e191 Ar194 (j := (1 : Int32)) hin194 (g := (mkF m 144 #[.val (.int i0), .val (.long i1), .second, .val (.long i2), .second, .val (.long i3), .second, .val (.long i4), .second, .val (.int (4 : Int32)), .val (.ref b164), .val (.ref b_181), .unset] [(.long (i2 ^^^ (-1 : Int64))), (.int (1 : Int32)), (.ref b_181)])) rfl rfl (hb hby at_144)
    have N194 := Fr.snoc X194 N191 ge_b_181
    have Z194 : n0 ≤ h194.size := Nat.le_trans Z191 (Keep.of_wr W194).1
    have V194 : Arv Z h194 b_181 kb_181 .long (4 : Int32) [(.long (i1 ^^^ (-1 : Int64))), (.long (i2 ^^^ (-1 : Int64))), (.long i3), (.long i4)] (.long (0 : Int64)) := Arv.set Ar194 q194 S194 N194' H194 G194' rfl W194 1 rfl (Nat.le_of_ble_eq_true rfl)
    replace G : Gets p e below _ (T194.setTop (mkF m 145 #[.val (.int i0), .val (.long i1), .second, .val (.long i2), .second, .val (.long i3), .second, .val (.long i4), .second, .val (.int (4 : Int32)), .val (.ref b164), .val (.ref b_181), .unset] [])) := fun t k => G t (st194 t k)
    replace G := own_iload (q := 147) G X194.here hx (hb hby at_145) rfl rfl
    replace G := own_iconst (q := 148) G X194.here hx (hb hby at_147) (v := (2 : Int32)) (by decide) rfl
    have hc148_195 : (2 : Int32) < (4 : Int32) := by decide
    replace G := own_icmpNo (q := 151) G X194.here hx (hb hby at_148) (tlt hc148_195).2.2.2 rfl
    replace G := own_aload (q := 153) G X194.here hx (hb hby at_151) rfl rfl rfl
    replace G := own_iconst (q := 154) G X194.here hx (hb hby at_153) (v := (2 : Int32)) (by decide) rfl
    replace G := own_aload (q := 156) G X194.here hx (hb hby at_154) rfl rfl rfl
    replace G := own_iconst (q := 157) G X194.here hx (hb hby at_156) (v := (2 : Int32)) (by decide) rfl
    obtain ⟨c196, Ar196, -, S196, -, H196, -⟩ := id V194
    have hin196 : ¬ ((2 : Int32) < 0 ∨ c196.slots.size ≤ ((2 : Int32)).toNatClampNeg) := inb_of S196 ⟨by decide, by decide⟩
    replace G : Gets p e below _ (T194.setTop (mkF m 158 #[.val (.int i0), .val (.long i1), .second, .val (.long i2), .second, .val (.long i3), .second, .val (.long i4), .second, .val (.int (4 : Int32)), .val (.ref b164), .val (.ref b_181), .unset] [(.long i3), (.int (2 : Int32)), (.ref b_181)])) := fun t k => G t (X194.laload hx (j := (2 : Int32)) (v := (.long i3)) (by rw [e194]; exact Ar196.1) (State.isArrayOf_alike hZ.alike Ar196.2.1) Ar196.2.2 hin196 (Has.at H196 hin196 rfl) (g := (mkF m 157 #[.val (.int i0), .val (.long i1), .second, .val (.long i2), .second, .val (.long i3), .second, .val (.long i4), .second, .val (.int (4 : Int32)), .val (.ref b164), .val (.ref b_181), .unset] [(.int (2 : Int32)), (.ref b_181), (.int (2 : Int32)), (.ref b_181)])) rfl rfl (hb hby at_157) t k)
    replace G : Gets p e below _ (T194.setTop (mkF m 161 #[.val (.int i0), .val (.long i1), .second, .val (.long i2), .second, .val (.long i3), .second, .val (.long i4), .second, .val (.int (4 : Int32)), .val (.ref b164), .val (.ref b_181), .unset] [(.long (-1 : Int64)), (.long i3), (.int (2 : Int32)), (.ref b_181)])) := fun t k => G t (X194.ldc2Long hx hown (mvT hZ (hw _ (List.mem_of_getElem? (i := 49) rfl))) (g := (mkF m 158 #[.val (.int i0), .val (.long i1), .second, .val (.long i2), .second, .val (.long i3), .second, .val (.long i4), .second, .val (.int (4 : Int32)), .val (.ref b164), .val (.ref b_181), .unset] [(.long i3), (.int (2 : Int32)), (.ref b_181)])) rfl (hb hby at_158) t k)
    replace G := own_lxor (q := 162) G X194.here hx (hb hby at_161) rfl rfl
    obtain ⟨c197, Ar197, q197, S197, N197', H197, G197'⟩ := id V194
    have hin197 : ¬ ((2 : Int32) < 0 ∨ c197.slots.size ≤ ((2 : Int32)).toNatClampNeg) := inb_of S197 ⟨by decide, by decide⟩
    obtain ⟨T197, h197, X197, e197, W197, st197⟩ := stJ X194 hx hZ e194 Ar197 (j := (2 : Int32)) hin197 (g := (mkF m 162 #[.val (.int i0), .val (.long i1), .second, .val (.long i2), .second, .val (.long i3), .second, .val (.long i4), .second, .val (.int (4 : Int32)), .val (.ref b164), .val (.ref b_181), .unset] [(.long (i3 ^^^ (-1 : Int64))), (.int (2 : Int32)), (.ref b_181)])) rfl rfl (hb hby at_162)
    have N197 := Fr.snoc X197 N194 ge_b_181
    have Z197 : n0 ≤ h197.size := Nat.le_trans Z194 (Keep.of_wr W197).1
    have V197 : Arv Z h197 b_181 kb_181 .long (4 : Int32) [(.long (i1 ^^^ (-1 : Int64))), (.long (i2 ^^^ (-1 : Int64))), (.long (i3 ^^^ (-1 : Int64))), (.long i4)] (.long (0 : Int64)) := Arv.set Ar197 q197 S197 N197' H197 G197' rfl W197 2 rfl (Nat.le_of_ble_eq_true rfl)
    replace G : Gets p e below _ (T197.setTop (mkF m 163 #[.val (.int i0), .val (.long i1), .second, .val (.long i2), .second, .val (.long i3), .second, .val (.long i4), .second, .val (.int (4 : Int32)), .val (.ref b164), .val (.ref b_181), .unset] [])) := fun t k => G t (st197 t k)
    replace G := own_iload (q := 165) G X197.here hx (hb hby at_163) rfl rfl
    replace G := own_iconst (q := 166) G X197.here hx (hb hby at_165) (v := (3 : Int32)) (by decide) rfl
    have hc166_198 : (3 : Int32) < (4 : Int32) := by decide
    replace G := own_icmpNo (q := 169) G X197.here hx (hb hby at_166) (tlt hc166_198).2.2.2 rfl
    replace G := own_aload (q := 171) G X197.here hx (hb hby at_169) rfl rfl rfl
    replace G := own_iconst (q := 172) G X197.here hx (hb hby at_171) (v := (3 : Int32)) (by decide) rfl
    replace G := own_aload (q := 174) G X197.here hx (hb hby at_172) rfl rfl rfl
    replace G := own_iconst (q := 175) G X197.here hx (hb hby at_174) (v := (3 : Int32)) (by decide) rfl
    obtain ⟨c199, Ar199, -, S199, -, H199, -⟩ := id V197
    have hin199 : ¬ ((3 : Int32) < 0 ∨ c199.slots.size ≤ ((3 : Int32)).toNatClampNeg) := inb_of S199 ⟨by decide, by decide⟩
    replace G : Gets p e below _ (T197.setTop (mkF m 176 #[.val (.int i0), .val (.long i1), .second, .val (.long i2), .second, .val (.long i3), .second, .val (.long i4), .second, .val (.int (4 : Int32)), .val (.ref b164), .val (.ref b_181), .unset] [(.long i4), (.int (3 : Int32)), (.ref b_181)])) := fun t k => G t (X197.laload hx (j := (3 : Int32)) (v := (.long i4)) (by rw [e197]; exact Ar199.1) (State.isArrayOf_alike hZ.alike Ar199.2.1) Ar199.2.2 hin199 (Has.at H199 hin199 rfl) (g := (mkF m 175 #[.val (.int i0), .val (.long i1), .second, .val (.long i2), .second, .val (.long i3), .second, .val (.long i4), .second, .val (.int (4 : Int32)), .val (.ref b164), .val (.ref b_181), .unset] [(.int (3 : Int32)), (.ref b_181), (.int (3 : Int32)), (.ref b_181)])) rfl rfl (hb hby at_175) t k)
    replace G : Gets p e below _ (T197.setTop (mkF m 179 #[.val (.int i0), .val (.long i1), .second, .val (.long i2), .second, .val (.long i3), .second, .val (.long i4), .second, .val (.int (4 : Int32)), .val (.ref b164), .val (.ref b_181), .unset] [(.long (-1 : Int64)), (.long i4), (.int (3 : Int32)), (.ref b_181)])) := fun t k => G t (X197.ldc2Long hx hown (mvT hZ (hw _ (List.mem_of_getElem? (i := 49) rfl))) (g := (mkF m 176 #[.val (.int i0), .val (.long i1), .second, .val (.long i2), .second, .val (.long i3), .second, .val (.long i4), .second, .val (.int (4 : Int32)), .val (.ref b164), .val (.ref b_181), .unset] [(.long i4), (.int (3 : Int32)), (.ref b_181)])) rfl (hb hby at_176) t k)
    replace G := own_lxor (q := 180) G X197.here hx (hb hby at_179) rfl rfl
    obtain ⟨c200, Ar200, q200, S200, N200', H200, G200'⟩ := id V197
    have hin200 : ¬ ((3 : Int32) < 0 ∨ c200.slots.size ≤ ((3 : Int32)).toNatClampNeg) := inb_of S200 ⟨by decide, by decide⟩
    obtain ⟨T200, h200, X200, e200, W200, st200⟩ := stJ X197 hx hZ e197 Ar200 (j := (3 : Int32)) hin200 (g := (mkF m 180 #[.val (.int i0), .val (.long i1), .second, .val (.long i2), .second, .val (.long i3), .second, .val (.long i4), .second, .val (.int (4 : Int32)), .val (.ref b164), .val (.ref b_181), .unset] [(.long (i4 ^^^ (-1 : Int64))), (.int (3 : Int32)), (.ref b_181)])) rfl rfl (hb hby at_180)
    have N200 := Fr.snoc X200 N197 ge_b_181
    have Z200 : n0 ≤ h200.size := Nat.le_trans Z197 (Keep.of_wr W200).1
    have V200 : Arv Z h200 b_181 kb_181 .long (4 : Int32) [(.long (i1 ^^^ (-1 : Int64))), (.long (i2 ^^^ (-1 : Int64))), (.long (i3 ^^^ (-1 : Int64))), (.long (i4 ^^^ (-1 : Int64)))] (.long (0 : Int64)) := Arv.set Ar200 q200 S200 N200' H200 G200' rfl W200 3 rfl (Nat.le_of_ble_eq_true rfl)
    replace G : Gets p e below _ (T200.setTop (mkF m 181 #[.val (.int i0), .val (.long i1), .second, .val (.long i2), .second, .val (.long i3), .second, .val (.long i4), .second, .val (.int (4 : Int32)), .val (.ref b164), .val (.ref b_181), .unset] [])) := fun t k => G t (st200 t k)
    replace G := own_aload (q := 183) G X200.here hx (hb hby at_181) rfl rfl rfl
    have F202 : Exa Z h200 b164 "com/example/crossbill/crossbill/csv/RecordSpans" := (((((F182.keep K181q).wr W191).wr W194).wr W197).wr W200)
    have F203 : Fld Z h200 b164 "com/example/crossbill/crossbill/csv/RecordSpans" "size" "I" (.int (4 : Int32)) := (((((B179_0.keep K181q nin0).other W191 (Or.inl ne186)).other W194 (Or.inl ne186)).other W197 (Or.inl ne186)).other W200 (Or.inl ne186))
    have F204 : Fld Z h200 b164 "com/example/crossbill/crossbill/csv/RecordSpans" "lines" "[J" (.ref b3_165) := (((((B179_3.keep K181q nin0).other W191 (Or.inl ne186)).other W194 (Or.inl ne186)).other W197 (Or.inl ne186)).other W200 (Or.inl ne186))
    have F205 : Arv Z h200 b3_165 k3_165 .long (16 : Int32) [(.long i1), (.long i2), (.long i3), (.long i4), (.long (0 : Int64)), (.long (0 : Int64)), (.long (0 : Int64)), (.long (0 : Int64)), (.long (0 : Int64)), (.long (0 : Int64)), (.long (0 : Int64)), (.long (0 : Int64)), (.long (0 : Int64)), (.long (0 : Int64)), (.long (0 : Int64)), (.long (0 : Int64))] (.long (0 : Int64)) := (((((B179_7.keep K181q nin0).other W191 ne183).other W194 ne183).other W197 ne183).other W200 ne183)
    obtain ⟨cq201, kq201, q201a, q201b, q201c⟩ := isOf hZ e200 F202
    obtain ⟨_, _, ⟨T201, L201, kk201, nn201⟩, -, X201, ⟨Lc201, hQ201, l201, y201, z201⟩, st201⟩ := X200.virtualBack hx (y := (⟨"com/example/crossbill/crossbill/csv/RecordSpans", "lines", "()[J"⟩ : MethodName)) (z := (⟨"com/example/crossbill/crossbill/csv/RecordSpans", "lines", "()[J"⟩ : MethodName)) hown (mvT hZ (hw _ (List.mem_of_getElem? (i := 19) rfl))) (mvT hZ (hw _ (List.mem_of_getElem? (i := 20) rfl))) (notFace_of_selects (args := #[]) (mvT hZ (hw _ (List.mem_of_getElem? (i := 22) rfl)))) (mvT hZ (hw _ (List.mem_of_getElem? (i := 22) rfl))) (mvT hZ (hw _ (List.mem_of_getElem? (i := 21) rfl))) (by decide) (backOf (W := 0) (rm3k4 l Z a0 hw [] b164 b3_165 k3_165 i1 i2 i3 i4 h200 n0 Z200 F203 F204 F205) hZ (hw _ (List.mem_of_getElem? (i := 23) rfl)) (hw _ (List.mem_of_getElem? (i := 3) rfl)) (by decide) (by decide)) q201a q201c (g := (mkF m 183 #[.val (.int i0), .val (.long i1), .second, .val (.long i2), .second, .val (.long i3), .second, .val (.long i4), .second, .val (.int (4 : Int32)), .val (.ref b164), .val (.ref b_181), .unset] [(.ref b164)])) rfl (by rw [hml]; rfl) (Steps.refl _) (argsL := []) (rest := []) (lenOf pd_3 rfl) rfl (by show 2 * 0 + _ ≤ _; exact Nat.le_of_eq rfl) (hb hby at_183) (fun _ _ => ⟨rfl, e200, (by decide : 5 + 1 ≤ _), (by decide : 57 + 4 ≤ _)⟩)
    dsimp only [Pt.U, Pt.locs, Pt.cells, Pt.slots] at X201 l201 y201 z201 st201 hQ201
    subst l201 y201 z201
    obtain ⟨b_201, kb_201, rfl, N201q, K201q, B201_0, B201_1⟩ := hQ201
    have ne206 : b_181 ≠ b_201 := Nat.ne_of_lt (Nat.lt_of_lt_of_le V200.lt B201_0)
    have ne207 : b3_165 ≠ b_201 := Nat.ne_of_lt (Nat.lt_of_lt_of_le F205.lt B201_0)
    have F208 : Arv Z h200 b2_165 k2_165 .long (16 : Int32) [(.long (1 : Int64)), (.long (2 : Int64)), (.long (3 : Int64)), (.long (4 : Int64)), (.long (0 : Int64)), (.long (0 : Int64)), (.long (0 : Int64)), (.long (0 : Int64)), (.long (0 : Int64)), (.long (0 : Int64)), (.long (0 : Int64)), (.long (0 : Int64)), (.long (0 : Int64)), (.long (0 : Int64)), (.long (0 : Int64)), (.long (0 : Int64))] (.long (0 : Int64)) := (((((B179_6.keep K181q nin0).other W191 ne184).other W194 ne184).other W197 ne184).other W200 ne184)
    have ne209 : b2_165 ≠ b_201 := Nat.ne_of_lt (Nat.lt_of_lt_of_le F208.lt B201_0)
    have F210 : Arv Z h200 b1_165 k1_165 .long (16 : Int32) [(.long (0 : Int64)), (.long (1 : Int64)), (.long (2 : Int64)), (.long (3 : Int64)), (.long (0 : Int64)), (.long (0 : Int64)), (.long (0 : Int64)), (.long (0 : Int64)), (.long (0 : Int64)), (.long (0 : Int64)), (.long (0 : Int64)), (.long (0 : Int64)), (.long (0 : Int64)), (.long (0 : Int64)), (.long (0 : Int64)), (.long (0 : Int64))] (.long (0 : Int64)) := (((((B179_5.keep K181q nin0).other W191 ne185).other W194 ne185).other W197 ne185).other W200 ne185)
    have ne211 : b1_165 ≠ b_201 := Nat.ne_of_lt (Nat.lt_of_lt_of_le F210.lt B201_0)
    have F212 : Fld Z h200 b164 "com/example/crossbill/crossbill/csv/RecordSpans" "headerEnd" "J" (.long (0 : Int64)) := (((((B179_4.keep K181q nin0).other W191 (Or.inl ne186)).other W194 (Or.inl ne186)).other W197 (Or.inl ne186)).other W200 (Or.inl ne186))
    have ne213 : b164 ≠ b_201 := Nat.ne_of_lt (Nat.lt_of_lt_of_le F212.lt B201_0)
    have ge_b_201 : n0 ≤ b_201 := Nat.le_trans Z200 B201_0
    have Z201 : n0 ≤ T201.heap.size := Nat.le_trans Z200 K201q.1
    have N201 := Fr.app N200 N201q
    replace G : Gets p e below _ (T201.setTop (mkF m 186 #[.val (.int i0), .val (.long i1), .second, .val (.long i2), .second, .val (.long i3), .second, .val (.long i4), .second, .val (.int (4 : Int32)), .val (.ref b164), .val (.ref b_181), .unset] [(.ref b_201)])) := fun t k => G t (st201.trans k)
    replace G := own_astore (q := 188) (l' := #[.val (.int i0), .val (.long i1), .second, .val (.long i2), .second, .val (.long i3), .second, .val (.long i4), .second, .val (.int (4 : Int32)), .val (.ref b164), .val (.ref b_181), .val (.ref b_201)]) G X201.here hx (hb hby at_186) rfl rfl rfl
    replace G := own_aload (q := 190) G X201.here hx (hb hby at_188) rfl rfl rfl
    replace G := own_iload (q := 192) G X201.here hx (hb hby at_190) rfl rfl
    replace G := own_lloadN (q := 193) G X201.here hx (hb hby at_192) rfl rfl
    replace G := own_lloadN (q := 194) G X201.here hx (hb hby at_193) rfl rfl
    replace G := own_lload (q := 196) G X201.here hx (hb hby at_194) rfl rfl
    replace G := own_lload (q := 198) G X201.here hx (hb hby at_196) rfl rfl
    obtain ⟨_, _, ⟨T214, L214, kk214, nn214⟩, -, X214, ⟨Lc214, hQ214, l214, y214, z214⟩, st214⟩ := Jvm.LawKit.callS X201 hx (y := (⟨"com/example/crossbill/crossbill/csv/RecordSpansLinesPinLaw", "same", "([JIJJJJ)Z"⟩ : MethodName)) hown (mvT hZ (hw _ (List.mem_of_getElem? (i := 38) rfl))) (mvT hZ (hw _ (List.mem_of_getElem? (i := 39) rfl))) (mvT hZ (hw _ (List.mem_of_getElem? (i := 40) rfl))) (mvT hZ (hw _ (List.mem_of_getElem? (i := 41) rfl))) (by decide) (backOf (W := 0) (rm6k4 l Z a0 hw [] b_201 i1 i2 i3 i4 kb_201 T201.heap n0 Z201 B201_1) hZ (hw _ (List.mem_of_getElem? (i := 41) rfl)) (hw _ (List.mem_of_getElem? (i := 40) rfl)) (by decide) (by decide)) (g := (mkF m 198 #[.val (.int i0), .val (.long i1), .second, .val (.long i2), .second, .val (.long i3), .second, .val (.long i4), .second, .val (.int (4 : Int32)), .val (.ref b164), .val (.ref b_181), .val (.ref b_201)] [(.long i4), (.long i3), (.long i2), (.long i1), (.int (4 : Int32)), (.ref b_201)])) rfl (by rw [hml]; rfl) (argsL := [(.ref b_201), (.int (4 : Int32)), (.long i1), (.long i2), (.long i3), (.long i4)]) (rest := []) (lenOf pd_4 rfl) rfl (by show 2 * 0 + _ ≤ _; exact Nat.le_of_eq rfl) (hb hby at_198) (fun _ _ => ⟨rfl, rfl, (by decide : 6 + 0 ≤ _), (by decide : 61 + 0 ≤ _)⟩)
    dsimp only [Pt.U, Pt.locs, Pt.cells, Pt.slots] at X214 l214 y214 z214 st214 hQ214
    subst l214 y214 z214
    obtain ⟨rfl, N214q, e214⟩ := hQ214
    have N214 := Fr.app N201 N214q
    replace G : Gets p e below _ (T214.setTop (mkF m 201 #[.val (.int i0), .val (.long i1), .second, .val (.long i2), .second, .val (.long i3), .second, .val (.long i4), .second, .val (.int (4 : Int32)), .val (.ref b164), .val (.ref b_181), .val (.ref b_201)] [(.int (1 : Int32))])) := fun t k => G t (st214 t k)
    obtain ⟨fs, hr, hrun, hended, hW, hsame⟩ := X214.leave (v := some (.int (1 : Int32))) (fun h => by rw [Bd.returns] at h; cases h)
    refine ⟨_, _, G _ (retOut X214 hx Bd.returns rfl (Or.inl ⟨rfl, Or.inr (Or.inl rfl), _, rfl⟩) (hb hby at_201) hr), hrun, hended, _, _, rfl, ?_, ⟨_, rfl⟩, hW, hsame.mono (by decide) (by decide)⟩
    show Q0 Z i0 i1 i2 i3 i4 h0 n0 _ T214.heap _
    rw [e214]
    exact ⟨rfl, N214⟩
set_option maxRecDepth 65536 in
set_option maxHeartbeats 40000000 in
theorem comes_1 {Post : Tables → Env → Array Value → State → Outcome → State → Prop} (hpost : ∀ tb e args s v u, (limb_1_1.after args s (.returned v) u = true ∧ limb_1_2.after args s (.returned v) u = true ∧ True) → FrameEnd s (.returned v) u (Jvm.fieldLocs frame_1_writes args s ++ Jvm.arrayLocs frame_1_arrays args s ++ Jvm.staticLocs frame_1_statics s) 24 192 → Post tb e args s (.returned v) u) :
    ArmFor flags0 classFile x code maxLocals ret World_1 tables_1 room_1 Calls_1 rest_1 Pre_1 Post := by
  intro l hfl _ _ p e ha hc hk s m args below hf hA hF happ hP
  obtain ⟨hcalls, hrest, hpre⟩ := hP
  obtain ⟨-, -, -, hnamed, -, -, -, hat⟩ := (Spec.applies_iff hf).mp happ
  obtain ⟨hg, hn⟩ := and_e (Cond.before_iff.mp (show (Jvm.Cond.and given_1 narrow_1).before args s = true from hpre))
  obtain ⟨g1, g2⟩ := and_e hg
  obtain ⟨g3, g4⟩ := and_e g2
  obtain ⟨g5, g6⟩ := and_e g4
  obtain ⟨g7, g8⟩ := and_e g6
  obtain ⟨g9, g10⟩ := and_e g8
  obtain ⟨w0, w1, w2, w3, w4, rfl⟩ : ∃ w0 w1 w2 w3 w4 : Value, args = #[w0, w1, w2, w3, w4] := by
    have hs : args.size = 5 := by simpa [Cond.value, given_1] using g1
    obtain ⟨L⟩ := args
    match L, hs with
    | [w0, w1, w2, w3, w4], _ => exact ⟨w0, w1, w2, w3, w4, rfl⟩
  have hw := fun d (hd : d ∈ tables_1) => atoms_spec (ws := Jvm.Cond.code x code maxLocals ret :: tables_1) hat d (List.mem_cons_of_mem _ hd)
  have hfit : Fit s := fun {y c} hc i hi => by
    obtain ⟨ha, rfl⟩ := Array.getElem?_eq_some_iff.mp hc
    have q := List.all_eq_true.mp ((Array.all_eq_true_iff_forall_mem.mp hF) _ (Array.getElem_mem ha)) i (List.mem_range.mpr hi)
    simpa [Array.getElem?_eq_getElem hi] using q
  obtain ⟨i0, ei0⟩ := is_v g3
  obtain rfl : w0 = (.int i0) := Option.some.inj ei0
  obtain ⟨i1, ei1⟩ := isL_v g5
  obtain rfl : w1 = (.long i1) := Option.some.inj ei1
  obtain ⟨i2, ei2⟩ := isL_v g7
  obtain rfl : w2 = (.long i2) := Option.some.inj ei2
  obtain ⟨i3, ei3⟩ := isL_v g9
  obtain rfl : w3 = (.long i3) := Option.some.inj ei3
  obtain ⟨i4, ei4⟩ := isL_v g10
  obtain rfl : w4 = (.long i4) := Option.some.inj ei4
  obtain ⟨n, o, h1, h2, h3, _, L, rfl, ⟨rfl, N⟩, hq⟩ := rm0 l s _ hw tables_1 i0 i1 i2 i3 i4 s.heap s.heap.size (Nat.le_refl _)  p e ha hc hk s m _ below hf ((Spec.applies_iff_loose hf).mp happ).1 ⟨rfl, State.Warmed39.refl s, rfl⟩ trivial
  refine ⟨n, _, h1, h2, h3, hpost _ _ _ _ _ _ ⟨Cond.after_iff.mpr rfl, Cond.after_iff.mpr (eq_i res_at (Term.int_eval (1)) rfl), trivial⟩ ⟨hq.1, hq.2.1, (hq.2.2.sift fun y hy => Or.inr (N y hy)).mono (by decide) (by decide)⟩⟩
theorem main_1_1 : Claimed_1_1 := comes_1 fun _ _ _ _ _ _ h hF => ⟨h.1, hF⟩
theorem main_1_2 : Claimed_1_2 := comes_1 fun _ _ _ _ _ _ h hF => ⟨h.2.1, hF⟩
end Jvm.Pilot.@@N@@
namespace Jvm.Pilot.@@N@@
open Jvm Jvm.ClassFile Sem Op Lib Jvm.Free Jvm.Stand Jvm.Pilot.@@N@@.Jvm.D
/-! MADE BY PROGRAM (witnessworld.py) out of the Statement's table words and the real class files: 14 classes; the members and pool entries that the words name. The judged class is class 1, her method 2. -/
namespace start1
open Jvm.ClassFile
def u (s : String) : CpInfo := .utf8 (stringToUtf16 s)
/-- a pool by its gaps: so many unusable entries, then the entry; so many at the end -/
def gap : Nat → List CpInfo → List CpInfo
  | 0, r => r
  | n + 1, r => .unusable :: gap n r
def poolList (es : List (Nat × CpInfo)) (last : Nat) : List CpInfo := es.foldr (fun e r => gap e.1 (e.2 :: r)) (gap last [])
def pool (es : List (Nat × CpInfo)) (last : Nat) : Array CpInfo := ⟨poolList es last⟩
def fileOf (pool : Array CpInfo) (this : Nat) (attrs : Array Attribute := #[]) (ms : Array MethodInfo := #[]) (fl : Nat := 33) (sup : Nat := 0) (ifs : Array Nat := #[]) (fds : Array FieldInfo := #[]) : ClassFile where
  minorVersion := 0
  majorVersion := 65
  constantPool := pool
  accessFlags := fl
  thisClass := this
  superClass := sup
  interfaces := ifs
  fields := fds
  methods := ms
  attributes := attrs
def plain (name : String) (sup : Option ClassId) : Class where
  name := name
  kind := .ordinary
  loader := none
  accessFlags := 33
  super := sup
  interfaces := #[]
  cf := none
  fields := #[]
  methods := #[]
  instanceTypes := #[]
  staticTypes := #[]
  resolved := #[]
  callSites := []
  init := .initialized
  statics := none
  mirror := none

def pool0 : Array CpInfo := pool [(5, u "<init>"), (0, u "()V"), (1, .class_ 10), (1, u "java/lang/Object")] 113

def k0c0 : Code := { maxStack := 0, maxLocals := 1, code := object_method_1_code, exceptionTable := #[], attributes := #[] }
def k0m0 : Method := { name := "<init>", desc := "()V", sig := { parameters := [], returnType := none }, accessFlags := 1, code := some k0c0 }
/-- java/lang/Object -/
def k0 : Class := { plain "java/lang/Object" none with
  accessFlags := 33
  interfaces := #[]
  cf := some (fileOf pool0 8 #[] #[{ accessFlags := 1, nameIndex := 5, descriptorIndex := 6, attributes := #[] }] 33 0 #[] #[])
  fields := #[]
  methods := #[k0m0]
  instanceTypes := #[]
  staticTypes := #[]
  resolved := Array.replicate 124 none
  statics := none }

def pool1 : Array CpInfo := pool [(2, .class_ 4), (1, u "java/lang/Object"), (0, u "<init>"), (0, u "()V"), (0, .integer 2147483647), (0, .class_ 9), (0, u "com/example/crossbill/crossbill/csv/RecordSpans"), (0, .methodref 8 11), (0, .nameAndType 5 12), (0, u "(J)V"), (0, .methodref 8 14), (0, .nameAndType 15 16), (0, u "add"), (0, u "(JJJ)V"), (0, .long 2), (1, .long 3), (1, .long 4), (1, .methodref 8 24), (0, .nameAndType 25 26), (0, u "lines"), (0, u "()[J"), (0, .methodref 28 29), (0, .class_ 30), (0, .nameAndType 31 32), (0, u "com/example/crossbill/crossbill/csv/RecordSpansLinesPinLaw"), (0, u "same"), (0, u "([JIJJJJ)Z"), (0, .long 18446744073709551615), (4, u "law"), (0, u "(IJJJJ)Z")] 4

def k1m0 : Method := { name := "<init>", desc := "()V", sig := { parameters := [], returnType := none }, accessFlags := 1, code := none }
def k1c1 : Code := { maxStack := 4, maxLocals := 10, code := method_2_code, exceptionTable := #[], attributes := #[] }
def k1m1 : Method := { name := "same", desc := "([JIJJJJ)Z", sig := { parameters := [(.array .long), .int, .long, .long, .long, .long], returnType := some .boolean }, accessFlags := 10, code := some k1c1 }
def k1c2 : Code := { maxStack := 10, maxLocals := 13, code := code, exceptionTable := #[], attributes := #[] }
def k1m2 : Method := { name := "law", desc := "(IJJJJ)Z", sig := { parameters := [.int, .long, .long, .long, .long], returnType := some .boolean }, accessFlags := 9, code := some k1c2 }
/-- com/example/crossbill/crossbill/csv/RecordSpansLinesPinLaw -/
def k1 : Class := { plain "com/example/crossbill/crossbill/csv/RecordSpansLinesPinLaw" (some 0) with
  accessFlags := 49
  interfaces := #[]
  cf := some (fileOf pool1 28 #[] #[{ accessFlags := 1, nameIndex := 5, descriptorIndex := 6, attributes := #[] }, { accessFlags := 10, nameIndex := 31, descriptorIndex := 32, attributes := #[] }, { accessFlags := 9, nameIndex := 38, descriptorIndex := 39, attributes := #[] }] 49 2 #[] #[])
  fields := #[]
  methods := #[k1m0, k1m1, k1m2]
  instanceTypes := #[]
  staticTypes := #[]
  resolved := Array.replicate 44 none
  statics := none }

def pool2 : Array CpInfo := pool [(1, .methodref 2 3), (0, .class_ 4), (0, .nameAndType 5 6), (0, u "java/lang/Object"), (0, u "<init>"), (0, u "()V"), (0, .class_ 8), (0, u "com/example/crossbill/crossbill/csv/RecordSpans"), (0, .fieldref 7 10), (0, .nameAndType 11 12), (0, u "starts"), (0, u "[J"), (0, .fieldref 7 14), (0, .nameAndType 15 12), (0, u "ends"), (0, .fieldref 7 17), (0, .nameAndType 18 12), (0, u "lines"), (0, .fieldref 7 20), (0, .nameAndType 21 22), (0, u "headerEnd"), (0, u "J"), (0, .fieldref 7 24), (0, .nameAndType 25 26), (0, u "size"), (0, u "I"), (9, .methodref 37 38), (0, .class_ 39), (0, .nameAndType 40 41), (0, u "java/util/Arrays"), (0, u "copyOf"), (0, u "([JI)[J"), (0, u "FIRST_ROOM"), (2, u "(J)V"), (2, u "add"), (0, u "(JJJ)V"), (6, u "()[J")] 17

def k2c0 : Code := { maxStack := 3, maxLocals := 3, code := prog_17_method_1_code, exceptionTable := #[], attributes := #[] }
def k2m0 : Method := { name := "<init>", desc := "(J)V", sig := { parameters := [.long], returnType := none }, accessFlags := 1, code := some k2c0 }
def k2c1 : Code := { maxStack := 8, maxLocals := 9, code := prog_17_method_2_code, exceptionTable := #[], attributes := #[] }
def k2m1 : Method := { name := "add", desc := "(JJJ)V", sig := { parameters := [.long, .long, .long], returnType := none }, accessFlags := 1, code := some k2c1 }
def k2c2 : Code := { maxStack := 2, maxLocals := 1, code := prog_17_method_7_code, exceptionTable := #[], attributes := #[] }
def k2m2 : Method := { name := "lines", desc := "()[J", sig := { parameters := [], returnType := some (.array .long) }, accessFlags := 0, code := some k2c2 }
/-- com/example/crossbill/crossbill/csv/RecordSpans -/
def k2 : Class := { plain "com/example/crossbill/crossbill/csv/RecordSpans" (some 0) with
  accessFlags := 33
  interfaces := #[]
  cf := some (fileOf pool2 7 #[] #[{ accessFlags := 1, nameIndex := 5, descriptorIndex := 45, attributes := #[] }, { accessFlags := 1, nameIndex := 48, descriptorIndex := 49, attributes := #[] }, { accessFlags := 0, nameIndex := 18, descriptorIndex := 56, attributes := #[] }] 33 2 #[] #[{ accessFlags := 26, nameIndex := 42, descriptorIndex := 26, attributes := #[] }, { accessFlags := 18, nameIndex := 21, descriptorIndex := 22, attributes := #[] }, { accessFlags := 2, nameIndex := 11, descriptorIndex := 12, attributes := #[] }, { accessFlags := 2, nameIndex := 15, descriptorIndex := 12, attributes := #[] }, { accessFlags := 2, nameIndex := 18, descriptorIndex := 12, attributes := #[] }, { accessFlags := 2, nameIndex := 25, descriptorIndex := 26, attributes := #[] }])
  fields := #[{ name := "FIRST_ROOM", type := .int, accessFlags := 26, slot := 0, constantValue := 0 }, { name := "headerEnd", type := .long, accessFlags := 18, slot := 0, constantValue := 0 }, { name := "starts", type := (.array .long), accessFlags := 2, slot := 1, constantValue := 0 }, { name := "ends", type := (.array .long), accessFlags := 2, slot := 2, constantValue := 0 }, { name := "lines", type := (.array .long), accessFlags := 2, slot := 3, constantValue := 0 }, { name := "size", type := .int, accessFlags := 2, slot := 4, constantValue := 0 }]
  methods := #[k2m0, k2m1, k2m2]
  instanceTypes := #[.long, (.array .long), (.array .long), (.array .long), .int]
  staticTypes := #[.int]
  resolved := Array.replicate 74 none
  statics := none }

def pool3 : Array CpInfo := pool [(2, .class_ 4), (1, u "java/lang/Object"), (0, u "<init>"), (0, u "()V"), (7, .class_ 16), (1, u "java/util/Arrays"), (57, .class_ 76), (1, u "java/util/Arrays$NaturalOrder"), (36, .class_ 115), (1, u "java/util/Arrays$LegacyMergeSort"), (1, u "Z"), (32, .methodref 151 152), (0, .class_ 153), (0, .nameAndType 154 155), (0, u "java/lang/System"), (0, u "arraycopy"), (0, u "(Ljava/lang/Object;ILjava/lang/Object;II)V"), (146, u "copyOf"), (1, .methodref 305 306), (0, .class_ 307), (0, .nameAndType 308 309), (0, u "java/lang/Math"), (0, u "min"), (0, u "(II)I"), (65, .class_ 376), (0, u "java/util/Arrays$ArrayList"), (68, u "$assertionsDisabled"), (269, u "MIN_ARRAY_SORT_GRAN"), (0, u "I"), (2, u "INSERTIONSORT_THRESHOLD"), (152, u "([JI)[J"), (102, .class_ 976), (0, u "java/util/Arrays$ArrayItr")] 52

def k3m0 : Method := { name := "<init>", desc := "()V", sig := { parameters := [], returnType := none }, accessFlags := 2, code := none }
def k3c1 : Code := { maxStack := 6, maxLocals := 3, code := jdk_65_method_124_code, exceptionTable := #[], attributes := #[] }
def k3m1 : Method := { name := "copyOf", desc := "([JI)[J", sig := { parameters := [(.array .long), .int], returnType := some (.array .long) }, accessFlags := 9, code := some k3c1 }
/-- java/util/Arrays -/
def k3 : Class := { plain "java/util/Arrays" (some 0) with
  accessFlags := 49
  interfaces := #[]
  cf := some (fileOf pool3 14 #[.nestMembers #[975, 375, 113, 74]] #[{ accessFlags := 2, nameIndex := 5, descriptorIndex := 6, attributes := #[] }, { accessFlags := 9, nameIndex := 302, descriptorIndex := 872, attributes := #[] }] 49 2 #[] #[{ accessFlags := 26, nameIndex := 715, descriptorIndex := 716, attributes := #[] }, { accessFlags := 26, nameIndex := 719, descriptorIndex := 716, attributes := #[] }, { accessFlags := 4120, nameIndex := 445, descriptorIndex := 117, attributes := #[] }])
  fields := #[{ name := "MIN_ARRAY_SORT_GRAN", type := .int, accessFlags := 26, slot := 0, constantValue := 0 }, { name := "INSERTIONSORT_THRESHOLD", type := .int, accessFlags := 26, slot := 1, constantValue := 0 }, { name := "$assertionsDisabled", type := .boolean, accessFlags := 4120, slot := 2, constantValue := 0 }]
  methods := #[k3m0, k3m1]
  instanceTypes := #[]
  staticTypes := #[.int, .int, .boolean]
  resolved := Array.replicate 1029 none
  statics := none }

def pool4 : Array CpInfo := pool [(1, .class_ 2), (0, u "java/lang/Math"), (1, .class_ 6), (1, u "java/lang/Object"), (0, u "<init>"), (0, u "()V"), (89, .class_ 100), (1, u "java/lang/Math$RandomNumberGeneratorHolder"), (71, u "negativeZeroFloatBits"), (0, u "J"), (2, u "negativeZeroDoubleBits"), (24, u "min"), (43, u "$assertionsDisabled"), (0, u "Z"), (88, u "(II)I"), (2, u "twoToTheDoubleScaleDown"), (0, u "D"), (4, u "twoToTheDoubleScaleUp"), (9, u "E"), (3, u "PI"), (2, u "TAU"), (2, u "DEGREES_TO_RADIANS"), (0, u "RADIANS_TO_DEGREES")] 94

def k4m0 : Method := { name := "<init>", desc := "()V", sig := { parameters := [], returnType := none }, accessFlags := 2, code := none }
def k4c1 : Code := { maxStack := 2, maxLocals := 2, code := jdk_29_method_69_code, exceptionTable := #[], attributes := #[] }
def k4m1 : Method := { name := "min", desc := "(II)I", sig := { parameters := [.int, .int], returnType := some .int }, accessFlags := 9, code := some k4c1 }
/-- java/lang/Math -/
def k4 : Class := { plain "java/lang/Math" (some 0) with
  accessFlags := 49
  interfaces := #[]
  cf := some (fileOf pool4 1 #[.nestMembers #[98]] #[{ accessFlags := 2, nameIndex := 7, descriptorIndex := 8, attributes := #[] }, { accessFlags := 9, nameIndex := 201, descriptorIndex := 335, attributes := #[] }] 49 4 #[] #[{ accessFlags := 25, nameIndex := 354, descriptorIndex := 339, attributes := #[] }, { accessFlags := 25, nameIndex := 358, descriptorIndex := 339, attributes := #[] }, { accessFlags := 25, nameIndex := 361, descriptorIndex := 339, attributes := #[] }, { accessFlags := 26, nameIndex := 364, descriptorIndex := 339, attributes := #[] }, { accessFlags := 26, nameIndex := 365, descriptorIndex := 339, attributes := #[] }, { accessFlags := 26, nameIndex := 172, descriptorIndex := 173, attributes := #[] }, { accessFlags := 26, nameIndex := 176, descriptorIndex := 173, attributes := #[] }, { accessFlags := 8, nameIndex := 344, descriptorIndex := 339, attributes := #[] }, { accessFlags := 8, nameIndex := 338, descriptorIndex := 339, attributes := #[] }, { accessFlags := 4120, nameIndex := 245, descriptorIndex := 246, attributes := #[] }])
  fields := #[{ name := "E", type := .double, accessFlags := 25, slot := 0, constantValue := 0 }, { name := "PI", type := .double, accessFlags := 25, slot := 1, constantValue := 0 }, { name := "TAU", type := .double, accessFlags := 25, slot := 2, constantValue := 0 }, { name := "DEGREES_TO_RADIANS", type := .double, accessFlags := 26, slot := 3, constantValue := 0 }, { name := "RADIANS_TO_DEGREES", type := .double, accessFlags := 26, slot := 4, constantValue := 0 }, { name := "negativeZeroFloatBits", type := .long, accessFlags := 26, slot := 5, constantValue := 0 }, { name := "negativeZeroDoubleBits", type := .long, accessFlags := 26, slot := 6, constantValue := 0 }, { name := "twoToTheDoubleScaleUp", type := .double, accessFlags := 8, slot := 7, constantValue := 0 }, { name := "twoToTheDoubleScaleDown", type := .double, accessFlags := 8, slot := 8, constantValue := 0 }, { name := "$assertionsDisabled", type := .boolean, accessFlags := 4120, slot := 9, constantValue := 0 }]
  methods := #[k4m0, k4m1]
  instanceTypes := #[]
  staticTypes := #[.double, .double, .double, .double, .double, .long, .long, .double, .double, .boolean]
  resolved := Array.replicate 460 none
  statics := none }

def pool5 : Array CpInfo := pool [(2, .class_ 4), (1, u "java/lang/Object"), (0, u "<init>"), (0, u "()V"), (1, .class_ 10), (1, u "java/lang/System"), (0, u "allowSecurityManager"), (0, u "I"), (16, u "cons"), (0, u "Ljava/io/Console;"), (77, .class_ 110), (1, u "java/lang/System$CallersHolder"), (43, u "initialErrStream"), (0, u "Ljava/io/PrintStream;"), (19, u "security"), (0, u "Ljava/lang/SecurityManager;"), (31, .class_ 209), (0, u "java/lang/System$1"), (7, u "props"), (0, u "Ljava/util/Properties;"), (2, u "lineSeparator"), (0, u "Ljava/lang/String;"), (96, .class_ 321), (1, u "java/lang/System$LoggerFinder"), (5, .class_ 328), (0, u "java/lang/System$Logger"), (67, u "err"), (2, u "out"), (91, u "notSupportedJnuEncoding"), (15, u "in"), (17, u "initialIn"), (0, u "Ljava/io/InputStream;"), (35, u "bootLayer"), (0, u "Ljava/lang/ModuleLayer;"), (99, .class_ 664), (0, u "java/lang/System$2"), (9, u "NEVER"), (2, u "MAYBE"), (49, u "arraycopy"), (0, u "(Ljava/lang/Object;ILjava/lang/Object;II)V"), (72, .class_ 802), (0, u "java/lang/System$Logger$Level")] 31

def k5m0 : Method := { name := "<init>", desc := "()V", sig := { parameters := [], returnType := none }, accessFlags := 2, code := none }
def k5m1 : Method := { name := "arraycopy", desc := "(Ljava/lang/Object;ILjava/lang/Object;II)V", sig := { parameters := [(.object "java/lang/Object"), .int, (.object "java/lang/Object"), .int, .int], returnType := none }, accessFlags := 265, code := none }
/-- java/lang/System -/
def k5 : Class := { plain "java/lang/System" (some 0) with
  accessFlags := 49
  interfaces := #[]
  cf := some (fileOf pool5 8 #[.nestMembers #[319, 327, 801, 108, 663, 208]] #[{ accessFlags := 2, nameIndex := 5, descriptorIndex := 6, attributes := #[] }, { accessFlags := 265, nameIndex := 727, descriptorIndex := 728, attributes := #[] }] 49 2 #[] #[{ accessFlags := 25, nameIndex := 507, descriptorIndex := 526, attributes := #[] }, { accessFlags := 25, nameIndex := 399, descriptorIndex := 155, attributes := #[] }, { accessFlags := 25, nameIndex := 396, descriptorIndex := 155, attributes := #[] }, { accessFlags := 10, nameIndex := 525, descriptorIndex := 526, attributes := #[] }, { accessFlags := 26, nameIndex := 674, descriptorIndex := 12, attributes := #[] }, { accessFlags := 26, nameIndex := 677, descriptorIndex := 12, attributes := #[] }, { accessFlags := 10, nameIndex := 11, descriptorIndex := 12, attributes := #[] }, { accessFlags := 74, nameIndex := 175, descriptorIndex := 176, attributes := #[] }, { accessFlags := 10, nameIndex := 491, descriptorIndex := 222, attributes := #[] }, { accessFlags := 74, nameIndex := 29, descriptorIndex := 30, attributes := #[] }, { accessFlags := 74, nameIndex := 154, descriptorIndex := 155, attributes := #[] }, { accessFlags := 10, nameIndex := 217, descriptorIndex := 218, attributes := #[] }, { accessFlags := 10, nameIndex := 221, descriptorIndex := 222, attributes := #[] }, { accessFlags := 8, nameIndex := 562, descriptorIndex := 563, attributes := #[] }])
  fields := #[{ name := "in", type := (.object "java/io/InputStream"), accessFlags := 25, slot := 0, constantValue := 0 }, { name := "out", type := (.object "java/io/PrintStream"), accessFlags := 25, slot := 1, constantValue := 0 }, { name := "err", type := (.object "java/io/PrintStream"), accessFlags := 25, slot := 2, constantValue := 0 }, { name := "initialIn", type := (.object "java/io/InputStream"), accessFlags := 10, slot := 3, constantValue := 0 }, { name := "NEVER", type := .int, accessFlags := 26, slot := 4, constantValue := 0 }, { name := "MAYBE", type := .int, accessFlags := 26, slot := 5, constantValue := 0 }, { name := "allowSecurityManager", type := .int, accessFlags := 10, slot := 6, constantValue := 0 }, { name := "security", type := (.object "java/lang/SecurityManager"), accessFlags := 74, slot := 7, constantValue := 0 }, { name := "notSupportedJnuEncoding", type := (.object "java/lang/String"), accessFlags := 10, slot := 8, constantValue := 0 }, { name := "cons", type := (.object "java/io/Console"), accessFlags := 74, slot := 9, constantValue := 0 }, { name := "initialErrStream", type := (.object "java/io/PrintStream"), accessFlags := 74, slot := 10, constantValue := 0 }, { name := "props", type := (.object "java/util/Properties"), accessFlags := 10, slot := 11, constantValue := 0 }, { name := "lineSeparator", type := (.object "java/lang/String"), accessFlags := 10, slot := 12, constantValue := 0 }, { name := "bootLayer", type := (.object "java/lang/ModuleLayer"), accessFlags := 8, slot := 13, constantValue := 0 }]
  methods := #[k5m0, k5m1]
  instanceTypes := #[]
  staticTypes := #[(.object "java/io/InputStream"), (.object "java/io/PrintStream"), (.object "java/io/PrintStream"), (.object "java/io/InputStream"), .int, .int, .int, (.object "java/lang/SecurityManager"), (.object "java/lang/String"), (.object "java/io/Console"), (.object "java/io/PrintStream"), (.object "java/util/Properties"), (.object "java/lang/String"), (.object "java/lang/ModuleLayer")]
  resolved := Array.replicate 834 none
  statics := none }

def pool6 : Array CpInfo := pool [(1, u "java/lang/Cloneable"), (0, .class_ 1), (0, u "java/lang/Object"), (0, .class_ 3)] 3

/-- java/lang/Cloneable -/
def k6 : Class := { plain "java/lang/Cloneable" (some 0) with
  accessFlags := 1537
  interfaces := #[]
  cf := some (fileOf pool6 2 #[] #[] 1537 4 #[] #[])
  fields := #[]
  methods := #[]
  instanceTypes := #[]
  staticTypes := #[]
  resolved := Array.replicate 8 none
  statics := none }

def pool7 : Array CpInfo := pool [(1, u "java/io/Serializable"), (0, .class_ 1), (0, u "java/lang/Object"), (0, .class_ 3)] 3

/-- java/io/Serializable -/
def k7 : Class := { plain "java/io/Serializable" (some 0) with
  accessFlags := 1537
  interfaces := #[]
  cf := some (fileOf pool7 2 #[] #[] 1537 4 #[] #[])
  fields := #[]
  methods := #[]
  instanceTypes := #[]
  staticTypes := #[]
  resolved := Array.replicate 8 none
  statics := none }

/-- the primitive byte -/
def k8 : Class := { plain "byte" none with kind := .primitive 'B', accessFlags := 0x411 }
/-- [B -/
def k9 : Class := { plain "[B" (some 0) with kind := .array 8 .byte, interfaces := #[6, 7], accessFlags := 1041 }

/-- the primitive int -/
def k10 : Class := { plain "int" none with kind := .primitive 'I', accessFlags := 0x411 }
/-- [I -/
def k11 : Class := { plain "[I" (some 0) with kind := .array 10 .int, interfaces := #[6, 7], accessFlags := 1041 }

/-- the primitive long -/
def k12 : Class := { plain "long" none with kind := .primitive 'J', accessFlags := 0x411 }
/-- [J -/
def k13 : Class := { plain "[J" (some 0) with kind := .array 12 .long, interfaces := #[6, 7], accessFlags := 1041 }

def heap : Heap := #[]
def classes : Array Class := #[k0, k1, k2, k3, k4, k5, k6, k7, k8, k9, k10, k11, k12, k13]
def interned : List (Array UInt16 × Addr) := []
def slotsUsed : Nat := 0
def theMethod : MethodId := ⟨1, 2⟩
def args0 : Array Value := #[.int 3, .long 5, .long 6, .long 7, .long 8]
def aboutOver (below : List Frame) : State where
  vm := { classes := classes, interned := interned.toArray }
  heap := heap
  slotsUsed := slotsUsed
  threads := #[{ frames := .invoking theMethod args0 :: below }]
def below0 : List Frame := [.native { method := ⟨0, 0⟩, args := #[] }]
def about1 : State := aboutOver below0
def p0 : Program := .bare "" "" ""
def e0 : Env := launch0.env 0 0 0
theorem w_frames : about1.frames = Frame.invoking theMethod args0 :: below0 := rfl
set_option maxRecDepth 65536 in
theorem w_args : argsFit about1.vm theMethod args0 = true := by decide +kernel
set_option maxRecDepth 65536 in
theorem w_heap : heapFits about1 = true := by decide +kernel
set_option maxRecDepth 65536 in
theorem w_runnable : about1.curStatus? = some .runnable := by decide +kernel
set_option maxRecDepth 65536 in
theorem w_alone : about1.alone = true := by decide +kernel
set_option maxRecDepth 65536 in
theorem w_named : about1.methodNamed? x = some theMethod := by decide +kernel
set_option maxRecDepth 65536 in
theorem w_hears : about1.hears theMethod below0 = true := by decide +kernel
set_option maxRecDepth 65536 in
theorem w_ripe : about1.ripe theMethod args0 below0 = true := by decide +kernel
theorem w_running : about1.status = .running := rfl
set_option maxRecDepth 65536 in
theorem w_room : about1.hasRoom e0.platform room_1 = true :=
  launch0.hasRoom_least _ room_1 (by decide +kernel) (by decide +kernel) (by decide +kernel) (by decide +kernel) (by decide +kernel) (by decide +kernel)
theorem allAtoms_all (ts : List Jvm.Cond) (a : Array Jvm.Value) (st : Jvm.State) : (allAtoms ts).before a st = ts.all (fun c => c.before a st) := by
  induction ts with
  | nil => rfl
  | cons c t ih =>
    show (Jvm.Cond.and c (allAtoms t)).before a st = _
    rw [Jvm.Cond.before_and, ih, List.all_cons]
def words1 : List Jvm.Cond := Jvm.Cond.code x code maxLocals ret :: tables_1
/-- a 'code' word, met by the world's own term for the bytes: nothing is compared byte by byte -/
theorem code_word {y : MethodName} {bytes : ByteArray} {mx : Nat} {rt : Option FieldType} {a : Array Value} {s : State} {m : MethodId} {meth : Method} {c : Code} (h1 : s.methodNamed? y = some m) (h2 : s.vm.method? m = some meth) (h3 : meth.code = some c) (h4 : c.code = bytes)
    (h5 : (c.maxLocals == mx && c.exceptionTable.isEmpty && decide (c.maxStack ≤ mostOperands) && decide (meth.sig.returnType = rt) && !meth.locks && decide (parseMethodDescriptor y.desc = some meth.sig)) = true) : (Jvm.Cond.code y bytes mx rt).before a s = true := by
  simp only [Bool.and_eq_true, beq_iff_eq, Bool.not_eq_true', decide_eq_true_eq] at h5
  obtain ⟨⟨⟨⟨⟨g1, g2⟩, g3⟩, g4⟩, g5⟩, g6⟩ := h5
  simp [Cond.before, Cond.holds, Cond.value, h1, h2, h3, h4, g1, g2, g3, g4, g5, g6]
def isCode : Jvm.Cond → Bool
  | .code _ _ _ _ => true
  | _ => false
theorem all_split {L : List Jvm.Cond} {P : Jvm.Cond → Bool} (h1 : L.all (fun c => isCode c || P c) = true) (h2 : ∀ c ∈ L.filter isCode, P c = true) : L.all P = true := by
  refine List.all_eq_true.mpr fun c hc => ?_
  have h := List.all_eq_true.mp h1 c hc
  rcases Bool.eq_false_or_eq_true (isCode c) with hi | hi
  · exact h2 c (List.mem_filter.mpr ⟨hc, hi⟩)
  · simpa [hi] using h
set_option maxRecDepth 65536 in
theorem w_c0 : (Jvm.Cond.code x code maxLocals ret).before args0 about1 = true := code_word (m := ⟨1, 2⟩) (meth := k1m2) (c := k1c2) (by decide +kernel) rfl rfl rfl (by decide +kernel)
set_option maxRecDepth 65536 in
theorem w_c1 : (Jvm.Cond.code ({ cls := "com/example/crossbill/crossbill/csv/RecordSpans", name := "<init>", desc := "(J)V" } : Jvm.MethodName) prog_17_method_1_code (3 : Nat) (Option.none : Option Jvm.ClassFile.FieldType)).before args0 about1 = true := code_word (m := ⟨2, 0⟩) (meth := k2m0) (c := k2c0) (by decide +kernel) rfl rfl rfl (by decide +kernel)
set_option maxRecDepth 65536 in
theorem w_c2 : (Jvm.Cond.code ({ cls := "java/lang/Object", name := "<init>", desc := "()V" } : Jvm.MethodName) object_method_1_code (1 : Nat) (Option.none : Option Jvm.ClassFile.FieldType)).before args0 about1 = true := code_word (m := ⟨0, 0⟩) (meth := k0m0) (c := k0c0) (by decide +kernel) rfl rfl rfl (by decide +kernel)
set_option maxRecDepth 65536 in
theorem w_c3 : (Jvm.Cond.code ({ cls := "com/example/crossbill/crossbill/csv/RecordSpans", name := "lines", desc := "()[J" } : Jvm.MethodName) prog_17_method_7_code (1 : Nat) (Option.some (Jvm.ClassFile.FieldType.array Jvm.ClassFile.FieldType.long))).before args0 about1 = true := code_word (m := ⟨2, 2⟩) (meth := k2m2) (c := k2c2) (by decide +kernel) rfl rfl rfl (by decide +kernel)
set_option maxRecDepth 65536 in
theorem w_c4 : (Jvm.Cond.code ({ cls := "java/util/Arrays", name := "copyOf", desc := "([JI)[J" } : Jvm.MethodName) jdk_65_method_124_code (3 : Nat) (Option.some (Jvm.ClassFile.FieldType.array Jvm.ClassFile.FieldType.long))).before args0 about1 = true := code_word (m := ⟨3, 1⟩) (meth := k3m1) (c := k3c1) (by decide +kernel) rfl rfl rfl (by decide +kernel)
set_option maxRecDepth 65536 in
theorem w_c5 : (Jvm.Cond.code ({ cls := "java/lang/Math", name := "min", desc := "(II)I" } : Jvm.MethodName) jdk_29_method_69_code (2 : Nat) (Option.some Jvm.ClassFile.FieldType.int)).before args0 about1 = true := code_word (m := ⟨4, 1⟩) (meth := k4m1) (c := k4c1) (by decide +kernel) rfl rfl rfl (by decide +kernel)
set_option maxRecDepth 65536 in
theorem w_c6 : (Jvm.Cond.code ({ cls := "com/example/crossbill/crossbill/csv/RecordSpansLinesPinLaw", name := "same", desc := "([JIJJJJ)Z" } : Jvm.MethodName) method_2_code (10 : Nat) (Option.some Jvm.ClassFile.FieldType.boolean)).before args0 about1 = true := code_word (m := ⟨1, 1⟩) (meth := k1m1) (c := k1c1) (by decide +kernel) rfl rfl rfl (by decide +kernel)
set_option maxRecDepth 65536 in
theorem w_c7 : (Jvm.Cond.code ({ cls := "com/example/crossbill/crossbill/csv/RecordSpans", name := "add", desc := "(JJJ)V" } : Jvm.MethodName) prog_17_method_2_code (9 : Nat) (Option.none : Option Jvm.ClassFile.FieldType)).before args0 about1 = true := code_word (m := ⟨2, 1⟩) (meth := k2m1) (c := k2c1) (by decide +kernel) rfl rfl rfl (by decide +kernel)
def codes1 : List Jvm.Cond := [Jvm.Cond.code x code maxLocals ret, Jvm.Cond.code ({ cls := "com/example/crossbill/crossbill/csv/RecordSpans", name := "<init>", desc := "(J)V" } : Jvm.MethodName) prog_17_method_1_code (3 : Nat) (Option.none : Option Jvm.ClassFile.FieldType), Jvm.Cond.code ({ cls := "java/lang/Object", name := "<init>", desc := "()V" } : Jvm.MethodName) object_method_1_code (1 : Nat) (Option.none : Option Jvm.ClassFile.FieldType), Jvm.Cond.code ({ cls := "com/example/crossbill/crossbill/csv/RecordSpans", name := "lines", desc := "()[J" } : Jvm.MethodName) prog_17_method_7_code (1 : Nat) (Option.some (Jvm.ClassFile.FieldType.array Jvm.ClassFile.FieldType.long)), Jvm.Cond.code ({ cls := "java/util/Arrays", name := "copyOf", desc := "([JI)[J" } : Jvm.MethodName) jdk_65_method_124_code (3 : Nat) (Option.some (Jvm.ClassFile.FieldType.array Jvm.ClassFile.FieldType.long)), Jvm.Cond.code ({ cls := "java/lang/Math", name := "min", desc := "(II)I" } : Jvm.MethodName) jdk_29_method_69_code (2 : Nat) (Option.some Jvm.ClassFile.FieldType.int), Jvm.Cond.code ({ cls := "com/example/crossbill/crossbill/csv/RecordSpansLinesPinLaw", name := "same", desc := "([JIJJJJ)Z" } : Jvm.MethodName) method_2_code (10 : Nat) (Option.some Jvm.ClassFile.FieldType.boolean), Jvm.Cond.code ({ cls := "com/example/crossbill/crossbill/csv/RecordSpans", name := "add", desc := "(JJJ)V" } : Jvm.MethodName) prog_17_method_2_code (9 : Nat) (Option.none : Option Jvm.ClassFile.FieldType)]
set_option maxRecDepth 65536 in
theorem codes_eq : words1.filter isCode = codes1 := rfl
theorem w_codes : ∀ c ∈ words1.filter isCode, c.before args0 about1 = true := by
  rw [codes_eq]
  intro c hc
  simp only [codes1, List.mem_cons, List.not_mem_nil, or_false] at hc
  rcases hc with rfl | rfl | rfl | rfl | rfl | rfl | rfl | rfl
  · exact w_c0
  · exact w_c1
  · exact w_c2
  · exact w_c3
  · exact w_c4
  · exact w_c5
  · exact w_c6
  · exact w_c7
set_option maxRecDepth 65536 in
theorem w_t1 : (words1.take 24).all (fun c => isCode c || c.before args0 about1) = true := by decide +kernel
set_option maxRecDepth 65536 in
theorem w_t2 : ((words1.drop 24).take 24).all (fun c => isCode c || c.before args0 about1) = true := by decide +kernel
set_option maxRecDepth 65536 in
theorem w_t3 : ((words1.drop 24).drop 24).all (fun c => isCode c || c.before args0 about1) = true := by decide +kernel
theorem w_tables : (allAtoms (Jvm.Cond.code x code maxLocals ret :: tables_1)).before args0 about1 = true := by
  rw [allAtoms_all]
  show words1.all (fun c => c.before args0 about1) = true
  refine all_split ?_ w_codes
  rw [← List.take_append_drop 24 words1, List.all_append, w_t1, ← List.take_append_drop 24 (words1.drop 24), List.all_append, w_t2, w_t3]
  rfl
set_option maxRecDepth 65536 in
theorem w_case : (Jvm.Cond.and given_1 narrow_1).before args0 about1 = true := by decide +kernel
theorem w_applies : (headSpec (Jvm.Cond.code x code maxLocals ret :: tables_1) room_1).applies x e0.platform about1 = true :=
  (Spec.applies_iff w_frames).mpr ⟨w_running, w_runnable, w_alone, w_named, w_hears, w_ripe, w_room, w_tables⟩
theorem atStart : AtStart classFile x code maxLocals ret World_1 tables_1 room_1 Calls_1 rest_1 Pre_1 launch0 p0 e0 about1 theMethod args0 below0 :=
  ⟨lists_1, trivial, launch0.admits_env _ _ _, launch0.least_env, fairChoices_fair.cas, fairChoices_fair.clock, w_frames, w_args, w_heap, w_applies, trivial, trivial, w_case⟩
end start1
theorem witness_1 : WitnessClaimed_1 := ⟨start1.p0, start1.e0, start1.about1, start1.theMethod, start1.args0, start1.below0, start1.atStart⟩
end Jvm.Pilot.@@N@@

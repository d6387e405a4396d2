import JvmDerived
import JvmDerived.Pilot.@@N@@Statement
import JvmDerived.Pilot.@@N@@Code
set_option linter.unusedVariables false
set_option linter.unusedSimpArgs false
namespace Jvm.Pilot.@@N@@
open Jvm Jvm.ClassFile Sem Op Lib Jvm.Free Jvm.Stand Jvm.LawKit Jvm.RoadKit Bundle Jvm.Pilot.@@N@@.Jvm.D
abbrev Gets (p : Program) (e : Env) (below : List Frame) (S0 S : State) : Prop := ∀ t, Steps p.tables e below S t → Steps p.tables e below S0 t
section Own
variable {p : Program} {e : Env} {below : List Frame} {S0 T : State} {m : MethodId} {c : Code} {pc q : Nat} {Ls : Array Slot} {st : List Value}
theorem own_iadd {x y v : Int32} (G : Gets p e below S0 (T.setTop (mkF m pc Ls (.int y :: .int x :: st)))) (h : At T m c below) (hx : p.tables.exec = Jvm.exec) (hd : decode c.code pc = .ok (.iadd, 1)) (hv : x + y = v) (hq : pc + 1 = q) : Gets p e below S0 (T.setTop (mkF m q Ls (.int v :: st))) := by
  subst hv hq; exact fun t k => G t (XS.iadd h hx rfl hd rfl k)
theorem own_imul {x y v : Int32} (G : Gets p e below S0 (T.setTop (mkF m pc Ls (.int y :: .int x :: st)))) (h : At T m c below) (hx : p.tables.exec = Jvm.exec) (hd : decode c.code pc = .ok (.imul, 1)) (hv : x * y = v) (hq : pc + 1 = q) : Gets p e below S0 (T.setTop (mkF m q Ls (.int v :: st))) := by
  subst hv hq; exact fun t k => G t (XS.imul h hx rfl hd rfl k)
theorem own_iand {x y v : Int32} (G : Gets p e below S0 (T.setTop (mkF m pc Ls (.int y :: .int x :: st)))) (h : At T m c below) (hx : p.tables.exec = Jvm.exec) (hd : decode c.code pc = .ok (.iand, 1)) (hv : x &&& y = v) (hq : pc + 1 = q) : Gets p e below S0 (T.setTop (mkF m q Ls (.int v :: st))) := by
  subst hv hq; exact fun t k => G t (XS.iand h hx rfl hd rfl k)
theorem own_lxor {x y v : Int64} (G : Gets p e below S0 (T.setTop (mkF m pc Ls (.long y :: .long x :: st)))) (h : At T m c below) (hx : p.tables.exec = Jvm.exec) (hd : decode c.code pc = .ok (.lxor, 1)) (hv : x ^^^ y = v) (hq : pc + 1 = q) : Gets p e below S0 (T.setTop (mkF m q Ls (.long v :: st))) := by
  subst hv hq; exact fun t k => G t (XS.lxor h hx rfl hd rfl k)
theorem own_lushr {x : Int64} {y : Int32} {v : Int64} (G : Gets p e below S0 (T.setTop (mkF m pc Ls (.int y :: .long x :: st)))) (h : At T m c below) (hx : p.tables.exec = Jvm.exec) (hd : decode c.code pc = .ok (.lushr, 1)) (hv : ((x.toUInt64 >>> (y &&& 0x3f).toInt64.toUInt64).toInt64) = v) (hq : pc + 1 = q) : Gets p e below S0 (T.setTop (mkF m q Ls (.long v :: st))) := by
  subst hv hq; exact fun t k => G t (XS.lushr h hx rfl hd rfl k)
theorem own_l2i {x : Int64} {v : Int32} (G : Gets p e below S0 (T.setTop (mkF m pc Ls (.long x :: st)))) (h : At T m c below) (hx : p.tables.exec = Jvm.exec) (hd : decode c.code pc = .ok (.l2i, 1)) (hv : (x.toInt32) = v) (hq : pc + 1 = q) : Gets p e below S0 (T.setTop (mkF m q Ls (.int v :: st))) := by
  subst hv hq; exact fun t k => G t (XS.l2i h hx rfl hd rfl k)
theorem own_lcmp {x y : Int64} (G : Gets p e below S0 (T.setTop (mkF m pc Ls (.long y :: .long x :: st)))) (h : At T m c below) (hx : p.tables.exec = Jvm.exec) (hd : decode c.code pc = .ok (.lcmp, 1))  (hq : pc + 1 = q) : Gets p e below S0 (T.setTop (mkF m q Ls (.int (lcmpW x y) :: st))) := by
  subst hq; exact fun t k => G t (XS.lcmp h hx rfl hd rfl k)
theorem own_iconst {i : Int} {v : Int32} (G : Gets p e below S0 (T.setTop (mkF m pc Ls st))) (h : At T m c below) (hx : p.tables.exec = Jvm.exec) (hd : decode c.code pc = .ok (.iconst i, 1)) (hv : Int32.ofInt i = v) (hq : pc + 1 = q) : Gets p e below S0 (T.setTop (mkF m q Ls (.int v :: st))) := by
  subst hv hq; exact fun t k => G t (XS.iconst h hx rfl hd k)
theorem own_bipush {i : Int} {v : Int32} (G : Gets p e below S0 (T.setTop (mkF m pc Ls st))) (h : At T m c below) (hx : p.tables.exec = Jvm.exec) (hd : decode c.code pc = .ok (.bipush i, 2)) (hv : (Int8.ofInt i).toInt32 = v) (hq : pc + 2 = q) : Gets p e below S0 (T.setTop (mkF m q Ls (.int v :: st))) := by
  subst hv hq; exact fun t k => G t (XS.bipush h hx rfl hd k)
theorem own_iload {i : Nat} {v : Int32} (G : Gets p e below S0 (T.setTop (mkF m pc Ls st))) (h : At T m c below) (hx : p.tables.exec = Jvm.exec) (hd : decode c.code pc = .ok (.iload i, 2)) (hl : Ls[i]? = some (.val (.int v))) (hq : pc + 2 = q) : Gets p e below S0 (T.setTop (mkF m q Ls (.int v :: st))) := by
  subst hq; exact fun t k => G t (XS.iload h hx rfl hd hl k)
theorem own_lload {i : Nat} {v : Int64} (G : Gets p e below S0 (T.setTop (mkF m pc Ls st))) (h : At T m c below) (hx : p.tables.exec = Jvm.exec) (hd : decode c.code pc = .ok (.lload i, 2)) (hl : Ls[i]? = some (.val (.long v))) (hq : pc + 2 = q) : Gets p e below S0 (T.setTop (mkF m q Ls (.long v :: st))) := by
  subst hq; exact fun t k => G t (XS.lload h hx rfl hd hl k)
theorem own_lloadN {i : Fin 4} {v : Int64} (G : Gets p e below S0 (T.setTop (mkF m pc Ls st))) (h : At T m c below) (hx : p.tables.exec = Jvm.exec) (hd : decode c.code pc = .ok (.lload_n i, 1)) (hl : Ls[i.val]? = some (.val (.long v))) (hq : pc + 1 = q) : Gets p e below S0 (T.setTop (mkF m q Ls (.long v :: st))) := by
  subst hq; exact fun t k => G t (XS.lloadN h hx rfl hd hl k)
theorem own_aload {i : Nat} {v : Value} (G : Gets p e below S0 (T.setTop (mkF m pc Ls st))) (h : At T m c below) (hx : p.tables.exec = Jvm.exec) (hd : decode c.code pc = .ok (.aload i, 2)) (hl : Ls[i]? = some (.val v)) (hv : v.isRef = true) (hq : pc + 2 = q) : Gets p e below S0 (T.setTop (mkF m q Ls (v :: st))) := by
  subst hq; exact fun t k => G t (XS.aload h hx rfl hd hl hv k)
theorem own_aloadN {i : Fin 4} {v : Value} (G : Gets p e below S0 (T.setTop (mkF m pc Ls st))) (h : At T m c below) (hx : p.tables.exec = Jvm.exec) (hd : decode c.code pc = .ok (.aload_n i, 1)) (hl : Ls[i.val]? = some (.val v)) (hv : v.isRef = true) (hq : pc + 1 = q) : Gets p e below S0 (T.setTop (mkF m q Ls (v :: st))) := by
  subst hq; exact fun t k => G t (XS.aloadN h hx rfl hd hl hv k)
theorem own_istore {i : Nat} {v : Int32} {l' : Array Slot} (G : Gets p e below S0 (T.setTop (mkF m pc Ls (.int v :: st)))) (h : At T m c below) (hx : p.tables.exec = Jvm.exec) (hd : decode c.code pc = .ok (.istore i, 2)) (hl : storeLocals Ls i (.int v) = some l') (hq : pc + 2 = q) : Gets p e below S0 (T.setTop (mkF m q l' st)) := by
  subst hq; exact fun t k => G t (XS.istore h hx rfl hd rfl hl k)
theorem own_lstore {i : Nat} {v : Int64} {l' : Array Slot} (G : Gets p e below S0 (T.setTop (mkF m pc Ls (.long v :: st)))) (h : At T m c below) (hx : p.tables.exec = Jvm.exec) (hd : decode c.code pc = .ok (.lstore i, 2)) (hl : storeLocals Ls i (.long v) = some l') (hq : pc + 2 = q) : Gets p e below S0 (T.setTop (mkF m q l' st)) := by
  subst hq; exact fun t k => G t (XS.lstore h hx rfl hd rfl hl k)
theorem own_astore {i : Nat} {v : Value} {l' : Array Slot} (G : Gets p e below S0 (T.setTop (mkF m pc Ls (v :: st)))) (h : At T m c below) (hx : p.tables.exec = Jvm.exec) (hd : decode c.code pc = .ok (.astore i, 2)) (hv : v.isRef = true) (hl : storeLocals Ls i v = some l') (hq : pc + 2 = q) : Gets p e below S0 (T.setTop (mkF m q l' st)) := by
  subst hq; exact fun t k => G t (XS.astore h hx rfl hd rfl hv hl k)
theorem own_dup {x : Value} (G : Gets p e below S0 (T.setTop (mkF m pc Ls (x :: st)))) (h : At T m c below) (hx : p.tables.exec = Jvm.exec) (hd : decode c.code pc = .ok (.dup, 1)) (hc : x.category = 1) (hq : pc + 1 = q) : Gets p e below S0 (T.setTop (mkF m q Ls (x :: x :: st))) := by
  subst hq; exact fun t k => G t (XS.dup h hx rfl hd rfl hc k)
theorem own_goto {o : Int} (G : Gets p e below S0 (T.setTop (mkF m pc Ls st))) (h : At T m c below) (hx : p.tables.exec = Jvm.exec) (hd : decode c.code pc = .ok (.goto o, 3))  (ho : 0 ≤ (pc : Int) + o) (hp : ((pc : Int) + o).toNat = q) : Gets p e below S0 (T.setTop (mkF m q Ls st)) := by
  exact fun t k => G t (XS.goto h hx rfl rfl hd ho hp k)
theorem own_ifYes {cd : ClassFile.Cond} {o : Int} {x : Int32} (G : Gets p e below S0 (T.setTop (mkF m pc Ls (.int x :: st)))) (h : At T m c below) (hx : p.tables.exec = Jvm.exec) (hd : decode c.code pc = .ok (.ifCond cd o, 3)) (hc : ifCond.holds cd x = true) (ho : 0 ≤ (pc : Int) + o) (hp : ((pc : Int) + o).toNat = q) : Gets p e below S0 (T.setTop (mkF m q Ls st)) := by
  exact fun t k => G t (XS.ifYes h hx rfl rfl hd rfl hc ho hp k)
theorem own_ifNo {cd : ClassFile.Cond} {o : Int} {x : Int32} (G : Gets p e below S0 (T.setTop (mkF m pc Ls (.int x :: st)))) (h : At T m c below) (hx : p.tables.exec = Jvm.exec) (hd : decode c.code pc = .ok (.ifCond cd o, 3)) (hc : ifCond.holds cd x = false) (hq : pc + 3 = q) : Gets p e below S0 (T.setTop (mkF m q Ls st)) := by
  subst hq; exact fun t k => G t (XS.ifNo h hx rfl hd rfl hc k)
theorem own_icmpNo {cd : ClassFile.Cond} {o : Int} {x y : Int32} (G : Gets p e below S0 (T.setTop (mkF m pc Ls (.int y :: .int x :: st)))) (h : At T m c below) (hx : p.tables.exec = Jvm.exec) (hd : decode c.code pc = .ok (.if_icmp cd o, 3)) (hc : if_icmp.holds cd x y = false) (hq : pc + 3 = q) : Gets p e below S0 (T.setTop (mkF m q Ls st)) := by
  subst hq; exact fun t k => G t (XS.icmpNo h hx rfl hd rfl hc k)
end Own

def own_lh (x : Int64) : Int32 := (x ^^^ ((x.toUInt64 >>> ((32 : Int32) &&& 0x3f).toInt64.toUInt64).toInt64)).toInt32
def own_hc (x y : Int64) : Int32 := own_lh x * 31 + own_lh y
theorem d1_0 : decode prog_20_method_1_code 0 = .ok (.aload_n 0, 1) := by decide +kernel
theorem d1_1 : decode prog_20_method_1_code 1 = .ok (.invokespecial 1, 3) := by decide +kernel
theorem d1_4 : decode prog_20_method_1_code 4 = .ok (.aload_n 0, 1) := by decide +kernel
theorem d1_5 : decode prog_20_method_1_code 5 = .ok (.lload_n 1, 1) := by decide +kernel
theorem d1_6 : decode prog_20_method_1_code 6 = .ok (.putfield 7, 3) := by decide +kernel
theorem d1_9 : decode prog_20_method_1_code 9 = .ok (.aload_n 0, 1) := by decide +kernel
theorem d1_10 : decode prog_20_method_1_code 10 = .ok (.lload_n 3, 1) := by decide +kernel
theorem d1_11 : decode prog_20_method_1_code 11 = .ok (.putfield 13, 3) := by decide +kernel
theorem d1_14 : decode prog_20_method_1_code 14 = .ok (.return_, 1) := by decide +kernel
theorem pn_com_example_cheapside_cheapside_core_StoredValue : plainName "com/example/cheapside/cheapside/core/StoredValue" = true := by first | (simp [plainName, overriddenIn]; done) | decide +kernel
theorem ef_1 (m : MethodId) (x0 : Addr) (x1 : Int64) (x2 : Int64) : entryFrame m #[(.ref x0), (.long x1), (.long x2)] 5 = mkF m 0 #[.val (.ref x0), .val (.long x1), .second, .val (.long x2), .second] [] := by first | (simp [entryFrame, mkF, argsToLocals, Value.category]; done) | rfl
def Q1 (Z : State) (a : Addr) (u : Int64) (w : Int64) (h0 : Heap) (n0 : Nat) (v : Option Value) (h : Heap) (L : List Loc) : Prop := v = none ∧ Fr n0 L ∧ Keep h0 h [a] ∧ (Fld Z h a "com/example/cheapside/cheapside/core/StoredValue" "value" "J" (.long u)) ∧ (Fld Z h a "com/example/cheapside/cheapside/core/StoredValue" "writtenThrough" "J" (.long w))
set_option maxRecDepth 65536 in
set_option maxHeartbeats 40000000 in
theorem rm1 (l : Launch) (Z : State) (a0 : Array Value) (hw : ∀ d ∈ tables_1, d.before a0 Z = true) (ws : List Jvm.Cond) (a : Addr) (u : Int64) (w : Int64) (h0 : Heap) (n0 : Nat) (Z0 : n0 ≤ h0.size) (P0 : Fld Z h0 a "com/example/cheapside/cheapside/core/StoredValue" "value" "J" (.long (0 : Int64))) (P1 : Fld Z h0 a "com/example/cheapside/cheapside/core/StoredValue" "writtenThrough" "J" (.long (0 : Int64))) (P2 : Exa Z h0 a "com/example/cheapside/cheapside/core/StoredValue") (P3 : n0 ≤ a) :
    MetFree l (⟨"com/example/cheapside/cheapside/core/StoredValue", "<init>", "(JJ)V"⟩ : MethodName) (head1 (Jvm.Cond.code (⟨"com/example/cheapside/cheapside/core/StoredValue", "<init>", "(JJ)V"⟩ : MethodName) prog_20_method_1_code 5 none :: ws) ({ frames := 1, cells := 0, slots := 0, locals := 12 } : Room)) (fun zz U => zz = #[(.ref a), (.long u), (.long w)] ∧ Z.Warmed39 U.vm ∧ U.heap = h0) (fun _ _ _ _ _ => True) (fun _ U o U' => ∃ v L, o = .returned v ∧ Q1 Z a u w h0 n0 v U'.heap L ∧ FrameEnd U o U' L ({ frames := 1, cells := 0, slots := 0, locals := 12 } : Room).cells ({ frames := 1, cells := 0, slots := 0, locals := 12 } : Room).slots) := by
  refine MetFree.of_bodySF (plainFor_of_name pn_com_example_cheapside_cheapside_core_StoredValue) hisR ?_
  intro p e s m args below meth c s₁ Bd hml0 hP hK
  obtain ⟨rfl, hZ, hh⟩ := hP
  have hx := Bd.exec
  have hby := Bd.bytes
  have hml : c.maxLocals = 5 := hml0
  have hown : s.vm.findClass "com/example/cheapside/cheapside/core/StoredValue" = some m.cls := findClass_of_methodNamed Bd.named
  have hnm := (name_of_methodNamed Bd.named Bd.method).1
  have X0 : Stand p l e ({ frames := 1, cells := 0, slots := 0, locals := 12 } : Room) s m #[(.ref a), (.long u), (.long w)] below meth c s₁ [] 0 0 := Stand.of_body Bd
  have e0 : s₁.heap = h0 := by rw [← hh, Bd.state]; rfl
  have N0 := Fr.nil n0
  have K0 : Keep h0 h0 [a] := Keep.refl _ _
  have G : Gets p e below (s₁.setTop (entryFrame m #[(.ref a), (.long u), (.long w)] 5)) (s₁.setTop (mkF m 0 #[.val (.ref a), .val (.long u), .second, .val (.long w), .second] [])) := fun t k => castTop (ef_1 m a u w) k
  replace G := own_aloadN (q := 1) G X0.here hx (hb hby d1_0) rfl rfl rfl
  obtain ⟨T1, X1, e1, st1⟩ := initO X0 hx hZ hown (hw _ (List.mem_of_getElem? (i := 6) rfl)) (hw _ (List.mem_of_getElem? (i := 7) rfl)) (hw _ (List.mem_of_getElem? (i := 8) rfl)) e0 (g := (mkF m 1 #[.val (.ref a), .val (.long u), .second, .val (.long w), .second] [(.ref a)])) rfl (by rw [hml]; rfl) rfl (hb hby d1_1) (by decide) (W := 0) (by show 2 * 0 + _ ≤ _; exact Nat.le_of_eq rfl) (by decide)
  replace G : Gets p e below _ (T1.setTop (mkF m 4 #[.val (.ref a), .val (.long u), .second, .val (.long w), .second] [])) := fun t k => G t (st1 t k)
  replace G := own_aloadN (q := 5) G X1.here hx (hb hby d1_4) rfl rfl rfl
  replace G := own_lloadN (q := 6) G X1.here hx (hb hby d1_5) rfl rfl
  obtain ⟨T2, h2, X2, e2, W2, st2⟩ := putF X1 hx hZ hown (host := "") (Or.inl (hw _ (List.mem_of_getElem? (i := 9) rfl))) Via.refl e1 P0 P2 (Or.inr ⟨(hw _ (List.mem_of_getElem? (i := 10) rfl)), rfl, hnm⟩) (hw _ (List.mem_of_getElem? (i := 1) rfl)) (ty := .long) (by decide) rfl rfl (g := (mkF m 6 #[.val (.ref a), .val (.long u), .second, .val (.long w), .second] [(.long u), (.ref a)])) rfl rfl (hb hby d1_6)
  have N2 := Fr.snoc X2 N0 P3
  have Z2 : n0 ≤ h2.size := Nat.le_trans Z0 (Keep.of_wr W2).1
  have K2 : Keep h0 h2 [a] := K0.wr W2 (Or.inl (List.mem_of_getElem? (i := 0) rfl))
  have F2 : Fld Z h2 a "com/example/cheapside/cheapside/core/StoredValue" "value" "J" (.long u) := P0.same W2
  replace G : Gets p e below _ (T2.setTop (mkF m 9 #[.val (.ref a), .val (.long u), .second, .val (.long w), .second] [])) := fun t k => G t (st2 t k)
  replace G := own_aloadN (q := 10) G X2.here hx (hb hby d1_9) rfl rfl rfl
  replace G := own_lloadN (q := 11) G X2.here hx (hb hby d1_10) rfl rfl
  have F3 : Exa Z h2 a "com/example/cheapside/cheapside/core/StoredValue" := (P2.wr W2)
  have F4 : Fld Z h2 a "com/example/cheapside/cheapside/core/StoredValue" "writtenThrough" "J" (.long (0 : Int64)) := (P1.other W2 (Or.inr (slot_ne (Or.inr (hw _ (List.mem_of_getElem? (i := 12) rfl))) (Or.inr (hw _ (List.mem_of_getElem? (i := 10) rfl))) (by decide) (t := .long) (t' := .long) (by decide) (by decide))))
  obtain ⟨T5, h5, X5, e5, W5, st5⟩ := putF X2 hx hZ hown (host := "") (Or.inl (hw _ (List.mem_of_getElem? (i := 11) rfl))) Via.refl e2 F4 F3 (Or.inr ⟨(hw _ (List.mem_of_getElem? (i := 12) rfl)), rfl, hnm⟩) (hw _ (List.mem_of_getElem? (i := 1) rfl)) (ty := .long) (by decide) rfl rfl (g := (mkF m 11 #[.val (.ref a), .val (.long u), .second, .val (.long w), .second] [(.long w), (.ref a)])) rfl rfl (hb hby d1_11)
  have N5 := Fr.snoc X5 N2 P3
  have Z5 : n0 ≤ h5.size := Nat.le_trans Z2 (Keep.of_wr W5).1
  have K5 : Keep h0 h5 [a] := K2.wr W5 (Or.inl (List.mem_of_getElem? (i := 0) rfl))
  have F5 : Fld Z h5 a "com/example/cheapside/cheapside/core/StoredValue" "writtenThrough" "J" (.long w) := F4.same W5
  replace G : Gets p e below _ (T5.setTop (mkF m 14 #[.val (.ref a), .val (.long u), .second, .val (.long w), .second] [])) := fun t k => G t (st5 t k)
  obtain ⟨fs, hr, hrun, hended, hW, hsame⟩ := X5.leave (v := none) (fun _ => rfl)
  refine ⟨_, _, G _ (X5.returnOut hx Bd.returns (hb hby d1_14) hr), hrun, hended, _, _, rfl, ?_, ⟨_, rfl⟩, hW, hsame.mono (by decide) (by decide)⟩
  have F6 : Fld Z h5 a "com/example/cheapside/cheapside/core/StoredValue" "value" "J" (.long u) := (F2.other W5 (Or.inr (slot_ne (Or.inr (hw _ (List.mem_of_getElem? (i := 10) rfl))) (Or.inr (hw _ (List.mem_of_getElem? (i := 12) rfl))) (by decide) (t := .long) (t' := .long) (by decide) (by decide))))
  show Q1 Z a u w h0 n0 _ T5.heap _
  rw [e5]
  exact ⟨rfl, N5, K5, F6, F5⟩
theorem d4_0 : decode jdk_35_method_36_code 0 = .ok (.lload_n 0, 1) := by decide +kernel
theorem d4_1 : decode jdk_35_method_36_code 1 = .ok (.lload_n 0, 1) := by decide +kernel
theorem d4_2 : decode jdk_35_method_36_code 2 = .ok (.bipush 32, 2) := by decide +kernel
theorem d4_4 : decode jdk_35_method_36_code 4 = .ok (.lushr, 1) := by decide +kernel
theorem d4_5 : decode jdk_35_method_36_code 5 = .ok (.lxor, 1) := by decide +kernel
theorem d4_6 : decode jdk_35_method_36_code 6 = .ok (.l2i, 1) := by decide +kernel
theorem d4_7 : decode jdk_35_method_36_code 7 = .ok (.ireturn, 1) := by decide +kernel
theorem pn_java_lang_Long : plainName "java/lang/Long" = true := by first | (simp [plainName, overriddenIn]; done) | decide +kernel
theorem ef_4 (m : MethodId) (x0 : Int64) : entryFrame m #[(.long x0)] 2 = mkF m 0 #[.val (.long x0), .second] [] := by first | (simp [entryFrame, mkF, argsToLocals, Value.category]; done) | rfl
def Q4 (Z : State) (u : Int64) (h0 : Heap) (n0 : Nat) (v : Option Value) (h : Heap) (L : List Loc) : Prop := v = some (.int (own_lh u)) ∧ Fr n0 L ∧ h = h0
set_option maxRecDepth 65536 in
set_option maxHeartbeats 40000000 in
theorem rm4 (l : Launch) (Z : State) (a0 : Array Value) (hw : ∀ d ∈ tables_1, d.before a0 Z = true) (ws : List Jvm.Cond) (u : Int64) (h0 : Heap) (n0 : Nat) (Z0 : n0 ≤ h0.size)  :
    MetFree l (⟨"java/lang/Long", "hashCode", "(J)I"⟩ : MethodName) (head1 (Jvm.Cond.code (⟨"java/lang/Long", "hashCode", "(J)I"⟩ : MethodName) jdk_35_method_36_code 2 (some .int) :: ws) ({ frames := 0, cells := 0, slots := 0, locals := 0 } : Room)) (fun zz U => zz = #[(.long u)] ∧ Z.Warmed39 U.vm ∧ U.heap = h0) (fun _ _ _ _ _ => True) (fun _ U o U' => ∃ v L, o = .returned v ∧ Q4 Z u h0 n0 v U'.heap L ∧ FrameEnd U o U' L ({ frames := 0, cells := 0, slots := 0, locals := 0 } : Room).cells ({ frames := 0, cells := 0, slots := 0, locals := 0 } : Room).slots) := by
  refine MetFree.of_bodySF (plainFor_of_name pn_java_lang_Long) hisR ?_
  intro p e s m args below meth c s₁ Bd hml0 hP hK
  obtain ⟨rfl, hZ, hh⟩ := hP
  have hx := Bd.exec
  have hby := Bd.bytes
  have hml : c.maxLocals = 2 := hml0
  have hown : s.vm.findClass "java/lang/Long" = some m.cls := findClass_of_methodNamed Bd.named
  have hnm := (name_of_methodNamed Bd.named Bd.method).1
  have X0 : Stand p l e ({ frames := 0, cells := 0, slots := 0, locals := 0 } : Room) s m #[(.long u)] below meth c s₁ [] 0 0 := Stand.of_body Bd
  have e0 : s₁.heap = h0 := by rw [← hh, Bd.state]; rfl
  have N0 := Fr.nil n0
  have G : Gets p e below (s₁.setTop (entryFrame m #[(.long u)] 2)) (s₁.setTop (mkF m 0 #[.val (.long u), .second] [])) := fun t k => castTop (ef_4 m u) k
  replace G := own_lloadN (q := 1) G X0.here hx (hb hby d4_0) rfl rfl
  replace G := own_lloadN (q := 2) G X0.here hx (hb hby d4_1) rfl rfl
  replace G := own_bipush (q := 4) G X0.here hx (hb hby d4_2) (v := (32 : Int32)) (by decide) rfl
  replace G := own_lushr (q := 5) G X0.here hx (hb hby d4_4) rfl rfl
  replace G := own_lxor (q := 6) G X0.here hx (hb hby d4_5) rfl rfl
  replace G := own_l2i (q := 7) G X0.here hx (hb hby d4_6) rfl rfl
  obtain ⟨fs, hr, hrun, hended, hW, hsame⟩ := X0.leave (v := some (.int ((u ^^^ ((u.toUInt64 >>> ((32 : Int32) &&& 0x3f).toInt64.toUInt64).toInt64)).toInt32))) (fun h => by rw [Bd.returns] at h; cases h)
  refine ⟨_, _, G _ (retOut X0 hx Bd.returns rfl (Or.inl ⟨rfl, Or.inl rfl, _, rfl⟩) (hb hby d4_7) hr), hrun, hended, _, _, rfl, ?_, ⟨_, rfl⟩, hW, hsame.mono (by decide) (by decide)⟩
  show Q4 Z u h0 n0 _ s₁.heap _
  rw [e0]
  exact ⟨rfl, N0, rfl⟩
theorem pd_0 : parseMethodDescriptor "(J)I" = some ⟨[.long], some .int⟩ := by decide +kernel
theorem d3_0 : decode prog_20_method_5_code 0 = .ok (.aload_n 0, 1) := by decide +kernel
theorem d3_1 : decode prog_20_method_5_code 1 = .ok (.getfield 7, 3) := by decide +kernel
theorem d3_4 : decode prog_20_method_5_code 4 = .ok (.invokestatic 16, 3) := by decide +kernel
theorem d3_7 : decode prog_20_method_5_code 7 = .ok (.bipush 31, 2) := by decide +kernel
theorem d3_9 : decode prog_20_method_5_code 9 = .ok (.imul, 1) := by decide +kernel
theorem d3_10 : decode prog_20_method_5_code 10 = .ok (.aload_n 0, 1) := by decide +kernel
theorem d3_11 : decode prog_20_method_5_code 11 = .ok (.getfield 13, 3) := by decide +kernel
theorem d3_14 : decode prog_20_method_5_code 14 = .ok (.invokestatic 16, 3) := by decide +kernel
theorem d3_17 : decode prog_20_method_5_code 17 = .ok (.iadd, 1) := by decide +kernel
theorem d3_18 : decode prog_20_method_5_code 18 = .ok (.ireturn, 1) := by decide +kernel
theorem ef_3 (m : MethodId) (x0 : Addr) : entryFrame m #[(.ref x0)] 1 = mkF m 0 #[.val (.ref x0)] [] := by first | (simp [entryFrame, mkF, argsToLocals, Value.category]; done) | rfl
def Q3 (Z : State) (a : Addr) (u : Int64) (w : Int64) (h0 : Heap) (n0 : Nat) (v : Option Value) (h : Heap) (L : List Loc) : Prop := v = some (.int (own_hc u w)) ∧ Fr n0 L ∧ h = h0
set_option maxRecDepth 65536 in
set_option maxHeartbeats 40000000 in
theorem rm3 (l : Launch) (Z : State) (a0 : Array Value) (hw : ∀ d ∈ tables_1, d.before a0 Z = true) (ws : List Jvm.Cond) (a : Addr) (u : Int64) (w : Int64) (h0 : Heap) (n0 : Nat) (Z0 : n0 ≤ h0.size) (P0 : Fld Z h0 a "com/example/cheapside/cheapside/core/StoredValue" "value" "J" (.long u)) (P1 : Fld Z h0 a "com/example/cheapside/cheapside/core/StoredValue" "writtenThrough" "J" (.long w)) (P2 : Exa Z h0 a "com/example/cheapside/cheapside/core/StoredValue") :
    MetFree l (⟨"com/example/cheapside/cheapside/core/StoredValue", "hashCode", "()I"⟩ : MethodName) (head1 (Jvm.Cond.code (⟨"com/example/cheapside/cheapside/core/StoredValue", "hashCode", "()I"⟩ : MethodName) prog_20_method_5_code 1 (some .int) :: ws) ({ frames := 1, cells := 0, slots := 0, locals := 14 } : Room)) (fun zz U => zz = #[(.ref a)] ∧ Z.Warmed39 U.vm ∧ U.heap = h0) (fun _ _ _ _ _ => True) (fun _ U o U' => ∃ v L, o = .returned v ∧ Q3 Z a u w h0 n0 v U'.heap L ∧ FrameEnd U o U' L ({ frames := 1, cells := 0, slots := 0, locals := 14 } : Room).cells ({ frames := 1, cells := 0, slots := 0, locals := 14 } : Room).slots) := by
  refine MetFree.of_bodySF (plainFor_of_name pn_com_example_cheapside_cheapside_core_StoredValue) hisR ?_
  intro p e s m args below meth c s₁ Bd hml0 hP hK
  obtain ⟨rfl, hZ, hh⟩ := hP
  have hx := Bd.exec
  have hby := Bd.bytes
  have hml : c.maxLocals = 1 := hml0
  have hown : s.vm.findClass "com/example/cheapside/cheapside/core/StoredValue" = some m.cls := findClass_of_methodNamed Bd.named
  have hnm := (name_of_methodNamed Bd.named Bd.method).1
  have X0 : Stand p l e ({ frames := 1, cells := 0, slots := 0, locals := 14 } : Room) s m #[(.ref a)] below meth c s₁ [] 0 0 := Stand.of_body Bd
  have e0 : s₁.heap = h0 := by rw [← hh, Bd.state]; rfl
  have N0 := Fr.nil n0
  have G : Gets p e below (s₁.setTop (entryFrame m #[(.ref a)] 1)) (s₁.setTop (mkF m 0 #[.val (.ref a)] [])) := fun t k => castTop (ef_3 m a) k
  replace G := own_aloadN (q := 1) G X0.here hx (hb hby d3_0) rfl rfl rfl
  obtain ⟨T1, X1, e1, st1⟩ := getF X0 hx hZ hown (host := "") (Or.inl (hw _ (List.mem_of_getElem? (i := 9) rfl))) Via.refl e0 P0 (g := (mkF m 1 #[.val (.ref a)] [(.ref a)])) rfl rfl (hb hby d3_1)
  replace G : Gets p e below _ (T1.setTop (mkF m 4 #[.val (.ref a)] [(.long u)])) := fun t k => G t (st1 t k)
  obtain ⟨_, _, ⟨T2, L2, kk2, nn2⟩, -, X2, ⟨Lc2, hQ2, l2, y2, z2⟩, st2⟩ := Jvm.LawKit.callS X1 hx (y := (⟨"java/lang/Long", "hashCode", "(J)I"⟩ : MethodName)) hown (mvT hZ (hw _ (List.mem_of_getElem? (i := 18) rfl))) (mvT hZ (hw _ (List.mem_of_getElem? (i := 19) rfl))) (mvT hZ (hw _ (List.mem_of_getElem? (i := 20) rfl))) (mvT hZ (hw _ (List.mem_of_getElem? (i := 21) rfl))) (by decide) (backOf (W := 0) (rm4 l Z a0 hw [] u h0 n0 Z0 ) hZ (hw _ (List.mem_of_getElem? (i := 21) rfl)) (hw _ (List.mem_of_getElem? (i := 20) rfl)) (by decide) (by decide)) (g := (mkF m 4 #[.val (.ref a)] [(.long u)])) rfl (by rw [hml]; rfl) (argsL := [(.long u)]) (rest := []) (lenOf pd_0 rfl) rfl (by show 2 * 0 + _ ≤ _; exact Nat.le_of_eq rfl) (hb hby d3_4) (fun _ _ => ⟨rfl, e1, (by decide : 0 + 0 ≤ _), (by decide : 0 + 0 ≤ _)⟩)
  dsimp only [Pt.U, Pt.locs, Pt.cells, Pt.slots] at X2 l2 y2 z2 st2 hQ2
  subst l2 y2 z2
  obtain ⟨rfl, N2q, e2⟩ := hQ2
  have N2 := Fr.app N0 N2q
  replace G : Gets p e below _ (T2.setTop (mkF m 7 #[.val (.ref a)] [(.int (own_lh u))])) := fun t k => G t (st2 t k)
  replace G := own_bipush (q := 9) G X2.here hx (hb hby d3_7) (v := (31 : Int32)) (by decide) rfl
  replace G := own_imul (q := 10) G X2.here hx (hb hby d3_9) rfl rfl
  replace G := own_aloadN (q := 11) G X2.here hx (hb hby d3_10) rfl rfl rfl
  obtain ⟨T3, X3, e3, st3⟩ := getF X2 hx hZ hown (host := "") (Or.inl (hw _ (List.mem_of_getElem? (i := 11) rfl))) Via.refl e2 P1 (g := (mkF m 11 #[.val (.ref a)] [(.ref a), (.int ((own_lh u) * (31 : Int32)))])) rfl rfl (hb hby d3_11)
  replace G : Gets p e below _ (T3.setTop (mkF m 14 #[.val (.ref a)] [(.long w), (.int ((own_lh u) * (31 : Int32)))])) := fun t k => G t (st3 t k)
  obtain ⟨_, _, ⟨T4, L4, kk4, nn4⟩, -, X4, ⟨Lc4, hQ4, l4, y4, z4⟩, st4⟩ := Jvm.LawKit.callS X3 hx (y := (⟨"java/lang/Long", "hashCode", "(J)I"⟩ : MethodName)) hown (mvT hZ (hw _ (List.mem_of_getElem? (i := 18) rfl))) (mvT hZ (hw _ (List.mem_of_getElem? (i := 19) rfl))) (mvT hZ (hw _ (List.mem_of_getElem? (i := 20) rfl))) (mvT hZ (hw _ (List.mem_of_getElem? (i := 21) rfl))) (by decide) (backOf (W := 1) (rm4 l Z a0 hw [] w h0 n0 Z0 ) hZ (hw _ (List.mem_of_getElem? (i := 21) rfl)) (hw _ (List.mem_of_getElem? (i := 20) rfl)) (by decide) (by decide)) (g := (mkF m 14 #[.val (.ref a)] [(.long w), (.int ((own_lh u) * (31 : Int32)))])) rfl (by rw [hml]; rfl) (argsL := [(.long w)]) (rest := [(.int ((own_lh u) * (31 : Int32)))]) (lenOf pd_0 rfl) rfl (by show 2 * 0 + _ ≤ _; exact Nat.le_of_eq rfl) (hb hby d3_14) (fun _ _ => ⟨rfl, e3, (by decide : 0 + 0 ≤ _), (by decide : 0 + 0 ≤ _)⟩)
  dsimp only [Pt.U, Pt.locs, Pt.cells, Pt.slots] at X4 l4 y4 z4 st4 hQ4
  subst l4 y4 z4
  obtain ⟨rfl, N4q, e4⟩ := hQ4
  have N4 := Fr.app N2 N4q
  replace G : Gets p e below _ (T4.setTop (mkF m 17 #[.val (.ref a)] [(.int (own_lh w)), (.int ((own_lh u) * (31 : Int32)))])) := fun t k => G t (st4 t k)
  replace G := own_iadd (q := 18) G X4.here hx (hb hby d3_17) rfl rfl
  obtain ⟨fs, hr, hrun, hended, hW, hsame⟩ := X4.leave (v := some (.int (((own_lh u) * (31 : Int32)) + (own_lh w)))) (fun h => by rw [Bd.returns] at h; cases h)
  refine ⟨_, _, G _ (retOut X4 hx Bd.returns rfl (Or.inl ⟨rfl, Or.inl rfl, _, rfl⟩) (hb hby d3_18) hr), hrun, hended, _, _, rfl, ?_, ⟨_, rfl⟩, hW, hsame.mono (by decide) (by decide)⟩
  show Q3 Z a u w h0 n0 _ T4.heap _
  rw [e4]
  exact ⟨rfl, N4, rfl⟩
theorem pd_1 : parseMethodDescriptor "(JJ)V" = some ⟨[.long, .long], none⟩ := by decide +kernel
theorem pd_2 : parseMethodDescriptor "()I" = some ⟨[], some .int⟩ := by decide +kernel
theorem pn_com_example_cheapside_cheapside_core_StoredValueHashCodePinLaw : plainName "com/example/cheapside/cheapside/core/StoredValueHashCodePinLaw" = true := by first | (simp [plainName, overriddenIn]; done) | decide +kernel
theorem ef_0 (m : MethodId) (x0 : Int64) (x1 : Int64) (x2 : Int64) (x3 : Int64) (x4 : Int32) : entryFrame m #[(.long x0), (.long x1), (.long x2), (.long x3), (.int x4)] maxLocals = mkF m 0 #[.val (.long x0), .second, .val (.long x1), .second, .val (.long x2), .second, .val (.long x3), .second, .val (.int x4), .unset, .unset, .unset, .unset, .unset, .unset, .unset, .unset, .unset, .unset, .unset] [] := by first | (simp [entryFrame, mkF, argsToLocals, Value.category, maxLocals]; done) | rfl
def Q0 (Z : State) (i0 : Int64) (i1 : Int64) (i2 : Int64) (i3 : Int64) (i4 : Int32) (h0 : Heap) (n0 : Nat) (v : Option Value) (h : Heap) (L : List Loc) : Prop := v = some (.int (1 : Int32)) ∧ Fr n0 L
set_option maxRecDepth 65536 in
set_option maxHeartbeats 40000000 in
theorem rm0 (l : Launch) (Z : State) (a0 : Array Value) (hw : ∀ d ∈ tables_1, d.before a0 Z = true) (ws : List Jvm.Cond) (i0 : Int64) (i1 : Int64) (i2 : Int64) (i3 : Int64) (i4 : Int32) (h0 : Heap) (n0 : Nat) (Z0 : n0 ≤ h0.size)  :
    MetFree l x (head1 (Jvm.Cond.code x code maxLocals ret :: ws) room_1) (fun zz U => zz = #[(.long i0), (.long i1), (.long i2), (.long i3), (.int i4)] ∧ Z.Warmed39 U.vm ∧ U.heap = h0) (fun _ _ _ _ _ => True) (fun _ U o U' => ∃ v L, o = .returned v ∧ Q0 Z i0 i1 i2 i3 i4 h0 n0 v U'.heap L ∧ FrameEnd U o U' L room_1.cells room_1.slots) := by
  refine MetFree.of_bodySF (plainFor_of_name pn_com_example_cheapside_cheapside_core_StoredValueHashCodePinLaw) hisR ?_
  intro p e s m args below meth c s₁ Bd hml0 hP hK
  obtain ⟨rfl, hZ, hh⟩ := hP
  have hx := Bd.exec
  have hby := Bd.bytes
  have hml : c.maxLocals = 20 := hml0
  have hown : s.vm.findClass "com/example/cheapside/cheapside/core/StoredValueHashCodePinLaw" = some m.cls := findClass_of_methodNamed Bd.named
  have hnm := (name_of_methodNamed Bd.named Bd.method).1
  have X0 : Stand p l e room_1 s m #[(.long i0), (.long i1), (.long i2), (.long i3), (.int i4)] below meth c s₁ [] 0 0 := Stand.of_body Bd
  have e0 : s₁.heap = h0 := by rw [← hh, Bd.state]; rfl
  have N0 := Fr.nil n0
  have G : Gets p e below (s₁.setTop (entryFrame m #[(.long i0), (.long i1), (.long i2), (.long i3), (.int i4)] maxLocals)) (s₁.setTop (mkF m 0 #[.val (.long i0), .second, .val (.long i1), .second, .val (.long i2), .second, .val (.long i3), .second, .val (.int i4), .unset, .unset, .unset, .unset, .unset, .unset, .unset, .unset, .unset, .unset, .unset] [])) := fun t k => castTop (ef_0 m i0 i1 i2 i3 i4) k
  replace G := own_iload (q := 2) G X0.here hx (hb hby at_0) rfl rfl
  replace G := own_iconst (q := 3) G X0.here hx (hb hby at_2) (v := (3 : Int32)) (by decide) rfl
  obtain ⟨kk, hn_kk⟩ : ∃ z : Int32, (i4 &&& (3 : Int32)) = z := ⟨_, rfl⟩
  replace G := own_iand (q := 4) G X0.here hx (hb hby at_3) hn_kk rfl
  replace G := own_istore (q := 6) (l' := #[.val (.long i0), .second, .val (.long i1), .second, .val (.long i2), .second, .val (.long i3), .second, .val (.int i4), .val (.int kk), .unset, .unset, .unset, .unset, .unset, .unset, .unset, .unset, .unset, .unset]) G X0.here hx (hb hby at_4) rfl rfl
  replace G := own_iload (q := 8) G X0.here hx (hb hby at_6) rfl rfl
  replace G := own_iconst (q := 9) G X0.here hx (hb hby at_8) (v := (1 : Int32)) (by decide) rfl
  obtain ⟨k1, hn_k1⟩ : ∃ z : Int32, (kk &&& (1 : Int32)) = z := ⟨_, rfl⟩
  replace G := own_iand (q := 10) G X0.here hx (hb hby at_9) hn_k1 rfl
  by_cases hc10_1 : k1 = (0 : Int32)
  · replace G := own_ifYes (q := 18) G X0.here hx (hb hby at_10) ((if0 _ _).trans (teq hc10_1).1) (by decide) (by decide)
    replace G := own_lloadN (q := 19) G X0.here hx (hb hby at_18) rfl rfl
    replace G := own_lstore (q := 21) (l' := #[.val (.long i0), .second, .val (.long i1), .second, .val (.long i2), .second, .val (.long i3), .second, .val (.int i4), .val (.int kk), .val (.long i0), .second, .unset, .unset, .unset, .unset, .unset, .unset, .unset, .unset]) G X0.here hx (hb hby at_19) rfl rfl
    replace G := own_iload (q := 23) G X0.here hx (hb hby at_21) rfl rfl
    replace G := own_iconst (q := 24) G X0.here hx (hb hby at_23) (v := (2 : Int32)) (by decide) rfl
    obtain ⟨k2, hn_k2⟩ : ∃ z : Int32, (kk &&& (2 : Int32)) = z := ⟨_, rfl⟩
    replace G := own_iand (q := 25) G X0.here hx (hb hby at_24) hn_k2 rfl
    by_cases hc25_2 : k2 = (0 : Int32)
    · replace G := own_ifYes (q := 33) G X0.here hx (hb hby at_25) ((if0 _ _).trans (teq hc25_2).1) (by decide) (by decide)
      replace G := own_lloadN (q := 34) G X0.here hx (hb hby at_33) rfl rfl
      replace G := own_lstore (q := 36) (l' := #[.val (.long i0), .second, .val (.long i1), .second, .val (.long i2), .second, .val (.long i3), .second, .val (.int i4), .val (.int kk), .val (.long i0), .second, .val (.long i1), .second, .unset, .unset, .unset, .unset, .unset, .unset]) G X0.here hx (hb hby at_34) rfl rfl
      obtain ⟨T3, h3, X3, e3, E3, A3, D3, -, st3⟩ := newO X0 hx hZ hown (hw _ (List.mem_of_getElem? (i := 0) rfl)) (hw _ (List.mem_of_getElem? (i := 1) rfl)) (hw _ (List.mem_of_getElem? (i := 2) rfl)) e0 (g := (mkF m 36 #[.val (.long i0), .second, .val (.long i1), .second, .val (.long i2), .second, .val (.long i3), .second, .val (.int i4), .val (.int kk), .val (.long i0), .second, .val (.long i1), .second, .unset, .unset, .unset, .unset, .unset, .unset] [])) rfl (hb hby at_36) (by decide) (by decide)
      obtain ⟨b3, g3⟩ : ∃ z, z = h0.size := ⟨_, rfl⟩
      rw [← g3] at A3 D3 st3
      have ge_b3 : n0 ≤ b3 := Nat.le_trans Z0 (Nat.le_of_eq g3.symm)
      have Z3 : n0 ≤ h3.size := Nat.le_trans Z0 E3.1
      have F3_value : Fld Z h3 b3 "com/example/cheapside/cheapside/core/StoredValue" "value" "J" (.long (0 : Int64)) := D3 (Or.inr (hw _ (List.mem_of_getElem? (i := 10) rfl))) (ty := .long) (by decide)
      have F3_writtenThrough : Fld Z h3 b3 "com/example/cheapside/cheapside/core/StoredValue" "writtenThrough" "J" (.long (0 : Int64)) := D3 (Or.inr (hw _ (List.mem_of_getElem? (i := 12) rfl))) (ty := .long) (by decide)
      replace G : Gets p e below _ (T3.setTop (mkF m 39 #[.val (.long i0), .second, .val (.long i1), .second, .val (.long i2), .second, .val (.long i3), .second, .val (.int i4), .val (.int kk), .val (.long i0), .second, .val (.long i1), .second, .unset, .unset, .unset, .unset, .unset, .unset] [(.ref b3)])) := fun t k => G t (st3 t k)
      replace G := own_dup (q := 40) G X3.here hx (hb hby at_39) rfl rfl
      replace G := own_lloadN (q := 41) G X3.here hx (hb hby at_40) rfl rfl
      replace G := own_lloadN (q := 42) G X3.here hx (hb hby at_41) rfl rfl
      obtain ⟨_, _, ⟨T4, L4, kk4, nn4⟩, -, X4, ⟨Lc4, hQ4, l4, y4, z4⟩, st4⟩ := X3.specialBack hx (y := (⟨"com/example/cheapside/cheapside/core/StoredValue", "<init>", "(JJ)V"⟩ : MethodName)) rfl hown (mvT hZ (hw _ (List.mem_of_getElem? (i := 3) rfl))) (mvT hZ (hw _ (List.mem_of_getElem? (i := 4) rfl))) (mvT hZ (hw _ (List.mem_of_getElem? (i := 5) rfl))) (by decide) (backOf (W := 1) (rm1 l Z a0 hw [] b3 i0 i1 h3 n0 Z3 F3_value F3_writtenThrough A3 ge_b3) hZ (hw _ (List.mem_of_getElem? (i := 5) rfl)) (hw _ (List.mem_of_getElem? (i := 2) rfl)) (by decide) (by decide)) (g := (mkF m 42 #[.val (.long i0), .second, .val (.long i1), .second, .val (.long i2), .second, .val (.long i3), .second, .val (.int i4), .val (.int kk), .val (.long i0), .second, .val (.long i1), .second, .unset, .unset, .unset, .unset, .unset, .unset] [(.long i1), (.long i0), (.ref b3), (.ref b3)])) rfl (by rw [hml]; rfl) (Steps.refl _) (a := b3) (argsL := [(.long i0), (.long i1)]) (rest := [(.ref b3)]) (lenOf pd_1 rfl) rfl (by show 2 * 0 + _ ≤ _; exact Nat.le_of_eq rfl) (hb hby at_42) (fun _ _ => ⟨rfl, e3, (by decide : 1 + 0 ≤ _), (by decide : 2 + 0 ≤ _)⟩)
      dsimp only [Pt.U, Pt.locs, Pt.cells, Pt.slots] at X4 l4 y4 z4 st4 hQ4
      subst l4 y4 z4
      obtain ⟨rfl, N4q, K4q, B4_0, B4_1⟩ := hQ4
      have Z4 : n0 ≤ T4.heap.size := Nat.le_trans Z3 K4q.1
      have N4 := Fr.app N0 N4q
      replace G : Gets p e below _ (T4.setTop (mkF m 45 #[.val (.long i0), .second, .val (.long i1), .second, .val (.long i2), .second, .val (.long i3), .second, .val (.int i4), .val (.int kk), .val (.long i0), .second, .val (.long i1), .second, .unset, .unset, .unset, .unset, .unset, .unset] [(.ref b3)])) := fun t k => G t (st4.trans k)
      replace G := own_astore (q := 47) (l' := #[.val (.long i0), .second, .val (.long i1), .second, .val (.long i2), .second, .val (.long i3), .second, .val (.int i4), .val (.int kk), .val (.long i0), .second, .val (.long i1), .second, .val (.ref b3), .unset, .unset, .unset, .unset, .unset]) G X4.here hx (hb hby at_45) rfl rfl rfl
      obtain ⟨T5, h5, X5, e5, E5, A5, D5, -, st5⟩ := newO X4 hx hZ hown (hw _ (List.mem_of_getElem? (i := 0) rfl)) (hw _ (List.mem_of_getElem? (i := 1) rfl)) (hw _ (List.mem_of_getElem? (i := 2) rfl)) rfl (g := (mkF m 47 #[.val (.long i0), .second, .val (.long i1), .second, .val (.long i2), .second, .val (.long i3), .second, .val (.int i4), .val (.int kk), .val (.long i0), .second, .val (.long i1), .second, .val (.ref b3), .unset, .unset, .unset, .unset, .unset] [])) rfl (hb hby at_47) (by decide) (by decide)
      obtain ⟨b5, g5⟩ : ∃ z, z = T4.heap.size := ⟨_, rfl⟩
      rw [← g5] at A5 D5 st5
      have ne6 : b3 ≠ b5 := Nat.ne_of_lt (Nat.lt_of_lt_of_le B4_1.lt (Nat.le_of_eq g5.symm))
      have ge_b5 : n0 ≤ b5 := Nat.le_trans Z4 (Nat.le_of_eq g5.symm)
      have Z5 : n0 ≤ h5.size := Nat.le_trans Z4 E5.1
      have F5_value : Fld Z h5 b5 "com/example/cheapside/cheapside/core/StoredValue" "value" "J" (.long (0 : Int64)) := D5 (Or.inr (hw _ (List.mem_of_getElem? (i := 10) rfl))) (ty := .long) (by decide)
      have F5_writtenThrough : Fld Z h5 b5 "com/example/cheapside/cheapside/core/StoredValue" "writtenThrough" "J" (.long (0 : Int64)) := D5 (Or.inr (hw _ (List.mem_of_getElem? (i := 12) rfl))) (ty := .long) (by decide)
      replace G : Gets p e below _ (T5.setTop (mkF m 50 #[.val (.long i0), .second, .val (.long i1), .second, .val (.long i2), .second, .val (.long i3), .second, .val (.int i4), .val (.int kk), .val (.long i0), .second, .val (.long i1), .second, .val (.ref b3), .unset, .unset, .unset, .unset, .unset] [(.ref b5)])) := fun t k => G t (st5 t k)
      replace G := own_dup (q := 51) G X5.here hx (hb hby at_50) rfl rfl
      replace G := own_lload (q := 53) G X5.here hx (hb hby at_51) rfl rfl
      replace G := own_lload (q := 55) G X5.here hx (hb hby at_53) rfl rfl
      obtain ⟨_, _, ⟨T7, L7, kk7, nn7⟩, -, X7, ⟨Lc7, hQ7, l7, y7, z7⟩, st7⟩ := X5.specialBack hx (y := (⟨"com/example/cheapside/cheapside/core/StoredValue", "<init>", "(JJ)V"⟩ : MethodName)) rfl hown (mvT hZ (hw _ (List.mem_of_getElem? (i := 3) rfl))) (mvT hZ (hw _ (List.mem_of_getElem? (i := 4) rfl))) (mvT hZ (hw _ (List.mem_of_getElem? (i := 5) rfl))) (by decide) (backOf (W := 1) (rm1 l Z a0 hw [] b5 i0 i1 h5 n0 Z5 F5_value F5_writtenThrough A5 ge_b5) hZ (hw _ (List.mem_of_getElem? (i := 5) rfl)) (hw _ (List.mem_of_getElem? (i := 2) rfl)) (by decide) (by decide)) (g := (mkF m 55 #[.val (.long i0), .second, .val (.long i1), .second, .val (.long i2), .second, .val (.long i3), .second, .val (.int i4), .val (.int kk), .val (.long i0), .second, .val (.long i1), .second, .val (.ref b3), .unset, .unset, .unset, .unset, .unset] [(.long i1), (.long i0), (.ref b5), (.ref b5)])) rfl (by rw [hml]; rfl) (Steps.refl _) (a := b5) (argsL := [(.long i0), (.long i1)]) (rest := [(.ref b5)]) (lenOf pd_1 rfl) rfl (by show 2 * 0 + _ ≤ _; exact Nat.le_of_eq rfl) (hb hby at_55) (fun _ _ => ⟨rfl, e5, (by decide : 2 + 0 ≤ _), (by decide : 4 + 0 ≤ _)⟩)
      dsimp only [Pt.U, Pt.locs, Pt.cells, Pt.slots] at X7 l7 y7 z7 st7 hQ7
      subst l7 y7 z7
      obtain ⟨rfl, N7q, K7q, B7_0, B7_1⟩ := hQ7
      have Z7 : n0 ≤ T7.heap.size := Nat.le_trans Z5 K7q.1
      have N7 := Fr.app N4 N7q
      replace G : Gets p e below _ (T7.setTop (mkF m 58 #[.val (.long i0), .second, .val (.long i1), .second, .val (.long i2), .second, .val (.long i3), .second, .val (.int i4), .val (.int kk), .val (.long i0), .second, .val (.long i1), .second, .val (.ref b3), .unset, .unset, .unset, .unset, .unset] [(.ref b5)])) := fun t k => G t (st7.trans k)
      replace G := own_astore (q := 60) (l' := #[.val (.long i0), .second, .val (.long i1), .second, .val (.long i2), .second, .val (.long i3), .second, .val (.int i4), .val (.int kk), .val (.long i0), .second, .val (.long i1), .second, .val (.ref b3), .val (.ref b5), .unset, .unset, .unset, .unset]) G X7.here hx (hb hby at_58) rfl rfl rfl
      replace G := own_aload (q := 62) G X7.here hx (hb hby at_60) rfl rfl rfl
      have F9 : Exa Z T7.heap b3 "com/example/cheapside/cheapside/core/StoredValue" := (((A3.keep K4q).ext E5).keep K7q)
      have F10 : Fld Z T7.heap b3 "com/example/cheapside/cheapside/core/StoredValue" "value" "J" (.long i0) := ((B4_0.ext E5).keep K7q (ninS ne6 nin0))
      have F11 : Fld Z T7.heap b3 "com/example/cheapside/cheapside/core/StoredValue" "writtenThrough" "J" (.long i1) := ((B4_1.ext E5).keep K7q (ninS ne6 nin0))
      obtain ⟨cq8, kq8, q8a, q8b, q8c⟩ := isOf hZ rfl F9
      obtain ⟨_, _, ⟨T8, L8, kk8, nn8⟩, -, X8, ⟨Lc8, hQ8, l8, y8, z8⟩, st8⟩ := X7.virtualBack hx (y := (⟨"com/example/cheapside/cheapside/core/StoredValue", "hashCode", "()I"⟩ : MethodName)) (z := (⟨"com/example/cheapside/cheapside/core/StoredValue", "hashCode", "()I"⟩ : MethodName)) hown (mvT hZ (hw _ (List.mem_of_getElem? (i := 13) rfl))) (mvT hZ (hw _ (List.mem_of_getElem? (i := 14) rfl))) (notFace_of_selects (args := #[]) (mvT hZ (hw _ (List.mem_of_getElem? (i := 16) rfl)))) (mvT hZ (hw _ (List.mem_of_getElem? (i := 16) rfl))) (mvT hZ (hw _ (List.mem_of_getElem? (i := 15) rfl))) (by decide) (backOf (W := 0) (rm3 l Z a0 hw [] b3 i0 i1 T7.heap n0 Z7 F10 F11 F9) hZ (hw _ (List.mem_of_getElem? (i := 17) rfl)) (hw _ (List.mem_of_getElem? (i := 2) rfl)) (by decide) (by decide)) q8a q8c (g := (mkF m 62 #[.val (.long i0), .second, .val (.long i1), .second, .val (.long i2), .second, .val (.long i3), .second, .val (.int i4), .val (.int kk), .val (.long i0), .second, .val (.long i1), .second, .val (.ref b3), .val (.ref b5), .unset, .unset, .unset, .unset] [(.ref b3)])) rfl (by rw [hml]; rfl) (Steps.refl _) (argsL := []) (rest := []) (lenOf pd_2 rfl) rfl (by show 2 * 0 + _ ≤ _; exact Nat.le_of_eq rfl) (hb hby at_62) (fun _ _ => ⟨rfl, rfl, (by decide : 2 + 0 ≤ _), (by decide : 4 + 0 ≤ _)⟩)
      dsimp only [Pt.U, Pt.locs, Pt.cells, Pt.slots] at X8 l8 y8 z8 st8 hQ8
      subst l8 y8 z8
      obtain ⟨rfl, N8q, e8⟩ := hQ8
      have N8 := Fr.app N7 N8q
      replace G : Gets p e below _ (T8.setTop (mkF m 65 #[.val (.long i0), .second, .val (.long i1), .second, .val (.long i2), .second, .val (.long i3), .second, .val (.int i4), .val (.int kk), .val (.long i0), .second, .val (.long i1), .second, .val (.ref b3), .val (.ref b5), .unset, .unset, .unset, .unset] [(.int (own_hc i0 i1))])) := fun t k => G t (st8.trans k)
      replace G := own_istore (q := 67) (l' := #[.val (.long i0), .second, .val (.long i1), .second, .val (.long i2), .second, .val (.long i3), .second, .val (.int i4), .val (.int kk), .val (.long i0), .second, .val (.long i1), .second, .val (.ref b3), .val (.ref b5), .val (.int (own_hc i0 i1)), .unset, .unset, .unset]) G X8.here hx (hb hby at_65) rfl rfl
      replace G := own_aload (q := 69) G X8.here hx (hb hby at_67) rfl rfl rfl
      have F13 : Exa Z T7.heap b5 "com/example/cheapside/cheapside/core/StoredValue" := (A5.keep K7q)
      obtain ⟨cq12, kq12, q12a, q12b, q12c⟩ := isOf hZ e8 F13
      obtain ⟨_, _, ⟨T12, L12, kk12, nn12⟩, -, X12, ⟨Lc12, hQ12, l12, y12, z12⟩, st12⟩ := X8.virtualBack hx (y := (⟨"com/example/cheapside/cheapside/core/StoredValue", "hashCode", "()I"⟩ : MethodName)) (z := (⟨"com/example/cheapside/cheapside/core/StoredValue", "hashCode", "()I"⟩ : MethodName)) hown (mvT hZ (hw _ (List.mem_of_getElem? (i := 13) rfl))) (mvT hZ (hw _ (List.mem_of_getElem? (i := 14) rfl))) (notFace_of_selects (args := #[]) (mvT hZ (hw _ (List.mem_of_getElem? (i := 16) rfl)))) (mvT hZ (hw _ (List.mem_of_getElem? (i := 16) rfl))) (mvT hZ (hw _ (List.mem_of_getElem? (i := 15) rfl))) (by decide) (backOf (W := 0) (rm3 l Z a0 hw [] b5 i0 i1 T7.heap n0 Z7 B7_0 B7_1 F13) hZ (hw _ (List.mem_of_getElem? (i := 17) rfl)) (hw _ (List.mem_of_getElem? (i := 2) rfl)) (by decide) (by decide)) q12a q12c (g := (mkF m 69 #[.val (.long i0), .second, .val (.long i1), .second, .val (.long i2), .second, .val (.long i3), .second, .val (.int i4), .val (.int kk), .val (.long i0), .second, .val (.long i1), .second, .val (.ref b3), .val (.ref b5), .val (.int (own_hc i0 i1)), .unset, .unset, .unset] [(.ref b5)])) rfl (by rw [hml]; rfl) (Steps.refl _) (argsL := []) (rest := []) (lenOf pd_2 rfl) rfl (by show 2 * 0 + _ ≤ _; exact Nat.le_of_eq rfl) (hb hby at_69) (fun _ _ => ⟨rfl, e8, (by decide : 2 + 0 ≤ _), (by decide : 4 + 0 ≤ _)⟩)
      dsimp only [Pt.U, Pt.locs, Pt.cells, Pt.slots] at X12 l12 y12 z12 st12 hQ12
      subst l12 y12 z12
      obtain ⟨rfl, N12q, e12⟩ := hQ12
      have N12 := Fr.app N8 N12q
      replace G : Gets p e below _ (T12.setTop (mkF m 72 #[.val (.long i0), .second, .val (.long i1), .second, .val (.long i2), .second, .val (.long i3), .second, .val (.int i4), .val (.int kk), .val (.long i0), .second, .val (.long i1), .second, .val (.ref b3), .val (.ref b5), .val (.int (own_hc i0 i1)), .unset, .unset, .unset] [(.int (own_hc i0 i1))])) := fun t k => G t (st12.trans k)
      replace G := own_istore (q := 74) (l' := #[.val (.long i0), .second, .val (.long i1), .second, .val (.long i2), .second, .val (.long i3), .second, .val (.int i4), .val (.int kk), .val (.long i0), .second, .val (.long i1), .second, .val (.ref b3), .val (.ref b5), .val (.int (own_hc i0 i1)), .val (.int (own_hc i0 i1)), .unset, .unset]) G X12.here hx (hb hby at_72) rfl rfl
      replace G := own_aload (q := 76) G X12.here hx (hb hby at_74) rfl rfl rfl
      obtain ⟨cq14, kq14, q14a, q14b, q14c⟩ := isOf hZ e12 F9
      obtain ⟨_, _, ⟨T14, L14, kk14, nn14⟩, -, X14, ⟨Lc14, hQ14, l14, y14, z14⟩, st14⟩ := X12.virtualBack hx (y := (⟨"com/example/cheapside/cheapside/core/StoredValue", "hashCode", "()I"⟩ : MethodName)) (z := (⟨"com/example/cheapside/cheapside/core/StoredValue", "hashCode", "()I"⟩ : MethodName)) hown (mvT hZ (hw _ (List.mem_of_getElem? (i := 13) rfl))) (mvT hZ (hw _ (List.mem_of_getElem? (i := 14) rfl))) (notFace_of_selects (args := #[]) (mvT hZ (hw _ (List.mem_of_getElem? (i := 16) rfl)))) (mvT hZ (hw _ (List.mem_of_getElem? (i := 16) rfl))) (mvT hZ (hw _ (List.mem_of_getElem? (i := 15) rfl))) (by decide) (backOf (W := 0) (rm3 l Z a0 hw [] b3 i0 i1 T7.heap n0 Z7 F10 F11 F9) hZ (hw _ (List.mem_of_getElem? (i := 17) rfl)) (hw _ (List.mem_of_getElem? (i := 2) rfl)) (by decide) (by decide)) q14a q14c (g := (mkF m 76 #[.val (.long i0), .second, .val (.long i1), .second, .val (.long i2), .second, .val (.long i3), .second, .val (.int i4), .val (.int kk), .val (.long i0), .second, .val (.long i1), .second, .val (.ref b3), .val (.ref b5), .val (.int (own_hc i0 i1)), .val (.int (own_hc i0 i1)), .unset, .unset] [(.ref b3)])) rfl (by rw [hml]; rfl) (Steps.refl _) (argsL := []) (rest := []) (lenOf pd_2 rfl) rfl (by show 2 * 0 + _ ≤ _; exact Nat.le_of_eq rfl) (hb hby at_76) (fun _ _ => ⟨rfl, e12, (by decide : 2 + 0 ≤ _), (by decide : 4 + 0 ≤ _)⟩)
      dsimp only [Pt.U, Pt.locs, Pt.cells, Pt.slots] at X14 l14 y14 z14 st14 hQ14
      subst l14 y14 z14
      obtain ⟨rfl, N14q, e14⟩ := hQ14
      have N14 := Fr.app N12 N14q
      replace G : Gets p e below _ (T14.setTop (mkF m 79 #[.val (.long i0), .second, .val (.long i1), .second, .val (.long i2), .second, .val (.long i3), .second, .val (.int i4), .val (.int kk), .val (.long i0), .second, .val (.long i1), .second, .val (.ref b3), .val (.ref b5), .val (.int (own_hc i0 i1)), .val (.int (own_hc i0 i1)), .unset, .unset] [(.int (own_hc i0 i1))])) := fun t k => G t (st14.trans k)
      replace G := own_istore (q := 81) (l' := #[.val (.long i0), .second, .val (.long i1), .second, .val (.long i2), .second, .val (.long i3), .second, .val (.int i4), .val (.int kk), .val (.long i0), .second, .val (.long i1), .second, .val (.ref b3), .val (.ref b5), .val (.int (own_hc i0 i1)), .val (.int (own_hc i0 i1)), .val (.int (own_hc i0 i1)), .unset]) G X14.here hx (hb hby at_79) rfl rfl
      replace G := own_lloadN (q := 82) G X14.here hx (hb hby at_81) rfl rfl
      replace G := own_lload (q := 84) G X14.here hx (hb hby at_82) rfl rfl
      replace G := own_lcmp (q := 85) G X14.here hx (hb hby at_84) rfl
      have hc85_15 : i0 = i0 := rfl
      replace G := own_ifNo (q := 88) G X14.here hx (hb hby at_85) ((if0 _ _).trans (teq ((lw_eq _ _).mpr hc85_15)).2) rfl
      replace G := own_lloadN (q := 89) G X14.here hx (hb hby at_88) rfl rfl
      replace G := own_lload (q := 91) G X14.here hx (hb hby at_89) rfl rfl
      replace G := own_lcmp (q := 92) G X14.here hx (hb hby at_91) rfl
      have hc92_16 : i1 = i1 := rfl
      replace G := own_ifNo (q := 95) G X14.here hx (hb hby at_92) ((if0 _ _).trans (teq ((lw_eq _ _).mpr hc92_16)).2) rfl
      replace G := own_iconst (q := 96) G X14.here hx (hb hby at_95) (v := (1 : Int32)) (by decide) rfl
      replace G := own_goto (q := 100) G X14.here hx (hb hby at_96) (by decide) (by decide)
      replace G := own_istore (q := 102) (l' := #[.val (.long i0), .second, .val (.long i1), .second, .val (.long i2), .second, .val (.long i3), .second, .val (.int i4), .val (.int kk), .val (.long i0), .second, .val (.long i1), .second, .val (.ref b3), .val (.ref b5), .val (.int (own_hc i0 i1)), .val (.int (own_hc i0 i1)), .val (.int (own_hc i0 i1)), .val (.int (1 : Int32))]) G X14.here hx (hb hby at_100) rfl rfl
      replace G := own_iload (q := 104) G X14.here hx (hb hby at_102) rfl rfl
      have hc104_17 : ¬ ((1 : Int32) = (0 : Int32)) := by decide
      replace G := own_ifYes (q := 109) G X14.here hx (hb hby at_104) ((if0 _ _).trans (feq hc104_17).2) (by decide) (by decide)
      replace G := own_iload (q := 111) G X14.here hx (hb hby at_109) rfl rfl
      replace G := own_iload (q := 113) G X14.here hx (hb hby at_111) rfl rfl
      have hc113_18 : (own_hc i0 i1) = (own_hc i0 i1) := rfl
      replace G := own_icmpNo (q := 116) G X14.here hx (hb hby at_113) (teq hc113_18).2 rfl
      replace G := own_iload (q := 118) G X14.here hx (hb hby at_116) rfl rfl
      replace G := own_iload (q := 120) G X14.here hx (hb hby at_118) rfl rfl
      have hc120_19 : (own_hc i0 i1) = (own_hc i0 i1) := rfl
      replace G := own_icmpNo (q := 123) G X14.here hx (hb hby at_120) (teq hc120_19).2 rfl
      replace G := own_iconst (q := 124) G X14.here hx (hb hby at_123) (v := (1 : Int32)) (by decide) rfl
      replace G := own_goto (q := 128) G X14.here hx (hb hby at_124) (by decide) (by decide)
      obtain ⟨fs, hr, hrun, hended, hW, hsame⟩ := X14.leave (v := some (.int (1 : Int32))) (fun h => by rw [Bd.returns] at h; cases h)
      refine ⟨_, _, G _ (retOut X14 hx Bd.returns rfl (Or.inl ⟨rfl, Or.inr (Or.inl rfl), _, rfl⟩) (hb hby at_128) hr), hrun, hended, _, _, rfl, ?_, ⟨_, rfl⟩, hW, hsame.mono (by decide) (by decide)⟩
      show Q0 Z i0 i1 i2 i3 i4 h0 n0 _ T14.heap _
      rw [e14]
      exact ⟨rfl, N14⟩
    · replace G := own_ifNo (q := 28) G X0.here hx (hb hby at_25) ((if0 _ _).trans (feq hc25_2).1) rfl
      replace G := own_lload (q := 30) G X0.here hx (hb hby at_28) rfl rfl
      replace G := own_goto (q := 34) G X0.here hx (hb hby at_30) (by decide) (by decide)
      replace G := own_lstore (q := 36) (l' := #[.val (.long i0), .second, .val (.long i1), .second, .val (.long i2), .second, .val (.long i3), .second, .val (.int i4), .val (.int kk), .val (.long i0), .second, .val (.long i3), .second, .unset, .unset, .unset, .unset, .unset, .unset]) G X0.here hx (hb hby at_34) rfl rfl
      obtain ⟨T20, h20, X20, e20, E20, A20, D20, -, st20⟩ := newO X0 hx hZ hown (hw _ (List.mem_of_getElem? (i := 0) rfl)) (hw _ (List.mem_of_getElem? (i := 1) rfl)) (hw _ (List.mem_of_getElem? (i := 2) rfl)) e0 (g := (mkF m 36 #[.val (.long i0), .second, .val (.long i1), .second, .val (.long i2), .second, .val (.long i3), .second, .val (.int i4), .val (.int kk), .val (.long i0), .second, .val (.long i3), .second, .unset, .unset, .unset, .unset, .unset, .unset] [])) rfl (hb hby at_36) (by decide) (by decide)
      obtain ⟨b20, g20⟩ : ∃ z, z = h0.size := ⟨_, rfl⟩
      rw [← g20] at A20 D20 st20
      have ge_b20 : n0 ≤ b20 := Nat.le_trans Z0 (Nat.le_of_eq g20.symm)
      have Z20 : n0 ≤ h20.size := Nat.le_trans Z0 E20.1
      have F20_value : Fld Z h20 b20 "com/example/cheapside/cheapside/core/StoredValue" "value" "J" (.long (0 : Int64)) := D20 (Or.inr (hw _ (List.mem_of_getElem? (i := 10) rfl))) (ty := .long) (by decide)
      have F20_writtenThrough : Fld Z h20 b20 "com/example/cheapside/cheapside/core/StoredValue" "writtenThrough" "J" (.long (0 : Int64)) := D20 (Or.inr (hw _ (List.mem_of_getElem? (i := 12) rfl))) (ty := .long) (by decide)
      replace G : Gets p e below _ (T20.setTop (mkF m 39 #[.val (.long i0), .second, .val (.long i1), .second, .val (.long i2), .second, .val (.long i3), .second, .val (.int i4), .val (.int kk), .val (.long i0), .second, .val (.long i3), .second, .unset, .unset, .unset, .unset, .unset, .unset] [(.ref b20)])) := fun t k => G t (st20 t k)
      replace G := own_dup (q := 40) G X20.here hx (hb hby at_39) rfl rfl
      replace G := own_lloadN (q := 41) G X20.here hx (hb hby at_40) rfl rfl
      replace G := own_lloadN (q := 42) G X20.here hx (hb hby at_41) rfl rfl
      obtain ⟨_, _, ⟨T21, L21, kk21, nn21⟩, -, X21, ⟨Lc21, hQ21, l21, y21, z21⟩, st21⟩ := X20.specialBack hx (y := (⟨"com/example/cheapside/cheapside/core/StoredValue", "<init>", "(JJ)V"⟩ : MethodName)) rfl hown (mvT hZ (hw _ (List.mem_of_getElem? (i := 3) rfl))) (mvT hZ (hw _ (List.mem_of_getElem? (i := 4) rfl))) (mvT hZ (hw _ (List.mem_of_getElem? (i := 5) rfl))) (by decide) (backOf (W := 1) (rm1 l Z a0 hw [] b20 i0 i1 h20 n0 Z20 F20_value F20_writtenThrough A20 ge_b20) hZ (hw _ (List.mem_of_getElem? (i := 5) rfl)) (hw _ (List.mem_of_getElem? (i := 2) rfl)) (by decide) (by decide)) (g := (mkF m 42 #[.val (.long i0), .second, .val (.long i1), .second, .val (.long i2), .second, .val (.long i3), .second, .val (.int i4), .val (.int kk), .val (.long i0), .second, .val (.long i3), .second, .unset, .unset, .unset, .unset, .unset, .unset] [(.long i1), (.long i0), (.ref b20), (.ref b20)])) rfl (by rw [hml]; rfl) (Steps.refl _) (a := b20) (argsL := [(.long i0), (.long i1)]) (rest := [(.ref b20)]) (lenOf pd_1 rfl) rfl (by show 2 * 0 + _ ≤ _; exact Nat.le_of_eq rfl) (hb hby at_42) (fun _ _ => ⟨rfl, e20, (by decide : 1 + 0 ≤ _), (by decide : 2 + 0 ≤ _)⟩)
      dsimp only [Pt.U, Pt.locs, Pt.cells, Pt.slots] at X21 l21 y21 z21 st21 hQ21
      subst l21 y21 z21
      obtain ⟨rfl, N21q, K21q, B21_0, B21_1⟩ := hQ21
      have Z21 : n0 ≤ T21.heap.size := Nat.le_trans Z20 K21q.1
      have N21 := Fr.app N0 N21q
      replace G : Gets p e below _ (T21.setTop (mkF m 45 #[.val (.long i0), .second, .val (.long i1), .second, .val (.long i2), .second, .val (.long i3), .second, .val (.int i4), .val (.int kk), .val (.long i0), .second, .val (.long i3), .second, .unset, .unset, .unset, .unset, .unset, .unset] [(.ref b20)])) := fun t k => G t (st21.trans k)
      replace G := own_astore (q := 47) (l' := #[.val (.long i0), .second, .val (.long i1), .second, .val (.long i2), .second, .val (.long i3), .second, .val (.int i4), .val (.int kk), .val (.long i0), .second, .val (.long i3), .second, .val (.ref b20), .unset, .unset, .unset, .unset, .unset]) G X21.here hx (hb hby at_45) rfl rfl rfl
      obtain ⟨T22, h22, X22, e22, E22, A22, D22, -, st22⟩ := newO X21 hx hZ hown (hw _ (List.mem_of_getElem? (i := 0) rfl)) (hw _ (List.mem_of_getElem? (i := 1) rfl)) (hw _ (List.mem_of_getElem? (i := 2) rfl)) rfl (g := (mkF m 47 #[.val (.long i0), .second, .val (.long i1), .second, .val (.long i2), .second, .val (.long i3), .second, .val (.int i4), .val (.int kk), .val (.long i0), .second, .val (.long i3), .second, .val (.ref b20), .unset, .unset, .unset, .unset, .unset] [])) rfl (hb hby at_47) (by decide) (by decide)
      obtain ⟨b22, g22⟩ : ∃ z, z = T21.heap.size := ⟨_, rfl⟩
      rw [← g22] at A22 D22 st22
      have ne23 : b20 ≠ b22 := Nat.ne_of_lt (Nat.lt_of_lt_of_le B21_1.lt (Nat.le_of_eq g22.symm))
      have ge_b22 : n0 ≤ b22 := Nat.le_trans Z21 (Nat.le_of_eq g22.symm)
      have Z22 : n0 ≤ h22.size := Nat.le_trans Z21 E22.1
      have F22_value : Fld Z h22 b22 "com/example/cheapside/cheapside/core/StoredValue" "value" "J" (.long (0 : Int64)) := D22 (Or.inr (hw _ (List.mem_of_getElem? (i := 10) rfl))) (ty := .long) (by decide)
      have F22_writtenThrough : Fld Z h22 b22 "com/example/cheapside/cheapside/core/StoredValue" "writtenThrough" "J" (.long (0 : Int64)) := D22 (Or.inr (hw _ (List.mem_of_getElem? (i := 12) rfl))) (ty := .long) (by decide)
      replace G : Gets p e below _ (T22.setTop (mkF m 50 #[.val (.long i0), .second, .val (.long i1), .second, .val (.long i2), .second, .val (.long i3), .second, .val (.int i4), .val (.int kk), .val (.long i0), .second, .val (.long i3), .second, .val (.ref b20), .unset, .unset, .unset, .unset, .unset] [(.ref b22)])) := fun t k => G t (st22 t k)
      replace G := own_dup (q := 51) G X22.here hx (hb hby at_50) rfl rfl
      replace G := own_lload (q := 53) G X22.here hx (hb hby at_51) rfl rfl
      replace G := own_lload (q := 55) G X22.here hx (hb hby at_53) rfl rfl
      obtain ⟨_, _, ⟨T24, L24, kk24, nn24⟩, -, X24, ⟨Lc24, hQ24, l24, y24, z24⟩, st24⟩ := X22.specialBack hx (y := (⟨"com/example/cheapside/cheapside/core/StoredValue", "<init>", "(JJ)V"⟩ : MethodName)) rfl hown (mvT hZ (hw _ (List.mem_of_getElem? (i := 3) rfl))) (mvT hZ (hw _ (List.mem_of_getElem? (i := 4) rfl))) (mvT hZ (hw _ (List.mem_of_getElem? (i := 5) rfl))) (by decide) (backOf (W := 1) (rm1 l Z a0 hw [] b22 i0 i3 h22 n0 Z22 F22_value F22_writtenThrough A22 ge_b22) hZ (hw _ (List.mem_of_getElem? (i := 5) rfl)) (hw _ (List.mem_of_getElem? (i := 2) rfl)) (by decide) (by decide)) (g := (mkF m 55 #[.val (.long i0), .second, .val (.long i1), .second, .val (.long i2), .second, .val (.long i3), .second, .val (.int i4), .val (.int kk), .val (.long i0), .second, .val (.long i3), .second, .val (.ref b20), .unset, .unset, .unset, .unset, .unset] [(.long i3), (.long i0), (.ref b22), (.ref b22)])) rfl (by rw [hml]; rfl) (Steps.refl _) (a := b22) (argsL := [(.long i0), (.long i3)]) (rest := [(.ref b22)]) (lenOf pd_1 rfl) rfl (by show 2 * 0 + _ ≤ _; exact Nat.le_of_eq rfl) (hb hby at_55) (fun _ _ => ⟨rfl, e22, (by decide : 2 + 0 ≤ _), (by decide : 4 + 0 ≤ _)⟩)
      dsimp only [Pt.U, Pt.locs, Pt.cells, Pt.slots] at X24 l24 y24 z24 st24 hQ24
      subst l24 y24 z24
      obtain ⟨rfl, N24q, K24q, B24_0, B24_1⟩ := hQ24
      have Z24 : n0 ≤ T24.heap.size := Nat.le_trans Z22 K24q.1
      have N24 := Fr.app N21 N24q
      replace G : Gets p e below _ (T24.setTop (mkF m 58 #[.val (.long i0), .second, .val (.long i1), .second, .val (.long i2), .second, .val (.long i3), .second, .val (.int i4), .val (.int kk), .val (.long i0), .second, .val (.long i3), .second, .val (.ref b20), .unset, .unset, .unset, .unset, .unset] [(.ref b22)])) := fun t k => G t (st24.trans k)
      replace G := own_astore (q := 60) (l' := #[.val (.long i0), .second, .val (.long i1), .second, .val (.long i2), .second, .val (.long i3), .second, .val (.int i4), .val (.int kk), .val (.long i0), .second, .val (.long i3), .second, .val (.ref b20), .val (.ref b22), .unset, .unset, .unset, .unset]) G X24.here hx (hb hby at_58) rfl rfl rfl
      replace G := own_aload (q := 62) G X24.here hx (hb hby at_60) rfl rfl rfl
      have F26 : Exa Z T24.heap b20 "com/example/cheapside/cheapside/core/StoredValue" := (((A20.keep K21q).ext E22).keep K24q)
      have F27 : Fld Z T24.heap b20 "com/example/cheapside/cheapside/core/StoredValue" "value" "J" (.long i0) := ((B21_0.ext E22).keep K24q (ninS ne23 nin0))
      have F28 : Fld Z T24.heap b20 "com/example/cheapside/cheapside/core/StoredValue" "writtenThrough" "J" (.long i1) := ((B21_1.ext E22).keep K24q (ninS ne23 nin0))
      obtain ⟨cq25, kq25, q25a, q25b, q25c⟩ := isOf hZ rfl F26
      obtain ⟨_, _, ⟨T25, L25, kk25, nn25⟩, -, X25, ⟨Lc25, hQ25, l25, y25, z25⟩, st25⟩ := X24.virtualBack hx (y := (⟨"com/example/cheapside/cheapside/core/StoredValue", "hashCode", "()I"⟩ : MethodName)) (z := (⟨"com/example/cheapside/cheapside/core/StoredValue", "hashCode", "()I"⟩ : MethodName)) hown (mvT hZ (hw _ (List.mem_of_getElem? (i := 13) rfl))) (mvT hZ (hw _ (List.mem_of_getElem? (i := 14) rfl))) (notFace_of_selects (args := #[]) (mvT hZ (hw _ (List.mem_of_getElem? (i := 16) rfl)))) (mvT hZ (hw _ (List.mem_of_getElem? (i := 16) rfl))) (mvT hZ (hw _ (List.mem_of_getElem? (i := 15) rfl))) (by decide) (backOf (W := 0) (rm3 l Z a0 hw [] b20 i0 i1 T24.heap n0 Z24 F27 F28 F26) hZ (hw _ (List.mem_of_getElem? (i := 17) rfl)) (hw _ (List.mem_of_getElem? (i := 2) rfl)) (by decide) (by decide)) q25a q25c (g := (mkF m 62 #[.val (.long i0), .second, .val (.long i1), .second, .val (.long i2), .second, .val (.long i3), .second, .val (.int i4), .val (.int kk), .val (.long i0), .second, .val (.long i3), .second, .val (.ref b20), .val (.ref b22), .unset, .unset, .unset, .unset] [(.ref b20)])) rfl (by rw [hml]; rfl) (Steps.refl _) (argsL := []) (rest := []) (lenOf pd_2 rfl) rfl (by show 2 * 0 + _ ≤ _; exact Nat.le_of_eq rfl) (hb hby at_62) (fun _ _ => ⟨rfl, rfl, (by decide : 2 + 0 ≤ _), (by decide : 4 + 0 ≤ _)⟩)
      dsimp only [Pt.U, Pt.locs, Pt.cells, Pt.slots] at X25 l25 y25 z25 st25 hQ25
      subst l25 y25 z25
      obtain ⟨rfl, N25q, e25⟩ := hQ25
      have N25 := Fr.app N24 N25q
      replace G : Gets p e below _ (T25.setTop (mkF m 65 #[.val (.long i0), .second, .val (.long i1), .second, .val (.long i2), .second, .val (.long i3), .second, .val (.int i4), .val (.int kk), .val (.long i0), .second, .val (.long i3), .second, .val (.ref b20), .val (.ref b22), .unset, .unset, .unset, .unset] [(.int (own_hc i0 i1))])) := fun t k => G t (st25.trans k)
      replace G := own_istore (q := 67) (l' := #[.val (.long i0), .second, .val (.long i1), .second, .val (.long i2), .second, .val (.long i3), .second, .val (.int i4), .val (.int kk), .val (.long i0), .second, .val (.long i3), .second, .val (.ref b20), .val (.ref b22), .val (.int (own_hc i0 i1)), .unset, .unset, .unset]) G X25.here hx (hb hby at_65) rfl rfl
      replace G := own_aload (q := 69) G X25.here hx (hb hby at_67) rfl rfl rfl
      have F30 : Exa Z T24.heap b22 "com/example/cheapside/cheapside/core/StoredValue" := (A22.keep K24q)
      obtain ⟨cq29, kq29, q29a, q29b, q29c⟩ := isOf hZ e25 F30
      obtain ⟨_, _, ⟨T29, L29, kk29, nn29⟩, -, X29, ⟨Lc29, hQ29, l29, y29, z29⟩, st29⟩ := X25.virtualBack hx (y := (⟨"com/example/cheapside/cheapside/core/StoredValue", "hashCode", "()I"⟩ : MethodName)) (z := (⟨"com/example/cheapside/cheapside/core/StoredValue", "hashCode", "()I"⟩ : MethodName)) hown (mvT hZ (hw _ (List.mem_of_getElem? (i := 13) rfl))) (mvT hZ (hw _ (List.mem_of_getElem? (i := 14) rfl))) (notFace_of_selects (args := #[]) (mvT hZ (hw _ (List.mem_of_getElem? (i := 16) rfl)))) (mvT hZ (hw _ (List.mem_of_getElem? (i := 16) rfl))) (mvT hZ (hw _ (List.mem_of_getElem? (i := 15) rfl))) (by decide) (backOf (W := 0) (rm3 l Z a0 hw [] b22 i0 i3 T24.heap n0 Z24 B24_0 B24_1 F30) hZ (hw _ (List.mem_of_getElem? (i := 17) rfl)) (hw _ (List.mem_of_getElem? (i := 2) rfl)) (by decide) (by decide)) q29a q29c (g := (mkF m 69 #[.val (.long i0), .second, .val (.long i1), .second, .val (.long i2), .second, .val (.long i3), .second, .val (.int i4), .val (.int kk), .val (.long i0), .second, .val (.long i3), .second, .val (.ref b20), .val (.ref b22), .val (.int (own_hc i0 i1)), .unset, .unset, .unset] [(.ref b22)])) rfl (by rw [hml]; rfl) (Steps.refl _) (argsL := []) (rest := []) (lenOf pd_2 rfl) rfl (by show 2 * 0 + _ ≤ _; exact Nat.le_of_eq rfl) (hb hby at_69) (fun _ _ => ⟨rfl, e25, (by decide : 2 + 0 ≤ _), (by decide : 4 + 0 ≤ _)⟩)
      dsimp only [Pt.U, Pt.locs, Pt.cells, Pt.slots] at X29 l29 y29 z29 st29 hQ29
      subst l29 y29 z29
      obtain ⟨rfl, N29q, e29⟩ := hQ29
      have N29 := Fr.app N25 N29q
      replace G : Gets p e below _ (T29.setTop (mkF m 72 #[.val (.long i0), .second, .val (.long i1), .second, .val (.long i2), .second, .val (.long i3), .second, .val (.int i4), .val (.int kk), .val (.long i0), .second, .val (.long i3), .second, .val (.ref b20), .val (.ref b22), .val (.int (own_hc i0 i1)), .unset, .unset, .unset] [(.int (own_hc i0 i3))])) := fun t k => G t (st29.trans k)
      replace G := own_istore (q := 74) (l' := #[.val (.long i0), .second, .val (.long i1), .second, .val (.long i2), .second, .val (.long i3), .second, .val (.int i4), .val (.int kk), .val (.long i0), .second, .val (.long i3), .second, .val (.ref b20), .val (.ref b22), .val (.int (own_hc i0 i1)), .val (.int (own_hc i0 i3)), .unset, .unset]) G X29.here hx (hb hby at_72) rfl rfl
      replace G := own_aload (q := 76) G X29.here hx (hb hby at_74) rfl rfl rfl
      obtain ⟨cq31, kq31, q31a, q31b, q31c⟩ := isOf hZ e29 F26
      obtain ⟨_, _, ⟨T31, L31, kk31, nn31⟩, -, X31, ⟨Lc31, hQ31, l31, y31, z31⟩, st31⟩ := X29.virtualBack hx (y := (⟨"com/example/cheapside/cheapside/core/StoredValue", "hashCode", "()I"⟩ : MethodName)) (z := (⟨"com/example/cheapside/cheapside/core/StoredValue", "hashCode", "()I"⟩ : MethodName)) hown (mvT hZ (hw _ (List.mem_of_getElem? (i := 13) rfl))) (mvT hZ (hw _ (List.mem_of_getElem? (i := 14) rfl))) (notFace_of_selects (args := #[]) (mvT hZ (hw _ (List.mem_of_getElem? (i := 16) rfl)))) (mvT hZ (hw _ (List.mem_of_getElem? (i := 16) rfl))) (mvT hZ (hw _ (List.mem_of_getElem? (i := 15) rfl))) (by decide) (backOf (W := 0) (rm3 l Z a0 hw [] b20 i0 i1 T24.heap n0 Z24 F27 F28 F26) hZ (hw _ (List.mem_of_getElem? (i := 17) rfl)) (hw _ (List.mem_of_getElem? (i := 2) rfl)) (by decide) (by decide)) q31a q31c (g := (mkF m 76 #[.val (.long i0), .second, .val (.long i1), .second, .val (.long i2), .second, .val (.long i3), .second, .val (.int i4), .val (.int kk), .val (.long i0), .second, .val (.long i3), .second, .val (.ref b20), .val (.ref b22), .val (.int (own_hc i0 i1)), .val (.int (own_hc i0 i3)), .unset, .unset] [(.ref b20)])) rfl (by rw [hml]; rfl) (Steps.refl _) (argsL := []) (rest := []) (lenOf pd_2 rfl) rfl (by show 2 * 0 + _ ≤ _; exact Nat.le_of_eq rfl) (hb hby at_76) (fun _ _ => ⟨rfl, e29, (by decide : 2 + 0 ≤ _), (by decide : 4 + 0 ≤ _)⟩)
      dsimp only [Pt.U, Pt.locs, Pt.cells, Pt.slots] at X31 l31 y31 z31 st31 hQ31
      subst l31 y31 z31
      obtain ⟨rfl, N31q, e31⟩ := hQ31
      have N31 := Fr.app N29 N31q
      replace G : Gets p e below _ (T31.setTop (mkF m 79 #[.val (.long i0), .second, .val (.long i1), .second, .val (.long i2), .second, .val (.long i3), .second, .val (.int i4), .val (.int kk), .val (.long i0), .second, .val (.long i3), .second, .val (.ref b20), .val (.ref b22), .val (.int (own_hc i0 i1)), .val (.int (own_hc i0 i3)), .unset, .unset] [(.int (own_hc i0 i1))])) := fun t k => G t (st31.trans k)
      replace G := own_istore (q := 81) (l' := #[.val (.long i0), .second, .val (.long i1), .second, .val (.long i2), .second, .val (.long i3), .second, .val (.int i4), .val (.int kk), .val (.long i0), .second, .val (.long i3), .second, .val (.ref b20), .val (.ref b22), .val (.int (own_hc i0 i1)), .val (.int (own_hc i0 i3)), .val (.int (own_hc i0 i1)), .unset]) G X31.here hx (hb hby at_79) rfl rfl
      replace G := own_lloadN (q := 82) G X31.here hx (hb hby at_81) rfl rfl
      replace G := own_lload (q := 84) G X31.here hx (hb hby at_82) rfl rfl
      replace G := own_lcmp (q := 85) G X31.here hx (hb hby at_84) rfl
      have hc85_32 : i0 = i0 := rfl
      replace G := own_ifNo (q := 88) G X31.here hx (hb hby at_85) ((if0 _ _).trans (teq ((lw_eq _ _).mpr hc85_32)).2) rfl
      replace G := own_lloadN (q := 89) G X31.here hx (hb hby at_88) rfl rfl
      replace G := own_lload (q := 91) G X31.here hx (hb hby at_89) rfl rfl
      replace G := own_lcmp (q := 92) G X31.here hx (hb hby at_91) rfl
      by_cases hc92_33 : i1 = i3
      · replace G := own_ifNo (q := 95) G X31.here hx (hb hby at_92) ((if0 _ _).trans (teq ((lw_eq _ _).mpr hc92_33)).2) rfl
        replace G := own_iconst (q := 96) G X31.here hx (hb hby at_95) (v := (1 : Int32)) (by decide) rfl
        replace G := own_goto (q := 100) G X31.here hx (hb hby at_96) (by decide) (by decide)
        replace G := own_istore (q := 102) (l' := #[.val (.long i0), .second, .val (.long i1), .second, .val (.long i2), .second, .val (.long i3), .second, .val (.int i4), .val (.int kk), .val (.long i0), .second, .val (.long i3), .second, .val (.ref b20), .val (.ref b22), .val (.int (own_hc i0 i1)), .val (.int (own_hc i0 i3)), .val (.int (own_hc i0 i1)), .val (.int (1 : Int32))]) G X31.here hx (hb hby at_100) rfl rfl
        replace G := own_iload (q := 104) G X31.here hx (hb hby at_102) rfl rfl
        have hc104_34 : ¬ ((1 : Int32) = (0 : Int32)) := by decide
        replace G := own_ifYes (q := 109) G X31.here hx (hb hby at_104) ((if0 _ _).trans (feq hc104_34).2) (by decide) (by decide)
        replace G := own_iload (q := 111) G X31.here hx (hb hby at_109) rfl rfl
        replace G := own_iload (q := 113) G X31.here hx (hb hby at_111) rfl rfl
        have hc113_35 : (own_hc i0 i1) = (own_hc i0 i3) := by rw [hc92_33]; try rfl
        replace G := own_icmpNo (q := 116) G X31.here hx (hb hby at_113) (teq hc113_35).2 rfl
        replace G := own_iload (q := 118) G X31.here hx (hb hby at_116) rfl rfl
        replace G := own_iload (q := 120) G X31.here hx (hb hby at_118) rfl rfl
        have hc120_36 : (own_hc i0 i1) = (own_hc i0 i1) := rfl
        replace G := own_icmpNo (q := 123) G X31.here hx (hb hby at_120) (teq hc120_36).2 rfl
        replace G := own_iconst (q := 124) G X31.here hx (hb hby at_123) (v := (1 : Int32)) (by decide) rfl
        replace G := own_goto (q := 128) G X31.here hx (hb hby at_124) (by decide) (by decide)
        obtain ⟨fs, hr, hrun, hended, hW, hsame⟩ := X31.leave (v := some (.int (1 : Int32))) (fun h => by rw [Bd.returns] at h; cases h)
        refine ⟨_, _, G _ (retOut X31 hx Bd.returns rfl (Or.inl ⟨rfl, Or.inr (Or.inl rfl), _, rfl⟩) (hb hby at_128) hr), hrun, hended, _, _, rfl, ?_, ⟨_, rfl⟩, hW, hsame.mono (by decide) (by decide)⟩
        show Q0 Z i0 i1 i2 i3 i4 h0 n0 _ T31.heap _
        rw [e31]
        exact ⟨rfl, N31⟩
      · replace G := own_ifYes (q := 99) G X31.here hx (hb hby at_92) ((if0 _ _).trans (feq (fun z => hc92_33 ((lw_eq _ _).mp z))).2) (by decide) (by decide)
        replace G := own_iconst (q := 100) G X31.here hx (hb hby at_99) (v := (0 : Int32)) (by decide) rfl
        replace G := own_istore (q := 102) (l' := #[.val (.long i0), .second, .val (.long i1), .second, .val (.long i2), .second, .val (.long i3), .second, .val (.int i4), .val (.int kk), .val (.long i0), .second, .val (.long i3), .second, .val (.ref b20), .val (.ref b22), .val (.int (own_hc i0 i1)), .val (.int (own_hc i0 i3)), .val (.int (own_hc i0 i1)), .val (.int (0 : Int32))]) G X31.here hx (hb hby at_100) rfl rfl
        replace G := own_iload (q := 104) G X31.here hx (hb hby at_102) rfl rfl
        have hc104_37 : (0 : Int32) = (0 : Int32) := by decide
        replace G := own_ifNo (q := 107) G X31.here hx (hb hby at_104) ((if0 _ _).trans (teq hc104_37).2) rfl
        replace G := own_iconst (q := 108) G X31.here hx (hb hby at_107) (v := (1 : Int32)) (by decide) rfl
        obtain ⟨fs, hr, hrun, hended, hW, hsame⟩ := X31.leave (v := some (.int (1 : Int32))) (fun h => by rw [Bd.returns] at h; cases h)
        refine ⟨_, _, G _ (retOut X31 hx Bd.returns rfl (Or.inl ⟨rfl, Or.inr (Or.inl rfl), _, rfl⟩) (hb hby at_108) hr), hrun, hended, _, _, rfl, ?_, ⟨_, rfl⟩, hW, hsame.mono (by decide) (by decide)⟩
        show Q0 Z i0 i1 i2 i3 i4 h0 n0 _ T31.heap _
        rw [e31]
        exact ⟨rfl, N31⟩
  · replace G := own_ifNo (q := 13) G X0.here hx (hb hby at_10) ((if0 _ _).trans (feq hc10_1).1) rfl
    replace G := own_lload (q := 15) G X0.here hx (hb hby at_13) rfl rfl
    replace G := own_goto (q := 19) G X0.here hx (hb hby at_15) (by decide) (by decide)
    replace G := own_lstore (q := 21) (l' := #[.val (.long i0), .second, .val (.long i1), .second, .val (.long i2), .second, .val (.long i3), .second, .val (.int i4), .val (.int kk), .val (.long i2), .second, .unset, .unset, .unset, .unset, .unset, .unset, .unset, .unset]) G X0.here hx (hb hby at_19) rfl rfl
    replace G := own_iload (q := 23) G X0.here hx (hb hby at_21) rfl rfl
    replace G := own_iconst (q := 24) G X0.here hx (hb hby at_23) (v := (2 : Int32)) (by decide) rfl
    obtain ⟨k2, hn_k2⟩ : ∃ z : Int32, (kk &&& (2 : Int32)) = z := ⟨_, rfl⟩
    replace G := own_iand (q := 25) G X0.here hx (hb hby at_24) hn_k2 rfl
    by_cases hc25_38 : k2 = (0 : Int32)
    · replace G := own_ifYes (q := 33) G X0.here hx (hb hby at_25) ((if0 _ _).trans (teq hc25_38).1) (by decide) (by decide)
      replace G := own_lloadN (q := 34) G X0.here hx (hb hby at_33) rfl rfl
      replace G := own_lstore (q := 36) (l' := #[.val (.long i0), .second, .val (.long i1), .second, .val (.long i2), .second, .val (.long i3), .second, .val (.int i4), .val (.int kk), .val (.long i2), .second, .val (.long i1), .second, .unset, .unset, .unset, .unset, .unset, .unset]) G X0.here hx (hb hby at_34) rfl rfl
      obtain ⟨T39, h39, X39, e39, E39, A39, D39, -, st39⟩ := newO X0 hx hZ hown (hw _ (List.mem_of_getElem? (i := 0) rfl)) (hw _ (List.mem_of_getElem? (i := 1) rfl)) (hw _ (List.mem_of_getElem? (i := 2) rfl)) e0 (g := (mkF m 36 #[.val (.long i0), .second, .val (.long i1), .second, .val (.long i2), .second, .val (.long i3), .second, .val (.int i4), .val (.int kk), .val (.long i2), .second, .val (.long i1), .second, .unset, .unset, .unset, .unset, .unset, .unset] [])) rfl (hb hby at_36) (by decide) (by decide)
      obtain ⟨b39, g39⟩ : ∃ z, z = h0.size := ⟨_, rfl⟩
      rw [← g39] at A39 D39 st39
      have ge_b39 : n0 ≤ b39 := Nat.le_trans Z0 (Nat.le_of_eq g39.symm)
      have Z39 : n0 ≤ h39.size := Nat.le_trans Z0 E39.1
      have F39_value : Fld Z h39 b39 "com/example/cheapside/cheapside/core/StoredValue" "value" "J" (.long (0 : Int64)) := D39 (Or.inr (hw _ (List.mem_of_getElem? (i := 10) rfl))) (ty := .long) (by decide)
      have F39_writtenThrough : Fld Z h39 b39 "com/example/cheapside/cheapside/core/StoredValue" "writtenThrough" "J" (.long (0 : Int64)) := D39 (Or.inr (hw _ (List.mem_of_getElem? (i := 12) rfl))) (ty := .long) (by decide)
      replace G : Gets p e below _ (T39.setTop (mkF m 39 #[.val (.long i0), .second, .val (.long i1), .second, .val (.long i2), .second, .val (.long i3), .second, .val (.int i4), .val (.int kk), .val (.long i2), .second, .val (.long i1), .second, .unset, .unset, .unset, .unset, .unset, .unset] [(.ref b39)])) := fun t k => G t (st39 t k)
      replace G := own_dup (q := 40) G X39.here hx (hb hby at_39) rfl rfl
      replace G := own_lloadN (q := 41) G X39.here hx (hb hby at_40) rfl rfl
      replace G := own_lloadN (q := 42) G X39.here hx (hb hby at_41) rfl rfl
      obtain ⟨_, _, ⟨T40, L40, kk40, nn40⟩, -, X40, ⟨Lc40, hQ40, l40, y40, z40⟩, st40⟩ := X39.specialBack hx (y := (⟨"com/example/cheapside/cheapside/core/StoredValue", "<init>", "(JJ)V"⟩ : MethodName)) rfl hown (mvT hZ (hw _ (List.mem_of_getElem? (i := 3) rfl))) (mvT hZ (hw _ (List.mem_of_getElem? (i := 4) rfl))) (mvT hZ (hw _ (List.mem_of_getElem? (i := 5) rfl))) (by decide) (backOf (W := 1) (rm1 l Z a0 hw [] b39 i0 i1 h39 n0 Z39 F39_value F39_writtenThrough A39 ge_b39) hZ (hw _ (List.mem_of_getElem? (i := 5) rfl)) (hw _ (List.mem_of_getElem? (i := 2) rfl)) (by decide) (by decide)) (g := (mkF m 42 #[.val (.long i0), .second, .val (.long i1), .second, .val (.long i2), .second, .val (.long i3), .second, .val (.int i4), .val (.int kk), .val (.long i2), .second, .val (.long i1), .second, .unset, .unset, .unset, .unset, .unset, .unset] [(.long i1), (.long i0), (.ref b39), (.ref b39)])) rfl (by rw [hml]; rfl) (Steps.refl _) (a := b39) (argsL := [(.long i0), (.long i1)]) (rest := [(.ref b39)]) (lenOf pd_1 rfl) rfl (by show 2 * 0 + _ ≤ _; exact Nat.le_of_eq rfl) (hb hby at_42) (fun _ _ => ⟨rfl, e39, (by decide : 1 + 0 ≤ _), (by decide : 2 + 0 ≤ _)⟩)
      dsimp only [Pt.U, Pt.locs, Pt.cells, Pt.slots] at X40 l40 y40 z40 st40 hQ40
      subst l40 y40 z40
      obtain ⟨rfl, N40q, K40q, B40_0, B40_1⟩ := hQ40
      have Z40 : n0 ≤ T40.heap.size := Nat.le_trans Z39 K40q.1
      have N40 := Fr.app N0 N40q
      replace G : Gets p e below _ (T40.setTop (mkF m 45 #[.val (.long i0), .second, .val (.long i1), .second, .val (.long i2), .second, .val (.long i3), .second, .val (.int i4), .val (.int kk), .val (.long i2), .second, .val (.long i1), .second, .unset, .unset, .unset, .unset, .unset, .unset] [(.ref b39)])) := fun t k => G t (st40.trans k)
      replace G := own_astore (q := 47) (l' := #[.val (.long i0), .second, .val (.long i1), .second, .val (.long i2), .second, .val (.long i3), .second, .val (.int i4), .val (.int kk), .val (.long i2), .second, .val (.long i1), .second, .val (.ref b39), .unset, .unset, .unset, .unset, .unset]) G X40.here hx (hb hby at_45) rfl rfl rfl
      obtain ⟨T41, h41, X41, e41, E41, A41, D41, -, st41⟩ := newO X40 hx hZ hown (hw _ (List.mem_of_getElem? (i := 0) rfl)) (hw _ (List.mem_of_getElem? (i := 1) rfl)) (hw _ (List.mem_of_getElem? (i := 2) rfl)) rfl (g := (mkF m 47 #[.val (.long i0), .second, .val (.long i1), .second, .val (.long i2), .second, .val (.long i3), .second, .val (.int i4), .val (.int kk), .val (.long i2), .second, .val (.long i1), .second, .val (.ref b39), .unset, .unset, .unset, .unset, .unset] [])) rfl (hb hby at_47) (by decide) (by decide)
      obtain ⟨b41, g41⟩ : ∃ z, z = T40.heap.size := ⟨_, rfl⟩
      rw [← g41] at A41 D41 st41
      have ne42 : b39 ≠ b41 := Nat.ne_of_lt (Nat.lt_of_lt_of_le B40_1.lt (Nat.le_of_eq g41.symm))
      have ge_b41 : n0 ≤ b41 := Nat.le_trans Z40 (Nat.le_of_eq g41.symm)
      have Z41 : n0 ≤ h41.size := Nat.le_trans Z40 E41.1
      have F41_value : Fld Z h41 b41 "com/example/cheapside/cheapside/core/StoredValue" "value" "J" (.long (0 : Int64)) := D41 (Or.inr (hw _ (List.mem_of_getElem? (i := 10) rfl))) (ty := .long) (by decide)
      have F41_writtenThrough : Fld Z h41 b41 "com/example/cheapside/cheapside/core/StoredValue" "writtenThrough" "J" (.long (0 : Int64)) := D41 (Or.inr (hw _ (List.mem_of_getElem? (i := 12) rfl))) (ty := .long) (by decide)
      replace G : Gets p e below _ (T41.setTop (mkF m 50 #[.val (.long i0), .second, .val (.long i1), .second, .val (.long i2), .second, .val (.long i3), .second, .val (.int i4), .val (.int kk), .val (.long i2), .second, .val (.long i1), .second, .val (.ref b39), .unset, .unset, .unset, .unset, .unset] [(.ref b41)])) := fun t k => G t (st41 t k)
      replace G := own_dup (q := 51) G X41.here hx (hb hby at_50) rfl rfl
      replace G := own_lload (q := 53) G X41.here hx (hb hby at_51) rfl rfl
      replace G := own_lload (q := 55) G X41.here hx (hb hby at_53) rfl rfl
      obtain ⟨_, _, ⟨T43, L43, kk43, nn43⟩, -, X43, ⟨Lc43, hQ43, l43, y43, z43⟩, st43⟩ := X41.specialBack hx (y := (⟨"com/example/cheapside/cheapside/core/StoredValue", "<init>", "(JJ)V"⟩ : MethodName)) rfl hown (mvT hZ (hw _ (List.mem_of_getElem? (i := 3) rfl))) (mvT hZ (hw _ (List.mem_of_getElem? (i := 4) rfl))) (mvT hZ (hw _ (List.mem_of_getElem? (i := 5) rfl))) (by decide) (backOf (W := 1) (rm1 l Z a0 hw [] b41 i2 i1 h41 n0 Z41 F41_value F41_writtenThrough A41 ge_b41) hZ (hw _ (List.mem_of_getElem? (i := 5) rfl)) (hw _ (List.mem_of_getElem? (i := 2) rfl)) (by decide) (by decide)) (g := (mkF m 55 #[.val (.long i0), .second, .val (.long i1), .second, .val (.long i2), .second, .val (.long i3), .second, .val (.int i4), .val (.int kk), .val (.long i2), .second, .val (.long i1), .second, .val (.ref b39), .unset, .unset, .unset, .unset, .unset] [(.long i1), (.long i2), (.ref b41), (.ref b41)])) rfl (by rw [hml]; rfl) (Steps.refl _) (a := b41) (argsL := [(.long i2), (.long i1)]) (rest := [(.ref b41)]) (lenOf pd_1 rfl) rfl (by show 2 * 0 + _ ≤ _; exact Nat.le_of_eq rfl) (hb hby at_55) (fun _ _ => ⟨rfl, e41, (by decide : 2 + 0 ≤ _), (by decide : 4 + 0 ≤ _)⟩)
      dsimp only [Pt.U, Pt.locs, Pt.cells, Pt.slots] at X43 l43 y43 z43 st43 hQ43
      subst l43 y43 z43
      obtain ⟨rfl, N43q, K43q, B43_0, B43_1⟩ := hQ43
      have Z43 : n0 ≤ T43.heap.size := Nat.le_trans Z41 K43q.1
      have N43 := Fr.app N40 N43q
      replace G : Gets p e below _ (T43.setTop (mkF m 58 #[.val (.long i0), .second, .val (.long i1), .second, .val (.long i2), .second, .val (.long i3), .second, .val (.int i4), .val (.int kk), .val (.long i2), .second, .val (.long i1), .second, .val (.ref b39), .unset, .unset, .unset, .unset, .unset] [(.ref b41)])) := fun t k => G t (st43.trans k)
      replace G := own_astore (q := 60) (l' := #[.val (.long i0), .second, .val (.long i1), .second, .val (.long i2), .second, .val (.long i3), .second, .val (.int i4), .val (.int kk), .val (.long i2), .second, .val (.long i1), .second, .val (.ref b39), .val (.ref b41), .unset, .unset, .unset, .unset]) G X43.here hx (hb hby at_58) rfl rfl rfl
      replace G := own_aload (q := 62) G X43.here hx (hb hby at_60) rfl rfl rfl
      have F45 : Exa Z T43.heap b39 "com/example/cheapside/cheapside/core/StoredValue" := (((A39.keep K40q).ext E41).keep K43q)
      have F46 : Fld Z T43.heap b39 "com/example/cheapside/cheapside/core/StoredValue" "value" "J" (.long i0) := ((B40_0.ext E41).keep K43q (ninS ne42 nin0))
      have F47 : Fld Z T43.heap b39 "com/example/cheapside/cheapside/core/StoredValue" "writtenThrough" "J" (.long i1) := ((B40_1.ext E41).keep K43q (ninS ne42 nin0))
      obtain ⟨cq44, kq44, q44a, q44b, q44c⟩ := isOf hZ rfl F45
      obtain ⟨_, _, ⟨T44, L44, kk44, nn44⟩, -, X44, ⟨Lc44, hQ44, l44, y44, z44⟩, st44⟩ := X43.virtualBack hx (y := (⟨"com/example/cheapside/cheapside/core/StoredValue", "hashCode", "()I"⟩ : MethodName)) (z := (⟨"com/example/cheapside/cheapside/core/StoredValue", "hashCode", "()I"⟩ : MethodName)) hown (mvT hZ (hw _ (List.mem_of_getElem? (i := 13) rfl))) (mvT hZ (hw _ (List.mem_of_getElem? (i := 14) rfl))) (notFace_of_selects (args := #[]) (mvT hZ (hw _ (List.mem_of_getElem? (i := 16) rfl)))) (mvT hZ (hw _ (List.mem_of_getElem? (i := 16) rfl))) (mvT hZ (hw _ (List.mem_of_getElem? (i := 15) rfl))) (by decide) (backOf (W := 0) (rm3 l Z a0 hw [] b39 i0 i1 T43.heap n0 Z43 F46 F47 F45) hZ (hw _ (List.mem_of_getElem? (i := 17) rfl)) (hw _ (List.mem_of_getElem? (i := 2) rfl)) (by decide) (by decide)) q44a q44c (g := (mkF m 62 #[.val (.long i0), .second, .val (.long i1), .second, .val (.long i2), .second, .val (.long i3), .second, .val (.int i4), .val (.int kk), .val (.long i2), .second, .val (.long i1), .second, .val (.ref b39), .val (.ref b41), .unset, .unset, .unset, .unset] [(.ref b39)])) rfl (by rw [hml]; rfl) (Steps.refl _) (argsL := []) (rest := []) (lenOf pd_2 rfl) rfl (by show 2 * 0 + _ ≤ _; exact Nat.le_of_eq rfl) (hb hby at_62) (fun _ _ => ⟨rfl, rfl, (by decide : 2 + 0 ≤ _), (by decide : 4 + 0 ≤ _)⟩)
      dsimp only [Pt.U, Pt.locs, Pt.cells, Pt.slots] at X44 l44 y44 z44 st44 hQ44
      subst l44 y44 z44
      obtain ⟨rfl, N44q, e44⟩ := hQ44
      have N44 := Fr.app N43 N44q
      replace G : Gets p e below _ (T44.setTop (mkF m 65 #[.val (.long i0), .second, .val (.long i1), .second, .val (.long i2), .second, .val (.long i3), .second, .val (.int i4), .val (.int kk), .val (.long i2), .second, .val (.long i1), .second, .val (.ref b39), .val (.ref b41), .unset, .unset, .unset, .unset] [(.int (own_hc i0 i1))])) := fun t k => G t (st44.trans k)
      replace G := own_istore (q := 67) (l' := #[.val (.long i0), .second, .val (.long i1), .second, .val (.long i2), .second, .val (.long i3), .second, .val (.int i4), .val (.int kk), .val (.long i2), .second, .val (.long i1), .second, .val (.ref b39), .val (.ref b41), .val (.int (own_hc i0 i1)), .unset, .unset, .unset]) G X44.here hx (hb hby at_65) rfl rfl
      replace G := own_aload (q := 69) G X44.here hx (hb hby at_67) rfl rfl rfl
      have F49 : Exa Z T43.heap b41 "com/example/cheapside/cheapside/core/StoredValue" := (A41.keep K43q)
      obtain ⟨cq48, kq48, q48a, q48b, q48c⟩ := isOf hZ e44 F49
      obtain ⟨_, _, ⟨T48, L48, kk48, nn48⟩, -, X48, ⟨Lc48, hQ48, l48, y48, z48⟩, st48⟩ := X44.virtualBack hx (y := (⟨"com/example/cheapside/cheapside/core/StoredValue", "hashCode", "()I"⟩ : MethodName)) (z := (⟨"com/example/cheapside/cheapside/core/StoredValue", "hashCode", "()I"⟩ : MethodName)) hown (mvT hZ (hw _ (List.mem_of_getElem? (i := 13) rfl))) (mvT hZ (hw _ (List.mem_of_getElem? (i := 14) rfl))) (notFace_of_selects (args := #[]) (mvT hZ (hw _ (List.mem_of_getElem? (i := 16) rfl)))) (mvT hZ (hw _ (List.mem_of_getElem? (i := 16) rfl))) (mvT hZ (hw _ (List.mem_of_getElem? (i := 15) rfl))) (by decide) (backOf (W := 0) (rm3 l Z a0 hw [] b41 i2 i1 T43.heap n0 Z43 B43_0 B43_1 F49) hZ (hw _ (List.mem_of_getElem? (i := 17) rfl)) (hw _ (List.mem_of_getElem? (i := 2) rfl)) (by decide) (by decide)) q48a q48c (g := (mkF m 69 #[.val (.long i0), .second, .val (.long i1), .second, .val (.long i2), .second, .val (.long i3), .second, .val (.int i4), .val (.int kk), .val (.long i2), .second, .val (.long i1), .second, .val (.ref b39), .val (.ref b41), .val (.int (own_hc i0 i1)), .unset, .unset, .unset] [(.ref b41)])) rfl (by rw [hml]; rfl) (Steps.refl _) (argsL := []) (rest := []) (lenOf pd_2 rfl) rfl (by show 2 * 0 + _ ≤ _; exact Nat.le_of_eq rfl) (hb hby at_69) (fun _ _ => ⟨rfl, e44, (by decide : 2 + 0 ≤ _), (by decide : 4 + 0 ≤ _)⟩)
      dsimp only [Pt.U, Pt.locs, Pt.cells, Pt.slots] at X48 l48 y48 z48 st48 hQ48
      subst l48 y48 z48
      obtain ⟨rfl, N48q, e48⟩ := hQ48
      have N48 := Fr.app N44 N48q
      replace G : Gets p e below _ (T48.setTop (mkF m 72 #[.val (.long i0), .second, .val (.long i1), .second, .val (.long i2), .second, .val (.long i3), .second, .val (.int i4), .val (.int kk), .val (.long i2), .second, .val (.long i1), .second, .val (.ref b39), .val (.ref b41), .val (.int (own_hc i0 i1)), .unset, .unset, .unset] [(.int (own_hc i2 i1))])) := fun t k => G t (st48.trans k)
      replace G := own_istore (q := 74) (l' := #[.val (.long i0), .second, .val (.long i1), .second, .val (.long i2), .second, .val (.long i3), .second, .val (.int i4), .val (.int kk), .val (.long i2), .second, .val (.long i1), .second, .val (.ref b39), .val (.ref b41), .val (.int (own_hc i0 i1)), .val (.int (own_hc i2 i1)), .unset, .unset]) G X48.here hx (hb hby at_72) rfl rfl
      replace G := own_aload (q := 76) G X48.here hx (hb hby at_74) rfl rfl rfl
      obtain ⟨cq50, kq50, q50a, q50b, q50c⟩ := isOf hZ e48 F45
      obtain ⟨_, _, ⟨T50, L50, kk50, nn50⟩, -, X50, ⟨Lc50, hQ50, l50, y50, z50⟩, st50⟩ := X48.virtualBack hx (y := (⟨"com/example/cheapside/cheapside/core/StoredValue", "hashCode", "()I"⟩ : MethodName)) (z := (⟨"com/example/cheapside/cheapside/core/StoredValue", "hashCode", "()I"⟩ : MethodName)) hown (mvT hZ (hw _ (List.mem_of_getElem? (i := 13) rfl))) (mvT hZ (hw _ (List.mem_of_getElem? (i := 14) rfl))) (notFace_of_selects (args := #[]) (mvT hZ (hw _ (List.mem_of_getElem? (i := 16) rfl)))) (mvT hZ (hw _ (List.mem_of_getElem? (i := 16) rfl))) (mvT hZ (hw _ (List.mem_of_getElem? (i := 15) rfl))) (by decide) (backOf (W := 0) (rm3 l Z a0 hw [] b39 i0 i1 T43.heap n0 Z43 F46 F47 F45) hZ (hw _ (List.mem_of_getElem? (i := 17) rfl)) (hw _ (List.mem_of_getElem? (i := 2) rfl)) (by decide) (by decide)) q50a q50c (g := (mkF m 76 #[.val (.long i0), .second, .val (.long i1), .second, .val (.long i2), .second, .val (.long i3), .second, .val (.int i4), .val (.int kk), .val (.long i2), .second, .val (.long i1), .second, .val (.ref b39), .val (.ref b41), .val (.int (own_hc i0 i1)), .val (.int (own_hc i2 i1)), .unset, .unset] [(.ref b39)])) rfl (by rw [hml]; rfl) (Steps.refl _) (argsL := []) (rest := []) (lenOf pd_2 rfl) rfl (by show 2 * 0 + _ ≤ _; exact Nat.le_of_eq rfl) (hb hby at_76) (fun _ _ => ⟨rfl, e48, (by decide : 2 + 0 ≤ _), (by decide : 4 + 0 ≤ _)⟩)
      dsimp only [Pt.U, Pt.locs, Pt.cells, Pt.slots] at X50 l50 y50 z50 st50 hQ50
      subst l50 y50 z50
      obtain ⟨rfl, N50q, e50⟩ := hQ50
      have N50 := Fr.app N48 N50q
      replace G : Gets p e below _ (T50.setTop (mkF m 79 #[.val (.long i0), .second, .val (.long i1), .second, .val (.long i2), .second, .val (.long i3), .second, .val (.int i4), .val (.int kk), .val (.long i2), .second, .val (.long i1), .second, .val (.ref b39), .val (.ref b41), .val (.int (own_hc i0 i1)), .val (.int (own_hc i2 i1)), .unset, .unset] [(.int (own_hc i0 i1))])) := fun t k => G t (st50.trans k)
      replace G := own_istore (q := 81) (l' := #[.val (.long i0), .second, .val (.long i1), .second, .val (.long i2), .second, .val (.long i3), .second, .val (.int i4), .val (.int kk), .val (.long i2), .second, .val (.long i1), .second, .val (.ref b39), .val (.ref b41), .val (.int (own_hc i0 i1)), .val (.int (own_hc i2 i1)), .val (.int (own_hc i0 i1)), .unset]) G X50.here hx (hb hby at_79) rfl rfl
      replace G := own_lloadN (q := 82) G X50.here hx (hb hby at_81) rfl rfl
      replace G := own_lload (q := 84) G X50.here hx (hb hby at_82) rfl rfl
      replace G := own_lcmp (q := 85) G X50.here hx (hb hby at_84) rfl
      by_cases hc85_51 : i0 = i2
      · replace G := own_ifNo (q := 88) G X50.here hx (hb hby at_85) ((if0 _ _).trans (teq ((lw_eq _ _).mpr hc85_51)).2) rfl
        replace G := own_lloadN (q := 89) G X50.here hx (hb hby at_88) rfl rfl
        replace G := own_lload (q := 91) G X50.here hx (hb hby at_89) rfl rfl
        replace G := own_lcmp (q := 92) G X50.here hx (hb hby at_91) rfl
        have hc92_52 : i1 = i1 := rfl
        replace G := own_ifNo (q := 95) G X50.here hx (hb hby at_92) ((if0 _ _).trans (teq ((lw_eq _ _).mpr hc92_52)).2) rfl
        replace G := own_iconst (q := 96) G X50.here hx (hb hby at_95) (v := (1 : Int32)) (by decide) rfl
        replace G := own_goto (q := 100) G X50.here hx (hb hby at_96) (by decide) (by decide)
        replace G := own_istore (q := 102) (l' := #[.val (.long i0), .second, .val (.long i1), .second, .val (.long i2), .second, .val (.long i3), .second, .val (.int i4), .val (.int kk), .val (.long i2), .second, .val (.long i1), .second, .val (.ref b39), .val (.ref b41), .val (.int (own_hc i0 i1)), .val (.int (own_hc i2 i1)), .val (.int (own_hc i0 i1)), .val (.int (1 : Int32))]) G X50.here hx (hb hby at_100) rfl rfl
        replace G := own_iload (q := 104) G X50.here hx (hb hby at_102) rfl rfl
        have hc104_53 : ¬ ((1 : Int32) = (0 : Int32)) := by decide
        replace G := own_ifYes (q := 109) G X50.here hx (hb hby at_104) ((if0 _ _).trans (feq hc104_53).2) (by decide) (by decide)
        replace G := own_iload (q := 111) G X50.here hx (hb hby at_109) rfl rfl
        replace G := own_iload (q := 113) G X50.here hx (hb hby at_111) rfl rfl
        have hc113_54 : (own_hc i0 i1) = (own_hc i2 i1) := by rw [hc85_51]; try rfl
        replace G := own_icmpNo (q := 116) G X50.here hx (hb hby at_113) (teq hc113_54).2 rfl
        replace G := own_iload (q := 118) G X50.here hx (hb hby at_116) rfl rfl
        replace G := own_iload (q := 120) G X50.here hx (hb hby at_118) rfl rfl
        have hc120_55 : (own_hc i0 i1) = (own_hc i0 i1) := rfl
        replace G := own_icmpNo (q := 123) G X50.here hx (hb hby at_120) (teq hc120_55).2 rfl
        replace G := own_iconst (q := 124) G X50.here hx (hb hby at_123) (v := (1 : Int32)) (by decide) rfl
        replace G := own_goto (q := 128) G X50.here hx (hb hby at_124) (by decide) (by decide)
        obtain ⟨fs, hr, hrun, hended, hW, hsame⟩ := X50.leave (v := some (.int (1 : Int32))) (fun h => by rw [Bd.returns] at h; cases h)
        refine ⟨_, _, G _ (retOut X50 hx Bd.returns rfl (Or.inl ⟨rfl, Or.inr (Or.inl rfl), _, rfl⟩) (hb hby at_128) hr), hrun, hended, _, _, rfl, ?_, ⟨_, rfl⟩, hW, hsame.mono (by decide) (by decide)⟩
        show Q0 Z i0 i1 i2 i3 i4 h0 n0 _ T50.heap _
        rw [e50]
        exact ⟨rfl, N50⟩
      · replace G := own_ifYes (q := 99) G X50.here hx (hb hby at_85) ((if0 _ _).trans (feq (fun z => hc85_51 ((lw_eq _ _).mp z))).2) (by decide) (by decide)
        replace G := own_iconst (q := 100) G X50.here hx (hb hby at_99) (v := (0 : Int32)) (by decide) rfl
        replace G := own_istore (q := 102) (l' := #[.val (.long i0), .second, .val (.long i1), .second, .val (.long i2), .second, .val (.long i3), .second, .val (.int i4), .val (.int kk), .val (.long i2), .second, .val (.long i1), .second, .val (.ref b39), .val (.ref b41), .val (.int (own_hc i0 i1)), .val (.int (own_hc i2 i1)), .val (.int (own_hc i0 i1)), .val (.int (0 : Int32))]) G X50.here hx (hb hby at_100) rfl rfl
        replace G := own_iload (q := 104) G X50.here hx (hb hby at_102) rfl rfl
        have hc104_56 : (0 : Int32) = (0 : Int32) := by decide
        replace G := own_ifNo (q := 107) G X50.here hx (hb hby at_104) ((if0 _ _).trans (teq hc104_56).2) rfl
        replace G := own_iconst (q := 108) G X50.here hx (hb hby at_107) (v := (1 : Int32)) (by decide) rfl
        obtain ⟨fs, hr, hrun, hended, hW, hsame⟩ := X50.leave (v := some (.int (1 : Int32))) (fun h => by rw [Bd.returns] at h; cases h)
        refine ⟨_, _, G _ (retOut X50 hx Bd.returns rfl (Or.inl ⟨rfl, Or.inr (Or.inl rfl), _, rfl⟩) (hb hby at_108) hr), hrun, hended, _, _, rfl, ?_, ⟨_, rfl⟩, hW, hsame.mono (by decide) (by decide)⟩
        show Q0 Z i0 i1 i2 i3 i4 h0 n0 _ T50.heap _
        rw [e50]
        exact ⟨rfl, N50⟩
    · replace G := own_ifNo (q := 28) G X0.here hx (hb hby at_25) ((if0 _ _).trans (feq hc25_38).1) rfl
      replace G := own_lload (q := 30) G X0.here hx (hb hby at_28) rfl rfl
      replace G := own_goto (q := 34) G X0.here hx (hb hby at_30) (by decide) (by decide)
      replace G := own_lstore (q := 36) (l' := #[.val (.long i0), .second, .val (.long i1), .second, .val (.long i2), .second, .val (.long i3), .second, .val (.int i4), .val (.int kk), .val (.long i2), .second, .val (.long i3), .second, .unset, .unset, .unset, .unset, .unset, .unset]) G X0.here hx (hb hby at_34) rfl rfl
      obtain ⟨T57, h57, X57, e57, E57, A57, D57, -, st57⟩ := newO X0 hx hZ hown (hw _ (List.mem_of_getElem? (i := 0) rfl)) (hw _ (List.mem_of_getElem? (i := 1) rfl)) (hw _ (List.mem_of_getElem? (i := 2) rfl)) e0 (g := (mkF m 36 #[.val (.long i0), .second, .val (.long i1), .second, .val (.long i2), .second, .val (.long i3), .second, .val (.int i4), .val (.int kk), .val (.long i2), .second, .val (.long i3), .second, .unset, .unset, .unset, .unset, .unset, .unset] [])) rfl (hb hby at_36) (by decide) (by decide)
      obtain ⟨b57, g57⟩ : ∃ z, z = h0.size := ⟨_, rfl⟩
      rw [← g57] at A57 D57 st57
      have ge_b57 : n0 ≤ b57 := Nat.le_trans Z0 (Nat.le_of_eq g57.symm)
      have Z57 : n0 ≤ h57.size := Nat.le_trans Z0 E57.1
      have F57_value : Fld Z h57 b57 "com/example/cheapside/cheapside/core/StoredValue" "value" "J" (.long (0 : Int64)) := D57 (Or.inr (hw _ (List.mem_of_getElem? (i := 10) rfl))) (ty := .long) (by decide)
      have F57_writtenThrough : Fld Z h57 b57 "com/example/cheapside/cheapside/core/StoredValue" "writtenThrough" "J" (.long (0 : Int64)) := D57 (Or.inr (hw _ (List.mem_of_getElem? (i := 12) rfl))) (ty := .long) (by decide)
      replace G : Gets p e below _ (T57.setTop (mkF m 39 #[.val (.long i0), .second, .val (.long i1), .second, .val (.long i2), .second, .val (.long i3), .second, .val (.int i4), .val (.int kk), .val (.long i2), .second, .val (.long i3), .second, .unset, .unset, .unset, .unset, .unset, .unset] [(.ref b57)])) := fun t k => G t (st57 t k)
      replace G := own_dup (q := 40) G X57.here hx (hb hby at_39) rfl rfl
      replace G := own_lloadN (q := 41) G X57.here hx (hb hby at_40) rfl rfl
      replace G := own_lloadN (q := 42) G X57.here hx (hb hby at_41) rfl rfl
      obtain ⟨_, _, ⟨T58, L58, kk58, nn58⟩, -, X58, ⟨Lc58, hQ58, l58, y58, z58⟩, st58⟩ := X57.specialBack hx (y := (⟨"com/example/cheapside/cheapside/core/StoredValue", "<init>", "(JJ)V"⟩ : MethodName)) rfl hown (mvT hZ (hw _ (List.mem_of_getElem? (i := 3) rfl))) (mvT hZ (hw _ (List.mem_of_getElem? (i := 4) rfl))) (mvT hZ (hw _ (List.mem_of_getElem? (i := 5) rfl))) (by decide) (backOf (W := 1) (rm1 l Z a0 hw [] b57 i0 i1 h57 n0 Z57 F57_value F57_writtenThrough A57 ge_b57) hZ (hw _ (List.mem_of_getElem? (i := 5) rfl)) (hw _ (List.mem_of_getElem? (i := 2) rfl)) (by decide) (by decide)) (g := (mkF m 42 #[.val (.long i0), .second, .val (.long i1), .second, .val (.long i2), .second, .val (.long i3), .second, .val (.int i4), .val (.int kk), .val (.long i2), .second, .val (.long i3), .second, .unset, .unset, .unset, .unset, .unset, .unset] [(.long i1), (.long i0), (.ref b57), (.ref b57)])) rfl (by rw [hml]; rfl) (Steps.refl _) (a := b57) (argsL := [(.long i0), (.long i1)]) (rest := [(.ref b57)]) (lenOf pd_1 rfl) rfl (by show 2 * 0 + _ ≤ _; exact Nat.le_of_eq rfl) (hb hby at_42) (fun _ _ => ⟨rfl, e57, (by decide : 1 + 0 ≤ _), (by decide : 2 + 0 ≤ _)⟩)
      dsimp only [Pt.U, Pt.locs, Pt.cells, Pt.slots] at X58 l58 y58 z58 st58 hQ58
      subst l58 y58 z58
      obtain ⟨rfl, N58q, K58q, B58_0, B58_1⟩ := hQ58
      have Z58 : n0 ≤ T58.heap.size := Nat.le_trans Z57 K58q.1
      have N58 := Fr.app N0 N58q
      replace G : Gets p e below _ (T58.setTop (mkF m 45 #[.val (.long i0), .second, .val (.long i1), .second, .val (.long i2), .second, .val (.long i3), .second, .val (.int i4), .val (.int kk), .val (.long i2), .second, .val (.long i3), .second, .unset, .unset, .unset, .unset, .unset, .unset] [(.ref b57)])) := fun t k => G t (st58.trans k)
      replace G := own_astore (q := 47) (l' := #[.val (.long i0), .second, .val (.long i1), .second, .val (.long i2), .second, .val (.long i3), .second, .val (.int i4), .val (.int kk), .val (.long i2), .second, .val (.long i3), .second, .val (.ref b57), .unset, .unset, .unset, .unset, .unset]) G X58.here hx (hb hby at_45) rfl rfl rfl
      obtain ⟨T59, h59, X59, e59, E59, A59, D59, -, st59⟩ := newO X58 hx hZ hown (hw _ (List.mem_of_getElem? (i := 0) rfl)) (hw _ (List.mem_of_getElem? (i := 1) rfl)) (hw _ (List.mem_of_getElem? (i := 2) rfl)) rfl (g := (mkF m 47 #[.val (.long i0), .second, .val (.long i1), .second, .val (.long i2), .second, .val (.long i3), .second, .val (.int i4), .val (.int kk), .val (.long i2), .second, .val (.long i3), .second, .val (.ref b57), .unset, .unset, .unset, .unset, .unset] [])) rfl (hb hby at_47) (by decide) (by decide)
      obtain ⟨b59, g59⟩ : ∃ z, z = T58.heap.size := ⟨_, rfl⟩
      rw [← g59] at A59 D59 st59
      have ne60 : b57 ≠ b59 := Nat.ne_of_lt (Nat.lt_of_lt_of_le B58_1.lt (Nat.le_of_eq g59.symm))
      have ge_b59 : n0 ≤ b59 := Nat.le_trans Z58 (Nat.le_of_eq g59.symm)
      have Z59 : n0 ≤ h59.size := Nat.le_trans Z58 E59.1
      have F59_value : Fld Z h59 b59 "com/example/cheapside/cheapside/core/StoredValue" "value" "J" (.long (0 : Int64)) := D59 (Or.inr (hw _ (List.mem_of_getElem? (i := 10) rfl))) (ty := .long) (by decide)
      have F59_writtenThrough : Fld Z h59 b59 "com/example/cheapside/cheapside/core/StoredValue" "writtenThrough" "J" (.long (0 : Int64)) := D59 (Or.inr (hw _ (List.mem_of_getElem? (i := 12) rfl))) (ty := .long) (by decide)
      replace G : Gets p e below _ (T59.setTop (mkF m 50 #[.val (.long i0), .second, .val (.long i1), .second, .val (.long i2), .second, .val (.long i3), .second, .val (.int i4), .val (.int kk), .val (.long i2), .second, .val (.long i3), .second, .val (.ref b57), .unset, .unset, .unset, .unset, .unset] [(.ref b59)])) := fun t k => G t (st59 t k)
      replace G := own_dup (q := 51) G X59.here hx (hb hby at_50) rfl rfl
      replace G := own_lload (q := 53) G X59.here hx (hb hby at_51) rfl rfl
      replace G := own_lload (q := 55) G X59.here hx (hb hby at_53) rfl rfl
      obtain ⟨_, _, ⟨T61, L61, kk61, nn61⟩, -, X61, ⟨Lc61, hQ61, l61, y61, z61⟩, st61⟩ := X59.specialBack hx (y := (⟨"com/example/cheapside/cheapside/core/StoredValue", "<init>", "(JJ)V"⟩ : MethodName)) rfl hown (mvT hZ (hw _ (List.mem_of_getElem? (i := 3) rfl))) (mvT hZ (hw _ (List.mem_of_getElem? (i := 4) rfl))) (mvT hZ (hw _ (List.mem_of_getElem? (i := 5) rfl))) (by decide) (backOf (W := 1) (rm1 l Z a0 hw [] b59 i2 i3 h59 n0 Z59 F59_value F59_writtenThrough A59 ge_b59) hZ (hw _ (List.mem_of_getElem? (i := 5) rfl)) (hw _ (List.mem_of_getElem? (i := 2) rfl)) (by decide) (by decide)) (g := (mkF m 55 #[.val (.long i0), .second, .val (.long i1), .second, .val (.long i2), .second, .val (.long i3), .second, .val (.int i4), .val (.int kk), .val (.long i2), .second, .val (.long i3), .second, .val (.ref b57), .unset, .unset, .unset, .unset, .unset] [(.long i3), (.long i2), (.ref b59), (.ref b59)])) rfl (by rw [hml]; rfl) (Steps.refl _) (a := b59) (argsL := [(.long i2), (.long i3)]) (rest := [(.ref b59)]) (lenOf pd_1 rfl) rfl (by show 2 * 0 + _ ≤ _; exact Nat.le_of_eq rfl) (hb hby at_55) (fun _ _ => ⟨rfl, e59, (by decide : 2 + 0 ≤ _), (by decide : 4 + 0 ≤ _)⟩)
      dsimp only [Pt.U, Pt.locs, Pt.cells, Pt.slots] at X61 l61 y61 z61 st61 hQ61
      subst l61 y61 z61
      obtain ⟨rfl, N61q, K61q, B61_0, B61_1⟩ := hQ61
      have Z61 : n0 ≤ T61.heap.size := Nat.le_trans Z59 K61q.1
      have N61 := Fr.app N58 N61q
      replace G : Gets p e below _ (T61.setTop (mkF m 58 #[.val (.long i0), .second, .val (.long i1), .second, .val (.long i2), .second, .val (.long i3), .second, .val (.int i4), .val (.int kk), .val (.long i2), .second, .val (.long i3), .second, .val (.ref b57), .unset, .unset, .unset, .unset, .unset] [(.ref b59)])) := fun t k => G t (st61.trans k)
      replace G := own_astore (q := 60) (l' := #[.val (.long i0), .second, .val (.long i1), .second, .val (.long i2), .second, .val (.long i3), .second, .val (.int i4), .val (.int kk), .val (.long i2), .second, .val (.long i3), .second, .val (.ref b57), .val (.ref b59), .unset, .unset, .unset, .unset]) G X61.here hx (hb hby at_58) rfl rfl rfl
      replace G := own_aload (q := 62) G X61.here hx (hb hby at_60) rfl rfl rfl
      have F63 : Exa Z T61.heap b57 "com/example/cheapside/cheapside/core/StoredValue" := (((A57.keep K58q).ext E59).keep K61q)
      have F64 : Fld Z T61.heap b57 "com/example/cheapside/cheapside/core/StoredValue" "value" "J" (.long i0) := ((B58_0.ext E59).keep K61q (ninS ne60 nin0))
      have F65 : Fld Z T61.heap b57 "com/example/cheapside/cheapside/core/StoredValue" "writtenThrough" "J" (.long i1) := ((B58_1.ext E59).keep K61q (ninS ne60 nin0))
      obtain ⟨cq62, kq62, q62a, q62b, q62c⟩ := isOf hZ rfl F63
      obtain ⟨_, _, ⟨T62, L62, kk62, nn62⟩, -, X62, ⟨Lc62, hQ62, l62, y62, z62⟩, st62⟩ := X61.virtualBack hx (y := (⟨"com/example/cheapside/cheapside/core/StoredValue", "hashCode", "()I"⟩ : MethodName)) (z := (⟨"com/example/cheapside/cheapside/core/StoredValue", "hashCode", "()I"⟩ : MethodName)) hown (mvT hZ (hw _ (List.mem_of_getElem? (i := 13) rfl))) (mvT hZ (hw _ (List.mem_of_getElem? (i := 14) rfl))) (notFace_of_selects (args := #[]) (mvT hZ (hw _ (List.mem_of_getElem? (i := 16) rfl)))) (mvT hZ (hw _ (List.mem_of_getElem? (i := 16) rfl))) (mvT hZ (hw _ (List.mem_of_getElem? (i := 15) rfl))) (by decide) (backOf (W := 0) (rm3 l Z a0 hw [] b57 i0 i1 T61.heap n0 Z61 F64 F65 F63) hZ (hw _ (List.mem_of_getElem? (i := 17) rfl)) (hw _ (List.mem_of_getElem? (i := 2) rfl)) (by decide) (by decide)) q62a q62c (g := (mkF m 62 #[.val (.long i0), .second, .val (.long i1), .second, .val (.long i2), .second, .val (.long i3), .second, .val (.int i4), .val (.int kk), .val (.long i2), .second, .val (.long i3), .second, .val (.ref b57), .val (.ref b59), .unset, .unset, .unset, .unset] [(.ref b57)])) rfl (by rw [hml]; rfl) (Steps.refl _) (argsL := []) (rest := []) (lenOf pd_2 rfl) rfl (by show 2 * 0 + _ ≤ _; exact Nat.le_of_eq rfl) (hb hby at_62) (fun _ _ => ⟨rfl, rfl, (by decide : 2 + 0 ≤ _), (by decide : 4 + 0 ≤ _)⟩)
      dsimp only [Pt.U, Pt.locs, Pt.cells, Pt.slots] at X62 l62 y62 z62 st62 hQ62
      subst l62 y62 z62
      obtain ⟨rfl, N62q, e62⟩ := hQ62
      have N62 := Fr.app N61 N62q
      replace G : Gets p e below _ (T62.setTop (mkF m 65 #[.val (.long i0), .second, .val (.long i1), .second, .val (.long i2), .second, .val (.long i3), .second, .val (.int i4), .val (.int kk), .val (.long i2), .second, .val (.long i3), .second, .val (.ref b57), .val (.ref b59), .unset, .unset, .unset, .unset] [(.int (own_hc i0 i1))])) := fun t k => G t (st62.trans k)
      replace G := own_istore (q := 67) (l' := #[.val (.long i0), .second, .val (.long i1), .second, .val (.long i2), .second, .val (.long i3), .second, .val (.int i4), .val (.int kk), .val (.long i2), .second, .val (.long i3), .second, .val (.ref b57), .val (.ref b59), .val (.int (own_hc i0 i1)), .unset, .unset, .unset]) G X62.here hx (hb hby at_65) rfl rfl
      replace G := own_aload (q := 69) G X62.here hx (hb hby at_67) rfl rfl rfl
      have F67 : Exa Z T61.heap b59 "com/example/cheapside/cheapside/core/StoredValue" := (A59.keep K61q)
      obtain ⟨cq66, kq66, q66a, q66b, q66c⟩ := isOf hZ e62 F67
      obtain ⟨_, _, ⟨T66, L66, kk66, nn66⟩, -, X66, ⟨Lc66, hQ66, l66, y66, z66⟩, st66⟩ := X62.virtualBack hx (y := (⟨"com/example/cheapside/cheapside/core/StoredValue", "hashCode", "()I"⟩ : MethodName)) (z := (⟨"com/example/cheapside/cheapside/core/StoredValue", "hashCode", "()I"⟩ : MethodName)) hown (mvT hZ (hw _ (List.mem_of_getElem? (i := 13) rfl))) (mvT hZ (hw _ (List.mem_of_getElem? (i := 14) rfl))) (notFace_of_selects (args := #[]) (mvT hZ (hw _ (List.mem_of_getElem? (i := 16) rfl)))) (mvT hZ (hw _ (List.mem_of_getElem? (i := 16) rfl))) (mvT hZ (hw _ (List.mem_of_getElem? (i := 15) rfl))) (by decide) (backOf (W := 0) (rm3 l Z a0 hw [] b59 i2 i3 T61.heap n0 Z61 B61_0 B61_1 F67) hZ (hw _ (List.mem_of_getElem? (i := 17) rfl)) (hw _ (List.mem_of_getElem? (i := 2) rfl)) (by decide) (by decide)) q66a q66c (g := (mkF m 69 #[.val (.long i0), .second, .val (.long i1), .second, .val (.long i2), .second, .val (.long i3), .second, .val (.int i4), .val (.int kk), .val (.long i2), .second, .val (.long i3), .second, .val (.ref b57), .val (.ref b59), .val (.int (own_hc i0 i1)), .unset, .unset, .unset] [(.ref b59)])) rfl (by rw [hml]; rfl) (Steps.refl _) (argsL := []) (rest := []) (lenOf pd_2 rfl) rfl (by show 2 * 0 + _ ≤ _; exact Nat.le_of_eq rfl) (hb hby at_69) (fun _ _ => ⟨rfl, e62, (by decide : 2 + 0 ≤ _), (by decide : 4 + 0 ≤ _)⟩)
      dsimp only [Pt.U, Pt.locs, Pt.cells, Pt.slots] at X66 l66 y66 z66 st66 hQ66
      subst l66 y66 z66
      obtain ⟨rfl, N66q, e66⟩ := hQ66
      have N66 := Fr.app N62 N66q
      replace G : Gets p e below _ (T66.setTop (mkF m 72 #[.val (.long i0), .second, .val (.long i1), .second, .val (.long i2), .second, .val (.long i3), .second, .val (.int i4), .val (.int kk), .val (.long i2), .second, .val (.long i3), .second, .val (.ref b57), .val (.ref b59), .val (.int (own_hc i0 i1)), .unset, .unset, .unset] [(.int (own_hc i2 i3))])) := fun t k => G t (st66.trans k)
      replace G := own_istore (q := 74) (l' := #[.val (.long i0), .second, .val (.long i1), .second, .val (.long i2), .second, .val (.long i3), .second, .val (.int i4), .val (.int kk), .val (.long i2), .second, .val (.long i3), .second, .val (.ref b57), .val (.ref b59), .val (.int (own_hc i0 i1)), .val (.int (own_hc i2 i3)), .unset, .unset]) G X66.here hx (hb hby at_72) rfl rfl
      replace G := own_aload (q := 76) G X66.here hx (hb hby at_74) rfl rfl rfl
      obtain ⟨cq68, kq68, q68a, q68b, q68c⟩ := isOf hZ e66 F63
      obtain ⟨_, _, ⟨T68, L68, kk68, nn68⟩, -, X68, ⟨Lc68, hQ68, l68, y68, z68⟩, st68⟩ := X66.virtualBack hx (y := (⟨"com/example/cheapside/cheapside/core/StoredValue", "hashCode", "()I"⟩ : MethodName)) (z := (⟨"com/example/cheapside/cheapside/core/StoredValue", "hashCode", "()I"⟩ : MethodName)) hown (mvT hZ (hw _ (List.mem_of_getElem? (i := 13) rfl))) (mvT hZ (hw _ (List.mem_of_getElem? (i := 14) rfl))) (notFace_of_selects (args := #[]) (mvT hZ (hw _ (List.mem_of_getElem? (i := 16) rfl)))) (mvT hZ (hw _ (List.mem_of_getElem? (i := 16) rfl))) (mvT hZ (hw _ (List.mem_of_getElem? (i := 15) rfl))) (by decide) (backOf (W := 0) (rm3 l Z a0 hw [] b57 i0 i1 T61.heap n0 Z61 F64 F65 F63) hZ (hw _ (List.mem_of_getElem? (i := 17) rfl)) (hw _ (List.mem_of_getElem? (i := 2) rfl)) (by decide) (by decide)) q68a q68c (g := (mkF m 76 #[.val (.long i0), .second, .val (.long i1), .second, .val (.long i2), .second, .val (.long i3), .second, .val (.int i4), .val (.int kk), .val (.long i2), .second, .val (.long i3), .second, .val (.ref b57), .val (.ref b59), .val (.int (own_hc i0 i1)), .val (.int (own_hc i2 i3)), .unset, .unset] [(.ref b57)])) rfl (by rw [hml]; rfl) (Steps.refl _) (argsL := []) (rest := []) (lenOf pd_2 rfl) rfl (by show 2 * 0 + _ ≤ _; exact Nat.le_of_eq rfl) (hb hby at_76) (fun _ _ => ⟨rfl, e66, (by decide : 2 + 0 ≤ _), (by decide : 4 + 0 ≤ _)⟩)
      dsimp only [Pt.U, Pt.locs, Pt.cells, Pt.slots] at X68 l68 y68 z68 st68 hQ68
      subst l68 y68 z68
      obtain ⟨rfl, N68q, e68⟩ := hQ68
      have N68 := Fr.app N66 N68q
      replace G : Gets p e below _ (T68.setTop (mkF m 79 #[.val (.long i0), .second, .val (.long i1), .second, .val (.long i2), .second, .val (.long i3), .second, .val (.int i4), .val (.int kk), .val (.long i2), .second, .val (.long i3), .second, .val (.ref b57), .val (.ref b59), .val (.int (own_hc i0 i1)), .val (.int (own_hc i2 i3)), .unset, .unset] [(.int (own_hc i0 i1))])) := fun t k => G t (st68.trans k)
      replace G := own_istore (q := 81) (l' := #[.val (.long i0), .second, .val (.long i1), .second, .val (.long i2), .second, .val (.long i3), .second, .val (.int i4), .val (.int kk), .val (.long i2), .second, .val (.long i3), .second, .val (.ref b57), .val (.ref b59), .val (.int (own_hc i0 i1)), .val (.int (own_hc i2 i3)), .val (.int (own_hc i0 i1)), .unset]) G X68.here hx (hb hby at_79) rfl rfl
      replace G := own_lloadN (q := 82) G X68.here hx (hb hby at_81) rfl rfl
      replace G := own_lload (q := 84) G X68.here hx (hb hby at_82) rfl rfl
      replace G := own_lcmp (q := 85) G X68.here hx (hb hby at_84) rfl
      by_cases hc85_69 : i0 = i2
      · replace G := own_ifNo (q := 88) G X68.here hx (hb hby at_85) ((if0 _ _).trans (teq ((lw_eq _ _).mpr hc85_69)).2) rfl
        replace G := own_lloadN (q := 89) G X68.here hx (hb hby at_88) rfl rfl
        replace G := own_lload (q := 91) G X68.here hx (hb hby at_89) rfl rfl
        replace G := own_lcmp (q := 92) G X68.here hx (hb hby at_91) rfl
        by_cases hc92_70 : i1 = i3
        · replace G := own_ifNo (q := 95) G X68.here hx (hb hby at_92) ((if0 _ _).trans (teq ((lw_eq _ _).mpr hc92_70)).2) rfl
          replace G := own_iconst (q := 96) G X68.here hx (hb hby at_95) (v := (1 : Int32)) (by decide) rfl
          replace G := own_goto (q := 100) G X68.here hx (hb hby at_96) (by decide) (by decide)
          replace G := own_istore (q := 102) (l' := #[.val (.long i0), .second, .val (.long i1), .second, .val (.long i2), .second, .val (.long i3), .second, .val (.int i4), .val (.int kk), .val (.long i2), .second, .val (.long i3), .second, .val (.ref b57), .val (.ref b59), .val (.int (own_hc i0 i1)), .val (.int (own_hc i2 i3)), .val (.int (own_hc i0 i1)), .val (.int (1 : Int32))]) G X68.here hx (hb hby at_100) rfl rfl
          replace G := own_iload (q := 104) G X68.here hx (hb hby at_102) rfl rfl
          have hc104_71 : ¬ ((1 : Int32) = (0 : Int32)) := by decide
          replace G := own_ifYes (q := 109) G X68.here hx (hb hby at_104) ((if0 _ _).trans (feq hc104_71).2) (by decide) (by decide)
          replace G := own_iload (q := 111) G X68.here hx (hb hby at_109) rfl rfl
          replace G := own_iload (q := 113) G X68.here hx (hb hby at_111) rfl rfl
          have hc113_72 : (own_hc i0 i1) = (own_hc i2 i3) := by rw [hc85_69]; rw [hc92_70]; try rfl
          replace G := own_icmpNo (q := 116) G X68.here hx (hb hby at_113) (teq hc113_72).2 rfl
          replace G := own_iload (q := 118) G X68.here hx (hb hby at_116) rfl rfl
          replace G := own_iload (q := 120) G X68.here hx (hb hby at_118) rfl rfl
          have hc120_73 : (own_hc i0 i1) = (own_hc i0 i1) := rfl
          replace G := own_icmpNo (q := 123) G X68.here hx (hb hby at_120) (teq hc120_73).2 rfl
          replace G := own_iconst (q := 124) G X68.here hx (hb hby at_123) (v := (1 : Int32)) (by decide) rfl
          replace G := own_goto (q := 128) G X68.here hx (hb hby at_124) (by decide) (by decide)
          obtain ⟨fs, hr, hrun, hended, hW, hsame⟩ := X68.leave (v := some (.int (1 : Int32))) (fun h => by rw [Bd.returns] at h; cases h)
          refine ⟨_, _, G _ (retOut X68 hx Bd.returns rfl (Or.inl ⟨rfl, Or.inr (Or.inl rfl), _, rfl⟩) (hb hby at_128) hr), hrun, hended, _, _, rfl, ?_, ⟨_, rfl⟩, hW, hsame.mono (by decide) (by decide)⟩
          show Q0 Z i0 i1 i2 i3 i4 h0 n0 _ T68.heap _
          rw [e68]
          exact ⟨rfl, N68⟩
        · replace G := own_ifYes (q := 99) G X68.here hx (hb hby at_92) ((if0 _ _).trans (feq (fun z => hc92_70 ((lw_eq _ _).mp z))).2) (by decide) (by decide)
          replace G := own_iconst (q := 100) G X68.here hx (hb hby at_99) (v := (0 : Int32)) (by decide) rfl
          replace G := own_istore (q := 102) (l' := #[.val (.long i0), .second, .val (.long i1), .second, .val (.long i2), .second, .val (.long i3), .second, .val (.int i4), .val (.int kk), .val (.long i2), .second, .val (.long i3), .second, .val (.ref b57), .val (.ref b59), .val (.int (own_hc i0 i1)), .val (.int (own_hc i2 i3)), .val (.int (own_hc i0 i1)), .val (.int (0 : Int32))]) G X68.here hx (hb hby at_100) rfl rfl
          replace G := own_iload (q := 104) G X68.here hx (hb hby at_102) rfl rfl
          have hc104_74 : (0 : Int32) = (0 : Int32) := by decide
          replace G := own_ifNo (q := 107) G X68.here hx (hb hby at_104) ((if0 _ _).trans (teq hc104_74).2) rfl
          replace G := own_iconst (q := 108) G X68.here hx (hb hby at_107) (v := (1 : Int32)) (by decide) rfl
          obtain ⟨fs, hr, hrun, hended, hW, hsame⟩ := X68.leave (v := some (.int (1 : Int32))) (fun h => by rw [Bd.returns] at h; cases h)
          refine ⟨_, _, G _ (retOut X68 hx Bd.returns rfl (Or.inl ⟨rfl, Or.inr (Or.inl rfl), _, rfl⟩) (hb hby at_108) hr), hrun, hended, _, _, rfl, ?_, ⟨_, rfl⟩, hW, hsame.mono (by decide) (by decide)⟩
          show Q0 Z i0 i1 i2 i3 i4 h0 n0 _ T68.heap _
          rw [e68]
          exact ⟨rfl, N68⟩
      · replace G := own_ifYes (q := 99) G X68.here hx (hb hby at_85) ((if0 _ _).trans (feq (fun z => hc85_69 ((lw_eq _ _).mp z))).2) (by decide) (by decide)
        replace G := own_iconst (q := 100) G X68.here hx (hb hby at_99) (v := (0 : Int32)) (by decide) rfl
        replace G := own_istore (q := 102) (l' := #[.val (.long i0), .second, .val (.long i1), .second, .val (.long i2), .second, .val (.long i3), .second, .val (.int i4), .val (.int kk), .val (.long i2), .second, .val (.long i3), .second, .val (.ref b57), .val (.ref b59), .val (.int (own_hc i0 i1)), .val (.int (own_hc i2 i3)), .val (.int (own_hc i0 i1)), .val (.int (0 : Int32))]) G X68.here hx (hb hby at_100) rfl rfl
        replace G := own_iload (q := 104) G X68.here hx (hb hby at_102) rfl rfl
        have hc104_75 : (0 : Int32) = (0 : Int32) := by decide
        replace G := own_ifNo (q := 107) G X68.here hx (hb hby at_104) ((if0 _ _).trans (teq hc104_75).2) rfl
        replace G := own_iconst (q := 108) G X68.here hx (hb hby at_107) (v := (1 : Int32)) (by decide) rfl
        obtain ⟨fs, hr, hrun, hended, hW, hsame⟩ := X68.leave (v := some (.int (1 : Int32))) (fun h => by rw [Bd.returns] at h; cases h)
        refine ⟨_, _, G _ (retOut X68 hx Bd.returns rfl (Or.inl ⟨rfl, Or.inr (Or.inl rfl), _, rfl⟩) (hb hby at_108) hr), hrun, hended, _, _, rfl, ?_, ⟨_, rfl⟩, hW, hsame.mono (by decide) (by decide)⟩
        show Q0 Z i0 i1 i2 i3 i4 h0 n0 _ T68.heap _
        rw [e68]
        exact ⟨rfl, N68⟩
set_option maxRecDepth 65536 in
set_option maxHeartbeats 40000000 in
theorem comes_1 {Post : Tables → Env → Array Value → State → Outcome → State → Prop} (hpost : ∀ tb e args s v u, (limb_1_1.after args s (.returned v) u = true ∧ limb_1_2.after args s (.returned v) u = true ∧ True) → FrameEnd s (.returned v) u (Jvm.fieldLocs frame_1_writes args s ++ Jvm.arrayLocs frame_1_arrays args s ++ Jvm.staticLocs frame_1_statics s) 16 128 → Post tb e args s (.returned v) u) :
    ArmFor flags0 classFile x code maxLocals ret World_1 tables_1 room_1 Calls_1 rest_1 Pre_1 Post := by
  intro l hfl _ _ p e ha hc hk s m args below hf hA hF happ hP
  obtain ⟨hcalls, hrest, hpre⟩ := hP
  obtain ⟨-, -, -, hnamed, -, -, -, hat⟩ := (Spec.applies_iff hf).mp happ
  obtain ⟨hg, hn⟩ := and_e (Cond.before_iff.mp (show (Jvm.Cond.and given_1 narrow_1).before args s = true from hpre))
  obtain ⟨g1, g2⟩ := and_e hg
  obtain ⟨g3, g4⟩ := and_e g2
  obtain ⟨g5, g6⟩ := and_e g4
  obtain ⟨g7, g8⟩ := and_e g6
  obtain ⟨g9, g10⟩ := and_e g8
  obtain ⟨w0, w1, w2, w3, w4, rfl⟩ : ∃ w0 w1 w2 w3 w4 : Value, args = #[w0, w1, w2, w3, w4] := by
    have hs : args.size = 5 := by simpa [Cond.value, given_1] using g1
    obtain ⟨L⟩ := args
    match L, hs with
    | [w0, w1, w2, w3, w4], _ => exact ⟨w0, w1, w2, w3, w4, rfl⟩
  have hw := fun d (hd : d ∈ tables_1) => atoms_spec (ws := Jvm.Cond.code x code maxLocals ret :: tables_1) hat d (List.mem_cons_of_mem _ hd)
  have hfit : Fit s := fun {y c} hc i hi => by
    obtain ⟨ha, rfl⟩ := Array.getElem?_eq_some_iff.mp hc
    have q := List.all_eq_true.mp ((Array.all_eq_true_iff_forall_mem.mp hF) _ (Array.getElem_mem ha)) i (List.mem_range.mpr hi)
    simpa [Array.getElem?_eq_getElem hi] using q
  obtain ⟨i0, ei0⟩ := isL_v g3
  obtain rfl : w0 = (.long i0) := Option.some.inj ei0
  obtain ⟨i1, ei1⟩ := isL_v g5
  obtain rfl : w1 = (.long i1) := Option.some.inj ei1
  obtain ⟨i2, ei2⟩ := isL_v g7
  obtain rfl : w2 = (.long i2) := Option.some.inj ei2
  obtain ⟨i3, ei3⟩ := isL_v g9
  obtain rfl : w3 = (.long i3) := Option.some.inj ei3
  obtain ⟨i4, ei4⟩ := is_v g10
  obtain rfl : w4 = (.int i4) := Option.some.inj ei4
  obtain ⟨n, o, h1, h2, h3, _, L, rfl, ⟨rfl, N⟩, hq⟩ := rm0 l s _ hw tables_1 i0 i1 i2 i3 i4 s.heap s.heap.size (Nat.le_refl _)  p e ha hc hk s m _ below hf ((Spec.applies_iff_loose hf).mp happ).1 ⟨rfl, State.Warmed39.refl s, rfl⟩ trivial
  refine ⟨n, _, h1, h2, h3, hpost _ _ _ _ _ _ ⟨Cond.after_iff.mpr rfl, Cond.after_iff.mpr (eq_i res_at (Term.int_eval (1)) rfl), trivial⟩ ⟨hq.1, hq.2.1, (hq.2.2.sift fun y hy => Or.inr (N y hy)).mono (by decide) (by decide)⟩⟩
theorem main_1_1 : Claimed_1_1 := comes_1 fun _ _ _ _ _ _ h hF => ⟨h.1, hF⟩
theorem main_1_2 : Claimed_1_2 := comes_1 fun _ _ _ _ _ _ h hF => ⟨h.2.1, hF⟩
end Jvm.Pilot.@@N@@
namespace Jvm.Pilot.@@N@@
open Jvm Jvm.ClassFile Sem Op Lib Jvm.Free Jvm.Stand Jvm.Pilot.@@N@@.Jvm.D
/-! MADE BY PROGRAM (witnessworld.py) out of the Statement's table words and the real class files: 14 classes; the members and pool entries that the words name. The judged class is class 1, her method 1. -/
namespace start1
open Jvm.ClassFile
def u (s : String) : CpInfo := .utf8 (stringToUtf16 s)
/-- a pool by its gaps: so many unusable entries, then the entry; so many at the end -/
def gap : Nat → List CpInfo → List CpInfo
  | 0, r => r
  | n + 1, r => .unusable :: gap n r
def poolList (es : List (Nat × CpInfo)) (last : Nat) : List CpInfo := es.foldr (fun e r => gap e.1 (e.2 :: r)) (gap last [])
def pool (es : List (Nat × CpInfo)) (last : Nat) : Array CpInfo := ⟨poolList es last⟩
def fileOf (pool : Array CpInfo) (this : Nat) (attrs : Array Attribute := #[]) (ms : Array MethodInfo := #[]) (fl : Nat := 33) (sup : Nat := 0) (ifs : Array Nat := #[]) (fds : Array FieldInfo := #[]) : ClassFile where
  minorVersion := 0
  majorVersion := 65
  constantPool := pool
  accessFlags := fl
  thisClass := this
  superClass := sup
  interfaces := ifs
  fields := fds
  methods := ms
  attributes := attrs
def plain (name : String) (sup : Option ClassId) : Class where
  name := name
  kind := .ordinary
  loader := none
  accessFlags := 33
  super := sup
  interfaces := #[]
  cf := none
  fields := #[]
  methods := #[]
  instanceTypes := #[]
  staticTypes := #[]
  resolved := #[]
  callSites := []
  init := .initialized
  statics := none
  mirror := none

def pool0 : Array CpInfo := pool [(5, u "<init>"), (0, u "()V"), (1, .class_ 10), (1, u "java/lang/Object")] 113

def k0c0 : Code := { maxStack := 0, maxLocals := 1, code := object_method_1_code, exceptionTable := #[], attributes := #[] }
def k0m0 : Method := { name := "<init>", desc := "()V", sig := { parameters := [], returnType := none }, accessFlags := 1, code := some k0c0 }
/-- java/lang/Object -/
def k0 : Class := { plain "java/lang/Object" none with
  accessFlags := 33
  interfaces := #[]
  cf := some (fileOf pool0 8 #[] #[{ accessFlags := 1, nameIndex := 5, descriptorIndex := 6, attributes := #[] }] 33 0 #[] #[])
  fields := #[]
  methods := #[k0m0]
  instanceTypes := #[]
  staticTypes := #[]
  resolved := Array.replicate 124 none
  statics := none }

def pool1 : Array CpInfo := pool [(2, .class_ 4), (1, u "java/lang/Object"), (0, u "<init>"), (0, u "()V"), (0, .class_ 8), (0, u "com/example/cheapside/cheapside/core/StoredValue"), (0, .methodref 7 10), (0, .nameAndType 5 11), (0, u "(JJ)V"), (0, .methodref 7 13), (0, .nameAndType 14 15), (0, u "hashCode"), (0, u "()I"), (0, .class_ 17), (0, u "com/example/cheapside/cheapside/core/StoredValueHashCodePinLaw"), (2, u "law"), (0, u "(JJJJI)Z")] 3

def k1m0 : Method := { name := "<init>", desc := "()V", sig := { parameters := [], returnType := none }, accessFlags := 1, code := none }
def k1c1 : Code := { maxStack := 6, maxLocals := 20, code := code, exceptionTable := #[], attributes := #[] }
def k1m1 : Method := { name := "law", desc := "(JJJJI)Z", sig := { parameters := [.long, .long, .long, .long, .int], returnType := some .boolean }, accessFlags := 9, code := some k1c1 }
/-- com/example/cheapside/cheapside/core/StoredValueHashCodePinLaw -/
def k1 : Class := { plain "com/example/cheapside/cheapside/core/StoredValueHashCodePinLaw" (some 0) with
  accessFlags := 49
  interfaces := #[]
  cf := some (fileOf pool1 16 #[] #[{ accessFlags := 1, nameIndex := 5, descriptorIndex := 6, attributes := #[] }, { accessFlags := 9, nameIndex := 20, descriptorIndex := 21, attributes := #[] }] 49 2 #[] #[])
  fields := #[]
  methods := #[k1m0, k1m1]
  instanceTypes := #[]
  staticTypes := #[]
  resolved := Array.replicate 25 none
  statics := none }

def pool2 : Array CpInfo := pool [(1, .methodref 2 3), (0, .class_ 4), (0, .nameAndType 5 6), (0, u "java/lang/Object"), (0, u "<init>"), (0, u "()V"), (0, .fieldref 8 9), (0, .class_ 10), (0, .nameAndType 11 12), (0, u "com/example/cheapside/cheapside/core/StoredValue"), (0, u "value"), (0, u "J"), (0, .fieldref 8 14), (0, .nameAndType 15 12), (0, u "writtenThrough"), (0, .methodref 17 18), (0, .class_ 19), (0, .nameAndType 20 21), (0, u "java/lang/Long"), (0, u "hashCode"), (0, u "(J)I"), (4, u "(JJ)V"), (8, u "()I")] 19

def k2c0 : Code := { maxStack := 3, maxLocals := 5, code := prog_20_method_1_code, exceptionTable := #[], attributes := #[] }
def k2m0 : Method := { name := "<init>", desc := "(JJ)V", sig := { parameters := [.long, .long], returnType := none }, accessFlags := 1, code := some k2c0 }
def k2c1 : Code := { maxStack := 3, maxLocals := 1, code := prog_20_method_5_code, exceptionTable := #[], attributes := #[] }
def k2m1 : Method := { name := "hashCode", desc := "()I", sig := { parameters := [], returnType := some .int }, accessFlags := 1, code := some k2c1 }
/-- com/example/cheapside/cheapside/core/StoredValue -/
def k2 : Class := { plain "com/example/cheapside/cheapside/core/StoredValue" (some 0) with
  accessFlags := 49
  interfaces := #[]
  cf := some (fileOf pool2 8 #[] #[{ accessFlags := 1, nameIndex := 5, descriptorIndex := 26, attributes := #[] }, { accessFlags := 1, nameIndex := 20, descriptorIndex := 35, attributes := #[] }] 49 2 #[] #[{ accessFlags := 18, nameIndex := 11, descriptorIndex := 12, attributes := #[] }, { accessFlags := 18, nameIndex := 15, descriptorIndex := 12, attributes := #[] }])
  fields := #[{ name := "value", type := .long, accessFlags := 18, slot := 0, constantValue := 0 }, { name := "writtenThrough", type := .long, accessFlags := 18, slot := 1, constantValue := 0 }]
  methods := #[k2m0, k2m1]
  instanceTypes := #[.long, .long]
  staticTypes := #[]
  resolved := Array.replicate 55 none
  statics := none }

def pool3 : Array CpInfo := pool [(1, .class_ 2), (0, u "java/io/Serializable"), (0, .class_ 4), (0, u "java/lang/Object")] 2

/-- java/io/Serializable -/
def k3 : Class := { plain "java/io/Serializable" (some 0) with
  accessFlags := 1537
  interfaces := #[]
  cf := some (fileOf pool3 1 #[] #[] 1537 3 #[] #[])
  fields := #[]
  methods := #[]
  instanceTypes := #[]
  staticTypes := #[]
  resolved := Array.replicate 7 none
  statics := none }

def pool4 : Array CpInfo := pool [(2, .class_ 4), (1, u "java/lang/Object"), (0, u "<init>"), (0, u "()V"), (1, .class_ 10), (1, u "java/lang/Number"), (2, .class_ 14), (0, u "java/io/Serializable"), (0, u "serialVersionUID"), (0, u "J")] 20

def k4m0 : Method := { name := "<init>", desc := "()V", sig := { parameters := [], returnType := none }, accessFlags := 1, code := none }
/-- java/lang/Number -/
def k4 : Class := { plain "java/lang/Number" (some 0) with
  accessFlags := 1057
  interfaces := #[3]
  cf := some (fileOf pool4 8 #[] #[{ accessFlags := 1, nameIndex := 5, descriptorIndex := 6, attributes := #[] }] 1057 2 #[13] #[{ accessFlags := 26, nameIndex := 15, descriptorIndex := 16, attributes := #[] }])
  fields := #[{ name := "serialVersionUID", type := .long, accessFlags := 26, slot := 0, constantValue := 0 }]
  methods := #[k4m0]
  instanceTypes := #[]
  staticTypes := #[.long]
  resolved := Array.replicate 37 none
  statics := none }

def pool5 : Array CpInfo := pool [(1, .class_ 2), (0, u "java/lang/Comparable"), (0, .class_ 4), (0, u "java/lang/Object")] 7

/-- java/lang/Comparable -/
def k5 : Class := { plain "java/lang/Comparable" (some 0) with
  accessFlags := 1537
  interfaces := #[]
  cf := some (fileOf pool5 1 #[] #[] 1537 3 #[] #[])
  fields := #[]
  methods := #[]
  instanceTypes := #[]
  staticTypes := #[]
  resolved := Array.replicate 12 none
  statics := none }

def pool6 : Array CpInfo := pool [(1, .class_ 2), (0, u "java/lang/constant/Constable"), (0, .class_ 4), (0, u "java/lang/Object")] 6

/-- java/lang/constant/Constable -/
def k6 : Class := { plain "java/lang/constant/Constable" (some 0) with
  accessFlags := 1537
  interfaces := #[]
  cf := some (fileOf pool6 1 #[] #[] 1537 3 #[] #[])
  fields := #[]
  methods := #[]
  instanceTypes := #[]
  staticTypes := #[]
  resolved := Array.replicate 11 none
  statics := none }

def pool7 : Array CpInfo := pool [(1, .class_ 2), (0, u "java/lang/constant/ConstantDesc"), (0, .class_ 4), (0, u "java/lang/Object")] 32

/-- java/lang/constant/ConstantDesc -/
def k7 : Class := { plain "java/lang/constant/ConstantDesc" (some 0) with
  accessFlags := 1537
  interfaces := #[]
  cf := some (fileOf pool7 1 #[] #[] 1537 3 #[] #[])
  fields := #[]
  methods := #[]
  instanceTypes := #[]
  staticTypes := #[]
  resolved := Array.replicate 37 none
  statics := none }

def pool8 : Array CpInfo := pool [(1, .class_ 2), (0, u "java/lang/Long"), (98, u "(J)I"), (133, .class_ 237), (1, u "java/lang/Long$LongCache"), (33, .class_ 272), (0, u "java/lang/Number"), (2, u "value"), (0, u "J"), (2, u "hashCode"), (81, u "TYPE"), (0, u "Ljava/lang/Class;"), (0, .class_ 364), (0, u "java/lang/Comparable"), (0, .class_ 366), (0, u "java/lang/constant/Constable"), (0, .class_ 368), (0, u "java/lang/constant/ConstantDesc"), (0, u "MIN_VALUE"), (1, u "MAX_VALUE"), (4, u "SIZE"), (0, u "I"), (1, u "BYTES"), (1, u "serialVersionUID")] 142

def k8c0 : Code := { maxStack := 5, maxLocals := 2, code := jdk_35_method_36_code, exceptionTable := #[], attributes := #[] }
def k8m0 : Method := { name := "hashCode", desc := "(J)I", sig := { parameters := [.long], returnType := some .int }, accessFlags := 9, code := some k8c0 }
/-- java/lang/Long -/
def k8 : Class := { plain "java/lang/Long" (some 4) with
  accessFlags := 49
  interfaces := #[5, 6, 7]
  cf := some (fileOf pool8 1 #[.nestMembers #[235]] #[{ accessFlags := 9, nameIndex := 279, descriptorIndex := 101, attributes := #[] }] 49 271 #[363, 365, 367] #[{ accessFlags := 25, nameIndex := 369, descriptorIndex := 276, attributes := #[] }, { accessFlags := 25, nameIndex := 371, descriptorIndex := 276, attributes := #[] }, { accessFlags := 25, nameIndex := 361, descriptorIndex := 362, attributes := #[] }, { accessFlags := 18, nameIndex := 275, descriptorIndex := 276, attributes := #[] }, { accessFlags := 25, nameIndex := 376, descriptorIndex := 377, attributes := #[] }, { accessFlags := 25, nameIndex := 379, descriptorIndex := 377, attributes := #[] }, { accessFlags := 26, nameIndex := 381, descriptorIndex := 276, attributes := #[] }])
  fields := #[{ name := "MIN_VALUE", type := .long, accessFlags := 25, slot := 0, constantValue := 0 }, { name := "MAX_VALUE", type := .long, accessFlags := 25, slot := 1, constantValue := 0 }, { name := "TYPE", type := (.object "java/lang/Class"), accessFlags := 25, slot := 2, constantValue := 0 }, { name := "value", type := .long, accessFlags := 18, slot := 0, constantValue := 0 }, { name := "SIZE", type := .int, accessFlags := 25, slot := 3, constantValue := 0 }, { name := "BYTES", type := .int, accessFlags := 25, slot := 4, constantValue := 0 }, { name := "serialVersionUID", type := .long, accessFlags := 26, slot := 5, constantValue := 0 }]
  methods := #[k8m0]
  instanceTypes := #[.long]
  staticTypes := #[.long, .long, (.object "java/lang/Class"), .int, .int, .long]
  resolved := Array.replicate 524 none
  statics := none }

def pool9 : Array CpInfo := pool [(1, u "java/lang/Cloneable"), (0, .class_ 1), (0, u "java/lang/Object"), (0, .class_ 3)] 3

/-- java/lang/Cloneable -/
def k9 : Class := { plain "java/lang/Cloneable" (some 0) with
  accessFlags := 1537
  interfaces := #[]
  cf := some (fileOf pool9 2 #[] #[] 1537 4 #[] #[])
  fields := #[]
  methods := #[]
  instanceTypes := #[]
  staticTypes := #[]
  resolved := Array.replicate 8 none
  statics := none }

/-- the primitive byte -/
def k10 : Class := { plain "byte" none with kind := .primitive 'B', accessFlags := 0x411 }
/-- [B -/
def k11 : Class := { plain "[B" (some 0) with kind := .array 10 .byte, interfaces := #[9, 3], accessFlags := 1041 }

/-- the primitive int -/
def k12 : Class := { plain "int" none with kind := .primitive 'I', accessFlags := 0x411 }
/-- [I -/
def k13 : Class := { plain "[I" (some 0) with kind := .array 12 .int, interfaces := #[9, 3], accessFlags := 1041 }

def heap : Heap := #[]
def classes : Array Class := #[k0, k1, k2, k3, k4, k5, k6, k7, k8, k9, k10, k11, k12, k13]
def interned : List (Array UInt16 × Addr) := []
def slotsUsed : Nat := 0
def theMethod : MethodId := ⟨1, 1⟩
def args0 : Array Value := #[.long 5, .long 6, .long 5, .long 9, .int 3]
def aboutOver (below : List Frame) : State where
  vm := { classes := classes, interned := interned.toArray }
  heap := heap
  slotsUsed := slotsUsed
  threads := #[{ frames := .invoking theMethod args0 :: below }]
def below0 : List Frame := [.native { method := ⟨0, 0⟩, args := #[] }]
def about1 : State := aboutOver below0
def p0 : Program := .bare "" "" ""
def e0 : Env := launch0.env 0 0 0
theorem w_frames : about1.frames = Frame.invoking theMethod args0 :: below0 := rfl
set_option maxRecDepth 65536 in
theorem w_args : argsFit about1.vm theMethod args0 = true := by decide +kernel
set_option maxRecDepth 65536 in
theorem w_heap : heapFits about1 = true := by decide +kernel
set_option maxRecDepth 65536 in
theorem w_runnable : about1.curStatus? = some .runnable := by decide +kernel
set_option maxRecDepth 65536 in
theorem w_alone : about1.alone = true := by decide +kernel
set_option maxRecDepth 65536 in
theorem w_named : about1.methodNamed? x = some theMethod := by decide +kernel
set_option maxRecDepth 65536 in
theorem w_hears : about1.hears theMethod below0 = true := by decide +kernel
set_option maxRecDepth 65536 in
theorem w_ripe : about1.ripe theMethod args0 below0 = true := by decide +kernel
theorem w_running : about1.status = .running := rfl
set_option maxRecDepth 65536 in
theorem w_room : about1.hasRoom e0.platform room_1 = true :=
  launch0.hasRoom_least _ room_1 (by decide +kernel) (by decide +kernel) (by decide +kernel) (by decide +kernel) (by decide +kernel) (by decide +kernel)
theorem allAtoms_all (ts : List Jvm.Cond) (a : Array Jvm.Value) (st : Jvm.State) : (allAtoms ts).before a st = ts.all (fun c => c.before a st) := by
  induction ts with
  | nil => rfl
  | cons c t ih =>
    show (Jvm.Cond.and c (allAtoms t)).before a st = _
    rw [Jvm.Cond.before_and, ih, List.all_cons]
def words1 : List Jvm.Cond := Jvm.Cond.code x code maxLocals ret :: tables_1
/-- a 'code' word, met by the world's own term for the bytes: nothing is compared byte by byte -/
theorem code_word {y : MethodName} {bytes : ByteArray} {mx : Nat} {rt : Option FieldType} {a : Array Value} {s : State} {m : MethodId} {meth : Method} {c : Code} (h1 : s.methodNamed? y = some m) (h2 : s.vm.method? m = some meth) (h3 : meth.code = some c) (h4 : c.code = bytes)
    (h5 : (c.maxLocals == mx && c.exceptionTable.isEmpty && decide (c.maxStack ≤ mostOperands) && decide (meth.sig.returnType = rt) && !meth.locks && decide (parseMethodDescriptor y.desc = some meth.sig)) = true) : (Jvm.Cond.code y bytes mx rt).before a s = true := by
  simp only [Bool.and_eq_true, beq_iff_eq, Bool.not_eq_true', decide_eq_true_eq] at h5
  obtain ⟨⟨⟨⟨⟨g1, g2⟩, g3⟩, g4⟩, g5⟩, g6⟩ := h5
  simp [Cond.before, Cond.holds, Cond.value, h1, h2, h3, h4, g1, g2, g3, g4, g5, g6]
def isCode : Jvm.Cond → Bool
  | .code _ _ _ _ => true
  | _ => false
theorem all_split {L : List Jvm.Cond} {P : Jvm.Cond → Bool} (h1 : L.all (fun c => isCode c || P c) = true) (h2 : ∀ c ∈ L.filter isCode, P c = true) : L.all P = true := by
  refine List.all_eq_true.mpr fun c hc => ?_
  have h := List.all_eq_true.mp h1 c hc
  rcases Bool.eq_false_or_eq_true (isCode c) with hi | hi
  · exact h2 c (List.mem_filter.mpr ⟨hc, hi⟩)
  · simpa [hi] using h
set_option maxRecDepth 65536 in
theorem w_c0 : (Jvm.Cond.code x code maxLocals ret).before args0 about1 = true := code_word (m := ⟨1, 1⟩) (meth := k1m1) (c := k1c1) (by decide +kernel) rfl rfl rfl (by decide +kernel)
set_option maxRecDepth 65536 in
theorem w_c1 : (Jvm.Cond.code ({ cls := "com/example/cheapside/cheapside/core/StoredValue", name := "<init>", desc := "(JJ)V" } : Jvm.MethodName) prog_20_method_1_code (5 : Nat) (Option.none : Option Jvm.ClassFile.FieldType)).before args0 about1 = true := code_word (m := ⟨2, 0⟩) (meth := k2m0) (c := k2c0) (by decide +kernel) rfl rfl rfl (by decide +kernel)
set_option maxRecDepth 65536 in
theorem w_c2 : (Jvm.Cond.code ({ cls := "java/lang/Object", name := "<init>", desc := "()V" } : Jvm.MethodName) object_method_1_code (1 : Nat) (Option.none : Option Jvm.ClassFile.FieldType)).before args0 about1 = true := code_word (m := ⟨0, 0⟩) (meth := k0m0) (c := k0c0) (by decide +kernel) rfl rfl rfl (by decide +kernel)
set_option maxRecDepth 65536 in
theorem w_c3 : (Jvm.Cond.code ({ cls := "com/example/cheapside/cheapside/core/StoredValue", name := "hashCode", desc := "()I" } : Jvm.MethodName) prog_20_method_5_code (1 : Nat) (Option.some Jvm.ClassFile.FieldType.int)).before args0 about1 = true := code_word (m := ⟨2, 1⟩) (meth := k2m1) (c := k2c1) (by decide +kernel) rfl rfl rfl (by decide +kernel)
set_option maxRecDepth 65536 in
theorem w_c4 : (Jvm.Cond.code ({ cls := "java/lang/Long", name := "hashCode", desc := "(J)I" } : Jvm.MethodName) jdk_35_method_36_code (2 : Nat) (Option.some Jvm.ClassFile.FieldType.int)).before args0 about1 = true := code_word (m := ⟨8, 0⟩) (meth := k8m0) (c := k8c0) (by decide +kernel) rfl rfl rfl (by decide +kernel)
def codes1 : List Jvm.Cond := [Jvm.Cond.code x code maxLocals ret, Jvm.Cond.code ({ cls := "com/example/cheapside/cheapside/core/StoredValue", name := "<init>", desc := "(JJ)V" } : Jvm.MethodName) prog_20_method_1_code (5 : Nat) (Option.none : Option Jvm.ClassFile.FieldType), Jvm.Cond.code ({ cls := "java/lang/Object", name := "<init>", desc := "()V" } : Jvm.MethodName) object_method_1_code (1 : Nat) (Option.none : Option Jvm.ClassFile.FieldType), Jvm.Cond.code ({ cls := "com/example/cheapside/cheapside/core/StoredValue", name := "hashCode", desc := "()I" } : Jvm.MethodName) prog_20_method_5_code (1 : Nat) (Option.some Jvm.ClassFile.FieldType.int), Jvm.Cond.code ({ cls := "java/lang/Long", name := "hashCode", desc := "(J)I" } : Jvm.MethodName) jdk_35_method_36_code (2 : Nat) (Option.some Jvm.ClassFile.FieldType.int)]
set_option maxRecDepth 65536 in
theorem codes_eq : words1.filter isCode = codes1 := rfl
theorem w_codes : ∀ c ∈ words1.filter isCode, c.before args0 about1 = true := by
  rw [codes_eq]
  intro c hc
  simp only [codes1, List.mem_cons, List.not_mem_nil, or_false] at hc
  rcases hc with rfl | rfl | rfl | rfl | rfl
  · exact w_c0
  · exact w_c1
  · exact w_c2
  · exact w_c3
  · exact w_c4
set_option maxRecDepth 65536 in
theorem w_t1 : words1.all (fun c => isCode c || c.before args0 about1) = true := by decide +kernel
theorem w_tables : (allAtoms (Jvm.Cond.code x code maxLocals ret :: tables_1)).before args0 about1 = true := by
  rw [allAtoms_all]
  show words1.all (fun c => c.before args0 about1) = true
  refine all_split ?_ w_codes
  rw [w_t1]
set_option maxRecDepth 65536 in
theorem w_case : (Jvm.Cond.and given_1 narrow_1).before args0 about1 = true := by decide +kernel
theorem w_applies : (headSpec (Jvm.Cond.code x code maxLocals ret :: tables_1) room_1).applies x e0.platform about1 = true :=
  (Spec.applies_iff w_frames).mpr ⟨w_running, w_runnable, w_alone, w_named, w_hears, w_ripe, w_room, w_tables⟩
theorem atStart : AtStart classFile x code maxLocals ret World_1 tables_1 room_1 Calls_1 rest_1 Pre_1 launch0 p0 e0 about1 theMethod args0 below0 :=
  ⟨lists_1, trivial, launch0.admits_env _ _ _, launch0.least_env, fairChoices_fair.cas, fairChoices_fair.clock, w_frames, w_args, w_heap, w_applies, trivial, trivial, w_case⟩
end start1
theorem witness_1 : WitnessClaimed_1 := ⟨start1.p0, start1.e0, start1.about1, start1.theMethod, start1.args0, start1.below0, start1.atStart⟩
end Jvm.Pilot.@@N@@

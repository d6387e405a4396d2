import JvmDerived
import JvmDerived.Pilot.@@N@@Statement
import JvmDerived.Pilot.@@N@@Code
set_option linter.unusedVariables false
set_option linter.unusedSimpArgs false
namespace Jvm.Pilot.@@N@@
open Jvm Jvm.ClassFile Sem Op Lib Jvm.Free Jvm.Stand Jvm.LawKit Jvm.RoadKit Bundle Jvm.Pilot.@@N@@.Jvm.D
abbrev Gets (p : Program) (e : Env) (below : List Frame) (S0 S : State) : Prop := ∀ t, Steps p.tables e below S t → Steps p.tables e below S0 t
section Own
variable {p : Program} {e : Env} {below : List Frame} {S0 T : State} {m : MethodId} {c : Code} {pc q : Nat} {Ls : Array Slot} {st : List Value}
theorem own_isub {x y v : Int32} (G : Gets p e below S0 (T.setTop (mkF m pc Ls (.int y :: .int x :: st)))) (h : At T m c below) (hx : p.tables.exec = Jvm.exec) (hd : decode c.code pc = .ok (.isub, 1)) (hv : x - y = v) (hq : pc + 1 = q) : Gets p e below S0 (T.setTop (mkF m q Ls (.int v :: st))) := by
  subst hv hq; exact fun t k => G t (XS.isub h hx rfl hd rfl k)
theorem own_iand {x y v : Int32} (G : Gets p e below S0 (T.setTop (mkF m pc Ls (.int y :: .int x :: st)))) (h : At T m c below) (hx : p.tables.exec = Jvm.exec) (hd : decode c.code pc = .ok (.iand, 1)) (hv : x &&& y = v) (hq : pc + 1 = q) : Gets p e below S0 (T.setTop (mkF m q Ls (.int v :: st))) := by
  subst hv hq; exact fun t k => G t (XS.iand h hx rfl hd rfl k)
theorem own_iushr {x y v : Int32} (G : Gets p e below S0 (T.setTop (mkF m pc Ls (.int y :: .int x :: st)))) (h : At T m c below) (hx : p.tables.exec = Jvm.exec) (hd : decode c.code pc = .ok (.iushr, 1)) (hv : ((x.toUInt32 >>> (y &&& 31).toUInt32).toInt32) = v) (hq : pc + 1 = q) : Gets p e below S0 (T.setTop (mkF m q Ls (.int v :: st))) := by
  subst hv hq; exact fun t k => G t (XS.iushr h hx rfl hd rfl k)
theorem own_i2b {x : Int32} {v : Int32} (G : Gets p e below S0 (T.setTop (mkF m pc Ls (.int x :: st)))) (h : At T m c below) (hx : p.tables.exec = Jvm.exec) (hd : decode c.code pc = .ok (.i2b, 1)) (hv : (x.toInt8.toInt32) = v) (hq : pc + 1 = q) : Gets p e below S0 (T.setTop (mkF m q Ls (.int v :: st))) := by
  subst hv hq; exact fun t k => G t (XS.i2b h hx rfl hd rfl k)
theorem own_i2c {x : Int32} {v : Int32} (G : Gets p e below S0 (T.setTop (mkF m pc Ls (.int x :: st)))) (h : At T m c below) (hx : p.tables.exec = Jvm.exec) (hd : decode c.code pc = .ok (.i2c, 1)) (hv : (x.toUInt32.toUInt16.toUInt32.toInt32) = v) (hq : pc + 1 = q) : Gets p e below S0 (T.setTop (mkF m q Ls (.int v :: st))) := by
  subst hv hq; exact fun t k => G t (XS.i2c h hx rfl hd rfl k)
theorem own_iconst {i : Int} {v : Int32} (G : Gets p e below S0 (T.setTop (mkF m pc Ls st))) (h : At T m c below) (hx : p.tables.exec = Jvm.exec) (hd : decode c.code pc = .ok (.iconst i, 1)) (hv : Int32.ofInt i = v) (hq : pc + 1 = q) : Gets p e below S0 (T.setTop (mkF m q Ls (.int v :: st))) := by
  subst hv hq; exact fun t k => G t (XS.iconst h hx rfl hd k)
theorem own_bipush {i : Int} {v : Int32} (G : Gets p e below S0 (T.setTop (mkF m pc Ls st))) (h : At T m c below) (hx : p.tables.exec = Jvm.exec) (hd : decode c.code pc = .ok (.bipush i, 2)) (hv : (Int8.ofInt i).toInt32 = v) (hq : pc + 2 = q) : Gets p e below S0 (T.setTop (mkF m q Ls (.int v :: st))) := by
  subst hv hq; exact fun t k => G t (XS.bipush h hx rfl hd k)
theorem own_sipush {i : Int} {v : Int32} (G : Gets p e below S0 (T.setTop (mkF m pc Ls st))) (h : At T m c below) (hx : p.tables.exec = Jvm.exec) (hd : decode c.code pc = .ok (.sipush i, 3)) (hv : (Int16.ofInt i).toInt32 = v) (hq : pc + 3 = q) : Gets p e below S0 (T.setTop (mkF m q Ls (.int v :: st))) := by
  subst hv hq; exact fun t k => G t (XS.sipush h hx rfl hd k)
theorem own_aconst_null  (G : Gets p e below S0 (T.setTop (mkF m pc Ls st))) (h : At T m c below) (hx : p.tables.exec = Jvm.exec) (hd : decode c.code pc = .ok (.aconst_null, 1))  (hq : pc + 1 = q) : Gets p e below S0 (T.setTop (mkF m q Ls (.null :: st))) := by
  subst hq; exact fun t k => G t (XS.aconstNull h hx rfl hd k)
theorem own_iload {i : Nat} {v : Int32} (G : Gets p e below S0 (T.setTop (mkF m pc Ls st))) (h : At T m c below) (hx : p.tables.exec = Jvm.exec) (hd : decode c.code pc = .ok (.iload i, 2)) (hl : Ls[i]? = some (.val (.int v))) (hq : pc + 2 = q) : Gets p e below S0 (T.setTop (mkF m q Ls (.int v :: st))) := by
  subst hq; exact fun t k => G t (XS.iload h hx rfl hd hl k)
theorem own_iloadN {i : Fin 4} {v : Int32} (G : Gets p e below S0 (T.setTop (mkF m pc Ls st))) (h : At T m c below) (hx : p.tables.exec = Jvm.exec) (hd : decode c.code pc = .ok (.iload_n i, 1)) (hl : Ls[i.val]? = some (.val (.int v))) (hq : pc + 1 = q) : Gets p e below S0 (T.setTop (mkF m q Ls (.int v :: st))) := by
  subst hq; exact fun t k => G t (XS.iloadN h hx rfl hd hl k)
theorem own_aload {i : Nat} {v : Value} (G : Gets p e below S0 (T.setTop (mkF m pc Ls st))) (h : At T m c below) (hx : p.tables.exec = Jvm.exec) (hd : decode c.code pc = .ok (.aload i, 2)) (hl : Ls[i]? = some (.val v)) (hv : v.isRef = true) (hq : pc + 2 = q) : Gets p e below S0 (T.setTop (mkF m q Ls (v :: st))) := by
  subst hq; exact fun t k => G t (XS.aload h hx rfl hd hl hv k)
theorem own_aloadN {i : Fin 4} {v : Value} (G : Gets p e below S0 (T.setTop (mkF m pc Ls st))) (h : At T m c below) (hx : p.tables.exec = Jvm.exec) (hd : decode c.code pc = .ok (.aload_n i, 1)) (hl : Ls[i.val]? = some (.val v)) (hv : v.isRef = true) (hq : pc + 1 = q) : Gets p e below S0 (T.setTop (mkF m q Ls (v :: st))) := by
  subst hq; exact fun t k => G t (XS.aloadN h hx rfl hd hl hv k)
theorem own_istore {i : Nat} {v : Int32} {l' : Array Slot} (G : Gets p e below S0 (T.setTop (mkF m pc Ls (.int v :: st)))) (h : At T m c below) (hx : p.tables.exec = Jvm.exec) (hd : decode c.code pc = .ok (.istore i, 2)) (hl : storeLocals Ls i (.int v) = some l') (hq : pc + 2 = q) : Gets p e below S0 (T.setTop (mkF m q l' st)) := by
  subst hq; exact fun t k => G t (XS.istore h hx rfl hd rfl hl k)
theorem own_istoreN {i : Fin 4} {v : Int32} {l' : Array Slot} (G : Gets p e below S0 (T.setTop (mkF m pc Ls (.int v :: st)))) (h : At T m c below) (hx : p.tables.exec = Jvm.exec) (hd : decode c.code pc = .ok (.istore_n i, 1)) (hl : storeLocals Ls i.val (.int v) = some l') (hq : pc + 1 = q) : Gets p e below S0 (T.setTop (mkF m q l' st)) := by
  subst hq; exact fun t k => G t (XS.istoreN h hx rfl hd rfl hl k)
theorem own_astore {i : Nat} {v : Value} {l' : Array Slot} (G : Gets p e below S0 (T.setTop (mkF m pc Ls (v :: st)))) (h : At T m c below) (hx : p.tables.exec = Jvm.exec) (hd : decode c.code pc = .ok (.astore i, 2)) (hv : v.isRef = true) (hl : storeLocals Ls i v = some l') (hq : pc + 2 = q) : Gets p e below S0 (T.setTop (mkF m q l' st)) := by
  subst hq; exact fun t k => G t (XS.astore h hx rfl hd rfl hv hl k)
theorem own_astoreN {i : Fin 4} {v : Value} {l' : Array Slot} (G : Gets p e below S0 (T.setTop (mkF m pc Ls (v :: st)))) (h : At T m c below) (hx : p.tables.exec = Jvm.exec) (hd : decode c.code pc = .ok (.astore_n i, 1)) (hv : v.isRef = true) (hl : storeLocals Ls i.val v = some l') (hq : pc + 1 = q) : Gets p e below S0 (T.setTop (mkF m q l' st)) := by
  subst hq; exact fun t k => G t (XS.astoreN h hx rfl hd rfl hv hl k)
theorem own_iinc {i : Nat} {d : Int} {x w v : Int32} {l' : Array Slot} (G : Gets p e below S0 (T.setTop (mkF m pc Ls st))) (h : At T m c below) (hx : p.tables.exec = Jvm.exec) (hd : decode c.code pc = .ok (.iinc i d, 3)) (hw : Int32.ofInt d = w) (hl : Ls[i]? = some (.val (.int x))) (hv : x + w = v) (hl' : storeLocals Ls i (.int v) = some l') (hq : pc + 3 = q) : Gets p e below S0 (T.setTop (mkF m q l' st)) := by
  subst hw hv hq; exact fun t k => G t (XS.iinc h hx rfl hd hl hl' k)
theorem own_dup {x : Value} (G : Gets p e below S0 (T.setTop (mkF m pc Ls (x :: st)))) (h : At T m c below) (hx : p.tables.exec = Jvm.exec) (hd : decode c.code pc = .ok (.dup, 1)) (hc : x.category = 1) (hq : pc + 1 = q) : Gets p e below S0 (T.setTop (mkF m q Ls (x :: x :: st))) := by
  subst hq; exact fun t k => G t (XS.dup h hx rfl hd rfl hc k)
theorem own_goto {o : Int} (G : Gets p e below S0 (T.setTop (mkF m pc Ls st))) (h : At T m c below) (hx : p.tables.exec = Jvm.exec) (hd : decode c.code pc = .ok (.goto o, 3))  (ho : 0 ≤ (pc : Int) + o) (hp : ((pc : Int) + o).toNat = q) : Gets p e below S0 (T.setTop (mkF m q Ls st)) := by
  exact fun t k => G t (XS.goto h hx rfl rfl hd ho hp k)
theorem own_ifYes {cd : ClassFile.Cond} {o : Int} {x : Int32} (G : Gets p e below S0 (T.setTop (mkF m pc Ls (.int x :: st)))) (h : At T m c below) (hx : p.tables.exec = Jvm.exec) (hd : decode c.code pc = .ok (.ifCond cd o, 3)) (hc : ifCond.holds cd x = true) (ho : 0 ≤ (pc : Int) + o) (hp : ((pc : Int) + o).toNat = q) : Gets p e below S0 (T.setTop (mkF m q Ls st)) := by
  exact fun t k => G t (XS.ifYes h hx rfl rfl hd rfl hc ho hp k)
theorem own_ifNo {cd : ClassFile.Cond} {o : Int} {x : Int32} (G : Gets p e below S0 (T.setTop (mkF m pc Ls (.int x :: st)))) (h : At T m c below) (hx : p.tables.exec = Jvm.exec) (hd : decode c.code pc = .ok (.ifCond cd o, 3)) (hc : ifCond.holds cd x = false) (hq : pc + 3 = q) : Gets p e below S0 (T.setTop (mkF m q Ls st)) := by
  subst hq; exact fun t k => G t (XS.ifNo h hx rfl hd rfl hc k)
theorem own_icmpYes {cd : ClassFile.Cond} {o : Int} {x y : Int32} (G : Gets p e below S0 (T.setTop (mkF m pc Ls (.int y :: .int x :: st)))) (h : At T m c below) (hx : p.tables.exec = Jvm.exec) (hd : decode c.code pc = .ok (.if_icmp cd o, 3)) (hc : if_icmp.holds cd x y = true) (ho : 0 ≤ (pc : Int) + o) (hp : ((pc : Int) + o).toNat = q) : Gets p e below S0 (T.setTop (mkF m q Ls st)) := by
  exact fun t k => G t (XS.icmpYes h hx rfl rfl hd rfl hc ho hp k)
theorem own_icmpNo {cd : ClassFile.Cond} {o : Int} {x y : Int32} (G : Gets p e below S0 (T.setTop (mkF m pc Ls (.int y :: .int x :: st)))) (h : At T m c below) (hx : p.tables.exec = Jvm.exec) (hd : decode c.code pc = .ok (.if_icmp cd o, 3)) (hc : if_icmp.holds cd x y = false) (hq : pc + 3 = q) : Gets p e below S0 (T.setTop (mkF m q Ls st)) := by
  subst hq; exact fun t k => G t (XS.icmpNo h hx rfl hd rfl hc k)
end Own
theorem own_ch {x i : Int32} (h : (x &&& 255).toUInt32.toUInt16.toUInt32.toInt32 = i) : ¬ ((255 : Int32) < nar .char i) := by
  rw [Jvm.RoadKit.i2c_mask] at h
  have e : nar .char i = i := by rw [← h]; exact Jvm.RoadKit.i2c_mask x
  have a := c_mask x 255 8 (by decide) (by decide)
  rw [h] at a
  rw [e, Int32.lt_iff_toInt_lt, show (255 : Int32).toInt = 255 from rfl]; omega

def own_ab (x : Int32) : Int32 := if x = (-1) then 1 else 0
theorem own_nab (x : Int32) : own_ab (x &&& 2147483647) = 0 := by
  unfold own_ab; rw [if_neg]; intro h
  have a := c_mask x 2147483647 31 (by decide) (by decide)
  rw [h, show (-1 : Int32).toInt = -1 from rfl] at a; omega
theorem d5_0 : decode jdk_52_method_21_code 0 = .ok (.iconst 0, 1) := by decide +kernel
theorem d5_1 : decode jdk_52_method_21_code 1 = .ok (.istore 5, 2) := by decide +kernel
theorem d5_3 : decode jdk_52_method_21_code 3 = .ok (.iload 5, 2) := by decide +kernel
theorem d5_5 : decode jdk_52_method_21_code 5 = .ok (.iload 4, 2) := by decide +kernel
theorem d5_7 : decode jdk_52_method_21_code 7 = .ok (.if_icmp .ge 37, 3) := by decide +kernel
theorem d5_10 : decode jdk_52_method_21_code 10 = .ok (.aload_n 0, 1) := by decide +kernel
theorem d5_11 : decode jdk_52_method_21_code 11 = .ok (.iload_n 1, 1) := by decide +kernel
theorem d5_12 : decode jdk_52_method_21_code 12 = .ok (.caload, 1) := by decide +kernel
theorem d5_13 : decode jdk_52_method_21_code 13 = .ok (.istore 6, 2) := by decide +kernel
theorem d5_15 : decode jdk_52_method_21_code 15 = .ok (.iload 6, 2) := by decide +kernel
theorem d5_17 : decode jdk_52_method_21_code 17 = .ok (.sipush 255, 3) := by decide +kernel
theorem d5_20 : decode jdk_52_method_21_code 20 = .ok (.if_icmp .le 6, 3) := by decide +kernel
theorem d5_26 : decode jdk_52_method_21_code 26 = .ok (.aload_n 2, 1) := by decide +kernel
theorem d5_27 : decode jdk_52_method_21_code 27 = .ok (.iload_n 3, 1) := by decide +kernel
theorem d5_28 : decode jdk_52_method_21_code 28 = .ok (.iload 6, 2) := by decide +kernel
theorem d5_30 : decode jdk_52_method_21_code 30 = .ok (.i2b, 1) := by decide +kernel
theorem d5_31 : decode jdk_52_method_21_code 31 = .ok (.bastore, 1) := by decide +kernel
theorem d5_32 : decode jdk_52_method_21_code 32 = .ok (.iinc 1 1, 3) := by decide +kernel
theorem d5_35 : decode jdk_52_method_21_code 35 = .ok (.iinc 3 1, 3) := by decide +kernel
theorem d5_38 : decode jdk_52_method_21_code 38 = .ok (.iinc 5 1, 3) := by decide +kernel
theorem d5_41 : decode jdk_52_method_21_code 41 = .ok (.goto (-38), 3) := by decide +kernel
theorem d5_44 : decode jdk_52_method_21_code 44 = .ok (.iload 4, 2) := by decide +kernel
theorem d5_46 : decode jdk_52_method_21_code 46 = .ok (.ireturn, 1) := by decide +kernel
theorem pn_java_lang_StringUTF16 : plainName "java/lang/StringUTF16" = true := by first | (simp [plainName, overriddenIn]; done) | decide +kernel
theorem ef_5n2 (m : MethodId) (x0 : Addr) (x2 : Addr) : entryFrame m #[(.ref x0), (.int (0 : Int32)), (.ref x2), (.int (0 : Int32)), (.int (2 : Int32))] 7 = mkF m 0 #[.val (.ref x0), .val (.int (0 : Int32)), .val (.ref x2), .val (.int (0 : Int32)), .val (.int (2 : Int32)), .unset, .unset] [] := by first | (simp [entryFrame, mkF, argsToLocals, Value.category]; done) | rfl
def Q5n2 (Z : State) (a : Addr) (d : Addr) (ks : ClassId) (kd : ClassId) (ec0 : Int32) (ec1 : Int32) (h0 : Heap) (n0 : Nat) (v : Option Value) (h : Heap) (L : List Loc) : Prop := v = some (.int (2 : Int32)) ∧ Fr n0 L ∧ Keep h0 h [d] ∧ (Arv Z h d kd .byte (2 : Int32) [(.int (nar .byte (ec0.toInt8.toInt32))), (.int (nar .byte (ec1.toInt8.toInt32)))] (.int (0 : Int32)))
set_option maxRecDepth 65536 in
set_option maxHeartbeats 40000000 in
theorem rm5n2 (l : Launch) (Z : State) (a0 : Array Value) (hw : ∀ d ∈ tables_1, d.before a0 Z = true) (ws : List Jvm.Cond) (a : Addr) (d : Addr) (ks : ClassId) (kd : ClassId) (ec0 : Int32) (ec1 : Int32) (h0 : Heap) (n0 : Nat) (Z0 : n0 ≤ h0.size) (P0 : Arv Z h0 a ks .char (2 : Int32) [(.int ec0), (.int ec1)] (.int (0 : Int32))) (P1 : Arv Z h0 d kd .byte (2 : Int32) [(.int (0 : Int32)), (.int (0 : Int32))] (.int (0 : Int32))) (P2 : n0 ≤ d) (P3 : a ≠ d) (he0 : ¬ ((255 : Int32) < ec0)) (he1 : ¬ ((255 : Int32) < ec1)) :
    MetFree l (⟨"java/lang/StringUTF16", "compress", "([CI[BII)I"⟩ : MethodName) (head1 (Jvm.Cond.code (⟨"java/lang/StringUTF16", "compress", "([CI[BII)I"⟩ : MethodName) jdk_52_method_21_code 7 (some .int) :: ws) ({ frames := 0, cells := 0, slots := 0, locals := 0 } : Room)) (fun zz U => zz = #[(.ref a), (.int (0 : Int32)), (.ref d), (.int (0 : Int32)), (.int (2 : Int32))] ∧ Z.Warmed39 U.vm ∧ U.heap = h0) (fun _ _ _ _ _ => True) (fun _ U o U' => ∃ v L, o = .returned v ∧ Q5n2 Z a d ks kd ec0 ec1 h0 n0 v U'.heap L ∧ FrameEnd U o U' L ({ frames := 0, cells := 0, slots := 0, locals := 0 } : Room).cells ({ frames := 0, cells := 0, slots := 0, locals := 0 } : Room).slots) := by
  refine MetFree.of_bodySF (plainFor_of_name pn_java_lang_StringUTF16) hisR ?_
  intro p e s m args below meth c s₁ Bd hml0 hP hK
  obtain ⟨rfl, hZ, hh⟩ := hP
  have hx := Bd.exec
  have hby := Bd.bytes
  have hml : c.maxLocals = 7 := hml0
  have hown : s.vm.findClass "java/lang/StringUTF16" = some m.cls := findClass_of_methodNamed Bd.named
  have hnm := (name_of_methodNamed Bd.named Bd.method).1
  have X0 : Stand p l e ({ frames := 0, cells := 0, slots := 0, locals := 0 } : Room) s m #[(.ref a), (.int (0 : Int32)), (.ref d), (.int (0 : Int32)), (.int (2 : Int32))] below meth c s₁ [] 0 0 := Stand.of_body Bd
  have e0 : s₁.heap = h0 := by rw [← hh, Bd.state]; rfl
  have N0 := Fr.nil n0
  have K0 : Keep h0 h0 [d] := Keep.refl _ _
  have G : Gets p e below (s₁.setTop (entryFrame m #[(.ref a), (.int (0 : Int32)), (.ref d), (.int (0 : Int32)), (.int (2 : Int32))] 7)) (s₁.setTop (mkF m 0 #[.val (.ref a), .val (.int (0 : Int32)), .val (.ref d), .val (.int (0 : Int32)), .val (.int (2 : Int32)), .unset, .unset] [])) := fun t k => castTop (ef_5n2 m a d) k
  replace G := own_iconst (q := 1) G X0.here hx (hb hby d5_0) (v := (0 : Int32)) (by decide) rfl
  replace G := own_istore (q := 3) (l' := #[.val (.ref a), .val (.int (0 : Int32)), .val (.ref d), .val (.int (0 : Int32)), .val (.int (2 : Int32)), .val (.int (0 : Int32)), .unset]) G X0.here hx (hb hby d5_1) rfl rfl
  replace G := own_iload (q := 5) G X0.here hx (hb hby d5_3) rfl rfl
  replace G := own_iload (q := 7) G X0.here hx (hb hby d5_5) rfl rfl
  have hc7_1 : (0 : Int32) < (2 : Int32) := by decide
  replace G := own_icmpNo (q := 10) G X0.here hx (hb hby d5_7) (tlt hc7_1).2.1 rfl
  replace G := own_aloadN (q := 11) G X0.here hx (hb hby d5_10) rfl rfl rfl
  replace G := own_iloadN (q := 12) G X0.here hx (hb hby d5_11) rfl rfl
  obtain ⟨c2, Ar2, -, S2, -, H2, -⟩ := id P0
  have hin2 : ¬ ((0 : Int32) < 0 ∨ c2.slots.size ≤ ((0 : Int32)).toNatClampNeg) := inb_of S2 ⟨by decide, by decide⟩
  replace G : Gets p e below _ (s₁.setTop (mkF m 13 #[.val (.ref a), .val (.int (0 : Int32)), .val (.ref d), .val (.int (0 : Int32)), .val (.int (2 : Int32)), .val (.int (0 : Int32)), .unset] [(.int ec0)])) := fun t k => G t (X0.caload hx (j := (0 : Int32)) (v := (.int ec0)) (by rw [e0]; exact Ar2.1) (State.isArrayOf_alike hZ.alike Ar2.2.1) Ar2.2.2 hin2 (Has.at H2 hin2 rfl) (g := (mkF m 12 #[.val (.ref a), .val (.int (0 : Int32)), .val (.ref d), .val (.int (0 : Int32)), .val (.int (2 : Int32)), .val (.int (0 : Int32)), .unset] [(.int (0 : Int32)), (.ref a)])) rfl rfl (hb hby d5_12) t k)
  replace G := own_istore (q := 15) (l' := #[.val (.ref a), .val (.int (0 : Int32)), .val (.ref d), .val (.int (0 : Int32)), .val (.int (2 : Int32)), .val (.int (0 : Int32)), .val (.int ec0)]) G X0.here hx (hb hby d5_13) rfl rfl
  replace G := own_iload (q := 17) G X0.here hx (hb hby d5_15) rfl rfl
  replace G := own_sipush (q := 20) G X0.here hx (hb hby d5_17) (v := (255 : Int32)) (by decide) rfl
  have hc20_3 : ¬ ((255 : Int32) < ec0) := he0
  replace G := own_icmpYes (q := 26) G X0.here hx (hb hby d5_20) (flt hc20_3).2.2.2 (by decide) (by decide)
  replace G := own_aloadN (q := 27) G X0.here hx (hb hby d5_26) rfl rfl rfl
  replace G := own_iloadN (q := 28) G X0.here hx (hb hby d5_27) rfl rfl
  replace G := own_iload (q := 30) G X0.here hx (hb hby d5_28) rfl rfl
  replace G := own_i2b (q := 31) G X0.here hx (hb hby d5_30) rfl rfl
  obtain ⟨c4, Ar4, q4, S4, N4', H4, G4'⟩ := id P1
  have hin4 : ¬ ((0 : Int32) < 0 ∨ c4.slots.size ≤ ((0 : Int32)).toNatClampNeg) := inb_of S4 ⟨by decide, by decide⟩
  obtain ⟨T4, h4, X4, e4, W4, st4⟩ := stB X0 hx hZ e0 Ar4 (j := (0 : Int32)) hin4 (g := (mkF m 31 #[.val (.ref a), .val (.int (0 : Int32)), .val (.ref d), .val (.int (0 : Int32)), .val (.int (2 : Int32)), .val (.int (0 : Int32)), .val (.int ec0)] [(.int (ec0.toInt8.toInt32)), (.int (0 : Int32)), (.ref d)])) rfl rfl (hb hby d5_31)
  have N4 := Fr.snoc X4 N0 P2
  have Z4 : n0 ≤ h4.size := Nat.le_trans Z0 (Keep.of_wr W4).1
  have K4 : Keep h0 h4 [d] := K0.wr W4 (Or.inl (List.mem_of_getElem? (i := 0) rfl))
  have V4 : Arv Z h4 d kd .byte (2 : Int32) [(.int (nar .byte (ec0.toInt8.toInt32))), (.int (0 : Int32))] (.int (0 : Int32)) := Arv.set Ar4 q4 S4 N4' H4 G4' (fits_nar_byte _) W4 0 rfl (Nat.le_of_ble_eq_true rfl)
  replace G : Gets p e below _ (T4.setTop (mkF m 32 #[.val (.ref a), .val (.int (0 : Int32)), .val (.ref d), .val (.int (0 : Int32)), .val (.int (2 : Int32)), .val (.int (0 : Int32)), .val (.int ec0)] [])) := fun t k => G t (st4 t k)
  replace G := own_iinc (q := 35) (l' := #[.val (.ref a), .val (.int (1 : Int32)), .val (.ref d), .val (.int (0 : Int32)), .val (.int (2 : Int32)), .val (.int (0 : Int32)), .val (.int ec0)]) (w := (1 : Int32)) G X4.here hx (hb hby d5_32) (by decide) rfl (by decide : ((0 : Int32) + (1 : Int32)) = (1 : Int32)) rfl rfl
  replace G := own_iinc (q := 38) (l' := #[.val (.ref a), .val (.int (1 : Int32)), .val (.ref d), .val (.int (1 : Int32)), .val (.int (2 : Int32)), .val (.int (0 : Int32)), .val (.int ec0)]) (w := (1 : Int32)) G X4.here hx (hb hby d5_35) (by decide) rfl (by decide : ((0 : Int32) + (1 : Int32)) = (1 : Int32)) rfl rfl
  replace G := own_iinc (q := 41) (l' := #[.val (.ref a), .val (.int (1 : Int32)), .val (.ref d), .val (.int (1 : Int32)), .val (.int (2 : Int32)), .val (.int (1 : Int32)), .val (.int ec0)]) (w := (1 : Int32)) G X4.here hx (hb hby d5_38) (by decide) rfl (by decide : ((0 : Int32) + (1 : Int32)) = (1 : Int32)) rfl rfl
  replace G := own_goto (q := 3) G X4.here hx (hb hby d5_41) (by decide) (by decide)
  replace G := own_iload (q := 5) G X4.here hx (hb hby d5_3) rfl rfl
  replace G := own_iload (q := 7) G X4.here hx (hb hby d5_5) rfl rfl
  have hc7_5 : (1 : Int32) < (2 : Int32) := by decide
  replace G := own_icmpNo (q := 10) G X4.here hx (hb hby d5_7) (tlt hc7_5).2.1 rfl
  replace G := own_aloadN (q := 11) G X4.here hx (hb hby d5_10) rfl rfl rfl
  replace G := own_iloadN (q := 12) G X4.here hx (hb hby d5_11) rfl rfl
  have F6 : Arv Z h4 a ks .char (2 : Int32) [(.int ec0), (.int ec1)] (.int (0 : Int32)) := (P0.other W4 P3)
  obtain ⟨c7, Ar7, -, S7, -, H7, -⟩ := id F6
  have hin7 : ¬ ((1 : Int32) < 0 ∨ c7.slots.size ≤ ((1 : Int32)).toNatClampNeg) := inb_of S7 ⟨by decide, by decide⟩
  replace G : Gets p e below _ (T4.setTop (mkF m 13 #[.val (.ref a), .val (.int (1 : Int32)), .val (.ref d), .val (.int (1 : Int32)), .val (.int (2 : Int32)), .val (.int (1 : Int32)), .val (.int ec0)] [(.int ec1)])) := fun t k => G t (X4.caload hx (j := (1 : Int32)) (v := (.int ec1)) (by rw [e4]; exact Ar7.1) (State.isArrayOf_alike hZ.alike Ar7.2.1) Ar7.2.2 hin7 (Has.at H7 hin7 rfl) (g := (mkF m 12 #[.val (.ref a), .val (.int (1 : Int32)), .val (.ref d), .val (.int (1 : Int32)), .val (.int (2 : Int32)), .val (.int (1 : Int32)), .val (.int ec0)] [(.int (1 : Int32)), (.ref a)])) rfl rfl (hb hby d5_12) t k)
  replace G := own_istore (q := 15) (l' := #[.val (.ref a), .val (.int (1 : Int32)), .val (.ref d), .val (.int (1 : Int32)), .val (.int (2 : Int32)), .val (.int (1 : Int32)), .val (.int ec1)]) G X4.here hx (hb hby d5_13) rfl rfl
  replace G := own_iload (q := 17) G X4.here hx (hb hby d5_15) rfl rfl
  replace G := own_sipush (q := 20) G X4.here hx (hb hby d5_17) (v := (255 : Int32)) (by decide) rfl
  have hc20_8 : ¬ ((255 : Int32) < ec1) := he1
  replace G := own_icmpYes (q := 26) G X4.here hx (hb hby d5_20) (flt hc20_8).2.2.2 (by decide) (by decide)
  replace G := own_aloadN (q := 27) G X4.here hx (hb hby d5_26) rfl rfl rfl
  replace G := own_iloadN (q := 28) G X4.here hx (hb hby d5_27) rfl rfl
  replace G := own_iload (q := 30) G X4.here hx (hb hby d5_28) rfl rfl
  replace G := own_i2b (q := 31) G X4.here hx (hb hby d5_30) rfl rfl
  obtain ⟨c9, Ar9, q9, S9, N9', H9, G9'⟩ := id V4
  have hin9 : ¬ ((1 : Int32) < 0 ∨ c9.slots.size ≤ ((1 : Int32)).toNatClampNeg) := inb_of S9 ⟨by decide, by decide⟩
  obtain ⟨T9, h9, X9, e9, W9, st9⟩ := stB X4 hx hZ e4 Ar9 (j := (1 : Int32)) hin9 (g := (mkF m 31 #[.val (.ref a), .val (.int (1 : Int32)), .val (.ref d), .val (.int (1 : Int32)), .val (.int (2 : Int32)), .val (.int (1 : Int32)), .val (.int ec1)] [(.int (ec1.toInt8.toInt32)), (.int (1 : Int32)), (.ref d)])) rfl rfl (hb hby d5_31)
  have N9 := Fr.snoc X9 N4 P2
  have Z9 : n0 ≤ h9.size := Nat.le_trans Z4 (Keep.of_wr W9).1
  have K9 : Keep h0 h9 [d] := K4.wr W9 (Or.inl (List.mem_of_getElem? (i := 0) rfl))
  have V9 : Arv Z h9 d kd .byte (2 : Int32) [(.int (nar .byte (ec0.toInt8.toInt32))), (.int (nar .byte (ec1.toInt8.toInt32)))] (.int (0 : Int32)) := Arv.set Ar9 q9 S9 N9' H9 G9' (fits_nar_byte _) W9 1 rfl (Nat.le_of_ble_eq_true rfl)
  replace G : Gets p e below _ (T9.setTop (mkF m 32 #[.val (.ref a), .val (.int (1 : Int32)), .val (.ref d), .val (.int (1 : Int32)), .val (.int (2 : Int32)), .val (.int (1 : Int32)), .val (.int ec1)] [])) := fun t k => G t (st9 t k)
  replace G := own_iinc (q := 35) (l' := #[.val (.ref a), .val (.int (2 : Int32)), .val (.ref d), .val (.int (1 : Int32)), .val (.int (2 : Int32)), .val (.int (1 : Int32)), .val (.int ec1)]) (w := (1 : Int32)) G X9.here hx (hb hby d5_32) (by decide) rfl (by decide : ((1 : Int32) + (1 : Int32)) = (2 : Int32)) rfl rfl
  replace G := own_iinc (q := 38) (l' := #[.val (.ref a), .val (.int (2 : Int32)), .val (.ref d), .val (.int (2 : Int32)), .val (.int (2 : Int32)), .val (.int (1 : Int32)), .val (.int ec1)]) (w := (1 : Int32)) G X9.here hx (hb hby d5_35) (by decide) rfl (by decide : ((1 : Int32) + (1 : Int32)) = (2 : Int32)) rfl rfl
  replace G := own_iinc (q := 41) (l' := #[.val (.ref a), .val (.int (2 : Int32)), .val (.ref d), .val (.int (2 : Int32)), .val (.int (2 : Int32)), .val (.int (2 : Int32)), .val (.int ec1)]) (w := (1 : Int32)) G X9.here hx (hb hby d5_38) (by decide) rfl (by decide : ((1 : Int32) + (1 : Int32)) = (2 : Int32)) rfl rfl
  replace G := own_goto (q := 3) G X9.here hx (hb hby d5_41) (by decide) (by decide)
  replace G := own_iload (q := 5) G X9.here hx (hb hby d5_3) rfl rfl
  replace G := own_iload (q := 7) G X9.here hx (hb hby d5_5) rfl rfl
  have hc7_10 : ¬ ((2 : Int32) < (2 : Int32)) := by decide
  replace G := own_icmpYes (q := 44) G X9.here hx (hb hby d5_7) (flt hc7_10).2.1 (by decide) (by decide)
  replace G := own_iload (q := 46) G X9.here hx (hb hby d5_44) rfl rfl
  obtain ⟨fs, hr, hrun, hended, hW, hsame⟩ := X9.leave (v := some (.int (2 : Int32))) (fun h => by rw [Bd.returns] at h; cases h)
  refine ⟨_, _, G _ (retOut X9 hx Bd.returns rfl (Or.inl ⟨rfl, Or.inl rfl, _, rfl⟩) (hb hby d5_46) hr), hrun, hended, _, _, rfl, ?_, ⟨_, rfl⟩, hW, hsame.mono (by decide) (by decide)⟩
  show Q5n2 Z a d ks kd ec0 ec1 h0 n0 _ T9.heap _
  rw [e9]
  exact ⟨rfl, N9, K9, V9⟩
theorem pd_0 : parseMethodDescriptor "([CI[BII)I" = some ⟨[(.array .char), .int, (.array .byte), .int, .int], some .int⟩ := by decide +kernel
theorem d4_0 : decode jdk_52_method_16_code 0 = .ok (.iload_n 2, 1) := by decide +kernel
theorem d4_1 : decode jdk_52_method_16_code 1 = .ok (.newarray .byte, 2) := by decide +kernel
theorem d4_3 : decode jdk_52_method_16_code 3 = .ok (.astore_n 3, 1) := by decide +kernel
theorem d4_4 : decode jdk_52_method_16_code 4 = .ok (.aload_n 0, 1) := by decide +kernel
theorem d4_5 : decode jdk_52_method_16_code 5 = .ok (.iload_n 1, 1) := by decide +kernel
theorem d4_6 : decode jdk_52_method_16_code 6 = .ok (.aload_n 3, 1) := by decide +kernel
theorem d4_7 : decode jdk_52_method_16_code 7 = .ok (.iconst 0, 1) := by decide +kernel
theorem d4_8 : decode jdk_52_method_16_code 8 = .ok (.iload_n 2, 1) := by decide +kernel
theorem d4_9 : decode jdk_52_method_16_code 9 = .ok (.invokestatic 115, 3) := by decide +kernel
theorem d4_12 : decode jdk_52_method_16_code 12 = .ok (.istore 4, 2) := by decide +kernel
theorem d4_14 : decode jdk_52_method_16_code 14 = .ok (.iload 4, 2) := by decide +kernel
theorem d4_16 : decode jdk_52_method_16_code 16 = .ok (.iload_n 2, 1) := by decide +kernel
theorem d4_17 : decode jdk_52_method_16_code 17 = .ok (.if_icmp .eq 40, 3) := by decide +kernel
theorem d4_57 : decode jdk_52_method_16_code 57 = .ok (.aload_n 3, 1) := by decide +kernel
theorem d4_58 : decode jdk_52_method_16_code 58 = .ok (.areturn, 1) := by decide +kernel
theorem ef_4n2 (m : MethodId) (x0 : Addr) : entryFrame m #[(.ref x0), (.int (0 : Int32)), (.int (2 : Int32))] 6 = mkF m 0 #[.val (.ref x0), .val (.int (0 : Int32)), .val (.int (2 : Int32)), .unset, .unset, .unset] [] := by first | (simp [entryFrame, mkF, argsToLocals, Value.category]; done) | rfl
def Q4n2 (Z : State) (a : Addr) (ks : ClassId) (ec0 : Int32) (ec1 : Int32) (h0 : Heap) (n0 : Nat) (v : Option Value) (h : Heap) (L : List Loc) : Prop := ∃ (b : Addr) (kb : ClassId), v = some (.ref b) ∧ Fr n0 L ∧ Keep h0 h [] ∧ h0.size ≤ b ∧ (Arv Z h b kb .byte (2 : Int32) [(.int (nar .byte (ec0.toInt8.toInt32))), (.int (nar .byte (ec1.toInt8.toInt32)))] (.int (0 : Int32)))
set_option maxRecDepth 65536 in
set_option maxHeartbeats 40000000 in
theorem rm4n2 (l : Launch) (Z : State) (a0 : Array Value) (hw : ∀ d ∈ tables_1, d.before a0 Z = true) (ws : List Jvm.Cond) (a : Addr) (ks : ClassId) (ec0 : Int32) (ec1 : Int32) (h0 : Heap) (n0 : Nat) (Z0 : n0 ≤ h0.size) (P0 : Arv Z h0 a ks .char (2 : Int32) [(.int ec0), (.int ec1)] (.int (0 : Int32))) (he0 : ¬ ((255 : Int32) < ec0)) (he1 : ¬ ((255 : Int32) < ec1)) :
    MetFree l (⟨"java/lang/StringUTF16", "compress", "([CII)[B"⟩ : MethodName) (head1 (Jvm.Cond.code (⟨"java/lang/StringUTF16", "compress", "([CII)[B"⟩ : MethodName) jdk_52_method_16_code 6 (some (.array .byte)) :: ws) ({ frames := 1, cells := 1, slots := 2, locals := 18 } : Room)) (fun zz U => zz = #[(.ref a), (.int (0 : Int32)), (.int (2 : Int32))] ∧ Z.Warmed39 U.vm ∧ U.heap = h0) (fun _ _ _ _ _ => True) (fun _ U o U' => ∃ v L, o = .returned v ∧ Q4n2 Z a ks ec0 ec1 h0 n0 v U'.heap L ∧ FrameEnd U o U' L ({ frames := 1, cells := 1, slots := 2, locals := 18 } : Room).cells ({ frames := 1, cells := 1, slots := 2, locals := 18 } : Room).slots) := by
  refine MetFree.of_bodySF (plainFor_of_name pn_java_lang_StringUTF16) hisR ?_
  intro p e s m args below meth c s₁ Bd hml0 hP hK
  obtain ⟨rfl, hZ, hh⟩ := hP
  have hx := Bd.exec
  have hby := Bd.bytes
  have hml : c.maxLocals = 6 := hml0
  have hown : s.vm.findClass "java/lang/StringUTF16" = some m.cls := findClass_of_methodNamed Bd.named
  have hnm := (name_of_methodNamed Bd.named Bd.method).1
  have X0 : Stand p l e ({ frames := 1, cells := 1, slots := 2, locals := 18 } : Room) s m #[(.ref a), (.int (0 : Int32)), (.int (2 : Int32))] below meth c s₁ [] 0 0 := Stand.of_body Bd
  have e0 : s₁.heap = h0 := by rw [← hh, Bd.state]; rfl
  have N0 := Fr.nil n0
  have K0 : Keep h0 h0 [] := Keep.refl _ _
  have G : Gets p e below (s₁.setTop (entryFrame m #[(.ref a), (.int (0 : Int32)), (.int (2 : Int32))] 6)) (s₁.setTop (mkF m 0 #[.val (.ref a), .val (.int (0 : Int32)), .val (.int (2 : Int32)), .unset, .unset, .unset] [])) := fun t k => castTop (ef_4n2 m a) k
  replace G := own_iloadN (q := 1) G X0.here hx (hb hby d4_0) rfl rfl
  obtain ⟨T1, h1, k1, X1, e1, E1, A1, st1⟩ := newP X0 hx hZ (hw _ (List.mem_of_getElem? (i := 20) rfl)) e0 (g := (mkF m 1 #[.val (.ref a), .val (.int (0 : Int32)), .val (.int (2 : Int32)), .unset, .unset, .unset] [(.int (2 : Int32))])) rfl (hb hby d4_1) rfl (by decide) (cap := 2) (by decide) (by decide) (by decide) (by decide)
  obtain ⟨b1, g1⟩ : ∃ z, z = h0.size := ⟨_, rfl⟩
  rw [← g1] at A1 st1
  have ne2 : a ≠ b1 := Nat.ne_of_lt (Nat.lt_of_lt_of_le P0.lt (Nat.le_of_eq g1.symm))
  have ge_b1 : n0 ≤ b1 := Nat.le_trans Z0 (Nat.le_of_eq g1.symm)
  have sz_b1 : h0.size ≤ b1 := Nat.le_trans K0.1 (Nat.le_of_eq g1.symm)
  have Z1 : n0 ≤ h1.size := Nat.le_trans Z0 E1.1
  have K1 : Keep h0 h1 [] := K0.ext E1
  have V1 : Arv Z h1 b1 k1 .byte (2 : Int32) [(.int (0 : Int32)), (.int (0 : Int32))] (.int (0 : Int32)) := (Arv.new A1 (by decide)).pad (pad_rep [] (.int (0 : Int32)) 2)
  replace G : Gets p e below _ (T1.setTop (mkF m 3 #[.val (.ref a), .val (.int (0 : Int32)), .val (.int (2 : Int32)), .unset, .unset, .unset] [(.ref b1)])) := fun t k => G t (st1 t k)
  replace G := own_astoreN (q := 4) (l' := #[.val (.ref a), .val (.int (0 : Int32)), .val (.int (2 : Int32)), .val (.ref b1), .unset, .unset]) G X1.here hx (hb hby d4_3) rfl rfl rfl
  replace G := own_aloadN (q := 5) G X1.here hx (hb hby d4_4) rfl rfl rfl
  replace G := own_iloadN (q := 6) G X1.here hx (hb hby d4_5) rfl rfl
  replace G := own_aloadN (q := 7) G X1.here hx (hb hby d4_6) rfl rfl rfl
  replace G := own_iconst (q := 8) G X1.here hx (hb hby d4_7) (v := (0 : Int32)) (by decide) rfl
  replace G := own_iloadN (q := 9) G X1.here hx (hb hby d4_8) rfl rfl
  have F4 : Arv Z h1 a ks .char (2 : Int32) [(.int ec0), (.int ec1)] (.int (0 : Int32)) := (P0.ext E1)
  obtain ⟨_, _, ⟨T3, L3, kk3, nn3⟩, -, X3, ⟨Lc3, hQ3, l3, y3, z3⟩, st3⟩ := Jvm.LawKit.callS X1 hx (y := (⟨"java/lang/StringUTF16", "compress", "([CI[BII)I"⟩ : MethodName)) hown (mvT hZ (hw _ (List.mem_of_getElem? (i := 21) rfl))) (mvT hZ (hw _ (List.mem_of_getElem? (i := 22) rfl))) (mvT hZ (hw _ (List.mem_of_getElem? (i := 18) rfl))) (mvT hZ (hw _ (List.mem_of_getElem? (i := 23) rfl))) (by decide) (backOf (W := 0) (rm5n2 l Z a0 hw [] a b1 ks k1 ec0 ec1 h1 n0 Z1 F4 V1 ge_b1 ne2 he0 he1) hZ (hw _ (List.mem_of_getElem? (i := 23) rfl)) (hw _ (List.mem_of_getElem? (i := 18) rfl)) (by decide) (by decide)) (g := (mkF m 9 #[.val (.ref a), .val (.int (0 : Int32)), .val (.int (2 : Int32)), .val (.ref b1), .unset, .unset] [(.int (2 : Int32)), (.int (0 : Int32)), (.ref b1), (.int (0 : Int32)), (.ref a)])) rfl (by rw [hml]; rfl) (argsL := [(.ref a), (.int (0 : Int32)), (.ref b1), (.int (0 : Int32)), (.int (2 : Int32))]) (rest := []) (lenOf pd_0 rfl) rfl (by show 2 * 0 + _ ≤ _; exact Nat.le_of_eq rfl) (hb hby d4_9) (fun _ _ => ⟨rfl, e1, (by decide : 1 + 0 ≤ _), (by decide : 2 + 0 ≤ _)⟩)
  dsimp only [Pt.U, Pt.locs, Pt.cells, Pt.slots] at X3 l3 y3 z3 st3 hQ3
  subst l3 y3 z3
  obtain ⟨rfl, N3q, K3q, B3_0⟩ := hQ3
  have Z3 : n0 ≤ T3.heap.size := Nat.le_trans Z1 K3q.1
  have K3 : Keep h0 T3.heap [] := K1.trans K3q (allS (Or.inr sz_b1) all0)
  have N3 := Fr.app N0 N3q
  replace G : Gets p e below _ (T3.setTop (mkF m 12 #[.val (.ref a), .val (.int (0 : Int32)), .val (.int (2 : Int32)), .val (.ref b1), .unset, .unset] [(.int (2 : Int32))])) := fun t k => G t (st3 t k)
  replace G := own_istore (q := 14) (l' := #[.val (.ref a), .val (.int (0 : Int32)), .val (.int (2 : Int32)), .val (.ref b1), .val (.int (2 : Int32)), .unset]) G X3.here hx (hb hby d4_12) rfl rfl
  replace G := own_iload (q := 16) G X3.here hx (hb hby d4_14) rfl rfl
  replace G := own_iloadN (q := 17) G X3.here hx (hb hby d4_16) rfl rfl
  have hc17_5 : (2 : Int32) = (2 : Int32) := by decide
  replace G := own_icmpYes (q := 57) G X3.here hx (hb hby d4_17) (teq hc17_5).1 (by decide) (by decide)
  replace G := own_aloadN (q := 58) G X3.here hx (hb hby d4_57) rfl rfl rfl
  obtain ⟨fs, hr, hrun, hended, hW, hsame⟩ := X3.leave (v := some (.ref b1)) (fun h => by rw [Bd.returns] at h; cases h)
  refine ⟨_, _, G _ (retOut X3 hx Bd.returns rfl (Or.inr (Or.inr (Or.inr (Or.inr ⟨rfl, rfl, rfl⟩)))) (hb hby d4_58) hr), hrun, hended, _, _, rfl, ?_, ⟨_, rfl⟩, hW, hsame.mono (by decide) (by decide)⟩
  show Q4n2 Z a ks ec0 ec1 h0 n0 _ T3.heap _
  exact ⟨b1, k1, rfl, N3, K3, sz_b1, B3_0⟩
theorem d6_0 : decode jdk_52_method_15_code 0 = .ok (.iload_n 1, 1) := by decide +kernel
theorem d6_1 : decode jdk_52_method_15_code 1 = .ok (.aload_n 0, 1) := by decide +kernel
theorem d6_2 : decode jdk_52_method_15_code 2 = .ok (.arraylength, 1) := by decide +kernel
theorem d6_3 : decode jdk_52_method_15_code 3 = .ok (.isub, 1) := by decide +kernel
theorem d6_4 : decode jdk_52_method_15_code 4 = .ok (.bipush 31, 2) := by decide +kernel
theorem d6_6 : decode jdk_52_method_15_code 6 = .ok (.iushr, 1) := by decide +kernel
theorem d6_7 : decode jdk_52_method_15_code 7 = .ok (.i2b, 1) := by decide +kernel
theorem d6_8 : decode jdk_52_method_15_code 8 = .ok (.ireturn, 1) := by decide +kernel
theorem ef_6n2 (m : MethodId) (x0 : Addr) : entryFrame m #[(.ref x0), (.int (2 : Int32))] 2 = mkF m 0 #[.val (.ref x0), .val (.int (2 : Int32))] [] := by first | (simp [entryFrame, mkF, argsToLocals, Value.category]; done) | rfl
def Q6n2 (Z : State) (d : Addr) (kd : ClassId) (vs : List Value) (h0 : Heap) (n0 : Nat) (v : Option Value) (h : Heap) (L : List Loc) : Prop := v = some (.int (0 : Int32)) ∧ Fr n0 L ∧ h = h0
set_option maxRecDepth 65536 in
set_option maxHeartbeats 40000000 in
theorem rm6n2 (l : Launch) (Z : State) (a0 : Array Value) (hw : ∀ d ∈ tables_1, d.before a0 Z = true) (ws : List Jvm.Cond) (d : Addr) (kd : ClassId) (vs : List Value) (h0 : Heap) (n0 : Nat) (Z0 : n0 ≤ h0.size) (P0 : Arv Z h0 d kd .byte (2 : Int32) vs (.int (0 : Int32))) :
    MetFree l (⟨"java/lang/StringUTF16", "coderFromArrayLen", "([BI)B"⟩ : MethodName) (head1 (Jvm.Cond.code (⟨"java/lang/StringUTF16", "coderFromArrayLen", "([BI)B"⟩ : MethodName) jdk_52_method_15_code 2 (some .byte) :: ws) ({ frames := 0, cells := 0, slots := 0, locals := 0 } : Room)) (fun zz U => zz = #[(.ref d), (.int (2 : Int32))] ∧ Z.Warmed39 U.vm ∧ U.heap = h0) (fun _ _ _ _ _ => True) (fun _ U o U' => ∃ v L, o = .returned v ∧ Q6n2 Z d kd vs h0 n0 v U'.heap L ∧ FrameEnd U o U' L ({ frames := 0, cells := 0, slots := 0, locals := 0 } : Room).cells ({ frames := 0, cells := 0, slots := 0, locals := 0 } : Room).slots) := by
  refine MetFree.of_bodySF (plainFor_of_name pn_java_lang_StringUTF16) hisR ?_
  intro p e s m args below meth c s₁ Bd hml0 hP hK
  obtain ⟨rfl, hZ, hh⟩ := hP
  have hx := Bd.exec
  have hby := Bd.bytes
  have hml : c.maxLocals = 2 := hml0
  have hown : s.vm.findClass "java/lang/StringUTF16" = some m.cls := findClass_of_methodNamed Bd.named
  have hnm := (name_of_methodNamed Bd.named Bd.method).1
  have X0 : Stand p l e ({ frames := 0, cells := 0, slots := 0, locals := 0 } : Room) s m #[(.ref d), (.int (2 : Int32))] below meth c s₁ [] 0 0 := Stand.of_body Bd
  have e0 : s₁.heap = h0 := by rw [← hh, Bd.state]; rfl
  have N0 := Fr.nil n0
  have G : Gets p e below (s₁.setTop (entryFrame m #[(.ref d), (.int (2 : Int32))] 2)) (s₁.setTop (mkF m 0 #[.val (.ref d), .val (.int (2 : Int32))] [])) := fun t k => castTop (ef_6n2 m d) k
  replace G := own_iloadN (q := 1) G X0.here hx (hb hby d6_0) rfl rfl
  replace G := own_aloadN (q := 2) G X0.here hx (hb hby d6_1) rfl rfl rfl
  obtain ⟨c1, Ar1, -, S1, N1', -, -⟩ := id P0
  replace G : Gets p e below _ (s₁.setTop (mkF m 3 #[.val (.ref d), .val (.int (2 : Int32))] [(.int (2 : Int32)), (.int (2 : Int32))])) := fun t k => G t (X0.arraylength hx (by rw [e0]; exact Ar1.1) (State.isArrayOf_alike hZ.alike Ar1.2.1) (g := (mkF m 2 #[.val (.ref d), .val (.int (2 : Int32))] [(.ref d), (.int (2 : Int32))])) rfl rfl (hb hby d6_2) t (by rw [len_of S1 N1']; exact k))
  replace G := own_isub (q := 4) G X0.here hx (hb hby d6_3) (by decide : ((2 : Int32) - (2 : Int32)) = (0 : Int32)) rfl
  replace G := own_bipush (q := 6) G X0.here hx (hb hby d6_4) (v := (31 : Int32)) (by decide) rfl
  replace G := own_iushr (q := 7) G X0.here hx (hb hby d6_6) (by decide : (((0 : Int32).toUInt32 >>> ((31 : Int32) &&& 31).toUInt32).toInt32) = (0 : Int32)) rfl
  replace G := own_i2b (q := 8) G X0.here hx (hb hby d6_7) (by decide : ((0 : Int32).toInt8.toInt32) = (0 : Int32)) rfl
  obtain ⟨fs, hr, hrun, hended, hW, hsame⟩ := X0.leave (v := some (.int (0 : Int32))) (fun h => by rw [Bd.returns] at h; cases h)
  refine ⟨_, _, G _ (retOut X0 hx Bd.returns rfl (Or.inl ⟨rfl, Or.inr (Or.inr (Or.inl rfl)), _, rfl⟩) (hb hby d6_8) hr), hrun, hended, _, _, rfl, ?_, ⟨_, rfl⟩, hW, hsame.mono (by decide) (by decide)⟩
  show Q6n2 Z d kd vs h0 n0 _ s₁.heap _
  rw [e0]
  exact ⟨rfl, N0, rfl⟩
theorem pd_1 : parseMethodDescriptor "([CII)[B" = some ⟨[(.array .char), .int, .int], some (.array .byte)⟩ := by decide +kernel
theorem pd_2 : parseMethodDescriptor "([BI)B" = some ⟨[(.array .byte), .int], some .byte⟩ := by decide +kernel
theorem d2_0 : decode jdk_42_method_149_code 0 = .ok (.aload_n 0, 1) := by decide +kernel
theorem d2_1 : decode jdk_42_method_149_code 1 = .ok (.invokespecial 1, 3) := by decide +kernel
theorem d2_4 : decode jdk_42_method_149_code 4 = .ok (.iload_n 3, 1) := by decide +kernel
theorem d2_5 : decode jdk_42_method_149_code 5 = .ok (.ifCond .ne 22, 3) := by decide +kernel
theorem d2_27 : decode jdk_42_method_149_code 27 = .ok (.getstatic 38, 3) := by decide +kernel
theorem d2_30 : decode jdk_42_method_149_code 30 = .ok (.ifCond .eq 28, 3) := by decide +kernel
theorem d2_33 : decode jdk_42_method_149_code 33 = .ok (.aload_n 1, 1) := by decide +kernel
theorem d2_34 : decode jdk_42_method_149_code 34 = .ok (.iload_n 2, 1) := by decide +kernel
theorem d2_35 : decode jdk_42_method_149_code 35 = .ok (.iload_n 3, 1) := by decide +kernel
theorem d2_36 : decode jdk_42_method_149_code 36 = .ok (.invokestatic 177, 3) := by decide +kernel
theorem d2_39 : decode jdk_42_method_149_code 39 = .ok (.astore 5, 2) := by decide +kernel
theorem d2_41 : decode jdk_42_method_149_code 41 = .ok (.aload_n 0, 1) := by decide +kernel
theorem d2_42 : decode jdk_42_method_149_code 42 = .ok (.aload 5, 2) := by decide +kernel
theorem d2_44 : decode jdk_42_method_149_code 44 = .ok (.iload_n 3, 1) := by decide +kernel
theorem d2_45 : decode jdk_42_method_149_code 45 = .ok (.invokestatic 47, 3) := by decide +kernel
theorem d2_48 : decode jdk_42_method_149_code 48 = .ok (.putfield 15, 3) := by decide +kernel
theorem d2_51 : decode jdk_42_method_149_code 51 = .ok (.aload_n 0, 1) := by decide +kernel
theorem d2_52 : decode jdk_42_method_149_code 52 = .ok (.aload 5, 2) := by decide +kernel
theorem d2_54 : decode jdk_42_method_149_code 54 = .ok (.putfield 9, 3) := by decide +kernel
theorem d2_57 : decode jdk_42_method_149_code 57 = .ok (.return_, 1) := by decide +kernel
theorem pn_java_lang_String : plainName "java/lang/String" = true := by first | (simp [plainName, overriddenIn]; done) | decide +kernel
theorem ef_2n2 (m : MethodId) (x0 : Addr) (x1 : Addr) : entryFrame m #[(.ref x0), (.ref x1), (.int (0 : Int32)), (.int (2 : Int32)), .null] 6 = mkF m 0 #[.val (.ref x0), .val (.ref x1), .val (.int (0 : Int32)), .val (.int (2 : Int32)), .val .null, .unset] [] := by first | (simp [entryFrame, mkF, argsToLocals, Value.category]; done) | rfl
def Q2n2 (Z : State) (tt : Addr) (a : Addr) (ks : ClassId) (cw : Int32) (ec0 : Int32) (ec1 : Int32) (h0 : Heap) (n0 : Nat) (v : Option Value) (h : Heap) (L : List Loc) : Prop := ∃ (b : Addr) (kb : ClassId), v = none ∧ Fr n0 L ∧ Keep h0 h [tt] ∧ (Fld Z h tt "java/lang/String" "value" "[B" (.ref b)) ∧ (Fld Z h tt "java/lang/String" "coder" "B" (.int (0 : Int32))) ∧ h0.size ≤ b ∧ (Arv Z h b kb .byte (2 : Int32) [(.int (nar .byte (ec0.toInt8.toInt32))), (.int (nar .byte (ec1.toInt8.toInt32)))] (.int (0 : Int32)))
set_option maxRecDepth 65536 in
set_option maxHeartbeats 40000000 in
theorem rm2n2 (l : Launch) (Z : State) (a0 : Array Value) (hw : ∀ d ∈ tables_1, d.before a0 Z = true) (ws : List Jvm.Cond) (tt : Addr) (a : Addr) (ks : ClassId) (cw : Int32) (ec0 : Int32) (ec1 : Int32) (h0 : Heap) (n0 : Nat) (Z0 : n0 ≤ h0.size) (P0 : Fld Z h0 tt "java/lang/String" "value" "[B" .null) (P1 : Fld Z h0 tt "java/lang/String" "coder" "B" (.int (0 : Int32))) (P2 : Exa Z h0 tt "java/lang/String") (P3 : n0 ≤ tt) (P4 : Arv Z h0 a ks .char (2 : Int32) [(.int ec0), (.int ec1)] (.int (0 : Int32))) (P5 : Sta Z h0 "java/lang/String" "COMPACT_STRINGS" "Z" (.int cw)) (hcw : ¬ cw = (0 : Int32)) (he0 : ¬ ((255 : Int32) < ec0)) (he1 : ¬ ((255 : Int32) < ec1)) :
    MetFree l (⟨"java/lang/String", "<init>", "([CIILjava/lang/Void;)V"⟩ : MethodName) (head1 (Jvm.Cond.code (⟨"java/lang/String", "<init>", "([CIILjava/lang/Void;)V"⟩ : MethodName) jdk_42_method_149_code 6 none :: ws) ({ frames := 2, cells := 1, slots := 2, locals := 35 } : Room)) (fun zz U => zz = #[(.ref tt), (.ref a), (.int (0 : Int32)), (.int (2 : Int32)), .null] ∧ Z.Warmed39 U.vm ∧ U.heap = h0) (fun _ _ _ _ _ => True) (fun _ U o U' => ∃ v L, o = .returned v ∧ Q2n2 Z tt a ks cw ec0 ec1 h0 n0 v U'.heap L ∧ FrameEnd U o U' L ({ frames := 2, cells := 1, slots := 2, locals := 35 } : Room).cells ({ frames := 2, cells := 1, slots := 2, locals := 35 } : Room).slots) := by
  refine MetFree.of_bodySF (plainFor_of_name pn_java_lang_String) hisR ?_
  intro p e s m args below meth c s₁ Bd hml0 hP hK
  obtain ⟨rfl, hZ, hh⟩ := hP
  have hx := Bd.exec
  have hby := Bd.bytes
  have hml : c.maxLocals = 6 := hml0
  have hown : s.vm.findClass "java/lang/String" = some m.cls := findClass_of_methodNamed Bd.named
  have hnm := (name_of_methodNamed Bd.named Bd.method).1
  have X0 : Stand p l e ({ frames := 2, cells := 1, slots := 2, locals := 35 } : Room) s m #[(.ref tt), (.ref a), (.int (0 : Int32)), (.int (2 : Int32)), .null] below meth c s₁ [] 0 0 := Stand.of_body Bd
  have e0 : s₁.heap = h0 := by rw [← hh, Bd.state]; rfl
  have N0 := Fr.nil n0
  have K0 : Keep h0 h0 [tt] := Keep.refl _ _
  have G : Gets p e below (s₁.setTop (entryFrame m #[(.ref tt), (.ref a), (.int (0 : Int32)), (.int (2 : Int32)), .null] 6)) (s₁.setTop (mkF m 0 #[.val (.ref tt), .val (.ref a), .val (.int (0 : Int32)), .val (.int (2 : Int32)), .val .null, .unset] [])) := fun t k => castTop (ef_2n2 m tt a) k
  replace G := own_aloadN (q := 1) G X0.here hx (hb hby d2_0) rfl rfl rfl
  obtain ⟨T1, X1, e1, st1⟩ := initO X0 hx hZ hown (hw _ (List.mem_of_getElem? (i := 12) rfl)) (hw _ (List.mem_of_getElem? (i := 13) rfl)) (hw _ (List.mem_of_getElem? (i := 14) rfl)) e0 (g := (mkF m 1 #[.val (.ref tt), .val (.ref a), .val (.int (0 : Int32)), .val (.int (2 : Int32)), .val .null, .unset] [(.ref tt)])) rfl (by rw [hml]; rfl) rfl (hb hby d2_1) (by decide) (W := 0) (by show 2 * 0 + _ ≤ _; exact Nat.le_of_eq rfl) (by decide)
  replace G : Gets p e below _ (T1.setTop (mkF m 4 #[.val (.ref tt), .val (.ref a), .val (.int (0 : Int32)), .val (.int (2 : Int32)), .val .null, .unset] [])) := fun t k => G t (st1 t k)
  replace G := own_iloadN (q := 5) G X1.here hx (hb hby d2_4) rfl rfl
  have hc5_2 : ¬ ((2 : Int32) = (0 : Int32)) := by decide
  replace G := own_ifYes (q := 27) G X1.here hx (hb hby d2_5) ((if0 _ _).trans (feq hc5_2).2) (by decide) (by decide)
  obtain ⟨T3, X3, e3, st3⟩ := getS2 X1 hx hZ hown (host := "") (Or.inl (hw _ (List.mem_of_getElem? (i := 15) rfl))) Via.refl e1 P5 (g := (mkF m 27 #[.val (.ref tt), .val (.ref a), .val (.int (0 : Int32)), .val (.int (2 : Int32)), .val .null, .unset] [])) rfl (hb hby d2_27)
  replace G : Gets p e below _ (T3.setTop (mkF m 30 #[.val (.ref tt), .val (.ref a), .val (.int (0 : Int32)), .val (.int (2 : Int32)), .val .null, .unset] [(.int cw)])) := fun t k => G t (st3 t k)
  have hc30_4 : ¬ (cw = (0 : Int32)) := hcw
  replace G := own_ifNo (q := 33) G X3.here hx (hb hby d2_30) ((if0 _ _).trans (feq hc30_4).1) rfl
  replace G := own_aloadN (q := 34) G X3.here hx (hb hby d2_33) rfl rfl rfl
  replace G := own_iloadN (q := 35) G X3.here hx (hb hby d2_34) rfl rfl
  replace G := own_iloadN (q := 36) G X3.here hx (hb hby d2_35) rfl rfl
  obtain ⟨_, _, ⟨T5, L5, kk5, nn5⟩, -, X5, ⟨Lc5, hQ5, l5, y5, z5⟩, st5⟩ := Jvm.LawKit.callS X3 hx (y := (⟨"java/lang/StringUTF16", "compress", "([CII)[B"⟩ : MethodName)) hown (mvT hZ (hw _ (List.mem_of_getElem? (i := 16) rfl))) (mvT hZ (hw _ (List.mem_of_getElem? (i := 17) rfl))) (mvT hZ (hw _ (List.mem_of_getElem? (i := 18) rfl))) (mvT hZ (hw _ (List.mem_of_getElem? (i := 19) rfl))) (by decide) (backOf (W := 0) (rm4n2 l Z a0 hw [] a ks ec0 ec1 h0 n0 Z0 P4 he0 he1) hZ (hw _ (List.mem_of_getElem? (i := 19) rfl)) (hw _ (List.mem_of_getElem? (i := 18) rfl)) (by decide) (by decide)) (g := (mkF m 36 #[.val (.ref tt), .val (.ref a), .val (.int (0 : Int32)), .val (.int (2 : Int32)), .val .null, .unset] [(.int (2 : Int32)), (.int (0 : Int32)), (.ref a)])) rfl (by rw [hml]; rfl) (argsL := [(.ref a), (.int (0 : Int32)), (.int (2 : Int32))]) (rest := []) (lenOf pd_1 rfl) rfl (by show 2 * 0 + _ ≤ _; exact Nat.le_of_eq rfl) (hb hby d2_36) (fun _ _ => ⟨rfl, e3, (by decide : 0 + 1 ≤ _), (by decide : 0 + 2 ≤ _)⟩)
  dsimp only [Pt.U, Pt.locs, Pt.cells, Pt.slots] at X5 l5 y5 z5 st5 hQ5
  subst l5 y5 z5
  obtain ⟨b_5, kb_5, rfl, N5q, K5q, B5_0, B5_1⟩ := hQ5
  have ne6 : tt ≠ b_5 := Nat.ne_of_lt (Nat.lt_of_lt_of_le P0.lt B5_0)
  have ne7 : a ≠ b_5 := Nat.ne_of_lt (Nat.lt_of_lt_of_le P4.lt B5_0)
  have ge_b_5 : n0 ≤ b_5 := Nat.le_trans Z0 B5_0
  have sz_b_5 : h0.size ≤ b_5 := Nat.le_trans K0.1 B5_0
  have Z5 : n0 ≤ T5.heap.size := Nat.le_trans Z0 K5q.1
  have K5 : Keep h0 T5.heap [tt] := K0.trans K5q all0
  have N5 := Fr.app N0 N5q
  replace G : Gets p e below _ (T5.setTop (mkF m 39 #[.val (.ref tt), .val (.ref a), .val (.int (0 : Int32)), .val (.int (2 : Int32)), .val .null, .unset] [(.ref b_5)])) := fun t k => G t (st5 t k)
  replace G := own_astore (q := 41) (l' := #[.val (.ref tt), .val (.ref a), .val (.int (0 : Int32)), .val (.int (2 : Int32)), .val .null, .val (.ref b_5)]) G X5.here hx (hb hby d2_39) rfl rfl rfl
  replace G := own_aloadN (q := 42) G X5.here hx (hb hby d2_41) rfl rfl rfl
  replace G := own_aload (q := 44) G X5.here hx (hb hby d2_42) rfl rfl rfl
  replace G := own_iloadN (q := 45) G X5.here hx (hb hby d2_44) rfl rfl
  obtain ⟨_, _, ⟨T8, L8, kk8, nn8⟩, -, X8, ⟨Lc8, hQ8, l8, y8, z8⟩, st8⟩ := Jvm.LawKit.callS X5 hx (y := (⟨"java/lang/StringUTF16", "coderFromArrayLen", "([BI)B"⟩ : MethodName)) hown (mvT hZ (hw _ (List.mem_of_getElem? (i := 24) rfl))) (mvT hZ (hw _ (List.mem_of_getElem? (i := 25) rfl))) (mvT hZ (hw _ (List.mem_of_getElem? (i := 18) rfl))) (mvT hZ (hw _ (List.mem_of_getElem? (i := 26) rfl))) (by decide) (backOf (W := 1) (rm6n2 l Z a0 hw [] b_5 kb_5 [(.int (nar .byte (ec0.toInt8.toInt32))), (.int (nar .byte (ec1.toInt8.toInt32)))] T5.heap n0 Z5 B5_1) hZ (hw _ (List.mem_of_getElem? (i := 26) rfl)) (hw _ (List.mem_of_getElem? (i := 18) rfl)) (by decide) (by decide)) (g := (mkF m 45 #[.val (.ref tt), .val (.ref a), .val (.int (0 : Int32)), .val (.int (2 : Int32)), .val .null, .val (.ref b_5)] [(.int (2 : Int32)), (.ref b_5), (.ref tt)])) rfl (by rw [hml]; rfl) (argsL := [(.ref b_5), (.int (2 : Int32))]) (rest := [(.ref tt)]) (lenOf pd_2 rfl) rfl (by show 2 * 0 + _ ≤ _; exact Nat.le_of_eq rfl) (hb hby d2_45) (fun _ _ => ⟨rfl, rfl, (by decide : 1 + 0 ≤ _), (by decide : 2 + 0 ≤ _)⟩)
  dsimp only [Pt.U, Pt.locs, Pt.cells, Pt.slots] at X8 l8 y8 z8 st8 hQ8
  subst l8 y8 z8
  obtain ⟨rfl, N8q, e8⟩ := hQ8
  have N8 := Fr.app N5 N8q
  replace G : Gets p e below _ (T8.setTop (mkF m 48 #[.val (.ref tt), .val (.ref a), .val (.int (0 : Int32)), .val (.int (2 : Int32)), .val .null, .val (.ref b_5)] [(.int (0 : Int32)), (.ref tt)])) := fun t k => G t (st8 t k)
  have F9 : Exa Z T5.heap tt "java/lang/String" := (P2.keep K5q)
  have F10 : Fld Z T5.heap tt "java/lang/String" "coder" "B" (.int (0 : Int32)) := (P1.keep K5q nin0)
  obtain ⟨T11, h11, X11, e11, W11, st11⟩ := putFN X8 hx hZ hown (hw _ (List.mem_of_getElem? (i := 27) rfl)) Via.refl e8 F10 F9 (Or.inr ⟨(hw _ (List.mem_of_getElem? (i := 28) rfl)), rfl, hnm⟩) (hw _ (List.mem_of_getElem? (i := 3) rfl)) (ty := .byte) (v' := (.int (0 : Int32))) (by decide) rfl (by first | rfl | decide) (g := (mkF m 48 #[.val (.ref tt), .val (.ref a), .val (.int (0 : Int32)), .val (.int (2 : Int32)), .val .null, .val (.ref b_5)] [(.int (0 : Int32)), (.ref tt)])) rfl rfl (hb hby d2_48)
  have N11 := Fr.snoc X11 N8 P3
  have Z11 : n0 ≤ h11.size := Nat.le_trans Z5 (Keep.of_wr W11).1
  have K11 : Keep h0 h11 [tt] := K5.wr W11 (Or.inl (List.mem_of_getElem? (i := 0) rfl))
  have F11 : Fld Z h11 tt "java/lang/String" "coder" "B" (.int (0 : Int32)) := F10.same W11
  replace G : Gets p e below _ (T11.setTop (mkF m 51 #[.val (.ref tt), .val (.ref a), .val (.int (0 : Int32)), .val (.int (2 : Int32)), .val .null, .val (.ref b_5)] [])) := fun t k => G t (st11 t k)
  replace G := own_aloadN (q := 52) G X11.here hx (hb hby d2_51) rfl rfl rfl
  replace G := own_aload (q := 54) G X11.here hx (hb hby d2_52) rfl rfl rfl
  have F12 : Exa Z h11 tt "java/lang/String" := (F9.wr W11)
  have F13 : Fld Z h11 tt "java/lang/String" "value" "[B" .null := ((P0.keep K5q nin0).other W11 (Or.inr (slot_ne (Or.inr (hw _ (List.mem_of_getElem? (i := 30) rfl))) (Or.inr (hw _ (List.mem_of_getElem? (i := 28) rfl))) (by decide) (t := (.array .byte)) (t' := .byte) (by decide) (by decide))))
  obtain ⟨T14, h14, X14, e14, W14, st14⟩ := putF X11 hx hZ hown (host := "") (Or.inl (hw _ (List.mem_of_getElem? (i := 29) rfl))) Via.refl e11 F13 F12 (Or.inr ⟨(hw _ (List.mem_of_getElem? (i := 30) rfl)), rfl, hnm⟩) (hw _ (List.mem_of_getElem? (i := 3) rfl)) (ty := (.array .byte)) (by decide) rfl rfl (g := (mkF m 54 #[.val (.ref tt), .val (.ref a), .val (.int (0 : Int32)), .val (.int (2 : Int32)), .val .null, .val (.ref b_5)] [(.ref b_5), (.ref tt)])) rfl rfl (hb hby d2_54)
  have N14 := Fr.snoc X14 N11 P3
  have Z14 : n0 ≤ h14.size := Nat.le_trans Z11 (Keep.of_wr W14).1
  have K14 : Keep h0 h14 [tt] := K11.wr W14 (Or.inl (List.mem_of_getElem? (i := 0) rfl))
  have F14 : Fld Z h14 tt "java/lang/String" "value" "[B" (.ref b_5) := F13.same W14
  replace G : Gets p e below _ (T14.setTop (mkF m 57 #[.val (.ref tt), .val (.ref a), .val (.int (0 : Int32)), .val (.int (2 : Int32)), .val .null, .val (.ref b_5)] [])) := fun t k => G t (st14 t k)
  obtain ⟨fs, hr, hrun, hended, hW, hsame⟩ := X14.leave (v := none) (fun _ => rfl)
  refine ⟨_, _, G _ (X14.returnOut hx Bd.returns (hb hby d2_57) hr), hrun, hended, _, _, rfl, ?_, ⟨_, rfl⟩, hW, hsame.mono (by decide) (by decide)⟩
  have F15 : Fld Z h14 tt "java/lang/String" "coder" "B" (.int (0 : Int32)) := (F11.other W14 (Or.inr (slot_ne (Or.inr (hw _ (List.mem_of_getElem? (i := 28) rfl))) (Or.inr (hw _ (List.mem_of_getElem? (i := 30) rfl))) (by decide) (t := .byte) (t' := (.array .byte)) (by decide) (by decide))))
  have F16 : Arv Z h14 b_5 kb_5 .byte (2 : Int32) [(.int (nar .byte (ec0.toInt8.toInt32))), (.int (nar .byte (ec1.toInt8.toInt32)))] (.int (0 : Int32)) := ((B5_1.other W11 (Ne.symm ne6)).other W14 (Ne.symm ne6))
  show Q2n2 Z tt a ks cw ec0 ec1 h0 n0 _ T14.heap _
  rw [e14]
  exact ⟨b_5, kb_5, rfl, N14, K14, F14, F15, sz_b_5, F16⟩
theorem pd_3 : parseMethodDescriptor "([CIILjava/lang/Void;)V" = some ⟨[(.array .char), .int, .int, (.object "java/lang/Void")], none⟩ := by decide +kernel
theorem d1_0 : decode jdk_42_method_3_code 0 = .ok (.aload_n 0, 1) := by decide +kernel
theorem d1_1 : decode jdk_42_method_3_code 1 = .ok (.aload_n 1, 1) := by decide +kernel
theorem d1_2 : decode jdk_42_method_3_code 2 = .ok (.iconst 0, 1) := by decide +kernel
theorem d1_3 : decode jdk_42_method_3_code 3 = .ok (.aload_n 1, 1) := by decide +kernel
theorem d1_4 : decode jdk_42_method_3_code 4 = .ok (.arraylength, 1) := by decide +kernel
theorem d1_5 : decode jdk_42_method_3_code 5 = .ok (.aconst_null, 1) := by decide +kernel
theorem d1_6 : decode jdk_42_method_3_code 6 = .ok (.invokespecial 27, 3) := by decide +kernel
theorem d1_9 : decode jdk_42_method_3_code 9 = .ok (.return_, 1) := by decide +kernel
theorem ef_1n2 (m : MethodId) (x0 : Addr) (x1 : Addr) : entryFrame m #[(.ref x0), (.ref x1)] 2 = mkF m 0 #[.val (.ref x0), .val (.ref x1)] [] := by first | (simp [entryFrame, mkF, argsToLocals, Value.category]; done) | rfl
def Q1n2 (Z : State) (tt : Addr) (a : Addr) (ks : ClassId) (cw : Int32) (ec0 : Int32) (ec1 : Int32) (h0 : Heap) (n0 : Nat) (v : Option Value) (h : Heap) (L : List Loc) : Prop := ∃ (b : Addr) (kb : ClassId), v = none ∧ Fr n0 L ∧ Keep h0 h [tt] ∧ (Fld Z h tt "java/lang/String" "value" "[B" (.ref b)) ∧ (Fld Z h tt "java/lang/String" "coder" "B" (.int (0 : Int32))) ∧ h0.size ≤ b ∧ (Arv Z h b kb .byte (2 : Int32) [(.int (nar .byte (ec0.toInt8.toInt32))), (.int (nar .byte (ec1.toInt8.toInt32)))] (.int (0 : Int32)))
set_option maxRecDepth 65536 in
set_option maxHeartbeats 40000000 in
theorem rm1n2 (l : Launch) (Z : State) (a0 : Array Value) (hw : ∀ d ∈ tables_1, d.before a0 Z = true) (ws : List Jvm.Cond) (tt : Addr) (a : Addr) (ks : ClassId) (cw : Int32) (ec0 : Int32) (ec1 : Int32) (h0 : Heap) (n0 : Nat) (Z0 : n0 ≤ h0.size) (P0 : Fld Z h0 tt "java/lang/String" "value" "[B" .null) (P1 : Fld Z h0 tt "java/lang/String" "coder" "B" (.int (0 : Int32))) (P2 : Exa Z h0 tt "java/lang/String") (P3 : n0 ≤ tt) (P4 : Arv Z h0 a ks .char (2 : Int32) [(.int ec0), (.int ec1)] (.int (0 : Int32))) (P5 : Sta Z h0 "java/lang/String" "COMPACT_STRINGS" "Z" (.int cw)) (hcw : ¬ cw = (0 : Int32)) (he0 : ¬ ((255 : Int32) < ec0)) (he1 : ¬ ((255 : Int32) < ec1)) :
    MetFree l (⟨"java/lang/String", "<init>", "([C)V"⟩ : MethodName) (head1 (Jvm.Cond.code (⟨"java/lang/String", "<init>", "([C)V"⟩ : MethodName) jdk_42_method_3_code 2 none :: ws) ({ frames := 3, cells := 1, slots := 2, locals := 52 } : Room)) (fun zz U => zz = #[(.ref tt), (.ref a)] ∧ Z.Warmed39 U.vm ∧ U.heap = h0) (fun _ _ _ _ _ => True) (fun _ U o U' => ∃ v L, o = .returned v ∧ Q1n2 Z tt a ks cw ec0 ec1 h0 n0 v U'.heap L ∧ FrameEnd U o U' L ({ frames := 3, cells := 1, slots := 2, locals := 52 } : Room).cells ({ frames := 3, cells := 1, slots := 2, locals := 52 } : Room).slots) := by
  refine MetFree.of_bodySF (plainFor_of_name pn_java_lang_String) hisR ?_
  intro p e s m args below meth c s₁ Bd hml0 hP hK
  obtain ⟨rfl, hZ, hh⟩ := hP
  have hx := Bd.exec
  have hby := Bd.bytes
  have hml : c.maxLocals = 2 := hml0
  have hown : s.vm.findClass "java/lang/String" = some m.cls := findClass_of_methodNamed Bd.named
  have hnm := (name_of_methodNamed Bd.named Bd.method).1
  have X0 : Stand p l e ({ frames := 3, cells := 1, slots := 2, locals := 52 } : Room) s m #[(.ref tt), (.ref a)] below meth c s₁ [] 0 0 := Stand.of_body Bd
  have e0 : s₁.heap = h0 := by rw [← hh, Bd.state]; rfl
  have N0 := Fr.nil n0
  have K0 : Keep h0 h0 [tt] := Keep.refl _ _
  have G : Gets p e below (s₁.setTop (entryFrame m #[(.ref tt), (.ref a)] 2)) (s₁.setTop (mkF m 0 #[.val (.ref tt), .val (.ref a)] [])) := fun t k => castTop (ef_1n2 m tt a) k
  replace G := own_aloadN (q := 1) G X0.here hx (hb hby d1_0) rfl rfl rfl
  replace G := own_aloadN (q := 2) G X0.here hx (hb hby d1_1) rfl rfl rfl
  replace G := own_iconst (q := 3) G X0.here hx (hb hby d1_2) (v := (0 : Int32)) (by decide) rfl
  replace G := own_aloadN (q := 4) G X0.here hx (hb hby d1_3) rfl rfl rfl
  obtain ⟨c1, Ar1, -, S1, N1', -, -⟩ := id P4
  replace G : Gets p e below _ (s₁.setTop (mkF m 5 #[.val (.ref tt), .val (.ref a)] [(.int (2 : Int32)), (.int (0 : Int32)), (.ref a), (.ref tt)])) := fun t k => G t (X0.arraylength hx (by rw [e0]; exact Ar1.1) (State.isArrayOf_alike hZ.alike Ar1.2.1) (g := (mkF m 4 #[.val (.ref tt), .val (.ref a)] [(.ref a), (.int (0 : Int32)), (.ref a), (.ref tt)])) rfl rfl (hb hby d1_4) t (by rw [len_of S1 N1']; exact k))
  replace G := own_aconst_null (q := 6) G X0.here hx (hb hby d1_5) rfl
  obtain ⟨_, _, ⟨T2, L2, kk2, nn2⟩, -, X2, ⟨Lc2, hQ2, l2, y2, z2⟩, st2⟩ := X0.specialBack hx (y := (⟨"java/lang/String", "<init>", "([CIILjava/lang/Void;)V"⟩ : MethodName)) rfl hown (mvT hZ (hw _ (List.mem_of_getElem? (i := 8) rfl))) (mvT hZ (hw _ (List.mem_of_getElem? (i := 9) rfl))) (mvT hZ (hw _ (List.mem_of_getElem? (i := 11) rfl))) (by decide) (backOf (W := 0) (rm2n2 l Z a0 hw [] tt a ks cw ec0 ec1 h0 n0 Z0 P0 P1 P2 P3 P4 P5 hcw he0 he1) hZ (hw _ (List.mem_of_getElem? (i := 11) rfl)) (hw _ (List.mem_of_getElem? (i := 4) rfl)) (by decide) (by decide)) (g := (mkF m 6 #[.val (.ref tt), .val (.ref a)] [.null, (.int (2 : Int32)), (.int (0 : Int32)), (.ref a), (.ref tt)])) rfl (by rw [hml]; rfl) (Steps.refl _) (a := tt) (argsL := [(.ref a), (.int (0 : Int32)), (.int (2 : Int32)), .null]) (rest := []) (lenOf pd_3 rfl) rfl (by show 2 * 0 + _ ≤ _; exact Nat.le_of_eq rfl) (hb hby d1_6) (fun _ _ => ⟨rfl, e0, (by decide : 0 + 1 ≤ _), (by decide : 0 + 2 ≤ _)⟩)
  dsimp only [Pt.U, Pt.locs, Pt.cells, Pt.slots] at X2 l2 y2 z2 st2 hQ2
  subst l2 y2 z2
  obtain ⟨b_2, kb_2, rfl, N2q, K2q, B2_0, B2_1, B2_2, B2_3⟩ := hQ2
  have ne3 : tt ≠ b_2 := Nat.ne_of_lt (Nat.lt_of_lt_of_le P0.lt B2_2)
  have ne4 : a ≠ b_2 := Nat.ne_of_lt (Nat.lt_of_lt_of_le P4.lt B2_2)
  have ge_b_2 : n0 ≤ b_2 := Nat.le_trans Z0 B2_2
  have sz_b_2 : h0.size ≤ b_2 := Nat.le_trans K0.1 B2_2
  have Z2 : n0 ≤ T2.heap.size := Nat.le_trans Z0 K2q.1
  have K2 : Keep h0 T2.heap [tt] := K0.trans K2q (allS (Or.inl (List.mem_of_getElem? (i := 0) rfl)) all0)
  have N2 := Fr.app N0 N2q
  replace G : Gets p e below _ (T2.setTop (mkF m 9 #[.val (.ref tt), .val (.ref a)] [])) := fun t k => G t (st2.trans k)
  obtain ⟨fs, hr, hrun, hended, hW, hsame⟩ := X2.leave (v := none) (fun _ => rfl)
  refine ⟨_, _, G _ (X2.returnOut hx Bd.returns (hb hby d1_9) hr), hrun, hended, _, _, rfl, ?_, ⟨_, rfl⟩, hW, hsame.mono (by decide) (by decide)⟩
  show Q1n2 Z tt a ks cw ec0 ec1 h0 n0 _ T2.heap _
  exact ⟨b_2, kb_2, rfl, N2, K2, B2_0, B2_1, sz_b_2, B2_3⟩
theorem d7_0 : decode prog_12_method_1_code 0 = .ok (.aload_n 0, 1) := by decide +kernel
theorem d7_1 : decode prog_12_method_1_code 1 = .ok (.invokespecial 1, 3) := by decide +kernel
theorem d7_4 : decode prog_12_method_1_code 4 = .ok (.aload_n 0, 1) := by decide +kernel
theorem d7_5 : decode prog_12_method_1_code 5 = .ok (.aload_n 1, 1) := by decide +kernel
theorem d7_6 : decode prog_12_method_1_code 6 = .ok (.putfield 7, 3) := by decide +kernel
theorem d7_9 : decode prog_12_method_1_code 9 = .ok (.aload_n 0, 1) := by decide +kernel
theorem d7_10 : decode prog_12_method_1_code 10 = .ok (.iload_n 2, 1) := by decide +kernel
theorem d7_11 : decode prog_12_method_1_code 11 = .ok (.putfield 13, 3) := by decide +kernel
theorem d7_14 : decode prog_12_method_1_code 14 = .ok (.return_, 1) := by decide +kernel
theorem pn_com_example_crossbill_crossbill_csv_CsvColumn : plainName "com/example/crossbill/crossbill/csv/CsvColumn" = true := by first | (simp [plainName, overriddenIn]; done) | decide +kernel
theorem ef_7 (m : MethodId) (x0 : Addr) (x1 : Addr) (x2 : Int32) : entryFrame m #[(.ref x0), (.ref x1), (.int x2)] 3 = mkF m 0 #[.val (.ref x0), .val (.ref x1), .val (.int x2)] [] := by first | (simp [entryFrame, mkF, argsToLocals, Value.category]; done) | rfl
def Q7 (Z : State) (a : Addr) (nm : Addr) (ix : Int32) (h0 : Heap) (n0 : Nat) (v : Option Value) (h : Heap) (L : List Loc) : Prop := v = none ∧ Fr n0 L ∧ Keep h0 h [a] ∧ (Fld Z h a "com/example/crossbill/crossbill/csv/CsvColumn" "index" "I" (.int ix))
set_option maxRecDepth 65536 in
set_option maxHeartbeats 40000000 in
theorem rm7 (l : Launch) (Z : State) (a0 : Array Value) (hw : ∀ d ∈ tables_1, d.before a0 Z = true) (ws : List Jvm.Cond) (a : Addr) (nm : Addr) (ix : Int32) (h0 : Heap) (n0 : Nat) (Z0 : n0 ≤ h0.size) (P0 : Fld Z h0 a "com/example/crossbill/crossbill/csv/CsvColumn" "name" "Ljava/lang/String;" .null) (P1 : Fld Z h0 a "com/example/crossbill/crossbill/csv/CsvColumn" "index" "I" (.int (0 : Int32))) (P2 : Exa Z h0 a "com/example/crossbill/crossbill/csv/CsvColumn") (P3 : n0 ≤ a) :
    MetFree l (⟨"com/example/crossbill/crossbill/csv/CsvColumn", "<init>", "(Ljava/lang/String;I)V"⟩ : MethodName) (head1 (Jvm.Cond.code (⟨"com/example/crossbill/crossbill/csv/CsvColumn", "<init>", "(Ljava/lang/String;I)V"⟩ : MethodName) prog_12_method_1_code 3 none :: ws) ({ frames := 1, cells := 0, slots := 0, locals := 12 } : Room)) (fun zz U => zz = #[(.ref a), (.ref nm), (.int ix)] ∧ Z.Warmed39 U.vm ∧ U.heap = h0) (fun _ _ _ _ _ => True) (fun _ U o U' => ∃ v L, o = .returned v ∧ Q7 Z a nm ix h0 n0 v U'.heap L ∧ FrameEnd U o U' L ({ frames := 1, cells := 0, slots := 0, locals := 12 } : Room).cells ({ frames := 1, cells := 0, slots := 0, locals := 12 } : Room).slots) := by
  refine MetFree.of_bodySF (plainFor_of_name pn_com_example_crossbill_crossbill_csv_CsvColumn) hisR ?_
  intro p e s m args below meth c s₁ Bd hml0 hP hK
  obtain ⟨rfl, hZ, hh⟩ := hP
  have hx := Bd.exec
  have hby := Bd.bytes
  have hml : c.maxLocals = 3 := hml0
  have hown : s.vm.findClass "com/example/crossbill/crossbill/csv/CsvColumn" = some m.cls := findClass_of_methodNamed Bd.named
  have hnm := (name_of_methodNamed Bd.named Bd.method).1
  have X0 : Stand p l e ({ frames := 1, cells := 0, slots := 0, locals := 12 } : Room) s m #[(.ref a), (.ref nm), (.int ix)] below meth c s₁ [] 0 0 := Stand.of_body Bd
  have e0 : s₁.heap = h0 := by rw [← hh, Bd.state]; rfl
  have N0 := Fr.nil n0
  have K0 : Keep h0 h0 [a] := Keep.refl _ _
  have G : Gets p e below (s₁.setTop (entryFrame m #[(.ref a), (.ref nm), (.int ix)] 3)) (s₁.setTop (mkF m 0 #[.val (.ref a), .val (.ref nm), .val (.int ix)] [])) := fun t k => castTop (ef_7 m a nm ix) k
  replace G := own_aloadN (q := 1) G X0.here hx (hb hby d7_0) rfl rfl rfl
  obtain ⟨T1, X1, e1, st1⟩ := initO X0 hx hZ hown (hw _ (List.mem_of_getElem? (i := 37) rfl)) (hw _ (List.mem_of_getElem? (i := 13) rfl)) (hw _ (List.mem_of_getElem? (i := 14) rfl)) e0 (g := (mkF m 1 #[.val (.ref a), .val (.ref nm), .val (.int ix)] [(.ref a)])) rfl (by rw [hml]; rfl) rfl (hb hby d7_1) (by decide) (W := 0) (by show 2 * 0 + _ ≤ _; exact Nat.le_of_eq rfl) (by decide)
  replace G : Gets p e below _ (T1.setTop (mkF m 4 #[.val (.ref a), .val (.ref nm), .val (.int ix)] [])) := fun t k => G t (st1 t k)
  replace G := own_aloadN (q := 5) G X1.here hx (hb hby d7_4) rfl rfl rfl
  replace G := own_aloadN (q := 6) G X1.here hx (hb hby d7_5) rfl rfl rfl
  obtain ⟨T2, h2, X2, e2, W2, st2⟩ := putF X1 hx hZ hown (host := "") (Or.inl (hw _ (List.mem_of_getElem? (i := 38) rfl))) Via.refl e1 P0 P2 (Or.inr ⟨(hw _ (List.mem_of_getElem? (i := 39) rfl)), rfl, hnm⟩) (hw _ (List.mem_of_getElem? (i := 32) rfl)) (ty := (.object "java/lang/String")) (by decide) rfl rfl (g := (mkF m 6 #[.val (.ref a), .val (.ref nm), .val (.int ix)] [(.ref nm), (.ref a)])) rfl rfl (hb hby d7_6)
  have N2 := Fr.snoc X2 N0 P3
  have Z2 : n0 ≤ h2.size := Nat.le_trans Z0 (Keep.of_wr W2).1
  have K2 : Keep h0 h2 [a] := K0.wr W2 (Or.inl (List.mem_of_getElem? (i := 0) rfl))
  have F2 : Fld Z h2 a "com/example/crossbill/crossbill/csv/CsvColumn" "name" "Ljava/lang/String;" (.ref nm) := P0.same W2
  replace G : Gets p e below _ (T2.setTop (mkF m 9 #[.val (.ref a), .val (.ref nm), .val (.int ix)] [])) := fun t k => G t (st2 t k)
  replace G := own_aloadN (q := 10) G X2.here hx (hb hby d7_9) rfl rfl rfl
  replace G := own_iloadN (q := 11) G X2.here hx (hb hby d7_10) rfl rfl
  have F3 : Exa Z h2 a "com/example/crossbill/crossbill/csv/CsvColumn" := (P2.wr W2)
  have F4 : Fld Z h2 a "com/example/crossbill/crossbill/csv/CsvColumn" "index" "I" (.int (0 : Int32)) := (P1.other W2 (Or.inr (slot_ne (Or.inr (hw _ (List.mem_of_getElem? (i := 41) rfl))) (Or.inr (hw _ (List.mem_of_getElem? (i := 39) rfl))) (by decide) (t := .int) (t' := (.object "java/lang/String")) (by decide) (by decide))))
  obtain ⟨T5, h5, X5, e5, W5, st5⟩ := putF X2 hx hZ hown (host := "") (Or.inl (hw _ (List.mem_of_getElem? (i := 40) rfl))) Via.refl e2 F4 F3 (Or.inr ⟨(hw _ (List.mem_of_getElem? (i := 41) rfl)), rfl, hnm⟩) (hw _ (List.mem_of_getElem? (i := 32) rfl)) (ty := .int) (by decide) rfl rfl (g := (mkF m 11 #[.val (.ref a), .val (.ref nm), .val (.int ix)] [(.int ix), (.ref a)])) rfl rfl (hb hby d7_11)
  have N5 := Fr.snoc X5 N2 P3
  have Z5 : n0 ≤ h5.size := Nat.le_trans Z2 (Keep.of_wr W5).1
  have K5 : Keep h0 h5 [a] := K2.wr W5 (Or.inl (List.mem_of_getElem? (i := 0) rfl))
  have F5 : Fld Z h5 a "com/example/crossbill/crossbill/csv/CsvColumn" "index" "I" (.int ix) := F4.same W5
  replace G : Gets p e below _ (T5.setTop (mkF m 14 #[.val (.ref a), .val (.ref nm), .val (.int ix)] [])) := fun t k => G t (st5 t k)
  obtain ⟨fs, hr, hrun, hended, hW, hsame⟩ := X5.leave (v := none) (fun _ => rfl)
  refine ⟨_, _, G _ (X5.returnOut hx Bd.returns (hb hby d7_14) hr), hrun, hended, _, _, rfl, ?_, ⟨_, rfl⟩, hW, hsame.mono (by decide) (by decide)⟩
  show Q7 Z a nm ix h0 n0 _ T5.heap _
  rw [e5]
  exact ⟨rfl, N5, K5, F5⟩
theorem pd_4 : parseMethodDescriptor "(Ljava/lang/String;I)V" = some ⟨[(.object "java/lang/String"), .int], none⟩ := by decide +kernel
theorem d8_0 : decode prog_12_method_2_code 0 = .ok (.new 8, 3) := by decide +kernel
theorem d8_3 : decode prog_12_method_2_code 3 = .ok (.dup, 1) := by decide +kernel
theorem d8_4 : decode prog_12_method_2_code 4 = .ok (.aload_n 0, 1) := by decide +kernel
theorem d8_5 : decode prog_12_method_2_code 5 = .ok (.iconst (-1), 1) := by decide +kernel
theorem d8_6 : decode prog_12_method_2_code 6 = .ok (.invokespecial 17, 3) := by decide +kernel
theorem d8_9 : decode prog_12_method_2_code 9 = .ok (.areturn, 1) := by decide +kernel
theorem ef_8 (m : MethodId) (x0 : Addr) : entryFrame m #[(.ref x0)] 1 = mkF m 0 #[.val (.ref x0)] [] := by first | (simp [entryFrame, mkF, argsToLocals, Value.category]; done) | rfl
def Q8 (Z : State) (nm : Addr) (h0 : Heap) (n0 : Nat) (v : Option Value) (h : Heap) (L : List Loc) : Prop := ∃ (b : Addr), v = some (.ref b) ∧ Fr n0 L ∧ Keep h0 h [] ∧ h0.size ≤ b ∧ (Exa Z h b "com/example/crossbill/crossbill/csv/CsvColumn") ∧ (Fld Z h b "com/example/crossbill/crossbill/csv/CsvColumn" "index" "I" (.int (-1 : Int32)))
set_option maxRecDepth 65536 in
set_option maxHeartbeats 40000000 in
theorem rm8 (l : Launch) (Z : State) (a0 : Array Value) (hw : ∀ d ∈ tables_1, d.before a0 Z = true) (ws : List Jvm.Cond) (nm : Addr) (h0 : Heap) (n0 : Nat) (Z0 : n0 ≤ h0.size)  :
    MetFree l (⟨"com/example/crossbill/crossbill/csv/CsvColumn", "absent", "(Ljava/lang/String;)Lcom/example/crossbill/crossbill/csv/CsvColumn;"⟩ : MethodName) (head1 (Jvm.Cond.code (⟨"com/example/crossbill/crossbill/csv/CsvColumn", "absent", "(Ljava/lang/String;)Lcom/example/crossbill/crossbill/csv/CsvColumn;"⟩ : MethodName) prog_12_method_2_code 1 (some (.object "com/example/crossbill/crossbill/csv/CsvColumn")) :: ws) ({ frames := 2, cells := 1, slots := 2, locals := 27 } : Room)) (fun zz U => zz = #[(.ref nm)] ∧ Z.Warmed39 U.vm ∧ U.heap = h0) (fun _ _ _ _ _ => True) (fun _ U o U' => ∃ v L, o = .returned v ∧ Q8 Z nm h0 n0 v U'.heap L ∧ FrameEnd U o U' L ({ frames := 2, cells := 1, slots := 2, locals := 27 } : Room).cells ({ frames := 2, cells := 1, slots := 2, locals := 27 } : Room).slots) := by
  refine MetFree.of_bodySF (plainFor_of_name pn_com_example_crossbill_crossbill_csv_CsvColumn) hisR ?_
  intro p e s m args below meth c s₁ Bd hml0 hP hK
  obtain ⟨rfl, hZ, hh⟩ := hP
  have hx := Bd.exec
  have hby := Bd.bytes
  have hml : c.maxLocals = 1 := hml0
  have hown : s.vm.findClass "com/example/crossbill/crossbill/csv/CsvColumn" = some m.cls := findClass_of_methodNamed Bd.named
  have hnm := (name_of_methodNamed Bd.named Bd.method).1
  have X0 : Stand p l e ({ frames := 2, cells := 1, slots := 2, locals := 27 } : Room) s m #[(.ref nm)] below meth c s₁ [] 0 0 := Stand.of_body Bd
  have e0 : s₁.heap = h0 := by rw [← hh, Bd.state]; rfl
  have N0 := Fr.nil n0
  have K0 : Keep h0 h0 [] := Keep.refl _ _
  have G : Gets p e below (s₁.setTop (entryFrame m #[(.ref nm)] 1)) (s₁.setTop (mkF m 0 #[.val (.ref nm)] [])) := fun t k => castTop (ef_8 m nm) k
  obtain ⟨T1, h1, X1, e1, E1, A1, D1, -, st1⟩ := newO X0 hx hZ hown (hw _ (List.mem_of_getElem? (i := 45) rfl)) (hw _ (List.mem_of_getElem? (i := 32) rfl)) (hw _ (List.mem_of_getElem? (i := 33) rfl)) e0 (g := (mkF m 0 #[.val (.ref nm)] [])) rfl (hb hby d8_0) (by decide) (by decide)
  obtain ⟨b1, g1⟩ : ∃ z, z = h0.size := ⟨_, rfl⟩
  rw [← g1] at A1 D1 st1
  have ge_b1 : n0 ≤ b1 := Nat.le_trans Z0 (Nat.le_of_eq g1.symm)
  have sz_b1 : h0.size ≤ b1 := Nat.le_trans K0.1 (Nat.le_of_eq g1.symm)
  have Z1 : n0 ≤ h1.size := Nat.le_trans Z0 E1.1
  have K1 : Keep h0 h1 [] := K0.ext E1
  have F1_name : Fld Z h1 b1 "com/example/crossbill/crossbill/csv/CsvColumn" "name" "Ljava/lang/String;" .null := D1 (Or.inr (hw _ (List.mem_of_getElem? (i := 39) rfl))) (ty := (.object "java/lang/String")) (by decide)
  have F1_index : Fld Z h1 b1 "com/example/crossbill/crossbill/csv/CsvColumn" "index" "I" (.int (0 : Int32)) := D1 (Or.inr (hw _ (List.mem_of_getElem? (i := 41) rfl))) (ty := .int) (by decide)
  replace G : Gets p e below _ (T1.setTop (mkF m 3 #[.val (.ref nm)] [(.ref b1)])) := fun t k => G t (st1 t k)
  replace G := own_dup (q := 4) G X1.here hx (hb hby d8_3) rfl rfl
  replace G := own_aloadN (q := 5) G X1.here hx (hb hby d8_4) rfl rfl rfl
  replace G := own_iconst (q := 6) G X1.here hx (hb hby d8_5) (v := (-1 : Int32)) (by decide) rfl
  obtain ⟨_, _, ⟨T2, L2, kk2, nn2⟩, -, X2, ⟨Lc2, hQ2, l2, y2, z2⟩, st2⟩ := X1.specialBack hx (y := (⟨"com/example/crossbill/crossbill/csv/CsvColumn", "<init>", "(Ljava/lang/String;I)V"⟩ : MethodName)) rfl hown (mvT hZ (hw _ (List.mem_of_getElem? (i := 46) rfl))) (mvT hZ (hw _ (List.mem_of_getElem? (i := 35) rfl))) (mvT hZ (hw _ (List.mem_of_getElem? (i := 36) rfl))) (by decide) (backOf (W := 1) (rm7 l Z a0 hw [] b1 nm (-1 : Int32) h1 n0 Z1 F1_name F1_index A1 ge_b1) hZ (hw _ (List.mem_of_getElem? (i := 36) rfl)) (hw _ (List.mem_of_getElem? (i := 33) rfl)) (by decide) (by decide)) (g := (mkF m 6 #[.val (.ref nm)] [(.int (-1 : Int32)), (.ref nm), (.ref b1), (.ref b1)])) rfl (by rw [hml]; rfl) (Steps.refl _) (a := b1) (argsL := [(.ref nm), (.int (-1 : Int32))]) (rest := [(.ref b1)]) (lenOf pd_4 rfl) rfl (by show 2 * 0 + _ ≤ _; exact Nat.le_of_eq rfl) (hb hby d8_6) (fun _ _ => ⟨rfl, e1, (by decide : 1 + 0 ≤ _), (by decide : 2 + 0 ≤ _)⟩)
  dsimp only [Pt.U, Pt.locs, Pt.cells, Pt.slots] at X2 l2 y2 z2 st2 hQ2
  subst l2 y2 z2
  obtain ⟨rfl, N2q, K2q, B2_0⟩ := hQ2
  have Z2 : n0 ≤ T2.heap.size := Nat.le_trans Z1 K2q.1
  have K2 : Keep h0 T2.heap [] := K1.trans K2q (allS (Or.inr sz_b1) all0)
  have N2 := Fr.app N0 N2q
  replace G : Gets p e below _ (T2.setTop (mkF m 9 #[.val (.ref nm)] [(.ref b1)])) := fun t k => G t (st2.trans k)
  obtain ⟨fs, hr, hrun, hended, hW, hsame⟩ := X2.leave (v := some (.ref b1)) (fun h => by rw [Bd.returns] at h; cases h)
  refine ⟨_, _, G _ (retOut X2 hx Bd.returns rfl (Or.inr (Or.inr (Or.inr (Or.inr ⟨rfl, rfl, rfl⟩)))) (hb hby d8_9) hr), hrun, hended, _, _, rfl, ?_, ⟨_, rfl⟩, hW, hsame.mono (by decide) (by decide)⟩
  have F3 : Exa Z T2.heap b1 "com/example/crossbill/crossbill/csv/CsvColumn" := (A1.keep K2q)
  show Q8 Z nm h0 n0 _ T2.heap _
  exact ⟨b1, rfl, N2, K2, sz_b1, F3, B2_0⟩
theorem d9_0 : decode prog_12_method_5_code 0 = .ok (.aload_n 0, 1) := by decide +kernel
theorem d9_1 : decode prog_12_method_5_code 1 = .ok (.getfield 13, 3) := by decide +kernel
theorem d9_4 : decode prog_12_method_5_code 4 = .ok (.iconst (-1), 1) := by decide +kernel
theorem d9_5 : decode prog_12_method_5_code 5 = .ok (.if_icmp .ne 7, 3) := by decide +kernel
theorem d9_8 : decode prog_12_method_5_code 8 = .ok (.iconst 1, 1) := by decide +kernel
theorem d9_9 : decode prog_12_method_5_code 9 = .ok (.goto 4, 3) := by decide +kernel
theorem d9_12 : decode prog_12_method_5_code 12 = .ok (.iconst 0, 1) := by decide +kernel
theorem d9_13 : decode prog_12_method_5_code 13 = .ok (.ireturn, 1) := by decide +kernel
theorem ef_9v (m : MethodId) (x0 : Addr) : entryFrame m #[(.ref x0)] 1 = mkF m 0 #[.val (.ref x0)] [] := by first | (simp [entryFrame, mkF, argsToLocals, Value.category]; done) | rfl
def Q9v (Z : State) (a : Addr) (ix : Int32) (h0 : Heap) (n0 : Nat) (v : Option Value) (h : Heap) (L : List Loc) : Prop := v = some (.int (own_ab ix)) ∧ Fr n0 L ∧ h = h0
set_option maxRecDepth 65536 in
set_option maxHeartbeats 40000000 in
theorem rm9v (l : Launch) (Z : State) (a0 : Array Value) (hw : ∀ d ∈ tables_1, d.before a0 Z = true) (ws : List Jvm.Cond) (a : Addr) (ix : Int32) (h0 : Heap) (n0 : Nat) (Z0 : n0 ≤ h0.size) (P0 : Fld Z h0 a "com/example/crossbill/crossbill/csv/CsvColumn" "index" "I" (.int ix)) :
    MetFree l (⟨"com/example/crossbill/crossbill/csv/CsvColumn", "isAbsent", "()Z"⟩ : MethodName) (head1 (Jvm.Cond.code (⟨"com/example/crossbill/crossbill/csv/CsvColumn", "isAbsent", "()Z"⟩ : MethodName) prog_12_method_5_code 1 (some .boolean) :: ws) ({ frames := 0, cells := 0, slots := 0, locals := 0 } : Room)) (fun zz U => zz = #[(.ref a)] ∧ Z.Warmed39 U.vm ∧ U.heap = h0) (fun _ _ _ _ _ => True) (fun _ U o U' => ∃ v L, o = .returned v ∧ Q9v Z a ix h0 n0 v U'.heap L ∧ FrameEnd U o U' L ({ frames := 0, cells := 0, slots := 0, locals := 0 } : Room).cells ({ frames := 0, cells := 0, slots := 0, locals := 0 } : Room).slots) := by
  refine MetFree.of_bodySF (plainFor_of_name pn_com_example_crossbill_crossbill_csv_CsvColumn) hisR ?_
  intro p e s m args below meth c s₁ Bd hml0 hP hK
  obtain ⟨rfl, hZ, hh⟩ := hP
  have hx := Bd.exec
  have hby := Bd.bytes
  have hml : c.maxLocals = 1 := hml0
  have hown : s.vm.findClass "com/example/crossbill/crossbill/csv/CsvColumn" = some m.cls := findClass_of_methodNamed Bd.named
  have hnm := (name_of_methodNamed Bd.named Bd.method).1
  have X0 : Stand p l e ({ frames := 0, cells := 0, slots := 0, locals := 0 } : Room) s m #[(.ref a)] below meth c s₁ [] 0 0 := Stand.of_body Bd
  have e0 : s₁.heap = h0 := by rw [← hh, Bd.state]; rfl
  have N0 := Fr.nil n0
  have G : Gets p e below (s₁.setTop (entryFrame m #[(.ref a)] 1)) (s₁.setTop (mkF m 0 #[.val (.ref a)] [])) := fun t k => castTop (ef_9v m a) k
  replace G := own_aloadN (q := 1) G X0.here hx (hb hby d9_0) rfl rfl rfl
  obtain ⟨T1, X1, e1, st1⟩ := getF X0 hx hZ hown (host := "") (Or.inl (hw _ (List.mem_of_getElem? (i := 40) rfl))) Via.refl e0 P0 (g := (mkF m 1 #[.val (.ref a)] [(.ref a)])) rfl rfl (hb hby d9_1)
  replace G : Gets p e below _ (T1.setTop (mkF m 4 #[.val (.ref a)] [(.int ix)])) := fun t k => G t (st1 t k)
  replace G := own_iconst (q := 5) G X1.here hx (hb hby d9_4) (v := (-1 : Int32)) (by decide) rfl
  by_cases hc5_2 : ix = (-1 : Int32)
  · replace G := own_icmpNo (q := 8) G X1.here hx (hb hby d9_5) (teq hc5_2).2 rfl
    replace G := own_iconst (q := 9) G X1.here hx (hb hby d9_8) (v := (1 : Int32)) (by decide) rfl
    replace G := own_goto (q := 13) G X1.here hx (hb hby d9_9) (by decide) (by decide)
    obtain ⟨fs, hr, hrun, hended, hW, hsame⟩ := X1.leave (v := some (.int (1 : Int32))) (fun h => by rw [Bd.returns] at h; cases h)
    refine ⟨_, _, G _ (retOut X1 hx Bd.returns rfl (Or.inl ⟨rfl, Or.inr (Or.inl rfl), _, rfl⟩) (hb hby d9_13) hr), hrun, hended, _, _, rfl, ?_, ⟨_, rfl⟩, hW, hsame.mono (by decide) (by decide)⟩
    show Q9v Z a ix h0 n0 _ T1.heap _
    rw [e1]
    exact ⟨(congrArg (fun z => some (Value.int z)) (by simp [own_ab, hc5_2])), N0, rfl⟩
  · replace G := own_icmpYes (q := 12) G X1.here hx (hb hby d9_5) (feq hc5_2).2 (by decide) (by decide)
    replace G := own_iconst (q := 13) G X1.here hx (hb hby d9_12) (v := (0 : Int32)) (by decide) rfl
    obtain ⟨fs, hr, hrun, hended, hW, hsame⟩ := X1.leave (v := some (.int (0 : Int32))) (fun h => by rw [Bd.returns] at h; cases h)
    refine ⟨_, _, G _ (retOut X1 hx Bd.returns rfl (Or.inl ⟨rfl, Or.inr (Or.inl rfl), _, rfl⟩) (hb hby d9_13) hr), hrun, hended, _, _, rfl, ?_, ⟨_, rfl⟩, hW, hsame.mono (by decide) (by decide)⟩
    show Q9v Z a ix h0 n0 _ T1.heap _
    rw [e1]
    exact ⟨(congrArg (fun z => some (Value.int z)) (by simp [own_ab, hc5_2])), N0, rfl⟩
theorem ef_9m (m : MethodId) (x0 : Addr) : entryFrame m #[(.ref x0)] 1 = mkF m 0 #[.val (.ref x0)] [] := by first | (simp [entryFrame, mkF, argsToLocals, Value.category]; done) | rfl
def Q9m (Z : State) (a : Addr) (h0 : Heap) (n0 : Nat) (v : Option Value) (h : Heap) (L : List Loc) : Prop := v = some (.int (1 : Int32)) ∧ Fr n0 L ∧ h = h0
set_option maxRecDepth 65536 in
set_option maxHeartbeats 40000000 in
theorem rm9m (l : Launch) (Z : State) (a0 : Array Value) (hw : ∀ d ∈ tables_1, d.before a0 Z = true) (ws : List Jvm.Cond) (a : Addr) (h0 : Heap) (n0 : Nat) (Z0 : n0 ≤ h0.size) (P0 : Fld Z h0 a "com/example/crossbill/crossbill/csv/CsvColumn" "index" "I" (.int (-1 : Int32))) :
    MetFree l (⟨"com/example/crossbill/crossbill/csv/CsvColumn", "isAbsent", "()Z"⟩ : MethodName) (head1 (Jvm.Cond.code (⟨"com/example/crossbill/crossbill/csv/CsvColumn", "isAbsent", "()Z"⟩ : MethodName) prog_12_method_5_code 1 (some .boolean) :: ws) ({ frames := 0, cells := 0, slots := 0, locals := 0 } : Room)) (fun zz U => zz = #[(.ref a)] ∧ Z.Warmed39 U.vm ∧ U.heap = h0) (fun _ _ _ _ _ => True) (fun _ U o U' => ∃ v L, o = .returned v ∧ Q9m Z a h0 n0 v U'.heap L ∧ FrameEnd U o U' L ({ frames := 0, cells := 0, slots := 0, locals := 0 } : Room).cells ({ frames := 0, cells := 0, slots := 0, locals := 0 } : Room).slots) := by
  refine MetFree.of_bodySF (plainFor_of_name pn_com_example_crossbill_crossbill_csv_CsvColumn) hisR ?_
  intro p e s m args below meth c s₁ Bd hml0 hP hK
  obtain ⟨rfl, hZ, hh⟩ := hP
  have hx := Bd.exec
  have hby := Bd.bytes
  have hml : c.maxLocals = 1 := hml0
  have hown : s.vm.findClass "com/example/crossbill/crossbill/csv/CsvColumn" = some m.cls := findClass_of_methodNamed Bd.named
  have hnm := (name_of_methodNamed Bd.named Bd.method).1
  have X0 : Stand p l e ({ frames := 0, cells := 0, slots := 0, locals := 0 } : Room) s m #[(.ref a)] below meth c s₁ [] 0 0 := Stand.of_body Bd
  have e0 : s₁.heap = h0 := by rw [← hh, Bd.state]; rfl
  have N0 := Fr.nil n0
  have G : Gets p e below (s₁.setTop (entryFrame m #[(.ref a)] 1)) (s₁.setTop (mkF m 0 #[.val (.ref a)] [])) := fun t k => castTop (ef_9m m a) k
  replace G := own_aloadN (q := 1) G X0.here hx (hb hby d9_0) rfl rfl rfl
  obtain ⟨T1, X1, e1, st1⟩ := getF X0 hx hZ hown (host := "") (Or.inl (hw _ (List.mem_of_getElem? (i := 40) rfl))) Via.refl e0 P0 (g := (mkF m 1 #[.val (.ref a)] [(.ref a)])) rfl rfl (hb hby d9_1)
  replace G : Gets p e below _ (T1.setTop (mkF m 4 #[.val (.ref a)] [(.int (-1 : Int32))])) := fun t k => G t (st1 t k)
  replace G := own_iconst (q := 5) G X1.here hx (hb hby d9_4) (v := (-1 : Int32)) (by decide) rfl
  have hc5_2 : (-1 : Int32) = (-1 : Int32) := by decide
  replace G := own_icmpNo (q := 8) G X1.here hx (hb hby d9_5) (teq hc5_2).2 rfl
  replace G := own_iconst (q := 9) G X1.here hx (hb hby d9_8) (v := (1 : Int32)) (by decide) rfl
  replace G := own_goto (q := 13) G X1.here hx (hb hby d9_9) (by decide) (by decide)
  obtain ⟨fs, hr, hrun, hended, hW, hsame⟩ := X1.leave (v := some (.int (1 : Int32))) (fun h => by rw [Bd.returns] at h; cases h)
  refine ⟨_, _, G _ (retOut X1 hx Bd.returns rfl (Or.inl ⟨rfl, Or.inr (Or.inl rfl), _, rfl⟩) (hb hby d9_13) hr), hrun, hended, _, _, rfl, ?_, ⟨_, rfl⟩, hW, hsame.mono (by decide) (by decide)⟩
  show Q9m Z a h0 n0 _ T1.heap _
  rw [e1]
  exact ⟨rfl, N0, rfl⟩
theorem pd_5 : parseMethodDescriptor "([C)V" = some ⟨[(.array .char)], none⟩ := by decide +kernel
theorem pd_6 : parseMethodDescriptor "(Ljava/lang/String;)Lcom/example/crossbill/crossbill/csv/CsvColumn;" = some ⟨[(.object "java/lang/String")], some (.object "com/example/crossbill/crossbill/csv/CsvColumn")⟩ := by decide +kernel
theorem pd_7 : parseMethodDescriptor "()Z" = some ⟨[], some .boolean⟩ := by decide +kernel
theorem pn_com_example_crossbill_crossbill_csv_CsvColumnIsAbsentPinLaw : plainName "com/example/crossbill/crossbill/csv/CsvColumnIsAbsentPinLaw" = true := by first | (simp [plainName, overriddenIn]; done) | decide +kernel
theorem ef_0 (m : MethodId) (x0 : Int32) (x1 : Int32) (x2 : Int32) : entryFrame m #[(.int x0), (.int x1), (.int x2)] maxLocals = mkF m 0 #[.val (.int x0), .val (.int x1), .val (.int x2), .unset, .unset, .unset, .unset, .unset, .unset, .unset] [] := by first | (simp [entryFrame, mkF, argsToLocals, Value.category, maxLocals]; done) | rfl
def Q0 (Z : State) (i0 : Int32) (i1 : Int32) (i2 : Int32) (cw : Int32) (h0 : Heap) (n0 : Nat) (v : Option Value) (h : Heap) (L : List Loc) : Prop := v = some (.int (1 : Int32)) ∧ Fr n0 L
set_option maxRecDepth 65536 in
set_option maxHeartbeats 40000000 in
theorem rm0 (l : Launch) (Z : State) (a0 : Array Value) (hw : ∀ d ∈ tables_1, d.before a0 Z = true) (ws : List Jvm.Cond) (i0 : Int32) (i1 : Int32) (i2 : Int32) (cw : Int32) (h0 : Heap) (n0 : Nat) (Z0 : n0 ≤ h0.size) (P0 : Sta Z h0 "java/lang/String" "COMPACT_STRINGS" "Z" (.int cw)) (hcw : ¬ cw = (0 : Int32)) :
    MetFree l x (head1 (Jvm.Cond.code x code maxLocals ret :: ws) room_1) (fun zz U => zz = #[(.int i0), (.int i1), (.int i2)] ∧ Z.Warmed39 U.vm ∧ U.heap = h0) (fun _ _ _ _ _ => True) (fun _ U o U' => ∃ v L, o = .returned v ∧ Q0 Z i0 i1 i2 cw h0 n0 v U'.heap L ∧ FrameEnd U o U' L room_1.cells room_1.slots) := by
  refine MetFree.of_bodySF (plainFor_of_name pn_com_example_crossbill_crossbill_csv_CsvColumnIsAbsentPinLaw) hisR ?_
  intro p e s m args below meth c s₁ Bd hml0 hP hK
  obtain ⟨rfl, hZ, hh⟩ := hP
  have hx := Bd.exec
  have hby := Bd.bytes
  have hml : c.maxLocals = 10 := hml0
  have hown : s.vm.findClass "com/example/crossbill/crossbill/csv/CsvColumnIsAbsentPinLaw" = some m.cls := findClass_of_methodNamed Bd.named
  have hnm := (name_of_methodNamed Bd.named Bd.method).1
  have X0 : Stand p l e room_1 s m #[(.int i0), (.int i1), (.int i2)] below meth c s₁ [] 0 0 := Stand.of_body Bd
  have e0 : s₁.heap = h0 := by rw [← hh, Bd.state]; rfl
  have N0 := Fr.nil n0
  have G : Gets p e below (s₁.setTop (entryFrame m #[(.int i0), (.int i1), (.int i2)] maxLocals)) (s₁.setTop (mkF m 0 #[.val (.int i0), .val (.int i1), .val (.int i2), .unset, .unset, .unset, .unset, .unset, .unset, .unset] [])) := fun t k => castTop (ef_0 m i0 i1 i2) k
  replace G := own_iloadN (q := 1) G X0.here hx (hb hby at_0) rfl rfl
  replace G : Gets p e below _ (s₁.setTop (mkF m 3 #[.val (.int i0), .val (.int i1), .val (.int i2), .unset, .unset, .unset, .unset, .unset, .unset, .unset] [(.int (2147483647 : Int32)), (.int i0)])) := fun t k => G t (X0.ldcInt hx hown (mvT hZ (hw _ (List.mem_of_getElem? (i := 0) rfl))) (g := (mkF m 1 #[.val (.int i0), .val (.int i1), .val (.int i2), .unset, .unset, .unset, .unset, .unset, .unset, .unset] [(.int i0)])) rfl (hb hby at_1) t k)
  replace G := own_iand (q := 4) G X0.here hx (hb hby at_3) rfl rfl
  replace G := own_istoreN (q := 5) (l' := #[.val (.int i0), .val (.int i1), .val (.int i2), .val (.int (i0 &&& (2147483647 : Int32))), .unset, .unset, .unset, .unset, .unset, .unset]) G X0.here hx (hb hby at_4) rfl rfl
  replace G := own_iconst (q := 6) G X0.here hx (hb hby at_5) (v := (2 : Int32)) (by decide) rfl
  obtain ⟨T1, h1, k1, X1, e1, E1, A1, st1⟩ := newP X0 hx hZ (hw _ (List.mem_of_getElem? (i := 1) rfl)) e0 (g := (mkF m 6 #[.val (.int i0), .val (.int i1), .val (.int i2), .val (.int (i0 &&& (2147483647 : Int32))), .unset, .unset, .unset, .unset, .unset, .unset] [(.int (2 : Int32))])) rfl (hb hby at_6) rfl (by decide) (cap := 2) (by decide) (by decide) (by decide) (by decide)
  obtain ⟨b1, g1⟩ : ∃ z, z = h0.size := ⟨_, rfl⟩
  rw [← g1] at A1 st1
  have ge_b1 : n0 ≤ b1 := Nat.le_trans Z0 (Nat.le_of_eq g1.symm)
  have Z1 : n0 ≤ h1.size := Nat.le_trans Z0 E1.1
  have V1 : Arv Z h1 b1 k1 .char (2 : Int32) [(.int (0 : Int32)), (.int (0 : Int32))] (.int (0 : Int32)) := (Arv.new A1 (by decide)).pad (pad_rep [] (.int (0 : Int32)) 2)
  replace G : Gets p e below _ (T1.setTop (mkF m 8 #[.val (.int i0), .val (.int i1), .val (.int i2), .val (.int (i0 &&& (2147483647 : Int32))), .unset, .unset, .unset, .unset, .unset, .unset] [(.ref b1)])) := fun t k => G t (st1 t k)
  replace G := own_dup (q := 9) G X1.here hx (hb hby at_8) rfl rfl
  replace G := own_iconst (q := 10) G X1.here hx (hb hby at_9) (v := (0 : Int32)) (by decide) rfl
  replace G := own_iloadN (q := 11) G X1.here hx (hb hby at_10) rfl rfl
  replace G := own_sipush (q := 14) G X1.here hx (hb hby at_11) (v := (255 : Int32)) (by decide) rfl
  replace G := own_iand (q := 15) G X1.here hx (hb hby at_14) rfl rfl
  obtain ⟨c0, hn_c0⟩ : ∃ z : Int32, ((i1 &&& (255 : Int32)).toUInt32.toUInt16.toUInt32.toInt32) = z := ⟨_, rfl⟩
  replace G := own_i2c (q := 16) G X1.here hx (hb hby at_15) hn_c0 rfl
  obtain ⟨c2, Ar2, q2, S2, N2', H2, G2'⟩ := id V1
  have hin2 : ¬ ((0 : Int32) < 0 ∨ c2.slots.size ≤ ((0 : Int32)).toNatClampNeg) := inb_of S2 ⟨by decide, by decide⟩
  obtain ⟨T2, h2, X2, e2, W2, st2⟩ := stC X1 hx hZ e1 Ar2 (j := (0 : Int32)) hin2 (g := (mkF m 16 #[.val (.int i0), .val (.int i1), .val (.int i2), .val (.int (i0 &&& (2147483647 : Int32))), .unset, .unset, .unset, .unset, .unset, .unset] [(.int c0), (.int (0 : Int32)), (.ref b1), (.ref b1)])) rfl rfl (hb hby at_16)
  have N2 := Fr.snoc X2 N0 ge_b1
  have Z2 : n0 ≤ h2.size := Nat.le_trans Z1 (Keep.of_wr W2).1
  have V2 : Arv Z h2 b1 k1 .char (2 : Int32) [(.int (nar .char c0)), (.int (0 : Int32))] (.int (0 : Int32)) := Arv.set Ar2 q2 S2 N2' H2 G2' (fits_nar_char _) W2 0 rfl (Nat.le_of_ble_eq_true rfl)
  replace G : Gets p e below _ (T2.setTop (mkF m 17 #[.val (.int i0), .val (.int i1), .val (.int i2), .val (.int (i0 &&& (2147483647 : Int32))), .unset, .unset, .unset, .unset, .unset, .unset] [(.ref b1)])) := fun t k => G t (st2 t k)
  replace G := own_dup (q := 18) G X2.here hx (hb hby at_17) rfl rfl
  replace G := own_iconst (q := 19) G X2.here hx (hb hby at_18) (v := (1 : Int32)) (by decide) rfl
  replace G := own_iloadN (q := 20) G X2.here hx (hb hby at_19) rfl rfl
  replace G := own_sipush (q := 23) G X2.here hx (hb hby at_20) (v := (255 : Int32)) (by decide) rfl
  replace G := own_iand (q := 24) G X2.here hx (hb hby at_23) rfl rfl
  obtain ⟨c1, hn_c1⟩ : ∃ z : Int32, ((i2 &&& (255 : Int32)).toUInt32.toUInt16.toUInt32.toInt32) = z := ⟨_, rfl⟩
  replace G := own_i2c (q := 25) G X2.here hx (hb hby at_24) hn_c1 rfl
  obtain ⟨c3, Ar3, q3, S3, N3', H3, G3'⟩ := id V2
  have hin3 : ¬ ((1 : Int32) < 0 ∨ c3.slots.size ≤ ((1 : Int32)).toNatClampNeg) := inb_of S3 ⟨by decide, by decide⟩
  obtain ⟨T3, h3, X3, e3, W3, st3⟩ := stC X2 hx hZ e2 Ar3 (j := (1 : Int32)) hin3 (g := (mkF m 25 #[.val (.int i0), .val (.int i1), .val (.int i2), .val (.int (i0 &&& (2147483647 : Int32))), .unset, .unset, .unset, .unset, .unset, .unset] [(.int c1), (.int (1 : Int32)), (.ref b1), (.ref b1)])) rfl rfl (hb hby at_25)
  have N3 := Fr.snoc X3 N2 ge_b1
  have Z3 : n0 ≤ h3.size := Nat.le_trans Z2 (Keep.of_wr W3).1
  have V3 : Arv Z h3 b1 k1 .char (2 : Int32) [(.int (nar .char c0)), (.int (nar .char c1))] (.int (0 : Int32)) := Arv.set Ar3 q3 S3 N3' H3 G3' (fits_nar_char _) W3 1 rfl (Nat.le_of_ble_eq_true rfl)
  replace G : Gets p e below _ (T3.setTop (mkF m 26 #[.val (.int i0), .val (.int i1), .val (.int i2), .val (.int (i0 &&& (2147483647 : Int32))), .unset, .unset, .unset, .unset, .unset, .unset] [(.ref b1)])) := fun t k => G t (st3 t k)
  replace G := own_astore (q := 28) (l' := #[.val (.int i0), .val (.int i1), .val (.int i2), .val (.int (i0 &&& (2147483647 : Int32))), .val (.ref b1), .unset, .unset, .unset, .unset, .unset]) G X3.here hx (hb hby at_26) rfl rfl rfl
  obtain ⟨T4, h4, X4, e4, E4, A4, D4, -, st4⟩ := newO X3 hx hZ hown (hw _ (List.mem_of_getElem? (i := 2) rfl)) (hw _ (List.mem_of_getElem? (i := 3) rfl)) (hw _ (List.mem_of_getElem? (i := 4) rfl)) e3 (g := (mkF m 28 #[.val (.int i0), .val (.int i1), .val (.int i2), .val (.int (i0 &&& (2147483647 : Int32))), .val (.ref b1), .unset, .unset, .unset, .unset, .unset] [])) rfl (hb hby at_28) (by decide) (by decide)
  obtain ⟨b4, g4⟩ : ∃ z, z = h3.size := ⟨_, rfl⟩
  rw [← g4] at A4 D4 st4
  have ne5 : b1 ≠ b4 := Nat.ne_of_lt (Nat.lt_of_lt_of_le V3.lt (Nat.le_of_eq g4.symm))
  have ge_b4 : n0 ≤ b4 := Nat.le_trans Z3 (Nat.le_of_eq g4.symm)
  have Z4 : n0 ≤ h4.size := Nat.le_trans Z3 E4.1
  have F4_coder : Fld Z h4 b4 "java/lang/String" "coder" "B" (.int (0 : Int32)) := D4 (Or.inr (hw _ (List.mem_of_getElem? (i := 28) rfl))) (ty := .byte) (by decide)
  have F4_value : Fld Z h4 b4 "java/lang/String" "value" "[B" .null := D4 (Or.inr (hw _ (List.mem_of_getElem? (i := 30) rfl))) (ty := (.array .byte)) (by decide)
  replace G : Gets p e below _ (T4.setTop (mkF m 31 #[.val (.int i0), .val (.int i1), .val (.int i2), .val (.int (i0 &&& (2147483647 : Int32))), .val (.ref b1), .unset, .unset, .unset, .unset, .unset] [(.ref b4)])) := fun t k => G t (st4 t k)
  replace G := own_dup (q := 32) G X4.here hx (hb hby at_31) rfl rfl
  replace G := own_aload (q := 34) G X4.here hx (hb hby at_32) rfl rfl rfl
  have F7 : Arv Z h4 b1 k1 .char (2 : Int32) [(.int (nar .char c0)), (.int (nar .char c1))] (.int (0 : Int32)) := (V3.ext E4)
  have F8 : Sta Z h4 "java/lang/String" "COMPACT_STRINGS" "Z" (.int cw) := ((((P0.ext E1).wr W2).wr W3).ext E4)
  obtain ⟨_, _, ⟨T6, L6, kk6, nn6⟩, -, X6, ⟨Lc6, hQ6, l6, y6, z6⟩, st6⟩ := X4.specialBack hx (y := (⟨"java/lang/String", "<init>", "([C)V"⟩ : MethodName)) rfl hown (mvT hZ (hw _ (List.mem_of_getElem? (i := 5) rfl))) (mvT hZ (hw _ (List.mem_of_getElem? (i := 6) rfl))) (mvT hZ (hw _ (List.mem_of_getElem? (i := 7) rfl))) (by decide) (backOf (W := 1) (rm1n2 l Z a0 hw [] b4 b1 k1 cw (nar .char c0) (nar .char c1) h4 n0 Z4 F4_value F4_coder A4 ge_b4 F7 F8 hcw (own_ch hn_c0) (own_ch hn_c1)) hZ (hw _ (List.mem_of_getElem? (i := 7) rfl)) (hw _ (List.mem_of_getElem? (i := 4) rfl)) (by decide) (by decide)) (g := (mkF m 34 #[.val (.int i0), .val (.int i1), .val (.int i2), .val (.int (i0 &&& (2147483647 : Int32))), .val (.ref b1), .unset, .unset, .unset, .unset, .unset] [(.ref b1), (.ref b4), (.ref b4)])) rfl (by rw [hml]; rfl) (Steps.refl _) (a := b4) (argsL := [(.ref b1)]) (rest := [(.ref b4)]) (lenOf pd_5 rfl) rfl (by show 2 * 0 + _ ≤ _; exact Nat.le_of_eq rfl) (hb hby at_34) (fun _ _ => ⟨rfl, e4, (by decide : 2 + 1 ≤ _), (by decide : 6 + 2 ≤ _)⟩)
  dsimp only [Pt.U, Pt.locs, Pt.cells, Pt.slots] at X6 l6 y6 z6 st6 hQ6
  subst l6 y6 z6
  obtain ⟨b_6, kb_6, rfl, N6q, K6q, B6_0, B6_1, B6_2, B6_3⟩ := hQ6
  have ne9 : b4 ≠ b_6 := Nat.ne_of_lt (Nat.lt_of_lt_of_le F4_value.lt B6_2)
  have ne10 : b1 ≠ b_6 := Nat.ne_of_lt (Nat.lt_of_lt_of_le F7.lt B6_2)
  have ge_b_6 : n0 ≤ b_6 := Nat.le_trans Z4 B6_2
  have Z6 : n0 ≤ T6.heap.size := Nat.le_trans Z4 K6q.1
  have N6 := Fr.app N3 N6q
  replace G : Gets p e below _ (T6.setTop (mkF m 37 #[.val (.int i0), .val (.int i1), .val (.int i2), .val (.int (i0 &&& (2147483647 : Int32))), .val (.ref b1), .unset, .unset, .unset, .unset, .unset] [(.ref b4)])) := fun t k => G t (st6.trans k)
  replace G := own_astore (q := 39) (l' := #[.val (.int i0), .val (.int i1), .val (.int i2), .val (.int (i0 &&& (2147483647 : Int32))), .val (.ref b1), .val (.ref b4), .unset, .unset, .unset, .unset]) G X6.here hx (hb hby at_37) rfl rfl rfl
  obtain ⟨T11, h11, X11, e11, E11, A11, D11, -, st11⟩ := newO X6 hx hZ hown (hw _ (List.mem_of_getElem? (i := 31) rfl)) (hw _ (List.mem_of_getElem? (i := 32) rfl)) (hw _ (List.mem_of_getElem? (i := 33) rfl)) rfl (g := (mkF m 39 #[.val (.int i0), .val (.int i1), .val (.int i2), .val (.int (i0 &&& (2147483647 : Int32))), .val (.ref b1), .val (.ref b4), .unset, .unset, .unset, .unset] [])) rfl (hb hby at_39) (by decide) (by decide)
  obtain ⟨b11, g11⟩ : ∃ z, z = T6.heap.size := ⟨_, rfl⟩
  rw [← g11] at A11 D11 st11
  have ne12 : b_6 ≠ b11 := Nat.ne_of_lt (Nat.lt_of_lt_of_le B6_3.lt (Nat.le_of_eq g11.symm))
  have ne13 : b4 ≠ b11 := Nat.ne_of_lt (Nat.lt_of_lt_of_le B6_1.lt (Nat.le_of_eq g11.symm))
  have F14 : Arv Z T6.heap b1 k1 .char (2 : Int32) [(.int (nar .char c0)), (.int (nar .char c1))] (.int (0 : Int32)) := (F7.keep K6q (ninS ne5 nin0))
  have ne15 : b1 ≠ b11 := Nat.ne_of_lt (Nat.lt_of_lt_of_le F14.lt (Nat.le_of_eq g11.symm))
  have ge_b11 : n0 ≤ b11 := Nat.le_trans Z6 (Nat.le_of_eq g11.symm)
  have Z11 : n0 ≤ h11.size := Nat.le_trans Z6 E11.1
  have F11_name : Fld Z h11 b11 "com/example/crossbill/crossbill/csv/CsvColumn" "name" "Ljava/lang/String;" .null := D11 (Or.inr (hw _ (List.mem_of_getElem? (i := 39) rfl))) (ty := (.object "java/lang/String")) (by decide)
  have F11_index : Fld Z h11 b11 "com/example/crossbill/crossbill/csv/CsvColumn" "index" "I" (.int (0 : Int32)) := D11 (Or.inr (hw _ (List.mem_of_getElem? (i := 41) rfl))) (ty := .int) (by decide)
  replace G : Gets p e below _ (T11.setTop (mkF m 42 #[.val (.int i0), .val (.int i1), .val (.int i2), .val (.int (i0 &&& (2147483647 : Int32))), .val (.ref b1), .val (.ref b4), .unset, .unset, .unset, .unset] [(.ref b11)])) := fun t k => G t (st11 t k)
  replace G := own_dup (q := 43) G X11.here hx (hb hby at_42) rfl rfl
  replace G := own_aload (q := 45) G X11.here hx (hb hby at_43) rfl rfl rfl
  replace G := own_iloadN (q := 46) G X11.here hx (hb hby at_45) rfl rfl
  obtain ⟨_, _, ⟨T16, L16, kk16, nn16⟩, -, X16, ⟨Lc16, hQ16, l16, y16, z16⟩, st16⟩ := X11.specialBack hx (y := (⟨"com/example/crossbill/crossbill/csv/CsvColumn", "<init>", "(Ljava/lang/String;I)V"⟩ : MethodName)) rfl hown (mvT hZ (hw _ (List.mem_of_getElem? (i := 34) rfl))) (mvT hZ (hw _ (List.mem_of_getElem? (i := 35) rfl))) (mvT hZ (hw _ (List.mem_of_getElem? (i := 36) rfl))) (by decide) (backOf (W := 1) (rm7 l Z a0 hw [] b11 b4 (i0 &&& (2147483647 : Int32)) h11 n0 Z11 F11_name F11_index A11 ge_b11) hZ (hw _ (List.mem_of_getElem? (i := 36) rfl)) (hw _ (List.mem_of_getElem? (i := 33) rfl)) (by decide) (by decide)) (g := (mkF m 46 #[.val (.int i0), .val (.int i1), .val (.int i2), .val (.int (i0 &&& (2147483647 : Int32))), .val (.ref b1), .val (.ref b4), .unset, .unset, .unset, .unset] [(.int (i0 &&& (2147483647 : Int32))), (.ref b4), (.ref b11), (.ref b11)])) rfl (by rw [hml]; rfl) (Steps.refl _) (a := b11) (argsL := [(.ref b4), (.int (i0 &&& (2147483647 : Int32)))]) (rest := [(.ref b11)]) (lenOf pd_4 rfl) rfl (by show 2 * 0 + _ ≤ _; exact Nat.le_of_eq rfl) (hb hby at_46) (fun _ _ => ⟨rfl, e11, (by decide : 4 + 0 ≤ _), (by decide : 10 + 0 ≤ _)⟩)
  dsimp only [Pt.U, Pt.locs, Pt.cells, Pt.slots] at X16 l16 y16 z16 st16 hQ16
  subst l16 y16 z16
  obtain ⟨rfl, N16q, K16q, B16_0⟩ := hQ16
  have Z16 : n0 ≤ T16.heap.size := Nat.le_trans Z11 K16q.1
  have N16 := Fr.app N6 N16q
  replace G : Gets p e below _ (T16.setTop (mkF m 49 #[.val (.int i0), .val (.int i1), .val (.int i2), .val (.int (i0 &&& (2147483647 : Int32))), .val (.ref b1), .val (.ref b4), .unset, .unset, .unset, .unset] [(.ref b11)])) := fun t k => G t (st16.trans k)
  replace G := own_astore (q := 51) (l' := #[.val (.int i0), .val (.int i1), .val (.int i2), .val (.int (i0 &&& (2147483647 : Int32))), .val (.ref b1), .val (.ref b4), .val (.ref b11), .unset, .unset, .unset]) G X16.here hx (hb hby at_49) rfl rfl rfl
  replace G := own_aload (q := 53) G X16.here hx (hb hby at_51) rfl rfl rfl
  obtain ⟨_, _, ⟨T17, L17, kk17, nn17⟩, -, X17, ⟨Lc17, hQ17, l17, y17, z17⟩, st17⟩ := Jvm.LawKit.callS X16 hx (y := (⟨"com/example/crossbill/crossbill/csv/CsvColumn", "absent", "(Ljava/lang/String;)Lcom/example/crossbill/crossbill/csv/CsvColumn;"⟩ : MethodName)) hown (mvT hZ (hw _ (List.mem_of_getElem? (i := 42) rfl))) (mvT hZ (hw _ (List.mem_of_getElem? (i := 43) rfl))) (mvT hZ (hw _ (List.mem_of_getElem? (i := 33) rfl))) (mvT hZ (hw _ (List.mem_of_getElem? (i := 44) rfl))) (by decide) (backOf (W := 0) (rm8 l Z a0 hw [] b4 T16.heap n0 Z16 ) hZ (hw _ (List.mem_of_getElem? (i := 44) rfl)) (hw _ (List.mem_of_getElem? (i := 33) rfl)) (by decide) (by decide)) (g := (mkF m 53 #[.val (.int i0), .val (.int i1), .val (.int i2), .val (.int (i0 &&& (2147483647 : Int32))), .val (.ref b1), .val (.ref b4), .val (.ref b11), .unset, .unset, .unset] [(.ref b4)])) rfl (by rw [hml]; rfl) (argsL := [(.ref b4)]) (rest := []) (lenOf pd_6 rfl) rfl (by show 2 * 0 + _ ≤ _; exact Nat.le_of_eq rfl) (hb hby at_53) (fun _ _ => ⟨rfl, rfl, (by decide : 4 + 1 ≤ _), (by decide : 10 + 2 ≤ _)⟩)
  dsimp only [Pt.U, Pt.locs, Pt.cells, Pt.slots] at X17 l17 y17 z17 st17 hQ17
  subst l17 y17 z17
  obtain ⟨b_17, rfl, N17q, K17q, B17_0, B17_1, B17_2⟩ := hQ17
  have ne18 : b11 ≠ b_17 := Nat.ne_of_lt (Nat.lt_of_lt_of_le B16_0.lt B17_0)
  have F19 : Arv Z T16.heap b_6 kb_6 .byte (2 : Int32) [(.int (nar .byte ((nar .char c0).toInt8.toInt32))), (.int (nar .byte ((nar .char c1).toInt8.toInt32)))] (.int (0 : Int32)) := ((B6_3.ext E11).keep K16q (ninS ne12 nin0))
  have ne20 : b_6 ≠ b_17 := Nat.ne_of_lt (Nat.lt_of_lt_of_le F19.lt B17_0)
  have F21 : Fld Z T16.heap b4 "java/lang/String" "coder" "B" (.int (0 : Int32)) := ((B6_1.ext E11).keep K16q (ninS ne13 nin0))
  have ne22 : b4 ≠ b_17 := Nat.ne_of_lt (Nat.lt_of_lt_of_le F21.lt B17_0)
  have F23 : Arv Z T16.heap b1 k1 .char (2 : Int32) [(.int (nar .char c0)), (.int (nar .char c1))] (.int (0 : Int32)) := ((F14.ext E11).keep K16q (ninS ne15 nin0))
  have ne24 : b1 ≠ b_17 := Nat.ne_of_lt (Nat.lt_of_lt_of_le F23.lt B17_0)
  have ge_b_17 : n0 ≤ b_17 := Nat.le_trans Z16 B17_0
  have Z17 : n0 ≤ T17.heap.size := Nat.le_trans Z16 K17q.1
  have N17 := Fr.app N16 N17q
  replace G : Gets p e below _ (T17.setTop (mkF m 56 #[.val (.int i0), .val (.int i1), .val (.int i2), .val (.int (i0 &&& (2147483647 : Int32))), .val (.ref b1), .val (.ref b4), .val (.ref b11), .unset, .unset, .unset] [(.ref b_17)])) := fun t k => G t (st17 t k)
  replace G := own_astore (q := 58) (l' := #[.val (.int i0), .val (.int i1), .val (.int i2), .val (.int (i0 &&& (2147483647 : Int32))), .val (.ref b1), .val (.ref b4), .val (.ref b11), .val (.ref b_17), .unset, .unset]) G X17.here hx (hb hby at_56) rfl rfl rfl
  replace G := own_aload (q := 60) G X17.here hx (hb hby at_58) rfl rfl rfl
  have F26 : Exa Z T17.heap b11 "com/example/crossbill/crossbill/csv/CsvColumn" := ((A11.keep K16q).keep K17q)
  have F27 : Fld Z T17.heap b11 "com/example/crossbill/crossbill/csv/CsvColumn" "index" "I" (.int (i0 &&& (2147483647 : Int32))) := (B16_0.keep K17q nin0)
  obtain ⟨cq25, kq25, q25a, q25b, q25c⟩ := isOf hZ rfl F26
  obtain ⟨_, _, ⟨T25, L25, kk25, nn25⟩, -, X25, ⟨Lc25, hQ25, l25, y25, z25⟩, st25⟩ := X17.virtualBack hx (y := (⟨"com/example/crossbill/crossbill/csv/CsvColumn", "isAbsent", "()Z"⟩ : MethodName)) (z := (⟨"com/example/crossbill/crossbill/csv/CsvColumn", "isAbsent", "()Z"⟩ : MethodName)) hown (mvT hZ (hw _ (List.mem_of_getElem? (i := 47) rfl))) (mvT hZ (hw _ (List.mem_of_getElem? (i := 48) rfl))) (notFace_of_selects (args := #[]) (mvT hZ (hw _ (List.mem_of_getElem? (i := 50) rfl)))) (mvT hZ (hw _ (List.mem_of_getElem? (i := 50) rfl))) (mvT hZ (hw _ (List.mem_of_getElem? (i := 49) rfl))) (by decide) (backOf (W := 0) (rm9v l Z a0 hw [] b11 (i0 &&& (2147483647 : Int32)) T17.heap n0 Z17 F27) hZ (hw _ (List.mem_of_getElem? (i := 51) rfl)) (hw _ (List.mem_of_getElem? (i := 33) rfl)) (by decide) (by decide)) q25a q25c (g := (mkF m 60 #[.val (.int i0), .val (.int i1), .val (.int i2), .val (.int (i0 &&& (2147483647 : Int32))), .val (.ref b1), .val (.ref b4), .val (.ref b11), .val (.ref b_17), .unset, .unset] [(.ref b11)])) rfl (by rw [hml]; rfl) (Steps.refl _) (argsL := []) (rest := []) (lenOf pd_7 rfl) rfl (by show 2 * 0 + _ ≤ _; exact Nat.le_of_eq rfl) (hb hby at_60) (fun _ _ => ⟨rfl, rfl, (by decide : 5 + 0 ≤ _), (by decide : 12 + 0 ≤ _)⟩)
  dsimp only [Pt.U, Pt.locs, Pt.cells, Pt.slots] at X25 l25 y25 z25 st25 hQ25
  subst l25 y25 z25
  obtain ⟨rfl, N25q, e25⟩ := hQ25
  have N25 := Fr.app N17 N25q
  replace G : Gets p e below _ (T25.setTop (mkF m 63 #[.val (.int i0), .val (.int i1), .val (.int i2), .val (.int (i0 &&& (2147483647 : Int32))), .val (.ref b1), .val (.ref b4), .val (.ref b11), .val (.ref b_17), .unset, .unset] [(.int (own_ab (i0 &&& (2147483647 : Int32))))])) := fun t k => G t (st25.trans k)
  have hc63_28 : (own_ab (i0 &&& (2147483647 : Int32))) = (0 : Int32) := own_nab _
  replace G := own_ifNo (q := 66) G X25.here hx (hb hby at_63) ((if0 _ _).trans (teq hc63_28).2) rfl
  replace G := own_iconst (q := 67) G X25.here hx (hb hby at_66) (v := (1 : Int32)) (by decide) rfl
  replace G := own_goto (q := 71) G X25.here hx (hb hby at_67) (by decide) (by decide)
  replace G := own_istore (q := 73) (l' := #[.val (.int i0), .val (.int i1), .val (.int i2), .val (.int (i0 &&& (2147483647 : Int32))), .val (.ref b1), .val (.ref b4), .val (.ref b11), .val (.ref b_17), .val (.int (1 : Int32)), .unset]) G X25.here hx (hb hby at_71) rfl rfl
  replace G := own_aload (q := 75) G X25.here hx (hb hby at_73) rfl rfl rfl
  obtain ⟨cq29, kq29, q29a, q29b, q29c⟩ := isOf hZ e25 B17_1
  obtain ⟨_, _, ⟨T29, L29, kk29, nn29⟩, -, X29, ⟨Lc29, hQ29, l29, y29, z29⟩, st29⟩ := X25.virtualBack hx (y := (⟨"com/example/crossbill/crossbill/csv/CsvColumn", "isAbsent", "()Z"⟩ : MethodName)) (z := (⟨"com/example/crossbill/crossbill/csv/CsvColumn", "isAbsent", "()Z"⟩ : MethodName)) hown (mvT hZ (hw _ (List.mem_of_getElem? (i := 47) rfl))) (mvT hZ (hw _ (List.mem_of_getElem? (i := 48) rfl))) (notFace_of_selects (args := #[]) (mvT hZ (hw _ (List.mem_of_getElem? (i := 50) rfl)))) (mvT hZ (hw _ (List.mem_of_getElem? (i := 50) rfl))) (mvT hZ (hw _ (List.mem_of_getElem? (i := 49) rfl))) (by decide) (backOf (W := 0) (rm9m l Z a0 hw [] b_17 T17.heap n0 Z17 B17_2) hZ (hw _ (List.mem_of_getElem? (i := 51) rfl)) (hw _ (List.mem_of_getElem? (i := 33) rfl)) (by decide) (by decide)) q29a q29c (g := (mkF m 75 #[.val (.int i0), .val (.int i1), .val (.int i2), .val (.int (i0 &&& (2147483647 : Int32))), .val (.ref b1), .val (.ref b4), .val (.ref b11), .val (.ref b_17), .val (.int (1 : Int32)), .unset] [(.ref b_17)])) rfl (by rw [hml]; rfl) (Steps.refl _) (argsL := []) (rest := []) (lenOf pd_7 rfl) rfl (by show 2 * 0 + _ ≤ _; exact Nat.le_of_eq rfl) (hb hby at_75) (fun _ _ => ⟨rfl, e25, (by decide : 5 + 0 ≤ _), (by decide : 12 + 0 ≤ _)⟩)
  dsimp only [Pt.U, Pt.locs, Pt.cells, Pt.slots] at X29 l29 y29 z29 st29 hQ29
  subst l29 y29 z29
  obtain ⟨rfl, N29q, e29⟩ := hQ29
  have N29 := Fr.app N25 N29q
  replace G : Gets p e below _ (T29.setTop (mkF m 78 #[.val (.int i0), .val (.int i1), .val (.int i2), .val (.int (i0 &&& (2147483647 : Int32))), .val (.ref b1), .val (.ref b4), .val (.ref b11), .val (.ref b_17), .val (.int (1 : Int32)), .unset] [(.int (1 : Int32))])) := fun t k => G t (st29.trans k)
  replace G := own_istore (q := 80) (l' := #[.val (.int i0), .val (.int i1), .val (.int i2), .val (.int (i0 &&& (2147483647 : Int32))), .val (.ref b1), .val (.ref b4), .val (.ref b11), .val (.ref b_17), .val (.int (1 : Int32)), .val (.int (1 : Int32))]) G X29.here hx (hb hby at_78) rfl rfl
  replace G := own_iload (q := 82) G X29.here hx (hb hby at_80) rfl rfl
  have hc82_30 : ¬ ((1 : Int32) = (0 : Int32)) := by decide
  replace G := own_ifNo (q := 85) G X29.here hx (hb hby at_82) ((if0 _ _).trans (feq hc82_30).1) rfl
  replace G := own_iload (q := 87) G X29.here hx (hb hby at_85) rfl rfl
  have hc87_31 : ¬ ((1 : Int32) = (0 : Int32)) := by decide
  replace G := own_ifNo (q := 90) G X29.here hx (hb hby at_87) ((if0 _ _).trans (feq hc87_31).1) rfl
  replace G := own_iconst (q := 91) G X29.here hx (hb hby at_90) (v := (1 : Int32)) (by decide) rfl
  replace G := own_goto (q := 95) G X29.here hx (hb hby at_91) (by decide) (by decide)
  obtain ⟨fs, hr, hrun, hended, hW, hsame⟩ := X29.leave (v := some (.int (1 : Int32))) (fun h => by rw [Bd.returns] at h; cases h)
  refine ⟨_, _, G _ (retOut X29 hx Bd.returns rfl (Or.inl ⟨rfl, Or.inr (Or.inl rfl), _, rfl⟩) (hb hby at_95) hr), hrun, hended, _, _, rfl, ?_, ⟨_, rfl⟩, hW, hsame.mono (by decide) (by decide)⟩
  show Q0 Z i0 i1 i2 cw h0 n0 _ T29.heap _
  rw [e29]
  exact ⟨rfl, N29⟩
set_option maxRecDepth 65536 in
set_option maxHeartbeats 40000000 in
theorem comes_1 {Post : Tables → Env → Array Value → State → Outcome → State → Prop} (hpost : ∀ tb e args s v u, (limb_1_1.after args s (.returned v) u = true ∧ limb_1_2.after args s (.returned v) u = true ∧ True) → FrameEnd s (.returned v) u (Jvm.fieldLocs frame_1_writes args s ++ Jvm.arrayLocs frame_1_arrays args s ++ Jvm.staticLocs frame_1_statics s) 24 128 → Post tb e args s (.returned v) u) :
    ArmFor flags0 classFile x code maxLocals ret World_1 tables_1 room_1 Calls_1 rest_1 Pre_1 Post := by
  intro l hfl _ _ p e ha hc hk s m args below hf hA hF happ hP
  obtain ⟨hcalls, hrest, hpre⟩ := hP
  obtain ⟨-, -, -, hnamed, -, -, -, hat⟩ := (Spec.applies_iff hf).mp happ
  obtain ⟨hg, hn⟩ := and_e (Cond.before_iff.mp (show (Jvm.Cond.and given_1 narrow_1).before args s = true from hpre))
  obtain ⟨g1, g2⟩ := and_e hg
  obtain ⟨g3, g4⟩ := and_e g2
  obtain ⟨g5, g6⟩ := and_e g4
  obtain ⟨w0, w1, w2, rfl⟩ : ∃ w0 w1 w2 : Value, args = #[w0, w1, w2] := by
    have hs : args.size = 3 := by simpa [Cond.value, given_1] using g1
    obtain ⟨L⟩ := args
    match L, hs with
    | [w0, w1, w2], _ => exact ⟨w0, w1, w2, rfl⟩
  have hw := fun d (hd : d ∈ tables_1) => atoms_spec (ws := Jvm.Cond.code x code maxLocals ret :: tables_1) hat d (List.mem_cons_of_mem _ hd)
  have hfit : Fit s := fun {y c} hc i hi => by
    obtain ⟨ha, rfl⟩ := Array.getElem?_eq_some_iff.mp hc
    have q := List.all_eq_true.mp ((Array.all_eq_true_iff_forall_mem.mp hF) _ (Array.getElem_mem ha)) i (List.mem_range.mpr hi)
    simpa [Array.getElem?_eq_getElem hi] using q
  obtain ⟨hsets, hown0⟩ := atoms_of _ (rest_1_c_eq ▸ (show rest_1_c.before _ s = true from hrest))
  have hr0 := Cond.before_iff.mp hown0
  obtain ⟨i0, ei0⟩ := is_v g3
  obtain rfl : w0 = (.int i0) := Option.some.inj ei0
  obtain ⟨i1, ei1⟩ := is_v g5
  obtain rfl : w1 = (.int i1) := Option.some.inj ei1
  obtain ⟨i2, ei2⟩ := is_v g6
  obtain rfl : w2 = (.int i2) := Option.some.inj ei2
  have nc := not_v (Cond.before_iff.mp (hsets _ (List.mem_of_getElem? (i := 2) rfl)))
  obtain ⟨cw, ecw⟩ := is_v (Cond.before_iff.mp (hsets _ (List.mem_of_getElem? (i := 1) rfl)))
  have Scw : Sta s s.heap "java/lang/String" "COMPACT_STRINGS" "Z" (.int cw) := Sta.start ecw (Or.inl (hsets _ (List.mem_of_getElem? (i := 0) rfl)))
  have hcw : ¬ (cw = (0 : Int32)) := gotF (Cond.eq_ints ecw (Term.int_eval (0))) nc
  obtain ⟨n, o, h1, h2, h3, _, L, rfl, ⟨rfl, N⟩, hq⟩ := rm0 l s _ hw tables_1 i0 i1 i2 cw s.heap s.heap.size (Nat.le_refl _) Scw hcw p e ha hc hk s m _ below hf ((Spec.applies_iff_loose hf).mp happ).1 ⟨rfl, State.Warmed39.refl s, rfl⟩ trivial
  refine ⟨n, _, h1, h2, h3, hpost _ _ _ _ _ _ ⟨Cond.after_iff.mpr rfl, Cond.after_iff.mpr (eq_i res_at (Term.int_eval (1)) rfl), trivial⟩ ⟨hq.1, hq.2.1, (hq.2.2.sift fun y hy => Or.inr (N y hy)).mono (by decide) (by decide)⟩⟩
theorem main_1_1 : Claimed_1_1 := comes_1 fun _ _ _ _ _ _ h hF => ⟨h.1, hF⟩
theorem main_1_2 : Claimed_1_2 := comes_1 fun _ _ _ _ _ _ h hF => ⟨h.2.1, hF⟩
end Jvm.Pilot.@@N@@
namespace Jvm.Pilot.@@N@@
open Jvm Jvm.ClassFile Sem Op Lib Jvm.Free Jvm.Stand Jvm.Pilot.@@N@@.Jvm.D
/-! MADE BY PROGRAM (witnessworld.py) out of the Statement's table words and the real class files: 20 classes; the members and pool entries that the words name. The judged class is class 1, her method 1. -/
namespace start1
open Jvm.ClassFile
def u (s : String) : CpInfo := .utf8 (stringToUtf16 s)
/-- a pool by its gaps: so many unusable entries, then the entry; so many at the end -/
def gap : Nat → List CpInfo → List CpInfo
  | 0, r => r
  | n + 1, r => .unusable :: gap n r
def poolList (es : List (Nat × CpInfo)) (last : Nat) : List CpInfo := es.foldr (fun e r => gap e.1 (e.2 :: r)) (gap last [])
def pool (es : List (Nat × CpInfo)) (last : Nat) : Array CpInfo := ⟨poolList es last⟩
def fileOf (pool : Array CpInfo) (this : Nat) (attrs : Array Attribute := #[]) (ms : Array MethodInfo := #[]) (fl : Nat := 33) (sup : Nat := 0) (ifs : Array Nat := #[]) (fds : Array FieldInfo := #[]) : ClassFile where
  minorVersion := 0
  majorVersion := 65
  constantPool := pool
  accessFlags := fl
  thisClass := this
  superClass := sup
  interfaces := ifs
  fields := fds
  methods := ms
  attributes := attrs
def plain (name : String) (sup : Option ClassId) : Class where
  name := name
  kind := .ordinary
  loader := none
  accessFlags := 33
  super := sup
  interfaces := #[]
  cf := none
  fields := #[]
  methods := #[]
  instanceTypes := #[]
  staticTypes := #[]
  resolved := #[]
  callSites := []
  init := .initialized
  statics := none
  mirror := none

def pool0 : Array CpInfo := pool [(5, u "<init>"), (0, u "()V"), (1, .class_ 10), (1, u "java/lang/Object")] 113

def k0c0 : Code := { maxStack := 0, maxLocals := 1, code := object_method_1_code, exceptionTable := #[], attributes := #[] }
def k0m0 : Method := { name := "<init>", desc := "()V", sig := { parameters := [], returnType := none }, accessFlags := 1, code := some k0c0 }
/-- java/lang/Object -/
def k0 : Class := { plain "java/lang/Object" none with
  accessFlags := 33
  interfaces := #[]
  cf := some (fileOf pool0 8 #[] #[{ accessFlags := 1, nameIndex := 5, descriptorIndex := 6, attributes := #[] }] 33 0 #[] #[])
  fields := #[]
  methods := #[k0m0]
  instanceTypes := #[]
  staticTypes := #[]
  resolved := Array.replicate 124 none
  statics := none }

def pool1 : Array CpInfo := pool [(2, .class_ 4), (1, u "java/lang/Object"), (0, u "<init>"), (0, u "()V"), (0, .integer 2147483647), (0, .class_ 9), (0, u "java/lang/String"), (0, .methodref 8 11), (0, .nameAndType 5 12), (0, u "([C)V"), (0, .class_ 14), (0, u "com/example/crossbill/crossbill/csv/CsvColumn"), (0, .methodref 13 16), (0, .nameAndType 5 17), (0, u "(Ljava/lang/String;I)V"), (0, .methodref 13 19), (0, .nameAndType 20 21), (0, u "absent"), (0, u "(Ljava/lang/String;)Lcom/example/crossbill/crossbill/csv/CsvColumn;"), (0, .methodref 13 23), (0, .nameAndType 24 25), (0, u "isAbsent"), (0, u "()Z"), (0, .class_ 27), (0, u "com/example/crossbill/crossbill/csv/CsvColumnIsAbsentPinLaw"), (2, u "law"), (0, u "(III)Z")] 5

def k1m0 : Method := { name := "<init>", desc := "()V", sig := { parameters := [], returnType := none }, accessFlags := 1, code := none }
def k1c1 : Code := { maxStack := 5, maxLocals := 10, code := code, exceptionTable := #[], attributes := #[] }
def k1m1 : Method := { name := "law", desc := "(III)Z", sig := { parameters := [.int, .int, .int], returnType := some .boolean }, accessFlags := 9, code := some k1c1 }
/-- com/example/crossbill/crossbill/csv/CsvColumnIsAbsentPinLaw -/
def k1 : Class := { plain "com/example/crossbill/crossbill/csv/CsvColumnIsAbsentPinLaw" (some 0) with
  accessFlags := 49
  interfaces := #[]
  cf := some (fileOf pool1 26 #[] #[{ accessFlags := 1, nameIndex := 5, descriptorIndex := 6, attributes := #[] }, { accessFlags := 9, nameIndex := 30, descriptorIndex := 31, attributes := #[] }] 49 2 #[] #[])
  fields := #[]
  methods := #[k1m0, k1m1]
  instanceTypes := #[]
  staticTypes := #[]
  resolved := Array.replicate 37 none
  statics := none }

def pool2 : Array CpInfo := pool [(1, .class_ 2), (0, u "java/io/Serializable"), (0, .class_ 4), (0, u "java/lang/Object")] 2

/-- java/io/Serializable -/
def k2 : Class := { plain "java/io/Serializable" (some 0) with
  accessFlags := 1537
  interfaces := #[]
  cf := some (fileOf pool2 1 #[] #[] 1537 3 #[] #[])
  fields := #[]
  methods := #[]
  instanceTypes := #[]
  staticTypes := #[]
  resolved := Array.replicate 7 none
  statics := none }

def pool3 : Array CpInfo := pool [(1, .class_ 2), (0, u "java/lang/Comparable"), (0, .class_ 4), (0, u "java/lang/Object")] 7

/-- java/lang/Comparable -/
def k3 : Class := { plain "java/lang/Comparable" (some 0) with
  accessFlags := 1537
  interfaces := #[]
  cf := some (fileOf pool3 1 #[] #[] 1537 3 #[] #[])
  fields := #[]
  methods := #[]
  instanceTypes := #[]
  staticTypes := #[]
  resolved := Array.replicate 12 none
  statics := none }

def pool4 : Array CpInfo := pool [(2, .class_ 4), (1, u "java/lang/CharSequence"), (42, .class_ 48), (0, u "java/lang/CharSequence$1CodePointIterator"), (10, .class_ 60), (0, u "java/lang/CharSequence$1CharIterator"), (5, .class_ 67), (0, u "java/lang/Object")] 63

/-- java/lang/CharSequence -/
def k4 : Class := { plain "java/lang/CharSequence" (some 0) with
  accessFlags := 1537
  interfaces := #[]
  cf := some (fileOf pool4 2 #[.nestMembers #[47, 59]] #[] 1537 66 #[] #[])
  fields := #[]
  methods := #[]
  instanceTypes := #[]
  staticTypes := #[]
  resolved := Array.replicate 131 none
  statics := none }

def pool5 : Array CpInfo := pool [(1, .class_ 2), (0, u "java/lang/constant/Constable"), (0, .class_ 4), (0, u "java/lang/Object")] 6

/-- java/lang/constant/Constable -/
def k5 : Class := { plain "java/lang/constant/Constable" (some 0) with
  accessFlags := 1537
  interfaces := #[]
  cf := some (fileOf pool5 1 #[] #[] 1537 3 #[] #[])
  fields := #[]
  methods := #[]
  instanceTypes := #[]
  staticTypes := #[]
  resolved := Array.replicate 11 none
  statics := none }

def pool6 : Array CpInfo := pool [(1, .class_ 2), (0, u "java/lang/constant/ConstantDesc"), (0, .class_ 4), (0, u "java/lang/Object")] 32

/-- java/lang/constant/ConstantDesc -/
def k6 : Class := { plain "java/lang/constant/ConstantDesc" (some 0) with
  accessFlags := 1537
  interfaces := #[]
  cf := some (fileOf pool6 1 #[] #[] 1537 3 #[] #[])
  fields := #[]
  methods := #[]
  instanceTypes := #[]
  staticTypes := #[]
  resolved := Array.replicate 37 none
  statics := none }

def pool7 : Array CpInfo := pool [(1, .methodref 2 3), (0, .class_ 4), (0, .nameAndType 5 6), (0, u "java/lang/Object"), (0, u "<init>"), (0, u "()V"), (2, .fieldref 10 11), (0, .class_ 12), (0, .nameAndType 13 14), (0, u "java/lang/String"), (0, u "value"), (0, u "[B"), (0, .fieldref 10 16), (0, .nameAndType 17 18), (0, u "coder"), (0, u "B"), (2, u "hash"), (0, u "I"), (2, u "hashIsZero"), (0, u "Z"), (0, .methodref 10 28), (0, .nameAndType 5 29), (0, u "([CIILjava/lang/Void;)V"), (8, .fieldref 10 39), (0, .nameAndType 40 26), (0, u "COMPACT_STRINGS"), (1, .class_ 44), (1, u "java/lang/StringUTF16"), (0, u "compress"), (1, .methodref 42 48), (0, .nameAndType 49 50), (0, u "coderFromArrayLen"), (0, u "([BI)B"), (126, .methodref 42 178), (0, .nameAndType 45 179), (0, u "([CII)[B"), (395, .class_ 576), (0, u "java/lang/CharSequence"), (22, u "CASE_INSENSITIVE_ORDER"), (0, u "Ljava/util/Comparator;"), (409, u "([C)V"), (90, u "serialPersistentFields"), (0, u "[Ljava/io/ObjectStreamField;"), (0, .class_ 1104), (0, u "java/lang/String$CaseInsensitiveComparator"), (1, .class_ 1107), (0, u "java/io/Serializable"), (0, .class_ 1109), (0, u "java/lang/Comparable"), (0, .class_ 1111), (0, u "java/lang/constant/Constable"), (0, .class_ 1113), (0, u "java/lang/constant/ConstantDesc"), (2, u "serialVersionUID"), (0, u "J"), (3, u "REPL"), (0, u "C"), (2, u "LATIN1"), (1, u "UTF16")] 323

def k7m0 : Method := { name := "<init>", desc := "()V", sig := { parameters := [], returnType := none }, accessFlags := 1, code := none }
def k7c1 : Code := { maxStack := 5, maxLocals := 2, code := jdk_42_method_3_code, exceptionTable := #[], attributes := #[] }
def k7m1 : Method := { name := "<init>", desc := "([C)V", sig := { parameters := [(.array .char)], returnType := none }, accessFlags := 1, code := some k7c1 }
def k7c2 : Code := { maxStack := 4, maxLocals := 6, code := jdk_42_method_149_code, exceptionTable := #[], attributes := #[] }
def k7m2 : Method := { name := "<init>", desc := "([CIILjava/lang/Void;)V", sig := { parameters := [(.array .char), .int, .int, (.object "java/lang/Void")], returnType := none }, accessFlags := 2, code := some k7c2 }
/-- java/lang/String -/
def k7 : Class := { plain "java/lang/String" (some 0) with
  accessFlags := 49
  interfaces := #[2, 3, 4, 5, 6]
  cf := some (fileOf pool7 10 #[.nestMembers #[1103]] #[{ accessFlags := 1, nameIndex := 5, descriptorIndex := 6, attributes := #[] }, { accessFlags := 1, nameIndex := 5, descriptorIndex := 1010, attributes := #[] }, { accessFlags := 2, nameIndex := 5, descriptorIndex := 29, attributes := #[] }] 49 2 #[1106, 1108, 575, 1110, 1112] #[{ accessFlags := 18, nameIndex := 13, descriptorIndex := 14, attributes := #[] }, { accessFlags := 18, nameIndex := 17, descriptorIndex := 18, attributes := #[] }, { accessFlags := 2, nameIndex := 21, descriptorIndex := 22, attributes := #[] }, { accessFlags := 2, nameIndex := 25, descriptorIndex := 26, attributes := #[] }, { accessFlags := 26, nameIndex := 1116, descriptorIndex := 1117, attributes := #[] }, { accessFlags := 24, nameIndex := 40, descriptorIndex := 26, attributes := #[] }, { accessFlags := 26, nameIndex := 1101, descriptorIndex := 1102, attributes := #[] }, { accessFlags := 26, nameIndex := 1121, descriptorIndex := 1122, attributes := #[] }, { accessFlags := 25, nameIndex := 599, descriptorIndex := 600, attributes := #[] }, { accessFlags := 24, nameIndex := 1125, descriptorIndex := 18, attributes := #[] }, { accessFlags := 24, nameIndex := 1127, descriptorIndex := 18, attributes := #[] }])
  fields := #[{ name := "value", type := (.array .byte), accessFlags := 18, slot := 0, constantValue := 0 }, { name := "coder", type := .byte, accessFlags := 18, slot := 1, constantValue := 0 }, { name := "hash", type := .int, accessFlags := 2, slot := 2, constantValue := 0 }, { name := "hashIsZero", type := .boolean, accessFlags := 2, slot := 3, constantValue := 0 }, { name := "serialVersionUID", type := .long, accessFlags := 26, slot := 0, constantValue := 0 }, { name := "COMPACT_STRINGS", type := .boolean, accessFlags := 24, slot := 1, constantValue := 0 }, { name := "serialPersistentFields", type := (.array (.object "java/io/ObjectStreamField")), accessFlags := 26, slot := 2, constantValue := 0 }, { name := "REPL", type := .char, accessFlags := 26, slot := 3, constantValue := 0 }, { name := "CASE_INSENSITIVE_ORDER", type := (.object "java/util/Comparator"), accessFlags := 25, slot := 4, constantValue := 0 }, { name := "LATIN1", type := .byte, accessFlags := 24, slot := 5, constantValue := 0 }, { name := "UTF16", type := .byte, accessFlags := 24, slot := 6, constantValue := 0 }]
  methods := #[k7m0, k7m1, k7m2]
  instanceTypes := #[(.array .byte), .byte, .int, .boolean]
  staticTypes := #[.long, .boolean, (.array (.object "java/io/ObjectStreamField")), .char, (.object "java/util/Comparator"), .byte, .byte]
  resolved := Array.replicate 1451 none
  statics := some 0 }

def pool8 : Array CpInfo := pool [(6, .class_ 8), (1, u "java/lang/Object"), (0, u "<init>"), (0, u "()V"), (1, .class_ 14), (1, u "java/lang/StringUTF16"), (31, u "$assertionsDisabled"), (0, u "Z"), (13, u "HI_BYTE_SHIFT"), (0, u "I"), (2, u "LO_BYTE_SHIFT"), (49, .methodref 12 116), (0, .nameAndType 117 118), (0, u "compress"), (0, u "([CI[BII)I"), (3, u "([CII)[B"), (138, u "coderFromArrayLen"), (0, u "([BI)B"), (106, .class_ 371), (1, u "java/lang/StringUTF16$LinesSpliterator"), (58, u "MAX_LENGTH"), (196, .class_ 628), (0, u "java/lang/StringUTF16$CodePointsSpliterator"), (0, .class_ 630), (0, u "java/lang/StringUTF16$CharsSpliterator")] 4

def k8m0 : Method := { name := "<init>", desc := "()V", sig := { parameters := [], returnType := none }, accessFlags := 0, code := none }
def k8c1 : Code := { maxStack := 2, maxLocals := 2, code := jdk_52_method_15_code, exceptionTable := #[], attributes := #[] }
def k8m1 : Method := { name := "coderFromArrayLen", desc := "([BI)B", sig := { parameters := [(.array .byte), .int], returnType := some .byte }, accessFlags := 8, code := some k8c1 }
def k8c2 : Code := { maxStack := 5, maxLocals := 6, code := jdk_52_method_16_code, exceptionTable := #[], attributes := #[] }
def k8m2 : Method := { name := "compress", desc := "([CII)[B", sig := { parameters := [(.array .char), .int, .int], returnType := some (.array .byte) }, accessFlags := 9, code := some k8c2 }
def k8c3 : Code := { maxStack := 3, maxLocals := 7, code := jdk_52_method_21_code, exceptionTable := #[], attributes := #[] }
def k8m3 : Method := { name := "compress", desc := "([CI[BII)I", sig := { parameters := [(.array .char), .int, (.array .byte), .int, .int], returnType := some .int }, accessFlags := 9, code := some k8c3 }
/-- java/lang/StringUTF16 -/
def k8 : Class := { plain "java/lang/StringUTF16" (some 0) with
  accessFlags := 48
  interfaces := #[]
  cf := some (fileOf pool8 12 #[.nestMembers #[627, 629, 369]] #[{ accessFlags := 0, nameIndex := 9, descriptorIndex := 10, attributes := #[] }, { accessFlags := 8, nameIndex := 261, descriptorIndex := 262, attributes := #[] }, { accessFlags := 9, nameIndex := 117, descriptorIndex := 122, attributes := #[] }, { accessFlags := 9, nameIndex := 117, descriptorIndex := 118, attributes := #[] }] 48 6 #[] #[{ accessFlags := 26, nameIndex := 61, descriptorIndex := 62, attributes := #[] }, { accessFlags := 26, nameIndex := 65, descriptorIndex := 62, attributes := #[] }, { accessFlags := 24, nameIndex := 430, descriptorIndex := 62, attributes := #[] }, { accessFlags := 4120, nameIndex := 46, descriptorIndex := 47, attributes := #[] }])
  fields := #[{ name := "HI_BYTE_SHIFT", type := .int, accessFlags := 26, slot := 0, constantValue := 0 }, { name := "LO_BYTE_SHIFT", type := .int, accessFlags := 26, slot := 1, constantValue := 0 }, { name := "MAX_LENGTH", type := .int, accessFlags := 24, slot := 2, constantValue := 0 }, { name := "$assertionsDisabled", type := .boolean, accessFlags := 4120, slot := 3, constantValue := 0 }]
  methods := #[k8m0, k8m1, k8m2, k8m3]
  instanceTypes := #[]
  staticTypes := #[.int, .int, .int, .boolean]
  resolved := Array.replicate 635 none
  statics := none }

def pool9 : Array CpInfo := pool [(1, .methodref 2 3), (0, .class_ 4), (0, .nameAndType 5 6), (0, u "java/lang/Object"), (0, u "<init>"), (0, u "()V"), (0, .fieldref 8 9), (0, .class_ 10), (0, .nameAndType 11 12), (0, u "com/example/crossbill/crossbill/csv/CsvColumn"), (0, u "name"), (0, u "Ljava/lang/String;"), (0, .fieldref 8 14), (0, .nameAndType 15 16), (0, u "index"), (0, u "I"), (0, .methodref 8 18), (0, .nameAndType 5 19), (0, u "(Ljava/lang/String;I)V"), (0, u "ABSENT"), (4, u "absent"), (0, u "(Ljava/lang/String;)Lcom/example/crossbill/crossbill/csv/CsvColumn;"), (2, u "isAbsent"), (0, u "()Z")] 3

def k9c0 : Code := { maxStack := 2, maxLocals := 3, code := prog_12_method_1_code, exceptionTable := #[], attributes := #[] }
def k9m0 : Method := { name := "<init>", desc := "(Ljava/lang/String;I)V", sig := { parameters := [(.object "java/lang/String"), .int], returnType := none }, accessFlags := 0, code := some k9c0 }
def k9c1 : Code := { maxStack := 4, maxLocals := 1, code := prog_12_method_2_code, exceptionTable := #[], attributes := #[] }
def k9m1 : Method := { name := "absent", desc := "(Ljava/lang/String;)Lcom/example/crossbill/crossbill/csv/CsvColumn;", sig := { parameters := [(.object "java/lang/String")], returnType := some (.object "com/example/crossbill/crossbill/csv/CsvColumn") }, accessFlags := 8, code := some k9c1 }
def k9c2 : Code := { maxStack := 2, maxLocals := 1, code := prog_12_method_5_code, exceptionTable := #[], attributes := #[] }
def k9m2 : Method := { name := "isAbsent", desc := "()Z", sig := { parameters := [], returnType := some .boolean }, accessFlags := 1, code := some k9c2 }
/-- com/example/crossbill/crossbill/csv/CsvColumn -/
def k9 : Class := { plain "com/example/crossbill/crossbill/csv/CsvColumn" (some 0) with
  accessFlags := 33
  interfaces := #[]
  cf := some (fileOf pool9 8 #[] #[{ accessFlags := 0, nameIndex := 5, descriptorIndex := 19, attributes := #[] }, { accessFlags := 8, nameIndex := 25, descriptorIndex := 26, attributes := #[] }, { accessFlags := 1, nameIndex := 29, descriptorIndex := 30, attributes := #[] }] 33 2 #[] #[{ accessFlags := 26, nameIndex := 20, descriptorIndex := 16, attributes := #[] }, { accessFlags := 18, nameIndex := 11, descriptorIndex := 12, attributes := #[] }, { accessFlags := 18, nameIndex := 15, descriptorIndex := 16, attributes := #[] }])
  fields := #[{ name := "ABSENT", type := .int, accessFlags := 26, slot := 0, constantValue := 0 }, { name := "name", type := (.object "java/lang/String"), accessFlags := 18, slot := 0, constantValue := 0 }, { name := "index", type := .int, accessFlags := 18, slot := 1, constantValue := 0 }]
  methods := #[k9m0, k9m1, k9m2]
  instanceTypes := #[(.object "java/lang/String"), .int]
  staticTypes := #[.int]
  resolved := Array.replicate 34 none
  statics := none }

def pool10 : Array CpInfo := pool [(4, .class_ 6), (1, u "java/lang/Object"), (0, u "<init>"), (0, u "()V"), (5, .class_ 16), (1, u "java/lang/StringLatin1"), (104, u "$assertionsDisabled"), (0, u "Z"), (98, .class_ 223), (1, u "java/lang/StringLatin1$LinesSpliterator"), (166, .class_ 391), (0, u "java/lang/StringLatin1$CharsSpliterator")] 3

def k10m0 : Method := { name := "<init>", desc := "()V", sig := { parameters := [], returnType := none }, accessFlags := 0, code := none }
/-- java/lang/StringLatin1 -/
def k10 : Class := { plain "java/lang/StringLatin1" (some 0) with
  accessFlags := 48
  interfaces := #[]
  cf := some (fileOf pool10 14 #[.nestMembers #[390, 221]] #[{ accessFlags := 0, nameIndex := 7, descriptorIndex := 8, attributes := #[] }] 48 4 #[] #[{ accessFlags := 4120, nameIndex := 121, descriptorIndex := 122, attributes := #[] }])
  fields := #[{ name := "$assertionsDisabled", type := .boolean, accessFlags := 4120, slot := 0, constantValue := 0 }]
  methods := #[k10m0]
  instanceTypes := #[]
  staticTypes := #[.boolean]
  resolved := Array.replicate 395 none
  statics := none }

def pool11 : Array CpInfo := pool [(2, .class_ 4), (1, u "java/lang/Object"), (0, u "<init>"), (0, u "()V"), (17, .class_ 26), (1, u "jdk/internal/util/Preconditions"), (28, .class_ 56), (0, u "jdk/internal/util/Preconditions$4"), (57, .class_ 115), (0, u "jdk/internal/util/Preconditions$1"), (7, u "SIOOBE_FORMATTER"), (0, u "Ljava/util/function/BiFunction;"), (0, .class_ 126), (0, u "jdk/internal/util/Preconditions$2"), (3, u "AIOOBE_FORMATTER"), (0, .class_ 132), (0, u "jdk/internal/util/Preconditions$3"), (3, u "IOOBE_FORMATTER")] 57

def k11m0 : Method := { name := "<init>", desc := "()V", sig := { parameters := [], returnType := none }, accessFlags := 1, code := none }
/-- jdk/internal/util/Preconditions -/
def k11 : Class := { plain "jdk/internal/util/Preconditions" (some 0) with
  accessFlags := 33
  interfaces := #[]
  cf := some (fileOf pool11 24 #[.nestMembers #[55, 131, 125, 114]] #[{ accessFlags := 1, nameIndex := 5, descriptorIndex := 6, attributes := #[] }] 33 2 #[] #[{ accessFlags := 25, nameIndex := 123, descriptorIndex := 124, attributes := #[] }, { accessFlags := 25, nameIndex := 130, descriptorIndex := 124, attributes := #[] }, { accessFlags := 25, nameIndex := 136, descriptorIndex := 124, attributes := #[] }])
  fields := #[{ name := "SIOOBE_FORMATTER", type := (.object "java/util/function/BiFunction"), accessFlags := 25, slot := 0, constantValue := 0 }, { name := "AIOOBE_FORMATTER", type := (.object "java/util/function/BiFunction"), accessFlags := 25, slot := 1, constantValue := 0 }, { name := "IOOBE_FORMATTER", type := (.object "java/util/function/BiFunction"), accessFlags := 25, slot := 2, constantValue := 0 }]
  methods := #[k11m0]
  instanceTypes := #[]
  staticTypes := #[(.object "java/util/function/BiFunction"), (.object "java/util/function/BiFunction"), (.object "java/util/function/BiFunction")]
  resolved := Array.replicate 194 none
  statics := some 1 }

def pool12 : Array CpInfo := pool [(9, u "<init>"), (6, .class_ 18), (1, u "java/lang/Object"), (0, u "()V"), (1, .class_ 23), (1, u "jdk/internal/util/ArraysSupport"), (0, u "LOG2_ARRAY_LONG_INDEX_SCALE"), (0, u "I"), (2, u "U"), (0, u "Ljdk/internal/misc/Unsafe;"), (8, u "BIG_ENDIAN"), (0, u "Z"), (8, u "LOG2_BYTE_BIT_SIZE"), (4, u "LOG2_ARRAY_INT_INDEX_SCALE"), (54, u "JLA"), (0, u "Ljdk/internal/access/JavaLangAccess;"), (11, u "LOG2_ARRAY_BOOLEAN_INDEX_SCALE"), (9, u "LOG2_ARRAY_BYTE_INDEX_SCALE"), (5, u "LOG2_ARRAY_CHAR_INDEX_SCALE"), (5, u "LOG2_ARRAY_SHORT_INDEX_SCALE"), (18, u "LOG2_ARRAY_FLOAT_INDEX_SCALE"), (24, u "LOG2_ARRAY_DOUBLE_INDEX_SCALE"), (89, u "T_BOOLEAN"), (2, u "T_CHAR"), (1, u "T_FLOAT"), (1, u "T_DOUBLE"), (1, u "T_BYTE"), (1, u "T_SHORT"), (1, u "T_INT"), (1, u "T_LONG"), (1, u "SOFT_MAX_ARRAY_LENGTH")] 83

def k12m0 : Method := { name := "<init>", desc := "()V", sig := { parameters := [], returnType := none }, accessFlags := 2, code := none }
/-- jdk/internal/util/ArraysSupport -/
def k12 : Class := { plain "jdk/internal/util/ArraysSupport" (some 0) with
  accessFlags := 33
  interfaces := #[]
  cf := some (fileOf pool12 21 #[] #[{ accessFlags := 2, nameIndex := 9, descriptorIndex := 19, attributes := #[] }] 33 16 #[] #[{ accessFlags := 24, nameIndex := 28, descriptorIndex := 29, attributes := #[] }, { accessFlags := 26, nameIndex := 38, descriptorIndex := 39, attributes := #[] }, { accessFlags := 25, nameIndex := 121, descriptorIndex := 25, attributes := #[] }, { accessFlags := 25, nameIndex := 131, descriptorIndex := 25, attributes := #[] }, { accessFlags := 25, nameIndex := 137, descriptorIndex := 25, attributes := #[] }, { accessFlags := 25, nameIndex := 143, descriptorIndex := 25, attributes := #[] }, { accessFlags := 25, nameIndex := 53, descriptorIndex := 25, attributes := #[] }, { accessFlags := 25, nameIndex := 24, descriptorIndex := 25, attributes := #[] }, { accessFlags := 25, nameIndex := 162, descriptorIndex := 25, attributes := #[] }, { accessFlags := 25, nameIndex := 187, descriptorIndex := 25, attributes := #[] }, { accessFlags := 26, nameIndex := 48, descriptorIndex := 25, attributes := #[] }, { accessFlags := 25, nameIndex := 277, descriptorIndex := 25, attributes := #[] }, { accessFlags := 25, nameIndex := 280, descriptorIndex := 25, attributes := #[] }, { accessFlags := 25, nameIndex := 282, descriptorIndex := 25, attributes := #[] }, { accessFlags := 25, nameIndex := 284, descriptorIndex := 25, attributes := #[] }, { accessFlags := 25, nameIndex := 286, descriptorIndex := 25, attributes := #[] }, { accessFlags := 25, nameIndex := 288, descriptorIndex := 25, attributes := #[] }, { accessFlags := 25, nameIndex := 290, descriptorIndex := 25, attributes := #[] }, { accessFlags := 25, nameIndex := 292, descriptorIndex := 25, attributes := #[] }, { accessFlags := 26, nameIndex := 108, descriptorIndex := 109, attributes := #[] }, { accessFlags := 25, nameIndex := 294, descriptorIndex := 25, attributes := #[] }])
  fields := #[{ name := "U", type := (.object "jdk/internal/misc/Unsafe"), accessFlags := 24, slot := 0, constantValue := 0 }, { name := "BIG_ENDIAN", type := .boolean, accessFlags := 26, slot := 1, constantValue := 0 }, { name := "LOG2_ARRAY_BOOLEAN_INDEX_SCALE", type := .int, accessFlags := 25, slot := 2, constantValue := 0 }, { name := "LOG2_ARRAY_BYTE_INDEX_SCALE", type := .int, accessFlags := 25, slot := 3, constantValue := 0 }, { name := "LOG2_ARRAY_CHAR_INDEX_SCALE", type := .int, accessFlags := 25, slot := 4, constantValue := 0 }, { name := "LOG2_ARRAY_SHORT_INDEX_SCALE", type := .int, accessFlags := 25, slot := 5, constantValue := 0 }, { name := "LOG2_ARRAY_INT_INDEX_SCALE", type := .int, accessFlags := 25, slot := 6, constantValue := 0 }, { name := "LOG2_ARRAY_LONG_INDEX_SCALE", type := .int, accessFlags := 25, slot := 7, constantValue := 0 }, { name := "LOG2_ARRAY_FLOAT_INDEX_SCALE", type := .int, accessFlags := 25, slot := 8, constantValue := 0 }, { name := "LOG2_ARRAY_DOUBLE_INDEX_SCALE", type := .int, accessFlags := 25, slot := 9, constantValue := 0 }, { name := "LOG2_BYTE_BIT_SIZE", type := .int, accessFlags := 26, slot := 10, constantValue := 0 }, { name := "T_BOOLEAN", type := .int, accessFlags := 25, slot := 11, constantValue := 0 }, { name := "T_CHAR", type := .int, accessFlags := 25, slot := 12, constantValue := 0 }, { name := "T_FLOAT", type := .int, accessFlags := 25, slot := 13, constantValue := 0 }, { name := "T_DOUBLE", type := .int, accessFlags := 25, slot := 14, constantValue := 0 }, { name := "T_BYTE", type := .int, accessFlags := 25, slot := 15, constantValue := 0 }, { name := "T_SHORT", type := .int, accessFlags := 25, slot := 16, constantValue := 0 }, { name := "T_INT", type := .int, accessFlags := 25, slot := 17, constantValue := 0 }, { name := "T_LONG", type := .int, accessFlags := 25, slot := 18, constantValue := 0 }, { name := "JLA", type := (.object "jdk/internal/access/JavaLangAccess"), accessFlags := 26, slot := 19, constantValue := 0 }, { name := "SOFT_MAX_ARRAY_LENGTH", type := .int, accessFlags := 25, slot := 20, constantValue := 0 }]
  methods := #[k12m0]
  instanceTypes := #[]
  staticTypes := #[(.object "jdk/internal/misc/Unsafe"), .boolean, .int, .int, .int, .int, .int, .int, .int, .int, .int, .int, .int, .int, .int, .int, .int, .int, .int, (.object "jdk/internal/access/JavaLangAccess"), .int]
  resolved := Array.replicate 378 none
  statics := none }

def pool13 : Array CpInfo := pool [(1, u "java/lang/Cloneable"), (0, .class_ 1), (0, u "java/lang/Object"), (0, .class_ 3)] 3

/-- java/lang/Cloneable -/
def k13 : Class := { plain "java/lang/Cloneable" (some 0) with
  accessFlags := 1537
  interfaces := #[]
  cf := some (fileOf pool13 2 #[] #[] 1537 4 #[] #[])
  fields := #[]
  methods := #[]
  instanceTypes := #[]
  staticTypes := #[]
  resolved := Array.replicate 8 none
  statics := none }

/-- the primitive byte -/
def k14 : Class := { plain "byte" none with kind := .primitive 'B', accessFlags := 0x411 }
/-- [B -/
def k15 : Class := { plain "[B" (some 0) with kind := .array 14 .byte, interfaces := #[13, 2], accessFlags := 1041 }

/-- the primitive char -/
def k16 : Class := { plain "char" none with kind := .primitive 'C', accessFlags := 0x411 }
/-- [C -/
def k17 : Class := { plain "[C" (some 0) with kind := .array 16 .char, interfaces := #[13, 2], accessFlags := 1041 }

/-- the primitive int -/
def k18 : Class := { plain "int" none with kind := .primitive 'I', accessFlags := 0x411 }
/-- [I -/
def k19 : Class := { plain "[I" (some 0) with kind := .array 18 .int, interfaces := #[13, 2], accessFlags := 1041 }

def heap : Heap := #[{ cls := 7, slots := #[.long 0, .int 1, .null, .int 0, .null, .int 0, .int 0], vm := .statics 7 },
  { cls := 11, slots := #[.null, .null, .null], vm := .statics 11 }]
def classes : Array Class := #[k0, k1, k2, k3, k4, k5, k6, k7, k8, k9, k10, k11, k12, k13, k14, k15, k16, k17, k18, k19]
def interned : List (Array UInt16 × Addr) := []
def slotsUsed : Nat := 10
def theMethod : MethodId := ⟨1, 1⟩
def args0 : Array Value := #[.int 70, .int 71, .int 72]
def aboutOver (below : List Frame) : State where
  vm := { classes := classes, interned := interned.toArray }
  heap := heap
  slotsUsed := slotsUsed
  threads := #[{ frames := .invoking theMethod args0 :: below }]
def below0 : List Frame := [.native { method := ⟨0, 0⟩, args := #[] }]
def about1 : State := aboutOver below0
def p0 : Program := .bare "" "" ""
def e0 : Env := launch0.env 0 0 0
theorem w_frames : about1.frames = Frame.invoking theMethod args0 :: below0 := rfl
set_option maxRecDepth 65536 in
theorem w_args : argsFit about1.vm theMethod args0 = true := by decide +kernel
set_option maxRecDepth 65536 in
theorem w_heap : heapFits about1 = true := by decide +kernel
set_option maxRecDepth 65536 in
theorem w_runnable : about1.curStatus? = some .runnable := by decide +kernel
set_option maxRecDepth 65536 in
theorem w_alone : about1.alone = true := by decide +kernel
set_option maxRecDepth 65536 in
theorem w_named : about1.methodNamed? x = some theMethod := by decide +kernel
set_option maxRecDepth 65536 in
theorem w_hears : about1.hears theMethod below0 = true := by decide +kernel
set_option maxRecDepth 65536 in
theorem w_ripe : about1.ripe theMethod args0 below0 = true := by decide +kernel
theorem w_running : about1.status = .running := rfl
set_option maxRecDepth 65536 in
theorem w_room : about1.hasRoom e0.platform room_1 = true :=
  launch0.hasRoom_least _ room_1 (by decide +kernel) (by decide +kernel) (by decide +kernel) (by decide +kernel) (by decide +kernel) (by decide +kernel)
theorem allAtoms_all (ts : List Jvm.Cond) (a : Array Jvm.Value) (st : Jvm.State) : (allAtoms ts).before a st = ts.all (fun c => c.before a st) := by
  induction ts with
  | nil => rfl
  | cons c t ih =>
    show (Jvm.Cond.and c (allAtoms t)).before a st = _
    rw [Jvm.Cond.before_and, ih, List.all_cons]
def words1 : List Jvm.Cond := Jvm.Cond.code x code maxLocals ret :: tables_1
/-- a 'code' word, met by the world's own term for the bytes: nothing is compared byte by byte -/
theorem code_word {y : MethodName} {bytes : ByteArray} {mx : Nat} {rt : Option FieldType} {a : Array Value} {s : State} {m : MethodId} {meth : Method} {c : Code} (h1 : s.methodNamed? y = some m) (h2 : s.vm.method? m = some meth) (h3 : meth.code = some c) (h4 : c.code = bytes)
    (h5 : (c.maxLocals == mx && c.exceptionTable.isEmpty && decide (c.maxStack ≤ mostOperands) && decide (meth.sig.returnType = rt) && !meth.locks && decide (parseMethodDescriptor y.desc = some meth.sig)) = true) : (Jvm.Cond.code y bytes mx rt).before a s = true := by
  simp only [Bool.and_eq_true, beq_iff_eq, Bool.not_eq_true', decide_eq_true_eq] at h5
  obtain ⟨⟨⟨⟨⟨g1, g2⟩, g3⟩, g4⟩, g5⟩, g6⟩ := h5
  simp [Cond.before, Cond.holds, Cond.value, h1, h2, h3, h4, g1, g2, g3, g4, g5, g6]
def isCode : Jvm.Cond → Bool
  | .code _ _ _ _ => true
  | _ => false
theorem all_split {L : List Jvm.Cond} {P : Jvm.Cond → Bool} (h1 : L.all (fun c => isCode c || P c) = true) (h2 : ∀ c ∈ L.filter isCode, P c = true) : L.all P = true := by
  refine List.all_eq_true.mpr fun c hc => ?_
  have h := List.all_eq_true.mp h1 c hc
  rcases Bool.eq_false_or_eq_true (isCode c) with hi | hi
  · exact h2 c (List.mem_filter.mpr ⟨hc, hi⟩)
  · simpa [hi] using h
set_option maxRecDepth 65536 in
theorem w_c0 : (Jvm.Cond.code x code maxLocals ret).before args0 about1 = true := code_word (m := ⟨1, 1⟩) (meth := k1m1) (c := k1c1) (by decide +kernel) rfl rfl rfl (by decide +kernel)
set_option maxRecDepth 65536 in
theorem w_c1 : (Jvm.Cond.code ({ cls := "java/lang/String", name := "<init>", desc := "([C)V" } : Jvm.MethodName) jdk_42_method_3_code (2 : Nat) (Option.none : Option Jvm.ClassFile.FieldType)).before args0 about1 = true := code_word (m := ⟨7, 1⟩) (meth := k7m1) (c := k7c1) (by decide +kernel) rfl rfl rfl (by decide +kernel)
set_option maxRecDepth 65536 in
theorem w_c2 : (Jvm.Cond.code ({ cls := "java/lang/String", name := "<init>", desc := "([CIILjava/lang/Void;)V" } : Jvm.MethodName) jdk_42_method_149_code (6 : Nat) (Option.none : Option Jvm.ClassFile.FieldType)).before args0 about1 = true := code_word (m := ⟨7, 2⟩) (meth := k7m2) (c := k7c2) (by decide +kernel) rfl rfl rfl (by decide +kernel)
set_option maxRecDepth 65536 in
theorem w_c3 : (Jvm.Cond.code ({ cls := "java/lang/Object", name := "<init>", desc := "()V" } : Jvm.MethodName) object_method_1_code (1 : Nat) (Option.none : Option Jvm.ClassFile.FieldType)).before args0 about1 = true := code_word (m := ⟨0, 0⟩) (meth := k0m0) (c := k0c0) (by decide +kernel) rfl rfl rfl (by decide +kernel)
set_option maxRecDepth 65536 in
theorem w_c4 : (Jvm.Cond.code ({ cls := "java/lang/StringUTF16", name := "compress", desc := "([CII)[B" } : Jvm.MethodName) jdk_52_method_16_code (6 : Nat) (Option.some (Jvm.ClassFile.FieldType.array Jvm.ClassFile.FieldType.byte))).before args0 about1 = true := code_word (m := ⟨8, 2⟩) (meth := k8m2) (c := k8c2) (by decide +kernel) rfl rfl rfl (by decide +kernel)
set_option maxRecDepth 65536 in
theorem w_c5 : (Jvm.Cond.code ({ cls := "java/lang/StringUTF16", name := "compress", desc := "([CI[BII)I" } : Jvm.MethodName) jdk_52_method_21_code (7 : Nat) (Option.some Jvm.ClassFile.FieldType.int)).before args0 about1 = true := code_word (m := ⟨8, 3⟩) (meth := k8m3) (c := k8c3) (by decide +kernel) rfl rfl rfl (by decide +kernel)
set_option maxRecDepth 65536 in
theorem w_c6 : (Jvm.Cond.code ({ cls := "java/lang/StringUTF16", name := "coderFromArrayLen", desc := "([BI)B" } : Jvm.MethodName) jdk_52_method_15_code (2 : Nat) (Option.some Jvm.ClassFile.FieldType.byte)).before args0 about1 = true := code_word (m := ⟨8, 1⟩) (meth := k8m1) (c := k8c1) (by decide +kernel) rfl rfl rfl (by decide +kernel)
set_option maxRecDepth 65536 in
theorem w_c7 : (Jvm.Cond.code ({ cls := "com/example/crossbill/crossbill/csv/CsvColumn", name := "<init>", desc := "(Ljava/lang/String;I)V" } : Jvm.MethodName) prog_12_method_1_code (3 : Nat) (Option.none : Option Jvm.ClassFile.FieldType)).before args0 about1 = true := code_word (m := ⟨9, 0⟩) (meth := k9m0) (c := k9c0) (by decide +kernel) rfl rfl rfl (by decide +kernel)
set_option maxRecDepth 65536 in
theorem w_c8 : (Jvm.Cond.code ({ cls := "com/example/crossbill/crossbill/csv/CsvColumn", name := "absent", desc := "(Ljava/lang/String;)Lcom/example/crossbill/crossbill/csv/CsvColumn;" } : Jvm.MethodName) prog_12_method_2_code (1 : Nat) (Option.some (Jvm.ClassFile.FieldType.object "com/example/crossbill/crossbill/csv/CsvColumn"))).before args0 about1 = true := code_word (m := ⟨9, 1⟩) (meth := k9m1) (c := k9c1) (by decide +kernel) rfl rfl rfl (by decide +kernel)
set_option maxRecDepth 65536 in
theorem w_c9 : (Jvm.Cond.code ({ cls := "com/example/crossbill/crossbill/csv/CsvColumn", name := "isAbsent", desc := "()Z" } : Jvm.MethodName) prog_12_method_5_code (1 : Nat) (Option.some Jvm.ClassFile.FieldType.boolean)).before args0 about1 = true := code_word (m := ⟨9, 2⟩) (meth := k9m2) (c := k9c2) (by decide +kernel) rfl rfl rfl (by decide +kernel)
def codes1 : List Jvm.Cond := [Jvm.Cond.code x code maxLocals ret, Jvm.Cond.code ({ cls := "java/lang/String", name := "<init>", desc := "([C)V" } : Jvm.MethodName) jdk_42_method_3_code (2 : Nat) (Option.none : Option Jvm.ClassFile.FieldType), Jvm.Cond.code ({ cls := "java/lang/String", name := "<init>", desc := "([CIILjava/lang/Void;)V" } : Jvm.MethodName) jdk_42_method_149_code (6 : Nat) (Option.none : Option Jvm.ClassFile.FieldType), Jvm.Cond.code ({ cls := "java/lang/Object", name := "<init>", desc := "()V" } : Jvm.MethodName) object_method_1_code (1 : Nat) (Option.none : Option Jvm.ClassFile.FieldType), Jvm.Cond.code ({ cls := "java/lang/StringUTF16", name := "compress", desc := "([CII)[B" } : Jvm.MethodName) jdk_52_method_16_code (6 : Nat) (Option.some (Jvm.ClassFile.FieldType.array Jvm.ClassFile.FieldType.byte)), Jvm.Cond.code ({ cls := "java/lang/StringUTF16", name := "compress", desc := "([CI[BII)I" } : Jvm.MethodName) jdk_52_method_21_code (7 : Nat) (Option.some Jvm.ClassFile.FieldType.int), Jvm.Cond.code ({ cls := "java/lang/StringUTF16", name := "coderFromArrayLen", desc := "([BI)B" } : Jvm.MethodName) jdk_52_method_15_code (2 : Nat) (Option.some Jvm.ClassFile.FieldType.byte), Jvm.Cond.code ({ cls := "com/example/crossbill/crossbill/csv/CsvColumn", name := "<init>", desc := "(Ljava/lang/String;I)V" } : Jvm.MethodName) prog_12_method_1_code (3 : Nat) (Option.none : Option Jvm.ClassFile.FieldType), Jvm.Cond.code ({ cls := "com/example/crossbill/crossbill/csv/CsvColumn", name := "absent", desc := "(Ljava/lang/String;)Lcom/example/crossbill/crossbill/csv/CsvColumn;" } : Jvm.MethodName) prog_12_method_2_code (1 : Nat) (Option.some (Jvm.ClassFile.FieldType.object "com/example/crossbill/crossbill/csv/CsvColumn")), Jvm.Cond.code ({ cls := "com/example/crossbill/crossbill/csv/CsvColumn", name := "isAbsent", desc := "()Z" } : Jvm.MethodName) prog_12_method_5_code (1 : Nat) (Option.some Jvm.ClassFile.FieldType.boolean)]
set_option maxRecDepth 65536 in
theorem codes_eq : words1.filter isCode = codes1 := rfl
theorem w_codes : ∀ c ∈ words1.filter isCode, c.before args0 about1 = true := by
  rw [codes_eq]
  intro c hc
  simp only [codes1, List.mem_cons, List.not_mem_nil, or_false] at hc
  rcases hc with rfl | rfl | rfl | rfl | rfl | rfl | rfl | rfl | rfl | rfl
  · exact w_c0
  · exact w_c1
  · exact w_c2
  · exact w_c3
  · exact w_c4
  · exact w_c5
  · exact w_c6
  · exact w_c7
  · exact w_c8
  · exact w_c9
set_option maxRecDepth 65536 in
theorem w_t1 : (words1.take 24).all (fun c => isCode c || c.before args0 about1) = true := by decide +kernel
set_option maxRecDepth 65536 in
theorem w_t2 : ((words1.drop 24).take 24).all (fun c => isCode c || c.before args0 about1) = true := by decide +kernel
set_option maxRecDepth 65536 in
theorem w_t3 : ((words1.drop 24).drop 24).all (fun c => isCode c || c.before args0 about1) = true := by decide +kernel
theorem w_tables : (allAtoms (Jvm.Cond.code x code maxLocals ret :: tables_1)).before args0 about1 = true := by
  rw [allAtoms_all]
  show words1.all (fun c => c.before args0 about1) = true
  refine all_split ?_ w_codes
  rw [← List.take_append_drop 24 words1, List.all_append, w_t1, ← List.take_append_drop 24 (words1.drop 24), List.all_append, w_t2, w_t3]
  rfl
set_option maxRecDepth 65536 in
theorem w_rest : rest_1_c.before args0 about1 = true := by decide +kernel
set_option maxRecDepth 65536 in
theorem w_case : (Jvm.Cond.and given_1 narrow_1).before args0 about1 = true := by decide +kernel
theorem w_applies : (headSpec (Jvm.Cond.code x code maxLocals ret :: tables_1) room_1).applies x e0.platform about1 = true :=
  (Spec.applies_iff w_frames).mpr ⟨w_running, w_runnable, w_alone, w_named, w_hears, w_ripe, w_room, w_tables⟩
theorem atStart : AtStart classFile x code maxLocals ret World_1 tables_1 room_1 Calls_1 rest_1 Pre_1 launch0 p0 e0 about1 theMethod args0 below0 :=
  ⟨lists_1, trivial, launch0.admits_env _ _ _, launch0.least_env, fairChoices_fair.cas, fairChoices_fair.clock, w_frames, w_args, w_heap, w_applies, trivial, w_rest, w_case⟩
end start1
theorem witness_1 : WitnessClaimed_1 := ⟨start1.p0, start1.e0, start1.about1, start1.theMethod, start1.args0, start1.below0, start1.atStart⟩
end Jvm.Pilot.@@N@@

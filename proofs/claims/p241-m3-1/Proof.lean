import JvmDerived
import JvmDerived.Pilot.@@N@@Statement
import JvmDerived.Pilot.@@N@@Code
set_option linter.unusedVariables false
set_option linter.unusedSimpArgs false
namespace Jvm.Pilot.@@N@@
open Jvm Jvm.ClassFile Sem Op Lib Jvm.Free Jvm.Stand Jvm.LawKit Jvm.RoadKit Bundle Jvm.Pilot.@@N@@.Jvm.D
abbrev Gets (p : Program) (e : Env) (below : List Frame) (S0 S : State) : Prop := ∀ t, Steps p.tables e below S t → Steps p.tables e below S0 t
section Own
variable {p : Program} {e : Env} {below : List Frame} {S0 T : State} {m : MethodId} {c : Code} {pc q : Nat} {Ls : Array Slot} {st : List Value}
theorem o_iadd {x y v : Int32} (G : Gets p e below S0 (T.setTop (mkF m pc Ls (.int y :: .int x :: st)))) (h : At T m c below) (hx : p.tables.exec = Jvm.exec) (hd : decode c.code pc = .ok (.iadd, 1)) (hv : x + y = v) (hq : pc + 1 = q) : Gets p e below S0 (T.setTop (mkF m q Ls (.int v :: st))) := by
  subst hv hq; exact fun t k => G t (XS.iadd h hx rfl hd rfl k)
theorem o_isub {x y v : Int32} (G : Gets p e below S0 (T.setTop (mkF m pc Ls (.int y :: .int x :: st)))) (h : At T m c below) (hx : p.tables.exec = Jvm.exec) (hd : decode c.code pc = .ok (.isub, 1)) (hv : x - y = v) (hq : pc + 1 = q) : Gets p e below S0 (T.setTop (mkF m q Ls (.int v :: st))) := by
  subst hv hq; exact fun t k => G t (XS.isub h hx rfl hd rfl k)
theorem o_iand {x y v : Int32} (G : Gets p e below S0 (T.setTop (mkF m pc Ls (.int y :: .int x :: st)))) (h : At T m c below) (hx : p.tables.exec = Jvm.exec) (hd : decode c.code pc = .ok (.iand, 1)) (hv : x &&& y = v) (hq : pc + 1 = q) : Gets p e below S0 (T.setTop (mkF m q Ls (.int v :: st))) := by
  subst hv hq; exact fun t k => G t (XS.iand h hx rfl hd rfl k)
theorem o_ior {x y v : Int32} (G : Gets p e below S0 (T.setTop (mkF m pc Ls (.int y :: .int x :: st)))) (h : At T m c below) (hx : p.tables.exec = Jvm.exec) (hd : decode c.code pc = .ok (.ior, 1)) (hv : x ||| y = v) (hq : pc + 1 = q) : Gets p e below S0 (T.setTop (mkF m q Ls (.int v :: st))) := by
  subst hv hq; exact fun t k => G t (XS.ior h hx rfl hd rfl k)
theorem o_ladd {x y v : Int64} (G : Gets p e below S0 (T.setTop (mkF m pc Ls (.long y :: .long x :: st)))) (h : At T m c below) (hx : p.tables.exec = Jvm.exec) (hd : decode c.code pc = .ok (.ladd, 1)) (hv : x + y = v) (hq : pc + 1 = q) : Gets p e below S0 (T.setTop (mkF m q Ls (.long v :: st))) := by
  subst hv hq; exact fun t k => G t (XS.ladd h hx rfl hd rfl k)
theorem o_lsub {x y v : Int64} (G : Gets p e below S0 (T.setTop (mkF m pc Ls (.long y :: .long x :: st)))) (h : At T m c below) (hx : p.tables.exec = Jvm.exec) (hd : decode c.code pc = .ok (.lsub, 1)) (hv : x - y = v) (hq : pc + 1 = q) : Gets p e below S0 (T.setTop (mkF m q Ls (.long v :: st))) := by
  subst hv hq; exact fun t k => G t (XS.lsub h hx rfl hd rfl k)
theorem o_lmul {x y v : Int64} (G : Gets p e below S0 (T.setTop (mkF m pc Ls (.long y :: .long x :: st)))) (h : At T m c below) (hx : p.tables.exec = Jvm.exec) (hd : decode c.code pc = .ok (.lmul, 1)) (hv : x * y = v) (hq : pc + 1 = q) : Gets p e below S0 (T.setTop (mkF m q Ls (.long v :: st))) := by
  subst hv hq; exact fun t k => G t (XS.lmul h hx rfl hd rfl k)
theorem o_land {x y v : Int64} (G : Gets p e below S0 (T.setTop (mkF m pc Ls (.long y :: .long x :: st)))) (h : At T m c below) (hx : p.tables.exec = Jvm.exec) (hd : decode c.code pc = .ok (.land, 1)) (hv : x &&& y = v) (hq : pc + 1 = q) : Gets p e below S0 (T.setTop (mkF m q Ls (.long v :: st))) := by
  subst hv hq; exact fun t k => G t (XS.land h hx rfl hd rfl k)
theorem o_ishl {x y v : Int32} (G : Gets p e below S0 (T.setTop (mkF m pc Ls (.int y :: .int x :: st)))) (h : At T m c below) (hx : p.tables.exec = Jvm.exec) (hd : decode c.code pc = .ok (.ishl, 1)) (hv : (x <<< (y &&& 31)) = v) (hq : pc + 1 = q) : Gets p e below S0 (T.setTop (mkF m q Ls (.int v :: st))) := by
  subst hv hq; exact fun t k => G t (XS.ishl h hx rfl hd rfl k)
theorem o_ishr {x y v : Int32} (G : Gets p e below S0 (T.setTop (mkF m pc Ls (.int y :: .int x :: st)))) (h : At T m c below) (hx : p.tables.exec = Jvm.exec) (hd : decode c.code pc = .ok (.ishr, 1)) (hv : (x >>> (y &&& 31)) = v) (hq : pc + 1 = q) : Gets p e below S0 (T.setTop (mkF m q Ls (.int v :: st))) := by
  subst hv hq; exact fun t k => G t (XS.ishr h hx rfl hd rfl k)
theorem o_iushr {x y v : Int32} (G : Gets p e below S0 (T.setTop (mkF m pc Ls (.int y :: .int x :: st)))) (h : At T m c below) (hx : p.tables.exec = Jvm.exec) (hd : decode c.code pc = .ok (.iushr, 1)) (hv : ((x.toUInt32 >>> (y &&& 31).toUInt32).toInt32) = v) (hq : pc + 1 = q) : Gets p e below S0 (T.setTop (mkF m q Ls (.int v :: st))) := by
  subst hv hq; exact fun t k => G t (XS.iushr h hx rfl hd rfl k)
theorem o_lushr {x : Int64} {y : Int32} {v : Int64} (G : Gets p e below S0 (T.setTop (mkF m pc Ls (.int y :: .long x :: st)))) (h : At T m c below) (hx : p.tables.exec = Jvm.exec) (hd : decode c.code pc = .ok (.lushr, 1)) (hv : ((x.toUInt64 >>> (y &&& 0x3f).toInt64.toUInt64).toInt64) = v) (hq : pc + 1 = q) : Gets p e below S0 (T.setTop (mkF m q Ls (.long v :: st))) := by
  subst hv hq; exact fun t k => G t (XS.lushr h hx rfl hd rfl k)
theorem o_i2l {x : Int32} {v : Int64} (G : Gets p e below S0 (T.setTop (mkF m pc Ls (.int x :: st)))) (h : At T m c below) (hx : p.tables.exec = Jvm.exec) (hd : decode c.code pc = .ok (.i2l, 1)) (hv : (x.toInt64) = v) (hq : pc + 1 = q) : Gets p e below S0 (T.setTop (mkF m q Ls (.long v :: st))) := by
  subst hv hq; exact fun t k => G t (XS.i2l h hx rfl hd rfl k)
theorem o_l2i {x : Int64} {v : Int32} (G : Gets p e below S0 (T.setTop (mkF m pc Ls (.long x :: st)))) (h : At T m c below) (hx : p.tables.exec = Jvm.exec) (hd : decode c.code pc = .ok (.l2i, 1)) (hv : (x.toInt32) = v) (hq : pc + 1 = q) : Gets p e below S0 (T.setTop (mkF m q Ls (.int v :: st))) := by
  subst hv hq; exact fun t k => G t (XS.l2i h hx rfl hd rfl k)
theorem o_i2b {x : Int32} {v : Int32} (G : Gets p e below S0 (T.setTop (mkF m pc Ls (.int x :: st)))) (h : At T m c below) (hx : p.tables.exec = Jvm.exec) (hd : decode c.code pc = .ok (.i2b, 1)) (hv : (x.toInt8.toInt32) = v) (hq : pc + 1 = q) : Gets p e below S0 (T.setTop (mkF m q Ls (.int v :: st))) := by
  subst hv hq; exact fun t k => G t (XS.i2b h hx rfl hd rfl k)
theorem o_i2c {x : Int32} {v : Int32} (G : Gets p e below S0 (T.setTop (mkF m pc Ls (.int x :: st)))) (h : At T m c below) (hx : p.tables.exec = Jvm.exec) (hd : decode c.code pc = .ok (.i2c, 1)) (hv : (x.toUInt32.toUInt16.toUInt32.toInt32) = v) (hq : pc + 1 = q) : Gets p e below S0 (T.setTop (mkF m q Ls (.int v :: st))) := by
  subst hv hq; exact fun t k => G t (XS.i2c h hx rfl hd rfl k)
theorem o_lcmp {x y : Int64} (G : Gets p e below S0 (T.setTop (mkF m pc Ls (.long y :: .long x :: st)))) (h : At T m c below) (hx : p.tables.exec = Jvm.exec) (hd : decode c.code pc = .ok (.lcmp, 1))  (hq : pc + 1 = q) : Gets p e below S0 (T.setTop (mkF m q Ls (.int (lcmpW x y) :: st))) := by
  subst hq; exact fun t k => G t (XS.lcmp h hx rfl hd rfl k)
theorem o_iconst {i : Int} {v : Int32} (G : Gets p e below S0 (T.setTop (mkF m pc Ls st))) (h : At T m c below) (hx : p.tables.exec = Jvm.exec) (hd : decode c.code pc = .ok (.iconst i, 1)) (hv : Int32.ofInt i = v) (hq : pc + 1 = q) : Gets p e below S0 (T.setTop (mkF m q Ls (.int v :: st))) := by
  subst hv hq; exact fun t k => G t (XS.iconst h hx rfl hd k)
theorem o_bipush {i : Int} {v : Int32} (G : Gets p e below S0 (T.setTop (mkF m pc Ls st))) (h : At T m c below) (hx : p.tables.exec = Jvm.exec) (hd : decode c.code pc = .ok (.bipush i, 2)) (hv : (Int8.ofInt i).toInt32 = v) (hq : pc + 2 = q) : Gets p e below S0 (T.setTop (mkF m q Ls (.int v :: st))) := by
  subst hv hq; exact fun t k => G t (XS.bipush h hx rfl hd k)
theorem o_sipush {i : Int} {v : Int32} (G : Gets p e below S0 (T.setTop (mkF m pc Ls st))) (h : At T m c below) (hx : p.tables.exec = Jvm.exec) (hd : decode c.code pc = .ok (.sipush i, 3)) (hv : (Int16.ofInt i).toInt32 = v) (hq : pc + 3 = q) : Gets p e below S0 (T.setTop (mkF m q Ls (.int v :: st))) := by
  subst hv hq; exact fun t k => G t (XS.sipush h hx rfl hd k)
theorem o_lconst {i : Fin 2} {v : Int64} (G : Gets p e below S0 (T.setTop (mkF m pc Ls st))) (h : At T m c below) (hx : p.tables.exec = Jvm.exec) (hd : decode c.code pc = .ok (.lconst i, 1)) (hv : Int64.ofNat i = v) (hq : pc + 1 = q) : Gets p e below S0 (T.setTop (mkF m q Ls (.long v :: st))) := by
  subst hv hq; exact fun t k => G t (XS.lconst h hx rfl hd k)
theorem o_aconst_null  (G : Gets p e below S0 (T.setTop (mkF m pc Ls st))) (h : At T m c below) (hx : p.tables.exec = Jvm.exec) (hd : decode c.code pc = .ok (.aconst_null, 1))  (hq : pc + 1 = q) : Gets p e below S0 (T.setTop (mkF m q Ls (.null :: st))) := by
  subst hq; exact fun t k => G t (XS.aconstNull h hx rfl hd k)
theorem o_iload {i : Nat} {v : Int32} (G : Gets p e below S0 (T.setTop (mkF m pc Ls st))) (h : At T m c below) (hx : p.tables.exec = Jvm.exec) (hd : decode c.code pc = .ok (.iload i, 2)) (hl : Ls[i]? = some (.val (.int v))) (hq : pc + 2 = q) : Gets p e below S0 (T.setTop (mkF m q Ls (.int v :: st))) := by
  subst hq; exact fun t k => G t (XS.iload h hx rfl hd hl k)
theorem o_iloadN {i : Fin 4} {v : Int32} (G : Gets p e below S0 (T.setTop (mkF m pc Ls st))) (h : At T m c below) (hx : p.tables.exec = Jvm.exec) (hd : decode c.code pc = .ok (.iload_n i, 1)) (hl : Ls[i.val]? = some (.val (.int v))) (hq : pc + 1 = q) : Gets p e below S0 (T.setTop (mkF m q Ls (.int v :: st))) := by
  subst hq; exact fun t k => G t (XS.iloadN h hx rfl hd hl k)
theorem o_lload {i : Nat} {v : Int64} (G : Gets p e below S0 (T.setTop (mkF m pc Ls st))) (h : At T m c below) (hx : p.tables.exec = Jvm.exec) (hd : decode c.code pc = .ok (.lload i, 2)) (hl : Ls[i]? = some (.val (.long v))) (hq : pc + 2 = q) : Gets p e below S0 (T.setTop (mkF m q Ls (.long v :: st))) := by
  subst hq; exact fun t k => G t (XS.lload h hx rfl hd hl k)
theorem o_lloadN {i : Fin 4} {v : Int64} (G : Gets p e below S0 (T.setTop (mkF m pc Ls st))) (h : At T m c below) (hx : p.tables.exec = Jvm.exec) (hd : decode c.code pc = .ok (.lload_n i, 1)) (hl : Ls[i.val]? = some (.val (.long v))) (hq : pc + 1 = q) : Gets p e below S0 (T.setTop (mkF m q Ls (.long v :: st))) := by
  subst hq; exact fun t k => G t (XS.lloadN h hx rfl hd hl k)
theorem o_aload {i : Nat} {v : Value} (G : Gets p e below S0 (T.setTop (mkF m pc Ls st))) (h : At T m c below) (hx : p.tables.exec = Jvm.exec) (hd : decode c.code pc = .ok (.aload i, 2)) (hl : Ls[i]? = some (.val v)) (hv : v.isRef = true) (hq : pc + 2 = q) : Gets p e below S0 (T.setTop (mkF m q Ls (v :: st))) := by
  subst hq; exact fun t k => G t (XS.aload h hx rfl hd hl hv k)
theorem o_aloadN {i : Fin 4} {v : Value} (G : Gets p e below S0 (T.setTop (mkF m pc Ls st))) (h : At T m c below) (hx : p.tables.exec = Jvm.exec) (hd : decode c.code pc = .ok (.aload_n i, 1)) (hl : Ls[i.val]? = some (.val v)) (hv : v.isRef = true) (hq : pc + 1 = q) : Gets p e below S0 (T.setTop (mkF m q Ls (v :: st))) := by
  subst hq; exact fun t k => G t (XS.aloadN h hx rfl hd hl hv k)
theorem o_istore {i : Nat} {v : Int32} {l' : Array Slot} (G : Gets p e below S0 (T.setTop (mkF m pc Ls (.int v :: st)))) (h : At T m c below) (hx : p.tables.exec = Jvm.exec) (hd : decode c.code pc = .ok (.istore i, 2)) (hl : storeLocals Ls i (.int v) = some l') (hq : pc + 2 = q) : Gets p e below S0 (T.setTop (mkF m q l' st)) := by
  subst hq; exact fun t k => G t (XS.istore h hx rfl hd rfl hl k)
theorem o_istoreN {i : Fin 4} {v : Int32} {l' : Array Slot} (G : Gets p e below S0 (T.setTop (mkF m pc Ls (.int v :: st)))) (h : At T m c below) (hx : p.tables.exec = Jvm.exec) (hd : decode c.code pc = .ok (.istore_n i, 1)) (hl : storeLocals Ls i.val (.int v) = some l') (hq : pc + 1 = q) : Gets p e below S0 (T.setTop (mkF m q l' st)) := by
  subst hq; exact fun t k => G t (XS.istoreN h hx rfl hd rfl hl k)
theorem o_lstore {i : Nat} {v : Int64} {l' : Array Slot} (G : Gets p e below S0 (T.setTop (mkF m pc Ls (.long v :: st)))) (h : At T m c below) (hx : p.tables.exec = Jvm.exec) (hd : decode c.code pc = .ok (.lstore i, 2)) (hl : storeLocals Ls i (.long v) = some l') (hq : pc + 2 = q) : Gets p e below S0 (T.setTop (mkF m q l' st)) := by
  subst hq; exact fun t k => G t (XS.lstore h hx rfl hd rfl hl k)
theorem o_lstoreN {i : Fin 4} {v : Int64} {l' : Array Slot} (G : Gets p e below S0 (T.setTop (mkF m pc Ls (.long v :: st)))) (h : At T m c below) (hx : p.tables.exec = Jvm.exec) (hd : decode c.code pc = .ok (.lstore_n i, 1)) (hl : storeLocals Ls i.val (.long v) = some l') (hq : pc + 1 = q) : Gets p e below S0 (T.setTop (mkF m q l' st)) := by
  subst hq; exact fun t k => G t (XS.lstoreN h hx rfl hd rfl hl k)
theorem o_astore {i : Nat} {v : Value} {l' : Array Slot} (G : Gets p e below S0 (T.setTop (mkF m pc Ls (v :: st)))) (h : At T m c below) (hx : p.tables.exec = Jvm.exec) (hd : decode c.code pc = .ok (.astore i, 2)) (hv : v.isRef = true) (hl : storeLocals Ls i v = some l') (hq : pc + 2 = q) : Gets p e below S0 (T.setTop (mkF m q l' st)) := by
  subst hq; exact fun t k => G t (XS.astore h hx rfl hd rfl hv hl k)
theorem o_astoreN {i : Fin 4} {v : Value} {l' : Array Slot} (G : Gets p e below S0 (T.setTop (mkF m pc Ls (v :: st)))) (h : At T m c below) (hx : p.tables.exec = Jvm.exec) (hd : decode c.code pc = .ok (.astore_n i, 1)) (hv : v.isRef = true) (hl : storeLocals Ls i.val v = some l') (hq : pc + 1 = q) : Gets p e below S0 (T.setTop (mkF m q l' st)) := by
  subst hq; exact fun t k => G t (XS.astoreN h hx rfl hd rfl hv hl k)
theorem o_iinc {i : Nat} {d : Int} {x w v : Int32} {l' : Array Slot} (G : Gets p e below S0 (T.setTop (mkF m pc Ls st))) (h : At T m c below) (hx : p.tables.exec = Jvm.exec) (hd : decode c.code pc = .ok (.iinc i d, 3)) (hw : Int32.ofInt d = w) (hl : Ls[i]? = some (.val (.int x))) (hv : x + w = v) (hl' : storeLocals Ls i (.int v) = some l') (hq : pc + 3 = q) : Gets p e below S0 (T.setTop (mkF m q l' st)) := by
  subst hw hv hq; exact fun t k => G t (XS.iinc h hx rfl hd hl hl' k)
theorem o_dup {x : Value} (G : Gets p e below S0 (T.setTop (mkF m pc Ls (x :: st)))) (h : At T m c below) (hx : p.tables.exec = Jvm.exec) (hd : decode c.code pc = .ok (.dup, 1)) (hc : x.category = 1) (hq : pc + 1 = q) : Gets p e below S0 (T.setTop (mkF m q Ls (x :: x :: st))) := by
  subst hq; exact fun t k => G t (XS.dup h hx rfl hd rfl hc k)
theorem o_goto {o : Int} (G : Gets p e below S0 (T.setTop (mkF m pc Ls st))) (h : At T m c below) (hx : p.tables.exec = Jvm.exec) (hd : decode c.code pc = .ok (.goto o, 3))  (ho : 0 ≤ (pc : Int) + o) (hp : ((pc : Int) + o).toNat = q) : Gets p e below S0 (T.setTop (mkF m q Ls st)) := by
  exact fun t k => G t (XS.goto h hx rfl rfl hd ho hp k)
theorem o_ifYes {cd : ClassFile.Cond} {o : Int} {x : Int32} (G : Gets p e below S0 (T.setTop (mkF m pc Ls (.int x :: st)))) (h : At T m c below) (hx : p.tables.exec = Jvm.exec) (hd : decode c.code pc = .ok (.ifCond cd o, 3)) (hc : ifCond.holds cd x = true) (ho : 0 ≤ (pc : Int) + o) (hp : ((pc : Int) + o).toNat = q) : Gets p e below S0 (T.setTop (mkF m q Ls st)) := by
  exact fun t k => G t (XS.ifYes h hx rfl rfl hd rfl hc ho hp k)
theorem o_ifNo {cd : ClassFile.Cond} {o : Int} {x : Int32} (G : Gets p e below S0 (T.setTop (mkF m pc Ls (.int x :: st)))) (h : At T m c below) (hx : p.tables.exec = Jvm.exec) (hd : decode c.code pc = .ok (.ifCond cd o, 3)) (hc : ifCond.holds cd x = false) (hq : pc + 3 = q) : Gets p e below S0 (T.setTop (mkF m q Ls st)) := by
  subst hq; exact fun t k => G t (XS.ifNo h hx rfl hd rfl hc k)
theorem o_icmpYes {cd : ClassFile.Cond} {o : Int} {x y : Int32} (G : Gets p e below S0 (T.setTop (mkF m pc Ls (.int y :: .int x :: st)))) (h : At T m c below) (hx : p.tables.exec = Jvm.exec) (hd : decode c.code pc = .ok (.if_icmp cd o, 3)) (hc : if_icmp.holds cd x y = true) (ho : 0 ≤ (pc : Int) + o) (hp : ((pc : Int) + o).toNat = q) : Gets p e below S0 (T.setTop (mkF m q Ls st)) := by
  exact fun t k => G t (XS.icmpYes h hx rfl rfl hd rfl hc ho hp k)
theorem o_icmpNo {cd : ClassFile.Cond} {o : Int} {x y : Int32} (G : Gets p e below S0 (T.setTop (mkF m pc Ls (.int y :: .int x :: st)))) (h : At T m c below) (hx : p.tables.exec = Jvm.exec) (hd : decode c.code pc = .ok (.if_icmp cd o, 3)) (hc : if_icmp.holds cd x y = false) (hq : pc + 3 = q) : Gets p e below S0 (T.setTop (mkF m q Ls st)) := by
  subst hq; exact fun t k => G t (XS.icmpNo h hx rfl hd rfl hc k)
theorem o_w {a0 : Array Value} {Z : State} (hw : ∀ d ∈ tables_1, d.before a0 Z = true) (i : Nat) {d : Jvm.Cond} (h : tables_1[i]? = some d) : d.before a0 Z = true := hw _ (List.mem_of_getElem? h)
theorem o_nxs {T' : State} {st0 : List Value} {g' : JFrame} (G : Gets p e below S0 (T.setTop (mkF m pc Ls st0))) (s : ∀ t, Steps p.tables e below (T'.setTop g') t → Steps p.tables e below (T.setTop (mkF m pc Ls st0)) t) (hg : g' = mkF m q Ls st) : Gets p e below S0 (T'.setTop (mkF m q Ls st)) := by
  subst hg; exact fun t k => G t (s t k)
theorem o_ibw {s : State} {Z : State} {vm1 : Vm} {Ts : List String} (I : IB Z s.vm Ts) (h : s.WarmedH vm1) : IB Z vm1 Ts := by
  obtain ⟨more, h1, h2⟩ := I
  exact ⟨more, h.interned_eq.trans h1, h2⟩
theorem o_backW {l : Launch} {R : Room} {s : State} {args : Array Value} {Z : State} {a0 : Array Value} {h : Heap} {y : MethodName} {bytes : ByteArray} {maxL : Nat} {ret : Option FieldType} {rm : Room} {len W : Nat} {as' : Array Value} {Q : Option Value → Heap → List Loc → Vm → Prop} {V : Vm → Prop}
    (hM : MetFree l y (head1 [Cond.code y bytes maxL ret] rm) (fun a U => a = as' ∧ Z.Warmed39 U.vm ∧ U.heap = h ∧ V U.vm) (fun _ _ _ _ _ => True) (fun _ U o U' => ∃ v L, o = .returned v ∧ Q v U'.heap L U'.vm ∧ ReturnedEndW U o U' L rm.cells rm.slots))
    (hZ : Z.Warmed39 s.vm) (wc : (Cond.code y bytes maxL ret).before a0 Z = true) (wz : (Cond.initialized y.cls).before a0 Z = true) (hf : rm.frames + 1 ≤ R.frames) (hl : W + (maxL + 11) + rm.locals ≤ R.locals) :
    BackS l R p e below s args y len W (fun A a => a = as' ∧ A.U.heap = h ∧ A.cells + rm.cells ≤ R.cells ∧ A.slots + rm.slots ≤ R.slots ∧ V A.U.vm)
      (fun A _ v B => ∃ L, Q v B.U.heap L B.U.vm ∧ B.locs = A.locs ++ L ∧ B.cells = A.cells + rm.cells ∧ B.slots = A.slots + rm.slots) :=
  BackS.of_freeW (bytes := bytes) (maxL := maxL) (ret := ret) (E := fun _ _ o t L k n => k = rm.cells ∧ n = rm.slots ∧ ∃ v, o = .returned v ∧ Q v t.heap L t.vm) hM hf hl
    (fun m meth c A a Y hp => have hU : Z.Warmed39 A.U.vm := wtrans hZ Y.warmed
      ⟨by show (Cond.and _ .tt).before a A.U = true; rw [Cond.before_and, mv hU wc]; rfl, mv hU wc, mv hU wz, hp.2.2.1, hp.2.2.2.1⟩)
    (fun m meth c A a g mk Y hp => ⟨hp.1, wtrans hZ Y.warmed, hp.2.1, hp.2.2.2.2⟩) (fun _ _ _ _ _ _ _ _ _ => trivial)
    (fun _ _ _ _ ⟨v, L, h1, h2, h3⟩ => ⟨L, _, _, h3, rfl, rfl, v, h1, h2⟩)
    (fun m meth c A a g mk v t L k n Y hp _ _ ⟨e1, e2, v', e3, e4⟩ => by cases e3; subst e1 e2; exact ⟨L, e4, rfl, rfl, rfl⟩)
theorem o_backN {l : Launch} {R : Room} {s : State} {args : Array Value} {Z : State} {a0 : Array Value} {h : Heap} {y : MethodName} {bytes : ByteArray} {maxL : Nat} {ret : Option FieldType} {rm : Room} {len W : Nat} {as' : Array Value} {Q : Option Value → Heap → List Loc → Prop} {V : Vm → Prop}
    (hM : MetFree l y (head1 [Cond.code y bytes maxL ret] rm) (fun a U => a = as' ∧ Z.Warmed39 U.vm ∧ U.heap = h ∧ V U.vm) (fun _ _ _ _ _ => True) (fun _ U o U' => ∃ v L, o = .returned v ∧ Q v U'.heap L ∧ FrameEnd U o U' L rm.cells rm.slots))
    (hZ : Z.Warmed39 s.vm) (wc : (Cond.code y bytes maxL ret).before a0 Z = true) (wz : (Cond.initialized y.cls).before a0 Z = true) (hf : rm.frames + 1 ≤ R.frames) (hl : W + (maxL + 11) + rm.locals ≤ R.locals) :
    Back l R p e below s args y len W (fun A a => a = as' ∧ A.U.heap = h ∧ A.cells + rm.cells ≤ R.cells ∧ A.slots + rm.slots ≤ R.slots ∧ V A.U.vm)
      (fun A _ v B => ∃ L, Q v B.U.heap L ∧ B.locs = A.locs ++ L ∧ B.cells = A.cells + rm.cells ∧ B.slots = A.slots + rm.slots) :=
  Back.of_free (bytes := bytes) (maxL := maxL) (ret := ret) (E := fun _ _ o t L k n => k = rm.cells ∧ n = rm.slots ∧ ∃ v, o = .returned v ∧ Q v t.heap L) hM hf hl
    (fun m meth c A a Y hp => have hU : Z.Warmed39 A.U.vm := wtrans hZ Y.warmed
      ⟨by show (Cond.and _ .tt).before a A.U = true; rw [Cond.before_and, mv hU wc]; rfl, mv hU wc, mv hU wz, hp.2.2.1, hp.2.2.2.1⟩)
    (fun m meth c A a g mk Y hp => ⟨hp.1, wtrans hZ Y.warmed, hp.2.1, hp.2.2.2.2⟩) (fun _ _ _ _ _ _ _ _ _ => trivial)
    (fun _ _ _ _ ⟨v, L, h1, h2, h3⟩ => ⟨L, _, _, h3, rfl, rfl, v, h1, h2⟩)
    (fun m meth c A a g mk v t L k n Y hp _ _ ⟨e1, e2, v', e3, e4⟩ => by cases e3; subst e1 e2; exact ⟨L, e4, rfl, rfl, rfl⟩)
theorem o_fne {Z : State} {h : Heap} {a b : Addr} {C n d : String} {v w : Value} (F : Fld Z h a C n d v) (G : Fld Z h b C n d w) (hvw : v ≠ w) : a ≠ b := fun q => by
  subst q
  obtain ⟨c1, cf1, k1, i1, f1, a1, a2, -, -, -, -, a7⟩ := F
  obtain ⟨c2, cf2, k2, i2, f2, b1, b2, -, -, -, -, b7⟩ := G
  cases a1.symm.trans b1
  cases a2.symm.trans b2
  exact hvw (Option.some.inj (a7.symm.trans b7))
theorem o_re {st0 : List Value} (G : Gets p e below S0 (T.setTop (mkF m pc Ls st0))) (hg : st0 = st) : Gets p e below S0 (T.setTop (mkF m pc Ls st)) := by
  subst hg; exact G
theorem o_vb {l : Launch} {R : Room} {s : State} {args : Array Value} {meth : Method} {locs : List Loc} {cells slots : Nat} {Z : State} {a0 : Array Value} {h : Heap} {rest : List Value} {own C : String} {index : Nat} {y : MethodName} {bytes : ByteArray} {maxL : Nat} {ret : Option FieldType} {rm : Room} {Q : Option Value → Heap → List Loc → Prop} {W : Nat} {b : Addr} {argsL : List Value}
    (G : Gets p e below S0 (T.setTop (mkF m pc Ls st))) (X : Stand p l e R s m args below meth c T locs cells slots) (hx : p.tables.exec = Jvm.exec) (hZ : Z.Warmed39 s.vm) (hown : s.vm.findClass own = some m.cls) (hml : Ls.size = c.maxLocals)
    (w : (Cond.methodLink own index y).before a0 Z = true ∧ (Cond.declares y).before a0 Z = true ∧ (Cond.selects C y y).before a0 Z = true ∧ (Cond.instanceMethod y).before a0 Z = true ∧ (Cond.code y bytes maxL ret).before a0 Z = true ∧ (Cond.initialized y.cls).before a0 Z = true)
    (hy : y.cls ≠ "java/lang/invoke/MethodHandle" ∧ y.cls ≠ "java/lang/invoke/VarHandle") (eT : T.heap = h) (F : Exa Z h b C)
    (hM : MetFree l y (head1 [Cond.code y bytes maxL ret] rm) (fun a U => a = (.ref b :: argsL).toArray ∧ Z.Warmed39 U.vm ∧ U.heap = h) (fun _ _ _ _ _ => True) (fun _ U o U' => ∃ v L, o = .returned v ∧ Q v U'.heap L ∧ FrameEnd U o U' L rm.cells rm.slots))
    (hlen : ∀ sig, parseMethodDescriptor y.desc = some sig → argsL.length = sig.parameters.length) (hstack : st = argsL.reverse ++ .ref b :: rest) (hW : (rest.map fun v => v.category).sum ≤ W)
    (hd : decode c.code pc = .ok (.invokevirtual index, 3)) (hq : pc + 3 = q) (hf : rm.frames + 1 ≤ R.frames) (hl : W + (maxL + 11) + rm.locals ≤ R.locals) (hc : cells + rm.cells ≤ R.cells) (hs : slots + rm.slots ≤ R.slots) :
    ∃ T' v L, Stand p l e R s m args below meth c T' (locs ++ L) (cells + rm.cells) (slots + rm.slots) ∧ Q v T'.heap L ∧ Gets p e below S0 (T'.setTop (mkF m q Ls (v.toList ++ rest))) := by
  obtain ⟨cq, kq, qa, qb, qc⟩ := isOf hZ eT F
  obtain ⟨v, _, ⟨T', L', kk, nn⟩, -, X', ⟨Lc, hQ, l1, y1, z1⟩, s1⟩ := X.virtualBack hx (y := y) (z := y) hown (mvT hZ w.1) (mvT hZ w.2.1) (notFace_of_selects (args := #[]) (mvT hZ w.2.2.1)) (mvT hZ w.2.2.1) (mvT hZ w.2.2.2.1) hy (backOf (W := W) hM hZ w.2.2.2.2.1 w.2.2.2.2.2 hf hl) qa qc (g := mkF m pc Ls st) rfl hml (Steps.refl _) (argsL := argsL) (rest := rest) hlen hstack (by show 2 * 0 + _ ≤ _; omega) hd (fun _ _ => ⟨rfl, eT, hc, hs⟩)
  dsimp only [Pt.U, Pt.locs, Pt.cells, Pt.slots] at X' l1 y1 z1 s1 hQ
  subst l1 y1 z1 hq
  exact ⟨T', v, Lc, X', hQ, fun t k => G t (s1.trans k)⟩
theorem o_nxv {T' : State} {st0 : List Value} {g' : JFrame} (G : Gets p e below S0 (T.setTop (mkF m pc Ls st0))) (s : Steps p.tables e below (T.setTop (mkF m pc Ls st0)) (T'.setTop g')) (hg : g' = mkF m q Ls st) : Gets p e below S0 (T'.setTop (mkF m q Ls st)) := by
  subst hg; exact fun t k => G t (s.trans k)
end Own
abbrev o_n0 : String := "java/lang/StringUTF16"
abbrev o_n1 : String := "java/lang/String"
abbrev o_g {p : Program} {e : Env} {below : List Frame} {S0 T : State} {g : JFrame} (_ : Gets p e below S0 (T.setTop g)) : JFrame := g
theorem o_lt32 {x y : Int32} : x < y ↔ x.toInt < y.toInt := Int32.lt_iff_toInt_lt
theorem o_rem {i u : Int32} (d : Int32) (k : Int) (hk : d.toInt = k) (h0 : 0 < k) (h : (u &&& 2147483647) % d = i) : 0 ≤ i.toInt ∧ i.toInt < k := by
  have a1 := c_mask u 2147483647 31 (by decide) (by decide)
  have a2 := (c_irem (u &&& 2147483647) d k hk).1 (by omega)
  rw [h] at a2
  have m2 := Int.emod_nonneg (u &&& 2147483647).toInt (show k ≠ 0 by omega)
  have m3 := Int.emod_lt_of_pos (u &&& 2147483647).toInt h0
  omega
theorem o_num {i : Int32} (k : Int32) (h : i.toInt = k.toInt) : i = k := Int32.toInt_inj.mp h
theorem o_cases4 {i : Int32} (h : 0 ≤ i.toInt ∧ i.toInt < 4) : i = 0 ∨ i = 1 ∨ i = 2 ∨ i = 3 := by
  have e0 : (0 : Int32).toInt = 0 := rfl
  have e1 : (1 : Int32).toInt = 1 := rfl
  have e2 : (2 : Int32).toInt = 2 := rfl
  have e3 : (3 : Int32).toInt = 3 := rfl
  have q : i.toInt = 0 ∨ i.toInt = 1 ∨ i.toInt = 2 ∨ i.toInt = 3 := by omega
  rcases q with q | q | q | q
  · exact Or.inl (o_num 0 q)
  · exact Or.inr (Or.inl (o_num 1 q))
  · exact Or.inr (Or.inr (Or.inl (o_num 2 q)))
  · exact Or.inr (Or.inr (Or.inr ((o_num 3 q))))
theorem o_since (s : State) : s.Since s.vm s.heap.size := ⟨State.Warmed39.refl s, fun j p hj hp => by
  have := (Array.getElem?_eq_some_iff.mp hp).1
  omega⟩
theorem o_strs : ∀ d ∈ Bundle.stringAtoms, d ∈ tables_1 := by decide +kernel
theorem o_tn {x : Int32} (h : 0 ≤ x.toInt) : x.toInt = (x.toBitVec.toNat : Int) := by
  have e : x.toInt = x.toBitVec.toInt := rfl
  rw [e] at h ⊢
  have hl := x.toBitVec.isLt
  have hc := BitVec.toInt_eq_toNat_cond x.toBitVec
  by_cases hh : 2 * x.toBitVec.toNat < 2 ^ 32
  · rw [if_pos hh] at hc; exact hc
  · rw [if_neg hh] at hc; omega
theorem o_or {a b : Int32} (ha : 0 ≤ a.toInt ∧ a.toInt < 65536) (hb : 0 ≤ b.toInt ∧ b.toInt < 65536) : b.toInt ≤ (a ||| b).toInt ∧ (a ||| b).toInt < 65536 := by
  have ea := o_tn ha.1
  have eb := o_tn hb.1
  have e : (a ||| b).toBitVec.toNat = a.toBitVec.toNat ||| b.toBitVec.toNat := by rw [Int32.toBitVec_or, BitVec.toNat_or]
  have l1 : b.toBitVec.toNat ≤ a.toBitVec.toNat ||| b.toBitVec.toNat := Nat.right_le_or
  have l2 : a.toBitVec.toNat ||| b.toBitVec.toNat < 2 ^ 16 := Nat.or_lt_two_pow (by omega) (by omega)
  have hc := BitVec.toInt_eq_toNat_cond (a ||| b).toBitVec
  rw [if_pos (by omega), e] at hc
  have e3 : (a ||| b).toInt = (a ||| b).toBitVec.toInt := rfl
  omega
theorem o_nr (x : Int32) : 0 ≤ (nar .char x).toInt ∧ (nar .char x).toInt < 65536 := by
  have h := c_i2c x
  show 0 ≤ (x.toUInt32.toUInt16.toUInt32.toInt32).toInt ∧ (x.toUInt32.toUInt16.toUInt32.toInt32).toInt < 65536
  omega
theorem o_gc {c : Int32} (h0 : 0 ≤ c.toInt ∧ c.toInt < 65536) (hg : (255 : Int32) < c) : (255 : Int32) < ((((nar .byte ((c >>> ((0 : Int32) &&& 31)).toInt8.toInt32)) &&& (255 : Int32)) <<< ((0 : Int32) &&& 31)) ||| (((nar .byte ((c >>> ((8 : Int32) &&& 31)).toInt8.toInt32)) &&& (255 : Int32)) <<< ((8 : Int32) &&& 31))).toUInt32.toUInt16.toUInt32.toInt32 := by
  rw [Int32.lt_iff_toInt_lt, show (255 : Int32).toInt = 255 from rfl] at hg ⊢
  generalize hA : ((nar .byte ((c >>> ((0 : Int32) &&& 31)).toInt8.toInt32)) &&& (255 : Int32)) <<< ((0 : Int32) &&& 31) = A
  generalize hB : ((nar .byte ((c >>> ((8 : Int32) &&& 31)).toInt8.toInt32)) &&& (255 : Int32)) <<< ((8 : Int32) &&& 31) = B
  have a3 := c_ishl ((nar .byte ((c >>> ((0 : Int32) &&& 31)).toInt8.toInt32)) &&& (255 : Int32)) 0 0 (by decide)
  have a2 := c_mask (nar .byte ((c >>> ((0 : Int32) &&& 31)).toInt8.toInt32)) 255 8 (by decide) (by decide)
  rw [hA] at a3
  have b3 := c_ishl ((nar .byte ((c >>> ((8 : Int32) &&& 31)).toInt8.toInt32)) &&& (255 : Int32)) 8 8 (by decide)
  have b2 := c_mask (nar .byte ((c >>> ((8 : Int32) &&& 31)).toInt8.toInt32)) 255 8 (by decide) (by decide)
  have b1 := c_i2b ((c >>> ((8 : Int32) &&& 31)).toInt8.toInt32)
  have b0 := c_i2b (c >>> ((8 : Int32) &&& 31))
  have bs := c_ishr c 8 8 (by decide)
  rw [hB] at b3
  have b1' : (nar .byte ((c >>> ((8 : Int32) &&& 31)).toInt8.toInt32)).toInt = ((c >>> ((8 : Int32) &&& 31)).toInt8.toInt32.toInt8.toInt32).toInt := rfl
  have rA := rng32 A
  have rB := rng32 B
  have hA2 : 0 ≤ A.toInt ∧ A.toInt < 65536 := by omega
  have hB2 : 256 ≤ B.toInt ∧ B.toInt < 65536 := by omega
  have hor := o_or hA2 ⟨by omega, hB2.2⟩
  have hi := c_i2c (A ||| B)
  omega
theorem o_eqs {args : Array Value} {s : State} {t : Term} {k : Int32} (h : (Jvm.Cond.eq t (.int k)).value args s none s [] = some true) : t.eval args s none [] s = some (.int k) := by
  have e2 : (Term.int k).eval args s none [] s = some (.int k) := Term.int_eval k
  cases ht : t.eval args s none [] s with
  | none => simp [Cond.value, ht] at h
  | some v =>
    cases v <;> simp [Cond.value, ht, e2] at h
    subst h; rfl
theorem o_nar (x : Int32) : nar .char x.toUInt32.toUInt16.toUInt32.toInt32 = x.toUInt32.toUInt16.toUInt32.toInt32 := by
  show x.toUInt32.toUInt16.toUInt32.toInt32.toUInt32.toUInt16.toUInt32.toInt32 = _
  simp only [UInt32.toUInt32_toInt32, UInt16.toUInt16_toUInt32]
theorem o_nc (x : Int32) : narrow FieldType.char (.int x.toUInt32.toUInt16.toUInt32.toInt32) = .int x.toUInt32.toUInt16.toUInt32.toInt32 := by
  show Value.int x.toUInt32.toUInt16.toUInt32.toInt32.toUInt32.toUInt16.toUInt32.toInt32 = _
  exact congrArg Value.int (o_nar x)
theorem o_nb {cc : Int32} (h : cc = 0 ∨ cc = 1) : narrow FieldType.byte (.int cc) = .int cc := by
  rcases h with rfl | rfl <;> rfl
theorem o_m3 {x i : Int32} (h : (x &&& 3) = i) : 0 ≤ i.toInt ∧ i.toInt < 4 := by
  have a := c_mask x 3 2 (by decide) (by decide)
  rw [h] at a; omega
theorem o_sp1 (a : Int32) : (¬ ((255 : Int32) < a)) ∨ ((255 : Int32) < a) := (Decidable.em ((255 : Int32) < a)).symm
theorem o_sp2 (a b : Int32) : (¬ ((255 : Int32) < a) ∧ ¬ ((255 : Int32) < b)) ∨ ((255 : Int32) < a) ∨ (¬ ((255 : Int32) < a) ∧ ((255 : Int32) < b)) := by
  by_cases p : (255 : Int32) < a
  · exact Or.inr (Or.inl p)
  · by_cases q : (255 : Int32) < b
    · exact Or.inr (Or.inr ⟨p, q⟩)
    · exact Or.inl ⟨p, q⟩
theorem o_sp3 (a b d : Int32) : (¬ ((255 : Int32) < a) ∧ ¬ ((255 : Int32) < b) ∧ ¬ ((255 : Int32) < d)) ∨ ((255 : Int32) < a) ∨ (¬ ((255 : Int32) < a) ∧ ((255 : Int32) < b)) ∨ (¬ ((255 : Int32) < a) ∧ ¬ ((255 : Int32) < b) ∧ ((255 : Int32) < d)) := by
  by_cases p : (255 : Int32) < a
  · exact Or.inr (Or.inl p)
  · by_cases q : (255 : Int32) < b
    · exact Or.inr (Or.inr (Or.inl ⟨p, q⟩))
    · by_cases r : (255 : Int32) < d
      · exact Or.inr (Or.inr (Or.inr ⟨p, q, r⟩))
      · exact Or.inl ⟨p, q, r⟩
theorem o_sp4 (a b d f : Int32) : (¬ ((255 : Int32) < a) ∧ ¬ ((255 : Int32) < b) ∧ ¬ ((255 : Int32) < d) ∧ ¬ ((255 : Int32) < f)) ∨ ((255 : Int32) < a) ∨ (¬ ((255 : Int32) < a) ∧ ((255 : Int32) < b)) ∨ (¬ ((255 : Int32) < a) ∧ ¬ ((255 : Int32) < b) ∧ ((255 : Int32) < d)) ∨ (¬ ((255 : Int32) < a) ∧ ¬ ((255 : Int32) < b) ∧ ¬ ((255 : Int32) < d) ∧ ((255 : Int32) < f)) := by
  by_cases p : (255 : Int32) < a
  · exact Or.inr (Or.inl p)
  · by_cases q : (255 : Int32) < b
    · exact Or.inr (Or.inr (Or.inl ⟨p, q⟩))
    · by_cases r : (255 : Int32) < d
      · exact Or.inr (Or.inr (Or.inr (Or.inl ⟨p, q, r⟩)))
      · by_cases t : (255 : Int32) < f
        · exact Or.inr (Or.inr (Or.inr (Or.inr ⟨p, q, r, t⟩)))
        · exact Or.inl ⟨p, q, r, t⟩
theorem o_ln1 {cc nn : Int32} (h : (cc = (0 : Int32) ∧ nn = (1 : Int32)) ∨ (cc = (1 : Int32) ∧ nn = (2 : Int32))) : (nn >>> (cc &&& 31)) = (1 : Int32) := by
  rcases h with ⟨rfl, rfl⟩ | ⟨rfl, rfl⟩ <;> decide
theorem o_nz1 {cc nn : Int32} (h : (cc = (0 : Int32) ∧ nn = (1 : Int32)) ∨ (cc = (1 : Int32) ∧ nn = (2 : Int32))) : ¬ (nn = (0 : Int32)) := by
  rcases h with ⟨rfl, rfl⟩ | ⟨rfl, rfl⟩ <;> decide
theorem o_ln2 {cc nn : Int32} (h : (cc = (0 : Int32) ∧ nn = (2 : Int32)) ∨ (cc = (1 : Int32) ∧ nn = (4 : Int32))) : (nn >>> (cc &&& 31)) = (2 : Int32) := by
  rcases h with ⟨rfl, rfl⟩ | ⟨rfl, rfl⟩ <;> decide
theorem o_nz2 {cc nn : Int32} (h : (cc = (0 : Int32) ∧ nn = (2 : Int32)) ∨ (cc = (1 : Int32) ∧ nn = (4 : Int32))) : ¬ (nn = (0 : Int32)) := by
  rcases h with ⟨rfl, rfl⟩ | ⟨rfl, rfl⟩ <;> decide
theorem o_ln3 {cc nn : Int32} (h : (cc = (0 : Int32) ∧ nn = (3 : Int32)) ∨ (cc = (1 : Int32) ∧ nn = (6 : Int32))) : (nn >>> (cc &&& 31)) = (3 : Int32) := by
  rcases h with ⟨rfl, rfl⟩ | ⟨rfl, rfl⟩ <;> decide
theorem o_nz3 {cc nn : Int32} (h : (cc = (0 : Int32) ∧ nn = (3 : Int32)) ∨ (cc = (1 : Int32) ∧ nn = (6 : Int32))) : ¬ (nn = (0 : Int32)) := by
  rcases h with ⟨rfl, rfl⟩ | ⟨rfl, rfl⟩ <;> decide
theorem o_ln4 {cc nn : Int32} (h : (cc = (0 : Int32) ∧ nn = (4 : Int32)) ∨ (cc = (1 : Int32) ∧ nn = (8 : Int32))) : (nn >>> (cc &&& 31)) = (4 : Int32) := by
  rcases h with ⟨rfl, rfl⟩ | ⟨rfl, rfl⟩ <;> decide
theorem o_nz4 {cc nn : Int32} (h : (cc = (0 : Int32) ∧ nn = (4 : Int32)) ∨ (cc = (1 : Int32) ∧ nn = (8 : Int32))) : ¬ (nn = (0 : Int32)) := by
  rcases h with ⟨rfl, rfl⟩ | ⟨rfl, rfl⟩ <;> decide
theorem d11_0 : decode jdk_52_method_5_code 0 = .ok (.getstatic 44, 3) := by decide +kernel
theorem d11_3 : decode jdk_52_method_5_code 3 = .ok (.ifCond .ne 25, 3) := by decide +kernel
theorem d11_28 : decode jdk_52_method_5_code 28 = .ok (.iload_n 1, 1) := by decide +kernel
theorem d11_29 : decode jdk_52_method_5_code 29 = .ok (.iconst 1, 1) := by decide +kernel
theorem d11_30 : decode jdk_52_method_5_code 30 = .ok (.ishl, 1) := by decide +kernel
theorem d11_31 : decode jdk_52_method_5_code 31 = .ok (.istore_n 1, 1) := by decide +kernel
theorem d11_32 : decode jdk_52_method_5_code 32 = .ok (.aload_n 0, 1) := by decide +kernel
theorem d11_33 : decode jdk_52_method_5_code 33 = .ok (.iload_n 1, 1) := by decide +kernel
theorem d11_34 : decode jdk_52_method_5_code 34 = .ok (.iinc 1 1, 3) := by decide +kernel
theorem d11_37 : decode jdk_52_method_5_code 37 = .ok (.baload, 1) := by decide +kernel
theorem d11_38 : decode jdk_52_method_5_code 38 = .ok (.sipush 255, 3) := by decide +kernel
theorem d11_41 : decode jdk_52_method_5_code 41 = .ok (.iand, 1) := by decide +kernel
theorem d11_42 : decode jdk_52_method_5_code 42 = .ok (.getstatic 59, 3) := by decide +kernel
theorem d11_45 : decode jdk_52_method_5_code 45 = .ok (.ishl, 1) := by decide +kernel
theorem d11_46 : decode jdk_52_method_5_code 46 = .ok (.aload_n 0, 1) := by decide +kernel
theorem d11_47 : decode jdk_52_method_5_code 47 = .ok (.iload_n 1, 1) := by decide +kernel
theorem d11_48 : decode jdk_52_method_5_code 48 = .ok (.baload, 1) := by decide +kernel
theorem d11_49 : decode jdk_52_method_5_code 49 = .ok (.sipush 255, 3) := by decide +kernel
theorem d11_52 : decode jdk_52_method_5_code 52 = .ok (.iand, 1) := by decide +kernel
theorem d11_53 : decode jdk_52_method_5_code 53 = .ok (.getstatic 63, 3) := by decide +kernel
theorem d11_56 : decode jdk_52_method_5_code 56 = .ok (.ishl, 1) := by decide +kernel
theorem d11_57 : decode jdk_52_method_5_code 57 = .ok (.ior, 1) := by decide +kernel
theorem d11_58 : decode jdk_52_method_5_code 58 = .ok (.i2c, 1) := by decide +kernel
theorem d11_59 : decode jdk_52_method_5_code 59 = .ok (.ireturn, 1) := by decide +kernel
theorem pn_java_lang_StringUTF16 : plainName o_n0 = true := by first | (simp [plainName, overriddenIn]; done) | decide +kernel
theorem ef_11j0 (m : MethodId) (x0 : Addr) : entryFrame m #[(.ref x0), (.int 0)] 2 = mkF m 0 #[.val (.ref x0), .val (.int 0)] [] := by first | (simp [entryFrame, mkF, argsToLocals, Value.category]; done) | rfl
def Q11j0 (Z : State) (d : Addr) (kd : ClassId) (nn : Int32) (vs : List Value) (u0 : Int32) (u1 : Int32) (h0 : Heap) (n0 : Nat) (v : Option Value) (h : Heap) (L : List Loc) : Prop := v = some (.int ((((u0 &&& (255 : Int32)) <<< ((0 : Int32) &&& 31)) ||| ((u1 &&& (255 : Int32)) <<< ((8 : Int32) &&& 31))).toUInt32.toUInt16.toUInt32.toInt32)) ∧ Fr n0 L ∧ h = h0
set_option maxRecDepth 65536 in
set_option maxHeartbeats 40000000 in
theorem rm11j0 (l : Launch) (Z : State) (a0 : Array Value) (hw : ∀ d ∈ tables_1, d.before a0 Z = true) (ws : List Jvm.Cond) (d : Addr) (kd : ClassId) (nn : Int32) (vs : List Value) (u0 : Int32) (u1 : Int32) (h0 : Heap) (n0 : Nat) (Z0 : n0 ≤ h0.size) (P0 : Old Z n0 h0) (P1 : Sta Z Z.heap o_n0 "$assertionsDisabled" "Z" (.int 1)) (P2 : Sta Z Z.heap o_n0 "HI_BYTE_SHIFT" "I" (.int 0)) (P3 : Sta Z Z.heap o_n0 "LO_BYTE_SHIFT" "I" (.int 8)) (P4 : Arv Z h0 d kd .byte nn vs (.int 0)) (hi0 : ¬ ((0 : Int32) < 0) ∧ (0 : Int32) < nn) (hi1 : ¬ ((1 : Int32) < 0) ∧ (1 : Int32) < nn) (hy0 : vs.getD (0 : Int32).toNatClampNeg (.int 0) = .int u0) (hy1 : vs.getD (1 : Int32).toNatClampNeg (.int 0) = .int u1) :
    MetFree l (⟨o_n0, "getChar", "([BI)C"⟩ : MethodName) (head1 (Jvm.Cond.code (⟨o_n0, "getChar", "([BI)C"⟩ : MethodName) jdk_52_method_5_code 2 (some .char) :: ws) ({ frames := 0, cells := 0, slots := 0, locals := 0 } : Room)) (fun argz U => argz = #[(.ref d), (.int 0)] ∧ Z.Warmed39 U.vm ∧ U.heap = h0) (fun _ _ _ _ _ => True) (fun _ U o U' => ∃ v L, o = .returned v ∧ Q11j0 Z d kd nn vs u0 u1 h0 n0 v U'.heap L ∧ FrameEnd U o U' L ({ frames := 0, cells := 0, slots := 0, locals := 0 } : Room).cells ({ frames := 0, cells := 0, slots := 0, locals := 0 } : Room).slots) := by
  refine MetFree.of_bodySF (plainFor_of_name pn_java_lang_StringUTF16) hisR ?_
  intro p e s m args below meth c s₁ Bd hml0 hP hK
  obtain ⟨rfl, hZ, hh⟩ := hP
  have hx := Bd.exec
  have hby := Bd.bytes
  have hml : c.maxLocals = 2 := hml0
  have hown : s.vm.findClass o_n0 = some m.cls := findClass_of_methodNamed Bd.named
  have hnm := (name_of_methodNamed Bd.named Bd.method).1
  have X0 : Stand p l e ({ frames := 0, cells := 0, slots := 0, locals := 0 } : Room) s m #[(.ref d), (.int 0)] below meth c s₁ [] 0 0 := Stand.of_body Bd
  have e0 : s₁.heap = h0 := by rw [← hh, Bd.state]; rfl
  have N0 := Fr.nil n0
  have G : Gets p e below (s₁.setTop (entryFrame m #[(.ref d), (.int 0)] 2)) (s₁.setTop (mkF m 0 #[.val (.ref d), .val (.int 0)] [])) := fun t k => castTop (ef_11j0 m d) k
  have F1 : Sta Z h0 o_n0 "$assertionsDisabled" "Z" (.int 1) := P1.ext P0.2
  obtain ⟨T2, X2, e2, st2⟩ := getS2 X0 hx hZ hown (host := "") (Or.inl (o_w hw 48 rfl)) Via.refl e0 F1 (g := o_g G) rfl (hb hby d11_0)
  replace G := o_nxs (q := 3) (st := [(.int 1)]) G st2 rfl
  replace G := o_ifYes (q := 28) G X2.here hx (hb hby d11_3) (by decide) (by decide) (by decide)
  replace G := o_iloadN (q := 29) G X2.here hx (hb hby d11_28) rfl rfl
  replace G := o_iconst (q := 30) G X2.here hx (hb hby d11_29) (v := (1 : Int32)) (by decide) rfl
  replace G := o_ishl (q := 31) G X2.here hx (hb hby d11_30) (by decide : ((0 : Int32) <<< ((1 : Int32) &&& 31)) = (0 : Int32)) rfl
  replace G := o_istoreN (q := 32) (l' := #[.val (.ref d), .val (.int 0)]) G X2.here hx (hb hby d11_31) rfl rfl
  replace G := o_aloadN (q := 33) G X2.here hx (hb hby d11_32) rfl rfl rfl
  replace G := o_iloadN (q := 34) G X2.here hx (hb hby d11_33) rfl rfl
  replace G := o_iinc (q := 37) (l' := #[.val (.ref d), .val (.int 1)]) (w := (1 : Int32)) G X2.here hx (hb hby d11_34) (by decide) rfl (by decide : ((0 : Int32) + (1 : Int32)) = (1 : Int32)) rfl rfl
  obtain ⟨c4, Ar4, -, S4, -, H4, -⟩ := id P4
  have hin4 : ¬ ((0 : Int32) < 0 ∨ c4.slots.size ≤ ((0 : Int32)).toNatClampNeg) := inb_of S4 hi0
  replace G := o_nxs (q := 38) (st := [(.int u0)]) G (X2.baloadBytes hx (j := (0 : Int32)) (v := (.int u0)) (by rw [e2]; exact Ar4.1) (State.isArrayOf_alike hZ.alike Ar4.2.1) Ar4.2.2 hin4 (Has.at H4 hin4 hy0) (g := o_g G) rfl rfl (hb hby d11_37)) rfl
  replace G := o_sipush (q := 41) G X2.here hx (hb hby d11_38) (v := (255 : Int32)) (by decide) rfl
  replace G := o_iand (q := 42) G X2.here hx (hb hby d11_41) rfl rfl
  have F5 : Sta Z h0 o_n0 "HI_BYTE_SHIFT" "I" (.int 0) := P2.ext P0.2
  obtain ⟨T6, X6, e6, st6⟩ := getS2 X2 hx hZ hown (host := "") (Or.inl (o_w hw 49 rfl)) Via.refl e2 F5 (g := o_g G) rfl (hb hby d11_42)
  replace G := o_nxs (q := 45) (st := [(.int 0), (.int (u0 &&& (255 : Int32)))]) G st6 rfl
  replace G := o_ishl (q := 46) G X6.here hx (hb hby d11_45) rfl rfl
  replace G := o_aloadN (q := 47) G X6.here hx (hb hby d11_46) rfl rfl rfl
  replace G := o_iloadN (q := 48) G X6.here hx (hb hby d11_47) rfl rfl
  obtain ⟨c7, Ar7, -, S7, -, H7, -⟩ := id P4
  have hin7 : ¬ ((1 : Int32) < 0 ∨ c7.slots.size ≤ ((1 : Int32)).toNatClampNeg) := inb_of S7 hi1
  replace G := o_nxs (q := 49) (st := [(.int u1), (.int ((u0 &&& (255 : Int32)) <<< ((0 : Int32) &&& 31)))]) G (X6.baloadBytes hx (j := (1 : Int32)) (v := (.int u1)) (by rw [e6]; exact Ar7.1) (State.isArrayOf_alike hZ.alike Ar7.2.1) Ar7.2.2 hin7 (Has.at H7 hin7 hy1) (g := o_g G) rfl rfl (hb hby d11_48)) rfl
  replace G := o_sipush (q := 52) G X6.here hx (hb hby d11_49) (v := (255 : Int32)) (by decide) rfl
  replace G := o_iand (q := 53) G X6.here hx (hb hby d11_52) rfl rfl
  have F8 : Sta Z h0 o_n0 "LO_BYTE_SHIFT" "I" (.int 8) := P3.ext P0.2
  obtain ⟨T9, X9, e9, st9⟩ := getS2 X6 hx hZ hown (host := "") (Or.inl (o_w hw 50 rfl)) Via.refl e6 F8 (g := o_g G) rfl (hb hby d11_53)
  replace G := o_nxs (q := 56) (st := [(.int 8), (.int (u1 &&& (255 : Int32))), (.int ((u0 &&& (255 : Int32)) <<< ((0 : Int32) &&& 31)))]) G st9 rfl
  replace G := o_ishl (q := 57) G X9.here hx (hb hby d11_56) rfl rfl
  replace G := o_ior (q := 58) G X9.here hx (hb hby d11_57) rfl rfl
  replace G := o_i2c (q := 59) G X9.here hx (hb hby d11_58) rfl rfl
  obtain ⟨fs, hr, hrun, hended, hW, hsame⟩ := X9.leave (v := some (.int ((((u0 &&& (255 : Int32)) <<< ((0 : Int32) &&& 31)) ||| ((u1 &&& (255 : Int32)) <<< ((8 : Int32) &&& 31))).toUInt32.toUInt16.toUInt32.toInt32))) (fun h => by rw [Bd.returns] at h; cases h)
  refine ⟨_, _, G _ (retOut X9 hx Bd.returns (o_nc _) (Or.inl ⟨rfl, Or.inr (Or.inr (Or.inr (Or.inl rfl))), _, rfl⟩) (hb hby d11_59) hr), hrun, hended, _, _, rfl, ?_, ⟨_, rfl⟩, hW, hsame.mono (by decide) (by decide)⟩
  show Q11j0 Z d kd nn vs u0 u1 h0 n0 _ T9.heap _
  rw [e9]
  exact ⟨rfl, N0, rfl⟩
theorem ef_11j1 (m : MethodId) (x0 : Addr) : entryFrame m #[(.ref x0), (.int 1)] 2 = mkF m 0 #[.val (.ref x0), .val (.int 1)] [] := by first | (simp [entryFrame, mkF, argsToLocals, Value.category]; done) | rfl
def Q11j1 (Z : State) (d : Addr) (kd : ClassId) (nn : Int32) (vs : List Value) (u0 : Int32) (u1 : Int32) (h0 : Heap) (n0 : Nat) (v : Option Value) (h : Heap) (L : List Loc) : Prop := v = some (.int ((((u0 &&& (255 : Int32)) <<< ((0 : Int32) &&& 31)) ||| ((u1 &&& (255 : Int32)) <<< ((8 : Int32) &&& 31))).toUInt32.toUInt16.toUInt32.toInt32)) ∧ Fr n0 L ∧ h = h0
set_option maxRecDepth 65536 in
set_option maxHeartbeats 40000000 in
theorem rm11j1 (l : Launch) (Z : State) (a0 : Array Value) (hw : ∀ d ∈ tables_1, d.before a0 Z = true) (ws : List Jvm.Cond) (d : Addr) (kd : ClassId) (nn : Int32) (vs : List Value) (u0 : Int32) (u1 : Int32) (h0 : Heap) (n0 : Nat) (Z0 : n0 ≤ h0.size) (P0 : Old Z n0 h0) (P1 : Sta Z Z.heap o_n0 "$assertionsDisabled" "Z" (.int 1)) (P2 : Sta Z Z.heap o_n0 "HI_BYTE_SHIFT" "I" (.int 0)) (P3 : Sta Z Z.heap o_n0 "LO_BYTE_SHIFT" "I" (.int 8)) (P4 : Arv Z h0 d kd .byte nn vs (.int 0)) (hi0 : ¬ ((2 : Int32) < 0) ∧ (2 : Int32) < nn) (hi1 : ¬ ((3 : Int32) < 0) ∧ (3 : Int32) < nn) (hy0 : vs.getD (2 : Int32).toNatClampNeg (.int 0) = .int u0) (hy1 : vs.getD (3 : Int32).toNatClampNeg (.int 0) = .int u1) :
    MetFree l (⟨o_n0, "getChar", "([BI)C"⟩ : MethodName) (head1 (Jvm.Cond.code (⟨o_n0, "getChar", "([BI)C"⟩ : MethodName) jdk_52_method_5_code 2 (some .char) :: ws) ({ frames := 0, cells := 0, slots := 0, locals := 0 } : Room)) (fun argz U => argz = #[(.ref d), (.int 1)] ∧ Z.Warmed39 U.vm ∧ U.heap = h0) (fun _ _ _ _ _ => True) (fun _ U o U' => ∃ v L, o = .returned v ∧ Q11j1 Z d kd nn vs u0 u1 h0 n0 v U'.heap L ∧ FrameEnd U o U' L ({ frames := 0, cells := 0, slots := 0, locals := 0 } : Room).cells ({ frames := 0, cells := 0, slots := 0, locals := 0 } : Room).slots) := by
  refine MetFree.of_bodySF (plainFor_of_name pn_java_lang_StringUTF16) hisR ?_
  intro p e s m args below meth c s₁ Bd hml0 hP hK
  obtain ⟨rfl, hZ, hh⟩ := hP
  have hx := Bd.exec
  have hby := Bd.bytes
  have hml : c.maxLocals = 2 := hml0
  have hown : s.vm.findClass o_n0 = some m.cls := findClass_of_methodNamed Bd.named
  have hnm := (name_of_methodNamed Bd.named Bd.method).1
  have X0 : Stand p l e ({ frames := 0, cells := 0, slots := 0, locals := 0 } : Room) s m #[(.ref d), (.int 1)] below meth c s₁ [] 0 0 := Stand.of_body Bd
  have e0 : s₁.heap = h0 := by rw [← hh, Bd.state]; rfl
  have N0 := Fr.nil n0
  have G : Gets p e below (s₁.setTop (entryFrame m #[(.ref d), (.int 1)] 2)) (s₁.setTop (mkF m 0 #[.val (.ref d), .val (.int 1)] [])) := fun t k => castTop (ef_11j1 m d) k
  have F1 : Sta Z h0 o_n0 "$assertionsDisabled" "Z" (.int 1) := P1.ext P0.2
  obtain ⟨T2, X2, e2, st2⟩ := getS2 X0 hx hZ hown (host := "") (Or.inl (o_w hw 48 rfl)) Via.refl e0 F1 (g := o_g G) rfl (hb hby d11_0)
  replace G := o_nxs (q := 3) (st := [(.int 1)]) G st2 rfl
  replace G := o_ifYes (q := 28) G X2.here hx (hb hby d11_3) (by decide) (by decide) (by decide)
  replace G := o_iloadN (q := 29) G X2.here hx (hb hby d11_28) rfl rfl
  replace G := o_iconst (q := 30) G X2.here hx (hb hby d11_29) (v := (1 : Int32)) (by decide) rfl
  replace G := o_ishl (q := 31) G X2.here hx (hb hby d11_30) (by decide : ((1 : Int32) <<< ((1 : Int32) &&& 31)) = (2 : Int32)) rfl
  replace G := o_istoreN (q := 32) (l' := #[.val (.ref d), .val (.int 2)]) G X2.here hx (hb hby d11_31) rfl rfl
  replace G := o_aloadN (q := 33) G X2.here hx (hb hby d11_32) rfl rfl rfl
  replace G := o_iloadN (q := 34) G X2.here hx (hb hby d11_33) rfl rfl
  replace G := o_iinc (q := 37) (l' := #[.val (.ref d), .val (.int 3)]) (w := (1 : Int32)) G X2.here hx (hb hby d11_34) (by decide) rfl (by decide : ((2 : Int32) + (1 : Int32)) = (3 : Int32)) rfl rfl
  obtain ⟨c4, Ar4, -, S4, -, H4, -⟩ := id P4
  have hin4 : ¬ ((2 : Int32) < 0 ∨ c4.slots.size ≤ ((2 : Int32)).toNatClampNeg) := inb_of S4 hi0
  replace G := o_nxs (q := 38) (st := [(.int u0)]) G (X2.baloadBytes hx (j := (2 : Int32)) (v := (.int u0)) (by rw [e2]; exact Ar4.1) (State.isArrayOf_alike hZ.alike Ar4.2.1) Ar4.2.2 hin4 (Has.at H4 hin4 hy0) (g := o_g G) rfl rfl (hb hby d11_37)) rfl
  replace G := o_sipush (q := 41) G X2.here hx (hb hby d11_38) (v := (255 : Int32)) (by decide) rfl
  replace G := o_iand (q := 42) G X2.here hx (hb hby d11_41) rfl rfl
  have F5 : Sta Z h0 o_n0 "HI_BYTE_SHIFT" "I" (.int 0) := P2.ext P0.2
  obtain ⟨T6, X6, e6, st6⟩ := getS2 X2 hx hZ hown (host := "") (Or.inl (o_w hw 49 rfl)) Via.refl e2 F5 (g := o_g G) rfl (hb hby d11_42)
  replace G := o_nxs (q := 45) (st := [(.int 0), (.int (u0 &&& (255 : Int32)))]) G st6 rfl
  replace G := o_ishl (q := 46) G X6.here hx (hb hby d11_45) rfl rfl
  replace G := o_aloadN (q := 47) G X6.here hx (hb hby d11_46) rfl rfl rfl
  replace G := o_iloadN (q := 48) G X6.here hx (hb hby d11_47) rfl rfl
  obtain ⟨c7, Ar7, -, S7, -, H7, -⟩ := id P4
  have hin7 : ¬ ((3 : Int32) < 0 ∨ c7.slots.size ≤ ((3 : Int32)).toNatClampNeg) := inb_of S7 hi1
  replace G := o_nxs (q := 49) (st := [(.int u1), (.int ((u0 &&& (255 : Int32)) <<< ((0 : Int32) &&& 31)))]) G (X6.baloadBytes hx (j := (3 : Int32)) (v := (.int u1)) (by rw [e6]; exact Ar7.1) (State.isArrayOf_alike hZ.alike Ar7.2.1) Ar7.2.2 hin7 (Has.at H7 hin7 hy1) (g := o_g G) rfl rfl (hb hby d11_48)) rfl
  replace G := o_sipush (q := 52) G X6.here hx (hb hby d11_49) (v := (255 : Int32)) (by decide) rfl
  replace G := o_iand (q := 53) G X6.here hx (hb hby d11_52) rfl rfl
  have F8 : Sta Z h0 o_n0 "LO_BYTE_SHIFT" "I" (.int 8) := P3.ext P0.2
  obtain ⟨T9, X9, e9, st9⟩ := getS2 X6 hx hZ hown (host := "") (Or.inl (o_w hw 50 rfl)) Via.refl e6 F8 (g := o_g G) rfl (hb hby d11_53)
  replace G := o_nxs (q := 56) (st := [(.int 8), (.int (u1 &&& (255 : Int32))), (.int ((u0 &&& (255 : Int32)) <<< ((0 : Int32) &&& 31)))]) G st9 rfl
  replace G := o_ishl (q := 57) G X9.here hx (hb hby d11_56) rfl rfl
  replace G := o_ior (q := 58) G X9.here hx (hb hby d11_57) rfl rfl
  replace G := o_i2c (q := 59) G X9.here hx (hb hby d11_58) rfl rfl
  obtain ⟨fs, hr, hrun, hended, hW, hsame⟩ := X9.leave (v := some (.int ((((u0 &&& (255 : Int32)) <<< ((0 : Int32) &&& 31)) ||| ((u1 &&& (255 : Int32)) <<< ((8 : Int32) &&& 31))).toUInt32.toUInt16.toUInt32.toInt32))) (fun h => by rw [Bd.returns] at h; cases h)
  refine ⟨_, _, G _ (retOut X9 hx Bd.returns (o_nc _) (Or.inl ⟨rfl, Or.inr (Or.inr (Or.inr (Or.inl rfl))), _, rfl⟩) (hb hby d11_59) hr), hrun, hended, _, _, rfl, ?_, ⟨_, rfl⟩, hW, hsame.mono (by decide) (by decide)⟩
  show Q11j1 Z d kd nn vs u0 u1 h0 n0 _ T9.heap _
  rw [e9]
  exact ⟨rfl, N0, rfl⟩
theorem ef_11j2 (m : MethodId) (x0 : Addr) : entryFrame m #[(.ref x0), (.int 2)] 2 = mkF m 0 #[.val (.ref x0), .val (.int 2)] [] := by first | (simp [entryFrame, mkF, argsToLocals, Value.category]; done) | rfl
def Q11j2 (Z : State) (d : Addr) (kd : ClassId) (nn : Int32) (vs : List Value) (u0 : Int32) (u1 : Int32) (h0 : Heap) (n0 : Nat) (v : Option Value) (h : Heap) (L : List Loc) : Prop := v = some (.int ((((u0 &&& (255 : Int32)) <<< ((0 : Int32) &&& 31)) ||| ((u1 &&& (255 : Int32)) <<< ((8 : Int32) &&& 31))).toUInt32.toUInt16.toUInt32.toInt32)) ∧ Fr n0 L ∧ h = h0
set_option maxRecDepth 65536 in
set_option maxHeartbeats 40000000 in
theorem rm11j2 (l : Launch) (Z : State) (a0 : Array Value) (hw : ∀ d ∈ tables_1, d.before a0 Z = true) (ws : List Jvm.Cond) (d : Addr) (kd : ClassId) (nn : Int32) (vs : List Value) (u0 : Int32) (u1 : Int32) (h0 : Heap) (n0 : Nat) (Z0 : n0 ≤ h0.size) (P0 : Old Z n0 h0) (P1 : Sta Z Z.heap o_n0 "$assertionsDisabled" "Z" (.int 1)) (P2 : Sta Z Z.heap o_n0 "HI_BYTE_SHIFT" "I" (.int 0)) (P3 : Sta Z Z.heap o_n0 "LO_BYTE_SHIFT" "I" (.int 8)) (P4 : Arv Z h0 d kd .byte nn vs (.int 0)) (hi0 : ¬ ((4 : Int32) < 0) ∧ (4 : Int32) < nn) (hi1 : ¬ ((5 : Int32) < 0) ∧ (5 : Int32) < nn) (hy0 : vs.getD (4 : Int32).toNatClampNeg (.int 0) = .int u0) (hy1 : vs.getD (5 : Int32).toNatClampNeg (.int 0) = .int u1) :
    MetFree l (⟨o_n0, "getChar", "([BI)C"⟩ : MethodName) (head1 (Jvm.Cond.code (⟨o_n0, "getChar", "([BI)C"⟩ : MethodName) jdk_52_method_5_code 2 (some .char) :: ws) ({ frames := 0, cells := 0, slots := 0, locals := 0 } : Room)) (fun argz U => argz = #[(.ref d), (.int 2)] ∧ Z.Warmed39 U.vm ∧ U.heap = h0) (fun _ _ _ _ _ => True) (fun _ U o U' => ∃ v L, o = .returned v ∧ Q11j2 Z d kd nn vs u0 u1 h0 n0 v U'.heap L ∧ FrameEnd U o U' L ({ frames := 0, cells := 0, slots := 0, locals := 0 } : Room).cells ({ frames := 0, cells := 0, slots := 0, locals := 0 } : Room).slots) := by
  refine MetFree.of_bodySF (plainFor_of_name pn_java_lang_StringUTF16) hisR ?_
  intro p e s m args below meth c s₁ Bd hml0 hP hK
  obtain ⟨rfl, hZ, hh⟩ := hP
  have hx := Bd.exec
  have hby := Bd.bytes
  have hml : c.maxLocals = 2 := hml0
  have hown : s.vm.findClass o_n0 = some m.cls := findClass_of_methodNamed Bd.named
  have hnm := (name_of_methodNamed Bd.named Bd.method).1
  have X0 : Stand p l e ({ frames := 0, cells := 0, slots := 0, locals := 0 } : Room) s m #[(.ref d), (.int 2)] below meth c s₁ [] 0 0 := Stand.of_body Bd
  have e0 : s₁.heap = h0 := by rw [← hh, Bd.state]; rfl
  have N0 := Fr.nil n0
  have G : Gets p e below (s₁.setTop (entryFrame m #[(.ref d), (.int 2)] 2)) (s₁.setTop (mkF m 0 #[.val (.ref d), .val (.int 2)] [])) := fun t k => castTop (ef_11j2 m d) k
  have F1 : Sta Z h0 o_n0 "$assertionsDisabled" "Z" (.int 1) := P1.ext P0.2
  obtain ⟨T2, X2, e2, st2⟩ := getS2 X0 hx hZ hown (host := "") (Or.inl (o_w hw 48 rfl)) Via.refl e0 F1 (g := o_g G) rfl (hb hby d11_0)
  replace G := o_nxs (q := 3) (st := [(.int 1)]) G st2 rfl
  replace G := o_ifYes (q := 28) G X2.here hx (hb hby d11_3) (by decide) (by decide) (by decide)
  replace G := o_iloadN (q := 29) G X2.here hx (hb hby d11_28) rfl rfl
  replace G := o_iconst (q := 30) G X2.here hx (hb hby d11_29) (v := (1 : Int32)) (by decide) rfl
  replace G := o_ishl (q := 31) G X2.here hx (hb hby d11_30) (by decide : ((2 : Int32) <<< ((1 : Int32) &&& 31)) = (4 : Int32)) rfl
  replace G := o_istoreN (q := 32) (l' := #[.val (.ref d), .val (.int 4)]) G X2.here hx (hb hby d11_31) rfl rfl
  replace G := o_aloadN (q := 33) G X2.here hx (hb hby d11_32) rfl rfl rfl
  replace G := o_iloadN (q := 34) G X2.here hx (hb hby d11_33) rfl rfl
  replace G := o_iinc (q := 37) (l' := #[.val (.ref d), .val (.int 5)]) (w := (1 : Int32)) G X2.here hx (hb hby d11_34) (by decide) rfl (by decide : ((4 : Int32) + (1 : Int32)) = (5 : Int32)) rfl rfl
  obtain ⟨c4, Ar4, -, S4, -, H4, -⟩ := id P4
  have hin4 : ¬ ((4 : Int32) < 0 ∨ c4.slots.size ≤ ((4 : Int32)).toNatClampNeg) := inb_of S4 hi0
  replace G := o_nxs (q := 38) (st := [(.int u0)]) G (X2.baloadBytes hx (j := (4 : Int32)) (v := (.int u0)) (by rw [e2]; exact Ar4.1) (State.isArrayOf_alike hZ.alike Ar4.2.1) Ar4.2.2 hin4 (Has.at H4 hin4 hy0) (g := o_g G) rfl rfl (hb hby d11_37)) rfl
  replace G := o_sipush (q := 41) G X2.here hx (hb hby d11_38) (v := (255 : Int32)) (by decide) rfl
  replace G := o_iand (q := 42) G X2.here hx (hb hby d11_41) rfl rfl
  have F5 : Sta Z h0 o_n0 "HI_BYTE_SHIFT" "I" (.int 0) := P2.ext P0.2
  obtain ⟨T6, X6, e6, st6⟩ := getS2 X2 hx hZ hown (host := "") (Or.inl (o_w hw 49 rfl)) Via.refl e2 F5 (g := o_g G) rfl (hb hby d11_42)
  replace G := o_nxs (q := 45) (st := [(.int 0), (.int (u0 &&& (255 : Int32)))]) G st6 rfl
  replace G := o_ishl (q := 46) G X6.here hx (hb hby d11_45) rfl rfl
  replace G := o_aloadN (q := 47) G X6.here hx (hb hby d11_46) rfl rfl rfl
  replace G := o_iloadN (q := 48) G X6.here hx (hb hby d11_47) rfl rfl
  obtain ⟨c7, Ar7, -, S7, -, H7, -⟩ := id P4
  have hin7 : ¬ ((5 : Int32) < 0 ∨ c7.slots.size ≤ ((5 : Int32)).toNatClampNeg) := inb_of S7 hi1
  replace G := o_nxs (q := 49) (st := [(.int u1), (.int ((u0 &&& (255 : Int32)) <<< ((0 : Int32) &&& 31)))]) G (X6.baloadBytes hx (j := (5 : Int32)) (v := (.int u1)) (by rw [e6]; exact Ar7.1) (State.isArrayOf_alike hZ.alike Ar7.2.1) Ar7.2.2 hin7 (Has.at H7 hin7 hy1) (g := o_g G) rfl rfl (hb hby d11_48)) rfl
  replace G := o_sipush (q := 52) G X6.here hx (hb hby d11_49) (v := (255 : Int32)) (by decide) rfl
  replace G := o_iand (q := 53) G X6.here hx (hb hby d11_52) rfl rfl
  have F8 : Sta Z h0 o_n0 "LO_BYTE_SHIFT" "I" (.int 8) := P3.ext P0.2
  obtain ⟨T9, X9, e9, st9⟩ := getS2 X6 hx hZ hown (host := "") (Or.inl (o_w hw 50 rfl)) Via.refl e6 F8 (g := o_g G) rfl (hb hby d11_53)
  replace G := o_nxs (q := 56) (st := [(.int 8), (.int (u1 &&& (255 : Int32))), (.int ((u0 &&& (255 : Int32)) <<< ((0 : Int32) &&& 31)))]) G st9 rfl
  replace G := o_ishl (q := 57) G X9.here hx (hb hby d11_56) rfl rfl
  replace G := o_ior (q := 58) G X9.here hx (hb hby d11_57) rfl rfl
  replace G := o_i2c (q := 59) G X9.here hx (hb hby d11_58) rfl rfl
  obtain ⟨fs, hr, hrun, hended, hW, hsame⟩ := X9.leave (v := some (.int ((((u0 &&& (255 : Int32)) <<< ((0 : Int32) &&& 31)) ||| ((u1 &&& (255 : Int32)) <<< ((8 : Int32) &&& 31))).toUInt32.toUInt16.toUInt32.toInt32))) (fun h => by rw [Bd.returns] at h; cases h)
  refine ⟨_, _, G _ (retOut X9 hx Bd.returns (o_nc _) (Or.inl ⟨rfl, Or.inr (Or.inr (Or.inr (Or.inl rfl))), _, rfl⟩) (hb hby d11_59) hr), hrun, hended, _, _, rfl, ?_, ⟨_, rfl⟩, hW, hsame.mono (by decide) (by decide)⟩
  show Q11j2 Z d kd nn vs u0 u1 h0 n0 _ T9.heap _
  rw [e9]
  exact ⟨rfl, N0, rfl⟩
theorem ef_11j3 (m : MethodId) (x0 : Addr) : entryFrame m #[(.ref x0), (.int 3)] 2 = mkF m 0 #[.val (.ref x0), .val (.int 3)] [] := by first | (simp [entryFrame, mkF, argsToLocals, Value.category]; done) | rfl
def Q11j3 (Z : State) (d : Addr) (kd : ClassId) (nn : Int32) (vs : List Value) (u0 : Int32) (u1 : Int32) (h0 : Heap) (n0 : Nat) (v : Option Value) (h : Heap) (L : List Loc) : Prop := v = some (.int ((((u0 &&& (255 : Int32)) <<< ((0 : Int32) &&& 31)) ||| ((u1 &&& (255 : Int32)) <<< ((8 : Int32) &&& 31))).toUInt32.toUInt16.toUInt32.toInt32)) ∧ Fr n0 L ∧ h = h0
set_option maxRecDepth 65536 in
set_option maxHeartbeats 40000000 in
theorem rm11j3 (l : Launch) (Z : State) (a0 : Array Value) (hw : ∀ d ∈ tables_1, d.before a0 Z = true) (ws : List Jvm.Cond) (d : Addr) (kd : ClassId) (nn : Int32) (vs : List Value) (u0 : Int32) (u1 : Int32) (h0 : Heap) (n0 : Nat) (Z0 : n0 ≤ h0.size) (P0 : Old Z n0 h0) (P1 : Sta Z Z.heap o_n0 "$assertionsDisabled" "Z" (.int 1)) (P2 : Sta Z Z.heap o_n0 "HI_BYTE_SHIFT" "I" (.int 0)) (P3 : Sta Z Z.heap o_n0 "LO_BYTE_SHIFT" "I" (.int 8)) (P4 : Arv Z h0 d kd .byte nn vs (.int 0)) (hi0 : ¬ ((6 : Int32) < 0) ∧ (6 : Int32) < nn) (hi1 : ¬ ((7 : Int32) < 0) ∧ (7 : Int32) < nn) (hy0 : vs.getD (6 : Int32).toNatClampNeg (.int 0) = .int u0) (hy1 : vs.getD (7 : Int32).toNatClampNeg (.int 0) = .int u1) :
    MetFree l (⟨o_n0, "getChar", "([BI)C"⟩ : MethodName) (head1 (Jvm.Cond.code (⟨o_n0, "getChar", "([BI)C"⟩ : MethodName) jdk_52_method_5_code 2 (some .char) :: ws) ({ frames := 0, cells := 0, slots := 0, locals := 0 } : Room)) (fun argz U => argz = #[(.ref d), (.int 3)] ∧ Z.Warmed39 U.vm ∧ U.heap = h0) (fun _ _ _ _ _ => True) (fun _ U o U' => ∃ v L, o = .returned v ∧ Q11j3 Z d kd nn vs u0 u1 h0 n0 v U'.heap L ∧ FrameEnd U o U' L ({ frames := 0, cells := 0, slots := 0, locals := 0 } : Room).cells ({ frames := 0, cells := 0, slots := 0, locals := 0 } : Room).slots) := by
  refine MetFree.of_bodySF (plainFor_of_name pn_java_lang_StringUTF16) hisR ?_
  intro p e s m args below meth c s₁ Bd hml0 hP hK
  obtain ⟨rfl, hZ, hh⟩ := hP
  have hx := Bd.exec
  have hby := Bd.bytes
  have hml : c.maxLocals = 2 := hml0
  have hown : s.vm.findClass o_n0 = some m.cls := findClass_of_methodNamed Bd.named
  have hnm := (name_of_methodNamed Bd.named Bd.method).1
  have X0 : Stand p l e ({ frames := 0, cells := 0, slots := 0, locals := 0 } : Room) s m #[(.ref d), (.int 3)] below meth c s₁ [] 0 0 := Stand.of_body Bd
  have e0 : s₁.heap = h0 := by rw [← hh, Bd.state]; rfl
  have N0 := Fr.nil n0
  have G : Gets p e below (s₁.setTop (entryFrame m #[(.ref d), (.int 3)] 2)) (s₁.setTop (mkF m 0 #[.val (.ref d), .val (.int 3)] [])) := fun t k => castTop (ef_11j3 m d) k
  have F1 : Sta Z h0 o_n0 "$assertionsDisabled" "Z" (.int 1) := P1.ext P0.2
  obtain ⟨T2, X2, e2, st2⟩ := getS2 X0 hx hZ hown (host := "") (Or.inl (o_w hw 48 rfl)) Via.refl e0 F1 (g := o_g G) rfl (hb hby d11_0)
  replace G := o_nxs (q := 3) (st := [(.int 1)]) G st2 rfl
  replace G := o_ifYes (q := 28) G X2.here hx (hb hby d11_3) (by decide) (by decide) (by decide)
  replace G := o_iloadN (q := 29) G X2.here hx (hb hby d11_28) rfl rfl
  replace G := o_iconst (q := 30) G X2.here hx (hb hby d11_29) (v := (1 : Int32)) (by decide) rfl
  replace G := o_ishl (q := 31) G X2.here hx (hb hby d11_30) (by decide : ((3 : Int32) <<< ((1 : Int32) &&& 31)) = (6 : Int32)) rfl
  replace G := o_istoreN (q := 32) (l' := #[.val (.ref d), .val (.int 6)]) G X2.here hx (hb hby d11_31) rfl rfl
  replace G := o_aloadN (q := 33) G X2.here hx (hb hby d11_32) rfl rfl rfl
  replace G := o_iloadN (q := 34) G X2.here hx (hb hby d11_33) rfl rfl
  replace G := o_iinc (q := 37) (l' := #[.val (.ref d), .val (.int 7)]) (w := (1 : Int32)) G X2.here hx (hb hby d11_34) (by decide) rfl (by decide : ((6 : Int32) + (1 : Int32)) = (7 : Int32)) rfl rfl
  obtain ⟨c4, Ar4, -, S4, -, H4, -⟩ := id P4
  have hin4 : ¬ ((6 : Int32) < 0 ∨ c4.slots.size ≤ ((6 : Int32)).toNatClampNeg) := inb_of S4 hi0
  replace G := o_nxs (q := 38) (st := [(.int u0)]) G (X2.baloadBytes hx (j := (6 : Int32)) (v := (.int u0)) (by rw [e2]; exact Ar4.1) (State.isArrayOf_alike hZ.alike Ar4.2.1) Ar4.2.2 hin4 (Has.at H4 hin4 hy0) (g := o_g G) rfl rfl (hb hby d11_37)) rfl
  replace G := o_sipush (q := 41) G X2.here hx (hb hby d11_38) (v := (255 : Int32)) (by decide) rfl
  replace G := o_iand (q := 42) G X2.here hx (hb hby d11_41) rfl rfl
  have F5 : Sta Z h0 o_n0 "HI_BYTE_SHIFT" "I" (.int 0) := P2.ext P0.2
  obtain ⟨T6, X6, e6, st6⟩ := getS2 X2 hx hZ hown (host := "") (Or.inl (o_w hw 49 rfl)) Via.refl e2 F5 (g := o_g G) rfl (hb hby d11_42)
  replace G := o_nxs (q := 45) (st := [(.int 0), (.int (u0 &&& (255 : Int32)))]) G st6 rfl
  replace G := o_ishl (q := 46) G X6.here hx (hb hby d11_45) rfl rfl
  replace G := o_aloadN (q := 47) G X6.here hx (hb hby d11_46) rfl rfl rfl
  replace G := o_iloadN (q := 48) G X6.here hx (hb hby d11_47) rfl rfl
  obtain ⟨c7, Ar7, -, S7, -, H7, -⟩ := id P4
  have hin7 : ¬ ((7 : Int32) < 0 ∨ c7.slots.size ≤ ((7 : Int32)).toNatClampNeg) := inb_of S7 hi1
  replace G := o_nxs (q := 49) (st := [(.int u1), (.int ((u0 &&& (255 : Int32)) <<< ((0 : Int32) &&& 31)))]) G (X6.baloadBytes hx (j := (7 : Int32)) (v := (.int u1)) (by rw [e6]; exact Ar7.1) (State.isArrayOf_alike hZ.alike Ar7.2.1) Ar7.2.2 hin7 (Has.at H7 hin7 hy1) (g := o_g G) rfl rfl (hb hby d11_48)) rfl
  replace G := o_sipush (q := 52) G X6.here hx (hb hby d11_49) (v := (255 : Int32)) (by decide) rfl
  replace G := o_iand (q := 53) G X6.here hx (hb hby d11_52) rfl rfl
  have F8 : Sta Z h0 o_n0 "LO_BYTE_SHIFT" "I" (.int 8) := P3.ext P0.2
  obtain ⟨T9, X9, e9, st9⟩ := getS2 X6 hx hZ hown (host := "") (Or.inl (o_w hw 50 rfl)) Via.refl e6 F8 (g := o_g G) rfl (hb hby d11_53)
  replace G := o_nxs (q := 56) (st := [(.int 8), (.int (u1 &&& (255 : Int32))), (.int ((u0 &&& (255 : Int32)) <<< ((0 : Int32) &&& 31)))]) G st9 rfl
  replace G := o_ishl (q := 57) G X9.here hx (hb hby d11_56) rfl rfl
  replace G := o_ior (q := 58) G X9.here hx (hb hby d11_57) rfl rfl
  replace G := o_i2c (q := 59) G X9.here hx (hb hby d11_58) rfl rfl
  obtain ⟨fs, hr, hrun, hended, hW, hsame⟩ := X9.leave (v := some (.int ((((u0 &&& (255 : Int32)) <<< ((0 : Int32) &&& 31)) ||| ((u1 &&& (255 : Int32)) <<< ((8 : Int32) &&& 31))).toUInt32.toUInt16.toUInt32.toInt32))) (fun h => by rw [Bd.returns] at h; cases h)
  refine ⟨_, _, G _ (retOut X9 hx Bd.returns (o_nc _) (Or.inl ⟨rfl, Or.inr (Or.inr (Or.inr (Or.inl rfl))), _, rfl⟩) (hb hby d11_59) hr), hrun, hended, _, _, rfl, ?_, ⟨_, rfl⟩, hW, hsame.mono (by decide) (by decide)⟩
  show Q11j3 Z d kd nn vs u0 u1 h0 n0 _ T9.heap _
  rw [e9]
  exact ⟨rfl, N0, rfl⟩
theorem d6_0 : decode jdk_52_method_21_code 0 = .ok (.iconst 0, 1) := by decide +kernel
theorem d6_1 : decode jdk_52_method_21_code 1 = .ok (.istore 5, 2) := by decide +kernel
theorem d6_3 : decode jdk_52_method_21_code 3 = .ok (.iload 5, 2) := by decide +kernel
theorem d6_5 : decode jdk_52_method_21_code 5 = .ok (.iload 4, 2) := by decide +kernel
theorem d6_7 : decode jdk_52_method_21_code 7 = .ok (.if_icmp .ge 37, 3) := by decide +kernel
theorem d6_10 : decode jdk_52_method_21_code 10 = .ok (.aload_n 0, 1) := by decide +kernel
theorem d6_11 : decode jdk_52_method_21_code 11 = .ok (.iload_n 1, 1) := by decide +kernel
theorem d6_12 : decode jdk_52_method_21_code 12 = .ok (.caload, 1) := by decide +kernel
theorem d6_13 : decode jdk_52_method_21_code 13 = .ok (.istore 6, 2) := by decide +kernel
theorem d6_15 : decode jdk_52_method_21_code 15 = .ok (.iload 6, 2) := by decide +kernel
theorem d6_17 : decode jdk_52_method_21_code 17 = .ok (.sipush 255, 3) := by decide +kernel
theorem d6_20 : decode jdk_52_method_21_code 20 = .ok (.if_icmp .le 6, 3) := by decide +kernel
theorem d6_26 : decode jdk_52_method_21_code 26 = .ok (.aload_n 2, 1) := by decide +kernel
theorem d6_27 : decode jdk_52_method_21_code 27 = .ok (.iload_n 3, 1) := by decide +kernel
theorem d6_28 : decode jdk_52_method_21_code 28 = .ok (.iload 6, 2) := by decide +kernel
theorem d6_30 : decode jdk_52_method_21_code 30 = .ok (.i2b, 1) := by decide +kernel
theorem d6_31 : decode jdk_52_method_21_code 31 = .ok (.bastore, 1) := by decide +kernel
theorem d6_32 : decode jdk_52_method_21_code 32 = .ok (.iinc 1 1, 3) := by decide +kernel
theorem d6_35 : decode jdk_52_method_21_code 35 = .ok (.iinc 3 1, 3) := by decide +kernel
theorem d6_38 : decode jdk_52_method_21_code 38 = .ok (.iinc 5 1, 3) := by decide +kernel
theorem d6_41 : decode jdk_52_method_21_code 41 = .ok (.goto (-38), 3) := by decide +kernel
theorem d6_44 : decode jdk_52_method_21_code 44 = .ok (.iload 4, 2) := by decide +kernel
theorem d6_46 : decode jdk_52_method_21_code 46 = .ok (.ireturn, 1) := by decide +kernel
theorem ef_6n1 (m : MethodId) (x0 : Addr) (x2 : Addr) : entryFrame m #[(.ref x0), (.int 0), (.ref x2), (.int 0), (.int 1)] 7 = mkF m 0 #[.val (.ref x0), .val (.int 0), .val (.ref x2), .val (.int 0), .val (.int 1), .unset, .unset] [] := by first | (simp [entryFrame, mkF, argsToLocals, Value.category]; done) | rfl
def Q6n1 (Z : State) (a : Addr) (d : Addr) (ks : ClassId) (kd : ClassId) (ec0 : Int32) (h0 : Heap) (n0 : Nat) (v : Option Value) (h : Heap) (L : List Loc) : Prop := v = some (.int 1) ∧ Fr n0 L ∧ Keep h0 h [d] ∧ (Arv Z h d kd .byte (1 : Int32) [(.int (nar .byte (ec0.toInt8.toInt32)))] (.int 0))
set_option maxRecDepth 65536 in
set_option maxHeartbeats 40000000 in
theorem rm6n1 (l : Launch) (Z : State) (a0 : Array Value) (hw : ∀ d ∈ tables_1, d.before a0 Z = true) (ws : List Jvm.Cond) (a : Addr) (d : Addr) (ks : ClassId) (kd : ClassId) (ec0 : Int32) (h0 : Heap) (n0 : Nat) (Z0 : n0 ≤ h0.size) (P0 : Arv Z h0 a ks .char (1 : Int32) [(.int ec0)] (.int 0)) (P1 : Arv Z h0 d kd .byte (1 : Int32) [(.int 0)] (.int 0)) (P2 : n0 ≤ d) (P3 : a ≠ d) (he0 : ¬ ((255 : Int32) < ec0)) :
    MetFree l (⟨o_n0, "compress", "([CI[BII)I"⟩ : MethodName) (head1 (Jvm.Cond.code (⟨o_n0, "compress", "([CI[BII)I"⟩ : MethodName) jdk_52_method_21_code 7 (some .int) :: ws) ({ frames := 0, cells := 0, slots := 0, locals := 0 } : Room)) (fun argz U => argz = #[(.ref a), (.int 0), (.ref d), (.int 0), (.int 1)] ∧ Z.Warmed39 U.vm ∧ U.heap = h0) (fun _ _ _ _ _ => True) (fun _ U o U' => ∃ v L, o = .returned v ∧ Q6n1 Z a d ks kd ec0 h0 n0 v U'.heap L ∧ FrameEnd U o U' L ({ frames := 0, cells := 0, slots := 0, locals := 0 } : Room).cells ({ frames := 0, cells := 0, slots := 0, locals := 0 } : Room).slots) := by
  refine MetFree.of_bodySF (plainFor_of_name pn_java_lang_StringUTF16) hisR ?_
  intro p e s m args below meth c s₁ Bd hml0 hP hK
  obtain ⟨rfl, hZ, hh⟩ := hP
  have hx := Bd.exec
  have hby := Bd.bytes
  have hml : c.maxLocals = 7 := hml0
  have hown : s.vm.findClass o_n0 = some m.cls := findClass_of_methodNamed Bd.named
  have hnm := (name_of_methodNamed Bd.named Bd.method).1
  have X0 : Stand p l e ({ frames := 0, cells := 0, slots := 0, locals := 0 } : Room) s m #[(.ref a), (.int 0), (.ref d), (.int 0), (.int 1)] below meth c s₁ [] 0 0 := Stand.of_body Bd
  have e0 : s₁.heap = h0 := by rw [← hh, Bd.state]; rfl
  have N0 := Fr.nil n0
  have K0 : Keep h0 h0 [d] := Keep.refl _ _
  have G : Gets p e below (s₁.setTop (entryFrame m #[(.ref a), (.int 0), (.ref d), (.int 0), (.int 1)] 7)) (s₁.setTop (mkF m 0 #[.val (.ref a), .val (.int 0), .val (.ref d), .val (.int 0), .val (.int 1), .unset, .unset] [])) := fun t k => castTop (ef_6n1 m a d) k
  replace G := o_iconst (q := 1) G X0.here hx (hb hby d6_0) (v := (0 : Int32)) (by decide) rfl
  replace G := o_istore (q := 3) (l' := #[.val (.ref a), .val (.int 0), .val (.ref d), .val (.int 0), .val (.int 1), .val (.int 0), .unset]) G X0.here hx (hb hby d6_1) rfl rfl
  replace G := o_iload (q := 5) G X0.here hx (hb hby d6_3) rfl rfl
  replace G := o_iload (q := 7) G X0.here hx (hb hby d6_5) rfl rfl
  replace G := o_icmpNo (q := 10) G X0.here hx (hb hby d6_7) (by decide) rfl
  replace G := o_aloadN (q := 11) G X0.here hx (hb hby d6_10) rfl rfl rfl
  replace G := o_iloadN (q := 12) G X0.here hx (hb hby d6_11) rfl rfl
  obtain ⟨c2, Ar2, -, S2, -, H2, -⟩ := id P0
  have hin2 : ¬ ((0 : Int32) < 0 ∨ c2.slots.size ≤ ((0 : Int32)).toNatClampNeg) := inb_of S2 ⟨by decide, by decide⟩
  replace G := o_nxs (q := 13) (st := [(.int ec0)]) G (X0.caload hx (j := (0 : Int32)) (v := (.int ec0)) (by rw [e0]; exact Ar2.1) (State.isArrayOf_alike hZ.alike Ar2.2.1) Ar2.2.2 hin2 (Has.at H2 hin2 rfl) (g := o_g G) rfl rfl (hb hby d6_12)) rfl
  replace G := o_istore (q := 15) (l' := #[.val (.ref a), .val (.int 0), .val (.ref d), .val (.int 0), .val (.int 1), .val (.int 0), .val (.int ec0)]) G X0.here hx (hb hby d6_13) rfl rfl
  replace G := o_iload (q := 17) G X0.here hx (hb hby d6_15) rfl rfl
  replace G := o_sipush (q := 20) G X0.here hx (hb hby d6_17) (v := (255 : Int32)) (by decide) rfl
  have hc20_3 : ¬ ((255 : Int32) < ec0) := he0
  replace G := o_icmpYes (q := 26) G X0.here hx (hb hby d6_20) (flt hc20_3).2.2.2 (by decide) (by decide)
  replace G := o_aloadN (q := 27) G X0.here hx (hb hby d6_26) rfl rfl rfl
  replace G := o_iloadN (q := 28) G X0.here hx (hb hby d6_27) rfl rfl
  replace G := o_iload (q := 30) G X0.here hx (hb hby d6_28) rfl rfl
  replace G := o_i2b (q := 31) G X0.here hx (hb hby d6_30) rfl rfl
  obtain ⟨c4, Ar4, q4, S4, N4', H4, G4'⟩ := id P1
  have hin4 : ¬ ((0 : Int32) < 0 ∨ c4.slots.size ≤ ((0 : Int32)).toNatClampNeg) := inb_of S4 ⟨by decide, by decide⟩
  obtain ⟨T4, h4, X4, e4, W4, st4⟩ := stB X0 hx hZ e0 Ar4 (j := (0 : Int32)) hin4 (g := o_g G) rfl rfl (hb hby d6_31)
  have N4 := Fr.snoc X4 N0 P2
  have Z4 : n0 ≤ h4.size := Nat.le_trans Z0 (Keep.of_wr W4).1
  have K4 : Keep h0 h4 [d] := K0.wr W4 (Or.inl (List.mem_of_getElem? (i := 0) rfl))
  have V4 : Arv Z h4 d kd .byte (1 : Int32) [(.int (nar .byte (ec0.toInt8.toInt32)))] (.int 0) := Arv.set Ar4 q4 S4 N4' H4 G4' (fits_nar_byte _) W4 0 rfl (Nat.le_of_ble_eq_true rfl)
  replace G := o_nxs (q := 32) (st := []) G st4 rfl
  replace G := o_iinc (q := 35) (l' := #[.val (.ref a), .val (.int 1), .val (.ref d), .val (.int 0), .val (.int 1), .val (.int 0), .val (.int ec0)]) (w := (1 : Int32)) G X4.here hx (hb hby d6_32) (by decide) rfl (by decide : ((0 : Int32) + (1 : Int32)) = (1 : Int32)) rfl rfl
  replace G := o_iinc (q := 38) (l' := #[.val (.ref a), .val (.int 1), .val (.ref d), .val (.int 1), .val (.int 1), .val (.int 0), .val (.int ec0)]) (w := (1 : Int32)) G X4.here hx (hb hby d6_35) (by decide) rfl (by decide : ((0 : Int32) + (1 : Int32)) = (1 : Int32)) rfl rfl
  replace G := o_iinc (q := 41) (l' := #[.val (.ref a), .val (.int 1), .val (.ref d), .val (.int 1), .val (.int 1), .val (.int 1), .val (.int ec0)]) (w := (1 : Int32)) G X4.here hx (hb hby d6_38) (by decide) rfl (by decide : ((0 : Int32) + (1 : Int32)) = (1 : Int32)) rfl rfl
  replace G := o_goto (q := 3) G X4.here hx (hb hby d6_41) (by decide) (by decide)
  replace G := o_iload (q := 5) G X4.here hx (hb hby d6_3) rfl rfl
  replace G := o_iload (q := 7) G X4.here hx (hb hby d6_5) rfl rfl
  replace G := o_icmpYes (q := 44) G X4.here hx (hb hby d6_7) (by decide) (by decide) (by decide)
  replace G := o_iload (q := 46) G X4.here hx (hb hby d6_44) rfl rfl
  obtain ⟨fs, hr, hrun, hended, hW, hsame⟩ := X4.leave (v := some (.int 1)) (fun h => by rw [Bd.returns] at h; cases h)
  refine ⟨_, _, G _ (retOut X4 hx Bd.returns rfl (Or.inl ⟨rfl, Or.inl rfl, _, rfl⟩) (hb hby d6_46) hr), hrun, hended, _, _, rfl, ?_, ⟨_, rfl⟩, hW, hsame.mono (by decide) (by decide)⟩
  show Q6n1 Z a d ks kd ec0 h0 n0 _ T4.heap _
  rw [e4]
  exact ⟨rfl, N4, K4, V4⟩
theorem pd_0 : parseMethodDescriptor "([CI[BII)I" = some ⟨[(.array .char), .int, (.array .byte), .int, .int], some .int⟩ := by decide +kernel
theorem d5_0 : decode jdk_52_method_16_code 0 = .ok (.iload_n 2, 1) := by decide +kernel
theorem d5_1 : decode jdk_52_method_16_code 1 = .ok (.newarray .byte, 2) := by decide +kernel
theorem d5_3 : decode jdk_52_method_16_code 3 = .ok (.astore_n 3, 1) := by decide +kernel
theorem d5_4 : decode jdk_52_method_16_code 4 = .ok (.aload_n 0, 1) := by decide +kernel
theorem d5_5 : decode jdk_52_method_16_code 5 = .ok (.iload_n 1, 1) := by decide +kernel
theorem d5_6 : decode jdk_52_method_16_code 6 = .ok (.aload_n 3, 1) := by decide +kernel
theorem d5_7 : decode jdk_52_method_16_code 7 = .ok (.iconst 0, 1) := by decide +kernel
theorem d5_8 : decode jdk_52_method_16_code 8 = .ok (.iload_n 2, 1) := by decide +kernel
theorem d5_9 : decode jdk_52_method_16_code 9 = .ok (.invokestatic 115, 3) := by decide +kernel
theorem d5_12 : decode jdk_52_method_16_code 12 = .ok (.istore 4, 2) := by decide +kernel
theorem d5_14 : decode jdk_52_method_16_code 14 = .ok (.iload 4, 2) := by decide +kernel
theorem d5_16 : decode jdk_52_method_16_code 16 = .ok (.iload_n 2, 1) := by decide +kernel
theorem d5_17 : decode jdk_52_method_16_code 17 = .ok (.if_icmp .eq 40, 3) := by decide +kernel
theorem d5_57 : decode jdk_52_method_16_code 57 = .ok (.aload_n 3, 1) := by decide +kernel
theorem d5_58 : decode jdk_52_method_16_code 58 = .ok (.areturn, 1) := by decide +kernel
theorem ef_5n1 (m : MethodId) (x0 : Addr) : entryFrame m #[(.ref x0), (.int 0), (.int 1)] 6 = mkF m 0 #[.val (.ref x0), .val (.int 0), .val (.int 1), .unset, .unset, .unset] [] := by first | (simp [entryFrame, mkF, argsToLocals, Value.category]; done) | rfl
def Q5n1 (Z : State) (a : Addr) (ks : ClassId) (ec0 : Int32) (h0 : Heap) (n0 : Nat) (v : Option Value) (h : Heap) (L : List Loc) : Prop := ∃ (b : Addr) (kb : ClassId), v = some (.ref b) ∧ Fr n0 L ∧ Keep h0 h [] ∧ h0.size ≤ b ∧ (Arv Z h b kb .byte (1 : Int32) [(.int (nar .byte (ec0.toInt8.toInt32)))] (.int 0))
set_option maxRecDepth 65536 in
set_option maxHeartbeats 40000000 in
theorem rm5n1 (l : Launch) (Z : State) (a0 : Array Value) (hw : ∀ d ∈ tables_1, d.before a0 Z = true) (ws : List Jvm.Cond) (a : Addr) (ks : ClassId) (ec0 : Int32) (h0 : Heap) (n0 : Nat) (Z0 : n0 ≤ h0.size) (P0 : Arv Z h0 a ks .char (1 : Int32) [(.int ec0)] (.int 0)) (he0 : ¬ ((255 : Int32) < ec0)) :
    MetFree l (⟨o_n0, "compress", "([CII)[B"⟩ : MethodName) (head1 (Jvm.Cond.code (⟨o_n0, "compress", "([CII)[B"⟩ : MethodName) jdk_52_method_16_code 6 (some (.array .byte)) :: ws) ({ frames := 1, cells := 1, slots := 1, locals := 18 } : Room)) (fun argz U => argz = #[(.ref a), (.int 0), (.int 1)] ∧ Z.Warmed39 U.vm ∧ U.heap = h0) (fun _ _ _ _ _ => True) (fun _ U o U' => ∃ v L, o = .returned v ∧ Q5n1 Z a ks ec0 h0 n0 v U'.heap L ∧ FrameEnd U o U' L ({ frames := 1, cells := 1, slots := 1, locals := 18 } : Room).cells ({ frames := 1, cells := 1, slots := 1, locals := 18 } : Room).slots) := by
  refine MetFree.of_bodySF (plainFor_of_name pn_java_lang_StringUTF16) hisR ?_
  intro p e s m args below meth c s₁ Bd hml0 hP hK
  obtain ⟨rfl, hZ, hh⟩ := hP
  have hx := Bd.exec
  have hby := Bd.bytes
  have hml : c.maxLocals = 6 := hml0
  have hown : s.vm.findClass o_n0 = some m.cls := findClass_of_methodNamed Bd.named
  have hnm := (name_of_methodNamed Bd.named Bd.method).1
  have X0 : Stand p l e ({ frames := 1, cells := 1, slots := 1, locals := 18 } : Room) s m #[(.ref a), (.int 0), (.int 1)] below meth c s₁ [] 0 0 := Stand.of_body Bd
  have e0 : s₁.heap = h0 := by rw [← hh, Bd.state]; rfl
  have N0 := Fr.nil n0
  have K0 : Keep h0 h0 [] := Keep.refl _ _
  have G : Gets p e below (s₁.setTop (entryFrame m #[(.ref a), (.int 0), (.int 1)] 6)) (s₁.setTop (mkF m 0 #[.val (.ref a), .val (.int 0), .val (.int 1), .unset, .unset, .unset] [])) := fun t k => castTop (ef_5n1 m a) k
  replace G := o_iloadN (q := 1) G X0.here hx (hb hby d5_0) rfl rfl
  obtain ⟨T1, h1, k1, X1, e1, E1, A1, st1⟩ := newP X0 hx hZ (o_w hw 20 rfl) e0 (g := o_g G) rfl (hb hby d5_1) rfl (by decide) (cap := 1) (by decide) (by decide) (by decide) (by decide)
  obtain ⟨b1, g1⟩ : ∃ z, z = h0.size := ⟨_, rfl⟩
  rw [← g1] at A1 st1
  have ne2 : a ≠ b1 := Nat.ne_of_lt (Nat.lt_of_lt_of_le P0.lt (Nat.le_of_eq g1.symm))
  have ge_b1 : n0 ≤ b1 := Nat.le_trans Z0 (Nat.le_of_eq g1.symm)
  have sz_b1 : h0.size ≤ b1 := Nat.le_trans K0.1 (Nat.le_of_eq g1.symm)
  have Z1 : n0 ≤ h1.size := Nat.le_trans Z0 E1.1
  have K1 : Keep h0 h1 [] := K0.ext E1
  have V1 : Arv Z h1 b1 k1 .byte (1 : Int32) [(.int 0)] (.int 0) := (Arv.new A1 (by decide)).pad (pad_rep [] (.int 0) 1)
  replace G := o_nxs (q := 3) (st := [(.ref b1)]) G st1 rfl
  replace G := o_astoreN (q := 4) (l' := #[.val (.ref a), .val (.int 0), .val (.int 1), .val (.ref b1), .unset, .unset]) G X1.here hx (hb hby d5_3) rfl rfl rfl
  replace G := o_aloadN (q := 5) G X1.here hx (hb hby d5_4) rfl rfl rfl
  replace G := o_iloadN (q := 6) G X1.here hx (hb hby d5_5) rfl rfl
  replace G := o_aloadN (q := 7) G X1.here hx (hb hby d5_6) rfl rfl rfl
  replace G := o_iconst (q := 8) G X1.here hx (hb hby d5_7) (v := (0 : Int32)) (by decide) rfl
  replace G := o_iloadN (q := 9) G X1.here hx (hb hby d5_8) rfl rfl
  have F4 := (P0.ext E1)
  obtain ⟨_, _, ⟨T3, L3, kk3, nn3⟩, -, X3, ⟨Lc3, hQ3, l3, y3, z3⟩, st3⟩ := Jvm.LawKit.callS X1 hx (y := (⟨o_n0, "compress", "([CI[BII)I"⟩ : MethodName)) hown (mvT hZ (o_w hw 32 rfl)) (mvT hZ (o_w hw 33 rfl)) (mvT hZ (o_w hw 30 rfl)) (mvT hZ (o_w hw 34 rfl)) (by decide) (backOf (W := 0) (rm6n1 l Z a0 hw [] a b1 ks k1 ec0 h1 n0 Z1 F4 V1 ge_b1 ne2 he0) hZ (o_w hw 34 rfl) (o_w hw 30 rfl) (by decide) (by decide)) (g := o_g G) rfl (by rw [hml]; rfl) (argsL := [(.ref a), (.int 0), (.ref b1), (.int 0), (.int 1)]) (rest := []) (lenOf pd_0 rfl) rfl (by show 2 * 0 + _ ≤ _; exact Nat.le_of_eq rfl) (hb hby d5_9) (fun _ _ => ⟨rfl, e1, (by decide : 1 + 0 ≤ _), (by decide : 1 + 0 ≤ _)⟩)
  dsimp only [Pt.U, Pt.locs, Pt.cells, Pt.slots] at X3 l3 y3 z3 st3 hQ3
  subst l3 y3 z3
  obtain ⟨rfl, N3q, K3q, B3_0⟩ := hQ3
  have Z3 : n0 ≤ T3.heap.size := Nat.le_trans Z1 K3q.1
  have K3 : Keep h0 T3.heap [] := K1.trans K3q (allS (Or.inr sz_b1) all0)
  have N3 := Fr.app N0 N3q
  replace G := o_nxs (q := 12) (st := [(.int 1)]) G st3 rfl
  replace G := o_istore (q := 14) (l' := #[.val (.ref a), .val (.int 0), .val (.int 1), .val (.ref b1), .val (.int 1), .unset]) G X3.here hx (hb hby d5_12) rfl rfl
  replace G := o_iload (q := 16) G X3.here hx (hb hby d5_14) rfl rfl
  replace G := o_iloadN (q := 17) G X3.here hx (hb hby d5_16) rfl rfl
  replace G := o_icmpYes (q := 57) G X3.here hx (hb hby d5_17) (by decide) (by decide) (by decide)
  replace G := o_aloadN (q := 58) G X3.here hx (hb hby d5_57) rfl rfl rfl
  obtain ⟨fs, hr, hrun, hended, hW, hsame⟩ := X3.leave (v := some (.ref b1)) (fun h => by rw [Bd.returns] at h; cases h)
  refine ⟨_, _, G _ (retOut X3 hx Bd.returns rfl (Or.inr (Or.inr (Or.inr (Or.inr ⟨rfl, rfl, rfl⟩)))) (hb hby d5_58) hr), hrun, hended, _, _, rfl, ?_, ⟨_, rfl⟩, hW, hsame.mono (by decide) (by decide)⟩
  show Q5n1 Z a ks ec0 h0 n0 _ T3.heap _
  exact ⟨b1, k1, rfl, N3, K3, sz_b1, B3_0⟩
theorem d12_0 : decode jdk_52_method_15_code 0 = .ok (.iload_n 1, 1) := by decide +kernel
theorem d12_1 : decode jdk_52_method_15_code 1 = .ok (.aload_n 0, 1) := by decide +kernel
theorem d12_2 : decode jdk_52_method_15_code 2 = .ok (.arraylength, 1) := by decide +kernel
theorem d12_3 : decode jdk_52_method_15_code 3 = .ok (.isub, 1) := by decide +kernel
theorem d12_4 : decode jdk_52_method_15_code 4 = .ok (.bipush 31, 2) := by decide +kernel
theorem d12_6 : decode jdk_52_method_15_code 6 = .ok (.iushr, 1) := by decide +kernel
theorem d12_7 : decode jdk_52_method_15_code 7 = .ok (.i2b, 1) := by decide +kernel
theorem d12_8 : decode jdk_52_method_15_code 8 = .ok (.ireturn, 1) := by decide +kernel
theorem ef_12n1 (m : MethodId) (x0 : Addr) : entryFrame m #[(.ref x0), (.int 1)] 2 = mkF m 0 #[.val (.ref x0), .val (.int 1)] [] := by first | (simp [entryFrame, mkF, argsToLocals, Value.category]; done) | rfl
def Q12n1 (Z : State) (d : Addr) (kd : ClassId) (vs : List Value) (h0 : Heap) (n0 : Nat) (v : Option Value) (h : Heap) (L : List Loc) : Prop := v = some (.int 0) ∧ Fr n0 L ∧ h = h0
set_option maxRecDepth 65536 in
set_option maxHeartbeats 40000000 in
theorem rm12n1 (l : Launch) (Z : State) (a0 : Array Value) (hw : ∀ d ∈ tables_1, d.before a0 Z = true) (ws : List Jvm.Cond) (d : Addr) (kd : ClassId) (vs : List Value) (h0 : Heap) (n0 : Nat) (Z0 : n0 ≤ h0.size) (P0 : Arv Z h0 d kd .byte (1 : Int32) vs (.int 0)) :
    MetFree l (⟨o_n0, "coderFromArrayLen", "([BI)B"⟩ : MethodName) (head1 (Jvm.Cond.code (⟨o_n0, "coderFromArrayLen", "([BI)B"⟩ : MethodName) jdk_52_method_15_code 2 (some .byte) :: ws) ({ frames := 0, cells := 0, slots := 0, locals := 0 } : Room)) (fun argz U => argz = #[(.ref d), (.int 1)] ∧ Z.Warmed39 U.vm ∧ U.heap = h0) (fun _ _ _ _ _ => True) (fun _ U o U' => ∃ v L, o = .returned v ∧ Q12n1 Z d kd vs h0 n0 v U'.heap L ∧ FrameEnd U o U' L ({ frames := 0, cells := 0, slots := 0, locals := 0 } : Room).cells ({ frames := 0, cells := 0, slots := 0, locals := 0 } : Room).slots) := by
  refine MetFree.of_bodySF (plainFor_of_name pn_java_lang_StringUTF16) hisR ?_
  intro p e s m args below meth c s₁ Bd hml0 hP hK
  obtain ⟨rfl, hZ, hh⟩ := hP
  have hx := Bd.exec
  have hby := Bd.bytes
  have hml : c.maxLocals = 2 := hml0
  have hown : s.vm.findClass o_n0 = some m.cls := findClass_of_methodNamed Bd.named
  have hnm := (name_of_methodNamed Bd.named Bd.method).1
  have X0 : Stand p l e ({ frames := 0, cells := 0, slots := 0, locals := 0 } : Room) s m #[(.ref d), (.int 1)] below meth c s₁ [] 0 0 := Stand.of_body Bd
  have e0 : s₁.heap = h0 := by rw [← hh, Bd.state]; rfl
  have N0 := Fr.nil n0
  have G : Gets p e below (s₁.setTop (entryFrame m #[(.ref d), (.int 1)] 2)) (s₁.setTop (mkF m 0 #[.val (.ref d), .val (.int 1)] [])) := fun t k => castTop (ef_12n1 m d) k
  replace G := o_iloadN (q := 1) G X0.here hx (hb hby d12_0) rfl rfl
  replace G := o_aloadN (q := 2) G X0.here hx (hb hby d12_1) rfl rfl rfl
  obtain ⟨c1, Ar1, -, S1, N1', -, -⟩ := id P0
  replace G : Gets p e below _ (s₁.setTop (mkF m 3 #[.val (.ref d), .val (.int 1)] [(.int 1), (.int 1)])) := fun t k => G t (X0.arraylength hx (by rw [e0]; exact Ar1.1) (State.isArrayOf_alike hZ.alike Ar1.2.1) (g := o_g G) rfl rfl (hb hby d12_2) t (by rw [len_of S1 N1']; exact k))
  replace G := o_isub (q := 4) G X0.here hx (hb hby d12_3) (by decide : ((1 : Int32) - (1 : Int32)) = (0 : Int32)) rfl
  replace G := o_bipush (q := 6) G X0.here hx (hb hby d12_4) (v := (31 : Int32)) (by decide) rfl
  replace G := o_iushr (q := 7) G X0.here hx (hb hby d12_6) (by decide : (((0 : Int32).toUInt32 >>> ((31 : Int32) &&& 31).toUInt32).toInt32) = (0 : Int32)) rfl
  replace G := o_i2b (q := 8) G X0.here hx (hb hby d12_7) (by decide : ((0 : Int32).toInt8.toInt32) = (0 : Int32)) rfl
  obtain ⟨fs, hr, hrun, hended, hW, hsame⟩ := X0.leave (v := some (.int 0)) (fun h => by rw [Bd.returns] at h; cases h)
  refine ⟨_, _, G _ (retOut X0 hx Bd.returns rfl (Or.inl ⟨rfl, Or.inr (Or.inr (Or.inl rfl)), _, rfl⟩) (hb hby d12_8) hr), hrun, hended, _, _, rfl, ?_, ⟨_, rfl⟩, hW, hsame.mono (by decide) (by decide)⟩
  show Q12n1 Z d kd vs h0 n0 _ s₁.heap _
  rw [e0]
  exact ⟨rfl, N0, rfl⟩
theorem pd_1 : parseMethodDescriptor "([CII)[B" = some ⟨[(.array .char), .int, .int], some (.array .byte)⟩ := by decide +kernel
theorem pd_2 : parseMethodDescriptor "([BI)B" = some ⟨[(.array .byte), .int], some .byte⟩ := by decide +kernel
theorem d3_0 : decode jdk_42_method_149_code 0 = .ok (.aload_n 0, 1) := by decide +kernel
theorem d3_1 : decode jdk_42_method_149_code 1 = .ok (.invokespecial 1, 3) := by decide +kernel
theorem d3_4 : decode jdk_42_method_149_code 4 = .ok (.iload_n 3, 1) := by decide +kernel
theorem d3_5 : decode jdk_42_method_149_code 5 = .ok (.ifCond .ne 22, 3) := by decide +kernel
theorem d3_27 : decode jdk_42_method_149_code 27 = .ok (.getstatic 38, 3) := by decide +kernel
theorem d3_30 : decode jdk_42_method_149_code 30 = .ok (.ifCond .eq 28, 3) := by decide +kernel
theorem d3_33 : decode jdk_42_method_149_code 33 = .ok (.aload_n 1, 1) := by decide +kernel
theorem d3_34 : decode jdk_42_method_149_code 34 = .ok (.iload_n 2, 1) := by decide +kernel
theorem d3_35 : decode jdk_42_method_149_code 35 = .ok (.iload_n 3, 1) := by decide +kernel
theorem d3_36 : decode jdk_42_method_149_code 36 = .ok (.invokestatic 177, 3) := by decide +kernel
theorem d3_39 : decode jdk_42_method_149_code 39 = .ok (.astore 5, 2) := by decide +kernel
theorem d3_41 : decode jdk_42_method_149_code 41 = .ok (.aload_n 0, 1) := by decide +kernel
theorem d3_42 : decode jdk_42_method_149_code 42 = .ok (.aload 5, 2) := by decide +kernel
theorem d3_44 : decode jdk_42_method_149_code 44 = .ok (.iload_n 3, 1) := by decide +kernel
theorem d3_45 : decode jdk_42_method_149_code 45 = .ok (.invokestatic 47, 3) := by decide +kernel
theorem d3_48 : decode jdk_42_method_149_code 48 = .ok (.putfield 15, 3) := by decide +kernel
theorem d3_51 : decode jdk_42_method_149_code 51 = .ok (.aload_n 0, 1) := by decide +kernel
theorem d3_52 : decode jdk_42_method_149_code 52 = .ok (.aload 5, 2) := by decide +kernel
theorem d3_54 : decode jdk_42_method_149_code 54 = .ok (.putfield 9, 3) := by decide +kernel
theorem d3_57 : decode jdk_42_method_149_code 57 = .ok (.return_, 1) := by decide +kernel
theorem pn_java_lang_String : plainName o_n1 = true := by first | (simp [plainName, overriddenIn]; done) | decide +kernel
theorem ef_3n1 (m : MethodId) (x0 : Addr) (x1 : Addr) : entryFrame m #[(.ref x0), (.ref x1), (.int 0), (.int 1), .null] 6 = mkF m 0 #[.val (.ref x0), .val (.ref x1), .val (.int 0), .val (.int 1), .val .null, .unset] [] := by first | (simp [entryFrame, mkF, argsToLocals, Value.category]; done) | rfl
def Q3n1 (Z : State) (tt : Addr) (a : Addr) (ks : ClassId) (cw : Int32) (ec0 : Int32) (h0 : Heap) (n0 : Nat) (v : Option Value) (h : Heap) (L : List Loc) : Prop := ∃ (b : Addr) (kb : ClassId), v = none ∧ Fr n0 L ∧ Keep h0 h [tt] ∧ (Fld Z h tt o_n1 "value" "[B" (.ref b)) ∧ (Fld Z h tt o_n1 "coder" "B" (.int 0)) ∧ h0.size ≤ b ∧ (Arv Z h b kb .byte (1 : Int32) [(.int (nar .byte (ec0.toInt8.toInt32)))] (.int 0))
set_option maxRecDepth 65536 in
set_option maxHeartbeats 40000000 in
theorem rm3n1 (l : Launch) (Z : State) (a0 : Array Value) (hw : ∀ d ∈ tables_1, d.before a0 Z = true) (ws : List Jvm.Cond) (tt : Addr) (a : Addr) (ks : ClassId) (cw : Int32) (ec0 : Int32) (h0 : Heap) (n0 : Nat) (Z0 : n0 ≤ h0.size) (P0 : Fld Z h0 tt o_n1 "value" "[B" .null) (P1 : Fld Z h0 tt o_n1 "coder" "B" (.int 0)) (P2 : Exa Z h0 tt o_n1) (P3 : n0 ≤ tt) (P4 : Arv Z h0 a ks .char (1 : Int32) [(.int ec0)] (.int 0)) (P5 : Sta Z h0 o_n1 "COMPACT_STRINGS" "Z" (.int cw)) (hcw : ¬ cw = (0 : Int32)) (he0 : ¬ ((255 : Int32) < ec0)) :
    MetFree l (⟨o_n1, "<init>", "([CIILjava/lang/Void;)V"⟩ : MethodName) (head1 (Jvm.Cond.code (⟨o_n1, "<init>", "([CIILjava/lang/Void;)V"⟩ : MethodName) jdk_42_method_149_code 6 none :: ws) ({ frames := 2, cells := 1, slots := 1, locals := 35 } : Room)) (fun argz U => argz = #[(.ref tt), (.ref a), (.int 0), (.int 1), .null] ∧ Z.Warmed39 U.vm ∧ U.heap = h0) (fun _ _ _ _ _ => True) (fun _ U o U' => ∃ v L, o = .returned v ∧ Q3n1 Z tt a ks cw ec0 h0 n0 v U'.heap L ∧ FrameEnd U o U' L ({ frames := 2, cells := 1, slots := 1, locals := 35 } : Room).cells ({ frames := 2, cells := 1, slots := 1, locals := 35 } : Room).slots) := by
  refine MetFree.of_bodySF (plainFor_of_name pn_java_lang_String) hisR ?_
  intro p e s m args below meth c s₁ Bd hml0 hP hK
  obtain ⟨rfl, hZ, hh⟩ := hP
  have hx := Bd.exec
  have hby := Bd.bytes
  have hml : c.maxLocals = 6 := hml0
  have hown : s.vm.findClass o_n1 = some m.cls := findClass_of_methodNamed Bd.named
  have hnm := (name_of_methodNamed Bd.named Bd.method).1
  have X0 : Stand p l e ({ frames := 2, cells := 1, slots := 1, locals := 35 } : Room) s m #[(.ref tt), (.ref a), (.int 0), (.int 1), .null] below meth c s₁ [] 0 0 := Stand.of_body Bd
  have e0 : s₁.heap = h0 := by rw [← hh, Bd.state]; rfl
  have N0 := Fr.nil n0
  have K0 : Keep h0 h0 [tt] := Keep.refl _ _
  have G : Gets p e below (s₁.setTop (entryFrame m #[(.ref tt), (.ref a), (.int 0), (.int 1), .null] 6)) (s₁.setTop (mkF m 0 #[.val (.ref tt), .val (.ref a), .val (.int 0), .val (.int 1), .val .null, .unset] [])) := fun t k => castTop (ef_3n1 m tt a) k
  replace G := o_aloadN (q := 1) G X0.here hx (hb hby d3_0) rfl rfl rfl
  obtain ⟨T1, X1, e1, st1⟩ := initO X0 hx hZ hown (o_w hw 16 rfl) (o_w hw 17 rfl) (o_w hw 18 rfl) e0 (g := o_g G) rfl (by rw [hml]; rfl) rfl (hb hby d3_1) (by decide) (W := 0) (by show 2 * 0 + _ ≤ _; exact Nat.le_of_eq rfl) (by decide)
  replace G := o_nxs (q := 4) (st := []) G st1 rfl
  replace G := o_iloadN (q := 5) G X1.here hx (hb hby d3_4) rfl rfl
  replace G := o_ifYes (q := 27) G X1.here hx (hb hby d3_5) (by decide) (by decide) (by decide)
  obtain ⟨T3, X3, e3, st3⟩ := getS2 X1 hx hZ hown (host := "") (Or.inl (o_w hw 27 rfl)) Via.refl e1 P5 (g := o_g G) rfl (hb hby d3_27)
  replace G := o_nxs (q := 30) (st := [(.int cw)]) G st3 rfl
  have hc30_4 : ¬ (cw = (0 : Int32)) := hcw
  replace G := o_ifNo (q := 33) G X3.here hx (hb hby d3_30) ((if0 _ _).trans (feq hc30_4).1) rfl
  replace G := o_aloadN (q := 34) G X3.here hx (hb hby d3_33) rfl rfl rfl
  replace G := o_iloadN (q := 35) G X3.here hx (hb hby d3_34) rfl rfl
  replace G := o_iloadN (q := 36) G X3.here hx (hb hby d3_35) rfl rfl
  obtain ⟨_, _, ⟨T5, L5, kk5, nn5⟩, -, X5, ⟨Lc5, hQ5, l5, y5, z5⟩, st5⟩ := Jvm.LawKit.callS X3 hx (y := (⟨o_n0, "compress", "([CII)[B"⟩ : MethodName)) hown (mvT hZ (o_w hw 28 rfl)) (mvT hZ (o_w hw 29 rfl)) (mvT hZ (o_w hw 30 rfl)) (mvT hZ (o_w hw 31 rfl)) (by decide) (backOf (W := 0) (rm5n1 l Z a0 hw [] a ks ec0 h0 n0 Z0 P4 he0) hZ (o_w hw 31 rfl) (o_w hw 30 rfl) (by decide) (by decide)) (g := o_g G) rfl (by rw [hml]; rfl) (argsL := [(.ref a), (.int 0), (.int 1)]) (rest := []) (lenOf pd_1 rfl) rfl (by show 2 * 0 + _ ≤ _; exact Nat.le_of_eq rfl) (hb hby d3_36) (fun _ _ => ⟨rfl, e3, (by decide : 0 + 1 ≤ _), (by decide : 0 + 1 ≤ _)⟩)
  dsimp only [Pt.U, Pt.locs, Pt.cells, Pt.slots] at X5 l5 y5 z5 st5 hQ5
  subst l5 y5 z5
  obtain ⟨b_5, kb_5, rfl, N5q, K5q, B5_0, B5_1⟩ := hQ5
  have ne6 : tt ≠ b_5 := Nat.ne_of_lt (Nat.lt_of_lt_of_le P0.lt B5_0)
  have ne7 : a ≠ b_5 := Nat.ne_of_lt (Nat.lt_of_lt_of_le P4.lt B5_0)
  have ge_b_5 : n0 ≤ b_5 := Nat.le_trans Z0 B5_0
  have sz_b_5 : h0.size ≤ b_5 := Nat.le_trans K0.1 B5_0
  have Z5 : n0 ≤ T5.heap.size := Nat.le_trans Z0 K5q.1
  have K5 : Keep h0 T5.heap [tt] := K0.trans K5q all0
  have N5 := Fr.app N0 N5q
  replace G := o_nxs (q := 39) (st := [(.ref b_5)]) G st5 rfl
  replace G := o_astore (q := 41) (l' := #[.val (.ref tt), .val (.ref a), .val (.int 0), .val (.int 1), .val .null, .val (.ref b_5)]) G X5.here hx (hb hby d3_39) rfl rfl rfl
  replace G := o_aloadN (q := 42) G X5.here hx (hb hby d3_41) rfl rfl rfl
  replace G := o_aload (q := 44) G X5.here hx (hb hby d3_42) rfl rfl rfl
  replace G := o_iloadN (q := 45) G X5.here hx (hb hby d3_44) rfl rfl
  obtain ⟨_, _, ⟨T8, L8, kk8, nn8⟩, -, X8, ⟨Lc8, hQ8, l8, y8, z8⟩, st8⟩ := Jvm.LawKit.callS X5 hx (y := (⟨o_n0, "coderFromArrayLen", "([BI)B"⟩ : MethodName)) hown (mvT hZ (o_w hw 54 rfl)) (mvT hZ (o_w hw 55 rfl)) (mvT hZ (o_w hw 30 rfl)) (mvT hZ (o_w hw 56 rfl)) (by decide) (backOf (W := 1) (rm12n1 l Z a0 hw [] b_5 kb_5 [(.int (nar .byte (ec0.toInt8.toInt32)))] T5.heap n0 Z5 B5_1) hZ (o_w hw 56 rfl) (o_w hw 30 rfl) (by decide) (by decide)) (g := o_g G) rfl (by rw [hml]; rfl) (argsL := [(.ref b_5), (.int 1)]) (rest := [(.ref tt)]) (lenOf pd_2 rfl) rfl (by show 2 * 0 + _ ≤ _; exact Nat.le_of_eq rfl) (hb hby d3_45) (fun _ _ => ⟨rfl, rfl, (by decide : 1 + 0 ≤ _), (by decide : 1 + 0 ≤ _)⟩)
  dsimp only [Pt.U, Pt.locs, Pt.cells, Pt.slots] at X8 l8 y8 z8 st8 hQ8
  subst l8 y8 z8
  obtain ⟨rfl, N8q, e8⟩ := hQ8
  have N8 := Fr.app N5 N8q
  replace G := o_nxs (q := 48) (st := [(.int 0), (.ref tt)]) G st8 rfl
  have F9 := (P2.keep K5q)
  have F10 := (P1.keep K5q nin0)
  obtain ⟨T11, h11, X11, e11, W11, st11⟩ := putFN X8 hx hZ hown (o_w hw 26 rfl) Via.refl e8 F10 F9 (Or.inr ⟨(o_w hw 22 rfl), rfl, hnm⟩) (o_w hw 6 rfl) (ty := .byte) (v' := (.int 0)) (by decide) rfl (by first | rfl | decide) (g := o_g G) rfl rfl (hb hby d3_48)
  have N11 := Fr.snoc X11 N8 P3
  have Z11 : n0 ≤ h11.size := Nat.le_trans Z5 (Keep.of_wr W11).1
  have K11 : Keep h0 h11 [tt] := K5.wr W11 (Or.inl (List.mem_of_getElem? (i := 0) rfl))
  have F11 : Fld Z h11 tt o_n1 "coder" "B" (.int 0) := F10.same W11
  replace G := o_nxs (q := 51) (st := []) G st11 rfl
  replace G := o_aloadN (q := 52) G X11.here hx (hb hby d3_51) rfl rfl rfl
  replace G := o_aload (q := 54) G X11.here hx (hb hby d3_52) rfl rfl rfl
  have F12 := (F9.wr W11)
  have F13 := ((P0.keep K5q nin0).other W11 (Or.inr (slot_ne (Or.inr (o_w hw 21 rfl)) (Or.inr (o_w hw 22 rfl)) (by decide) (t := (.array .byte)) (t' := .byte) (by decide) (by decide))))
  obtain ⟨T14, h14, X14, e14, W14, st14⟩ := putF X11 hx hZ hown (host := "") (Or.inl (o_w hw 25 rfl)) Via.refl e11 F13 F12 (Or.inr ⟨(o_w hw 21 rfl), rfl, hnm⟩) (o_w hw 6 rfl) (ty := (.array .byte)) (by decide) rfl rfl (g := o_g G) rfl rfl (hb hby d3_54)
  have N14 := Fr.snoc X14 N11 P3
  have Z14 : n0 ≤ h14.size := Nat.le_trans Z11 (Keep.of_wr W14).1
  have K14 : Keep h0 h14 [tt] := K11.wr W14 (Or.inl (List.mem_of_getElem? (i := 0) rfl))
  have F14 : Fld Z h14 tt o_n1 "value" "[B" (.ref b_5) := F13.same W14
  replace G := o_nxs (q := 57) (st := []) G st14 rfl
  obtain ⟨fs, hr, hrun, hended, hW, hsame⟩ := X14.leave (v := none) (fun _ => rfl)
  refine ⟨_, _, G _ (X14.returnOut hx Bd.returns (hb hby d3_57) hr), hrun, hended, _, _, rfl, ?_, ⟨_, rfl⟩, hW, hsame.mono (by decide) (by decide)⟩
  have F15 := (F11.other W14 (Or.inr (slot_ne (Or.inr (o_w hw 22 rfl)) (Or.inr (o_w hw 21 rfl)) (by decide) (t := .byte) (t' := (.array .byte)) (by decide) (by decide))))
  have F16 := ((B5_1.other W11 (Ne.symm ne6)).other W14 (Ne.symm ne6))
  show Q3n1 Z tt a ks cw ec0 h0 n0 _ T14.heap _
  rw [e14]
  exact ⟨b_5, kb_5, rfl, N14, K14, F14, F15, sz_b_5, F16⟩
theorem pd_3 : parseMethodDescriptor "([CIILjava/lang/Void;)V" = some ⟨[(.array .char), .int, .int, (.object "java/lang/Void")], none⟩ := by decide +kernel
theorem d2_0 : decode jdk_42_method_3_code 0 = .ok (.aload_n 0, 1) := by decide +kernel
theorem d2_1 : decode jdk_42_method_3_code 1 = .ok (.aload_n 1, 1) := by decide +kernel
theorem d2_2 : decode jdk_42_method_3_code 2 = .ok (.iconst 0, 1) := by decide +kernel
theorem d2_3 : decode jdk_42_method_3_code 3 = .ok (.aload_n 1, 1) := by decide +kernel
theorem d2_4 : decode jdk_42_method_3_code 4 = .ok (.arraylength, 1) := by decide +kernel
theorem d2_5 : decode jdk_42_method_3_code 5 = .ok (.aconst_null, 1) := by decide +kernel
theorem d2_6 : decode jdk_42_method_3_code 6 = .ok (.invokespecial 27, 3) := by decide +kernel
theorem d2_9 : decode jdk_42_method_3_code 9 = .ok (.return_, 1) := by decide +kernel
theorem ef_2n1 (m : MethodId) (x0 : Addr) (x1 : Addr) : entryFrame m #[(.ref x0), (.ref x1)] 2 = mkF m 0 #[.val (.ref x0), .val (.ref x1)] [] := by first | (simp [entryFrame, mkF, argsToLocals, Value.category]; done) | rfl
def Q2n1 (Z : State) (tt : Addr) (a : Addr) (ks : ClassId) (cw : Int32) (ec0 : Int32) (h0 : Heap) (n0 : Nat) (v : Option Value) (h : Heap) (L : List Loc) : Prop := ∃ (b : Addr) (kb : ClassId), v = none ∧ Fr n0 L ∧ Keep h0 h [tt] ∧ (Fld Z h tt o_n1 "value" "[B" (.ref b)) ∧ (Fld Z h tt o_n1 "coder" "B" (.int 0)) ∧ h0.size ≤ b ∧ (Arv Z h b kb .byte (1 : Int32) [(.int (nar .byte (ec0.toInt8.toInt32)))] (.int 0))
set_option maxRecDepth 65536 in
set_option maxHeartbeats 40000000 in
theorem rm2n1 (l : Launch) (Z : State) (a0 : Array Value) (hw : ∀ d ∈ tables_1, d.before a0 Z = true) (ws : List Jvm.Cond) (tt : Addr) (a : Addr) (ks : ClassId) (cw : Int32) (ec0 : Int32) (h0 : Heap) (n0 : Nat) (Z0 : n0 ≤ h0.size) (P0 : Fld Z h0 tt o_n1 "value" "[B" .null) (P1 : Fld Z h0 tt o_n1 "coder" "B" (.int 0)) (P2 : Exa Z h0 tt o_n1) (P3 : n0 ≤ tt) (P4 : Arv Z h0 a ks .char (1 : Int32) [(.int ec0)] (.int 0)) (P5 : Sta Z h0 o_n1 "COMPACT_STRINGS" "Z" (.int cw)) (hcw : ¬ cw = (0 : Int32)) (he0 : ¬ ((255 : Int32) < ec0)) :
    MetFree l (⟨o_n1, "<init>", "([C)V"⟩ : MethodName) (head1 (Jvm.Cond.code (⟨o_n1, "<init>", "([C)V"⟩ : MethodName) jdk_42_method_3_code 2 none :: ws) ({ frames := 3, cells := 1, slots := 1, locals := 52 } : Room)) (fun argz U => argz = #[(.ref tt), (.ref a)] ∧ Z.Warmed39 U.vm ∧ U.heap = h0) (fun _ _ _ _ _ => True) (fun _ U o U' => ∃ v L, o = .returned v ∧ Q2n1 Z tt a ks cw ec0 h0 n0 v U'.heap L ∧ FrameEnd U o U' L ({ frames := 3, cells := 1, slots := 1, locals := 52 } : Room).cells ({ frames := 3, cells := 1, slots := 1, locals := 52 } : Room).slots) := by
  refine MetFree.of_bodySF (plainFor_of_name pn_java_lang_String) hisR ?_
  intro p e s m args below meth c s₁ Bd hml0 hP hK
  obtain ⟨rfl, hZ, hh⟩ := hP
  have hx := Bd.exec
  have hby := Bd.bytes
  have hml : c.maxLocals = 2 := hml0
  have hown : s.vm.findClass o_n1 = some m.cls := findClass_of_methodNamed Bd.named
  have hnm := (name_of_methodNamed Bd.named Bd.method).1
  have X0 : Stand p l e ({ frames := 3, cells := 1, slots := 1, locals := 52 } : Room) s m #[(.ref tt), (.ref a)] below meth c s₁ [] 0 0 := Stand.of_body Bd
  have e0 : s₁.heap = h0 := by rw [← hh, Bd.state]; rfl
  have N0 := Fr.nil n0
  have K0 : Keep h0 h0 [tt] := Keep.refl _ _
  have G : Gets p e below (s₁.setTop (entryFrame m #[(.ref tt), (.ref a)] 2)) (s₁.setTop (mkF m 0 #[.val (.ref tt), .val (.ref a)] [])) := fun t k => castTop (ef_2n1 m tt a) k
  replace G := o_aloadN (q := 1) G X0.here hx (hb hby d2_0) rfl rfl rfl
  replace G := o_aloadN (q := 2) G X0.here hx (hb hby d2_1) rfl rfl rfl
  replace G := o_iconst (q := 3) G X0.here hx (hb hby d2_2) (v := (0 : Int32)) (by decide) rfl
  replace G := o_aloadN (q := 4) G X0.here hx (hb hby d2_3) rfl rfl rfl
  obtain ⟨c1, Ar1, -, S1, N1', -, -⟩ := id P4
  replace G : Gets p e below _ (s₁.setTop (mkF m 5 #[.val (.ref tt), .val (.ref a)] [(.int 1), (.int 0), (.ref a), (.ref tt)])) := fun t k => G t (X0.arraylength hx (by rw [e0]; exact Ar1.1) (State.isArrayOf_alike hZ.alike Ar1.2.1) (g := o_g G) rfl rfl (hb hby d2_4) t (by rw [len_of S1 N1']; exact k))
  replace G := o_aconst_null (q := 6) G X0.here hx (hb hby d2_5) rfl
  obtain ⟨_, _, ⟨T2, L2, kk2, nn2⟩, -, X2, ⟨Lc2, hQ2, l2, y2, z2⟩, st2⟩ := X0.specialBack hx (y := (⟨o_n1, "<init>", "([CIILjava/lang/Void;)V"⟩ : MethodName)) rfl hown (mvT hZ (o_w hw 12 rfl)) (mvT hZ (o_w hw 13 rfl)) (mvT hZ (o_w hw 15 rfl)) (by decide) (backOf (W := 0) (rm3n1 l Z a0 hw [] tt a ks cw ec0 h0 n0 Z0 P0 P1 P2 P3 P4 P5 hcw he0) hZ (o_w hw 15 rfl) (o_w hw 7 rfl) (by decide) (by decide)) (g := o_g G) rfl (by rw [hml]; rfl) (Steps.refl _) (a := tt) (argsL := [(.ref a), (.int 0), (.int 1), .null]) (rest := []) (lenOf pd_3 rfl) rfl (by show 2 * 0 + _ ≤ _; exact Nat.le_of_eq rfl) (hb hby d2_6) (fun _ _ => ⟨rfl, e0, (by decide : 0 + 1 ≤ _), (by decide : 0 + 1 ≤ _)⟩)
  dsimp only [Pt.U, Pt.locs, Pt.cells, Pt.slots] at X2 l2 y2 z2 st2 hQ2
  subst l2 y2 z2
  obtain ⟨b_2, kb_2, rfl, N2q, K2q, B2_0, B2_1, B2_2, B2_3⟩ := hQ2
  have ne3 : tt ≠ b_2 := Nat.ne_of_lt (Nat.lt_of_lt_of_le P0.lt B2_2)
  have ne4 : a ≠ b_2 := Nat.ne_of_lt (Nat.lt_of_lt_of_le P4.lt B2_2)
  have ge_b_2 : n0 ≤ b_2 := Nat.le_trans Z0 B2_2
  have sz_b_2 : h0.size ≤ b_2 := Nat.le_trans K0.1 B2_2
  have Z2 : n0 ≤ T2.heap.size := Nat.le_trans Z0 K2q.1
  have K2 : Keep h0 T2.heap [tt] := K0.trans K2q (allS (Or.inl (List.mem_of_getElem? (i := 0) rfl)) all0)
  have N2 := Fr.app N0 N2q
  replace G := o_nxv (q := 9) (st := []) G st2 rfl
  obtain ⟨fs, hr, hrun, hended, hW, hsame⟩ := X2.leave (v := none) (fun _ => rfl)
  refine ⟨_, _, G _ (X2.returnOut hx Bd.returns (hb hby d2_9) hr), hrun, hended, _, _, rfl, ?_, ⟨_, rfl⟩, hW, hsame.mono (by decide) (by decide)⟩
  show Q2n1 Z tt a ks cw ec0 h0 n0 _ T2.heap _
  exact ⟨b_2, kb_2, rfl, N2, K2, B2_0, B2_1, sz_b_2, B2_3⟩
theorem d9_0 : decode jdk_52_method_3_code 0 = .ok (.iload_n 0, 1) := by decide +kernel
theorem d9_1 : decode jdk_52_method_3_code 1 = .ok (.ifCond .ge 11, 3) := by decide +kernel
theorem d9_12 : decode jdk_52_method_3_code 12 = .ok (.iload_n 0, 1) := by decide +kernel
theorem d9_13 : decode jdk_52_method_3_code 13 = .ok (.ldc 20, 2) := by decide +kernel
theorem d9_15 : decode jdk_52_method_3_code 15 = .ok (.if_icmp .lt 40, 3) := by decide +kernel
theorem d9_55 : decode jdk_52_method_3_code 55 = .ok (.iload_n 0, 1) := by decide +kernel
theorem d9_56 : decode jdk_52_method_3_code 56 = .ok (.iconst 1, 1) := by decide +kernel
theorem d9_57 : decode jdk_52_method_3_code 57 = .ok (.ishl, 1) := by decide +kernel
theorem d9_58 : decode jdk_52_method_3_code 58 = .ok (.ireturn, 1) := by decide +kernel
theorem ef_9c0 (m : MethodId)  : entryFrame m #[(.int 1)] 1 = mkF m 0 #[.val (.int 1)] [] := by first | (simp [entryFrame, mkF, argsToLocals, Value.category]; done) | rfl
def Q9c0 (Z : State)  (h0 : Heap) (n0 : Nat) (v : Option Value) (h : Heap) (L : List Loc) : Prop := v = some (.int 2) ∧ Fr n0 L ∧ h = h0
set_option maxRecDepth 65536 in
set_option maxHeartbeats 40000000 in
theorem rm9c0 (l : Launch) (Z : State) (a0 : Array Value) (hw : ∀ d ∈ tables_1, d.before a0 Z = true) (ws : List Jvm.Cond)  (h0 : Heap) (n0 : Nat) (Z0 : n0 ≤ h0.size)  :
    MetFree l (⟨o_n0, "newBytesLength", "(I)I"⟩ : MethodName) (head1 (Jvm.Cond.code (⟨o_n0, "newBytesLength", "(I)I"⟩ : MethodName) jdk_52_method_3_code 1 (some .int) :: ws) ({ frames := 0, cells := 0, slots := 0, locals := 0 } : Room)) (fun argz U => argz = #[(.int 1)] ∧ Z.Warmed39 U.vm ∧ U.heap = h0) (fun _ _ _ _ _ => True) (fun _ U o U' => ∃ v L, o = .returned v ∧ Q9c0 Z  h0 n0 v U'.heap L ∧ FrameEnd U o U' L ({ frames := 0, cells := 0, slots := 0, locals := 0 } : Room).cells ({ frames := 0, cells := 0, slots := 0, locals := 0 } : Room).slots) := by
  refine MetFree.of_bodySF (plainFor_of_name pn_java_lang_StringUTF16) hisR ?_
  intro p e s m args below meth c s₁ Bd hml0 hP hK
  obtain ⟨rfl, hZ, hh⟩ := hP
  have hx := Bd.exec
  have hby := Bd.bytes
  have hml : c.maxLocals = 1 := hml0
  have hown : s.vm.findClass o_n0 = some m.cls := findClass_of_methodNamed Bd.named
  have hnm := (name_of_methodNamed Bd.named Bd.method).1
  have X0 : Stand p l e ({ frames := 0, cells := 0, slots := 0, locals := 0 } : Room) s m #[(.int 1)] below meth c s₁ [] 0 0 := Stand.of_body Bd
  have e0 : s₁.heap = h0 := by rw [← hh, Bd.state]; rfl
  have N0 := Fr.nil n0
  have G : Gets p e below (s₁.setTop (entryFrame m #[(.int 1)] 1)) (s₁.setTop (mkF m 0 #[.val (.int 1)] [])) := fun t k => castTop (ef_9c0 m ) k
  replace G := o_iloadN (q := 1) G X0.here hx (hb hby d9_0) rfl rfl
  replace G := o_ifYes (q := 12) G X0.here hx (hb hby d9_1) (by decide) (by decide) (by decide)
  replace G := o_iloadN (q := 13) G X0.here hx (hb hby d9_12) rfl rfl
  replace G := o_nxs (q := 15) (st := [(.int 1073741823), (.int 1)]) G (X0.ldcInt hx hown (mvT hZ (o_w hw 44 rfl)) (g := o_g G) rfl (hb hby d9_13)) rfl
  replace G := o_icmpYes (q := 55) G X0.here hx (hb hby d9_15) (by decide) (by decide) (by decide)
  replace G := o_iloadN (q := 56) G X0.here hx (hb hby d9_55) rfl rfl
  replace G := o_iconst (q := 57) G X0.here hx (hb hby d9_56) (v := (1 : Int32)) (by decide) rfl
  replace G := o_ishl (q := 58) G X0.here hx (hb hby d9_57) (by decide : ((1 : Int32) <<< ((1 : Int32) &&& 31)) = (2 : Int32)) rfl
  obtain ⟨fs, hr, hrun, hended, hW, hsame⟩ := X0.leave (v := some (.int 2)) (fun h => by rw [Bd.returns] at h; cases h)
  refine ⟨_, _, G _ (retOut X0 hx Bd.returns rfl (Or.inl ⟨rfl, Or.inl rfl, _, rfl⟩) (hb hby d9_58) hr), hrun, hended, _, _, rfl, ?_, ⟨_, rfl⟩, hW, hsame.mono (by decide) (by decide)⟩
  show Q9c0 Z  h0 n0 _ s₁.heap _
  rw [e0]
  exact ⟨rfl, N0, rfl⟩
theorem pd_4 : parseMethodDescriptor "(I)I" = some ⟨[.int], some .int⟩ := by decide +kernel
theorem d8_0 : decode jdk_52_method_2_code 0 = .ok (.iload_n 0, 1) := by decide +kernel
theorem d8_1 : decode jdk_52_method_2_code 1 = .ok (.invokestatic 11, 3) := by decide +kernel
theorem d8_4 : decode jdk_52_method_2_code 4 = .ok (.newarray .byte, 2) := by decide +kernel
theorem d8_6 : decode jdk_52_method_2_code 6 = .ok (.areturn, 1) := by decide +kernel
theorem ef_8u1 (m : MethodId)  : entryFrame m #[(.int 1)] 1 = mkF m 0 #[.val (.int 1)] [] := by first | (simp [entryFrame, mkF, argsToLocals, Value.category]; done) | rfl
def Q8u1 (Z : State)  (h0 : Heap) (n0 : Nat) (v : Option Value) (h : Heap) (L : List Loc) : Prop := ∃ (b : Addr) (kb : ClassId), v = some (.ref b) ∧ Fr n0 L ∧ Keep h0 h [] ∧ h0.size ≤ b ∧ (Arv Z h b kb .byte (2 : Int32) [(.int 0), (.int 0)] (.int 0))
set_option maxRecDepth 65536 in
set_option maxHeartbeats 40000000 in
theorem rm8u1 (l : Launch) (Z : State) (a0 : Array Value) (hw : ∀ d ∈ tables_1, d.before a0 Z = true) (ws : List Jvm.Cond)  (h0 : Heap) (n0 : Nat) (Z0 : n0 ≤ h0.size)  :
    MetFree l (⟨o_n0, "newBytesFor", "(I)[B"⟩ : MethodName) (head1 (Jvm.Cond.code (⟨o_n0, "newBytesFor", "(I)[B"⟩ : MethodName) jdk_52_method_2_code 1 (some (.array .byte)) :: ws) ({ frames := 1, cells := 1, slots := 2, locals := 12 } : Room)) (fun argz U => argz = #[(.int 1)] ∧ Z.Warmed39 U.vm ∧ U.heap = h0) (fun _ _ _ _ _ => True) (fun _ U o U' => ∃ v L, o = .returned v ∧ Q8u1 Z  h0 n0 v U'.heap L ∧ FrameEnd U o U' L ({ frames := 1, cells := 1, slots := 2, locals := 12 } : Room).cells ({ frames := 1, cells := 1, slots := 2, locals := 12 } : Room).slots) := by
  refine MetFree.of_bodySF (plainFor_of_name pn_java_lang_StringUTF16) hisR ?_
  intro p e s m args below meth c s₁ Bd hml0 hP hK
  obtain ⟨rfl, hZ, hh⟩ := hP
  have hx := Bd.exec
  have hby := Bd.bytes
  have hml : c.maxLocals = 1 := hml0
  have hown : s.vm.findClass o_n0 = some m.cls := findClass_of_methodNamed Bd.named
  have hnm := (name_of_methodNamed Bd.named Bd.method).1
  have X0 : Stand p l e ({ frames := 1, cells := 1, slots := 2, locals := 12 } : Room) s m #[(.int 1)] below meth c s₁ [] 0 0 := Stand.of_body Bd
  have e0 : s₁.heap = h0 := by rw [← hh, Bd.state]; rfl
  have N0 := Fr.nil n0
  have K0 : Keep h0 h0 [] := Keep.refl _ _
  have G : Gets p e below (s₁.setTop (entryFrame m #[(.int 1)] 1)) (s₁.setTop (mkF m 0 #[.val (.int 1)] [])) := fun t k => castTop (ef_8u1 m ) k
  replace G := o_iloadN (q := 1) G X0.here hx (hb hby d8_0) rfl rfl
  obtain ⟨_, _, ⟨T1, L1, kk1, nn1⟩, -, X1, ⟨Lc1, hQ1, l1, y1, z1⟩, st1⟩ := Jvm.LawKit.callS X0 hx (y := (⟨o_n0, "newBytesLength", "(I)I"⟩ : MethodName)) hown (mvT hZ (o_w hw 41 rfl)) (mvT hZ (o_w hw 42 rfl)) (mvT hZ (o_w hw 30 rfl)) (mvT hZ (o_w hw 43 rfl)) (by decide) (backOf (W := 0) (rm9c0 l Z a0 hw []  h0 n0 Z0 ) hZ (o_w hw 43 rfl) (o_w hw 30 rfl) (by decide) (by decide)) (g := o_g G) rfl (by rw [hml]; rfl) (argsL := [(.int 1)]) (rest := []) (lenOf pd_4 rfl) rfl (by show 2 * 0 + _ ≤ _; exact Nat.le_of_eq rfl) (hb hby d8_1) (fun _ _ => ⟨rfl, e0, (by decide : 0 + 0 ≤ _), (by decide : 0 + 0 ≤ _)⟩)
  dsimp only [Pt.U, Pt.locs, Pt.cells, Pt.slots] at X1 l1 y1 z1 st1 hQ1
  subst l1 y1 z1
  obtain ⟨rfl, N1q, e1⟩ := hQ1
  have N1 := Fr.app N0 N1q
  replace G := o_nxs (q := 4) (st := [(.int 2)]) G st1 rfl
  obtain ⟨T2, h2, k2, X2, e2, E2, A2, st2⟩ := newP X1 hx hZ (o_w hw 20 rfl) e1 (g := o_g G) rfl (hb hby d8_4) rfl (by decide) (cap := 2) (by decide) (by decide) (by decide) (by decide)
  obtain ⟨b2, g2⟩ : ∃ z, z = h0.size := ⟨_, rfl⟩
  rw [← g2] at A2 st2
  have ge_b2 : n0 ≤ b2 := Nat.le_trans Z0 (Nat.le_of_eq g2.symm)
  have sz_b2 : h0.size ≤ b2 := Nat.le_trans K0.1 (Nat.le_of_eq g2.symm)
  have Z2 : n0 ≤ h2.size := Nat.le_trans Z0 E2.1
  have K2 : Keep h0 h2 [] := K0.ext E2
  have V2 : Arv Z h2 b2 k2 .byte (2 : Int32) [(.int 0), (.int 0)] (.int 0) := (Arv.new A2 (by decide)).pad (pad_rep [] (.int 0) 2)
  replace G := o_nxs (q := 6) (st := [(.ref b2)]) G st2 rfl
  obtain ⟨fs, hr, hrun, hended, hW, hsame⟩ := X2.leave (v := some (.ref b2)) (fun h => by rw [Bd.returns] at h; cases h)
  refine ⟨_, _, G _ (retOut X2 hx Bd.returns rfl (Or.inr (Or.inr (Or.inr (Or.inr ⟨rfl, rfl, rfl⟩)))) (hb hby d8_6) hr), hrun, hended, _, _, rfl, ?_, ⟨_, rfl⟩, hW, hsame.mono (by decide) (by decide)⟩
  show Q8u1 Z  h0 n0 _ T2.heap _
  rw [e2]
  exact ⟨b2, k2, rfl, N1, K2, sz_b2, V2⟩
theorem d10_0 : decode jdk_52_method_4_code 0 = .ok (.getstatic 44, 3) := by decide +kernel
theorem d10_3 : decode jdk_52_method_4_code 3 = .ok (.ifCond .ne 25, 3) := by decide +kernel
theorem d10_28 : decode jdk_52_method_4_code 28 = .ok (.iload_n 1, 1) := by decide +kernel
theorem d10_29 : decode jdk_52_method_4_code 29 = .ok (.iconst 1, 1) := by decide +kernel
theorem d10_30 : decode jdk_52_method_4_code 30 = .ok (.ishl, 1) := by decide +kernel
theorem d10_31 : decode jdk_52_method_4_code 31 = .ok (.istore_n 1, 1) := by decide +kernel
theorem d10_32 : decode jdk_52_method_4_code 32 = .ok (.aload_n 0, 1) := by decide +kernel
theorem d10_33 : decode jdk_52_method_4_code 33 = .ok (.iload_n 1, 1) := by decide +kernel
theorem d10_34 : decode jdk_52_method_4_code 34 = .ok (.iinc 1 1, 3) := by decide +kernel
theorem d10_37 : decode jdk_52_method_4_code 37 = .ok (.iload_n 2, 1) := by decide +kernel
theorem d10_38 : decode jdk_52_method_4_code 38 = .ok (.getstatic 59, 3) := by decide +kernel
theorem d10_41 : decode jdk_52_method_4_code 41 = .ok (.ishr, 1) := by decide +kernel
theorem d10_42 : decode jdk_52_method_4_code 42 = .ok (.i2b, 1) := by decide +kernel
theorem d10_43 : decode jdk_52_method_4_code 43 = .ok (.bastore, 1) := by decide +kernel
theorem d10_44 : decode jdk_52_method_4_code 44 = .ok (.aload_n 0, 1) := by decide +kernel
theorem d10_45 : decode jdk_52_method_4_code 45 = .ok (.iload_n 1, 1) := by decide +kernel
theorem d10_46 : decode jdk_52_method_4_code 46 = .ok (.iload_n 2, 1) := by decide +kernel
theorem d10_47 : decode jdk_52_method_4_code 47 = .ok (.getstatic 63, 3) := by decide +kernel
theorem d10_50 : decode jdk_52_method_4_code 50 = .ok (.ishr, 1) := by decide +kernel
theorem d10_51 : decode jdk_52_method_4_code 51 = .ok (.i2b, 1) := by decide +kernel
theorem d10_52 : decode jdk_52_method_4_code 52 = .ok (.bastore, 1) := by decide +kernel
theorem d10_53 : decode jdk_52_method_4_code 53 = .ok (.return_, 1) := by decide +kernel
theorem ef_10u1p0 (m : MethodId) (x0 : Addr) (x2 : Int32) : entryFrame m #[(.ref x0), (.int 0), (.int x2)] 3 = mkF m 0 #[.val (.ref x0), .val (.int 0), .val (.int x2)] [] := by first | (simp [entryFrame, mkF, argsToLocals, Value.category]; done) | rfl
def Q10u1p0 (Z : State) (d : Addr) (ch : Int32) (kd : ClassId) (h0 : Heap) (n0 : Nat) (v : Option Value) (h : Heap) (L : List Loc) : Prop := v = none ∧ Fr n0 L ∧ Keep h0 h [d] ∧ (Arv Z h d kd .byte (2 : Int32) [(.int (nar .byte ((ch >>> ((0 : Int32) &&& 31)).toInt8.toInt32))), (.int (nar .byte ((ch >>> ((8 : Int32) &&& 31)).toInt8.toInt32)))] (.int 0))
set_option maxRecDepth 65536 in
set_option maxHeartbeats 40000000 in
theorem rm10u1p0 (l : Launch) (Z : State) (a0 : Array Value) (hw : ∀ d ∈ tables_1, d.before a0 Z = true) (ws : List Jvm.Cond) (d : Addr) (ch : Int32) (kd : ClassId) (h0 : Heap) (n0 : Nat) (Z0 : n0 ≤ h0.size) (P0 : Old Z n0 h0) (P1 : Sta Z Z.heap o_n0 "$assertionsDisabled" "Z" (.int 1)) (P2 : Sta Z Z.heap o_n0 "HI_BYTE_SHIFT" "I" (.int 0)) (P3 : Sta Z Z.heap o_n0 "LO_BYTE_SHIFT" "I" (.int 8)) (P4 : Arv Z h0 d kd .byte (2 : Int32) [(.int 0), (.int 0)] (.int 0)) (P5 : n0 ≤ d) :
    MetFree l (⟨o_n0, "putChar", "([BII)V"⟩ : MethodName) (head1 (Jvm.Cond.code (⟨o_n0, "putChar", "([BII)V"⟩ : MethodName) jdk_52_method_4_code 3 none :: ws) ({ frames := 0, cells := 0, slots := 0, locals := 0 } : Room)) (fun argz U => argz = #[(.ref d), (.int 0), (.int ch)] ∧ Z.Warmed39 U.vm ∧ U.heap = h0) (fun _ _ _ _ _ => True) (fun _ U o U' => ∃ v L, o = .returned v ∧ Q10u1p0 Z d ch kd h0 n0 v U'.heap L ∧ FrameEnd U o U' L ({ frames := 0, cells := 0, slots := 0, locals := 0 } : Room).cells ({ frames := 0, cells := 0, slots := 0, locals := 0 } : Room).slots) := by
  refine MetFree.of_bodySF (plainFor_of_name pn_java_lang_StringUTF16) hisR ?_
  intro p e s m args below meth c s₁ Bd hml0 hP hK
  obtain ⟨rfl, hZ, hh⟩ := hP
  have hx := Bd.exec
  have hby := Bd.bytes
  have hml : c.maxLocals = 3 := hml0
  have hown : s.vm.findClass o_n0 = some m.cls := findClass_of_methodNamed Bd.named
  have hnm := (name_of_methodNamed Bd.named Bd.method).1
  have X0 : Stand p l e ({ frames := 0, cells := 0, slots := 0, locals := 0 } : Room) s m #[(.ref d), (.int 0), (.int ch)] below meth c s₁ [] 0 0 := Stand.of_body Bd
  have e0 : s₁.heap = h0 := by rw [← hh, Bd.state]; rfl
  have N0 := Fr.nil n0
  have K0 : Keep h0 h0 [d] := Keep.refl _ _
  have G : Gets p e below (s₁.setTop (entryFrame m #[(.ref d), (.int 0), (.int ch)] 3)) (s₁.setTop (mkF m 0 #[.val (.ref d), .val (.int 0), .val (.int ch)] [])) := fun t k => castTop (ef_10u1p0 m d ch) k
  have F1 : Sta Z h0 o_n0 "$assertionsDisabled" "Z" (.int 1) := P1.ext P0.2
  obtain ⟨T2, X2, e2, st2⟩ := getS2 X0 hx hZ hown (host := "") (Or.inl (o_w hw 48 rfl)) Via.refl e0 F1 (g := o_g G) rfl (hb hby d10_0)
  replace G := o_nxs (q := 3) (st := [(.int 1)]) G st2 rfl
  replace G := o_ifYes (q := 28) G X2.here hx (hb hby d10_3) (by decide) (by decide) (by decide)
  replace G := o_iloadN (q := 29) G X2.here hx (hb hby d10_28) rfl rfl
  replace G := o_iconst (q := 30) G X2.here hx (hb hby d10_29) (v := (1 : Int32)) (by decide) rfl
  replace G := o_ishl (q := 31) G X2.here hx (hb hby d10_30) (by decide : ((0 : Int32) <<< ((1 : Int32) &&& 31)) = (0 : Int32)) rfl
  replace G := o_istoreN (q := 32) (l' := #[.val (.ref d), .val (.int 0), .val (.int ch)]) G X2.here hx (hb hby d10_31) rfl rfl
  replace G := o_aloadN (q := 33) G X2.here hx (hb hby d10_32) rfl rfl rfl
  replace G := o_iloadN (q := 34) G X2.here hx (hb hby d10_33) rfl rfl
  replace G := o_iinc (q := 37) (l' := #[.val (.ref d), .val (.int 1), .val (.int ch)]) (w := (1 : Int32)) G X2.here hx (hb hby d10_34) (by decide) rfl (by decide : ((0 : Int32) + (1 : Int32)) = (1 : Int32)) rfl rfl
  replace G := o_iloadN (q := 38) G X2.here hx (hb hby d10_37) rfl rfl
  have F4 : Sta Z h0 o_n0 "HI_BYTE_SHIFT" "I" (.int 0) := P2.ext P0.2
  obtain ⟨T5, X5, e5, st5⟩ := getS2 X2 hx hZ hown (host := "") (Or.inl (o_w hw 49 rfl)) Via.refl e2 F4 (g := o_g G) rfl (hb hby d10_38)
  replace G := o_nxs (q := 41) (st := [(.int 0), (.int ch), (.int 0), (.ref d)]) G st5 rfl
  replace G := o_ishr (q := 42) G X5.here hx (hb hby d10_41) rfl rfl
  replace G := o_i2b (q := 43) G X5.here hx (hb hby d10_42) rfl rfl
  obtain ⟨c6, Ar6, q6, S6, N6', H6, G6'⟩ := id P4
  have hin6 : ¬ ((0 : Int32) < 0 ∨ c6.slots.size ≤ ((0 : Int32)).toNatClampNeg) := inb_of S6 ⟨by decide, by decide⟩
  obtain ⟨T6, h6, X6, e6, W6, st6⟩ := stB X5 hx hZ e5 Ar6 (j := (0 : Int32)) hin6 (g := o_g G) rfl rfl (hb hby d10_43)
  have N6 := Fr.snoc X6 N0 P5
  have Z6 : n0 ≤ h6.size := Nat.le_trans Z0 (Keep.of_wr W6).1
  have K6 : Keep h0 h6 [d] := K0.wr W6 (Or.inl (List.mem_of_getElem? (i := 0) rfl))
  have V6 : Arv Z h6 d kd .byte (2 : Int32) [(.int (nar .byte ((ch >>> ((0 : Int32) &&& 31)).toInt8.toInt32))), (.int 0)] (.int 0) := Arv.set Ar6 q6 S6 N6' H6 G6' (fits_nar_byte _) W6 0 rfl (Nat.le_of_ble_eq_true rfl)
  replace G := o_nxs (q := 44) (st := []) G st6 rfl
  replace G := o_aloadN (q := 45) G X6.here hx (hb hby d10_44) rfl rfl rfl
  replace G := o_iloadN (q := 46) G X6.here hx (hb hby d10_45) rfl rfl
  replace G := o_iloadN (q := 47) G X6.here hx (hb hby d10_46) rfl rfl
  have F7 := (P0.wr W6 P5)
  have F8 : Sta Z h6 o_n0 "LO_BYTE_SHIFT" "I" (.int 8) := P3.ext F7.2
  obtain ⟨T9, X9, e9, st9⟩ := getS2 X6 hx hZ hown (host := "") (Or.inl (o_w hw 50 rfl)) Via.refl e6 F8 (g := o_g G) rfl (hb hby d10_47)
  replace G := o_nxs (q := 50) (st := [(.int 8), (.int ch), (.int 1), (.ref d)]) G st9 rfl
  replace G := o_ishr (q := 51) G X9.here hx (hb hby d10_50) rfl rfl
  replace G := o_i2b (q := 52) G X9.here hx (hb hby d10_51) rfl rfl
  obtain ⟨c10, Ar10, q10, S10, N10', H10, G10'⟩ := id V6
  have hin10 : ¬ ((1 : Int32) < 0 ∨ c10.slots.size ≤ ((1 : Int32)).toNatClampNeg) := inb_of S10 ⟨by decide, by decide⟩
  obtain ⟨T10, h10, X10, e10, W10, st10⟩ := stB X9 hx hZ e9 Ar10 (j := (1 : Int32)) hin10 (g := o_g G) rfl rfl (hb hby d10_52)
  have N10 := Fr.snoc X10 N6 P5
  have Z10 : n0 ≤ h10.size := Nat.le_trans Z6 (Keep.of_wr W10).1
  have K10 : Keep h0 h10 [d] := K6.wr W10 (Or.inl (List.mem_of_getElem? (i := 0) rfl))
  have V10 : Arv Z h10 d kd .byte (2 : Int32) [(.int (nar .byte ((ch >>> ((0 : Int32) &&& 31)).toInt8.toInt32))), (.int (nar .byte ((ch >>> ((8 : Int32) &&& 31)).toInt8.toInt32)))] (.int 0) := Arv.set Ar10 q10 S10 N10' H10 G10' (fits_nar_byte _) W10 1 rfl (Nat.le_of_ble_eq_true rfl)
  replace G := o_nxs (q := 53) (st := []) G st10 rfl
  obtain ⟨fs, hr, hrun, hended, hW, hsame⟩ := X10.leave (v := none) (fun _ => rfl)
  refine ⟨_, _, G _ (X10.returnOut hx Bd.returns (hb hby d10_53) hr), hrun, hended, _, _, rfl, ?_, ⟨_, rfl⟩, hW, hsame.mono (by decide) (by decide)⟩
  show Q10u1p0 Z d ch kd h0 n0 _ T10.heap _
  rw [e10]
  exact ⟨rfl, N10, K10, V10⟩
theorem pd_5 : parseMethodDescriptor "(I)[B" = some ⟨[.int], some (.array .byte)⟩ := by decide +kernel
theorem pd_6 : parseMethodDescriptor "([BII)V" = some ⟨[(.array .byte), .int, .int], none⟩ := by decide +kernel
theorem d7_0 : decode jdk_52_method_14_code 0 = .ok (.iload_n 2, 1) := by decide +kernel
theorem d7_1 : decode jdk_52_method_14_code 1 = .ok (.invokestatic 107, 3) := by decide +kernel
theorem d7_4 : decode jdk_52_method_14_code 4 = .ok (.astore_n 3, 1) := by decide +kernel
theorem d7_5 : decode jdk_52_method_14_code 5 = .ok (.iconst 0, 1) := by decide +kernel
theorem d7_6 : decode jdk_52_method_14_code 6 = .ok (.istore 4, 2) := by decide +kernel
theorem d7_8 : decode jdk_52_method_14_code 8 = .ok (.iload 4, 2) := by decide +kernel
theorem d7_10 : decode jdk_52_method_14_code 10 = .ok (.iload_n 2, 1) := by decide +kernel
theorem d7_11 : decode jdk_52_method_14_code 11 = .ok (.if_icmp .ge 21, 3) := by decide +kernel
theorem d7_14 : decode jdk_52_method_14_code 14 = .ok (.aload_n 3, 1) := by decide +kernel
theorem d7_15 : decode jdk_52_method_14_code 15 = .ok (.iload 4, 2) := by decide +kernel
theorem d7_17 : decode jdk_52_method_14_code 17 = .ok (.aload_n 0, 1) := by decide +kernel
theorem d7_18 : decode jdk_52_method_14_code 18 = .ok (.iload_n 1, 1) := by decide +kernel
theorem d7_19 : decode jdk_52_method_14_code 19 = .ok (.caload, 1) := by decide +kernel
theorem d7_20 : decode jdk_52_method_14_code 20 = .ok (.invokestatic 111, 3) := by decide +kernel
theorem d7_23 : decode jdk_52_method_14_code 23 = .ok (.iinc 1 1, 3) := by decide +kernel
theorem d7_26 : decode jdk_52_method_14_code 26 = .ok (.iinc 4 1, 3) := by decide +kernel
theorem d7_29 : decode jdk_52_method_14_code 29 = .ok (.goto (-21), 3) := by decide +kernel
theorem d7_32 : decode jdk_52_method_14_code 32 = .ok (.aload_n 3, 1) := by decide +kernel
theorem d7_33 : decode jdk_52_method_14_code 33 = .ok (.areturn, 1) := by decide +kernel
theorem ef_7u1 (m : MethodId) (x0 : Addr) : entryFrame m #[(.ref x0), (.int 0), (.int 1)] 5 = mkF m 0 #[.val (.ref x0), .val (.int 0), .val (.int 1), .unset, .unset] [] := by first | (simp [entryFrame, mkF, argsToLocals, Value.category]; done) | rfl
def Q7u1 (Z : State) (a : Addr) (ks : ClassId) (ec0 : Int32) (h0 : Heap) (n0 : Nat) (v : Option Value) (h : Heap) (L : List Loc) : Prop := ∃ (b : Addr) (kb : ClassId), v = some (.ref b) ∧ Fr n0 L ∧ Keep h0 h [] ∧ h0.size ≤ b ∧ (Arv Z h b kb .byte (2 : Int32) [(.int (nar .byte ((ec0 >>> ((0 : Int32) &&& 31)).toInt8.toInt32))), (.int (nar .byte ((ec0 >>> ((8 : Int32) &&& 31)).toInt8.toInt32)))] (.int 0))
set_option maxRecDepth 65536 in
set_option maxHeartbeats 40000000 in
theorem rm7u1 (l : Launch) (Z : State) (a0 : Array Value) (hw : ∀ d ∈ tables_1, d.before a0 Z = true) (ws : List Jvm.Cond) (a : Addr) (ks : ClassId) (ec0 : Int32) (h0 : Heap) (n0 : Nat) (Z0 : n0 ≤ h0.size) (P0 : Old Z n0 h0) (P1 : Sta Z Z.heap o_n0 "$assertionsDisabled" "Z" (.int 1)) (P2 : Sta Z Z.heap o_n0 "HI_BYTE_SHIFT" "I" (.int 0)) (P3 : Sta Z Z.heap o_n0 "LO_BYTE_SHIFT" "I" (.int 8)) (P4 : Arv Z h0 a ks .char (1 : Int32) [(.int ec0)] (.int 0)) :
    MetFree l (⟨o_n0, "toBytes", "([CII)[B"⟩ : MethodName) (head1 (Jvm.Cond.code (⟨o_n0, "toBytes", "([CII)[B"⟩ : MethodName) jdk_52_method_14_code 5 (some (.array .byte)) :: ws) ({ frames := 2, cells := 1, slots := 2, locals := 24 } : Room)) (fun argz U => argz = #[(.ref a), (.int 0), (.int 1)] ∧ Z.Warmed39 U.vm ∧ U.heap = h0) (fun _ _ _ _ _ => True) (fun _ U o U' => ∃ v L, o = .returned v ∧ Q7u1 Z a ks ec0 h0 n0 v U'.heap L ∧ FrameEnd U o U' L ({ frames := 2, cells := 1, slots := 2, locals := 24 } : Room).cells ({ frames := 2, cells := 1, slots := 2, locals := 24 } : Room).slots) := by
  refine MetFree.of_bodySF (plainFor_of_name pn_java_lang_StringUTF16) hisR ?_
  intro p e s m args below meth c s₁ Bd hml0 hP hK
  obtain ⟨rfl, hZ, hh⟩ := hP
  have hx := Bd.exec
  have hby := Bd.bytes
  have hml : c.maxLocals = 5 := hml0
  have hown : s.vm.findClass o_n0 = some m.cls := findClass_of_methodNamed Bd.named
  have hnm := (name_of_methodNamed Bd.named Bd.method).1
  have X0 : Stand p l e ({ frames := 2, cells := 1, slots := 2, locals := 24 } : Room) s m #[(.ref a), (.int 0), (.int 1)] below meth c s₁ [] 0 0 := Stand.of_body Bd
  have e0 : s₁.heap = h0 := by rw [← hh, Bd.state]; rfl
  have N0 := Fr.nil n0
  have K0 : Keep h0 h0 [] := Keep.refl _ _
  have G : Gets p e below (s₁.setTop (entryFrame m #[(.ref a), (.int 0), (.int 1)] 5)) (s₁.setTop (mkF m 0 #[.val (.ref a), .val (.int 0), .val (.int 1), .unset, .unset] [])) := fun t k => castTop (ef_7u1 m a) k
  replace G := o_iloadN (q := 1) G X0.here hx (hb hby d7_0) rfl rfl
  obtain ⟨_, _, ⟨T1, L1, kk1, nn1⟩, -, X1, ⟨Lc1, hQ1, l1, y1, z1⟩, st1⟩ := Jvm.LawKit.callS X0 hx (y := (⟨o_n0, "newBytesFor", "(I)[B"⟩ : MethodName)) hown (mvT hZ (o_w hw 38 rfl)) (mvT hZ (o_w hw 39 rfl)) (mvT hZ (o_w hw 30 rfl)) (mvT hZ (o_w hw 40 rfl)) (by decide) (backOf (W := 0) (rm8u1 l Z a0 hw []  h0 n0 Z0 ) hZ (o_w hw 40 rfl) (o_w hw 30 rfl) (by decide) (by decide)) (g := o_g G) rfl (by rw [hml]; rfl) (argsL := [(.int 1)]) (rest := []) (lenOf pd_5 rfl) rfl (by show 2 * 0 + _ ≤ _; exact Nat.le_of_eq rfl) (hb hby d7_1) (fun _ _ => ⟨rfl, e0, (by decide : 0 + 1 ≤ _), (by decide : 0 + 2 ≤ _)⟩)
  dsimp only [Pt.U, Pt.locs, Pt.cells, Pt.slots] at X1 l1 y1 z1 st1 hQ1
  subst l1 y1 z1
  obtain ⟨b_1, kb_1, rfl, N1q, K1q, B1_0, B1_1⟩ := hQ1
  have ne2 : a ≠ b_1 := Nat.ne_of_lt (Nat.lt_of_lt_of_le P4.lt B1_0)
  have ge_b_1 : n0 ≤ b_1 := Nat.le_trans Z0 B1_0
  have sz_b_1 : h0.size ≤ b_1 := Nat.le_trans K0.1 B1_0
  have Z1 : n0 ≤ T1.heap.size := Nat.le_trans Z0 K1q.1
  have K1 : Keep h0 T1.heap [] := K0.trans K1q all0
  have N1 := Fr.app N0 N1q
  replace G := o_nxs (q := 4) (st := [(.ref b_1)]) G st1 rfl
  replace G := o_astoreN (q := 5) (l' := #[.val (.ref a), .val (.int 0), .val (.int 1), .val (.ref b_1), .unset]) G X1.here hx (hb hby d7_4) rfl rfl rfl
  replace G := o_iconst (q := 6) G X1.here hx (hb hby d7_5) (v := (0 : Int32)) (by decide) rfl
  replace G := o_istore (q := 8) (l' := #[.val (.ref a), .val (.int 0), .val (.int 1), .val (.ref b_1), .val (.int 0)]) G X1.here hx (hb hby d7_6) rfl rfl
  replace G := o_iload (q := 10) G X1.here hx (hb hby d7_8) rfl rfl
  replace G := o_iloadN (q := 11) G X1.here hx (hb hby d7_10) rfl rfl
  replace G := o_icmpNo (q := 14) G X1.here hx (hb hby d7_11) (by decide) rfl
  replace G := o_aloadN (q := 15) G X1.here hx (hb hby d7_14) rfl rfl rfl
  replace G := o_iload (q := 17) G X1.here hx (hb hby d7_15) rfl rfl
  replace G := o_aloadN (q := 18) G X1.here hx (hb hby d7_17) rfl rfl rfl
  replace G := o_iloadN (q := 19) G X1.here hx (hb hby d7_18) rfl rfl
  have F4 := (P4.keep K1q nin0)
  obtain ⟨c5, Ar5, -, S5, -, H5, -⟩ := id F4
  have hin5 : ¬ ((0 : Int32) < 0 ∨ c5.slots.size ≤ ((0 : Int32)).toNatClampNeg) := inb_of S5 ⟨by decide, by decide⟩
  replace G := o_nxs (q := 20) (st := [(.int ec0), (.int 0), (.ref b_1)]) G (X1.caload hx (j := (0 : Int32)) (v := (.int ec0)) (by exact Ar5.1) (State.isArrayOf_alike hZ.alike Ar5.2.1) Ar5.2.2 hin5 (Has.at H5 hin5 rfl) (g := o_g G) rfl rfl (hb hby d7_19)) rfl
  have F7 := (P0.keep K1q all0)
  obtain ⟨_, _, ⟨T6, L6, kk6, nn6⟩, -, X6, ⟨Lc6, hQ6, l6, y6, z6⟩, st6⟩ := Jvm.LawKit.callS X1 hx (y := (⟨o_n0, "putChar", "([BII)V"⟩ : MethodName)) hown (mvT hZ (o_w hw 45 rfl)) (mvT hZ (o_w hw 46 rfl)) (mvT hZ (o_w hw 30 rfl)) (mvT hZ (o_w hw 47 rfl)) (by decide) (backOf (W := 0) (rm10u1p0 l Z a0 hw [] b_1 ec0 kb_1 T1.heap n0 Z1 F7 P1 P2 P3 B1_1 ge_b_1) hZ (o_w hw 47 rfl) (o_w hw 30 rfl) (by decide) (by decide)) (g := o_g G) rfl (by rw [hml]; rfl) (argsL := [(.ref b_1), (.int 0), (.int ec0)]) (rest := []) (lenOf pd_6 rfl) rfl (by show 2 * 0 + _ ≤ _; exact Nat.le_of_eq rfl) (hb hby d7_20) (fun _ _ => ⟨rfl, rfl, (by decide : 1 + 0 ≤ _), (by decide : 2 + 0 ≤ _)⟩)
  dsimp only [Pt.U, Pt.locs, Pt.cells, Pt.slots] at X6 l6 y6 z6 st6 hQ6
  subst l6 y6 z6
  obtain ⟨rfl, N6q, K6q, B6_0⟩ := hQ6
  have Z6 : n0 ≤ T6.heap.size := Nat.le_trans Z1 K6q.1
  have K6 : Keep h0 T6.heap [] := K1.trans K6q (allS (Or.inr sz_b_1) all0)
  have N6 := Fr.app N1 N6q
  replace G := o_nxs (q := 23) (st := []) G st6 rfl
  replace G := o_iinc (q := 26) (l' := #[.val (.ref a), .val (.int 1), .val (.int 1), .val (.ref b_1), .val (.int 0)]) (w := (1 : Int32)) G X6.here hx (hb hby d7_23) (by decide) rfl (by decide : ((0 : Int32) + (1 : Int32)) = (1 : Int32)) rfl rfl
  replace G := o_iinc (q := 29) (l' := #[.val (.ref a), .val (.int 1), .val (.int 1), .val (.ref b_1), .val (.int 1)]) (w := (1 : Int32)) G X6.here hx (hb hby d7_26) (by decide) rfl (by decide : ((0 : Int32) + (1 : Int32)) = (1 : Int32)) rfl rfl
  replace G := o_goto (q := 8) G X6.here hx (hb hby d7_29) (by decide) (by decide)
  replace G := o_iload (q := 10) G X6.here hx (hb hby d7_8) rfl rfl
  replace G := o_iloadN (q := 11) G X6.here hx (hb hby d7_10) rfl rfl
  replace G := o_icmpYes (q := 32) G X6.here hx (hb hby d7_11) (by decide) (by decide) (by decide)
  replace G := o_aloadN (q := 33) G X6.here hx (hb hby d7_32) rfl rfl rfl
  obtain ⟨fs, hr, hrun, hended, hW, hsame⟩ := X6.leave (v := some (.ref b_1)) (fun h => by rw [Bd.returns] at h; cases h)
  refine ⟨_, _, G _ (retOut X6 hx Bd.returns rfl (Or.inr (Or.inr (Or.inr (Or.inr ⟨rfl, rfl, rfl⟩)))) (hb hby d7_33) hr), hrun, hended, _, _, rfl, ?_, ⟨_, rfl⟩, hW, hsame.mono (by decide) (by decide)⟩
  show Q7u1 Z a ks ec0 h0 n0 _ T6.heap _
  exact ⟨b_1, kb_1, rfl, N6, K6, sz_b_1, B6_0⟩
theorem ef_12u1 (m : MethodId) (x0 : Addr) : entryFrame m #[(.ref x0), (.int 1)] 2 = mkF m 0 #[.val (.ref x0), .val (.int 1)] [] := by first | (simp [entryFrame, mkF, argsToLocals, Value.category]; done) | rfl
def Q12u1 (Z : State) (d : Addr) (kd : ClassId) (vs : List Value) (h0 : Heap) (n0 : Nat) (v : Option Value) (h : Heap) (L : List Loc) : Prop := v = some (.int 1) ∧ Fr n0 L ∧ h = h0
set_option maxRecDepth 65536 in
set_option maxHeartbeats 40000000 in
theorem rm12u1 (l : Launch) (Z : State) (a0 : Array Value) (hw : ∀ d ∈ tables_1, d.before a0 Z = true) (ws : List Jvm.Cond) (d : Addr) (kd : ClassId) (vs : List Value) (h0 : Heap) (n0 : Nat) (Z0 : n0 ≤ h0.size) (P0 : Arv Z h0 d kd .byte (2 : Int32) vs (.int 0)) :
    MetFree l (⟨o_n0, "coderFromArrayLen", "([BI)B"⟩ : MethodName) (head1 (Jvm.Cond.code (⟨o_n0, "coderFromArrayLen", "([BI)B"⟩ : MethodName) jdk_52_method_15_code 2 (some .byte) :: ws) ({ frames := 0, cells := 0, slots := 0, locals := 0 } : Room)) (fun argz U => argz = #[(.ref d), (.int 1)] ∧ Z.Warmed39 U.vm ∧ U.heap = h0) (fun _ _ _ _ _ => True) (fun _ U o U' => ∃ v L, o = .returned v ∧ Q12u1 Z d kd vs h0 n0 v U'.heap L ∧ FrameEnd U o U' L ({ frames := 0, cells := 0, slots := 0, locals := 0 } : Room).cells ({ frames := 0, cells := 0, slots := 0, locals := 0 } : Room).slots) := by
  refine MetFree.of_bodySF (plainFor_of_name pn_java_lang_StringUTF16) hisR ?_
  intro p e s m args below meth c s₁ Bd hml0 hP hK
  obtain ⟨rfl, hZ, hh⟩ := hP
  have hx := Bd.exec
  have hby := Bd.bytes
  have hml : c.maxLocals = 2 := hml0
  have hown : s.vm.findClass o_n0 = some m.cls := findClass_of_methodNamed Bd.named
  have hnm := (name_of_methodNamed Bd.named Bd.method).1
  have X0 : Stand p l e ({ frames := 0, cells := 0, slots := 0, locals := 0 } : Room) s m #[(.ref d), (.int 1)] below meth c s₁ [] 0 0 := Stand.of_body Bd
  have e0 : s₁.heap = h0 := by rw [← hh, Bd.state]; rfl
  have N0 := Fr.nil n0
  have G : Gets p e below (s₁.setTop (entryFrame m #[(.ref d), (.int 1)] 2)) (s₁.setTop (mkF m 0 #[.val (.ref d), .val (.int 1)] [])) := fun t k => castTop (ef_12u1 m d) k
  replace G := o_iloadN (q := 1) G X0.here hx (hb hby d12_0) rfl rfl
  replace G := o_aloadN (q := 2) G X0.here hx (hb hby d12_1) rfl rfl rfl
  obtain ⟨c1, Ar1, -, S1, N1', -, -⟩ := id P0
  replace G : Gets p e below _ (s₁.setTop (mkF m 3 #[.val (.ref d), .val (.int 1)] [(.int 2), (.int 1)])) := fun t k => G t (X0.arraylength hx (by rw [e0]; exact Ar1.1) (State.isArrayOf_alike hZ.alike Ar1.2.1) (g := o_g G) rfl rfl (hb hby d12_2) t (by rw [len_of S1 N1']; exact k))
  replace G := o_isub (q := 4) G X0.here hx (hb hby d12_3) (by decide : ((1 : Int32) - (2 : Int32)) = (-1 : Int32)) rfl
  replace G := o_bipush (q := 6) G X0.here hx (hb hby d12_4) (v := (31 : Int32)) (by decide) rfl
  replace G := o_iushr (q := 7) G X0.here hx (hb hby d12_6) (by decide : (((-1 : Int32).toUInt32 >>> ((31 : Int32) &&& 31).toUInt32).toInt32) = (1 : Int32)) rfl
  replace G := o_i2b (q := 8) G X0.here hx (hb hby d12_7) (by decide : ((1 : Int32).toInt8.toInt32) = (1 : Int32)) rfl
  obtain ⟨fs, hr, hrun, hended, hW, hsame⟩ := X0.leave (v := some (.int 1)) (fun h => by rw [Bd.returns] at h; cases h)
  refine ⟨_, _, G _ (retOut X0 hx Bd.returns rfl (Or.inl ⟨rfl, Or.inr (Or.inr (Or.inl rfl)), _, rfl⟩) (hb hby d12_8) hr), hrun, hended, _, _, rfl, ?_, ⟨_, rfl⟩, hW, hsame.mono (by decide) (by decide)⟩
  show Q12u1 Z d kd vs h0 n0 _ s₁.heap _
  rw [e0]
  exact ⟨rfl, N0, rfl⟩
theorem d6_23 : decode jdk_52_method_21_code 23 = .ok (.iload 5, 2) := by decide +kernel
theorem d6_25 : decode jdk_52_method_21_code 25 = .ok (.ireturn, 1) := by decide +kernel
theorem ef_6u1j0 (m : MethodId) (x0 : Addr) (x2 : Addr) : entryFrame m #[(.ref x0), (.int 0), (.ref x2), (.int 0), (.int 1)] 7 = mkF m 0 #[.val (.ref x0), .val (.int 0), .val (.ref x2), .val (.int 0), .val (.int 1), .unset, .unset] [] := by first | (simp [entryFrame, mkF, argsToLocals, Value.category]; done) | rfl
def Q6u1j0 (Z : State) (a : Addr) (d : Addr) (ks : ClassId) (kd : ClassId) (ec0 : Int32) (h0 : Heap) (n0 : Nat) (v : Option Value) (h : Heap) (L : List Loc) : Prop := v = some (.int 0) ∧ Fr n0 L ∧ Keep h0 h [d] ∧ (Arv Z h d kd .byte (1 : Int32) [(.int 0)] (.int 0))
set_option maxRecDepth 65536 in
set_option maxHeartbeats 40000000 in
theorem rm6u1j0 (l : Launch) (Z : State) (a0 : Array Value) (hw : ∀ d ∈ tables_1, d.before a0 Z = true) (ws : List Jvm.Cond) (a : Addr) (d : Addr) (ks : ClassId) (kd : ClassId) (ec0 : Int32) (h0 : Heap) (n0 : Nat) (Z0 : n0 ≤ h0.size) (P0 : Arv Z h0 a ks .char (1 : Int32) [(.int ec0)] (.int 0)) (P1 : Arv Z h0 d kd .byte (1 : Int32) [(.int 0)] (.int 0)) (P2 : n0 ≤ d) (P3 : a ≠ d) (hg : (255 : Int32) < ec0) :
    MetFree l (⟨o_n0, "compress", "([CI[BII)I"⟩ : MethodName) (head1 (Jvm.Cond.code (⟨o_n0, "compress", "([CI[BII)I"⟩ : MethodName) jdk_52_method_21_code 7 (some .int) :: ws) ({ frames := 0, cells := 0, slots := 0, locals := 0 } : Room)) (fun argz U => argz = #[(.ref a), (.int 0), (.ref d), (.int 0), (.int 1)] ∧ Z.Warmed39 U.vm ∧ U.heap = h0) (fun _ _ _ _ _ => True) (fun _ U o U' => ∃ v L, o = .returned v ∧ Q6u1j0 Z a d ks kd ec0 h0 n0 v U'.heap L ∧ FrameEnd U o U' L ({ frames := 0, cells := 0, slots := 0, locals := 0 } : Room).cells ({ frames := 0, cells := 0, slots := 0, locals := 0 } : Room).slots) := by
  refine MetFree.of_bodySF (plainFor_of_name pn_java_lang_StringUTF16) hisR ?_
  intro p e s m args below meth c s₁ Bd hml0 hP hK
  obtain ⟨rfl, hZ, hh⟩ := hP
  have hx := Bd.exec
  have hby := Bd.bytes
  have hml : c.maxLocals = 7 := hml0
  have hown : s.vm.findClass o_n0 = some m.cls := findClass_of_methodNamed Bd.named
  have hnm := (name_of_methodNamed Bd.named Bd.method).1
  have X0 : Stand p l e ({ frames := 0, cells := 0, slots := 0, locals := 0 } : Room) s m #[(.ref a), (.int 0), (.ref d), (.int 0), (.int 1)] below meth c s₁ [] 0 0 := Stand.of_body Bd
  have e0 : s₁.heap = h0 := by rw [← hh, Bd.state]; rfl
  have N0 := Fr.nil n0
  have K0 : Keep h0 h0 [d] := Keep.refl _ _
  have G : Gets p e below (s₁.setTop (entryFrame m #[(.ref a), (.int 0), (.ref d), (.int 0), (.int 1)] 7)) (s₁.setTop (mkF m 0 #[.val (.ref a), .val (.int 0), .val (.ref d), .val (.int 0), .val (.int 1), .unset, .unset] [])) := fun t k => castTop (ef_6u1j0 m a d) k
  replace G := o_iconst (q := 1) G X0.here hx (hb hby d6_0) (v := (0 : Int32)) (by decide) rfl
  replace G := o_istore (q := 3) (l' := #[.val (.ref a), .val (.int 0), .val (.ref d), .val (.int 0), .val (.int 1), .val (.int 0), .unset]) G X0.here hx (hb hby d6_1) rfl rfl
  replace G := o_iload (q := 5) G X0.here hx (hb hby d6_3) rfl rfl
  replace G := o_iload (q := 7) G X0.here hx (hb hby d6_5) rfl rfl
  replace G := o_icmpNo (q := 10) G X0.here hx (hb hby d6_7) (by decide) rfl
  replace G := o_aloadN (q := 11) G X0.here hx (hb hby d6_10) rfl rfl rfl
  replace G := o_iloadN (q := 12) G X0.here hx (hb hby d6_11) rfl rfl
  obtain ⟨c2, Ar2, -, S2, -, H2, -⟩ := id P0
  have hin2 : ¬ ((0 : Int32) < 0 ∨ c2.slots.size ≤ ((0 : Int32)).toNatClampNeg) := inb_of S2 ⟨by decide, by decide⟩
  replace G := o_nxs (q := 13) (st := [(.int ec0)]) G (X0.caload hx (j := (0 : Int32)) (v := (.int ec0)) (by rw [e0]; exact Ar2.1) (State.isArrayOf_alike hZ.alike Ar2.2.1) Ar2.2.2 hin2 (Has.at H2 hin2 rfl) (g := o_g G) rfl rfl (hb hby d6_12)) rfl
  replace G := o_istore (q := 15) (l' := #[.val (.ref a), .val (.int 0), .val (.ref d), .val (.int 0), .val (.int 1), .val (.int 0), .val (.int ec0)]) G X0.here hx (hb hby d6_13) rfl rfl
  replace G := o_iload (q := 17) G X0.here hx (hb hby d6_15) rfl rfl
  replace G := o_sipush (q := 20) G X0.here hx (hb hby d6_17) (v := (255 : Int32)) (by decide) rfl
  have hc20_3 : (255 : Int32) < ec0 := hg
  replace G := o_icmpNo (q := 23) G X0.here hx (hb hby d6_20) (tlt hc20_3).2.2.2 rfl
  replace G := o_iload (q := 25) G X0.here hx (hb hby d6_23) rfl rfl
  obtain ⟨fs, hr, hrun, hended, hW, hsame⟩ := X0.leave (v := some (.int 0)) (fun h => by rw [Bd.returns] at h; cases h)
  refine ⟨_, _, G _ (retOut X0 hx Bd.returns rfl (Or.inl ⟨rfl, Or.inl rfl, _, rfl⟩) (hb hby d6_25) hr), hrun, hended, _, _, rfl, ?_, ⟨_, rfl⟩, hW, hsame.mono (by decide) (by decide)⟩
  show Q6u1j0 Z a d ks kd ec0 h0 n0 _ s₁.heap _
  rw [e0]
  exact ⟨rfl, N0, K0, P1⟩
theorem pd_7 : parseMethodDescriptor "([BI)C" = some ⟨[(.array .byte), .int], some .char⟩ := by decide +kernel
theorem d5_20 : decode jdk_52_method_16_code 20 = .ok (.aload_n 0, 1) := by decide +kernel
theorem d5_21 : decode jdk_52_method_16_code 21 = .ok (.iload_n 1, 1) := by decide +kernel
theorem d5_22 : decode jdk_52_method_16_code 22 = .ok (.iload_n 2, 1) := by decide +kernel
theorem d5_23 : decode jdk_52_method_16_code 23 = .ok (.invokestatic 119, 3) := by decide +kernel
theorem d5_26 : decode jdk_52_method_16_code 26 = .ok (.astore 5, 2) := by decide +kernel
theorem d5_28 : decode jdk_52_method_16_code 28 = .ok (.aload 5, 2) := by decide +kernel
theorem d5_30 : decode jdk_52_method_16_code 30 = .ok (.iload 4, 2) := by decide +kernel
theorem d5_32 : decode jdk_52_method_16_code 32 = .ok (.invokestatic 71, 3) := by decide +kernel
theorem d5_35 : decode jdk_52_method_16_code 35 = .ok (.sipush 255, 3) := by decide +kernel
theorem d5_38 : decode jdk_52_method_16_code 38 = .ok (.if_icmp .gt 16, 3) := by decide +kernel
theorem d5_54 : decode jdk_52_method_16_code 54 = .ok (.aload 5, 2) := by decide +kernel
theorem d5_56 : decode jdk_52_method_16_code 56 = .ok (.areturn, 1) := by decide +kernel
theorem ef_5u1 (m : MethodId) (x0 : Addr) : entryFrame m #[(.ref x0), (.int 0), (.int 1)] 6 = mkF m 0 #[.val (.ref x0), .val (.int 0), .val (.int 1), .unset, .unset, .unset] [] := by first | (simp [entryFrame, mkF, argsToLocals, Value.category]; done) | rfl
def Q5u1 (Z : State) (a : Addr) (ks : ClassId) (ec0 : Int32) (h0 : Heap) (n0 : Nat) (v : Option Value) (h : Heap) (L : List Loc) : Prop := ∃ (b : Addr) (kb : ClassId), v = some (.ref b) ∧ Fr n0 L ∧ Keep h0 h [] ∧ h0.size ≤ b ∧ (Arv Z h b kb .byte (2 : Int32) [(.int (nar .byte ((ec0 >>> ((0 : Int32) &&& 31)).toInt8.toInt32))), (.int (nar .byte ((ec0 >>> ((8 : Int32) &&& 31)).toInt8.toInt32)))] (.int 0))
set_option maxRecDepth 65536 in
set_option maxHeartbeats 40000000 in
theorem rm5u1 (l : Launch) (Z : State) (a0 : Array Value) (hw : ∀ d ∈ tables_1, d.before a0 Z = true) (ws : List Jvm.Cond) (a : Addr) (ks : ClassId) (ec0 : Int32) (h0 : Heap) (n0 : Nat) (Z0 : n0 ≤ h0.size) (P0 : Old Z n0 h0) (P1 : Sta Z Z.heap o_n0 "$assertionsDisabled" "Z" (.int 1)) (P2 : Sta Z Z.heap o_n0 "HI_BYTE_SHIFT" "I" (.int 0)) (P3 : Sta Z Z.heap o_n0 "LO_BYTE_SHIFT" "I" (.int 8)) (P4 : Arv Z h0 a ks .char (1 : Int32) [(.int ec0)] (.int 0)) (hU : (((255 : Int32) < ec0))) (hr0 : 0 ≤ ec0.toInt ∧ ec0.toInt < 65536) :
    MetFree l (⟨o_n0, "compress", "([CII)[B"⟩ : MethodName) (head1 (Jvm.Cond.code (⟨o_n0, "compress", "([CII)[B"⟩ : MethodName) jdk_52_method_16_code 6 (some (.array .byte)) :: ws) ({ frames := 3, cells := 2, slots := 3, locals := 40 } : Room)) (fun argz U => argz = #[(.ref a), (.int 0), (.int 1)] ∧ Z.Warmed39 U.vm ∧ U.heap = h0) (fun _ _ _ _ _ => True) (fun _ U o U' => ∃ v L, o = .returned v ∧ Q5u1 Z a ks ec0 h0 n0 v U'.heap L ∧ FrameEnd U o U' L ({ frames := 3, cells := 2, slots := 3, locals := 40 } : Room).cells ({ frames := 3, cells := 2, slots := 3, locals := 40 } : Room).slots) := by
  refine MetFree.of_bodySF (plainFor_of_name pn_java_lang_StringUTF16) hisR ?_
  intro p e s m args below meth c s₁ Bd hml0 hP hK
  obtain ⟨rfl, hZ, hh⟩ := hP
  have hx := Bd.exec
  have hby := Bd.bytes
  have hml : c.maxLocals = 6 := hml0
  have hown : s.vm.findClass o_n0 = some m.cls := findClass_of_methodNamed Bd.named
  have hnm := (name_of_methodNamed Bd.named Bd.method).1
  have X0 : Stand p l e ({ frames := 3, cells := 2, slots := 3, locals := 40 } : Room) s m #[(.ref a), (.int 0), (.int 1)] below meth c s₁ [] 0 0 := Stand.of_body Bd
  have e0 : s₁.heap = h0 := by rw [← hh, Bd.state]; rfl
  have N0 := Fr.nil n0
  have K0 : Keep h0 h0 [] := Keep.refl _ _
  have G : Gets p e below (s₁.setTop (entryFrame m #[(.ref a), (.int 0), (.int 1)] 6)) (s₁.setTop (mkF m 0 #[.val (.ref a), .val (.int 0), .val (.int 1), .unset, .unset, .unset] [])) := fun t k => castTop (ef_5u1 m a) k
  replace G := o_iloadN (q := 1) G X0.here hx (hb hby d5_0) rfl rfl
  obtain ⟨T1, h1, k1, X1, e1, E1, A1, st1⟩ := newP X0 hx hZ (o_w hw 20 rfl) e0 (g := o_g G) rfl (hb hby d5_1) rfl (by decide) (cap := 1) (by decide) (by decide) (by decide) (by decide)
  obtain ⟨b1, g1⟩ : ∃ z, z = h0.size := ⟨_, rfl⟩
  rw [← g1] at A1 st1
  have ne2 : a ≠ b1 := Nat.ne_of_lt (Nat.lt_of_lt_of_le P4.lt (Nat.le_of_eq g1.symm))
  have ge_b1 : n0 ≤ b1 := Nat.le_trans Z0 (Nat.le_of_eq g1.symm)
  have sz_b1 : h0.size ≤ b1 := Nat.le_trans K0.1 (Nat.le_of_eq g1.symm)
  have Z1 : n0 ≤ h1.size := Nat.le_trans Z0 E1.1
  have K1 : Keep h0 h1 [] := K0.ext E1
  have V1 : Arv Z h1 b1 k1 .byte (1 : Int32) [(.int 0)] (.int 0) := (Arv.new A1 (by decide)).pad (pad_rep [] (.int 0) 1)
  replace G := o_nxs (q := 3) (st := [(.ref b1)]) G st1 rfl
  replace G := o_astoreN (q := 4) (l' := #[.val (.ref a), .val (.int 0), .val (.int 1), .val (.ref b1), .unset, .unset]) G X1.here hx (hb hby d5_3) rfl rfl rfl
  replace G := o_aloadN (q := 5) G X1.here hx (hb hby d5_4) rfl rfl rfl
  replace G := o_iloadN (q := 6) G X1.here hx (hb hby d5_5) rfl rfl
  replace G := o_aloadN (q := 7) G X1.here hx (hb hby d5_6) rfl rfl rfl
  replace G := o_iconst (q := 8) G X1.here hx (hb hby d5_7) (v := (0 : Int32)) (by decide) rfl
  replace G := o_iloadN (q := 9) G X1.here hx (hb hby d5_8) rfl rfl
  have F4 := (P4.ext E1)
  obtain ⟨_, _, ⟨T3, L3, kk3, nn3⟩, -, X3, ⟨Lc3, hQ3, l3, y3, z3⟩, st3⟩ := Jvm.LawKit.callS X1 hx (y := (⟨o_n0, "compress", "([CI[BII)I"⟩ : MethodName)) hown (mvT hZ (o_w hw 32 rfl)) (mvT hZ (o_w hw 33 rfl)) (mvT hZ (o_w hw 30 rfl)) (mvT hZ (o_w hw 34 rfl)) (by decide) (backOf (W := 0) (rm6u1j0 l Z a0 hw [] a b1 ks k1 ec0 h1 n0 Z1 F4 V1 ge_b1 ne2 hU) hZ (o_w hw 34 rfl) (o_w hw 30 rfl) (by decide) (by decide)) (g := o_g G) rfl (by rw [hml]; rfl) (argsL := [(.ref a), (.int 0), (.ref b1), (.int 0), (.int 1)]) (rest := []) (lenOf pd_0 rfl) rfl (by show 2 * 0 + _ ≤ _; exact Nat.le_of_eq rfl) (hb hby d5_9) (fun _ _ => ⟨rfl, e1, (by decide : 1 + 0 ≤ _), (by decide : 1 + 0 ≤ _)⟩)
  dsimp only [Pt.U, Pt.locs, Pt.cells, Pt.slots] at X3 l3 y3 z3 st3 hQ3
  subst l3 y3 z3
  obtain ⟨rfl, N3q, K3q, B3_0⟩ := hQ3
  have Z3 : n0 ≤ T3.heap.size := Nat.le_trans Z1 K3q.1
  have K3 : Keep h0 T3.heap [] := K1.trans K3q (allS (Or.inr sz_b1) all0)
  have N3 := Fr.app N0 N3q
  replace G := o_nxs (q := 12) (st := [(.int 0)]) G st3 rfl
  replace G := o_istore (q := 14) (l' := #[.val (.ref a), .val (.int 0), .val (.int 1), .val (.ref b1), .val (.int 0), .unset]) G X3.here hx (hb hby d5_12) rfl rfl
  replace G := o_iload (q := 16) G X3.here hx (hb hby d5_14) rfl rfl
  replace G := o_iloadN (q := 17) G X3.here hx (hb hby d5_16) rfl rfl
  replace G := o_icmpNo (q := 20) G X3.here hx (hb hby d5_17) (by decide) rfl
  replace G := o_aloadN (q := 21) G X3.here hx (hb hby d5_20) rfl rfl rfl
  replace G := o_iloadN (q := 22) G X3.here hx (hb hby d5_21) rfl rfl
  replace G := o_iloadN (q := 23) G X3.here hx (hb hby d5_22) rfl rfl
  have F7 := ((P0.ext E1).keep K3q (allS ge_b1 all0))
  have F8 := (F4.keep K3q (ninS ne2 nin0))
  obtain ⟨_, _, ⟨T6, L6, kk6, nn6⟩, -, X6, ⟨Lc6, hQ6, l6, y6, z6⟩, st6⟩ := Jvm.LawKit.callS X3 hx (y := (⟨o_n0, "toBytes", "([CII)[B"⟩ : MethodName)) hown (mvT hZ (o_w hw 35 rfl)) (mvT hZ (o_w hw 36 rfl)) (mvT hZ (o_w hw 30 rfl)) (mvT hZ (o_w hw 37 rfl)) (by decide) (backOf (W := 0) (rm7u1 l Z a0 hw [] a ks ec0 T3.heap n0 Z3 F7 P1 P2 P3 F8) hZ (o_w hw 37 rfl) (o_w hw 30 rfl) (by decide) (by decide)) (g := o_g G) rfl (by rw [hml]; rfl) (argsL := [(.ref a), (.int 0), (.int 1)]) (rest := []) (lenOf pd_1 rfl) rfl (by show 2 * 0 + _ ≤ _; exact Nat.le_of_eq rfl) (hb hby d5_23) (fun _ _ => ⟨rfl, rfl, (by decide : 1 + 1 ≤ _), (by decide : 1 + 2 ≤ _)⟩)
  dsimp only [Pt.U, Pt.locs, Pt.cells, Pt.slots] at X6 l6 y6 z6 st6 hQ6
  subst l6 y6 z6
  obtain ⟨b_6, kb_6, rfl, N6q, K6q, B6_0, B6_1⟩ := hQ6
  have ne9 : b1 ≠ b_6 := Nat.ne_of_lt (Nat.lt_of_lt_of_le B3_0.lt B6_0)
  have ne10 : a ≠ b_6 := Nat.ne_of_lt (Nat.lt_of_lt_of_le F8.lt B6_0)
  have ge_b_6 : n0 ≤ b_6 := Nat.le_trans Z3 B6_0
  have sz_b_6 : h0.size ≤ b_6 := Nat.le_trans K3.1 B6_0
  have Z6 : n0 ≤ T6.heap.size := Nat.le_trans Z3 K6q.1
  have K6 : Keep h0 T6.heap [] := K3.trans K6q all0
  have N6 := Fr.app N3 N6q
  replace G := o_nxs (q := 26) (st := [(.ref b_6)]) G st6 rfl
  replace G := o_astore (q := 28) (l' := #[.val (.ref a), .val (.int 0), .val (.int 1), .val (.ref b1), .val (.int 0), .val (.ref b_6)]) G X6.here hx (hb hby d5_26) rfl rfl rfl
  replace G := o_aload (q := 30) G X6.here hx (hb hby d5_28) rfl rfl rfl
  replace G := o_iload (q := 32) G X6.here hx (hb hby d5_30) rfl rfl
  have F12 := (F7.keep K6q all0)
  obtain ⟨_, _, ⟨T11, L11, kk11, nn11⟩, -, X11, ⟨Lc11, hQ11, l11, y11, z11⟩, st11⟩ := Jvm.LawKit.callS X6 hx (y := (⟨o_n0, "getChar", "([BI)C"⟩ : MethodName)) hown (mvT hZ (o_w hw 51 rfl)) (mvT hZ (o_w hw 52 rfl)) (mvT hZ (o_w hw 30 rfl)) (mvT hZ (o_w hw 53 rfl)) (by decide) (backOf (W := 0) (rm11j0 l Z a0 hw [] b_6 kb_6 (2 : Int32) [(.int (nar .byte ((ec0 >>> ((0 : Int32) &&& 31)).toInt8.toInt32))), (.int (nar .byte ((ec0 >>> ((8 : Int32) &&& 31)).toInt8.toInt32)))] (nar .byte ((ec0 >>> ((0 : Int32) &&& 31)).toInt8.toInt32)) (nar .byte ((ec0 >>> ((8 : Int32) &&& 31)).toInt8.toInt32)) T6.heap n0 Z6 F12 P1 P2 P3 B6_1 ⟨by decide, by decide⟩ ⟨by decide, by decide⟩ rfl rfl) hZ (o_w hw 53 rfl) (o_w hw 30 rfl) (by decide) (by decide)) (g := o_g G) rfl (by rw [hml]; rfl) (argsL := [(.ref b_6), (.int 0)]) (rest := []) (lenOf pd_7 rfl) rfl (by show 2 * 0 + _ ≤ _; exact Nat.le_of_eq rfl) (hb hby d5_32) (fun _ _ => ⟨rfl, rfl, (by decide : 2 + 0 ≤ _), (by decide : 3 + 0 ≤ _)⟩)
  dsimp only [Pt.U, Pt.locs, Pt.cells, Pt.slots] at X11 l11 y11 z11 st11 hQ11
  subst l11 y11 z11
  obtain ⟨rfl, N11q, e11⟩ := hQ11
  have N11 := Fr.app N6 N11q
  replace G := o_nxs (q := 35) (st := [(.int (((((nar .byte ((ec0 >>> ((0 : Int32) &&& 31)).toInt8.toInt32)) &&& (255 : Int32)) <<< ((0 : Int32) &&& 31)) ||| (((nar .byte ((ec0 >>> ((8 : Int32) &&& 31)).toInt8.toInt32)) &&& (255 : Int32)) <<< ((8 : Int32) &&& 31))).toUInt32.toUInt16.toUInt32.toInt32))]) G st11 rfl
  replace G := o_sipush (q := 38) G X11.here hx (hb hby d5_35) (v := (255 : Int32)) (by decide) rfl
  have hc38_13 : (255 : Int32) < (((((nar .byte ((ec0 >>> ((0 : Int32) &&& 31)).toInt8.toInt32)) &&& (255 : Int32)) <<< ((0 : Int32) &&& 31)) ||| (((nar .byte ((ec0 >>> ((8 : Int32) &&& 31)).toInt8.toInt32)) &&& (255 : Int32)) <<< ((8 : Int32) &&& 31))).toUInt32.toUInt16.toUInt32.toInt32) := o_gc hr0 hU
  replace G := o_icmpYes (q := 54) G X11.here hx (hb hby d5_38) (tlt hc38_13).2.2.1 (by decide) (by decide)
  replace G := o_aload (q := 56) G X11.here hx (hb hby d5_54) rfl rfl rfl
  obtain ⟨fs, hr, hrun, hended, hW, hsame⟩ := X11.leave (v := some (.ref b_6)) (fun h => by rw [Bd.returns] at h; cases h)
  refine ⟨_, _, G _ (retOut X11 hx Bd.returns rfl (Or.inr (Or.inr (Or.inr (Or.inr ⟨rfl, rfl, rfl⟩)))) (hb hby d5_56) hr), hrun, hended, _, _, rfl, ?_, ⟨_, rfl⟩, hW, hsame.mono (by decide) (by decide)⟩
  show Q5u1 Z a ks ec0 h0 n0 _ T11.heap _
  rw [e11]
  exact ⟨b_6, kb_6, rfl, N11, K6, sz_b_6, B6_1⟩
theorem ef_3u1 (m : MethodId) (x0 : Addr) (x1 : Addr) : entryFrame m #[(.ref x0), (.ref x1), (.int 0), (.int 1), .null] 6 = mkF m 0 #[.val (.ref x0), .val (.ref x1), .val (.int 0), .val (.int 1), .val .null, .unset] [] := by first | (simp [entryFrame, mkF, argsToLocals, Value.category]; done) | rfl
def Q3u1 (Z : State) (tt : Addr) (a : Addr) (ks : ClassId) (cw : Int32) (ec0 : Int32) (h0 : Heap) (n0 : Nat) (v : Option Value) (h : Heap) (L : List Loc) : Prop := ∃ (b : Addr) (kb : ClassId), v = none ∧ Fr n0 L ∧ Keep h0 h [tt] ∧ (Fld Z h tt o_n1 "value" "[B" (.ref b)) ∧ (Fld Z h tt o_n1 "coder" "B" (.int 1)) ∧ h0.size ≤ b ∧ (Arv Z h b kb .byte (2 : Int32) [(.int (nar .byte ((ec0 >>> ((0 : Int32) &&& 31)).toInt8.toInt32))), (.int (nar .byte ((ec0 >>> ((8 : Int32) &&& 31)).toInt8.toInt32)))] (.int 0))
set_option maxRecDepth 65536 in
set_option maxHeartbeats 40000000 in
theorem rm3u1 (l : Launch) (Z : State) (a0 : Array Value) (hw : ∀ d ∈ tables_1, d.before a0 Z = true) (ws : List Jvm.Cond) (tt : Addr) (a : Addr) (ks : ClassId) (cw : Int32) (ec0 : Int32) (h0 : Heap) (n0 : Nat) (Z0 : n0 ≤ h0.size) (P0 : Old Z n0 h0) (P1 : Sta Z Z.heap o_n0 "$assertionsDisabled" "Z" (.int 1)) (P2 : Sta Z Z.heap o_n0 "HI_BYTE_SHIFT" "I" (.int 0)) (P3 : Sta Z Z.heap o_n0 "LO_BYTE_SHIFT" "I" (.int 8)) (P4 : Sta Z Z.heap o_n1 "COMPACT_STRINGS" "Z" (.int cw)) (P5 : Fld Z h0 tt o_n1 "value" "[B" .null) (P6 : Fld Z h0 tt o_n1 "coder" "B" (.int 0)) (P7 : Exa Z h0 tt o_n1) (P8 : n0 ≤ tt) (P9 : Arv Z h0 a ks .char (1 : Int32) [(.int ec0)] (.int 0)) (hcw : ¬ cw = (0 : Int32)) (hU : (((255 : Int32) < ec0))) (hr0 : 0 ≤ ec0.toInt ∧ ec0.toInt < 65536) :
    MetFree l (⟨o_n1, "<init>", "([CIILjava/lang/Void;)V"⟩ : MethodName) (head1 (Jvm.Cond.code (⟨o_n1, "<init>", "([CIILjava/lang/Void;)V"⟩ : MethodName) jdk_42_method_149_code 6 none :: ws) ({ frames := 4, cells := 2, slots := 3, locals := 57 } : Room)) (fun argz U => argz = #[(.ref tt), (.ref a), (.int 0), (.int 1), .null] ∧ Z.Warmed39 U.vm ∧ U.heap = h0) (fun _ _ _ _ _ => True) (fun _ U o U' => ∃ v L, o = .returned v ∧ Q3u1 Z tt a ks cw ec0 h0 n0 v U'.heap L ∧ FrameEnd U o U' L ({ frames := 4, cells := 2, slots := 3, locals := 57 } : Room).cells ({ frames := 4, cells := 2, slots := 3, locals := 57 } : Room).slots) := by
  refine MetFree.of_bodySF (plainFor_of_name pn_java_lang_String) hisR ?_
  intro p e s m args below meth c s₁ Bd hml0 hP hK
  obtain ⟨rfl, hZ, hh⟩ := hP
  have hx := Bd.exec
  have hby := Bd.bytes
  have hml : c.maxLocals = 6 := hml0
  have hown : s.vm.findClass o_n1 = some m.cls := findClass_of_methodNamed Bd.named
  have hnm := (name_of_methodNamed Bd.named Bd.method).1
  have X0 : Stand p l e ({ frames := 4, cells := 2, slots := 3, locals := 57 } : Room) s m #[(.ref tt), (.ref a), (.int 0), (.int 1), .null] below meth c s₁ [] 0 0 := Stand.of_body Bd
  have e0 : s₁.heap = h0 := by rw [← hh, Bd.state]; rfl
  have N0 := Fr.nil n0
  have K0 : Keep h0 h0 [tt] := Keep.refl _ _
  have G : Gets p e below (s₁.setTop (entryFrame m #[(.ref tt), (.ref a), (.int 0), (.int 1), .null] 6)) (s₁.setTop (mkF m 0 #[.val (.ref tt), .val (.ref a), .val (.int 0), .val (.int 1), .val .null, .unset] [])) := fun t k => castTop (ef_3u1 m tt a) k
  replace G := o_aloadN (q := 1) G X0.here hx (hb hby d3_0) rfl rfl rfl
  obtain ⟨T1, X1, e1, st1⟩ := initO X0 hx hZ hown (o_w hw 16 rfl) (o_w hw 17 rfl) (o_w hw 18 rfl) e0 (g := o_g G) rfl (by rw [hml]; rfl) rfl (hb hby d3_1) (by decide) (W := 0) (by show 2 * 0 + _ ≤ _; exact Nat.le_of_eq rfl) (by decide)
  replace G := o_nxs (q := 4) (st := []) G st1 rfl
  replace G := o_iloadN (q := 5) G X1.here hx (hb hby d3_4) rfl rfl
  replace G := o_ifYes (q := 27) G X1.here hx (hb hby d3_5) (by decide) (by decide) (by decide)
  have F3 : Sta Z h0 o_n1 "COMPACT_STRINGS" "Z" (.int cw) := P4.ext P0.2
  obtain ⟨T4, X4, e4, st4⟩ := getS2 X1 hx hZ hown (host := "") (Or.inl (o_w hw 27 rfl)) Via.refl e1 F3 (g := o_g G) rfl (hb hby d3_27)
  replace G := o_nxs (q := 30) (st := [(.int cw)]) G st4 rfl
  have hc30_5 : ¬ (cw = (0 : Int32)) := hcw
  replace G := o_ifNo (q := 33) G X4.here hx (hb hby d3_30) ((if0 _ _).trans (feq hc30_5).1) rfl
  replace G := o_aloadN (q := 34) G X4.here hx (hb hby d3_33) rfl rfl rfl
  replace G := o_iloadN (q := 35) G X4.here hx (hb hby d3_34) rfl rfl
  replace G := o_iloadN (q := 36) G X4.here hx (hb hby d3_35) rfl rfl
  obtain ⟨_, _, ⟨T6, L6, kk6, nn6⟩, -, X6, ⟨Lc6, hQ6, l6, y6, z6⟩, st6⟩ := Jvm.LawKit.callS X4 hx (y := (⟨o_n0, "compress", "([CII)[B"⟩ : MethodName)) hown (mvT hZ (o_w hw 28 rfl)) (mvT hZ (o_w hw 29 rfl)) (mvT hZ (o_w hw 30 rfl)) (mvT hZ (o_w hw 31 rfl)) (by decide) (backOf (W := 0) (rm5u1 l Z a0 hw [] a ks ec0 h0 n0 Z0 P0 P1 P2 P3 P9 hU hr0) hZ (o_w hw 31 rfl) (o_w hw 30 rfl) (by decide) (by decide)) (g := o_g G) rfl (by rw [hml]; rfl) (argsL := [(.ref a), (.int 0), (.int 1)]) (rest := []) (lenOf pd_1 rfl) rfl (by show 2 * 0 + _ ≤ _; exact Nat.le_of_eq rfl) (hb hby d3_36) (fun _ _ => ⟨rfl, e4, (by decide : 0 + 2 ≤ _), (by decide : 0 + 3 ≤ _)⟩)
  dsimp only [Pt.U, Pt.locs, Pt.cells, Pt.slots] at X6 l6 y6 z6 st6 hQ6
  subst l6 y6 z6
  obtain ⟨b_6, kb_6, rfl, N6q, K6q, B6_0, B6_1⟩ := hQ6
  have ne7 : tt ≠ b_6 := Nat.ne_of_lt (Nat.lt_of_lt_of_le P5.lt B6_0)
  have ne8 : a ≠ b_6 := Nat.ne_of_lt (Nat.lt_of_lt_of_le P9.lt B6_0)
  have ge_b_6 : n0 ≤ b_6 := Nat.le_trans Z0 B6_0
  have sz_b_6 : h0.size ≤ b_6 := Nat.le_trans K0.1 B6_0
  have Z6 : n0 ≤ T6.heap.size := Nat.le_trans Z0 K6q.1
  have K6 : Keep h0 T6.heap [tt] := K0.trans K6q all0
  have N6 := Fr.app N0 N6q
  replace G := o_nxs (q := 39) (st := [(.ref b_6)]) G st6 rfl
  replace G := o_astore (q := 41) (l' := #[.val (.ref tt), .val (.ref a), .val (.int 0), .val (.int 1), .val .null, .val (.ref b_6)]) G X6.here hx (hb hby d3_39) rfl rfl rfl
  replace G := o_aloadN (q := 42) G X6.here hx (hb hby d3_41) rfl rfl rfl
  replace G := o_aload (q := 44) G X6.here hx (hb hby d3_42) rfl rfl rfl
  replace G := o_iloadN (q := 45) G X6.here hx (hb hby d3_44) rfl rfl
  obtain ⟨_, _, ⟨T9, L9, kk9, nn9⟩, -, X9, ⟨Lc9, hQ9, l9, y9, z9⟩, st9⟩ := Jvm.LawKit.callS X6 hx (y := (⟨o_n0, "coderFromArrayLen", "([BI)B"⟩ : MethodName)) hown (mvT hZ (o_w hw 54 rfl)) (mvT hZ (o_w hw 55 rfl)) (mvT hZ (o_w hw 30 rfl)) (mvT hZ (o_w hw 56 rfl)) (by decide) (backOf (W := 1) (rm12u1 l Z a0 hw [] b_6 kb_6 [(.int (nar .byte ((ec0 >>> ((0 : Int32) &&& 31)).toInt8.toInt32))), (.int (nar .byte ((ec0 >>> ((8 : Int32) &&& 31)).toInt8.toInt32)))] T6.heap n0 Z6 B6_1) hZ (o_w hw 56 rfl) (o_w hw 30 rfl) (by decide) (by decide)) (g := o_g G) rfl (by rw [hml]; rfl) (argsL := [(.ref b_6), (.int 1)]) (rest := [(.ref tt)]) (lenOf pd_2 rfl) rfl (by show 2 * 0 + _ ≤ _; exact Nat.le_of_eq rfl) (hb hby d3_45) (fun _ _ => ⟨rfl, rfl, (by decide : 2 + 0 ≤ _), (by decide : 3 + 0 ≤ _)⟩)
  dsimp only [Pt.U, Pt.locs, Pt.cells, Pt.slots] at X9 l9 y9 z9 st9 hQ9
  subst l9 y9 z9
  obtain ⟨rfl, N9q, e9⟩ := hQ9
  have N9 := Fr.app N6 N9q
  replace G := o_nxs (q := 48) (st := [(.int 1), (.ref tt)]) G st9 rfl
  have F10 := (P7.keep K6q)
  have F11 := (P6.keep K6q nin0)
  obtain ⟨T12, h12, X12, e12, W12, st12⟩ := putFN X9 hx hZ hown (o_w hw 26 rfl) Via.refl e9 F11 F10 (Or.inr ⟨(o_w hw 22 rfl), rfl, hnm⟩) (o_w hw 6 rfl) (ty := .byte) (v' := (.int 1)) (by decide) rfl (by first | rfl | decide) (g := o_g G) rfl rfl (hb hby d3_48)
  have N12 := Fr.snoc X12 N9 P8
  have Z12 : n0 ≤ h12.size := Nat.le_trans Z6 (Keep.of_wr W12).1
  have K12 : Keep h0 h12 [tt] := K6.wr W12 (Or.inl (List.mem_of_getElem? (i := 0) rfl))
  have F12 : Fld Z h12 tt o_n1 "coder" "B" (.int 1) := F11.same W12
  replace G := o_nxs (q := 51) (st := []) G st12 rfl
  replace G := o_aloadN (q := 52) G X12.here hx (hb hby d3_51) rfl rfl rfl
  replace G := o_aload (q := 54) G X12.here hx (hb hby d3_52) rfl rfl rfl
  have F13 := (F10.wr W12)
  have F14 := ((P5.keep K6q nin0).other W12 (Or.inr (slot_ne (Or.inr (o_w hw 21 rfl)) (Or.inr (o_w hw 22 rfl)) (by decide) (t := (.array .byte)) (t' := .byte) (by decide) (by decide))))
  obtain ⟨T15, h15, X15, e15, W15, st15⟩ := putF X12 hx hZ hown (host := "") (Or.inl (o_w hw 25 rfl)) Via.refl e12 F14 F13 (Or.inr ⟨(o_w hw 21 rfl), rfl, hnm⟩) (o_w hw 6 rfl) (ty := (.array .byte)) (by decide) rfl rfl (g := o_g G) rfl rfl (hb hby d3_54)
  have N15 := Fr.snoc X15 N12 P8
  have Z15 : n0 ≤ h15.size := Nat.le_trans Z12 (Keep.of_wr W15).1
  have K15 : Keep h0 h15 [tt] := K12.wr W15 (Or.inl (List.mem_of_getElem? (i := 0) rfl))
  have F15 : Fld Z h15 tt o_n1 "value" "[B" (.ref b_6) := F14.same W15
  replace G := o_nxs (q := 57) (st := []) G st15 rfl
  obtain ⟨fs, hr, hrun, hended, hW, hsame⟩ := X15.leave (v := none) (fun _ => rfl)
  refine ⟨_, _, G _ (X15.returnOut hx Bd.returns (hb hby d3_57) hr), hrun, hended, _, _, rfl, ?_, ⟨_, rfl⟩, hW, hsame.mono (by decide) (by decide)⟩
  have F16 := (F12.other W15 (Or.inr (slot_ne (Or.inr (o_w hw 22 rfl)) (Or.inr (o_w hw 21 rfl)) (by decide) (t := .byte) (t' := (.array .byte)) (by decide) (by decide))))
  have F17 := ((B6_1.other W12 (Ne.symm ne7)).other W15 (Ne.symm ne7))
  show Q3u1 Z tt a ks cw ec0 h0 n0 _ T15.heap _
  rw [e15]
  exact ⟨b_6, kb_6, rfl, N15, K15, F15, F16, sz_b_6, F17⟩
theorem ef_2u1 (m : MethodId) (x0 : Addr) (x1 : Addr) : entryFrame m #[(.ref x0), (.ref x1)] 2 = mkF m 0 #[.val (.ref x0), .val (.ref x1)] [] := by first | (simp [entryFrame, mkF, argsToLocals, Value.category]; done) | rfl
def Q2u1 (Z : State) (tt : Addr) (a : Addr) (ks : ClassId) (cw : Int32) (ec0 : Int32) (h0 : Heap) (n0 : Nat) (v : Option Value) (h : Heap) (L : List Loc) : Prop := ∃ (b : Addr) (kb : ClassId), v = none ∧ Fr n0 L ∧ Keep h0 h [tt] ∧ (Fld Z h tt o_n1 "value" "[B" (.ref b)) ∧ (Fld Z h tt o_n1 "coder" "B" (.int 1)) ∧ h0.size ≤ b ∧ (Arv Z h b kb .byte (2 : Int32) [(.int (nar .byte ((ec0 >>> ((0 : Int32) &&& 31)).toInt8.toInt32))), (.int (nar .byte ((ec0 >>> ((8 : Int32) &&& 31)).toInt8.toInt32)))] (.int 0))
set_option maxRecDepth 65536 in
set_option maxHeartbeats 40000000 in
theorem rm2u1 (l : Launch) (Z : State) (a0 : Array Value) (hw : ∀ d ∈ tables_1, d.before a0 Z = true) (ws : List Jvm.Cond) (tt : Addr) (a : Addr) (ks : ClassId) (cw : Int32) (ec0 : Int32) (h0 : Heap) (n0 : Nat) (Z0 : n0 ≤ h0.size) (P0 : Old Z n0 h0) (P1 : Sta Z Z.heap o_n0 "$assertionsDisabled" "Z" (.int 1)) (P2 : Sta Z Z.heap o_n0 "HI_BYTE_SHIFT" "I" (.int 0)) (P3 : Sta Z Z.heap o_n0 "LO_BYTE_SHIFT" "I" (.int 8)) (P4 : Sta Z Z.heap o_n1 "COMPACT_STRINGS" "Z" (.int cw)) (P5 : Fld Z h0 tt o_n1 "value" "[B" .null) (P6 : Fld Z h0 tt o_n1 "coder" "B" (.int 0)) (P7 : Exa Z h0 tt o_n1) (P8 : n0 ≤ tt) (P9 : Arv Z h0 a ks .char (1 : Int32) [(.int ec0)] (.int 0)) (hcw : ¬ cw = (0 : Int32)) (hU : (((255 : Int32) < ec0))) (hr0 : 0 ≤ ec0.toInt ∧ ec0.toInt < 65536) :
    MetFree l (⟨o_n1, "<init>", "([C)V"⟩ : MethodName) (head1 (Jvm.Cond.code (⟨o_n1, "<init>", "([C)V"⟩ : MethodName) jdk_42_method_3_code 2 none :: ws) ({ frames := 5, cells := 2, slots := 3, locals := 74 } : Room)) (fun argz U => argz = #[(.ref tt), (.ref a)] ∧ Z.Warmed39 U.vm ∧ U.heap = h0) (fun _ _ _ _ _ => True) (fun _ U o U' => ∃ v L, o = .returned v ∧ Q2u1 Z tt a ks cw ec0 h0 n0 v U'.heap L ∧ FrameEnd U o U' L ({ frames := 5, cells := 2, slots := 3, locals := 74 } : Room).cells ({ frames := 5, cells := 2, slots := 3, locals := 74 } : Room).slots) := by
  refine MetFree.of_bodySF (plainFor_of_name pn_java_lang_String) hisR ?_
  intro p e s m args below meth c s₁ Bd hml0 hP hK
  obtain ⟨rfl, hZ, hh⟩ := hP
  have hx := Bd.exec
  have hby := Bd.bytes
  have hml : c.maxLocals = 2 := hml0
  have hown : s.vm.findClass o_n1 = some m.cls := findClass_of_methodNamed Bd.named
  have hnm := (name_of_methodNamed Bd.named Bd.method).1
  have X0 : Stand p l e ({ frames := 5, cells := 2, slots := 3, locals := 74 } : Room) s m #[(.ref tt), (.ref a)] below meth c s₁ [] 0 0 := Stand.of_body Bd
  have e0 : s₁.heap = h0 := by rw [← hh, Bd.state]; rfl
  have N0 := Fr.nil n0
  have K0 : Keep h0 h0 [tt] := Keep.refl _ _
  have G : Gets p e below (s₁.setTop (entryFrame m #[(.ref tt), (.ref a)] 2)) (s₁.setTop (mkF m 0 #[.val (.ref tt), .val (.ref a)] [])) := fun t k => castTop (ef_2u1 m tt a) k
  replace G := o_aloadN (q := 1) G X0.here hx (hb hby d2_0) rfl rfl rfl
  replace G := o_aloadN (q := 2) G X0.here hx (hb hby d2_1) rfl rfl rfl
  replace G := o_iconst (q := 3) G X0.here hx (hb hby d2_2) (v := (0 : Int32)) (by decide) rfl
  replace G := o_aloadN (q := 4) G X0.here hx (hb hby d2_3) rfl rfl rfl
  obtain ⟨c1, Ar1, -, S1, N1', -, -⟩ := id P9
  replace G : Gets p e below _ (s₁.setTop (mkF m 5 #[.val (.ref tt), .val (.ref a)] [(.int 1), (.int 0), (.ref a), (.ref tt)])) := fun t k => G t (X0.arraylength hx (by rw [e0]; exact Ar1.1) (State.isArrayOf_alike hZ.alike Ar1.2.1) (g := o_g G) rfl rfl (hb hby d2_4) t (by rw [len_of S1 N1']; exact k))
  replace G := o_aconst_null (q := 6) G X0.here hx (hb hby d2_5) rfl
  obtain ⟨_, _, ⟨T2, L2, kk2, nn2⟩, -, X2, ⟨Lc2, hQ2, l2, y2, z2⟩, st2⟩ := X0.specialBack hx (y := (⟨o_n1, "<init>", "([CIILjava/lang/Void;)V"⟩ : MethodName)) rfl hown (mvT hZ (o_w hw 12 rfl)) (mvT hZ (o_w hw 13 rfl)) (mvT hZ (o_w hw 15 rfl)) (by decide) (backOf (W := 0) (rm3u1 l Z a0 hw [] tt a ks cw ec0 h0 n0 Z0 P0 P1 P2 P3 P4 P5 P6 P7 P8 P9 hcw hU hr0) hZ (o_w hw 15 rfl) (o_w hw 7 rfl) (by decide) (by decide)) (g := o_g G) rfl (by rw [hml]; rfl) (Steps.refl _) (a := tt) (argsL := [(.ref a), (.int 0), (.int 1), .null]) (rest := []) (lenOf pd_3 rfl) rfl (by show 2 * 0 + _ ≤ _; exact Nat.le_of_eq rfl) (hb hby d2_6) (fun _ _ => ⟨rfl, e0, (by decide : 0 + 2 ≤ _), (by decide : 0 + 3 ≤ _)⟩)
  dsimp only [Pt.U, Pt.locs, Pt.cells, Pt.slots] at X2 l2 y2 z2 st2 hQ2
  subst l2 y2 z2
  obtain ⟨b_2, kb_2, rfl, N2q, K2q, B2_0, B2_1, B2_2, B2_3⟩ := hQ2
  have ne3 : tt ≠ b_2 := Nat.ne_of_lt (Nat.lt_of_lt_of_le P5.lt B2_2)
  have ne4 : a ≠ b_2 := Nat.ne_of_lt (Nat.lt_of_lt_of_le P9.lt B2_2)
  have ge_b_2 : n0 ≤ b_2 := Nat.le_trans Z0 B2_2
  have sz_b_2 : h0.size ≤ b_2 := Nat.le_trans K0.1 B2_2
  have Z2 : n0 ≤ T2.heap.size := Nat.le_trans Z0 K2q.1
  have K2 : Keep h0 T2.heap [tt] := K0.trans K2q (allS (Or.inl (List.mem_of_getElem? (i := 0) rfl)) all0)
  have N2 := Fr.app N0 N2q
  replace G := o_nxv (q := 9) (st := []) G st2 rfl
  obtain ⟨fs, hr, hrun, hended, hW, hsame⟩ := X2.leave (v := none) (fun _ => rfl)
  refine ⟨_, _, G _ (X2.returnOut hx Bd.returns (hb hby d2_9) hr), hrun, hended, _, _, rfl, ?_, ⟨_, rfl⟩, hW, hsame.mono (by decide) (by decide)⟩
  show Q2u1 Z tt a ks cw ec0 h0 n0 _ T2.heap _
  exact ⟨b_2, kb_2, rfl, N2, K2, B2_0, B2_1, sz_b_2, B2_3⟩
theorem ef_6n2 (m : MethodId) (x0 : Addr) (x2 : Addr) : entryFrame m #[(.ref x0), (.int 0), (.ref x2), (.int 0), (.int 2)] 7 = mkF m 0 #[.val (.ref x0), .val (.int 0), .val (.ref x2), .val (.int 0), .val (.int 2), .unset, .unset] [] := by first | (simp [entryFrame, mkF, argsToLocals, Value.category]; done) | rfl
def Q6n2 (Z : State) (a : Addr) (d : Addr) (ks : ClassId) (kd : ClassId) (ec0 : Int32) (ec1 : Int32) (h0 : Heap) (n0 : Nat) (v : Option Value) (h : Heap) (L : List Loc) : Prop := v = some (.int 2) ∧ Fr n0 L ∧ Keep h0 h [d] ∧ (Arv Z h d kd .byte (2 : Int32) [(.int (nar .byte (ec0.toInt8.toInt32))), (.int (nar .byte (ec1.toInt8.toInt32)))] (.int 0))
set_option maxRecDepth 65536 in
set_option maxHeartbeats 40000000 in
theorem rm6n2 (l : Launch) (Z : State) (a0 : Array Value) (hw : ∀ d ∈ tables_1, d.before a0 Z = true) (ws : List Jvm.Cond) (a : Addr) (d : Addr) (ks : ClassId) (kd : ClassId) (ec0 : Int32) (ec1 : Int32) (h0 : Heap) (n0 : Nat) (Z0 : n0 ≤ h0.size) (P0 : Arv Z h0 a ks .char (2 : Int32) [(.int ec0), (.int ec1)] (.int 0)) (P1 : Arv Z h0 d kd .byte (2 : Int32) [(.int 0), (.int 0)] (.int 0)) (P2 : n0 ≤ d) (P3 : a ≠ d) (he0 : ¬ ((255 : Int32) < ec0)) (he1 : ¬ ((255 : Int32) < ec1)) :
    MetFree l (⟨o_n0, "compress", "([CI[BII)I"⟩ : MethodName) (head1 (Jvm.Cond.code (⟨o_n0, "compress", "([CI[BII)I"⟩ : MethodName) jdk_52_method_21_code 7 (some .int) :: ws) ({ frames := 0, cells := 0, slots := 0, locals := 0 } : Room)) (fun argz U => argz = #[(.ref a), (.int 0), (.ref d), (.int 0), (.int 2)] ∧ Z.Warmed39 U.vm ∧ U.heap = h0) (fun _ _ _ _ _ => True) (fun _ U o U' => ∃ v L, o = .returned v ∧ Q6n2 Z a d ks kd ec0 ec1 h0 n0 v U'.heap L ∧ FrameEnd U o U' L ({ frames := 0, cells := 0, slots := 0, locals := 0 } : Room).cells ({ frames := 0, cells := 0, slots := 0, locals := 0 } : Room).slots) := by
  refine MetFree.of_bodySF (plainFor_of_name pn_java_lang_StringUTF16) hisR ?_
  intro p e s m args below meth c s₁ Bd hml0 hP hK
  obtain ⟨rfl, hZ, hh⟩ := hP
  have hx := Bd.exec
  have hby := Bd.bytes
  have hml : c.maxLocals = 7 := hml0
  have hown : s.vm.findClass o_n0 = some m.cls := findClass_of_methodNamed Bd.named
  have hnm := (name_of_methodNamed Bd.named Bd.method).1
  have X0 : Stand p l e ({ frames := 0, cells := 0, slots := 0, locals := 0 } : Room) s m #[(.ref a), (.int 0), (.ref d), (.int 0), (.int 2)] below meth c s₁ [] 0 0 := Stand.of_body Bd
  have e0 : s₁.heap = h0 := by rw [← hh, Bd.state]; rfl
  have N0 := Fr.nil n0
  have K0 : Keep h0 h0 [d] := Keep.refl _ _
  have G : Gets p e below (s₁.setTop (entryFrame m #[(.ref a), (.int 0), (.ref d), (.int 0), (.int 2)] 7)) (s₁.setTop (mkF m 0 #[.val (.ref a), .val (.int 0), .val (.ref d), .val (.int 0), .val (.int 2), .unset, .unset] [])) := fun t k => castTop (ef_6n2 m a d) k
  replace G := o_iconst (q := 1) G X0.here hx (hb hby d6_0) (v := (0 : Int32)) (by decide) rfl
  replace G := o_istore (q := 3) (l' := #[.val (.ref a), .val (.int 0), .val (.ref d), .val (.int 0), .val (.int 2), .val (.int 0), .unset]) G X0.here hx (hb hby d6_1) rfl rfl
  replace G := o_iload (q := 5) G X0.here hx (hb hby d6_3) rfl rfl
  replace G := o_iload (q := 7) G X0.here hx (hb hby d6_5) rfl rfl
  replace G := o_icmpNo (q := 10) G X0.here hx (hb hby d6_7) (by decide) rfl
  replace G := o_aloadN (q := 11) G X0.here hx (hb hby d6_10) rfl rfl rfl
  replace G := o_iloadN (q := 12) G X0.here hx (hb hby d6_11) rfl rfl
  obtain ⟨c2, Ar2, -, S2, -, H2, -⟩ := id P0
  have hin2 : ¬ ((0 : Int32) < 0 ∨ c2.slots.size ≤ ((0 : Int32)).toNatClampNeg) := inb_of S2 ⟨by decide, by decide⟩
  replace G := o_nxs (q := 13) (st := [(.int ec0)]) G (X0.caload hx (j := (0 : Int32)) (v := (.int ec0)) (by rw [e0]; exact Ar2.1) (State.isArrayOf_alike hZ.alike Ar2.2.1) Ar2.2.2 hin2 (Has.at H2 hin2 rfl) (g := o_g G) rfl rfl (hb hby d6_12)) rfl
  replace G := o_istore (q := 15) (l' := #[.val (.ref a), .val (.int 0), .val (.ref d), .val (.int 0), .val (.int 2), .val (.int 0), .val (.int ec0)]) G X0.here hx (hb hby d6_13) rfl rfl
  replace G := o_iload (q := 17) G X0.here hx (hb hby d6_15) rfl rfl
  replace G := o_sipush (q := 20) G X0.here hx (hb hby d6_17) (v := (255 : Int32)) (by decide) rfl
  have hc20_3 : ¬ ((255 : Int32) < ec0) := he0
  replace G := o_icmpYes (q := 26) G X0.here hx (hb hby d6_20) (flt hc20_3).2.2.2 (by decide) (by decide)
  replace G := o_aloadN (q := 27) G X0.here hx (hb hby d6_26) rfl rfl rfl
  replace G := o_iloadN (q := 28) G X0.here hx (hb hby d6_27) rfl rfl
  replace G := o_iload (q := 30) G X0.here hx (hb hby d6_28) rfl rfl
  replace G := o_i2b (q := 31) G X0.here hx (hb hby d6_30) rfl rfl
  obtain ⟨c4, Ar4, q4, S4, N4', H4, G4'⟩ := id P1
  have hin4 : ¬ ((0 : Int32) < 0 ∨ c4.slots.size ≤ ((0 : Int32)).toNatClampNeg) := inb_of S4 ⟨by decide, by decide⟩
  obtain ⟨T4, h4, X4, e4, W4, st4⟩ := stB X0 hx hZ e0 Ar4 (j := (0 : Int32)) hin4 (g := o_g G) rfl rfl (hb hby d6_31)
  have N4 := Fr.snoc X4 N0 P2
  have Z4 : n0 ≤ h4.size := Nat.le_trans Z0 (Keep.of_wr W4).1
  have K4 : Keep h0 h4 [d] := K0.wr W4 (Or.inl (List.mem_of_getElem? (i := 0) rfl))
  have V4 : Arv Z h4 d kd .byte (2 : Int32) [(.int (nar .byte (ec0.toInt8.toInt32))), (.int 0)] (.int 0) := Arv.set Ar4 q4 S4 N4' H4 G4' (fits_nar_byte _) W4 0 rfl (Nat.le_of_ble_eq_true rfl)
  replace G := o_nxs (q := 32) (st := []) G st4 rfl
  replace G := o_iinc (q := 35) (l' := #[.val (.ref a), .val (.int 1), .val (.ref d), .val (.int 0), .val (.int 2), .val (.int 0), .val (.int ec0)]) (w := (1 : Int32)) G X4.here hx (hb hby d6_32) (by decide) rfl (by decide : ((0 : Int32) + (1 : Int32)) = (1 : Int32)) rfl rfl
  replace G := o_iinc (q := 38) (l' := #[.val (.ref a), .val (.int 1), .val (.ref d), .val (.int 1), .val (.int 2), .val (.int 0), .val (.int ec0)]) (w := (1 : Int32)) G X4.here hx (hb hby d6_35) (by decide) rfl (by decide : ((0 : Int32) + (1 : Int32)) = (1 : Int32)) rfl rfl
  replace G := o_iinc (q := 41) (l' := #[.val (.ref a), .val (.int 1), .val (.ref d), .val (.int 1), .val (.int 2), .val (.int 1), .val (.int ec0)]) (w := (1 : Int32)) G X4.here hx (hb hby d6_38) (by decide) rfl (by decide : ((0 : Int32) + (1 : Int32)) = (1 : Int32)) rfl rfl
  replace G := o_goto (q := 3) G X4.here hx (hb hby d6_41) (by decide) (by decide)
  replace G := o_iload (q := 5) G X4.here hx (hb hby d6_3) rfl rfl
  replace G := o_iload (q := 7) G X4.here hx (hb hby d6_5) rfl rfl
  replace G := o_icmpNo (q := 10) G X4.here hx (hb hby d6_7) (by decide) rfl
  replace G := o_aloadN (q := 11) G X4.here hx (hb hby d6_10) rfl rfl rfl
  replace G := o_iloadN (q := 12) G X4.here hx (hb hby d6_11) rfl rfl
  have F6 := (P0.other W4 P3)
  obtain ⟨c7, Ar7, -, S7, -, H7, -⟩ := id F6
  have hin7 : ¬ ((1 : Int32) < 0 ∨ c7.slots.size ≤ ((1 : Int32)).toNatClampNeg) := inb_of S7 ⟨by decide, by decide⟩
  replace G := o_nxs (q := 13) (st := [(.int ec1)]) G (X4.caload hx (j := (1 : Int32)) (v := (.int ec1)) (by rw [e4]; exact Ar7.1) (State.isArrayOf_alike hZ.alike Ar7.2.1) Ar7.2.2 hin7 (Has.at H7 hin7 rfl) (g := o_g G) rfl rfl (hb hby d6_12)) rfl
  replace G := o_istore (q := 15) (l' := #[.val (.ref a), .val (.int 1), .val (.ref d), .val (.int 1), .val (.int 2), .val (.int 1), .val (.int ec1)]) G X4.here hx (hb hby d6_13) rfl rfl
  replace G := o_iload (q := 17) G X4.here hx (hb hby d6_15) rfl rfl
  replace G := o_sipush (q := 20) G X4.here hx (hb hby d6_17) (v := (255 : Int32)) (by decide) rfl
  have hc20_8 : ¬ ((255 : Int32) < ec1) := he1
  replace G := o_icmpYes (q := 26) G X4.here hx (hb hby d6_20) (flt hc20_8).2.2.2 (by decide) (by decide)
  replace G := o_aloadN (q := 27) G X4.here hx (hb hby d6_26) rfl rfl rfl
  replace G := o_iloadN (q := 28) G X4.here hx (hb hby d6_27) rfl rfl
  replace G := o_iload (q := 30) G X4.here hx (hb hby d6_28) rfl rfl
  replace G := o_i2b (q := 31) G X4.here hx (hb hby d6_30) rfl rfl
  obtain ⟨c9, Ar9, q9, S9, N9', H9, G9'⟩ := id V4
  have hin9 : ¬ ((1 : Int32) < 0 ∨ c9.slots.size ≤ ((1 : Int32)).toNatClampNeg) := inb_of S9 ⟨by decide, by decide⟩
  obtain ⟨T9, h9, X9, e9, W9, st9⟩ := stB X4 hx hZ e4 Ar9 (j := (1 : Int32)) hin9 (g := o_g G) rfl rfl (hb hby d6_31)
  have N9 := Fr.snoc X9 N4 P2
  have Z9 : n0 ≤ h9.size := Nat.le_trans Z4 (Keep.of_wr W9).1
  have K9 : Keep h0 h9 [d] := K4.wr W9 (Or.inl (List.mem_of_getElem? (i := 0) rfl))
  have V9 : Arv Z h9 d kd .byte (2 : Int32) [(.int (nar .byte (ec0.toInt8.toInt32))), (.int (nar .byte (ec1.toInt8.toInt32)))] (.int 0) := Arv.set Ar9 q9 S9 N9' H9 G9' (fits_nar_byte _) W9 1 rfl (Nat.le_of_ble_eq_true rfl)
  replace G := o_nxs (q := 32) (st := []) G st9 rfl
  replace G := o_iinc (q := 35) (l' := #[.val (.ref a), .val (.int 2), .val (.ref d), .val (.int 1), .val (.int 2), .val (.int 1), .val (.int ec1)]) (w := (1 : Int32)) G X9.here hx (hb hby d6_32) (by decide) rfl (by decide : ((1 : Int32) + (1 : Int32)) = (2 : Int32)) rfl rfl
  replace G := o_iinc (q := 38) (l' := #[.val (.ref a), .val (.int 2), .val (.ref d), .val (.int 2), .val (.int 2), .val (.int 1), .val (.int ec1)]) (w := (1 : Int32)) G X9.here hx (hb hby d6_35) (by decide) rfl (by decide : ((1 : Int32) + (1 : Int32)) = (2 : Int32)) rfl rfl
  replace G := o_iinc (q := 41) (l' := #[.val (.ref a), .val (.int 2), .val (.ref d), .val (.int 2), .val (.int 2), .val (.int 2), .val (.int ec1)]) (w := (1 : Int32)) G X9.here hx (hb hby d6_38) (by decide) rfl (by decide : ((1 : Int32) + (1 : Int32)) = (2 : Int32)) rfl rfl
  replace G := o_goto (q := 3) G X9.here hx (hb hby d6_41) (by decide) (by decide)
  replace G := o_iload (q := 5) G X9.here hx (hb hby d6_3) rfl rfl
  replace G := o_iload (q := 7) G X9.here hx (hb hby d6_5) rfl rfl
  replace G := o_icmpYes (q := 44) G X9.here hx (hb hby d6_7) (by decide) (by decide) (by decide)
  replace G := o_iload (q := 46) G X9.here hx (hb hby d6_44) rfl rfl
  obtain ⟨fs, hr, hrun, hended, hW, hsame⟩ := X9.leave (v := some (.int 2)) (fun h => by rw [Bd.returns] at h; cases h)
  refine ⟨_, _, G _ (retOut X9 hx Bd.returns rfl (Or.inl ⟨rfl, Or.inl rfl, _, rfl⟩) (hb hby d6_46) hr), hrun, hended, _, _, rfl, ?_, ⟨_, rfl⟩, hW, hsame.mono (by decide) (by decide)⟩
  show Q6n2 Z a d ks kd ec0 ec1 h0 n0 _ T9.heap _
  rw [e9]
  exact ⟨rfl, N9, K9, V9⟩
theorem ef_5n2 (m : MethodId) (x0 : Addr) : entryFrame m #[(.ref x0), (.int 0), (.int 2)] 6 = mkF m 0 #[.val (.ref x0), .val (.int 0), .val (.int 2), .unset, .unset, .unset] [] := by first | (simp [entryFrame, mkF, argsToLocals, Value.category]; done) | rfl
def Q5n2 (Z : State) (a : Addr) (ks : ClassId) (ec0 : Int32) (ec1 : Int32) (h0 : Heap) (n0 : Nat) (v : Option Value) (h : Heap) (L : List Loc) : Prop := ∃ (b : Addr) (kb : ClassId), v = some (.ref b) ∧ Fr n0 L ∧ Keep h0 h [] ∧ h0.size ≤ b ∧ (Arv Z h b kb .byte (2 : Int32) [(.int (nar .byte (ec0.toInt8.toInt32))), (.int (nar .byte (ec1.toInt8.toInt32)))] (.int 0))
set_option maxRecDepth 65536 in
set_option maxHeartbeats 40000000 in
theorem rm5n2 (l : Launch) (Z : State) (a0 : Array Value) (hw : ∀ d ∈ tables_1, d.before a0 Z = true) (ws : List Jvm.Cond) (a : Addr) (ks : ClassId) (ec0 : Int32) (ec1 : Int32) (h0 : Heap) (n0 : Nat) (Z0 : n0 ≤ h0.size) (P0 : Arv Z h0 a ks .char (2 : Int32) [(.int ec0), (.int ec1)] (.int 0)) (he0 : ¬ ((255 : Int32) < ec0)) (he1 : ¬ ((255 : Int32) < ec1)) :
    MetFree l (⟨o_n0, "compress", "([CII)[B"⟩ : MethodName) (head1 (Jvm.Cond.code (⟨o_n0, "compress", "([CII)[B"⟩ : MethodName) jdk_52_method_16_code 6 (some (.array .byte)) :: ws) ({ frames := 1, cells := 1, slots := 2, locals := 18 } : Room)) (fun argz U => argz = #[(.ref a), (.int 0), (.int 2)] ∧ Z.Warmed39 U.vm ∧ U.heap = h0) (fun _ _ _ _ _ => True) (fun _ U o U' => ∃ v L, o = .returned v ∧ Q5n2 Z a ks ec0 ec1 h0 n0 v U'.heap L ∧ FrameEnd U o U' L ({ frames := 1, cells := 1, slots := 2, locals := 18 } : Room).cells ({ frames := 1, cells := 1, slots := 2, locals := 18 } : Room).slots) := by
  refine MetFree.of_bodySF (plainFor_of_name pn_java_lang_StringUTF16) hisR ?_
  intro p e s m args below meth c s₁ Bd hml0 hP hK
  obtain ⟨rfl, hZ, hh⟩ := hP
  have hx := Bd.exec
  have hby := Bd.bytes
  have hml : c.maxLocals = 6 := hml0
  have hown : s.vm.findClass o_n0 = some m.cls := findClass_of_methodNamed Bd.named
  have hnm := (name_of_methodNamed Bd.named Bd.method).1
  have X0 : Stand p l e ({ frames := 1, cells := 1, slots := 2, locals := 18 } : Room) s m #[(.ref a), (.int 0), (.int 2)] below meth c s₁ [] 0 0 := Stand.of_body Bd
  have e0 : s₁.heap = h0 := by rw [← hh, Bd.state]; rfl
  have N0 := Fr.nil n0
  have K0 : Keep h0 h0 [] := Keep.refl _ _
  have G : Gets p e below (s₁.setTop (entryFrame m #[(.ref a), (.int 0), (.int 2)] 6)) (s₁.setTop (mkF m 0 #[.val (.ref a), .val (.int 0), .val (.int 2), .unset, .unset, .unset] [])) := fun t k => castTop (ef_5n2 m a) k
  replace G := o_iloadN (q := 1) G X0.here hx (hb hby d5_0) rfl rfl
  obtain ⟨T1, h1, k1, X1, e1, E1, A1, st1⟩ := newP X0 hx hZ (o_w hw 20 rfl) e0 (g := o_g G) rfl (hb hby d5_1) rfl (by decide) (cap := 2) (by decide) (by decide) (by decide) (by decide)
  obtain ⟨b1, g1⟩ : ∃ z, z = h0.size := ⟨_, rfl⟩
  rw [← g1] at A1 st1
  have ne2 : a ≠ b1 := Nat.ne_of_lt (Nat.lt_of_lt_of_le P0.lt (Nat.le_of_eq g1.symm))
  have ge_b1 : n0 ≤ b1 := Nat.le_trans Z0 (Nat.le_of_eq g1.symm)
  have sz_b1 : h0.size ≤ b1 := Nat.le_trans K0.1 (Nat.le_of_eq g1.symm)
  have Z1 : n0 ≤ h1.size := Nat.le_trans Z0 E1.1
  have K1 : Keep h0 h1 [] := K0.ext E1
  have V1 : Arv Z h1 b1 k1 .byte (2 : Int32) [(.int 0), (.int 0)] (.int 0) := (Arv.new A1 (by decide)).pad (pad_rep [] (.int 0) 2)
  replace G := o_nxs (q := 3) (st := [(.ref b1)]) G st1 rfl
  replace G := o_astoreN (q := 4) (l' := #[.val (.ref a), .val (.int 0), .val (.int 2), .val (.ref b1), .unset, .unset]) G X1.here hx (hb hby d5_3) rfl rfl rfl
  replace G := o_aloadN (q := 5) G X1.here hx (hb hby d5_4) rfl rfl rfl
  replace G := o_iloadN (q := 6) G X1.here hx (hb hby d5_5) rfl rfl
  replace G := o_aloadN (q := 7) G X1.here hx (hb hby d5_6) rfl rfl rfl
  replace G := o_iconst (q := 8) G X1.here hx (hb hby d5_7) (v := (0 : Int32)) (by decide) rfl
  replace G := o_iloadN (q := 9) G X1.here hx (hb hby d5_8) rfl rfl
  have F4 := (P0.ext E1)
  obtain ⟨_, _, ⟨T3, L3, kk3, nn3⟩, -, X3, ⟨Lc3, hQ3, l3, y3, z3⟩, st3⟩ := Jvm.LawKit.callS X1 hx (y := (⟨o_n0, "compress", "([CI[BII)I"⟩ : MethodName)) hown (mvT hZ (o_w hw 32 rfl)) (mvT hZ (o_w hw 33 rfl)) (mvT hZ (o_w hw 30 rfl)) (mvT hZ (o_w hw 34 rfl)) (by decide) (backOf (W := 0) (rm6n2 l Z a0 hw [] a b1 ks k1 ec0 ec1 h1 n0 Z1 F4 V1 ge_b1 ne2 he0 he1) hZ (o_w hw 34 rfl) (o_w hw 30 rfl) (by decide) (by decide)) (g := o_g G) rfl (by rw [hml]; rfl) (argsL := [(.ref a), (.int 0), (.ref b1), (.int 0), (.int 2)]) (rest := []) (lenOf pd_0 rfl) rfl (by show 2 * 0 + _ ≤ _; exact Nat.le_of_eq rfl) (hb hby d5_9) (fun _ _ => ⟨rfl, e1, (by decide : 1 + 0 ≤ _), (by decide : 2 + 0 ≤ _)⟩)
  dsimp only [Pt.U, Pt.locs, Pt.cells, Pt.slots] at X3 l3 y3 z3 st3 hQ3
  subst l3 y3 z3
  obtain ⟨rfl, N3q, K3q, B3_0⟩ := hQ3
  have Z3 : n0 ≤ T3.heap.size := Nat.le_trans Z1 K3q.1
  have K3 : Keep h0 T3.heap [] := K1.trans K3q (allS (Or.inr sz_b1) all0)
  have N3 := Fr.app N0 N3q
  replace G := o_nxs (q := 12) (st := [(.int 2)]) G st3 rfl
  replace G := o_istore (q := 14) (l' := #[.val (.ref a), .val (.int 0), .val (.int 2), .val (.ref b1), .val (.int 2), .unset]) G X3.here hx (hb hby d5_12) rfl rfl
  replace G := o_iload (q := 16) G X3.here hx (hb hby d5_14) rfl rfl
  replace G := o_iloadN (q := 17) G X3.here hx (hb hby d5_16) rfl rfl
  replace G := o_icmpYes (q := 57) G X3.here hx (hb hby d5_17) (by decide) (by decide) (by decide)
  replace G := o_aloadN (q := 58) G X3.here hx (hb hby d5_57) rfl rfl rfl
  obtain ⟨fs, hr, hrun, hended, hW, hsame⟩ := X3.leave (v := some (.ref b1)) (fun h => by rw [Bd.returns] at h; cases h)
  refine ⟨_, _, G _ (retOut X3 hx Bd.returns rfl (Or.inr (Or.inr (Or.inr (Or.inr ⟨rfl, rfl, rfl⟩)))) (hb hby d5_58) hr), hrun, hended, _, _, rfl, ?_, ⟨_, rfl⟩, hW, hsame.mono (by decide) (by decide)⟩
  show Q5n2 Z a ks ec0 ec1 h0 n0 _ T3.heap _
  exact ⟨b1, k1, rfl, N3, K3, sz_b1, B3_0⟩
theorem ef_12n2 (m : MethodId) (x0 : Addr) : entryFrame m #[(.ref x0), (.int 2)] 2 = mkF m 0 #[.val (.ref x0), .val (.int 2)] [] := by first | (simp [entryFrame, mkF, argsToLocals, Value.category]; done) | rfl
def Q12n2 (Z : State) (d : Addr) (kd : ClassId) (vs : List Value) (h0 : Heap) (n0 : Nat) (v : Option Value) (h : Heap) (L : List Loc) : Prop := v = some (.int 0) ∧ Fr n0 L ∧ h = h0
set_option maxRecDepth 65536 in
set_option maxHeartbeats 40000000 in
theorem rm12n2 (l : Launch) (Z : State) (a0 : Array Value) (hw : ∀ d ∈ tables_1, d.before a0 Z = true) (ws : List Jvm.Cond) (d : Addr) (kd : ClassId) (vs : List Value) (h0 : Heap) (n0 : Nat) (Z0 : n0 ≤ h0.size) (P0 : Arv Z h0 d kd .byte (2 : Int32) vs (.int 0)) :
    MetFree l (⟨o_n0, "coderFromArrayLen", "([BI)B"⟩ : MethodName) (head1 (Jvm.Cond.code (⟨o_n0, "coderFromArrayLen", "([BI)B"⟩ : MethodName) jdk_52_method_15_code 2 (some .byte) :: ws) ({ frames := 0, cells := 0, slots := 0, locals := 0 } : Room)) (fun argz U => argz = #[(.ref d), (.int 2)] ∧ Z.Warmed39 U.vm ∧ U.heap = h0) (fun _ _ _ _ _ => True) (fun _ U o U' => ∃ v L, o = .returned v ∧ Q12n2 Z d kd vs h0 n0 v U'.heap L ∧ FrameEnd U o U' L ({ frames := 0, cells := 0, slots := 0, locals := 0 } : Room).cells ({ frames := 0, cells := 0, slots := 0, locals := 0 } : Room).slots) := by
  refine MetFree.of_bodySF (plainFor_of_name pn_java_lang_StringUTF16) hisR ?_
  intro p e s m args below meth c s₁ Bd hml0 hP hK
  obtain ⟨rfl, hZ, hh⟩ := hP
  have hx := Bd.exec
  have hby := Bd.bytes
  have hml : c.maxLocals = 2 := hml0
  have hown : s.vm.findClass o_n0 = some m.cls := findClass_of_methodNamed Bd.named
  have hnm := (name_of_methodNamed Bd.named Bd.method).1
  have X0 : Stand p l e ({ frames := 0, cells := 0, slots := 0, locals := 0 } : Room) s m #[(.ref d), (.int 2)] below meth c s₁ [] 0 0 := Stand.of_body Bd
  have e0 : s₁.heap = h0 := by rw [← hh, Bd.state]; rfl
  have N0 := Fr.nil n0
  have G : Gets p e below (s₁.setTop (entryFrame m #[(.ref d), (.int 2)] 2)) (s₁.setTop (mkF m 0 #[.val (.ref d), .val (.int 2)] [])) := fun t k => castTop (ef_12n2 m d) k
  replace G := o_iloadN (q := 1) G X0.here hx (hb hby d12_0) rfl rfl
  replace G := o_aloadN (q := 2) G X0.here hx (hb hby d12_1) rfl rfl rfl
  obtain ⟨c1, Ar1, -, S1, N1', -, -⟩ := id P0
  replace G : Gets p e below _ (s₁.setTop (mkF m 3 #[.val (.ref d), .val (.int 2)] [(.int 2), (.int 2)])) := fun t k => G t (X0.arraylength hx (by rw [e0]; exact Ar1.1) (State.isArrayOf_alike hZ.alike Ar1.2.1) (g := o_g G) rfl rfl (hb hby d12_2) t (by rw [len_of S1 N1']; exact k))
  replace G := o_isub (q := 4) G X0.here hx (hb hby d12_3) (by decide : ((2 : Int32) - (2 : Int32)) = (0 : Int32)) rfl
  replace G := o_bipush (q := 6) G X0.here hx (hb hby d12_4) (v := (31 : Int32)) (by decide) rfl
  replace G := o_iushr (q := 7) G X0.here hx (hb hby d12_6) (by decide : (((0 : Int32).toUInt32 >>> ((31 : Int32) &&& 31).toUInt32).toInt32) = (0 : Int32)) rfl
  replace G := o_i2b (q := 8) G X0.here hx (hb hby d12_7) (by decide : ((0 : Int32).toInt8.toInt32) = (0 : Int32)) rfl
  obtain ⟨fs, hr, hrun, hended, hW, hsame⟩ := X0.leave (v := some (.int 0)) (fun h => by rw [Bd.returns] at h; cases h)
  refine ⟨_, _, G _ (retOut X0 hx Bd.returns rfl (Or.inl ⟨rfl, Or.inr (Or.inr (Or.inl rfl)), _, rfl⟩) (hb hby d12_8) hr), hrun, hended, _, _, rfl, ?_, ⟨_, rfl⟩, hW, hsame.mono (by decide) (by decide)⟩
  show Q12n2 Z d kd vs h0 n0 _ s₁.heap _
  rw [e0]
  exact ⟨rfl, N0, rfl⟩
theorem ef_3n2 (m : MethodId) (x0 : Addr) (x1 : Addr) : entryFrame m #[(.ref x0), (.ref x1), (.int 0), (.int 2), .null] 6 = mkF m 0 #[.val (.ref x0), .val (.ref x1), .val (.int 0), .val (.int 2), .val .null, .unset] [] := by first | (simp [entryFrame, mkF, argsToLocals, Value.category]; done) | rfl
def Q3n2 (Z : State) (tt : Addr) (a : Addr) (ks : ClassId) (cw : Int32) (ec0 : Int32) (ec1 : Int32) (h0 : Heap) (n0 : Nat) (v : Option Value) (h : Heap) (L : List Loc) : Prop := ∃ (b : Addr) (kb : ClassId), v = none ∧ Fr n0 L ∧ Keep h0 h [tt] ∧ (Fld Z h tt o_n1 "value" "[B" (.ref b)) ∧ (Fld Z h tt o_n1 "coder" "B" (.int 0)) ∧ h0.size ≤ b ∧ (Arv Z h b kb .byte (2 : Int32) [(.int (nar .byte (ec0.toInt8.toInt32))), (.int (nar .byte (ec1.toInt8.toInt32)))] (.int 0))
set_option maxRecDepth 65536 in
set_option maxHeartbeats 40000000 in
theorem rm3n2 (l : Launch) (Z : State) (a0 : Array Value) (hw : ∀ d ∈ tables_1, d.before a0 Z = true) (ws : List Jvm.Cond) (tt : Addr) (a : Addr) (ks : ClassId) (cw : Int32) (ec0 : Int32) (ec1 : Int32) (h0 : Heap) (n0 : Nat) (Z0 : n0 ≤ h0.size) (P0 : Fld Z h0 tt o_n1 "value" "[B" .null) (P1 : Fld Z h0 tt o_n1 "coder" "B" (.int 0)) (P2 : Exa Z h0 tt o_n1) (P3 : n0 ≤ tt) (P4 : Arv Z h0 a ks .char (2 : Int32) [(.int ec0), (.int ec1)] (.int 0)) (P5 : Sta Z h0 o_n1 "COMPACT_STRINGS" "Z" (.int cw)) (hcw : ¬ cw = (0 : Int32)) (he0 : ¬ ((255 : Int32) < ec0)) (he1 : ¬ ((255 : Int32) < ec1)) :
    MetFree l (⟨o_n1, "<init>", "([CIILjava/lang/Void;)V"⟩ : MethodName) (head1 (Jvm.Cond.code (⟨o_n1, "<init>", "([CIILjava/lang/Void;)V"⟩ : MethodName) jdk_42_method_149_code 6 none :: ws) ({ frames := 2, cells := 1, slots := 2, locals := 35 } : Room)) (fun argz U => argz = #[(.ref tt), (.ref a), (.int 0), (.int 2), .null] ∧ Z.Warmed39 U.vm ∧ U.heap = h0) (fun _ _ _ _ _ => True) (fun _ U o U' => ∃ v L, o = .returned v ∧ Q3n2 Z tt a ks cw ec0 ec1 h0 n0 v U'.heap L ∧ FrameEnd U o U' L ({ frames := 2, cells := 1, slots := 2, locals := 35 } : Room).cells ({ frames := 2, cells := 1, slots := 2, locals := 35 } : Room).slots) := by
  refine MetFree.of_bodySF (plainFor_of_name pn_java_lang_String) hisR ?_
  intro p e s m args below meth c s₁ Bd hml0 hP hK
  obtain ⟨rfl, hZ, hh⟩ := hP
  have hx := Bd.exec
  have hby := Bd.bytes
  have hml : c.maxLocals = 6 := hml0
  have hown : s.vm.findClass o_n1 = some m.cls := findClass_of_methodNamed Bd.named
  have hnm := (name_of_methodNamed Bd.named Bd.method).1
  have X0 : Stand p l e ({ frames := 2, cells := 1, slots := 2, locals := 35 } : Room) s m #[(.ref tt), (.ref a), (.int 0), (.int 2), .null] below meth c s₁ [] 0 0 := Stand.of_body Bd
  have e0 : s₁.heap = h0 := by rw [← hh, Bd.state]; rfl
  have N0 := Fr.nil n0
  have K0 : Keep h0 h0 [tt] := Keep.refl _ _
  have G : Gets p e below (s₁.setTop (entryFrame m #[(.ref tt), (.ref a), (.int 0), (.int 2), .null] 6)) (s₁.setTop (mkF m 0 #[.val (.ref tt), .val (.ref a), .val (.int 0), .val (.int 2), .val .null, .unset] [])) := fun t k => castTop (ef_3n2 m tt a) k
  replace G := o_aloadN (q := 1) G X0.here hx (hb hby d3_0) rfl rfl rfl
  obtain ⟨T1, X1, e1, st1⟩ := initO X0 hx hZ hown (o_w hw 16 rfl) (o_w hw 17 rfl) (o_w hw 18 rfl) e0 (g := o_g G) rfl (by rw [hml]; rfl) rfl (hb hby d3_1) (by decide) (W := 0) (by show 2 * 0 + _ ≤ _; exact Nat.le_of_eq rfl) (by decide)
  replace G := o_nxs (q := 4) (st := []) G st1 rfl
  replace G := o_iloadN (q := 5) G X1.here hx (hb hby d3_4) rfl rfl
  replace G := o_ifYes (q := 27) G X1.here hx (hb hby d3_5) (by decide) (by decide) (by decide)
  obtain ⟨T3, X3, e3, st3⟩ := getS2 X1 hx hZ hown (host := "") (Or.inl (o_w hw 27 rfl)) Via.refl e1 P5 (g := o_g G) rfl (hb hby d3_27)
  replace G := o_nxs (q := 30) (st := [(.int cw)]) G st3 rfl
  have hc30_4 : ¬ (cw = (0 : Int32)) := hcw
  replace G := o_ifNo (q := 33) G X3.here hx (hb hby d3_30) ((if0 _ _).trans (feq hc30_4).1) rfl
  replace G := o_aloadN (q := 34) G X3.here hx (hb hby d3_33) rfl rfl rfl
  replace G := o_iloadN (q := 35) G X3.here hx (hb hby d3_34) rfl rfl
  replace G := o_iloadN (q := 36) G X3.here hx (hb hby d3_35) rfl rfl
  obtain ⟨_, _, ⟨T5, L5, kk5, nn5⟩, -, X5, ⟨Lc5, hQ5, l5, y5, z5⟩, st5⟩ := Jvm.LawKit.callS X3 hx (y := (⟨o_n0, "compress", "([CII)[B"⟩ : MethodName)) hown (mvT hZ (o_w hw 28 rfl)) (mvT hZ (o_w hw 29 rfl)) (mvT hZ (o_w hw 30 rfl)) (mvT hZ (o_w hw 31 rfl)) (by decide) (backOf (W := 0) (rm5n2 l Z a0 hw [] a ks ec0 ec1 h0 n0 Z0 P4 he0 he1) hZ (o_w hw 31 rfl) (o_w hw 30 rfl) (by decide) (by decide)) (g := o_g G) rfl (by rw [hml]; rfl) (argsL := [(.ref a), (.int 0), (.int 2)]) (rest := []) (lenOf pd_1 rfl) rfl (by show 2 * 0 + _ ≤ _; exact Nat.le_of_eq rfl) (hb hby d3_36) (fun _ _ => ⟨rfl, e3, (by decide : 0 + 1 ≤ _), (by decide : 0 + 2 ≤ _)⟩)
  dsimp only [Pt.U, Pt.locs, Pt.cells, Pt.slots] at X5 l5 y5 z5 st5 hQ5
  subst l5 y5 z5
  obtain ⟨b_5, kb_5, rfl, N5q, K5q, B5_0, B5_1⟩ := hQ5
  have ne6 : tt ≠ b_5 := Nat.ne_of_lt (Nat.lt_of_lt_of_le P0.lt B5_0)
  have ne7 : a ≠ b_5 := Nat.ne_of_lt (Nat.lt_of_lt_of_le P4.lt B5_0)
  have ge_b_5 : n0 ≤ b_5 := Nat.le_trans Z0 B5_0
  have sz_b_5 : h0.size ≤ b_5 := Nat.le_trans K0.1 B5_0
  have Z5 : n0 ≤ T5.heap.size := Nat.le_trans Z0 K5q.1
  have K5 : Keep h0 T5.heap [tt] := K0.trans K5q all0
  have N5 := Fr.app N0 N5q
  replace G := o_nxs (q := 39) (st := [(.ref b_5)]) G st5 rfl
  replace G := o_astore (q := 41) (l' := #[.val (.ref tt), .val (.ref a), .val (.int 0), .val (.int 2), .val .null, .val (.ref b_5)]) G X5.here hx (hb hby d3_39) rfl rfl rfl
  replace G := o_aloadN (q := 42) G X5.here hx (hb hby d3_41) rfl rfl rfl
  replace G := o_aload (q := 44) G X5.here hx (hb hby d3_42) rfl rfl rfl
  replace G := o_iloadN (q := 45) G X5.here hx (hb hby d3_44) rfl rfl
  obtain ⟨_, _, ⟨T8, L8, kk8, nn8⟩, -, X8, ⟨Lc8, hQ8, l8, y8, z8⟩, st8⟩ := Jvm.LawKit.callS X5 hx (y := (⟨o_n0, "coderFromArrayLen", "([BI)B"⟩ : MethodName)) hown (mvT hZ (o_w hw 54 rfl)) (mvT hZ (o_w hw 55 rfl)) (mvT hZ (o_w hw 30 rfl)) (mvT hZ (o_w hw 56 rfl)) (by decide) (backOf (W := 1) (rm12n2 l Z a0 hw [] b_5 kb_5 [(.int (nar .byte (ec0.toInt8.toInt32))), (.int (nar .byte (ec1.toInt8.toInt32)))] T5.heap n0 Z5 B5_1) hZ (o_w hw 56 rfl) (o_w hw 30 rfl) (by decide) (by decide)) (g := o_g G) rfl (by rw [hml]; rfl) (argsL := [(.ref b_5), (.int 2)]) (rest := [(.ref tt)]) (lenOf pd_2 rfl) rfl (by show 2 * 0 + _ ≤ _; exact Nat.le_of_eq rfl) (hb hby d3_45) (fun _ _ => ⟨rfl, rfl, (by decide : 1 + 0 ≤ _), (by decide : 2 + 0 ≤ _)⟩)
  dsimp only [Pt.U, Pt.locs, Pt.cells, Pt.slots] at X8 l8 y8 z8 st8 hQ8
  subst l8 y8 z8
  obtain ⟨rfl, N8q, e8⟩ := hQ8
  have N8 := Fr.app N5 N8q
  replace G := o_nxs (q := 48) (st := [(.int 0), (.ref tt)]) G st8 rfl
  have F9 := (P2.keep K5q)
  have F10 := (P1.keep K5q nin0)
  obtain ⟨T11, h11, X11, e11, W11, st11⟩ := putFN X8 hx hZ hown (o_w hw 26 rfl) Via.refl e8 F10 F9 (Or.inr ⟨(o_w hw 22 rfl), rfl, hnm⟩) (o_w hw 6 rfl) (ty := .byte) (v' := (.int 0)) (by decide) rfl (by first | rfl | decide) (g := o_g G) rfl rfl (hb hby d3_48)
  have N11 := Fr.snoc X11 N8 P3
  have Z11 : n0 ≤ h11.size := Nat.le_trans Z5 (Keep.of_wr W11).1
  have K11 : Keep h0 h11 [tt] := K5.wr W11 (Or.inl (List.mem_of_getElem? (i := 0) rfl))
  have F11 : Fld Z h11 tt o_n1 "coder" "B" (.int 0) := F10.same W11
  replace G := o_nxs (q := 51) (st := []) G st11 rfl
  replace G := o_aloadN (q := 52) G X11.here hx (hb hby d3_51) rfl rfl rfl
  replace G := o_aload (q := 54) G X11.here hx (hb hby d3_52) rfl rfl rfl
  have F12 := (F9.wr W11)
  have F13 := ((P0.keep K5q nin0).other W11 (Or.inr (slot_ne (Or.inr (o_w hw 21 rfl)) (Or.inr (o_w hw 22 rfl)) (by decide) (t := (.array .byte)) (t' := .byte) (by decide) (by decide))))
  obtain ⟨T14, h14, X14, e14, W14, st14⟩ := putF X11 hx hZ hown (host := "") (Or.inl (o_w hw 25 rfl)) Via.refl e11 F13 F12 (Or.inr ⟨(o_w hw 21 rfl), rfl, hnm⟩) (o_w hw 6 rfl) (ty := (.array .byte)) (by decide) rfl rfl (g := o_g G) rfl rfl (hb hby d3_54)
  have N14 := Fr.snoc X14 N11 P3
  have Z14 : n0 ≤ h14.size := Nat.le_trans Z11 (Keep.of_wr W14).1
  have K14 : Keep h0 h14 [tt] := K11.wr W14 (Or.inl (List.mem_of_getElem? (i := 0) rfl))
  have F14 : Fld Z h14 tt o_n1 "value" "[B" (.ref b_5) := F13.same W14
  replace G := o_nxs (q := 57) (st := []) G st14 rfl
  obtain ⟨fs, hr, hrun, hended, hW, hsame⟩ := X14.leave (v := none) (fun _ => rfl)
  refine ⟨_, _, G _ (X14.returnOut hx Bd.returns (hb hby d3_57) hr), hrun, hended, _, _, rfl, ?_, ⟨_, rfl⟩, hW, hsame.mono (by decide) (by decide)⟩
  have F15 := (F11.other W14 (Or.inr (slot_ne (Or.inr (o_w hw 22 rfl)) (Or.inr (o_w hw 21 rfl)) (by decide) (t := .byte) (t' := (.array .byte)) (by decide) (by decide))))
  have F16 := ((B5_1.other W11 (Ne.symm ne6)).other W14 (Ne.symm ne6))
  show Q3n2 Z tt a ks cw ec0 ec1 h0 n0 _ T14.heap _
  rw [e14]
  exact ⟨b_5, kb_5, rfl, N14, K14, F14, F15, sz_b_5, F16⟩
theorem ef_2n2 (m : MethodId) (x0 : Addr) (x1 : Addr) : entryFrame m #[(.ref x0), (.ref x1)] 2 = mkF m 0 #[.val (.ref x0), .val (.ref x1)] [] := by first | (simp [entryFrame, mkF, argsToLocals, Value.category]; done) | rfl
def Q2n2 (Z : State) (tt : Addr) (a : Addr) (ks : ClassId) (cw : Int32) (ec0 : Int32) (ec1 : Int32) (h0 : Heap) (n0 : Nat) (v : Option Value) (h : Heap) (L : List Loc) : Prop := ∃ (b : Addr) (kb : ClassId), v = none ∧ Fr n0 L ∧ Keep h0 h [tt] ∧ (Fld Z h tt o_n1 "value" "[B" (.ref b)) ∧ (Fld Z h tt o_n1 "coder" "B" (.int 0)) ∧ h0.size ≤ b ∧ (Arv Z h b kb .byte (2 : Int32) [(.int (nar .byte (ec0.toInt8.toInt32))), (.int (nar .byte (ec1.toInt8.toInt32)))] (.int 0))
set_option maxRecDepth 65536 in
set_option maxHeartbeats 40000000 in
theorem rm2n2 (l : Launch) (Z : State) (a0 : Array Value) (hw : ∀ d ∈ tables_1, d.before a0 Z = true) (ws : List Jvm.Cond) (tt : Addr) (a : Addr) (ks : ClassId) (cw : Int32) (ec0 : Int32) (ec1 : Int32) (h0 : Heap) (n0 : Nat) (Z0 : n0 ≤ h0.size) (P0 : Fld Z h0 tt o_n1 "value" "[B" .null) (P1 : Fld Z h0 tt o_n1 "coder" "B" (.int 0)) (P2 : Exa Z h0 tt o_n1) (P3 : n0 ≤ tt) (P4 : Arv Z h0 a ks .char (2 : Int32) [(.int ec0), (.int ec1)] (.int 0)) (P5 : Sta Z h0 o_n1 "COMPACT_STRINGS" "Z" (.int cw)) (hcw : ¬ cw = (0 : Int32)) (he0 : ¬ ((255 : Int32) < ec0)) (he1 : ¬ ((255 : Int32) < ec1)) :
    MetFree l (⟨o_n1, "<init>", "([C)V"⟩ : MethodName) (head1 (Jvm.Cond.code (⟨o_n1, "<init>", "([C)V"⟩ : MethodName) jdk_42_method_3_code 2 none :: ws) ({ frames := 3, cells := 1, slots := 2, locals := 52 } : Room)) (fun argz U => argz = #[(.ref tt), (.ref a)] ∧ Z.Warmed39 U.vm ∧ U.heap = h0) (fun _ _ _ _ _ => True) (fun _ U o U' => ∃ v L, o = .returned v ∧ Q2n2 Z tt a ks cw ec0 ec1 h0 n0 v U'.heap L ∧ FrameEnd U o U' L ({ frames := 3, cells := 1, slots := 2, locals := 52 } : Room).cells ({ frames := 3, cells := 1, slots := 2, locals := 52 } : Room).slots) := by
  refine MetFree.of_bodySF (plainFor_of_name pn_java_lang_String) hisR ?_
  intro p e s m args below meth c s₁ Bd hml0 hP hK
  obtain ⟨rfl, hZ, hh⟩ := hP
  have hx := Bd.exec
  have hby := Bd.bytes
  have hml : c.maxLocals = 2 := hml0
  have hown : s.vm.findClass o_n1 = some m.cls := findClass_of_methodNamed Bd.named
  have hnm := (name_of_methodNamed Bd.named Bd.method).1
  have X0 : Stand p l e ({ frames := 3, cells := 1, slots := 2, locals := 52 } : Room) s m #[(.ref tt), (.ref a)] below meth c s₁ [] 0 0 := Stand.of_body Bd
  have e0 : s₁.heap = h0 := by rw [← hh, Bd.state]; rfl
  have N0 := Fr.nil n0
  have K0 : Keep h0 h0 [tt] := Keep.refl _ _
  have G : Gets p e below (s₁.setTop (entryFrame m #[(.ref tt), (.ref a)] 2)) (s₁.setTop (mkF m 0 #[.val (.ref tt), .val (.ref a)] [])) := fun t k => castTop (ef_2n2 m tt a) k
  replace G := o_aloadN (q := 1) G X0.here hx (hb hby d2_0) rfl rfl rfl
  replace G := o_aloadN (q := 2) G X0.here hx (hb hby d2_1) rfl rfl rfl
  replace G := o_iconst (q := 3) G X0.here hx (hb hby d2_2) (v := (0 : Int32)) (by decide) rfl
  replace G := o_aloadN (q := 4) G X0.here hx (hb hby d2_3) rfl rfl rfl
  obtain ⟨c1, Ar1, -, S1, N1', -, -⟩ := id P4
  replace G : Gets p e below _ (s₁.setTop (mkF m 5 #[.val (.ref tt), .val (.ref a)] [(.int 2), (.int 0), (.ref a), (.ref tt)])) := fun t k => G t (X0.arraylength hx (by rw [e0]; exact Ar1.1) (State.isArrayOf_alike hZ.alike Ar1.2.1) (g := o_g G) rfl rfl (hb hby d2_4) t (by rw [len_of S1 N1']; exact k))
  replace G := o_aconst_null (q := 6) G X0.here hx (hb hby d2_5) rfl
  obtain ⟨_, _, ⟨T2, L2, kk2, nn2⟩, -, X2, ⟨Lc2, hQ2, l2, y2, z2⟩, st2⟩ := X0.specialBack hx (y := (⟨o_n1, "<init>", "([CIILjava/lang/Void;)V"⟩ : MethodName)) rfl hown (mvT hZ (o_w hw 12 rfl)) (mvT hZ (o_w hw 13 rfl)) (mvT hZ (o_w hw 15 rfl)) (by decide) (backOf (W := 0) (rm3n2 l Z a0 hw [] tt a ks cw ec0 ec1 h0 n0 Z0 P0 P1 P2 P3 P4 P5 hcw he0 he1) hZ (o_w hw 15 rfl) (o_w hw 7 rfl) (by decide) (by decide)) (g := o_g G) rfl (by rw [hml]; rfl) (Steps.refl _) (a := tt) (argsL := [(.ref a), (.int 0), (.int 2), .null]) (rest := []) (lenOf pd_3 rfl) rfl (by show 2 * 0 + _ ≤ _; exact Nat.le_of_eq rfl) (hb hby d2_6) (fun _ _ => ⟨rfl, e0, (by decide : 0 + 1 ≤ _), (by decide : 0 + 2 ≤ _)⟩)
  dsimp only [Pt.U, Pt.locs, Pt.cells, Pt.slots] at X2 l2 y2 z2 st2 hQ2
  subst l2 y2 z2
  obtain ⟨b_2, kb_2, rfl, N2q, K2q, B2_0, B2_1, B2_2, B2_3⟩ := hQ2
  have ne3 : tt ≠ b_2 := Nat.ne_of_lt (Nat.lt_of_lt_of_le P0.lt B2_2)
  have ne4 : a ≠ b_2 := Nat.ne_of_lt (Nat.lt_of_lt_of_le P4.lt B2_2)
  have ge_b_2 : n0 ≤ b_2 := Nat.le_trans Z0 B2_2
  have sz_b_2 : h0.size ≤ b_2 := Nat.le_trans K0.1 B2_2
  have Z2 : n0 ≤ T2.heap.size := Nat.le_trans Z0 K2q.1
  have K2 : Keep h0 T2.heap [tt] := K0.trans K2q (allS (Or.inl (List.mem_of_getElem? (i := 0) rfl)) all0)
  have N2 := Fr.app N0 N2q
  replace G := o_nxv (q := 9) (st := []) G st2 rfl
  obtain ⟨fs, hr, hrun, hended, hW, hsame⟩ := X2.leave (v := none) (fun _ => rfl)
  refine ⟨_, _, G _ (X2.returnOut hx Bd.returns (hb hby d2_9) hr), hrun, hended, _, _, rfl, ?_, ⟨_, rfl⟩, hW, hsame.mono (by decide) (by decide)⟩
  show Q2n2 Z tt a ks cw ec0 ec1 h0 n0 _ T2.heap _
  exact ⟨b_2, kb_2, rfl, N2, K2, B2_0, B2_1, sz_b_2, B2_3⟩
theorem ef_9c1 (m : MethodId)  : entryFrame m #[(.int 2)] 1 = mkF m 0 #[.val (.int 2)] [] := by first | (simp [entryFrame, mkF, argsToLocals, Value.category]; done) | rfl
def Q9c1 (Z : State)  (h0 : Heap) (n0 : Nat) (v : Option Value) (h : Heap) (L : List Loc) : Prop := v = some (.int 4) ∧ Fr n0 L ∧ h = h0
set_option maxRecDepth 65536 in
set_option maxHeartbeats 40000000 in
theorem rm9c1 (l : Launch) (Z : State) (a0 : Array Value) (hw : ∀ d ∈ tables_1, d.before a0 Z = true) (ws : List Jvm.Cond)  (h0 : Heap) (n0 : Nat) (Z0 : n0 ≤ h0.size)  :
    MetFree l (⟨o_n0, "newBytesLength", "(I)I"⟩ : MethodName) (head1 (Jvm.Cond.code (⟨o_n0, "newBytesLength", "(I)I"⟩ : MethodName) jdk_52_method_3_code 1 (some .int) :: ws) ({ frames := 0, cells := 0, slots := 0, locals := 0 } : Room)) (fun argz U => argz = #[(.int 2)] ∧ Z.Warmed39 U.vm ∧ U.heap = h0) (fun _ _ _ _ _ => True) (fun _ U o U' => ∃ v L, o = .returned v ∧ Q9c1 Z  h0 n0 v U'.heap L ∧ FrameEnd U o U' L ({ frames := 0, cells := 0, slots := 0, locals := 0 } : Room).cells ({ frames := 0, cells := 0, slots := 0, locals := 0 } : Room).slots) := by
  refine MetFree.of_bodySF (plainFor_of_name pn_java_lang_StringUTF16) hisR ?_
  intro p e s m args below meth c s₁ Bd hml0 hP hK
  obtain ⟨rfl, hZ, hh⟩ := hP
  have hx := Bd.exec
  have hby := Bd.bytes
  have hml : c.maxLocals = 1 := hml0
  have hown : s.vm.findClass o_n0 = some m.cls := findClass_of_methodNamed Bd.named
  have hnm := (name_of_methodNamed Bd.named Bd.method).1
  have X0 : Stand p l e ({ frames := 0, cells := 0, slots := 0, locals := 0 } : Room) s m #[(.int 2)] below meth c s₁ [] 0 0 := Stand.of_body Bd
  have e0 : s₁.heap = h0 := by rw [← hh, Bd.state]; rfl
  have N0 := Fr.nil n0
  have G : Gets p e below (s₁.setTop (entryFrame m #[(.int 2)] 1)) (s₁.setTop (mkF m 0 #[.val (.int 2)] [])) := fun t k => castTop (ef_9c1 m ) k
  replace G := o_iloadN (q := 1) G X0.here hx (hb hby d9_0) rfl rfl
  replace G := o_ifYes (q := 12) G X0.here hx (hb hby d9_1) (by decide) (by decide) (by decide)
  replace G := o_iloadN (q := 13) G X0.here hx (hb hby d9_12) rfl rfl
  replace G := o_nxs (q := 15) (st := [(.int 1073741823), (.int 2)]) G (X0.ldcInt hx hown (mvT hZ (o_w hw 44 rfl)) (g := o_g G) rfl (hb hby d9_13)) rfl
  replace G := o_icmpYes (q := 55) G X0.here hx (hb hby d9_15) (by decide) (by decide) (by decide)
  replace G := o_iloadN (q := 56) G X0.here hx (hb hby d9_55) rfl rfl
  replace G := o_iconst (q := 57) G X0.here hx (hb hby d9_56) (v := (1 : Int32)) (by decide) rfl
  replace G := o_ishl (q := 58) G X0.here hx (hb hby d9_57) (by decide : ((2 : Int32) <<< ((1 : Int32) &&& 31)) = (4 : Int32)) rfl
  obtain ⟨fs, hr, hrun, hended, hW, hsame⟩ := X0.leave (v := some (.int 4)) (fun h => by rw [Bd.returns] at h; cases h)
  refine ⟨_, _, G _ (retOut X0 hx Bd.returns rfl (Or.inl ⟨rfl, Or.inl rfl, _, rfl⟩) (hb hby d9_58) hr), hrun, hended, _, _, rfl, ?_, ⟨_, rfl⟩, hW, hsame.mono (by decide) (by decide)⟩
  show Q9c1 Z  h0 n0 _ s₁.heap _
  rw [e0]
  exact ⟨rfl, N0, rfl⟩
theorem ef_8u2 (m : MethodId)  : entryFrame m #[(.int 2)] 1 = mkF m 0 #[.val (.int 2)] [] := by first | (simp [entryFrame, mkF, argsToLocals, Value.category]; done) | rfl
def Q8u2 (Z : State)  (h0 : Heap) (n0 : Nat) (v : Option Value) (h : Heap) (L : List Loc) : Prop := ∃ (b : Addr) (kb : ClassId), v = some (.ref b) ∧ Fr n0 L ∧ Keep h0 h [] ∧ h0.size ≤ b ∧ (Arv Z h b kb .byte (4 : Int32) [(.int 0), (.int 0), (.int 0), (.int 0)] (.int 0))
set_option maxRecDepth 65536 in
set_option maxHeartbeats 40000000 in
theorem rm8u2 (l : Launch) (Z : State) (a0 : Array Value) (hw : ∀ d ∈ tables_1, d.before a0 Z = true) (ws : List Jvm.Cond)  (h0 : Heap) (n0 : Nat) (Z0 : n0 ≤ h0.size)  :
    MetFree l (⟨o_n0, "newBytesFor", "(I)[B"⟩ : MethodName) (head1 (Jvm.Cond.code (⟨o_n0, "newBytesFor", "(I)[B"⟩ : MethodName) jdk_52_method_2_code 1 (some (.array .byte)) :: ws) ({ frames := 1, cells := 1, slots := 4, locals := 12 } : Room)) (fun argz U => argz = #[(.int 2)] ∧ Z.Warmed39 U.vm ∧ U.heap = h0) (fun _ _ _ _ _ => True) (fun _ U o U' => ∃ v L, o = .returned v ∧ Q8u2 Z  h0 n0 v U'.heap L ∧ FrameEnd U o U' L ({ frames := 1, cells := 1, slots := 4, locals := 12 } : Room).cells ({ frames := 1, cells := 1, slots := 4, locals := 12 } : Room).slots) := by
  refine MetFree.of_bodySF (plainFor_of_name pn_java_lang_StringUTF16) hisR ?_
  intro p e s m args below meth c s₁ Bd hml0 hP hK
  obtain ⟨rfl, hZ, hh⟩ := hP
  have hx := Bd.exec
  have hby := Bd.bytes
  have hml : c.maxLocals = 1 := hml0
  have hown : s.vm.findClass o_n0 = some m.cls := findClass_of_methodNamed Bd.named
  have hnm := (name_of_methodNamed Bd.named Bd.method).1
  have X0 : Stand p l e ({ frames := 1, cells := 1, slots := 4, locals := 12 } : Room) s m #[(.int 2)] below meth c s₁ [] 0 0 := Stand.of_body Bd
  have e0 : s₁.heap = h0 := by rw [← hh, Bd.state]; rfl
  have N0 := Fr.nil n0
  have K0 : Keep h0 h0 [] := Keep.refl _ _
  have G : Gets p e below (s₁.setTop (entryFrame m #[(.int 2)] 1)) (s₁.setTop (mkF m 0 #[.val (.int 2)] [])) := fun t k => castTop (ef_8u2 m ) k
  replace G := o_iloadN (q := 1) G X0.here hx (hb hby d8_0) rfl rfl
  obtain ⟨_, _, ⟨T1, L1, kk1, nn1⟩, -, X1, ⟨Lc1, hQ1, l1, y1, z1⟩, st1⟩ := Jvm.LawKit.callS X0 hx (y := (⟨o_n0, "newBytesLength", "(I)I"⟩ : MethodName)) hown (mvT hZ (o_w hw 41 rfl)) (mvT hZ (o_w hw 42 rfl)) (mvT hZ (o_w hw 30 rfl)) (mvT hZ (o_w hw 43 rfl)) (by decide) (backOf (W := 0) (rm9c1 l Z a0 hw []  h0 n0 Z0 ) hZ (o_w hw 43 rfl) (o_w hw 30 rfl) (by decide) (by decide)) (g := o_g G) rfl (by rw [hml]; rfl) (argsL := [(.int 2)]) (rest := []) (lenOf pd_4 rfl) rfl (by show 2 * 0 + _ ≤ _; exact Nat.le_of_eq rfl) (hb hby d8_1) (fun _ _ => ⟨rfl, e0, (by decide : 0 + 0 ≤ _), (by decide : 0 + 0 ≤ _)⟩)
  dsimp only [Pt.U, Pt.locs, Pt.cells, Pt.slots] at X1 l1 y1 z1 st1 hQ1
  subst l1 y1 z1
  obtain ⟨rfl, N1q, e1⟩ := hQ1
  have N1 := Fr.app N0 N1q
  replace G := o_nxs (q := 4) (st := [(.int 4)]) G st1 rfl
  obtain ⟨T2, h2, k2, X2, e2, E2, A2, st2⟩ := newP X1 hx hZ (o_w hw 20 rfl) e1 (g := o_g G) rfl (hb hby d8_4) rfl (by decide) (cap := 4) (by decide) (by decide) (by decide) (by decide)
  obtain ⟨b2, g2⟩ : ∃ z, z = h0.size := ⟨_, rfl⟩
  rw [← g2] at A2 st2
  have ge_b2 : n0 ≤ b2 := Nat.le_trans Z0 (Nat.le_of_eq g2.symm)
  have sz_b2 : h0.size ≤ b2 := Nat.le_trans K0.1 (Nat.le_of_eq g2.symm)
  have Z2 : n0 ≤ h2.size := Nat.le_trans Z0 E2.1
  have K2 : Keep h0 h2 [] := K0.ext E2
  have V2 : Arv Z h2 b2 k2 .byte (4 : Int32) [(.int 0), (.int 0), (.int 0), (.int 0)] (.int 0) := (Arv.new A2 (by decide)).pad (pad_rep [] (.int 0) 4)
  replace G := o_nxs (q := 6) (st := [(.ref b2)]) G st2 rfl
  obtain ⟨fs, hr, hrun, hended, hW, hsame⟩ := X2.leave (v := some (.ref b2)) (fun h => by rw [Bd.returns] at h; cases h)
  refine ⟨_, _, G _ (retOut X2 hx Bd.returns rfl (Or.inr (Or.inr (Or.inr (Or.inr ⟨rfl, rfl, rfl⟩)))) (hb hby d8_6) hr), hrun, hended, _, _, rfl, ?_, ⟨_, rfl⟩, hW, hsame.mono (by decide) (by decide)⟩
  show Q8u2 Z  h0 n0 _ T2.heap _
  rw [e2]
  exact ⟨b2, k2, rfl, N1, K2, sz_b2, V2⟩
theorem ef_10u2p0 (m : MethodId) (x0 : Addr) (x2 : Int32) : entryFrame m #[(.ref x0), (.int 0), (.int x2)] 3 = mkF m 0 #[.val (.ref x0), .val (.int 0), .val (.int x2)] [] := by first | (simp [entryFrame, mkF, argsToLocals, Value.category]; done) | rfl
def Q10u2p0 (Z : State) (d : Addr) (ch : Int32) (kd : ClassId) (h0 : Heap) (n0 : Nat) (v : Option Value) (h : Heap) (L : List Loc) : Prop := v = none ∧ Fr n0 L ∧ Keep h0 h [d] ∧ (Arv Z h d kd .byte (4 : Int32) [(.int (nar .byte ((ch >>> ((0 : Int32) &&& 31)).toInt8.toInt32))), (.int (nar .byte ((ch >>> ((8 : Int32) &&& 31)).toInt8.toInt32))), (.int 0), (.int 0)] (.int 0))
set_option maxRecDepth 65536 in
set_option maxHeartbeats 40000000 in
theorem rm10u2p0 (l : Launch) (Z : State) (a0 : Array Value) (hw : ∀ d ∈ tables_1, d.before a0 Z = true) (ws : List Jvm.Cond) (d : Addr) (ch : Int32) (kd : ClassId) (h0 : Heap) (n0 : Nat) (Z0 : n0 ≤ h0.size) (P0 : Old Z n0 h0) (P1 : Sta Z Z.heap o_n0 "$assertionsDisabled" "Z" (.int 1)) (P2 : Sta Z Z.heap o_n0 "HI_BYTE_SHIFT" "I" (.int 0)) (P3 : Sta Z Z.heap o_n0 "LO_BYTE_SHIFT" "I" (.int 8)) (P4 : Arv Z h0 d kd .byte (4 : Int32) [(.int 0), (.int 0), (.int 0), (.int 0)] (.int 0)) (P5 : n0 ≤ d) :
    MetFree l (⟨o_n0, "putChar", "([BII)V"⟩ : MethodName) (head1 (Jvm.Cond.code (⟨o_n0, "putChar", "([BII)V"⟩ : MethodName) jdk_52_method_4_code 3 none :: ws) ({ frames := 0, cells := 0, slots := 0, locals := 0 } : Room)) (fun argz U => argz = #[(.ref d), (.int 0), (.int ch)] ∧ Z.Warmed39 U.vm ∧ U.heap = h0) (fun _ _ _ _ _ => True) (fun _ U o U' => ∃ v L, o = .returned v ∧ Q10u2p0 Z d ch kd h0 n0 v U'.heap L ∧ FrameEnd U o U' L ({ frames := 0, cells := 0, slots := 0, locals := 0 } : Room).cells ({ frames := 0, cells := 0, slots := 0, locals := 0 } : Room).slots) := by
  refine MetFree.of_bodySF (plainFor_of_name pn_java_lang_StringUTF16) hisR ?_
  intro p e s m args below meth c s₁ Bd hml0 hP hK
  obtain ⟨rfl, hZ, hh⟩ := hP
  have hx := Bd.exec
  have hby := Bd.bytes
  have hml : c.maxLocals = 3 := hml0
  have hown : s.vm.findClass o_n0 = some m.cls := findClass_of_methodNamed Bd.named
  have hnm := (name_of_methodNamed Bd.named Bd.method).1
  have X0 : Stand p l e ({ frames := 0, cells := 0, slots := 0, locals := 0 } : Room) s m #[(.ref d), (.int 0), (.int ch)] below meth c s₁ [] 0 0 := Stand.of_body Bd
  have e0 : s₁.heap = h0 := by rw [← hh, Bd.state]; rfl
  have N0 := Fr.nil n0
  have K0 : Keep h0 h0 [d] := Keep.refl _ _
  have G : Gets p e below (s₁.setTop (entryFrame m #[(.ref d), (.int 0), (.int ch)] 3)) (s₁.setTop (mkF m 0 #[.val (.ref d), .val (.int 0), .val (.int ch)] [])) := fun t k => castTop (ef_10u2p0 m d ch) k
  have F1 : Sta Z h0 o_n0 "$assertionsDisabled" "Z" (.int 1) := P1.ext P0.2
  obtain ⟨T2, X2, e2, st2⟩ := getS2 X0 hx hZ hown (host := "") (Or.inl (o_w hw 48 rfl)) Via.refl e0 F1 (g := o_g G) rfl (hb hby d10_0)
  replace G := o_nxs (q := 3) (st := [(.int 1)]) G st2 rfl
  replace G := o_ifYes (q := 28) G X2.here hx (hb hby d10_3) (by decide) (by decide) (by decide)
  replace G := o_iloadN (q := 29) G X2.here hx (hb hby d10_28) rfl rfl
  replace G := o_iconst (q := 30) G X2.here hx (hb hby d10_29) (v := (1 : Int32)) (by decide) rfl
  replace G := o_ishl (q := 31) G X2.here hx (hb hby d10_30) (by decide : ((0 : Int32) <<< ((1 : Int32) &&& 31)) = (0 : Int32)) rfl
  replace G := o_istoreN (q := 32) (l' := #[.val (.ref d), .val (.int 0), .val (.int ch)]) G X2.here hx (hb hby d10_31) rfl rfl
  replace G := o_aloadN (q := 33) G X2.here hx (hb hby d10_32) rfl rfl rfl
  replace G := o_iloadN (q := 34) G X2.here hx (hb hby d10_33) rfl rfl
  replace G := o_iinc (q := 37) (l' := #[.val (.ref d), .val (.int 1), .val (.int ch)]) (w := (1 : Int32)) G X2.here hx (hb hby d10_34) (by decide) rfl (by decide : ((0 : Int32) + (1 : Int32)) = (1 : Int32)) rfl rfl
  replace G := o_iloadN (q := 38) G X2.here hx (hb hby d10_37) rfl rfl
  have F4 : Sta Z h0 o_n0 "HI_BYTE_SHIFT" "I" (.int 0) := P2.ext P0.2
  obtain ⟨T5, X5, e5, st5⟩ := getS2 X2 hx hZ hown (host := "") (Or.inl (o_w hw 49 rfl)) Via.refl e2 F4 (g := o_g G) rfl (hb hby d10_38)
  replace G := o_nxs (q := 41) (st := [(.int 0), (.int ch), (.int 0), (.ref d)]) G st5 rfl
  replace G := o_ishr (q := 42) G X5.here hx (hb hby d10_41) rfl rfl
  replace G := o_i2b (q := 43) G X5.here hx (hb hby d10_42) rfl rfl
  obtain ⟨c6, Ar6, q6, S6, N6', H6, G6'⟩ := id P4
  have hin6 : ¬ ((0 : Int32) < 0 ∨ c6.slots.size ≤ ((0 : Int32)).toNatClampNeg) := inb_of S6 ⟨by decide, by decide⟩
  obtain ⟨T6, h6, X6, e6, W6, st6⟩ := stB X5 hx hZ e5 Ar6 (j := (0 : Int32)) hin6 (g := o_g G) rfl rfl (hb hby d10_43)
  have N6 := Fr.snoc X6 N0 P5
  have Z6 : n0 ≤ h6.size := Nat.le_trans Z0 (Keep.of_wr W6).1
  have K6 : Keep h0 h6 [d] := K0.wr W6 (Or.inl (List.mem_of_getElem? (i := 0) rfl))
  have V6 : Arv Z h6 d kd .byte (4 : Int32) [(.int (nar .byte ((ch >>> ((0 : Int32) &&& 31)).toInt8.toInt32))), (.int 0), (.int 0), (.int 0)] (.int 0) := Arv.set Ar6 q6 S6 N6' H6 G6' (fits_nar_byte _) W6 0 rfl (Nat.le_of_ble_eq_true rfl)
  replace G := o_nxs (q := 44) (st := []) G st6 rfl
  replace G := o_aloadN (q := 45) G X6.here hx (hb hby d10_44) rfl rfl rfl
  replace G := o_iloadN (q := 46) G X6.here hx (hb hby d10_45) rfl rfl
  replace G := o_iloadN (q := 47) G X6.here hx (hb hby d10_46) rfl rfl
  have F7 := (P0.wr W6 P5)
  have F8 : Sta Z h6 o_n0 "LO_BYTE_SHIFT" "I" (.int 8) := P3.ext F7.2
  obtain ⟨T9, X9, e9, st9⟩ := getS2 X6 hx hZ hown (host := "") (Or.inl (o_w hw 50 rfl)) Via.refl e6 F8 (g := o_g G) rfl (hb hby d10_47)
  replace G := o_nxs (q := 50) (st := [(.int 8), (.int ch), (.int 1), (.ref d)]) G st9 rfl
  replace G := o_ishr (q := 51) G X9.here hx (hb hby d10_50) rfl rfl
  replace G := o_i2b (q := 52) G X9.here hx (hb hby d10_51) rfl rfl
  obtain ⟨c10, Ar10, q10, S10, N10', H10, G10'⟩ := id V6
  have hin10 : ¬ ((1 : Int32) < 0 ∨ c10.slots.size ≤ ((1 : Int32)).toNatClampNeg) := inb_of S10 ⟨by decide, by decide⟩
  obtain ⟨T10, h10, X10, e10, W10, st10⟩ := stB X9 hx hZ e9 Ar10 (j := (1 : Int32)) hin10 (g := o_g G) rfl rfl (hb hby d10_52)
  have N10 := Fr.snoc X10 N6 P5
  have Z10 : n0 ≤ h10.size := Nat.le_trans Z6 (Keep.of_wr W10).1
  have K10 : Keep h0 h10 [d] := K6.wr W10 (Or.inl (List.mem_of_getElem? (i := 0) rfl))
  have V10 : Arv Z h10 d kd .byte (4 : Int32) [(.int (nar .byte ((ch >>> ((0 : Int32) &&& 31)).toInt8.toInt32))), (.int (nar .byte ((ch >>> ((8 : Int32) &&& 31)).toInt8.toInt32))), (.int 0), (.int 0)] (.int 0) := Arv.set Ar10 q10 S10 N10' H10 G10' (fits_nar_byte _) W10 1 rfl (Nat.le_of_ble_eq_true rfl)
  replace G := o_nxs (q := 53) (st := []) G st10 rfl
  obtain ⟨fs, hr, hrun, hended, hW, hsame⟩ := X10.leave (v := none) (fun _ => rfl)
  refine ⟨_, _, G _ (X10.returnOut hx Bd.returns (hb hby d10_53) hr), hrun, hended, _, _, rfl, ?_, ⟨_, rfl⟩, hW, hsame.mono (by decide) (by decide)⟩
  show Q10u2p0 Z d ch kd h0 n0 _ T10.heap _
  rw [e10]
  exact ⟨rfl, N10, K10, V10⟩
theorem ef_10u2p1 (m : MethodId) (x0 : Addr) (x2 : Int32) : entryFrame m #[(.ref x0), (.int 1), (.int x2)] 3 = mkF m 0 #[.val (.ref x0), .val (.int 1), .val (.int x2)] [] := by first | (simp [entryFrame, mkF, argsToLocals, Value.category]; done) | rfl
def Q10u2p1 (Z : State) (d : Addr) (ch : Int32) (kd : ClassId) (y0_ : Int32) (y1_ : Int32) (h0 : Heap) (n0 : Nat) (v : Option Value) (h : Heap) (L : List Loc) : Prop := v = none ∧ Fr n0 L ∧ Keep h0 h [d] ∧ (Arv Z h d kd .byte (4 : Int32) [(.int y0_), (.int y1_), (.int (nar .byte ((ch >>> ((0 : Int32) &&& 31)).toInt8.toInt32))), (.int (nar .byte ((ch >>> ((8 : Int32) &&& 31)).toInt8.toInt32)))] (.int 0))
set_option maxRecDepth 65536 in
set_option maxHeartbeats 40000000 in
theorem rm10u2p1 (l : Launch) (Z : State) (a0 : Array Value) (hw : ∀ d ∈ tables_1, d.before a0 Z = true) (ws : List Jvm.Cond) (d : Addr) (ch : Int32) (kd : ClassId) (y0_ : Int32) (y1_ : Int32) (h0 : Heap) (n0 : Nat) (Z0 : n0 ≤ h0.size) (P0 : Old Z n0 h0) (P1 : Sta Z Z.heap o_n0 "$assertionsDisabled" "Z" (.int 1)) (P2 : Sta Z Z.heap o_n0 "HI_BYTE_SHIFT" "I" (.int 0)) (P3 : Sta Z Z.heap o_n0 "LO_BYTE_SHIFT" "I" (.int 8)) (P4 : Arv Z h0 d kd .byte (4 : Int32) [(.int y0_), (.int y1_), (.int 0), (.int 0)] (.int 0)) (P5 : n0 ≤ d) :
    MetFree l (⟨o_n0, "putChar", "([BII)V"⟩ : MethodName) (head1 (Jvm.Cond.code (⟨o_n0, "putChar", "([BII)V"⟩ : MethodName) jdk_52_method_4_code 3 none :: ws) ({ frames := 0, cells := 0, slots := 0, locals := 0 } : Room)) (fun argz U => argz = #[(.ref d), (.int 1), (.int ch)] ∧ Z.Warmed39 U.vm ∧ U.heap = h0) (fun _ _ _ _ _ => True) (fun _ U o U' => ∃ v L, o = .returned v ∧ Q10u2p1 Z d ch kd y0_ y1_ h0 n0 v U'.heap L ∧ FrameEnd U o U' L ({ frames := 0, cells := 0, slots := 0, locals := 0 } : Room).cells ({ frames := 0, cells := 0, slots := 0, locals := 0 } : Room).slots) := by
  refine MetFree.of_bodySF (plainFor_of_name pn_java_lang_StringUTF16) hisR ?_
  intro p e s m args below meth c s₁ Bd hml0 hP hK
  obtain ⟨rfl, hZ, hh⟩ := hP
  have hx := Bd.exec
  have hby := Bd.bytes
  have hml : c.maxLocals = 3 := hml0
  have hown : s.vm.findClass o_n0 = some m.cls := findClass_of_methodNamed Bd.named
  have hnm := (name_of_methodNamed Bd.named Bd.method).1
  have X0 : Stand p l e ({ frames := 0, cells := 0, slots := 0, locals := 0 } : Room) s m #[(.ref d), (.int 1), (.int ch)] below meth c s₁ [] 0 0 := Stand.of_body Bd
  have e0 : s₁.heap = h0 := by rw [← hh, Bd.state]; rfl
  have N0 := Fr.nil n0
  have K0 : Keep h0 h0 [d] := Keep.refl _ _
  have G : Gets p e below (s₁.setTop (entryFrame m #[(.ref d), (.int 1), (.int ch)] 3)) (s₁.setTop (mkF m 0 #[.val (.ref d), .val (.int 1), .val (.int ch)] [])) := fun t k => castTop (ef_10u2p1 m d ch) k
  have F1 : Sta Z h0 o_n0 "$assertionsDisabled" "Z" (.int 1) := P1.ext P0.2
  obtain ⟨T2, X2, e2, st2⟩ := getS2 X0 hx hZ hown (host := "") (Or.inl (o_w hw 48 rfl)) Via.refl e0 F1 (g := o_g G) rfl (hb hby d10_0)
  replace G := o_nxs (q := 3) (st := [(.int 1)]) G st2 rfl
  replace G := o_ifYes (q := 28) G X2.here hx (hb hby d10_3) (by decide) (by decide) (by decide)
  replace G := o_iloadN (q := 29) G X2.here hx (hb hby d10_28) rfl rfl
  replace G := o_iconst (q := 30) G X2.here hx (hb hby d10_29) (v := (1 : Int32)) (by decide) rfl
  replace G := o_ishl (q := 31) G X2.here hx (hb hby d10_30) (by decide : ((1 : Int32) <<< ((1 : Int32) &&& 31)) = (2 : Int32)) rfl
  replace G := o_istoreN (q := 32) (l' := #[.val (.ref d), .val (.int 2), .val (.int ch)]) G X2.here hx (hb hby d10_31) rfl rfl
  replace G := o_aloadN (q := 33) G X2.here hx (hb hby d10_32) rfl rfl rfl
  replace G := o_iloadN (q := 34) G X2.here hx (hb hby d10_33) rfl rfl
  replace G := o_iinc (q := 37) (l' := #[.val (.ref d), .val (.int 3), .val (.int ch)]) (w := (1 : Int32)) G X2.here hx (hb hby d10_34) (by decide) rfl (by decide : ((2 : Int32) + (1 : Int32)) = (3 : Int32)) rfl rfl
  replace G := o_iloadN (q := 38) G X2.here hx (hb hby d10_37) rfl rfl
  have F4 : Sta Z h0 o_n0 "HI_BYTE_SHIFT" "I" (.int 0) := P2.ext P0.2
  obtain ⟨T5, X5, e5, st5⟩ := getS2 X2 hx hZ hown (host := "") (Or.inl (o_w hw 49 rfl)) Via.refl e2 F4 (g := o_g G) rfl (hb hby d10_38)
  replace G := o_nxs (q := 41) (st := [(.int 0), (.int ch), (.int 2), (.ref d)]) G st5 rfl
  replace G := o_ishr (q := 42) G X5.here hx (hb hby d10_41) rfl rfl
  replace G := o_i2b (q := 43) G X5.here hx (hb hby d10_42) rfl rfl
  obtain ⟨c6, Ar6, q6, S6, N6', H6, G6'⟩ := id P4
  have hin6 : ¬ ((2 : Int32) < 0 ∨ c6.slots.size ≤ ((2 : Int32)).toNatClampNeg) := inb_of S6 ⟨by decide, by decide⟩
  obtain ⟨T6, h6, X6, e6, W6, st6⟩ := stB X5 hx hZ e5 Ar6 (j := (2 : Int32)) hin6 (g := o_g G) rfl rfl (hb hby d10_43)
  have N6 := Fr.snoc X6 N0 P5
  have Z6 : n0 ≤ h6.size := Nat.le_trans Z0 (Keep.of_wr W6).1
  have K6 : Keep h0 h6 [d] := K0.wr W6 (Or.inl (List.mem_of_getElem? (i := 0) rfl))
  have V6 : Arv Z h6 d kd .byte (4 : Int32) [(.int y0_), (.int y1_), (.int (nar .byte ((ch >>> ((0 : Int32) &&& 31)).toInt8.toInt32))), (.int 0)] (.int 0) := Arv.set Ar6 q6 S6 N6' H6 G6' (fits_nar_byte _) W6 2 rfl (Nat.le_of_ble_eq_true rfl)
  replace G := o_nxs (q := 44) (st := []) G st6 rfl
  replace G := o_aloadN (q := 45) G X6.here hx (hb hby d10_44) rfl rfl rfl
  replace G := o_iloadN (q := 46) G X6.here hx (hb hby d10_45) rfl rfl
  replace G := o_iloadN (q := 47) G X6.here hx (hb hby d10_46) rfl rfl
  have F7 := (P0.wr W6 P5)
  have F8 : Sta Z h6 o_n0 "LO_BYTE_SHIFT" "I" (.int 8) := P3.ext F7.2
  obtain ⟨T9, X9, e9, st9⟩ := getS2 X6 hx hZ hown (host := "") (Or.inl (o_w hw 50 rfl)) Via.refl e6 F8 (g := o_g G) rfl (hb hby d10_47)
  replace G := o_nxs (q := 50) (st := [(.int 8), (.int ch), (.int 3), (.ref d)]) G st9 rfl
  replace G := o_ishr (q := 51) G X9.here hx (hb hby d10_50) rfl rfl
  replace G := o_i2b (q := 52) G X9.here hx (hb hby d10_51) rfl rfl
  obtain ⟨c10, Ar10, q10, S10, N10', H10, G10'⟩ := id V6
  have hin10 : ¬ ((3 : Int32) < 0 ∨ c10.slots.size ≤ ((3 : Int32)).toNatClampNeg) := inb_of S10 ⟨by decide, by decide⟩
  obtain ⟨T10, h10, X10, e10, W10, st10⟩ := stB X9 hx hZ e9 Ar10 (j := (3 : Int32)) hin10 (g := o_g G) rfl rfl (hb hby d10_52)
  have N10 := Fr.snoc X10 N6 P5
  have Z10 : n0 ≤ h10.size := Nat.le_trans Z6 (Keep.of_wr W10).1
  have K10 : Keep h0 h10 [d] := K6.wr W10 (Or.inl (List.mem_of_getElem? (i := 0) rfl))
  have V10 : Arv Z h10 d kd .byte (4 : Int32) [(.int y0_), (.int y1_), (.int (nar .byte ((ch >>> ((0 : Int32) &&& 31)).toInt8.toInt32))), (.int (nar .byte ((ch >>> ((8 : Int32) &&& 31)).toInt8.toInt32)))] (.int 0) := Arv.set Ar10 q10 S10 N10' H10 G10' (fits_nar_byte _) W10 3 rfl (Nat.le_of_ble_eq_true rfl)
  replace G := o_nxs (q := 53) (st := []) G st10 rfl
  obtain ⟨fs, hr, hrun, hended, hW, hsame⟩ := X10.leave (v := none) (fun _ => rfl)
  refine ⟨_, _, G _ (X10.returnOut hx Bd.returns (hb hby d10_53) hr), hrun, hended, _, _, rfl, ?_, ⟨_, rfl⟩, hW, hsame.mono (by decide) (by decide)⟩
  show Q10u2p1 Z d ch kd y0_ y1_ h0 n0 _ T10.heap _
  rw [e10]
  exact ⟨rfl, N10, K10, V10⟩
theorem ef_7u2 (m : MethodId) (x0 : Addr) : entryFrame m #[(.ref x0), (.int 0), (.int 2)] 5 = mkF m 0 #[.val (.ref x0), .val (.int 0), .val (.int 2), .unset, .unset] [] := by first | (simp [entryFrame, mkF, argsToLocals, Value.category]; done) | rfl
def Q7u2 (Z : State) (a : Addr) (ks : ClassId) (ec0 : Int32) (ec1 : Int32) (h0 : Heap) (n0 : Nat) (v : Option Value) (h : Heap) (L : List Loc) : Prop := ∃ (b : Addr) (kb : ClassId), v = some (.ref b) ∧ Fr n0 L ∧ Keep h0 h [] ∧ h0.size ≤ b ∧ (Arv Z h b kb .byte (4 : Int32) [(.int (nar .byte ((ec0 >>> ((0 : Int32) &&& 31)).toInt8.toInt32))), (.int (nar .byte ((ec0 >>> ((8 : Int32) &&& 31)).toInt8.toInt32))), (.int (nar .byte ((ec1 >>> ((0 : Int32) &&& 31)).toInt8.toInt32))), (.int (nar .byte ((ec1 >>> ((8 : Int32) &&& 31)).toInt8.toInt32)))] (.int 0))
set_option maxRecDepth 65536 in
set_option maxHeartbeats 40000000 in
theorem rm7u2 (l : Launch) (Z : State) (a0 : Array Value) (hw : ∀ d ∈ tables_1, d.before a0 Z = true) (ws : List Jvm.Cond) (a : Addr) (ks : ClassId) (ec0 : Int32) (ec1 : Int32) (h0 : Heap) (n0 : Nat) (Z0 : n0 ≤ h0.size) (P0 : Old Z n0 h0) (P1 : Sta Z Z.heap o_n0 "$assertionsDisabled" "Z" (.int 1)) (P2 : Sta Z Z.heap o_n0 "HI_BYTE_SHIFT" "I" (.int 0)) (P3 : Sta Z Z.heap o_n0 "LO_BYTE_SHIFT" "I" (.int 8)) (P4 : Arv Z h0 a ks .char (2 : Int32) [(.int ec0), (.int ec1)] (.int 0)) :
    MetFree l (⟨o_n0, "toBytes", "([CII)[B"⟩ : MethodName) (head1 (Jvm.Cond.code (⟨o_n0, "toBytes", "([CII)[B"⟩ : MethodName) jdk_52_method_14_code 5 (some (.array .byte)) :: ws) ({ frames := 2, cells := 1, slots := 4, locals := 24 } : Room)) (fun argz U => argz = #[(.ref a), (.int 0), (.int 2)] ∧ Z.Warmed39 U.vm ∧ U.heap = h0) (fun _ _ _ _ _ => True) (fun _ U o U' => ∃ v L, o = .returned v ∧ Q7u2 Z a ks ec0 ec1 h0 n0 v U'.heap L ∧ FrameEnd U o U' L ({ frames := 2, cells := 1, slots := 4, locals := 24 } : Room).cells ({ frames := 2, cells := 1, slots := 4, locals := 24 } : Room).slots) := by
  refine MetFree.of_bodySF (plainFor_of_name pn_java_lang_StringUTF16) hisR ?_
  intro p e s m args below meth c s₁ Bd hml0 hP hK
  obtain ⟨rfl, hZ, hh⟩ := hP
  have hx := Bd.exec
  have hby := Bd.bytes
  have hml : c.maxLocals = 5 := hml0
  have hown : s.vm.findClass o_n0 = some m.cls := findClass_of_methodNamed Bd.named
  have hnm := (name_of_methodNamed Bd.named Bd.method).1
  have X0 : Stand p l e ({ frames := 2, cells := 1, slots := 4, locals := 24 } : Room) s m #[(.ref a), (.int 0), (.int 2)] below meth c s₁ [] 0 0 := Stand.of_body Bd
  have e0 : s₁.heap = h0 := by rw [← hh, Bd.state]; rfl
  have N0 := Fr.nil n0
  have K0 : Keep h0 h0 [] := Keep.refl _ _
  have G : Gets p e below (s₁.setTop (entryFrame m #[(.ref a), (.int 0), (.int 2)] 5)) (s₁.setTop (mkF m 0 #[.val (.ref a), .val (.int 0), .val (.int 2), .unset, .unset] [])) := fun t k => castTop (ef_7u2 m a) k
  replace G := o_iloadN (q := 1) G X0.here hx (hb hby d7_0) rfl rfl
  obtain ⟨_, _, ⟨T1, L1, kk1, nn1⟩, -, X1, ⟨Lc1, hQ1, l1, y1, z1⟩, st1⟩ := Jvm.LawKit.callS X0 hx (y := (⟨o_n0, "newBytesFor", "(I)[B"⟩ : MethodName)) hown (mvT hZ (o_w hw 38 rfl)) (mvT hZ (o_w hw 39 rfl)) (mvT hZ (o_w hw 30 rfl)) (mvT hZ (o_w hw 40 rfl)) (by decide) (backOf (W := 0) (rm8u2 l Z a0 hw []  h0 n0 Z0 ) hZ (o_w hw 40 rfl) (o_w hw 30 rfl) (by decide) (by decide)) (g := o_g G) rfl (by rw [hml]; rfl) (argsL := [(.int 2)]) (rest := []) (lenOf pd_5 rfl) rfl (by show 2 * 0 + _ ≤ _; exact Nat.le_of_eq rfl) (hb hby d7_1) (fun _ _ => ⟨rfl, e0, (by decide : 0 + 1 ≤ _), (by decide : 0 + 4 ≤ _)⟩)
  dsimp only [Pt.U, Pt.locs, Pt.cells, Pt.slots] at X1 l1 y1 z1 st1 hQ1
  subst l1 y1 z1
  obtain ⟨b_1, kb_1, rfl, N1q, K1q, B1_0, B1_1⟩ := hQ1
  have ne2 : a ≠ b_1 := Nat.ne_of_lt (Nat.lt_of_lt_of_le P4.lt B1_0)
  have ge_b_1 : n0 ≤ b_1 := Nat.le_trans Z0 B1_0
  have sz_b_1 : h0.size ≤ b_1 := Nat.le_trans K0.1 B1_0
  have Z1 : n0 ≤ T1.heap.size := Nat.le_trans Z0 K1q.1
  have K1 : Keep h0 T1.heap [] := K0.trans K1q all0
  have N1 := Fr.app N0 N1q
  replace G := o_nxs (q := 4) (st := [(.ref b_1)]) G st1 rfl
  replace G := o_astoreN (q := 5) (l' := #[.val (.ref a), .val (.int 0), .val (.int 2), .val (.ref b_1), .unset]) G X1.here hx (hb hby d7_4) rfl rfl rfl
  replace G := o_iconst (q := 6) G X1.here hx (hb hby d7_5) (v := (0 : Int32)) (by decide) rfl
  replace G := o_istore (q := 8) (l' := #[.val (.ref a), .val (.int 0), .val (.int 2), .val (.ref b_1), .val (.int 0)]) G X1.here hx (hb hby d7_6) rfl rfl
  replace G := o_iload (q := 10) G X1.here hx (hb hby d7_8) rfl rfl
  replace G := o_iloadN (q := 11) G X1.here hx (hb hby d7_10) rfl rfl
  replace G := o_icmpNo (q := 14) G X1.here hx (hb hby d7_11) (by decide) rfl
  replace G := o_aloadN (q := 15) G X1.here hx (hb hby d7_14) rfl rfl rfl
  replace G := o_iload (q := 17) G X1.here hx (hb hby d7_15) rfl rfl
  replace G := o_aloadN (q := 18) G X1.here hx (hb hby d7_17) rfl rfl rfl
  replace G := o_iloadN (q := 19) G X1.here hx (hb hby d7_18) rfl rfl
  have F4 := (P4.keep K1q nin0)
  obtain ⟨c5, Ar5, -, S5, -, H5, -⟩ := id F4
  have hin5 : ¬ ((0 : Int32) < 0 ∨ c5.slots.size ≤ ((0 : Int32)).toNatClampNeg) := inb_of S5 ⟨by decide, by decide⟩
  replace G := o_nxs (q := 20) (st := [(.int ec0), (.int 0), (.ref b_1)]) G (X1.caload hx (j := (0 : Int32)) (v := (.int ec0)) (by exact Ar5.1) (State.isArrayOf_alike hZ.alike Ar5.2.1) Ar5.2.2 hin5 (Has.at H5 hin5 rfl) (g := o_g G) rfl rfl (hb hby d7_19)) rfl
  have F7 := (P0.keep K1q all0)
  obtain ⟨_, _, ⟨T6, L6, kk6, nn6⟩, -, X6, ⟨Lc6, hQ6, l6, y6, z6⟩, st6⟩ := Jvm.LawKit.callS X1 hx (y := (⟨o_n0, "putChar", "([BII)V"⟩ : MethodName)) hown (mvT hZ (o_w hw 45 rfl)) (mvT hZ (o_w hw 46 rfl)) (mvT hZ (o_w hw 30 rfl)) (mvT hZ (o_w hw 47 rfl)) (by decide) (backOf (W := 0) (rm10u2p0 l Z a0 hw [] b_1 ec0 kb_1 T1.heap n0 Z1 F7 P1 P2 P3 B1_1 ge_b_1) hZ (o_w hw 47 rfl) (o_w hw 30 rfl) (by decide) (by decide)) (g := o_g G) rfl (by rw [hml]; rfl) (argsL := [(.ref b_1), (.int 0), (.int ec0)]) (rest := []) (lenOf pd_6 rfl) rfl (by show 2 * 0 + _ ≤ _; exact Nat.le_of_eq rfl) (hb hby d7_20) (fun _ _ => ⟨rfl, rfl, (by decide : 1 + 0 ≤ _), (by decide : 4 + 0 ≤ _)⟩)
  dsimp only [Pt.U, Pt.locs, Pt.cells, Pt.slots] at X6 l6 y6 z6 st6 hQ6
  subst l6 y6 z6
  obtain ⟨rfl, N6q, K6q, B6_0⟩ := hQ6
  have Z6 : n0 ≤ T6.heap.size := Nat.le_trans Z1 K6q.1
  have K6 : Keep h0 T6.heap [] := K1.trans K6q (allS (Or.inr sz_b_1) all0)
  have N6 := Fr.app N1 N6q
  replace G := o_nxs (q := 23) (st := []) G st6 rfl
  replace G := o_iinc (q := 26) (l' := #[.val (.ref a), .val (.int 1), .val (.int 2), .val (.ref b_1), .val (.int 0)]) (w := (1 : Int32)) G X6.here hx (hb hby d7_23) (by decide) rfl (by decide : ((0 : Int32) + (1 : Int32)) = (1 : Int32)) rfl rfl
  replace G := o_iinc (q := 29) (l' := #[.val (.ref a), .val (.int 1), .val (.int 2), .val (.ref b_1), .val (.int 1)]) (w := (1 : Int32)) G X6.here hx (hb hby d7_26) (by decide) rfl (by decide : ((0 : Int32) + (1 : Int32)) = (1 : Int32)) rfl rfl
  replace G := o_goto (q := 8) G X6.here hx (hb hby d7_29) (by decide) (by decide)
  replace G := o_iload (q := 10) G X6.here hx (hb hby d7_8) rfl rfl
  replace G := o_iloadN (q := 11) G X6.here hx (hb hby d7_10) rfl rfl
  replace G := o_icmpNo (q := 14) G X6.here hx (hb hby d7_11) (by decide) rfl
  replace G := o_aloadN (q := 15) G X6.here hx (hb hby d7_14) rfl rfl rfl
  replace G := o_iload (q := 17) G X6.here hx (hb hby d7_15) rfl rfl
  replace G := o_aloadN (q := 18) G X6.here hx (hb hby d7_17) rfl rfl rfl
  replace G := o_iloadN (q := 19) G X6.here hx (hb hby d7_18) rfl rfl
  have F9 := (F4.keep K6q (ninS ne2 nin0))
  obtain ⟨c10, Ar10, -, S10, -, H10, -⟩ := id F9
  have hin10 : ¬ ((1 : Int32) < 0 ∨ c10.slots.size ≤ ((1 : Int32)).toNatClampNeg) := inb_of S10 ⟨by decide, by decide⟩
  replace G := o_nxs (q := 20) (st := [(.int ec1), (.int 1), (.ref b_1)]) G (X6.caload hx (j := (1 : Int32)) (v := (.int ec1)) (by exact Ar10.1) (State.isArrayOf_alike hZ.alike Ar10.2.1) Ar10.2.2 hin10 (Has.at H10 hin10 rfl) (g := o_g G) rfl rfl (hb hby d7_19)) rfl
  have F12 := (F7.keep K6q (allS ge_b_1 all0))
  obtain ⟨_, _, ⟨T11, L11, kk11, nn11⟩, -, X11, ⟨Lc11, hQ11, l11, y11, z11⟩, st11⟩ := Jvm.LawKit.callS X6 hx (y := (⟨o_n0, "putChar", "([BII)V"⟩ : MethodName)) hown (mvT hZ (o_w hw 45 rfl)) (mvT hZ (o_w hw 46 rfl)) (mvT hZ (o_w hw 30 rfl)) (mvT hZ (o_w hw 47 rfl)) (by decide) (backOf (W := 0) (rm10u2p1 l Z a0 hw [] b_1 ec1 kb_1 (nar .byte ((ec0 >>> ((0 : Int32) &&& 31)).toInt8.toInt32)) (nar .byte ((ec0 >>> ((8 : Int32) &&& 31)).toInt8.toInt32)) T6.heap n0 Z6 F12 P1 P2 P3 B6_0 ge_b_1) hZ (o_w hw 47 rfl) (o_w hw 30 rfl) (by decide) (by decide)) (g := o_g G) rfl (by rw [hml]; rfl) (argsL := [(.ref b_1), (.int 1), (.int ec1)]) (rest := []) (lenOf pd_6 rfl) rfl (by show 2 * 0 + _ ≤ _; exact Nat.le_of_eq rfl) (hb hby d7_20) (fun _ _ => ⟨rfl, rfl, (by decide : 1 + 0 ≤ _), (by decide : 4 + 0 ≤ _)⟩)
  dsimp only [Pt.U, Pt.locs, Pt.cells, Pt.slots] at X11 l11 y11 z11 st11 hQ11
  subst l11 y11 z11
  obtain ⟨rfl, N11q, K11q, B11_0⟩ := hQ11
  have Z11 : n0 ≤ T11.heap.size := Nat.le_trans Z6 K11q.1
  have K11 : Keep h0 T11.heap [] := K6.trans K11q (allS (Or.inr sz_b_1) all0)
  have N11 := Fr.app N6 N11q
  replace G := o_nxs (q := 23) (st := []) G st11 rfl
  replace G := o_iinc (q := 26) (l' := #[.val (.ref a), .val (.int 2), .val (.int 2), .val (.ref b_1), .val (.int 1)]) (w := (1 : Int32)) G X11.here hx (hb hby d7_23) (by decide) rfl (by decide : ((1 : Int32) + (1 : Int32)) = (2 : Int32)) rfl rfl
  replace G := o_iinc (q := 29) (l' := #[.val (.ref a), .val (.int 2), .val (.int 2), .val (.ref b_1), .val (.int 2)]) (w := (1 : Int32)) G X11.here hx (hb hby d7_26) (by decide) rfl (by decide : ((1 : Int32) + (1 : Int32)) = (2 : Int32)) rfl rfl
  replace G := o_goto (q := 8) G X11.here hx (hb hby d7_29) (by decide) (by decide)
  replace G := o_iload (q := 10) G X11.here hx (hb hby d7_8) rfl rfl
  replace G := o_iloadN (q := 11) G X11.here hx (hb hby d7_10) rfl rfl
  replace G := o_icmpYes (q := 32) G X11.here hx (hb hby d7_11) (by decide) (by decide) (by decide)
  replace G := o_aloadN (q := 33) G X11.here hx (hb hby d7_32) rfl rfl rfl
  obtain ⟨fs, hr, hrun, hended, hW, hsame⟩ := X11.leave (v := some (.ref b_1)) (fun h => by rw [Bd.returns] at h; cases h)
  refine ⟨_, _, G _ (retOut X11 hx Bd.returns rfl (Or.inr (Or.inr (Or.inr (Or.inr ⟨rfl, rfl, rfl⟩)))) (hb hby d7_33) hr), hrun, hended, _, _, rfl, ?_, ⟨_, rfl⟩, hW, hsame.mono (by decide) (by decide)⟩
  show Q7u2 Z a ks ec0 ec1 h0 n0 _ T11.heap _
  exact ⟨b_1, kb_1, rfl, N11, K11, sz_b_1, B11_0⟩
theorem ef_12u2 (m : MethodId) (x0 : Addr) : entryFrame m #[(.ref x0), (.int 2)] 2 = mkF m 0 #[.val (.ref x0), .val (.int 2)] [] := by first | (simp [entryFrame, mkF, argsToLocals, Value.category]; done) | rfl
def Q12u2 (Z : State) (d : Addr) (kd : ClassId) (vs : List Value) (h0 : Heap) (n0 : Nat) (v : Option Value) (h : Heap) (L : List Loc) : Prop := v = some (.int 1) ∧ Fr n0 L ∧ h = h0
set_option maxRecDepth 65536 in
set_option maxHeartbeats 40000000 in
theorem rm12u2 (l : Launch) (Z : State) (a0 : Array Value) (hw : ∀ d ∈ tables_1, d.before a0 Z = true) (ws : List Jvm.Cond) (d : Addr) (kd : ClassId) (vs : List Value) (h0 : Heap) (n0 : Nat) (Z0 : n0 ≤ h0.size) (P0 : Arv Z h0 d kd .byte (4 : Int32) vs (.int 0)) :
    MetFree l (⟨o_n0, "coderFromArrayLen", "([BI)B"⟩ : MethodName) (head1 (Jvm.Cond.code (⟨o_n0, "coderFromArrayLen", "([BI)B"⟩ : MethodName) jdk_52_method_15_code 2 (some .byte) :: ws) ({ frames := 0, cells := 0, slots := 0, locals := 0 } : Room)) (fun argz U => argz = #[(.ref d), (.int 2)] ∧ Z.Warmed39 U.vm ∧ U.heap = h0) (fun _ _ _ _ _ => True) (fun _ U o U' => ∃ v L, o = .returned v ∧ Q12u2 Z d kd vs h0 n0 v U'.heap L ∧ FrameEnd U o U' L ({ frames := 0, cells := 0, slots := 0, locals := 0 } : Room).cells ({ frames := 0, cells := 0, slots := 0, locals := 0 } : Room).slots) := by
  refine MetFree.of_bodySF (plainFor_of_name pn_java_lang_StringUTF16) hisR ?_
  intro p e s m args below meth c s₁ Bd hml0 hP hK
  obtain ⟨rfl, hZ, hh⟩ := hP
  have hx := Bd.exec
  have hby := Bd.bytes
  have hml : c.maxLocals = 2 := hml0
  have hown : s.vm.findClass o_n0 = some m.cls := findClass_of_methodNamed Bd.named
  have hnm := (name_of_methodNamed Bd.named Bd.method).1
  have X0 : Stand p l e ({ frames := 0, cells := 0, slots := 0, locals := 0 } : Room) s m #[(.ref d), (.int 2)] below meth c s₁ [] 0 0 := Stand.of_body Bd
  have e0 : s₁.heap = h0 := by rw [← hh, Bd.state]; rfl
  have N0 := Fr.nil n0
  have G : Gets p e below (s₁.setTop (entryFrame m #[(.ref d), (.int 2)] 2)) (s₁.setTop (mkF m 0 #[.val (.ref d), .val (.int 2)] [])) := fun t k => castTop (ef_12u2 m d) k
  replace G := o_iloadN (q := 1) G X0.here hx (hb hby d12_0) rfl rfl
  replace G := o_aloadN (q := 2) G X0.here hx (hb hby d12_1) rfl rfl rfl
  obtain ⟨c1, Ar1, -, S1, N1', -, -⟩ := id P0
  replace G : Gets p e below _ (s₁.setTop (mkF m 3 #[.val (.ref d), .val (.int 2)] [(.int 4), (.int 2)])) := fun t k => G t (X0.arraylength hx (by rw [e0]; exact Ar1.1) (State.isArrayOf_alike hZ.alike Ar1.2.1) (g := o_g G) rfl rfl (hb hby d12_2) t (by rw [len_of S1 N1']; exact k))
  replace G := o_isub (q := 4) G X0.here hx (hb hby d12_3) (by decide : ((2 : Int32) - (4 : Int32)) = (-2 : Int32)) rfl
  replace G := o_bipush (q := 6) G X0.here hx (hb hby d12_4) (v := (31 : Int32)) (by decide) rfl
  replace G := o_iushr (q := 7) G X0.here hx (hb hby d12_6) (by decide : (((-2 : Int32).toUInt32 >>> ((31 : Int32) &&& 31).toUInt32).toInt32) = (1 : Int32)) rfl
  replace G := o_i2b (q := 8) G X0.here hx (hb hby d12_7) (by decide : ((1 : Int32).toInt8.toInt32) = (1 : Int32)) rfl
  obtain ⟨fs, hr, hrun, hended, hW, hsame⟩ := X0.leave (v := some (.int 1)) (fun h => by rw [Bd.returns] at h; cases h)
  refine ⟨_, _, G _ (retOut X0 hx Bd.returns rfl (Or.inl ⟨rfl, Or.inr (Or.inr (Or.inl rfl)), _, rfl⟩) (hb hby d12_8) hr), hrun, hended, _, _, rfl, ?_, ⟨_, rfl⟩, hW, hsame.mono (by decide) (by decide)⟩
  show Q12u2 Z d kd vs h0 n0 _ s₁.heap _
  rw [e0]
  exact ⟨rfl, N0, rfl⟩
theorem ef_6u2j0 (m : MethodId) (x0 : Addr) (x2 : Addr) : entryFrame m #[(.ref x0), (.int 0), (.ref x2), (.int 0), (.int 2)] 7 = mkF m 0 #[.val (.ref x0), .val (.int 0), .val (.ref x2), .val (.int 0), .val (.int 2), .unset, .unset] [] := by first | (simp [entryFrame, mkF, argsToLocals, Value.category]; done) | rfl
def Q6u2j0 (Z : State) (a : Addr) (d : Addr) (ks : ClassId) (kd : ClassId) (ec0 : Int32) (ec1 : Int32) (h0 : Heap) (n0 : Nat) (v : Option Value) (h : Heap) (L : List Loc) : Prop := v = some (.int 0) ∧ Fr n0 L ∧ Keep h0 h [d] ∧ (Arv Z h d kd .byte (2 : Int32) [(.int 0), (.int 0)] (.int 0))
set_option maxRecDepth 65536 in
set_option maxHeartbeats 40000000 in
theorem rm6u2j0 (l : Launch) (Z : State) (a0 : Array Value) (hw : ∀ d ∈ tables_1, d.before a0 Z = true) (ws : List Jvm.Cond) (a : Addr) (d : Addr) (ks : ClassId) (kd : ClassId) (ec0 : Int32) (ec1 : Int32) (h0 : Heap) (n0 : Nat) (Z0 : n0 ≤ h0.size) (P0 : Arv Z h0 a ks .char (2 : Int32) [(.int ec0), (.int ec1)] (.int 0)) (P1 : Arv Z h0 d kd .byte (2 : Int32) [(.int 0), (.int 0)] (.int 0)) (P2 : n0 ≤ d) (P3 : a ≠ d) (hg : (255 : Int32) < ec0) :
    MetFree l (⟨o_n0, "compress", "([CI[BII)I"⟩ : MethodName) (head1 (Jvm.Cond.code (⟨o_n0, "compress", "([CI[BII)I"⟩ : MethodName) jdk_52_method_21_code 7 (some .int) :: ws) ({ frames := 0, cells := 0, slots := 0, locals := 0 } : Room)) (fun argz U => argz = #[(.ref a), (.int 0), (.ref d), (.int 0), (.int 2)] ∧ Z.Warmed39 U.vm ∧ U.heap = h0) (fun _ _ _ _ _ => True) (fun _ U o U' => ∃ v L, o = .returned v ∧ Q6u2j0 Z a d ks kd ec0 ec1 h0 n0 v U'.heap L ∧ FrameEnd U o U' L ({ frames := 0, cells := 0, slots := 0, locals := 0 } : Room).cells ({ frames := 0, cells := 0, slots := 0, locals := 0 } : Room).slots) := by
  refine MetFree.of_bodySF (plainFor_of_name pn_java_lang_StringUTF16) hisR ?_
  intro p e s m args below meth c s₁ Bd hml0 hP hK
  obtain ⟨rfl, hZ, hh⟩ := hP
  have hx := Bd.exec
  have hby := Bd.bytes
  have hml : c.maxLocals = 7 := hml0
  have hown : s.vm.findClass o_n0 = some m.cls := findClass_of_methodNamed Bd.named
  have hnm := (name_of_methodNamed Bd.named Bd.method).1
  have X0 : Stand p l e ({ frames := 0, cells := 0, slots := 0, locals := 0 } : Room) s m #[(.ref a), (.int 0), (.ref d), (.int 0), (.int 2)] below meth c s₁ [] 0 0 := Stand.of_body Bd
  have e0 : s₁.heap = h0 := by rw [← hh, Bd.state]; rfl
  have N0 := Fr.nil n0
  have K0 : Keep h0 h0 [d] := Keep.refl _ _
  have G : Gets p e below (s₁.setTop (entryFrame m #[(.ref a), (.int 0), (.ref d), (.int 0), (.int 2)] 7)) (s₁.setTop (mkF m 0 #[.val (.ref a), .val (.int 0), .val (.ref d), .val (.int 0), .val (.int 2), .unset, .unset] [])) := fun t k => castTop (ef_6u2j0 m a d) k
  replace G := o_iconst (q := 1) G X0.here hx (hb hby d6_0) (v := (0 : Int32)) (by decide) rfl
  replace G := o_istore (q := 3) (l' := #[.val (.ref a), .val (.int 0), .val (.ref d), .val (.int 0), .val (.int 2), .val (.int 0), .unset]) G X0.here hx (hb hby d6_1) rfl rfl
  replace G := o_iload (q := 5) G X0.here hx (hb hby d6_3) rfl rfl
  replace G := o_iload (q := 7) G X0.here hx (hb hby d6_5) rfl rfl
  replace G := o_icmpNo (q := 10) G X0.here hx (hb hby d6_7) (by decide) rfl
  replace G := o_aloadN (q := 11) G X0.here hx (hb hby d6_10) rfl rfl rfl
  replace G := o_iloadN (q := 12) G X0.here hx (hb hby d6_11) rfl rfl
  obtain ⟨c2, Ar2, -, S2, -, H2, -⟩ := id P0
  have hin2 : ¬ ((0 : Int32) < 0 ∨ c2.slots.size ≤ ((0 : Int32)).toNatClampNeg) := inb_of S2 ⟨by decide, by decide⟩
  replace G := o_nxs (q := 13) (st := [(.int ec0)]) G (X0.caload hx (j := (0 : Int32)) (v := (.int ec0)) (by rw [e0]; exact Ar2.1) (State.isArrayOf_alike hZ.alike Ar2.2.1) Ar2.2.2 hin2 (Has.at H2 hin2 rfl) (g := o_g G) rfl rfl (hb hby d6_12)) rfl
  replace G := o_istore (q := 15) (l' := #[.val (.ref a), .val (.int 0), .val (.ref d), .val (.int 0), .val (.int 2), .val (.int 0), .val (.int ec0)]) G X0.here hx (hb hby d6_13) rfl rfl
  replace G := o_iload (q := 17) G X0.here hx (hb hby d6_15) rfl rfl
  replace G := o_sipush (q := 20) G X0.here hx (hb hby d6_17) (v := (255 : Int32)) (by decide) rfl
  have hc20_3 : (255 : Int32) < ec0 := hg
  replace G := o_icmpNo (q := 23) G X0.here hx (hb hby d6_20) (tlt hc20_3).2.2.2 rfl
  replace G := o_iload (q := 25) G X0.here hx (hb hby d6_23) rfl rfl
  obtain ⟨fs, hr, hrun, hended, hW, hsame⟩ := X0.leave (v := some (.int 0)) (fun h => by rw [Bd.returns] at h; cases h)
  refine ⟨_, _, G _ (retOut X0 hx Bd.returns rfl (Or.inl ⟨rfl, Or.inl rfl, _, rfl⟩) (hb hby d6_25) hr), hrun, hended, _, _, rfl, ?_, ⟨_, rfl⟩, hW, hsame.mono (by decide) (by decide)⟩
  show Q6u2j0 Z a d ks kd ec0 ec1 h0 n0 _ s₁.heap _
  rw [e0]
  exact ⟨rfl, N0, K0, P1⟩
theorem ef_6u2j1 (m : MethodId) (x0 : Addr) (x2 : Addr) : entryFrame m #[(.ref x0), (.int 0), (.ref x2), (.int 0), (.int 2)] 7 = mkF m 0 #[.val (.ref x0), .val (.int 0), .val (.ref x2), .val (.int 0), .val (.int 2), .unset, .unset] [] := by first | (simp [entryFrame, mkF, argsToLocals, Value.category]; done) | rfl
def Q6u2j1 (Z : State) (a : Addr) (d : Addr) (ks : ClassId) (kd : ClassId) (ec0 : Int32) (ec1 : Int32) (h0 : Heap) (n0 : Nat) (v : Option Value) (h : Heap) (L : List Loc) : Prop := v = some (.int 1) ∧ Fr n0 L ∧ Keep h0 h [d] ∧ (Arv Z h d kd .byte (2 : Int32) [(.int (nar .byte (ec0.toInt8.toInt32))), (.int 0)] (.int 0))
set_option maxRecDepth 65536 in
set_option maxHeartbeats 40000000 in
theorem rm6u2j1 (l : Launch) (Z : State) (a0 : Array Value) (hw : ∀ d ∈ tables_1, d.before a0 Z = true) (ws : List Jvm.Cond) (a : Addr) (d : Addr) (ks : ClassId) (kd : ClassId) (ec0 : Int32) (ec1 : Int32) (h0 : Heap) (n0 : Nat) (Z0 : n0 ≤ h0.size) (P0 : Arv Z h0 a ks .char (2 : Int32) [(.int ec0), (.int ec1)] (.int 0)) (P1 : Arv Z h0 d kd .byte (2 : Int32) [(.int 0), (.int 0)] (.int 0)) (P2 : n0 ≤ d) (P3 : a ≠ d) (he0 : ¬ ((255 : Int32) < ec0)) (hg : (255 : Int32) < ec1) :
    MetFree l (⟨o_n0, "compress", "([CI[BII)I"⟩ : MethodName) (head1 (Jvm.Cond.code (⟨o_n0, "compress", "([CI[BII)I"⟩ : MethodName) jdk_52_method_21_code 7 (some .int) :: ws) ({ frames := 0, cells := 0, slots := 0, locals := 0 } : Room)) (fun argz U => argz = #[(.ref a), (.int 0), (.ref d), (.int 0), (.int 2)] ∧ Z.Warmed39 U.vm ∧ U.heap = h0) (fun _ _ _ _ _ => True) (fun _ U o U' => ∃ v L, o = .returned v ∧ Q6u2j1 Z a d ks kd ec0 ec1 h0 n0 v U'.heap L ∧ FrameEnd U o U' L ({ frames := 0, cells := 0, slots := 0, locals := 0 } : Room).cells ({ frames := 0, cells := 0, slots := 0, locals := 0 } : Room).slots) := by
  refine MetFree.of_bodySF (plainFor_of_name pn_java_lang_StringUTF16) hisR ?_
  intro p e s m args below meth c s₁ Bd hml0 hP hK
  obtain ⟨rfl, hZ, hh⟩ := hP
  have hx := Bd.exec
  have hby := Bd.bytes
  have hml : c.maxLocals = 7 := hml0
  have hown : s.vm.findClass o_n0 = some m.cls := findClass_of_methodNamed Bd.named
  have hnm := (name_of_methodNamed Bd.named Bd.method).1
  have X0 : Stand p l e ({ frames := 0, cells := 0, slots := 0, locals := 0 } : Room) s m #[(.ref a), (.int 0), (.ref d), (.int 0), (.int 2)] below meth c s₁ [] 0 0 := Stand.of_body Bd
  have e0 : s₁.heap = h0 := by rw [← hh, Bd.state]; rfl
  have N0 := Fr.nil n0
  have K0 : Keep h0 h0 [d] := Keep.refl _ _
  have G : Gets p e below (s₁.setTop (entryFrame m #[(.ref a), (.int 0), (.ref d), (.int 0), (.int 2)] 7)) (s₁.setTop (mkF m 0 #[.val (.ref a), .val (.int 0), .val (.ref d), .val (.int 0), .val (.int 2), .unset, .unset] [])) := fun t k => castTop (ef_6u2j1 m a d) k
  replace G := o_iconst (q := 1) G X0.here hx (hb hby d6_0) (v := (0 : Int32)) (by decide) rfl
  replace G := o_istore (q := 3) (l' := #[.val (.ref a), .val (.int 0), .val (.ref d), .val (.int 0), .val (.int 2), .val (.int 0), .unset]) G X0.here hx (hb hby d6_1) rfl rfl
  replace G := o_iload (q := 5) G X0.here hx (hb hby d6_3) rfl rfl
  replace G := o_iload (q := 7) G X0.here hx (hb hby d6_5) rfl rfl
  replace G := o_icmpNo (q := 10) G X0.here hx (hb hby d6_7) (by decide) rfl
  replace G := o_aloadN (q := 11) G X0.here hx (hb hby d6_10) rfl rfl rfl
  replace G := o_iloadN (q := 12) G X0.here hx (hb hby d6_11) rfl rfl
  obtain ⟨c2, Ar2, -, S2, -, H2, -⟩ := id P0
  have hin2 : ¬ ((0 : Int32) < 0 ∨ c2.slots.size ≤ ((0 : Int32)).toNatClampNeg) := inb_of S2 ⟨by decide, by decide⟩
  replace G := o_nxs (q := 13) (st := [(.int ec0)]) G (X0.caload hx (j := (0 : Int32)) (v := (.int ec0)) (by rw [e0]; exact Ar2.1) (State.isArrayOf_alike hZ.alike Ar2.2.1) Ar2.2.2 hin2 (Has.at H2 hin2 rfl) (g := o_g G) rfl rfl (hb hby d6_12)) rfl
  replace G := o_istore (q := 15) (l' := #[.val (.ref a), .val (.int 0), .val (.ref d), .val (.int 0), .val (.int 2), .val (.int 0), .val (.int ec0)]) G X0.here hx (hb hby d6_13) rfl rfl
  replace G := o_iload (q := 17) G X0.here hx (hb hby d6_15) rfl rfl
  replace G := o_sipush (q := 20) G X0.here hx (hb hby d6_17) (v := (255 : Int32)) (by decide) rfl
  have hc20_3 : ¬ ((255 : Int32) < ec0) := he0
  replace G := o_icmpYes (q := 26) G X0.here hx (hb hby d6_20) (flt hc20_3).2.2.2 (by decide) (by decide)
  replace G := o_aloadN (q := 27) G X0.here hx (hb hby d6_26) rfl rfl rfl
  replace G := o_iloadN (q := 28) G X0.here hx (hb hby d6_27) rfl rfl
  replace G := o_iload (q := 30) G X0.here hx (hb hby d6_28) rfl rfl
  replace G := o_i2b (q := 31) G X0.here hx (hb hby d6_30) rfl rfl
  obtain ⟨c4, Ar4, q4, S4, N4', H4, G4'⟩ := id P1
  have hin4 : ¬ ((0 : Int32) < 0 ∨ c4.slots.size ≤ ((0 : Int32)).toNatClampNeg) := inb_of S4 ⟨by decide, by decide⟩
  obtain ⟨T4, h4, X4, e4, W4, st4⟩ := stB X0 hx hZ e0 Ar4 (j := (0 : Int32)) hin4 (g := o_g G) rfl rfl (hb hby d6_31)
  have N4 := Fr.snoc X4 N0 P2
  have Z4 : n0 ≤ h4.size := Nat.le_trans Z0 (Keep.of_wr W4).1
  have K4 : Keep h0 h4 [d] := K0.wr W4 (Or.inl (List.mem_of_getElem? (i := 0) rfl))
  have V4 : Arv Z h4 d kd .byte (2 : Int32) [(.int (nar .byte (ec0.toInt8.toInt32))), (.int 0)] (.int 0) := Arv.set Ar4 q4 S4 N4' H4 G4' (fits_nar_byte _) W4 0 rfl (Nat.le_of_ble_eq_true rfl)
  replace G := o_nxs (q := 32) (st := []) G st4 rfl
  replace G := o_iinc (q := 35) (l' := #[.val (.ref a), .val (.int 1), .val (.ref d), .val (.int 0), .val (.int 2), .val (.int 0), .val (.int ec0)]) (w := (1 : Int32)) G X4.here hx (hb hby d6_32) (by decide) rfl (by decide : ((0 : Int32) + (1 : Int32)) = (1 : Int32)) rfl rfl
  replace G := o_iinc (q := 38) (l' := #[.val (.ref a), .val (.int 1), .val (.ref d), .val (.int 1), .val (.int 2), .val (.int 0), .val (.int ec0)]) (w := (1 : Int32)) G X4.here hx (hb hby d6_35) (by decide) rfl (by decide : ((0 : Int32) + (1 : Int32)) = (1 : Int32)) rfl rfl
  replace G := o_iinc (q := 41) (l' := #[.val (.ref a), .val (.int 1), .val (.ref d), .val (.int 1), .val (.int 2), .val (.int 1), .val (.int ec0)]) (w := (1 : Int32)) G X4.here hx (hb hby d6_38) (by decide) rfl (by decide : ((0 : Int32) + (1 : Int32)) = (1 : Int32)) rfl rfl
  replace G := o_goto (q := 3) G X4.here hx (hb hby d6_41) (by decide) (by decide)
  replace G := o_iload (q := 5) G X4.here hx (hb hby d6_3) rfl rfl
  replace G := o_iload (q := 7) G X4.here hx (hb hby d6_5) rfl rfl
  replace G := o_icmpNo (q := 10) G X4.here hx (hb hby d6_7) (by decide) rfl
  replace G := o_aloadN (q := 11) G X4.here hx (hb hby d6_10) rfl rfl rfl
  replace G := o_iloadN (q := 12) G X4.here hx (hb hby d6_11) rfl rfl
  have F6 := (P0.other W4 P3)
  obtain ⟨c7, Ar7, -, S7, -, H7, -⟩ := id F6
  have hin7 : ¬ ((1 : Int32) < 0 ∨ c7.slots.size ≤ ((1 : Int32)).toNatClampNeg) := inb_of S7 ⟨by decide, by decide⟩
  replace G := o_nxs (q := 13) (st := [(.int ec1)]) G (X4.caload hx (j := (1 : Int32)) (v := (.int ec1)) (by rw [e4]; exact Ar7.1) (State.isArrayOf_alike hZ.alike Ar7.2.1) Ar7.2.2 hin7 (Has.at H7 hin7 rfl) (g := o_g G) rfl rfl (hb hby d6_12)) rfl
  replace G := o_istore (q := 15) (l' := #[.val (.ref a), .val (.int 1), .val (.ref d), .val (.int 1), .val (.int 2), .val (.int 1), .val (.int ec1)]) G X4.here hx (hb hby d6_13) rfl rfl
  replace G := o_iload (q := 17) G X4.here hx (hb hby d6_15) rfl rfl
  replace G := o_sipush (q := 20) G X4.here hx (hb hby d6_17) (v := (255 : Int32)) (by decide) rfl
  have hc20_8 : (255 : Int32) < ec1 := hg
  replace G := o_icmpNo (q := 23) G X4.here hx (hb hby d6_20) (tlt hc20_8).2.2.2 rfl
  replace G := o_iload (q := 25) G X4.here hx (hb hby d6_23) rfl rfl
  obtain ⟨fs, hr, hrun, hended, hW, hsame⟩ := X4.leave (v := some (.int 1)) (fun h => by rw [Bd.returns] at h; cases h)
  refine ⟨_, _, G _ (retOut X4 hx Bd.returns rfl (Or.inl ⟨rfl, Or.inl rfl, _, rfl⟩) (hb hby d6_25) hr), hrun, hended, _, _, rfl, ?_, ⟨_, rfl⟩, hW, hsame.mono (by decide) (by decide)⟩
  show Q6u2j1 Z a d ks kd ec0 ec1 h0 n0 _ T4.heap _
  rw [e4]
  exact ⟨rfl, N4, K4, V4⟩
theorem ef_5u2 (m : MethodId) (x0 : Addr) : entryFrame m #[(.ref x0), (.int 0), (.int 2)] 6 = mkF m 0 #[.val (.ref x0), .val (.int 0), .val (.int 2), .unset, .unset, .unset] [] := by first | (simp [entryFrame, mkF, argsToLocals, Value.category]; done) | rfl
def Q5u2 (Z : State) (a : Addr) (ks : ClassId) (ec0 : Int32) (ec1 : Int32) (h0 : Heap) (n0 : Nat) (v : Option Value) (h : Heap) (L : List Loc) : Prop := ∃ (b : Addr) (kb : ClassId), v = some (.ref b) ∧ Fr n0 L ∧ Keep h0 h [] ∧ h0.size ≤ b ∧ (Arv Z h b kb .byte (4 : Int32) [(.int (nar .byte ((ec0 >>> ((0 : Int32) &&& 31)).toInt8.toInt32))), (.int (nar .byte ((ec0 >>> ((8 : Int32) &&& 31)).toInt8.toInt32))), (.int (nar .byte ((ec1 >>> ((0 : Int32) &&& 31)).toInt8.toInt32))), (.int (nar .byte ((ec1 >>> ((8 : Int32) &&& 31)).toInt8.toInt32)))] (.int 0))
set_option maxRecDepth 65536 in
set_option maxHeartbeats 40000000 in
theorem rm5u2 (l : Launch) (Z : State) (a0 : Array Value) (hw : ∀ d ∈ tables_1, d.before a0 Z = true) (ws : List Jvm.Cond) (a : Addr) (ks : ClassId) (ec0 : Int32) (ec1 : Int32) (h0 : Heap) (n0 : Nat) (Z0 : n0 ≤ h0.size) (P0 : Old Z n0 h0) (P1 : Sta Z Z.heap o_n0 "$assertionsDisabled" "Z" (.int 1)) (P2 : Sta Z Z.heap o_n0 "HI_BYTE_SHIFT" "I" (.int 0)) (P3 : Sta Z Z.heap o_n0 "LO_BYTE_SHIFT" "I" (.int 8)) (P4 : Arv Z h0 a ks .char (2 : Int32) [(.int ec0), (.int ec1)] (.int 0)) (hU : (((255 : Int32) < ec0)) ∨ (¬ ((255 : Int32) < ec0) ∧ ((255 : Int32) < ec1))) (hr0 : 0 ≤ ec0.toInt ∧ ec0.toInt < 65536) (hr1 : 0 ≤ ec1.toInt ∧ ec1.toInt < 65536) :
    MetFree l (⟨o_n0, "compress", "([CII)[B"⟩ : MethodName) (head1 (Jvm.Cond.code (⟨o_n0, "compress", "([CII)[B"⟩ : MethodName) jdk_52_method_16_code 6 (some (.array .byte)) :: ws) ({ frames := 3, cells := 2, slots := 6, locals := 40 } : Room)) (fun argz U => argz = #[(.ref a), (.int 0), (.int 2)] ∧ Z.Warmed39 U.vm ∧ U.heap = h0) (fun _ _ _ _ _ => True) (fun _ U o U' => ∃ v L, o = .returned v ∧ Q5u2 Z a ks ec0 ec1 h0 n0 v U'.heap L ∧ FrameEnd U o U' L ({ frames := 3, cells := 2, slots := 6, locals := 40 } : Room).cells ({ frames := 3, cells := 2, slots := 6, locals := 40 } : Room).slots) := by
  refine MetFree.of_bodySF (plainFor_of_name pn_java_lang_StringUTF16) hisR ?_
  intro p e s m args below meth c s₁ Bd hml0 hP hK
  obtain ⟨rfl, hZ, hh⟩ := hP
  have hx := Bd.exec
  have hby := Bd.bytes
  have hml : c.maxLocals = 6 := hml0
  have hown : s.vm.findClass o_n0 = some m.cls := findClass_of_methodNamed Bd.named
  have hnm := (name_of_methodNamed Bd.named Bd.method).1
  have X0 : Stand p l e ({ frames := 3, cells := 2, slots := 6, locals := 40 } : Room) s m #[(.ref a), (.int 0), (.int 2)] below meth c s₁ [] 0 0 := Stand.of_body Bd
  have e0 : s₁.heap = h0 := by rw [← hh, Bd.state]; rfl
  have N0 := Fr.nil n0
  have K0 : Keep h0 h0 [] := Keep.refl _ _
  have G : Gets p e below (s₁.setTop (entryFrame m #[(.ref a), (.int 0), (.int 2)] 6)) (s₁.setTop (mkF m 0 #[.val (.ref a), .val (.int 0), .val (.int 2), .unset, .unset, .unset] [])) := fun t k => castTop (ef_5u2 m a) k
  replace G := o_iloadN (q := 1) G X0.here hx (hb hby d5_0) rfl rfl
  obtain ⟨T1, h1, k1, X1, e1, E1, A1, st1⟩ := newP X0 hx hZ (o_w hw 20 rfl) e0 (g := o_g G) rfl (hb hby d5_1) rfl (by decide) (cap := 2) (by decide) (by decide) (by decide) (by decide)
  obtain ⟨b1, g1⟩ : ∃ z, z = h0.size := ⟨_, rfl⟩
  rw [← g1] at A1 st1
  have ne2 : a ≠ b1 := Nat.ne_of_lt (Nat.lt_of_lt_of_le P4.lt (Nat.le_of_eq g1.symm))
  have ge_b1 : n0 ≤ b1 := Nat.le_trans Z0 (Nat.le_of_eq g1.symm)
  have sz_b1 : h0.size ≤ b1 := Nat.le_trans K0.1 (Nat.le_of_eq g1.symm)
  have Z1 : n0 ≤ h1.size := Nat.le_trans Z0 E1.1
  have K1 : Keep h0 h1 [] := K0.ext E1
  have V1 : Arv Z h1 b1 k1 .byte (2 : Int32) [(.int 0), (.int 0)] (.int 0) := (Arv.new A1 (by decide)).pad (pad_rep [] (.int 0) 2)
  replace G := o_nxs (q := 3) (st := [(.ref b1)]) G st1 rfl
  replace G := o_astoreN (q := 4) (l' := #[.val (.ref a), .val (.int 0), .val (.int 2), .val (.ref b1), .unset, .unset]) G X1.here hx (hb hby d5_3) rfl rfl rfl
  replace G := o_aloadN (q := 5) G X1.here hx (hb hby d5_4) rfl rfl rfl
  replace G := o_iloadN (q := 6) G X1.here hx (hb hby d5_5) rfl rfl
  replace G := o_aloadN (q := 7) G X1.here hx (hb hby d5_6) rfl rfl rfl
  replace G := o_iconst (q := 8) G X1.here hx (hb hby d5_7) (v := (0 : Int32)) (by decide) rfl
  replace G := o_iloadN (q := 9) G X1.here hx (hb hby d5_8) rfl rfl
  rcases hU with hg | ⟨he0, hg⟩
  have F4 := (P4.ext E1)
  obtain ⟨_, _, ⟨T3, L3, kk3, nn3⟩, -, X3, ⟨Lc3, hQ3, l3, y3, z3⟩, st3⟩ := Jvm.LawKit.callS X1 hx (y := (⟨o_n0, "compress", "([CI[BII)I"⟩ : MethodName)) hown (mvT hZ (o_w hw 32 rfl)) (mvT hZ (o_w hw 33 rfl)) (mvT hZ (o_w hw 30 rfl)) (mvT hZ (o_w hw 34 rfl)) (by decide) (backOf (W := 0) (rm6u2j0 l Z a0 hw [] a b1 ks k1 ec0 ec1 h1 n0 Z1 F4 V1 ge_b1 ne2 hg) hZ (o_w hw 34 rfl) (o_w hw 30 rfl) (by decide) (by decide)) (g := o_g G) rfl (by rw [hml]; rfl) (argsL := [(.ref a), (.int 0), (.ref b1), (.int 0), (.int 2)]) (rest := []) (lenOf pd_0 rfl) rfl (by show 2 * 0 + _ ≤ _; exact Nat.le_of_eq rfl) (hb hby d5_9) (fun _ _ => ⟨rfl, e1, (by decide : 1 + 0 ≤ _), (by decide : 2 + 0 ≤ _)⟩)
  dsimp only [Pt.U, Pt.locs, Pt.cells, Pt.slots] at X3 l3 y3 z3 st3 hQ3
  subst l3 y3 z3
  obtain ⟨rfl, N3q, K3q, B3_0⟩ := hQ3
  have Z3 : n0 ≤ T3.heap.size := Nat.le_trans Z1 K3q.1
  have K3 : Keep h0 T3.heap [] := K1.trans K3q (allS (Or.inr sz_b1) all0)
  have N3 := Fr.app N0 N3q
  replace G := o_nxs (q := 12) (st := [(.int 0)]) G st3 rfl
  replace G := o_istore (q := 14) (l' := #[.val (.ref a), .val (.int 0), .val (.int 2), .val (.ref b1), .val (.int 0), .unset]) G X3.here hx (hb hby d5_12) rfl rfl
  replace G := o_iload (q := 16) G X3.here hx (hb hby d5_14) rfl rfl
  replace G := o_iloadN (q := 17) G X3.here hx (hb hby d5_16) rfl rfl
  replace G := o_icmpNo (q := 20) G X3.here hx (hb hby d5_17) (by decide) rfl
  replace G := o_aloadN (q := 21) G X3.here hx (hb hby d5_20) rfl rfl rfl
  replace G := o_iloadN (q := 22) G X3.here hx (hb hby d5_21) rfl rfl
  replace G := o_iloadN (q := 23) G X3.here hx (hb hby d5_22) rfl rfl
  have F7 := ((P0.ext E1).keep K3q (allS ge_b1 all0))
  have F8 := (F4.keep K3q (ninS ne2 nin0))
  obtain ⟨_, _, ⟨T6, L6, kk6, nn6⟩, -, X6, ⟨Lc6, hQ6, l6, y6, z6⟩, st6⟩ := Jvm.LawKit.callS X3 hx (y := (⟨o_n0, "toBytes", "([CII)[B"⟩ : MethodName)) hown (mvT hZ (o_w hw 35 rfl)) (mvT hZ (o_w hw 36 rfl)) (mvT hZ (o_w hw 30 rfl)) (mvT hZ (o_w hw 37 rfl)) (by decide) (backOf (W := 0) (rm7u2 l Z a0 hw [] a ks ec0 ec1 T3.heap n0 Z3 F7 P1 P2 P3 F8) hZ (o_w hw 37 rfl) (o_w hw 30 rfl) (by decide) (by decide)) (g := o_g G) rfl (by rw [hml]; rfl) (argsL := [(.ref a), (.int 0), (.int 2)]) (rest := []) (lenOf pd_1 rfl) rfl (by show 2 * 0 + _ ≤ _; exact Nat.le_of_eq rfl) (hb hby d5_23) (fun _ _ => ⟨rfl, rfl, (by decide : 1 + 1 ≤ _), (by decide : 2 + 4 ≤ _)⟩)
  dsimp only [Pt.U, Pt.locs, Pt.cells, Pt.slots] at X6 l6 y6 z6 st6 hQ6
  subst l6 y6 z6
  obtain ⟨b_6, kb_6, rfl, N6q, K6q, B6_0, B6_1⟩ := hQ6
  have ne9 : b1 ≠ b_6 := Nat.ne_of_lt (Nat.lt_of_lt_of_le B3_0.lt B6_0)
  have ne10 : a ≠ b_6 := Nat.ne_of_lt (Nat.lt_of_lt_of_le F8.lt B6_0)
  have ge_b_6 : n0 ≤ b_6 := Nat.le_trans Z3 B6_0
  have sz_b_6 : h0.size ≤ b_6 := Nat.le_trans K3.1 B6_0
  have Z6 : n0 ≤ T6.heap.size := Nat.le_trans Z3 K6q.1
  have K6 : Keep h0 T6.heap [] := K3.trans K6q all0
  have N6 := Fr.app N3 N6q
  replace G := o_nxs (q := 26) (st := [(.ref b_6)]) G st6 rfl
  replace G := o_astore (q := 28) (l' := #[.val (.ref a), .val (.int 0), .val (.int 2), .val (.ref b1), .val (.int 0), .val (.ref b_6)]) G X6.here hx (hb hby d5_26) rfl rfl rfl
  replace G := o_aload (q := 30) G X6.here hx (hb hby d5_28) rfl rfl rfl
  replace G := o_iload (q := 32) G X6.here hx (hb hby d5_30) rfl rfl
  have F12 := (F7.keep K6q all0)
  obtain ⟨_, _, ⟨T11, L11, kk11, nn11⟩, -, X11, ⟨Lc11, hQ11, l11, y11, z11⟩, st11⟩ := Jvm.LawKit.callS X6 hx (y := (⟨o_n0, "getChar", "([BI)C"⟩ : MethodName)) hown (mvT hZ (o_w hw 51 rfl)) (mvT hZ (o_w hw 52 rfl)) (mvT hZ (o_w hw 30 rfl)) (mvT hZ (o_w hw 53 rfl)) (by decide) (backOf (W := 0) (rm11j0 l Z a0 hw [] b_6 kb_6 (4 : Int32) [(.int (nar .byte ((ec0 >>> ((0 : Int32) &&& 31)).toInt8.toInt32))), (.int (nar .byte ((ec0 >>> ((8 : Int32) &&& 31)).toInt8.toInt32))), (.int (nar .byte ((ec1 >>> ((0 : Int32) &&& 31)).toInt8.toInt32))), (.int (nar .byte ((ec1 >>> ((8 : Int32) &&& 31)).toInt8.toInt32)))] (nar .byte ((ec0 >>> ((0 : Int32) &&& 31)).toInt8.toInt32)) (nar .byte ((ec0 >>> ((8 : Int32) &&& 31)).toInt8.toInt32)) T6.heap n0 Z6 F12 P1 P2 P3 B6_1 ⟨by decide, by decide⟩ ⟨by decide, by decide⟩ rfl rfl) hZ (o_w hw 53 rfl) (o_w hw 30 rfl) (by decide) (by decide)) (g := o_g G) rfl (by rw [hml]; rfl) (argsL := [(.ref b_6), (.int 0)]) (rest := []) (lenOf pd_7 rfl) rfl (by show 2 * 0 + _ ≤ _; exact Nat.le_of_eq rfl) (hb hby d5_32) (fun _ _ => ⟨rfl, rfl, (by decide : 2 + 0 ≤ _), (by decide : 6 + 0 ≤ _)⟩)
  dsimp only [Pt.U, Pt.locs, Pt.cells, Pt.slots] at X11 l11 y11 z11 st11 hQ11
  subst l11 y11 z11
  obtain ⟨rfl, N11q, e11⟩ := hQ11
  have N11 := Fr.app N6 N11q
  replace G := o_nxs (q := 35) (st := [(.int (((((nar .byte ((ec0 >>> ((0 : Int32) &&& 31)).toInt8.toInt32)) &&& (255 : Int32)) <<< ((0 : Int32) &&& 31)) ||| (((nar .byte ((ec0 >>> ((8 : Int32) &&& 31)).toInt8.toInt32)) &&& (255 : Int32)) <<< ((8 : Int32) &&& 31))).toUInt32.toUInt16.toUInt32.toInt32))]) G st11 rfl
  replace G := o_sipush (q := 38) G X11.here hx (hb hby d5_35) (v := (255 : Int32)) (by decide) rfl
  have hc38_13 : (255 : Int32) < (((((nar .byte ((ec0 >>> ((0 : Int32) &&& 31)).toInt8.toInt32)) &&& (255 : Int32)) <<< ((0 : Int32) &&& 31)) ||| (((nar .byte ((ec0 >>> ((8 : Int32) &&& 31)).toInt8.toInt32)) &&& (255 : Int32)) <<< ((8 : Int32) &&& 31))).toUInt32.toUInt16.toUInt32.toInt32) := o_gc hr0 hg
  replace G := o_icmpYes (q := 54) G X11.here hx (hb hby d5_38) (tlt hc38_13).2.2.1 (by decide) (by decide)
  replace G := o_aload (q := 56) G X11.here hx (hb hby d5_54) rfl rfl rfl
  obtain ⟨fs, hr, hrun, hended, hW, hsame⟩ := X11.leave (v := some (.ref b_6)) (fun h => by rw [Bd.returns] at h; cases h)
  refine ⟨_, _, G _ (retOut X11 hx Bd.returns rfl (Or.inr (Or.inr (Or.inr (Or.inr ⟨rfl, rfl, rfl⟩)))) (hb hby d5_56) hr), hrun, hended, _, _, rfl, ?_, ⟨_, rfl⟩, hW, hsame.mono (by decide) (by decide)⟩
  show Q5u2 Z a ks ec0 ec1 h0 n0 _ T11.heap _
  rw [e11]
  exact ⟨b_6, kb_6, rfl, N11, K6, sz_b_6, B6_1⟩
  have F15 := (P4.ext E1)
  obtain ⟨_, _, ⟨T14, L14, kk14, nn14⟩, -, X14, ⟨Lc14, hQ14, l14, y14, z14⟩, st14⟩ := Jvm.LawKit.callS X1 hx (y := (⟨o_n0, "compress", "([CI[BII)I"⟩ : MethodName)) hown (mvT hZ (o_w hw 32 rfl)) (mvT hZ (o_w hw 33 rfl)) (mvT hZ (o_w hw 30 rfl)) (mvT hZ (o_w hw 34 rfl)) (by decide) (backOf (W := 0) (rm6u2j1 l Z a0 hw [] a b1 ks k1 ec0 ec1 h1 n0 Z1 F15 V1 ge_b1 ne2 he0 hg) hZ (o_w hw 34 rfl) (o_w hw 30 rfl) (by decide) (by decide)) (g := o_g G) rfl (by rw [hml]; rfl) (argsL := [(.ref a), (.int 0), (.ref b1), (.int 0), (.int 2)]) (rest := []) (lenOf pd_0 rfl) rfl (by show 2 * 0 + _ ≤ _; exact Nat.le_of_eq rfl) (hb hby d5_9) (fun _ _ => ⟨rfl, e1, (by decide : 1 + 0 ≤ _), (by decide : 2 + 0 ≤ _)⟩)
  dsimp only [Pt.U, Pt.locs, Pt.cells, Pt.slots] at X14 l14 y14 z14 st14 hQ14
  subst l14 y14 z14
  obtain ⟨rfl, N14q, K14q, B14_0⟩ := hQ14
  have Z14 : n0 ≤ T14.heap.size := Nat.le_trans Z1 K14q.1
  have K14 : Keep h0 T14.heap [] := K1.trans K14q (allS (Or.inr sz_b1) all0)
  have N14 := Fr.app N0 N14q
  replace G := o_nxs (q := 12) (st := [(.int 1)]) G st14 rfl
  replace G := o_istore (q := 14) (l' := #[.val (.ref a), .val (.int 0), .val (.int 2), .val (.ref b1), .val (.int 1), .unset]) G X14.here hx (hb hby d5_12) rfl rfl
  replace G := o_iload (q := 16) G X14.here hx (hb hby d5_14) rfl rfl
  replace G := o_iloadN (q := 17) G X14.here hx (hb hby d5_16) rfl rfl
  replace G := o_icmpNo (q := 20) G X14.here hx (hb hby d5_17) (by decide) rfl
  replace G := o_aloadN (q := 21) G X14.here hx (hb hby d5_20) rfl rfl rfl
  replace G := o_iloadN (q := 22) G X14.here hx (hb hby d5_21) rfl rfl
  replace G := o_iloadN (q := 23) G X14.here hx (hb hby d5_22) rfl rfl
  have F18 := ((P0.ext E1).keep K14q (allS ge_b1 all0))
  have F19 := (F15.keep K14q (ninS ne2 nin0))
  obtain ⟨_, _, ⟨T17, L17, kk17, nn17⟩, -, X17, ⟨Lc17, hQ17, l17, y17, z17⟩, st17⟩ := Jvm.LawKit.callS X14 hx (y := (⟨o_n0, "toBytes", "([CII)[B"⟩ : MethodName)) hown (mvT hZ (o_w hw 35 rfl)) (mvT hZ (o_w hw 36 rfl)) (mvT hZ (o_w hw 30 rfl)) (mvT hZ (o_w hw 37 rfl)) (by decide) (backOf (W := 0) (rm7u2 l Z a0 hw [] a ks ec0 ec1 T14.heap n0 Z14 F18 P1 P2 P3 F19) hZ (o_w hw 37 rfl) (o_w hw 30 rfl) (by decide) (by decide)) (g := o_g G) rfl (by rw [hml]; rfl) (argsL := [(.ref a), (.int 0), (.int 2)]) (rest := []) (lenOf pd_1 rfl) rfl (by show 2 * 0 + _ ≤ _; exact Nat.le_of_eq rfl) (hb hby d5_23) (fun _ _ => ⟨rfl, rfl, (by decide : 1 + 1 ≤ _), (by decide : 2 + 4 ≤ _)⟩)
  dsimp only [Pt.U, Pt.locs, Pt.cells, Pt.slots] at X17 l17 y17 z17 st17 hQ17
  subst l17 y17 z17
  obtain ⟨b_17, kb_17, rfl, N17q, K17q, B17_0, B17_1⟩ := hQ17
  have ne20 : b1 ≠ b_17 := Nat.ne_of_lt (Nat.lt_of_lt_of_le B14_0.lt B17_0)
  have ne21 : a ≠ b_17 := Nat.ne_of_lt (Nat.lt_of_lt_of_le F19.lt B17_0)
  have ge_b_17 : n0 ≤ b_17 := Nat.le_trans Z14 B17_0
  have sz_b_17 : h0.size ≤ b_17 := Nat.le_trans K14.1 B17_0
  have Z17 : n0 ≤ T17.heap.size := Nat.le_trans Z14 K17q.1
  have K17 : Keep h0 T17.heap [] := K14.trans K17q all0
  have N17 := Fr.app N14 N17q
  replace G := o_nxs (q := 26) (st := [(.ref b_17)]) G st17 rfl
  replace G := o_astore (q := 28) (l' := #[.val (.ref a), .val (.int 0), .val (.int 2), .val (.ref b1), .val (.int 1), .val (.ref b_17)]) G X17.here hx (hb hby d5_26) rfl rfl rfl
  replace G := o_aload (q := 30) G X17.here hx (hb hby d5_28) rfl rfl rfl
  replace G := o_iload (q := 32) G X17.here hx (hb hby d5_30) rfl rfl
  have F23 := (F18.keep K17q all0)
  obtain ⟨_, _, ⟨T22, L22, kk22, nn22⟩, -, X22, ⟨Lc22, hQ22, l22, y22, z22⟩, st22⟩ := Jvm.LawKit.callS X17 hx (y := (⟨o_n0, "getChar", "([BI)C"⟩ : MethodName)) hown (mvT hZ (o_w hw 51 rfl)) (mvT hZ (o_w hw 52 rfl)) (mvT hZ (o_w hw 30 rfl)) (mvT hZ (o_w hw 53 rfl)) (by decide) (backOf (W := 0) (rm11j1 l Z a0 hw [] b_17 kb_17 (4 : Int32) [(.int (nar .byte ((ec0 >>> ((0 : Int32) &&& 31)).toInt8.toInt32))), (.int (nar .byte ((ec0 >>> ((8 : Int32) &&& 31)).toInt8.toInt32))), (.int (nar .byte ((ec1 >>> ((0 : Int32) &&& 31)).toInt8.toInt32))), (.int (nar .byte ((ec1 >>> ((8 : Int32) &&& 31)).toInt8.toInt32)))] (nar .byte ((ec1 >>> ((0 : Int32) &&& 31)).toInt8.toInt32)) (nar .byte ((ec1 >>> ((8 : Int32) &&& 31)).toInt8.toInt32)) T17.heap n0 Z17 F23 P1 P2 P3 B17_1 ⟨by decide, by decide⟩ ⟨by decide, by decide⟩ rfl rfl) hZ (o_w hw 53 rfl) (o_w hw 30 rfl) (by decide) (by decide)) (g := o_g G) rfl (by rw [hml]; rfl) (argsL := [(.ref b_17), (.int 1)]) (rest := []) (lenOf pd_7 rfl) rfl (by show 2 * 0 + _ ≤ _; exact Nat.le_of_eq rfl) (hb hby d5_32) (fun _ _ => ⟨rfl, rfl, (by decide : 2 + 0 ≤ _), (by decide : 6 + 0 ≤ _)⟩)
  dsimp only [Pt.U, Pt.locs, Pt.cells, Pt.slots] at X22 l22 y22 z22 st22 hQ22
  subst l22 y22 z22
  obtain ⟨rfl, N22q, e22⟩ := hQ22
  have N22 := Fr.app N17 N22q
  replace G := o_nxs (q := 35) (st := [(.int (((((nar .byte ((ec1 >>> ((0 : Int32) &&& 31)).toInt8.toInt32)) &&& (255 : Int32)) <<< ((0 : Int32) &&& 31)) ||| (((nar .byte ((ec1 >>> ((8 : Int32) &&& 31)).toInt8.toInt32)) &&& (255 : Int32)) <<< ((8 : Int32) &&& 31))).toUInt32.toUInt16.toUInt32.toInt32))]) G st22 rfl
  replace G := o_sipush (q := 38) G X22.here hx (hb hby d5_35) (v := (255 : Int32)) (by decide) rfl
  have hc38_24 : (255 : Int32) < (((((nar .byte ((ec1 >>> ((0 : Int32) &&& 31)).toInt8.toInt32)) &&& (255 : Int32)) <<< ((0 : Int32) &&& 31)) ||| (((nar .byte ((ec1 >>> ((8 : Int32) &&& 31)).toInt8.toInt32)) &&& (255 : Int32)) <<< ((8 : Int32) &&& 31))).toUInt32.toUInt16.toUInt32.toInt32) := o_gc hr1 hg
  replace G := o_icmpYes (q := 54) G X22.here hx (hb hby d5_38) (tlt hc38_24).2.2.1 (by decide) (by decide)
  replace G := o_aload (q := 56) G X22.here hx (hb hby d5_54) rfl rfl rfl
  obtain ⟨fs, hr, hrun, hended, hW, hsame⟩ := X22.leave (v := some (.ref b_17)) (fun h => by rw [Bd.returns] at h; cases h)
  refine ⟨_, _, G _ (retOut X22 hx Bd.returns rfl (Or.inr (Or.inr (Or.inr (Or.inr ⟨rfl, rfl, rfl⟩)))) (hb hby d5_56) hr), hrun, hended, _, _, rfl, ?_, ⟨_, rfl⟩, hW, hsame.mono (by decide) (by decide)⟩
  show Q5u2 Z a ks ec0 ec1 h0 n0 _ T22.heap _
  rw [e22]
  exact ⟨b_17, kb_17, rfl, N22, K17, sz_b_17, B17_1⟩
theorem ef_3u2 (m : MethodId) (x0 : Addr) (x1 : Addr) : entryFrame m #[(.ref x0), (.ref x1), (.int 0), (.int 2), .null] 6 = mkF m 0 #[.val (.ref x0), .val (.ref x1), .val (.int 0), .val (.int 2), .val .null, .unset] [] := by first | (simp [entryFrame, mkF, argsToLocals, Value.category]; done) | rfl
def Q3u2 (Z : State) (tt : Addr) (a : Addr) (ks : ClassId) (cw : Int32) (ec0 : Int32) (ec1 : Int32) (h0 : Heap) (n0 : Nat) (v : Option Value) (h : Heap) (L : List Loc) : Prop := ∃ (b : Addr) (kb : ClassId), v = none ∧ Fr n0 L ∧ Keep h0 h [tt] ∧ (Fld Z h tt o_n1 "value" "[B" (.ref b)) ∧ (Fld Z h tt o_n1 "coder" "B" (.int 1)) ∧ h0.size ≤ b ∧ (Arv Z h b kb .byte (4 : Int32) [(.int (nar .byte ((ec0 >>> ((0 : Int32) &&& 31)).toInt8.toInt32))), (.int (nar .byte ((ec0 >>> ((8 : Int32) &&& 31)).toInt8.toInt32))), (.int (nar .byte ((ec1 >>> ((0 : Int32) &&& 31)).toInt8.toInt32))), (.int (nar .byte ((ec1 >>> ((8 : Int32) &&& 31)).toInt8.toInt32)))] (.int 0))
set_option maxRecDepth 65536 in
set_option maxHeartbeats 40000000 in
theorem rm3u2 (l : Launch) (Z : State) (a0 : Array Value) (hw : ∀ d ∈ tables_1, d.before a0 Z = true) (ws : List Jvm.Cond) (tt : Addr) (a : Addr) (ks : ClassId) (cw : Int32) (ec0 : Int32) (ec1 : Int32) (h0 : Heap) (n0 : Nat) (Z0 : n0 ≤ h0.size) (P0 : Old Z n0 h0) (P1 : Sta Z Z.heap o_n0 "$assertionsDisabled" "Z" (.int 1)) (P2 : Sta Z Z.heap o_n0 "HI_BYTE_SHIFT" "I" (.int 0)) (P3 : Sta Z Z.heap o_n0 "LO_BYTE_SHIFT" "I" (.int 8)) (P4 : Sta Z Z.heap o_n1 "COMPACT_STRINGS" "Z" (.int cw)) (P5 : Fld Z h0 tt o_n1 "value" "[B" .null) (P6 : Fld Z h0 tt o_n1 "coder" "B" (.int 0)) (P7 : Exa Z h0 tt o_n1) (P8 : n0 ≤ tt) (P9 : Arv Z h0 a ks .char (2 : Int32) [(.int ec0), (.int ec1)] (.int 0)) (hcw : ¬ cw = (0 : Int32)) (hU : (((255 : Int32) < ec0)) ∨ (¬ ((255 : Int32) < ec0) ∧ ((255 : Int32) < ec1))) (hr0 : 0 ≤ ec0.toInt ∧ ec0.toInt < 65536) (hr1 : 0 ≤ ec1.toInt ∧ ec1.toInt < 65536) :
    MetFree l (⟨o_n1, "<init>", "([CIILjava/lang/Void;)V"⟩ : MethodName) (head1 (Jvm.Cond.code (⟨o_n1, "<init>", "([CIILjava/lang/Void;)V"⟩ : MethodName) jdk_42_method_149_code 6 none :: ws) ({ frames := 4, cells := 2, slots := 6, locals := 57 } : Room)) (fun argz U => argz = #[(.ref tt), (.ref a), (.int 0), (.int 2), .null] ∧ Z.Warmed39 U.vm ∧ U.heap = h0) (fun _ _ _ _ _ => True) (fun _ U o U' => ∃ v L, o = .returned v ∧ Q3u2 Z tt a ks cw ec0 ec1 h0 n0 v U'.heap L ∧ FrameEnd U o U' L ({ frames := 4, cells := 2, slots := 6, locals := 57 } : Room).cells ({ frames := 4, cells := 2, slots := 6, locals := 57 } : Room).slots) := by
  refine MetFree.of_bodySF (plainFor_of_name pn_java_lang_String) hisR ?_
  intro p e s m args below meth c s₁ Bd hml0 hP hK
  obtain ⟨rfl, hZ, hh⟩ := hP
  have hx := Bd.exec
  have hby := Bd.bytes
  have hml : c.maxLocals = 6 := hml0
  have hown : s.vm.findClass o_n1 = some m.cls := findClass_of_methodNamed Bd.named
  have hnm := (name_of_methodNamed Bd.named Bd.method).1
  have X0 : Stand p l e ({ frames := 4, cells := 2, slots := 6, locals := 57 } : Room) s m #[(.ref tt), (.ref a), (.int 0), (.int 2), .null] below meth c s₁ [] 0 0 := Stand.of_body Bd
  have e0 : s₁.heap = h0 := by rw [← hh, Bd.state]; rfl
  have N0 := Fr.nil n0
  have K0 : Keep h0 h0 [tt] := Keep.refl _ _
  have G : Gets p e below (s₁.setTop (entryFrame m #[(.ref tt), (.ref a), (.int 0), (.int 2), .null] 6)) (s₁.setTop (mkF m 0 #[.val (.ref tt), .val (.ref a), .val (.int 0), .val (.int 2), .val .null, .unset] [])) := fun t k => castTop (ef_3u2 m tt a) k
  replace G := o_aloadN (q := 1) G X0.here hx (hb hby d3_0) rfl rfl rfl
  obtain ⟨T1, X1, e1, st1⟩ := initO X0 hx hZ hown (o_w hw 16 rfl) (o_w hw 17 rfl) (o_w hw 18 rfl) e0 (g := o_g G) rfl (by rw [hml]; rfl) rfl (hb hby d3_1) (by decide) (W := 0) (by show 2 * 0 + _ ≤ _; exact Nat.le_of_eq rfl) (by decide)
  replace G := o_nxs (q := 4) (st := []) G st1 rfl
  replace G := o_iloadN (q := 5) G X1.here hx (hb hby d3_4) rfl rfl
  replace G := o_ifYes (q := 27) G X1.here hx (hb hby d3_5) (by decide) (by decide) (by decide)
  have F3 : Sta Z h0 o_n1 "COMPACT_STRINGS" "Z" (.int cw) := P4.ext P0.2
  obtain ⟨T4, X4, e4, st4⟩ := getS2 X1 hx hZ hown (host := "") (Or.inl (o_w hw 27 rfl)) Via.refl e1 F3 (g := o_g G) rfl (hb hby d3_27)
  replace G := o_nxs (q := 30) (st := [(.int cw)]) G st4 rfl
  have hc30_5 : ¬ (cw = (0 : Int32)) := hcw
  replace G := o_ifNo (q := 33) G X4.here hx (hb hby d3_30) ((if0 _ _).trans (feq hc30_5).1) rfl
  replace G := o_aloadN (q := 34) G X4.here hx (hb hby d3_33) rfl rfl rfl
  replace G := o_iloadN (q := 35) G X4.here hx (hb hby d3_34) rfl rfl
  replace G := o_iloadN (q := 36) G X4.here hx (hb hby d3_35) rfl rfl
  obtain ⟨_, _, ⟨T6, L6, kk6, nn6⟩, -, X6, ⟨Lc6, hQ6, l6, y6, z6⟩, st6⟩ := Jvm.LawKit.callS X4 hx (y := (⟨o_n0, "compress", "([CII)[B"⟩ : MethodName)) hown (mvT hZ (o_w hw 28 rfl)) (mvT hZ (o_w hw 29 rfl)) (mvT hZ (o_w hw 30 rfl)) (mvT hZ (o_w hw 31 rfl)) (by decide) (backOf (W := 0) (rm5u2 l Z a0 hw [] a ks ec0 ec1 h0 n0 Z0 P0 P1 P2 P3 P9 hU hr0 hr1) hZ (o_w hw 31 rfl) (o_w hw 30 rfl) (by decide) (by decide)) (g := o_g G) rfl (by rw [hml]; rfl) (argsL := [(.ref a), (.int 0), (.int 2)]) (rest := []) (lenOf pd_1 rfl) rfl (by show 2 * 0 + _ ≤ _; exact Nat.le_of_eq rfl) (hb hby d3_36) (fun _ _ => ⟨rfl, e4, (by decide : 0 + 2 ≤ _), (by decide : 0 + 6 ≤ _)⟩)
  dsimp only [Pt.U, Pt.locs, Pt.cells, Pt.slots] at X6 l6 y6 z6 st6 hQ6
  subst l6 y6 z6
  obtain ⟨b_6, kb_6, rfl, N6q, K6q, B6_0, B6_1⟩ := hQ6
  have ne7 : tt ≠ b_6 := Nat.ne_of_lt (Nat.lt_of_lt_of_le P5.lt B6_0)
  have ne8 : a ≠ b_6 := Nat.ne_of_lt (Nat.lt_of_lt_of_le P9.lt B6_0)
  have ge_b_6 : n0 ≤ b_6 := Nat.le_trans Z0 B6_0
  have sz_b_6 : h0.size ≤ b_6 := Nat.le_trans K0.1 B6_0
  have Z6 : n0 ≤ T6.heap.size := Nat.le_trans Z0 K6q.1
  have K6 : Keep h0 T6.heap [tt] := K0.trans K6q all0
  have N6 := Fr.app N0 N6q
  replace G := o_nxs (q := 39) (st := [(.ref b_6)]) G st6 rfl
  replace G := o_astore (q := 41) (l' := #[.val (.ref tt), .val (.ref a), .val (.int 0), .val (.int 2), .val .null, .val (.ref b_6)]) G X6.here hx (hb hby d3_39) rfl rfl rfl
  replace G := o_aloadN (q := 42) G X6.here hx (hb hby d3_41) rfl rfl rfl
  replace G := o_aload (q := 44) G X6.here hx (hb hby d3_42) rfl rfl rfl
  replace G := o_iloadN (q := 45) G X6.here hx (hb hby d3_44) rfl rfl
  obtain ⟨_, _, ⟨T9, L9, kk9, nn9⟩, -, X9, ⟨Lc9, hQ9, l9, y9, z9⟩, st9⟩ := Jvm.LawKit.callS X6 hx (y := (⟨o_n0, "coderFromArrayLen", "([BI)B"⟩ : MethodName)) hown (mvT hZ (o_w hw 54 rfl)) (mvT hZ (o_w hw 55 rfl)) (mvT hZ (o_w hw 30 rfl)) (mvT hZ (o_w hw 56 rfl)) (by decide) (backOf (W := 1) (rm12u2 l Z a0 hw [] b_6 kb_6 [(.int (nar .byte ((ec0 >>> ((0 : Int32) &&& 31)).toInt8.toInt32))), (.int (nar .byte ((ec0 >>> ((8 : Int32) &&& 31)).toInt8.toInt32))), (.int (nar .byte ((ec1 >>> ((0 : Int32) &&& 31)).toInt8.toInt32))), (.int (nar .byte ((ec1 >>> ((8 : Int32) &&& 31)).toInt8.toInt32)))] T6.heap n0 Z6 B6_1) hZ (o_w hw 56 rfl) (o_w hw 30 rfl) (by decide) (by decide)) (g := o_g G) rfl (by rw [hml]; rfl) (argsL := [(.ref b_6), (.int 2)]) (rest := [(.ref tt)]) (lenOf pd_2 rfl) rfl (by show 2 * 0 + _ ≤ _; exact Nat.le_of_eq rfl) (hb hby d3_45) (fun _ _ => ⟨rfl, rfl, (by decide : 2 + 0 ≤ _), (by decide : 6 + 0 ≤ _)⟩)
  dsimp only [Pt.U, Pt.locs, Pt.cells, Pt.slots] at X9 l9 y9 z9 st9 hQ9
  subst l9 y9 z9
  obtain ⟨rfl, N9q, e9⟩ := hQ9
  have N9 := Fr.app N6 N9q
  replace G := o_nxs (q := 48) (st := [(.int 1), (.ref tt)]) G st9 rfl
  have F10 := (P7.keep K6q)
  have F11 := (P6.keep K6q nin0)
  obtain ⟨T12, h12, X12, e12, W12, st12⟩ := putFN X9 hx hZ hown (o_w hw 26 rfl) Via.refl e9 F11 F10 (Or.inr ⟨(o_w hw 22 rfl), rfl, hnm⟩) (o_w hw 6 rfl) (ty := .byte) (v' := (.int 1)) (by decide) rfl (by first | rfl | decide) (g := o_g G) rfl rfl (hb hby d3_48)
  have N12 := Fr.snoc X12 N9 P8
  have Z12 : n0 ≤ h12.size := Nat.le_trans Z6 (Keep.of_wr W12).1
  have K12 : Keep h0 h12 [tt] := K6.wr W12 (Or.inl (List.mem_of_getElem? (i := 0) rfl))
  have F12 : Fld Z h12 tt o_n1 "coder" "B" (.int 1) := F11.same W12
  replace G := o_nxs (q := 51) (st := []) G st12 rfl
  replace G := o_aloadN (q := 52) G X12.here hx (hb hby d3_51) rfl rfl rfl
  replace G := o_aload (q := 54) G X12.here hx (hb hby d3_52) rfl rfl rfl
  have F13 := (F10.wr W12)
  have F14 := ((P5.keep K6q nin0).other W12 (Or.inr (slot_ne (Or.inr (o_w hw 21 rfl)) (Or.inr (o_w hw 22 rfl)) (by decide) (t := (.array .byte)) (t' := .byte) (by decide) (by decide))))
  obtain ⟨T15, h15, X15, e15, W15, st15⟩ := putF X12 hx hZ hown (host := "") (Or.inl (o_w hw 25 rfl)) Via.refl e12 F14 F13 (Or.inr ⟨(o_w hw 21 rfl), rfl, hnm⟩) (o_w hw 6 rfl) (ty := (.array .byte)) (by decide) rfl rfl (g := o_g G) rfl rfl (hb hby d3_54)
  have N15 := Fr.snoc X15 N12 P8
  have Z15 : n0 ≤ h15.size := Nat.le_trans Z12 (Keep.of_wr W15).1
  have K15 : Keep h0 h15 [tt] := K12.wr W15 (Or.inl (List.mem_of_getElem? (i := 0) rfl))
  have F15 : Fld Z h15 tt o_n1 "value" "[B" (.ref b_6) := F14.same W15
  replace G := o_nxs (q := 57) (st := []) G st15 rfl
  obtain ⟨fs, hr, hrun, hended, hW, hsame⟩ := X15.leave (v := none) (fun _ => rfl)
  refine ⟨_, _, G _ (X15.returnOut hx Bd.returns (hb hby d3_57) hr), hrun, hended, _, _, rfl, ?_, ⟨_, rfl⟩, hW, hsame.mono (by decide) (by decide)⟩
  have F16 := (F12.other W15 (Or.inr (slot_ne (Or.inr (o_w hw 22 rfl)) (Or.inr (o_w hw 21 rfl)) (by decide) (t := .byte) (t' := (.array .byte)) (by decide) (by decide))))
  have F17 := ((B6_1.other W12 (Ne.symm ne7)).other W15 (Ne.symm ne7))
  show Q3u2 Z tt a ks cw ec0 ec1 h0 n0 _ T15.heap _
  rw [e15]
  exact ⟨b_6, kb_6, rfl, N15, K15, F15, F16, sz_b_6, F17⟩
theorem ef_2u2 (m : MethodId) (x0 : Addr) (x1 : Addr) : entryFrame m #[(.ref x0), (.ref x1)] 2 = mkF m 0 #[.val (.ref x0), .val (.ref x1)] [] := by first | (simp [entryFrame, mkF, argsToLocals, Value.category]; done) | rfl
def Q2u2 (Z : State) (tt : Addr) (a : Addr) (ks : ClassId) (cw : Int32) (ec0 : Int32) (ec1 : Int32) (h0 : Heap) (n0 : Nat) (v : Option Value) (h : Heap) (L : List Loc) : Prop := ∃ (b : Addr) (kb : ClassId), v = none ∧ Fr n0 L ∧ Keep h0 h [tt] ∧ (Fld Z h tt o_n1 "value" "[B" (.ref b)) ∧ (Fld Z h tt o_n1 "coder" "B" (.int 1)) ∧ h0.size ≤ b ∧ (Arv Z h b kb .byte (4 : Int32) [(.int (nar .byte ((ec0 >>> ((0 : Int32) &&& 31)).toInt8.toInt32))), (.int (nar .byte ((ec0 >>> ((8 : Int32) &&& 31)).toInt8.toInt32))), (.int (nar .byte ((ec1 >>> ((0 : Int32) &&& 31)).toInt8.toInt32))), (.int (nar .byte ((ec1 >>> ((8 : Int32) &&& 31)).toInt8.toInt32)))] (.int 0))
set_option maxRecDepth 65536 in
set_option maxHeartbeats 40000000 in
theorem rm2u2 (l : Launch) (Z : State) (a0 : Array Value) (hw : ∀ d ∈ tables_1, d.before a0 Z = true) (ws : List Jvm.Cond) (tt : Addr) (a : Addr) (ks : ClassId) (cw : Int32) (ec0 : Int32) (ec1 : Int32) (h0 : Heap) (n0 : Nat) (Z0 : n0 ≤ h0.size) (P0 : Old Z n0 h0) (P1 : Sta Z Z.heap o_n0 "$assertionsDisabled" "Z" (.int 1)) (P2 : Sta Z Z.heap o_n0 "HI_BYTE_SHIFT" "I" (.int 0)) (P3 : Sta Z Z.heap o_n0 "LO_BYTE_SHIFT" "I" (.int 8)) (P4 : Sta Z Z.heap o_n1 "COMPACT_STRINGS" "Z" (.int cw)) (P5 : Fld Z h0 tt o_n1 "value" "[B" .null) (P6 : Fld Z h0 tt o_n1 "coder" "B" (.int 0)) (P7 : Exa Z h0 tt o_n1) (P8 : n0 ≤ tt) (P9 : Arv Z h0 a ks .char (2 : Int32) [(.int ec0), (.int ec1)] (.int 0)) (hcw : ¬ cw = (0 : Int32)) (hU : (((255 : Int32) < ec0)) ∨ (¬ ((255 : Int32) < ec0) ∧ ((255 : Int32) < ec1))) (hr0 : 0 ≤ ec0.toInt ∧ ec0.toInt < 65536) (hr1 : 0 ≤ ec1.toInt ∧ ec1.toInt < 65536) :
    MetFree l (⟨o_n1, "<init>", "([C)V"⟩ : MethodName) (head1 (Jvm.Cond.code (⟨o_n1, "<init>", "([C)V"⟩ : MethodName) jdk_42_method_3_code 2 none :: ws) ({ frames := 5, cells := 2, slots := 6, locals := 74 } : Room)) (fun argz U => argz = #[(.ref tt), (.ref a)] ∧ Z.Warmed39 U.vm ∧ U.heap = h0) (fun _ _ _ _ _ => True) (fun _ U o U' => ∃ v L, o = .returned v ∧ Q2u2 Z tt a ks cw ec0 ec1 h0 n0 v U'.heap L ∧ FrameEnd U o U' L ({ frames := 5, cells := 2, slots := 6, locals := 74 } : Room).cells ({ frames := 5, cells := 2, slots := 6, locals := 74 } : Room).slots) := by
  refine MetFree.of_bodySF (plainFor_of_name pn_java_lang_String) hisR ?_
  intro p e s m args below meth c s₁ Bd hml0 hP hK
  obtain ⟨rfl, hZ, hh⟩ := hP
  have hx := Bd.exec
  have hby := Bd.bytes
  have hml : c.maxLocals = 2 := hml0
  have hown : s.vm.findClass o_n1 = some m.cls := findClass_of_methodNamed Bd.named
  have hnm := (name_of_methodNamed Bd.named Bd.method).1
  have X0 : Stand p l e ({ frames := 5, cells := 2, slots := 6, locals := 74 } : Room) s m #[(.ref tt), (.ref a)] below meth c s₁ [] 0 0 := Stand.of_body Bd
  have e0 : s₁.heap = h0 := by rw [← hh, Bd.state]; rfl
  have N0 := Fr.nil n0
  have K0 : Keep h0 h0 [tt] := Keep.refl _ _
  have G : Gets p e below (s₁.setTop (entryFrame m #[(.ref tt), (.ref a)] 2)) (s₁.setTop (mkF m 0 #[.val (.ref tt), .val (.ref a)] [])) := fun t k => castTop (ef_2u2 m tt a) k
  replace G := o_aloadN (q := 1) G X0.here hx (hb hby d2_0) rfl rfl rfl
  replace G := o_aloadN (q := 2) G X0.here hx (hb hby d2_1) rfl rfl rfl
  replace G := o_iconst (q := 3) G X0.here hx (hb hby d2_2) (v := (0 : Int32)) (by decide) rfl
  replace G := o_aloadN (q := 4) G X0.here hx (hb hby d2_3) rfl rfl rfl
  obtain ⟨c1, Ar1, -, S1, N1', -, -⟩ := id P9
  replace G : Gets p e below _ (s₁.setTop (mkF m 5 #[.val (.ref tt), .val (.ref a)] [(.int 2), (.int 0), (.ref a), (.ref tt)])) := fun t k => G t (X0.arraylength hx (by rw [e0]; exact Ar1.1) (State.isArrayOf_alike hZ.alike Ar1.2.1) (g := o_g G) rfl rfl (hb hby d2_4) t (by rw [len_of S1 N1']; exact k))
  replace G := o_aconst_null (q := 6) G X0.here hx (hb hby d2_5) rfl
  obtain ⟨_, _, ⟨T2, L2, kk2, nn2⟩, -, X2, ⟨Lc2, hQ2, l2, y2, z2⟩, st2⟩ := X0.specialBack hx (y := (⟨o_n1, "<init>", "([CIILjava/lang/Void;)V"⟩ : MethodName)) rfl hown (mvT hZ (o_w hw 12 rfl)) (mvT hZ (o_w hw 13 rfl)) (mvT hZ (o_w hw 15 rfl)) (by decide) (backOf (W := 0) (rm3u2 l Z a0 hw [] tt a ks cw ec0 ec1 h0 n0 Z0 P0 P1 P2 P3 P4 P5 P6 P7 P8 P9 hcw hU hr0 hr1) hZ (o_w hw 15 rfl) (o_w hw 7 rfl) (by decide) (by decide)) (g := o_g G) rfl (by rw [hml]; rfl) (Steps.refl _) (a := tt) (argsL := [(.ref a), (.int 0), (.int 2), .null]) (rest := []) (lenOf pd_3 rfl) rfl (by show 2 * 0 + _ ≤ _; exact Nat.le_of_eq rfl) (hb hby d2_6) (fun _ _ => ⟨rfl, e0, (by decide : 0 + 2 ≤ _), (by decide : 0 + 6 ≤ _)⟩)
  dsimp only [Pt.U, Pt.locs, Pt.cells, Pt.slots] at X2 l2 y2 z2 st2 hQ2
  subst l2 y2 z2
  obtain ⟨b_2, kb_2, rfl, N2q, K2q, B2_0, B2_1, B2_2, B2_3⟩ := hQ2
  have ne3 : tt ≠ b_2 := Nat.ne_of_lt (Nat.lt_of_lt_of_le P5.lt B2_2)
  have ne4 : a ≠ b_2 := Nat.ne_of_lt (Nat.lt_of_lt_of_le P9.lt B2_2)
  have ge_b_2 : n0 ≤ b_2 := Nat.le_trans Z0 B2_2
  have sz_b_2 : h0.size ≤ b_2 := Nat.le_trans K0.1 B2_2
  have Z2 : n0 ≤ T2.heap.size := Nat.le_trans Z0 K2q.1
  have K2 : Keep h0 T2.heap [tt] := K0.trans K2q (allS (Or.inl (List.mem_of_getElem? (i := 0) rfl)) all0)
  have N2 := Fr.app N0 N2q
  replace G := o_nxv (q := 9) (st := []) G st2 rfl
  obtain ⟨fs, hr, hrun, hended, hW, hsame⟩ := X2.leave (v := none) (fun _ => rfl)
  refine ⟨_, _, G _ (X2.returnOut hx Bd.returns (hb hby d2_9) hr), hrun, hended, _, _, rfl, ?_, ⟨_, rfl⟩, hW, hsame.mono (by decide) (by decide)⟩
  show Q2u2 Z tt a ks cw ec0 ec1 h0 n0 _ T2.heap _
  exact ⟨b_2, kb_2, rfl, N2, K2, B2_0, B2_1, sz_b_2, B2_3⟩
theorem ef_6n3 (m : MethodId) (x0 : Addr) (x2 : Addr) : entryFrame m #[(.ref x0), (.int 0), (.ref x2), (.int 0), (.int 3)] 7 = mkF m 0 #[.val (.ref x0), .val (.int 0), .val (.ref x2), .val (.int 0), .val (.int 3), .unset, .unset] [] := by first | (simp [entryFrame, mkF, argsToLocals, Value.category]; done) | rfl
def Q6n3 (Z : State) (a : Addr) (d : Addr) (ks : ClassId) (kd : ClassId) (ec0 : Int32) (ec1 : Int32) (ec2 : Int32) (h0 : Heap) (n0 : Nat) (v : Option Value) (h : Heap) (L : List Loc) : Prop := v = some (.int 3) ∧ Fr n0 L ∧ Keep h0 h [d] ∧ (Arv Z h d kd .byte (3 : Int32) [(.int (nar .byte (ec0.toInt8.toInt32))), (.int (nar .byte (ec1.toInt8.toInt32))), (.int (nar .byte (ec2.toInt8.toInt32)))] (.int 0))
set_option maxRecDepth 65536 in
set_option maxHeartbeats 40000000 in
theorem rm6n3 (l : Launch) (Z : State) (a0 : Array Value) (hw : ∀ d ∈ tables_1, d.before a0 Z = true) (ws : List Jvm.Cond) (a : Addr) (d : Addr) (ks : ClassId) (kd : ClassId) (ec0 : Int32) (ec1 : Int32) (ec2 : Int32) (h0 : Heap) (n0 : Nat) (Z0 : n0 ≤ h0.size) (P0 : Arv Z h0 a ks .char (3 : Int32) [(.int ec0), (.int ec1), (.int ec2)] (.int 0)) (P1 : Arv Z h0 d kd .byte (3 : Int32) [(.int 0), (.int 0), (.int 0)] (.int 0)) (P2 : n0 ≤ d) (P3 : a ≠ d) (he0 : ¬ ((255 : Int32) < ec0)) (he1 : ¬ ((255 : Int32) < ec1)) (he2 : ¬ ((255 : Int32) < ec2)) :
    MetFree l (⟨o_n0, "compress", "([CI[BII)I"⟩ : MethodName) (head1 (Jvm.Cond.code (⟨o_n0, "compress", "([CI[BII)I"⟩ : MethodName) jdk_52_method_21_code 7 (some .int) :: ws) ({ frames := 0, cells := 0, slots := 0, locals := 0 } : Room)) (fun argz U => argz = #[(.ref a), (.int 0), (.ref d), (.int 0), (.int 3)] ∧ Z.Warmed39 U.vm ∧ U.heap = h0) (fun _ _ _ _ _ => True) (fun _ U o U' => ∃ v L, o = .returned v ∧ Q6n3 Z a d ks kd ec0 ec1 ec2 h0 n0 v U'.heap L ∧ FrameEnd U o U' L ({ frames := 0, cells := 0, slots := 0, locals := 0 } : Room).cells ({ frames := 0, cells := 0, slots := 0, locals := 0 } : Room).slots) := by
  refine MetFree.of_bodySF (plainFor_of_name pn_java_lang_StringUTF16) hisR ?_
  intro p e s m args below meth c s₁ Bd hml0 hP hK
  obtain ⟨rfl, hZ, hh⟩ := hP
  have hx := Bd.exec
  have hby := Bd.bytes
  have hml : c.maxLocals = 7 := hml0
  have hown : s.vm.findClass o_n0 = some m.cls := findClass_of_methodNamed Bd.named
  have hnm := (name_of_methodNamed Bd.named Bd.method).1
  have X0 : Stand p l e ({ frames := 0, cells := 0, slots := 0, locals := 0 } : Room) s m #[(.ref a), (.int 0), (.ref d), (.int 0), (.int 3)] below meth c s₁ [] 0 0 := Stand.of_body Bd
  have e0 : s₁.heap = h0 := by rw [← hh, Bd.state]; rfl
  have N0 := Fr.nil n0
  have K0 : Keep h0 h0 [d] := Keep.refl _ _
  have G : Gets p e below (s₁.setTop (entryFrame m #[(.ref a), (.int 0), (.ref d), (.int 0), (.int 3)] 7)) (s₁.setTop (mkF m 0 #[.val (.ref a), .val (.int 0), .val (.ref d), .val (.int 0), .val (.int 3), .unset, .unset] [])) := fun t k => castTop (ef_6n3 m a d) k
  replace G := o_iconst (q := 1) G X0.here hx (hb hby d6_0) (v := (0 : Int32)) (by decide) rfl
  replace G := o_istore (q := 3) (l' := #[.val (.ref a), .val (.int 0), .val (.ref d), .val (.int 0), .val (.int 3), .val (.int 0), .unset]) G X0.here hx (hb hby d6_1) rfl rfl
  replace G := o_iload (q := 5) G X0.here hx (hb hby d6_3) rfl rfl
  replace G := o_iload (q := 7) G X0.here hx (hb hby d6_5) rfl rfl
  replace G := o_icmpNo (q := 10) G X0.here hx (hb hby d6_7) (by decide) rfl
  replace G := o_aloadN (q := 11) G X0.here hx (hb hby d6_10) rfl rfl rfl
  replace G := o_iloadN (q := 12) G X0.here hx (hb hby d6_11) rfl rfl
  obtain ⟨c2, Ar2, -, S2, -, H2, -⟩ := id P0
  have hin2 : ¬ ((0 : Int32) < 0 ∨ c2.slots.size ≤ ((0 : Int32)).toNatClampNeg) := inb_of S2 ⟨by decide, by decide⟩
  replace G := o_nxs (q := 13) (st := [(.int ec0)]) G (X0.caload hx (j := (0 : Int32)) (v := (.int ec0)) (by rw [e0]; exact Ar2.1) (State.isArrayOf_alike hZ.alike Ar2.2.1) Ar2.2.2 hin2 (Has.at H2 hin2 rfl) (g := o_g G) rfl rfl (hb hby d6_12)) rfl
  replace G := o_istore (q := 15) (l' := #[.val (.ref a), .val (.int 0), .val (.ref d), .val (.int 0), .val (.int 3), .val (.int 0), .val (.int ec0)]) G X0.here hx (hb hby d6_13) rfl rfl
  replace G := o_iload (q := 17) G X0.here hx (hb hby d6_15) rfl rfl
  replace G := o_sipush (q := 20) G X0.here hx (hb hby d6_17) (v := (255 : Int32)) (by decide) rfl
  have hc20_3 : ¬ ((255 : Int32) < ec0) := he0
  replace G := o_icmpYes (q := 26) G X0.here hx (hb hby d6_20) (flt hc20_3).2.2.2 (by decide) (by decide)
  replace G := o_aloadN (q := 27) G X0.here hx (hb hby d6_26) rfl rfl rfl
  replace G := o_iloadN (q := 28) G X0.here hx (hb hby d6_27) rfl rfl
  replace G := o_iload (q := 30) G X0.here hx (hb hby d6_28) rfl rfl
  replace G := o_i2b (q := 31) G X0.here hx (hb hby d6_30) rfl rfl
  obtain ⟨c4, Ar4, q4, S4, N4', H4, G4'⟩ := id P1
  have hin4 : ¬ ((0 : Int32) < 0 ∨ c4.slots.size ≤ ((0 : Int32)).toNatClampNeg) := inb_of S4 ⟨by decide, by decide⟩
  obtain ⟨T4, h4, X4, e4, W4, st4⟩ := stB X0 hx hZ e0 Ar4 (j := (0 : Int32)) hin4 (g := o_g G) rfl rfl (hb hby d6_31)
  have N4 := Fr.snoc X4 N0 P2
  have Z4 : n0 ≤ h4.size := Nat.le_trans Z0 (Keep.of_wr W4).1
  have K4 : Keep h0 h4 [d] := K0.wr W4 (Or.inl (List.mem_of_getElem? (i := 0) rfl))
  have V4 : Arv Z h4 d kd .byte (3 : Int32) [(.int (nar .byte (ec0.toInt8.toInt32))), (.int 0), (.int 0)] (.int 0) := Arv.set Ar4 q4 S4 N4' H4 G4' (fits_nar_byte _) W4 0 rfl (Nat.le_of_ble_eq_true rfl)
  replace G := o_nxs (q := 32) (st := []) G st4 rfl
  replace G := o_iinc (q := 35) (l' := #[.val (.ref a), .val (.int 1), .val (.ref d), .val (.int 0), .val (.int 3), .val (.int 0), .val (.int ec0)]) (w := (1 : Int32)) G X4.here hx (hb hby d6_32) (by decide) rfl (by decide : ((0 : Int32) + (1 : Int32)) = (1 : Int32)) rfl rfl
  replace G := o_iinc (q := 38) (l' := #[.val (.ref a), .val (.int 1), .val (.ref d), .val (.int 1), .val (.int 3), .val (.int 0), .val (.int ec0)]) (w := (1 : Int32)) G X4.here hx (hb hby d6_35) (by decide) rfl (by decide : ((0 : Int32) + (1 : Int32)) = (1 : Int32)) rfl rfl
  replace G := o_iinc (q := 41) (l' := #[.val (.ref a), .val (.int 1), .val (.ref d), .val (.int 1), .val (.int 3), .val (.int 1), .val (.int ec0)]) (w := (1 : Int32)) G X4.here hx (hb hby d6_38) (by decide) rfl (by decide : ((0 : Int32) + (1 : Int32)) = (1 : Int32)) rfl rfl
  replace G := o_goto (q := 3) G X4.here hx (hb hby d6_41) (by decide) (by decide)
  replace G := o_iload (q := 5) G X4.here hx (hb hby d6_3) rfl rfl
  replace G := o_iload (q := 7) G X4.here hx (hb hby d6_5) rfl rfl
  replace G := o_icmpNo (q := 10) G X4.here hx (hb hby d6_7) (by decide) rfl
  replace G := o_aloadN (q := 11) G X4.here hx (hb hby d6_10) rfl rfl rfl
  replace G := o_iloadN (q := 12) G X4.here hx (hb hby d6_11) rfl rfl
  have F6 := (P0.other W4 P3)
  obtain ⟨c7, Ar7, -, S7, -, H7, -⟩ := id F6
  have hin7 : ¬ ((1 : Int32) < 0 ∨ c7.slots.size ≤ ((1 : Int32)).toNatClampNeg) := inb_of S7 ⟨by decide, by decide⟩
  replace G := o_nxs (q := 13) (st := [(.int ec1)]) G (X4.caload hx (j := (1 : Int32)) (v := (.int ec1)) (by rw [e4]; exact Ar7.1) (State.isArrayOf_alike hZ.alike Ar7.2.1) Ar7.2.2 hin7 (Has.at H7 hin7 rfl) (g := o_g G) rfl rfl (hb hby d6_12)) rfl
  replace G := o_istore (q := 15) (l' := #[.val (.ref a), .val (.int 1), .val (.ref d), .val (.int 1), .val (.int 3), .val (.int 1), .val (.int ec1)]) G X4.here hx (hb hby d6_13) rfl rfl
  replace G := o_iload (q := 17) G X4.here hx (hb hby d6_15) rfl rfl
  replace G := o_sipush (q := 20) G X4.here hx (hb hby d6_17) (v := (255 : Int32)) (by decide) rfl
  have hc20_8 : ¬ ((255 : Int32) < ec1) := he1
  replace G := o_icmpYes (q := 26) G X4.here hx (hb hby d6_20) (flt hc20_8).2.2.2 (by decide) (by decide)
  replace G := o_aloadN (q := 27) G X4.here hx (hb hby d6_26) rfl rfl rfl
  replace G := o_iloadN (q := 28) G X4.here hx (hb hby d6_27) rfl rfl
  replace G := o_iload (q := 30) G X4.here hx (hb hby d6_28) rfl rfl
  replace G := o_i2b (q := 31) G X4.here hx (hb hby d6_30) rfl rfl
  obtain ⟨c9, Ar9, q9, S9, N9', H9, G9'⟩ := id V4
  have hin9 : ¬ ((1 : Int32) < 0 ∨ c9.slots.size ≤ ((1 : Int32)).toNatClampNeg) := inb_of S9 ⟨by decide, by decide⟩
  obtain ⟨T9, h9, X9, e9, W9, st9⟩ := stB X4 hx hZ e4 Ar9 (j := (1 : Int32)) hin9 (g := o_g G) rfl rfl (hb hby d6_31)
  have N9 := Fr.snoc X9 N4 P2
  have Z9 : n0 ≤ h9.size := Nat.le_trans Z4 (Keep.of_wr W9).1
  have K9 : Keep h0 h9 [d] := K4.wr W9 (Or.inl (List.mem_of_getElem? (i := 0) rfl))
  have V9 : Arv Z h9 d kd .byte (3 : Int32) [(.int (nar .byte (ec0.toInt8.toInt32))), (.int (nar .byte (ec1.toInt8.toInt32))), (.int 0)] (.int 0) := Arv.set Ar9 q9 S9 N9' H9 G9' (fits_nar_byte _) W9 1 rfl (Nat.le_of_ble_eq_true rfl)
  replace G := o_nxs (q := 32) (st := []) G st9 rfl
  replace G := o_iinc (q := 35) (l' := #[.val (.ref a), .val (.int 2), .val (.ref d), .val (.int 1), .val (.int 3), .val (.int 1), .val (.int ec1)]) (w := (1 : Int32)) G X9.here hx (hb hby d6_32) (by decide) rfl (by decide : ((1 : Int32) + (1 : Int32)) = (2 : Int32)) rfl rfl
  replace G := o_iinc (q := 38) (l' := #[.val (.ref a), .val (.int 2), .val (.ref d), .val (.int 2), .val (.int 3), .val (.int 1), .val (.int ec1)]) (w := (1 : Int32)) G X9.here hx (hb hby d6_35) (by decide) rfl (by decide : ((1 : Int32) + (1 : Int32)) = (2 : Int32)) rfl rfl
  replace G := o_iinc (q := 41) (l' := #[.val (.ref a), .val (.int 2), .val (.ref d), .val (.int 2), .val (.int 3), .val (.int 2), .val (.int ec1)]) (w := (1 : Int32)) G X9.here hx (hb hby d6_38) (by decide) rfl (by decide : ((1 : Int32) + (1 : Int32)) = (2 : Int32)) rfl rfl
  replace G := o_goto (q := 3) G X9.here hx (hb hby d6_41) (by decide) (by decide)
  replace G := o_iload (q := 5) G X9.here hx (hb hby d6_3) rfl rfl
  replace G := o_iload (q := 7) G X9.here hx (hb hby d6_5) rfl rfl
  replace G := o_icmpNo (q := 10) G X9.here hx (hb hby d6_7) (by decide) rfl
  replace G := o_aloadN (q := 11) G X9.here hx (hb hby d6_10) rfl rfl rfl
  replace G := o_iloadN (q := 12) G X9.here hx (hb hby d6_11) rfl rfl
  have F11 := (F6.other W9 P3)
  obtain ⟨c12, Ar12, -, S12, -, H12, -⟩ := id F11
  have hin12 : ¬ ((2 : Int32) < 0 ∨ c12.slots.size ≤ ((2 : Int32)).toNatClampNeg) := inb_of S12 ⟨by decide, by decide⟩
  replace G := o_nxs (q := 13) (st := [(.int ec2)]) G (X9.caload hx (j := (2 : Int32)) (v := (.int ec2)) (by rw [e9]; exact Ar12.1) (State.isArrayOf_alike hZ.alike Ar12.2.1) Ar12.2.2 hin12 (Has.at H12 hin12 rfl) (g := o_g G) rfl rfl (hb hby d6_12)) rfl
  replace G := o_istore (q := 15) (l' := #[.val (.ref a), .val (.int 2), .val (.ref d), .val (.int 2), .val (.int 3), .val (.int 2), .val (.int ec2)]) G X9.here hx (hb hby d6_13) rfl rfl
  replace G := o_iload (q := 17) G X9.here hx (hb hby d6_15) rfl rfl
  replace G := o_sipush (q := 20) G X9.here hx (hb hby d6_17) (v := (255 : Int32)) (by decide) rfl
  have hc20_13 : ¬ ((255 : Int32) < ec2) := he2
  replace G := o_icmpYes (q := 26) G X9.here hx (hb hby d6_20) (flt hc20_13).2.2.2 (by decide) (by decide)
  replace G := o_aloadN (q := 27) G X9.here hx (hb hby d6_26) rfl rfl rfl
  replace G := o_iloadN (q := 28) G X9.here hx (hb hby d6_27) rfl rfl
  replace G := o_iload (q := 30) G X9.here hx (hb hby d6_28) rfl rfl
  replace G := o_i2b (q := 31) G X9.here hx (hb hby d6_30) rfl rfl
  obtain ⟨c14, Ar14, q14, S14, N14', H14, G14'⟩ := id V9
  have hin14 : ¬ ((2 : Int32) < 0 ∨ c14.slots.size ≤ ((2 : Int32)).toNatClampNeg) := inb_of S14 ⟨by decide, by decide⟩
  obtain ⟨T14, h14, X14, e14, W14, st14⟩ := stB X9 hx hZ e9 Ar14 (j := (2 : Int32)) hin14 (g := o_g G) rfl rfl (hb hby d6_31)
  have N14 := Fr.snoc X14 N9 P2
  have Z14 : n0 ≤ h14.size := Nat.le_trans Z9 (Keep.of_wr W14).1
  have K14 : Keep h0 h14 [d] := K9.wr W14 (Or.inl (List.mem_of_getElem? (i := 0) rfl))
  have V14 : Arv Z h14 d kd .byte (3 : Int32) [(.int (nar .byte (ec0.toInt8.toInt32))), (.int (nar .byte (ec1.toInt8.toInt32))), (.int (nar .byte (ec2.toInt8.toInt32)))] (.int 0) := Arv.set Ar14 q14 S14 N14' H14 G14' (fits_nar_byte _) W14 2 rfl (Nat.le_of_ble_eq_true rfl)
  replace G := o_nxs (q := 32) (st := []) G st14 rfl
  replace G := o_iinc (q := 35) (l' := #[.val (.ref a), .val (.int 3), .val (.ref d), .val (.int 2), .val (.int 3), .val (.int 2), .val (.int ec2)]) (w := (1 : Int32)) G X14.here hx (hb hby d6_32) (by decide) rfl (by decide : ((2 : Int32) + (1 : Int32)) = (3 : Int32)) rfl rfl
  replace G := o_iinc (q := 38) (l' := #[.val (.ref a), .val (.int 3), .val (.ref d), .val (.int 3), .val (.int 3), .val (.int 2), .val (.int ec2)]) (w := (1 : Int32)) G X14.here hx (hb hby d6_35) (by decide) rfl (by decide : ((2 : Int32) + (1 : Int32)) = (3 : Int32)) rfl rfl
  replace G := o_iinc (q := 41) (l' := #[.val (.ref a), .val (.int 3), .val (.ref d), .val (.int 3), .val (.int 3), .val (.int 3), .val (.int ec2)]) (w := (1 : Int32)) G X14.here hx (hb hby d6_38) (by decide) rfl (by decide : ((2 : Int32) + (1 : Int32)) = (3 : Int32)) rfl rfl
  replace G := o_goto (q := 3) G X14.here hx (hb hby d6_41) (by decide) (by decide)
  replace G := o_iload (q := 5) G X14.here hx (hb hby d6_3) rfl rfl
  replace G := o_iload (q := 7) G X14.here hx (hb hby d6_5) rfl rfl
  replace G := o_icmpYes (q := 44) G X14.here hx (hb hby d6_7) (by decide) (by decide) (by decide)
  replace G := o_iload (q := 46) G X14.here hx (hb hby d6_44) rfl rfl
  obtain ⟨fs, hr, hrun, hended, hW, hsame⟩ := X14.leave (v := some (.int 3)) (fun h => by rw [Bd.returns] at h; cases h)
  refine ⟨_, _, G _ (retOut X14 hx Bd.returns rfl (Or.inl ⟨rfl, Or.inl rfl, _, rfl⟩) (hb hby d6_46) hr), hrun, hended, _, _, rfl, ?_, ⟨_, rfl⟩, hW, hsame.mono (by decide) (by decide)⟩
  show Q6n3 Z a d ks kd ec0 ec1 ec2 h0 n0 _ T14.heap _
  rw [e14]
  exact ⟨rfl, N14, K14, V14⟩
theorem ef_5n3 (m : MethodId) (x0 : Addr) : entryFrame m #[(.ref x0), (.int 0), (.int 3)] 6 = mkF m 0 #[.val (.ref x0), .val (.int 0), .val (.int 3), .unset, .unset, .unset] [] := by first | (simp [entryFrame, mkF, argsToLocals, Value.category]; done) | rfl
def Q5n3 (Z : State) (a : Addr) (ks : ClassId) (ec0 : Int32) (ec1 : Int32) (ec2 : Int32) (h0 : Heap) (n0 : Nat) (v : Option Value) (h : Heap) (L : List Loc) : Prop := ∃ (b : Addr) (kb : ClassId), v = some (.ref b) ∧ Fr n0 L ∧ Keep h0 h [] ∧ h0.size ≤ b ∧ (Arv Z h b kb .byte (3 : Int32) [(.int (nar .byte (ec0.toInt8.toInt32))), (.int (nar .byte (ec1.toInt8.toInt32))), (.int (nar .byte (ec2.toInt8.toInt32)))] (.int 0))
set_option maxRecDepth 65536 in
set_option maxHeartbeats 40000000 in
theorem rm5n3 (l : Launch) (Z : State) (a0 : Array Value) (hw : ∀ d ∈ tables_1, d.before a0 Z = true) (ws : List Jvm.Cond) (a : Addr) (ks : ClassId) (ec0 : Int32) (ec1 : Int32) (ec2 : Int32) (h0 : Heap) (n0 : Nat) (Z0 : n0 ≤ h0.size) (P0 : Arv Z h0 a ks .char (3 : Int32) [(.int ec0), (.int ec1), (.int ec2)] (.int 0)) (he0 : ¬ ((255 : Int32) < ec0)) (he1 : ¬ ((255 : Int32) < ec1)) (he2 : ¬ ((255 : Int32) < ec2)) :
    MetFree l (⟨o_n0, "compress", "([CII)[B"⟩ : MethodName) (head1 (Jvm.Cond.code (⟨o_n0, "compress", "([CII)[B"⟩ : MethodName) jdk_52_method_16_code 6 (some (.array .byte)) :: ws) ({ frames := 1, cells := 1, slots := 3, locals := 18 } : Room)) (fun argz U => argz = #[(.ref a), (.int 0), (.int 3)] ∧ Z.Warmed39 U.vm ∧ U.heap = h0) (fun _ _ _ _ _ => True) (fun _ U o U' => ∃ v L, o = .returned v ∧ Q5n3 Z a ks ec0 ec1 ec2 h0 n0 v U'.heap L ∧ FrameEnd U o U' L ({ frames := 1, cells := 1, slots := 3, locals := 18 } : Room).cells ({ frames := 1, cells := 1, slots := 3, locals := 18 } : Room).slots) := by
  refine MetFree.of_bodySF (plainFor_of_name pn_java_lang_StringUTF16) hisR ?_
  intro p e s m args below meth c s₁ Bd hml0 hP hK
  obtain ⟨rfl, hZ, hh⟩ := hP
  have hx := Bd.exec
  have hby := Bd.bytes
  have hml : c.maxLocals = 6 := hml0
  have hown : s.vm.findClass o_n0 = some m.cls := findClass_of_methodNamed Bd.named
  have hnm := (name_of_methodNamed Bd.named Bd.method).1
  have X0 : Stand p l e ({ frames := 1, cells := 1, slots := 3, locals := 18 } : Room) s m #[(.ref a), (.int 0), (.int 3)] below meth c s₁ [] 0 0 := Stand.of_body Bd
  have e0 : s₁.heap = h0 := by rw [← hh, Bd.state]; rfl
  have N0 := Fr.nil n0
  have K0 : Keep h0 h0 [] := Keep.refl _ _
  have G : Gets p e below (s₁.setTop (entryFrame m #[(.ref a), (.int 0), (.int 3)] 6)) (s₁.setTop (mkF m 0 #[.val (.ref a), .val (.int 0), .val (.int 3), .unset, .unset, .unset] [])) := fun t k => castTop (ef_5n3 m a) k
  replace G := o_iloadN (q := 1) G X0.here hx (hb hby d5_0) rfl rfl
  obtain ⟨T1, h1, k1, X1, e1, E1, A1, st1⟩ := newP X0 hx hZ (o_w hw 20 rfl) e0 (g := o_g G) rfl (hb hby d5_1) rfl (by decide) (cap := 3) (by decide) (by decide) (by decide) (by decide)
  obtain ⟨b1, g1⟩ : ∃ z, z = h0.size := ⟨_, rfl⟩
  rw [← g1] at A1 st1
  have ne2 : a ≠ b1 := Nat.ne_of_lt (Nat.lt_of_lt_of_le P0.lt (Nat.le_of_eq g1.symm))
  have ge_b1 : n0 ≤ b1 := Nat.le_trans Z0 (Nat.le_of_eq g1.symm)
  have sz_b1 : h0.size ≤ b1 := Nat.le_trans K0.1 (Nat.le_of_eq g1.symm)
  have Z1 : n0 ≤ h1.size := Nat.le_trans Z0 E1.1
  have K1 : Keep h0 h1 [] := K0.ext E1
  have V1 : Arv Z h1 b1 k1 .byte (3 : Int32) [(.int 0), (.int 0), (.int 0)] (.int 0) := (Arv.new A1 (by decide)).pad (pad_rep [] (.int 0) 3)
  replace G := o_nxs (q := 3) (st := [(.ref b1)]) G st1 rfl
  replace G := o_astoreN (q := 4) (l' := #[.val (.ref a), .val (.int 0), .val (.int 3), .val (.ref b1), .unset, .unset]) G X1.here hx (hb hby d5_3) rfl rfl rfl
  replace G := o_aloadN (q := 5) G X1.here hx (hb hby d5_4) rfl rfl rfl
  replace G := o_iloadN (q := 6) G X1.here hx (hb hby d5_5) rfl rfl
  replace G := o_aloadN (q := 7) G X1.here hx (hb hby d5_6) rfl rfl rfl
  replace G := o_iconst (q := 8) G X1.here hx (hb hby d5_7) (v := (0 : Int32)) (by decide) rfl
  replace G := o_iloadN (q := 9) G X1.here hx (hb hby d5_8) rfl rfl
  have F4 := (P0.ext E1)
  obtain ⟨_, _, ⟨T3, L3, kk3, nn3⟩, -, X3, ⟨Lc3, hQ3, l3, y3, z3⟩, st3⟩ := Jvm.LawKit.callS X1 hx (y := (⟨o_n0, "compress", "([CI[BII)I"⟩ : MethodName)) hown (mvT hZ (o_w hw 32 rfl)) (mvT hZ (o_w hw 33 rfl)) (mvT hZ (o_w hw 30 rfl)) (mvT hZ (o_w hw 34 rfl)) (by decide) (backOf (W := 0) (rm6n3 l Z a0 hw [] a b1 ks k1 ec0 ec1 ec2 h1 n0 Z1 F4 V1 ge_b1 ne2 he0 he1 he2) hZ (o_w hw 34 rfl) (o_w hw 30 rfl) (by decide) (by decide)) (g := o_g G) rfl (by rw [hml]; rfl) (argsL := [(.ref a), (.int 0), (.ref b1), (.int 0), (.int 3)]) (rest := []) (lenOf pd_0 rfl) rfl (by show 2 * 0 + _ ≤ _; exact Nat.le_of_eq rfl) (hb hby d5_9) (fun _ _ => ⟨rfl, e1, (by decide : 1 + 0 ≤ _), (by decide : 3 + 0 ≤ _)⟩)
  dsimp only [Pt.U, Pt.locs, Pt.cells, Pt.slots] at X3 l3 y3 z3 st3 hQ3
  subst l3 y3 z3
  obtain ⟨rfl, N3q, K3q, B3_0⟩ := hQ3
  have Z3 : n0 ≤ T3.heap.size := Nat.le_trans Z1 K3q.1
  have K3 : Keep h0 T3.heap [] := K1.trans K3q (allS (Or.inr sz_b1) all0)
  have N3 := Fr.app N0 N3q
  replace G := o_nxs (q := 12) (st := [(.int 3)]) G st3 rfl
  replace G := o_istore (q := 14) (l' := #[.val (.ref a), .val (.int 0), .val (.int 3), .val (.ref b1), .val (.int 3), .unset]) G X3.here hx (hb hby d5_12) rfl rfl
  replace G := o_iload (q := 16) G X3.here hx (hb hby d5_14) rfl rfl
  replace G := o_iloadN (q := 17) G X3.here hx (hb hby d5_16) rfl rfl
  replace G := o_icmpYes (q := 57) G X3.here hx (hb hby d5_17) (by decide) (by decide) (by decide)
  replace G := o_aloadN (q := 58) G X3.here hx (hb hby d5_57) rfl rfl rfl
  obtain ⟨fs, hr, hrun, hended, hW, hsame⟩ := X3.leave (v := some (.ref b1)) (fun h => by rw [Bd.returns] at h; cases h)
  refine ⟨_, _, G _ (retOut X3 hx Bd.returns rfl (Or.inr (Or.inr (Or.inr (Or.inr ⟨rfl, rfl, rfl⟩)))) (hb hby d5_58) hr), hrun, hended, _, _, rfl, ?_, ⟨_, rfl⟩, hW, hsame.mono (by decide) (by decide)⟩
  show Q5n3 Z a ks ec0 ec1 ec2 h0 n0 _ T3.heap _
  exact ⟨b1, k1, rfl, N3, K3, sz_b1, B3_0⟩
theorem ef_12n3 (m : MethodId) (x0 : Addr) : entryFrame m #[(.ref x0), (.int 3)] 2 = mkF m 0 #[.val (.ref x0), .val (.int 3)] [] := by first | (simp [entryFrame, mkF, argsToLocals, Value.category]; done) | rfl
def Q12n3 (Z : State) (d : Addr) (kd : ClassId) (vs : List Value) (h0 : Heap) (n0 : Nat) (v : Option Value) (h : Heap) (L : List Loc) : Prop := v = some (.int 0) ∧ Fr n0 L ∧ h = h0
set_option maxRecDepth 65536 in
set_option maxHeartbeats 40000000 in
theorem rm12n3 (l : Launch) (Z : State) (a0 : Array Value) (hw : ∀ d ∈ tables_1, d.before a0 Z = true) (ws : List Jvm.Cond) (d : Addr) (kd : ClassId) (vs : List Value) (h0 : Heap) (n0 : Nat) (Z0 : n0 ≤ h0.size) (P0 : Arv Z h0 d kd .byte (3 : Int32) vs (.int 0)) :
    MetFree l (⟨o_n0, "coderFromArrayLen", "([BI)B"⟩ : MethodName) (head1 (Jvm.Cond.code (⟨o_n0, "coderFromArrayLen", "([BI)B"⟩ : MethodName) jdk_52_method_15_code 2 (some .byte) :: ws) ({ frames := 0, cells := 0, slots := 0, locals := 0 } : Room)) (fun argz U => argz = #[(.ref d), (.int 3)] ∧ Z.Warmed39 U.vm ∧ U.heap = h0) (fun _ _ _ _ _ => True) (fun _ U o U' => ∃ v L, o = .returned v ∧ Q12n3 Z d kd vs h0 n0 v U'.heap L ∧ FrameEnd U o U' L ({ frames := 0, cells := 0, slots := 0, locals := 0 } : Room).cells ({ frames := 0, cells := 0, slots := 0, locals := 0 } : Room).slots) := by
  refine MetFree.of_bodySF (plainFor_of_name pn_java_lang_StringUTF16) hisR ?_
  intro p e s m args below meth c s₁ Bd hml0 hP hK
  obtain ⟨rfl, hZ, hh⟩ := hP
  have hx := Bd.exec
  have hby := Bd.bytes
  have hml : c.maxLocals = 2 := hml0
  have hown : s.vm.findClass o_n0 = some m.cls := findClass_of_methodNamed Bd.named
  have hnm := (name_of_methodNamed Bd.named Bd.method).1
  have X0 : Stand p l e ({ frames := 0, cells := 0, slots := 0, locals := 0 } : Room) s m #[(.ref d), (.int 3)] below meth c s₁ [] 0 0 := Stand.of_body Bd
  have e0 : s₁.heap = h0 := by rw [← hh, Bd.state]; rfl
  have N0 := Fr.nil n0
  have G : Gets p e below (s₁.setTop (entryFrame m #[(.ref d), (.int 3)] 2)) (s₁.setTop (mkF m 0 #[.val (.ref d), .val (.int 3)] [])) := fun t k => castTop (ef_12n3 m d) k
  replace G := o_iloadN (q := 1) G X0.here hx (hb hby d12_0) rfl rfl
  replace G := o_aloadN (q := 2) G X0.here hx (hb hby d12_1) rfl rfl rfl
  obtain ⟨c1, Ar1, -, S1, N1', -, -⟩ := id P0
  replace G : Gets p e below _ (s₁.setTop (mkF m 3 #[.val (.ref d), .val (.int 3)] [(.int 3), (.int 3)])) := fun t k => G t (X0.arraylength hx (by rw [e0]; exact Ar1.1) (State.isArrayOf_alike hZ.alike Ar1.2.1) (g := o_g G) rfl rfl (hb hby d12_2) t (by rw [len_of S1 N1']; exact k))
  replace G := o_isub (q := 4) G X0.here hx (hb hby d12_3) (by decide : ((3 : Int32) - (3 : Int32)) = (0 : Int32)) rfl
  replace G := o_bipush (q := 6) G X0.here hx (hb hby d12_4) (v := (31 : Int32)) (by decide) rfl
  replace G := o_iushr (q := 7) G X0.here hx (hb hby d12_6) (by decide : (((0 : Int32).toUInt32 >>> ((31 : Int32) &&& 31).toUInt32).toInt32) = (0 : Int32)) rfl
  replace G := o_i2b (q := 8) G X0.here hx (hb hby d12_7) (by decide : ((0 : Int32).toInt8.toInt32) = (0 : Int32)) rfl
  obtain ⟨fs, hr, hrun, hended, hW, hsame⟩ := X0.leave (v := some (.int 0)) (fun h => by rw [Bd.returns] at h; cases h)
  refine ⟨_, _, G _ (retOut X0 hx Bd.returns rfl (Or.inl ⟨rfl, Or.inr (Or.inr (Or.inl rfl)), _, rfl⟩) (hb hby d12_8) hr), hrun, hended, _, _, rfl, ?_, ⟨_, rfl⟩, hW, hsame.mono (by decide) (by decide)⟩
  show Q12n3 Z d kd vs h0 n0 _ s₁.heap _
  rw [e0]
  exact ⟨rfl, N0, rfl⟩
theorem ef_3n3 (m : MethodId) (x0 : Addr) (x1 : Addr) : entryFrame m #[(.ref x0), (.ref x1), (.int 0), (.int 3), .null] 6 = mkF m 0 #[.val (.ref x0), .val (.ref x1), .val (.int 0), .val (.int 3), .val .null, .unset] [] := by first | (simp [entryFrame, mkF, argsToLocals, Value.category]; done) | rfl
def Q3n3 (Z : State) (tt : Addr) (a : Addr) (ks : ClassId) (cw : Int32) (ec0 : Int32) (ec1 : Int32) (ec2 : Int32) (h0 : Heap) (n0 : Nat) (v : Option Value) (h : Heap) (L : List Loc) : Prop := ∃ (b : Addr) (kb : ClassId), v = none ∧ Fr n0 L ∧ Keep h0 h [tt] ∧ (Fld Z h tt o_n1 "value" "[B" (.ref b)) ∧ (Fld Z h tt o_n1 "coder" "B" (.int 0)) ∧ h0.size ≤ b ∧ (Arv Z h b kb .byte (3 : Int32) [(.int (nar .byte (ec0.toInt8.toInt32))), (.int (nar .byte (ec1.toInt8.toInt32))), (.int (nar .byte (ec2.toInt8.toInt32)))] (.int 0))
set_option maxRecDepth 65536 in
set_option maxHeartbeats 40000000 in
theorem rm3n3 (l : Launch) (Z : State) (a0 : Array Value) (hw : ∀ d ∈ tables_1, d.before a0 Z = true) (ws : List Jvm.Cond) (tt : Addr) (a : Addr) (ks : ClassId) (cw : Int32) (ec0 : Int32) (ec1 : Int32) (ec2 : Int32) (h0 : Heap) (n0 : Nat) (Z0 : n0 ≤ h0.size) (P0 : Fld Z h0 tt o_n1 "value" "[B" .null) (P1 : Fld Z h0 tt o_n1 "coder" "B" (.int 0)) (P2 : Exa Z h0 tt o_n1) (P3 : n0 ≤ tt) (P4 : Arv Z h0 a ks .char (3 : Int32) [(.int ec0), (.int ec1), (.int ec2)] (.int 0)) (P5 : Sta Z h0 o_n1 "COMPACT_STRINGS" "Z" (.int cw)) (hcw : ¬ cw = (0 : Int32)) (he0 : ¬ ((255 : Int32) < ec0)) (he1 : ¬ ((255 : Int32) < ec1)) (he2 : ¬ ((255 : Int32) < ec2)) :
    MetFree l (⟨o_n1, "<init>", "([CIILjava/lang/Void;)V"⟩ : MethodName) (head1 (Jvm.Cond.code (⟨o_n1, "<init>", "([CIILjava/lang/Void;)V"⟩ : MethodName) jdk_42_method_149_code 6 none :: ws) ({ frames := 2, cells := 1, slots := 3, locals := 35 } : Room)) (fun argz U => argz = #[(.ref tt), (.ref a), (.int 0), (.int 3), .null] ∧ Z.Warmed39 U.vm ∧ U.heap = h0) (fun _ _ _ _ _ => True) (fun _ U o U' => ∃ v L, o = .returned v ∧ Q3n3 Z tt a ks cw ec0 ec1 ec2 h0 n0 v U'.heap L ∧ FrameEnd U o U' L ({ frames := 2, cells := 1, slots := 3, locals := 35 } : Room).cells ({ frames := 2, cells := 1, slots := 3, locals := 35 } : Room).slots) := by
  refine MetFree.of_bodySF (plainFor_of_name pn_java_lang_String) hisR ?_
  intro p e s m args below meth c s₁ Bd hml0 hP hK
  obtain ⟨rfl, hZ, hh⟩ := hP
  have hx := Bd.exec
  have hby := Bd.bytes
  have hml : c.maxLocals = 6 := hml0
  have hown : s.vm.findClass o_n1 = some m.cls := findClass_of_methodNamed Bd.named
  have hnm := (name_of_methodNamed Bd.named Bd.method).1
  have X0 : Stand p l e ({ frames := 2, cells := 1, slots := 3, locals := 35 } : Room) s m #[(.ref tt), (.ref a), (.int 0), (.int 3), .null] below meth c s₁ [] 0 0 := Stand.of_body Bd
  have e0 : s₁.heap = h0 := by rw [← hh, Bd.state]; rfl
  have N0 := Fr.nil n0
  have K0 : Keep h0 h0 [tt] := Keep.refl _ _
  have G : Gets p e below (s₁.setTop (entryFrame m #[(.ref tt), (.ref a), (.int 0), (.int 3), .null] 6)) (s₁.setTop (mkF m 0 #[.val (.ref tt), .val (.ref a), .val (.int 0), .val (.int 3), .val .null, .unset] [])) := fun t k => castTop (ef_3n3 m tt a) k
  replace G := o_aloadN (q := 1) G X0.here hx (hb hby d3_0) rfl rfl rfl
  obtain ⟨T1, X1, e1, st1⟩ := initO X0 hx hZ hown (o_w hw 16 rfl) (o_w hw 17 rfl) (o_w hw 18 rfl) e0 (g := o_g G) rfl (by rw [hml]; rfl) rfl (hb hby d3_1) (by decide) (W := 0) (by show 2 * 0 + _ ≤ _; exact Nat.le_of_eq rfl) (by decide)
  replace G := o_nxs (q := 4) (st := []) G st1 rfl
  replace G := o_iloadN (q := 5) G X1.here hx (hb hby d3_4) rfl rfl
  replace G := o_ifYes (q := 27) G X1.here hx (hb hby d3_5) (by decide) (by decide) (by decide)
  obtain ⟨T3, X3, e3, st3⟩ := getS2 X1 hx hZ hown (host := "") (Or.inl (o_w hw 27 rfl)) Via.refl e1 P5 (g := o_g G) rfl (hb hby d3_27)
  replace G := o_nxs (q := 30) (st := [(.int cw)]) G st3 rfl
  have hc30_4 : ¬ (cw = (0 : Int32)) := hcw
  replace G := o_ifNo (q := 33) G X3.here hx (hb hby d3_30) ((if0 _ _).trans (feq hc30_4).1) rfl
  replace G := o_aloadN (q := 34) G X3.here hx (hb hby d3_33) rfl rfl rfl
  replace G := o_iloadN (q := 35) G X3.here hx (hb hby d3_34) rfl rfl
  replace G := o_iloadN (q := 36) G X3.here hx (hb hby d3_35) rfl rfl
  obtain ⟨_, _, ⟨T5, L5, kk5, nn5⟩, -, X5, ⟨Lc5, hQ5, l5, y5, z5⟩, st5⟩ := Jvm.LawKit.callS X3 hx (y := (⟨o_n0, "compress", "([CII)[B"⟩ : MethodName)) hown (mvT hZ (o_w hw 28 rfl)) (mvT hZ (o_w hw 29 rfl)) (mvT hZ (o_w hw 30 rfl)) (mvT hZ (o_w hw 31 rfl)) (by decide) (backOf (W := 0) (rm5n3 l Z a0 hw [] a ks ec0 ec1 ec2 h0 n0 Z0 P4 he0 he1 he2) hZ (o_w hw 31 rfl) (o_w hw 30 rfl) (by decide) (by decide)) (g := o_g G) rfl (by rw [hml]; rfl) (argsL := [(.ref a), (.int 0), (.int 3)]) (rest := []) (lenOf pd_1 rfl) rfl (by show 2 * 0 + _ ≤ _; exact Nat.le_of_eq rfl) (hb hby d3_36) (fun _ _ => ⟨rfl, e3, (by decide : 0 + 1 ≤ _), (by decide : 0 + 3 ≤ _)⟩)
  dsimp only [Pt.U, Pt.locs, Pt.cells, Pt.slots] at X5 l5 y5 z5 st5 hQ5
  subst l5 y5 z5
  obtain ⟨b_5, kb_5, rfl, N5q, K5q, B5_0, B5_1⟩ := hQ5
  have ne6 : tt ≠ b_5 := Nat.ne_of_lt (Nat.lt_of_lt_of_le P0.lt B5_0)
  have ne7 : a ≠ b_5 := Nat.ne_of_lt (Nat.lt_of_lt_of_le P4.lt B5_0)
  have ge_b_5 : n0 ≤ b_5 := Nat.le_trans Z0 B5_0
  have sz_b_5 : h0.size ≤ b_5 := Nat.le_trans K0.1 B5_0
  have Z5 : n0 ≤ T5.heap.size := Nat.le_trans Z0 K5q.1
  have K5 : Keep h0 T5.heap [tt] := K0.trans K5q all0
  have N5 := Fr.app N0 N5q
  replace G := o_nxs (q := 39) (st := [(.ref b_5)]) G st5 rfl
  replace G := o_astore (q := 41) (l' := #[.val (.ref tt), .val (.ref a), .val (.int 0), .val (.int 3), .val .null, .val (.ref b_5)]) G X5.here hx (hb hby d3_39) rfl rfl rfl
  replace G := o_aloadN (q := 42) G X5.here hx (hb hby d3_41) rfl rfl rfl
  replace G := o_aload (q := 44) G X5.here hx (hb hby d3_42) rfl rfl rfl
  replace G := o_iloadN (q := 45) G X5.here hx (hb hby d3_44) rfl rfl
  obtain ⟨_, _, ⟨T8, L8, kk8, nn8⟩, -, X8, ⟨Lc8, hQ8, l8, y8, z8⟩, st8⟩ := Jvm.LawKit.callS X5 hx (y := (⟨o_n0, "coderFromArrayLen", "([BI)B"⟩ : MethodName)) hown (mvT hZ (o_w hw 54 rfl)) (mvT hZ (o_w hw 55 rfl)) (mvT hZ (o_w hw 30 rfl)) (mvT hZ (o_w hw 56 rfl)) (by decide) (backOf (W := 1) (rm12n3 l Z a0 hw [] b_5 kb_5 [(.int (nar .byte (ec0.toInt8.toInt32))), (.int (nar .byte (ec1.toInt8.toInt32))), (.int (nar .byte (ec2.toInt8.toInt32)))] T5.heap n0 Z5 B5_1) hZ (o_w hw 56 rfl) (o_w hw 30 rfl) (by decide) (by decide)) (g := o_g G) rfl (by rw [hml]; rfl) (argsL := [(.ref b_5), (.int 3)]) (rest := [(.ref tt)]) (lenOf pd_2 rfl) rfl (by show 2 * 0 + _ ≤ _; exact Nat.le_of_eq rfl) (hb hby d3_45) (fun _ _ => ⟨rfl, rfl, (by decide : 1 + 0 ≤ _), (by decide : 3 + 0 ≤ _)⟩)
  dsimp only [Pt.U, Pt.locs, Pt.cells, Pt.slots] at X8 l8 y8 z8 st8 hQ8
  subst l8 y8 z8
  obtain ⟨rfl, N8q, e8⟩ := hQ8
  have N8 := Fr.app N5 N8q
  replace G := o_nxs (q := 48) (st := [(.int 0), (.ref tt)]) G st8 rfl
  have F9 := (P2.keep K5q)
  have F10 := (P1.keep K5q nin0)
  obtain ⟨T11, h11, X11, e11, W11, st11⟩ := putFN X8 hx hZ hown (o_w hw 26 rfl) Via.refl e8 F10 F9 (Or.inr ⟨(o_w hw 22 rfl), rfl, hnm⟩) (o_w hw 6 rfl) (ty := .byte) (v' := (.int 0)) (by decide) rfl (by first | rfl | decide) (g := o_g G) rfl rfl (hb hby d3_48)
  have N11 := Fr.snoc X11 N8 P3
  have Z11 : n0 ≤ h11.size := Nat.le_trans Z5 (Keep.of_wr W11).1
  have K11 : Keep h0 h11 [tt] := K5.wr W11 (Or.inl (List.mem_of_getElem? (i := 0) rfl))
  have F11 : Fld Z h11 tt o_n1 "coder" "B" (.int 0) := F10.same W11
  replace G := o_nxs (q := 51) (st := []) G st11 rfl
  replace G := o_aloadN (q := 52) G X11.here hx (hb hby d3_51) rfl rfl rfl
  replace G := o_aload (q := 54) G X11.here hx (hb hby d3_52) rfl rfl rfl
  have F12 := (F9.wr W11)
  have F13 := ((P0.keep K5q nin0).other W11 (Or.inr (slot_ne (Or.inr (o_w hw 21 rfl)) (Or.inr (o_w hw 22 rfl)) (by decide) (t := (.array .byte)) (t' := .byte) (by decide) (by decide))))
  obtain ⟨T14, h14, X14, e14, W14, st14⟩ := putF X11 hx hZ hown (host := "") (Or.inl (o_w hw 25 rfl)) Via.refl e11 F13 F12 (Or.inr ⟨(o_w hw 21 rfl), rfl, hnm⟩) (o_w hw 6 rfl) (ty := (.array .byte)) (by decide) rfl rfl (g := o_g G) rfl rfl (hb hby d3_54)
  have N14 := Fr.snoc X14 N11 P3
  have Z14 : n0 ≤ h14.size := Nat.le_trans Z11 (Keep.of_wr W14).1
  have K14 : Keep h0 h14 [tt] := K11.wr W14 (Or.inl (List.mem_of_getElem? (i := 0) rfl))
  have F14 : Fld Z h14 tt o_n1 "value" "[B" (.ref b_5) := F13.same W14
  replace G := o_nxs (q := 57) (st := []) G st14 rfl
  obtain ⟨fs, hr, hrun, hended, hW, hsame⟩ := X14.leave (v := none) (fun _ => rfl)
  refine ⟨_, _, G _ (X14.returnOut hx Bd.returns (hb hby d3_57) hr), hrun, hended, _, _, rfl, ?_, ⟨_, rfl⟩, hW, hsame.mono (by decide) (by decide)⟩
  have F15 := (F11.other W14 (Or.inr (slot_ne (Or.inr (o_w hw 22 rfl)) (Or.inr (o_w hw 21 rfl)) (by decide) (t := .byte) (t' := (.array .byte)) (by decide) (by decide))))
  have F16 := ((B5_1.other W11 (Ne.symm ne6)).other W14 (Ne.symm ne6))
  show Q3n3 Z tt a ks cw ec0 ec1 ec2 h0 n0 _ T14.heap _
  rw [e14]
  exact ⟨b_5, kb_5, rfl, N14, K14, F14, F15, sz_b_5, F16⟩
theorem ef_2n3 (m : MethodId) (x0 : Addr) (x1 : Addr) : entryFrame m #[(.ref x0), (.ref x1)] 2 = mkF m 0 #[.val (.ref x0), .val (.ref x1)] [] := by first | (simp [entryFrame, mkF, argsToLocals, Value.category]; done) | rfl
def Q2n3 (Z : State) (tt : Addr) (a : Addr) (ks : ClassId) (cw : Int32) (ec0 : Int32) (ec1 : Int32) (ec2 : Int32) (h0 : Heap) (n0 : Nat) (v : Option Value) (h : Heap) (L : List Loc) : Prop := ∃ (b : Addr) (kb : ClassId), v = none ∧ Fr n0 L ∧ Keep h0 h [tt] ∧ (Fld Z h tt o_n1 "value" "[B" (.ref b)) ∧ (Fld Z h tt o_n1 "coder" "B" (.int 0)) ∧ h0.size ≤ b ∧ (Arv Z h b kb .byte (3 : Int32) [(.int (nar .byte (ec0.toInt8.toInt32))), (.int (nar .byte (ec1.toInt8.toInt32))), (.int (nar .byte (ec2.toInt8.toInt32)))] (.int 0))
set_option maxRecDepth 65536 in
set_option maxHeartbeats 40000000 in
theorem rm2n3 (l : Launch) (Z : State) (a0 : Array Value) (hw : ∀ d ∈ tables_1, d.before a0 Z = true) (ws : List Jvm.Cond) (tt : Addr) (a : Addr) (ks : ClassId) (cw : Int32) (ec0 : Int32) (ec1 : Int32) (ec2 : Int32) (h0 : Heap) (n0 : Nat) (Z0 : n0 ≤ h0.size) (P0 : Fld Z h0 tt o_n1 "value" "[B" .null) (P1 : Fld Z h0 tt o_n1 "coder" "B" (.int 0)) (P2 : Exa Z h0 tt o_n1) (P3 : n0 ≤ tt) (P4 : Arv Z h0 a ks .char (3 : Int32) [(.int ec0), (.int ec1), (.int ec2)] (.int 0)) (P5 : Sta Z h0 o_n1 "COMPACT_STRINGS" "Z" (.int cw)) (hcw : ¬ cw = (0 : Int32)) (he0 : ¬ ((255 : Int32) < ec0)) (he1 : ¬ ((255 : Int32) < ec1)) (he2 : ¬ ((255 : Int32) < ec2)) :
    MetFree l (⟨o_n1, "<init>", "([C)V"⟩ : MethodName) (head1 (Jvm.Cond.code (⟨o_n1, "<init>", "([C)V"⟩ : MethodName) jdk_42_method_3_code 2 none :: ws) ({ frames := 3, cells := 1, slots := 3, locals := 52 } : Room)) (fun argz U => argz = #[(.ref tt), (.ref a)] ∧ Z.Warmed39 U.vm ∧ U.heap = h0) (fun _ _ _ _ _ => True) (fun _ U o U' => ∃ v L, o = .returned v ∧ Q2n3 Z tt a ks cw ec0 ec1 ec2 h0 n0 v U'.heap L ∧ FrameEnd U o U' L ({ frames := 3, cells := 1, slots := 3, locals := 52 } : Room).cells ({ frames := 3, cells := 1, slots := 3, locals := 52 } : Room).slots) := by
  refine MetFree.of_bodySF (plainFor_of_name pn_java_lang_String) hisR ?_
  intro p e s m args below meth c s₁ Bd hml0 hP hK
  obtain ⟨rfl, hZ, hh⟩ := hP
  have hx := Bd.exec
  have hby := Bd.bytes
  have hml : c.maxLocals = 2 := hml0
  have hown : s.vm.findClass o_n1 = some m.cls := findClass_of_methodNamed Bd.named
  have hnm := (name_of_methodNamed Bd.named Bd.method).1
  have X0 : Stand p l e ({ frames := 3, cells := 1, slots := 3, locals := 52 } : Room) s m #[(.ref tt), (.ref a)] below meth c s₁ [] 0 0 := Stand.of_body Bd
  have e0 : s₁.heap = h0 := by rw [← hh, Bd.state]; rfl
  have N0 := Fr.nil n0
  have K0 : Keep h0 h0 [tt] := Keep.refl _ _
  have G : Gets p e below (s₁.setTop (entryFrame m #[(.ref tt), (.ref a)] 2)) (s₁.setTop (mkF m 0 #[.val (.ref tt), .val (.ref a)] [])) := fun t k => castTop (ef_2n3 m tt a) k
  replace G := o_aloadN (q := 1) G X0.here hx (hb hby d2_0) rfl rfl rfl
  replace G := o_aloadN (q := 2) G X0.here hx (hb hby d2_1) rfl rfl rfl
  replace G := o_iconst (q := 3) G X0.here hx (hb hby d2_2) (v := (0 : Int32)) (by decide) rfl
  replace G := o_aloadN (q := 4) G X0.here hx (hb hby d2_3) rfl rfl rfl
  obtain ⟨c1, Ar1, -, S1, N1', -, -⟩ := id P4
  replace G : Gets p e below _ (s₁.setTop (mkF m 5 #[.val (.ref tt), .val (.ref a)] [(.int 3), (.int 0), (.ref a), (.ref tt)])) := fun t k => G t (X0.arraylength hx (by rw [e0]; exact Ar1.1) (State.isArrayOf_alike hZ.alike Ar1.2.1) (g := o_g G) rfl rfl (hb hby d2_4) t (by rw [len_of S1 N1']; exact k))
  replace G := o_aconst_null (q := 6) G X0.here hx (hb hby d2_5) rfl
  obtain ⟨_, _, ⟨T2, L2, kk2, nn2⟩, -, X2, ⟨Lc2, hQ2, l2, y2, z2⟩, st2⟩ := X0.specialBack hx (y := (⟨o_n1, "<init>", "([CIILjava/lang/Void;)V"⟩ : MethodName)) rfl hown (mvT hZ (o_w hw 12 rfl)) (mvT hZ (o_w hw 13 rfl)) (mvT hZ (o_w hw 15 rfl)) (by decide) (backOf (W := 0) (rm3n3 l Z a0 hw [] tt a ks cw ec0 ec1 ec2 h0 n0 Z0 P0 P1 P2 P3 P4 P5 hcw he0 he1 he2) hZ (o_w hw 15 rfl) (o_w hw 7 rfl) (by decide) (by decide)) (g := o_g G) rfl (by rw [hml]; rfl) (Steps.refl _) (a := tt) (argsL := [(.ref a), (.int 0), (.int 3), .null]) (rest := []) (lenOf pd_3 rfl) rfl (by show 2 * 0 + _ ≤ _; exact Nat.le_of_eq rfl) (hb hby d2_6) (fun _ _ => ⟨rfl, e0, (by decide : 0 + 1 ≤ _), (by decide : 0 + 3 ≤ _)⟩)
  dsimp only [Pt.U, Pt.locs, Pt.cells, Pt.slots] at X2 l2 y2 z2 st2 hQ2
  subst l2 y2 z2
  obtain ⟨b_2, kb_2, rfl, N2q, K2q, B2_0, B2_1, B2_2, B2_3⟩ := hQ2
  have ne3 : tt ≠ b_2 := Nat.ne_of_lt (Nat.lt_of_lt_of_le P0.lt B2_2)
  have ne4 : a ≠ b_2 := Nat.ne_of_lt (Nat.lt_of_lt_of_le P4.lt B2_2)
  have ge_b_2 : n0 ≤ b_2 := Nat.le_trans Z0 B2_2
  have sz_b_2 : h0.size ≤ b_2 := Nat.le_trans K0.1 B2_2
  have Z2 : n0 ≤ T2.heap.size := Nat.le_trans Z0 K2q.1
  have K2 : Keep h0 T2.heap [tt] := K0.trans K2q (allS (Or.inl (List.mem_of_getElem? (i := 0) rfl)) all0)
  have N2 := Fr.app N0 N2q
  replace G := o_nxv (q := 9) (st := []) G st2 rfl
  obtain ⟨fs, hr, hrun, hended, hW, hsame⟩ := X2.leave (v := none) (fun _ => rfl)
  refine ⟨_, _, G _ (X2.returnOut hx Bd.returns (hb hby d2_9) hr), hrun, hended, _, _, rfl, ?_, ⟨_, rfl⟩, hW, hsame.mono (by decide) (by decide)⟩
  show Q2n3 Z tt a ks cw ec0 ec1 ec2 h0 n0 _ T2.heap _
  exact ⟨b_2, kb_2, rfl, N2, K2, B2_0, B2_1, sz_b_2, B2_3⟩
theorem ef_9c2 (m : MethodId)  : entryFrame m #[(.int 3)] 1 = mkF m 0 #[.val (.int 3)] [] := by first | (simp [entryFrame, mkF, argsToLocals, Value.category]; done) | rfl
def Q9c2 (Z : State)  (h0 : Heap) (n0 : Nat) (v : Option Value) (h : Heap) (L : List Loc) : Prop := v = some (.int 6) ∧ Fr n0 L ∧ h = h0
set_option maxRecDepth 65536 in
set_option maxHeartbeats 40000000 in
theorem rm9c2 (l : Launch) (Z : State) (a0 : Array Value) (hw : ∀ d ∈ tables_1, d.before a0 Z = true) (ws : List Jvm.Cond)  (h0 : Heap) (n0 : Nat) (Z0 : n0 ≤ h0.size)  :
    MetFree l (⟨o_n0, "newBytesLength", "(I)I"⟩ : MethodName) (head1 (Jvm.Cond.code (⟨o_n0, "newBytesLength", "(I)I"⟩ : MethodName) jdk_52_method_3_code 1 (some .int) :: ws) ({ frames := 0, cells := 0, slots := 0, locals := 0 } : Room)) (fun argz U => argz = #[(.int 3)] ∧ Z.Warmed39 U.vm ∧ U.heap = h0) (fun _ _ _ _ _ => True) (fun _ U o U' => ∃ v L, o = .returned v ∧ Q9c2 Z  h0 n0 v U'.heap L ∧ FrameEnd U o U' L ({ frames := 0, cells := 0, slots := 0, locals := 0 } : Room).cells ({ frames := 0, cells := 0, slots := 0, locals := 0 } : Room).slots) := by
  refine MetFree.of_bodySF (plainFor_of_name pn_java_lang_StringUTF16) hisR ?_
  intro p e s m args below meth c s₁ Bd hml0 hP hK
  obtain ⟨rfl, hZ, hh⟩ := hP
  have hx := Bd.exec
  have hby := Bd.bytes
  have hml : c.maxLocals = 1 := hml0
  have hown : s.vm.findClass o_n0 = some m.cls := findClass_of_methodNamed Bd.named
  have hnm := (name_of_methodNamed Bd.named Bd.method).1
  have X0 : Stand p l e ({ frames := 0, cells := 0, slots := 0, locals := 0 } : Room) s m #[(.int 3)] below meth c s₁ [] 0 0 := Stand.of_body Bd
  have e0 : s₁.heap = h0 := by rw [← hh, Bd.state]; rfl
  have N0 := Fr.nil n0
  have G : Gets p e below (s₁.setTop (entryFrame m #[(.int 3)] 1)) (s₁.setTop (mkF m 0 #[.val (.int 3)] [])) := fun t k => castTop (ef_9c2 m ) k
  replace G := o_iloadN (q := 1) G X0.here hx (hb hby d9_0) rfl rfl
  replace G := o_ifYes (q := 12) G X0.here hx (hb hby d9_1) (by decide) (by decide) (by decide)
  replace G := o_iloadN (q := 13) G X0.here hx (hb hby d9_12) rfl rfl
  replace G := o_nxs (q := 15) (st := [(.int 1073741823), (.int 3)]) G (X0.ldcInt hx hown (mvT hZ (o_w hw 44 rfl)) (g := o_g G) rfl (hb hby d9_13)) rfl
  replace G := o_icmpYes (q := 55) G X0.here hx (hb hby d9_15) (by decide) (by decide) (by decide)
  replace G := o_iloadN (q := 56) G X0.here hx (hb hby d9_55) rfl rfl
  replace G := o_iconst (q := 57) G X0.here hx (hb hby d9_56) (v := (1 : Int32)) (by decide) rfl
  replace G := o_ishl (q := 58) G X0.here hx (hb hby d9_57) (by decide : ((3 : Int32) <<< ((1 : Int32) &&& 31)) = (6 : Int32)) rfl
  obtain ⟨fs, hr, hrun, hended, hW, hsame⟩ := X0.leave (v := some (.int 6)) (fun h => by rw [Bd.returns] at h; cases h)
  refine ⟨_, _, G _ (retOut X0 hx Bd.returns rfl (Or.inl ⟨rfl, Or.inl rfl, _, rfl⟩) (hb hby d9_58) hr), hrun, hended, _, _, rfl, ?_, ⟨_, rfl⟩, hW, hsame.mono (by decide) (by decide)⟩
  show Q9c2 Z  h0 n0 _ s₁.heap _
  rw [e0]
  exact ⟨rfl, N0, rfl⟩
theorem ef_8u3 (m : MethodId)  : entryFrame m #[(.int 3)] 1 = mkF m 0 #[.val (.int 3)] [] := by first | (simp [entryFrame, mkF, argsToLocals, Value.category]; done) | rfl
def Q8u3 (Z : State)  (h0 : Heap) (n0 : Nat) (v : Option Value) (h : Heap) (L : List Loc) : Prop := ∃ (b : Addr) (kb : ClassId), v = some (.ref b) ∧ Fr n0 L ∧ Keep h0 h [] ∧ h0.size ≤ b ∧ (Arv Z h b kb .byte (6 : Int32) [(.int 0), (.int 0), (.int 0), (.int 0), (.int 0), (.int 0)] (.int 0))
set_option maxRecDepth 65536 in
set_option maxHeartbeats 40000000 in
theorem rm8u3 (l : Launch) (Z : State) (a0 : Array Value) (hw : ∀ d ∈ tables_1, d.before a0 Z = true) (ws : List Jvm.Cond)  (h0 : Heap) (n0 : Nat) (Z0 : n0 ≤ h0.size)  :
    MetFree l (⟨o_n0, "newBytesFor", "(I)[B"⟩ : MethodName) (head1 (Jvm.Cond.code (⟨o_n0, "newBytesFor", "(I)[B"⟩ : MethodName) jdk_52_method_2_code 1 (some (.array .byte)) :: ws) ({ frames := 1, cells := 1, slots := 6, locals := 12 } : Room)) (fun argz U => argz = #[(.int 3)] ∧ Z.Warmed39 U.vm ∧ U.heap = h0) (fun _ _ _ _ _ => True) (fun _ U o U' => ∃ v L, o = .returned v ∧ Q8u3 Z  h0 n0 v U'.heap L ∧ FrameEnd U o U' L ({ frames := 1, cells := 1, slots := 6, locals := 12 } : Room).cells ({ frames := 1, cells := 1, slots := 6, locals := 12 } : Room).slots) := by
  refine MetFree.of_bodySF (plainFor_of_name pn_java_lang_StringUTF16) hisR ?_
  intro p e s m args below meth c s₁ Bd hml0 hP hK
  obtain ⟨rfl, hZ, hh⟩ := hP
  have hx := Bd.exec
  have hby := Bd.bytes
  have hml : c.maxLocals = 1 := hml0
  have hown : s.vm.findClass o_n0 = some m.cls := findClass_of_methodNamed Bd.named
  have hnm := (name_of_methodNamed Bd.named Bd.method).1
  have X0 : Stand p l e ({ frames := 1, cells := 1, slots := 6, locals := 12 } : Room) s m #[(.int 3)] below meth c s₁ [] 0 0 := Stand.of_body Bd
  have e0 : s₁.heap = h0 := by rw [← hh, Bd.state]; rfl
  have N0 := Fr.nil n0
  have K0 : Keep h0 h0 [] := Keep.refl _ _
  have G : Gets p e below (s₁.setTop (entryFrame m #[(.int 3)] 1)) (s₁.setTop (mkF m 0 #[.val (.int 3)] [])) := fun t k => castTop (ef_8u3 m ) k
  replace G := o_iloadN (q := 1) G X0.here hx (hb hby d8_0) rfl rfl
  obtain ⟨_, _, ⟨T1, L1, kk1, nn1⟩, -, X1, ⟨Lc1, hQ1, l1, y1, z1⟩, st1⟩ := Jvm.LawKit.callS X0 hx (y := (⟨o_n0, "newBytesLength", "(I)I"⟩ : MethodName)) hown (mvT hZ (o_w hw 41 rfl)) (mvT hZ (o_w hw 42 rfl)) (mvT hZ (o_w hw 30 rfl)) (mvT hZ (o_w hw 43 rfl)) (by decide) (backOf (W := 0) (rm9c2 l Z a0 hw []  h0 n0 Z0 ) hZ (o_w hw 43 rfl) (o_w hw 30 rfl) (by decide) (by decide)) (g := o_g G) rfl (by rw [hml]; rfl) (argsL := [(.int 3)]) (rest := []) (lenOf pd_4 rfl) rfl (by show 2 * 0 + _ ≤ _; exact Nat.le_of_eq rfl) (hb hby d8_1) (fun _ _ => ⟨rfl, e0, (by decide : 0 + 0 ≤ _), (by decide : 0 + 0 ≤ _)⟩)
  dsimp only [Pt.U, Pt.locs, Pt.cells, Pt.slots] at X1 l1 y1 z1 st1 hQ1
  subst l1 y1 z1
  obtain ⟨rfl, N1q, e1⟩ := hQ1
  have N1 := Fr.app N0 N1q
  replace G := o_nxs (q := 4) (st := [(.int 6)]) G st1 rfl
  obtain ⟨T2, h2, k2, X2, e2, E2, A2, st2⟩ := newP X1 hx hZ (o_w hw 20 rfl) e1 (g := o_g G) rfl (hb hby d8_4) rfl (by decide) (cap := 6) (by decide) (by decide) (by decide) (by decide)
  obtain ⟨b2, g2⟩ : ∃ z, z = h0.size := ⟨_, rfl⟩
  rw [← g2] at A2 st2
  have ge_b2 : n0 ≤ b2 := Nat.le_trans Z0 (Nat.le_of_eq g2.symm)
  have sz_b2 : h0.size ≤ b2 := Nat.le_trans K0.1 (Nat.le_of_eq g2.symm)
  have Z2 : n0 ≤ h2.size := Nat.le_trans Z0 E2.1
  have K2 : Keep h0 h2 [] := K0.ext E2
  have V2 : Arv Z h2 b2 k2 .byte (6 : Int32) [(.int 0), (.int 0), (.int 0), (.int 0), (.int 0), (.int 0)] (.int 0) := (Arv.new A2 (by decide)).pad (pad_rep [] (.int 0) 6)
  replace G := o_nxs (q := 6) (st := [(.ref b2)]) G st2 rfl
  obtain ⟨fs, hr, hrun, hended, hW, hsame⟩ := X2.leave (v := some (.ref b2)) (fun h => by rw [Bd.returns] at h; cases h)
  refine ⟨_, _, G _ (retOut X2 hx Bd.returns rfl (Or.inr (Or.inr (Or.inr (Or.inr ⟨rfl, rfl, rfl⟩)))) (hb hby d8_6) hr), hrun, hended, _, _, rfl, ?_, ⟨_, rfl⟩, hW, hsame.mono (by decide) (by decide)⟩
  show Q8u3 Z  h0 n0 _ T2.heap _
  rw [e2]
  exact ⟨b2, k2, rfl, N1, K2, sz_b2, V2⟩
theorem ef_10u3p0 (m : MethodId) (x0 : Addr) (x2 : Int32) : entryFrame m #[(.ref x0), (.int 0), (.int x2)] 3 = mkF m 0 #[.val (.ref x0), .val (.int 0), .val (.int x2)] [] := by first | (simp [entryFrame, mkF, argsToLocals, Value.category]; done) | rfl
def Q10u3p0 (Z : State) (d : Addr) (ch : Int32) (kd : ClassId) (h0 : Heap) (n0 : Nat) (v : Option Value) (h : Heap) (L : List Loc) : Prop := v = none ∧ Fr n0 L ∧ Keep h0 h [d] ∧ (Arv Z h d kd .byte (6 : Int32) [(.int (nar .byte ((ch >>> ((0 : Int32) &&& 31)).toInt8.toInt32))), (.int (nar .byte ((ch >>> ((8 : Int32) &&& 31)).toInt8.toInt32))), (.int 0), (.int 0), (.int 0), (.int 0)] (.int 0))
set_option maxRecDepth 65536 in
set_option maxHeartbeats 40000000 in
theorem rm10u3p0 (l : Launch) (Z : State) (a0 : Array Value) (hw : ∀ d ∈ tables_1, d.before a0 Z = true) (ws : List Jvm.Cond) (d : Addr) (ch : Int32) (kd : ClassId) (h0 : Heap) (n0 : Nat) (Z0 : n0 ≤ h0.size) (P0 : Old Z n0 h0) (P1 : Sta Z Z.heap o_n0 "$assertionsDisabled" "Z" (.int 1)) (P2 : Sta Z Z.heap o_n0 "HI_BYTE_SHIFT" "I" (.int 0)) (P3 : Sta Z Z.heap o_n0 "LO_BYTE_SHIFT" "I" (.int 8)) (P4 : Arv Z h0 d kd .byte (6 : Int32) [(.int 0), (.int 0), (.int 0), (.int 0), (.int 0), (.int 0)] (.int 0)) (P5 : n0 ≤ d) :
    MetFree l (⟨o_n0, "putChar", "([BII)V"⟩ : MethodName) (head1 (Jvm.Cond.code (⟨o_n0, "putChar", "([BII)V"⟩ : MethodName) jdk_52_method_4_code 3 none :: ws) ({ frames := 0, cells := 0, slots := 0, locals := 0 } : Room)) (fun argz U => argz = #[(.ref d), (.int 0), (.int ch)] ∧ Z.Warmed39 U.vm ∧ U.heap = h0) (fun _ _ _ _ _ => True) (fun _ U o U' => ∃ v L, o = .returned v ∧ Q10u3p0 Z d ch kd h0 n0 v U'.heap L ∧ FrameEnd U o U' L ({ frames := 0, cells := 0, slots := 0, locals := 0 } : Room).cells ({ frames := 0, cells := 0, slots := 0, locals := 0 } : Room).slots) := by
  refine MetFree.of_bodySF (plainFor_of_name pn_java_lang_StringUTF16) hisR ?_
  intro p e s m args below meth c s₁ Bd hml0 hP hK
  obtain ⟨rfl, hZ, hh⟩ := hP
  have hx := Bd.exec
  have hby := Bd.bytes
  have hml : c.maxLocals = 3 := hml0
  have hown : s.vm.findClass o_n0 = some m.cls := findClass_of_methodNamed Bd.named
  have hnm := (name_of_methodNamed Bd.named Bd.method).1
  have X0 : Stand p l e ({ frames := 0, cells := 0, slots := 0, locals := 0 } : Room) s m #[(.ref d), (.int 0), (.int ch)] below meth c s₁ [] 0 0 := Stand.of_body Bd
  have e0 : s₁.heap = h0 := by rw [← hh, Bd.state]; rfl
  have N0 := Fr.nil n0
  have K0 : Keep h0 h0 [d] := Keep.refl _ _
  have G : Gets p e below (s₁.setTop (entryFrame m #[(.ref d), (.int 0), (.int ch)] 3)) (s₁.setTop (mkF m 0 #[.val (.ref d), .val (.int 0), .val (.int ch)] [])) := fun t k => castTop (ef_10u3p0 m d ch) k
  have F1 : Sta Z h0 o_n0 "$assertionsDisabled" "Z" (.int 1) := P1.ext P0.2
  obtain ⟨T2, X2, e2, st2⟩ := getS2 X0 hx hZ hown (host := "") (Or.inl (o_w hw 48 rfl)) Via.refl e0 F1 (g := o_g G) rfl (hb hby d10_0)
  replace G := o_nxs (q := 3) (st := [(.int 1)]) G st2 rfl
  replace G := o_ifYes (q := 28) G X2.here hx (hb hby d10_3) (by decide) (by decide) (by decide)
  replace G := o_iloadN (q := 29) G X2.here hx (hb hby d10_28) rfl rfl
  replace G := o_iconst (q := 30) G X2.here hx (hb hby d10_29) (v := (1 : Int32)) (by decide) rfl
  replace G := o_ishl (q := 31) G X2.here hx (hb hby d10_30) (by decide : ((0 : Int32) <<< ((1 : Int32) &&& 31)) = (0 : Int32)) rfl
  replace G := o_istoreN (q := 32) (l' := #[.val (.ref d), .val (.int 0), .val (.int ch)]) G X2.here hx (hb hby d10_31) rfl rfl
  replace G := o_aloadN (q := 33) G X2.here hx (hb hby d10_32) rfl rfl rfl
  replace G := o_iloadN (q := 34) G X2.here hx (hb hby d10_33) rfl rfl
  replace G := o_iinc (q := 37) (l' := #[.val (.ref d), .val (.int 1), .val (.int ch)]) (w := (1 : Int32)) G X2.here hx (hb hby d10_34) (by decide) rfl (by decide : ((0 : Int32) + (1 : Int32)) = (1 : Int32)) rfl rfl
  replace G := o_iloadN (q := 38) G X2.here hx (hb hby d10_37) rfl rfl
  have F4 : Sta Z h0 o_n0 "HI_BYTE_SHIFT" "I" (.int 0) := P2.ext P0.2
  obtain ⟨T5, X5, e5, st5⟩ := getS2 X2 hx hZ hown (host := "") (Or.inl (o_w hw 49 rfl)) Via.refl e2 F4 (g := o_g G) rfl (hb hby d10_38)
  replace G := o_nxs (q := 41) (st := [(.int 0), (.int ch), (.int 0), (.ref d)]) G st5 rfl
  replace G := o_ishr (q := 42) G X5.here hx (hb hby d10_41) rfl rfl
  replace G := o_i2b (q := 43) G X5.here hx (hb hby d10_42) rfl rfl
  obtain ⟨c6, Ar6, q6, S6, N6', H6, G6'⟩ := id P4
  have hin6 : ¬ ((0 : Int32) < 0 ∨ c6.slots.size ≤ ((0 : Int32)).toNatClampNeg) := inb_of S6 ⟨by decide, by decide⟩
  obtain ⟨T6, h6, X6, e6, W6, st6⟩ := stB X5 hx hZ e5 Ar6 (j := (0 : Int32)) hin6 (g := o_g G) rfl rfl (hb hby d10_43)
  have N6 := Fr.snoc X6 N0 P5
  have Z6 : n0 ≤ h6.size := Nat.le_trans Z0 (Keep.of_wr W6).1
  have K6 : Keep h0 h6 [d] := K0.wr W6 (Or.inl (List.mem_of_getElem? (i := 0) rfl))
  have V6 : Arv Z h6 d kd .byte (6 : Int32) [(.int (nar .byte ((ch >>> ((0 : Int32) &&& 31)).toInt8.toInt32))), (.int 0), (.int 0), (.int 0), (.int 0), (.int 0)] (.int 0) := Arv.set Ar6 q6 S6 N6' H6 G6' (fits_nar_byte _) W6 0 rfl (Nat.le_of_ble_eq_true rfl)
  replace G := o_nxs (q := 44) (st := []) G st6 rfl
  replace G := o_aloadN (q := 45) G X6.here hx (hb hby d10_44) rfl rfl rfl
  replace G := o_iloadN (q := 46) G X6.here hx (hb hby d10_45) rfl rfl
  replace G := o_iloadN (q := 47) G X6.here hx (hb hby d10_46) rfl rfl
  have F7 := (P0.wr W6 P5)
  have F8 : Sta Z h6 o_n0 "LO_BYTE_SHIFT" "I" (.int 8) := P3.ext F7.2
  obtain ⟨T9, X9, e9, st9⟩ := getS2 X6 hx hZ hown (host := "") (Or.inl (o_w hw 50 rfl)) Via.refl e6 F8 (g := o_g G) rfl (hb hby d10_47)
  replace G := o_nxs (q := 50) (st := [(.int 8), (.int ch), (.int 1), (.ref d)]) G st9 rfl
  replace G := o_ishr (q := 51) G X9.here hx (hb hby d10_50) rfl rfl
  replace G := o_i2b (q := 52) G X9.here hx (hb hby d10_51) rfl rfl
  obtain ⟨c10, Ar10, q10, S10, N10', H10, G10'⟩ := id V6
  have hin10 : ¬ ((1 : Int32) < 0 ∨ c10.slots.size ≤ ((1 : Int32)).toNatClampNeg) := inb_of S10 ⟨by decide, by decide⟩
  obtain ⟨T10, h10, X10, e10, W10, st10⟩ := stB X9 hx hZ e9 Ar10 (j := (1 : Int32)) hin10 (g := o_g G) rfl rfl (hb hby d10_52)
  have N10 := Fr.snoc X10 N6 P5
  have Z10 : n0 ≤ h10.size := Nat.le_trans Z6 (Keep.of_wr W10).1
  have K10 : Keep h0 h10 [d] := K6.wr W10 (Or.inl (List.mem_of_getElem? (i := 0) rfl))
  have V10 : Arv Z h10 d kd .byte (6 : Int32) [(.int (nar .byte ((ch >>> ((0 : Int32) &&& 31)).toInt8.toInt32))), (.int (nar .byte ((ch >>> ((8 : Int32) &&& 31)).toInt8.toInt32))), (.int 0), (.int 0), (.int 0), (.int 0)] (.int 0) := Arv.set Ar10 q10 S10 N10' H10 G10' (fits_nar_byte _) W10 1 rfl (Nat.le_of_ble_eq_true rfl)
  replace G := o_nxs (q := 53) (st := []) G st10 rfl
  obtain ⟨fs, hr, hrun, hended, hW, hsame⟩ := X10.leave (v := none) (fun _ => rfl)
  refine ⟨_, _, G _ (X10.returnOut hx Bd.returns (hb hby d10_53) hr), hrun, hended, _, _, rfl, ?_, ⟨_, rfl⟩, hW, hsame.mono (by decide) (by decide)⟩
  show Q10u3p0 Z d ch kd h0 n0 _ T10.heap _
  rw [e10]
  exact ⟨rfl, N10, K10, V10⟩
theorem ef_10u3p1 (m : MethodId) (x0 : Addr) (x2 : Int32) : entryFrame m #[(.ref x0), (.int 1), (.int x2)] 3 = mkF m 0 #[.val (.ref x0), .val (.int 1), .val (.int x2)] [] := by first | (simp [entryFrame, mkF, argsToLocals, Value.category]; done) | rfl
def Q10u3p1 (Z : State) (d : Addr) (ch : Int32) (kd : ClassId) (y0_ : Int32) (y1_ : Int32) (h0 : Heap) (n0 : Nat) (v : Option Value) (h : Heap) (L : List Loc) : Prop := v = none ∧ Fr n0 L ∧ Keep h0 h [d] ∧ (Arv Z h d kd .byte (6 : Int32) [(.int y0_), (.int y1_), (.int (nar .byte ((ch >>> ((0 : Int32) &&& 31)).toInt8.toInt32))), (.int (nar .byte ((ch >>> ((8 : Int32) &&& 31)).toInt8.toInt32))), (.int 0), (.int 0)] (.int 0))
set_option maxRecDepth 65536 in
set_option maxHeartbeats 40000000 in
theorem rm10u3p1 (l : Launch) (Z : State) (a0 : Array Value) (hw : ∀ d ∈ tables_1, d.before a0 Z = true) (ws : List Jvm.Cond) (d : Addr) (ch : Int32) (kd : ClassId) (y0_ : Int32) (y1_ : Int32) (h0 : Heap) (n0 : Nat) (Z0 : n0 ≤ h0.size) (P0 : Old Z n0 h0) (P1 : Sta Z Z.heap o_n0 "$assertionsDisabled" "Z" (.int 1)) (P2 : Sta Z Z.heap o_n0 "HI_BYTE_SHIFT" "I" (.int 0)) (P3 : Sta Z Z.heap o_n0 "LO_BYTE_SHIFT" "I" (.int 8)) (P4 : Arv Z h0 d kd .byte (6 : Int32) [(.int y0_), (.int y1_), (.int 0), (.int 0), (.int 0), (.int 0)] (.int 0)) (P5 : n0 ≤ d) :
    MetFree l (⟨o_n0, "putChar", "([BII)V"⟩ : MethodName) (head1 (Jvm.Cond.code (⟨o_n0, "putChar", "([BII)V"⟩ : MethodName) jdk_52_method_4_code 3 none :: ws) ({ frames := 0, cells := 0, slots := 0, locals := 0 } : Room)) (fun argz U => argz = #[(.ref d), (.int 1), (.int ch)] ∧ Z.Warmed39 U.vm ∧ U.heap = h0) (fun _ _ _ _ _ => True) (fun _ U o U' => ∃ v L, o = .returned v ∧ Q10u3p1 Z d ch kd y0_ y1_ h0 n0 v U'.heap L ∧ FrameEnd U o U' L ({ frames := 0, cells := 0, slots := 0, locals := 0 } : Room).cells ({ frames := 0, cells := 0, slots := 0, locals := 0 } : Room).slots) := by
  refine MetFree.of_bodySF (plainFor_of_name pn_java_lang_StringUTF16) hisR ?_
  intro p e s m args below meth c s₁ Bd hml0 hP hK
  obtain ⟨rfl, hZ, hh⟩ := hP
  have hx := Bd.exec
  have hby := Bd.bytes
  have hml : c.maxLocals = 3 := hml0
  have hown : s.vm.findClass o_n0 = some m.cls := findClass_of_methodNamed Bd.named
  have hnm := (name_of_methodNamed Bd.named Bd.method).1
  have X0 : Stand p l e ({ frames := 0, cells := 0, slots := 0, locals := 0 } : Room) s m #[(.ref d), (.int 1), (.int ch)] below meth c s₁ [] 0 0 := Stand.of_body Bd
  have e0 : s₁.heap = h0 := by rw [← hh, Bd.state]; rfl
  have N0 := Fr.nil n0
  have K0 : Keep h0 h0 [d] := Keep.refl _ _
  have G : Gets p e below (s₁.setTop (entryFrame m #[(.ref d), (.int 1), (.int ch)] 3)) (s₁.setTop (mkF m 0 #[.val (.ref d), .val (.int 1), .val (.int ch)] [])) := fun t k => castTop (ef_10u3p1 m d ch) k
  have F1 : Sta Z h0 o_n0 "$assertionsDisabled" "Z" (.int 1) := P1.ext P0.2
  obtain ⟨T2, X2, e2, st2⟩ := getS2 X0 hx hZ hown (host := "") (Or.inl (o_w hw 48 rfl)) Via.refl e0 F1 (g := o_g G) rfl (hb hby d10_0)
  replace G := o_nxs (q := 3) (st := [(.int 1)]) G st2 rfl
  replace G := o_ifYes (q := 28) G X2.here hx (hb hby d10_3) (by decide) (by decide) (by decide)
  replace G := o_iloadN (q := 29) G X2.here hx (hb hby d10_28) rfl rfl
  replace G := o_iconst (q := 30) G X2.here hx (hb hby d10_29) (v := (1 : Int32)) (by decide) rfl
  replace G := o_ishl (q := 31) G X2.here hx (hb hby d10_30) (by decide : ((1 : Int32) <<< ((1 : Int32) &&& 31)) = (2 : Int32)) rfl
  replace G := o_istoreN (q := 32) (l' := #[.val (.ref d), .val (.int 2), .val (.int ch)]) G X2.here hx (hb hby d10_31) rfl rfl
  replace G := o_aloadN (q := 33) G X2.here hx (hb hby d10_32) rfl rfl rfl
  replace G := o_iloadN (q := 34) G X2.here hx (hb hby d10_33) rfl rfl
  replace G := o_iinc (q := 37) (l' := #[.val (.ref d), .val (.int 3), .val (.int ch)]) (w := (1 : Int32)) G X2.here hx (hb hby d10_34) (by decide) rfl (by decide : ((2 : Int32) + (1 : Int32)) = (3 : Int32)) rfl rfl
  replace G := o_iloadN (q := 38) G X2.here hx (hb hby d10_37) rfl rfl
  have F4 : Sta Z h0 o_n0 "HI_BYTE_SHIFT" "I" (.int 0) := P2.ext P0.2
  obtain ⟨T5, X5, e5, st5⟩ := getS2 X2 hx hZ hown (host := "") (Or.inl (o_w hw 49 rfl)) Via.refl e2 F4 (g := o_g G) rfl (hb hby d10_38)
  replace G := o_nxs (q := 41) (st := [(.int 0), (.int ch), (.int 2), (.ref d)]) G st5 rfl
  replace G := o_ishr (q := 42) G X5.here hx (hb hby d10_41) rfl rfl
  replace G := o_i2b (q := 43) G X5.here hx (hb hby d10_42) rfl rfl
  obtain ⟨c6, Ar6, q6, S6, N6', H6, G6'⟩ := id P4
  have hin6 : ¬ ((2 : Int32) < 0 ∨ c6.slots.size ≤ ((2 : Int32)).toNatClampNeg) := inb_of S6 ⟨by decide, by decide⟩
  obtain ⟨T6, h6, X6, e6, W6, st6⟩ := stB X5 hx hZ e5 Ar6 (j := (2 : Int32)) hin6 (g := o_g G) rfl rfl (hb hby d10_43)
  have N6 := Fr.snoc X6 N0 P5
  have Z6 : n0 ≤ h6.size := Nat.le_trans Z0 (Keep.of_wr W6).1
  have K6 : Keep h0 h6 [d] := K0.wr W6 (Or.inl (List.mem_of_getElem? (i := 0) rfl))
  have V6 : Arv Z h6 d kd .byte (6 : Int32) [(.int y0_), (.int y1_), (.int (nar .byte ((ch >>> ((0 : Int32) &&& 31)).toInt8.toInt32))), (.int 0), (.int 0), (.int 0)] (.int 0) := Arv.set Ar6 q6 S6 N6' H6 G6' (fits_nar_byte _) W6 2 rfl (Nat.le_of_ble_eq_true rfl)
  replace G := o_nxs (q := 44) (st := []) G st6 rfl
  replace G := o_aloadN (q := 45) G X6.here hx (hb hby d10_44) rfl rfl rfl
  replace G := o_iloadN (q := 46) G X6.here hx (hb hby d10_45) rfl rfl
  replace G := o_iloadN (q := 47) G X6.here hx (hb hby d10_46) rfl rfl
  have F7 := (P0.wr W6 P5)
  have F8 : Sta Z h6 o_n0 "LO_BYTE_SHIFT" "I" (.int 8) := P3.ext F7.2
  obtain ⟨T9, X9, e9, st9⟩ := getS2 X6 hx hZ hown (host := "") (Or.inl (o_w hw 50 rfl)) Via.refl e6 F8 (g := o_g G) rfl (hb hby d10_47)
  replace G := o_nxs (q := 50) (st := [(.int 8), (.int ch), (.int 3), (.ref d)]) G st9 rfl
  replace G := o_ishr (q := 51) G X9.here hx (hb hby d10_50) rfl rfl
  replace G := o_i2b (q := 52) G X9.here hx (hb hby d10_51) rfl rfl
  obtain ⟨c10, Ar10, q10, S10, N10', H10, G10'⟩ := id V6
  have hin10 : ¬ ((3 : Int32) < 0 ∨ c10.slots.size ≤ ((3 : Int32)).toNatClampNeg) := inb_of S10 ⟨by decide, by decide⟩
  obtain ⟨T10, h10, X10, e10, W10, st10⟩ := stB X9 hx hZ e9 Ar10 (j := (3 : Int32)) hin10 (g := o_g G) rfl rfl (hb hby d10_52)
  have N10 := Fr.snoc X10 N6 P5
  have Z10 : n0 ≤ h10.size := Nat.le_trans Z6 (Keep.of_wr W10).1
  have K10 : Keep h0 h10 [d] := K6.wr W10 (Or.inl (List.mem_of_getElem? (i := 0) rfl))
  have V10 : Arv Z h10 d kd .byte (6 : Int32) [(.int y0_), (.int y1_), (.int (nar .byte ((ch >>> ((0 : Int32) &&& 31)).toInt8.toInt32))), (.int (nar .byte ((ch >>> ((8 : Int32) &&& 31)).toInt8.toInt32))), (.int 0), (.int 0)] (.int 0) := Arv.set Ar10 q10 S10 N10' H10 G10' (fits_nar_byte _) W10 3 rfl (Nat.le_of_ble_eq_true rfl)
  replace G := o_nxs (q := 53) (st := []) G st10 rfl
  obtain ⟨fs, hr, hrun, hended, hW, hsame⟩ := X10.leave (v := none) (fun _ => rfl)
  refine ⟨_, _, G _ (X10.returnOut hx Bd.returns (hb hby d10_53) hr), hrun, hended, _, _, rfl, ?_, ⟨_, rfl⟩, hW, hsame.mono (by decide) (by decide)⟩
  show Q10u3p1 Z d ch kd y0_ y1_ h0 n0 _ T10.heap _
  rw [e10]
  exact ⟨rfl, N10, K10, V10⟩
theorem ef_10u3p2 (m : MethodId) (x0 : Addr) (x2 : Int32) : entryFrame m #[(.ref x0), (.int 2), (.int x2)] 3 = mkF m 0 #[.val (.ref x0), .val (.int 2), .val (.int x2)] [] := by first | (simp [entryFrame, mkF, argsToLocals, Value.category]; done) | rfl
def Q10u3p2 (Z : State) (d : Addr) (ch : Int32) (kd : ClassId) (y0_ : Int32) (y1_ : Int32) (y2_ : Int32) (y3_ : Int32) (h0 : Heap) (n0 : Nat) (v : Option Value) (h : Heap) (L : List Loc) : Prop := v = none ∧ Fr n0 L ∧ Keep h0 h [d] ∧ (Arv Z h d kd .byte (6 : Int32) [(.int y0_), (.int y1_), (.int y2_), (.int y3_), (.int (nar .byte ((ch >>> ((0 : Int32) &&& 31)).toInt8.toInt32))), (.int (nar .byte ((ch >>> ((8 : Int32) &&& 31)).toInt8.toInt32)))] (.int 0))
set_option maxRecDepth 65536 in
set_option maxHeartbeats 40000000 in
theorem rm10u3p2 (l : Launch) (Z : State) (a0 : Array Value) (hw : ∀ d ∈ tables_1, d.before a0 Z = true) (ws : List Jvm.Cond) (d : Addr) (ch : Int32) (kd : ClassId) (y0_ : Int32) (y1_ : Int32) (y2_ : Int32) (y3_ : Int32) (h0 : Heap) (n0 : Nat) (Z0 : n0 ≤ h0.size) (P0 : Old Z n0 h0) (P1 : Sta Z Z.heap o_n0 "$assertionsDisabled" "Z" (.int 1)) (P2 : Sta Z Z.heap o_n0 "HI_BYTE_SHIFT" "I" (.int 0)) (P3 : Sta Z Z.heap o_n0 "LO_BYTE_SHIFT" "I" (.int 8)) (P4 : Arv Z h0 d kd .byte (6 : Int32) [(.int y0_), (.int y1_), (.int y2_), (.int y3_), (.int 0), (.int 0)] (.int 0)) (P5 : n0 ≤ d) :
    MetFree l (⟨o_n0, "putChar", "([BII)V"⟩ : MethodName) (head1 (Jvm.Cond.code (⟨o_n0, "putChar", "([BII)V"⟩ : MethodName) jdk_52_method_4_code 3 none :: ws) ({ frames := 0, cells := 0, slots := 0, locals := 0 } : Room)) (fun argz U => argz = #[(.ref d), (.int 2), (.int ch)] ∧ Z.Warmed39 U.vm ∧ U.heap = h0) (fun _ _ _ _ _ => True) (fun _ U o U' => ∃ v L, o = .returned v ∧ Q10u3p2 Z d ch kd y0_ y1_ y2_ y3_ h0 n0 v U'.heap L ∧ FrameEnd U o U' L ({ frames := 0, cells := 0, slots := 0, locals := 0 } : Room).cells ({ frames := 0, cells := 0, slots := 0, locals := 0 } : Room).slots) := by
  refine MetFree.of_bodySF (plainFor_of_name pn_java_lang_StringUTF16) hisR ?_
  intro p e s m args below meth c s₁ Bd hml0 hP hK
  obtain ⟨rfl, hZ, hh⟩ := hP
  have hx := Bd.exec
  have hby := Bd.bytes
  have hml : c.maxLocals = 3 := hml0
  have hown : s.vm.findClass o_n0 = some m.cls := findClass_of_methodNamed Bd.named
  have hnm := (name_of_methodNamed Bd.named Bd.method).1
  have X0 : Stand p l e ({ frames := 0, cells := 0, slots := 0, locals := 0 } : Room) s m #[(.ref d), (.int 2), (.int ch)] below meth c s₁ [] 0 0 := Stand.of_body Bd
  have e0 : s₁.heap = h0 := by rw [← hh, Bd.state]; rfl
  have N0 := Fr.nil n0
  have K0 : Keep h0 h0 [d] := Keep.refl _ _
  have G : Gets p e below (s₁.setTop (entryFrame m #[(.ref d), (.int 2), (.int ch)] 3)) (s₁.setTop (mkF m 0 #[.val (.ref d), .val (.int 2), .val (.int ch)] [])) := fun t k => castTop (ef_10u3p2 m d ch) k
  have F1 : Sta Z h0 o_n0 "$assertionsDisabled" "Z" (.int 1) := P1.ext P0.2
  obtain ⟨T2, X2, e2, st2⟩ := getS2 X0 hx hZ hown (host := "") (Or.inl (o_w hw 48 rfl)) Via.refl e0 F1 (g := o_g G) rfl (hb hby d10_0)
  replace G := o_nxs (q := 3) (st := [(.int 1)]) G st2 rfl
  replace G := o_ifYes (q := 28) G X2.here hx (hb hby d10_3) (by decide) (by decide) (by decide)
  replace G := o_iloadN (q := 29) G X2.here hx (hb hby d10_28) rfl rfl
  replace G := o_iconst (q := 30) G X2.here hx (hb hby d10_29) (v := (1 : Int32)) (by decide) rfl
  replace G := o_ishl (q := 31) G X2.here hx (hb hby d10_30) (by decide : ((2 : Int32) <<< ((1 : Int32) &&& 31)) = (4 : Int32)) rfl
  replace G := o_istoreN (q := 32) (l' := #[.val (.ref d), .val (.int 4), .val (.int ch)]) G X2.here hx (hb hby d10_31) rfl rfl
  replace G := o_aloadN (q := 33) G X2.here hx (hb hby d10_32) rfl rfl rfl
  replace G := o_iloadN (q := 34) G X2.here hx (hb hby d10_33) rfl rfl
  replace G := o_iinc (q := 37) (l' := #[.val (.ref d), .val (.int 5), .val (.int ch)]) (w := (1 : Int32)) G X2.here hx (hb hby d10_34) (by decide) rfl (by decide : ((4 : Int32) + (1 : Int32)) = (5 : Int32)) rfl rfl
  replace G := o_iloadN (q := 38) G X2.here hx (hb hby d10_37) rfl rfl
  have F4 : Sta Z h0 o_n0 "HI_BYTE_SHIFT" "I" (.int 0) := P2.ext P0.2
  obtain ⟨T5, X5, e5, st5⟩ := getS2 X2 hx hZ hown (host := "") (Or.inl (o_w hw 49 rfl)) Via.refl e2 F4 (g := o_g G) rfl (hb hby d10_38)
  replace G := o_nxs (q := 41) (st := [(.int 0), (.int ch), (.int 4), (.ref d)]) G st5 rfl
  replace G := o_ishr (q := 42) G X5.here hx (hb hby d10_41) rfl rfl
  replace G := o_i2b (q := 43) G X5.here hx (hb hby d10_42) rfl rfl
  obtain ⟨c6, Ar6, q6, S6, N6', H6, G6'⟩ := id P4
  have hin6 : ¬ ((4 : Int32) < 0 ∨ c6.slots.size ≤ ((4 : Int32)).toNatClampNeg) := inb_of S6 ⟨by decide, by decide⟩
  obtain ⟨T6, h6, X6, e6, W6, st6⟩ := stB X5 hx hZ e5 Ar6 (j := (4 : Int32)) hin6 (g := o_g G) rfl rfl (hb hby d10_43)
  have N6 := Fr.snoc X6 N0 P5
  have Z6 : n0 ≤ h6.size := Nat.le_trans Z0 (Keep.of_wr W6).1
  have K6 : Keep h0 h6 [d] := K0.wr W6 (Or.inl (List.mem_of_getElem? (i := 0) rfl))
  have V6 : Arv Z h6 d kd .byte (6 : Int32) [(.int y0_), (.int y1_), (.int y2_), (.int y3_), (.int (nar .byte ((ch >>> ((0 : Int32) &&& 31)).toInt8.toInt32))), (.int 0)] (.int 0) := Arv.set Ar6 q6 S6 N6' H6 G6' (fits_nar_byte _) W6 4 rfl (Nat.le_of_ble_eq_true rfl)
  replace G := o_nxs (q := 44) (st := []) G st6 rfl
  replace G := o_aloadN (q := 45) G X6.here hx (hb hby d10_44) rfl rfl rfl
  replace G := o_iloadN (q := 46) G X6.here hx (hb hby d10_45) rfl rfl
  replace G := o_iloadN (q := 47) G X6.here hx (hb hby d10_46) rfl rfl
  have F7 := (P0.wr W6 P5)
  have F8 : Sta Z h6 o_n0 "LO_BYTE_SHIFT" "I" (.int 8) := P3.ext F7.2
  obtain ⟨T9, X9, e9, st9⟩ := getS2 X6 hx hZ hown (host := "") (Or.inl (o_w hw 50 rfl)) Via.refl e6 F8 (g := o_g G) rfl (hb hby d10_47)
  replace G := o_nxs (q := 50) (st := [(.int 8), (.int ch), (.int 5), (.ref d)]) G st9 rfl
  replace G := o_ishr (q := 51) G X9.here hx (hb hby d10_50) rfl rfl
  replace G := o_i2b (q := 52) G X9.here hx (hb hby d10_51) rfl rfl
  obtain ⟨c10, Ar10, q10, S10, N10', H10, G10'⟩ := id V6
  have hin10 : ¬ ((5 : Int32) < 0 ∨ c10.slots.size ≤ ((5 : Int32)).toNatClampNeg) := inb_of S10 ⟨by decide, by decide⟩
  obtain ⟨T10, h10, X10, e10, W10, st10⟩ := stB X9 hx hZ e9 Ar10 (j := (5 : Int32)) hin10 (g := o_g G) rfl rfl (hb hby d10_52)
  have N10 := Fr.snoc X10 N6 P5
  have Z10 : n0 ≤ h10.size := Nat.le_trans Z6 (Keep.of_wr W10).1
  have K10 : Keep h0 h10 [d] := K6.wr W10 (Or.inl (List.mem_of_getElem? (i := 0) rfl))
  have V10 : Arv Z h10 d kd .byte (6 : Int32) [(.int y0_), (.int y1_), (.int y2_), (.int y3_), (.int (nar .byte ((ch >>> ((0 : Int32) &&& 31)).toInt8.toInt32))), (.int (nar .byte ((ch >>> ((8 : Int32) &&& 31)).toInt8.toInt32)))] (.int 0) := Arv.set Ar10 q10 S10 N10' H10 G10' (fits_nar_byte _) W10 5 rfl (Nat.le_of_ble_eq_true rfl)
  replace G := o_nxs (q := 53) (st := []) G st10 rfl
  obtain ⟨fs, hr, hrun, hended, hW, hsame⟩ := X10.leave (v := none) (fun _ => rfl)
  refine ⟨_, _, G _ (X10.returnOut hx Bd.returns (hb hby d10_53) hr), hrun, hended, _, _, rfl, ?_, ⟨_, rfl⟩, hW, hsame.mono (by decide) (by decide)⟩
  show Q10u3p2 Z d ch kd y0_ y1_ y2_ y3_ h0 n0 _ T10.heap _
  rw [e10]
  exact ⟨rfl, N10, K10, V10⟩
theorem ef_7u3 (m : MethodId) (x0 : Addr) : entryFrame m #[(.ref x0), (.int 0), (.int 3)] 5 = mkF m 0 #[.val (.ref x0), .val (.int 0), .val (.int 3), .unset, .unset] [] := by first | (simp [entryFrame, mkF, argsToLocals, Value.category]; done) | rfl
def Q7u3 (Z : State) (a : Addr) (ks : ClassId) (ec0 : Int32) (ec1 : Int32) (ec2 : Int32) (h0 : Heap) (n0 : Nat) (v : Option Value) (h : Heap) (L : List Loc) : Prop := ∃ (b : Addr) (kb : ClassId), v = some (.ref b) ∧ Fr n0 L ∧ Keep h0 h [] ∧ h0.size ≤ b ∧ (Arv Z h b kb .byte (6 : Int32) [(.int (nar .byte ((ec0 >>> ((0 : Int32) &&& 31)).toInt8.toInt32))), (.int (nar .byte ((ec0 >>> ((8 : Int32) &&& 31)).toInt8.toInt32))), (.int (nar .byte ((ec1 >>> ((0 : Int32) &&& 31)).toInt8.toInt32))), (.int (nar .byte ((ec1 >>> ((8 : Int32) &&& 31)).toInt8.toInt32))), (.int (nar .byte ((ec2 >>> ((0 : Int32) &&& 31)).toInt8.toInt32))), (.int (nar .byte ((ec2 >>> ((8 : Int32) &&& 31)).toInt8.toInt32)))] (.int 0))
set_option maxRecDepth 65536 in
set_option maxHeartbeats 40000000 in
theorem rm7u3 (l : Launch) (Z : State) (a0 : Array Value) (hw : ∀ d ∈ tables_1, d.before a0 Z = true) (ws : List Jvm.Cond) (a : Addr) (ks : ClassId) (ec0 : Int32) (ec1 : Int32) (ec2 : Int32) (h0 : Heap) (n0 : Nat) (Z0 : n0 ≤ h0.size) (P0 : Old Z n0 h0) (P1 : Sta Z Z.heap o_n0 "$assertionsDisabled" "Z" (.int 1)) (P2 : Sta Z Z.heap o_n0 "HI_BYTE_SHIFT" "I" (.int 0)) (P3 : Sta Z Z.heap o_n0 "LO_BYTE_SHIFT" "I" (.int 8)) (P4 : Arv Z h0 a ks .char (3 : Int32) [(.int ec0), (.int ec1), (.int ec2)] (.int 0)) :
    MetFree l (⟨o_n0, "toBytes", "([CII)[B"⟩ : MethodName) (head1 (Jvm.Cond.code (⟨o_n0, "toBytes", "([CII)[B"⟩ : MethodName) jdk_52_method_14_code 5 (some (.array .byte)) :: ws) ({ frames := 2, cells := 1, slots := 6, locals := 24 } : Room)) (fun argz U => argz = #[(.ref a), (.int 0), (.int 3)] ∧ Z.Warmed39 U.vm ∧ U.heap = h0) (fun _ _ _ _ _ => True) (fun _ U o U' => ∃ v L, o = .returned v ∧ Q7u3 Z a ks ec0 ec1 ec2 h0 n0 v U'.heap L ∧ FrameEnd U o U' L ({ frames := 2, cells := 1, slots := 6, locals := 24 } : Room).cells ({ frames := 2, cells := 1, slots := 6, locals := 24 } : Room).slots) := by
  refine MetFree.of_bodySF (plainFor_of_name pn_java_lang_StringUTF16) hisR ?_
  intro p e s m args below meth c s₁ Bd hml0 hP hK
  obtain ⟨rfl, hZ, hh⟩ := hP
  have hx := Bd.exec
  have hby := Bd.bytes
  have hml : c.maxLocals = 5 := hml0
  have hown : s.vm.findClass o_n0 = some m.cls := findClass_of_methodNamed Bd.named
  have hnm := (name_of_methodNamed Bd.named Bd.method).1
  have X0 : Stand p l e ({ frames := 2, cells := 1, slots := 6, locals := 24 } : Room) s m #[(.ref a), (.int 0), (.int 3)] below meth c s₁ [] 0 0 := Stand.of_body Bd
  have e0 : s₁.heap = h0 := by rw [← hh, Bd.state]; rfl
  have N0 := Fr.nil n0
  have K0 : Keep h0 h0 [] := Keep.refl _ _
  have G : Gets p e below (s₁.setTop (entryFrame m #[(.ref a), (.int 0), (.int 3)] 5)) (s₁.setTop (mkF m 0 #[.val (.ref a), .val (.int 0), .val (.int 3), .unset, .unset] [])) := fun t k => castTop (ef_7u3 m a) k
  replace G := o_iloadN (q := 1) G X0.here hx (hb hby d7_0) rfl rfl
  obtain ⟨_, _, ⟨T1, L1, kk1, nn1⟩, -, X1, ⟨Lc1, hQ1, l1, y1, z1⟩, st1⟩ := Jvm.LawKit.callS X0 hx (y := (⟨o_n0, "newBytesFor", "(I)[B"⟩ : MethodName)) hown (mvT hZ (o_w hw 38 rfl)) (mvT hZ (o_w hw 39 rfl)) (mvT hZ (o_w hw 30 rfl)) (mvT hZ (o_w hw 40 rfl)) (by decide) (backOf (W := 0) (rm8u3 l Z a0 hw []  h0 n0 Z0 ) hZ (o_w hw 40 rfl) (o_w hw 30 rfl) (by decide) (by decide)) (g := o_g G) rfl (by rw [hml]; rfl) (argsL := [(.int 3)]) (rest := []) (lenOf pd_5 rfl) rfl (by show 2 * 0 + _ ≤ _; exact Nat.le_of_eq rfl) (hb hby d7_1) (fun _ _ => ⟨rfl, e0, (by decide : 0 + 1 ≤ _), (by decide : 0 + 6 ≤ _)⟩)
  dsimp only [Pt.U, Pt.locs, Pt.cells, Pt.slots] at X1 l1 y1 z1 st1 hQ1
  subst l1 y1 z1
  obtain ⟨b_1, kb_1, rfl, N1q, K1q, B1_0, B1_1⟩ := hQ1
  have ne2 : a ≠ b_1 := Nat.ne_of_lt (Nat.lt_of_lt_of_le P4.lt B1_0)
  have ge_b_1 : n0 ≤ b_1 := Nat.le_trans Z0 B1_0
  have sz_b_1 : h0.size ≤ b_1 := Nat.le_trans K0.1 B1_0
  have Z1 : n0 ≤ T1.heap.size := Nat.le_trans Z0 K1q.1
  have K1 : Keep h0 T1.heap [] := K0.trans K1q all0
  have N1 := Fr.app N0 N1q
  replace G := o_nxs (q := 4) (st := [(.ref b_1)]) G st1 rfl
  replace G := o_astoreN (q := 5) (l' := #[.val (.ref a), .val (.int 0), .val (.int 3), .val (.ref b_1), .unset]) G X1.here hx (hb hby d7_4) rfl rfl rfl
  replace G := o_iconst (q := 6) G X1.here hx (hb hby d7_5) (v := (0 : Int32)) (by decide) rfl
  replace G := o_istore (q := 8) (l' := #[.val (.ref a), .val (.int 0), .val (.int 3), .val (.ref b_1), .val (.int 0)]) G X1.here hx (hb hby d7_6) rfl rfl
  replace G := o_iload (q := 10) G X1.here hx (hb hby d7_8) rfl rfl
  replace G := o_iloadN (q := 11) G X1.here hx (hb hby d7_10) rfl rfl
  replace G := o_icmpNo (q := 14) G X1.here hx (hb hby d7_11) (by decide) rfl
  replace G := o_aloadN (q := 15) G X1.here hx (hb hby d7_14) rfl rfl rfl
  replace G := o_iload (q := 17) G X1.here hx (hb hby d7_15) rfl rfl
  replace G := o_aloadN (q := 18) G X1.here hx (hb hby d7_17) rfl rfl rfl
  replace G := o_iloadN (q := 19) G X1.here hx (hb hby d7_18) rfl rfl
  have F4 := (P4.keep K1q nin0)
  obtain ⟨c5, Ar5, -, S5, -, H5, -⟩ := id F4
  have hin5 : ¬ ((0 : Int32) < 0 ∨ c5.slots.size ≤ ((0 : Int32)).toNatClampNeg) := inb_of S5 ⟨by decide, by decide⟩
  replace G := o_nxs (q := 20) (st := [(.int ec0), (.int 0), (.ref b_1)]) G (X1.caload hx (j := (0 : Int32)) (v := (.int ec0)) (by exact Ar5.1) (State.isArrayOf_alike hZ.alike Ar5.2.1) Ar5.2.2 hin5 (Has.at H5 hin5 rfl) (g := o_g G) rfl rfl (hb hby d7_19)) rfl
  have F7 := (P0.keep K1q all0)
  obtain ⟨_, _, ⟨T6, L6, kk6, nn6⟩, -, X6, ⟨Lc6, hQ6, l6, y6, z6⟩, st6⟩ := Jvm.LawKit.callS X1 hx (y := (⟨o_n0, "putChar", "([BII)V"⟩ : MethodName)) hown (mvT hZ (o_w hw 45 rfl)) (mvT hZ (o_w hw 46 rfl)) (mvT hZ (o_w hw 30 rfl)) (mvT hZ (o_w hw 47 rfl)) (by decide) (backOf (W := 0) (rm10u3p0 l Z a0 hw [] b_1 ec0 kb_1 T1.heap n0 Z1 F7 P1 P2 P3 B1_1 ge_b_1) hZ (o_w hw 47 rfl) (o_w hw 30 rfl) (by decide) (by decide)) (g := o_g G) rfl (by rw [hml]; rfl) (argsL := [(.ref b_1), (.int 0), (.int ec0)]) (rest := []) (lenOf pd_6 rfl) rfl (by show 2 * 0 + _ ≤ _; exact Nat.le_of_eq rfl) (hb hby d7_20) (fun _ _ => ⟨rfl, rfl, (by decide : 1 + 0 ≤ _), (by decide : 6 + 0 ≤ _)⟩)
  dsimp only [Pt.U, Pt.locs, Pt.cells, Pt.slots] at X6 l6 y6 z6 st6 hQ6
  subst l6 y6 z6
  obtain ⟨rfl, N6q, K6q, B6_0⟩ := hQ6
  have Z6 : n0 ≤ T6.heap.size := Nat.le_trans Z1 K6q.1
  have K6 : Keep h0 T6.heap [] := K1.trans K6q (allS (Or.inr sz_b_1) all0)
  have N6 := Fr.app N1 N6q
  replace G := o_nxs (q := 23) (st := []) G st6 rfl
  replace G := o_iinc (q := 26) (l' := #[.val (.ref a), .val (.int 1), .val (.int 3), .val (.ref b_1), .val (.int 0)]) (w := (1 : Int32)) G X6.here hx (hb hby d7_23) (by decide) rfl (by decide : ((0 : Int32) + (1 : Int32)) = (1 : Int32)) rfl rfl
  replace G := o_iinc (q := 29) (l' := #[.val (.ref a), .val (.int 1), .val (.int 3), .val (.ref b_1), .val (.int 1)]) (w := (1 : Int32)) G X6.here hx (hb hby d7_26) (by decide) rfl (by decide : ((0 : Int32) + (1 : Int32)) = (1 : Int32)) rfl rfl
  replace G := o_goto (q := 8) G X6.here hx (hb hby d7_29) (by decide) (by decide)
  replace G := o_iload (q := 10) G X6.here hx (hb hby d7_8) rfl rfl
  replace G := o_iloadN (q := 11) G X6.here hx (hb hby d7_10) rfl rfl
  replace G := o_icmpNo (q := 14) G X6.here hx (hb hby d7_11) (by decide) rfl
  replace G := o_aloadN (q := 15) G X6.here hx (hb hby d7_14) rfl rfl rfl
  replace G := o_iload (q := 17) G X6.here hx (hb hby d7_15) rfl rfl
  replace G := o_aloadN (q := 18) G X6.here hx (hb hby d7_17) rfl rfl rfl
  replace G := o_iloadN (q := 19) G X6.here hx (hb hby d7_18) rfl rfl
  have F9 := (F4.keep K6q (ninS ne2 nin0))
  obtain ⟨c10, Ar10, -, S10, -, H10, -⟩ := id F9
  have hin10 : ¬ ((1 : Int32) < 0 ∨ c10.slots.size ≤ ((1 : Int32)).toNatClampNeg) := inb_of S10 ⟨by decide, by decide⟩
  replace G := o_nxs (q := 20) (st := [(.int ec1), (.int 1), (.ref b_1)]) G (X6.caload hx (j := (1 : Int32)) (v := (.int ec1)) (by exact Ar10.1) (State.isArrayOf_alike hZ.alike Ar10.2.1) Ar10.2.2 hin10 (Has.at H10 hin10 rfl) (g := o_g G) rfl rfl (hb hby d7_19)) rfl
  have F12 := (F7.keep K6q (allS ge_b_1 all0))
  obtain ⟨_, _, ⟨T11, L11, kk11, nn11⟩, -, X11, ⟨Lc11, hQ11, l11, y11, z11⟩, st11⟩ := Jvm.LawKit.callS X6 hx (y := (⟨o_n0, "putChar", "([BII)V"⟩ : MethodName)) hown (mvT hZ (o_w hw 45 rfl)) (mvT hZ (o_w hw 46 rfl)) (mvT hZ (o_w hw 30 rfl)) (mvT hZ (o_w hw 47 rfl)) (by decide) (backOf (W := 0) (rm10u3p1 l Z a0 hw [] b_1 ec1 kb_1 (nar .byte ((ec0 >>> ((0 : Int32) &&& 31)).toInt8.toInt32)) (nar .byte ((ec0 >>> ((8 : Int32) &&& 31)).toInt8.toInt32)) T6.heap n0 Z6 F12 P1 P2 P3 B6_0 ge_b_1) hZ (o_w hw 47 rfl) (o_w hw 30 rfl) (by decide) (by decide)) (g := o_g G) rfl (by rw [hml]; rfl) (argsL := [(.ref b_1), (.int 1), (.int ec1)]) (rest := []) (lenOf pd_6 rfl) rfl (by show 2 * 0 + _ ≤ _; exact Nat.le_of_eq rfl) (hb hby d7_20) (fun _ _ => ⟨rfl, rfl, (by decide : 1 + 0 ≤ _), (by decide : 6 + 0 ≤ _)⟩)
  dsimp only [Pt.U, Pt.locs, Pt.cells, Pt.slots] at X11 l11 y11 z11 st11 hQ11
  subst l11 y11 z11
  obtain ⟨rfl, N11q, K11q, B11_0⟩ := hQ11
  have Z11 : n0 ≤ T11.heap.size := Nat.le_trans Z6 K11q.1
  have K11 : Keep h0 T11.heap [] := K6.trans K11q (allS (Or.inr sz_b_1) all0)
  have N11 := Fr.app N6 N11q
  replace G := o_nxs (q := 23) (st := []) G st11 rfl
  replace G := o_iinc (q := 26) (l' := #[.val (.ref a), .val (.int 2), .val (.int 3), .val (.ref b_1), .val (.int 1)]) (w := (1 : Int32)) G X11.here hx (hb hby d7_23) (by decide) rfl (by decide : ((1 : Int32) + (1 : Int32)) = (2 : Int32)) rfl rfl
  replace G := o_iinc (q := 29) (l' := #[.val (.ref a), .val (.int 2), .val (.int 3), .val (.ref b_1), .val (.int 2)]) (w := (1 : Int32)) G X11.here hx (hb hby d7_26) (by decide) rfl (by decide : ((1 : Int32) + (1 : Int32)) = (2 : Int32)) rfl rfl
  replace G := o_goto (q := 8) G X11.here hx (hb hby d7_29) (by decide) (by decide)
  replace G := o_iload (q := 10) G X11.here hx (hb hby d7_8) rfl rfl
  replace G := o_iloadN (q := 11) G X11.here hx (hb hby d7_10) rfl rfl
  replace G := o_icmpNo (q := 14) G X11.here hx (hb hby d7_11) (by decide) rfl
  replace G := o_aloadN (q := 15) G X11.here hx (hb hby d7_14) rfl rfl rfl
  replace G := o_iload (q := 17) G X11.here hx (hb hby d7_15) rfl rfl
  replace G := o_aloadN (q := 18) G X11.here hx (hb hby d7_17) rfl rfl rfl
  replace G := o_iloadN (q := 19) G X11.here hx (hb hby d7_18) rfl rfl
  have F14 := (F9.keep K11q (ninS ne2 nin0))
  obtain ⟨c15, Ar15, -, S15, -, H15, -⟩ := id F14
  have hin15 : ¬ ((2 : Int32) < 0 ∨ c15.slots.size ≤ ((2 : Int32)).toNatClampNeg) := inb_of S15 ⟨by decide, by decide⟩
  replace G := o_nxs (q := 20) (st := [(.int ec2), (.int 2), (.ref b_1)]) G (X11.caload hx (j := (2 : Int32)) (v := (.int ec2)) (by exact Ar15.1) (State.isArrayOf_alike hZ.alike Ar15.2.1) Ar15.2.2 hin15 (Has.at H15 hin15 rfl) (g := o_g G) rfl rfl (hb hby d7_19)) rfl
  have F17 := (F12.keep K11q (allS ge_b_1 all0))
  obtain ⟨_, _, ⟨T16, L16, kk16, nn16⟩, -, X16, ⟨Lc16, hQ16, l16, y16, z16⟩, st16⟩ := Jvm.LawKit.callS X11 hx (y := (⟨o_n0, "putChar", "([BII)V"⟩ : MethodName)) hown (mvT hZ (o_w hw 45 rfl)) (mvT hZ (o_w hw 46 rfl)) (mvT hZ (o_w hw 30 rfl)) (mvT hZ (o_w hw 47 rfl)) (by decide) (backOf (W := 0) (rm10u3p2 l Z a0 hw [] b_1 ec2 kb_1 (nar .byte ((ec0 >>> ((0 : Int32) &&& 31)).toInt8.toInt32)) (nar .byte ((ec0 >>> ((8 : Int32) &&& 31)).toInt8.toInt32)) (nar .byte ((ec1 >>> ((0 : Int32) &&& 31)).toInt8.toInt32)) (nar .byte ((ec1 >>> ((8 : Int32) &&& 31)).toInt8.toInt32)) T11.heap n0 Z11 F17 P1 P2 P3 B11_0 ge_b_1) hZ (o_w hw 47 rfl) (o_w hw 30 rfl) (by decide) (by decide)) (g := o_g G) rfl (by rw [hml]; rfl) (argsL := [(.ref b_1), (.int 2), (.int ec2)]) (rest := []) (lenOf pd_6 rfl) rfl (by show 2 * 0 + _ ≤ _; exact Nat.le_of_eq rfl) (hb hby d7_20) (fun _ _ => ⟨rfl, rfl, (by decide : 1 + 0 ≤ _), (by decide : 6 + 0 ≤ _)⟩)
  dsimp only [Pt.U, Pt.locs, Pt.cells, Pt.slots] at X16 l16 y16 z16 st16 hQ16
  subst l16 y16 z16
  obtain ⟨rfl, N16q, K16q, B16_0⟩ := hQ16
  have Z16 : n0 ≤ T16.heap.size := Nat.le_trans Z11 K16q.1
  have K16 : Keep h0 T16.heap [] := K11.trans K16q (allS (Or.inr sz_b_1) all0)
  have N16 := Fr.app N11 N16q
  replace G := o_nxs (q := 23) (st := []) G st16 rfl
  replace G := o_iinc (q := 26) (l' := #[.val (.ref a), .val (.int 3), .val (.int 3), .val (.ref b_1), .val (.int 2)]) (w := (1 : Int32)) G X16.here hx (hb hby d7_23) (by decide) rfl (by decide : ((2 : Int32) + (1 : Int32)) = (3 : Int32)) rfl rfl
  replace G := o_iinc (q := 29) (l' := #[.val (.ref a), .val (.int 3), .val (.int 3), .val (.ref b_1), .val (.int 3)]) (w := (1 : Int32)) G X16.here hx (hb hby d7_26) (by decide) rfl (by decide : ((2 : Int32) + (1 : Int32)) = (3 : Int32)) rfl rfl
  replace G := o_goto (q := 8) G X16.here hx (hb hby d7_29) (by decide) (by decide)
  replace G := o_iload (q := 10) G X16.here hx (hb hby d7_8) rfl rfl
  replace G := o_iloadN (q := 11) G X16.here hx (hb hby d7_10) rfl rfl
  replace G := o_icmpYes (q := 32) G X16.here hx (hb hby d7_11) (by decide) (by decide) (by decide)
  replace G := o_aloadN (q := 33) G X16.here hx (hb hby d7_32) rfl rfl rfl
  obtain ⟨fs, hr, hrun, hended, hW, hsame⟩ := X16.leave (v := some (.ref b_1)) (fun h => by rw [Bd.returns] at h; cases h)
  refine ⟨_, _, G _ (retOut X16 hx Bd.returns rfl (Or.inr (Or.inr (Or.inr (Or.inr ⟨rfl, rfl, rfl⟩)))) (hb hby d7_33) hr), hrun, hended, _, _, rfl, ?_, ⟨_, rfl⟩, hW, hsame.mono (by decide) (by decide)⟩
  show Q7u3 Z a ks ec0 ec1 ec2 h0 n0 _ T16.heap _
  exact ⟨b_1, kb_1, rfl, N16, K16, sz_b_1, B16_0⟩
theorem ef_12u3 (m : MethodId) (x0 : Addr) : entryFrame m #[(.ref x0), (.int 3)] 2 = mkF m 0 #[.val (.ref x0), .val (.int 3)] [] := by first | (simp [entryFrame, mkF, argsToLocals, Value.category]; done) | rfl
def Q12u3 (Z : State) (d : Addr) (kd : ClassId) (vs : List Value) (h0 : Heap) (n0 : Nat) (v : Option Value) (h : Heap) (L : List Loc) : Prop := v = some (.int 1) ∧ Fr n0 L ∧ h = h0
set_option maxRecDepth 65536 in
set_option maxHeartbeats 40000000 in
theorem rm12u3 (l : Launch) (Z : State) (a0 : Array Value) (hw : ∀ d ∈ tables_1, d.before a0 Z = true) (ws : List Jvm.Cond) (d : Addr) (kd : ClassId) (vs : List Value) (h0 : Heap) (n0 : Nat) (Z0 : n0 ≤ h0.size) (P0 : Arv Z h0 d kd .byte (6 : Int32) vs (.int 0)) :
    MetFree l (⟨o_n0, "coderFromArrayLen", "([BI)B"⟩ : MethodName) (head1 (Jvm.Cond.code (⟨o_n0, "coderFromArrayLen", "([BI)B"⟩ : MethodName) jdk_52_method_15_code 2 (some .byte) :: ws) ({ frames := 0, cells := 0, slots := 0, locals := 0 } : Room)) (fun argz U => argz = #[(.ref d), (.int 3)] ∧ Z.Warmed39 U.vm ∧ U.heap = h0) (fun _ _ _ _ _ => True) (fun _ U o U' => ∃ v L, o = .returned v ∧ Q12u3 Z d kd vs h0 n0 v U'.heap L ∧ FrameEnd U o U' L ({ frames := 0, cells := 0, slots := 0, locals := 0 } : Room).cells ({ frames := 0, cells := 0, slots := 0, locals := 0 } : Room).slots) := by
  refine MetFree.of_bodySF (plainFor_of_name pn_java_lang_StringUTF16) hisR ?_
  intro p e s m args below meth c s₁ Bd hml0 hP hK
  obtain ⟨rfl, hZ, hh⟩ := hP
  have hx := Bd.exec
  have hby := Bd.bytes
  have hml : c.maxLocals = 2 := hml0
  have hown : s.vm.findClass o_n0 = some m.cls := findClass_of_methodNamed Bd.named
  have hnm := (name_of_methodNamed Bd.named Bd.method).1
  have X0 : Stand p l e ({ frames := 0, cells := 0, slots := 0, locals := 0 } : Room) s m #[(.ref d), (.int 3)] below meth c s₁ [] 0 0 := Stand.of_body Bd
  have e0 : s₁.heap = h0 := by rw [← hh, Bd.state]; rfl
  have N0 := Fr.nil n0
  have G : Gets p e below (s₁.setTop (entryFrame m #[(.ref d), (.int 3)] 2)) (s₁.setTop (mkF m 0 #[.val (.ref d), .val (.int 3)] [])) := fun t k => castTop (ef_12u3 m d) k
  replace G := o_iloadN (q := 1) G X0.here hx (hb hby d12_0) rfl rfl
  replace G := o_aloadN (q := 2) G X0.here hx (hb hby d12_1) rfl rfl rfl
  obtain ⟨c1, Ar1, -, S1, N1', -, -⟩ := id P0
  replace G : Gets p e below _ (s₁.setTop (mkF m 3 #[.val (.ref d), .val (.int 3)] [(.int 6), (.int 3)])) := fun t k => G t (X0.arraylength hx (by rw [e0]; exact Ar1.1) (State.isArrayOf_alike hZ.alike Ar1.2.1) (g := o_g G) rfl rfl (hb hby d12_2) t (by rw [len_of S1 N1']; exact k))
  replace G := o_isub (q := 4) G X0.here hx (hb hby d12_3) (by decide : ((3 : Int32) - (6 : Int32)) = (-3 : Int32)) rfl
  replace G := o_bipush (q := 6) G X0.here hx (hb hby d12_4) (v := (31 : Int32)) (by decide) rfl
  replace G := o_iushr (q := 7) G X0.here hx (hb hby d12_6) (by decide : (((-3 : Int32).toUInt32 >>> ((31 : Int32) &&& 31).toUInt32).toInt32) = (1 : Int32)) rfl
  replace G := o_i2b (q := 8) G X0.here hx (hb hby d12_7) (by decide : ((1 : Int32).toInt8.toInt32) = (1 : Int32)) rfl
  obtain ⟨fs, hr, hrun, hended, hW, hsame⟩ := X0.leave (v := some (.int 1)) (fun h => by rw [Bd.returns] at h; cases h)
  refine ⟨_, _, G _ (retOut X0 hx Bd.returns rfl (Or.inl ⟨rfl, Or.inr (Or.inr (Or.inl rfl)), _, rfl⟩) (hb hby d12_8) hr), hrun, hended, _, _, rfl, ?_, ⟨_, rfl⟩, hW, hsame.mono (by decide) (by decide)⟩
  show Q12u3 Z d kd vs h0 n0 _ s₁.heap _
  rw [e0]
  exact ⟨rfl, N0, rfl⟩
theorem ef_6u3j0 (m : MethodId) (x0 : Addr) (x2 : Addr) : entryFrame m #[(.ref x0), (.int 0), (.ref x2), (.int 0), (.int 3)] 7 = mkF m 0 #[.val (.ref x0), .val (.int 0), .val (.ref x2), .val (.int 0), .val (.int 3), .unset, .unset] [] := by first | (simp [entryFrame, mkF, argsToLocals, Value.category]; done) | rfl
def Q6u3j0 (Z : State) (a : Addr) (d : Addr) (ks : ClassId) (kd : ClassId) (ec0 : Int32) (ec1 : Int32) (ec2 : Int32) (h0 : Heap) (n0 : Nat) (v : Option Value) (h : Heap) (L : List Loc) : Prop := v = some (.int 0) ∧ Fr n0 L ∧ Keep h0 h [d] ∧ (Arv Z h d kd .byte (3 : Int32) [(.int 0), (.int 0), (.int 0)] (.int 0))
set_option maxRecDepth 65536 in
set_option maxHeartbeats 40000000 in
theorem rm6u3j0 (l : Launch) (Z : State) (a0 : Array Value) (hw : ∀ d ∈ tables_1, d.before a0 Z = true) (ws : List Jvm.Cond) (a : Addr) (d : Addr) (ks : ClassId) (kd : ClassId) (ec0 : Int32) (ec1 : Int32) (ec2 : Int32) (h0 : Heap) (n0 : Nat) (Z0 : n0 ≤ h0.size) (P0 : Arv Z h0 a ks .char (3 : Int32) [(.int ec0), (.int ec1), (.int ec2)] (.int 0)) (P1 : Arv Z h0 d kd .byte (3 : Int32) [(.int 0), (.int 0), (.int 0)] (.int 0)) (P2 : n0 ≤ d) (P3 : a ≠ d) (hg : (255 : Int32) < ec0) :
    MetFree l (⟨o_n0, "compress", "([CI[BII)I"⟩ : MethodName) (head1 (Jvm.Cond.code (⟨o_n0, "compress", "([CI[BII)I"⟩ : MethodName) jdk_52_method_21_code 7 (some .int) :: ws) ({ frames := 0, cells := 0, slots := 0, locals := 0 } : Room)) (fun argz U => argz = #[(.ref a), (.int 0), (.ref d), (.int 0), (.int 3)] ∧ Z.Warmed39 U.vm ∧ U.heap = h0) (fun _ _ _ _ _ => True) (fun _ U o U' => ∃ v L, o = .returned v ∧ Q6u3j0 Z a d ks kd ec0 ec1 ec2 h0 n0 v U'.heap L ∧ FrameEnd U o U' L ({ frames := 0, cells := 0, slots := 0, locals := 0 } : Room).cells ({ frames := 0, cells := 0, slots := 0, locals := 0 } : Room).slots) := by
  refine MetFree.of_bodySF (plainFor_of_name pn_java_lang_StringUTF16) hisR ?_
  intro p e s m args below meth c s₁ Bd hml0 hP hK
  obtain ⟨rfl, hZ, hh⟩ := hP
  have hx := Bd.exec
  have hby := Bd.bytes
  have hml : c.maxLocals = 7 := hml0
  have hown : s.vm.findClass o_n0 = some m.cls := findClass_of_methodNamed Bd.named
  have hnm := (name_of_methodNamed Bd.named Bd.method).1
  have X0 : Stand p l e ({ frames := 0, cells := 0, slots := 0, locals := 0 } : Room) s m #[(.ref a), (.int 0), (.ref d), (.int 0), (.int 3)] below meth c s₁ [] 0 0 := Stand.of_body Bd
  have e0 : s₁.heap = h0 := by rw [← hh, Bd.state]; rfl
  have N0 := Fr.nil n0
  have K0 : Keep h0 h0 [d] := Keep.refl _ _
  have G : Gets p e below (s₁.setTop (entryFrame m #[(.ref a), (.int 0), (.ref d), (.int 0), (.int 3)] 7)) (s₁.setTop (mkF m 0 #[.val (.ref a), .val (.int 0), .val (.ref d), .val (.int 0), .val (.int 3), .unset, .unset] [])) := fun t k => castTop (ef_6u3j0 m a d) k
  replace G := o_iconst (q := 1) G X0.here hx (hb hby d6_0) (v := (0 : Int32)) (by decide) rfl
  replace G := o_istore (q := 3) (l' := #[.val (.ref a), .val (.int 0), .val (.ref d), .val (.int 0), .val (.int 3), .val (.int 0), .unset]) G X0.here hx (hb hby d6_1) rfl rfl
  replace G := o_iload (q := 5) G X0.here hx (hb hby d6_3) rfl rfl
  replace G := o_iload (q := 7) G X0.here hx (hb hby d6_5) rfl rfl
  replace G := o_icmpNo (q := 10) G X0.here hx (hb hby d6_7) (by decide) rfl
  replace G := o_aloadN (q := 11) G X0.here hx (hb hby d6_10) rfl rfl rfl
  replace G := o_iloadN (q := 12) G X0.here hx (hb hby d6_11) rfl rfl
  obtain ⟨c2, Ar2, -, S2, -, H2, -⟩ := id P0
  have hin2 : ¬ ((0 : Int32) < 0 ∨ c2.slots.size ≤ ((0 : Int32)).toNatClampNeg) := inb_of S2 ⟨by decide, by decide⟩
  replace G := o_nxs (q := 13) (st := [(.int ec0)]) G (X0.caload hx (j := (0 : Int32)) (v := (.int ec0)) (by rw [e0]; exact Ar2.1) (State.isArrayOf_alike hZ.alike Ar2.2.1) Ar2.2.2 hin2 (Has.at H2 hin2 rfl) (g := o_g G) rfl rfl (hb hby d6_12)) rfl
  replace G := o_istore (q := 15) (l' := #[.val (.ref a), .val (.int 0), .val (.ref d), .val (.int 0), .val (.int 3), .val (.int 0), .val (.int ec0)]) G X0.here hx (hb hby d6_13) rfl rfl
  replace G := o_iload (q := 17) G X0.here hx (hb hby d6_15) rfl rfl
  replace G := o_sipush (q := 20) G X0.here hx (hb hby d6_17) (v := (255 : Int32)) (by decide) rfl
  have hc20_3 : (255 : Int32) < ec0 := hg
  replace G := o_icmpNo (q := 23) G X0.here hx (hb hby d6_20) (tlt hc20_3).2.2.2 rfl
  replace G := o_iload (q := 25) G X0.here hx (hb hby d6_23) rfl rfl
  obtain ⟨fs, hr, hrun, hended, hW, hsame⟩ := X0.leave (v := some (.int 0)) (fun h => by rw [Bd.returns] at h; cases h)
  refine ⟨_, _, G _ (retOut X0 hx Bd.returns rfl (Or.inl ⟨rfl, Or.inl rfl, _, rfl⟩) (hb hby d6_25) hr), hrun, hended, _, _, rfl, ?_, ⟨_, rfl⟩, hW, hsame.mono (by decide) (by decide)⟩
  show Q6u3j0 Z a d ks kd ec0 ec1 ec2 h0 n0 _ s₁.heap _
  rw [e0]
  exact ⟨rfl, N0, K0, P1⟩
theorem ef_6u3j1 (m : MethodId) (x0 : Addr) (x2 : Addr) : entryFrame m #[(.ref x0), (.int 0), (.ref x2), (.int 0), (.int 3)] 7 = mkF m 0 #[.val (.ref x0), .val (.int 0), .val (.ref x2), .val (.int 0), .val (.int 3), .unset, .unset] [] := by first | (simp [entryFrame, mkF, argsToLocals, Value.category]; done) | rfl
def Q6u3j1 (Z : State) (a : Addr) (d : Addr) (ks : ClassId) (kd : ClassId) (ec0 : Int32) (ec1 : Int32) (ec2 : Int32) (h0 : Heap) (n0 : Nat) (v : Option Value) (h : Heap) (L : List Loc) : Prop := v = some (.int 1) ∧ Fr n0 L ∧ Keep h0 h [d] ∧ (Arv Z h d kd .byte (3 : Int32) [(.int (nar .byte (ec0.toInt8.toInt32))), (.int 0), (.int 0)] (.int 0))
set_option maxRecDepth 65536 in
set_option maxHeartbeats 40000000 in
theorem rm6u3j1 (l : Launch) (Z : State) (a0 : Array Value) (hw : ∀ d ∈ tables_1, d.before a0 Z = true) (ws : List Jvm.Cond) (a : Addr) (d : Addr) (ks : ClassId) (kd : ClassId) (ec0 : Int32) (ec1 : Int32) (ec2 : Int32) (h0 : Heap) (n0 : Nat) (Z0 : n0 ≤ h0.size) (P0 : Arv Z h0 a ks .char (3 : Int32) [(.int ec0), (.int ec1), (.int ec2)] (.int 0)) (P1 : Arv Z h0 d kd .byte (3 : Int32) [(.int 0), (.int 0), (.int 0)] (.int 0)) (P2 : n0 ≤ d) (P3 : a ≠ d) (he0 : ¬ ((255 : Int32) < ec0)) (hg : (255 : Int32) < ec1) :
    MetFree l (⟨o_n0, "compress", "([CI[BII)I"⟩ : MethodName) (head1 (Jvm.Cond.code (⟨o_n0, "compress", "([CI[BII)I"⟩ : MethodName) jdk_52_method_21_code 7 (some .int) :: ws) ({ frames := 0, cells := 0, slots := 0, locals := 0 } : Room)) (fun argz U => argz = #[(.ref a), (.int 0), (.ref d), (.int 0), (.int 3)] ∧ Z.Warmed39 U.vm ∧ U.heap = h0) (fun _ _ _ _ _ => True) (fun _ U o U' => ∃ v L, o = .returned v ∧ Q6u3j1 Z a d ks kd ec0 ec1 ec2 h0 n0 v U'.heap L ∧ FrameEnd U o U' L ({ frames := 0, cells := 0, slots := 0, locals := 0 } : Room).cells ({ frames := 0, cells := 0, slots := 0, locals := 0 } : Room).slots) := by
  refine MetFree.of_bodySF (plainFor_of_name pn_java_lang_StringUTF16) hisR ?_
  intro p e s m args below meth c s₁ Bd hml0 hP hK
  obtain ⟨rfl, hZ, hh⟩ := hP
  have hx := Bd.exec
  have hby := Bd.bytes
  have hml : c.maxLocals = 7 := hml0
  have hown : s.vm.findClass o_n0 = some m.cls := findClass_of_methodNamed Bd.named
  have hnm := (name_of_methodNamed Bd.named Bd.method).1
  have X0 : Stand p l e ({ frames := 0, cells := 0, slots := 0, locals := 0 } : Room) s m #[(.ref a), (.int 0), (.ref d), (.int 0), (.int 3)] below meth c s₁ [] 0 0 := Stand.of_body Bd
  have e0 : s₁.heap = h0 := by rw [← hh, Bd.state]; rfl
  have N0 := Fr.nil n0
  have K0 : Keep h0 h0 [d] := Keep.refl _ _
  have G : Gets p e below (s₁.setTop (entryFrame m #[(.ref a), (.int 0), (.ref d), (.int 0), (.int 3)] 7)) (s₁.setTop (mkF m 0 #[.val (.ref a), .val (.int 0), .val (.ref d), .val (.int 0), .val (.int 3), .unset, .unset] [])) := fun t k => castTop (ef_6u3j1 m a d) k
  replace G := o_iconst (q := 1) G X0.here hx (hb hby d6_0) (v := (0 : Int32)) (by decide) rfl
  replace G := o_istore (q := 3) (l' := #[.val (.ref a), .val (.int 0), .val (.ref d), .val (.int 0), .val (.int 3), .val (.int 0), .unset]) G X0.here hx (hb hby d6_1) rfl rfl
  replace G := o_iload (q := 5) G X0.here hx (hb hby d6_3) rfl rfl
  replace G := o_iload (q := 7) G X0.here hx (hb hby d6_5) rfl rfl
  replace G := o_icmpNo (q := 10) G X0.here hx (hb hby d6_7) (by decide) rfl
  replace G := o_aloadN (q := 11) G X0.here hx (hb hby d6_10) rfl rfl rfl
  replace G := o_iloadN (q := 12) G X0.here hx (hb hby d6_11) rfl rfl
  obtain ⟨c2, Ar2, -, S2, -, H2, -⟩ := id P0
  have hin2 : ¬ ((0 : Int32) < 0 ∨ c2.slots.size ≤ ((0 : Int32)).toNatClampNeg) := inb_of S2 ⟨by decide, by decide⟩
  replace G := o_nxs (q := 13) (st := [(.int ec0)]) G (X0.caload hx (j := (0 : Int32)) (v := (.int ec0)) (by rw [e0]; exact Ar2.1) (State.isArrayOf_alike hZ.alike Ar2.2.1) Ar2.2.2 hin2 (Has.at H2 hin2 rfl) (g := o_g G) rfl rfl (hb hby d6_12)) rfl
  replace G := o_istore (q := 15) (l' := #[.val (.ref a), .val (.int 0), .val (.ref d), .val (.int 0), .val (.int 3), .val (.int 0), .val (.int ec0)]) G X0.here hx (hb hby d6_13) rfl rfl
  replace G := o_iload (q := 17) G X0.here hx (hb hby d6_15) rfl rfl
  replace G := o_sipush (q := 20) G X0.here hx (hb hby d6_17) (v := (255 : Int32)) (by decide) rfl
  have hc20_3 : ¬ ((255 : Int32) < ec0) := he0
  replace G := o_icmpYes (q := 26) G X0.here hx (hb hby d6_20) (flt hc20_3).2.2.2 (by decide) (by decide)
  replace G := o_aloadN (q := 27) G X0.here hx (hb hby d6_26) rfl rfl rfl
  replace G := o_iloadN (q := 28) G X0.here hx (hb hby d6_27) rfl rfl
  replace G := o_iload (q := 30) G X0.here hx (hb hby d6_28) rfl rfl
  replace G := o_i2b (q := 31) G X0.here hx (hb hby d6_30) rfl rfl
  obtain ⟨c4, Ar4, q4, S4, N4', H4, G4'⟩ := id P1
  have hin4 : ¬ ((0 : Int32) < 0 ∨ c4.slots.size ≤ ((0 : Int32)).toNatClampNeg) := inb_of S4 ⟨by decide, by decide⟩
  obtain ⟨T4, h4, X4, e4, W4, st4⟩ := stB X0 hx hZ e0 Ar4 (j := (0 : Int32)) hin4 (g := o_g G) rfl rfl (hb hby d6_31)
  have N4 := Fr.snoc X4 N0 P2
  have Z4 : n0 ≤ h4.size := Nat.le_trans Z0 (Keep.of_wr W4).1
  have K4 : Keep h0 h4 [d] := K0.wr W4 (Or.inl (List.mem_of_getElem? (i := 0) rfl))
  have V4 : Arv Z h4 d kd .byte (3 : Int32) [(.int (nar .byte (ec0.toInt8.toInt32))), (.int 0), (.int 0)] (.int 0) := Arv.set Ar4 q4 S4 N4' H4 G4' (fits_nar_byte _) W4 0 rfl (Nat.le_of_ble_eq_true rfl)
  replace G := o_nxs (q := 32) (st := []) G st4 rfl
  replace G := o_iinc (q := 35) (l' := #[.val (.ref a), .val (.int 1), .val (.ref d), .val (.int 0), .val (.int 3), .val (.int 0), .val (.int ec0)]) (w := (1 : Int32)) G X4.here hx (hb hby d6_32) (by decide) rfl (by decide : ((0 : Int32) + (1 : Int32)) = (1 : Int32)) rfl rfl
  replace G := o_iinc (q := 38) (l' := #[.val (.ref a), .val (.int 1), .val (.ref d), .val (.int 1), .val (.int 3), .val (.int 0), .val (.int ec0)]) (w := (1 : Int32)) G X4.here hx (hb hby d6_35) (by decide) rfl (by decide : ((0 : Int32) + (1 : Int32)) = (1 : Int32)) rfl rfl
  replace G := o_iinc (q := 41) (l' := #[.val (.ref a), .val (.int 1), .val (.ref d), .val (.int 1), .val (.int 3), .val (.int 1), .val (.int ec0)]) (w := (1 : Int32)) G X4.here hx (hb hby d6_38) (by decide) rfl (by decide : ((0 : Int32) + (1 : Int32)) = (1 : Int32)) rfl rfl
  replace G := o_goto (q := 3) G X4.here hx (hb hby d6_41) (by decide) (by decide)
  replace G := o_iload (q := 5) G X4.here hx (hb hby d6_3) rfl rfl
  replace G := o_iload (q := 7) G X4.here hx (hb hby d6_5) rfl rfl
  replace G := o_icmpNo (q := 10) G X4.here hx (hb hby d6_7) (by decide) rfl
  replace G := o_aloadN (q := 11) G X4.here hx (hb hby d6_10) rfl rfl rfl
  replace G := o_iloadN (q := 12) G X4.here hx (hb hby d6_11) rfl rfl
  have F6 := (P0.other W4 P3)
  obtain ⟨c7, Ar7, -, S7, -, H7, -⟩ := id F6
  have hin7 : ¬ ((1 : Int32) < 0 ∨ c7.slots.size ≤ ((1 : Int32)).toNatClampNeg) := inb_of S7 ⟨by decide, by decide⟩
  replace G := o_nxs (q := 13) (st := [(.int ec1)]) G (X4.caload hx (j := (1 : Int32)) (v := (.int ec1)) (by rw [e4]; exact Ar7.1) (State.isArrayOf_alike hZ.alike Ar7.2.1) Ar7.2.2 hin7 (Has.at H7 hin7 rfl) (g := o_g G) rfl rfl (hb hby d6_12)) rfl
  replace G := o_istore (q := 15) (l' := #[.val (.ref a), .val (.int 1), .val (.ref d), .val (.int 1), .val (.int 3), .val (.int 1), .val (.int ec1)]) G X4.here hx (hb hby d6_13) rfl rfl
  replace G := o_iload (q := 17) G X4.here hx (hb hby d6_15) rfl rfl
  replace G := o_sipush (q := 20) G X4.here hx (hb hby d6_17) (v := (255 : Int32)) (by decide) rfl
  have hc20_8 : (255 : Int32) < ec1 := hg
  replace G := o_icmpNo (q := 23) G X4.here hx (hb hby d6_20) (tlt hc20_8).2.2.2 rfl
  replace G := o_iload (q := 25) G X4.here hx (hb hby d6_23) rfl rfl
  obtain ⟨fs, hr, hrun, hended, hW, hsame⟩ := X4.leave (v := some (.int 1)) (fun h => by rw [Bd.returns] at h; cases h)
  refine ⟨_, _, G _ (retOut X4 hx Bd.returns rfl (Or.inl ⟨rfl, Or.inl rfl, _, rfl⟩) (hb hby d6_25) hr), hrun, hended, _, _, rfl, ?_, ⟨_, rfl⟩, hW, hsame.mono (by decide) (by decide)⟩
  show Q6u3j1 Z a d ks kd ec0 ec1 ec2 h0 n0 _ T4.heap _
  rw [e4]
  exact ⟨rfl, N4, K4, V4⟩
theorem ef_6u3j2 (m : MethodId) (x0 : Addr) (x2 : Addr) : entryFrame m #[(.ref x0), (.int 0), (.ref x2), (.int 0), (.int 3)] 7 = mkF m 0 #[.val (.ref x0), .val (.int 0), .val (.ref x2), .val (.int 0), .val (.int 3), .unset, .unset] [] := by first | (simp [entryFrame, mkF, argsToLocals, Value.category]; done) | rfl
def Q6u3j2 (Z : State) (a : Addr) (d : Addr) (ks : ClassId) (kd : ClassId) (ec0 : Int32) (ec1 : Int32) (ec2 : Int32) (h0 : Heap) (n0 : Nat) (v : Option Value) (h : Heap) (L : List Loc) : Prop := v = some (.int 2) ∧ Fr n0 L ∧ Keep h0 h [d] ∧ (Arv Z h d kd .byte (3 : Int32) [(.int (nar .byte (ec0.toInt8.toInt32))), (.int (nar .byte (ec1.toInt8.toInt32))), (.int 0)] (.int 0))
set_option maxRecDepth 65536 in
set_option maxHeartbeats 40000000 in
theorem rm6u3j2 (l : Launch) (Z : State) (a0 : Array Value) (hw : ∀ d ∈ tables_1, d.before a0 Z = true) (ws : List Jvm.Cond) (a : Addr) (d : Addr) (ks : ClassId) (kd : ClassId) (ec0 : Int32) (ec1 : Int32) (ec2 : Int32) (h0 : Heap) (n0 : Nat) (Z0 : n0 ≤ h0.size) (P0 : Arv Z h0 a ks .char (3 : Int32) [(.int ec0), (.int ec1), (.int ec2)] (.int 0)) (P1 : Arv Z h0 d kd .byte (3 : Int32) [(.int 0), (.int 0), (.int 0)] (.int 0)) (P2 : n0 ≤ d) (P3 : a ≠ d) (he0 : ¬ ((255 : Int32) < ec0)) (he1 : ¬ ((255 : Int32) < ec1)) (hg : (255 : Int32) < ec2) :
    MetFree l (⟨o_n0, "compress", "([CI[BII)I"⟩ : MethodName) (head1 (Jvm.Cond.code (⟨o_n0, "compress", "([CI[BII)I"⟩ : MethodName) jdk_52_method_21_code 7 (some .int) :: ws) ({ frames := 0, cells := 0, slots := 0, locals := 0 } : Room)) (fun argz U => argz = #[(.ref a), (.int 0), (.ref d), (.int 0), (.int 3)] ∧ Z.Warmed39 U.vm ∧ U.heap = h0) (fun _ _ _ _ _ => True) (fun _ U o U' => ∃ v L, o = .returned v ∧ Q6u3j2 Z a d ks kd ec0 ec1 ec2 h0 n0 v U'.heap L ∧ FrameEnd U o U' L ({ frames := 0, cells := 0, slots := 0, locals := 0 } : Room).cells ({ frames := 0, cells := 0, slots := 0, locals := 0 } : Room).slots) := by
  refine MetFree.of_bodySF (plainFor_of_name pn_java_lang_StringUTF16) hisR ?_
  intro p e s m args below meth c s₁ Bd hml0 hP hK
  obtain ⟨rfl, hZ, hh⟩ := hP
  have hx := Bd.exec
  have hby := Bd.bytes
  have hml : c.maxLocals = 7 := hml0
  have hown : s.vm.findClass o_n0 = some m.cls := findClass_of_methodNamed Bd.named
  have hnm := (name_of_methodNamed Bd.named Bd.method).1
  have X0 : Stand p l e ({ frames := 0, cells := 0, slots := 0, locals := 0 } : Room) s m #[(.ref a), (.int 0), (.ref d), (.int 0), (.int 3)] below meth c s₁ [] 0 0 := Stand.of_body Bd
  have e0 : s₁.heap = h0 := by rw [← hh, Bd.state]; rfl
  have N0 := Fr.nil n0
  have K0 : Keep h0 h0 [d] := Keep.refl _ _
  have G : Gets p e below (s₁.setTop (entryFrame m #[(.ref a), (.int 0), (.ref d), (.int 0), (.int 3)] 7)) (s₁.setTop (mkF m 0 #[.val (.ref a), .val (.int 0), .val (.ref d), .val (.int 0), .val (.int 3), .unset, .unset] [])) := fun t k => castTop (ef_6u3j2 m a d) k
  replace G := o_iconst (q := 1) G X0.here hx (hb hby d6_0) (v := (0 : Int32)) (by decide) rfl
  replace G := o_istore (q := 3) (l' := #[.val (.ref a), .val (.int 0), .val (.ref d), .val (.int 0), .val (.int 3), .val (.int 0), .unset]) G X0.here hx (hb hby d6_1) rfl rfl
  replace G := o_iload (q := 5) G X0.here hx (hb hby d6_3) rfl rfl
  replace G := o_iload (q := 7) G X0.here hx (hb hby d6_5) rfl rfl
  replace G := o_icmpNo (q := 10) G X0.here hx (hb hby d6_7) (by decide) rfl
  replace G := o_aloadN (q := 11) G X0.here hx (hb hby d6_10) rfl rfl rfl
  replace G := o_iloadN (q := 12) G X0.here hx (hb hby d6_11) rfl rfl
  obtain ⟨c2, Ar2, -, S2, -, H2, -⟩ := id P0
  have hin2 : ¬ ((0 : Int32) < 0 ∨ c2.slots.size ≤ ((0 : Int32)).toNatClampNeg) := inb_of S2 ⟨by decide, by decide⟩
  replace G := o_nxs (q := 13) (st := [(.int ec0)]) G (X0.caload hx (j := (0 : Int32)) (v := (.int ec0)) (by rw [e0]; exact Ar2.1) (State.isArrayOf_alike hZ.alike Ar2.2.1) Ar2.2.2 hin2 (Has.at H2 hin2 rfl) (g := o_g G) rfl rfl (hb hby d6_12)) rfl
  replace G := o_istore (q := 15) (l' := #[.val (.ref a), .val (.int 0), .val (.ref d), .val (.int 0), .val (.int 3), .val (.int 0), .val (.int ec0)]) G X0.here hx (hb hby d6_13) rfl rfl
  replace G := o_iload (q := 17) G X0.here hx (hb hby d6_15) rfl rfl
  replace G := o_sipush (q := 20) G X0.here hx (hb hby d6_17) (v := (255 : Int32)) (by decide) rfl
  have hc20_3 : ¬ ((255 : Int32) < ec0) := he0
  replace G := o_icmpYes (q := 26) G X0.here hx (hb hby d6_20) (flt hc20_3).2.2.2 (by decide) (by decide)
  replace G := o_aloadN (q := 27) G X0.here hx (hb hby d6_26) rfl rfl rfl
  replace G := o_iloadN (q := 28) G X0.here hx (hb hby d6_27) rfl rfl
  replace G := o_iload (q := 30) G X0.here hx (hb hby d6_28) rfl rfl
  replace G := o_i2b (q := 31) G X0.here hx (hb hby d6_30) rfl rfl
  obtain ⟨c4, Ar4, q4, S4, N4', H4, G4'⟩ := id P1
  have hin4 : ¬ ((0 : Int32) < 0 ∨ c4.slots.size ≤ ((0 : Int32)).toNatClampNeg) := inb_of S4 ⟨by decide, by decide⟩
  obtain ⟨T4, h4, X4, e4, W4, st4⟩ := stB X0 hx hZ e0 Ar4 (j := (0 : Int32)) hin4 (g := o_g G) rfl rfl (hb hby d6_31)
  have N4 := Fr.snoc X4 N0 P2
  have Z4 : n0 ≤ h4.size := Nat.le_trans Z0 (Keep.of_wr W4).1
  have K4 : Keep h0 h4 [d] := K0.wr W4 (Or.inl (List.mem_of_getElem? (i := 0) rfl))
  have V4 : Arv Z h4 d kd .byte (3 : Int32) [(.int (nar .byte (ec0.toInt8.toInt32))), (.int 0), (.int 0)] (.int 0) := Arv.set Ar4 q4 S4 N4' H4 G4' (fits_nar_byte _) W4 0 rfl (Nat.le_of_ble_eq_true rfl)
  replace G := o_nxs (q := 32) (st := []) G st4 rfl
  replace G := o_iinc (q := 35) (l' := #[.val (.ref a), .val (.int 1), .val (.ref d), .val (.int 0), .val (.int 3), .val (.int 0), .val (.int ec0)]) (w := (1 : Int32)) G X4.here hx (hb hby d6_32) (by decide) rfl (by decide : ((0 : Int32) + (1 : Int32)) = (1 : Int32)) rfl rfl
  replace G := o_iinc (q := 38) (l' := #[.val (.ref a), .val (.int 1), .val (.ref d), .val (.int 1), .val (.int 3), .val (.int 0), .val (.int ec0)]) (w := (1 : Int32)) G X4.here hx (hb hby d6_35) (by decide) rfl (by decide : ((0 : Int32) + (1 : Int32)) = (1 : Int32)) rfl rfl
  replace G := o_iinc (q := 41) (l' := #[.val (.ref a), .val (.int 1), .val (.ref d), .val (.int 1), .val (.int 3), .val (.int 1), .val (.int ec0)]) (w := (1 : Int32)) G X4.here hx (hb hby d6_38) (by decide) rfl (by decide : ((0 : Int32) + (1 : Int32)) = (1 : Int32)) rfl rfl
  replace G := o_goto (q := 3) G X4.here hx (hb hby d6_41) (by decide) (by decide)
  replace G := o_iload (q := 5) G X4.here hx (hb hby d6_3) rfl rfl
  replace G := o_iload (q := 7) G X4.here hx (hb hby d6_5) rfl rfl
  replace G := o_icmpNo (q := 10) G X4.here hx (hb hby d6_7) (by decide) rfl
  replace G := o_aloadN (q := 11) G X4.here hx (hb hby d6_10) rfl rfl rfl
  replace G := o_iloadN (q := 12) G X4.here hx (hb hby d6_11) rfl rfl
  have F6 := (P0.other W4 P3)
  obtain ⟨c7, Ar7, -, S7, -, H7, -⟩ := id F6
  have hin7 : ¬ ((1 : Int32) < 0 ∨ c7.slots.size ≤ ((1 : Int32)).toNatClampNeg) := inb_of S7 ⟨by decide, by decide⟩
  replace G := o_nxs (q := 13) (st := [(.int ec1)]) G (X4.caload hx (j := (1 : Int32)) (v := (.int ec1)) (by rw [e4]; exact Ar7.1) (State.isArrayOf_alike hZ.alike Ar7.2.1) Ar7.2.2 hin7 (Has.at H7 hin7 rfl) (g := o_g G) rfl rfl (hb hby d6_12)) rfl
  replace G := o_istore (q := 15) (l' := #[.val (.ref a), .val (.int 1), .val (.ref d), .val (.int 1), .val (.int 3), .val (.int 1), .val (.int ec1)]) G X4.here hx (hb hby d6_13) rfl rfl
  replace G := o_iload (q := 17) G X4.here hx (hb hby d6_15) rfl rfl
  replace G := o_sipush (q := 20) G X4.here hx (hb hby d6_17) (v := (255 : Int32)) (by decide) rfl
  have hc20_8 : ¬ ((255 : Int32) < ec1) := he1
  replace G := o_icmpYes (q := 26) G X4.here hx (hb hby d6_20) (flt hc20_8).2.2.2 (by decide) (by decide)
  replace G := o_aloadN (q := 27) G X4.here hx (hb hby d6_26) rfl rfl rfl
  replace G := o_iloadN (q := 28) G X4.here hx (hb hby d6_27) rfl rfl
  replace G := o_iload (q := 30) G X4.here hx (hb hby d6_28) rfl rfl
  replace G := o_i2b (q := 31) G X4.here hx (hb hby d6_30) rfl rfl
  obtain ⟨c9, Ar9, q9, S9, N9', H9, G9'⟩ := id V4
  have hin9 : ¬ ((1 : Int32) < 0 ∨ c9.slots.size ≤ ((1 : Int32)).toNatClampNeg) := inb_of S9 ⟨by decide, by decide⟩
  obtain ⟨T9, h9, X9, e9, W9, st9⟩ := stB X4 hx hZ e4 Ar9 (j := (1 : Int32)) hin9 (g := o_g G) rfl rfl (hb hby d6_31)
  have N9 := Fr.snoc X9 N4 P2
  have Z9 : n0 ≤ h9.size := Nat.le_trans Z4 (Keep.of_wr W9).1
  have K9 : Keep h0 h9 [d] := K4.wr W9 (Or.inl (List.mem_of_getElem? (i := 0) rfl))
  have V9 : Arv Z h9 d kd .byte (3 : Int32) [(.int (nar .byte (ec0.toInt8.toInt32))), (.int (nar .byte (ec1.toInt8.toInt32))), (.int 0)] (.int 0) := Arv.set Ar9 q9 S9 N9' H9 G9' (fits_nar_byte _) W9 1 rfl (Nat.le_of_ble_eq_true rfl)
  replace G := o_nxs (q := 32) (st := []) G st9 rfl
  replace G := o_iinc (q := 35) (l' := #[.val (.ref a), .val (.int 2), .val (.ref d), .val (.int 1), .val (.int 3), .val (.int 1), .val (.int ec1)]) (w := (1 : Int32)) G X9.here hx (hb hby d6_32) (by decide) rfl (by decide : ((1 : Int32) + (1 : Int32)) = (2 : Int32)) rfl rfl
  replace G := o_iinc (q := 38) (l' := #[.val (.ref a), .val (.int 2), .val (.ref d), .val (.int 2), .val (.int 3), .val (.int 1), .val (.int ec1)]) (w := (1 : Int32)) G X9.here hx (hb hby d6_35) (by decide) rfl (by decide : ((1 : Int32) + (1 : Int32)) = (2 : Int32)) rfl rfl
  replace G := o_iinc (q := 41) (l' := #[.val (.ref a), .val (.int 2), .val (.ref d), .val (.int 2), .val (.int 3), .val (.int 2), .val (.int ec1)]) (w := (1 : Int32)) G X9.here hx (hb hby d6_38) (by decide) rfl (by decide : ((1 : Int32) + (1 : Int32)) = (2 : Int32)) rfl rfl
  replace G := o_goto (q := 3) G X9.here hx (hb hby d6_41) (by decide) (by decide)
  replace G := o_iload (q := 5) G X9.here hx (hb hby d6_3) rfl rfl
  replace G := o_iload (q := 7) G X9.here hx (hb hby d6_5) rfl rfl
  replace G := o_icmpNo (q := 10) G X9.here hx (hb hby d6_7) (by decide) rfl
  replace G := o_aloadN (q := 11) G X9.here hx (hb hby d6_10) rfl rfl rfl
  replace G := o_iloadN (q := 12) G X9.here hx (hb hby d6_11) rfl rfl
  have F11 := (F6.other W9 P3)
  obtain ⟨c12, Ar12, -, S12, -, H12, -⟩ := id F11
  have hin12 : ¬ ((2 : Int32) < 0 ∨ c12.slots.size ≤ ((2 : Int32)).toNatClampNeg) := inb_of S12 ⟨by decide, by decide⟩
  replace G := o_nxs (q := 13) (st := [(.int ec2)]) G (X9.caload hx (j := (2 : Int32)) (v := (.int ec2)) (by rw [e9]; exact Ar12.1) (State.isArrayOf_alike hZ.alike Ar12.2.1) Ar12.2.2 hin12 (Has.at H12 hin12 rfl) (g := o_g G) rfl rfl (hb hby d6_12)) rfl
  replace G := o_istore (q := 15) (l' := #[.val (.ref a), .val (.int 2), .val (.ref d), .val (.int 2), .val (.int 3), .val (.int 2), .val (.int ec2)]) G X9.here hx (hb hby d6_13) rfl rfl
  replace G := o_iload (q := 17) G X9.here hx (hb hby d6_15) rfl rfl
  replace G := o_sipush (q := 20) G X9.here hx (hb hby d6_17) (v := (255 : Int32)) (by decide) rfl
  have hc20_13 : (255 : Int32) < ec2 := hg
  replace G := o_icmpNo (q := 23) G X9.here hx (hb hby d6_20) (tlt hc20_13).2.2.2 rfl
  replace G := o_iload (q := 25) G X9.here hx (hb hby d6_23) rfl rfl
  obtain ⟨fs, hr, hrun, hended, hW, hsame⟩ := X9.leave (v := some (.int 2)) (fun h => by rw [Bd.returns] at h; cases h)
  refine ⟨_, _, G _ (retOut X9 hx Bd.returns rfl (Or.inl ⟨rfl, Or.inl rfl, _, rfl⟩) (hb hby d6_25) hr), hrun, hended, _, _, rfl, ?_, ⟨_, rfl⟩, hW, hsame.mono (by decide) (by decide)⟩
  show Q6u3j2 Z a d ks kd ec0 ec1 ec2 h0 n0 _ T9.heap _
  rw [e9]
  exact ⟨rfl, N9, K9, V9⟩
theorem ef_5u3 (m : MethodId) (x0 : Addr) : entryFrame m #[(.ref x0), (.int 0), (.int 3)] 6 = mkF m 0 #[.val (.ref x0), .val (.int 0), .val (.int 3), .unset, .unset, .unset] [] := by first | (simp [entryFrame, mkF, argsToLocals, Value.category]; done) | rfl
def Q5u3 (Z : State) (a : Addr) (ks : ClassId) (ec0 : Int32) (ec1 : Int32) (ec2 : Int32) (h0 : Heap) (n0 : Nat) (v : Option Value) (h : Heap) (L : List Loc) : Prop := ∃ (b : Addr) (kb : ClassId), v = some (.ref b) ∧ Fr n0 L ∧ Keep h0 h [] ∧ h0.size ≤ b ∧ (Arv Z h b kb .byte (6 : Int32) [(.int (nar .byte ((ec0 >>> ((0 : Int32) &&& 31)).toInt8.toInt32))), (.int (nar .byte ((ec0 >>> ((8 : Int32) &&& 31)).toInt8.toInt32))), (.int (nar .byte ((ec1 >>> ((0 : Int32) &&& 31)).toInt8.toInt32))), (.int (nar .byte ((ec1 >>> ((8 : Int32) &&& 31)).toInt8.toInt32))), (.int (nar .byte ((ec2 >>> ((0 : Int32) &&& 31)).toInt8.toInt32))), (.int (nar .byte ((ec2 >>> ((8 : Int32) &&& 31)).toInt8.toInt32)))] (.int 0))
set_option maxRecDepth 65536 in
set_option maxHeartbeats 40000000 in
theorem rm5u3 (l : Launch) (Z : State) (a0 : Array Value) (hw : ∀ d ∈ tables_1, d.before a0 Z = true) (ws : List Jvm.Cond) (a : Addr) (ks : ClassId) (ec0 : Int32) (ec1 : Int32) (ec2 : Int32) (h0 : Heap) (n0 : Nat) (Z0 : n0 ≤ h0.size) (P0 : Old Z n0 h0) (P1 : Sta Z Z.heap o_n0 "$assertionsDisabled" "Z" (.int 1)) (P2 : Sta Z Z.heap o_n0 "HI_BYTE_SHIFT" "I" (.int 0)) (P3 : Sta Z Z.heap o_n0 "LO_BYTE_SHIFT" "I" (.int 8)) (P4 : Arv Z h0 a ks .char (3 : Int32) [(.int ec0), (.int ec1), (.int ec2)] (.int 0)) (hU : (((255 : Int32) < ec0)) ∨ (¬ ((255 : Int32) < ec0) ∧ ((255 : Int32) < ec1)) ∨ (¬ ((255 : Int32) < ec0) ∧ ¬ ((255 : Int32) < ec1) ∧ ((255 : Int32) < ec2))) (hr0 : 0 ≤ ec0.toInt ∧ ec0.toInt < 65536) (hr1 : 0 ≤ ec1.toInt ∧ ec1.toInt < 65536) (hr2 : 0 ≤ ec2.toInt ∧ ec2.toInt < 65536) :
    MetFree l (⟨o_n0, "compress", "([CII)[B"⟩ : MethodName) (head1 (Jvm.Cond.code (⟨o_n0, "compress", "([CII)[B"⟩ : MethodName) jdk_52_method_16_code 6 (some (.array .byte)) :: ws) ({ frames := 3, cells := 2, slots := 9, locals := 40 } : Room)) (fun argz U => argz = #[(.ref a), (.int 0), (.int 3)] ∧ Z.Warmed39 U.vm ∧ U.heap = h0) (fun _ _ _ _ _ => True) (fun _ U o U' => ∃ v L, o = .returned v ∧ Q5u3 Z a ks ec0 ec1 ec2 h0 n0 v U'.heap L ∧ FrameEnd U o U' L ({ frames := 3, cells := 2, slots := 9, locals := 40 } : Room).cells ({ frames := 3, cells := 2, slots := 9, locals := 40 } : Room).slots) := by
  refine MetFree.of_bodySF (plainFor_of_name pn_java_lang_StringUTF16) hisR ?_
  intro p e s m args below meth c s₁ Bd hml0 hP hK
  obtain ⟨rfl, hZ, hh⟩ := hP
  have hx := Bd.exec
  have hby := Bd.bytes
  have hml : c.maxLocals = 6 := hml0
  have hown : s.vm.findClass o_n0 = some m.cls := findClass_of_methodNamed Bd.named
  have hnm := (name_of_methodNamed Bd.named Bd.method).1
  have X0 : Stand p l e ({ frames := 3, cells := 2, slots := 9, locals := 40 } : Room) s m #[(.ref a), (.int 0), (.int 3)] below meth c s₁ [] 0 0 := Stand.of_body Bd
  have e0 : s₁.heap = h0 := by rw [← hh, Bd.state]; rfl
  have N0 := Fr.nil n0
  have K0 : Keep h0 h0 [] := Keep.refl _ _
  have G : Gets p e below (s₁.setTop (entryFrame m #[(.ref a), (.int 0), (.int 3)] 6)) (s₁.setTop (mkF m 0 #[.val (.ref a), .val (.int 0), .val (.int 3), .unset, .unset, .unset] [])) := fun t k => castTop (ef_5u3 m a) k
  replace G := o_iloadN (q := 1) G X0.here hx (hb hby d5_0) rfl rfl
  obtain ⟨T1, h1, k1, X1, e1, E1, A1, st1⟩ := newP X0 hx hZ (o_w hw 20 rfl) e0 (g := o_g G) rfl (hb hby d5_1) rfl (by decide) (cap := 3) (by decide) (by decide) (by decide) (by decide)
  obtain ⟨b1, g1⟩ : ∃ z, z = h0.size := ⟨_, rfl⟩
  rw [← g1] at A1 st1
  have ne2 : a ≠ b1 := Nat.ne_of_lt (Nat.lt_of_lt_of_le P4.lt (Nat.le_of_eq g1.symm))
  have ge_b1 : n0 ≤ b1 := Nat.le_trans Z0 (Nat.le_of_eq g1.symm)
  have sz_b1 : h0.size ≤ b1 := Nat.le_trans K0.1 (Nat.le_of_eq g1.symm)
  have Z1 : n0 ≤ h1.size := Nat.le_trans Z0 E1.1
  have K1 : Keep h0 h1 [] := K0.ext E1
  have V1 : Arv Z h1 b1 k1 .byte (3 : Int32) [(.int 0), (.int 0), (.int 0)] (.int 0) := (Arv.new A1 (by decide)).pad (pad_rep [] (.int 0) 3)
  replace G := o_nxs (q := 3) (st := [(.ref b1)]) G st1 rfl
  replace G := o_astoreN (q := 4) (l' := #[.val (.ref a), .val (.int 0), .val (.int 3), .val (.ref b1), .unset, .unset]) G X1.here hx (hb hby d5_3) rfl rfl rfl
  replace G := o_aloadN (q := 5) G X1.here hx (hb hby d5_4) rfl rfl rfl
  replace G := o_iloadN (q := 6) G X1.here hx (hb hby d5_5) rfl rfl
  replace G := o_aloadN (q := 7) G X1.here hx (hb hby d5_6) rfl rfl rfl
  replace G := o_iconst (q := 8) G X1.here hx (hb hby d5_7) (v := (0 : Int32)) (by decide) rfl
  replace G := o_iloadN (q := 9) G X1.here hx (hb hby d5_8) rfl rfl
  rcases hU with hg | ⟨he0, hg⟩ | ⟨he0, he1, hg⟩
  have F4 := (P4.ext E1)
  obtain ⟨_, _, ⟨T3, L3, kk3, nn3⟩, -, X3, ⟨Lc3, hQ3, l3, y3, z3⟩, st3⟩ := Jvm.LawKit.callS X1 hx (y := (⟨o_n0, "compress", "([CI[BII)I"⟩ : MethodName)) hown (mvT hZ (o_w hw 32 rfl)) (mvT hZ (o_w hw 33 rfl)) (mvT hZ (o_w hw 30 rfl)) (mvT hZ (o_w hw 34 rfl)) (by decide) (backOf (W := 0) (rm6u3j0 l Z a0 hw [] a b1 ks k1 ec0 ec1 ec2 h1 n0 Z1 F4 V1 ge_b1 ne2 hg) hZ (o_w hw 34 rfl) (o_w hw 30 rfl) (by decide) (by decide)) (g := o_g G) rfl (by rw [hml]; rfl) (argsL := [(.ref a), (.int 0), (.ref b1), (.int 0), (.int 3)]) (rest := []) (lenOf pd_0 rfl) rfl (by show 2 * 0 + _ ≤ _; exact Nat.le_of_eq rfl) (hb hby d5_9) (fun _ _ => ⟨rfl, e1, (by decide : 1 + 0 ≤ _), (by decide : 3 + 0 ≤ _)⟩)
  dsimp only [Pt.U, Pt.locs, Pt.cells, Pt.slots] at X3 l3 y3 z3 st3 hQ3
  subst l3 y3 z3
  obtain ⟨rfl, N3q, K3q, B3_0⟩ := hQ3
  have Z3 : n0 ≤ T3.heap.size := Nat.le_trans Z1 K3q.1
  have K3 : Keep h0 T3.heap [] := K1.trans K3q (allS (Or.inr sz_b1) all0)
  have N3 := Fr.app N0 N3q
  replace G := o_nxs (q := 12) (st := [(.int 0)]) G st3 rfl
  replace G := o_istore (q := 14) (l' := #[.val (.ref a), .val (.int 0), .val (.int 3), .val (.ref b1), .val (.int 0), .unset]) G X3.here hx (hb hby d5_12) rfl rfl
  replace G := o_iload (q := 16) G X3.here hx (hb hby d5_14) rfl rfl
  replace G := o_iloadN (q := 17) G X3.here hx (hb hby d5_16) rfl rfl
  replace G := o_icmpNo (q := 20) G X3.here hx (hb hby d5_17) (by decide) rfl
  replace G := o_aloadN (q := 21) G X3.here hx (hb hby d5_20) rfl rfl rfl
  replace G := o_iloadN (q := 22) G X3.here hx (hb hby d5_21) rfl rfl
  replace G := o_iloadN (q := 23) G X3.here hx (hb hby d5_22) rfl rfl
  have F7 := ((P0.ext E1).keep K3q (allS ge_b1 all0))
  have F8 := (F4.keep K3q (ninS ne2 nin0))
  obtain ⟨_, _, ⟨T6, L6, kk6, nn6⟩, -, X6, ⟨Lc6, hQ6, l6, y6, z6⟩, st6⟩ := Jvm.LawKit.callS X3 hx (y := (⟨o_n0, "toBytes", "([CII)[B"⟩ : MethodName)) hown (mvT hZ (o_w hw 35 rfl)) (mvT hZ (o_w hw 36 rfl)) (mvT hZ (o_w hw 30 rfl)) (mvT hZ (o_w hw 37 rfl)) (by decide) (backOf (W := 0) (rm7u3 l Z a0 hw [] a ks ec0 ec1 ec2 T3.heap n0 Z3 F7 P1 P2 P3 F8) hZ (o_w hw 37 rfl) (o_w hw 30 rfl) (by decide) (by decide)) (g := o_g G) rfl (by rw [hml]; rfl) (argsL := [(.ref a), (.int 0), (.int 3)]) (rest := []) (lenOf pd_1 rfl) rfl (by show 2 * 0 + _ ≤ _; exact Nat.le_of_eq rfl) (hb hby d5_23) (fun _ _ => ⟨rfl, rfl, (by decide : 1 + 1 ≤ _), (by decide : 3 + 6 ≤ _)⟩)
  dsimp only [Pt.U, Pt.locs, Pt.cells, Pt.slots] at X6 l6 y6 z6 st6 hQ6
  subst l6 y6 z6
  obtain ⟨b_6, kb_6, rfl, N6q, K6q, B6_0, B6_1⟩ := hQ6
  have ne9 : b1 ≠ b_6 := Nat.ne_of_lt (Nat.lt_of_lt_of_le B3_0.lt B6_0)
  have ne10 : a ≠ b_6 := Nat.ne_of_lt (Nat.lt_of_lt_of_le F8.lt B6_0)
  have ge_b_6 : n0 ≤ b_6 := Nat.le_trans Z3 B6_0
  have sz_b_6 : h0.size ≤ b_6 := Nat.le_trans K3.1 B6_0
  have Z6 : n0 ≤ T6.heap.size := Nat.le_trans Z3 K6q.1
  have K6 : Keep h0 T6.heap [] := K3.trans K6q all0
  have N6 := Fr.app N3 N6q
  replace G := o_nxs (q := 26) (st := [(.ref b_6)]) G st6 rfl
  replace G := o_astore (q := 28) (l' := #[.val (.ref a), .val (.int 0), .val (.int 3), .val (.ref b1), .val (.int 0), .val (.ref b_6)]) G X6.here hx (hb hby d5_26) rfl rfl rfl
  replace G := o_aload (q := 30) G X6.here hx (hb hby d5_28) rfl rfl rfl
  replace G := o_iload (q := 32) G X6.here hx (hb hby d5_30) rfl rfl
  have F12 := (F7.keep K6q all0)
  obtain ⟨_, _, ⟨T11, L11, kk11, nn11⟩, -, X11, ⟨Lc11, hQ11, l11, y11, z11⟩, st11⟩ := Jvm.LawKit.callS X6 hx (y := (⟨o_n0, "getChar", "([BI)C"⟩ : MethodName)) hown (mvT hZ (o_w hw 51 rfl)) (mvT hZ (o_w hw 52 rfl)) (mvT hZ (o_w hw 30 rfl)) (mvT hZ (o_w hw 53 rfl)) (by decide) (backOf (W := 0) (rm11j0 l Z a0 hw [] b_6 kb_6 (6 : Int32) [(.int (nar .byte ((ec0 >>> ((0 : Int32) &&& 31)).toInt8.toInt32))), (.int (nar .byte ((ec0 >>> ((8 : Int32) &&& 31)).toInt8.toInt32))), (.int (nar .byte ((ec1 >>> ((0 : Int32) &&& 31)).toInt8.toInt32))), (.int (nar .byte ((ec1 >>> ((8 : Int32) &&& 31)).toInt8.toInt32))), (.int (nar .byte ((ec2 >>> ((0 : Int32) &&& 31)).toInt8.toInt32))), (.int (nar .byte ((ec2 >>> ((8 : Int32) &&& 31)).toInt8.toInt32)))] (nar .byte ((ec0 >>> ((0 : Int32) &&& 31)).toInt8.toInt32)) (nar .byte ((ec0 >>> ((8 : Int32) &&& 31)).toInt8.toInt32)) T6.heap n0 Z6 F12 P1 P2 P3 B6_1 ⟨by decide, by decide⟩ ⟨by decide, by decide⟩ rfl rfl) hZ (o_w hw 53 rfl) (o_w hw 30 rfl) (by decide) (by decide)) (g := o_g G) rfl (by rw [hml]; rfl) (argsL := [(.ref b_6), (.int 0)]) (rest := []) (lenOf pd_7 rfl) rfl (by show 2 * 0 + _ ≤ _; exact Nat.le_of_eq rfl) (hb hby d5_32) (fun _ _ => ⟨rfl, rfl, (by decide : 2 + 0 ≤ _), (by decide : 9 + 0 ≤ _)⟩)
  dsimp only [Pt.U, Pt.locs, Pt.cells, Pt.slots] at X11 l11 y11 z11 st11 hQ11
  subst l11 y11 z11
  obtain ⟨rfl, N11q, e11⟩ := hQ11
  have N11 := Fr.app N6 N11q
  replace G := o_nxs (q := 35) (st := [(.int (((((nar .byte ((ec0 >>> ((0 : Int32) &&& 31)).toInt8.toInt32)) &&& (255 : Int32)) <<< ((0 : Int32) &&& 31)) ||| (((nar .byte ((ec0 >>> ((8 : Int32) &&& 31)).toInt8.toInt32)) &&& (255 : Int32)) <<< ((8 : Int32) &&& 31))).toUInt32.toUInt16.toUInt32.toInt32))]) G st11 rfl
  replace G := o_sipush (q := 38) G X11.here hx (hb hby d5_35) (v := (255 : Int32)) (by decide) rfl
  have hc38_13 : (255 : Int32) < (((((nar .byte ((ec0 >>> ((0 : Int32) &&& 31)).toInt8.toInt32)) &&& (255 : Int32)) <<< ((0 : Int32) &&& 31)) ||| (((nar .byte ((ec0 >>> ((8 : Int32) &&& 31)).toInt8.toInt32)) &&& (255 : Int32)) <<< ((8 : Int32) &&& 31))).toUInt32.toUInt16.toUInt32.toInt32) := o_gc hr0 hg
  replace G := o_icmpYes (q := 54) G X11.here hx (hb hby d5_38) (tlt hc38_13).2.2.1 (by decide) (by decide)
  replace G := o_aload (q := 56) G X11.here hx (hb hby d5_54) rfl rfl rfl
  obtain ⟨fs, hr, hrun, hended, hW, hsame⟩ := X11.leave (v := some (.ref b_6)) (fun h => by rw [Bd.returns] at h; cases h)
  refine ⟨_, _, G _ (retOut X11 hx Bd.returns rfl (Or.inr (Or.inr (Or.inr (Or.inr ⟨rfl, rfl, rfl⟩)))) (hb hby d5_56) hr), hrun, hended, _, _, rfl, ?_, ⟨_, rfl⟩, hW, hsame.mono (by decide) (by decide)⟩
  show Q5u3 Z a ks ec0 ec1 ec2 h0 n0 _ T11.heap _
  rw [e11]
  exact ⟨b_6, kb_6, rfl, N11, K6, sz_b_6, B6_1⟩
  have F15 := (P4.ext E1)
  obtain ⟨_, _, ⟨T14, L14, kk14, nn14⟩, -, X14, ⟨Lc14, hQ14, l14, y14, z14⟩, st14⟩ := Jvm.LawKit.callS X1 hx (y := (⟨o_n0, "compress", "([CI[BII)I"⟩ : MethodName)) hown (mvT hZ (o_w hw 32 rfl)) (mvT hZ (o_w hw 33 rfl)) (mvT hZ (o_w hw 30 rfl)) (mvT hZ (o_w hw 34 rfl)) (by decide) (backOf (W := 0) (rm6u3j1 l Z a0 hw [] a b1 ks k1 ec0 ec1 ec2 h1 n0 Z1 F15 V1 ge_b1 ne2 he0 hg) hZ (o_w hw 34 rfl) (o_w hw 30 rfl) (by decide) (by decide)) (g := o_g G) rfl (by rw [hml]; rfl) (argsL := [(.ref a), (.int 0), (.ref b1), (.int 0), (.int 3)]) (rest := []) (lenOf pd_0 rfl) rfl (by show 2 * 0 + _ ≤ _; exact Nat.le_of_eq rfl) (hb hby d5_9) (fun _ _ => ⟨rfl, e1, (by decide : 1 + 0 ≤ _), (by decide : 3 + 0 ≤ _)⟩)
  dsimp only [Pt.U, Pt.locs, Pt.cells, Pt.slots] at X14 l14 y14 z14 st14 hQ14
  subst l14 y14 z14
  obtain ⟨rfl, N14q, K14q, B14_0⟩ := hQ14
  have Z14 : n0 ≤ T14.heap.size := Nat.le_trans Z1 K14q.1
  have K14 : Keep h0 T14.heap [] := K1.trans K14q (allS (Or.inr sz_b1) all0)
  have N14 := Fr.app N0 N14q
  replace G := o_nxs (q := 12) (st := [(.int 1)]) G st14 rfl
  replace G := o_istore (q := 14) (l' := #[.val (.ref a), .val (.int 0), .val (.int 3), .val (.ref b1), .val (.int 1), .unset]) G X14.here hx (hb hby d5_12) rfl rfl
  replace G := o_iload (q := 16) G X14.here hx (hb hby d5_14) rfl rfl
  replace G := o_iloadN (q := 17) G X14.here hx (hb hby d5_16) rfl rfl
  replace G := o_icmpNo (q := 20) G X14.here hx (hb hby d5_17) (by decide) rfl
  replace G := o_aloadN (q := 21) G X14.here hx (hb hby d5_20) rfl rfl rfl
  replace G := o_iloadN (q := 22) G X14.here hx (hb hby d5_21) rfl rfl
  replace G := o_iloadN (q := 23) G X14.here hx (hb hby d5_22) rfl rfl
  have F18 := ((P0.ext E1).keep K14q (allS ge_b1 all0))
  have F19 := (F15.keep K14q (ninS ne2 nin0))
  obtain ⟨_, _, ⟨T17, L17, kk17, nn17⟩, -, X17, ⟨Lc17, hQ17, l17, y17, z17⟩, st17⟩ := Jvm.LawKit.callS X14 hx (y := (⟨o_n0, "toBytes", "([CII)[B"⟩ : MethodName)) hown (mvT hZ (o_w hw 35 rfl)) (mvT hZ (o_w hw 36 rfl)) (mvT hZ (o_w hw 30 rfl)) (mvT hZ (o_w hw 37 rfl)) (by decide) (backOf (W := 0) (rm7u3 l Z a0 hw [] a ks ec0 ec1 ec2 T14.heap n0 Z14 F18 P1 P2 P3 F19) hZ (o_w hw 37 rfl) (o_w hw 30 rfl) (by decide) (by decide)) (g := o_g G) rfl (by rw [hml]; rfl) (argsL := [(.ref a), (.int 0), (.int 3)]) (rest := []) (lenOf pd_1 rfl) rfl (by show 2 * 0 + _ ≤ _; exact Nat.le_of_eq rfl) (hb hby d5_23) (fun _ _ => ⟨rfl, rfl, (by decide : 1 + 1 ≤ _), (by decide : 3 + 6 ≤ _)⟩)
  dsimp only [Pt.U, Pt.locs, Pt.cells, Pt.slots] at X17 l17 y17 z17 st17 hQ17
  subst l17 y17 z17
  obtain ⟨b_17, kb_17, rfl, N17q, K17q, B17_0, B17_1⟩ := hQ17
  have ne20 : b1 ≠ b_17 := Nat.ne_of_lt (Nat.lt_of_lt_of_le B14_0.lt B17_0)
  have ne21 : a ≠ b_17 := Nat.ne_of_lt (Nat.lt_of_lt_of_le F19.lt B17_0)
  have ge_b_17 : n0 ≤ b_17 := Nat.le_trans Z14 B17_0
  have sz_b_17 : h0.size ≤ b_17 := Nat.le_trans K14.1 B17_0
  have Z17 : n0 ≤ T17.heap.size := Nat.le_trans Z14 K17q.1
  have K17 : Keep h0 T17.heap [] := K14.trans K17q all0
  have N17 := Fr.app N14 N17q
  replace G := o_nxs (q := 26) (st := [(.ref b_17)]) G st17 rfl
  replace G := o_astore (q := 28) (l' := #[.val (.ref a), .val (.int 0), .val (.int 3), .val (.ref b1), .val (.int 1), .val (.ref b_17)]) G X17.here hx (hb hby d5_26) rfl rfl rfl
  replace G := o_aload (q := 30) G X17.here hx (hb hby d5_28) rfl rfl rfl
  replace G := o_iload (q := 32) G X17.here hx (hb hby d5_30) rfl rfl
  have F23 := (F18.keep K17q all0)
  obtain ⟨_, _, ⟨T22, L22, kk22, nn22⟩, -, X22, ⟨Lc22, hQ22, l22, y22, z22⟩, st22⟩ := Jvm.LawKit.callS X17 hx (y := (⟨o_n0, "getChar", "([BI)C"⟩ : MethodName)) hown (mvT hZ (o_w hw 51 rfl)) (mvT hZ (o_w hw 52 rfl)) (mvT hZ (o_w hw 30 rfl)) (mvT hZ (o_w hw 53 rfl)) (by decide) (backOf (W := 0) (rm11j1 l Z a0 hw [] b_17 kb_17 (6 : Int32) [(.int (nar .byte ((ec0 >>> ((0 : Int32) &&& 31)).toInt8.toInt32))), (.int (nar .byte ((ec0 >>> ((8 : Int32) &&& 31)).toInt8.toInt32))), (.int (nar .byte ((ec1 >>> ((0 : Int32) &&& 31)).toInt8.toInt32))), (.int (nar .byte ((ec1 >>> ((8 : Int32) &&& 31)).toInt8.toInt32))), (.int (nar .byte ((ec2 >>> ((0 : Int32) &&& 31)).toInt8.toInt32))), (.int (nar .byte ((ec2 >>> ((8 : Int32) &&& 31)).toInt8.toInt32)))] (nar .byte ((ec1 >>> ((0 : Int32) &&& 31)).toInt8.toInt32)) (nar .byte ((ec1 >>> ((8 : Int32) &&& 31)).toInt8.toInt32)) T17.heap n0 Z17 F23 P1 P2 P3 B17_1 ⟨by decide, by decide⟩ ⟨by decide, by decide⟩ rfl rfl) hZ (o_w hw 53 rfl) (o_w hw 30 rfl) (by decide) (by decide)) (g := o_g G) rfl (by rw [hml]; rfl) (argsL := [(.ref b_17), (.int 1)]) (rest := []) (lenOf pd_7 rfl) rfl (by show 2 * 0 + _ ≤ _; exact Nat.le_of_eq rfl) (hb hby d5_32) (fun _ _ => ⟨rfl, rfl, (by decide : 2 + 0 ≤ _), (by decide : 9 + 0 ≤ _)⟩)
  dsimp only [Pt.U, Pt.locs, Pt.cells, Pt.slots] at X22 l22 y22 z22 st22 hQ22
  subst l22 y22 z22
  obtain ⟨rfl, N22q, e22⟩ := hQ22
  have N22 := Fr.app N17 N22q
  replace G := o_nxs (q := 35) (st := [(.int (((((nar .byte ((ec1 >>> ((0 : Int32) &&& 31)).toInt8.toInt32)) &&& (255 : Int32)) <<< ((0 : Int32) &&& 31)) ||| (((nar .byte ((ec1 >>> ((8 : Int32) &&& 31)).toInt8.toInt32)) &&& (255 : Int32)) <<< ((8 : Int32) &&& 31))).toUInt32.toUInt16.toUInt32.toInt32))]) G st22 rfl
  replace G := o_sipush (q := 38) G X22.here hx (hb hby d5_35) (v := (255 : Int32)) (by decide) rfl
  have hc38_24 : (255 : Int32) < (((((nar .byte ((ec1 >>> ((0 : Int32) &&& 31)).toInt8.toInt32)) &&& (255 : Int32)) <<< ((0 : Int32) &&& 31)) ||| (((nar .byte ((ec1 >>> ((8 : Int32) &&& 31)).toInt8.toInt32)) &&& (255 : Int32)) <<< ((8 : Int32) &&& 31))).toUInt32.toUInt16.toUInt32.toInt32) := o_gc hr1 hg
  replace G := o_icmpYes (q := 54) G X22.here hx (hb hby d5_38) (tlt hc38_24).2.2.1 (by decide) (by decide)
  replace G := o_aload (q := 56) G X22.here hx (hb hby d5_54) rfl rfl rfl
  obtain ⟨fs, hr, hrun, hended, hW, hsame⟩ := X22.leave (v := some (.ref b_17)) (fun h => by rw [Bd.returns] at h; cases h)
  refine ⟨_, _, G _ (retOut X22 hx Bd.returns rfl (Or.inr (Or.inr (Or.inr (Or.inr ⟨rfl, rfl, rfl⟩)))) (hb hby d5_56) hr), hrun, hended, _, _, rfl, ?_, ⟨_, rfl⟩, hW, hsame.mono (by decide) (by decide)⟩
  show Q5u3 Z a ks ec0 ec1 ec2 h0 n0 _ T22.heap _
  rw [e22]
  exact ⟨b_17, kb_17, rfl, N22, K17, sz_b_17, B17_1⟩
  have F26 := (P4.ext E1)
  obtain ⟨_, _, ⟨T25, L25, kk25, nn25⟩, -, X25, ⟨Lc25, hQ25, l25, y25, z25⟩, st25⟩ := Jvm.LawKit.callS X1 hx (y := (⟨o_n0, "compress", "([CI[BII)I"⟩ : MethodName)) hown (mvT hZ (o_w hw 32 rfl)) (mvT hZ (o_w hw 33 rfl)) (mvT hZ (o_w hw 30 rfl)) (mvT hZ (o_w hw 34 rfl)) (by decide) (backOf (W := 0) (rm6u3j2 l Z a0 hw [] a b1 ks k1 ec0 ec1 ec2 h1 n0 Z1 F26 V1 ge_b1 ne2 he0 he1 hg) hZ (o_w hw 34 rfl) (o_w hw 30 rfl) (by decide) (by decide)) (g := o_g G) rfl (by rw [hml]; rfl) (argsL := [(.ref a), (.int 0), (.ref b1), (.int 0), (.int 3)]) (rest := []) (lenOf pd_0 rfl) rfl (by show 2 * 0 + _ ≤ _; exact Nat.le_of_eq rfl) (hb hby d5_9) (fun _ _ => ⟨rfl, e1, (by decide : 1 + 0 ≤ _), (by decide : 3 + 0 ≤ _)⟩)
  dsimp only [Pt.U, Pt.locs, Pt.cells, Pt.slots] at X25 l25 y25 z25 st25 hQ25
  subst l25 y25 z25
  obtain ⟨rfl, N25q, K25q, B25_0⟩ := hQ25
  have Z25 : n0 ≤ T25.heap.size := Nat.le_trans Z1 K25q.1
  have K25 : Keep h0 T25.heap [] := K1.trans K25q (allS (Or.inr sz_b1) all0)
  have N25 := Fr.app N0 N25q
  replace G := o_nxs (q := 12) (st := [(.int 2)]) G st25 rfl
  replace G := o_istore (q := 14) (l' := #[.val (.ref a), .val (.int 0), .val (.int 3), .val (.ref b1), .val (.int 2), .unset]) G X25.here hx (hb hby d5_12) rfl rfl
  replace G := o_iload (q := 16) G X25.here hx (hb hby d5_14) rfl rfl
  replace G := o_iloadN (q := 17) G X25.here hx (hb hby d5_16) rfl rfl
  replace G := o_icmpNo (q := 20) G X25.here hx (hb hby d5_17) (by decide) rfl
  replace G := o_aloadN (q := 21) G X25.here hx (hb hby d5_20) rfl rfl rfl
  replace G := o_iloadN (q := 22) G X25.here hx (hb hby d5_21) rfl rfl
  replace G := o_iloadN (q := 23) G X25.here hx (hb hby d5_22) rfl rfl
  have F29 := ((P0.ext E1).keep K25q (allS ge_b1 all0))
  have F30 := (F26.keep K25q (ninS ne2 nin0))
  obtain ⟨_, _, ⟨T28, L28, kk28, nn28⟩, -, X28, ⟨Lc28, hQ28, l28, y28, z28⟩, st28⟩ := Jvm.LawKit.callS X25 hx (y := (⟨o_n0, "toBytes", "([CII)[B"⟩ : MethodName)) hown (mvT hZ (o_w hw 35 rfl)) (mvT hZ (o_w hw 36 rfl)) (mvT hZ (o_w hw 30 rfl)) (mvT hZ (o_w hw 37 rfl)) (by decide) (backOf (W := 0) (rm7u3 l Z a0 hw [] a ks ec0 ec1 ec2 T25.heap n0 Z25 F29 P1 P2 P3 F30) hZ (o_w hw 37 rfl) (o_w hw 30 rfl) (by decide) (by decide)) (g := o_g G) rfl (by rw [hml]; rfl) (argsL := [(.ref a), (.int 0), (.int 3)]) (rest := []) (lenOf pd_1 rfl) rfl (by show 2 * 0 + _ ≤ _; exact Nat.le_of_eq rfl) (hb hby d5_23) (fun _ _ => ⟨rfl, rfl, (by decide : 1 + 1 ≤ _), (by decide : 3 + 6 ≤ _)⟩)
  dsimp only [Pt.U, Pt.locs, Pt.cells, Pt.slots] at X28 l28 y28 z28 st28 hQ28
  subst l28 y28 z28
  obtain ⟨b_28, kb_28, rfl, N28q, K28q, B28_0, B28_1⟩ := hQ28
  have ne31 : b1 ≠ b_28 := Nat.ne_of_lt (Nat.lt_of_lt_of_le B25_0.lt B28_0)
  have ne32 : a ≠ b_28 := Nat.ne_of_lt (Nat.lt_of_lt_of_le F30.lt B28_0)
  have ge_b_28 : n0 ≤ b_28 := Nat.le_trans Z25 B28_0
  have sz_b_28 : h0.size ≤ b_28 := Nat.le_trans K25.1 B28_0
  have Z28 : n0 ≤ T28.heap.size := Nat.le_trans Z25 K28q.1
  have K28 : Keep h0 T28.heap [] := K25.trans K28q all0
  have N28 := Fr.app N25 N28q
  replace G := o_nxs (q := 26) (st := [(.ref b_28)]) G st28 rfl
  replace G := o_astore (q := 28) (l' := #[.val (.ref a), .val (.int 0), .val (.int 3), .val (.ref b1), .val (.int 2), .val (.ref b_28)]) G X28.here hx (hb hby d5_26) rfl rfl rfl
  replace G := o_aload (q := 30) G X28.here hx (hb hby d5_28) rfl rfl rfl
  replace G := o_iload (q := 32) G X28.here hx (hb hby d5_30) rfl rfl
  have F34 := (F29.keep K28q all0)
  obtain ⟨_, _, ⟨T33, L33, kk33, nn33⟩, -, X33, ⟨Lc33, hQ33, l33, y33, z33⟩, st33⟩ := Jvm.LawKit.callS X28 hx (y := (⟨o_n0, "getChar", "([BI)C"⟩ : MethodName)) hown (mvT hZ (o_w hw 51 rfl)) (mvT hZ (o_w hw 52 rfl)) (mvT hZ (o_w hw 30 rfl)) (mvT hZ (o_w hw 53 rfl)) (by decide) (backOf (W := 0) (rm11j2 l Z a0 hw [] b_28 kb_28 (6 : Int32) [(.int (nar .byte ((ec0 >>> ((0 : Int32) &&& 31)).toInt8.toInt32))), (.int (nar .byte ((ec0 >>> ((8 : Int32) &&& 31)).toInt8.toInt32))), (.int (nar .byte ((ec1 >>> ((0 : Int32) &&& 31)).toInt8.toInt32))), (.int (nar .byte ((ec1 >>> ((8 : Int32) &&& 31)).toInt8.toInt32))), (.int (nar .byte ((ec2 >>> ((0 : Int32) &&& 31)).toInt8.toInt32))), (.int (nar .byte ((ec2 >>> ((8 : Int32) &&& 31)).toInt8.toInt32)))] (nar .byte ((ec2 >>> ((0 : Int32) &&& 31)).toInt8.toInt32)) (nar .byte ((ec2 >>> ((8 : Int32) &&& 31)).toInt8.toInt32)) T28.heap n0 Z28 F34 P1 P2 P3 B28_1 ⟨by decide, by decide⟩ ⟨by decide, by decide⟩ rfl rfl) hZ (o_w hw 53 rfl) (o_w hw 30 rfl) (by decide) (by decide)) (g := o_g G) rfl (by rw [hml]; rfl) (argsL := [(.ref b_28), (.int 2)]) (rest := []) (lenOf pd_7 rfl) rfl (by show 2 * 0 + _ ≤ _; exact Nat.le_of_eq rfl) (hb hby d5_32) (fun _ _ => ⟨rfl, rfl, (by decide : 2 + 0 ≤ _), (by decide : 9 + 0 ≤ _)⟩)
  dsimp only [Pt.U, Pt.locs, Pt.cells, Pt.slots] at X33 l33 y33 z33 st33 hQ33
  subst l33 y33 z33
  obtain ⟨rfl, N33q, e33⟩ := hQ33
  have N33 := Fr.app N28 N33q
  replace G := o_nxs (q := 35) (st := [(.int (((((nar .byte ((ec2 >>> ((0 : Int32) &&& 31)).toInt8.toInt32)) &&& (255 : Int32)) <<< ((0 : Int32) &&& 31)) ||| (((nar .byte ((ec2 >>> ((8 : Int32) &&& 31)).toInt8.toInt32)) &&& (255 : Int32)) <<< ((8 : Int32) &&& 31))).toUInt32.toUInt16.toUInt32.toInt32))]) G st33 rfl
  replace G := o_sipush (q := 38) G X33.here hx (hb hby d5_35) (v := (255 : Int32)) (by decide) rfl
  have hc38_35 : (255 : Int32) < (((((nar .byte ((ec2 >>> ((0 : Int32) &&& 31)).toInt8.toInt32)) &&& (255 : Int32)) <<< ((0 : Int32) &&& 31)) ||| (((nar .byte ((ec2 >>> ((8 : Int32) &&& 31)).toInt8.toInt32)) &&& (255 : Int32)) <<< ((8 : Int32) &&& 31))).toUInt32.toUInt16.toUInt32.toInt32) := o_gc hr2 hg
  replace G := o_icmpYes (q := 54) G X33.here hx (hb hby d5_38) (tlt hc38_35).2.2.1 (by decide) (by decide)
  replace G := o_aload (q := 56) G X33.here hx (hb hby d5_54) rfl rfl rfl
  obtain ⟨fs, hr, hrun, hended, hW, hsame⟩ := X33.leave (v := some (.ref b_28)) (fun h => by rw [Bd.returns] at h; cases h)
  refine ⟨_, _, G _ (retOut X33 hx Bd.returns rfl (Or.inr (Or.inr (Or.inr (Or.inr ⟨rfl, rfl, rfl⟩)))) (hb hby d5_56) hr), hrun, hended, _, _, rfl, ?_, ⟨_, rfl⟩, hW, hsame.mono (by decide) (by decide)⟩
  show Q5u3 Z a ks ec0 ec1 ec2 h0 n0 _ T33.heap _
  rw [e33]
  exact ⟨b_28, kb_28, rfl, N33, K28, sz_b_28, B28_1⟩
theorem ef_3u3 (m : MethodId) (x0 : Addr) (x1 : Addr) : entryFrame m #[(.ref x0), (.ref x1), (.int 0), (.int 3), .null] 6 = mkF m 0 #[.val (.ref x0), .val (.ref x1), .val (.int 0), .val (.int 3), .val .null, .unset] [] := by first | (simp [entryFrame, mkF, argsToLocals, Value.category]; done) | rfl
def Q3u3 (Z : State) (tt : Addr) (a : Addr) (ks : ClassId) (cw : Int32) (ec0 : Int32) (ec1 : Int32) (ec2 : Int32) (h0 : Heap) (n0 : Nat) (v : Option Value) (h : Heap) (L : List Loc) : Prop := ∃ (b : Addr) (kb : ClassId), v = none ∧ Fr n0 L ∧ Keep h0 h [tt] ∧ (Fld Z h tt o_n1 "value" "[B" (.ref b)) ∧ (Fld Z h tt o_n1 "coder" "B" (.int 1)) ∧ h0.size ≤ b ∧ (Arv Z h b kb .byte (6 : Int32) [(.int (nar .byte ((ec0 >>> ((0 : Int32) &&& 31)).toInt8.toInt32))), (.int (nar .byte ((ec0 >>> ((8 : Int32) &&& 31)).toInt8.toInt32))), (.int (nar .byte ((ec1 >>> ((0 : Int32) &&& 31)).toInt8.toInt32))), (.int (nar .byte ((ec1 >>> ((8 : Int32) &&& 31)).toInt8.toInt32))), (.int (nar .byte ((ec2 >>> ((0 : Int32) &&& 31)).toInt8.toInt32))), (.int (nar .byte ((ec2 >>> ((8 : Int32) &&& 31)).toInt8.toInt32)))] (.int 0))
set_option maxRecDepth 65536 in
set_option maxHeartbeats 40000000 in
theorem rm3u3 (l : Launch) (Z : State) (a0 : Array Value) (hw : ∀ d ∈ tables_1, d.before a0 Z = true) (ws : List Jvm.Cond) (tt : Addr) (a : Addr) (ks : ClassId) (cw : Int32) (ec0 : Int32) (ec1 : Int32) (ec2 : Int32) (h0 : Heap) (n0 : Nat) (Z0 : n0 ≤ h0.size) (P0 : Old Z n0 h0) (P1 : Sta Z Z.heap o_n0 "$assertionsDisabled" "Z" (.int 1)) (P2 : Sta Z Z.heap o_n0 "HI_BYTE_SHIFT" "I" (.int 0)) (P3 : Sta Z Z.heap o_n0 "LO_BYTE_SHIFT" "I" (.int 8)) (P4 : Sta Z Z.heap o_n1 "COMPACT_STRINGS" "Z" (.int cw)) (P5 : Fld Z h0 tt o_n1 "value" "[B" .null) (P6 : Fld Z h0 tt o_n1 "coder" "B" (.int 0)) (P7 : Exa Z h0 tt o_n1) (P8 : n0 ≤ tt) (P9 : Arv Z h0 a ks .char (3 : Int32) [(.int ec0), (.int ec1), (.int ec2)] (.int 0)) (hcw : ¬ cw = (0 : Int32)) (hU : (((255 : Int32) < ec0)) ∨ (¬ ((255 : Int32) < ec0) ∧ ((255 : Int32) < ec1)) ∨ (¬ ((255 : Int32) < ec0) ∧ ¬ ((255 : Int32) < ec1) ∧ ((255 : Int32) < ec2))) (hr0 : 0 ≤ ec0.toInt ∧ ec0.toInt < 65536) (hr1 : 0 ≤ ec1.toInt ∧ ec1.toInt < 65536) (hr2 : 0 ≤ ec2.toInt ∧ ec2.toInt < 65536) :
    MetFree l (⟨o_n1, "<init>", "([CIILjava/lang/Void;)V"⟩ : MethodName) (head1 (Jvm.Cond.code (⟨o_n1, "<init>", "([CIILjava/lang/Void;)V"⟩ : MethodName) jdk_42_method_149_code 6 none :: ws) ({ frames := 4, cells := 2, slots := 9, locals := 57 } : Room)) (fun argz U => argz = #[(.ref tt), (.ref a), (.int 0), (.int 3), .null] ∧ Z.Warmed39 U.vm ∧ U.heap = h0) (fun _ _ _ _ _ => True) (fun _ U o U' => ∃ v L, o = .returned v ∧ Q3u3 Z tt a ks cw ec0 ec1 ec2 h0 n0 v U'.heap L ∧ FrameEnd U o U' L ({ frames := 4, cells := 2, slots := 9, locals := 57 } : Room).cells ({ frames := 4, cells := 2, slots := 9, locals := 57 } : Room).slots) := by
  refine MetFree.of_bodySF (plainFor_of_name pn_java_lang_String) hisR ?_
  intro p e s m args below meth c s₁ Bd hml0 hP hK
  obtain ⟨rfl, hZ, hh⟩ := hP
  have hx := Bd.exec
  have hby := Bd.bytes
  have hml : c.maxLocals = 6 := hml0
  have hown : s.vm.findClass o_n1 = some m.cls := findClass_of_methodNamed Bd.named
  have hnm := (name_of_methodNamed Bd.named Bd.method).1
  have X0 : Stand p l e ({ frames := 4, cells := 2, slots := 9, locals := 57 } : Room) s m #[(.ref tt), (.ref a), (.int 0), (.int 3), .null] below meth c s₁ [] 0 0 := Stand.of_body Bd
  have e0 : s₁.heap = h0 := by rw [← hh, Bd.state]; rfl
  have N0 := Fr.nil n0
  have K0 : Keep h0 h0 [tt] := Keep.refl _ _
  have G : Gets p e below (s₁.setTop (entryFrame m #[(.ref tt), (.ref a), (.int 0), (.int 3), .null] 6)) (s₁.setTop (mkF m 0 #[.val (.ref tt), .val (.ref a), .val (.int 0), .val (.int 3), .val .null, .unset] [])) := fun t k => castTop (ef_3u3 m tt a) k
  replace G := o_aloadN (q := 1) G X0.here hx (hb hby d3_0) rfl rfl rfl
  obtain ⟨T1, X1, e1, st1⟩ := initO X0 hx hZ hown (o_w hw 16 rfl) (o_w hw 17 rfl) (o_w hw 18 rfl) e0 (g := o_g G) rfl (by rw [hml]; rfl) rfl (hb hby d3_1) (by decide) (W := 0) (by show 2 * 0 + _ ≤ _; exact Nat.le_of_eq rfl) (by decide)
  replace G := o_nxs (q := 4) (st := []) G st1 rfl
  replace G := o_iloadN (q := 5) G X1.here hx (hb hby d3_4) rfl rfl
  replace G := o_ifYes (q := 27) G X1.here hx (hb hby d3_5) (by decide) (by decide) (by decide)
  have F3 : Sta Z h0 o_n1 "COMPACT_STRINGS" "Z" (.int cw) := P4.ext P0.2
  obtain ⟨T4, X4, e4, st4⟩ := getS2 X1 hx hZ hown (host := "") (Or.inl (o_w hw 27 rfl)) Via.refl e1 F3 (g := o_g G) rfl (hb hby d3_27)
  replace G := o_nxs (q := 30) (st := [(.int cw)]) G st4 rfl
  have hc30_5 : ¬ (cw = (0 : Int32)) := hcw
  replace G := o_ifNo (q := 33) G X4.here hx (hb hby d3_30) ((if0 _ _).trans (feq hc30_5).1) rfl
  replace G := o_aloadN (q := 34) G X4.here hx (hb hby d3_33) rfl rfl rfl
  replace G := o_iloadN (q := 35) G X4.here hx (hb hby d3_34) rfl rfl
  replace G := o_iloadN (q := 36) G X4.here hx (hb hby d3_35) rfl rfl
  obtain ⟨_, _, ⟨T6, L6, kk6, nn6⟩, -, X6, ⟨Lc6, hQ6, l6, y6, z6⟩, st6⟩ := Jvm.LawKit.callS X4 hx (y := (⟨o_n0, "compress", "([CII)[B"⟩ : MethodName)) hown (mvT hZ (o_w hw 28 rfl)) (mvT hZ (o_w hw 29 rfl)) (mvT hZ (o_w hw 30 rfl)) (mvT hZ (o_w hw 31 rfl)) (by decide) (backOf (W := 0) (rm5u3 l Z a0 hw [] a ks ec0 ec1 ec2 h0 n0 Z0 P0 P1 P2 P3 P9 hU hr0 hr1 hr2) hZ (o_w hw 31 rfl) (o_w hw 30 rfl) (by decide) (by decide)) (g := o_g G) rfl (by rw [hml]; rfl) (argsL := [(.ref a), (.int 0), (.int 3)]) (rest := []) (lenOf pd_1 rfl) rfl (by show 2 * 0 + _ ≤ _; exact Nat.le_of_eq rfl) (hb hby d3_36) (fun _ _ => ⟨rfl, e4, (by decide : 0 + 2 ≤ _), (by decide : 0 + 9 ≤ _)⟩)
  dsimp only [Pt.U, Pt.locs, Pt.cells, Pt.slots] at X6 l6 y6 z6 st6 hQ6
  subst l6 y6 z6
  obtain ⟨b_6, kb_6, rfl, N6q, K6q, B6_0, B6_1⟩ := hQ6
  have ne7 : tt ≠ b_6 := Nat.ne_of_lt (Nat.lt_of_lt_of_le P5.lt B6_0)
  have ne8 : a ≠ b_6 := Nat.ne_of_lt (Nat.lt_of_lt_of_le P9.lt B6_0)
  have ge_b_6 : n0 ≤ b_6 := Nat.le_trans Z0 B6_0
  have sz_b_6 : h0.size ≤ b_6 := Nat.le_trans K0.1 B6_0
  have Z6 : n0 ≤ T6.heap.size := Nat.le_trans Z0 K6q.1
  have K6 : Keep h0 T6.heap [tt] := K0.trans K6q all0
  have N6 := Fr.app N0 N6q
  replace G := o_nxs (q := 39) (st := [(.ref b_6)]) G st6 rfl
  replace G := o_astore (q := 41) (l' := #[.val (.ref tt), .val (.ref a), .val (.int 0), .val (.int 3), .val .null, .val (.ref b_6)]) G X6.here hx (hb hby d3_39) rfl rfl rfl
  replace G := o_aloadN (q := 42) G X6.here hx (hb hby d3_41) rfl rfl rfl
  replace G := o_aload (q := 44) G X6.here hx (hb hby d3_42) rfl rfl rfl
  replace G := o_iloadN (q := 45) G X6.here hx (hb hby d3_44) rfl rfl
  obtain ⟨_, _, ⟨T9, L9, kk9, nn9⟩, -, X9, ⟨Lc9, hQ9, l9, y9, z9⟩, st9⟩ := Jvm.LawKit.callS X6 hx (y := (⟨o_n0, "coderFromArrayLen", "([BI)B"⟩ : MethodName)) hown (mvT hZ (o_w hw 54 rfl)) (mvT hZ (o_w hw 55 rfl)) (mvT hZ (o_w hw 30 rfl)) (mvT hZ (o_w hw 56 rfl)) (by decide) (backOf (W := 1) (rm12u3 l Z a0 hw [] b_6 kb_6 [(.int (nar .byte ((ec0 >>> ((0 : Int32) &&& 31)).toInt8.toInt32))), (.int (nar .byte ((ec0 >>> ((8 : Int32) &&& 31)).toInt8.toInt32))), (.int (nar .byte ((ec1 >>> ((0 : Int32) &&& 31)).toInt8.toInt32))), (.int (nar .byte ((ec1 >>> ((8 : Int32) &&& 31)).toInt8.toInt32))), (.int (nar .byte ((ec2 >>> ((0 : Int32) &&& 31)).toInt8.toInt32))), (.int (nar .byte ((ec2 >>> ((8 : Int32) &&& 31)).toInt8.toInt32)))] T6.heap n0 Z6 B6_1) hZ (o_w hw 56 rfl) (o_w hw 30 rfl) (by decide) (by decide)) (g := o_g G) rfl (by rw [hml]; rfl) (argsL := [(.ref b_6), (.int 3)]) (rest := [(.ref tt)]) (lenOf pd_2 rfl) rfl (by show 2 * 0 + _ ≤ _; exact Nat.le_of_eq rfl) (hb hby d3_45) (fun _ _ => ⟨rfl, rfl, (by decide : 2 + 0 ≤ _), (by decide : 9 + 0 ≤ _)⟩)
  dsimp only [Pt.U, Pt.locs, Pt.cells, Pt.slots] at X9 l9 y9 z9 st9 hQ9
  subst l9 y9 z9
  obtain ⟨rfl, N9q, e9⟩ := hQ9
  have N9 := Fr.app N6 N9q
  replace G := o_nxs (q := 48) (st := [(.int 1), (.ref tt)]) G st9 rfl
  have F10 := (P7.keep K6q)
  have F11 := (P6.keep K6q nin0)
  obtain ⟨T12, h12, X12, e12, W12, st12⟩ := putFN X9 hx hZ hown (o_w hw 26 rfl) Via.refl e9 F11 F10 (Or.inr ⟨(o_w hw 22 rfl), rfl, hnm⟩) (o_w hw 6 rfl) (ty := .byte) (v' := (.int 1)) (by decide) rfl (by first | rfl | decide) (g := o_g G) rfl rfl (hb hby d3_48)
  have N12 := Fr.snoc X12 N9 P8
  have Z12 : n0 ≤ h12.size := Nat.le_trans Z6 (Keep.of_wr W12).1
  have K12 : Keep h0 h12 [tt] := K6.wr W12 (Or.inl (List.mem_of_getElem? (i := 0) rfl))
  have F12 : Fld Z h12 tt o_n1 "coder" "B" (.int 1) := F11.same W12
  replace G := o_nxs (q := 51) (st := []) G st12 rfl
  replace G := o_aloadN (q := 52) G X12.here hx (hb hby d3_51) rfl rfl rfl
  replace G := o_aload (q := 54) G X12.here hx (hb hby d3_52) rfl rfl rfl
  have F13 := (F10.wr W12)
  have F14 := ((P5.keep K6q nin0).other W12 (Or.inr (slot_ne (Or.inr (o_w hw 21 rfl)) (Or.inr (o_w hw 22 rfl)) (by decide) (t := (.array .byte)) (t' := .byte) (by decide) (by decide))))
  obtain ⟨T15, h15, X15, e15, W15, st15⟩ := putF X12 hx hZ hown (host := "") (Or.inl (o_w hw 25 rfl)) Via.refl e12 F14 F13 (Or.inr ⟨(o_w hw 21 rfl), rfl, hnm⟩) (o_w hw 6 rfl) (ty := (.array .byte)) (by decide) rfl rfl (g := o_g G) rfl rfl (hb hby d3_54)
  have N15 := Fr.snoc X15 N12 P8
  have Z15 : n0 ≤ h15.size := Nat.le_trans Z12 (Keep.of_wr W15).1
  have K15 : Keep h0 h15 [tt] := K12.wr W15 (Or.inl (List.mem_of_getElem? (i := 0) rfl))
  have F15 : Fld Z h15 tt o_n1 "value" "[B" (.ref b_6) := F14.same W15
  replace G := o_nxs (q := 57) (st := []) G st15 rfl
  obtain ⟨fs, hr, hrun, hended, hW, hsame⟩ := X15.leave (v := none) (fun _ => rfl)
  refine ⟨_, _, G _ (X15.returnOut hx Bd.returns (hb hby d3_57) hr), hrun, hended, _, _, rfl, ?_, ⟨_, rfl⟩, hW, hsame.mono (by decide) (by decide)⟩
  have F16 := (F12.other W15 (Or.inr (slot_ne (Or.inr (o_w hw 22 rfl)) (Or.inr (o_w hw 21 rfl)) (by decide) (t := .byte) (t' := (.array .byte)) (by decide) (by decide))))
  have F17 := ((B6_1.other W12 (Ne.symm ne7)).other W15 (Ne.symm ne7))
  show Q3u3 Z tt a ks cw ec0 ec1 ec2 h0 n0 _ T15.heap _
  rw [e15]
  exact ⟨b_6, kb_6, rfl, N15, K15, F15, F16, sz_b_6, F17⟩
theorem ef_2u3 (m : MethodId) (x0 : Addr) (x1 : Addr) : entryFrame m #[(.ref x0), (.ref x1)] 2 = mkF m 0 #[.val (.ref x0), .val (.ref x1)] [] := by first | (simp [entryFrame, mkF, argsToLocals, Value.category]; done) | rfl
def Q2u3 (Z : State) (tt : Addr) (a : Addr) (ks : ClassId) (cw : Int32) (ec0 : Int32) (ec1 : Int32) (ec2 : Int32) (h0 : Heap) (n0 : Nat) (v : Option Value) (h : Heap) (L : List Loc) : Prop := ∃ (b : Addr) (kb : ClassId), v = none ∧ Fr n0 L ∧ Keep h0 h [tt] ∧ (Fld Z h tt o_n1 "value" "[B" (.ref b)) ∧ (Fld Z h tt o_n1 "coder" "B" (.int 1)) ∧ h0.size ≤ b ∧ (Arv Z h b kb .byte (6 : Int32) [(.int (nar .byte ((ec0 >>> ((0 : Int32) &&& 31)).toInt8.toInt32))), (.int (nar .byte ((ec0 >>> ((8 : Int32) &&& 31)).toInt8.toInt32))), (.int (nar .byte ((ec1 >>> ((0 : Int32) &&& 31)).toInt8.toInt32))), (.int (nar .byte ((ec1 >>> ((8 : Int32) &&& 31)).toInt8.toInt32))), (.int (nar .byte ((ec2 >>> ((0 : Int32) &&& 31)).toInt8.toInt32))), (.int (nar .byte ((ec2 >>> ((8 : Int32) &&& 31)).toInt8.toInt32)))] (.int 0))
set_option maxRecDepth 65536 in
set_option maxHeartbeats 40000000 in
theorem rm2u3 (l : Launch) (Z : State) (a0 : Array Value) (hw : ∀ d ∈ tables_1, d.before a0 Z = true) (ws : List Jvm.Cond) (tt : Addr) (a : Addr) (ks : ClassId) (cw : Int32) (ec0 : Int32) (ec1 : Int32) (ec2 : Int32) (h0 : Heap) (n0 : Nat) (Z0 : n0 ≤ h0.size) (P0 : Old Z n0 h0) (P1 : Sta Z Z.heap o_n0 "$assertionsDisabled" "Z" (.int 1)) (P2 : Sta Z Z.heap o_n0 "HI_BYTE_SHIFT" "I" (.int 0)) (P3 : Sta Z Z.heap o_n0 "LO_BYTE_SHIFT" "I" (.int 8)) (P4 : Sta Z Z.heap o_n1 "COMPACT_STRINGS" "Z" (.int cw)) (P5 : Fld Z h0 tt o_n1 "value" "[B" .null) (P6 : Fld Z h0 tt o_n1 "coder" "B" (.int 0)) (P7 : Exa Z h0 tt o_n1) (P8 : n0 ≤ tt) (P9 : Arv Z h0 a ks .char (3 : Int32) [(.int ec0), (.int ec1), (.int ec2)] (.int 0)) (hcw : ¬ cw = (0 : Int32)) (hU : (((255 : Int32) < ec0)) ∨ (¬ ((255 : Int32) < ec0) ∧ ((255 : Int32) < ec1)) ∨ (¬ ((255 : Int32) < ec0) ∧ ¬ ((255 : Int32) < ec1) ∧ ((255 : Int32) < ec2))) (hr0 : 0 ≤ ec0.toInt ∧ ec0.toInt < 65536) (hr1 : 0 ≤ ec1.toInt ∧ ec1.toInt < 65536) (hr2 : 0 ≤ ec2.toInt ∧ ec2.toInt < 65536) :
    MetFree l (⟨o_n1, "<init>", "([C)V"⟩ : MethodName) (head1 (Jvm.Cond.code (⟨o_n1, "<init>", "([C)V"⟩ : MethodName) jdk_42_method_3_code 2 none :: ws) ({ frames := 5, cells := 2, slots := 9, locals := 74 } : Room)) (fun argz U => argz = #[(.ref tt), (.ref a)] ∧ Z.Warmed39 U.vm ∧ U.heap = h0) (fun _ _ _ _ _ => True) (fun _ U o U' => ∃ v L, o = .returned v ∧ Q2u3 Z tt a ks cw ec0 ec1 ec2 h0 n0 v U'.heap L ∧ FrameEnd U o U' L ({ frames := 5, cells := 2, slots := 9, locals := 74 } : Room).cells ({ frames := 5, cells := 2, slots := 9, locals := 74 } : Room).slots) := by
  refine MetFree.of_bodySF (plainFor_of_name pn_java_lang_String) hisR ?_
  intro p e s m args below meth c s₁ Bd hml0 hP hK
  obtain ⟨rfl, hZ, hh⟩ := hP
  have hx := Bd.exec
  have hby := Bd.bytes
  have hml : c.maxLocals = 2 := hml0
  have hown : s.vm.findClass o_n1 = some m.cls := findClass_of_methodNamed Bd.named
  have hnm := (name_of_methodNamed Bd.named Bd.method).1
  have X0 : Stand p l e ({ frames := 5, cells := 2, slots := 9, locals := 74 } : Room) s m #[(.ref tt), (.ref a)] below meth c s₁ [] 0 0 := Stand.of_body Bd
  have e0 : s₁.heap = h0 := by rw [← hh, Bd.state]; rfl
  have N0 := Fr.nil n0
  have K0 : Keep h0 h0 [tt] := Keep.refl _ _
  have G : Gets p e below (s₁.setTop (entryFrame m #[(.ref tt), (.ref a)] 2)) (s₁.setTop (mkF m 0 #[.val (.ref tt), .val (.ref a)] [])) := fun t k => castTop (ef_2u3 m tt a) k
  replace G := o_aloadN (q := 1) G X0.here hx (hb hby d2_0) rfl rfl rfl
  replace G := o_aloadN (q := 2) G X0.here hx (hb hby d2_1) rfl rfl rfl
  replace G := o_iconst (q := 3) G X0.here hx (hb hby d2_2) (v := (0 : Int32)) (by decide) rfl
  replace G := o_aloadN (q := 4) G X0.here hx (hb hby d2_3) rfl rfl rfl
  obtain ⟨c1, Ar1, -, S1, N1', -, -⟩ := id P9
  replace G : Gets p e below _ (s₁.setTop (mkF m 5 #[.val (.ref tt), .val (.ref a)] [(.int 3), (.int 0), (.ref a), (.ref tt)])) := fun t k => G t (X0.arraylength hx (by rw [e0]; exact Ar1.1) (State.isArrayOf_alike hZ.alike Ar1.2.1) (g := o_g G) rfl rfl (hb hby d2_4) t (by rw [len_of S1 N1']; exact k))
  replace G := o_aconst_null (q := 6) G X0.here hx (hb hby d2_5) rfl
  obtain ⟨_, _, ⟨T2, L2, kk2, nn2⟩, -, X2, ⟨Lc2, hQ2, l2, y2, z2⟩, st2⟩ := X0.specialBack hx (y := (⟨o_n1, "<init>", "([CIILjava/lang/Void;)V"⟩ : MethodName)) rfl hown (mvT hZ (o_w hw 12 rfl)) (mvT hZ (o_w hw 13 rfl)) (mvT hZ (o_w hw 15 rfl)) (by decide) (backOf (W := 0) (rm3u3 l Z a0 hw [] tt a ks cw ec0 ec1 ec2 h0 n0 Z0 P0 P1 P2 P3 P4 P5 P6 P7 P8 P9 hcw hU hr0 hr1 hr2) hZ (o_w hw 15 rfl) (o_w hw 7 rfl) (by decide) (by decide)) (g := o_g G) rfl (by rw [hml]; rfl) (Steps.refl _) (a := tt) (argsL := [(.ref a), (.int 0), (.int 3), .null]) (rest := []) (lenOf pd_3 rfl) rfl (by show 2 * 0 + _ ≤ _; exact Nat.le_of_eq rfl) (hb hby d2_6) (fun _ _ => ⟨rfl, e0, (by decide : 0 + 2 ≤ _), (by decide : 0 + 9 ≤ _)⟩)
  dsimp only [Pt.U, Pt.locs, Pt.cells, Pt.slots] at X2 l2 y2 z2 st2 hQ2
  subst l2 y2 z2
  obtain ⟨b_2, kb_2, rfl, N2q, K2q, B2_0, B2_1, B2_2, B2_3⟩ := hQ2
  have ne3 : tt ≠ b_2 := Nat.ne_of_lt (Nat.lt_of_lt_of_le P5.lt B2_2)
  have ne4 : a ≠ b_2 := Nat.ne_of_lt (Nat.lt_of_lt_of_le P9.lt B2_2)
  have ge_b_2 : n0 ≤ b_2 := Nat.le_trans Z0 B2_2
  have sz_b_2 : h0.size ≤ b_2 := Nat.le_trans K0.1 B2_2
  have Z2 : n0 ≤ T2.heap.size := Nat.le_trans Z0 K2q.1
  have K2 : Keep h0 T2.heap [tt] := K0.trans K2q (allS (Or.inl (List.mem_of_getElem? (i := 0) rfl)) all0)
  have N2 := Fr.app N0 N2q
  replace G := o_nxv (q := 9) (st := []) G st2 rfl
  obtain ⟨fs, hr, hrun, hended, hW, hsame⟩ := X2.leave (v := none) (fun _ => rfl)
  refine ⟨_, _, G _ (X2.returnOut hx Bd.returns (hb hby d2_9) hr), hrun, hended, _, _, rfl, ?_, ⟨_, rfl⟩, hW, hsame.mono (by decide) (by decide)⟩
  show Q2u3 Z tt a ks cw ec0 ec1 ec2 h0 n0 _ T2.heap _
  exact ⟨b_2, kb_2, rfl, N2, K2, B2_0, B2_1, sz_b_2, B2_3⟩
theorem ef_6n4 (m : MethodId) (x0 : Addr) (x2 : Addr) : entryFrame m #[(.ref x0), (.int 0), (.ref x2), (.int 0), (.int 4)] 7 = mkF m 0 #[.val (.ref x0), .val (.int 0), .val (.ref x2), .val (.int 0), .val (.int 4), .unset, .unset] [] := by first | (simp [entryFrame, mkF, argsToLocals, Value.category]; done) | rfl
def Q6n4 (Z : State) (a : Addr) (d : Addr) (ks : ClassId) (kd : ClassId) (ec0 : Int32) (ec1 : Int32) (ec2 : Int32) (ec3 : Int32) (h0 : Heap) (n0 : Nat) (v : Option Value) (h : Heap) (L : List Loc) : Prop := v = some (.int 4) ∧ Fr n0 L ∧ Keep h0 h [d] ∧ (Arv Z h d kd .byte (4 : Int32) [(.int (nar .byte (ec0.toInt8.toInt32))), (.int (nar .byte (ec1.toInt8.toInt32))), (.int (nar .byte (ec2.toInt8.toInt32))), (.int (nar .byte (ec3.toInt8.toInt32)))] (.int 0))
set_option maxRecDepth 65536 in
set_option maxHeartbeats 40000000 in
theorem rm6n4 (l : Launch) (Z : State) (a0 : Array Value) (hw : ∀ d ∈ tables_1, d.before a0 Z = true) (ws : List Jvm.Cond) (a : Addr) (d : Addr) (ks : ClassId) (kd : ClassId) (ec0 : Int32) (ec1 : Int32) (ec2 : Int32) (ec3 : Int32) (h0 : Heap) (n0 : Nat) (Z0 : n0 ≤ h0.size) (P0 : Arv Z h0 a ks .char (4 : Int32) [(.int ec0), (.int ec1), (.int ec2), (.int ec3)] (.int 0)) (P1 : Arv Z h0 d kd .byte (4 : Int32) [(.int 0), (.int 0), (.int 0), (.int 0)] (.int 0)) (P2 : n0 ≤ d) (P3 : a ≠ d) (he0 : ¬ ((255 : Int32) < ec0)) (he1 : ¬ ((255 : Int32) < ec1)) (he2 : ¬ ((255 : Int32) < ec2)) (he3 : ¬ ((255 : Int32) < ec3)) :
    MetFree l (⟨o_n0, "compress", "([CI[BII)I"⟩ : MethodName) (head1 (Jvm.Cond.code (⟨o_n0, "compress", "([CI[BII)I"⟩ : MethodName) jdk_52_method_21_code 7 (some .int) :: ws) ({ frames := 0, cells := 0, slots := 0, locals := 0 } : Room)) (fun argz U => argz = #[(.ref a), (.int 0), (.ref d), (.int 0), (.int 4)] ∧ Z.Warmed39 U.vm ∧ U.heap = h0) (fun _ _ _ _ _ => True) (fun _ U o U' => ∃ v L, o = .returned v ∧ Q6n4 Z a d ks kd ec0 ec1 ec2 ec3 h0 n0 v U'.heap L ∧ FrameEnd U o U' L ({ frames := 0, cells := 0, slots := 0, locals := 0 } : Room).cells ({ frames := 0, cells := 0, slots := 0, locals := 0 } : Room).slots) := by
  refine MetFree.of_bodySF (plainFor_of_name pn_java_lang_StringUTF16) hisR ?_
  intro p e s m args below meth c s₁ Bd hml0 hP hK
  obtain ⟨rfl, hZ, hh⟩ := hP
  have hx := Bd.exec
  have hby := Bd.bytes
  have hml : c.maxLocals = 7 := hml0
  have hown : s.vm.findClass o_n0 = some m.cls := findClass_of_methodNamed Bd.named
  have hnm := (name_of_methodNamed Bd.named Bd.method).1
  have X0 : Stand p l e ({ frames := 0, cells := 0, slots := 0, locals := 0 } : Room) s m #[(.ref a), (.int 0), (.ref d), (.int 0), (.int 4)] below meth c s₁ [] 0 0 := Stand.of_body Bd
  have e0 : s₁.heap = h0 := by rw [← hh, Bd.state]; rfl
  have N0 := Fr.nil n0
  have K0 : Keep h0 h0 [d] := Keep.refl _ _
  have G : Gets p e below (s₁.setTop (entryFrame m #[(.ref a), (.int 0), (.ref d), (.int 0), (.int 4)] 7)) (s₁.setTop (mkF m 0 #[.val (.ref a), .val (.int 0), .val (.ref d), .val (.int 0), .val (.int 4), .unset, .unset] [])) := fun t k => castTop (ef_6n4 m a d) k
  replace G := o_iconst (q := 1) G X0.here hx (hb hby d6_0) (v := (0 : Int32)) (by decide) rfl
  replace G := o_istore (q := 3) (l' := #[.val (.ref a), .val (.int 0), .val (.ref d), .val (.int 0), .val (.int 4), .val (.int 0), .unset]) G X0.here hx (hb hby d6_1) rfl rfl
  replace G := o_iload (q := 5) G X0.here hx (hb hby d6_3) rfl rfl
  replace G := o_iload (q := 7) G X0.here hx (hb hby d6_5) rfl rfl
  replace G := o_icmpNo (q := 10) G X0.here hx (hb hby d6_7) (by decide) rfl
  replace G := o_aloadN (q := 11) G X0.here hx (hb hby d6_10) rfl rfl rfl
  replace G := o_iloadN (q := 12) G X0.here hx (hb hby d6_11) rfl rfl
  obtain ⟨c2, Ar2, -, S2, -, H2, -⟩ := id P0
  have hin2 : ¬ ((0 : Int32) < 0 ∨ c2.slots.size ≤ ((0 : Int32)).toNatClampNeg) := inb_of S2 ⟨by decide, by decide⟩
  replace G := o_nxs (q := 13) (st := [(.int ec0)]) G (X0.caload hx (j := (0 : Int32)) (v := (.int ec0)) (by rw [e0]; exact Ar2.1) (State.isArrayOf_alike hZ.alike Ar2.2.1) Ar2.2.2 hin2 (Has.at H2 hin2 rfl) (g := o_g G) rfl rfl (hb hby d6_12)) rfl
  replace G := o_istore (q := 15) (l' := #[.val (.ref a), .val (.int 0), .val (.ref d), .val (.int 0), .val (.int 4), .val (.int 0), .val (.int ec0)]) G X0.here hx (hb hby d6_13) rfl rfl
  replace G := o_iload (q := 17) G X0.here hx (hb hby d6_15) rfl rfl
  replace G := o_sipush (q := 20) G X0.here hx (hb hby d6_17) (v := (255 : Int32)) (by decide) rfl
  have hc20_3 : ¬ ((255 : Int32) < ec0) := he0
  replace G := o_icmpYes (q := 26) G X0.here hx (hb hby d6_20) (flt hc20_3).2.2.2 (by decide) (by decide)
  replace G := o_aloadN (q := 27) G X0.here hx (hb hby d6_26) rfl rfl rfl
  replace G := o_iloadN (q := 28) G X0.here hx (hb hby d6_27) rfl rfl
  replace G := o_iload (q := 30) G X0.here hx (hb hby d6_28) rfl rfl
  replace G := o_i2b (q := 31) G X0.here hx (hb hby d6_30) rfl rfl
  obtain ⟨c4, Ar4, q4, S4, N4', H4, G4'⟩ := id P1
  have hin4 : ¬ ((0 : Int32) < 0 ∨ c4.slots.size ≤ ((0 : Int32)).toNatClampNeg) := inb_of S4 ⟨by decide, by decide⟩
  obtain ⟨T4, h4, X4, e4, W4, st4⟩ := stB X0 hx hZ e0 Ar4 (j := (0 : Int32)) hin4 (g := o_g G) rfl rfl (hb hby d6_31)
  have N4 := Fr.snoc X4 N0 P2
  have Z4 : n0 ≤ h4.size := Nat.le_trans Z0 (Keep.of_wr W4).1
  have K4 : Keep h0 h4 [d] := K0.wr W4 (Or.inl (List.mem_of_getElem? (i := 0) rfl))
  have V4 : Arv Z h4 d kd .byte (4 : Int32) [(.int (nar .byte (ec0.toInt8.toInt32))), (.int 0), (.int 0), (.int 0)] (.int 0) := Arv.set Ar4 q4 S4 N4' H4 G4' (fits_nar_byte _) W4 0 rfl (Nat.le_of_ble_eq_true rfl)
  replace G := o_nxs (q := 32) (st := []) G st4 rfl
  replace G := o_iinc (q := 35) (l' := #[.val (.ref a), .val (.int 1), .val (.ref d), .val (.int 0), .val (.int 4), .val (.int 0), .val (.int ec0)]) (w := (1 : Int32)) G X4.here hx (hb hby d6_32) (by decide) rfl (by decide : ((0 : Int32) + (1 : Int32)) = (1 : Int32)) rfl rfl
  replace G := o_iinc (q := 38) (l' := #[.val (.ref a), .val (.int 1), .val (.ref d), .val (.int 1), .val (.int 4), .val (.int 0), .val (.int ec0)]) (w := (1 : Int32)) G X4.here hx (hb hby d6_35) (by decide) rfl (by decide : ((0 : Int32) + (1 : Int32)) = (1 : Int32)) rfl rfl
  replace G := o_iinc (q := 41) (l' := #[.val (.ref a), .val (.int 1), .val (.ref d), .val (.int 1), .val (.int 4), .val (.int 1), .val (.int ec0)]) (w := (1 : Int32)) G X4.here hx (hb hby d6_38) (by decide) rfl (by decide : ((0 : Int32) + (1 : Int32)) = (1 : Int32)) rfl rfl
  replace G := o_goto (q := 3) G X4.here hx (hb hby d6_41) (by decide) (by decide)
  replace G := o_iload (q := 5) G X4.here hx (hb hby d6_3) rfl rfl
  replace G := o_iload (q := 7) G X4.here hx (hb hby d6_5) rfl rfl
  replace G := o_icmpNo (q := 10) G X4.here hx (hb hby d6_7) (by decide) rfl
  replace G := o_aloadN (q := 11) G X4.here hx (hb hby d6_10) rfl rfl rfl
  replace G := o_iloadN (q := 12) G X4.here hx (hb hby d6_11) rfl rfl
  have F6 := (P0.other W4 P3)
  obtain ⟨c7, Ar7, -, S7, -, H7, -⟩ := id F6
  have hin7 : ¬ ((1 : Int32) < 0 ∨ c7.slots.size ≤ ((1 : Int32)).toNatClampNeg) := inb_of S7 ⟨by decide, by decide⟩
  replace G := o_nxs (q := 13) (st := [(.int ec1)]) G (X4.caload hx (j := (1 : Int32)) (v := (.int ec1)) (by rw [e4]; exact Ar7.1) (State.isArrayOf_alike hZ.alike Ar7.2.1) Ar7.2.2 hin7 (Has.at H7 hin7 rfl) (g := o_g G) rfl rfl (hb hby d6_12)) rfl
  replace G := o_istore (q := 15) (l' := #[.val (.ref a), .val (.int 1), .val (.ref d), .val (.int 1), .val (.int 4), .val (.int 1), .val (.int ec1)]) G X4.here hx (hb hby d6_13) rfl rfl
  replace G := o_iload (q := 17) G X4.here hx (hb hby d6_15) rfl rfl
  replace G := o_sipush (q := 20) G X4.here hx (hb hby d6_17) (v := (255 : Int32)) (by decide) rfl
  have hc20_8 : ¬ ((255 : Int32) < ec1) := he1
  replace G := o_icmpYes (q := 26) G X4.here hx (hb hby d6_20) (flt hc20_8).2.2.2 (by decide) (by decide)
  replace G := o_aloadN (q := 27) G X4.here hx (hb hby d6_26) rfl rfl rfl
  replace G := o_iloadN (q := 28) G X4.here hx (hb hby d6_27) rfl rfl
  replace G := o_iload (q := 30) G X4.here hx (hb hby d6_28) rfl rfl
  replace G := o_i2b (q := 31) G X4.here hx (hb hby d6_30) rfl rfl
  obtain ⟨c9, Ar9, q9, S9, N9', H9, G9'⟩ := id V4
  have hin9 : ¬ ((1 : Int32) < 0 ∨ c9.slots.size ≤ ((1 : Int32)).toNatClampNeg) := inb_of S9 ⟨by decide, by decide⟩
  obtain ⟨T9, h9, X9, e9, W9, st9⟩ := stB X4 hx hZ e4 Ar9 (j := (1 : Int32)) hin9 (g := o_g G) rfl rfl (hb hby d6_31)
  have N9 := Fr.snoc X9 N4 P2
  have Z9 : n0 ≤ h9.size := Nat.le_trans Z4 (Keep.of_wr W9).1
  have K9 : Keep h0 h9 [d] := K4.wr W9 (Or.inl (List.mem_of_getElem? (i := 0) rfl))
  have V9 : Arv Z h9 d kd .byte (4 : Int32) [(.int (nar .byte (ec0.toInt8.toInt32))), (.int (nar .byte (ec1.toInt8.toInt32))), (.int 0), (.int 0)] (.int 0) := Arv.set Ar9 q9 S9 N9' H9 G9' (fits_nar_byte _) W9 1 rfl (Nat.le_of_ble_eq_true rfl)
  replace G := o_nxs (q := 32) (st := []) G st9 rfl
  replace G := o_iinc (q := 35) (l' := #[.val (.ref a), .val (.int 2), .val (.ref d), .val (.int 1), .val (.int 4), .val (.int 1), .val (.int ec1)]) (w := (1 : Int32)) G X9.here hx (hb hby d6_32) (by decide) rfl (by decide : ((1 : Int32) + (1 : Int32)) = (2 : Int32)) rfl rfl
  replace G := o_iinc (q := 38) (l' := #[.val (.ref a), .val (.int 2), .val (.ref d), .val (.int 2), .val (.int 4), .val (.int 1), .val (.int ec1)]) (w := (1 : Int32)) G X9.here hx (hb hby d6_35) (by decide) rfl (by decide : ((1 : Int32) + (1 : Int32)) = (2 : Int32)) rfl rfl
  replace G := o_iinc (q := 41) (l' := #[.val (.ref a), .val (.int 2), .val (.ref d), .val (.int 2), .val (.int 4), .val (.int 2), .val (.int ec1)]) (w := (1 : Int32)) G X9.here hx (hb hby d6_38) (by decide) rfl (by decide : ((1 : Int32) + (1 : Int32)) = (2 : Int32)) rfl rfl
  replace G := o_goto (q := 3) G X9.here hx (hb hby d6_41) (by decide) (by decide)
  replace G := o_iload (q := 5) G X9.here hx (hb hby d6_3) rfl rfl
  replace G := o_iload (q := 7) G X9.here hx (hb hby d6_5) rfl rfl
  replace G := o_icmpNo (q := 10) G X9.here hx (hb hby d6_7) (by decide) rfl
  replace G := o_aloadN (q := 11) G X9.here hx (hb hby d6_10) rfl rfl rfl
  replace G := o_iloadN (q := 12) G X9.here hx (hb hby d6_11) rfl rfl
  have F11 := (F6.other W9 P3)
  obtain ⟨c12, Ar12, -, S12, -, H12, -⟩ := id F11
  have hin12 : ¬ ((2 : Int32) < 0 ∨ c12.slots.size ≤ ((2 : Int32)).toNatClampNeg) := inb_of S12 ⟨by decide, by decide⟩
  replace G := o_nxs (q := 13) (st := [(.int ec2)]) G (X9.caload hx (j := (2 : Int32)) (v := (.int ec2)) (by rw [e9]; exact Ar12.1) (State.isArrayOf_alike hZ.alike Ar12.2.1) Ar12.2.2 hin12 (Has.at H12 hin12 rfl) (g := o_g G) rfl rfl (hb hby d6_12)) rfl
  replace G := o_istore (q := 15) (l' := #[.val (.ref a), .val (.int 2), .val (.ref d), .val (.int 2), .val (.int 4), .val (.int 2), .val (.int ec2)]) G X9.here hx (hb hby d6_13) rfl rfl
  replace G := o_iload (q := 17) G X9.here hx (hb hby d6_15) rfl rfl
  replace G := o_sipush (q := 20) G X9.here hx (hb hby d6_17) (v := (255 : Int32)) (by decide) rfl
  have hc20_13 : ¬ ((255 : Int32) < ec2) := he2
  replace G := o_icmpYes (q := 26) G X9.here hx (hb hby d6_20) (flt hc20_13).2.2.2 (by decide) (by decide)
  replace G := o_aloadN (q := 27) G X9.here hx (hb hby d6_26) rfl rfl rfl
  replace G := o_iloadN (q := 28) G X9.here hx (hb hby d6_27) rfl rfl
  replace G := o_iload (q := 30) G X9.here hx (hb hby d6_28) rfl rfl
  replace G := o_i2b (q := 31) G X9.here hx (hb hby d6_30) rfl rfl
  obtain ⟨c14, Ar14, q14, S14, N14', H14, G14'⟩ := id V9
  have hin14 : ¬ ((2 : Int32) < 0 ∨ c14.slots.size ≤ ((2 : Int32)).toNatClampNeg) := inb_of S14 ⟨by decide, by decide⟩
  obtain ⟨T14, h14, X14, e14, W14, st14⟩ := stB X9 hx hZ e9 Ar14 (j := (2 : Int32)) hin14 (g := o_g G) rfl rfl (hb hby d6_31)
  have N14 := Fr.snoc X14 N9 P2
  have Z14 : n0 ≤ h14.size := Nat.le_trans Z9 (Keep.of_wr W14).1
  have K14 : Keep h0 h14 [d] := K9.wr W14 (Or.inl (List.mem_of_getElem? (i := 0) rfl))
  have V14 : Arv Z h14 d kd .byte (4 : Int32) [(.int (nar .byte (ec0.toInt8.toInt32))), (.int (nar .byte (ec1.toInt8.toInt32))), (.int (nar .byte (ec2.toInt8.toInt32))), (.int 0)] (.int 0) := Arv.set Ar14 q14 S14 N14' H14 G14' (fits_nar_byte _) W14 2 rfl (Nat.le_of_ble_eq_true rfl)
  replace G := o_nxs (q := 32) (st := []) G st14 rfl
  replace G := o_iinc (q := 35) (l' := #[.val (.ref a), .val (.int 3), .val (.ref d), .val (.int 2), .val (.int 4), .val (.int 2), .val (.int ec2)]) (w := (1 : Int32)) G X14.here hx (hb hby d6_32) (by decide) rfl (by decide : ((2 : Int32) + (1 : Int32)) = (3 : Int32)) rfl rfl
  replace G := o_iinc (q := 38) (l' := #[.val (.ref a), .val (.int 3), .val (.ref d), .val (.int 3), .val (.int 4), .val (.int 2), .val (.int ec2)]) (w := (1 : Int32)) G X14.here hx (hb hby d6_35) (by decide) rfl (by decide : ((2 : Int32) + (1 : Int32)) = (3 : Int32)) rfl rfl
  replace G := o_iinc (q := 41) (l' := #[.val (.ref a), .val (.int 3), .val (.ref d), .val (.int 3), .val (.int 4), .val (.int 3), .val (.int ec2)]) (w := (1 : Int32)) G X14.here hx (hb hby d6_38) (by decide) rfl (by decide : ((2 : Int32) + (1 : Int32)) = (3 : Int32)) rfl rfl
  replace G := o_goto (q := 3) G X14.here hx (hb hby d6_41) (by decide) (by decide)
  replace G := o_iload (q := 5) G X14.here hx (hb hby d6_3) rfl rfl
  replace G := o_iload (q := 7) G X14.here hx (hb hby d6_5) rfl rfl
  replace G := o_icmpNo (q := 10) G X14.here hx (hb hby d6_7) (by decide) rfl
  replace G := o_aloadN (q := 11) G X14.here hx (hb hby d6_10) rfl rfl rfl
  replace G := o_iloadN (q := 12) G X14.here hx (hb hby d6_11) rfl rfl
  have F16 := (F11.other W14 P3)
  obtain ⟨c17, Ar17, -, S17, -, H17, -⟩ := id F16
  have hin17 : ¬ ((3 : Int32) < 0 ∨ c17.slots.size ≤ ((3 : Int32)).toNatClampNeg) := inb_of S17 ⟨by decide, by decide⟩
  replace G := o_nxs (q := 13) (st := [(.int ec3)]) G (X14.caload hx (j := (3 : Int32)) (v := (.int ec3)) (by rw [e14]; exact Ar17.1) (State.isArrayOf_alike hZ.alike Ar17.2.1) Ar17.2.2 hin17 (Has.at H17 hin17 rfl) (g := o_g G) rfl rfl (hb hby d6_12)) rfl
  replace G := o_istore (q := 15) (l' := #[.val (.ref a), .val (.int 3), .val (.ref d), .val (.int 3), .val (.int 4), .val (.int 3), .val (.int ec3)]) G X14.here hx (hb hby d6_13) rfl rfl
  replace G := o_iload (q := 17) G X14.here hx (hb hby d6_15) rfl rfl
  replace G := o_sipush (q := 20) G X14.here hx (hb hby d6_17) (v := (255 : Int32)) (by decide) rfl
  have hc20_18 : ¬ ((255 : Int32) < ec3) := he3
  replace G := o_icmpYes (q := 26) G X14.here hx (hb hby d6_20) (flt hc20_18).2.2.2 (by decide) (by decide)
  replace G := o_aloadN (q := 27) G X14.here hx (hb hby d6_26) rfl rfl rfl
  replace G := o_iloadN (q := 28) G X14.here hx (hb hby d6_27) rfl rfl
  replace G := o_iload (q := 30) G X14.here hx (hb hby d6_28) rfl rfl
  replace G := o_i2b (q := 31) G X14.here hx (hb hby d6_30) rfl rfl
  obtain ⟨c19, Ar19, q19, S19, N19', H19, G19'⟩ := id V14
  have hin19 : ¬ ((3 : Int32) < 0 ∨ c19.slots.size ≤ ((3 : Int32)).toNatClampNeg) := inb_of S19 ⟨by decide, by decide⟩
  obtain ⟨T19, h19, X19, e19, W19, st19⟩ := stB X14 hx hZ e14 Ar19 (j := (3 : Int32)) hin19 (g := o_g G) rfl rfl (hb hby d6_31)
  have N19 := Fr.snoc X19 N14 P2
  have Z19 : n0 ≤ h19.size := Nat.le_trans Z14 (Keep.of_wr W19).1
  have K19 : Keep h0 h19 [d] := K14.wr W19 (Or.inl (List.mem_of_getElem? (i := 0) rfl))
  have V19 : Arv Z h19 d kd .byte (4 : Int32) [(.int (nar .byte (ec0.toInt8.toInt32))), (.int (nar .byte (ec1.toInt8.toInt32))), (.int (nar .byte (ec2.toInt8.toInt32))), (.int (nar .byte (ec3.toInt8.toInt32)))] (.int 0) := Arv.set Ar19 q19 S19 N19' H19 G19' (fits_nar_byte _) W19 3 rfl (Nat.le_of_ble_eq_true rfl)
  replace G := o_nxs (q := 32) (st := []) G st19 rfl
  replace G := o_iinc (q := 35) (l' := #[.val (.ref a), .val (.int 4), .val (.ref d), .val (.int 3), .val (.int 4), .val (.int 3), .val (.int ec3)]) (w := (1 : Int32)) G X19.here hx (hb hby d6_32) (by decide) rfl (by decide : ((3 : Int32) + (1 : Int32)) = (4 : Int32)) rfl rfl
  replace G := o_iinc (q := 38) (l' := #[.val (.ref a), .val (.int 4), .val (.ref d), .val (.int 4), .val (.int 4), .val (.int 3), .val (.int ec3)]) (w := (1 : Int32)) G X19.here hx (hb hby d6_35) (by decide) rfl (by decide : ((3 : Int32) + (1 : Int32)) = (4 : Int32)) rfl rfl
  replace G := o_iinc (q := 41) (l' := #[.val (.ref a), .val (.int 4), .val (.ref d), .val (.int 4), .val (.int 4), .val (.int 4), .val (.int ec3)]) (w := (1 : Int32)) G X19.here hx (hb hby d6_38) (by decide) rfl (by decide : ((3 : Int32) + (1 : Int32)) = (4 : Int32)) rfl rfl
  replace G := o_goto (q := 3) G X19.here hx (hb hby d6_41) (by decide) (by decide)
  replace G := o_iload (q := 5) G X19.here hx (hb hby d6_3) rfl rfl
  replace G := o_iload (q := 7) G X19.here hx (hb hby d6_5) rfl rfl
  replace G := o_icmpYes (q := 44) G X19.here hx (hb hby d6_7) (by decide) (by decide) (by decide)
  replace G := o_iload (q := 46) G X19.here hx (hb hby d6_44) rfl rfl
  obtain ⟨fs, hr, hrun, hended, hW, hsame⟩ := X19.leave (v := some (.int 4)) (fun h => by rw [Bd.returns] at h; cases h)
  refine ⟨_, _, G _ (retOut X19 hx Bd.returns rfl (Or.inl ⟨rfl, Or.inl rfl, _, rfl⟩) (hb hby d6_46) hr), hrun, hended, _, _, rfl, ?_, ⟨_, rfl⟩, hW, hsame.mono (by decide) (by decide)⟩
  show Q6n4 Z a d ks kd ec0 ec1 ec2 ec3 h0 n0 _ T19.heap _
  rw [e19]
  exact ⟨rfl, N19, K19, V19⟩
theorem ef_5n4 (m : MethodId) (x0 : Addr) : entryFrame m #[(.ref x0), (.int 0), (.int 4)] 6 = mkF m 0 #[.val (.ref x0), .val (.int 0), .val (.int 4), .unset, .unset, .unset] [] := by first | (simp [entryFrame, mkF, argsToLocals, Value.category]; done) | rfl
def Q5n4 (Z : State) (a : Addr) (ks : ClassId) (ec0 : Int32) (ec1 : Int32) (ec2 : Int32) (ec3 : Int32) (h0 : Heap) (n0 : Nat) (v : Option Value) (h : Heap) (L : List Loc) : Prop := ∃ (b : Addr) (kb : ClassId), v = some (.ref b) ∧ Fr n0 L ∧ Keep h0 h [] ∧ h0.size ≤ b ∧ (Arv Z h b kb .byte (4 : Int32) [(.int (nar .byte (ec0.toInt8.toInt32))), (.int (nar .byte (ec1.toInt8.toInt32))), (.int (nar .byte (ec2.toInt8.toInt32))), (.int (nar .byte (ec3.toInt8.toInt32)))] (.int 0))
set_option maxRecDepth 65536 in
set_option maxHeartbeats 40000000 in
theorem rm5n4 (l : Launch) (Z : State) (a0 : Array Value) (hw : ∀ d ∈ tables_1, d.before a0 Z = true) (ws : List Jvm.Cond) (a : Addr) (ks : ClassId) (ec0 : Int32) (ec1 : Int32) (ec2 : Int32) (ec3 : Int32) (h0 : Heap) (n0 : Nat) (Z0 : n0 ≤ h0.size) (P0 : Arv Z h0 a ks .char (4 : Int32) [(.int ec0), (.int ec1), (.int ec2), (.int ec3)] (.int 0)) (he0 : ¬ ((255 : Int32) < ec0)) (he1 : ¬ ((255 : Int32) < ec1)) (he2 : ¬ ((255 : Int32) < ec2)) (he3 : ¬ ((255 : Int32) < ec3)) :
    MetFree l (⟨o_n0, "compress", "([CII)[B"⟩ : MethodName) (head1 (Jvm.Cond.code (⟨o_n0, "compress", "([CII)[B"⟩ : MethodName) jdk_52_method_16_code 6 (some (.array .byte)) :: ws) ({ frames := 1, cells := 1, slots := 4, locals := 18 } : Room)) (fun argz U => argz = #[(.ref a), (.int 0), (.int 4)] ∧ Z.Warmed39 U.vm ∧ U.heap = h0) (fun _ _ _ _ _ => True) (fun _ U o U' => ∃ v L, o = .returned v ∧ Q5n4 Z a ks ec0 ec1 ec2 ec3 h0 n0 v U'.heap L ∧ FrameEnd U o U' L ({ frames := 1, cells := 1, slots := 4, locals := 18 } : Room).cells ({ frames := 1, cells := 1, slots := 4, locals := 18 } : Room).slots) := by
  refine MetFree.of_bodySF (plainFor_of_name pn_java_lang_StringUTF16) hisR ?_
  intro p e s m args below meth c s₁ Bd hml0 hP hK
  obtain ⟨rfl, hZ, hh⟩ := hP
  have hx := Bd.exec
  have hby := Bd.bytes
  have hml : c.maxLocals = 6 := hml0
  have hown : s.vm.findClass o_n0 = some m.cls := findClass_of_methodNamed Bd.named
  have hnm := (name_of_methodNamed Bd.named Bd.method).1
  have X0 : Stand p l e ({ frames := 1, cells := 1, slots := 4, locals := 18 } : Room) s m #[(.ref a), (.int 0), (.int 4)] below meth c s₁ [] 0 0 := Stand.of_body Bd
  have e0 : s₁.heap = h0 := by rw [← hh, Bd.state]; rfl
  have N0 := Fr.nil n0
  have K0 : Keep h0 h0 [] := Keep.refl _ _
  have G : Gets p e below (s₁.setTop (entryFrame m #[(.ref a), (.int 0), (.int 4)] 6)) (s₁.setTop (mkF m 0 #[.val (.ref a), .val (.int 0), .val (.int 4), .unset, .unset, .unset] [])) := fun t k => castTop (ef_5n4 m a) k
  replace G := o_iloadN (q := 1) G X0.here hx (hb hby d5_0) rfl rfl
  obtain ⟨T1, h1, k1, X1, e1, E1, A1, st1⟩ := newP X0 hx hZ (o_w hw 20 rfl) e0 (g := o_g G) rfl (hb hby d5_1) rfl (by decide) (cap := 4) (by decide) (by decide) (by decide) (by decide)
  obtain ⟨b1, g1⟩ : ∃ z, z = h0.size := ⟨_, rfl⟩
  rw [← g1] at A1 st1
  have ne2 : a ≠ b1 := Nat.ne_of_lt (Nat.lt_of_lt_of_le P0.lt (Nat.le_of_eq g1.symm))
  have ge_b1 : n0 ≤ b1 := Nat.le_trans Z0 (Nat.le_of_eq g1.symm)
  have sz_b1 : h0.size ≤ b1 := Nat.le_trans K0.1 (Nat.le_of_eq g1.symm)
  have Z1 : n0 ≤ h1.size := Nat.le_trans Z0 E1.1
  have K1 : Keep h0 h1 [] := K0.ext E1
  have V1 : Arv Z h1 b1 k1 .byte (4 : Int32) [(.int 0), (.int 0), (.int 0), (.int 0)] (.int 0) := (Arv.new A1 (by decide)).pad (pad_rep [] (.int 0) 4)
  replace G := o_nxs (q := 3) (st := [(.ref b1)]) G st1 rfl
  replace G := o_astoreN (q := 4) (l' := #[.val (.ref a), .val (.int 0), .val (.int 4), .val (.ref b1), .unset, .unset]) G X1.here hx (hb hby d5_3) rfl rfl rfl
  replace G := o_aloadN (q := 5) G X1.here hx (hb hby d5_4) rfl rfl rfl
  replace G := o_iloadN (q := 6) G X1.here hx (hb hby d5_5) rfl rfl
  replace G := o_aloadN (q := 7) G X1.here hx (hb hby d5_6) rfl rfl rfl
  replace G := o_iconst (q := 8) G X1.here hx (hb hby d5_7) (v := (0 : Int32)) (by decide) rfl
  replace G := o_iloadN (q := 9) G X1.here hx (hb hby d5_8) rfl rfl
  have F4 := (P0.ext E1)
  obtain ⟨_, _, ⟨T3, L3, kk3, nn3⟩, -, X3, ⟨Lc3, hQ3, l3, y3, z3⟩, st3⟩ := Jvm.LawKit.callS X1 hx (y := (⟨o_n0, "compress", "([CI[BII)I"⟩ : MethodName)) hown (mvT hZ (o_w hw 32 rfl)) (mvT hZ (o_w hw 33 rfl)) (mvT hZ (o_w hw 30 rfl)) (mvT hZ (o_w hw 34 rfl)) (by decide) (backOf (W := 0) (rm6n4 l Z a0 hw [] a b1 ks k1 ec0 ec1 ec2 ec3 h1 n0 Z1 F4 V1 ge_b1 ne2 he0 he1 he2 he3) hZ (o_w hw 34 rfl) (o_w hw 30 rfl) (by decide) (by decide)) (g := o_g G) rfl (by rw [hml]; rfl) (argsL := [(.ref a), (.int 0), (.ref b1), (.int 0), (.int 4)]) (rest := []) (lenOf pd_0 rfl) rfl (by show 2 * 0 + _ ≤ _; exact Nat.le_of_eq rfl) (hb hby d5_9) (fun _ _ => ⟨rfl, e1, (by decide : 1 + 0 ≤ _), (by decide : 4 + 0 ≤ _)⟩)
  dsimp only [Pt.U, Pt.locs, Pt.cells, Pt.slots] at X3 l3 y3 z3 st3 hQ3
  subst l3 y3 z3
  obtain ⟨rfl, N3q, K3q, B3_0⟩ := hQ3
  have Z3 : n0 ≤ T3.heap.size := Nat.le_trans Z1 K3q.1
  have K3 : Keep h0 T3.heap [] := K1.trans K3q (allS (Or.inr sz_b1) all0)
  have N3 := Fr.app N0 N3q
  replace G := o_nxs (q := 12) (st := [(.int 4)]) G st3 rfl
  replace G := o_istore (q := 14) (l' := #[.val (.ref a), .val (.int 0), .val (.int 4), .val (.ref b1), .val (.int 4), .unset]) G X3.here hx (hb hby d5_12) rfl rfl
  replace G := o_iload (q := 16) G X3.here hx (hb hby d5_14) rfl rfl
  replace G := o_iloadN (q := 17) G X3.here hx (hb hby d5_16) rfl rfl
  replace G := o_icmpYes (q := 57) G X3.here hx (hb hby d5_17) (by decide) (by decide) (by decide)
  replace G := o_aloadN (q := 58) G X3.here hx (hb hby d5_57) rfl rfl rfl
  obtain ⟨fs, hr, hrun, hended, hW, hsame⟩ := X3.leave (v := some (.ref b1)) (fun h => by rw [Bd.returns] at h; cases h)
  refine ⟨_, _, G _ (retOut X3 hx Bd.returns rfl (Or.inr (Or.inr (Or.inr (Or.inr ⟨rfl, rfl, rfl⟩)))) (hb hby d5_58) hr), hrun, hended, _, _, rfl, ?_, ⟨_, rfl⟩, hW, hsame.mono (by decide) (by decide)⟩
  show Q5n4 Z a ks ec0 ec1 ec2 ec3 h0 n0 _ T3.heap _
  exact ⟨b1, k1, rfl, N3, K3, sz_b1, B3_0⟩
theorem ef_12n4 (m : MethodId) (x0 : Addr) : entryFrame m #[(.ref x0), (.int 4)] 2 = mkF m 0 #[.val (.ref x0), .val (.int 4)] [] := by first | (simp [entryFrame, mkF, argsToLocals, Value.category]; done) | rfl
def Q12n4 (Z : State) (d : Addr) (kd : ClassId) (vs : List Value) (h0 : Heap) (n0 : Nat) (v : Option Value) (h : Heap) (L : List Loc) : Prop := v = some (.int 0) ∧ Fr n0 L ∧ h = h0
set_option maxRecDepth 65536 in
set_option maxHeartbeats 40000000 in
theorem rm12n4 (l : Launch) (Z : State) (a0 : Array Value) (hw : ∀ d ∈ tables_1, d.before a0 Z = true) (ws : List Jvm.Cond) (d : Addr) (kd : ClassId) (vs : List Value) (h0 : Heap) (n0 : Nat) (Z0 : n0 ≤ h0.size) (P0 : Arv Z h0 d kd .byte (4 : Int32) vs (.int 0)) :
    MetFree l (⟨o_n0, "coderFromArrayLen", "([BI)B"⟩ : MethodName) (head1 (Jvm.Cond.code (⟨o_n0, "coderFromArrayLen", "([BI)B"⟩ : MethodName) jdk_52_method_15_code 2 (some .byte) :: ws) ({ frames := 0, cells := 0, slots := 0, locals := 0 } : Room)) (fun argz U => argz = #[(.ref d), (.int 4)] ∧ Z.Warmed39 U.vm ∧ U.heap = h0) (fun _ _ _ _ _ => True) (fun _ U o U' => ∃ v L, o = .returned v ∧ Q12n4 Z d kd vs h0 n0 v U'.heap L ∧ FrameEnd U o U' L ({ frames := 0, cells := 0, slots := 0, locals := 0 } : Room).cells ({ frames := 0, cells := 0, slots := 0, locals := 0 } : Room).slots) := by
  refine MetFree.of_bodySF (plainFor_of_name pn_java_lang_StringUTF16) hisR ?_
  intro p e s m args below meth c s₁ Bd hml0 hP hK
  obtain ⟨rfl, hZ, hh⟩ := hP
  have hx := Bd.exec
  have hby := Bd.bytes
  have hml : c.maxLocals = 2 := hml0
  have hown : s.vm.findClass o_n0 = some m.cls := findClass_of_methodNamed Bd.named
  have hnm := (name_of_methodNamed Bd.named Bd.method).1
  have X0 : Stand p l e ({ frames := 0, cells := 0, slots := 0, locals := 0 } : Room) s m #[(.ref d), (.int 4)] below meth c s₁ [] 0 0 := Stand.of_body Bd
  have e0 : s₁.heap = h0 := by rw [← hh, Bd.state]; rfl
  have N0 := Fr.nil n0
  have G : Gets p e below (s₁.setTop (entryFrame m #[(.ref d), (.int 4)] 2)) (s₁.setTop (mkF m 0 #[.val (.ref d), .val (.int 4)] [])) := fun t k => castTop (ef_12n4 m d) k
  replace G := o_iloadN (q := 1) G X0.here hx (hb hby d12_0) rfl rfl
  replace G := o_aloadN (q := 2) G X0.here hx (hb hby d12_1) rfl rfl rfl
  obtain ⟨c1, Ar1, -, S1, N1', -, -⟩ := id P0
  replace G : Gets p e below _ (s₁.setTop (mkF m 3 #[.val (.ref d), .val (.int 4)] [(.int 4), (.int 4)])) := fun t k => G t (X0.arraylength hx (by rw [e0]; exact Ar1.1) (State.isArrayOf_alike hZ.alike Ar1.2.1) (g := o_g G) rfl rfl (hb hby d12_2) t (by rw [len_of S1 N1']; exact k))
  replace G := o_isub (q := 4) G X0.here hx (hb hby d12_3) (by decide : ((4 : Int32) - (4 : Int32)) = (0 : Int32)) rfl
  replace G := o_bipush (q := 6) G X0.here hx (hb hby d12_4) (v := (31 : Int32)) (by decide) rfl
  replace G := o_iushr (q := 7) G X0.here hx (hb hby d12_6) (by decide : (((0 : Int32).toUInt32 >>> ((31 : Int32) &&& 31).toUInt32).toInt32) = (0 : Int32)) rfl
  replace G := o_i2b (q := 8) G X0.here hx (hb hby d12_7) (by decide : ((0 : Int32).toInt8.toInt32) = (0 : Int32)) rfl
  obtain ⟨fs, hr, hrun, hended, hW, hsame⟩ := X0.leave (v := some (.int 0)) (fun h => by rw [Bd.returns] at h; cases h)
  refine ⟨_, _, G _ (retOut X0 hx Bd.returns rfl (Or.inl ⟨rfl, Or.inr (Or.inr (Or.inl rfl)), _, rfl⟩) (hb hby d12_8) hr), hrun, hended, _, _, rfl, ?_, ⟨_, rfl⟩, hW, hsame.mono (by decide) (by decide)⟩
  show Q12n4 Z d kd vs h0 n0 _ s₁.heap _
  rw [e0]
  exact ⟨rfl, N0, rfl⟩
theorem ef_3n4 (m : MethodId) (x0 : Addr) (x1 : Addr) : entryFrame m #[(.ref x0), (.ref x1), (.int 0), (.int 4), .null] 6 = mkF m 0 #[.val (.ref x0), .val (.ref x1), .val (.int 0), .val (.int 4), .val .null, .unset] [] := by first | (simp [entryFrame, mkF, argsToLocals, Value.category]; done) | rfl
def Q3n4 (Z : State) (tt : Addr) (a : Addr) (ks : ClassId) (cw : Int32) (ec0 : Int32) (ec1 : Int32) (ec2 : Int32) (ec3 : Int32) (h0 : Heap) (n0 : Nat) (v : Option Value) (h : Heap) (L : List Loc) : Prop := ∃ (b : Addr) (kb : ClassId), v = none ∧ Fr n0 L ∧ Keep h0 h [tt] ∧ (Fld Z h tt o_n1 "value" "[B" (.ref b)) ∧ (Fld Z h tt o_n1 "coder" "B" (.int 0)) ∧ h0.size ≤ b ∧ (Arv Z h b kb .byte (4 : Int32) [(.int (nar .byte (ec0.toInt8.toInt32))), (.int (nar .byte (ec1.toInt8.toInt32))), (.int (nar .byte (ec2.toInt8.toInt32))), (.int (nar .byte (ec3.toInt8.toInt32)))] (.int 0))
set_option maxRecDepth 65536 in
set_option maxHeartbeats 40000000 in
theorem rm3n4 (l : Launch) (Z : State) (a0 : Array Value) (hw : ∀ d ∈ tables_1, d.before a0 Z = true) (ws : List Jvm.Cond) (tt : Addr) (a : Addr) (ks : ClassId) (cw : Int32) (ec0 : Int32) (ec1 : Int32) (ec2 : Int32) (ec3 : Int32) (h0 : Heap) (n0 : Nat) (Z0 : n0 ≤ h0.size) (P0 : Fld Z h0 tt o_n1 "value" "[B" .null) (P1 : Fld Z h0 tt o_n1 "coder" "B" (.int 0)) (P2 : Exa Z h0 tt o_n1) (P3 : n0 ≤ tt) (P4 : Arv Z h0 a ks .char (4 : Int32) [(.int ec0), (.int ec1), (.int ec2), (.int ec3)] (.int 0)) (P5 : Sta Z h0 o_n1 "COMPACT_STRINGS" "Z" (.int cw)) (hcw : ¬ cw = (0 : Int32)) (he0 : ¬ ((255 : Int32) < ec0)) (he1 : ¬ ((255 : Int32) < ec1)) (he2 : ¬ ((255 : Int32) < ec2)) (he3 : ¬ ((255 : Int32) < ec3)) :
    MetFree l (⟨o_n1, "<init>", "([CIILjava/lang/Void;)V"⟩ : MethodName) (head1 (Jvm.Cond.code (⟨o_n1, "<init>", "([CIILjava/lang/Void;)V"⟩ : MethodName) jdk_42_method_149_code 6 none :: ws) ({ frames := 2, cells := 1, slots := 4, locals := 35 } : Room)) (fun argz U => argz = #[(.ref tt), (.ref a), (.int 0), (.int 4), .null] ∧ Z.Warmed39 U.vm ∧ U.heap = h0) (fun _ _ _ _ _ => True) (fun _ U o U' => ∃ v L, o = .returned v ∧ Q3n4 Z tt a ks cw ec0 ec1 ec2 ec3 h0 n0 v U'.heap L ∧ FrameEnd U o U' L ({ frames := 2, cells := 1, slots := 4, locals := 35 } : Room).cells ({ frames := 2, cells := 1, slots := 4, locals := 35 } : Room).slots) := by
  refine MetFree.of_bodySF (plainFor_of_name pn_java_lang_String) hisR ?_
  intro p e s m args below meth c s₁ Bd hml0 hP hK
  obtain ⟨rfl, hZ, hh⟩ := hP
  have hx := Bd.exec
  have hby := Bd.bytes
  have hml : c.maxLocals = 6 := hml0
  have hown : s.vm.findClass o_n1 = some m.cls := findClass_of_methodNamed Bd.named
  have hnm := (name_of_methodNamed Bd.named Bd.method).1
  have X0 : Stand p l e ({ frames := 2, cells := 1, slots := 4, locals := 35 } : Room) s m #[(.ref tt), (.ref a), (.int 0), (.int 4), .null] below meth c s₁ [] 0 0 := Stand.of_body Bd
  have e0 : s₁.heap = h0 := by rw [← hh, Bd.state]; rfl
  have N0 := Fr.nil n0
  have K0 : Keep h0 h0 [tt] := Keep.refl _ _
  have G : Gets p e below (s₁.setTop (entryFrame m #[(.ref tt), (.ref a), (.int 0), (.int 4), .null] 6)) (s₁.setTop (mkF m 0 #[.val (.ref tt), .val (.ref a), .val (.int 0), .val (.int 4), .val .null, .unset] [])) := fun t k => castTop (ef_3n4 m tt a) k
  replace G := o_aloadN (q := 1) G X0.here hx (hb hby d3_0) rfl rfl rfl
  obtain ⟨T1, X1, e1, st1⟩ := initO X0 hx hZ hown (o_w hw 16 rfl) (o_w hw 17 rfl) (o_w hw 18 rfl) e0 (g := o_g G) rfl (by rw [hml]; rfl) rfl (hb hby d3_1) (by decide) (W := 0) (by show 2 * 0 + _ ≤ _; exact Nat.le_of_eq rfl) (by decide)
  replace G := o_nxs (q := 4) (st := []) G st1 rfl
  replace G := o_iloadN (q := 5) G X1.here hx (hb hby d3_4) rfl rfl
  replace G := o_ifYes (q := 27) G X1.here hx (hb hby d3_5) (by decide) (by decide) (by decide)
  obtain ⟨T3, X3, e3, st3⟩ := getS2 X1 hx hZ hown (host := "") (Or.inl (o_w hw 27 rfl)) Via.refl e1 P5 (g := o_g G) rfl (hb hby d3_27)
  replace G := o_nxs (q := 30) (st := [(.int cw)]) G st3 rfl
  have hc30_4 : ¬ (cw = (0 : Int32)) := hcw
  replace G := o_ifNo (q := 33) G X3.here hx (hb hby d3_30) ((if0 _ _).trans (feq hc30_4).1) rfl
  replace G := o_aloadN (q := 34) G X3.here hx (hb hby d3_33) rfl rfl rfl
  replace G := o_iloadN (q := 35) G X3.here hx (hb hby d3_34) rfl rfl
  replace G := o_iloadN (q := 36) G X3.here hx (hb hby d3_35) rfl rfl
  obtain ⟨_, _, ⟨T5, L5, kk5, nn5⟩, -, X5, ⟨Lc5, hQ5, l5, y5, z5⟩, st5⟩ := Jvm.LawKit.callS X3 hx (y := (⟨o_n0, "compress", "([CII)[B"⟩ : MethodName)) hown (mvT hZ (o_w hw 28 rfl)) (mvT hZ (o_w hw 29 rfl)) (mvT hZ (o_w hw 30 rfl)) (mvT hZ (o_w hw 31 rfl)) (by decide) (backOf (W := 0) (rm5n4 l Z a0 hw [] a ks ec0 ec1 ec2 ec3 h0 n0 Z0 P4 he0 he1 he2 he3) hZ (o_w hw 31 rfl) (o_w hw 30 rfl) (by decide) (by decide)) (g := o_g G) rfl (by rw [hml]; rfl) (argsL := [(.ref a), (.int 0), (.int 4)]) (rest := []) (lenOf pd_1 rfl) rfl (by show 2 * 0 + _ ≤ _; exact Nat.le_of_eq rfl) (hb hby d3_36) (fun _ _ => ⟨rfl, e3, (by decide : 0 + 1 ≤ _), (by decide : 0 + 4 ≤ _)⟩)
  dsimp only [Pt.U, Pt.locs, Pt.cells, Pt.slots] at X5 l5 y5 z5 st5 hQ5
  subst l5 y5 z5
  obtain ⟨b_5, kb_5, rfl, N5q, K5q, B5_0, B5_1⟩ := hQ5
  have ne6 : tt ≠ b_5 := Nat.ne_of_lt (Nat.lt_of_lt_of_le P0.lt B5_0)
  have ne7 : a ≠ b_5 := Nat.ne_of_lt (Nat.lt_of_lt_of_le P4.lt B5_0)
  have ge_b_5 : n0 ≤ b_5 := Nat.le_trans Z0 B5_0
  have sz_b_5 : h0.size ≤ b_5 := Nat.le_trans K0.1 B5_0
  have Z5 : n0 ≤ T5.heap.size := Nat.le_trans Z0 K5q.1
  have K5 : Keep h0 T5.heap [tt] := K0.trans K5q all0
  have N5 := Fr.app N0 N5q
  replace G := o_nxs (q := 39) (st := [(.ref b_5)]) G st5 rfl
  replace G := o_astore (q := 41) (l' := #[.val (.ref tt), .val (.ref a), .val (.int 0), .val (.int 4), .val .null, .val (.ref b_5)]) G X5.here hx (hb hby d3_39) rfl rfl rfl
  replace G := o_aloadN (q := 42) G X5.here hx (hb hby d3_41) rfl rfl rfl
  replace G := o_aload (q := 44) G X5.here hx (hb hby d3_42) rfl rfl rfl
  replace G := o_iloadN (q := 45) G X5.here hx (hb hby d3_44) rfl rfl
  obtain ⟨_, _, ⟨T8, L8, kk8, nn8⟩, -, X8, ⟨Lc8, hQ8, l8, y8, z8⟩, st8⟩ := Jvm.LawKit.callS X5 hx (y := (⟨o_n0, "coderFromArrayLen", "([BI)B"⟩ : MethodName)) hown (mvT hZ (o_w hw 54 rfl)) (mvT hZ (o_w hw 55 rfl)) (mvT hZ (o_w hw 30 rfl)) (mvT hZ (o_w hw 56 rfl)) (by decide) (backOf (W := 1) (rm12n4 l Z a0 hw [] b_5 kb_5 [(.int (nar .byte (ec0.toInt8.toInt32))), (.int (nar .byte (ec1.toInt8.toInt32))), (.int (nar .byte (ec2.toInt8.toInt32))), (.int (nar .byte (ec3.toInt8.toInt32)))] T5.heap n0 Z5 B5_1) hZ (o_w hw 56 rfl) (o_w hw 30 rfl) (by decide) (by decide)) (g := o_g G) rfl (by rw [hml]; rfl) (argsL := [(.ref b_5), (.int 4)]) (rest := [(.ref tt)]) (lenOf pd_2 rfl) rfl (by show 2 * 0 + _ ≤ _; exact Nat.le_of_eq rfl) (hb hby d3_45) (fun _ _ => ⟨rfl, rfl, (by decide : 1 + 0 ≤ _), (by decide : 4 + 0 ≤ _)⟩)
  dsimp only [Pt.U, Pt.locs, Pt.cells, Pt.slots] at X8 l8 y8 z8 st8 hQ8
  subst l8 y8 z8
  obtain ⟨rfl, N8q, e8⟩ := hQ8
  have N8 := Fr.app N5 N8q
  replace G := o_nxs (q := 48) (st := [(.int 0), (.ref tt)]) G st8 rfl
  have F9 := (P2.keep K5q)
  have F10 := (P1.keep K5q nin0)
  obtain ⟨T11, h11, X11, e11, W11, st11⟩ := putFN X8 hx hZ hown (o_w hw 26 rfl) Via.refl e8 F10 F9 (Or.inr ⟨(o_w hw 22 rfl), rfl, hnm⟩) (o_w hw 6 rfl) (ty := .byte) (v' := (.int 0)) (by decide) rfl (by first | rfl | decide) (g := o_g G) rfl rfl (hb hby d3_48)
  have N11 := Fr.snoc X11 N8 P3
  have Z11 : n0 ≤ h11.size := Nat.le_trans Z5 (Keep.of_wr W11).1
  have K11 : Keep h0 h11 [tt] := K5.wr W11 (Or.inl (List.mem_of_getElem? (i := 0) rfl))
  have F11 : Fld Z h11 tt o_n1 "coder" "B" (.int 0) := F10.same W11
  replace G := o_nxs (q := 51) (st := []) G st11 rfl
  replace G := o_aloadN (q := 52) G X11.here hx (hb hby d3_51) rfl rfl rfl
  replace G := o_aload (q := 54) G X11.here hx (hb hby d3_52) rfl rfl rfl
  have F12 := (F9.wr W11)
  have F13 := ((P0.keep K5q nin0).other W11 (Or.inr (slot_ne (Or.inr (o_w hw 21 rfl)) (Or.inr (o_w hw 22 rfl)) (by decide) (t := (.array .byte)) (t' := .byte) (by decide) (by decide))))
  obtain ⟨T14, h14, X14, e14, W14, st14⟩ := putF X11 hx hZ hown (host := "") (Or.inl (o_w hw 25 rfl)) Via.refl e11 F13 F12 (Or.inr ⟨(o_w hw 21 rfl), rfl, hnm⟩) (o_w hw 6 rfl) (ty := (.array .byte)) (by decide) rfl rfl (g := o_g G) rfl rfl (hb hby d3_54)
  have N14 := Fr.snoc X14 N11 P3
  have Z14 : n0 ≤ h14.size := Nat.le_trans Z11 (Keep.of_wr W14).1
  have K14 : Keep h0 h14 [tt] := K11.wr W14 (Or.inl (List.mem_of_getElem? (i := 0) rfl))
  have F14 : Fld Z h14 tt o_n1 "value" "[B" (.ref b_5) := F13.same W14
  replace G := o_nxs (q := 57) (st := []) G st14 rfl
  obtain ⟨fs, hr, hrun, hended, hW, hsame⟩ := X14.leave (v := none) (fun _ => rfl)
  refine ⟨_, _, G _ (X14.returnOut hx Bd.returns (hb hby d3_57) hr), hrun, hended, _, _, rfl, ?_, ⟨_, rfl⟩, hW, hsame.mono (by decide) (by decide)⟩
  have F15 := (F11.other W14 (Or.inr (slot_ne (Or.inr (o_w hw 22 rfl)) (Or.inr (o_w hw 21 rfl)) (by decide) (t := .byte) (t' := (.array .byte)) (by decide) (by decide))))
  have F16 := ((B5_1.other W11 (Ne.symm ne6)).other W14 (Ne.symm ne6))
  show Q3n4 Z tt a ks cw ec0 ec1 ec2 ec3 h0 n0 _ T14.heap _
  rw [e14]
  exact ⟨b_5, kb_5, rfl, N14, K14, F14, F15, sz_b_5, F16⟩
theorem ef_2n4 (m : MethodId) (x0 : Addr) (x1 : Addr) : entryFrame m #[(.ref x0), (.ref x1)] 2 = mkF m 0 #[.val (.ref x0), .val (.ref x1)] [] := by first | (simp [entryFrame, mkF, argsToLocals, Value.category]; done) | rfl
def Q2n4 (Z : State) (tt : Addr) (a : Addr) (ks : ClassId) (cw : Int32) (ec0 : Int32) (ec1 : Int32) (ec2 : Int32) (ec3 : Int32) (h0 : Heap) (n0 : Nat) (v : Option Value) (h : Heap) (L : List Loc) : Prop := ∃ (b : Addr) (kb : ClassId), v = none ∧ Fr n0 L ∧ Keep h0 h [tt] ∧ (Fld Z h tt o_n1 "value" "[B" (.ref b)) ∧ (Fld Z h tt o_n1 "coder" "B" (.int 0)) ∧ h0.size ≤ b ∧ (Arv Z h b kb .byte (4 : Int32) [(.int (nar .byte (ec0.toInt8.toInt32))), (.int (nar .byte (ec1.toInt8.toInt32))), (.int (nar .byte (ec2.toInt8.toInt32))), (.int (nar .byte (ec3.toInt8.toInt32)))] (.int 0))
set_option maxRecDepth 65536 in
set_option maxHeartbeats 40000000 in
theorem rm2n4 (l : Launch) (Z : State) (a0 : Array Value) (hw : ∀ d ∈ tables_1, d.before a0 Z = true) (ws : List Jvm.Cond) (tt : Addr) (a : Addr) (ks : ClassId) (cw : Int32) (ec0 : Int32) (ec1 : Int32) (ec2 : Int32) (ec3 : Int32) (h0 : Heap) (n0 : Nat) (Z0 : n0 ≤ h0.size) (P0 : Fld Z h0 tt o_n1 "value" "[B" .null) (P1 : Fld Z h0 tt o_n1 "coder" "B" (.int 0)) (P2 : Exa Z h0 tt o_n1) (P3 : n0 ≤ tt) (P4 : Arv Z h0 a ks .char (4 : Int32) [(.int ec0), (.int ec1), (.int ec2), (.int ec3)] (.int 0)) (P5 : Sta Z h0 o_n1 "COMPACT_STRINGS" "Z" (.int cw)) (hcw : ¬ cw = (0 : Int32)) (he0 : ¬ ((255 : Int32) < ec0)) (he1 : ¬ ((255 : Int32) < ec1)) (he2 : ¬ ((255 : Int32) < ec2)) (he3 : ¬ ((255 : Int32) < ec3)) :
    MetFree l (⟨o_n1, "<init>", "([C)V"⟩ : MethodName) (head1 (Jvm.Cond.code (⟨o_n1, "<init>", "([C)V"⟩ : MethodName) jdk_42_method_3_code 2 none :: ws) ({ frames := 3, cells := 1, slots := 4, locals := 52 } : Room)) (fun argz U => argz = #[(.ref tt), (.ref a)] ∧ Z.Warmed39 U.vm ∧ U.heap = h0) (fun _ _ _ _ _ => True) (fun _ U o U' => ∃ v L, o = .returned v ∧ Q2n4 Z tt a ks cw ec0 ec1 ec2 ec3 h0 n0 v U'.heap L ∧ FrameEnd U o U' L ({ frames := 3, cells := 1, slots := 4, locals := 52 } : Room).cells ({ frames := 3, cells := 1, slots := 4, locals := 52 } : Room).slots) := by
  refine MetFree.of_bodySF (plainFor_of_name pn_java_lang_String) hisR ?_
  intro p e s m args below meth c s₁ Bd hml0 hP hK
  obtain ⟨rfl, hZ, hh⟩ := hP
  have hx := Bd.exec
  have hby := Bd.bytes
  have hml : c.maxLocals = 2 := hml0
  have hown : s.vm.findClass o_n1 = some m.cls := findClass_of_methodNamed Bd.named
  have hnm := (name_of_methodNamed Bd.named Bd.method).1
  have X0 : Stand p l e ({ frames := 3, cells := 1, slots := 4, locals := 52 } : Room) s m #[(.ref tt), (.ref a)] below meth c s₁ [] 0 0 := Stand.of_body Bd
  have e0 : s₁.heap = h0 := by rw [← hh, Bd.state]; rfl
  have N0 := Fr.nil n0
  have K0 : Keep h0 h0 [tt] := Keep.refl _ _
  have G : Gets p e below (s₁.setTop (entryFrame m #[(.ref tt), (.ref a)] 2)) (s₁.setTop (mkF m 0 #[.val (.ref tt), .val (.ref a)] [])) := fun t k => castTop (ef_2n4 m tt a) k
  replace G := o_aloadN (q := 1) G X0.here hx (hb hby d2_0) rfl rfl rfl
  replace G := o_aloadN (q := 2) G X0.here hx (hb hby d2_1) rfl rfl rfl
  replace G := o_iconst (q := 3) G X0.here hx (hb hby d2_2) (v := (0 : Int32)) (by decide) rfl
  replace G := o_aloadN (q := 4) G X0.here hx (hb hby d2_3) rfl rfl rfl
  obtain ⟨c1, Ar1, -, S1, N1', -, -⟩ := id P4
  replace G : Gets p e below _ (s₁.setTop (mkF m 5 #[.val (.ref tt), .val (.ref a)] [(.int 4), (.int 0), (.ref a), (.ref tt)])) := fun t k => G t (X0.arraylength hx (by rw [e0]; exact Ar1.1) (State.isArrayOf_alike hZ.alike Ar1.2.1) (g := o_g G) rfl rfl (hb hby d2_4) t (by rw [len_of S1 N1']; exact k))
  replace G := o_aconst_null (q := 6) G X0.here hx (hb hby d2_5) rfl
  obtain ⟨_, _, ⟨T2, L2, kk2, nn2⟩, -, X2, ⟨Lc2, hQ2, l2, y2, z2⟩, st2⟩ := X0.specialBack hx (y := (⟨o_n1, "<init>", "([CIILjava/lang/Void;)V"⟩ : MethodName)) rfl hown (mvT hZ (o_w hw 12 rfl)) (mvT hZ (o_w hw 13 rfl)) (mvT hZ (o_w hw 15 rfl)) (by decide) (backOf (W := 0) (rm3n4 l Z a0 hw [] tt a ks cw ec0 ec1 ec2 ec3 h0 n0 Z0 P0 P1 P2 P3 P4 P5 hcw he0 he1 he2 he3) hZ (o_w hw 15 rfl) (o_w hw 7 rfl) (by decide) (by decide)) (g := o_g G) rfl (by rw [hml]; rfl) (Steps.refl _) (a := tt) (argsL := [(.ref a), (.int 0), (.int 4), .null]) (rest := []) (lenOf pd_3 rfl) rfl (by show 2 * 0 + _ ≤ _; exact Nat.le_of_eq rfl) (hb hby d2_6) (fun _ _ => ⟨rfl, e0, (by decide : 0 + 1 ≤ _), (by decide : 0 + 4 ≤ _)⟩)
  dsimp only [Pt.U, Pt.locs, Pt.cells, Pt.slots] at X2 l2 y2 z2 st2 hQ2
  subst l2 y2 z2
  obtain ⟨b_2, kb_2, rfl, N2q, K2q, B2_0, B2_1, B2_2, B2_3⟩ := hQ2
  have ne3 : tt ≠ b_2 := Nat.ne_of_lt (Nat.lt_of_lt_of_le P0.lt B2_2)
  have ne4 : a ≠ b_2 := Nat.ne_of_lt (Nat.lt_of_lt_of_le P4.lt B2_2)
  have ge_b_2 : n0 ≤ b_2 := Nat.le_trans Z0 B2_2
  have sz_b_2 : h0.size ≤ b_2 := Nat.le_trans K0.1 B2_2
  have Z2 : n0 ≤ T2.heap.size := Nat.le_trans Z0 K2q.1
  have K2 : Keep h0 T2.heap [tt] := K0.trans K2q (allS (Or.inl (List.mem_of_getElem? (i := 0) rfl)) all0)
  have N2 := Fr.app N0 N2q
  replace G := o_nxv (q := 9) (st := []) G st2 rfl
  obtain ⟨fs, hr, hrun, hended, hW, hsame⟩ := X2.leave (v := none) (fun _ => rfl)
  refine ⟨_, _, G _ (X2.returnOut hx Bd.returns (hb hby d2_9) hr), hrun, hended, _, _, rfl, ?_, ⟨_, rfl⟩, hW, hsame.mono (by decide) (by decide)⟩
  show Q2n4 Z tt a ks cw ec0 ec1 ec2 ec3 h0 n0 _ T2.heap _
  exact ⟨b_2, kb_2, rfl, N2, K2, B2_0, B2_1, sz_b_2, B2_3⟩
theorem ef_9c3 (m : MethodId)  : entryFrame m #[(.int 4)] 1 = mkF m 0 #[.val (.int 4)] [] := by first | (simp [entryFrame, mkF, argsToLocals, Value.category]; done) | rfl
def Q9c3 (Z : State)  (h0 : Heap) (n0 : Nat) (v : Option Value) (h : Heap) (L : List Loc) : Prop := v = some (.int 8) ∧ Fr n0 L ∧ h = h0
set_option maxRecDepth 65536 in
set_option maxHeartbeats 40000000 in
theorem rm9c3 (l : Launch) (Z : State) (a0 : Array Value) (hw : ∀ d ∈ tables_1, d.before a0 Z = true) (ws : List Jvm.Cond)  (h0 : Heap) (n0 : Nat) (Z0 : n0 ≤ h0.size)  :
    MetFree l (⟨o_n0, "newBytesLength", "(I)I"⟩ : MethodName) (head1 (Jvm.Cond.code (⟨o_n0, "newBytesLength", "(I)I"⟩ : MethodName) jdk_52_method_3_code 1 (some .int) :: ws) ({ frames := 0, cells := 0, slots := 0, locals := 0 } : Room)) (fun argz U => argz = #[(.int 4)] ∧ Z.Warmed39 U.vm ∧ U.heap = h0) (fun _ _ _ _ _ => True) (fun _ U o U' => ∃ v L, o = .returned v ∧ Q9c3 Z  h0 n0 v U'.heap L ∧ FrameEnd U o U' L ({ frames := 0, cells := 0, slots := 0, locals := 0 } : Room).cells ({ frames := 0, cells := 0, slots := 0, locals := 0 } : Room).slots) := by
  refine MetFree.of_bodySF (plainFor_of_name pn_java_lang_StringUTF16) hisR ?_
  intro p e s m args below meth c s₁ Bd hml0 hP hK
  obtain ⟨rfl, hZ, hh⟩ := hP
  have hx := Bd.exec
  have hby := Bd.bytes
  have hml : c.maxLocals = 1 := hml0
  have hown : s.vm.findClass o_n0 = some m.cls := findClass_of_methodNamed Bd.named
  have hnm := (name_of_methodNamed Bd.named Bd.method).1
  have X0 : Stand p l e ({ frames := 0, cells := 0, slots := 0, locals := 0 } : Room) s m #[(.int 4)] below meth c s₁ [] 0 0 := Stand.of_body Bd
  have e0 : s₁.heap = h0 := by rw [← hh, Bd.state]; rfl
  have N0 := Fr.nil n0
  have G : Gets p e below (s₁.setTop (entryFrame m #[(.int 4)] 1)) (s₁.setTop (mkF m 0 #[.val (.int 4)] [])) := fun t k => castTop (ef_9c3 m ) k
  replace G := o_iloadN (q := 1) G X0.here hx (hb hby d9_0) rfl rfl
  replace G := o_ifYes (q := 12) G X0.here hx (hb hby d9_1) (by decide) (by decide) (by decide)
  replace G := o_iloadN (q := 13) G X0.here hx (hb hby d9_12) rfl rfl
  replace G := o_nxs (q := 15) (st := [(.int 1073741823), (.int 4)]) G (X0.ldcInt hx hown (mvT hZ (o_w hw 44 rfl)) (g := o_g G) rfl (hb hby d9_13)) rfl
  replace G := o_icmpYes (q := 55) G X0.here hx (hb hby d9_15) (by decide) (by decide) (by decide)
  replace G := o_iloadN (q := 56) G X0.here hx (hb hby d9_55) rfl rfl
  replace G := o_iconst (q := 57) G X0.here hx (hb hby d9_56) (v := (1 : Int32)) (by decide) rfl
  replace G := o_ishl (q := 58) G X0.here hx (hb hby d9_57) (by decide : ((4 : Int32) <<< ((1 : Int32) &&& 31)) = (8 : Int32)) rfl
  obtain ⟨fs, hr, hrun, hended, hW, hsame⟩ := X0.leave (v := some (.int 8)) (fun h => by rw [Bd.returns] at h; cases h)
  refine ⟨_, _, G _ (retOut X0 hx Bd.returns rfl (Or.inl ⟨rfl, Or.inl rfl, _, rfl⟩) (hb hby d9_58) hr), hrun, hended, _, _, rfl, ?_, ⟨_, rfl⟩, hW, hsame.mono (by decide) (by decide)⟩
  show Q9c3 Z  h0 n0 _ s₁.heap _
  rw [e0]
  exact ⟨rfl, N0, rfl⟩
theorem ef_8u4 (m : MethodId)  : entryFrame m #[(.int 4)] 1 = mkF m 0 #[.val (.int 4)] [] := by first | (simp [entryFrame, mkF, argsToLocals, Value.category]; done) | rfl
def Q8u4 (Z : State)  (h0 : Heap) (n0 : Nat) (v : Option Value) (h : Heap) (L : List Loc) : Prop := ∃ (b : Addr) (kb : ClassId), v = some (.ref b) ∧ Fr n0 L ∧ Keep h0 h [] ∧ h0.size ≤ b ∧ (Arv Z h b kb .byte (8 : Int32) [(.int 0), (.int 0), (.int 0), (.int 0), (.int 0), (.int 0), (.int 0), (.int 0)] (.int 0))
set_option maxRecDepth 65536 in
set_option maxHeartbeats 40000000 in
theorem rm8u4 (l : Launch) (Z : State) (a0 : Array Value) (hw : ∀ d ∈ tables_1, d.before a0 Z = true) (ws : List Jvm.Cond)  (h0 : Heap) (n0 : Nat) (Z0 : n0 ≤ h0.size)  :
    MetFree l (⟨o_n0, "newBytesFor", "(I)[B"⟩ : MethodName) (head1 (Jvm.Cond.code (⟨o_n0, "newBytesFor", "(I)[B"⟩ : MethodName) jdk_52_method_2_code 1 (some (.array .byte)) :: ws) ({ frames := 1, cells := 1, slots := 8, locals := 12 } : Room)) (fun argz U => argz = #[(.int 4)] ∧ Z.Warmed39 U.vm ∧ U.heap = h0) (fun _ _ _ _ _ => True) (fun _ U o U' => ∃ v L, o = .returned v ∧ Q8u4 Z  h0 n0 v U'.heap L ∧ FrameEnd U o U' L ({ frames := 1, cells := 1, slots := 8, locals := 12 } : Room).cells ({ frames := 1, cells := 1, slots := 8, locals := 12 } : Room).slots) := by
  refine MetFree.of_bodySF (plainFor_of_name pn_java_lang_StringUTF16) hisR ?_
  intro p e s m args below meth c s₁ Bd hml0 hP hK
  obtain ⟨rfl, hZ, hh⟩ := hP
  have hx := Bd.exec
  have hby := Bd.bytes
  have hml : c.maxLocals = 1 := hml0
  have hown : s.vm.findClass o_n0 = some m.cls := findClass_of_methodNamed Bd.named
  have hnm := (name_of_methodNamed Bd.named Bd.method).1
  have X0 : Stand p l e ({ frames := 1, cells := 1, slots := 8, locals := 12 } : Room) s m #[(.int 4)] below meth c s₁ [] 0 0 := Stand.of_body Bd
  have e0 : s₁.heap = h0 := by rw [← hh, Bd.state]; rfl
  have N0 := Fr.nil n0
  have K0 : Keep h0 h0 [] := Keep.refl _ _
  have G : Gets p e below (s₁.setTop (entryFrame m #[(.int 4)] 1)) (s₁.setTop (mkF m 0 #[.val (.int 4)] [])) := fun t k => castTop (ef_8u4 m ) k
  replace G := o_iloadN (q := 1) G X0.here hx (hb hby d8_0) rfl rfl
  obtain ⟨_, _, ⟨T1, L1, kk1, nn1⟩, -, X1, ⟨Lc1, hQ1, l1, y1, z1⟩, st1⟩ := Jvm.LawKit.callS X0 hx (y := (⟨o_n0, "newBytesLength", "(I)I"⟩ : MethodName)) hown (mvT hZ (o_w hw 41 rfl)) (mvT hZ (o_w hw 42 rfl)) (mvT hZ (o_w hw 30 rfl)) (mvT hZ (o_w hw 43 rfl)) (by decide) (backOf (W := 0) (rm9c3 l Z a0 hw []  h0 n0 Z0 ) hZ (o_w hw 43 rfl) (o_w hw 30 rfl) (by decide) (by decide)) (g := o_g G) rfl (by rw [hml]; rfl) (argsL := [(.int 4)]) (rest := []) (lenOf pd_4 rfl) rfl (by show 2 * 0 + _ ≤ _; exact Nat.le_of_eq rfl) (hb hby d8_1) (fun _ _ => ⟨rfl, e0, (by decide : 0 + 0 ≤ _), (by decide : 0 + 0 ≤ _)⟩)
  dsimp only [Pt.U, Pt.locs, Pt.cells, Pt.slots] at X1 l1 y1 z1 st1 hQ1
  subst l1 y1 z1
  obtain ⟨rfl, N1q, e1⟩ := hQ1
  have N1 := Fr.app N0 N1q
  replace G := o_nxs (q := 4) (st := [(.int 8)]) G st1 rfl
  obtain ⟨T2, h2, k2, X2, e2, E2, A2, st2⟩ := newP X1 hx hZ (o_w hw 20 rfl) e1 (g := o_g G) rfl (hb hby d8_4) rfl (by decide) (cap := 8) (by decide) (by decide) (by decide) (by decide)
  obtain ⟨b2, g2⟩ : ∃ z, z = h0.size := ⟨_, rfl⟩
  rw [← g2] at A2 st2
  have ge_b2 : n0 ≤ b2 := Nat.le_trans Z0 (Nat.le_of_eq g2.symm)
  have sz_b2 : h0.size ≤ b2 := Nat.le_trans K0.1 (Nat.le_of_eq g2.symm)
  have Z2 : n0 ≤ h2.size := Nat.le_trans Z0 E2.1
  have K2 : Keep h0 h2 [] := K0.ext E2
  have V2 : Arv Z h2 b2 k2 .byte (8 : Int32) [(.int 0), (.int 0), (.int 0), (.int 0), (.int 0), (.int 0), (.int 0), (.int 0)] (.int 0) := (Arv.new A2 (by decide)).pad (pad_rep [] (.int 0) 8)
  replace G := o_nxs (q := 6) (st := [(.ref b2)]) G st2 rfl
  obtain ⟨fs, hr, hrun, hended, hW, hsame⟩ := X2.leave (v := some (.ref b2)) (fun h => by rw [Bd.returns] at h; cases h)
  refine ⟨_, _, G _ (retOut X2 hx Bd.returns rfl (Or.inr (Or.inr (Or.inr (Or.inr ⟨rfl, rfl, rfl⟩)))) (hb hby d8_6) hr), hrun, hended, _, _, rfl, ?_, ⟨_, rfl⟩, hW, hsame.mono (by decide) (by decide)⟩
  show Q8u4 Z  h0 n0 _ T2.heap _
  rw [e2]
  exact ⟨b2, k2, rfl, N1, K2, sz_b2, V2⟩
theorem ef_10u4p0 (m : MethodId) (x0 : Addr) (x2 : Int32) : entryFrame m #[(.ref x0), (.int 0), (.int x2)] 3 = mkF m 0 #[.val (.ref x0), .val (.int 0), .val (.int x2)] [] := by first | (simp [entryFrame, mkF, argsToLocals, Value.category]; done) | rfl
def Q10u4p0 (Z : State) (d : Addr) (ch : Int32) (kd : ClassId) (h0 : Heap) (n0 : Nat) (v : Option Value) (h : Heap) (L : List Loc) : Prop := v = none ∧ Fr n0 L ∧ Keep h0 h [d] ∧ (Arv Z h d kd .byte (8 : Int32) [(.int (nar .byte ((ch >>> ((0 : Int32) &&& 31)).toInt8.toInt32))), (.int (nar .byte ((ch >>> ((8 : Int32) &&& 31)).toInt8.toInt32))), (.int 0), (.int 0), (.int 0), (.int 0), (.int 0), (.int 0)] (.int 0))
set_option maxRecDepth 65536 in
set_option maxHeartbeats 40000000 in
theorem rm10u4p0 (l : Launch) (Z : State) (a0 : Array Value) (hw : ∀ d ∈ tables_1, d.before a0 Z = true) (ws : List Jvm.Cond) (d : Addr) (ch : Int32) (kd : ClassId) (h0 : Heap) (n0 : Nat) (Z0 : n0 ≤ h0.size) (P0 : Old Z n0 h0) (P1 : Sta Z Z.heap o_n0 "$assertionsDisabled" "Z" (.int 1)) (P2 : Sta Z Z.heap o_n0 "HI_BYTE_SHIFT" "I" (.int 0)) (P3 : Sta Z Z.heap o_n0 "LO_BYTE_SHIFT" "I" (.int 8)) (P4 : Arv Z h0 d kd .byte (8 : Int32) [(.int 0), (.int 0), (.int 0), (.int 0), (.int 0), (.int 0), (.int 0), (.int 0)] (.int 0)) (P5 : n0 ≤ d) :
    MetFree l (⟨o_n0, "putChar", "([BII)V"⟩ : MethodName) (head1 (Jvm.Cond.code (⟨o_n0, "putChar", "([BII)V"⟩ : MethodName) jdk_52_method_4_code 3 none :: ws) ({ frames := 0, cells := 0, slots := 0, locals := 0 } : Room)) (fun argz U => argz = #[(.ref d), (.int 0), (.int ch)] ∧ Z.Warmed39 U.vm ∧ U.heap = h0) (fun _ _ _ _ _ => True) (fun _ U o U' => ∃ v L, o = .returned v ∧ Q10u4p0 Z d ch kd h0 n0 v U'.heap L ∧ FrameEnd U o U' L ({ frames := 0, cells := 0, slots := 0, locals := 0 } : Room).cells ({ frames := 0, cells := 0, slots := 0, locals := 0 } : Room).slots) := by
  refine MetFree.of_bodySF (plainFor_of_name pn_java_lang_StringUTF16) hisR ?_
  intro p e s m args below meth c s₁ Bd hml0 hP hK
  obtain ⟨rfl, hZ, hh⟩ := hP
  have hx := Bd.exec
  have hby := Bd.bytes
  have hml : c.maxLocals = 3 := hml0
  have hown : s.vm.findClass o_n0 = some m.cls := findClass_of_methodNamed Bd.named
  have hnm := (name_of_methodNamed Bd.named Bd.method).1
  have X0 : Stand p l e ({ frames := 0, cells := 0, slots := 0, locals := 0 } : Room) s m #[(.ref d), (.int 0), (.int ch)] below meth c s₁ [] 0 0 := Stand.of_body Bd
  have e0 : s₁.heap = h0 := by rw [← hh, Bd.state]; rfl
  have N0 := Fr.nil n0
  have K0 : Keep h0 h0 [d] := Keep.refl _ _
  have G : Gets p e below (s₁.setTop (entryFrame m #[(.ref d), (.int 0), (.int ch)] 3)) (s₁.setTop (mkF m 0 #[.val (.ref d), .val (.int 0), .val (.int ch)] [])) := fun t k => castTop (ef_10u4p0 m d ch) k
  have F1 : Sta Z h0 o_n0 "$assertionsDisabled" "Z" (.int 1) := P1.ext P0.2
  obtain ⟨T2, X2, e2, st2⟩ := getS2 X0 hx hZ hown (host := "") (Or.inl (o_w hw 48 rfl)) Via.refl e0 F1 (g := o_g G) rfl (hb hby d10_0)
  replace G := o_nxs (q := 3) (st := [(.int 1)]) G st2 rfl
  replace G := o_ifYes (q := 28) G X2.here hx (hb hby d10_3) (by decide) (by decide) (by decide)
  replace G := o_iloadN (q := 29) G X2.here hx (hb hby d10_28) rfl rfl
  replace G := o_iconst (q := 30) G X2.here hx (hb hby d10_29) (v := (1 : Int32)) (by decide) rfl
  replace G := o_ishl (q := 31) G X2.here hx (hb hby d10_30) (by decide : ((0 : Int32) <<< ((1 : Int32) &&& 31)) = (0 : Int32)) rfl
  replace G := o_istoreN (q := 32) (l' := #[.val (.ref d), .val (.int 0), .val (.int ch)]) G X2.here hx (hb hby d10_31) rfl rfl
  replace G := o_aloadN (q := 33) G X2.here hx (hb hby d10_32) rfl rfl rfl
  replace G := o_iloadN (q := 34) G X2.here hx (hb hby d10_33) rfl rfl
  replace G := o_iinc (q := 37) (l' := #[.val (.ref d), .val (.int 1), .val (.int ch)]) (w := (1 : Int32)) G X2.here hx (hb hby d10_34) (by decide) rfl (by decide : ((0 : Int32) + (1 : Int32)) = (1 : Int32)) rfl rfl
  replace G := o_iloadN (q := 38) G X2.here hx (hb hby d10_37) rfl rfl
  have F4 : Sta Z h0 o_n0 "HI_BYTE_SHIFT" "I" (.int 0) := P2.ext P0.2
  obtain ⟨T5, X5, e5, st5⟩ := getS2 X2 hx hZ hown (host := "") (Or.inl (o_w hw 49 rfl)) Via.refl e2 F4 (g := o_g G) rfl (hb hby d10_38)
  replace G := o_nxs (q := 41) (st := [(.int 0), (.int ch), (.int 0), (.ref d)]) G st5 rfl
  replace G := o_ishr (q := 42) G X5.here hx (hb hby d10_41) rfl rfl
  replace G := o_i2b (q := 43) G X5.here hx (hb hby d10_42) rfl rfl
  obtain ⟨c6, Ar6, q6, S6, N6', H6, G6'⟩ := id P4
  have hin6 : ¬ ((0 : Int32) < 0 ∨ c6.slots.size ≤ ((0 : Int32)).toNatClampNeg) := inb_of S6 ⟨by decide, by decide⟩
  obtain ⟨T6, h6, X6, e6, W6, st6⟩ := stB X5 hx hZ e5 Ar6 (j := (0 : Int32)) hin6 (g := o_g G) rfl rfl (hb hby d10_43)
  have N6 := Fr.snoc X6 N0 P5
  have Z6 : n0 ≤ h6.size := Nat.le_trans Z0 (Keep.of_wr W6).1
  have K6 : Keep h0 h6 [d] := K0.wr W6 (Or.inl (List.mem_of_getElem? (i := 0) rfl))
  have V6 : Arv Z h6 d kd .byte (8 : Int32) [(.int (nar .byte ((ch >>> ((0 : Int32) &&& 31)).toInt8.toInt32))), (.int 0), (.int 0), (.int 0), (.int 0), (.int 0), (.int 0), (.int 0)] (.int 0) := Arv.set Ar6 q6 S6 N6' H6 G6' (fits_nar_byte _) W6 0 rfl (Nat.le_of_ble_eq_true rfl)
  replace G := o_nxs (q := 44) (st := []) G st6 rfl
  replace G := o_aloadN (q := 45) G X6.here hx (hb hby d10_44) rfl rfl rfl
  replace G := o_iloadN (q := 46) G X6.here hx (hb hby d10_45) rfl rfl
  replace G := o_iloadN (q := 47) G X6.here hx (hb hby d10_46) rfl rfl
  have F7 := (P0.wr W6 P5)
  have F8 : Sta Z h6 o_n0 "LO_BYTE_SHIFT" "I" (.int 8) := P3.ext F7.2
  obtain ⟨T9, X9, e9, st9⟩ := getS2 X6 hx hZ hown (host := "") (Or.inl (o_w hw 50 rfl)) Via.refl e6 F8 (g := o_g G) rfl (hb hby d10_47)
  replace G := o_nxs (q := 50) (st := [(.int 8), (.int ch), (.int 1), (.ref d)]) G st9 rfl
  replace G := o_ishr (q := 51) G X9.here hx (hb hby d10_50) rfl rfl
  replace G := o_i2b (q := 52) G X9.here hx (hb hby d10_51) rfl rfl
  obtain ⟨c10, Ar10, q10, S10, N10', H10, G10'⟩ := id V6
  have hin10 : ¬ ((1 : Int32) < 0 ∨ c10.slots.size ≤ ((1 : Int32)).toNatClampNeg) := inb_of S10 ⟨by decide, by decide⟩
  obtain ⟨T10, h10, X10, e10, W10, st10⟩ := stB X9 hx hZ e9 Ar10 (j := (1 : Int32)) hin10 (g := o_g G) rfl rfl (hb hby d10_52)
  have N10 := Fr.snoc X10 N6 P5
  have Z10 : n0 ≤ h10.size := Nat.le_trans Z6 (Keep.of_wr W10).1
  have K10 : Keep h0 h10 [d] := K6.wr W10 (Or.inl (List.mem_of_getElem? (i := 0) rfl))
  have V10 : Arv Z h10 d kd .byte (8 : Int32) [(.int (nar .byte ((ch >>> ((0 : Int32) &&& 31)).toInt8.toInt32))), (.int (nar .byte ((ch >>> ((8 : Int32) &&& 31)).toInt8.toInt32))), (.int 0), (.int 0), (.int 0), (.int 0), (.int 0), (.int 0)] (.int 0) := Arv.set Ar10 q10 S10 N10' H10 G10' (fits_nar_byte _) W10 1 rfl (Nat.le_of_ble_eq_true rfl)
  replace G := o_nxs (q := 53) (st := []) G st10 rfl
  obtain ⟨fs, hr, hrun, hended, hW, hsame⟩ := X10.leave (v := none) (fun _ => rfl)
  refine ⟨_, _, G _ (X10.returnOut hx Bd.returns (hb hby d10_53) hr), hrun, hended, _, _, rfl, ?_, ⟨_, rfl⟩, hW, hsame.mono (by decide) (by decide)⟩
  show Q10u4p0 Z d ch kd h0 n0 _ T10.heap _
  rw [e10]
  exact ⟨rfl, N10, K10, V10⟩
theorem ef_10u4p1 (m : MethodId) (x0 : Addr) (x2 : Int32) : entryFrame m #[(.ref x0), (.int 1), (.int x2)] 3 = mkF m 0 #[.val (.ref x0), .val (.int 1), .val (.int x2)] [] := by first | (simp [entryFrame, mkF, argsToLocals, Value.category]; done) | rfl
def Q10u4p1 (Z : State) (d : Addr) (ch : Int32) (kd : ClassId) (y0_ : Int32) (y1_ : Int32) (h0 : Heap) (n0 : Nat) (v : Option Value) (h : Heap) (L : List Loc) : Prop := v = none ∧ Fr n0 L ∧ Keep h0 h [d] ∧ (Arv Z h d kd .byte (8 : Int32) [(.int y0_), (.int y1_), (.int (nar .byte ((ch >>> ((0 : Int32) &&& 31)).toInt8.toInt32))), (.int (nar .byte ((ch >>> ((8 : Int32) &&& 31)).toInt8.toInt32))), (.int 0), (.int 0), (.int 0), (.int 0)] (.int 0))
set_option maxRecDepth 65536 in
set_option maxHeartbeats 40000000 in
theorem rm10u4p1 (l : Launch) (Z : State) (a0 : Array Value) (hw : ∀ d ∈ tables_1, d.before a0 Z = true) (ws : List Jvm.Cond) (d : Addr) (ch : Int32) (kd : ClassId) (y0_ : Int32) (y1_ : Int32) (h0 : Heap) (n0 : Nat) (Z0 : n0 ≤ h0.size) (P0 : Old Z n0 h0) (P1 : Sta Z Z.heap o_n0 "$assertionsDisabled" "Z" (.int 1)) (P2 : Sta Z Z.heap o_n0 "HI_BYTE_SHIFT" "I" (.int 0)) (P3 : Sta Z Z.heap o_n0 "LO_BYTE_SHIFT" "I" (.int 8)) (P4 : Arv Z h0 d kd .byte (8 : Int32) [(.int y0_), (.int y1_), (.int 0), (.int 0), (.int 0), (.int 0), (.int 0), (.int 0)] (.int 0)) (P5 : n0 ≤ d) :
    MetFree l (⟨o_n0, "putChar", "([BII)V"⟩ : MethodName) (head1 (Jvm.Cond.code (⟨o_n0, "putChar", "([BII)V"⟩ : MethodName) jdk_52_method_4_code 3 none :: ws) ({ frames := 0, cells := 0, slots := 0, locals := 0 } : Room)) (fun argz U => argz = #[(.ref d), (.int 1), (.int ch)] ∧ Z.Warmed39 U.vm ∧ U.heap = h0) (fun _ _ _ _ _ => True) (fun _ U o U' => ∃ v L, o = .returned v ∧ Q10u4p1 Z d ch kd y0_ y1_ h0 n0 v U'.heap L ∧ FrameEnd U o U' L ({ frames := 0, cells := 0, slots := 0, locals := 0 } : Room).cells ({ frames := 0, cells := 0, slots := 0, locals := 0 } : Room).slots) := by
  refine MetFree.of_bodySF (plainFor_of_name pn_java_lang_StringUTF16) hisR ?_
  intro p e s m args below meth c s₁ Bd hml0 hP hK
  obtain ⟨rfl, hZ, hh⟩ := hP
  have hx := Bd.exec
  have hby := Bd.bytes
  have hml : c.maxLocals = 3 := hml0
  have hown : s.vm.findClass o_n0 = some m.cls := findClass_of_methodNamed Bd.named
  have hnm := (name_of_methodNamed Bd.named Bd.method).1
  have X0 : Stand p l e ({ frames := 0, cells := 0, slots := 0, locals := 0 } : Room) s m #[(.ref d), (.int 1), (.int ch)] below meth c s₁ [] 0 0 := Stand.of_body Bd
  have e0 : s₁.heap = h0 := by rw [← hh, Bd.state]; rfl
  have N0 := Fr.nil n0
  have K0 : Keep h0 h0 [d] := Keep.refl _ _
  have G : Gets p e below (s₁.setTop (entryFrame m #[(.ref d), (.int 1), (.int ch)] 3)) (s₁.setTop (mkF m 0 #[.val (.ref d), .val (.int 1), .val (.int ch)] [])) := fun t k => castTop (ef_10u4p1 m d ch) k
  have F1 : Sta Z h0 o_n0 "$assertionsDisabled" "Z" (.int 1) := P1.ext P0.2
  obtain ⟨T2, X2, e2, st2⟩ := getS2 X0 hx hZ hown (host := "") (Or.inl (o_w hw 48 rfl)) Via.refl e0 F1 (g := o_g G) rfl (hb hby d10_0)
  replace G := o_nxs (q := 3) (st := [(.int 1)]) G st2 rfl
  replace G := o_ifYes (q := 28) G X2.here hx (hb hby d10_3) (by decide) (by decide) (by decide)
  replace G := o_iloadN (q := 29) G X2.here hx (hb hby d10_28) rfl rfl
  replace G := o_iconst (q := 30) G X2.here hx (hb hby d10_29) (v := (1 : Int32)) (by decide) rfl
  replace G := o_ishl (q := 31) G X2.here hx (hb hby d10_30) (by decide : ((1 : Int32) <<< ((1 : Int32) &&& 31)) = (2 : Int32)) rfl
  replace G := o_istoreN (q := 32) (l' := #[.val (.ref d), .val (.int 2), .val (.int ch)]) G X2.here hx (hb hby d10_31) rfl rfl
  replace G := o_aloadN (q := 33) G X2.here hx (hb hby d10_32) rfl rfl rfl
  replace G := o_iloadN (q := 34) G X2.here hx (hb hby d10_33) rfl rfl
  replace G := o_iinc (q := 37) (l' := #[.val (.ref d), .val (.int 3), .val (.int ch)]) (w := (1 : Int32)) G X2.here hx (hb hby d10_34) (by decide) rfl (by decide : ((2 : Int32) + (1 : Int32)) = (3 : Int32)) rfl rfl
  replace G := o_iloadN (q := 38) G X2.here hx (hb hby d10_37) rfl rfl
  have F4 : Sta Z h0 o_n0 "HI_BYTE_SHIFT" "I" (.int 0) := P2.ext P0.2
  obtain ⟨T5, X5, e5, st5⟩ := getS2 X2 hx hZ hown (host := "") (Or.inl (o_w hw 49 rfl)) Via.refl e2 F4 (g := o_g G) rfl (hb hby d10_38)
  replace G := o_nxs (q := 41) (st := [(.int 0), (.int ch), (.int 2), (.ref d)]) G st5 rfl
  replace G := o_ishr (q := 42) G X5.here hx (hb hby d10_41) rfl rfl
  replace G := o_i2b (q := 43) G X5.here hx (hb hby d10_42) rfl rfl
  obtain ⟨c6, Ar6, q6, S6, N6', H6, G6'⟩ := id P4
  have hin6 : ¬ ((2 : Int32) < 0 ∨ c6.slots.size ≤ ((2 : Int32)).toNatClampNeg) := inb_of S6 ⟨by decide, by decide⟩
  obtain ⟨T6, h6, X6, e6, W6, st6⟩ := stB X5 hx hZ e5 Ar6 (j := (2 : Int32)) hin6 (g := o_g G) rfl rfl (hb hby d10_43)
  have N6 := Fr.snoc X6 N0 P5
  have Z6 : n0 ≤ h6.size := Nat.le_trans Z0 (Keep.of_wr W6).1
  have K6 : Keep h0 h6 [d] := K0.wr W6 (Or.inl (List.mem_of_getElem? (i := 0) rfl))
  have V6 : Arv Z h6 d kd .byte (8 : Int32) [(.int y0_), (.int y1_), (.int (nar .byte ((ch >>> ((0 : Int32) &&& 31)).toInt8.toInt32))), (.int 0), (.int 0), (.int 0), (.int 0), (.int 0)] (.int 0) := Arv.set Ar6 q6 S6 N6' H6 G6' (fits_nar_byte _) W6 2 rfl (Nat.le_of_ble_eq_true rfl)
  replace G := o_nxs (q := 44) (st := []) G st6 rfl
  replace G := o_aloadN (q := 45) G X6.here hx (hb hby d10_44) rfl rfl rfl
  replace G := o_iloadN (q := 46) G X6.here hx (hb hby d10_45) rfl rfl
  replace G := o_iloadN (q := 47) G X6.here hx (hb hby d10_46) rfl rfl
  have F7 := (P0.wr W6 P5)
  have F8 : Sta Z h6 o_n0 "LO_BYTE_SHIFT" "I" (.int 8) := P3.ext F7.2
  obtain ⟨T9, X9, e9, st9⟩ := getS2 X6 hx hZ hown (host := "") (Or.inl (o_w hw 50 rfl)) Via.refl e6 F8 (g := o_g G) rfl (hb hby d10_47)
  replace G := o_nxs (q := 50) (st := [(.int 8), (.int ch), (.int 3), (.ref d)]) G st9 rfl
  replace G := o_ishr (q := 51) G X9.here hx (hb hby d10_50) rfl rfl
  replace G := o_i2b (q := 52) G X9.here hx (hb hby d10_51) rfl rfl
  obtain ⟨c10, Ar10, q10, S10, N10', H10, G10'⟩ := id V6
  have hin10 : ¬ ((3 : Int32) < 0 ∨ c10.slots.size ≤ ((3 : Int32)).toNatClampNeg) := inb_of S10 ⟨by decide, by decide⟩
  obtain ⟨T10, h10, X10, e10, W10, st10⟩ := stB X9 hx hZ e9 Ar10 (j := (3 : Int32)) hin10 (g := o_g G) rfl rfl (hb hby d10_52)
  have N10 := Fr.snoc X10 N6 P5
  have Z10 : n0 ≤ h10.size := Nat.le_trans Z6 (Keep.of_wr W10).1
  have K10 : Keep h0 h10 [d] := K6.wr W10 (Or.inl (List.mem_of_getElem? (i := 0) rfl))
  have V10 : Arv Z h10 d kd .byte (8 : Int32) [(.int y0_), (.int y1_), (.int (nar .byte ((ch >>> ((0 : Int32) &&& 31)).toInt8.toInt32))), (.int (nar .byte ((ch >>> ((8 : Int32) &&& 31)).toInt8.toInt32))), (.int 0), (.int 0), (.int 0), (.int 0)] (.int 0) := Arv.set Ar10 q10 S10 N10' H10 G10' (fits_nar_byte _) W10 3 rfl (Nat.le_of_ble_eq_true rfl)
  replace G := o_nxs (q := 53) (st := []) G st10 rfl
  obtain ⟨fs, hr, hrun, hended, hW, hsame⟩ := X10.leave (v := none) (fun _ => rfl)
  refine ⟨_, _, G _ (X10.returnOut hx Bd.returns (hb hby d10_53) hr), hrun, hended, _, _, rfl, ?_, ⟨_, rfl⟩, hW, hsame.mono (by decide) (by decide)⟩
  show Q10u4p1 Z d ch kd y0_ y1_ h0 n0 _ T10.heap _
  rw [e10]
  exact ⟨rfl, N10, K10, V10⟩
theorem ef_10u4p2 (m : MethodId) (x0 : Addr) (x2 : Int32) : entryFrame m #[(.ref x0), (.int 2), (.int x2)] 3 = mkF m 0 #[.val (.ref x0), .val (.int 2), .val (.int x2)] [] := by first | (simp [entryFrame, mkF, argsToLocals, Value.category]; done) | rfl
def Q10u4p2 (Z : State) (d : Addr) (ch : Int32) (kd : ClassId) (y0_ : Int32) (y1_ : Int32) (y2_ : Int32) (y3_ : Int32) (h0 : Heap) (n0 : Nat) (v : Option Value) (h : Heap) (L : List Loc) : Prop := v = none ∧ Fr n0 L ∧ Keep h0 h [d] ∧ (Arv Z h d kd .byte (8 : Int32) [(.int y0_), (.int y1_), (.int y2_), (.int y3_), (.int (nar .byte ((ch >>> ((0 : Int32) &&& 31)).toInt8.toInt32))), (.int (nar .byte ((ch >>> ((8 : Int32) &&& 31)).toInt8.toInt32))), (.int 0), (.int 0)] (.int 0))
set_option maxRecDepth 65536 in
set_option maxHeartbeats 40000000 in
theorem rm10u4p2 (l : Launch) (Z : State) (a0 : Array Value) (hw : ∀ d ∈ tables_1, d.before a0 Z = true) (ws : List Jvm.Cond) (d : Addr) (ch : Int32) (kd : ClassId) (y0_ : Int32) (y1_ : Int32) (y2_ : Int32) (y3_ : Int32) (h0 : Heap) (n0 : Nat) (Z0 : n0 ≤ h0.size) (P0 : Old Z n0 h0) (P1 : Sta Z Z.heap o_n0 "$assertionsDisabled" "Z" (.int 1)) (P2 : Sta Z Z.heap o_n0 "HI_BYTE_SHIFT" "I" (.int 0)) (P3 : Sta Z Z.heap o_n0 "LO_BYTE_SHIFT" "I" (.int 8)) (P4 : Arv Z h0 d kd .byte (8 : Int32) [(.int y0_), (.int y1_), (.int y2_), (.int y3_), (.int 0), (.int 0), (.int 0), (.int 0)] (.int 0)) (P5 : n0 ≤ d) :
    MetFree l (⟨o_n0, "putChar", "([BII)V"⟩ : MethodName) (head1 (Jvm.Cond.code (⟨o_n0, "putChar", "([BII)V"⟩ : MethodName) jdk_52_method_4_code 3 none :: ws) ({ frames := 0, cells := 0, slots := 0, locals := 0 } : Room)) (fun argz U => argz = #[(.ref d), (.int 2), (.int ch)] ∧ Z.Warmed39 U.vm ∧ U.heap = h0) (fun _ _ _ _ _ => True) (fun _ U o U' => ∃ v L, o = .returned v ∧ Q10u4p2 Z d ch kd y0_ y1_ y2_ y3_ h0 n0 v U'.heap L ∧ FrameEnd U o U' L ({ frames := 0, cells := 0, slots := 0, locals := 0 } : Room).cells ({ frames := 0, cells := 0, slots := 0, locals := 0 } : Room).slots) := by
  refine MetFree.of_bodySF (plainFor_of_name pn_java_lang_StringUTF16) hisR ?_
  intro p e s m args below meth c s₁ Bd hml0 hP hK
  obtain ⟨rfl, hZ, hh⟩ := hP
  have hx := Bd.exec
  have hby := Bd.bytes
  have hml : c.maxLocals = 3 := hml0
  have hown : s.vm.findClass o_n0 = some m.cls := findClass_of_methodNamed Bd.named
  have hnm := (name_of_methodNamed Bd.named Bd.method).1
  have X0 : Stand p l e ({ frames := 0, cells := 0, slots := 0, locals := 0 } : Room) s m #[(.ref d), (.int 2), (.int ch)] below meth c s₁ [] 0 0 := Stand.of_body Bd
  have e0 : s₁.heap = h0 := by rw [← hh, Bd.state]; rfl
  have N0 := Fr.nil n0
  have K0 : Keep h0 h0 [d] := Keep.refl _ _
  have G : Gets p e below (s₁.setTop (entryFrame m #[(.ref d), (.int 2), (.int ch)] 3)) (s₁.setTop (mkF m 0 #[.val (.ref d), .val (.int 2), .val (.int ch)] [])) := fun t k => castTop (ef_10u4p2 m d ch) k
  have F1 : Sta Z h0 o_n0 "$assertionsDisabled" "Z" (.int 1) := P1.ext P0.2
  obtain ⟨T2, X2, e2, st2⟩ := getS2 X0 hx hZ hown (host := "") (Or.inl (o_w hw 48 rfl)) Via.refl e0 F1 (g := o_g G) rfl (hb hby d10_0)
  replace G := o_nxs (q := 3) (st := [(.int 1)]) G st2 rfl
  replace G := o_ifYes (q := 28) G X2.here hx (hb hby d10_3) (by decide) (by decide) (by decide)
  replace G := o_iloadN (q := 29) G X2.here hx (hb hby d10_28) rfl rfl
  replace G := o_iconst (q := 30) G X2.here hx (hb hby d10_29) (v := (1 : Int32)) (by decide) rfl
  replace G := o_ishl (q := 31) G X2.here hx (hb hby d10_30) (by decide : ((2 : Int32) <<< ((1 : Int32) &&& 31)) = (4 : Int32)) rfl
  replace G := o_istoreN (q := 32) (l' := #[.val (.ref d), .val (.int 4), .val (.int ch)]) G X2.here hx (hb hby d10_31) rfl rfl
  replace G := o_aloadN (q := 33) G X2.here hx (hb hby d10_32) rfl rfl rfl
  replace G := o_iloadN (q := 34) G X2.here hx (hb hby d10_33) rfl rfl
  replace G := o_iinc (q := 37) (l' := #[.val (.ref d), .val (.int 5), .val (.int ch)]) (w := (1 : Int32)) G X2.here hx (hb hby d10_34) (by decide) rfl (by decide : ((4 : Int32) + (1 : Int32)) = (5 : Int32)) rfl rfl
  replace G := o_iloadN (q := 38) G X2.here hx (hb hby d10_37) rfl rfl
  have F4 : Sta Z h0 o_n0 "HI_BYTE_SHIFT" "I" (.int 0) := P2.ext P0.2
  obtain ⟨T5, X5, e5, st5⟩ := getS2 X2 hx hZ hown (host := "") (Or.inl (o_w hw 49 rfl)) Via.refl e2 F4 (g := o_g G) rfl (hb hby d10_38)
  replace G := o_nxs (q := 41) (st := [(.int 0), (.int ch), (.int 4), (.ref d)]) G st5 rfl
  replace G := o_ishr (q := 42) G X5.here hx (hb hby d10_41) rfl rfl
  replace G := o_i2b (q := 43) G X5.here hx (hb hby d10_42) rfl rfl
  obtain ⟨c6, Ar6, q6, S6, N6', H6, G6'⟩ := id P4
  have hin6 : ¬ ((4 : Int32) < 0 ∨ c6.slots.size ≤ ((4 : Int32)).toNatClampNeg) := inb_of S6 ⟨by decide, by decide⟩
  obtain ⟨T6, h6, X6, e6, W6, st6⟩ := stB X5 hx hZ e5 Ar6 (j := (4 : Int32)) hin6 (g := o_g G) rfl rfl (hb hby d10_43)
  have N6 := Fr.snoc X6 N0 P5
  have Z6 : n0 ≤ h6.size := Nat.le_trans Z0 (Keep.of_wr W6).1
  have K6 : Keep h0 h6 [d] := K0.wr W6 (Or.inl (List.mem_of_getElem? (i := 0) rfl))
  have V6 : Arv Z h6 d kd .byte (8 : Int32) [(.int y0_), (.int y1_), (.int y2_), (.int y3_), (.int (nar .byte ((ch >>> ((0 : Int32) &&& 31)).toInt8.toInt32))), (.int 0), (.int 0), (.int 0)] (.int 0) := Arv.set Ar6 q6 S6 N6' H6 G6' (fits_nar_byte _) W6 4 rfl (Nat.le_of_ble_eq_true rfl)
  replace G := o_nxs (q := 44) (st := []) G st6 rfl
  replace G := o_aloadN (q := 45) G X6.here hx (hb hby d10_44) rfl rfl rfl
  replace G := o_iloadN (q := 46) G X6.here hx (hb hby d10_45) rfl rfl
  replace G := o_iloadN (q := 47) G X6.here hx (hb hby d10_46) rfl rfl
  have F7 := (P0.wr W6 P5)
  have F8 : Sta Z h6 o_n0 "LO_BYTE_SHIFT" "I" (.int 8) := P3.ext F7.2
  obtain ⟨T9, X9, e9, st9⟩ := getS2 X6 hx hZ hown (host := "") (Or.inl (o_w hw 50 rfl)) Via.refl e6 F8 (g := o_g G) rfl (hb hby d10_47)
  replace G := o_nxs (q := 50) (st := [(.int 8), (.int ch), (.int 5), (.ref d)]) G st9 rfl
  replace G := o_ishr (q := 51) G X9.here hx (hb hby d10_50) rfl rfl
  replace G := o_i2b (q := 52) G X9.here hx (hb hby d10_51) rfl rfl
  obtain ⟨c10, Ar10, q10, S10, N10', H10, G10'⟩ := id V6
  have hin10 : ¬ ((5 : Int32) < 0 ∨ c10.slots.size ≤ ((5 : Int32)).toNatClampNeg) := inb_of S10 ⟨by decide, by decide⟩
  obtain ⟨T10, h10, X10, e10, W10, st10⟩ := stB X9 hx hZ e9 Ar10 (j := (5 : Int32)) hin10 (g := o_g G) rfl rfl (hb hby d10_52)
  have N10 := Fr.snoc X10 N6 P5
  have Z10 : n0 ≤ h10.size := Nat.le_trans Z6 (Keep.of_wr W10).1
  have K10 : Keep h0 h10 [d] := K6.wr W10 (Or.inl (List.mem_of_getElem? (i := 0) rfl))
  have V10 : Arv Z h10 d kd .byte (8 : Int32) [(.int y0_), (.int y1_), (.int y2_), (.int y3_), (.int (nar .byte ((ch >>> ((0 : Int32) &&& 31)).toInt8.toInt32))), (.int (nar .byte ((ch >>> ((8 : Int32) &&& 31)).toInt8.toInt32))), (.int 0), (.int 0)] (.int 0) := Arv.set Ar10 q10 S10 N10' H10 G10' (fits_nar_byte _) W10 5 rfl (Nat.le_of_ble_eq_true rfl)
  replace G := o_nxs (q := 53) (st := []) G st10 rfl
  obtain ⟨fs, hr, hrun, hended, hW, hsame⟩ := X10.leave (v := none) (fun _ => rfl)
  refine ⟨_, _, G _ (X10.returnOut hx Bd.returns (hb hby d10_53) hr), hrun, hended, _, _, rfl, ?_, ⟨_, rfl⟩, hW, hsame.mono (by decide) (by decide)⟩
  show Q10u4p2 Z d ch kd y0_ y1_ y2_ y3_ h0 n0 _ T10.heap _
  rw [e10]
  exact ⟨rfl, N10, K10, V10⟩
theorem ef_10u4p3 (m : MethodId) (x0 : Addr) (x2 : Int32) : entryFrame m #[(.ref x0), (.int 3), (.int x2)] 3 = mkF m 0 #[.val (.ref x0), .val (.int 3), .val (.int x2)] [] := by first | (simp [entryFrame, mkF, argsToLocals, Value.category]; done) | rfl
def Q10u4p3 (Z : State) (d : Addr) (ch : Int32) (kd : ClassId) (y0_ : Int32) (y1_ : Int32) (y2_ : Int32) (y3_ : Int32) (y4_ : Int32) (y5_ : Int32) (h0 : Heap) (n0 : Nat) (v : Option Value) (h : Heap) (L : List Loc) : Prop := v = none ∧ Fr n0 L ∧ Keep h0 h [d] ∧ (Arv Z h d kd .byte (8 : Int32) [(.int y0_), (.int y1_), (.int y2_), (.int y3_), (.int y4_), (.int y5_), (.int (nar .byte ((ch >>> ((0 : Int32) &&& 31)).toInt8.toInt32))), (.int (nar .byte ((ch >>> ((8 : Int32) &&& 31)).toInt8.toInt32)))] (.int 0))
set_option maxRecDepth 65536 in
set_option maxHeartbeats 40000000 in
theorem rm10u4p3 (l : Launch) (Z : State) (a0 : Array Value) (hw : ∀ d ∈ tables_1, d.before a0 Z = true) (ws : List Jvm.Cond) (d : Addr) (ch : Int32) (kd : ClassId) (y0_ : Int32) (y1_ : Int32) (y2_ : Int32) (y3_ : Int32) (y4_ : Int32) (y5_ : Int32) (h0 : Heap) (n0 : Nat) (Z0 : n0 ≤ h0.size) (P0 : Old Z n0 h0) (P1 : Sta Z Z.heap o_n0 "$assertionsDisabled" "Z" (.int 1)) (P2 : Sta Z Z.heap o_n0 "HI_BYTE_SHIFT" "I" (.int 0)) (P3 : Sta Z Z.heap o_n0 "LO_BYTE_SHIFT" "I" (.int 8)) (P4 : Arv Z h0 d kd .byte (8 : Int32) [(.int y0_), (.int y1_), (.int y2_), (.int y3_), (.int y4_), (.int y5_), (.int 0), (.int 0)] (.int 0)) (P5 : n0 ≤ d) :
    MetFree l (⟨o_n0, "putChar", "([BII)V"⟩ : MethodName) (head1 (Jvm.Cond.code (⟨o_n0, "putChar", "([BII)V"⟩ : MethodName) jdk_52_method_4_code 3 none :: ws) ({ frames := 0, cells := 0, slots := 0, locals := 0 } : Room)) (fun argz U => argz = #[(.ref d), (.int 3), (.int ch)] ∧ Z.Warmed39 U.vm ∧ U.heap = h0) (fun _ _ _ _ _ => True) (fun _ U o U' => ∃ v L, o = .returned v ∧ Q10u4p3 Z d ch kd y0_ y1_ y2_ y3_ y4_ y5_ h0 n0 v U'.heap L ∧ FrameEnd U o U' L ({ frames := 0, cells := 0, slots := 0, locals := 0 } : Room).cells ({ frames := 0, cells := 0, slots := 0, locals := 0 } : Room).slots) := by
  refine MetFree.of_bodySF (plainFor_of_name pn_java_lang_StringUTF16) hisR ?_
  intro p e s m args below meth c s₁ Bd hml0 hP hK
  obtain ⟨rfl, hZ, hh⟩ := hP
  have hx := Bd.exec
  have hby := Bd.bytes
  have hml : c.maxLocals = 3 := hml0
  have hown : s.vm.findClass o_n0 = some m.cls := findClass_of_methodNamed Bd.named
  have hnm := (name_of_methodNamed Bd.named Bd.method).1
  have X0 : Stand p l e ({ frames := 0, cells := 0, slots := 0, locals := 0 } : Room) s m #[(.ref d), (.int 3), (.int ch)] below meth c s₁ [] 0 0 := Stand.of_body Bd
  have e0 : s₁.heap = h0 := by rw [← hh, Bd.state]; rfl
  have N0 := Fr.nil n0
  have K0 : Keep h0 h0 [d] := Keep.refl _ _
  have G : Gets p e below (s₁.setTop (entryFrame m #[(.ref d), (.int 3), (.int ch)] 3)) (s₁.setTop (mkF m 0 #[.val (.ref d), .val (.int 3), .val (.int ch)] [])) := fun t k => castTop (ef_10u4p3 m d ch) k
  have F1 : Sta Z h0 o_n0 "$assertionsDisabled" "Z" (.int 1) := P1.ext P0.2
  obtain ⟨T2, X2, e2, st2⟩ := getS2 X0 hx hZ hown (host := "") (Or.inl (o_w hw 48 rfl)) Via.refl e0 F1 (g := o_g G) rfl (hb hby d10_0)
  replace G := o_nxs (q := 3) (st := [(.int 1)]) G st2 rfl
  replace G := o_ifYes (q := 28) G X2.here hx (hb hby d10_3) (by decide) (by decide) (by decide)
  replace G := o_iloadN (q := 29) G X2.here hx (hb hby d10_28) rfl rfl
  replace G := o_iconst (q := 30) G X2.here hx (hb hby d10_29) (v := (1 : Int32)) (by decide) rfl
  replace G := o_ishl (q := 31) G X2.here hx (hb hby d10_30) (by decide : ((3 : Int32) <<< ((1 : Int32) &&& 31)) = (6 : Int32)) rfl
  replace G := o_istoreN (q := 32) (l' := #[.val (.ref d), .val (.int 6), .val (.int ch)]) G X2.here hx (hb hby d10_31) rfl rfl
  replace G := o_aloadN (q := 33) G X2.here hx (hb hby d10_32) rfl rfl rfl
  replace G := o_iloadN (q := 34) G X2.here hx (hb hby d10_33) rfl rfl
  replace G := o_iinc (q := 37) (l' := #[.val (.ref d), .val (.int 7), .val (.int ch)]) (w := (1 : Int32)) G X2.here hx (hb hby d10_34) (by decide) rfl (by decide : ((6 : Int32) + (1 : Int32)) = (7 : Int32)) rfl rfl
  replace G := o_iloadN (q := 38) G X2.here hx (hb hby d10_37) rfl rfl
  have F4 : Sta Z h0 o_n0 "HI_BYTE_SHIFT" "I" (.int 0) := P2.ext P0.2
  obtain ⟨T5, X5, e5, st5⟩ := getS2 X2 hx hZ hown (host := "") (Or.inl (o_w hw 49 rfl)) Via.refl e2 F4 (g := o_g G) rfl (hb hby d10_38)
  replace G := o_nxs (q := 41) (st := [(.int 0), (.int ch), (.int 6), (.ref d)]) G st5 rfl
  replace G := o_ishr (q := 42) G X5.here hx (hb hby d10_41) rfl rfl
  replace G := o_i2b (q := 43) G X5.here hx (hb hby d10_42) rfl rfl
  obtain ⟨c6, Ar6, q6, S6, N6', H6, G6'⟩ := id P4
  have hin6 : ¬ ((6 : Int32) < 0 ∨ c6.slots.size ≤ ((6 : Int32)).toNatClampNeg) := inb_of S6 ⟨by decide, by decide⟩
  obtain ⟨T6, h6, X6, e6, W6, st6⟩ := stB X5 hx hZ e5 Ar6 (j := (6 : Int32)) hin6 (g := o_g G) rfl rfl (hb hby d10_43)
  have N6 := Fr.snoc X6 N0 P5
  have Z6 : n0 ≤ h6.size := Nat.le_trans Z0 (Keep.of_wr W6).1
  have K6 : Keep h0 h6 [d] := K0.wr W6 (Or.inl (List.mem_of_getElem? (i := 0) rfl))
  have V6 : Arv Z h6 d kd .byte (8 : Int32) [(.int y0_), (.int y1_), (.int y2_), (.int y3_), (.int y4_), (.int y5_), (.int (nar .byte ((ch >>> ((0 : Int32) &&& 31)).toInt8.toInt32))), (.int 0)] (.int 0) := Arv.set Ar6 q6 S6 N6' H6 G6' (fits_nar_byte _) W6 6 rfl (Nat.le_of_ble_eq_true rfl)
  replace G := o_nxs (q := 44) (st := []) G st6 rfl
  replace G := o_aloadN (q := 45) G X6.here hx (hb hby d10_44) rfl rfl rfl
  replace G := o_iloadN (q := 46) G X6.here hx (hb hby d10_45) rfl rfl
  replace G := o_iloadN (q := 47) G X6.here hx (hb hby d10_46) rfl rfl
  have F7 := (P0.wr W6 P5)
  have F8 : Sta Z h6 o_n0 "LO_BYTE_SHIFT" "I" (.int 8) := P3.ext F7.2
  obtain ⟨T9, X9, e9, st9⟩ := getS2 X6 hx hZ hown (host := "") (Or.inl (o_w hw 50 rfl)) Via.refl e6 F8 (g := o_g G) rfl (hb hby d10_47)
  replace G := o_nxs (q := 50) (st := [(.int 8), (.int ch), (.int 7), (.ref d)]) G st9 rfl
  replace G := o_ishr (q := 51) G X9.here hx (hb hby d10_50) rfl rfl
  replace G := o_i2b (q := 52) G X9.here hx (hb hby d10_51) rfl rfl
  obtain ⟨c10, Ar10, q10, S10, N10', H10, G10'⟩ := id V6
  have hin10 : ¬ ((7 : Int32) < 0 ∨ c10.slots.size ≤ ((7 : Int32)).toNatClampNeg) := inb_of S10 ⟨by decide, by decide⟩
  obtain ⟨T10, h10, X10, e10, W10, st10⟩ := stB X9 hx hZ e9 Ar10 (j := (7 : Int32)) hin10 (g := o_g G) rfl rfl (hb hby d10_52)
  have N10 := Fr.snoc X10 N6 P5
  have Z10 : n0 ≤ h10.size := Nat.le_trans Z6 (Keep.of_wr W10).1
  have K10 : Keep h0 h10 [d] := K6.wr W10 (Or.inl (List.mem_of_getElem? (i := 0) rfl))
  have V10 : Arv Z h10 d kd .byte (8 : Int32) [(.int y0_), (.int y1_), (.int y2_), (.int y3_), (.int y4_), (.int y5_), (.int (nar .byte ((ch >>> ((0 : Int32) &&& 31)).toInt8.toInt32))), (.int (nar .byte ((ch >>> ((8 : Int32) &&& 31)).toInt8.toInt32)))] (.int 0) := Arv.set Ar10 q10 S10 N10' H10 G10' (fits_nar_byte _) W10 7 rfl (Nat.le_of_ble_eq_true rfl)
  replace G := o_nxs (q := 53) (st := []) G st10 rfl
  obtain ⟨fs, hr, hrun, hended, hW, hsame⟩ := X10.leave (v := none) (fun _ => rfl)
  refine ⟨_, _, G _ (X10.returnOut hx Bd.returns (hb hby d10_53) hr), hrun, hended, _, _, rfl, ?_, ⟨_, rfl⟩, hW, hsame.mono (by decide) (by decide)⟩
  show Q10u4p3 Z d ch kd y0_ y1_ y2_ y3_ y4_ y5_ h0 n0 _ T10.heap _
  rw [e10]
  exact ⟨rfl, N10, K10, V10⟩
theorem ef_7u4 (m : MethodId) (x0 : Addr) : entryFrame m #[(.ref x0), (.int 0), (.int 4)] 5 = mkF m 0 #[.val (.ref x0), .val (.int 0), .val (.int 4), .unset, .unset] [] := by first | (simp [entryFrame, mkF, argsToLocals, Value.category]; done) | rfl
def Q7u4 (Z : State) (a : Addr) (ks : ClassId) (ec0 : Int32) (ec1 : Int32) (ec2 : Int32) (ec3 : Int32) (h0 : Heap) (n0 : Nat) (v : Option Value) (h : Heap) (L : List Loc) : Prop := ∃ (b : Addr) (kb : ClassId), v = some (.ref b) ∧ Fr n0 L ∧ Keep h0 h [] ∧ h0.size ≤ b ∧ (Arv Z h b kb .byte (8 : Int32) [(.int (nar .byte ((ec0 >>> ((0 : Int32) &&& 31)).toInt8.toInt32))), (.int (nar .byte ((ec0 >>> ((8 : Int32) &&& 31)).toInt8.toInt32))), (.int (nar .byte ((ec1 >>> ((0 : Int32) &&& 31)).toInt8.toInt32))), (.int (nar .byte ((ec1 >>> ((8 : Int32) &&& 31)).toInt8.toInt32))), (.int (nar .byte ((ec2 >>> ((0 : Int32) &&& 31)).toInt8.toInt32))), (.int (nar .byte ((ec2 >>> ((8 : Int32) &&& 31)).toInt8.toInt32))), (.int (nar .byte ((ec3 >>> ((0 : Int32) &&& 31)).toInt8.toInt32))), (.int (nar .byte ((ec3 >>> ((8 : Int32) &&& 31)).toInt8.toInt32)))] (.int 0))
set_option maxRecDepth 65536 in
set_option maxHeartbeats 40000000 in
theorem rm7u4 (l : Launch) (Z : State) (a0 : Array Value) (hw : ∀ d ∈ tables_1, d.before a0 Z = true) (ws : List Jvm.Cond) (a : Addr) (ks : ClassId) (ec0 : Int32) (ec1 : Int32) (ec2 : Int32) (ec3 : Int32) (h0 : Heap) (n0 : Nat) (Z0 : n0 ≤ h0.size) (P0 : Old Z n0 h0) (P1 : Sta Z Z.heap o_n0 "$assertionsDisabled" "Z" (.int 1)) (P2 : Sta Z Z.heap o_n0 "HI_BYTE_SHIFT" "I" (.int 0)) (P3 : Sta Z Z.heap o_n0 "LO_BYTE_SHIFT" "I" (.int 8)) (P4 : Arv Z h0 a ks .char (4 : Int32) [(.int ec0), (.int ec1), (.int ec2), (.int ec3)] (.int 0)) :
    MetFree l (⟨o_n0, "toBytes", "([CII)[B"⟩ : MethodName) (head1 (Jvm.Cond.code (⟨o_n0, "toBytes", "([CII)[B"⟩ : MethodName) jdk_52_method_14_code 5 (some (.array .byte)) :: ws) ({ frames := 2, cells := 1, slots := 8, locals := 24 } : Room)) (fun argz U => argz = #[(.ref a), (.int 0), (.int 4)] ∧ Z.Warmed39 U.vm ∧ U.heap = h0) (fun _ _ _ _ _ => True) (fun _ U o U' => ∃ v L, o = .returned v ∧ Q7u4 Z a ks ec0 ec1 ec2 ec3 h0 n0 v U'.heap L ∧ FrameEnd U o U' L ({ frames := 2, cells := 1, slots := 8, locals := 24 } : Room).cells ({ frames := 2, cells := 1, slots := 8, locals := 24 } : Room).slots) := by
  refine MetFree.of_bodySF (plainFor_of_name pn_java_lang_StringUTF16) hisR ?_
  intro p e s m args below meth c s₁ Bd hml0 hP hK
  obtain ⟨rfl, hZ, hh⟩ := hP
  have hx := Bd.exec
  have hby := Bd.bytes
  have hml : c.maxLocals = 5 := hml0
  have hown : s.vm.findClass o_n0 = some m.cls := findClass_of_methodNamed Bd.named
  have hnm := (name_of_methodNamed Bd.named Bd.method).1
  have X0 : Stand p l e ({ frames := 2, cells := 1, slots := 8, locals := 24 } : Room) s m #[(.ref a), (.int 0), (.int 4)] below meth c s₁ [] 0 0 := Stand.of_body Bd
  have e0 : s₁.heap = h0 := by rw [← hh, Bd.state]; rfl
  have N0 := Fr.nil n0
  have K0 : Keep h0 h0 [] := Keep.refl _ _
  have G : Gets p e below (s₁.setTop (entryFrame m #[(.ref a), (.int 0), (.int 4)] 5)) (s₁.setTop (mkF m 0 #[.val (.ref a), .val (.int 0), .val (.int 4), .unset, .unset] [])) := fun t k => castTop (ef_7u4 m a) k
  replace G := o_iloadN (q := 1) G X0.here hx (hb hby d7_0) rfl rfl
  obtain ⟨_, _, ⟨T1, L1, kk1, nn1⟩, -, X1, ⟨Lc1, hQ1, l1, y1, z1⟩, st1⟩ := Jvm.LawKit.callS X0 hx (y := (⟨o_n0, "newBytesFor", "(I)[B"⟩ : MethodName)) hown (mvT hZ (o_w hw 38 rfl)) (mvT hZ (o_w hw 39 rfl)) (mvT hZ (o_w hw 30 rfl)) (mvT hZ (o_w hw 40 rfl)) (by decide) (backOf (W := 0) (rm8u4 l Z a0 hw []  h0 n0 Z0 ) hZ (o_w hw 40 rfl) (o_w hw 30 rfl) (by decide) (by decide)) (g := o_g G) rfl (by rw [hml]; rfl) (argsL := [(.int 4)]) (rest := []) (lenOf pd_5 rfl) rfl (by show 2 * 0 + _ ≤ _; exact Nat.le_of_eq rfl) (hb hby d7_1) (fun _ _ => ⟨rfl, e0, (by decide : 0 + 1 ≤ _), (by decide : 0 + 8 ≤ _)⟩)
  dsimp only [Pt.U, Pt.locs, Pt.cells, Pt.slots] at X1 l1 y1 z1 st1 hQ1
  subst l1 y1 z1
  obtain ⟨b_1, kb_1, rfl, N1q, K1q, B1_0, B1_1⟩ := hQ1
  have ne2 : a ≠ b_1 := Nat.ne_of_lt (Nat.lt_of_lt_of_le P4.lt B1_0)
  have ge_b_1 : n0 ≤ b_1 := Nat.le_trans Z0 B1_0
  have sz_b_1 : h0.size ≤ b_1 := Nat.le_trans K0.1 B1_0
  have Z1 : n0 ≤ T1.heap.size := Nat.le_trans Z0 K1q.1
  have K1 : Keep h0 T1.heap [] := K0.trans K1q all0
  have N1 := Fr.app N0 N1q
  replace G := o_nxs (q := 4) (st := [(.ref b_1)]) G st1 rfl
  replace G := o_astoreN (q := 5) (l' := #[.val (.ref a), .val (.int 0), .val (.int 4), .val (.ref b_1), .unset]) G X1.here hx (hb hby d7_4) rfl rfl rfl
  replace G := o_iconst (q := 6) G X1.here hx (hb hby d7_5) (v := (0 : Int32)) (by decide) rfl
  replace G := o_istore (q := 8) (l' := #[.val (.ref a), .val (.int 0), .val (.int 4), .val (.ref b_1), .val (.int 0)]) G X1.here hx (hb hby d7_6) rfl rfl
  replace G := o_iload (q := 10) G X1.here hx (hb hby d7_8) rfl rfl
  replace G := o_iloadN (q := 11) G X1.here hx (hb hby d7_10) rfl rfl
  replace G := o_icmpNo (q := 14) G X1.here hx (hb hby d7_11) (by decide) rfl
  replace G := o_aloadN (q := 15) G X1.here hx (hb hby d7_14) rfl rfl rfl
  replace G := o_iload (q := 17) G X1.here hx (hb hby d7_15) rfl rfl
  replace G := o_aloadN (q := 18) G X1.here hx (hb hby d7_17) rfl rfl rfl
  replace G := o_iloadN (q := 19) G X1.here hx (hb hby d7_18) rfl rfl
  have F4 := (P4.keep K1q nin0)
  obtain ⟨c5, Ar5, -, S5, -, H5, -⟩ := id F4
  have hin5 : ¬ ((0 : Int32) < 0 ∨ c5.slots.size ≤ ((0 : Int32)).toNatClampNeg) := inb_of S5 ⟨by decide, by decide⟩
  replace G := o_nxs (q := 20) (st := [(.int ec0), (.int 0), (.ref b_1)]) G (X1.caload hx (j := (0 : Int32)) (v := (.int ec0)) (by exact Ar5.1) (State.isArrayOf_alike hZ.alike Ar5.2.1) Ar5.2.2 hin5 (Has.at H5 hin5 rfl) (g := o_g G) rfl rfl (hb hby d7_19)) rfl
  have F7 := (P0.keep K1q all0)
  obtain ⟨_, _, ⟨T6, L6, kk6, nn6⟩, -, X6, ⟨Lc6, hQ6, l6, y6, z6⟩, st6⟩ := Jvm.LawKit.callS X1 hx (y := (⟨o_n0, "putChar", "([BII)V"⟩ : MethodName)) hown (mvT hZ (o_w hw 45 rfl)) (mvT hZ (o_w hw 46 rfl)) (mvT hZ (o_w hw 30 rfl)) (mvT hZ (o_w hw 47 rfl)) (by decide) (backOf (W := 0) (rm10u4p0 l Z a0 hw [] b_1 ec0 kb_1 T1.heap n0 Z1 F7 P1 P2 P3 B1_1 ge_b_1) hZ (o_w hw 47 rfl) (o_w hw 30 rfl) (by decide) (by decide)) (g := o_g G) rfl (by rw [hml]; rfl) (argsL := [(.ref b_1), (.int 0), (.int ec0)]) (rest := []) (lenOf pd_6 rfl) rfl (by show 2 * 0 + _ ≤ _; exact Nat.le_of_eq rfl) (hb hby d7_20) (fun _ _ => ⟨rfl, rfl, (by decide : 1 + 0 ≤ _), (by decide : 8 + 0 ≤ _)⟩)
  dsimp only [Pt.U, Pt.locs, Pt.cells, Pt.slots] at X6 l6 y6 z6 st6 hQ6
  subst l6 y6 z6
  obtain ⟨rfl, N6q, K6q, B6_0⟩ := hQ6
  have Z6 : n0 ≤ T6.heap.size := Nat.le_trans Z1 K6q.1
  have K6 : Keep h0 T6.heap [] := K1.trans K6q (allS (Or.inr sz_b_1) all0)
  have N6 := Fr.app N1 N6q
  replace G := o_nxs (q := 23) (st := []) G st6 rfl
  replace G := o_iinc (q := 26) (l' := #[.val (.ref a), .val (.int 1), .val (.int 4), .val (.ref b_1), .val (.int 0)]) (w := (1 : Int32)) G X6.here hx (hb hby d7_23) (by decide) rfl (by decide : ((0 : Int32) + (1 : Int32)) = (1 : Int32)) rfl rfl
  replace G := o_iinc (q := 29) (l' := #[.val (.ref a), .val (.int 1), .val (.int 4), .val (.ref b_1), .val (.int 1)]) (w := (1 : Int32)) G X6.here hx (hb hby d7_26) (by decide) rfl (by decide : ((0 : Int32) + (1 : Int32)) = (1 : Int32)) rfl rfl
  replace G := o_goto (q := 8) G X6.here hx (hb hby d7_29) (by decide) (by decide)
  replace G := o_iload (q := 10) G X6.here hx (hb hby d7_8) rfl rfl
  replace G := o_iloadN (q := 11) G X6.here hx (hb hby d7_10) rfl rfl
  replace G := o_icmpNo (q := 14) G X6.here hx (hb hby d7_11) (by decide) rfl
  replace G := o_aloadN (q := 15) G X6.here hx (hb hby d7_14) rfl rfl rfl
  replace G := o_iload (q := 17) G X6.here hx (hb hby d7_15) rfl rfl
  replace G := o_aloadN (q := 18) G X6.here hx (hb hby d7_17) rfl rfl rfl
  replace G := o_iloadN (q := 19) G X6.here hx (hb hby d7_18) rfl rfl
  have F9 := (F4.keep K6q (ninS ne2 nin0))
  obtain ⟨c10, Ar10, -, S10, -, H10, -⟩ := id F9
  have hin10 : ¬ ((1 : Int32) < 0 ∨ c10.slots.size ≤ ((1 : Int32)).toNatClampNeg) := inb_of S10 ⟨by decide, by decide⟩
  replace G := o_nxs (q := 20) (st := [(.int ec1), (.int 1), (.ref b_1)]) G (X6.caload hx (j := (1 : Int32)) (v := (.int ec1)) (by exact Ar10.1) (State.isArrayOf_alike hZ.alike Ar10.2.1) Ar10.2.2 hin10 (Has.at H10 hin10 rfl) (g := o_g G) rfl rfl (hb hby d7_19)) rfl
  have F12 := (F7.keep K6q (allS ge_b_1 all0))
  obtain ⟨_, _, ⟨T11, L11, kk11, nn11⟩, -, X11, ⟨Lc11, hQ11, l11, y11, z11⟩, st11⟩ := Jvm.LawKit.callS X6 hx (y := (⟨o_n0, "putChar", "([BII)V"⟩ : MethodName)) hown (mvT hZ (o_w hw 45 rfl)) (mvT hZ (o_w hw 46 rfl)) (mvT hZ (o_w hw 30 rfl)) (mvT hZ (o_w hw 47 rfl)) (by decide) (backOf (W := 0) (rm10u4p1 l Z a0 hw [] b_1 ec1 kb_1 (nar .byte ((ec0 >>> ((0 : Int32) &&& 31)).toInt8.toInt32)) (nar .byte ((ec0 >>> ((8 : Int32) &&& 31)).toInt8.toInt32)) T6.heap n0 Z6 F12 P1 P2 P3 B6_0 ge_b_1) hZ (o_w hw 47 rfl) (o_w hw 30 rfl) (by decide) (by decide)) (g := o_g G) rfl (by rw [hml]; rfl) (argsL := [(.ref b_1), (.int 1), (.int ec1)]) (rest := []) (lenOf pd_6 rfl) rfl (by show 2 * 0 + _ ≤ _; exact Nat.le_of_eq rfl) (hb hby d7_20) (fun _ _ => ⟨rfl, rfl, (by decide : 1 + 0 ≤ _), (by decide : 8 + 0 ≤ _)⟩)
  dsimp only [Pt.U, Pt.locs, Pt.cells, Pt.slots] at X11 l11 y11 z11 st11 hQ11
  subst l11 y11 z11
  obtain ⟨rfl, N11q, K11q, B11_0⟩ := hQ11
  have Z11 : n0 ≤ T11.heap.size := Nat.le_trans Z6 K11q.1
  have K11 : Keep h0 T11.heap [] := K6.trans K11q (allS (Or.inr sz_b_1) all0)
  have N11 := Fr.app N6 N11q
  replace G := o_nxs (q := 23) (st := []) G st11 rfl
  replace G := o_iinc (q := 26) (l' := #[.val (.ref a), .val (.int 2), .val (.int 4), .val (.ref b_1), .val (.int 1)]) (w := (1 : Int32)) G X11.here hx (hb hby d7_23) (by decide) rfl (by decide : ((1 : Int32) + (1 : Int32)) = (2 : Int32)) rfl rfl
  replace G := o_iinc (q := 29) (l' := #[.val (.ref a), .val (.int 2), .val (.int 4), .val (.ref b_1), .val (.int 2)]) (w := (1 : Int32)) G X11.here hx (hb hby d7_26) (by decide) rfl (by decide : ((1 : Int32) + (1 : Int32)) = (2 : Int32)) rfl rfl
  replace G := o_goto (q := 8) G X11.here hx (hb hby d7_29) (by decide) (by decide)
  replace G := o_iload (q := 10) G X11.here hx (hb hby d7_8) rfl rfl
  replace G := o_iloadN (q := 11) G X11.here hx (hb hby d7_10) rfl rfl
  replace G := o_icmpNo (q := 14) G X11.here hx (hb hby d7_11) (by decide) rfl
  replace G := o_aloadN (q := 15) G X11.here hx (hb hby d7_14) rfl rfl rfl
  replace G := o_iload (q := 17) G X11.here hx (hb hby d7_15) rfl rfl
  replace G := o_aloadN (q := 18) G X11.here hx (hb hby d7_17) rfl rfl rfl
  replace G := o_iloadN (q := 19) G X11.here hx (hb hby d7_18) rfl rfl
  have F14 := (F9.keep K11q (ninS ne2 nin0))
  obtain ⟨c15, Ar15, -, S15, -, H15, -⟩ := id F14
  have hin15 : ¬ ((2 : Int32) < 0 ∨ c15.slots.size ≤ ((2 : Int32)).toNatClampNeg) := inb_of S15 ⟨by decide, by decide⟩
  replace G := o_nxs (q := 20) (st := [(.int ec2), (.int 2), (.ref b_1)]) G (X11.caload hx (j := (2 : Int32)) (v := (.int ec2)) (by exact Ar15.1) (State.isArrayOf_alike hZ.alike Ar15.2.1) Ar15.2.2 hin15 (Has.at H15 hin15 rfl) (g := o_g G) rfl rfl (hb hby d7_19)) rfl
  have F17 := (F12.keep K11q (allS ge_b_1 all0))
  obtain ⟨_, _, ⟨T16, L16, kk16, nn16⟩, -, X16, ⟨Lc16, hQ16, l16, y16, z16⟩, st16⟩ := Jvm.LawKit.callS X11 hx (y := (⟨o_n0, "putChar", "([BII)V"⟩ : MethodName)) hown (mvT hZ (o_w hw 45 rfl)) (mvT hZ (o_w hw 46 rfl)) (mvT hZ (o_w hw 30 rfl)) (mvT hZ (o_w hw 47 rfl)) (by decide) (backOf (W := 0) (rm10u4p2 l Z a0 hw [] b_1 ec2 kb_1 (nar .byte ((ec0 >>> ((0 : Int32) &&& 31)).toInt8.toInt32)) (nar .byte ((ec0 >>> ((8 : Int32) &&& 31)).toInt8.toInt32)) (nar .byte ((ec1 >>> ((0 : Int32) &&& 31)).toInt8.toInt32)) (nar .byte ((ec1 >>> ((8 : Int32) &&& 31)).toInt8.toInt32)) T11.heap n0 Z11 F17 P1 P2 P3 B11_0 ge_b_1) hZ (o_w hw 47 rfl) (o_w hw 30 rfl) (by decide) (by decide)) (g := o_g G) rfl (by rw [hml]; rfl) (argsL := [(.ref b_1), (.int 2), (.int ec2)]) (rest := []) (lenOf pd_6 rfl) rfl (by show 2 * 0 + _ ≤ _; exact Nat.le_of_eq rfl) (hb hby d7_20) (fun _ _ => ⟨rfl, rfl, (by decide : 1 + 0 ≤ _), (by decide : 8 + 0 ≤ _)⟩)
  dsimp only [Pt.U, Pt.locs, Pt.cells, Pt.slots] at X16 l16 y16 z16 st16 hQ16
  subst l16 y16 z16
  obtain ⟨rfl, N16q, K16q, B16_0⟩ := hQ16
  have Z16 : n0 ≤ T16.heap.size := Nat.le_trans Z11 K16q.1
  have K16 : Keep h0 T16.heap [] := K11.trans K16q (allS (Or.inr sz_b_1) all0)
  have N16 := Fr.app N11 N16q
  replace G := o_nxs (q := 23) (st := []) G st16 rfl
  replace G := o_iinc (q := 26) (l' := #[.val (.ref a), .val (.int 3), .val (.int 4), .val (.ref b_1), .val (.int 2)]) (w := (1 : Int32)) G X16.here hx (hb hby d7_23) (by decide) rfl (by decide : ((2 : Int32) + (1 : Int32)) = (3 : Int32)) rfl rfl
  replace G := o_iinc (q := 29) (l' := #[.val (.ref a), .val (.int 3), .val (.int 4), .val (.ref b_1), .val (.int 3)]) (w := (1 : Int32)) G X16.here hx (hb hby d7_26) (by decide) rfl (by decide : ((2 : Int32) + (1 : Int32)) = (3 : Int32)) rfl rfl
  replace G := o_goto (q := 8) G X16.here hx (hb hby d7_29) (by decide) (by decide)
  replace G := o_iload (q := 10) G X16.here hx (hb hby d7_8) rfl rfl
  replace G := o_iloadN (q := 11) G X16.here hx (hb hby d7_10) rfl rfl
  replace G := o_icmpNo (q := 14) G X16.here hx (hb hby d7_11) (by decide) rfl
  replace G := o_aloadN (q := 15) G X16.here hx (hb hby d7_14) rfl rfl rfl
  replace G := o_iload (q := 17) G X16.here hx (hb hby d7_15) rfl rfl
  replace G := o_aloadN (q := 18) G X16.here hx (hb hby d7_17) rfl rfl rfl
  replace G := o_iloadN (q := 19) G X16.here hx (hb hby d7_18) rfl rfl
  have F19 := (F14.keep K16q (ninS ne2 nin0))
  obtain ⟨c20, Ar20, -, S20, -, H20, -⟩ := id F19
  have hin20 : ¬ ((3 : Int32) < 0 ∨ c20.slots.size ≤ ((3 : Int32)).toNatClampNeg) := inb_of S20 ⟨by decide, by decide⟩
  replace G := o_nxs (q := 20) (st := [(.int ec3), (.int 3), (.ref b_1)]) G (X16.caload hx (j := (3 : Int32)) (v := (.int ec3)) (by exact Ar20.1) (State.isArrayOf_alike hZ.alike Ar20.2.1) Ar20.2.2 hin20 (Has.at H20 hin20 rfl) (g := o_g G) rfl rfl (hb hby d7_19)) rfl
  have F22 := (F17.keep K16q (allS ge_b_1 all0))
  obtain ⟨_, _, ⟨T21, L21, kk21, nn21⟩, -, X21, ⟨Lc21, hQ21, l21, y21, z21⟩, st21⟩ := Jvm.LawKit.callS X16 hx (y := (⟨o_n0, "putChar", "([BII)V"⟩ : MethodName)) hown (mvT hZ (o_w hw 45 rfl)) (mvT hZ (o_w hw 46 rfl)) (mvT hZ (o_w hw 30 rfl)) (mvT hZ (o_w hw 47 rfl)) (by decide) (backOf (W := 0) (rm10u4p3 l Z a0 hw [] b_1 ec3 kb_1 (nar .byte ((ec0 >>> ((0 : Int32) &&& 31)).toInt8.toInt32)) (nar .byte ((ec0 >>> ((8 : Int32) &&& 31)).toInt8.toInt32)) (nar .byte ((ec1 >>> ((0 : Int32) &&& 31)).toInt8.toInt32)) (nar .byte ((ec1 >>> ((8 : Int32) &&& 31)).toInt8.toInt32)) (nar .byte ((ec2 >>> ((0 : Int32) &&& 31)).toInt8.toInt32)) (nar .byte ((ec2 >>> ((8 : Int32) &&& 31)).toInt8.toInt32)) T16.heap n0 Z16 F22 P1 P2 P3 B16_0 ge_b_1) hZ (o_w hw 47 rfl) (o_w hw 30 rfl) (by decide) (by decide)) (g := o_g G) rfl (by rw [hml]; rfl) (argsL := [(.ref b_1), (.int 3), (.int ec3)]) (rest := []) (lenOf pd_6 rfl) rfl (by show 2 * 0 + _ ≤ _; exact Nat.le_of_eq rfl) (hb hby d7_20) (fun _ _ => ⟨rfl, rfl, (by decide : 1 + 0 ≤ _), (by decide : 8 + 0 ≤ _)⟩)
  dsimp only [Pt.U, Pt.locs, Pt.cells, Pt.slots] at X21 l21 y21 z21 st21 hQ21
  subst l21 y21 z21
  obtain ⟨rfl, N21q, K21q, B21_0⟩ := hQ21
  have Z21 : n0 ≤ T21.heap.size := Nat.le_trans Z16 K21q.1
  have K21 : Keep h0 T21.heap [] := K16.trans K21q (allS (Or.inr sz_b_1) all0)
  have N21 := Fr.app N16 N21q
  replace G := o_nxs (q := 23) (st := []) G st21 rfl
  replace G := o_iinc (q := 26) (l' := #[.val (.ref a), .val (.int 4), .val (.int 4), .val (.ref b_1), .val (.int 3)]) (w := (1 : Int32)) G X21.here hx (hb hby d7_23) (by decide) rfl (by decide : ((3 : Int32) + (1 : Int32)) = (4 : Int32)) rfl rfl
  replace G := o_iinc (q := 29) (l' := #[.val (.ref a), .val (.int 4), .val (.int 4), .val (.ref b_1), .val (.int 4)]) (w := (1 : Int32)) G X21.here hx (hb hby d7_26) (by decide) rfl (by decide : ((3 : Int32) + (1 : Int32)) = (4 : Int32)) rfl rfl
  replace G := o_goto (q := 8) G X21.here hx (hb hby d7_29) (by decide) (by decide)
  replace G := o_iload (q := 10) G X21.here hx (hb hby d7_8) rfl rfl
  replace G := o_iloadN (q := 11) G X21.here hx (hb hby d7_10) rfl rfl
  replace G := o_icmpYes (q := 32) G X21.here hx (hb hby d7_11) (by decide) (by decide) (by decide)
  replace G := o_aloadN (q := 33) G X21.here hx (hb hby d7_32) rfl rfl rfl
  obtain ⟨fs, hr, hrun, hended, hW, hsame⟩ := X21.leave (v := some (.ref b_1)) (fun h => by rw [Bd.returns] at h; cases h)
  refine ⟨_, _, G _ (retOut X21 hx Bd.returns rfl (Or.inr (Or.inr (Or.inr (Or.inr ⟨rfl, rfl, rfl⟩)))) (hb hby d7_33) hr), hrun, hended, _, _, rfl, ?_, ⟨_, rfl⟩, hW, hsame.mono (by decide) (by decide)⟩
  show Q7u4 Z a ks ec0 ec1 ec2 ec3 h0 n0 _ T21.heap _
  exact ⟨b_1, kb_1, rfl, N21, K21, sz_b_1, B21_0⟩
theorem ef_12u4 (m : MethodId) (x0 : Addr) : entryFrame m #[(.ref x0), (.int 4)] 2 = mkF m 0 #[.val (.ref x0), .val (.int 4)] [] := by first | (simp [entryFrame, mkF, argsToLocals, Value.category]; done) | rfl
def Q12u4 (Z : State) (d : Addr) (kd : ClassId) (vs : List Value) (h0 : Heap) (n0 : Nat) (v : Option Value) (h : Heap) (L : List Loc) : Prop := v = some (.int 1) ∧ Fr n0 L ∧ h = h0
set_option maxRecDepth 65536 in
set_option maxHeartbeats 40000000 in
theorem rm12u4 (l : Launch) (Z : State) (a0 : Array Value) (hw : ∀ d ∈ tables_1, d.before a0 Z = true) (ws : List Jvm.Cond) (d : Addr) (kd : ClassId) (vs : List Value) (h0 : Heap) (n0 : Nat) (Z0 : n0 ≤ h0.size) (P0 : Arv Z h0 d kd .byte (8 : Int32) vs (.int 0)) :
    MetFree l (⟨o_n0, "coderFromArrayLen", "([BI)B"⟩ : MethodName) (head1 (Jvm.Cond.code (⟨o_n0, "coderFromArrayLen", "([BI)B"⟩ : MethodName) jdk_52_method_15_code 2 (some .byte) :: ws) ({ frames := 0, cells := 0, slots := 0, locals := 0 } : Room)) (fun argz U => argz = #[(.ref d), (.int 4)] ∧ Z.Warmed39 U.vm ∧ U.heap = h0) (fun _ _ _ _ _ => True) (fun _ U o U' => ∃ v L, o = .returned v ∧ Q12u4 Z d kd vs h0 n0 v U'.heap L ∧ FrameEnd U o U' L ({ frames := 0, cells := 0, slots := 0, locals := 0 } : Room).cells ({ frames := 0, cells := 0, slots := 0, locals := 0 } : Room).slots) := by
  refine MetFree.of_bodySF (plainFor_of_name pn_java_lang_StringUTF16) hisR ?_
  intro p e s m args below meth c s₁ Bd hml0 hP hK
  obtain ⟨rfl, hZ, hh⟩ := hP
  have hx := Bd.exec
  have hby := Bd.bytes
  have hml : c.maxLocals = 2 := hml0
  have hown : s.vm.findClass o_n0 = some m.cls := findClass_of_methodNamed Bd.named
  have hnm := (name_of_methodNamed Bd.named Bd.method).1
  have X0 : Stand p l e ({ frames := 0, cells := 0, slots := 0, locals := 0 } : Room) s m #[(.ref d), (.int 4)] below meth c s₁ [] 0 0 := Stand.of_body Bd
  have e0 : s₁.heap = h0 := by rw [← hh, Bd.state]; rfl
  have N0 := Fr.nil n0
  have G : Gets p e below (s₁.setTop (entryFrame m #[(.ref d), (.int 4)] 2)) (s₁.setTop (mkF m 0 #[.val (.ref d), .val (.int 4)] [])) := fun t k => castTop (ef_12u4 m d) k
  replace G := o_iloadN (q := 1) G X0.here hx (hb hby d12_0) rfl rfl
  replace G := o_aloadN (q := 2) G X0.here hx (hb hby d12_1) rfl rfl rfl
  obtain ⟨c1, Ar1, -, S1, N1', -, -⟩ := id P0
  replace G : Gets p e below _ (s₁.setTop (mkF m 3 #[.val (.ref d), .val (.int 4)] [(.int 8), (.int 4)])) := fun t k => G t (X0.arraylength hx (by rw [e0]; exact Ar1.1) (State.isArrayOf_alike hZ.alike Ar1.2.1) (g := o_g G) rfl rfl (hb hby d12_2) t (by rw [len_of S1 N1']; exact k))
  replace G := o_isub (q := 4) G X0.here hx (hb hby d12_3) (by decide : ((4 : Int32) - (8 : Int32)) = (-4 : Int32)) rfl
  replace G := o_bipush (q := 6) G X0.here hx (hb hby d12_4) (v := (31 : Int32)) (by decide) rfl
  replace G := o_iushr (q := 7) G X0.here hx (hb hby d12_6) (by decide : (((-4 : Int32).toUInt32 >>> ((31 : Int32) &&& 31).toUInt32).toInt32) = (1 : Int32)) rfl
  replace G := o_i2b (q := 8) G X0.here hx (hb hby d12_7) (by decide : ((1 : Int32).toInt8.toInt32) = (1 : Int32)) rfl
  obtain ⟨fs, hr, hrun, hended, hW, hsame⟩ := X0.leave (v := some (.int 1)) (fun h => by rw [Bd.returns] at h; cases h)
  refine ⟨_, _, G _ (retOut X0 hx Bd.returns rfl (Or.inl ⟨rfl, Or.inr (Or.inr (Or.inl rfl)), _, rfl⟩) (hb hby d12_8) hr), hrun, hended, _, _, rfl, ?_, ⟨_, rfl⟩, hW, hsame.mono (by decide) (by decide)⟩
  show Q12u4 Z d kd vs h0 n0 _ s₁.heap _
  rw [e0]
  exact ⟨rfl, N0, rfl⟩
theorem ef_6u4j0 (m : MethodId) (x0 : Addr) (x2 : Addr) : entryFrame m #[(.ref x0), (.int 0), (.ref x2), (.int 0), (.int 4)] 7 = mkF m 0 #[.val (.ref x0), .val (.int 0), .val (.ref x2), .val (.int 0), .val (.int 4), .unset, .unset] [] := by first | (simp [entryFrame, mkF, argsToLocals, Value.category]; done) | rfl
def Q6u4j0 (Z : State) (a : Addr) (d : Addr) (ks : ClassId) (kd : ClassId) (ec0 : Int32) (ec1 : Int32) (ec2 : Int32) (ec3 : Int32) (h0 : Heap) (n0 : Nat) (v : Option Value) (h : Heap) (L : List Loc) : Prop := v = some (.int 0) ∧ Fr n0 L ∧ Keep h0 h [d] ∧ (Arv Z h d kd .byte (4 : Int32) [(.int 0), (.int 0), (.int 0), (.int 0)] (.int 0))
set_option maxRecDepth 65536 in
set_option maxHeartbeats 40000000 in
theorem rm6u4j0 (l : Launch) (Z : State) (a0 : Array Value) (hw : ∀ d ∈ tables_1, d.before a0 Z = true) (ws : List Jvm.Cond) (a : Addr) (d : Addr) (ks : ClassId) (kd : ClassId) (ec0 : Int32) (ec1 : Int32) (ec2 : Int32) (ec3 : Int32) (h0 : Heap) (n0 : Nat) (Z0 : n0 ≤ h0.size) (P0 : Arv Z h0 a ks .char (4 : Int32) [(.int ec0), (.int ec1), (.int ec2), (.int ec3)] (.int 0)) (P1 : Arv Z h0 d kd .byte (4 : Int32) [(.int 0), (.int 0), (.int 0), (.int 0)] (.int 0)) (P2 : n0 ≤ d) (P3 : a ≠ d) (hg : (255 : Int32) < ec0) :
    MetFree l (⟨o_n0, "compress", "([CI[BII)I"⟩ : MethodName) (head1 (Jvm.Cond.code (⟨o_n0, "compress", "([CI[BII)I"⟩ : MethodName) jdk_52_method_21_code 7 (some .int) :: ws) ({ frames := 0, cells := 0, slots := 0, locals := 0 } : Room)) (fun argz U => argz = #[(.ref a), (.int 0), (.ref d), (.int 0), (.int 4)] ∧ Z.Warmed39 U.vm ∧ U.heap = h0) (fun _ _ _ _ _ => True) (fun _ U o U' => ∃ v L, o = .returned v ∧ Q6u4j0 Z a d ks kd ec0 ec1 ec2 ec3 h0 n0 v U'.heap L ∧ FrameEnd U o U' L ({ frames := 0, cells := 0, slots := 0, locals := 0 } : Room).cells ({ frames := 0, cells := 0, slots := 0, locals := 0 } : Room).slots) := by
  refine MetFree.of_bodySF (plainFor_of_name pn_java_lang_StringUTF16) hisR ?_
  intro p e s m args below meth c s₁ Bd hml0 hP hK
  obtain ⟨rfl, hZ, hh⟩ := hP
  have hx := Bd.exec
  have hby := Bd.bytes
  have hml : c.maxLocals = 7 := hml0
  have hown : s.vm.findClass o_n0 = some m.cls := findClass_of_methodNamed Bd.named
  have hnm := (name_of_methodNamed Bd.named Bd.method).1
  have X0 : Stand p l e ({ frames := 0, cells := 0, slots := 0, locals := 0 } : Room) s m #[(.ref a), (.int 0), (.ref d), (.int 0), (.int 4)] below meth c s₁ [] 0 0 := Stand.of_body Bd
  have e0 : s₁.heap = h0 := by rw [← hh, Bd.state]; rfl
  have N0 := Fr.nil n0
  have K0 : Keep h0 h0 [d] := Keep.refl _ _
  have G : Gets p e below (s₁.setTop (entryFrame m #[(.ref a), (.int 0), (.ref d), (.int 0), (.int 4)] 7)) (s₁.setTop (mkF m 0 #[.val (.ref a), .val (.int 0), .val (.ref d), .val (.int 0), .val (.int 4), .unset, .unset] [])) := fun t k => castTop (ef_6u4j0 m a d) k
  replace G := o_iconst (q := 1) G X0.here hx (hb hby d6_0) (v := (0 : Int32)) (by decide) rfl
  replace G := o_istore (q := 3) (l' := #[.val (.ref a), .val (.int 0), .val (.ref d), .val (.int 0), .val (.int 4), .val (.int 0), .unset]) G X0.here hx (hb hby d6_1) rfl rfl
  replace G := o_iload (q := 5) G X0.here hx (hb hby d6_3) rfl rfl
  replace G := o_iload (q := 7) G X0.here hx (hb hby d6_5) rfl rfl
  replace G := o_icmpNo (q := 10) G X0.here hx (hb hby d6_7) (by decide) rfl
  replace G := o_aloadN (q := 11) G X0.here hx (hb hby d6_10) rfl rfl rfl
  replace G := o_iloadN (q := 12) G X0.here hx (hb hby d6_11) rfl rfl
  obtain ⟨c2, Ar2, -, S2, -, H2, -⟩ := id P0
  have hin2 : ¬ ((0 : Int32) < 0 ∨ c2.slots.size ≤ ((0 : Int32)).toNatClampNeg) := inb_of S2 ⟨by decide, by decide⟩
  replace G := o_nxs (q := 13) (st := [(.int ec0)]) G (X0.caload hx (j := (0 : Int32)) (v := (.int ec0)) (by rw [e0]; exact Ar2.1) (State.isArrayOf_alike hZ.alike Ar2.2.1) Ar2.2.2 hin2 (Has.at H2 hin2 rfl) (g := o_g G) rfl rfl (hb hby d6_12)) rfl
  replace G := o_istore (q := 15) (l' := #[.val (.ref a), .val (.int 0), .val (.ref d), .val (.int 0), .val (.int 4), .val (.int 0), .val (.int ec0)]) G X0.here hx (hb hby d6_13) rfl rfl
  replace G := o_iload (q := 17) G X0.here hx (hb hby d6_15) rfl rfl
  replace G := o_sipush (q := 20) G X0.here hx (hb hby d6_17) (v := (255 : Int32)) (by decide) rfl
  have hc20_3 : (255 : Int32) < ec0 := hg
  replace G := o_icmpNo (q := 23) G X0.here hx (hb hby d6_20) (tlt hc20_3).2.2.2 rfl
  replace G := o_iload (q := 25) G X0.here hx (hb hby d6_23) rfl rfl
  obtain ⟨fs, hr, hrun, hended, hW, hsame⟩ := X0.leave (v := some (.int 0)) (fun h => by rw [Bd.returns] at h; cases h)
  refine ⟨_, _, G _ (retOut X0 hx Bd.returns rfl (Or.inl ⟨rfl, Or.inl rfl, _, rfl⟩) (hb hby d6_25) hr), hrun, hended, _, _, rfl, ?_, ⟨_, rfl⟩, hW, hsame.mono (by decide) (by decide)⟩
  show Q6u4j0 Z a d ks kd ec0 ec1 ec2 ec3 h0 n0 _ s₁.heap _
  rw [e0]
  exact ⟨rfl, N0, K0, P1⟩
theorem ef_6u4j1 (m : MethodId) (x0 : Addr) (x2 : Addr) : entryFrame m #[(.ref x0), (.int 0), (.ref x2), (.int 0), (.int 4)] 7 = mkF m 0 #[.val (.ref x0), .val (.int 0), .val (.ref x2), .val (.int 0), .val (.int 4), .unset, .unset] [] := by first | (simp [entryFrame, mkF, argsToLocals, Value.category]; done) | rfl
def Q6u4j1 (Z : State) (a : Addr) (d : Addr) (ks : ClassId) (kd : ClassId) (ec0 : Int32) (ec1 : Int32) (ec2 : Int32) (ec3 : Int32) (h0 : Heap) (n0 : Nat) (v : Option Value) (h : Heap) (L : List Loc) : Prop := v = some (.int 1) ∧ Fr n0 L ∧ Keep h0 h [d] ∧ (Arv Z h d kd .byte (4 : Int32) [(.int (nar .byte (ec0.toInt8.toInt32))), (.int 0), (.int 0), (.int 0)] (.int 0))
set_option maxRecDepth 65536 in
set_option maxHeartbeats 40000000 in
theorem rm6u4j1 (l : Launch) (Z : State) (a0 : Array Value) (hw : ∀ d ∈ tables_1, d.before a0 Z = true) (ws : List Jvm.Cond) (a : Addr) (d : Addr) (ks : ClassId) (kd : ClassId) (ec0 : Int32) (ec1 : Int32) (ec2 : Int32) (ec3 : Int32) (h0 : Heap) (n0 : Nat) (Z0 : n0 ≤ h0.size) (P0 : Arv Z h0 a ks .char (4 : Int32) [(.int ec0), (.int ec1), (.int ec2), (.int ec3)] (.int 0)) (P1 : Arv Z h0 d kd .byte (4 : Int32) [(.int 0), (.int 0), (.int 0), (.int 0)] (.int 0)) (P2 : n0 ≤ d) (P3 : a ≠ d) (he0 : ¬ ((255 : Int32) < ec0)) (hg : (255 : Int32) < ec1) :
    MetFree l (⟨o_n0, "compress", "([CI[BII)I"⟩ : MethodName) (head1 (Jvm.Cond.code (⟨o_n0, "compress", "([CI[BII)I"⟩ : MethodName) jdk_52_method_21_code 7 (some .int) :: ws) ({ frames := 0, cells := 0, slots := 0, locals := 0 } : Room)) (fun argz U => argz = #[(.ref a), (.int 0), (.ref d), (.int 0), (.int 4)] ∧ Z.Warmed39 U.vm ∧ U.heap = h0) (fun _ _ _ _ _ => True) (fun _ U o U' => ∃ v L, o = .returned v ∧ Q6u4j1 Z a d ks kd ec0 ec1 ec2 ec3 h0 n0 v U'.heap L ∧ FrameEnd U o U' L ({ frames := 0, cells := 0, slots := 0, locals := 0 } : Room).cells ({ frames := 0, cells := 0, slots := 0, locals := 0 } : Room).slots) := by
  refine MetFree.of_bodySF (plainFor_of_name pn_java_lang_StringUTF16) hisR ?_
  intro p e s m args below meth c s₁ Bd hml0 hP hK
  obtain ⟨rfl, hZ, hh⟩ := hP
  have hx := Bd.exec
  have hby := Bd.bytes
  have hml : c.maxLocals = 7 := hml0
  have hown : s.vm.findClass o_n0 = some m.cls := findClass_of_methodNamed Bd.named
  have hnm := (name_of_methodNamed Bd.named Bd.method).1
  have X0 : Stand p l e ({ frames := 0, cells := 0, slots := 0, locals := 0 } : Room) s m #[(.ref a), (.int 0), (.ref d), (.int 0), (.int 4)] below meth c s₁ [] 0 0 := Stand.of_body Bd
  have e0 : s₁.heap = h0 := by rw [← hh, Bd.state]; rfl
  have N0 := Fr.nil n0
  have K0 : Keep h0 h0 [d] := Keep.refl _ _
  have G : Gets p e below (s₁.setTop (entryFrame m #[(.ref a), (.int 0), (.ref d), (.int 0), (.int 4)] 7)) (s₁.setTop (mkF m 0 #[.val (.ref a), .val (.int 0), .val (.ref d), .val (.int 0), .val (.int 4), .unset, .unset] [])) := fun t k => castTop (ef_6u4j1 m a d) k
  replace G := o_iconst (q := 1) G X0.here hx (hb hby d6_0) (v := (0 : Int32)) (by decide) rfl
  replace G := o_istore (q := 3) (l' := #[.val (.ref a), .val (.int 0), .val (.ref d), .val (.int 0), .val (.int 4), .val (.int 0), .unset]) G X0.here hx (hb hby d6_1) rfl rfl
  replace G := o_iload (q := 5) G X0.here hx (hb hby d6_3) rfl rfl
  replace G := o_iload (q := 7) G X0.here hx (hb hby d6_5) rfl rfl
  replace G := o_icmpNo (q := 10) G X0.here hx (hb hby d6_7) (by decide) rfl
  replace G := o_aloadN (q := 11) G X0.here hx (hb hby d6_10) rfl rfl rfl
  replace G := o_iloadN (q := 12) G X0.here hx (hb hby d6_11) rfl rfl
  obtain ⟨c2, Ar2, -, S2, -, H2, -⟩ := id P0
  have hin2 : ¬ ((0 : Int32) < 0 ∨ c2.slots.size ≤ ((0 : Int32)).toNatClampNeg) := inb_of S2 ⟨by decide, by decide⟩
  replace G := o_nxs (q := 13) (st := [(.int ec0)]) G (X0.caload hx (j := (0 : Int32)) (v := (.int ec0)) (by rw [e0]; exact Ar2.1) (State.isArrayOf_alike hZ.alike Ar2.2.1) Ar2.2.2 hin2 (Has.at H2 hin2 rfl) (g := o_g G) rfl rfl (hb hby d6_12)) rfl
  replace G := o_istore (q := 15) (l' := #[.val (.ref a), .val (.int 0), .val (.ref d), .val (.int 0), .val (.int 4), .val (.int 0), .val (.int ec0)]) G X0.here hx (hb hby d6_13) rfl rfl
  replace G := o_iload (q := 17) G X0.here hx (hb hby d6_15) rfl rfl
  replace G := o_sipush (q := 20) G X0.here hx (hb hby d6_17) (v := (255 : Int32)) (by decide) rfl
  have hc20_3 : ¬ ((255 : Int32) < ec0) := he0
  replace G := o_icmpYes (q := 26) G X0.here hx (hb hby d6_20) (flt hc20_3).2.2.2 (by decide) (by decide)
  replace G := o_aloadN (q := 27) G X0.here hx (hb hby d6_26) rfl rfl rfl
  replace G := o_iloadN (q := 28) G X0.here hx (hb hby d6_27) rfl rfl
  replace G := o_iload (q := 30) G X0.here hx (hb hby d6_28) rfl rfl
  replace G := o_i2b (q := 31) G X0.here hx (hb hby d6_30) rfl rfl
  obtain ⟨c4, Ar4, q4, S4, N4', H4, G4'⟩ := id P1
  have hin4 : ¬ ((0 : Int32) < 0 ∨ c4.slots.size ≤ ((0 : Int32)).toNatClampNeg) := inb_of S4 ⟨by decide, by decide⟩
  obtain ⟨T4, h4, X4, e4, W4, st4⟩ := stB X0 hx hZ e0 Ar4 (j := (0 : Int32)) hin4 (g := o_g G) rfl rfl (hb hby d6_31)
  have N4 := Fr.snoc X4 N0 P2
  have Z4 : n0 ≤ h4.size := Nat.le_trans Z0 (Keep.of_wr W4).1
  have K4 : Keep h0 h4 [d] := K0.wr W4 (Or.inl (List.mem_of_getElem? (i := 0) rfl))
  have V4 : Arv Z h4 d kd .byte (4 : Int32) [(.int (nar .byte (ec0.toInt8.toInt32))), (.int 0), (.int 0), (.int 0)] (.int 0) := Arv.set Ar4 q4 S4 N4' H4 G4' (fits_nar_byte _) W4 0 rfl (Nat.le_of_ble_eq_true rfl)
  replace G := o_nxs (q := 32) (st := []) G st4 rfl
  replace G := o_iinc (q := 35) (l' := #[.val (.ref a), .val (.int 1), .val (.ref d), .val (.int 0), .val (.int 4), .val (.int 0), .val (.int ec0)]) (w := (1 : Int32)) G X4.here hx (hb hby d6_32) (by decide) rfl (by decide : ((0 : Int32) + (1 : Int32)) = (1 : Int32)) rfl rfl
  replace G := o_iinc (q := 38) (l' := #[.val (.ref a), .val (.int 1), .val (.ref d), .val (.int 1), .val (.int 4), .val (.int 0), .val (.int ec0)]) (w := (1 : Int32)) G X4.here hx (hb hby d6_35) (by decide) rfl (by decide : ((0 : Int32) + (1 : Int32)) = (1 : Int32)) rfl rfl
  replace G := o_iinc (q := 41) (l' := #[.val (.ref a), .val (.int 1), .val (.ref d), .val (.int 1), .val (.int 4), .val (.int 1), .val (.int ec0)]) (w := (1 : Int32)) G X4.here hx (hb hby d6_38) (by decide) rfl (by decide : ((0 : Int32) + (1 : Int32)) = (1 : Int32)) rfl rfl
  replace G := o_goto (q := 3) G X4.here hx (hb hby d6_41) (by decide) (by decide)
  replace G := o_iload (q := 5) G X4.here hx (hb hby d6_3) rfl rfl
  replace G := o_iload (q := 7) G X4.here hx (hb hby d6_5) rfl rfl
  replace G := o_icmpNo (q := 10) G X4.here hx (hb hby d6_7) (by decide) rfl
  replace G := o_aloadN (q := 11) G X4.here hx (hb hby d6_10) rfl rfl rfl
  replace G := o_iloadN (q := 12) G X4.here hx (hb hby d6_11) rfl rfl
  have F6 := (P0.other W4 P3)
  obtain ⟨c7, Ar7, -, S7, -, H7, -⟩ := id F6
  have hin7 : ¬ ((1 : Int32) < 0 ∨ c7.slots.size ≤ ((1 : Int32)).toNatClampNeg) := inb_of S7 ⟨by decide, by decide⟩
  replace G := o_nxs (q := 13) (st := [(.int ec1)]) G (X4.caload hx (j := (1 : Int32)) (v := (.int ec1)) (by rw [e4]; exact Ar7.1) (State.isArrayOf_alike hZ.alike Ar7.2.1) Ar7.2.2 hin7 (Has.at H7 hin7 rfl) (g := o_g G) rfl rfl (hb hby d6_12)) rfl
  replace G := o_istore (q := 15) (l' := #[.val (.ref a), .val (.int 1), .val (.ref d), .val (.int 1), .val (.int 4), .val (.int 1), .val (.int ec1)]) G X4.here hx (hb hby d6_13) rfl rfl
  replace G := o_iload (q := 17) G X4.here hx (hb hby d6_15) rfl rfl
  replace G := o_sipush (q := 20) G X4.here hx (hb hby d6_17) (v := (255 : Int32)) (by decide) rfl
  have hc20_8 : (255 : Int32) < ec1 := hg
  replace G := o_icmpNo (q := 23) G X4.here hx (hb hby d6_20) (tlt hc20_8).2.2.2 rfl
  replace G := o_iload (q := 25) G X4.here hx (hb hby d6_23) rfl rfl
  obtain ⟨fs, hr, hrun, hended, hW, hsame⟩ := X4.leave (v := some (.int 1)) (fun h => by rw [Bd.returns] at h; cases h)
  refine ⟨_, _, G _ (retOut X4 hx Bd.returns rfl (Or.inl ⟨rfl, Or.inl rfl, _, rfl⟩) (hb hby d6_25) hr), hrun, hended, _, _, rfl, ?_, ⟨_, rfl⟩, hW, hsame.mono (by decide) (by decide)⟩
  show Q6u4j1 Z a d ks kd ec0 ec1 ec2 ec3 h0 n0 _ T4.heap _
  rw [e4]
  exact ⟨rfl, N4, K4, V4⟩
theorem ef_6u4j2 (m : MethodId) (x0 : Addr) (x2 : Addr) : entryFrame m #[(.ref x0), (.int 0), (.ref x2), (.int 0), (.int 4)] 7 = mkF m 0 #[.val (.ref x0), .val (.int 0), .val (.ref x2), .val (.int 0), .val (.int 4), .unset, .unset] [] := by first | (simp [entryFrame, mkF, argsToLocals, Value.category]; done) | rfl
def Q6u4j2 (Z : State) (a : Addr) (d : Addr) (ks : ClassId) (kd : ClassId) (ec0 : Int32) (ec1 : Int32) (ec2 : Int32) (ec3 : Int32) (h0 : Heap) (n0 : Nat) (v : Option Value) (h : Heap) (L : List Loc) : Prop := v = some (.int 2) ∧ Fr n0 L ∧ Keep h0 h [d] ∧ (Arv Z h d kd .byte (4 : Int32) [(.int (nar .byte (ec0.toInt8.toInt32))), (.int (nar .byte (ec1.toInt8.toInt32))), (.int 0), (.int 0)] (.int 0))
set_option maxRecDepth 65536 in
set_option maxHeartbeats 40000000 in
theorem rm6u4j2 (l : Launch) (Z : State) (a0 : Array Value) (hw : ∀ d ∈ tables_1, d.before a0 Z = true) (ws : List Jvm.Cond) (a : Addr) (d : Addr) (ks : ClassId) (kd : ClassId) (ec0 : Int32) (ec1 : Int32) (ec2 : Int32) (ec3 : Int32) (h0 : Heap) (n0 : Nat) (Z0 : n0 ≤ h0.size) (P0 : Arv Z h0 a ks .char (4 : Int32) [(.int ec0), (.int ec1), (.int ec2), (.int ec3)] (.int 0)) (P1 : Arv Z h0 d kd .byte (4 : Int32) [(.int 0), (.int 0), (.int 0), (.int 0)] (.int 0)) (P2 : n0 ≤ d) (P3 : a ≠ d) (he0 : ¬ ((255 : Int32) < ec0)) (he1 : ¬ ((255 : Int32) < ec1)) (hg : (255 : Int32) < ec2) :
    MetFree l (⟨o_n0, "compress", "([CI[BII)I"⟩ : MethodName) (head1 (Jvm.Cond.code (⟨o_n0, "compress", "([CI[BII)I"⟩ : MethodName) jdk_52_method_21_code 7 (some .int) :: ws) ({ frames := 0, cells := 0, slots := 0, locals := 0 } : Room)) (fun argz U => argz = #[(.ref a), (.int 0), (.ref d), (.int 0), (.int 4)] ∧ Z.Warmed39 U.vm ∧ U.heap = h0) (fun _ _ _ _ _ => True) (fun _ U o U' => ∃ v L, o = .returned v ∧ Q6u4j2 Z a d ks kd ec0 ec1 ec2 ec3 h0 n0 v U'.heap L ∧ FrameEnd U o U' L ({ frames := 0, cells := 0, slots := 0, locals := 0 } : Room).cells ({ frames := 0, cells := 0, slots := 0, locals := 0 } : Room).slots) := by
  refine MetFree.of_bodySF (plainFor_of_name pn_java_lang_StringUTF16) hisR ?_
  intro p e s m args below meth c s₁ Bd hml0 hP hK
  obtain ⟨rfl, hZ, hh⟩ := hP
  have hx := Bd.exec
  have hby := Bd.bytes
  have hml : c.maxLocals = 7 := hml0
  have hown : s.vm.findClass o_n0 = some m.cls := findClass_of_methodNamed Bd.named
  have hnm := (name_of_methodNamed Bd.named Bd.method).1
  have X0 : Stand p l e ({ frames := 0, cells := 0, slots := 0, locals := 0 } : Room) s m #[(.ref a), (.int 0), (.ref d), (.int 0), (.int 4)] below meth c s₁ [] 0 0 := Stand.of_body Bd
  have e0 : s₁.heap = h0 := by rw [← hh, Bd.state]; rfl
  have N0 := Fr.nil n0
  have K0 : Keep h0 h0 [d] := Keep.refl _ _
  have G : Gets p e below (s₁.setTop (entryFrame m #[(.ref a), (.int 0), (.ref d), (.int 0), (.int 4)] 7)) (s₁.setTop (mkF m 0 #[.val (.ref a), .val (.int 0), .val (.ref d), .val (.int 0), .val (.int 4), .unset, .unset] [])) := fun t k => castTop (ef_6u4j2 m a d) k
  replace G := o_iconst (q := 1) G X0.here hx (hb hby d6_0) (v := (0 : Int32)) (by decide) rfl
  replace G := o_istore (q := 3) (l' := #[.val (.ref a), .val (.int 0), .val (.ref d), .val (.int 0), .val (.int 4), .val (.int 0), .unset]) G X0.here hx (hb hby d6_1) rfl rfl
  replace G := o_iload (q := 5) G X0.here hx (hb hby d6_3) rfl rfl
  replace G := o_iload (q := 7) G X0.here hx (hb hby d6_5) rfl rfl
  replace G := o_icmpNo (q := 10) G X0.here hx (hb hby d6_7) (by decide) rfl
  replace G := o_aloadN (q := 11) G X0.here hx (hb hby d6_10) rfl rfl rfl
  replace G := o_iloadN (q := 12) G X0.here hx (hb hby d6_11) rfl rfl
  obtain ⟨c2, Ar2, -, S2, -, H2, -⟩ := id P0
  have hin2 : ¬ ((0 : Int32) < 0 ∨ c2.slots.size ≤ ((0 : Int32)).toNatClampNeg) := inb_of S2 ⟨by decide, by decide⟩
  replace G := o_nxs (q := 13) (st := [(.int ec0)]) G (X0.caload hx (j := (0 : Int32)) (v := (.int ec0)) (by rw [e0]; exact Ar2.1) (State.isArrayOf_alike hZ.alike Ar2.2.1) Ar2.2.2 hin2 (Has.at H2 hin2 rfl) (g := o_g G) rfl rfl (hb hby d6_12)) rfl
  replace G := o_istore (q := 15) (l' := #[.val (.ref a), .val (.int 0), .val (.ref d), .val (.int 0), .val (.int 4), .val (.int 0), .val (.int ec0)]) G X0.here hx (hb hby d6_13) rfl rfl
  replace G := o_iload (q := 17) G X0.here hx (hb hby d6_15) rfl rfl
  replace G := o_sipush (q := 20) G X0.here hx (hb hby d6_17) (v := (255 : Int32)) (by decide) rfl
  have hc20_3 : ¬ ((255 : Int32) < ec0) := he0
  replace G := o_icmpYes (q := 26) G X0.here hx (hb hby d6_20) (flt hc20_3).2.2.2 (by decide) (by decide)
  replace G := o_aloadN (q := 27) G X0.here hx (hb hby d6_26) rfl rfl rfl
  replace G := o_iloadN (q := 28) G X0.here hx (hb hby d6_27) rfl rfl
  replace G := o_iload (q := 30) G X0.here hx (hb hby d6_28) rfl rfl
  replace G := o_i2b (q := 31) G X0.here hx (hb hby d6_30) rfl rfl
  obtain ⟨c4, Ar4, q4, S4, N4', H4, G4'⟩ := id P1
  have hin4 : ¬ ((0 : Int32) < 0 ∨ c4.slots.size ≤ ((0 : Int32)).toNatClampNeg) := inb_of S4 ⟨by decide, by decide⟩
  obtain ⟨T4, h4, X4, e4, W4, st4⟩ := stB X0 hx hZ e0 Ar4 (j := (0 : Int32)) hin4 (g := o_g G) rfl rfl (hb hby d6_31)
  have N4 := Fr.snoc X4 N0 P2
  have Z4 : n0 ≤ h4.size := Nat.le_trans Z0 (Keep.of_wr W4).1
  have K4 : Keep h0 h4 [d] := K0.wr W4 (Or.inl (List.mem_of_getElem? (i := 0) rfl))
  have V4 : Arv Z h4 d kd .byte (4 : Int32) [(.int (nar .byte (ec0.toInt8.toInt32))), (.int 0), (.int 0), (.int 0)] (.int 0) := Arv.set Ar4 q4 S4 N4' H4 G4' (fits_nar_byte _) W4 0 rfl (Nat.le_of_ble_eq_true rfl)
  replace G := o_nxs (q := 32) (st := []) G st4 rfl
  replace G := o_iinc (q := 35) (l' := #[.val (.ref a), .val (.int 1), .val (.ref d), .val (.int 0), .val (.int 4), .val (.int 0), .val (.int ec0)]) (w := (1 : Int32)) G X4.here hx (hb hby d6_32) (by decide) rfl (by decide : ((0 : Int32) + (1 : Int32)) = (1 : Int32)) rfl rfl
  replace G := o_iinc (q := 38) (l' := #[.val (.ref a), .val (.int 1), .val (.ref d), .val (.int 1), .val (.int 4), .val (.int 0), .val (.int ec0)]) (w := (1 : Int32)) G X4.here hx (hb hby d6_35) (by decide) rfl (by decide : ((0 : Int32) + (1 : Int32)) = (1 : Int32)) rfl rfl
  replace G := o_iinc (q := 41) (l' := #[.val (.ref a), .val (.int 1), .val (.ref d), .val (.int 1), .val (.int 4), .val (.int 1), .val (.int ec0)]) (w := (1 : Int32)) G X4.here hx (hb hby d6_38) (by decide) rfl (by decide : ((0 : Int32) + (1 : Int32)) = (1 : Int32)) rfl rfl
  replace G := o_goto (q := 3) G X4.here hx (hb hby d6_41) (by decide) (by decide)
  replace G := o_iload (q := 5) G X4.here hx (hb hby d6_3) rfl rfl
  replace G := o_iload (q := 7) G X4.here hx (hb hby d6_5) rfl rfl
  replace G := o_icmpNo (q := 10) G X4.here hx (hb hby d6_7) (by decide) rfl
  replace G := o_aloadN (q := 11) G X4.here hx (hb hby d6_10) rfl rfl rfl
  replace G := o_iloadN (q := 12) G X4.here hx (hb hby d6_11) rfl rfl
  have F6 := (P0.other W4 P3)
  obtain ⟨c7, Ar7, -, S7, -, H7, -⟩ := id F6
  have hin7 : ¬ ((1 : Int32) < 0 ∨ c7.slots.size ≤ ((1 : Int32)).toNatClampNeg) := inb_of S7 ⟨by decide, by decide⟩
  replace G := o_nxs (q := 13) (st := [(.int ec1)]) G (X4.caload hx (j := (1 : Int32)) (v := (.int ec1)) (by rw [e4]; exact Ar7.1) (State.isArrayOf_alike hZ.alike Ar7.2.1) Ar7.2.2 hin7 (Has.at H7 hin7 rfl) (g := o_g G) rfl rfl (hb hby d6_12)) rfl
  replace G := o_istore (q := 15) (l' := #[.val (.ref a), .val (.int 1), .val (.ref d), .val (.int 1), .val (.int 4), .val (.int 1), .val (.int ec1)]) G X4.here hx (hb hby d6_13) rfl rfl
  replace G := o_iload (q := 17) G X4.here hx (hb hby d6_15) rfl rfl
  replace G := o_sipush (q := 20) G X4.here hx (hb hby d6_17) (v := (255 : Int32)) (by decide) rfl
  have hc20_8 : ¬ ((255 : Int32) < ec1) := he1
  replace G := o_icmpYes (q := 26) G X4.here hx (hb hby d6_20) (flt hc20_8).2.2.2 (by decide) (by decide)
  replace G := o_aloadN (q := 27) G X4.here hx (hb hby d6_26) rfl rfl rfl
  replace G := o_iloadN (q := 28) G X4.here hx (hb hby d6_27) rfl rfl
  replace G := o_iload (q := 30) G X4.here hx (hb hby d6_28) rfl rfl
  replace G := o_i2b (q := 31) G X4.here hx (hb hby d6_30) rfl rfl
  obtain ⟨c9, Ar9, q9, S9, N9', H9, G9'⟩ := id V4
  have hin9 : ¬ ((1 : Int32) < 0 ∨ c9.slots.size ≤ ((1 : Int32)).toNatClampNeg) := inb_of S9 ⟨by decide, by decide⟩
  obtain ⟨T9, h9, X9, e9, W9, st9⟩ := stB X4 hx hZ e4 Ar9 (j := (1 : Int32)) hin9 (g := o_g G) rfl rfl (hb hby d6_31)
  have N9 := Fr.snoc X9 N4 P2
  have Z9 : n0 ≤ h9.size := Nat.le_trans Z4 (Keep.of_wr W9).1
  have K9 : Keep h0 h9 [d] := K4.wr W9 (Or.inl (List.mem_of_getElem? (i := 0) rfl))
  have V9 : Arv Z h9 d kd .byte (4 : Int32) [(.int (nar .byte (ec0.toInt8.toInt32))), (.int (nar .byte (ec1.toInt8.toInt32))), (.int 0), (.int 0)] (.int 0) := Arv.set Ar9 q9 S9 N9' H9 G9' (fits_nar_byte _) W9 1 rfl (Nat.le_of_ble_eq_true rfl)
  replace G := o_nxs (q := 32) (st := []) G st9 rfl
  replace G := o_iinc (q := 35) (l' := #[.val (.ref a), .val (.int 2), .val (.ref d), .val (.int 1), .val (.int 4), .val (.int 1), .val (.int ec1)]) (w := (1 : Int32)) G X9.here hx (hb hby d6_32) (by decide) rfl (by decide : ((1 : Int32) + (1 : Int32)) = (2 : Int32)) rfl rfl
  replace G := o_iinc (q := 38) (l' := #[.val (.ref a), .val (.int 2), .val (.ref d), .val (.int 2), .val (.int 4), .val (.int 1), .val (.int ec1)]) (w := (1 : Int32)) G X9.here hx (hb hby d6_35) (by decide) rfl (by decide : ((1 : Int32) + (1 : Int32)) = (2 : Int32)) rfl rfl
  replace G := o_iinc (q := 41) (l' := #[.val (.ref a), .val (.int 2), .val (.ref d), .val (.int 2), .val (.int 4), .val (.int 2), .val (.int ec1)]) (w := (1 : Int32)) G X9.here hx (hb hby d6_38) (by decide) rfl (by decide : ((1 : Int32) + (1 : Int32)) = (2 : Int32)) rfl rfl
  replace G := o_goto (q := 3) G X9.here hx (hb hby d6_41) (by decide) (by decide)
  replace G := o_iload (q := 5) G X9.here hx (hb hby d6_3) rfl rfl
  replace G := o_iload (q := 7) G X9.here hx (hb hby d6_5) rfl rfl
  replace G := o_icmpNo (q := 10) G X9.here hx (hb hby d6_7) (by decide) rfl
  replace G := o_aloadN (q := 11) G X9.here hx (hb hby d6_10) rfl rfl rfl
  replace G := o_iloadN (q := 12) G X9.here hx (hb hby d6_11) rfl rfl
  have F11 := (F6.other W9 P3)
  obtain ⟨c12, Ar12, -, S12, -, H12, -⟩ := id F11
  have hin12 : ¬ ((2 : Int32) < 0 ∨ c12.slots.size ≤ ((2 : Int32)).toNatClampNeg) := inb_of S12 ⟨by decide, by decide⟩
  replace G := o_nxs (q := 13) (st := [(.int ec2)]) G (X9.caload hx (j := (2 : Int32)) (v := (.int ec2)) (by rw [e9]; exact Ar12.1) (State.isArrayOf_alike hZ.alike Ar12.2.1) Ar12.2.2 hin12 (Has.at H12 hin12 rfl) (g := o_g G) rfl rfl (hb hby d6_12)) rfl
  replace G := o_istore (q := 15) (l' := #[.val (.ref a), .val (.int 2), .val (.ref d), .val (.int 2), .val (.int 4), .val (.int 2), .val (.int ec2)]) G X9.here hx (hb hby d6_13) rfl rfl
  replace G := o_iload (q := 17) G X9.here hx (hb hby d6_15) rfl rfl
  replace G := o_sipush (q := 20) G X9.here hx (hb hby d6_17) (v := (255 : Int32)) (by decide) rfl
  have hc20_13 : (255 : Int32) < ec2 := hg
  replace G := o_icmpNo (q := 23) G X9.here hx (hb hby d6_20) (tlt hc20_13).2.2.2 rfl
  replace G := o_iload (q := 25) G X9.here hx (hb hby d6_23) rfl rfl
  obtain ⟨fs, hr, hrun, hended, hW, hsame⟩ := X9.leave (v := some (.int 2)) (fun h => by rw [Bd.returns] at h; cases h)
  refine ⟨_, _, G _ (retOut X9 hx Bd.returns rfl (Or.inl ⟨rfl, Or.inl rfl, _, rfl⟩) (hb hby d6_25) hr), hrun, hended, _, _, rfl, ?_, ⟨_, rfl⟩, hW, hsame.mono (by decide) (by decide)⟩
  show Q6u4j2 Z a d ks kd ec0 ec1 ec2 ec3 h0 n0 _ T9.heap _
  rw [e9]
  exact ⟨rfl, N9, K9, V9⟩
theorem ef_6u4j3 (m : MethodId) (x0 : Addr) (x2 : Addr) : entryFrame m #[(.ref x0), (.int 0), (.ref x2), (.int 0), (.int 4)] 7 = mkF m 0 #[.val (.ref x0), .val (.int 0), .val (.ref x2), .val (.int 0), .val (.int 4), .unset, .unset] [] := by first | (simp [entryFrame, mkF, argsToLocals, Value.category]; done) | rfl
def Q6u4j3 (Z : State) (a : Addr) (d : Addr) (ks : ClassId) (kd : ClassId) (ec0 : Int32) (ec1 : Int32) (ec2 : Int32) (ec3 : Int32) (h0 : Heap) (n0 : Nat) (v : Option Value) (h : Heap) (L : List Loc) : Prop := v = some (.int 3) ∧ Fr n0 L ∧ Keep h0 h [d] ∧ (Arv Z h d kd .byte (4 : Int32) [(.int (nar .byte (ec0.toInt8.toInt32))), (.int (nar .byte (ec1.toInt8.toInt32))), (.int (nar .byte (ec2.toInt8.toInt32))), (.int 0)] (.int 0))
set_option maxRecDepth 65536 in
set_option maxHeartbeats 40000000 in
theorem rm6u4j3 (l : Launch) (Z : State) (a0 : Array Value) (hw : ∀ d ∈ tables_1, d.before a0 Z = true) (ws : List Jvm.Cond) (a : Addr) (d : Addr) (ks : ClassId) (kd : ClassId) (ec0 : Int32) (ec1 : Int32) (ec2 : Int32) (ec3 : Int32) (h0 : Heap) (n0 : Nat) (Z0 : n0 ≤ h0.size) (P0 : Arv Z h0 a ks .char (4 : Int32) [(.int ec0), (.int ec1), (.int ec2), (.int ec3)] (.int 0)) (P1 : Arv Z h0 d kd .byte (4 : Int32) [(.int 0), (.int 0), (.int 0), (.int 0)] (.int 0)) (P2 : n0 ≤ d) (P3 : a ≠ d) (he0 : ¬ ((255 : Int32) < ec0)) (he1 : ¬ ((255 : Int32) < ec1)) (he2 : ¬ ((255 : Int32) < ec2)) (hg : (255 : Int32) < ec3) :
    MetFree l (⟨o_n0, "compress", "([CI[BII)I"⟩ : MethodName) (head1 (Jvm.Cond.code (⟨o_n0, "compress", "([CI[BII)I"⟩ : MethodName) jdk_52_method_21_code 7 (some .int) :: ws) ({ frames := 0, cells := 0, slots := 0, locals := 0 } : Room)) (fun argz U => argz = #[(.ref a), (.int 0), (.ref d), (.int 0), (.int 4)] ∧ Z.Warmed39 U.vm ∧ U.heap = h0) (fun _ _ _ _ _ => True) (fun _ U o U' => ∃ v L, o = .returned v ∧ Q6u4j3 Z a d ks kd ec0 ec1 ec2 ec3 h0 n0 v U'.heap L ∧ FrameEnd U o U' L ({ frames := 0, cells := 0, slots := 0, locals := 0 } : Room).cells ({ frames := 0, cells := 0, slots := 0, locals := 0 } : Room).slots) := by
  refine MetFree.of_bodySF (plainFor_of_name pn_java_lang_StringUTF16) hisR ?_
  intro p e s m args below meth c s₁ Bd hml0 hP hK
  obtain ⟨rfl, hZ, hh⟩ := hP
  have hx := Bd.exec
  have hby := Bd.bytes
  have hml : c.maxLocals = 7 := hml0
  have hown : s.vm.findClass o_n0 = some m.cls := findClass_of_methodNamed Bd.named
  have hnm := (name_of_methodNamed Bd.named Bd.method).1
  have X0 : Stand p l e ({ frames := 0, cells := 0, slots := 0, locals := 0 } : Room) s m #[(.ref a), (.int 0), (.ref d), (.int 0), (.int 4)] below meth c s₁ [] 0 0 := Stand.of_body Bd
  have e0 : s₁.heap = h0 := by rw [← hh, Bd.state]; rfl
  have N0 := Fr.nil n0
  have K0 : Keep h0 h0 [d] := Keep.refl _ _
  have G : Gets p e below (s₁.setTop (entryFrame m #[(.ref a), (.int 0), (.ref d), (.int 0), (.int 4)] 7)) (s₁.setTop (mkF m 0 #[.val (.ref a), .val (.int 0), .val (.ref d), .val (.int 0), .val (.int 4), .unset, .unset] [])) := fun t k => castTop (ef_6u4j3 m a d) k
  replace G := o_iconst (q := 1) G X0.here hx (hb hby d6_0) (v := (0 : Int32)) (by decide) rfl
  replace G := o_istore (q := 3) (l' := #[.val (.ref a), .val (.int 0), .val (.ref d), .val (.int 0), .val (.int 4), .val (.int 0), .unset]) G X0.here hx (hb hby d6_1) rfl rfl
  replace G := o_iload (q := 5) G X0.here hx (hb hby d6_3) rfl rfl
  replace G := o_iload (q := 7) G X0.here hx (hb hby d6_5) rfl rfl
  replace G := o_icmpNo (q := 10) G X0.here hx (hb hby d6_7) (by decide) rfl
  replace G := o_aloadN (q := 11) G X0.here hx (hb hby d6_10) rfl rfl rfl
  replace G := o_iloadN (q := 12) G X0.here hx (hb hby d6_11) rfl rfl
  obtain ⟨c2, Ar2, -, S2, -, H2, -⟩ := id P0
  have hin2 : ¬ ((0 : Int32) < 0 ∨ c2.slots.size ≤ ((0 : Int32)).toNatClampNeg) := inb_of S2 ⟨by decide, by decide⟩
  replace G := o_nxs (q := 13) (st := [(.int ec0)]) G (X0.caload hx (j := (0 : Int32)) (v := (.int ec0)) (by rw [e0]; exact Ar2.1) (State.isArrayOf_alike hZ.alike Ar2.2.1) Ar2.2.2 hin2 (Has.at H2 hin2 rfl) (g := o_g G) rfl rfl (hb hby d6_12)) rfl
  replace G := o_istore (q := 15) (l' := #[.val (.ref a), .val (.int 0), .val (.ref d), .val (.int 0), .val (.int 4), .val (.int 0), .val (.int ec0)]) G X0.here hx (hb hby d6_13) rfl rfl
  replace G := o_iload (q := 17) G X0.here hx (hb hby d6_15) rfl rfl
  replace G := o_sipush (q := 20) G X0.here hx (hb hby d6_17) (v := (255 : Int32)) (by decide) rfl
  have hc20_3 : ¬ ((255 : Int32) < ec0) := he0
  replace G := o_icmpYes (q := 26) G X0.here hx (hb hby d6_20) (flt hc20_3).2.2.2 (by decide) (by decide)
  replace G := o_aloadN (q := 27) G X0.here hx (hb hby d6_26) rfl rfl rfl
  replace G := o_iloadN (q := 28) G X0.here hx (hb hby d6_27) rfl rfl
  replace G := o_iload (q := 30) G X0.here hx (hb hby d6_28) rfl rfl
  replace G := o_i2b (q := 31) G X0.here hx (hb hby d6_30) rfl rfl
  obtain ⟨c4, Ar4, q4, S4, N4', H4, G4'⟩ := id P1
  have hin4 : ¬ ((0 : Int32) < 0 ∨ c4.slots.size ≤ ((0 : Int32)).toNatClampNeg) := inb_of S4 ⟨by decide, by decide⟩
  obtain ⟨T4, h4, X4, e4, W4, st4⟩ := stB X0 hx hZ e0 Ar4 (j := (0 : Int32)) hin4 (g := o_g G) rfl rfl (hb hby d6_31)
  have N4 := Fr.snoc X4 N0 P2
  have Z4 : n0 ≤ h4.size := Nat.le_trans Z0 (Keep.of_wr W4).1
  have K4 : Keep h0 h4 [d] := K0.wr W4 (Or.inl (List.mem_of_getElem? (i := 0) rfl))
  have V4 : Arv Z h4 d kd .byte (4 : Int32) [(.int (nar .byte (ec0.toInt8.toInt32))), (.int 0), (.int 0), (.int 0)] (.int 0) := Arv.set Ar4 q4 S4 N4' H4 G4' (fits_nar_byte _) W4 0 rfl (Nat.le_of_ble_eq_true rfl)
  replace G := o_nxs (q := 32) (st := []) G st4 rfl
  replace G := o_iinc (q := 35) (l' := #[.val (.ref a), .val (.int 1), .val (.ref d), .val (.int 0), .val (.int 4), .val (.int 0), .val (.int ec0)]) (w := (1 : Int32)) G X4.here hx (hb hby d6_32) (by decide) rfl (by decide : ((0 : Int32) + (1 : Int32)) = (1 : Int32)) rfl rfl
  replace G := o_iinc (q := 38) (l' := #[.val (.ref a), .val (.int 1), .val (.ref d), .val (.int 1), .val (.int 4), .val (.int 0), .val (.int ec0)]) (w := (1 : Int32)) G X4.here hx (hb hby d6_35) (by decide) rfl (by decide : ((0 : Int32) + (1 : Int32)) = (1 : Int32)) rfl rfl
  replace G := o_iinc (q := 41) (l' := #[.val (.ref a), .val (.int 1), .val (.ref d), .val (.int 1), .val (.int 4), .val (.int 1), .val (.int ec0)]) (w := (1 : Int32)) G X4.here hx (hb hby d6_38) (by decide) rfl (by decide : ((0 : Int32) + (1 : Int32)) = (1 : Int32)) rfl rfl
  replace G := o_goto (q := 3) G X4.here hx (hb hby d6_41) (by decide) (by decide)
  replace G := o_iload (q := 5) G X4.here hx (hb hby d6_3) rfl rfl
  replace G := o_iload (q := 7) G X4.here hx (hb hby d6_5) rfl rfl
  replace G := o_icmpNo (q := 10) G X4.here hx (hb hby d6_7) (by decide) rfl
  replace G := o_aloadN (q := 11) G X4.here hx (hb hby d6_10) rfl rfl rfl
  replace G := o_iloadN (q := 12) G X4.here hx (hb hby d6_11) rfl rfl
  have F6 := (P0.other W4 P3)
  obtain ⟨c7, Ar7, -, S7, -, H7, -⟩ := id F6
  have hin7 : ¬ ((1 : Int32) < 0 ∨ c7.slots.size ≤ ((1 : Int32)).toNatClampNeg) := inb_of S7 ⟨by decide, by decide⟩
  replace G := o_nxs (q := 13) (st := [(.int ec1)]) G (X4.caload hx (j := (1 : Int32)) (v := (.int ec1)) (by rw [e4]; exact Ar7.1) (State.isArrayOf_alike hZ.alike Ar7.2.1) Ar7.2.2 hin7 (Has.at H7 hin7 rfl) (g := o_g G) rfl rfl (hb hby d6_12)) rfl
  replace G := o_istore (q := 15) (l' := #[.val (.ref a), .val (.int 1), .val (.ref d), .val (.int 1), .val (.int 4), .val (.int 1), .val (.int ec1)]) G X4.here hx (hb hby d6_13) rfl rfl
  replace G := o_iload (q := 17) G X4.here hx (hb hby d6_15) rfl rfl
  replace G := o_sipush (q := 20) G X4.here hx (hb hby d6_17) (v := (255 : Int32)) (by decide) rfl
  have hc20_8 : ¬ ((255 : Int32) < ec1) := he1
  replace G := o_icmpYes (q := 26) G X4.here hx (hb hby d6_20) (flt hc20_8).2.2.2 (by decide) (by decide)
  replace G := o_aloadN (q := 27) G X4.here hx (hb hby d6_26) rfl rfl rfl
  replace G := o_iloadN (q := 28) G X4.here hx (hb hby d6_27) rfl rfl
  replace G := o_iload (q := 30) G X4.here hx (hb hby d6_28) rfl rfl
  replace G := o_i2b (q := 31) G X4.here hx (hb hby d6_30) rfl rfl
  obtain ⟨c9, Ar9, q9, S9, N9', H9, G9'⟩ := id V4
  have hin9 : ¬ ((1 : Int32) < 0 ∨ c9.slots.size ≤ ((1 : Int32)).toNatClampNeg) := inb_of S9 ⟨by decide, by decide⟩
  obtain ⟨T9, h9, X9, e9, W9, st9⟩ := stB X4 hx hZ e4 Ar9 (j := (1 : Int32)) hin9 (g := o_g G) rfl rfl (hb hby d6_31)
  have N9 := Fr.snoc X9 N4 P2
  have Z9 : n0 ≤ h9.size := Nat.le_trans Z4 (Keep.of_wr W9).1
  have K9 : Keep h0 h9 [d] := K4.wr W9 (Or.inl (List.mem_of_getElem? (i := 0) rfl))
  have V9 : Arv Z h9 d kd .byte (4 : Int32) [(.int (nar .byte (ec0.toInt8.toInt32))), (.int (nar .byte (ec1.toInt8.toInt32))), (.int 0), (.int 0)] (.int 0) := Arv.set Ar9 q9 S9 N9' H9 G9' (fits_nar_byte _) W9 1 rfl (Nat.le_of_ble_eq_true rfl)
  replace G := o_nxs (q := 32) (st := []) G st9 rfl
  replace G := o_iinc (q := 35) (l' := #[.val (.ref a), .val (.int 2), .val (.ref d), .val (.int 1), .val (.int 4), .val (.int 1), .val (.int ec1)]) (w := (1 : Int32)) G X9.here hx (hb hby d6_32) (by decide) rfl (by decide : ((1 : Int32) + (1 : Int32)) = (2 : Int32)) rfl rfl
  replace G := o_iinc (q := 38) (l' := #[.val (.ref a), .val (.int 2), .val (.ref d), .val (.int 2), .val (.int 4), .val (.int 1), .val (.int ec1)]) (w := (1 : Int32)) G X9.here hx (hb hby d6_35) (by decide) rfl (by decide : ((1 : Int32) + (1 : Int32)) = (2 : Int32)) rfl rfl
  replace G := o_iinc (q := 41) (l' := #[.val (.ref a), .val (.int 2), .val (.ref d), .val (.int 2), .val (.int 4), .val (.int 2), .val (.int ec1)]) (w := (1 : Int32)) G X9.here hx (hb hby d6_38) (by decide) rfl (by decide : ((1 : Int32) + (1 : Int32)) = (2 : Int32)) rfl rfl
  replace G := o_goto (q := 3) G X9.here hx (hb hby d6_41) (by decide) (by decide)
  replace G := o_iload (q := 5) G X9.here hx (hb hby d6_3) rfl rfl
  replace G := o_iload (q := 7) G X9.here hx (hb hby d6_5) rfl rfl
  replace G := o_icmpNo (q := 10) G X9.here hx (hb hby d6_7) (by decide) rfl
  replace G := o_aloadN (q := 11) G X9.here hx (hb hby d6_10) rfl rfl rfl
  replace G := o_iloadN (q := 12) G X9.here hx (hb hby d6_11) rfl rfl
  have F11 := (F6.other W9 P3)
  obtain ⟨c12, Ar12, -, S12, -, H12, -⟩ := id F11
  have hin12 : ¬ ((2 : Int32) < 0 ∨ c12.slots.size ≤ ((2 : Int32)).toNatClampNeg) := inb_of S12 ⟨by decide, by decide⟩
  replace G := o_nxs (q := 13) (st := [(.int ec2)]) G (X9.caload hx (j := (2 : Int32)) (v := (.int ec2)) (by rw [e9]; exact Ar12.1) (State.isArrayOf_alike hZ.alike Ar12.2.1) Ar12.2.2 hin12 (Has.at H12 hin12 rfl) (g := o_g G) rfl rfl (hb hby d6_12)) rfl
  replace G := o_istore (q := 15) (l' := #[.val (.ref a), .val (.int 2), .val (.ref d), .val (.int 2), .val (.int 4), .val (.int 2), .val (.int ec2)]) G X9.here hx (hb hby d6_13) rfl rfl
  replace G := o_iload (q := 17) G X9.here hx (hb hby d6_15) rfl rfl
  replace G := o_sipush (q := 20) G X9.here hx (hb hby d6_17) (v := (255 : Int32)) (by decide) rfl
  have hc20_13 : ¬ ((255 : Int32) < ec2) := he2
  replace G := o_icmpYes (q := 26) G X9.here hx (hb hby d6_20) (flt hc20_13).2.2.2 (by decide) (by decide)
  replace G := o_aloadN (q := 27) G X9.here hx (hb hby d6_26) rfl rfl rfl
  replace G := o_iloadN (q := 28) G X9.here hx (hb hby d6_27) rfl rfl
  replace G := o_iload (q := 30) G X9.here hx (hb hby d6_28) rfl rfl
  replace G := o_i2b (q := 31) G X9.here hx (hb hby d6_30) rfl rfl
  obtain ⟨c14, Ar14, q14, S14, N14', H14, G14'⟩ := id V9
  have hin14 : ¬ ((2 : Int32) < 0 ∨ c14.slots.size ≤ ((2 : Int32)).toNatClampNeg) := inb_of S14 ⟨by decide, by decide⟩
  obtain ⟨T14, h14, X14, e14, W14, st14⟩ := stB X9 hx hZ e9 Ar14 (j := (2 : Int32)) hin14 (g := o_g G) rfl rfl (hb hby d6_31)
  have N14 := Fr.snoc X14 N9 P2
  have Z14 : n0 ≤ h14.size := Nat.le_trans Z9 (Keep.of_wr W14).1
  have K14 : Keep h0 h14 [d] := K9.wr W14 (Or.inl (List.mem_of_getElem? (i := 0) rfl))
  have V14 : Arv Z h14 d kd .byte (4 : Int32) [(.int (nar .byte (ec0.toInt8.toInt32))), (.int (nar .byte (ec1.toInt8.toInt32))), (.int (nar .byte (ec2.toInt8.toInt32))), (.int 0)] (.int 0) := Arv.set Ar14 q14 S14 N14' H14 G14' (fits_nar_byte _) W14 2 rfl (Nat.le_of_ble_eq_true rfl)
  replace G := o_nxs (q := 32) (st := []) G st14 rfl
  replace G := o_iinc (q := 35) (l' := #[.val (.ref a), .val (.int 3), .val (.ref d), .val (.int 2), .val (.int 4), .val (.int 2), .val (.int ec2)]) (w := (1 : Int32)) G X14.here hx (hb hby d6_32) (by decide) rfl (by decide : ((2 : Int32) + (1 : Int32)) = (3 : Int32)) rfl rfl
  replace G := o_iinc (q := 38) (l' := #[.val (.ref a), .val (.int 3), .val (.ref d), .val (.int 3), .val (.int 4), .val (.int 2), .val (.int ec2)]) (w := (1 : Int32)) G X14.here hx (hb hby d6_35) (by decide) rfl (by decide : ((2 : Int32) + (1 : Int32)) = (3 : Int32)) rfl rfl
  replace G := o_iinc (q := 41) (l' := #[.val (.ref a), .val (.int 3), .val (.ref d), .val (.int 3), .val (.int 4), .val (.int 3), .val (.int ec2)]) (w := (1 : Int32)) G X14.here hx (hb hby d6_38) (by decide) rfl (by decide : ((2 : Int32) + (1 : Int32)) = (3 : Int32)) rfl rfl
  replace G := o_goto (q := 3) G X14.here hx (hb hby d6_41) (by decide) (by decide)
  replace G := o_iload (q := 5) G X14.here hx (hb hby d6_3) rfl rfl
  replace G := o_iload (q := 7) G X14.here hx (hb hby d6_5) rfl rfl
  replace G := o_icmpNo (q := 10) G X14.here hx (hb hby d6_7) (by decide) rfl
  replace G := o_aloadN (q := 11) G X14.here hx (hb hby d6_10) rfl rfl rfl
  replace G := o_iloadN (q := 12) G X14.here hx (hb hby d6_11) rfl rfl
  have F16 := (F11.other W14 P3)
  obtain ⟨c17, Ar17, -, S17, -, H17, -⟩ := id F16
  have hin17 : ¬ ((3 : Int32) < 0 ∨ c17.slots.size ≤ ((3 : Int32)).toNatClampNeg) := inb_of S17 ⟨by decide, by decide⟩
  replace G := o_nxs (q := 13) (st := [(.int ec3)]) G (X14.caload hx (j := (3 : Int32)) (v := (.int ec3)) (by rw [e14]; exact Ar17.1) (State.isArrayOf_alike hZ.alike Ar17.2.1) Ar17.2.2 hin17 (Has.at H17 hin17 rfl) (g := o_g G) rfl rfl (hb hby d6_12)) rfl
  replace G := o_istore (q := 15) (l' := #[.val (.ref a), .val (.int 3), .val (.ref d), .val (.int 3), .val (.int 4), .val (.int 3), .val (.int ec3)]) G X14.here hx (hb hby d6_13) rfl rfl
  replace G := o_iload (q := 17) G X14.here hx (hb hby d6_15) rfl rfl
  replace G := o_sipush (q := 20) G X14.here hx (hb hby d6_17) (v := (255 : Int32)) (by decide) rfl
  have hc20_18 : (255 : Int32) < ec3 := hg
  replace G := o_icmpNo (q := 23) G X14.here hx (hb hby d6_20) (tlt hc20_18).2.2.2 rfl
  replace G := o_iload (q := 25) G X14.here hx (hb hby d6_23) rfl rfl
  obtain ⟨fs, hr, hrun, hended, hW, hsame⟩ := X14.leave (v := some (.int 3)) (fun h => by rw [Bd.returns] at h; cases h)
  refine ⟨_, _, G _ (retOut X14 hx Bd.returns rfl (Or.inl ⟨rfl, Or.inl rfl, _, rfl⟩) (hb hby d6_25) hr), hrun, hended, _, _, rfl, ?_, ⟨_, rfl⟩, hW, hsame.mono (by decide) (by decide)⟩
  show Q6u4j3 Z a d ks kd ec0 ec1 ec2 ec3 h0 n0 _ T14.heap _
  rw [e14]
  exact ⟨rfl, N14, K14, V14⟩
theorem ef_5u4 (m : MethodId) (x0 : Addr) : entryFrame m #[(.ref x0), (.int 0), (.int 4)] 6 = mkF m 0 #[.val (.ref x0), .val (.int 0), .val (.int 4), .unset, .unset, .unset] [] := by first | (simp [entryFrame, mkF, argsToLocals, Value.category]; done) | rfl
def Q5u4 (Z : State) (a : Addr) (ks : ClassId) (ec0 : Int32) (ec1 : Int32) (ec2 : Int32) (ec3 : Int32) (h0 : Heap) (n0 : Nat) (v : Option Value) (h : Heap) (L : List Loc) : Prop := ∃ (b : Addr) (kb : ClassId), v = some (.ref b) ∧ Fr n0 L ∧ Keep h0 h [] ∧ h0.size ≤ b ∧ (Arv Z h b kb .byte (8 : Int32) [(.int (nar .byte ((ec0 >>> ((0 : Int32) &&& 31)).toInt8.toInt32))), (.int (nar .byte ((ec0 >>> ((8 : Int32) &&& 31)).toInt8.toInt32))), (.int (nar .byte ((ec1 >>> ((0 : Int32) &&& 31)).toInt8.toInt32))), (.int (nar .byte ((ec1 >>> ((8 : Int32) &&& 31)).toInt8.toInt32))), (.int (nar .byte ((ec2 >>> ((0 : Int32) &&& 31)).toInt8.toInt32))), (.int (nar .byte ((ec2 >>> ((8 : Int32) &&& 31)).toInt8.toInt32))), (.int (nar .byte ((ec3 >>> ((0 : Int32) &&& 31)).toInt8.toInt32))), (.int (nar .byte ((ec3 >>> ((8 : Int32) &&& 31)).toInt8.toInt32)))] (.int 0))
set_option maxRecDepth 65536 in
set_option maxHeartbeats 40000000 in
theorem rm5u4 (l : Launch) (Z : State) (a0 : Array Value) (hw : ∀ d ∈ tables_1, d.before a0 Z = true) (ws : List Jvm.Cond) (a : Addr) (ks : ClassId) (ec0 : Int32) (ec1 : Int32) (ec2 : Int32) (ec3 : Int32) (h0 : Heap) (n0 : Nat) (Z0 : n0 ≤ h0.size) (P0 : Old Z n0 h0) (P1 : Sta Z Z.heap o_n0 "$assertionsDisabled" "Z" (.int 1)) (P2 : Sta Z Z.heap o_n0 "HI_BYTE_SHIFT" "I" (.int 0)) (P3 : Sta Z Z.heap o_n0 "LO_BYTE_SHIFT" "I" (.int 8)) (P4 : Arv Z h0 a ks .char (4 : Int32) [(.int ec0), (.int ec1), (.int ec2), (.int ec3)] (.int 0)) (hU : (((255 : Int32) < ec0)) ∨ (¬ ((255 : Int32) < ec0) ∧ ((255 : Int32) < ec1)) ∨ (¬ ((255 : Int32) < ec0) ∧ ¬ ((255 : Int32) < ec1) ∧ ((255 : Int32) < ec2)) ∨ (¬ ((255 : Int32) < ec0) ∧ ¬ ((255 : Int32) < ec1) ∧ ¬ ((255 : Int32) < ec2) ∧ ((255 : Int32) < ec3))) (hr0 : 0 ≤ ec0.toInt ∧ ec0.toInt < 65536) (hr1 : 0 ≤ ec1.toInt ∧ ec1.toInt < 65536) (hr2 : 0 ≤ ec2.toInt ∧ ec2.toInt < 65536) (hr3 : 0 ≤ ec3.toInt ∧ ec3.toInt < 65536) :
    MetFree l (⟨o_n0, "compress", "([CII)[B"⟩ : MethodName) (head1 (Jvm.Cond.code (⟨o_n0, "compress", "([CII)[B"⟩ : MethodName) jdk_52_method_16_code 6 (some (.array .byte)) :: ws) ({ frames := 3, cells := 2, slots := 12, locals := 40 } : Room)) (fun argz U => argz = #[(.ref a), (.int 0), (.int 4)] ∧ Z.Warmed39 U.vm ∧ U.heap = h0) (fun _ _ _ _ _ => True) (fun _ U o U' => ∃ v L, o = .returned v ∧ Q5u4 Z a ks ec0 ec1 ec2 ec3 h0 n0 v U'.heap L ∧ FrameEnd U o U' L ({ frames := 3, cells := 2, slots := 12, locals := 40 } : Room).cells ({ frames := 3, cells := 2, slots := 12, locals := 40 } : Room).slots) := by
  refine MetFree.of_bodySF (plainFor_of_name pn_java_lang_StringUTF16) hisR ?_
  intro p e s m args below meth c s₁ Bd hml0 hP hK
  obtain ⟨rfl, hZ, hh⟩ := hP
  have hx := Bd.exec
  have hby := Bd.bytes
  have hml : c.maxLocals = 6 := hml0
  have hown : s.vm.findClass o_n0 = some m.cls := findClass_of_methodNamed Bd.named
  have hnm := (name_of_methodNamed Bd.named Bd.method).1
  have X0 : Stand p l e ({ frames := 3, cells := 2, slots := 12, locals := 40 } : Room) s m #[(.ref a), (.int 0), (.int 4)] below meth c s₁ [] 0 0 := Stand.of_body Bd
  have e0 : s₁.heap = h0 := by rw [← hh, Bd.state]; rfl
  have N0 := Fr.nil n0
  have K0 : Keep h0 h0 [] := Keep.refl _ _
  have G : Gets p e below (s₁.setTop (entryFrame m #[(.ref a), (.int 0), (.int 4)] 6)) (s₁.setTop (mkF m 0 #[.val (.ref a), .val (.int 0), .val (.int 4), .unset, .unset, .unset] [])) := fun t k => castTop (ef_5u4 m a) k
  replace G := o_iloadN (q := 1) G X0.here hx (hb hby d5_0) rfl rfl
  obtain ⟨T1, h1, k1, X1, e1, E1, A1, st1⟩ := newP X0 hx hZ (o_w hw 20 rfl) e0 (g := o_g G) rfl (hb hby d5_1) rfl (by decide) (cap := 4) (by decide) (by decide) (by decide) (by decide)
  obtain ⟨b1, g1⟩ : ∃ z, z = h0.size := ⟨_, rfl⟩
  rw [← g1] at A1 st1
  have ne2 : a ≠ b1 := Nat.ne_of_lt (Nat.lt_of_lt_of_le P4.lt (Nat.le_of_eq g1.symm))
  have ge_b1 : n0 ≤ b1 := Nat.le_trans Z0 (Nat.le_of_eq g1.symm)
  have sz_b1 : h0.size ≤ b1 := Nat.le_trans K0.1 (Nat.le_of_eq g1.symm)
  have Z1 : n0 ≤ h1.size := Nat.le_trans Z0 E1.1
  have K1 : Keep h0 h1 [] := K0.ext E1
  have V1 : Arv Z h1 b1 k1 .byte (4 : Int32) [(.int 0), (.int 0), (.int 0), (.int 0)] (.int 0) := (Arv.new A1 (by decide)).pad (pad_rep [] (.int 0) 4)
  replace G := o_nxs (q := 3) (st := [(.ref b1)]) G st1 rfl
  replace G := o_astoreN (q := 4) (l' := #[.val (.ref a), .val (.int 0), .val (.int 4), .val (.ref b1), .unset, .unset]) G X1.here hx (hb hby d5_3) rfl rfl rfl
  replace G := o_aloadN (q := 5) G X1.here hx (hb hby d5_4) rfl rfl rfl
  replace G := o_iloadN (q := 6) G X1.here hx (hb hby d5_5) rfl rfl
  replace G := o_aloadN (q := 7) G X1.here hx (hb hby d5_6) rfl rfl rfl
  replace G := o_iconst (q := 8) G X1.here hx (hb hby d5_7) (v := (0 : Int32)) (by decide) rfl
  replace G := o_iloadN (q := 9) G X1.here hx (hb hby d5_8) rfl rfl
  rcases hU with hg | ⟨he0, hg⟩ | ⟨he0, he1, hg⟩ | ⟨he0, he1, he2, hg⟩
  have F4 := (P4.ext E1)
  obtain ⟨_, _, ⟨T3, L3, kk3, nn3⟩, -, X3, ⟨Lc3, hQ3, l3, y3, z3⟩, st3⟩ := Jvm.LawKit.callS X1 hx (y := (⟨o_n0, "compress", "([CI[BII)I"⟩ : MethodName)) hown (mvT hZ (o_w hw 32 rfl)) (mvT hZ (o_w hw 33 rfl)) (mvT hZ (o_w hw 30 rfl)) (mvT hZ (o_w hw 34 rfl)) (by decide) (backOf (W := 0) (rm6u4j0 l Z a0 hw [] a b1 ks k1 ec0 ec1 ec2 ec3 h1 n0 Z1 F4 V1 ge_b1 ne2 hg) hZ (o_w hw 34 rfl) (o_w hw 30 rfl) (by decide) (by decide)) (g := o_g G) rfl (by rw [hml]; rfl) (argsL := [(.ref a), (.int 0), (.ref b1), (.int 0), (.int 4)]) (rest := []) (lenOf pd_0 rfl) rfl (by show 2 * 0 + _ ≤ _; exact Nat.le_of_eq rfl) (hb hby d5_9) (fun _ _ => ⟨rfl, e1, (by decide : 1 + 0 ≤ _), (by decide : 4 + 0 ≤ _)⟩)
  dsimp only [Pt.U, Pt.locs, Pt.cells, Pt.slots] at X3 l3 y3 z3 st3 hQ3
  subst l3 y3 z3
  obtain ⟨rfl, N3q, K3q, B3_0⟩ := hQ3
  have Z3 : n0 ≤ T3.heap.size := Nat.le_trans Z1 K3q.1
  have K3 : Keep h0 T3.heap [] := K1.trans K3q (allS (Or.inr sz_b1) all0)
  have N3 := Fr.app N0 N3q
  replace G := o_nxs (q := 12) (st := [(.int 0)]) G st3 rfl
  replace G := o_istore (q := 14) (l' := #[.val (.ref a), .val (.int 0), .val (.int 4), .val (.ref b1), .val (.int 0), .unset]) G X3.here hx (hb hby d5_12) rfl rfl
  replace G := o_iload (q := 16) G X3.here hx (hb hby d5_14) rfl rfl
  replace G := o_iloadN (q := 17) G X3.here hx (hb hby d5_16) rfl rfl
  replace G := o_icmpNo (q := 20) G X3.here hx (hb hby d5_17) (by decide) rfl
  replace G := o_aloadN (q := 21) G X3.here hx (hb hby d5_20) rfl rfl rfl
  replace G := o_iloadN (q := 22) G X3.here hx (hb hby d5_21) rfl rfl
  replace G := o_iloadN (q := 23) G X3.here hx (hb hby d5_22) rfl rfl
  have F7 := ((P0.ext E1).keep K3q (allS ge_b1 all0))
  have F8 := (F4.keep K3q (ninS ne2 nin0))
  obtain ⟨_, _, ⟨T6, L6, kk6, nn6⟩, -, X6, ⟨Lc6, hQ6, l6, y6, z6⟩, st6⟩ := Jvm.LawKit.callS X3 hx (y := (⟨o_n0, "toBytes", "([CII)[B"⟩ : MethodName)) hown (mvT hZ (o_w hw 35 rfl)) (mvT hZ (o_w hw 36 rfl)) (mvT hZ (o_w hw 30 rfl)) (mvT hZ (o_w hw 37 rfl)) (by decide) (backOf (W := 0) (rm7u4 l Z a0 hw [] a ks ec0 ec1 ec2 ec3 T3.heap n0 Z3 F7 P1 P2 P3 F8) hZ (o_w hw 37 rfl) (o_w hw 30 rfl) (by decide) (by decide)) (g := o_g G) rfl (by rw [hml]; rfl) (argsL := [(.ref a), (.int 0), (.int 4)]) (rest := []) (lenOf pd_1 rfl) rfl (by show 2 * 0 + _ ≤ _; exact Nat.le_of_eq rfl) (hb hby d5_23) (fun _ _ => ⟨rfl, rfl, (by decide : 1 + 1 ≤ _), (by decide : 4 + 8 ≤ _)⟩)
  dsimp only [Pt.U, Pt.locs, Pt.cells, Pt.slots] at X6 l6 y6 z6 st6 hQ6
  subst l6 y6 z6
  obtain ⟨b_6, kb_6, rfl, N6q, K6q, B6_0, B6_1⟩ := hQ6
  have ne9 : b1 ≠ b_6 := Nat.ne_of_lt (Nat.lt_of_lt_of_le B3_0.lt B6_0)
  have ne10 : a ≠ b_6 := Nat.ne_of_lt (Nat.lt_of_lt_of_le F8.lt B6_0)
  have ge_b_6 : n0 ≤ b_6 := Nat.le_trans Z3 B6_0
  have sz_b_6 : h0.size ≤ b_6 := Nat.le_trans K3.1 B6_0
  have Z6 : n0 ≤ T6.heap.size := Nat.le_trans Z3 K6q.1
  have K6 : Keep h0 T6.heap [] := K3.trans K6q all0
  have N6 := Fr.app N3 N6q
  replace G := o_nxs (q := 26) (st := [(.ref b_6)]) G st6 rfl
  replace G := o_astore (q := 28) (l' := #[.val (.ref a), .val (.int 0), .val (.int 4), .val (.ref b1), .val (.int 0), .val (.ref b_6)]) G X6.here hx (hb hby d5_26) rfl rfl rfl
  replace G := o_aload (q := 30) G X6.here hx (hb hby d5_28) rfl rfl rfl
  replace G := o_iload (q := 32) G X6.here hx (hb hby d5_30) rfl rfl
  have F12 := (F7.keep K6q all0)
  obtain ⟨_, _, ⟨T11, L11, kk11, nn11⟩, -, X11, ⟨Lc11, hQ11, l11, y11, z11⟩, st11⟩ := Jvm.LawKit.callS X6 hx (y := (⟨o_n0, "getChar", "([BI)C"⟩ : MethodName)) hown (mvT hZ (o_w hw 51 rfl)) (mvT hZ (o_w hw 52 rfl)) (mvT hZ (o_w hw 30 rfl)) (mvT hZ (o_w hw 53 rfl)) (by decide) (backOf (W := 0) (rm11j0 l Z a0 hw [] b_6 kb_6 (8 : Int32) [(.int (nar .byte ((ec0 >>> ((0 : Int32) &&& 31)).toInt8.toInt32))), (.int (nar .byte ((ec0 >>> ((8 : Int32) &&& 31)).toInt8.toInt32))), (.int (nar .byte ((ec1 >>> ((0 : Int32) &&& 31)).toInt8.toInt32))), (.int (nar .byte ((ec1 >>> ((8 : Int32) &&& 31)).toInt8.toInt32))), (.int (nar .byte ((ec2 >>> ((0 : Int32) &&& 31)).toInt8.toInt32))), (.int (nar .byte ((ec2 >>> ((8 : Int32) &&& 31)).toInt8.toInt32))), (.int (nar .byte ((ec3 >>> ((0 : Int32) &&& 31)).toInt8.toInt32))), (.int (nar .byte ((ec3 >>> ((8 : Int32) &&& 31)).toInt8.toInt32)))] (nar .byte ((ec0 >>> ((0 : Int32) &&& 31)).toInt8.toInt32)) (nar .byte ((ec0 >>> ((8 : Int32) &&& 31)).toInt8.toInt32)) T6.heap n0 Z6 F12 P1 P2 P3 B6_1 ⟨by decide, by decide⟩ ⟨by decide, by decide⟩ rfl rfl) hZ (o_w hw 53 rfl) (o_w hw 30 rfl) (by decide) (by decide)) (g := o_g G) rfl (by rw [hml]; rfl) (argsL := [(.ref b_6), (.int 0)]) (rest := []) (lenOf pd_7 rfl) rfl (by show 2 * 0 + _ ≤ _; exact Nat.le_of_eq rfl) (hb hby d5_32) (fun _ _ => ⟨rfl, rfl, (by decide : 2 + 0 ≤ _), (by decide : 12 + 0 ≤ _)⟩)
  dsimp only [Pt.U, Pt.locs, Pt.cells, Pt.slots] at X11 l11 y11 z11 st11 hQ11
  subst l11 y11 z11
  obtain ⟨rfl, N11q, e11⟩ := hQ11
  have N11 := Fr.app N6 N11q
  replace G := o_nxs (q := 35) (st := [(.int (((((nar .byte ((ec0 >>> ((0 : Int32) &&& 31)).toInt8.toInt32)) &&& (255 : Int32)) <<< ((0 : Int32) &&& 31)) ||| (((nar .byte ((ec0 >>> ((8 : Int32) &&& 31)).toInt8.toInt32)) &&& (255 : Int32)) <<< ((8 : Int32) &&& 31))).toUInt32.toUInt16.toUInt32.toInt32))]) G st11 rfl
  replace G := o_sipush (q := 38) G X11.here hx (hb hby d5_35) (v := (255 : Int32)) (by decide) rfl
  have hc38_13 : (255 : Int32) < (((((nar .byte ((ec0 >>> ((0 : Int32) &&& 31)).toInt8.toInt32)) &&& (255 : Int32)) <<< ((0 : Int32) &&& 31)) ||| (((nar .byte ((ec0 >>> ((8 : Int32) &&& 31)).toInt8.toInt32)) &&& (255 : Int32)) <<< ((8 : Int32) &&& 31))).toUInt32.toUInt16.toUInt32.toInt32) := o_gc hr0 hg
  replace G := o_icmpYes (q := 54) G X11.here hx (hb hby d5_38) (tlt hc38_13).2.2.1 (by decide) (by decide)
  replace G := o_aload (q := 56) G X11.here hx (hb hby d5_54) rfl rfl rfl
  obtain ⟨fs, hr, hrun, hended, hW, hsame⟩ := X11.leave (v := some (.ref b_6)) (fun h => by rw [Bd.returns] at h; cases h)
  refine ⟨_, _, G _ (retOut X11 hx Bd.returns rfl (Or.inr (Or.inr (Or.inr (Or.inr ⟨rfl, rfl, rfl⟩)))) (hb hby d5_56) hr), hrun, hended, _, _, rfl, ?_, ⟨_, rfl⟩, hW, hsame.mono (by decide) (by decide)⟩
  show Q5u4 Z a ks ec0 ec1 ec2 ec3 h0 n0 _ T11.heap _
  rw [e11]
  exact ⟨b_6, kb_6, rfl, N11, K6, sz_b_6, B6_1⟩
  have F15 := (P4.ext E1)
  obtain ⟨_, _, ⟨T14, L14, kk14, nn14⟩, -, X14, ⟨Lc14, hQ14, l14, y14, z14⟩, st14⟩ := Jvm.LawKit.callS X1 hx (y := (⟨o_n0, "compress", "([CI[BII)I"⟩ : MethodName)) hown (mvT hZ (o_w hw 32 rfl)) (mvT hZ (o_w hw 33 rfl)) (mvT hZ (o_w hw 30 rfl)) (mvT hZ (o_w hw 34 rfl)) (by decide) (backOf (W := 0) (rm6u4j1 l Z a0 hw [] a b1 ks k1 ec0 ec1 ec2 ec3 h1 n0 Z1 F15 V1 ge_b1 ne2 he0 hg) hZ (o_w hw 34 rfl) (o_w hw 30 rfl) (by decide) (by decide)) (g := o_g G) rfl (by rw [hml]; rfl) (argsL := [(.ref a), (.int 0), (.ref b1), (.int 0), (.int 4)]) (rest := []) (lenOf pd_0 rfl) rfl (by show 2 * 0 + _ ≤ _; exact Nat.le_of_eq rfl) (hb hby d5_9) (fun _ _ => ⟨rfl, e1, (by decide : 1 + 0 ≤ _), (by decide : 4 + 0 ≤ _)⟩)
  dsimp only [Pt.U, Pt.locs, Pt.cells, Pt.slots] at X14 l14 y14 z14 st14 hQ14
  subst l14 y14 z14
  obtain ⟨rfl, N14q, K14q, B14_0⟩ := hQ14
  have Z14 : n0 ≤ T14.heap.size := Nat.le_trans Z1 K14q.1
  have K14 : Keep h0 T14.heap [] := K1.trans K14q (allS (Or.inr sz_b1) all0)
  have N14 := Fr.app N0 N14q
  replace G := o_nxs (q := 12) (st := [(.int 1)]) G st14 rfl
  replace G := o_istore (q := 14) (l' := #[.val (.ref a), .val (.int 0), .val (.int 4), .val (.ref b1), .val (.int 1), .unset]) G X14.here hx (hb hby d5_12) rfl rfl
  replace G := o_iload (q := 16) G X14.here hx (hb hby d5_14) rfl rfl
  replace G := o_iloadN (q := 17) G X14.here hx (hb hby d5_16) rfl rfl
  replace G := o_icmpNo (q := 20) G X14.here hx (hb hby d5_17) (by decide) rfl
  replace G := o_aloadN (q := 21) G X14.here hx (hb hby d5_20) rfl rfl rfl
  replace G := o_iloadN (q := 22) G X14.here hx (hb hby d5_21) rfl rfl
  replace G := o_iloadN (q := 23) G X14.here hx (hb hby d5_22) rfl rfl
  have F18 := ((P0.ext E1).keep K14q (allS ge_b1 all0))
  have F19 := (F15.keep K14q (ninS ne2 nin0))
  obtain ⟨_, _, ⟨T17, L17, kk17, nn17⟩, -, X17, ⟨Lc17, hQ17, l17, y17, z17⟩, st17⟩ := Jvm.LawKit.callS X14 hx (y := (⟨o_n0, "toBytes", "([CII)[B"⟩ : MethodName)) hown (mvT hZ (o_w hw 35 rfl)) (mvT hZ (o_w hw 36 rfl)) (mvT hZ (o_w hw 30 rfl)) (mvT hZ (o_w hw 37 rfl)) (by decide) (backOf (W := 0) (rm7u4 l Z a0 hw [] a ks ec0 ec1 ec2 ec3 T14.heap n0 Z14 F18 P1 P2 P3 F19) hZ (o_w hw 37 rfl) (o_w hw 30 rfl) (by decide) (by decide)) (g := o_g G) rfl (by rw [hml]; rfl) (argsL := [(.ref a), (.int 0), (.int 4)]) (rest := []) (lenOf pd_1 rfl) rfl (by show 2 * 0 + _ ≤ _; exact Nat.le_of_eq rfl) (hb hby d5_23) (fun _ _ => ⟨rfl, rfl, (by decide : 1 + 1 ≤ _), (by decide : 4 + 8 ≤ _)⟩)
  dsimp only [Pt.U, Pt.locs, Pt.cells, Pt.slots] at X17 l17 y17 z17 st17 hQ17
  subst l17 y17 z17
  obtain ⟨b_17, kb_17, rfl, N17q, K17q, B17_0, B17_1⟩ := hQ17
  have ne20 : b1 ≠ b_17 := Nat.ne_of_lt (Nat.lt_of_lt_of_le B14_0.lt B17_0)
  have ne21 : a ≠ b_17 := Nat.ne_of_lt (Nat.lt_of_lt_of_le F19.lt B17_0)
  have ge_b_17 : n0 ≤ b_17 := Nat.le_trans Z14 B17_0
  have sz_b_17 : h0.size ≤ b_17 := Nat.le_trans K14.1 B17_0
  have Z17 : n0 ≤ T17.heap.size := Nat.le_trans Z14 K17q.1
  have K17 : Keep h0 T17.heap [] := K14.trans K17q all0
  have N17 := Fr.app N14 N17q
  replace G := o_nxs (q := 26) (st := [(.ref b_17)]) G st17 rfl
  replace G := o_astore (q := 28) (l' := #[.val (.ref a), .val (.int 0), .val (.int 4), .val (.ref b1), .val (.int 1), .val (.ref b_17)]) G X17.here hx (hb hby d5_26) rfl rfl rfl
  replace G := o_aload (q := 30) G X17.here hx (hb hby d5_28) rfl rfl rfl
  replace G := o_iload (q := 32) G X17.here hx (hb hby d5_30) rfl rfl
  have F23 := (F18.keep K17q all0)
  obtain ⟨_, _, ⟨T22, L22, kk22, nn22⟩, -, X22, ⟨Lc22, hQ22, l22, y22, z22⟩, st22⟩ := Jvm.LawKit.callS X17 hx (y := (⟨o_n0, "getChar", "([BI)C"⟩ : MethodName)) hown (mvT hZ (o_w hw 51 rfl)) (mvT hZ (o_w hw 52 rfl)) (mvT hZ (o_w hw 30 rfl)) (mvT hZ (o_w hw 53 rfl)) (by decide) (backOf (W := 0) (rm11j1 l Z a0 hw [] b_17 kb_17 (8 : Int32) [(.int (nar .byte ((ec0 >>> ((0 : Int32) &&& 31)).toInt8.toInt32))), (.int (nar .byte ((ec0 >>> ((8 : Int32) &&& 31)).toInt8.toInt32))), (.int (nar .byte ((ec1 >>> ((0 : Int32) &&& 31)).toInt8.toInt32))), (.int (nar .byte ((ec1 >>> ((8 : Int32) &&& 31)).toInt8.toInt32))), (.int (nar .byte ((ec2 >>> ((0 : Int32) &&& 31)).toInt8.toInt32))), (.int (nar .byte ((ec2 >>> ((8 : Int32) &&& 31)).toInt8.toInt32))), (.int (nar .byte ((ec3 >>> ((0 : Int32) &&& 31)).toInt8.toInt32))), (.int (nar .byte ((ec3 >>> ((8 : Int32) &&& 31)).toInt8.toInt32)))] (nar .byte ((ec1 >>> ((0 : Int32) &&& 31)).toInt8.toInt32)) (nar .byte ((ec1 >>> ((8 : Int32) &&& 31)).toInt8.toInt32)) T17.heap n0 Z17 F23 P1 P2 P3 B17_1 ⟨by decide, by decide⟩ ⟨by decide, by decide⟩ rfl rfl) hZ (o_w hw 53 rfl) (o_w hw 30 rfl) (by decide) (by decide)) (g := o_g G) rfl (by rw [hml]; rfl) (argsL := [(.ref b_17), (.int 1)]) (rest := []) (lenOf pd_7 rfl) rfl (by show 2 * 0 + _ ≤ _; exact Nat.le_of_eq rfl) (hb hby d5_32) (fun _ _ => ⟨rfl, rfl, (by decide : 2 + 0 ≤ _), (by decide : 12 + 0 ≤ _)⟩)
  dsimp only [Pt.U, Pt.locs, Pt.cells, Pt.slots] at X22 l22 y22 z22 st22 hQ22
  subst l22 y22 z22
  obtain ⟨rfl, N22q, e22⟩ := hQ22
  have N22 := Fr.app N17 N22q
  replace G := o_nxs (q := 35) (st := [(.int (((((nar .byte ((ec1 >>> ((0 : Int32) &&& 31)).toInt8.toInt32)) &&& (255 : Int32)) <<< ((0 : Int32) &&& 31)) ||| (((nar .byte ((ec1 >>> ((8 : Int32) &&& 31)).toInt8.toInt32)) &&& (255 : Int32)) <<< ((8 : Int32) &&& 31))).toUInt32.toUInt16.toUInt32.toInt32))]) G st22 rfl
  replace G := o_sipush (q := 38) G X22.here hx (hb hby d5_35) (v := (255 : Int32)) (by decide) rfl
  have hc38_24 : (255 : Int32) < (((((nar .byte ((ec1 >>> ((0 : Int32) &&& 31)).toInt8.toInt32)) &&& (255 : Int32)) <<< ((0 : Int32) &&& 31)) ||| (((nar .byte ((ec1 >>> ((8 : Int32) &&& 31)).toInt8.toInt32)) &&& (255 : Int32)) <<< ((8 : Int32) &&& 31))).toUInt32.toUInt16.toUInt32.toInt32) := o_gc hr1 hg
  replace G := o_icmpYes (q := 54) G X22.here hx (hb hby d5_38) (tlt hc38_24).2.2.1 (by decide) (by decide)
  replace G := o_aload (q := 56) G X22.here hx (hb hby d5_54) rfl rfl rfl
  obtain ⟨fs, hr, hrun, hended, hW, hsame⟩ := X22.leave (v := some (.ref b_17)) (fun h => by rw [Bd.returns] at h; cases h)
  refine ⟨_, _, G _ (retOut X22 hx Bd.returns rfl (Or.inr (Or.inr (Or.inr (Or.inr ⟨rfl, rfl, rfl⟩)))) (hb hby d5_56) hr), hrun, hended, _, _, rfl, ?_, ⟨_, rfl⟩, hW, hsame.mono (by decide) (by decide)⟩
  show Q5u4 Z a ks ec0 ec1 ec2 ec3 h0 n0 _ T22.heap _
  rw [e22]
  exact ⟨b_17, kb_17, rfl, N22, K17, sz_b_17, B17_1⟩
  have F26 := (P4.ext E1)
  obtain ⟨_, _, ⟨T25, L25, kk25, nn25⟩, -, X25, ⟨Lc25, hQ25, l25, y25, z25⟩, st25⟩ := Jvm.LawKit.callS X1 hx (y := (⟨o_n0, "compress", "([CI[BII)I"⟩ : MethodName)) hown (mvT hZ (o_w hw 32 rfl)) (mvT hZ (o_w hw 33 rfl)) (mvT hZ (o_w hw 30 rfl)) (mvT hZ (o_w hw 34 rfl)) (by decide) (backOf (W := 0) (rm6u4j2 l Z a0 hw [] a b1 ks k1 ec0 ec1 ec2 ec3 h1 n0 Z1 F26 V1 ge_b1 ne2 he0 he1 hg) hZ (o_w hw 34 rfl) (o_w hw 30 rfl) (by decide) (by decide)) (g := o_g G) rfl (by rw [hml]; rfl) (argsL := [(.ref a), (.int 0), (.ref b1), (.int 0), (.int 4)]) (rest := []) (lenOf pd_0 rfl) rfl (by show 2 * 0 + _ ≤ _; exact Nat.le_of_eq rfl) (hb hby d5_9) (fun _ _ => ⟨rfl, e1, (by decide : 1 + 0 ≤ _), (by decide : 4 + 0 ≤ _)⟩)
  dsimp only [Pt.U, Pt.locs, Pt.cells, Pt.slots] at X25 l25 y25 z25 st25 hQ25
  subst l25 y25 z25
  obtain ⟨rfl, N25q, K25q, B25_0⟩ := hQ25
  have Z25 : n0 ≤ T25.heap.size := Nat.le_trans Z1 K25q.1
  have K25 : Keep h0 T25.heap [] := K1.trans K25q (allS (Or.inr sz_b1) all0)
  have N25 := Fr.app N0 N25q
  replace G := o_nxs (q := 12) (st := [(.int 2)]) G st25 rfl
  replace G := o_istore (q := 14) (l' := #[.val (.ref a), .val (.int 0), .val (.int 4), .val (.ref b1), .val (.int 2), .unset]) G X25.here hx (hb hby d5_12) rfl rfl
  replace G := o_iload (q := 16) G X25.here hx (hb hby d5_14) rfl rfl
  replace G := o_iloadN (q := 17) G X25.here hx (hb hby d5_16) rfl rfl
  replace G := o_icmpNo (q := 20) G X25.here hx (hb hby d5_17) (by decide) rfl
  replace G := o_aloadN (q := 21) G X25.here hx (hb hby d5_20) rfl rfl rfl
  replace G := o_iloadN (q := 22) G X25.here hx (hb hby d5_21) rfl rfl
  replace G := o_iloadN (q := 23) G X25.here hx (hb hby d5_22) rfl rfl
  have F29 := ((P0.ext E1).keep K25q (allS ge_b1 all0))
  have F30 := (F26.keep K25q (ninS ne2 nin0))
  obtain ⟨_, _, ⟨T28, L28, kk28, nn28⟩, -, X28, ⟨Lc28, hQ28, l28, y28, z28⟩, st28⟩ := Jvm.LawKit.callS X25 hx (y := (⟨o_n0, "toBytes", "([CII)[B"⟩ : MethodName)) hown (mvT hZ (o_w hw 35 rfl)) (mvT hZ (o_w hw 36 rfl)) (mvT hZ (o_w hw 30 rfl)) (mvT hZ (o_w hw 37 rfl)) (by decide) (backOf (W := 0) (rm7u4 l Z a0 hw [] a ks ec0 ec1 ec2 ec3 T25.heap n0 Z25 F29 P1 P2 P3 F30) hZ (o_w hw 37 rfl) (o_w hw 30 rfl) (by decide) (by decide)) (g := o_g G) rfl (by rw [hml]; rfl) (argsL := [(.ref a), (.int 0), (.int 4)]) (rest := []) (lenOf pd_1 rfl) rfl (by show 2 * 0 + _ ≤ _; exact Nat.le_of_eq rfl) (hb hby d5_23) (fun _ _ => ⟨rfl, rfl, (by decide : 1 + 1 ≤ _), (by decide : 4 + 8 ≤ _)⟩)
  dsimp only [Pt.U, Pt.locs, Pt.cells, Pt.slots] at X28 l28 y28 z28 st28 hQ28
  subst l28 y28 z28
  obtain ⟨b_28, kb_28, rfl, N28q, K28q, B28_0, B28_1⟩ := hQ28
  have ne31 : b1 ≠ b_28 := Nat.ne_of_lt (Nat.lt_of_lt_of_le B25_0.lt B28_0)
  have ne32 : a ≠ b_28 := Nat.ne_of_lt (Nat.lt_of_lt_of_le F30.lt B28_0)
  have ge_b_28 : n0 ≤ b_28 := Nat.le_trans Z25 B28_0
  have sz_b_28 : h0.size ≤ b_28 := Nat.le_trans K25.1 B28_0
  have Z28 : n0 ≤ T28.heap.size := Nat.le_trans Z25 K28q.1
  have K28 : Keep h0 T28.heap [] := K25.trans K28q all0
  have N28 := Fr.app N25 N28q
  replace G := o_nxs (q := 26) (st := [(.ref b_28)]) G st28 rfl
  replace G := o_astore (q := 28) (l' := #[.val (.ref a), .val (.int 0), .val (.int 4), .val (.ref b1), .val (.int 2), .val (.ref b_28)]) G X28.here hx (hb hby d5_26) rfl rfl rfl
  replace G := o_aload (q := 30) G X28.here hx (hb hby d5_28) rfl rfl rfl
  replace G := o_iload (q := 32) G X28.here hx (hb hby d5_30) rfl rfl
  have F34 := (F29.keep K28q all0)
  obtain ⟨_, _, ⟨T33, L33, kk33, nn33⟩, -, X33, ⟨Lc33, hQ33, l33, y33, z33⟩, st33⟩ := Jvm.LawKit.callS X28 hx (y := (⟨o_n0, "getChar", "([BI)C"⟩ : MethodName)) hown (mvT hZ (o_w hw 51 rfl)) (mvT hZ (o_w hw 52 rfl)) (mvT hZ (o_w hw 30 rfl)) (mvT hZ (o_w hw 53 rfl)) (by decide) (backOf (W := 0) (rm11j2 l Z a0 hw [] b_28 kb_28 (8 : Int32) [(.int (nar .byte ((ec0 >>> ((0 : Int32) &&& 31)).toInt8.toInt32))), (.int (nar .byte ((ec0 >>> ((8 : Int32) &&& 31)).toInt8.toInt32))), (.int (nar .byte ((ec1 >>> ((0 : Int32) &&& 31)).toInt8.toInt32))), (.int (nar .byte ((ec1 >>> ((8 : Int32) &&& 31)).toInt8.toInt32))), (.int (nar .byte ((ec2 >>> ((0 : Int32) &&& 31)).toInt8.toInt32))), (.int (nar .byte ((ec2 >>> ((8 : Int32) &&& 31)).toInt8.toInt32))), (.int (nar .byte ((ec3 >>> ((0 : Int32) &&& 31)).toInt8.toInt32))), (.int (nar .byte ((ec3 >>> ((8 : Int32) &&& 31)).toInt8.toInt32)))] (nar .byte ((ec2 >>> ((0 : Int32) &&& 31)).toInt8.toInt32)) (nar .byte ((ec2 >>> ((8 : Int32) &&& 31)).toInt8.toInt32)) T28.heap n0 Z28 F34 P1 P2 P3 B28_1 ⟨by decide, by decide⟩ ⟨by decide, by decide⟩ rfl rfl) hZ (o_w hw 53 rfl) (o_w hw 30 rfl) (by decide) (by decide)) (g := o_g G) rfl (by rw [hml]; rfl) (argsL := [(.ref b_28), (.int 2)]) (rest := []) (lenOf pd_7 rfl) rfl (by show 2 * 0 + _ ≤ _; exact Nat.le_of_eq rfl) (hb hby d5_32) (fun _ _ => ⟨rfl, rfl, (by decide : 2 + 0 ≤ _), (by decide : 12 + 0 ≤ _)⟩)
  dsimp only [Pt.U, Pt.locs, Pt.cells, Pt.slots] at X33 l33 y33 z33 st33 hQ33
  subst l33 y33 z33
  obtain ⟨rfl, N33q, e33⟩ := hQ33
  have N33 := Fr.app N28 N33q
  replace G := o_nxs (q := 35) (st := [(.int (((((nar .byte ((ec2 >>> ((0 : Int32) &&& 31)).toInt8.toInt32)) &&& (255 : Int32)) <<< ((0 : Int32) &&& 31)) ||| (((nar .byte ((ec2 >>> ((8 : Int32) &&& 31)).toInt8.toInt32)) &&& (255 : Int32)) <<< ((8 : Int32) &&& 31))).toUInt32.toUInt16.toUInt32.toInt32))]) G st33 rfl
  replace G := o_sipush (q := 38) G X33.here hx (hb hby d5_35) (v := (255 : Int32)) (by decide) rfl
  have hc38_35 : (255 : Int32) < (((((nar .byte ((ec2 >>> ((0 : Int32) &&& 31)).toInt8.toInt32)) &&& (255 : Int32)) <<< ((0 : Int32) &&& 31)) ||| (((nar .byte ((ec2 >>> ((8 : Int32) &&& 31)).toInt8.toInt32)) &&& (255 : Int32)) <<< ((8 : Int32) &&& 31))).toUInt32.toUInt16.toUInt32.toInt32) := o_gc hr2 hg
  replace G := o_icmpYes (q := 54) G X33.here hx (hb hby d5_38) (tlt hc38_35).2.2.1 (by decide) (by decide)
  replace G := o_aload (q := 56) G X33.here hx (hb hby d5_54) rfl rfl rfl
  obtain ⟨fs, hr, hrun, hended, hW, hsame⟩ := X33.leave (v := some (.ref b_28)) (fun h => by rw [Bd.returns] at h; cases h)
  refine ⟨_, _, G _ (retOut X33 hx Bd.returns rfl (Or.inr (Or.inr (Or.inr (Or.inr ⟨rfl, rfl, rfl⟩)))) (hb hby d5_56) hr), hrun, hended, _, _, rfl, ?_, ⟨_, rfl⟩, hW, hsame.mono (by decide) (by decide)⟩
  show Q5u4 Z a ks ec0 ec1 ec2 ec3 h0 n0 _ T33.heap _
  rw [e33]
  exact ⟨b_28, kb_28, rfl, N33, K28, sz_b_28, B28_1⟩
  have F37 := (P4.ext E1)
  obtain ⟨_, _, ⟨T36, L36, kk36, nn36⟩, -, X36, ⟨Lc36, hQ36, l36, y36, z36⟩, st36⟩ := Jvm.LawKit.callS X1 hx (y := (⟨o_n0, "compress", "([CI[BII)I"⟩ : MethodName)) hown (mvT hZ (o_w hw 32 rfl)) (mvT hZ (o_w hw 33 rfl)) (mvT hZ (o_w hw 30 rfl)) (mvT hZ (o_w hw 34 rfl)) (by decide) (backOf (W := 0) (rm6u4j3 l Z a0 hw [] a b1 ks k1 ec0 ec1 ec2 ec3 h1 n0 Z1 F37 V1 ge_b1 ne2 he0 he1 he2 hg) hZ (o_w hw 34 rfl) (o_w hw 30 rfl) (by decide) (by decide)) (g := o_g G) rfl (by rw [hml]; rfl) (argsL := [(.ref a), (.int 0), (.ref b1), (.int 0), (.int 4)]) (rest := []) (lenOf pd_0 rfl) rfl (by show 2 * 0 + _ ≤ _; exact Nat.le_of_eq rfl) (hb hby d5_9) (fun _ _ => ⟨rfl, e1, (by decide : 1 + 0 ≤ _), (by decide : 4 + 0 ≤ _)⟩)
  dsimp only [Pt.U, Pt.locs, Pt.cells, Pt.slots] at X36 l36 y36 z36 st36 hQ36
  subst l36 y36 z36
  obtain ⟨rfl, N36q, K36q, B36_0⟩ := hQ36
  have Z36 : n0 ≤ T36.heap.size := Nat.le_trans Z1 K36q.1
  have K36 : Keep h0 T36.heap [] := K1.trans K36q (allS (Or.inr sz_b1) all0)
  have N36 := Fr.app N0 N36q
  replace G := o_nxs (q := 12) (st := [(.int 3)]) G st36 rfl
  replace G := o_istore (q := 14) (l' := #[.val (.ref a), .val (.int 0), .val (.int 4), .val (.ref b1), .val (.int 3), .unset]) G X36.here hx (hb hby d5_12) rfl rfl
  replace G := o_iload (q := 16) G X36.here hx (hb hby d5_14) rfl rfl
  replace G := o_iloadN (q := 17) G X36.here hx (hb hby d5_16) rfl rfl
  replace G := o_icmpNo (q := 20) G X36.here hx (hb hby d5_17) (by decide) rfl
  replace G := o_aloadN (q := 21) G X36.here hx (hb hby d5_20) rfl rfl rfl
  replace G := o_iloadN (q := 22) G X36.here hx (hb hby d5_21) rfl rfl
  replace G := o_iloadN (q := 23) G X36.here hx (hb hby d5_22) rfl rfl
  have F40 := ((P0.ext E1).keep K36q (allS ge_b1 all0))
  have F41 := (F37.keep K36q (ninS ne2 nin0))
  obtain ⟨_, _, ⟨T39, L39, kk39, nn39⟩, -, X39, ⟨Lc39, hQ39, l39, y39, z39⟩, st39⟩ := Jvm.LawKit.callS X36 hx (y := (⟨o_n0, "toBytes", "([CII)[B"⟩ : MethodName)) hown (mvT hZ (o_w hw 35 rfl)) (mvT hZ (o_w hw 36 rfl)) (mvT hZ (o_w hw 30 rfl)) (mvT hZ (o_w hw 37 rfl)) (by decide) (backOf (W := 0) (rm7u4 l Z a0 hw [] a ks ec0 ec1 ec2 ec3 T36.heap n0 Z36 F40 P1 P2 P3 F41) hZ (o_w hw 37 rfl) (o_w hw 30 rfl) (by decide) (by decide)) (g := o_g G) rfl (by rw [hml]; rfl) (argsL := [(.ref a), (.int 0), (.int 4)]) (rest := []) (lenOf pd_1 rfl) rfl (by show 2 * 0 + _ ≤ _; exact Nat.le_of_eq rfl) (hb hby d5_23) (fun _ _ => ⟨rfl, rfl, (by decide : 1 + 1 ≤ _), (by decide : 4 + 8 ≤ _)⟩)
  dsimp only [Pt.U, Pt.locs, Pt.cells, Pt.slots] at X39 l39 y39 z39 st39 hQ39
  subst l39 y39 z39
  obtain ⟨b_39, kb_39, rfl, N39q, K39q, B39_0, B39_1⟩ := hQ39
  have ne42 : b1 ≠ b_39 := Nat.ne_of_lt (Nat.lt_of_lt_of_le B36_0.lt B39_0)
  have ne43 : a ≠ b_39 := Nat.ne_of_lt (Nat.lt_of_lt_of_le F41.lt B39_0)
  have ge_b_39 : n0 ≤ b_39 := Nat.le_trans Z36 B39_0
  have sz_b_39 : h0.size ≤ b_39 := Nat.le_trans K36.1 B39_0
  have Z39 : n0 ≤ T39.heap.size := Nat.le_trans Z36 K39q.1
  have K39 : Keep h0 T39.heap [] := K36.trans K39q all0
  have N39 := Fr.app N36 N39q
  replace G := o_nxs (q := 26) (st := [(.ref b_39)]) G st39 rfl
  replace G := o_astore (q := 28) (l' := #[.val (.ref a), .val (.int 0), .val (.int 4), .val (.ref b1), .val (.int 3), .val (.ref b_39)]) G X39.here hx (hb hby d5_26) rfl rfl rfl
  replace G := o_aload (q := 30) G X39.here hx (hb hby d5_28) rfl rfl rfl
  replace G := o_iload (q := 32) G X39.here hx (hb hby d5_30) rfl rfl
  have F45 := (F40.keep K39q all0)
  obtain ⟨_, _, ⟨T44, L44, kk44, nn44⟩, -, X44, ⟨Lc44, hQ44, l44, y44, z44⟩, st44⟩ := Jvm.LawKit.callS X39 hx (y := (⟨o_n0, "getChar", "([BI)C"⟩ : MethodName)) hown (mvT hZ (o_w hw 51 rfl)) (mvT hZ (o_w hw 52 rfl)) (mvT hZ (o_w hw 30 rfl)) (mvT hZ (o_w hw 53 rfl)) (by decide) (backOf (W := 0) (rm11j3 l Z a0 hw [] b_39 kb_39 (8 : Int32) [(.int (nar .byte ((ec0 >>> ((0 : Int32) &&& 31)).toInt8.toInt32))), (.int (nar .byte ((ec0 >>> ((8 : Int32) &&& 31)).toInt8.toInt32))), (.int (nar .byte ((ec1 >>> ((0 : Int32) &&& 31)).toInt8.toInt32))), (.int (nar .byte ((ec1 >>> ((8 : Int32) &&& 31)).toInt8.toInt32))), (.int (nar .byte ((ec2 >>> ((0 : Int32) &&& 31)).toInt8.toInt32))), (.int (nar .byte ((ec2 >>> ((8 : Int32) &&& 31)).toInt8.toInt32))), (.int (nar .byte ((ec3 >>> ((0 : Int32) &&& 31)).toInt8.toInt32))), (.int (nar .byte ((ec3 >>> ((8 : Int32) &&& 31)).toInt8.toInt32)))] (nar .byte ((ec3 >>> ((0 : Int32) &&& 31)).toInt8.toInt32)) (nar .byte ((ec3 >>> ((8 : Int32) &&& 31)).toInt8.toInt32)) T39.heap n0 Z39 F45 P1 P2 P3 B39_1 ⟨by decide, by decide⟩ ⟨by decide, by decide⟩ rfl rfl) hZ (o_w hw 53 rfl) (o_w hw 30 rfl) (by decide) (by decide)) (g := o_g G) rfl (by rw [hml]; rfl) (argsL := [(.ref b_39), (.int 3)]) (rest := []) (lenOf pd_7 rfl) rfl (by show 2 * 0 + _ ≤ _; exact Nat.le_of_eq rfl) (hb hby d5_32) (fun _ _ => ⟨rfl, rfl, (by decide : 2 + 0 ≤ _), (by decide : 12 + 0 ≤ _)⟩)
  dsimp only [Pt.U, Pt.locs, Pt.cells, Pt.slots] at X44 l44 y44 z44 st44 hQ44
  subst l44 y44 z44
  obtain ⟨rfl, N44q, e44⟩ := hQ44
  have N44 := Fr.app N39 N44q
  replace G := o_nxs (q := 35) (st := [(.int (((((nar .byte ((ec3 >>> ((0 : Int32) &&& 31)).toInt8.toInt32)) &&& (255 : Int32)) <<< ((0 : Int32) &&& 31)) ||| (((nar .byte ((ec3 >>> ((8 : Int32) &&& 31)).toInt8.toInt32)) &&& (255 : Int32)) <<< ((8 : Int32) &&& 31))).toUInt32.toUInt16.toUInt32.toInt32))]) G st44 rfl
  replace G := o_sipush (q := 38) G X44.here hx (hb hby d5_35) (v := (255 : Int32)) (by decide) rfl
  have hc38_46 : (255 : Int32) < (((((nar .byte ((ec3 >>> ((0 : Int32) &&& 31)).toInt8.toInt32)) &&& (255 : Int32)) <<< ((0 : Int32) &&& 31)) ||| (((nar .byte ((ec3 >>> ((8 : Int32) &&& 31)).toInt8.toInt32)) &&& (255 : Int32)) <<< ((8 : Int32) &&& 31))).toUInt32.toUInt16.toUInt32.toInt32) := o_gc hr3 hg
  replace G := o_icmpYes (q := 54) G X44.here hx (hb hby d5_38) (tlt hc38_46).2.2.1 (by decide) (by decide)
  replace G := o_aload (q := 56) G X44.here hx (hb hby d5_54) rfl rfl rfl
  obtain ⟨fs, hr, hrun, hended, hW, hsame⟩ := X44.leave (v := some (.ref b_39)) (fun h => by rw [Bd.returns] at h; cases h)
  refine ⟨_, _, G _ (retOut X44 hx Bd.returns rfl (Or.inr (Or.inr (Or.inr (Or.inr ⟨rfl, rfl, rfl⟩)))) (hb hby d5_56) hr), hrun, hended, _, _, rfl, ?_, ⟨_, rfl⟩, hW, hsame.mono (by decide) (by decide)⟩
  show Q5u4 Z a ks ec0 ec1 ec2 ec3 h0 n0 _ T44.heap _
  rw [e44]
  exact ⟨b_39, kb_39, rfl, N44, K39, sz_b_39, B39_1⟩
theorem ef_3u4 (m : MethodId) (x0 : Addr) (x1 : Addr) : entryFrame m #[(.ref x0), (.ref x1), (.int 0), (.int 4), .null] 6 = mkF m 0 #[.val (.ref x0), .val (.ref x1), .val (.int 0), .val (.int 4), .val .null, .unset] [] := by first | (simp [entryFrame, mkF, argsToLocals, Value.category]; done) | rfl
def Q3u4 (Z : State) (tt : Addr) (a : Addr) (ks : ClassId) (cw : Int32) (ec0 : Int32) (ec1 : Int32) (ec2 : Int32) (ec3 : Int32) (h0 : Heap) (n0 : Nat) (v : Option Value) (h : Heap) (L : List Loc) : Prop := ∃ (b : Addr) (kb : ClassId), v = none ∧ Fr n0 L ∧ Keep h0 h [tt] ∧ (Fld Z h tt o_n1 "value" "[B" (.ref b)) ∧ (Fld Z h tt o_n1 "coder" "B" (.int 1)) ∧ h0.size ≤ b ∧ (Arv Z h b kb .byte (8 : Int32) [(.int (nar .byte ((ec0 >>> ((0 : Int32) &&& 31)).toInt8.toInt32))), (.int (nar .byte ((ec0 >>> ((8 : Int32) &&& 31)).toInt8.toInt32))), (.int (nar .byte ((ec1 >>> ((0 : Int32) &&& 31)).toInt8.toInt32))), (.int (nar .byte ((ec1 >>> ((8 : Int32) &&& 31)).toInt8.toInt32))), (.int (nar .byte ((ec2 >>> ((0 : Int32) &&& 31)).toInt8.toInt32))), (.int (nar .byte ((ec2 >>> ((8 : Int32) &&& 31)).toInt8.toInt32))), (.int (nar .byte ((ec3 >>> ((0 : Int32) &&& 31)).toInt8.toInt32))), (.int (nar .byte ((ec3 >>> ((8 : Int32) &&& 31)).toInt8.toInt32)))] (.int 0))
set_option maxRecDepth 65536 in
set_option maxHeartbeats 40000000 in
theorem rm3u4 (l : Launch) (Z : State) (a0 : Array Value) (hw : ∀ d ∈ tables_1, d.before a0 Z = true) (ws : List Jvm.Cond) (tt : Addr) (a : Addr) (ks : ClassId) (cw : Int32) (ec0 : Int32) (ec1 : Int32) (ec2 : Int32) (ec3 : Int32) (h0 : Heap) (n0 : Nat) (Z0 : n0 ≤ h0.size) (P0 : Old Z n0 h0) (P1 : Sta Z Z.heap o_n0 "$assertionsDisabled" "Z" (.int 1)) (P2 : Sta Z Z.heap o_n0 "HI_BYTE_SHIFT" "I" (.int 0)) (P3 : Sta Z Z.heap o_n0 "LO_BYTE_SHIFT" "I" (.int 8)) (P4 : Sta Z Z.heap o_n1 "COMPACT_STRINGS" "Z" (.int cw)) (P5 : Fld Z h0 tt o_n1 "value" "[B" .null) (P6 : Fld Z h0 tt o_n1 "coder" "B" (.int 0)) (P7 : Exa Z h0 tt o_n1) (P8 : n0 ≤ tt) (P9 : Arv Z h0 a ks .char (4 : Int32) [(.int ec0), (.int ec1), (.int ec2), (.int ec3)] (.int 0)) (hcw : ¬ cw = (0 : Int32)) (hU : (((255 : Int32) < ec0)) ∨ (¬ ((255 : Int32) < ec0) ∧ ((255 : Int32) < ec1)) ∨ (¬ ((255 : Int32) < ec0) ∧ ¬ ((255 : Int32) < ec1) ∧ ((255 : Int32) < ec2)) ∨ (¬ ((255 : Int32) < ec0) ∧ ¬ ((255 : Int32) < ec1) ∧ ¬ ((255 : Int32) < ec2) ∧ ((255 : Int32) < ec3))) (hr0 : 0 ≤ ec0.toInt ∧ ec0.toInt < 65536) (hr1 : 0 ≤ ec1.toInt ∧ ec1.toInt < 65536) (hr2 : 0 ≤ ec2.toInt ∧ ec2.toInt < 65536) (hr3 : 0 ≤ ec3.toInt ∧ ec3.toInt < 65536) :
    MetFree l (⟨o_n1, "<init>", "([CIILjava/lang/Void;)V"⟩ : MethodName) (head1 (Jvm.Cond.code (⟨o_n1, "<init>", "([CIILjava/lang/Void;)V"⟩ : MethodName) jdk_42_method_149_code 6 none :: ws) ({ frames := 4, cells := 2, slots := 12, locals := 57 } : Room)) (fun argz U => argz = #[(.ref tt), (.ref a), (.int 0), (.int 4), .null] ∧ Z.Warmed39 U.vm ∧ U.heap = h0) (fun _ _ _ _ _ => True) (fun _ U o U' => ∃ v L, o = .returned v ∧ Q3u4 Z tt a ks cw ec0 ec1 ec2 ec3 h0 n0 v U'.heap L ∧ FrameEnd U o U' L ({ frames := 4, cells := 2, slots := 12, locals := 57 } : Room).cells ({ frames := 4, cells := 2, slots := 12, locals := 57 } : Room).slots) := by
  refine MetFree.of_bodySF (plainFor_of_name pn_java_lang_String) hisR ?_
  intro p e s m args below meth c s₁ Bd hml0 hP hK
  obtain ⟨rfl, hZ, hh⟩ := hP
  have hx := Bd.exec
  have hby := Bd.bytes
  have hml : c.maxLocals = 6 := hml0
  have hown : s.vm.findClass o_n1 = some m.cls := findClass_of_methodNamed Bd.named
  have hnm := (name_of_methodNamed Bd.named Bd.method).1
  have X0 : Stand p l e ({ frames := 4, cells := 2, slots := 12, locals := 57 } : Room) s m #[(.ref tt), (.ref a), (.int 0), (.int 4), .null] below meth c s₁ [] 0 0 := Stand.of_body Bd
  have e0 : s₁.heap = h0 := by rw [← hh, Bd.state]; rfl
  have N0 := Fr.nil n0
  have K0 : Keep h0 h0 [tt] := Keep.refl _ _
  have G : Gets p e below (s₁.setTop (entryFrame m #[(.ref tt), (.ref a), (.int 0), (.int 4), .null] 6)) (s₁.setTop (mkF m 0 #[.val (.ref tt), .val (.ref a), .val (.int 0), .val (.int 4), .val .null, .unset] [])) := fun t k => castTop (ef_3u4 m tt a) k
  replace G := o_aloadN (q := 1) G X0.here hx (hb hby d3_0) rfl rfl rfl
  obtain ⟨T1, X1, e1, st1⟩ := initO X0 hx hZ hown (o_w hw 16 rfl) (o_w hw 17 rfl) (o_w hw 18 rfl) e0 (g := o_g G) rfl (by rw [hml]; rfl) rfl (hb hby d3_1) (by decide) (W := 0) (by show 2 * 0 + _ ≤ _; exact Nat.le_of_eq rfl) (by decide)
  replace G := o_nxs (q := 4) (st := []) G st1 rfl
  replace G := o_iloadN (q := 5) G X1.here hx (hb hby d3_4) rfl rfl
  replace G := o_ifYes (q := 27) G X1.here hx (hb hby d3_5) (by decide) (by decide) (by decide)
  have F3 : Sta Z h0 o_n1 "COMPACT_STRINGS" "Z" (.int cw) := P4.ext P0.2
  obtain ⟨T4, X4, e4, st4⟩ := getS2 X1 hx hZ hown (host := "") (Or.inl (o_w hw 27 rfl)) Via.refl e1 F3 (g := o_g G) rfl (hb hby d3_27)
  replace G := o_nxs (q := 30) (st := [(.int cw)]) G st4 rfl
  have hc30_5 : ¬ (cw = (0 : Int32)) := hcw
  replace G := o_ifNo (q := 33) G X4.here hx (hb hby d3_30) ((if0 _ _).trans (feq hc30_5).1) rfl
  replace G := o_aloadN (q := 34) G X4.here hx (hb hby d3_33) rfl rfl rfl
  replace G := o_iloadN (q := 35) G X4.here hx (hb hby d3_34) rfl rfl
  replace G := o_iloadN (q := 36) G X4.here hx (hb hby d3_35) rfl rfl
  obtain ⟨_, _, ⟨T6, L6, kk6, nn6⟩, -, X6, ⟨Lc6, hQ6, l6, y6, z6⟩, st6⟩ := Jvm.LawKit.callS X4 hx (y := (⟨o_n0, "compress", "([CII)[B"⟩ : MethodName)) hown (mvT hZ (o_w hw 28 rfl)) (mvT hZ (o_w hw 29 rfl)) (mvT hZ (o_w hw 30 rfl)) (mvT hZ (o_w hw 31 rfl)) (by decide) (backOf (W := 0) (rm5u4 l Z a0 hw [] a ks ec0 ec1 ec2 ec3 h0 n0 Z0 P0 P1 P2 P3 P9 hU hr0 hr1 hr2 hr3) hZ (o_w hw 31 rfl) (o_w hw 30 rfl) (by decide) (by decide)) (g := o_g G) rfl (by rw [hml]; rfl) (argsL := [(.ref a), (.int 0), (.int 4)]) (rest := []) (lenOf pd_1 rfl) rfl (by show 2 * 0 + _ ≤ _; exact Nat.le_of_eq rfl) (hb hby d3_36) (fun _ _ => ⟨rfl, e4, (by decide : 0 + 2 ≤ _), (by decide : 0 + 12 ≤ _)⟩)
  dsimp only [Pt.U, Pt.locs, Pt.cells, Pt.slots] at X6 l6 y6 z6 st6 hQ6
  subst l6 y6 z6
  obtain ⟨b_6, kb_6, rfl, N6q, K6q, B6_0, B6_1⟩ := hQ6
  have ne7 : tt ≠ b_6 := Nat.ne_of_lt (Nat.lt_of_lt_of_le P5.lt B6_0)
  have ne8 : a ≠ b_6 := Nat.ne_of_lt (Nat.lt_of_lt_of_le P9.lt B6_0)
  have ge_b_6 : n0 ≤ b_6 := Nat.le_trans Z0 B6_0
  have sz_b_6 : h0.size ≤ b_6 := Nat.le_trans K0.1 B6_0
  have Z6 : n0 ≤ T6.heap.size := Nat.le_trans Z0 K6q.1
  have K6 : Keep h0 T6.heap [tt] := K0.trans K6q all0
  have N6 := Fr.app N0 N6q
  replace G := o_nxs (q := 39) (st := [(.ref b_6)]) G st6 rfl
  replace G := o_astore (q := 41) (l' := #[.val (.ref tt), .val (.ref a), .val (.int 0), .val (.int 4), .val .null, .val (.ref b_6)]) G X6.here hx (hb hby d3_39) rfl rfl rfl
  replace G := o_aloadN (q := 42) G X6.here hx (hb hby d3_41) rfl rfl rfl
  replace G := o_aload (q := 44) G X6.here hx (hb hby d3_42) rfl rfl rfl
  replace G := o_iloadN (q := 45) G X6.here hx (hb hby d3_44) rfl rfl
  obtain ⟨_, _, ⟨T9, L9, kk9, nn9⟩, -, X9, ⟨Lc9, hQ9, l9, y9, z9⟩, st9⟩ := Jvm.LawKit.callS X6 hx (y := (⟨o_n0, "coderFromArrayLen", "([BI)B"⟩ : MethodName)) hown (mvT hZ (o_w hw 54 rfl)) (mvT hZ (o_w hw 55 rfl)) (mvT hZ (o_w hw 30 rfl)) (mvT hZ (o_w hw 56 rfl)) (by decide) (backOf (W := 1) (rm12u4 l Z a0 hw [] b_6 kb_6 [(.int (nar .byte ((ec0 >>> ((0 : Int32) &&& 31)).toInt8.toInt32))), (.int (nar .byte ((ec0 >>> ((8 : Int32) &&& 31)).toInt8.toInt32))), (.int (nar .byte ((ec1 >>> ((0 : Int32) &&& 31)).toInt8.toInt32))), (.int (nar .byte ((ec1 >>> ((8 : Int32) &&& 31)).toInt8.toInt32))), (.int (nar .byte ((ec2 >>> ((0 : Int32) &&& 31)).toInt8.toInt32))), (.int (nar .byte ((ec2 >>> ((8 : Int32) &&& 31)).toInt8.toInt32))), (.int (nar .byte ((ec3 >>> ((0 : Int32) &&& 31)).toInt8.toInt32))), (.int (nar .byte ((ec3 >>> ((8 : Int32) &&& 31)).toInt8.toInt32)))] T6.heap n0 Z6 B6_1) hZ (o_w hw 56 rfl) (o_w hw 30 rfl) (by decide) (by decide)) (g := o_g G) rfl (by rw [hml]; rfl) (argsL := [(.ref b_6), (.int 4)]) (rest := [(.ref tt)]) (lenOf pd_2 rfl) rfl (by show 2 * 0 + _ ≤ _; exact Nat.le_of_eq rfl) (hb hby d3_45) (fun _ _ => ⟨rfl, rfl, (by decide : 2 + 0 ≤ _), (by decide : 12 + 0 ≤ _)⟩)
  dsimp only [Pt.U, Pt.locs, Pt.cells, Pt.slots] at X9 l9 y9 z9 st9 hQ9
  subst l9 y9 z9
  obtain ⟨rfl, N9q, e9⟩ := hQ9
  have N9 := Fr.app N6 N9q
  replace G := o_nxs (q := 48) (st := [(.int 1), (.ref tt)]) G st9 rfl
  have F10 := (P7.keep K6q)
  have F11 := (P6.keep K6q nin0)
  obtain ⟨T12, h12, X12, e12, W12, st12⟩ := putFN X9 hx hZ hown (o_w hw 26 rfl) Via.refl e9 F11 F10 (Or.inr ⟨(o_w hw 22 rfl), rfl, hnm⟩) (o_w hw 6 rfl) (ty := .byte) (v' := (.int 1)) (by decide) rfl (by first | rfl | decide) (g := o_g G) rfl rfl (hb hby d3_48)
  have N12 := Fr.snoc X12 N9 P8
  have Z12 : n0 ≤ h12.size := Nat.le_trans Z6 (Keep.of_wr W12).1
  have K12 : Keep h0 h12 [tt] := K6.wr W12 (Or.inl (List.mem_of_getElem? (i := 0) rfl))
  have F12 : Fld Z h12 tt o_n1 "coder" "B" (.int 1) := F11.same W12
  replace G := o_nxs (q := 51) (st := []) G st12 rfl
  replace G := o_aloadN (q := 52) G X12.here hx (hb hby d3_51) rfl rfl rfl
  replace G := o_aload (q := 54) G X12.here hx (hb hby d3_52) rfl rfl rfl
  have F13 := (F10.wr W12)
  have F14 := ((P5.keep K6q nin0).other W12 (Or.inr (slot_ne (Or.inr (o_w hw 21 rfl)) (Or.inr (o_w hw 22 rfl)) (by decide) (t := (.array .byte)) (t' := .byte) (by decide) (by decide))))
  obtain ⟨T15, h15, X15, e15, W15, st15⟩ := putF X12 hx hZ hown (host := "") (Or.inl (o_w hw 25 rfl)) Via.refl e12 F14 F13 (Or.inr ⟨(o_w hw 21 rfl), rfl, hnm⟩) (o_w hw 6 rfl) (ty := (.array .byte)) (by decide) rfl rfl (g := o_g G) rfl rfl (hb hby d3_54)
  have N15 := Fr.snoc X15 N12 P8
  have Z15 : n0 ≤ h15.size := Nat.le_trans Z12 (Keep.of_wr W15).1
  have K15 : Keep h0 h15 [tt] := K12.wr W15 (Or.inl (List.mem_of_getElem? (i := 0) rfl))
  have F15 : Fld Z h15 tt o_n1 "value" "[B" (.ref b_6) := F14.same W15
  replace G := o_nxs (q := 57) (st := []) G st15 rfl
  obtain ⟨fs, hr, hrun, hended, hW, hsame⟩ := X15.leave (v := none) (fun _ => rfl)
  refine ⟨_, _, G _ (X15.returnOut hx Bd.returns (hb hby d3_57) hr), hrun, hended, _, _, rfl, ?_, ⟨_, rfl⟩, hW, hsame.mono (by decide) (by decide)⟩
  have F16 := (F12.other W15 (Or.inr (slot_ne (Or.inr (o_w hw 22 rfl)) (Or.inr (o_w hw 21 rfl)) (by decide) (t := .byte) (t' := (.array .byte)) (by decide) (by decide))))
  have F17 := ((B6_1.other W12 (Ne.symm ne7)).other W15 (Ne.symm ne7))
  show Q3u4 Z tt a ks cw ec0 ec1 ec2 ec3 h0 n0 _ T15.heap _
  rw [e15]
  exact ⟨b_6, kb_6, rfl, N15, K15, F15, F16, sz_b_6, F17⟩
theorem ef_2u4 (m : MethodId) (x0 : Addr) (x1 : Addr) : entryFrame m #[(.ref x0), (.ref x1)] 2 = mkF m 0 #[.val (.ref x0), .val (.ref x1)] [] := by first | (simp [entryFrame, mkF, argsToLocals, Value.category]; done) | rfl
def Q2u4 (Z : State) (tt : Addr) (a : Addr) (ks : ClassId) (cw : Int32) (ec0 : Int32) (ec1 : Int32) (ec2 : Int32) (ec3 : Int32) (h0 : Heap) (n0 : Nat) (v : Option Value) (h : Heap) (L : List Loc) : Prop := ∃ (b : Addr) (kb : ClassId), v = none ∧ Fr n0 L ∧ Keep h0 h [tt] ∧ (Fld Z h tt o_n1 "value" "[B" (.ref b)) ∧ (Fld Z h tt o_n1 "coder" "B" (.int 1)) ∧ h0.size ≤ b ∧ (Arv Z h b kb .byte (8 : Int32) [(.int (nar .byte ((ec0 >>> ((0 : Int32) &&& 31)).toInt8.toInt32))), (.int (nar .byte ((ec0 >>> ((8 : Int32) &&& 31)).toInt8.toInt32))), (.int (nar .byte ((ec1 >>> ((0 : Int32) &&& 31)).toInt8.toInt32))), (.int (nar .byte ((ec1 >>> ((8 : Int32) &&& 31)).toInt8.toInt32))), (.int (nar .byte ((ec2 >>> ((0 : Int32) &&& 31)).toInt8.toInt32))), (.int (nar .byte ((ec2 >>> ((8 : Int32) &&& 31)).toInt8.toInt32))), (.int (nar .byte ((ec3 >>> ((0 : Int32) &&& 31)).toInt8.toInt32))), (.int (nar .byte ((ec3 >>> ((8 : Int32) &&& 31)).toInt8.toInt32)))] (.int 0))
set_option maxRecDepth 65536 in
set_option maxHeartbeats 40000000 in
theorem rm2u4 (l : Launch) (Z : State) (a0 : Array Value) (hw : ∀ d ∈ tables_1, d.before a0 Z = true) (ws : List Jvm.Cond) (tt : Addr) (a : Addr) (ks : ClassId) (cw : Int32) (ec0 : Int32) (ec1 : Int32) (ec2 : Int32) (ec3 : Int32) (h0 : Heap) (n0 : Nat) (Z0 : n0 ≤ h0.size) (P0 : Old Z n0 h0) (P1 : Sta Z Z.heap o_n0 "$assertionsDisabled" "Z" (.int 1)) (P2 : Sta Z Z.heap o_n0 "HI_BYTE_SHIFT" "I" (.int 0)) (P3 : Sta Z Z.heap o_n0 "LO_BYTE_SHIFT" "I" (.int 8)) (P4 : Sta Z Z.heap o_n1 "COMPACT_STRINGS" "Z" (.int cw)) (P5 : Fld Z h0 tt o_n1 "value" "[B" .null) (P6 : Fld Z h0 tt o_n1 "coder" "B" (.int 0)) (P7 : Exa Z h0 tt o_n1) (P8 : n0 ≤ tt) (P9 : Arv Z h0 a ks .char (4 : Int32) [(.int ec0), (.int ec1), (.int ec2), (.int ec3)] (.int 0)) (hcw : ¬ cw = (0 : Int32)) (hU : (((255 : Int32) < ec0)) ∨ (¬ ((255 : Int32) < ec0) ∧ ((255 : Int32) < ec1)) ∨ (¬ ((255 : Int32) < ec0) ∧ ¬ ((255 : Int32) < ec1) ∧ ((255 : Int32) < ec2)) ∨ (¬ ((255 : Int32) < ec0) ∧ ¬ ((255 : Int32) < ec1) ∧ ¬ ((255 : Int32) < ec2) ∧ ((255 : Int32) < ec3))) (hr0 : 0 ≤ ec0.toInt ∧ ec0.toInt < 65536) (hr1 : 0 ≤ ec1.toInt ∧ ec1.toInt < 65536) (hr2 : 0 ≤ ec2.toInt ∧ ec2.toInt < 65536) (hr3 : 0 ≤ ec3.toInt ∧ ec3.toInt < 65536) :
    MetFree l (⟨o_n1, "<init>", "([C)V"⟩ : MethodName) (head1 (Jvm.Cond.code (⟨o_n1, "<init>", "([C)V"⟩ : MethodName) jdk_42_method_3_code 2 none :: ws) ({ frames := 5, cells := 2, slots := 12, locals := 74 } : Room)) (fun argz U => argz = #[(.ref tt), (.ref a)] ∧ Z.Warmed39 U.vm ∧ U.heap = h0) (fun _ _ _ _ _ => True) (fun _ U o U' => ∃ v L, o = .returned v ∧ Q2u4 Z tt a ks cw ec0 ec1 ec2 ec3 h0 n0 v U'.heap L ∧ FrameEnd U o U' L ({ frames := 5, cells := 2, slots := 12, locals := 74 } : Room).cells ({ frames := 5, cells := 2, slots := 12, locals := 74 } : Room).slots) := by
  refine MetFree.of_bodySF (plainFor_of_name pn_java_lang_String) hisR ?_
  intro p e s m args below meth c s₁ Bd hml0 hP hK
  obtain ⟨rfl, hZ, hh⟩ := hP
  have hx := Bd.exec
  have hby := Bd.bytes
  have hml : c.maxLocals = 2 := hml0
  have hown : s.vm.findClass o_n1 = some m.cls := findClass_of_methodNamed Bd.named
  have hnm := (name_of_methodNamed Bd.named Bd.method).1
  have X0 : Stand p l e ({ frames := 5, cells := 2, slots := 12, locals := 74 } : Room) s m #[(.ref tt), (.ref a)] below meth c s₁ [] 0 0 := Stand.of_body Bd
  have e0 : s₁.heap = h0 := by rw [← hh, Bd.state]; rfl
  have N0 := Fr.nil n0
  have K0 : Keep h0 h0 [tt] := Keep.refl _ _
  have G : Gets p e below (s₁.setTop (entryFrame m #[(.ref tt), (.ref a)] 2)) (s₁.setTop (mkF m 0 #[.val (.ref tt), .val (.ref a)] [])) := fun t k => castTop (ef_2u4 m tt a) k
  replace G := o_aloadN (q := 1) G X0.here hx (hb hby d2_0) rfl rfl rfl
  replace G := o_aloadN (q := 2) G X0.here hx (hb hby d2_1) rfl rfl rfl
  replace G := o_iconst (q := 3) G X0.here hx (hb hby d2_2) (v := (0 : Int32)) (by decide) rfl
  replace G := o_aloadN (q := 4) G X0.here hx (hb hby d2_3) rfl rfl rfl
  obtain ⟨c1, Ar1, -, S1, N1', -, -⟩ := id P9
  replace G : Gets p e below _ (s₁.setTop (mkF m 5 #[.val (.ref tt), .val (.ref a)] [(.int 4), (.int 0), (.ref a), (.ref tt)])) := fun t k => G t (X0.arraylength hx (by rw [e0]; exact Ar1.1) (State.isArrayOf_alike hZ.alike Ar1.2.1) (g := o_g G) rfl rfl (hb hby d2_4) t (by rw [len_of S1 N1']; exact k))
  replace G := o_aconst_null (q := 6) G X0.here hx (hb hby d2_5) rfl
  obtain ⟨_, _, ⟨T2, L2, kk2, nn2⟩, -, X2, ⟨Lc2, hQ2, l2, y2, z2⟩, st2⟩ := X0.specialBack hx (y := (⟨o_n1, "<init>", "([CIILjava/lang/Void;)V"⟩ : MethodName)) rfl hown (mvT hZ (o_w hw 12 rfl)) (mvT hZ (o_w hw 13 rfl)) (mvT hZ (o_w hw 15 rfl)) (by decide) (backOf (W := 0) (rm3u4 l Z a0 hw [] tt a ks cw ec0 ec1 ec2 ec3 h0 n0 Z0 P0 P1 P2 P3 P4 P5 P6 P7 P8 P9 hcw hU hr0 hr1 hr2 hr3) hZ (o_w hw 15 rfl) (o_w hw 7 rfl) (by decide) (by decide)) (g := o_g G) rfl (by rw [hml]; rfl) (Steps.refl _) (a := tt) (argsL := [(.ref a), (.int 0), (.int 4), .null]) (rest := []) (lenOf pd_3 rfl) rfl (by show 2 * 0 + _ ≤ _; exact Nat.le_of_eq rfl) (hb hby d2_6) (fun _ _ => ⟨rfl, e0, (by decide : 0 + 2 ≤ _), (by decide : 0 + 12 ≤ _)⟩)
  dsimp only [Pt.U, Pt.locs, Pt.cells, Pt.slots] at X2 l2 y2 z2 st2 hQ2
  subst l2 y2 z2
  obtain ⟨b_2, kb_2, rfl, N2q, K2q, B2_0, B2_1, B2_2, B2_3⟩ := hQ2
  have ne3 : tt ≠ b_2 := Nat.ne_of_lt (Nat.lt_of_lt_of_le P5.lt B2_2)
  have ne4 : a ≠ b_2 := Nat.ne_of_lt (Nat.lt_of_lt_of_le P9.lt B2_2)
  have ge_b_2 : n0 ≤ b_2 := Nat.le_trans Z0 B2_2
  have sz_b_2 : h0.size ≤ b_2 := Nat.le_trans K0.1 B2_2
  have Z2 : n0 ≤ T2.heap.size := Nat.le_trans Z0 K2q.1
  have K2 : Keep h0 T2.heap [tt] := K0.trans K2q (allS (Or.inl (List.mem_of_getElem? (i := 0) rfl)) all0)
  have N2 := Fr.app N0 N2q
  replace G := o_nxv (q := 9) (st := []) G st2 rfl
  obtain ⟨fs, hr, hrun, hended, hW, hsame⟩ := X2.leave (v := none) (fun _ => rfl)
  refine ⟨_, _, G _ (X2.returnOut hx Bd.returns (hb hby d2_9) hr), hrun, hended, _, _, rfl, ?_, ⟨_, rfl⟩, hW, hsame.mono (by decide) (by decide)⟩
  show Q2u4 Z tt a ks cw ec0 ec1 ec2 ec3 h0 n0 _ T2.heap _
  exact ⟨b_2, kb_2, rfl, N2, K2, B2_0, B2_1, sz_b_2, B2_3⟩
theorem d3_8 : decode jdk_42_method_149_code 8 = .ok (.aload_n 0, 1) := by decide +kernel
theorem d3_9 : decode jdk_42_method_149_code 9 = .ok (.ldc 7, 2) := by decide +kernel
theorem d3_11 : decode jdk_42_method_149_code 11 = .ok (.getfield 9, 3) := by decide +kernel
theorem d3_14 : decode jdk_42_method_149_code 14 = .ok (.putfield 9, 3) := by decide +kernel
theorem d3_17 : decode jdk_42_method_149_code 17 = .ok (.aload_n 0, 1) := by decide +kernel
theorem d3_18 : decode jdk_42_method_149_code 18 = .ok (.ldc 7, 2) := by decide +kernel
theorem d3_20 : decode jdk_42_method_149_code 20 = .ok (.getfield 15, 3) := by decide +kernel
theorem d3_23 : decode jdk_42_method_149_code 23 = .ok (.putfield 15, 3) := by decide +kernel
theorem d3_26 : decode jdk_42_method_149_code 26 = .ok (.return_, 1) := by decide +kernel
theorem ef_3z (m : MethodId) (x0 : Addr) (x1 : Addr) : entryFrame m #[(.ref x0), (.ref x1), (.int 0), (.int 0), .null] 6 = mkF m 0 #[.val (.ref x0), .val (.ref x1), .val (.int 0), .val (.int 0), .val .null, .unset] [] := by first | (simp [entryFrame, mkF, argsToLocals, Value.category]; done) | rfl
def Q3z (Z : State) (tt : Addr) (a : Addr) (h0 : Heap) (n0 : Nat) (v : Option Value) (h : Heap) (L : List Loc) (vm : Vm) : Prop := ∃ (la : Addr) (b : Addr) (kb : ClassId), v = none ∧ Fr n0 L ∧ Keep h0 h [tt] ∧ (Fld Z h tt o_n1 "value" "[B" (.ref b)) ∧ (Fld Z h tt o_n1 "coder" "B" (.int 0)) ∧ (Fld Z h la o_n1 "value" "[B" (.ref b)) ∧ (Fld Z h la o_n1 "coder" "B" (.int 0)) ∧ (Arv Z h b kb .byte (0 : Int32) [] (.int 0)) ∧ Lit (Z.setVm vm) o_n1 7 la
set_option maxRecDepth 65536 in
set_option maxHeartbeats 40000000 in
theorem rm3z (l : Launch) (Z : State) (a0 : Array Value) (hw : ∀ d ∈ tables_1, d.before a0 Z = true) (ws : List Jvm.Cond) (tt : Addr) (a : Addr) (h0 : Heap) (n0 : Nat) (Z0 : n0 ≤ h0.size) (P0 : Old Z n0 h0) (P1 : Fld Z h0 tt o_n1 "value" "[B" .null) (P2 : Fld Z h0 tt o_n1 "coder" "B" (.int 0)) (P3 : Exa Z h0 tt o_n1) (P4 : n0 ≤ tt) (hch : Jvm.Lit.constHeld Z o_n1 7) (hcb : Jvm.Lit.compactW.before a0 Z = true) :
    MetFree l (⟨o_n1, "<init>", "([CIILjava/lang/Void;)V"⟩ : MethodName) (head1 (Jvm.Cond.code (⟨o_n1, "<init>", "([CIILjava/lang/Void;)V"⟩ : MethodName) jdk_42_method_149_code 6 none :: ws) ({ frames := 1, cells := 2, slots := 4, locals := 12 } : Room)) (fun argz U => argz = #[(.ref tt), (.ref a), (.int 0), (.int 0), .null] ∧ Z.Warmed39 U.vm ∧ U.heap = h0 ∧ IB Z U.vm []) (fun _ _ _ _ _ => True) (fun _ U o U' => ∃ v L, o = .returned v ∧ Q3z Z tt a h0 n0 v U'.heap L U'.vm ∧ ReturnedEndW U o U' L ({ frames := 1, cells := 2, slots := 4, locals := 12 } : Room).cells ({ frames := 1, cells := 2, slots := 4, locals := 12 } : Room).slots) := by
  refine MetFree.of_bodySF (plainFor_of_name pn_java_lang_String) hisR ?_
  intro p e s m args below meth c s₁ Bd hml0 hP hK
  obtain ⟨rfl, hZ, hh, hV⟩ := hP
  have hx := Bd.exec
  have hby := Bd.bytes
  have hml : c.maxLocals = 6 := hml0
  have hown : s.vm.findClass o_n1 = some m.cls := findClass_of_methodNamed Bd.named
  have hnm := (name_of_methodNamed Bd.named Bd.method).1
  have X0 : Stand p l e ({ frames := 1, cells := 2, slots := 4, locals := 12 } : Room) s m #[(.ref tt), (.ref a), (.int 0), (.int 0), .null] below meth c s₁ [] 0 0 := Stand.of_body Bd
  have e0 : s₁.heap = h0 := by rw [← hh, Bd.state]; rfl
  have N0 := Fr.nil n0
  have K0 : Keep h0 h0 [tt] := Keep.refl _ _
  have G : Gets p e below (s₁.setTop (entryFrame m #[(.ref tt), (.ref a), (.int 0), (.int 0), .null] 6)) (s₁.setTop (mkF m 0 #[.val (.ref tt), .val (.ref a), .val (.int 0), .val (.int 0), .val .null, .unset] [])) := fun t k => castTop (ef_3z m tt a) k
  replace G := o_aloadN (q := 1) G X0.here hx (hb hby d3_0) rfl rfl rfl
  obtain ⟨T1, X1, e1, st1⟩ := initO X0 hx hZ hown (o_w hw 16 rfl) (o_w hw 17 rfl) (o_w hw 18 rfl) e0 (g := o_g G) rfl (by rw [hml]; rfl) rfl (hb hby d3_1) (by decide) (W := 0) (by show 2 * 0 + _ ≤ _; exact Nat.le_of_eq rfl) (by decide)
  replace G := o_nxs (q := 4) (st := []) G st1 rfl
  replace G := o_iloadN (q := 5) G X1.here hx (hb hby d3_4) rfl rfl
  replace G := o_ifNo (q := 8) G X1.here hx (hb hby d3_5) (by decide) rfl
  replace G := o_aloadN (q := 9) G X1.here hx (hb hby d3_8) rfl rfl rfl
  have o_size : s.heap.size ≤ h0.size := by rw [hh]; exact Nat.le_refl _
  obtain ⟨b3, T3, h3, k13, v3, kv3, X3, e3, E3, S3, hk3, hZ3, hown3, A3, C3, V3, R3, -, -, I3, M3, st3⟩ := ldcSVL (s := s) (vm0 := s.vm) X1 hx hZ hown (o_w hw 19 rfl) (fun d hd => hw d (o_strs d hd)) e1 (o_since s) o_size (Fr.nil _) (fun b cl q => by rw [hh]; exact P0.2.2 b cl q) hV (fun q => by cases q) hch hcb (vs := []) (z := (0 : Int32)) (by constructor <;> decide) (by decide) rfl (g := o_g G) rfl (hb hby d3_9) (n := 0) (by decide) (by decide) (by decide) (by decide)
  have Z3 : n0 ≤ h3.size := Nat.le_trans Z0 E3.1
  have K3 : Keep h0 h3 [tt] := K0.ext E3
  have F4 := (P1.ext E3)
  have ne5 : tt ≠ b3 := o_fne F4 V3 (fun z => by cases z)
  have F6 := (P3.ext E3)
  have ne7 : tt ≠ v3 := Exa.neArv F6 R3 (o_w hw 6 rfl)
  replace G := o_nxs (q := 11) (st := [(.ref b3), (.ref tt)]) G st3 rfl
  obtain ⟨T8, X8, e8, st8⟩ := getF X3 hx hZ3 hown3 (host := "") (Or.inl (o_w hw 25 rfl)) Via.refl e3 V3 (g := o_g G) rfl rfl (hb hby d3_11)
  replace G := o_nxs (q := 14) (st := [(.ref v3), (.ref tt)]) G st8 rfl
  obtain ⟨T9, h9, X9, e9, W9, st9⟩ := putF X8 hx hZ3 hown3 (host := "") (Or.inl (o_w hw 25 rfl)) Via.refl e8 F4 F6 (Or.inr ⟨(o_w hw 21 rfl), rfl, hnm⟩) (o_w hw 6 rfl) (ty := (.array .byte)) (by decide) rfl rfl (g := o_g G) rfl rfl (hb hby d3_14)
  have hk10 := Nat.le_trans hk3 (Keep.of_wr W9).1
  have N9 := Fr.snoc X9 N0 P4
  have Z9 : n0 ≤ h9.size := Nat.le_trans Z3 (Keep.of_wr W9).1
  have K9 : Keep h0 h9 [tt] := K3.wr W9 (Or.inl (List.mem_of_getElem? (i := 0) rfl))
  have F9 : Fld Z h9 tt o_n1 "value" "[B" (.ref v3) := F4.same W9
  replace G := o_nxs (q := 17) (st := []) G st9 rfl
  replace G := o_aloadN (q := 18) G X9.here hx (hb hby d3_17) rfl rfl rfl
  replace G := o_nxs (q := 20) (st := [(.ref b3), (.ref tt)]) G (ldcAgain (s := s) (vm0 := T3.vm) X9 hx hZ3 hown3 (o_w hw 19 rfl) M3 (g := o_g G) rfl (hb hby d3_18)) rfl
  have F11 := (C3.other W9 (Or.inl (Ne.symm ne5)))
  obtain ⟨T12, X12, e12, st12⟩ := getF X9 hx hZ3 hown3 (host := "") (Or.inl (o_w hw 26 rfl)) Via.refl e9 F11 (g := o_g G) rfl rfl (hb hby d3_20)
  replace G := o_nxs (q := 23) (st := [(.int 0), (.ref tt)]) G st12 rfl
  have F13 := (F6.wr W9)
  have F14 := ((P2.ext E3).other W9 (Or.inr (slot_ne (Or.inr (o_w hw 22 rfl)) (Or.inr (o_w hw 21 rfl)) (by decide) (t := .byte) (t' := (.array .byte)) (by decide) (by decide))))
  obtain ⟨T15, h15, X15, e15, W15, st15⟩ := putFN X12 hx hZ3 hown3 (o_w hw 26 rfl) Via.refl e12 F14 F13 (Or.inr ⟨(o_w hw 22 rfl), rfl, hnm⟩) (o_w hw 6 rfl) (ty := .byte) (v' := (.int 0)) (by decide) rfl (by first | rfl | decide) (g := o_g G) rfl rfl (hb hby d3_23)
  have hk16 := Nat.le_trans hk10 (Keep.of_wr W15).1
  have N15 := Fr.snoc X15 N9 P4
  have Z15 : n0 ≤ h15.size := Nat.le_trans Z9 (Keep.of_wr W15).1
  have K15 : Keep h0 h15 [tt] := K9.wr W15 (Or.inl (List.mem_of_getElem? (i := 0) rfl))
  have F15 : Fld Z h15 tt o_n1 "coder" "B" (.int 0) := F14.same W15
  replace G := o_nxs (q := 26) (st := []) G st15 rfl
  obtain ⟨fs, hr, hrun, hended, -, hW, hBk, hsame⟩ := X15.leaveW S3 (by rw [e15]; exact hk16) (v := none) (fun _ => rfl)
  refine ⟨_, _, G _ (X15.returnOut hx Bd.returns (hb hby d3_26) hr), hrun, hended, _, _, rfl, ?_, ⟨_, rfl⟩, hW, hBk, hsame.mono (by decide) (by decide)⟩
  have F17 := (F9.other W15 (Or.inr (slot_ne (Or.inr (o_w hw 21 rfl)) (Or.inr (o_w hw 22 rfl)) (by decide) (t := (.array .byte)) (t' := .byte) (by decide) (by decide))))
  have F18 := ((V3.other W9 (Or.inl (Ne.symm ne5))).other W15 (Or.inl (Ne.symm ne5)))
  have F19 := (F11.other W15 (Or.inl (Ne.symm ne5)))
  have F20 := ((R3.other W9 (Ne.symm ne7)).other W15 (Ne.symm ne7))
  show Q3z Z tt a h0 n0 _ T15.heap _ T15.vm
  rw [e15]
  exact ⟨b3, v3, kv3, rfl, N15, K15, F17, F15, F18, F19, F20, (Lit.stays (s := s) (vm0 := T3.vm) M3 X15.warmed.wide)⟩
theorem ef_2z (m : MethodId) (x0 : Addr) (x1 : Addr) : entryFrame m #[(.ref x0), (.ref x1)] 2 = mkF m 0 #[.val (.ref x0), .val (.ref x1)] [] := by first | (simp [entryFrame, mkF, argsToLocals, Value.category]; done) | rfl
def Q2z (Z : State) (tt : Addr) (a : Addr) (ks : ClassId) (h0 : Heap) (n0 : Nat) (v : Option Value) (h : Heap) (L : List Loc) (vm : Vm) : Prop := ∃ (la : Addr) (b : Addr) (kb : ClassId), v = none ∧ Fr n0 L ∧ Keep h0 h [tt] ∧ (Fld Z h tt o_n1 "value" "[B" (.ref b)) ∧ (Fld Z h tt o_n1 "coder" "B" (.int 0)) ∧ (Fld Z h la o_n1 "value" "[B" (.ref b)) ∧ (Fld Z h la o_n1 "coder" "B" (.int 0)) ∧ (Arv Z h b kb .byte (0 : Int32) [] (.int 0)) ∧ Lit (Z.setVm vm) o_n1 7 la
set_option maxRecDepth 65536 in
set_option maxHeartbeats 40000000 in
theorem rm2z (l : Launch) (Z : State) (a0 : Array Value) (hw : ∀ d ∈ tables_1, d.before a0 Z = true) (ws : List Jvm.Cond) (tt : Addr) (a : Addr) (ks : ClassId) (h0 : Heap) (n0 : Nat) (Z0 : n0 ≤ h0.size) (P0 : Old Z n0 h0) (P1 : Fld Z h0 tt o_n1 "value" "[B" .null) (P2 : Fld Z h0 tt o_n1 "coder" "B" (.int 0)) (P3 : Exa Z h0 tt o_n1) (P4 : n0 ≤ tt) (hch : Jvm.Lit.constHeld Z o_n1 7) (hcb : Jvm.Lit.compactW.before a0 Z = true) (P7 : Arv Z h0 a ks .char (0 : Int32) [] (.int 0)) :
    MetFree l (⟨o_n1, "<init>", "([C)V"⟩ : MethodName) (head1 (Jvm.Cond.code (⟨o_n1, "<init>", "([C)V"⟩ : MethodName) jdk_42_method_3_code 2 none :: ws) ({ frames := 2, cells := 2, slots := 4, locals := 29 } : Room)) (fun argz U => argz = #[(.ref tt), (.ref a)] ∧ Z.Warmed39 U.vm ∧ U.heap = h0 ∧ IB Z U.vm []) (fun _ _ _ _ _ => True) (fun _ U o U' => ∃ v L, o = .returned v ∧ Q2z Z tt a ks h0 n0 v U'.heap L U'.vm ∧ ReturnedEndW U o U' L ({ frames := 2, cells := 2, slots := 4, locals := 29 } : Room).cells ({ frames := 2, cells := 2, slots := 4, locals := 29 } : Room).slots) := by
  refine MetFree.of_bodySF (plainFor_of_name pn_java_lang_String) hisR ?_
  intro p e s m args below meth c s₁ Bd hml0 hP hK
  obtain ⟨rfl, hZ, hh, hV⟩ := hP
  have hx := Bd.exec
  have hby := Bd.bytes
  have hml : c.maxLocals = 2 := hml0
  have hown : s.vm.findClass o_n1 = some m.cls := findClass_of_methodNamed Bd.named
  have hnm := (name_of_methodNamed Bd.named Bd.method).1
  have X0 : Stand p l e ({ frames := 2, cells := 2, slots := 4, locals := 29 } : Room) s m #[(.ref tt), (.ref a)] below meth c s₁ [] 0 0 := Stand.of_body Bd
  have e0 : s₁.heap = h0 := by rw [← hh, Bd.state]; rfl
  have N0 := Fr.nil n0
  have K0 : Keep h0 h0 [tt] := Keep.refl _ _
  have G : Gets p e below (s₁.setTop (entryFrame m #[(.ref tt), (.ref a)] 2)) (s₁.setTop (mkF m 0 #[.val (.ref tt), .val (.ref a)] [])) := fun t k => castTop (ef_2z m tt a) k
  replace G := o_aloadN (q := 1) G X0.here hx (hb hby d2_0) rfl rfl rfl
  replace G := o_aloadN (q := 2) G X0.here hx (hb hby d2_1) rfl rfl rfl
  replace G := o_iconst (q := 3) G X0.here hx (hb hby d2_2) (v := (0 : Int32)) (by decide) rfl
  replace G := o_aloadN (q := 4) G X0.here hx (hb hby d2_3) rfl rfl rfl
  obtain ⟨c1, Ar1, -, S1, N1', -, -⟩ := id P7
  replace G : Gets p e below _ (s₁.setTop (mkF m 5 #[.val (.ref tt), .val (.ref a)] [(.int 0), (.int 0), (.ref a), (.ref tt)])) := fun t k => G t (X0.arraylength hx (by rw [e0]; exact Ar1.1) (State.isArrayOf_alike hZ.alike Ar1.2.1) (g := o_g G) rfl rfl (hb hby d2_4) t (by rw [len_of S1 N1']; exact k))
  replace G := o_aconst_null (q := 6) G X0.here hx (hb hby d2_5) rfl
  obtain ⟨_, _, ⟨T2, L2, kk2, nn2⟩, -, X2, S2', g2', ⟨Lc2, hQ2, l2, y2, z2⟩, st2⟩ := X0.specialBackS hx (y := (⟨o_n1, "<init>", "([CIILjava/lang/Void;)V"⟩ : MethodName)) rfl hown (mvT hZ (o_w hw 12 rfl)) (mvT hZ (o_w hw 13 rfl)) (mvT hZ (o_w hw 15 rfl)) (by decide) (o_backW (V := fun vm => IB Z vm []) (W := 0) (rm3z l Z a0 hw [] tt a h0 n0 Z0 P0 P1 P2 P3 P4 (by assumption) (by assumption)) hZ (o_w hw 15 rfl) (o_w hw 7 rfl) (by decide) (by decide)) (g := o_g G) rfl (by rw [hml]; rfl) (Steps.refl _) (a := tt) (argsL := [(.ref a), (.int 0), (.int 0), .null]) (rest := []) (lenOf pd_3 rfl) rfl (by show 2 * 0 + _ ≤ _; exact Nat.le_of_eq rfl) (hb hby d2_6) (fun _ hvm => ⟨rfl, e0, (by decide : 0 + 2 ≤ _), (by decide : 0 + 4 ≤ _), o_ibw hV hvm⟩)
  dsimp only [Pt.U, Pt.locs, Pt.cells, Pt.slots] at X2 l2 y2 z2 st2 hQ2 S2' g2'
  subst l2 y2 z2
  have S2 := S2'
  have hZ2 : Z.Warmed39 (s.setVm T2.vm).vm := State.Warmed39.trans hZ S2.1
  have hown2 := (S2.1.alike.findClass _ _).trans hown
  obtain ⟨la_2, b_2, kb_2, rfl, N2q, K2q, B2_0, B2_1, B2_2, B2_3, B2_4, hL2⟩ := hQ2
  have Z2 : n0 ≤ T2.heap.size := Nat.le_trans Z0 K2q.1
  have K2 : Keep h0 T2.heap [tt] := K0.trans K2q (allS (Or.inl (List.mem_of_getElem? (i := 0) rfl)) all0)
  have N2 := Fr.app N0 N2q
  replace G := o_nxv (q := 9) (st := []) G st2 rfl
  obtain ⟨fs, hr, hrun, hended, -, hW, hBk, hsame⟩ := X2.leaveW S2 (Nat.le_refl _) (v := none) (fun _ => rfl)
  refine ⟨_, _, G _ (X2.returnOut hx Bd.returns (hb hby d2_9) hr), hrun, hended, _, _, rfl, ?_, ⟨_, rfl⟩, hW, hBk, hsame.mono (by decide) (by decide)⟩
  show Q2z Z tt a ks h0 n0 _ T2.heap _ T2.vm
  exact ⟨la_2, b_2, kb_2, rfl, N2, K2, B2_0, B2_1, B2_2, B2_3, B2_4, (Lit.stays (s := s) (vm0 := T2.vm) hL2 X2.warmed.wide)⟩
theorem ef_3y (m : MethodId) (x0 : Addr) (x1 : Addr) : entryFrame m #[(.ref x0), (.ref x1), (.int 0), (.int 0), .null] 6 = mkF m 0 #[.val (.ref x0), .val (.ref x1), .val (.int 0), .val (.int 0), .val .null, .unset] [] := by first | (simp [entryFrame, mkF, argsToLocals, Value.category]; done) | rfl
def Q3y (Z : State) (tt : Addr) (a : Addr) (la : Addr) (b : Addr) (kb : ClassId) (h0 : Heap) (n0 : Nat) (v : Option Value) (h : Heap) (L : List Loc) : Prop := v = none ∧ Fr n0 L ∧ Keep h0 h [tt] ∧ (Fld Z h tt o_n1 "value" "[B" (.ref b)) ∧ (Fld Z h tt o_n1 "coder" "B" (.int 0))
set_option maxRecDepth 65536 in
set_option maxHeartbeats 40000000 in
theorem rm3y (l : Launch) (Z : State) (a0 : Array Value) (hw : ∀ d ∈ tables_1, d.before a0 Z = true) (ws : List Jvm.Cond) (tt : Addr) (a : Addr) (la : Addr) (b : Addr) (kb : ClassId) (h0 : Heap) (n0 : Nat) (Z0 : n0 ≤ h0.size) (P0 : Fld Z h0 tt o_n1 "value" "[B" .null) (P1 : Fld Z h0 tt o_n1 "coder" "B" (.int 0)) (P2 : Exa Z h0 tt o_n1) (P3 : n0 ≤ tt) (P4 : tt ≠ la) (P5 : tt ≠ b) (P6 : Fld Z h0 la o_n1 "value" "[B" (.ref b)) (P7 : Fld Z h0 la o_n1 "coder" "B" (.int 0)) (P8 : Arv Z h0 b kb .byte (0 : Int32) [] (.int 0)) :
    MetFree l (⟨o_n1, "<init>", "([CIILjava/lang/Void;)V"⟩ : MethodName) (head1 (Jvm.Cond.code (⟨o_n1, "<init>", "([CIILjava/lang/Void;)V"⟩ : MethodName) jdk_42_method_149_code 6 none :: ws) ({ frames := 1, cells := 0, slots := 0, locals := 12 } : Room)) (fun argz U => argz = #[(.ref tt), (.ref a), (.int 0), (.int 0), .null] ∧ Z.Warmed39 U.vm ∧ U.heap = h0 ∧ Lit (Z.setVm U.vm) o_n1 7 la) (fun _ _ _ _ _ => True) (fun _ U o U' => ∃ v L, o = .returned v ∧ Q3y Z tt a la b kb h0 n0 v U'.heap L ∧ FrameEnd U o U' L ({ frames := 1, cells := 0, slots := 0, locals := 12 } : Room).cells ({ frames := 1, cells := 0, slots := 0, locals := 12 } : Room).slots) := by
  refine MetFree.of_bodySF (plainFor_of_name pn_java_lang_String) hisR ?_
  intro p e s m args below meth c s₁ Bd hml0 hP hK
  obtain ⟨rfl, hZ, hh, hV⟩ := hP
  have hx := Bd.exec
  have hby := Bd.bytes
  have hml : c.maxLocals = 6 := hml0
  have hown : s.vm.findClass o_n1 = some m.cls := findClass_of_methodNamed Bd.named
  have hnm := (name_of_methodNamed Bd.named Bd.method).1
  have X0 : Stand p l e ({ frames := 1, cells := 0, slots := 0, locals := 12 } : Room) s m #[(.ref tt), (.ref a), (.int 0), (.int 0), .null] below meth c s₁ [] 0 0 := Stand.of_body Bd
  have e0 : s₁.heap = h0 := by rw [← hh, Bd.state]; rfl
  have N0 := Fr.nil n0
  have K0 : Keep h0 h0 [tt] := Keep.refl _ _
  have G : Gets p e below (s₁.setTop (entryFrame m #[(.ref tt), (.ref a), (.int 0), (.int 0), .null] 6)) (s₁.setTop (mkF m 0 #[.val (.ref tt), .val (.ref a), .val (.int 0), .val (.int 0), .val .null, .unset] [])) := fun t k => castTop (ef_3y m tt a) k
  replace G := o_aloadN (q := 1) G X0.here hx (hb hby d3_0) rfl rfl rfl
  obtain ⟨T1, X1, e1, st1⟩ := initO X0 hx hZ hown (o_w hw 16 rfl) (o_w hw 17 rfl) (o_w hw 18 rfl) e0 (g := o_g G) rfl (by rw [hml]; rfl) rfl (hb hby d3_1) (by decide) (W := 0) (by show 2 * 0 + _ ≤ _; exact Nat.le_of_eq rfl) (by decide)
  replace G := o_nxs (q := 4) (st := []) G st1 rfl
  replace G := o_iloadN (q := 5) G X1.here hx (hb hby d3_4) rfl rfl
  replace G := o_ifNo (q := 8) G X1.here hx (hb hby d3_5) (by decide) rfl
  replace G := o_aloadN (q := 9) G X1.here hx (hb hby d3_8) rfl rfl rfl
  replace G := o_nxs (q := 11) (st := [(.ref la), (.ref tt)]) G (ldcAgain (s := s) (vm0 := s.vm) X1 hx hZ hown (o_w hw 19 rfl) (show Lit (s.setVm s.vm) _ _ _ from hV) (g := o_g G) rfl (hb hby d3_9)) rfl
  obtain ⟨T3, X3, e3, st3⟩ := getF X1 hx hZ hown (host := "") (Or.inl (o_w hw 25 rfl)) Via.refl e1 P6 (g := o_g G) rfl rfl (hb hby d3_11)
  replace G := o_nxs (q := 14) (st := [(.ref b), (.ref tt)]) G st3 rfl
  obtain ⟨T4, h4, X4, e4, W4, st4⟩ := putF X3 hx hZ hown (host := "") (Or.inl (o_w hw 25 rfl)) Via.refl e3 P0 P2 (Or.inr ⟨(o_w hw 21 rfl), rfl, hnm⟩) (o_w hw 6 rfl) (ty := (.array .byte)) (by decide) rfl rfl (g := o_g G) rfl rfl (hb hby d3_14)
  have N4 := Fr.snoc X4 N0 P3
  have Z4 : n0 ≤ h4.size := Nat.le_trans Z0 (Keep.of_wr W4).1
  have K4 : Keep h0 h4 [tt] := K0.wr W4 (Or.inl (List.mem_of_getElem? (i := 0) rfl))
  have F4 : Fld Z h4 tt o_n1 "value" "[B" (.ref b) := P0.same W4
  replace G := o_nxs (q := 17) (st := []) G st4 rfl
  replace G := o_aloadN (q := 18) G X4.here hx (hb hby d3_17) rfl rfl rfl
  replace G := o_nxs (q := 20) (st := [(.ref la), (.ref tt)]) G (ldcAgain (s := s) (vm0 := s.vm) X4 hx hZ hown (o_w hw 19 rfl) (show Lit (s.setVm s.vm) _ _ _ from hV) (g := o_g G) rfl (hb hby d3_18)) rfl
  have F5 := (P7.other W4 (Or.inl (Ne.symm P4)))
  obtain ⟨T6, X6, e6, st6⟩ := getF X4 hx hZ hown (host := "") (Or.inl (o_w hw 26 rfl)) Via.refl e4 F5 (g := o_g G) rfl rfl (hb hby d3_20)
  replace G := o_nxs (q := 23) (st := [(.int 0), (.ref tt)]) G st6 rfl
  have F7 := (P2.wr W4)
  have F8 := (P1.other W4 (Or.inr (slot_ne (Or.inr (o_w hw 22 rfl)) (Or.inr (o_w hw 21 rfl)) (by decide) (t := .byte) (t' := (.array .byte)) (by decide) (by decide))))
  obtain ⟨T9, h9, X9, e9, W9, st9⟩ := putFN X6 hx hZ hown (o_w hw 26 rfl) Via.refl e6 F8 F7 (Or.inr ⟨(o_w hw 22 rfl), rfl, hnm⟩) (o_w hw 6 rfl) (ty := .byte) (v' := (.int 0)) (by decide) rfl (by first | rfl | decide) (g := o_g G) rfl rfl (hb hby d3_23)
  have N9 := Fr.snoc X9 N4 P3
  have Z9 : n0 ≤ h9.size := Nat.le_trans Z4 (Keep.of_wr W9).1
  have K9 : Keep h0 h9 [tt] := K4.wr W9 (Or.inl (List.mem_of_getElem? (i := 0) rfl))
  have F9 : Fld Z h9 tt o_n1 "coder" "B" (.int 0) := F8.same W9
  replace G := o_nxs (q := 26) (st := []) G st9 rfl
  obtain ⟨fs, hr, hrun, hended, hW, hsame⟩ := X9.leave (v := none) (fun _ => rfl)
  refine ⟨_, _, G _ (X9.returnOut hx Bd.returns (hb hby d3_26) hr), hrun, hended, _, _, rfl, ?_, ⟨_, rfl⟩, hW, hsame.mono (by decide) (by decide)⟩
  have F10 := (F4.other W9 (Or.inr (slot_ne (Or.inr (o_w hw 21 rfl)) (Or.inr (o_w hw 22 rfl)) (by decide) (t := (.array .byte)) (t' := .byte) (by decide) (by decide))))
  show Q3y Z tt a la b kb h0 n0 _ T9.heap _
  rw [e9]
  exact ⟨rfl, N9, K9, F10, F9⟩
theorem ef_2y (m : MethodId) (x0 : Addr) (x1 : Addr) : entryFrame m #[(.ref x0), (.ref x1)] 2 = mkF m 0 #[.val (.ref x0), .val (.ref x1)] [] := by first | (simp [entryFrame, mkF, argsToLocals, Value.category]; done) | rfl
def Q2y (Z : State) (tt : Addr) (a : Addr) (la : Addr) (b : Addr) (kb : ClassId) (ks : ClassId) (h0 : Heap) (n0 : Nat) (v : Option Value) (h : Heap) (L : List Loc) : Prop := v = none ∧ Fr n0 L ∧ Keep h0 h [tt] ∧ (Fld Z h tt o_n1 "value" "[B" (.ref b)) ∧ (Fld Z h tt o_n1 "coder" "B" (.int 0))
set_option maxRecDepth 65536 in
set_option maxHeartbeats 40000000 in
theorem rm2y (l : Launch) (Z : State) (a0 : Array Value) (hw : ∀ d ∈ tables_1, d.before a0 Z = true) (ws : List Jvm.Cond) (tt : Addr) (a : Addr) (la : Addr) (b : Addr) (kb : ClassId) (ks : ClassId) (h0 : Heap) (n0 : Nat) (Z0 : n0 ≤ h0.size) (P0 : Fld Z h0 tt o_n1 "value" "[B" .null) (P1 : Fld Z h0 tt o_n1 "coder" "B" (.int 0)) (P2 : Exa Z h0 tt o_n1) (P3 : n0 ≤ tt) (P4 : tt ≠ la) (P5 : tt ≠ b) (P6 : Fld Z h0 la o_n1 "value" "[B" (.ref b)) (P7 : Fld Z h0 la o_n1 "coder" "B" (.int 0)) (P8 : Arv Z h0 b kb .byte (0 : Int32) [] (.int 0)) (P9 : Arv Z h0 a ks .char (0 : Int32) [] (.int 0)) :
    MetFree l (⟨o_n1, "<init>", "([C)V"⟩ : MethodName) (head1 (Jvm.Cond.code (⟨o_n1, "<init>", "([C)V"⟩ : MethodName) jdk_42_method_3_code 2 none :: ws) ({ frames := 2, cells := 0, slots := 0, locals := 29 } : Room)) (fun argz U => argz = #[(.ref tt), (.ref a)] ∧ Z.Warmed39 U.vm ∧ U.heap = h0 ∧ Lit (Z.setVm U.vm) o_n1 7 la) (fun _ _ _ _ _ => True) (fun _ U o U' => ∃ v L, o = .returned v ∧ Q2y Z tt a la b kb ks h0 n0 v U'.heap L ∧ FrameEnd U o U' L ({ frames := 2, cells := 0, slots := 0, locals := 29 } : Room).cells ({ frames := 2, cells := 0, slots := 0, locals := 29 } : Room).slots) := by
  refine MetFree.of_bodySF (plainFor_of_name pn_java_lang_String) hisR ?_
  intro p e s m args below meth c s₁ Bd hml0 hP hK
  obtain ⟨rfl, hZ, hh, hV⟩ := hP
  have hx := Bd.exec
  have hby := Bd.bytes
  have hml : c.maxLocals = 2 := hml0
  have hown : s.vm.findClass o_n1 = some m.cls := findClass_of_methodNamed Bd.named
  have hnm := (name_of_methodNamed Bd.named Bd.method).1
  have X0 : Stand p l e ({ frames := 2, cells := 0, slots := 0, locals := 29 } : Room) s m #[(.ref tt), (.ref a)] below meth c s₁ [] 0 0 := Stand.of_body Bd
  have e0 : s₁.heap = h0 := by rw [← hh, Bd.state]; rfl
  have N0 := Fr.nil n0
  have K0 : Keep h0 h0 [tt] := Keep.refl _ _
  have G : Gets p e below (s₁.setTop (entryFrame m #[(.ref tt), (.ref a)] 2)) (s₁.setTop (mkF m 0 #[.val (.ref tt), .val (.ref a)] [])) := fun t k => castTop (ef_2y m tt a) k
  replace G := o_aloadN (q := 1) G X0.here hx (hb hby d2_0) rfl rfl rfl
  replace G := o_aloadN (q := 2) G X0.here hx (hb hby d2_1) rfl rfl rfl
  replace G := o_iconst (q := 3) G X0.here hx (hb hby d2_2) (v := (0 : Int32)) (by decide) rfl
  replace G := o_aloadN (q := 4) G X0.here hx (hb hby d2_3) rfl rfl rfl
  obtain ⟨c1, Ar1, -, S1, N1', -, -⟩ := id P9
  replace G : Gets p e below _ (s₁.setTop (mkF m 5 #[.val (.ref tt), .val (.ref a)] [(.int 0), (.int 0), (.ref a), (.ref tt)])) := fun t k => G t (X0.arraylength hx (by rw [e0]; exact Ar1.1) (State.isArrayOf_alike hZ.alike Ar1.2.1) (g := o_g G) rfl rfl (hb hby d2_4) t (by rw [len_of S1 N1']; exact k))
  replace G := o_aconst_null (q := 6) G X0.here hx (hb hby d2_5) rfl
  obtain ⟨_, _, ⟨T2, L2, kk2, nn2⟩, -, X2, ⟨Lc2, hQ2, l2, y2, z2⟩, st2⟩ := X0.specialBack hx (y := (⟨o_n1, "<init>", "([CIILjava/lang/Void;)V"⟩ : MethodName)) rfl hown (mvT hZ (o_w hw 12 rfl)) (mvT hZ (o_w hw 13 rfl)) (mvT hZ (o_w hw 15 rfl)) (by decide) (o_backN (V := fun vm => Lit (Z.setVm vm) o_n1 7 la) (W := 0) (rm3y l Z a0 hw [] tt a la b kb h0 n0 Z0 P0 P1 P2 P3 P4 P5 P6 P7 P8) hZ (o_w hw 15 rfl) (o_w hw 7 rfl) (by decide) (by decide)) (g := o_g G) rfl (by rw [hml]; rfl) (Steps.refl _) (a := tt) (argsL := [(.ref a), (.int 0), (.int 0), .null]) (rest := []) (lenOf pd_3 rfl) rfl (by show 2 * 0 + _ ≤ _; exact Nat.le_of_eq rfl) (hb hby d2_6) (fun _ hvm => ⟨rfl, e0, (by decide : 0 + 0 ≤ _), (by decide : 0 + 0 ≤ _), Lit.stays (s := s) (vm0 := s.vm) hV hvm.wide⟩)
  dsimp only [Pt.U, Pt.locs, Pt.cells, Pt.slots] at X2 l2 y2 z2 st2 hQ2
  subst l2 y2 z2
  obtain ⟨rfl, N2q, K2q, B2_0, B2_1⟩ := hQ2
  have Z2 : n0 ≤ T2.heap.size := Nat.le_trans Z0 K2q.1
  have K2 : Keep h0 T2.heap [tt] := K0.trans K2q (allS (Or.inl (List.mem_of_getElem? (i := 0) rfl)) all0)
  have N2 := Fr.app N0 N2q
  replace G := o_nxv (q := 9) (st := []) G st2 rfl
  obtain ⟨fs, hr, hrun, hended, hW, hsame⟩ := X2.leave (v := none) (fun _ => rfl)
  refine ⟨_, _, G _ (X2.returnOut hx Bd.returns (hb hby d2_9) hr), hrun, hended, _, _, rfl, ?_, ⟨_, rfl⟩, hW, hsame.mono (by decide) (by decide)⟩
  show Q2y Z tt a la b kb ks h0 n0 _ T2.heap _
  exact ⟨rfl, N2, K2, B2_0, B2_1⟩
theorem pd_8 : parseMethodDescriptor "([C)V" = some ⟨[(.array .char)], none⟩ := by decide +kernel
theorem d1_0 : decode method_2_code 0 = .ok (.lload_n 1, 1) := by decide +kernel
theorem d1_1 : decode method_2_code 1 = .ok (.ldc2_w 7, 3) := by decide +kernel
theorem d1_4 : decode method_2_code 4 = .ok (.land, 1) := by decide +kernel
theorem d1_5 : decode method_2_code 5 = .ok (.l2i, 1) := by decide +kernel
theorem d1_6 : decode method_2_code 6 = .ok (.i2c, 1) := by decide +kernel
theorem d1_7 : decode method_2_code 7 = .ok (.istore_n 3, 1) := by decide +kernel
theorem d1_8 : decode method_2_code 8 = .ok (.lload_n 1, 1) := by decide +kernel
theorem d1_9 : decode method_2_code 9 = .ok (.bipush 16, 2) := by decide +kernel
theorem d1_11 : decode method_2_code 11 = .ok (.lushr, 1) := by decide +kernel
theorem d1_12 : decode method_2_code 12 = .ok (.ldc2_w 7, 3) := by decide +kernel
theorem d1_15 : decode method_2_code 15 = .ok (.land, 1) := by decide +kernel
theorem d1_16 : decode method_2_code 16 = .ok (.l2i, 1) := by decide +kernel
theorem d1_17 : decode method_2_code 17 = .ok (.i2c, 1) := by decide +kernel
theorem d1_18 : decode method_2_code 18 = .ok (.istore 4, 2) := by decide +kernel
theorem d1_20 : decode method_2_code 20 = .ok (.lload_n 1, 1) := by decide +kernel
theorem d1_21 : decode method_2_code 21 = .ok (.bipush 32, 2) := by decide +kernel
theorem d1_23 : decode method_2_code 23 = .ok (.lushr, 1) := by decide +kernel
theorem d1_24 : decode method_2_code 24 = .ok (.ldc2_w 7, 3) := by decide +kernel
theorem d1_27 : decode method_2_code 27 = .ok (.land, 1) := by decide +kernel
theorem d1_28 : decode method_2_code 28 = .ok (.l2i, 1) := by decide +kernel
theorem d1_29 : decode method_2_code 29 = .ok (.i2c, 1) := by decide +kernel
theorem d1_30 : decode method_2_code 30 = .ok (.istore 5, 2) := by decide +kernel
theorem d1_32 : decode method_2_code 32 = .ok (.lload_n 1, 1) := by decide +kernel
theorem d1_33 : decode method_2_code 33 = .ok (.bipush 48, 2) := by decide +kernel
theorem d1_35 : decode method_2_code 35 = .ok (.lushr, 1) := by decide +kernel
theorem d1_36 : decode method_2_code 36 = .ok (.ldc2_w 7, 3) := by decide +kernel
theorem d1_39 : decode method_2_code 39 = .ok (.land, 1) := by decide +kernel
theorem d1_40 : decode method_2_code 40 = .ok (.l2i, 1) := by decide +kernel
theorem d1_41 : decode method_2_code 41 = .ok (.i2c, 1) := by decide +kernel
theorem d1_42 : decode method_2_code 42 = .ok (.istore 6, 2) := by decide +kernel
theorem d1_44 : decode method_2_code 44 = .ok (.iload_n 0, 1) := by decide +kernel
theorem d1_45 : decode method_2_code 45 = .ok (.ifCond .ne 14, 3) := by decide +kernel
theorem d1_59 : decode method_2_code 59 = .ok (.iload_n 0, 1) := by decide +kernel
theorem d1_60 : decode method_2_code 60 = .ok (.iconst 1, 1) := by decide +kernel
theorem d1_61 : decode method_2_code 61 = .ok (.if_icmp .ne 18, 3) := by decide +kernel
theorem d1_64 : decode method_2_code 64 = .ok (.new 9, 3) := by decide +kernel
theorem d1_67 : decode method_2_code 67 = .ok (.dup, 1) := by decide +kernel
theorem d1_68 : decode method_2_code 68 = .ok (.iconst 1, 1) := by decide +kernel
theorem d1_69 : decode method_2_code 69 = .ok (.newarray .char, 2) := by decide +kernel
theorem d1_71 : decode method_2_code 71 = .ok (.dup, 1) := by decide +kernel
theorem d1_72 : decode method_2_code 72 = .ok (.iconst 0, 1) := by decide +kernel
theorem d1_73 : decode method_2_code 73 = .ok (.iload_n 3, 1) := by decide +kernel
theorem d1_74 : decode method_2_code 74 = .ok (.castore, 1) := by decide +kernel
theorem d1_75 : decode method_2_code 75 = .ok (.invokespecial 11, 3) := by decide +kernel
theorem d1_78 : decode method_2_code 78 = .ok (.areturn, 1) := by decide +kernel
theorem pn_com_example_crossbill_crossbill_spill_RowFormatBytesOfPinLaw : plainName "com/example/crossbill/crossbill/spill/RowFormatBytesOfPinLaw" = true := by first | (simp [plainName, overriddenIn]; done) | decide +kernel
theorem ef_1n1 (m : MethodId) (x1 : Int64) : entryFrame m #[(.int 1), (.long x1)] 7 = mkF m 0 #[.val (.int 1), .val (.long x1), .second, .unset, .unset, .unset, .unset] [] := by first | (simp [entryFrame, mkF, argsToLocals, Value.category]; done) | rfl
def Q1n1 (Z : State) (q : Int64) (cw : Int32) (h0 : Heap) (n0 : Nat) (v : Option Value) (h : Heap) (L : List Loc) : Prop := ∃ (t : Addr) (b : Addr) (kb : ClassId) (cc : Int32) (nn : Int32) (vs : List Value), v = some (.ref t) ∧ Fr n0 L ∧ Keep h0 h [] ∧ h0.size ≤ t ∧ (Exa Z h t o_n1) ∧ (Fld Z h t o_n1 "value" "[B" (.ref b)) ∧ (Fld Z h t o_n1 "coder" "B" (.int cc)) ∧ (Arv Z h b kb .byte nn vs (.int 0)) ∧ ((cc = (0 : Int32) ∧ nn = (1 : Int32)) ∨ (cc = (1 : Int32) ∧ nn = (2 : Int32)))
set_option maxRecDepth 65536 in
set_option maxHeartbeats 40000000 in
theorem rm1n1 (l : Launch) (Z : State) (a0 : Array Value) (hw : ∀ d ∈ tables_1, d.before a0 Z = true) (ws : List Jvm.Cond) (q : Int64) (cw : Int32) (h0 : Heap) (n0 : Nat) (Z0 : n0 ≤ h0.size) (P0 : Old Z n0 h0) (P1 : Sta Z Z.heap o_n0 "$assertionsDisabled" "Z" (.int 1)) (P2 : Sta Z Z.heap o_n0 "HI_BYTE_SHIFT" "I" (.int 0)) (P3 : Sta Z Z.heap o_n0 "LO_BYTE_SHIFT" "I" (.int 8)) (P4 : Sta Z Z.heap o_n1 "COMPACT_STRINGS" "Z" (.int cw)) (hcw : ¬ cw = (0 : Int32)) :
    MetFree l (⟨"com/example/crossbill/crossbill/spill/RowFormatBytesOfPinLaw", "text", "(IJ)Ljava/lang/String;"⟩ : MethodName) (head1 (Jvm.Cond.code (⟨"com/example/crossbill/crossbill/spill/RowFormatBytesOfPinLaw", "text", "(IJ)Ljava/lang/String;"⟩ : MethodName) method_2_code 7 (some (.object o_n1)) :: ws) ({ frames := 6, cells := 4, slots := 8, locals := 88 } : Room)) (fun argz U => argz = #[(.int 1), (.long q)] ∧ Z.Warmed39 U.vm ∧ U.heap = h0) (fun _ _ _ _ _ => True) (fun _ U o U' => ∃ v L, o = .returned v ∧ Q1n1 Z q cw h0 n0 v U'.heap L ∧ FrameEnd U o U' L ({ frames := 6, cells := 4, slots := 8, locals := 88 } : Room).cells ({ frames := 6, cells := 4, slots := 8, locals := 88 } : Room).slots) := by
  refine MetFree.of_bodySF (plainFor_of_name pn_com_example_crossbill_crossbill_spill_RowFormatBytesOfPinLaw) hisR ?_
  intro p e s m args below meth c s₁ Bd hml0 hP hK
  obtain ⟨rfl, hZ, hh⟩ := hP
  have hx := Bd.exec
  have hby := Bd.bytes
  have hml : c.maxLocals = 7 := hml0
  have hown : s.vm.findClass "com/example/crossbill/crossbill/spill/RowFormatBytesOfPinLaw" = some m.cls := findClass_of_methodNamed Bd.named
  have hnm := (name_of_methodNamed Bd.named Bd.method).1
  have X0 : Stand p l e ({ frames := 6, cells := 4, slots := 8, locals := 88 } : Room) s m #[(.int 1), (.long q)] below meth c s₁ [] 0 0 := Stand.of_body Bd
  have e0 : s₁.heap = h0 := by rw [← hh, Bd.state]; rfl
  have N0 := Fr.nil n0
  have K0 : Keep h0 h0 [] := Keep.refl _ _
  have G : Gets p e below (s₁.setTop (entryFrame m #[(.int 1), (.long q)] 7)) (s₁.setTop (mkF m 0 #[.val (.int 1), .val (.long q), .second, .unset, .unset, .unset, .unset] [])) := fun t k => castTop (ef_1n1 m q) k
  replace G := o_lloadN (q := 1) G X0.here hx (hb hby d1_0) rfl rfl
  replace G := o_nxs (q := 4) (st := [(.long (65535 : Int64)), (.long q)]) G (X0.ldc2Long hx hown (mvT hZ (o_w hw 4 rfl)) (g := o_g G) rfl (hb hby d1_1)) rfl
  replace G := o_land (q := 5) G X0.here hx (hb hby d1_4) rfl rfl
  replace G := o_l2i (q := 6) G X0.here hx (hb hby d1_5) rfl rfl
  obtain ⟨c0, hn_c0⟩ : ∃ z : Int32, (((q &&& (65535 : Int64)).toInt32).toUInt32.toUInt16.toUInt32.toInt32) = z := ⟨_, rfl⟩
  replace G := o_i2c (q := 7) G X0.here hx (hb hby d1_6) hn_c0 rfl
  replace G := o_istoreN (q := 8) (l' := #[.val (.int 1), .val (.long q), .second, .val (.int c0), .unset, .unset, .unset]) G X0.here hx (hb hby d1_7) rfl rfl
  replace G := o_lloadN (q := 9) G X0.here hx (hb hby d1_8) rfl rfl
  replace G := o_bipush (q := 11) G X0.here hx (hb hby d1_9) (v := (16 : Int32)) (by decide) rfl
  replace G := o_lushr (q := 12) G X0.here hx (hb hby d1_11) rfl rfl
  replace G := o_nxs (q := 15) (st := [(.long (65535 : Int64)), (.long ((q.toUInt64 >>> ((16 : Int32) &&& 0x3f).toInt64.toUInt64).toInt64))]) G (X0.ldc2Long hx hown (mvT hZ (o_w hw 4 rfl)) (g := o_g G) rfl (hb hby d1_12)) rfl
  replace G := o_land (q := 16) G X0.here hx (hb hby d1_15) rfl rfl
  replace G := o_l2i (q := 17) G X0.here hx (hb hby d1_16) rfl rfl
  obtain ⟨c1, hn_c1⟩ : ∃ z : Int32, (((((q.toUInt64 >>> ((16 : Int32) &&& 0x3f).toInt64.toUInt64).toInt64) &&& (65535 : Int64)).toInt32).toUInt32.toUInt16.toUInt32.toInt32) = z := ⟨_, rfl⟩
  replace G := o_i2c (q := 18) G X0.here hx (hb hby d1_17) hn_c1 rfl
  replace G := o_istore (q := 20) (l' := #[.val (.int 1), .val (.long q), .second, .val (.int c0), .val (.int c1), .unset, .unset]) G X0.here hx (hb hby d1_18) rfl rfl
  replace G := o_lloadN (q := 21) G X0.here hx (hb hby d1_20) rfl rfl
  replace G := o_bipush (q := 23) G X0.here hx (hb hby d1_21) (v := (32 : Int32)) (by decide) rfl
  replace G := o_lushr (q := 24) G X0.here hx (hb hby d1_23) rfl rfl
  replace G := o_nxs (q := 27) (st := [(.long (65535 : Int64)), (.long ((q.toUInt64 >>> ((32 : Int32) &&& 0x3f).toInt64.toUInt64).toInt64))]) G (X0.ldc2Long hx hown (mvT hZ (o_w hw 4 rfl)) (g := o_g G) rfl (hb hby d1_24)) rfl
  replace G := o_land (q := 28) G X0.here hx (hb hby d1_27) rfl rfl
  replace G := o_l2i (q := 29) G X0.here hx (hb hby d1_28) rfl rfl
  obtain ⟨c2, hn_c2⟩ : ∃ z : Int32, (((((q.toUInt64 >>> ((32 : Int32) &&& 0x3f).toInt64.toUInt64).toInt64) &&& (65535 : Int64)).toInt32).toUInt32.toUInt16.toUInt32.toInt32) = z := ⟨_, rfl⟩
  replace G := o_i2c (q := 30) G X0.here hx (hb hby d1_29) hn_c2 rfl
  replace G := o_istore (q := 32) (l' := #[.val (.int 1), .val (.long q), .second, .val (.int c0), .val (.int c1), .val (.int c2), .unset]) G X0.here hx (hb hby d1_30) rfl rfl
  replace G := o_lloadN (q := 33) G X0.here hx (hb hby d1_32) rfl rfl
  replace G := o_bipush (q := 35) G X0.here hx (hb hby d1_33) (v := (48 : Int32)) (by decide) rfl
  replace G := o_lushr (q := 36) G X0.here hx (hb hby d1_35) rfl rfl
  replace G := o_nxs (q := 39) (st := [(.long (65535 : Int64)), (.long ((q.toUInt64 >>> ((48 : Int32) &&& 0x3f).toInt64.toUInt64).toInt64))]) G (X0.ldc2Long hx hown (mvT hZ (o_w hw 4 rfl)) (g := o_g G) rfl (hb hby d1_36)) rfl
  replace G := o_land (q := 40) G X0.here hx (hb hby d1_39) rfl rfl
  replace G := o_l2i (q := 41) G X0.here hx (hb hby d1_40) rfl rfl
  obtain ⟨c3, hn_c3⟩ : ∃ z : Int32, (((((q.toUInt64 >>> ((48 : Int32) &&& 0x3f).toInt64.toUInt64).toInt64) &&& (65535 : Int64)).toInt32).toUInt32.toUInt16.toUInt32.toInt32) = z := ⟨_, rfl⟩
  replace G := o_i2c (q := 42) G X0.here hx (hb hby d1_41) hn_c3 rfl
  replace G := o_istore (q := 44) (l' := #[.val (.int 1), .val (.long q), .second, .val (.int c0), .val (.int c1), .val (.int c2), .val (.int c3)]) G X0.here hx (hb hby d1_42) rfl rfl
  replace G := o_iloadN (q := 45) G X0.here hx (hb hby d1_44) rfl rfl
  replace G := o_ifYes (q := 59) G X0.here hx (hb hby d1_45) (by decide) (by decide) (by decide)
  replace G := o_iloadN (q := 60) G X0.here hx (hb hby d1_59) rfl rfl
  replace G := o_iconst (q := 61) G X0.here hx (hb hby d1_60) (v := (1 : Int32)) (by decide) rfl
  replace G := o_icmpNo (q := 64) G X0.here hx (hb hby d1_61) (by decide) rfl
  obtain ⟨T3, h3, X3, e3, E3, A3, D3, -, st3⟩ := newO X0 hx hZ hown (o_w hw 5 rfl) (o_w hw 6 rfl) (o_w hw 7 rfl) e0 (g := o_g G) rfl (hb hby d1_64) (by decide) (by decide)
  obtain ⟨b3, g3⟩ : ∃ z, z = h0.size := ⟨_, rfl⟩
  rw [← g3] at A3 D3 st3
  have ge_b3 : n0 ≤ b3 := Nat.le_trans Z0 (Nat.le_of_eq g3.symm)
  have sz_b3 : h0.size ≤ b3 := Nat.le_trans K0.1 (Nat.le_of_eq g3.symm)
  have Z3 : n0 ≤ h3.size := Nat.le_trans Z0 E3.1
  have K3 : Keep h0 h3 [] := K0.ext E3
  have F3_value : Fld Z h3 b3 o_n1 "value" "[B" .null := D3 (Or.inr (o_w hw 21 rfl)) (ty := (.array .byte)) (by decide)
  have F3_coder : Fld Z h3 b3 o_n1 "coder" "B" (.int 0) := D3 (Or.inr (o_w hw 22 rfl)) (ty := .byte) (by decide)
  replace G := o_nxs (q := 67) (st := [(.ref b3)]) G st3 rfl
  replace G := o_dup (q := 68) G X3.here hx (hb hby d1_67) rfl rfl
  replace G := o_iconst (q := 69) G X3.here hx (hb hby d1_68) (v := (1 : Int32)) (by decide) rfl
  obtain ⟨T4, h4, k4, X4, e4, E4, A4, st4⟩ := newP X3 hx hZ (o_w hw 8 rfl) e3 (g := o_g G) rfl (hb hby d1_69) rfl (by decide) (cap := 1) (by decide) (by decide) (by decide) (by decide)
  obtain ⟨b4, g4⟩ : ∃ z, z = h3.size := ⟨_, rfl⟩
  rw [← g4] at A4 st4
  have ne5 : b3 ≠ b4 := Nat.ne_of_lt (Nat.lt_of_lt_of_le F3_coder.lt (Nat.le_of_eq g4.symm))
  have ge_b4 : n0 ≤ b4 := Nat.le_trans Z3 (Nat.le_of_eq g4.symm)
  have sz_b4 : h0.size ≤ b4 := Nat.le_trans K3.1 (Nat.le_of_eq g4.symm)
  have Z4 : n0 ≤ h4.size := Nat.le_trans Z3 E4.1
  have K4 : Keep h0 h4 [] := K3.ext E4
  have V4 : Arv Z h4 b4 k4 .char (1 : Int32) [(.int 0)] (.int 0) := (Arv.new A4 (by decide)).pad (pad_rep [] (.int 0) 1)
  replace G := o_nxs (q := 71) (st := [(.ref b4), (.ref b3), (.ref b3)]) G st4 rfl
  replace G := o_dup (q := 72) G X4.here hx (hb hby d1_71) rfl rfl
  replace G := o_iconst (q := 73) G X4.here hx (hb hby d1_72) (v := (0 : Int32)) (by decide) rfl
  replace G := o_iloadN (q := 74) G X4.here hx (hb hby d1_73) rfl rfl
  obtain ⟨c6, Ar6, q6, S6, N6', H6, G6'⟩ := id V4
  have hin6 : ¬ ((0 : Int32) < 0 ∨ c6.slots.size ≤ ((0 : Int32)).toNatClampNeg) := inb_of S6 ⟨by decide, by decide⟩
  obtain ⟨T6, h6, X6, e6, W6, st6⟩ := stC X4 hx hZ e4 Ar6 (j := (0 : Int32)) hin6 (g := o_g G) rfl rfl (hb hby d1_74)
  have N6 := Fr.snoc X6 N0 ge_b4
  have Z6 : n0 ≤ h6.size := Nat.le_trans Z4 (Keep.of_wr W6).1
  have K6 : Keep h0 h6 [] := K4.wr W6 (Or.inr sz_b4)
  have V6 : Arv Z h6 b4 k4 .char (1 : Int32) [(.int (nar .char c0))] (.int 0) := Arv.set Ar6 q6 S6 N6' H6 G6' (fits_nar_char _) W6 0 rfl (Nat.le_of_ble_eq_true rfl)
  replace G := o_nxs (q := 75) (st := [(.ref b4), (.ref b3), (.ref b3)]) G st6 rfl
  rcases o_sp1 (nar .char c0) with he0 | hU
  have F8 := ((F3_value.ext E4).other W6 (Or.inl ne5))
  have F9 := ((F3_coder.ext E4).other W6 (Or.inl ne5))
  have F10 := ((A3.ext E4).wr W6)
  have F11 := (((P0.ext E3).ext E4).wr W6 ge_b4)
  have F12 : Sta Z h6 o_n1 "COMPACT_STRINGS" "Z" (.int cw) := P4.ext F11.2
  obtain ⟨_, _, ⟨T7, L7, kk7, nn7⟩, -, X7, ⟨Lc7, hQ7, l7, y7, z7⟩, st7⟩ := X6.specialBack hx (y := (⟨o_n1, "<init>", "([C)V"⟩ : MethodName)) rfl hown (mvT hZ (o_w hw 9 rfl)) (mvT hZ (o_w hw 10 rfl)) (mvT hZ (o_w hw 11 rfl)) (by decide) (backOf (W := 1) (rm2n1 l Z a0 hw [] b3 b4 k4 cw (nar .char c0) h6 n0 Z6 F8 F9 F10 ge_b3 V6 F12 hcw he0) hZ (o_w hw 11 rfl) (o_w hw 7 rfl) (by decide) (by decide)) (g := o_g G) rfl (by rw [hml]; rfl) (Steps.refl _) (a := b3) (argsL := [(.ref b4)]) (rest := [(.ref b3)]) (lenOf pd_8 rfl) rfl (by show 2 * 0 + _ ≤ _; exact Nat.le_of_eq rfl) (hb hby d1_75) (fun _ _ => ⟨rfl, e6, (by decide : 2 + 1 ≤ _), (by decide : 5 + 1 ≤ _)⟩)
  dsimp only [Pt.U, Pt.locs, Pt.cells, Pt.slots] at X7 l7 y7 z7 st7 hQ7
  subst l7 y7 z7
  obtain ⟨b_7, kb_7, rfl, N7q, K7q, B7_0, B7_1, B7_2, B7_3⟩ := hQ7
  have ne13 : b4 ≠ b_7 := Nat.ne_of_lt (Nat.lt_of_lt_of_le V6.lt B7_2)
  have ne14 : b3 ≠ b_7 := Nat.ne_of_lt (Nat.lt_of_lt_of_le F9.lt B7_2)
  have ge_b_7 : n0 ≤ b_7 := Nat.le_trans Z6 B7_2
  have sz_b_7 : h0.size ≤ b_7 := Nat.le_trans K6.1 B7_2
  have Z7 : n0 ≤ T7.heap.size := Nat.le_trans Z6 K7q.1
  have K7 : Keep h0 T7.heap [] := K6.trans K7q (allS (Or.inr sz_b3) all0)
  have N7 := Fr.app N6 N7q
  replace G := o_nxv (q := 78) (st := [(.ref b3)]) G st7 rfl
  obtain ⟨fs, hr, hrun, hended, hW, hsame⟩ := X7.leave (v := some (.ref b3)) (fun h => by rw [Bd.returns] at h; cases h)
  refine ⟨_, _, G _ (retOut X7 hx Bd.returns rfl (Or.inr (Or.inr (Or.inr (Or.inr ⟨rfl, rfl, rfl⟩)))) (hb hby d1_78) hr), hrun, hended, _, _, rfl, ?_, ⟨_, rfl⟩, hW, hsame.mono (by decide) (by decide)⟩
  have F15 := (F10.keep K7q)
  show Q1n1 Z q cw h0 n0 _ T7.heap _
  exact ⟨b3, b_7, kb_7, (0 : Int32), (1 : Int32), [(.int (nar .byte ((nar .char c0).toInt8.toInt32)))], rfl, N7, K7, sz_b3, F15, B7_0, B7_1, B7_3, (Or.inl ⟨rfl, rfl⟩)⟩
  have F17 := (((P0.ext E3).ext E4).wr W6 ge_b4)
  have F18 := ((F3_value.ext E4).other W6 (Or.inl ne5))
  have F19 := ((F3_coder.ext E4).other W6 (Or.inl ne5))
  have F20 := ((A3.ext E4).wr W6)
  obtain ⟨_, _, ⟨T16, L16, kk16, nn16⟩, -, X16, ⟨Lc16, hQ16, l16, y16, z16⟩, st16⟩ := X6.specialBack hx (y := (⟨o_n1, "<init>", "([C)V"⟩ : MethodName)) rfl hown (mvT hZ (o_w hw 9 rfl)) (mvT hZ (o_w hw 10 rfl)) (mvT hZ (o_w hw 11 rfl)) (by decide) (backOf (W := 1) (rm2u1 l Z a0 hw [] b3 b4 k4 cw (nar .char c0) h6 n0 Z6 F17 P1 P2 P3 P4 F18 F19 F20 ge_b3 V6 hcw hU (o_nr _)) hZ (o_w hw 11 rfl) (o_w hw 7 rfl) (by decide) (by decide)) (g := o_g G) rfl (by rw [hml]; rfl) (Steps.refl _) (a := b3) (argsL := [(.ref b4)]) (rest := [(.ref b3)]) (lenOf pd_8 rfl) rfl (by show 2 * 0 + _ ≤ _; exact Nat.le_of_eq rfl) (hb hby d1_75) (fun _ _ => ⟨rfl, e6, (by decide : 2 + 2 ≤ _), (by decide : 5 + 3 ≤ _)⟩)
  dsimp only [Pt.U, Pt.locs, Pt.cells, Pt.slots] at X16 l16 y16 z16 st16 hQ16
  subst l16 y16 z16
  obtain ⟨b_16, kb_16, rfl, N16q, K16q, B16_0, B16_1, B16_2, B16_3⟩ := hQ16
  have ne21 : b4 ≠ b_16 := Nat.ne_of_lt (Nat.lt_of_lt_of_le V6.lt B16_2)
  have ne22 : b3 ≠ b_16 := Nat.ne_of_lt (Nat.lt_of_lt_of_le F19.lt B16_2)
  have ge_b_16 : n0 ≤ b_16 := Nat.le_trans Z6 B16_2
  have sz_b_16 : h0.size ≤ b_16 := Nat.le_trans K6.1 B16_2
  have Z16 : n0 ≤ T16.heap.size := Nat.le_trans Z6 K16q.1
  have K16 : Keep h0 T16.heap [] := K6.trans K16q (allS (Or.inr sz_b3) all0)
  have N16 := Fr.app N6 N16q
  replace G := o_nxv (q := 78) (st := [(.ref b3)]) G st16 rfl
  obtain ⟨fs, hr, hrun, hended, hW, hsame⟩ := X16.leave (v := some (.ref b3)) (fun h => by rw [Bd.returns] at h; cases h)
  refine ⟨_, _, G _ (retOut X16 hx Bd.returns rfl (Or.inr (Or.inr (Or.inr (Or.inr ⟨rfl, rfl, rfl⟩)))) (hb hby d1_78) hr), hrun, hended, _, _, rfl, ?_, ⟨_, rfl⟩, hW, hsame.mono (by decide) (by decide)⟩
  have F23 := (F20.keep K16q)
  show Q1n1 Z q cw h0 n0 _ T16.heap _
  exact ⟨b3, b_16, kb_16, (1 : Int32), (2 : Int32), [(.int (nar .byte (((nar .char c0) >>> ((0 : Int32) &&& 31)).toInt8.toInt32))), (.int (nar .byte (((nar .char c0) >>> ((8 : Int32) &&& 31)).toInt8.toInt32)))], rfl, N16, K16, sz_b3, F23, B16_0, B16_1, B16_3, (Or.inr ⟨rfl, rfl⟩)⟩
theorem d1_79 : decode method_2_code 79 = .ok (.iload_n 0, 1) := by decide +kernel
theorem d1_80 : decode method_2_code 80 = .ok (.iconst 2, 1) := by decide +kernel
theorem d1_81 : decode method_2_code 81 = .ok (.if_icmp .ne 23, 3) := by decide +kernel
theorem d1_84 : decode method_2_code 84 = .ok (.new 9, 3) := by decide +kernel
theorem d1_87 : decode method_2_code 87 = .ok (.dup, 1) := by decide +kernel
theorem d1_88 : decode method_2_code 88 = .ok (.iconst 2, 1) := by decide +kernel
theorem d1_89 : decode method_2_code 89 = .ok (.newarray .char, 2) := by decide +kernel
theorem d1_91 : decode method_2_code 91 = .ok (.dup, 1) := by decide +kernel
theorem d1_92 : decode method_2_code 92 = .ok (.iconst 0, 1) := by decide +kernel
theorem d1_93 : decode method_2_code 93 = .ok (.iload_n 3, 1) := by decide +kernel
theorem d1_94 : decode method_2_code 94 = .ok (.castore, 1) := by decide +kernel
theorem d1_95 : decode method_2_code 95 = .ok (.dup, 1) := by decide +kernel
theorem d1_96 : decode method_2_code 96 = .ok (.iconst 1, 1) := by decide +kernel
theorem d1_97 : decode method_2_code 97 = .ok (.iload 4, 2) := by decide +kernel
theorem d1_99 : decode method_2_code 99 = .ok (.castore, 1) := by decide +kernel
theorem d1_100 : decode method_2_code 100 = .ok (.invokespecial 11, 3) := by decide +kernel
theorem d1_103 : decode method_2_code 103 = .ok (.areturn, 1) := by decide +kernel
theorem ef_1n2 (m : MethodId) (x1 : Int64) : entryFrame m #[(.int 2), (.long x1)] 7 = mkF m 0 #[.val (.int 2), .val (.long x1), .second, .unset, .unset, .unset, .unset] [] := by first | (simp [entryFrame, mkF, argsToLocals, Value.category]; done) | rfl
def Q1n2 (Z : State) (q : Int64) (cw : Int32) (h0 : Heap) (n0 : Nat) (v : Option Value) (h : Heap) (L : List Loc) : Prop := ∃ (t : Addr) (b : Addr) (kb : ClassId) (cc : Int32) (nn : Int32) (vs : List Value), v = some (.ref t) ∧ Fr n0 L ∧ Keep h0 h [] ∧ h0.size ≤ t ∧ (Exa Z h t o_n1) ∧ (Fld Z h t o_n1 "value" "[B" (.ref b)) ∧ (Fld Z h t o_n1 "coder" "B" (.int cc)) ∧ (Arv Z h b kb .byte nn vs (.int 0)) ∧ ((cc = (0 : Int32) ∧ nn = (2 : Int32)) ∨ (cc = (1 : Int32) ∧ nn = (4 : Int32)))
set_option maxRecDepth 65536 in
set_option maxHeartbeats 40000000 in
theorem rm1n2 (l : Launch) (Z : State) (a0 : Array Value) (hw : ∀ d ∈ tables_1, d.before a0 Z = true) (ws : List Jvm.Cond) (q : Int64) (cw : Int32) (h0 : Heap) (n0 : Nat) (Z0 : n0 ≤ h0.size) (P0 : Old Z n0 h0) (P1 : Sta Z Z.heap o_n0 "$assertionsDisabled" "Z" (.int 1)) (P2 : Sta Z Z.heap o_n0 "HI_BYTE_SHIFT" "I" (.int 0)) (P3 : Sta Z Z.heap o_n0 "LO_BYTE_SHIFT" "I" (.int 8)) (P4 : Sta Z Z.heap o_n1 "COMPACT_STRINGS" "Z" (.int cw)) (hcw : ¬ cw = (0 : Int32)) :
    MetFree l (⟨"com/example/crossbill/crossbill/spill/RowFormatBytesOfPinLaw", "text", "(IJ)Ljava/lang/String;"⟩ : MethodName) (head1 (Jvm.Cond.code (⟨"com/example/crossbill/crossbill/spill/RowFormatBytesOfPinLaw", "text", "(IJ)Ljava/lang/String;"⟩ : MethodName) method_2_code 7 (some (.object o_n1)) :: ws) ({ frames := 6, cells := 4, slots := 12, locals := 88 } : Room)) (fun argz U => argz = #[(.int 2), (.long q)] ∧ Z.Warmed39 U.vm ∧ U.heap = h0) (fun _ _ _ _ _ => True) (fun _ U o U' => ∃ v L, o = .returned v ∧ Q1n2 Z q cw h0 n0 v U'.heap L ∧ FrameEnd U o U' L ({ frames := 6, cells := 4, slots := 12, locals := 88 } : Room).cells ({ frames := 6, cells := 4, slots := 12, locals := 88 } : Room).slots) := by
  refine MetFree.of_bodySF (plainFor_of_name pn_com_example_crossbill_crossbill_spill_RowFormatBytesOfPinLaw) hisR ?_
  intro p e s m args below meth c s₁ Bd hml0 hP hK
  obtain ⟨rfl, hZ, hh⟩ := hP
  have hx := Bd.exec
  have hby := Bd.bytes
  have hml : c.maxLocals = 7 := hml0
  have hown : s.vm.findClass "com/example/crossbill/crossbill/spill/RowFormatBytesOfPinLaw" = some m.cls := findClass_of_methodNamed Bd.named
  have hnm := (name_of_methodNamed Bd.named Bd.method).1
  have X0 : Stand p l e ({ frames := 6, cells := 4, slots := 12, locals := 88 } : Room) s m #[(.int 2), (.long q)] below meth c s₁ [] 0 0 := Stand.of_body Bd
  have e0 : s₁.heap = h0 := by rw [← hh, Bd.state]; rfl
  have N0 := Fr.nil n0
  have K0 : Keep h0 h0 [] := Keep.refl _ _
  have G : Gets p e below (s₁.setTop (entryFrame m #[(.int 2), (.long q)] 7)) (s₁.setTop (mkF m 0 #[.val (.int 2), .val (.long q), .second, .unset, .unset, .unset, .unset] [])) := fun t k => castTop (ef_1n2 m q) k
  replace G := o_lloadN (q := 1) G X0.here hx (hb hby d1_0) rfl rfl
  replace G := o_nxs (q := 4) (st := [(.long (65535 : Int64)), (.long q)]) G (X0.ldc2Long hx hown (mvT hZ (o_w hw 4 rfl)) (g := o_g G) rfl (hb hby d1_1)) rfl
  replace G := o_land (q := 5) G X0.here hx (hb hby d1_4) rfl rfl
  replace G := o_l2i (q := 6) G X0.here hx (hb hby d1_5) rfl rfl
  obtain ⟨c0, hn_c0⟩ : ∃ z : Int32, (((q &&& (65535 : Int64)).toInt32).toUInt32.toUInt16.toUInt32.toInt32) = z := ⟨_, rfl⟩
  replace G := o_i2c (q := 7) G X0.here hx (hb hby d1_6) hn_c0 rfl
  replace G := o_istoreN (q := 8) (l' := #[.val (.int 2), .val (.long q), .second, .val (.int c0), .unset, .unset, .unset]) G X0.here hx (hb hby d1_7) rfl rfl
  replace G := o_lloadN (q := 9) G X0.here hx (hb hby d1_8) rfl rfl
  replace G := o_bipush (q := 11) G X0.here hx (hb hby d1_9) (v := (16 : Int32)) (by decide) rfl
  replace G := o_lushr (q := 12) G X0.here hx (hb hby d1_11) rfl rfl
  replace G := o_nxs (q := 15) (st := [(.long (65535 : Int64)), (.long ((q.toUInt64 >>> ((16 : Int32) &&& 0x3f).toInt64.toUInt64).toInt64))]) G (X0.ldc2Long hx hown (mvT hZ (o_w hw 4 rfl)) (g := o_g G) rfl (hb hby d1_12)) rfl
  replace G := o_land (q := 16) G X0.here hx (hb hby d1_15) rfl rfl
  replace G := o_l2i (q := 17) G X0.here hx (hb hby d1_16) rfl rfl
  obtain ⟨c1, hn_c1⟩ : ∃ z : Int32, (((((q.toUInt64 >>> ((16 : Int32) &&& 0x3f).toInt64.toUInt64).toInt64) &&& (65535 : Int64)).toInt32).toUInt32.toUInt16.toUInt32.toInt32) = z := ⟨_, rfl⟩
  replace G := o_i2c (q := 18) G X0.here hx (hb hby d1_17) hn_c1 rfl
  replace G := o_istore (q := 20) (l' := #[.val (.int 2), .val (.long q), .second, .val (.int c0), .val (.int c1), .unset, .unset]) G X0.here hx (hb hby d1_18) rfl rfl
  replace G := o_lloadN (q := 21) G X0.here hx (hb hby d1_20) rfl rfl
  replace G := o_bipush (q := 23) G X0.here hx (hb hby d1_21) (v := (32 : Int32)) (by decide) rfl
  replace G := o_lushr (q := 24) G X0.here hx (hb hby d1_23) rfl rfl
  replace G := o_nxs (q := 27) (st := [(.long (65535 : Int64)), (.long ((q.toUInt64 >>> ((32 : Int32) &&& 0x3f).toInt64.toUInt64).toInt64))]) G (X0.ldc2Long hx hown (mvT hZ (o_w hw 4 rfl)) (g := o_g G) rfl (hb hby d1_24)) rfl
  replace G := o_land (q := 28) G X0.here hx (hb hby d1_27) rfl rfl
  replace G := o_l2i (q := 29) G X0.here hx (hb hby d1_28) rfl rfl
  obtain ⟨c2, hn_c2⟩ : ∃ z : Int32, (((((q.toUInt64 >>> ((32 : Int32) &&& 0x3f).toInt64.toUInt64).toInt64) &&& (65535 : Int64)).toInt32).toUInt32.toUInt16.toUInt32.toInt32) = z := ⟨_, rfl⟩
  replace G := o_i2c (q := 30) G X0.here hx (hb hby d1_29) hn_c2 rfl
  replace G := o_istore (q := 32) (l' := #[.val (.int 2), .val (.long q), .second, .val (.int c0), .val (.int c1), .val (.int c2), .unset]) G X0.here hx (hb hby d1_30) rfl rfl
  replace G := o_lloadN (q := 33) G X0.here hx (hb hby d1_32) rfl rfl
  replace G := o_bipush (q := 35) G X0.here hx (hb hby d1_33) (v := (48 : Int32)) (by decide) rfl
  replace G := o_lushr (q := 36) G X0.here hx (hb hby d1_35) rfl rfl
  replace G := o_nxs (q := 39) (st := [(.long (65535 : Int64)), (.long ((q.toUInt64 >>> ((48 : Int32) &&& 0x3f).toInt64.toUInt64).toInt64))]) G (X0.ldc2Long hx hown (mvT hZ (o_w hw 4 rfl)) (g := o_g G) rfl (hb hby d1_36)) rfl
  replace G := o_land (q := 40) G X0.here hx (hb hby d1_39) rfl rfl
  replace G := o_l2i (q := 41) G X0.here hx (hb hby d1_40) rfl rfl
  obtain ⟨c3, hn_c3⟩ : ∃ z : Int32, (((((q.toUInt64 >>> ((48 : Int32) &&& 0x3f).toInt64.toUInt64).toInt64) &&& (65535 : Int64)).toInt32).toUInt32.toUInt16.toUInt32.toInt32) = z := ⟨_, rfl⟩
  replace G := o_i2c (q := 42) G X0.here hx (hb hby d1_41) hn_c3 rfl
  replace G := o_istore (q := 44) (l' := #[.val (.int 2), .val (.long q), .second, .val (.int c0), .val (.int c1), .val (.int c2), .val (.int c3)]) G X0.here hx (hb hby d1_42) rfl rfl
  replace G := o_iloadN (q := 45) G X0.here hx (hb hby d1_44) rfl rfl
  replace G := o_ifYes (q := 59) G X0.here hx (hb hby d1_45) (by decide) (by decide) (by decide)
  replace G := o_iloadN (q := 60) G X0.here hx (hb hby d1_59) rfl rfl
  replace G := o_iconst (q := 61) G X0.here hx (hb hby d1_60) (v := (1 : Int32)) (by decide) rfl
  replace G := o_icmpYes (q := 79) G X0.here hx (hb hby d1_61) (by decide) (by decide) (by decide)
  replace G := o_iloadN (q := 80) G X0.here hx (hb hby d1_79) rfl rfl
  replace G := o_iconst (q := 81) G X0.here hx (hb hby d1_80) (v := (2 : Int32)) (by decide) rfl
  replace G := o_icmpNo (q := 84) G X0.here hx (hb hby d1_81) (by decide) rfl
  obtain ⟨T4, h4, X4, e4, E4, A4, D4, -, st4⟩ := newO X0 hx hZ hown (o_w hw 5 rfl) (o_w hw 6 rfl) (o_w hw 7 rfl) e0 (g := o_g G) rfl (hb hby d1_84) (by decide) (by decide)
  obtain ⟨b4, g4⟩ : ∃ z, z = h0.size := ⟨_, rfl⟩
  rw [← g4] at A4 D4 st4
  have ge_b4 : n0 ≤ b4 := Nat.le_trans Z0 (Nat.le_of_eq g4.symm)
  have sz_b4 : h0.size ≤ b4 := Nat.le_trans K0.1 (Nat.le_of_eq g4.symm)
  have Z4 : n0 ≤ h4.size := Nat.le_trans Z0 E4.1
  have K4 : Keep h0 h4 [] := K0.ext E4
  have F4_value : Fld Z h4 b4 o_n1 "value" "[B" .null := D4 (Or.inr (o_w hw 21 rfl)) (ty := (.array .byte)) (by decide)
  have F4_coder : Fld Z h4 b4 o_n1 "coder" "B" (.int 0) := D4 (Or.inr (o_w hw 22 rfl)) (ty := .byte) (by decide)
  replace G := o_nxs (q := 87) (st := [(.ref b4)]) G st4 rfl
  replace G := o_dup (q := 88) G X4.here hx (hb hby d1_87) rfl rfl
  replace G := o_iconst (q := 89) G X4.here hx (hb hby d1_88) (v := (2 : Int32)) (by decide) rfl
  obtain ⟨T5, h5, k5, X5, e5, E5, A5, st5⟩ := newP X4 hx hZ (o_w hw 8 rfl) e4 (g := o_g G) rfl (hb hby d1_89) rfl (by decide) (cap := 2) (by decide) (by decide) (by decide) (by decide)
  obtain ⟨b5, g5⟩ : ∃ z, z = h4.size := ⟨_, rfl⟩
  rw [← g5] at A5 st5
  have ne6 : b4 ≠ b5 := Nat.ne_of_lt (Nat.lt_of_lt_of_le F4_coder.lt (Nat.le_of_eq g5.symm))
  have ge_b5 : n0 ≤ b5 := Nat.le_trans Z4 (Nat.le_of_eq g5.symm)
  have sz_b5 : h0.size ≤ b5 := Nat.le_trans K4.1 (Nat.le_of_eq g5.symm)
  have Z5 : n0 ≤ h5.size := Nat.le_trans Z4 E5.1
  have K5 : Keep h0 h5 [] := K4.ext E5
  have V5 : Arv Z h5 b5 k5 .char (2 : Int32) [(.int 0), (.int 0)] (.int 0) := (Arv.new A5 (by decide)).pad (pad_rep [] (.int 0) 2)
  replace G := o_nxs (q := 91) (st := [(.ref b5), (.ref b4), (.ref b4)]) G st5 rfl
  replace G := o_dup (q := 92) G X5.here hx (hb hby d1_91) rfl rfl
  replace G := o_iconst (q := 93) G X5.here hx (hb hby d1_92) (v := (0 : Int32)) (by decide) rfl
  replace G := o_iloadN (q := 94) G X5.here hx (hb hby d1_93) rfl rfl
  obtain ⟨c7, Ar7, q7, S7, N7', H7, G7'⟩ := id V5
  have hin7 : ¬ ((0 : Int32) < 0 ∨ c7.slots.size ≤ ((0 : Int32)).toNatClampNeg) := inb_of S7 ⟨by decide, by decide⟩
  obtain ⟨T7, h7, X7, e7, W7, st7⟩ := stC X5 hx hZ e5 Ar7 (j := (0 : Int32)) hin7 (g := o_g G) rfl rfl (hb hby d1_94)
  have N7 := Fr.snoc X7 N0 ge_b5
  have Z7 : n0 ≤ h7.size := Nat.le_trans Z5 (Keep.of_wr W7).1
  have K7 : Keep h0 h7 [] := K5.wr W7 (Or.inr sz_b5)
  have V7 : Arv Z h7 b5 k5 .char (2 : Int32) [(.int (nar .char c0)), (.int 0)] (.int 0) := Arv.set Ar7 q7 S7 N7' H7 G7' (fits_nar_char _) W7 0 rfl (Nat.le_of_ble_eq_true rfl)
  replace G := o_nxs (q := 95) (st := [(.ref b5), (.ref b4), (.ref b4)]) G st7 rfl
  replace G := o_dup (q := 96) G X7.here hx (hb hby d1_95) rfl rfl
  replace G := o_iconst (q := 97) G X7.here hx (hb hby d1_96) (v := (1 : Int32)) (by decide) rfl
  replace G := o_iload (q := 99) G X7.here hx (hb hby d1_97) rfl rfl
  obtain ⟨c8, Ar8, q8, S8, N8', H8, G8'⟩ := id V7
  have hin8 : ¬ ((1 : Int32) < 0 ∨ c8.slots.size ≤ ((1 : Int32)).toNatClampNeg) := inb_of S8 ⟨by decide, by decide⟩
  obtain ⟨T8, h8, X8, e8, W8, st8⟩ := stC X7 hx hZ e7 Ar8 (j := (1 : Int32)) hin8 (g := o_g G) rfl rfl (hb hby d1_99)
  have N8 := Fr.snoc X8 N7 ge_b5
  have Z8 : n0 ≤ h8.size := Nat.le_trans Z7 (Keep.of_wr W8).1
  have K8 : Keep h0 h8 [] := K7.wr W8 (Or.inr sz_b5)
  have V8 : Arv Z h8 b5 k5 .char (2 : Int32) [(.int (nar .char c0)), (.int (nar .char c1))] (.int 0) := Arv.set Ar8 q8 S8 N8' H8 G8' (fits_nar_char _) W8 1 rfl (Nat.le_of_ble_eq_true rfl)
  replace G := o_nxs (q := 100) (st := [(.ref b5), (.ref b4), (.ref b4)]) G st8 rfl
  rcases o_sp2 (nar .char c0) (nar .char c1) with ⟨he0, he1⟩ | hU
  have F10 := (((F4_value.ext E5).other W7 (Or.inl ne6)).other W8 (Or.inl ne6))
  have F11 := (((F4_coder.ext E5).other W7 (Or.inl ne6)).other W8 (Or.inl ne6))
  have F12 := (((A4.ext E5).wr W7).wr W8)
  have F13 := ((((P0.ext E4).ext E5).wr W7 ge_b5).wr W8 ge_b5)
  have F14 : Sta Z h8 o_n1 "COMPACT_STRINGS" "Z" (.int cw) := P4.ext F13.2
  obtain ⟨_, _, ⟨T9, L9, kk9, nn9⟩, -, X9, ⟨Lc9, hQ9, l9, y9, z9⟩, st9⟩ := X8.specialBack hx (y := (⟨o_n1, "<init>", "([C)V"⟩ : MethodName)) rfl hown (mvT hZ (o_w hw 9 rfl)) (mvT hZ (o_w hw 10 rfl)) (mvT hZ (o_w hw 11 rfl)) (by decide) (backOf (W := 1) (rm2n2 l Z a0 hw [] b4 b5 k5 cw (nar .char c0) (nar .char c1) h8 n0 Z8 F10 F11 F12 ge_b4 V8 F14 hcw he0 he1) hZ (o_w hw 11 rfl) (o_w hw 7 rfl) (by decide) (by decide)) (g := o_g G) rfl (by rw [hml]; rfl) (Steps.refl _) (a := b4) (argsL := [(.ref b5)]) (rest := [(.ref b4)]) (lenOf pd_8 rfl) rfl (by show 2 * 0 + _ ≤ _; exact Nat.le_of_eq rfl) (hb hby d1_100) (fun _ _ => ⟨rfl, e8, (by decide : 2 + 1 ≤ _), (by decide : 6 + 2 ≤ _)⟩)
  dsimp only [Pt.U, Pt.locs, Pt.cells, Pt.slots] at X9 l9 y9 z9 st9 hQ9
  subst l9 y9 z9
  obtain ⟨b_9, kb_9, rfl, N9q, K9q, B9_0, B9_1, B9_2, B9_3⟩ := hQ9
  have ne15 : b5 ≠ b_9 := Nat.ne_of_lt (Nat.lt_of_lt_of_le V8.lt B9_2)
  have ne16 : b4 ≠ b_9 := Nat.ne_of_lt (Nat.lt_of_lt_of_le F11.lt B9_2)
  have ge_b_9 : n0 ≤ b_9 := Nat.le_trans Z8 B9_2
  have sz_b_9 : h0.size ≤ b_9 := Nat.le_trans K8.1 B9_2
  have Z9 : n0 ≤ T9.heap.size := Nat.le_trans Z8 K9q.1
  have K9 : Keep h0 T9.heap [] := K8.trans K9q (allS (Or.inr sz_b4) all0)
  have N9 := Fr.app N8 N9q
  replace G := o_nxv (q := 103) (st := [(.ref b4)]) G st9 rfl
  obtain ⟨fs, hr, hrun, hended, hW, hsame⟩ := X9.leave (v := some (.ref b4)) (fun h => by rw [Bd.returns] at h; cases h)
  refine ⟨_, _, G _ (retOut X9 hx Bd.returns rfl (Or.inr (Or.inr (Or.inr (Or.inr ⟨rfl, rfl, rfl⟩)))) (hb hby d1_103) hr), hrun, hended, _, _, rfl, ?_, ⟨_, rfl⟩, hW, hsame.mono (by decide) (by decide)⟩
  have F17 := (F12.keep K9q)
  show Q1n2 Z q cw h0 n0 _ T9.heap _
  exact ⟨b4, b_9, kb_9, (0 : Int32), (2 : Int32), [(.int (nar .byte ((nar .char c0).toInt8.toInt32))), (.int (nar .byte ((nar .char c1).toInt8.toInt32)))], rfl, N9, K9, sz_b4, F17, B9_0, B9_1, B9_3, (Or.inl ⟨rfl, rfl⟩)⟩
  have F19 := ((((P0.ext E4).ext E5).wr W7 ge_b5).wr W8 ge_b5)
  have F20 := (((F4_value.ext E5).other W7 (Or.inl ne6)).other W8 (Or.inl ne6))
  have F21 := (((F4_coder.ext E5).other W7 (Or.inl ne6)).other W8 (Or.inl ne6))
  have F22 := (((A4.ext E5).wr W7).wr W8)
  obtain ⟨_, _, ⟨T18, L18, kk18, nn18⟩, -, X18, ⟨Lc18, hQ18, l18, y18, z18⟩, st18⟩ := X8.specialBack hx (y := (⟨o_n1, "<init>", "([C)V"⟩ : MethodName)) rfl hown (mvT hZ (o_w hw 9 rfl)) (mvT hZ (o_w hw 10 rfl)) (mvT hZ (o_w hw 11 rfl)) (by decide) (backOf (W := 1) (rm2u2 l Z a0 hw [] b4 b5 k5 cw (nar .char c0) (nar .char c1) h8 n0 Z8 F19 P1 P2 P3 P4 F20 F21 F22 ge_b4 V8 hcw hU (o_nr _) (o_nr _)) hZ (o_w hw 11 rfl) (o_w hw 7 rfl) (by decide) (by decide)) (g := o_g G) rfl (by rw [hml]; rfl) (Steps.refl _) (a := b4) (argsL := [(.ref b5)]) (rest := [(.ref b4)]) (lenOf pd_8 rfl) rfl (by show 2 * 0 + _ ≤ _; exact Nat.le_of_eq rfl) (hb hby d1_100) (fun _ _ => ⟨rfl, e8, (by decide : 2 + 2 ≤ _), (by decide : 6 + 6 ≤ _)⟩)
  dsimp only [Pt.U, Pt.locs, Pt.cells, Pt.slots] at X18 l18 y18 z18 st18 hQ18
  subst l18 y18 z18
  obtain ⟨b_18, kb_18, rfl, N18q, K18q, B18_0, B18_1, B18_2, B18_3⟩ := hQ18
  have ne23 : b5 ≠ b_18 := Nat.ne_of_lt (Nat.lt_of_lt_of_le V8.lt B18_2)
  have ne24 : b4 ≠ b_18 := Nat.ne_of_lt (Nat.lt_of_lt_of_le F21.lt B18_2)
  have ge_b_18 : n0 ≤ b_18 := Nat.le_trans Z8 B18_2
  have sz_b_18 : h0.size ≤ b_18 := Nat.le_trans K8.1 B18_2
  have Z18 : n0 ≤ T18.heap.size := Nat.le_trans Z8 K18q.1
  have K18 : Keep h0 T18.heap [] := K8.trans K18q (allS (Or.inr sz_b4) all0)
  have N18 := Fr.app N8 N18q
  replace G := o_nxv (q := 103) (st := [(.ref b4)]) G st18 rfl
  obtain ⟨fs, hr, hrun, hended, hW, hsame⟩ := X18.leave (v := some (.ref b4)) (fun h => by rw [Bd.returns] at h; cases h)
  refine ⟨_, _, G _ (retOut X18 hx Bd.returns rfl (Or.inr (Or.inr (Or.inr (Or.inr ⟨rfl, rfl, rfl⟩)))) (hb hby d1_103) hr), hrun, hended, _, _, rfl, ?_, ⟨_, rfl⟩, hW, hsame.mono (by decide) (by decide)⟩
  have F25 := (F22.keep K18q)
  show Q1n2 Z q cw h0 n0 _ T18.heap _
  exact ⟨b4, b_18, kb_18, (1 : Int32), (4 : Int32), [(.int (nar .byte (((nar .char c0) >>> ((0 : Int32) &&& 31)).toInt8.toInt32))), (.int (nar .byte (((nar .char c0) >>> ((8 : Int32) &&& 31)).toInt8.toInt32))), (.int (nar .byte (((nar .char c1) >>> ((0 : Int32) &&& 31)).toInt8.toInt32))), (.int (nar .byte (((nar .char c1) >>> ((8 : Int32) &&& 31)).toInt8.toInt32)))], rfl, N18, K18, sz_b4, F25, B18_0, B18_1, B18_3, (Or.inr ⟨rfl, rfl⟩)⟩
theorem d1_104 : decode method_2_code 104 = .ok (.iload_n 0, 1) := by decide +kernel
theorem d1_105 : decode method_2_code 105 = .ok (.iconst 3, 1) := by decide +kernel
theorem d1_106 : decode method_2_code 106 = .ok (.if_icmp .ne 28, 3) := by decide +kernel
theorem d1_109 : decode method_2_code 109 = .ok (.new 9, 3) := by decide +kernel
theorem d1_112 : decode method_2_code 112 = .ok (.dup, 1) := by decide +kernel
theorem d1_113 : decode method_2_code 113 = .ok (.iconst 3, 1) := by decide +kernel
theorem d1_114 : decode method_2_code 114 = .ok (.newarray .char, 2) := by decide +kernel
theorem d1_116 : decode method_2_code 116 = .ok (.dup, 1) := by decide +kernel
theorem d1_117 : decode method_2_code 117 = .ok (.iconst 0, 1) := by decide +kernel
theorem d1_118 : decode method_2_code 118 = .ok (.iload_n 3, 1) := by decide +kernel
theorem d1_119 : decode method_2_code 119 = .ok (.castore, 1) := by decide +kernel
theorem d1_120 : decode method_2_code 120 = .ok (.dup, 1) := by decide +kernel
theorem d1_121 : decode method_2_code 121 = .ok (.iconst 1, 1) := by decide +kernel
theorem d1_122 : decode method_2_code 122 = .ok (.iload 4, 2) := by decide +kernel
theorem d1_124 : decode method_2_code 124 = .ok (.castore, 1) := by decide +kernel
theorem d1_125 : decode method_2_code 125 = .ok (.dup, 1) := by decide +kernel
theorem d1_126 : decode method_2_code 126 = .ok (.iconst 2, 1) := by decide +kernel
theorem d1_127 : decode method_2_code 127 = .ok (.iload 5, 2) := by decide +kernel
theorem d1_129 : decode method_2_code 129 = .ok (.castore, 1) := by decide +kernel
theorem d1_130 : decode method_2_code 130 = .ok (.invokespecial 11, 3) := by decide +kernel
theorem d1_133 : decode method_2_code 133 = .ok (.areturn, 1) := by decide +kernel
theorem ef_1n3 (m : MethodId) (x1 : Int64) : entryFrame m #[(.int 3), (.long x1)] 7 = mkF m 0 #[.val (.int 3), .val (.long x1), .second, .unset, .unset, .unset, .unset] [] := by first | (simp [entryFrame, mkF, argsToLocals, Value.category]; done) | rfl
def Q1n3 (Z : State) (q : Int64) (cw : Int32) (h0 : Heap) (n0 : Nat) (v : Option Value) (h : Heap) (L : List Loc) : Prop := ∃ (t : Addr) (b : Addr) (kb : ClassId) (cc : Int32) (nn : Int32) (vs : List Value), v = some (.ref t) ∧ Fr n0 L ∧ Keep h0 h [] ∧ h0.size ≤ t ∧ (Exa Z h t o_n1) ∧ (Fld Z h t o_n1 "value" "[B" (.ref b)) ∧ (Fld Z h t o_n1 "coder" "B" (.int cc)) ∧ (Arv Z h b kb .byte nn vs (.int 0)) ∧ ((cc = (0 : Int32) ∧ nn = (3 : Int32)) ∨ (cc = (1 : Int32) ∧ nn = (6 : Int32)))
set_option maxRecDepth 65536 in
set_option maxHeartbeats 40000000 in
theorem rm1n3 (l : Launch) (Z : State) (a0 : Array Value) (hw : ∀ d ∈ tables_1, d.before a0 Z = true) (ws : List Jvm.Cond) (q : Int64) (cw : Int32) (h0 : Heap) (n0 : Nat) (Z0 : n0 ≤ h0.size) (P0 : Old Z n0 h0) (P1 : Sta Z Z.heap o_n0 "$assertionsDisabled" "Z" (.int 1)) (P2 : Sta Z Z.heap o_n0 "HI_BYTE_SHIFT" "I" (.int 0)) (P3 : Sta Z Z.heap o_n0 "LO_BYTE_SHIFT" "I" (.int 8)) (P4 : Sta Z Z.heap o_n1 "COMPACT_STRINGS" "Z" (.int cw)) (hcw : ¬ cw = (0 : Int32)) :
    MetFree l (⟨"com/example/crossbill/crossbill/spill/RowFormatBytesOfPinLaw", "text", "(IJ)Ljava/lang/String;"⟩ : MethodName) (head1 (Jvm.Cond.code (⟨"com/example/crossbill/crossbill/spill/RowFormatBytesOfPinLaw", "text", "(IJ)Ljava/lang/String;"⟩ : MethodName) method_2_code 7 (some (.object o_n1)) :: ws) ({ frames := 6, cells := 4, slots := 16, locals := 88 } : Room)) (fun argz U => argz = #[(.int 3), (.long q)] ∧ Z.Warmed39 U.vm ∧ U.heap = h0) (fun _ _ _ _ _ => True) (fun _ U o U' => ∃ v L, o = .returned v ∧ Q1n3 Z q cw h0 n0 v U'.heap L ∧ FrameEnd U o U' L ({ frames := 6, cells := 4, slots := 16, locals := 88 } : Room).cells ({ frames := 6, cells := 4, slots := 16, locals := 88 } : Room).slots) := by
  refine MetFree.of_bodySF (plainFor_of_name pn_com_example_crossbill_crossbill_spill_RowFormatBytesOfPinLaw) hisR ?_
  intro p e s m args below meth c s₁ Bd hml0 hP hK
  obtain ⟨rfl, hZ, hh⟩ := hP
  have hx := Bd.exec
  have hby := Bd.bytes
  have hml : c.maxLocals = 7 := hml0
  have hown : s.vm.findClass "com/example/crossbill/crossbill/spill/RowFormatBytesOfPinLaw" = some m.cls := findClass_of_methodNamed Bd.named
  have hnm := (name_of_methodNamed Bd.named Bd.method).1
  have X0 : Stand p l e ({ frames := 6, cells := 4, slots := 16, locals := 88 } : Room) s m #[(.int 3), (.long q)] below meth c s₁ [] 0 0 := Stand.of_body Bd
  have e0 : s₁.heap = h0 := by rw [← hh, Bd.state]; rfl
  have N0 := Fr.nil n0
  have K0 : Keep h0 h0 [] := Keep.refl _ _
  have G : Gets p e below (s₁.setTop (entryFrame m #[(.int 3), (.long q)] 7)) (s₁.setTop (mkF m 0 #[.val (.int 3), .val (.long q), .second, .unset, .unset, .unset, .unset] [])) := fun t k => castTop (ef_1n3 m q) k
  replace G := o_lloadN (q := 1) G X0.here hx (hb hby d1_0) rfl rfl
  replace G := o_nxs (q := 4) (st := [(.long (65535 : Int64)), (.long q)]) G (X0.ldc2Long hx hown (mvT hZ (o_w hw 4 rfl)) (g := o_g G) rfl (hb hby d1_1)) rfl
  replace G := o_land (q := 5) G X0.here hx (hb hby d1_4) rfl rfl
  replace G := o_l2i (q := 6) G X0.here hx (hb hby d1_5) rfl rfl
  obtain ⟨c0, hn_c0⟩ : ∃ z : Int32, (((q &&& (65535 : Int64)).toInt32).toUInt32.toUInt16.toUInt32.toInt32) = z := ⟨_, rfl⟩
  replace G := o_i2c (q := 7) G X0.here hx (hb hby d1_6) hn_c0 rfl
  replace G := o_istoreN (q := 8) (l' := #[.val (.int 3), .val (.long q), .second, .val (.int c0), .unset, .unset, .unset]) G X0.here hx (hb hby d1_7) rfl rfl
  replace G := o_lloadN (q := 9) G X0.here hx (hb hby d1_8) rfl rfl
  replace G := o_bipush (q := 11) G X0.here hx (hb hby d1_9) (v := (16 : Int32)) (by decide) rfl
  replace G := o_lushr (q := 12) G X0.here hx (hb hby d1_11) rfl rfl
  replace G := o_nxs (q := 15) (st := [(.long (65535 : Int64)), (.long ((q.toUInt64 >>> ((16 : Int32) &&& 0x3f).toInt64.toUInt64).toInt64))]) G (X0.ldc2Long hx hown (mvT hZ (o_w hw 4 rfl)) (g := o_g G) rfl (hb hby d1_12)) rfl
  replace G := o_land (q := 16) G X0.here hx (hb hby d1_15) rfl rfl
  replace G := o_l2i (q := 17) G X0.here hx (hb hby d1_16) rfl rfl
  obtain ⟨c1, hn_c1⟩ : ∃ z : Int32, (((((q.toUInt64 >>> ((16 : Int32) &&& 0x3f).toInt64.toUInt64).toInt64) &&& (65535 : Int64)).toInt32).toUInt32.toUInt16.toUInt32.toInt32) = z := ⟨_, rfl⟩
  replace G := o_i2c (q := 18) G X0.here hx (hb hby d1_17) hn_c1 rfl
  replace G := o_istore (q := 20) (l' := #[.val (.int 3), .val (.long q), .second, .val (.int c0), .val (.int c1), .unset, .unset]) G X0.here hx (hb hby d1_18) rfl rfl
  replace G := o_lloadN (q := 21) G X0.here hx (hb hby d1_20) rfl rfl
  replace G := o_bipush (q := 23) G X0.here hx (hb hby d1_21) (v := (32 : Int32)) (by decide) rfl
  replace G := o_lushr (q := 24) G X0.here hx (hb hby d1_23) rfl rfl
  replace G := o_nxs (q := 27) (st := [(.long (65535 : Int64)), (.long ((q.toUInt64 >>> ((32 : Int32) &&& 0x3f).toInt64.toUInt64).toInt64))]) G (X0.ldc2Long hx hown (mvT hZ (o_w hw 4 rfl)) (g := o_g G) rfl (hb hby d1_24)) rfl
  replace G := o_land (q := 28) G X0.here hx (hb hby d1_27) rfl rfl
  replace G := o_l2i (q := 29) G X0.here hx (hb hby d1_28) rfl rfl
  obtain ⟨c2, hn_c2⟩ : ∃ z : Int32, (((((q.toUInt64 >>> ((32 : Int32) &&& 0x3f).toInt64.toUInt64).toInt64) &&& (65535 : Int64)).toInt32).toUInt32.toUInt16.toUInt32.toInt32) = z := ⟨_, rfl⟩
  replace G := o_i2c (q := 30) G X0.here hx (hb hby d1_29) hn_c2 rfl
  replace G := o_istore (q := 32) (l' := #[.val (.int 3), .val (.long q), .second, .val (.int c0), .val (.int c1), .val (.int c2), .unset]) G X0.here hx (hb hby d1_30) rfl rfl
  replace G := o_lloadN (q := 33) G X0.here hx (hb hby d1_32) rfl rfl
  replace G := o_bipush (q := 35) G X0.here hx (hb hby d1_33) (v := (48 : Int32)) (by decide) rfl
  replace G := o_lushr (q := 36) G X0.here hx (hb hby d1_35) rfl rfl
  replace G := o_nxs (q := 39) (st := [(.long (65535 : Int64)), (.long ((q.toUInt64 >>> ((48 : Int32) &&& 0x3f).toInt64.toUInt64).toInt64))]) G (X0.ldc2Long hx hown (mvT hZ (o_w hw 4 rfl)) (g := o_g G) rfl (hb hby d1_36)) rfl
  replace G := o_land (q := 40) G X0.here hx (hb hby d1_39) rfl rfl
  replace G := o_l2i (q := 41) G X0.here hx (hb hby d1_40) rfl rfl
  obtain ⟨c3, hn_c3⟩ : ∃ z : Int32, (((((q.toUInt64 >>> ((48 : Int32) &&& 0x3f).toInt64.toUInt64).toInt64) &&& (65535 : Int64)).toInt32).toUInt32.toUInt16.toUInt32.toInt32) = z := ⟨_, rfl⟩
  replace G := o_i2c (q := 42) G X0.here hx (hb hby d1_41) hn_c3 rfl
  replace G := o_istore (q := 44) (l' := #[.val (.int 3), .val (.long q), .second, .val (.int c0), .val (.int c1), .val (.int c2), .val (.int c3)]) G X0.here hx (hb hby d1_42) rfl rfl
  replace G := o_iloadN (q := 45) G X0.here hx (hb hby d1_44) rfl rfl
  replace G := o_ifYes (q := 59) G X0.here hx (hb hby d1_45) (by decide) (by decide) (by decide)
  replace G := o_iloadN (q := 60) G X0.here hx (hb hby d1_59) rfl rfl
  replace G := o_iconst (q := 61) G X0.here hx (hb hby d1_60) (v := (1 : Int32)) (by decide) rfl
  replace G := o_icmpYes (q := 79) G X0.here hx (hb hby d1_61) (by decide) (by decide) (by decide)
  replace G := o_iloadN (q := 80) G X0.here hx (hb hby d1_79) rfl rfl
  replace G := o_iconst (q := 81) G X0.here hx (hb hby d1_80) (v := (2 : Int32)) (by decide) rfl
  replace G := o_icmpYes (q := 104) G X0.here hx (hb hby d1_81) (by decide) (by decide) (by decide)
  replace G := o_iloadN (q := 105) G X0.here hx (hb hby d1_104) rfl rfl
  replace G := o_iconst (q := 106) G X0.here hx (hb hby d1_105) (v := (3 : Int32)) (by decide) rfl
  replace G := o_icmpNo (q := 109) G X0.here hx (hb hby d1_106) (by decide) rfl
  obtain ⟨T5, h5, X5, e5, E5, A5, D5, -, st5⟩ := newO X0 hx hZ hown (o_w hw 5 rfl) (o_w hw 6 rfl) (o_w hw 7 rfl) e0 (g := o_g G) rfl (hb hby d1_109) (by decide) (by decide)
  obtain ⟨b5, g5⟩ : ∃ z, z = h0.size := ⟨_, rfl⟩
  rw [← g5] at A5 D5 st5
  have ge_b5 : n0 ≤ b5 := Nat.le_trans Z0 (Nat.le_of_eq g5.symm)
  have sz_b5 : h0.size ≤ b5 := Nat.le_trans K0.1 (Nat.le_of_eq g5.symm)
  have Z5 : n0 ≤ h5.size := Nat.le_trans Z0 E5.1
  have K5 : Keep h0 h5 [] := K0.ext E5
  have F5_value : Fld Z h5 b5 o_n1 "value" "[B" .null := D5 (Or.inr (o_w hw 21 rfl)) (ty := (.array .byte)) (by decide)
  have F5_coder : Fld Z h5 b5 o_n1 "coder" "B" (.int 0) := D5 (Or.inr (o_w hw 22 rfl)) (ty := .byte) (by decide)
  replace G := o_nxs (q := 112) (st := [(.ref b5)]) G st5 rfl
  replace G := o_dup (q := 113) G X5.here hx (hb hby d1_112) rfl rfl
  replace G := o_iconst (q := 114) G X5.here hx (hb hby d1_113) (v := (3 : Int32)) (by decide) rfl
  obtain ⟨T6, h6, k6, X6, e6, E6, A6, st6⟩ := newP X5 hx hZ (o_w hw 8 rfl) e5 (g := o_g G) rfl (hb hby d1_114) rfl (by decide) (cap := 3) (by decide) (by decide) (by decide) (by decide)
  obtain ⟨b6, g6⟩ : ∃ z, z = h5.size := ⟨_, rfl⟩
  rw [← g6] at A6 st6
  have ne7 : b5 ≠ b6 := Nat.ne_of_lt (Nat.lt_of_lt_of_le F5_coder.lt (Nat.le_of_eq g6.symm))
  have ge_b6 : n0 ≤ b6 := Nat.le_trans Z5 (Nat.le_of_eq g6.symm)
  have sz_b6 : h0.size ≤ b6 := Nat.le_trans K5.1 (Nat.le_of_eq g6.symm)
  have Z6 : n0 ≤ h6.size := Nat.le_trans Z5 E6.1
  have K6 : Keep h0 h6 [] := K5.ext E6
  have V6 : Arv Z h6 b6 k6 .char (3 : Int32) [(.int 0), (.int 0), (.int 0)] (.int 0) := (Arv.new A6 (by decide)).pad (pad_rep [] (.int 0) 3)
  replace G := o_nxs (q := 116) (st := [(.ref b6), (.ref b5), (.ref b5)]) G st6 rfl
  replace G := o_dup (q := 117) G X6.here hx (hb hby d1_116) rfl rfl
  replace G := o_iconst (q := 118) G X6.here hx (hb hby d1_117) (v := (0 : Int32)) (by decide) rfl
  replace G := o_iloadN (q := 119) G X6.here hx (hb hby d1_118) rfl rfl
  obtain ⟨c8, Ar8, q8, S8, N8', H8, G8'⟩ := id V6
  have hin8 : ¬ ((0 : Int32) < 0 ∨ c8.slots.size ≤ ((0 : Int32)).toNatClampNeg) := inb_of S8 ⟨by decide, by decide⟩
  obtain ⟨T8, h8, X8, e8, W8, st8⟩ := stC X6 hx hZ e6 Ar8 (j := (0 : Int32)) hin8 (g := o_g G) rfl rfl (hb hby d1_119)
  have N8 := Fr.snoc X8 N0 ge_b6
  have Z8 : n0 ≤ h8.size := Nat.le_trans Z6 (Keep.of_wr W8).1
  have K8 : Keep h0 h8 [] := K6.wr W8 (Or.inr sz_b6)
  have V8 : Arv Z h8 b6 k6 .char (3 : Int32) [(.int (nar .char c0)), (.int 0), (.int 0)] (.int 0) := Arv.set Ar8 q8 S8 N8' H8 G8' (fits_nar_char _) W8 0 rfl (Nat.le_of_ble_eq_true rfl)
  replace G := o_nxs (q := 120) (st := [(.ref b6), (.ref b5), (.ref b5)]) G st8 rfl
  replace G := o_dup (q := 121) G X8.here hx (hb hby d1_120) rfl rfl
  replace G := o_iconst (q := 122) G X8.here hx (hb hby d1_121) (v := (1 : Int32)) (by decide) rfl
  replace G := o_iload (q := 124) G X8.here hx (hb hby d1_122) rfl rfl
  obtain ⟨c9, Ar9, q9, S9, N9', H9, G9'⟩ := id V8
  have hin9 : ¬ ((1 : Int32) < 0 ∨ c9.slots.size ≤ ((1 : Int32)).toNatClampNeg) := inb_of S9 ⟨by decide, by decide⟩
  obtain ⟨T9, h9, X9, e9, W9, st9⟩ := stC X8 hx hZ e8 Ar9 (j := (1 : Int32)) hin9 (g := o_g G) rfl rfl (hb hby d1_124)
  have N9 := Fr.snoc X9 N8 ge_b6
  have Z9 : n0 ≤ h9.size := Nat.le_trans Z8 (Keep.of_wr W9).1
  have K9 : Keep h0 h9 [] := K8.wr W9 (Or.inr sz_b6)
  have V9 : Arv Z h9 b6 k6 .char (3 : Int32) [(.int (nar .char c0)), (.int (nar .char c1)), (.int 0)] (.int 0) := Arv.set Ar9 q9 S9 N9' H9 G9' (fits_nar_char _) W9 1 rfl (Nat.le_of_ble_eq_true rfl)
  replace G := o_nxs (q := 125) (st := [(.ref b6), (.ref b5), (.ref b5)]) G st9 rfl
  replace G := o_dup (q := 126) G X9.here hx (hb hby d1_125) rfl rfl
  replace G := o_iconst (q := 127) G X9.here hx (hb hby d1_126) (v := (2 : Int32)) (by decide) rfl
  replace G := o_iload (q := 129) G X9.here hx (hb hby d1_127) rfl rfl
  obtain ⟨c10, Ar10, q10, S10, N10', H10, G10'⟩ := id V9
  have hin10 : ¬ ((2 : Int32) < 0 ∨ c10.slots.size ≤ ((2 : Int32)).toNatClampNeg) := inb_of S10 ⟨by decide, by decide⟩
  obtain ⟨T10, h10, X10, e10, W10, st10⟩ := stC X9 hx hZ e9 Ar10 (j := (2 : Int32)) hin10 (g := o_g G) rfl rfl (hb hby d1_129)
  have N10 := Fr.snoc X10 N9 ge_b6
  have Z10 : n0 ≤ h10.size := Nat.le_trans Z9 (Keep.of_wr W10).1
  have K10 : Keep h0 h10 [] := K9.wr W10 (Or.inr sz_b6)
  have V10 : Arv Z h10 b6 k6 .char (3 : Int32) [(.int (nar .char c0)), (.int (nar .char c1)), (.int (nar .char c2))] (.int 0) := Arv.set Ar10 q10 S10 N10' H10 G10' (fits_nar_char _) W10 2 rfl (Nat.le_of_ble_eq_true rfl)
  replace G := o_nxs (q := 130) (st := [(.ref b6), (.ref b5), (.ref b5)]) G st10 rfl
  rcases o_sp3 (nar .char c0) (nar .char c1) (nar .char c2) with ⟨he0, he1, he2⟩ | hU
  have F12 := ((((F5_value.ext E6).other W8 (Or.inl ne7)).other W9 (Or.inl ne7)).other W10 (Or.inl ne7))
  have F13 := ((((F5_coder.ext E6).other W8 (Or.inl ne7)).other W9 (Or.inl ne7)).other W10 (Or.inl ne7))
  have F14 := ((((A5.ext E6).wr W8).wr W9).wr W10)
  have F15 := (((((P0.ext E5).ext E6).wr W8 ge_b6).wr W9 ge_b6).wr W10 ge_b6)
  have F16 : Sta Z h10 o_n1 "COMPACT_STRINGS" "Z" (.int cw) := P4.ext F15.2
  obtain ⟨_, _, ⟨T11, L11, kk11, nn11⟩, -, X11, ⟨Lc11, hQ11, l11, y11, z11⟩, st11⟩ := X10.specialBack hx (y := (⟨o_n1, "<init>", "([C)V"⟩ : MethodName)) rfl hown (mvT hZ (o_w hw 9 rfl)) (mvT hZ (o_w hw 10 rfl)) (mvT hZ (o_w hw 11 rfl)) (by decide) (backOf (W := 1) (rm2n3 l Z a0 hw [] b5 b6 k6 cw (nar .char c0) (nar .char c1) (nar .char c2) h10 n0 Z10 F12 F13 F14 ge_b5 V10 F16 hcw he0 he1 he2) hZ (o_w hw 11 rfl) (o_w hw 7 rfl) (by decide) (by decide)) (g := o_g G) rfl (by rw [hml]; rfl) (Steps.refl _) (a := b5) (argsL := [(.ref b6)]) (rest := [(.ref b5)]) (lenOf pd_8 rfl) rfl (by show 2 * 0 + _ ≤ _; exact Nat.le_of_eq rfl) (hb hby d1_130) (fun _ _ => ⟨rfl, e10, (by decide : 2 + 1 ≤ _), (by decide : 7 + 3 ≤ _)⟩)
  dsimp only [Pt.U, Pt.locs, Pt.cells, Pt.slots] at X11 l11 y11 z11 st11 hQ11
  subst l11 y11 z11
  obtain ⟨b_11, kb_11, rfl, N11q, K11q, B11_0, B11_1, B11_2, B11_3⟩ := hQ11
  have ne17 : b6 ≠ b_11 := Nat.ne_of_lt (Nat.lt_of_lt_of_le V10.lt B11_2)
  have ne18 : b5 ≠ b_11 := Nat.ne_of_lt (Nat.lt_of_lt_of_le F13.lt B11_2)
  have ge_b_11 : n0 ≤ b_11 := Nat.le_trans Z10 B11_2
  have sz_b_11 : h0.size ≤ b_11 := Nat.le_trans K10.1 B11_2
  have Z11 : n0 ≤ T11.heap.size := Nat.le_trans Z10 K11q.1
  have K11 : Keep h0 T11.heap [] := K10.trans K11q (allS (Or.inr sz_b5) all0)
  have N11 := Fr.app N10 N11q
  replace G := o_nxv (q := 133) (st := [(.ref b5)]) G st11 rfl
  obtain ⟨fs, hr, hrun, hended, hW, hsame⟩ := X11.leave (v := some (.ref b5)) (fun h => by rw [Bd.returns] at h; cases h)
  refine ⟨_, _, G _ (retOut X11 hx Bd.returns rfl (Or.inr (Or.inr (Or.inr (Or.inr ⟨rfl, rfl, rfl⟩)))) (hb hby d1_133) hr), hrun, hended, _, _, rfl, ?_, ⟨_, rfl⟩, hW, hsame.mono (by decide) (by decide)⟩
  have F19 := (F14.keep K11q)
  show Q1n3 Z q cw h0 n0 _ T11.heap _
  exact ⟨b5, b_11, kb_11, (0 : Int32), (3 : Int32), [(.int (nar .byte ((nar .char c0).toInt8.toInt32))), (.int (nar .byte ((nar .char c1).toInt8.toInt32))), (.int (nar .byte ((nar .char c2).toInt8.toInt32)))], rfl, N11, K11, sz_b5, F19, B11_0, B11_1, B11_3, (Or.inl ⟨rfl, rfl⟩)⟩
  have F21 := (((((P0.ext E5).ext E6).wr W8 ge_b6).wr W9 ge_b6).wr W10 ge_b6)
  have F22 := ((((F5_value.ext E6).other W8 (Or.inl ne7)).other W9 (Or.inl ne7)).other W10 (Or.inl ne7))
  have F23 := ((((F5_coder.ext E6).other W8 (Or.inl ne7)).other W9 (Or.inl ne7)).other W10 (Or.inl ne7))
  have F24 := ((((A5.ext E6).wr W8).wr W9).wr W10)
  obtain ⟨_, _, ⟨T20, L20, kk20, nn20⟩, -, X20, ⟨Lc20, hQ20, l20, y20, z20⟩, st20⟩ := X10.specialBack hx (y := (⟨o_n1, "<init>", "([C)V"⟩ : MethodName)) rfl hown (mvT hZ (o_w hw 9 rfl)) (mvT hZ (o_w hw 10 rfl)) (mvT hZ (o_w hw 11 rfl)) (by decide) (backOf (W := 1) (rm2u3 l Z a0 hw [] b5 b6 k6 cw (nar .char c0) (nar .char c1) (nar .char c2) h10 n0 Z10 F21 P1 P2 P3 P4 F22 F23 F24 ge_b5 V10 hcw hU (o_nr _) (o_nr _) (o_nr _)) hZ (o_w hw 11 rfl) (o_w hw 7 rfl) (by decide) (by decide)) (g := o_g G) rfl (by rw [hml]; rfl) (Steps.refl _) (a := b5) (argsL := [(.ref b6)]) (rest := [(.ref b5)]) (lenOf pd_8 rfl) rfl (by show 2 * 0 + _ ≤ _; exact Nat.le_of_eq rfl) (hb hby d1_130) (fun _ _ => ⟨rfl, e10, (by decide : 2 + 2 ≤ _), (by decide : 7 + 9 ≤ _)⟩)
  dsimp only [Pt.U, Pt.locs, Pt.cells, Pt.slots] at X20 l20 y20 z20 st20 hQ20
  subst l20 y20 z20
  obtain ⟨b_20, kb_20, rfl, N20q, K20q, B20_0, B20_1, B20_2, B20_3⟩ := hQ20
  have ne25 : b6 ≠ b_20 := Nat.ne_of_lt (Nat.lt_of_lt_of_le V10.lt B20_2)
  have ne26 : b5 ≠ b_20 := Nat.ne_of_lt (Nat.lt_of_lt_of_le F23.lt B20_2)
  have ge_b_20 : n0 ≤ b_20 := Nat.le_trans Z10 B20_2
  have sz_b_20 : h0.size ≤ b_20 := Nat.le_trans K10.1 B20_2
  have Z20 : n0 ≤ T20.heap.size := Nat.le_trans Z10 K20q.1
  have K20 : Keep h0 T20.heap [] := K10.trans K20q (allS (Or.inr sz_b5) all0)
  have N20 := Fr.app N10 N20q
  replace G := o_nxv (q := 133) (st := [(.ref b5)]) G st20 rfl
  obtain ⟨fs, hr, hrun, hended, hW, hsame⟩ := X20.leave (v := some (.ref b5)) (fun h => by rw [Bd.returns] at h; cases h)
  refine ⟨_, _, G _ (retOut X20 hx Bd.returns rfl (Or.inr (Or.inr (Or.inr (Or.inr ⟨rfl, rfl, rfl⟩)))) (hb hby d1_133) hr), hrun, hended, _, _, rfl, ?_, ⟨_, rfl⟩, hW, hsame.mono (by decide) (by decide)⟩
  have F27 := (F24.keep K20q)
  show Q1n3 Z q cw h0 n0 _ T20.heap _
  exact ⟨b5, b_20, kb_20, (1 : Int32), (6 : Int32), [(.int (nar .byte (((nar .char c0) >>> ((0 : Int32) &&& 31)).toInt8.toInt32))), (.int (nar .byte (((nar .char c0) >>> ((8 : Int32) &&& 31)).toInt8.toInt32))), (.int (nar .byte (((nar .char c1) >>> ((0 : Int32) &&& 31)).toInt8.toInt32))), (.int (nar .byte (((nar .char c1) >>> ((8 : Int32) &&& 31)).toInt8.toInt32))), (.int (nar .byte (((nar .char c2) >>> ((0 : Int32) &&& 31)).toInt8.toInt32))), (.int (nar .byte (((nar .char c2) >>> ((8 : Int32) &&& 31)).toInt8.toInt32)))], rfl, N20, K20, sz_b5, F27, B20_0, B20_1, B20_3, (Or.inr ⟨rfl, rfl⟩)⟩
theorem d1_134 : decode method_2_code 134 = .ok (.new 9, 3) := by decide +kernel
theorem d1_137 : decode method_2_code 137 = .ok (.dup, 1) := by decide +kernel
theorem d1_138 : decode method_2_code 138 = .ok (.iconst 4, 1) := by decide +kernel
theorem d1_139 : decode method_2_code 139 = .ok (.newarray .char, 2) := by decide +kernel
theorem d1_141 : decode method_2_code 141 = .ok (.dup, 1) := by decide +kernel
theorem d1_142 : decode method_2_code 142 = .ok (.iconst 0, 1) := by decide +kernel
theorem d1_143 : decode method_2_code 143 = .ok (.iload_n 3, 1) := by decide +kernel
theorem d1_144 : decode method_2_code 144 = .ok (.castore, 1) := by decide +kernel
theorem d1_145 : decode method_2_code 145 = .ok (.dup, 1) := by decide +kernel
theorem d1_146 : decode method_2_code 146 = .ok (.iconst 1, 1) := by decide +kernel
theorem d1_147 : decode method_2_code 147 = .ok (.iload 4, 2) := by decide +kernel
theorem d1_149 : decode method_2_code 149 = .ok (.castore, 1) := by decide +kernel
theorem d1_150 : decode method_2_code 150 = .ok (.dup, 1) := by decide +kernel
theorem d1_151 : decode method_2_code 151 = .ok (.iconst 2, 1) := by decide +kernel
theorem d1_152 : decode method_2_code 152 = .ok (.iload 5, 2) := by decide +kernel
theorem d1_154 : decode method_2_code 154 = .ok (.castore, 1) := by decide +kernel
theorem d1_155 : decode method_2_code 155 = .ok (.dup, 1) := by decide +kernel
theorem d1_156 : decode method_2_code 156 = .ok (.iconst 3, 1) := by decide +kernel
theorem d1_157 : decode method_2_code 157 = .ok (.iload 6, 2) := by decide +kernel
theorem d1_159 : decode method_2_code 159 = .ok (.castore, 1) := by decide +kernel
theorem d1_160 : decode method_2_code 160 = .ok (.invokespecial 11, 3) := by decide +kernel
theorem d1_163 : decode method_2_code 163 = .ok (.areturn, 1) := by decide +kernel
theorem ef_1n4 (m : MethodId) (x1 : Int64) : entryFrame m #[(.int 4), (.long x1)] 7 = mkF m 0 #[.val (.int 4), .val (.long x1), .second, .unset, .unset, .unset, .unset] [] := by first | (simp [entryFrame, mkF, argsToLocals, Value.category]; done) | rfl
def Q1n4 (Z : State) (q : Int64) (cw : Int32) (h0 : Heap) (n0 : Nat) (v : Option Value) (h : Heap) (L : List Loc) : Prop := ∃ (t : Addr) (b : Addr) (kb : ClassId) (cc : Int32) (nn : Int32) (vs : List Value), v = some (.ref t) ∧ Fr n0 L ∧ Keep h0 h [] ∧ h0.size ≤ t ∧ (Exa Z h t o_n1) ∧ (Fld Z h t o_n1 "value" "[B" (.ref b)) ∧ (Fld Z h t o_n1 "coder" "B" (.int cc)) ∧ (Arv Z h b kb .byte nn vs (.int 0)) ∧ ((cc = (0 : Int32) ∧ nn = (4 : Int32)) ∨ (cc = (1 : Int32) ∧ nn = (8 : Int32)))
set_option maxRecDepth 65536 in
set_option maxHeartbeats 40000000 in
theorem rm1n4 (l : Launch) (Z : State) (a0 : Array Value) (hw : ∀ d ∈ tables_1, d.before a0 Z = true) (ws : List Jvm.Cond) (q : Int64) (cw : Int32) (h0 : Heap) (n0 : Nat) (Z0 : n0 ≤ h0.size) (P0 : Old Z n0 h0) (P1 : Sta Z Z.heap o_n0 "$assertionsDisabled" "Z" (.int 1)) (P2 : Sta Z Z.heap o_n0 "HI_BYTE_SHIFT" "I" (.int 0)) (P3 : Sta Z Z.heap o_n0 "LO_BYTE_SHIFT" "I" (.int 8)) (P4 : Sta Z Z.heap o_n1 "COMPACT_STRINGS" "Z" (.int cw)) (hcw : ¬ cw = (0 : Int32)) :
    MetFree l (⟨"com/example/crossbill/crossbill/spill/RowFormatBytesOfPinLaw", "text", "(IJ)Ljava/lang/String;"⟩ : MethodName) (head1 (Jvm.Cond.code (⟨"com/example/crossbill/crossbill/spill/RowFormatBytesOfPinLaw", "text", "(IJ)Ljava/lang/String;"⟩ : MethodName) method_2_code 7 (some (.object o_n1)) :: ws) ({ frames := 6, cells := 4, slots := 20, locals := 88 } : Room)) (fun argz U => argz = #[(.int 4), (.long q)] ∧ Z.Warmed39 U.vm ∧ U.heap = h0) (fun _ _ _ _ _ => True) (fun _ U o U' => ∃ v L, o = .returned v ∧ Q1n4 Z q cw h0 n0 v U'.heap L ∧ FrameEnd U o U' L ({ frames := 6, cells := 4, slots := 20, locals := 88 } : Room).cells ({ frames := 6, cells := 4, slots := 20, locals := 88 } : Room).slots) := by
  refine MetFree.of_bodySF (plainFor_of_name pn_com_example_crossbill_crossbill_spill_RowFormatBytesOfPinLaw) hisR ?_
  intro p e s m args below meth c s₁ Bd hml0 hP hK
  obtain ⟨rfl, hZ, hh⟩ := hP
  have hx := Bd.exec
  have hby := Bd.bytes
  have hml : c.maxLocals = 7 := hml0
  have hown : s.vm.findClass "com/example/crossbill/crossbill/spill/RowFormatBytesOfPinLaw" = some m.cls := findClass_of_methodNamed Bd.named
  have hnm := (name_of_methodNamed Bd.named Bd.method).1
  have X0 : Stand p l e ({ frames := 6, cells := 4, slots := 20, locals := 88 } : Room) s m #[(.int 4), (.long q)] below meth c s₁ [] 0 0 := Stand.of_body Bd
  have e0 : s₁.heap = h0 := by rw [← hh, Bd.state]; rfl
  have N0 := Fr.nil n0
  have K0 : Keep h0 h0 [] := Keep.refl _ _
  have G : Gets p e below (s₁.setTop (entryFrame m #[(.int 4), (.long q)] 7)) (s₁.setTop (mkF m 0 #[.val (.int 4), .val (.long q), .second, .unset, .unset, .unset, .unset] [])) := fun t k => castTop (ef_1n4 m q) k
  replace G := o_lloadN (q := 1) G X0.here hx (hb hby d1_0) rfl rfl
  replace G := o_nxs (q := 4) (st := [(.long (65535 : Int64)), (.long q)]) G (X0.ldc2Long hx hown (mvT hZ (o_w hw 4 rfl)) (g := o_g G) rfl (hb hby d1_1)) rfl
  replace G := o_land (q := 5) G X0.here hx (hb hby d1_4) rfl rfl
  replace G := o_l2i (q := 6) G X0.here hx (hb hby d1_5) rfl rfl
  obtain ⟨c0, hn_c0⟩ : ∃ z : Int32, (((q &&& (65535 : Int64)).toInt32).toUInt32.toUInt16.toUInt32.toInt32) = z := ⟨_, rfl⟩
  replace G := o_i2c (q := 7) G X0.here hx (hb hby d1_6) hn_c0 rfl
  replace G := o_istoreN (q := 8) (l' := #[.val (.int 4), .val (.long q), .second, .val (.int c0), .unset, .unset, .unset]) G X0.here hx (hb hby d1_7) rfl rfl
  replace G := o_lloadN (q := 9) G X0.here hx (hb hby d1_8) rfl rfl
  replace G := o_bipush (q := 11) G X0.here hx (hb hby d1_9) (v := (16 : Int32)) (by decide) rfl
  replace G := o_lushr (q := 12) G X0.here hx (hb hby d1_11) rfl rfl
  replace G := o_nxs (q := 15) (st := [(.long (65535 : Int64)), (.long ((q.toUInt64 >>> ((16 : Int32) &&& 0x3f).toInt64.toUInt64).toInt64))]) G (X0.ldc2Long hx hown (mvT hZ (o_w hw 4 rfl)) (g := o_g G) rfl (hb hby d1_12)) rfl
  replace G := o_land (q := 16) G X0.here hx (hb hby d1_15) rfl rfl
  replace G := o_l2i (q := 17) G X0.here hx (hb hby d1_16) rfl rfl
  obtain ⟨c1, hn_c1⟩ : ∃ z : Int32, (((((q.toUInt64 >>> ((16 : Int32) &&& 0x3f).toInt64.toUInt64).toInt64) &&& (65535 : Int64)).toInt32).toUInt32.toUInt16.toUInt32.toInt32) = z := ⟨_, rfl⟩
  replace G := o_i2c (q := 18) G X0.here hx (hb hby d1_17) hn_c1 rfl
  replace G := o_istore (q := 20) (l' := #[.val (.int 4), .val (.long q), .second, .val (.int c0), .val (.int c1), .unset, .unset]) G X0.here hx (hb hby d1_18) rfl rfl
  replace G := o_lloadN (q := 21) G X0.here hx (hb hby d1_20) rfl rfl
  replace G := o_bipush (q := 23) G X0.here hx (hb hby d1_21) (v := (32 : Int32)) (by decide) rfl
  replace G := o_lushr (q := 24) G X0.here hx (hb hby d1_23) rfl rfl
  replace G := o_nxs (q := 27) (st := [(.long (65535 : Int64)), (.long ((q.toUInt64 >>> ((32 : Int32) &&& 0x3f).toInt64.toUInt64).toInt64))]) G (X0.ldc2Long hx hown (mvT hZ (o_w hw 4 rfl)) (g := o_g G) rfl (hb hby d1_24)) rfl
  replace G := o_land (q := 28) G X0.here hx (hb hby d1_27) rfl rfl
  replace G := o_l2i (q := 29) G X0.here hx (hb hby d1_28) rfl rfl
  obtain ⟨c2, hn_c2⟩ : ∃ z : Int32, (((((q.toUInt64 >>> ((32 : Int32) &&& 0x3f).toInt64.toUInt64).toInt64) &&& (65535 : Int64)).toInt32).toUInt32.toUInt16.toUInt32.toInt32) = z := ⟨_, rfl⟩
  replace G := o_i2c (q := 30) G X0.here hx (hb hby d1_29) hn_c2 rfl
  replace G := o_istore (q := 32) (l' := #[.val (.int 4), .val (.long q), .second, .val (.int c0), .val (.int c1), .val (.int c2), .unset]) G X0.here hx (hb hby d1_30) rfl rfl
  replace G := o_lloadN (q := 33) G X0.here hx (hb hby d1_32) rfl rfl
  replace G := o_bipush (q := 35) G X0.here hx (hb hby d1_33) (v := (48 : Int32)) (by decide) rfl
  replace G := o_lushr (q := 36) G X0.here hx (hb hby d1_35) rfl rfl
  replace G := o_nxs (q := 39) (st := [(.long (65535 : Int64)), (.long ((q.toUInt64 >>> ((48 : Int32) &&& 0x3f).toInt64.toUInt64).toInt64))]) G (X0.ldc2Long hx hown (mvT hZ (o_w hw 4 rfl)) (g := o_g G) rfl (hb hby d1_36)) rfl
  replace G := o_land (q := 40) G X0.here hx (hb hby d1_39) rfl rfl
  replace G := o_l2i (q := 41) G X0.here hx (hb hby d1_40) rfl rfl
  obtain ⟨c3, hn_c3⟩ : ∃ z : Int32, (((((q.toUInt64 >>> ((48 : Int32) &&& 0x3f).toInt64.toUInt64).toInt64) &&& (65535 : Int64)).toInt32).toUInt32.toUInt16.toUInt32.toInt32) = z := ⟨_, rfl⟩
  replace G := o_i2c (q := 42) G X0.here hx (hb hby d1_41) hn_c3 rfl
  replace G := o_istore (q := 44) (l' := #[.val (.int 4), .val (.long q), .second, .val (.int c0), .val (.int c1), .val (.int c2), .val (.int c3)]) G X0.here hx (hb hby d1_42) rfl rfl
  replace G := o_iloadN (q := 45) G X0.here hx (hb hby d1_44) rfl rfl
  replace G := o_ifYes (q := 59) G X0.here hx (hb hby d1_45) (by decide) (by decide) (by decide)
  replace G := o_iloadN (q := 60) G X0.here hx (hb hby d1_59) rfl rfl
  replace G := o_iconst (q := 61) G X0.here hx (hb hby d1_60) (v := (1 : Int32)) (by decide) rfl
  replace G := o_icmpYes (q := 79) G X0.here hx (hb hby d1_61) (by decide) (by decide) (by decide)
  replace G := o_iloadN (q := 80) G X0.here hx (hb hby d1_79) rfl rfl
  replace G := o_iconst (q := 81) G X0.here hx (hb hby d1_80) (v := (2 : Int32)) (by decide) rfl
  replace G := o_icmpYes (q := 104) G X0.here hx (hb hby d1_81) (by decide) (by decide) (by decide)
  replace G := o_iloadN (q := 105) G X0.here hx (hb hby d1_104) rfl rfl
  replace G := o_iconst (q := 106) G X0.here hx (hb hby d1_105) (v := (3 : Int32)) (by decide) rfl
  replace G := o_icmpYes (q := 134) G X0.here hx (hb hby d1_106) (by decide) (by decide) (by decide)
  obtain ⟨T5, h5, X5, e5, E5, A5, D5, -, st5⟩ := newO X0 hx hZ hown (o_w hw 5 rfl) (o_w hw 6 rfl) (o_w hw 7 rfl) e0 (g := o_g G) rfl (hb hby d1_134) (by decide) (by decide)
  obtain ⟨b5, g5⟩ : ∃ z, z = h0.size := ⟨_, rfl⟩
  rw [← g5] at A5 D5 st5
  have ge_b5 : n0 ≤ b5 := Nat.le_trans Z0 (Nat.le_of_eq g5.symm)
  have sz_b5 : h0.size ≤ b5 := Nat.le_trans K0.1 (Nat.le_of_eq g5.symm)
  have Z5 : n0 ≤ h5.size := Nat.le_trans Z0 E5.1
  have K5 : Keep h0 h5 [] := K0.ext E5
  have F5_value : Fld Z h5 b5 o_n1 "value" "[B" .null := D5 (Or.inr (o_w hw 21 rfl)) (ty := (.array .byte)) (by decide)
  have F5_coder : Fld Z h5 b5 o_n1 "coder" "B" (.int 0) := D5 (Or.inr (o_w hw 22 rfl)) (ty := .byte) (by decide)
  replace G := o_nxs (q := 137) (st := [(.ref b5)]) G st5 rfl
  replace G := o_dup (q := 138) G X5.here hx (hb hby d1_137) rfl rfl
  replace G := o_iconst (q := 139) G X5.here hx (hb hby d1_138) (v := (4 : Int32)) (by decide) rfl
  obtain ⟨T6, h6, k6, X6, e6, E6, A6, st6⟩ := newP X5 hx hZ (o_w hw 8 rfl) e5 (g := o_g G) rfl (hb hby d1_139) rfl (by decide) (cap := 4) (by decide) (by decide) (by decide) (by decide)
  obtain ⟨b6, g6⟩ : ∃ z, z = h5.size := ⟨_, rfl⟩
  rw [← g6] at A6 st6
  have ne7 : b5 ≠ b6 := Nat.ne_of_lt (Nat.lt_of_lt_of_le F5_coder.lt (Nat.le_of_eq g6.symm))
  have ge_b6 : n0 ≤ b6 := Nat.le_trans Z5 (Nat.le_of_eq g6.symm)
  have sz_b6 : h0.size ≤ b6 := Nat.le_trans K5.1 (Nat.le_of_eq g6.symm)
  have Z6 : n0 ≤ h6.size := Nat.le_trans Z5 E6.1
  have K6 : Keep h0 h6 [] := K5.ext E6
  have V6 : Arv Z h6 b6 k6 .char (4 : Int32) [(.int 0), (.int 0), (.int 0), (.int 0)] (.int 0) := (Arv.new A6 (by decide)).pad (pad_rep [] (.int 0) 4)
  replace G := o_nxs (q := 141) (st := [(.ref b6), (.ref b5), (.ref b5)]) G st6 rfl
  replace G := o_dup (q := 142) G X6.here hx (hb hby d1_141) rfl rfl
  replace G := o_iconst (q := 143) G X6.here hx (hb hby d1_142) (v := (0 : Int32)) (by decide) rfl
  replace G := o_iloadN (q := 144) G X6.here hx (hb hby d1_143) rfl rfl
  obtain ⟨c8, Ar8, q8, S8, N8', H8, G8'⟩ := id V6
  have hin8 : ¬ ((0 : Int32) < 0 ∨ c8.slots.size ≤ ((0 : Int32)).toNatClampNeg) := inb_of S8 ⟨by decide, by decide⟩
  obtain ⟨T8, h8, X8, e8, W8, st8⟩ := stC X6 hx hZ e6 Ar8 (j := (0 : Int32)) hin8 (g := o_g G) rfl rfl (hb hby d1_144)
  have N8 := Fr.snoc X8 N0 ge_b6
  have Z8 : n0 ≤ h8.size := Nat.le_trans Z6 (Keep.of_wr W8).1
  have K8 : Keep h0 h8 [] := K6.wr W8 (Or.inr sz_b6)
  have V8 : Arv Z h8 b6 k6 .char (4 : Int32) [(.int (nar .char c0)), (.int 0), (.int 0), (.int 0)] (.int 0) := Arv.set Ar8 q8 S8 N8' H8 G8' (fits_nar_char _) W8 0 rfl (Nat.le_of_ble_eq_true rfl)
  replace G := o_nxs (q := 145) (st := [(.ref b6), (.ref b5), (.ref b5)]) G st8 rfl
  replace G := o_dup (q := 146) G X8.here hx (hb hby d1_145) rfl rfl
  replace G := o_iconst (q := 147) G X8.here hx (hb hby d1_146) (v := (1 : Int32)) (by decide) rfl
  replace G := o_iload (q := 149) G X8.here hx (hb hby d1_147) rfl rfl
  obtain ⟨c9, Ar9, q9, S9, N9', H9, G9'⟩ := id V8
  have hin9 : ¬ ((1 : Int32) < 0 ∨ c9.slots.size ≤ ((1 : Int32)).toNatClampNeg) := inb_of S9 ⟨by decide, by decide⟩
  obtain ⟨T9, h9, X9, e9, W9, st9⟩ := stC X8 hx hZ e8 Ar9 (j := (1 : Int32)) hin9 (g := o_g G) rfl rfl (hb hby d1_149)
  have N9 := Fr.snoc X9 N8 ge_b6
  have Z9 : n0 ≤ h9.size := Nat.le_trans Z8 (Keep.of_wr W9).1
  have K9 : Keep h0 h9 [] := K8.wr W9 (Or.inr sz_b6)
  have V9 : Arv Z h9 b6 k6 .char (4 : Int32) [(.int (nar .char c0)), (.int (nar .char c1)), (.int 0), (.int 0)] (.int 0) := Arv.set Ar9 q9 S9 N9' H9 G9' (fits_nar_char _) W9 1 rfl (Nat.le_of_ble_eq_true rfl)
  replace G := o_nxs (q := 150) (st := [(.ref b6), (.ref b5), (.ref b5)]) G st9 rfl
  replace G := o_dup (q := 151) G X9.here hx (hb hby d1_150) rfl rfl
  replace G := o_iconst (q := 152) G X9.here hx (hb hby d1_151) (v := (2 : Int32)) (by decide) rfl
  replace G := o_iload (q := 154) G X9.here hx (hb hby d1_152) rfl rfl
  obtain ⟨c10, Ar10, q10, S10, N10', H10, G10'⟩ := id V9
  have hin10 : ¬ ((2 : Int32) < 0 ∨ c10.slots.size ≤ ((2 : Int32)).toNatClampNeg) := inb_of S10 ⟨by decide, by decide⟩
  obtain ⟨T10, h10, X10, e10, W10, st10⟩ := stC X9 hx hZ e9 Ar10 (j := (2 : Int32)) hin10 (g := o_g G) rfl rfl (hb hby d1_154)
  have N10 := Fr.snoc X10 N9 ge_b6
  have Z10 : n0 ≤ h10.size := Nat.le_trans Z9 (Keep.of_wr W10).1
  have K10 : Keep h0 h10 [] := K9.wr W10 (Or.inr sz_b6)
  have V10 : Arv Z h10 b6 k6 .char (4 : Int32) [(.int (nar .char c0)), (.int (nar .char c1)), (.int (nar .char c2)), (.int 0)] (.int 0) := Arv.set Ar10 q10 S10 N10' H10 G10' (fits_nar_char _) W10 2 rfl (Nat.le_of_ble_eq_true rfl)
  replace G := o_nxs (q := 155) (st := [(.ref b6), (.ref b5), (.ref b5)]) G st10 rfl
  replace G := o_dup (q := 156) G X10.here hx (hb hby d1_155) rfl rfl
  replace G := o_iconst (q := 157) G X10.here hx (hb hby d1_156) (v := (3 : Int32)) (by decide) rfl
  replace G := o_iload (q := 159) G X10.here hx (hb hby d1_157) rfl rfl
  obtain ⟨c11, Ar11, q11, S11, N11', H11, G11'⟩ := id V10
  have hin11 : ¬ ((3 : Int32) < 0 ∨ c11.slots.size ≤ ((3 : Int32)).toNatClampNeg) := inb_of S11 ⟨by decide, by decide⟩
  obtain ⟨T11, h11, X11, e11, W11, st11⟩ := stC X10 hx hZ e10 Ar11 (j := (3 : Int32)) hin11 (g := o_g G) rfl rfl (hb hby d1_159)
  have N11 := Fr.snoc X11 N10 ge_b6
  have Z11 : n0 ≤ h11.size := Nat.le_trans Z10 (Keep.of_wr W11).1
  have K11 : Keep h0 h11 [] := K10.wr W11 (Or.inr sz_b6)
  have V11 : Arv Z h11 b6 k6 .char (4 : Int32) [(.int (nar .char c0)), (.int (nar .char c1)), (.int (nar .char c2)), (.int (nar .char c3))] (.int 0) := Arv.set Ar11 q11 S11 N11' H11 G11' (fits_nar_char _) W11 3 rfl (Nat.le_of_ble_eq_true rfl)
  replace G := o_nxs (q := 160) (st := [(.ref b6), (.ref b5), (.ref b5)]) G st11 rfl
  rcases o_sp4 (nar .char c0) (nar .char c1) (nar .char c2) (nar .char c3) with ⟨he0, he1, he2, he3⟩ | hU
  have F13 := (((((F5_value.ext E6).other W8 (Or.inl ne7)).other W9 (Or.inl ne7)).other W10 (Or.inl ne7)).other W11 (Or.inl ne7))
  have F14 := (((((F5_coder.ext E6).other W8 (Or.inl ne7)).other W9 (Or.inl ne7)).other W10 (Or.inl ne7)).other W11 (Or.inl ne7))
  have F15 := (((((A5.ext E6).wr W8).wr W9).wr W10).wr W11)
  have F16 := ((((((P0.ext E5).ext E6).wr W8 ge_b6).wr W9 ge_b6).wr W10 ge_b6).wr W11 ge_b6)
  have F17 : Sta Z h11 o_n1 "COMPACT_STRINGS" "Z" (.int cw) := P4.ext F16.2
  obtain ⟨_, _, ⟨T12, L12, kk12, nn12⟩, -, X12, ⟨Lc12, hQ12, l12, y12, z12⟩, st12⟩ := X11.specialBack hx (y := (⟨o_n1, "<init>", "([C)V"⟩ : MethodName)) rfl hown (mvT hZ (o_w hw 9 rfl)) (mvT hZ (o_w hw 10 rfl)) (mvT hZ (o_w hw 11 rfl)) (by decide) (backOf (W := 1) (rm2n4 l Z a0 hw [] b5 b6 k6 cw (nar .char c0) (nar .char c1) (nar .char c2) (nar .char c3) h11 n0 Z11 F13 F14 F15 ge_b5 V11 F17 hcw he0 he1 he2 he3) hZ (o_w hw 11 rfl) (o_w hw 7 rfl) (by decide) (by decide)) (g := o_g G) rfl (by rw [hml]; rfl) (Steps.refl _) (a := b5) (argsL := [(.ref b6)]) (rest := [(.ref b5)]) (lenOf pd_8 rfl) rfl (by show 2 * 0 + _ ≤ _; exact Nat.le_of_eq rfl) (hb hby d1_160) (fun _ _ => ⟨rfl, e11, (by decide : 2 + 1 ≤ _), (by decide : 8 + 4 ≤ _)⟩)
  dsimp only [Pt.U, Pt.locs, Pt.cells, Pt.slots] at X12 l12 y12 z12 st12 hQ12
  subst l12 y12 z12
  obtain ⟨b_12, kb_12, rfl, N12q, K12q, B12_0, B12_1, B12_2, B12_3⟩ := hQ12
  have ne18 : b6 ≠ b_12 := Nat.ne_of_lt (Nat.lt_of_lt_of_le V11.lt B12_2)
  have ne19 : b5 ≠ b_12 := Nat.ne_of_lt (Nat.lt_of_lt_of_le F14.lt B12_2)
  have ge_b_12 : n0 ≤ b_12 := Nat.le_trans Z11 B12_2
  have sz_b_12 : h0.size ≤ b_12 := Nat.le_trans K11.1 B12_2
  have Z12 : n0 ≤ T12.heap.size := Nat.le_trans Z11 K12q.1
  have K12 : Keep h0 T12.heap [] := K11.trans K12q (allS (Or.inr sz_b5) all0)
  have N12 := Fr.app N11 N12q
  replace G := o_nxv (q := 163) (st := [(.ref b5)]) G st12 rfl
  obtain ⟨fs, hr, hrun, hended, hW, hsame⟩ := X12.leave (v := some (.ref b5)) (fun h => by rw [Bd.returns] at h; cases h)
  refine ⟨_, _, G _ (retOut X12 hx Bd.returns rfl (Or.inr (Or.inr (Or.inr (Or.inr ⟨rfl, rfl, rfl⟩)))) (hb hby d1_163) hr), hrun, hended, _, _, rfl, ?_, ⟨_, rfl⟩, hW, hsame.mono (by decide) (by decide)⟩
  have F20 := (F15.keep K12q)
  show Q1n4 Z q cw h0 n0 _ T12.heap _
  exact ⟨b5, b_12, kb_12, (0 : Int32), (4 : Int32), [(.int (nar .byte ((nar .char c0).toInt8.toInt32))), (.int (nar .byte ((nar .char c1).toInt8.toInt32))), (.int (nar .byte ((nar .char c2).toInt8.toInt32))), (.int (nar .byte ((nar .char c3).toInt8.toInt32)))], rfl, N12, K12, sz_b5, F20, B12_0, B12_1, B12_3, (Or.inl ⟨rfl, rfl⟩)⟩
  have F22 := ((((((P0.ext E5).ext E6).wr W8 ge_b6).wr W9 ge_b6).wr W10 ge_b6).wr W11 ge_b6)
  have F23 := (((((F5_value.ext E6).other W8 (Or.inl ne7)).other W9 (Or.inl ne7)).other W10 (Or.inl ne7)).other W11 (Or.inl ne7))
  have F24 := (((((F5_coder.ext E6).other W8 (Or.inl ne7)).other W9 (Or.inl ne7)).other W10 (Or.inl ne7)).other W11 (Or.inl ne7))
  have F25 := (((((A5.ext E6).wr W8).wr W9).wr W10).wr W11)
  obtain ⟨_, _, ⟨T21, L21, kk21, nn21⟩, -, X21, ⟨Lc21, hQ21, l21, y21, z21⟩, st21⟩ := X11.specialBack hx (y := (⟨o_n1, "<init>", "([C)V"⟩ : MethodName)) rfl hown (mvT hZ (o_w hw 9 rfl)) (mvT hZ (o_w hw 10 rfl)) (mvT hZ (o_w hw 11 rfl)) (by decide) (backOf (W := 1) (rm2u4 l Z a0 hw [] b5 b6 k6 cw (nar .char c0) (nar .char c1) (nar .char c2) (nar .char c3) h11 n0 Z11 F22 P1 P2 P3 P4 F23 F24 F25 ge_b5 V11 hcw hU (o_nr _) (o_nr _) (o_nr _) (o_nr _)) hZ (o_w hw 11 rfl) (o_w hw 7 rfl) (by decide) (by decide)) (g := o_g G) rfl (by rw [hml]; rfl) (Steps.refl _) (a := b5) (argsL := [(.ref b6)]) (rest := [(.ref b5)]) (lenOf pd_8 rfl) rfl (by show 2 * 0 + _ ≤ _; exact Nat.le_of_eq rfl) (hb hby d1_160) (fun _ _ => ⟨rfl, e11, (by decide : 2 + 2 ≤ _), (by decide : 8 + 12 ≤ _)⟩)
  dsimp only [Pt.U, Pt.locs, Pt.cells, Pt.slots] at X21 l21 y21 z21 st21 hQ21
  subst l21 y21 z21
  obtain ⟨b_21, kb_21, rfl, N21q, K21q, B21_0, B21_1, B21_2, B21_3⟩ := hQ21
  have ne26 : b6 ≠ b_21 := Nat.ne_of_lt (Nat.lt_of_lt_of_le V11.lt B21_2)
  have ne27 : b5 ≠ b_21 := Nat.ne_of_lt (Nat.lt_of_lt_of_le F24.lt B21_2)
  have ge_b_21 : n0 ≤ b_21 := Nat.le_trans Z11 B21_2
  have sz_b_21 : h0.size ≤ b_21 := Nat.le_trans K11.1 B21_2
  have Z21 : n0 ≤ T21.heap.size := Nat.le_trans Z11 K21q.1
  have K21 : Keep h0 T21.heap [] := K11.trans K21q (allS (Or.inr sz_b5) all0)
  have N21 := Fr.app N11 N21q
  replace G := o_nxv (q := 163) (st := [(.ref b5)]) G st21 rfl
  obtain ⟨fs, hr, hrun, hended, hW, hsame⟩ := X21.leave (v := some (.ref b5)) (fun h => by rw [Bd.returns] at h; cases h)
  refine ⟨_, _, G _ (retOut X21 hx Bd.returns rfl (Or.inr (Or.inr (Or.inr (Or.inr ⟨rfl, rfl, rfl⟩)))) (hb hby d1_163) hr), hrun, hended, _, _, rfl, ?_, ⟨_, rfl⟩, hW, hsame.mono (by decide) (by decide)⟩
  have F28 := (F25.keep K21q)
  show Q1n4 Z q cw h0 n0 _ T21.heap _
  exact ⟨b5, b_21, kb_21, (1 : Int32), (8 : Int32), [(.int (nar .byte (((nar .char c0) >>> ((0 : Int32) &&& 31)).toInt8.toInt32))), (.int (nar .byte (((nar .char c0) >>> ((8 : Int32) &&& 31)).toInt8.toInt32))), (.int (nar .byte (((nar .char c1) >>> ((0 : Int32) &&& 31)).toInt8.toInt32))), (.int (nar .byte (((nar .char c1) >>> ((8 : Int32) &&& 31)).toInt8.toInt32))), (.int (nar .byte (((nar .char c2) >>> ((0 : Int32) &&& 31)).toInt8.toInt32))), (.int (nar .byte (((nar .char c2) >>> ((8 : Int32) &&& 31)).toInt8.toInt32))), (.int (nar .byte (((nar .char c3) >>> ((0 : Int32) &&& 31)).toInt8.toInt32))), (.int (nar .byte (((nar .char c3) >>> ((8 : Int32) &&& 31)).toInt8.toInt32)))], rfl, N21, K21, sz_b5, F28, B21_0, B21_1, B21_3, (Or.inr ⟨rfl, rfl⟩)⟩
theorem d1_48 : decode method_2_code 48 = .ok (.new 9, 3) := by decide +kernel
theorem d1_51 : decode method_2_code 51 = .ok (.dup, 1) := by decide +kernel
theorem d1_52 : decode method_2_code 52 = .ok (.iconst 0, 1) := by decide +kernel
theorem d1_53 : decode method_2_code 53 = .ok (.newarray .char, 2) := by decide +kernel
theorem d1_55 : decode method_2_code 55 = .ok (.invokespecial 11, 3) := by decide +kernel
theorem d1_58 : decode method_2_code 58 = .ok (.areturn, 1) := by decide +kernel
theorem ef_1z (m : MethodId) (x1 : Int64) : entryFrame m #[(.int 0), (.long x1)] 7 = mkF m 0 #[.val (.int 0), .val (.long x1), .second, .unset, .unset, .unset, .unset] [] := by first | (simp [entryFrame, mkF, argsToLocals, Value.category]; done) | rfl
def Q1z (Z : State) (q : Int64) (h0 : Heap) (n0 : Nat) (v : Option Value) (h : Heap) (L : List Loc) (vm : Vm) : Prop := ∃ (t : Addr) (la : Addr) (b : Addr) (kb : ClassId), v = some (.ref t) ∧ Fr n0 L ∧ Keep h0 h [] ∧ h0.size ≤ t ∧ (Exa Z h t o_n1) ∧ (Fld Z h t o_n1 "value" "[B" (.ref b)) ∧ (Fld Z h t o_n1 "coder" "B" (.int 0)) ∧ (Fld Z h la o_n1 "value" "[B" (.ref b)) ∧ (Fld Z h la o_n1 "coder" "B" (.int 0)) ∧ (Arv Z h b kb .byte (0 : Int32) [] (.int 0)) ∧ Lit (Z.setVm vm) o_n1 7 la
set_option maxRecDepth 65536 in
set_option maxHeartbeats 40000000 in
theorem rm1z (l : Launch) (Z : State) (a0 : Array Value) (hw : ∀ d ∈ tables_1, d.before a0 Z = true) (ws : List Jvm.Cond) (q : Int64) (h0 : Heap) (n0 : Nat) (Z0 : n0 ≤ h0.size) (P0 : Old Z n0 h0) (hch : Jvm.Lit.constHeld Z o_n1 7) (hcb : Jvm.Lit.compactW.before a0 Z = true) :
    MetFree l (⟨"com/example/crossbill/crossbill/spill/RowFormatBytesOfPinLaw", "text", "(IJ)Ljava/lang/String;"⟩ : MethodName) (head1 (Jvm.Cond.code (⟨"com/example/crossbill/crossbill/spill/RowFormatBytesOfPinLaw", "text", "(IJ)Ljava/lang/String;"⟩ : MethodName) method_2_code 7 (some (.object o_n1)) :: ws) ({ frames := 3, cells := 4, slots := 8, locals := 43 } : Room)) (fun argz U => argz = #[(.int 0), (.long q)] ∧ Z.Warmed39 U.vm ∧ U.heap = h0 ∧ IB Z U.vm []) (fun _ _ _ _ _ => True) (fun _ U o U' => ∃ v L, o = .returned v ∧ Q1z Z q h0 n0 v U'.heap L U'.vm ∧ ReturnedEndW U o U' L ({ frames := 3, cells := 4, slots := 8, locals := 43 } : Room).cells ({ frames := 3, cells := 4, slots := 8, locals := 43 } : Room).slots) := by
  refine MetFree.of_bodySF (plainFor_of_name pn_com_example_crossbill_crossbill_spill_RowFormatBytesOfPinLaw) hisR ?_
  intro p e s m args below meth c s₁ Bd hml0 hP hK
  obtain ⟨rfl, hZ, hh, hV⟩ := hP
  have hx := Bd.exec
  have hby := Bd.bytes
  have hml : c.maxLocals = 7 := hml0
  have hown : s.vm.findClass "com/example/crossbill/crossbill/spill/RowFormatBytesOfPinLaw" = some m.cls := findClass_of_methodNamed Bd.named
  have hnm := (name_of_methodNamed Bd.named Bd.method).1
  have X0 : Stand p l e ({ frames := 3, cells := 4, slots := 8, locals := 43 } : Room) s m #[(.int 0), (.long q)] below meth c s₁ [] 0 0 := Stand.of_body Bd
  have e0 : s₁.heap = h0 := by rw [← hh, Bd.state]; rfl
  have N0 := Fr.nil n0
  have K0 : Keep h0 h0 [] := Keep.refl _ _
  have G : Gets p e below (s₁.setTop (entryFrame m #[(.int 0), (.long q)] 7)) (s₁.setTop (mkF m 0 #[.val (.int 0), .val (.long q), .second, .unset, .unset, .unset, .unset] [])) := fun t k => castTop (ef_1z m q) k
  replace G := o_lloadN (q := 1) G X0.here hx (hb hby d1_0) rfl rfl
  replace G := o_nxs (q := 4) (st := [(.long (65535 : Int64)), (.long q)]) G (X0.ldc2Long hx hown (mvT hZ (o_w hw 4 rfl)) (g := o_g G) rfl (hb hby d1_1)) rfl
  replace G := o_land (q := 5) G X0.here hx (hb hby d1_4) rfl rfl
  replace G := o_l2i (q := 6) G X0.here hx (hb hby d1_5) rfl rfl
  obtain ⟨c0, hn_c0⟩ : ∃ z : Int32, (((q &&& (65535 : Int64)).toInt32).toUInt32.toUInt16.toUInt32.toInt32) = z := ⟨_, rfl⟩
  replace G := o_i2c (q := 7) G X0.here hx (hb hby d1_6) hn_c0 rfl
  replace G := o_istoreN (q := 8) (l' := #[.val (.int 0), .val (.long q), .second, .val (.int c0), .unset, .unset, .unset]) G X0.here hx (hb hby d1_7) rfl rfl
  replace G := o_lloadN (q := 9) G X0.here hx (hb hby d1_8) rfl rfl
  replace G := o_bipush (q := 11) G X0.here hx (hb hby d1_9) (v := (16 : Int32)) (by decide) rfl
  replace G := o_lushr (q := 12) G X0.here hx (hb hby d1_11) rfl rfl
  replace G := o_nxs (q := 15) (st := [(.long (65535 : Int64)), (.long ((q.toUInt64 >>> ((16 : Int32) &&& 0x3f).toInt64.toUInt64).toInt64))]) G (X0.ldc2Long hx hown (mvT hZ (o_w hw 4 rfl)) (g := o_g G) rfl (hb hby d1_12)) rfl
  replace G := o_land (q := 16) G X0.here hx (hb hby d1_15) rfl rfl
  replace G := o_l2i (q := 17) G X0.here hx (hb hby d1_16) rfl rfl
  obtain ⟨c1, hn_c1⟩ : ∃ z : Int32, (((((q.toUInt64 >>> ((16 : Int32) &&& 0x3f).toInt64.toUInt64).toInt64) &&& (65535 : Int64)).toInt32).toUInt32.toUInt16.toUInt32.toInt32) = z := ⟨_, rfl⟩
  replace G := o_i2c (q := 18) G X0.here hx (hb hby d1_17) hn_c1 rfl
  replace G := o_istore (q := 20) (l' := #[.val (.int 0), .val (.long q), .second, .val (.int c0), .val (.int c1), .unset, .unset]) G X0.here hx (hb hby d1_18) rfl rfl
  replace G := o_lloadN (q := 21) G X0.here hx (hb hby d1_20) rfl rfl
  replace G := o_bipush (q := 23) G X0.here hx (hb hby d1_21) (v := (32 : Int32)) (by decide) rfl
  replace G := o_lushr (q := 24) G X0.here hx (hb hby d1_23) rfl rfl
  replace G := o_nxs (q := 27) (st := [(.long (65535 : Int64)), (.long ((q.toUInt64 >>> ((32 : Int32) &&& 0x3f).toInt64.toUInt64).toInt64))]) G (X0.ldc2Long hx hown (mvT hZ (o_w hw 4 rfl)) (g := o_g G) rfl (hb hby d1_24)) rfl
  replace G := o_land (q := 28) G X0.here hx (hb hby d1_27) rfl rfl
  replace G := o_l2i (q := 29) G X0.here hx (hb hby d1_28) rfl rfl
  obtain ⟨c2, hn_c2⟩ : ∃ z : Int32, (((((q.toUInt64 >>> ((32 : Int32) &&& 0x3f).toInt64.toUInt64).toInt64) &&& (65535 : Int64)).toInt32).toUInt32.toUInt16.toUInt32.toInt32) = z := ⟨_, rfl⟩
  replace G := o_i2c (q := 30) G X0.here hx (hb hby d1_29) hn_c2 rfl
  replace G := o_istore (q := 32) (l' := #[.val (.int 0), .val (.long q), .second, .val (.int c0), .val (.int c1), .val (.int c2), .unset]) G X0.here hx (hb hby d1_30) rfl rfl
  replace G := o_lloadN (q := 33) G X0.here hx (hb hby d1_32) rfl rfl
  replace G := o_bipush (q := 35) G X0.here hx (hb hby d1_33) (v := (48 : Int32)) (by decide) rfl
  replace G := o_lushr (q := 36) G X0.here hx (hb hby d1_35) rfl rfl
  replace G := o_nxs (q := 39) (st := [(.long (65535 : Int64)), (.long ((q.toUInt64 >>> ((48 : Int32) &&& 0x3f).toInt64.toUInt64).toInt64))]) G (X0.ldc2Long hx hown (mvT hZ (o_w hw 4 rfl)) (g := o_g G) rfl (hb hby d1_36)) rfl
  replace G := o_land (q := 40) G X0.here hx (hb hby d1_39) rfl rfl
  replace G := o_l2i (q := 41) G X0.here hx (hb hby d1_40) rfl rfl
  obtain ⟨c3, hn_c3⟩ : ∃ z : Int32, (((((q.toUInt64 >>> ((48 : Int32) &&& 0x3f).toInt64.toUInt64).toInt64) &&& (65535 : Int64)).toInt32).toUInt32.toUInt16.toUInt32.toInt32) = z := ⟨_, rfl⟩
  replace G := o_i2c (q := 42) G X0.here hx (hb hby d1_41) hn_c3 rfl
  replace G := o_istore (q := 44) (l' := #[.val (.int 0), .val (.long q), .second, .val (.int c0), .val (.int c1), .val (.int c2), .val (.int c3)]) G X0.here hx (hb hby d1_42) rfl rfl
  replace G := o_iloadN (q := 45) G X0.here hx (hb hby d1_44) rfl rfl
  replace G := o_ifNo (q := 48) G X0.here hx (hb hby d1_45) (by decide) rfl
  obtain ⟨T2, h2, X2, e2, E2, A2, D2, -, st2⟩ := newO X0 hx hZ hown (o_w hw 5 rfl) (o_w hw 6 rfl) (o_w hw 7 rfl) e0 (g := o_g G) rfl (hb hby d1_48) (by decide) (by decide)
  obtain ⟨b2, g2⟩ : ∃ z, z = h0.size := ⟨_, rfl⟩
  rw [← g2] at A2 D2 st2
  have ge_b2 : n0 ≤ b2 := Nat.le_trans Z0 (Nat.le_of_eq g2.symm)
  have sz_b2 : h0.size ≤ b2 := Nat.le_trans K0.1 (Nat.le_of_eq g2.symm)
  have Z2 : n0 ≤ h2.size := Nat.le_trans Z0 E2.1
  have K2 : Keep h0 h2 [] := K0.ext E2
  have F2_value : Fld Z h2 b2 o_n1 "value" "[B" .null := D2 (Or.inr (o_w hw 21 rfl)) (ty := (.array .byte)) (by decide)
  have F2_coder : Fld Z h2 b2 o_n1 "coder" "B" (.int 0) := D2 (Or.inr (o_w hw 22 rfl)) (ty := .byte) (by decide)
  replace G := o_nxs (q := 51) (st := [(.ref b2)]) G st2 rfl
  replace G := o_dup (q := 52) G X2.here hx (hb hby d1_51) rfl rfl
  replace G := o_iconst (q := 53) G X2.here hx (hb hby d1_52) (v := (0 : Int32)) (by decide) rfl
  obtain ⟨T3, h3, k3, X3, e3, E3, A3, st3⟩ := newP X2 hx hZ (o_w hw 8 rfl) e2 (g := o_g G) rfl (hb hby d1_53) rfl (by decide) (cap := 0) (by decide) (by decide) (by decide) (by decide)
  obtain ⟨b3, g3⟩ : ∃ z, z = h2.size := ⟨_, rfl⟩
  rw [← g3] at A3 st3
  have ne4 : b2 ≠ b3 := Nat.ne_of_lt (Nat.lt_of_lt_of_le F2_coder.lt (Nat.le_of_eq g3.symm))
  have ge_b3 : n0 ≤ b3 := Nat.le_trans Z2 (Nat.le_of_eq g3.symm)
  have sz_b3 : h0.size ≤ b3 := Nat.le_trans K2.1 (Nat.le_of_eq g3.symm)
  have Z3 : n0 ≤ h3.size := Nat.le_trans Z2 E3.1
  have K3 : Keep h0 h3 [] := K2.ext E3
  have V3 : Arv Z h3 b3 k3 .char (0 : Int32) [] (.int 0) := (Arv.new A3 (by decide)).pad (pad_rep [] (.int 0) 0)
  replace G := o_nxs (q := 55) (st := [(.ref b3), (.ref b2), (.ref b2)]) G st3 rfl
  have F6 := ((P0.ext E2).ext E3)
  have F7 := (F2_value.ext E3)
  have F8 := (F2_coder.ext E3)
  have F9 := (A2.ext E3)
  obtain ⟨_, _, ⟨T5, L5, kk5, nn5⟩, -, X5, S5', g5', ⟨Lc5, hQ5, l5, y5, z5⟩, st5⟩ := X3.specialBackS hx (y := (⟨o_n1, "<init>", "([C)V"⟩ : MethodName)) rfl hown (mvT hZ (o_w hw 9 rfl)) (mvT hZ (o_w hw 10 rfl)) (mvT hZ (o_w hw 11 rfl)) (by decide) (o_backW (V := fun vm => IB Z vm []) (W := 1) (rm2z l Z a0 hw [] b2 b3 k3 h3 n0 Z3 F6 F7 F8 F9 ge_b2 (by assumption) (by assumption) V3) hZ (o_w hw 11 rfl) (o_w hw 7 rfl) (by decide) (by decide)) (g := o_g G) rfl (by rw [hml]; rfl) (Steps.refl _) (a := b2) (argsL := [(.ref b3)]) (rest := [(.ref b2)]) (lenOf pd_8 rfl) rfl (by show 2 * 0 + _ ≤ _; exact Nat.le_of_eq rfl) (hb hby d1_55) (fun _ hvm => ⟨rfl, e3, (by decide : 2 + 2 ≤ _), (by decide : 4 + 4 ≤ _), o_ibw hV hvm⟩)
  dsimp only [Pt.U, Pt.locs, Pt.cells, Pt.slots] at X5 l5 y5 z5 st5 hQ5 S5' g5'
  subst l5 y5 z5
  have S5 := S5'
  have hZ5 : Z.Warmed39 (s.setVm T5.vm).vm := State.Warmed39.trans hZ S5.1
  have hown5 := (S5.1.alike.findClass _ _).trans hown
  obtain ⟨la_5, b_5, kb_5, rfl, N5q, K5q, B5_0, B5_1, B5_2, B5_3, B5_4, hL5⟩ := hQ5
  have Z5 : n0 ≤ T5.heap.size := Nat.le_trans Z3 K5q.1
  have K5 : Keep h0 T5.heap [] := K3.trans K5q (allS (Or.inr sz_b2) all0)
  have N5 := Fr.app N0 N5q
  replace G := o_nxv (q := 58) (st := [(.ref b2)]) G st5 rfl
  obtain ⟨fs, hr, hrun, hended, -, hW, hBk, hsame⟩ := X5.leaveW S5 (Nat.le_refl _) (v := some (.ref b2)) (fun h => by rw [Bd.returns] at h; cases h)
  refine ⟨_, _, G _ (retOut X5 hx Bd.returns rfl (Or.inr (Or.inr (Or.inr (Or.inr ⟨rfl, rfl, rfl⟩)))) (hb hby d1_58) hr), hrun, hended, _, _, rfl, ?_, ⟨_, rfl⟩, hW, hBk, hsame.mono (by decide) (by decide)⟩
  have F10 := (F9.keep K5q)
  show Q1z Z q h0 n0 _ T5.heap _ T5.vm
  exact ⟨b2, la_5, b_5, kb_5, rfl, N5, K5, sz_b2, F10, B5_0, B5_1, B5_2, B5_3, B5_4, (Lit.stays (s := s) (vm0 := T5.vm) hL5 X5.warmed.wide)⟩
theorem ef_1y (m : MethodId) (x1 : Int64) : entryFrame m #[(.int 0), (.long x1)] 7 = mkF m 0 #[.val (.int 0), .val (.long x1), .second, .unset, .unset, .unset, .unset] [] := by first | (simp [entryFrame, mkF, argsToLocals, Value.category]; done) | rfl
def Q1y (Z : State) (q : Int64) (la : Addr) (b : Addr) (kb : ClassId) (h0 : Heap) (n0 : Nat) (v : Option Value) (h : Heap) (L : List Loc) : Prop := ∃ (t : Addr), v = some (.ref t) ∧ Fr n0 L ∧ Keep h0 h [] ∧ h0.size ≤ t ∧ (Exa Z h t o_n1) ∧ (Fld Z h t o_n1 "value" "[B" (.ref b)) ∧ (Fld Z h t o_n1 "coder" "B" (.int 0))
set_option maxRecDepth 65536 in
set_option maxHeartbeats 40000000 in
theorem rm1y (l : Launch) (Z : State) (a0 : Array Value) (hw : ∀ d ∈ tables_1, d.before a0 Z = true) (ws : List Jvm.Cond) (q : Int64) (la : Addr) (b : Addr) (kb : ClassId) (h0 : Heap) (n0 : Nat) (Z0 : n0 ≤ h0.size) (P0 : Fld Z h0 la o_n1 "value" "[B" (.ref b)) (P1 : Fld Z h0 la o_n1 "coder" "B" (.int 0)) (P2 : Arv Z h0 b kb .byte (0 : Int32) [] (.int 0)) :
    MetFree l (⟨"com/example/crossbill/crossbill/spill/RowFormatBytesOfPinLaw", "text", "(IJ)Ljava/lang/String;"⟩ : MethodName) (head1 (Jvm.Cond.code (⟨"com/example/crossbill/crossbill/spill/RowFormatBytesOfPinLaw", "text", "(IJ)Ljava/lang/String;"⟩ : MethodName) method_2_code 7 (some (.object o_n1)) :: ws) ({ frames := 3, cells := 2, slots := 4, locals := 43 } : Room)) (fun argz U => argz = #[(.int 0), (.long q)] ∧ Z.Warmed39 U.vm ∧ U.heap = h0 ∧ Lit (Z.setVm U.vm) o_n1 7 la) (fun _ _ _ _ _ => True) (fun _ U o U' => ∃ v L, o = .returned v ∧ Q1y Z q la b kb h0 n0 v U'.heap L ∧ FrameEnd U o U' L ({ frames := 3, cells := 2, slots := 4, locals := 43 } : Room).cells ({ frames := 3, cells := 2, slots := 4, locals := 43 } : Room).slots) := by
  refine MetFree.of_bodySF (plainFor_of_name pn_com_example_crossbill_crossbill_spill_RowFormatBytesOfPinLaw) hisR ?_
  intro p e s m args below meth c s₁ Bd hml0 hP hK
  obtain ⟨rfl, hZ, hh, hV⟩ := hP
  have hx := Bd.exec
  have hby := Bd.bytes
  have hml : c.maxLocals = 7 := hml0
  have hown : s.vm.findClass "com/example/crossbill/crossbill/spill/RowFormatBytesOfPinLaw" = some m.cls := findClass_of_methodNamed Bd.named
  have hnm := (name_of_methodNamed Bd.named Bd.method).1
  have X0 : Stand p l e ({ frames := 3, cells := 2, slots := 4, locals := 43 } : Room) s m #[(.int 0), (.long q)] below meth c s₁ [] 0 0 := Stand.of_body Bd
  have e0 : s₁.heap = h0 := by rw [← hh, Bd.state]; rfl
  have N0 := Fr.nil n0
  have K0 : Keep h0 h0 [] := Keep.refl _ _
  have G : Gets p e below (s₁.setTop (entryFrame m #[(.int 0), (.long q)] 7)) (s₁.setTop (mkF m 0 #[.val (.int 0), .val (.long q), .second, .unset, .unset, .unset, .unset] [])) := fun t k => castTop (ef_1y m q) k
  replace G := o_lloadN (q := 1) G X0.here hx (hb hby d1_0) rfl rfl
  replace G := o_nxs (q := 4) (st := [(.long (65535 : Int64)), (.long q)]) G (X0.ldc2Long hx hown (mvT hZ (o_w hw 4 rfl)) (g := o_g G) rfl (hb hby d1_1)) rfl
  replace G := o_land (q := 5) G X0.here hx (hb hby d1_4) rfl rfl
  replace G := o_l2i (q := 6) G X0.here hx (hb hby d1_5) rfl rfl
  obtain ⟨c0, hn_c0⟩ : ∃ z : Int32, (((q &&& (65535 : Int64)).toInt32).toUInt32.toUInt16.toUInt32.toInt32) = z := ⟨_, rfl⟩
  replace G := o_i2c (q := 7) G X0.here hx (hb hby d1_6) hn_c0 rfl
  replace G := o_istoreN (q := 8) (l' := #[.val (.int 0), .val (.long q), .second, .val (.int c0), .unset, .unset, .unset]) G X0.here hx (hb hby d1_7) rfl rfl
  replace G := o_lloadN (q := 9) G X0.here hx (hb hby d1_8) rfl rfl
  replace G := o_bipush (q := 11) G X0.here hx (hb hby d1_9) (v := (16 : Int32)) (by decide) rfl
  replace G := o_lushr (q := 12) G X0.here hx (hb hby d1_11) rfl rfl
  replace G := o_nxs (q := 15) (st := [(.long (65535 : Int64)), (.long ((q.toUInt64 >>> ((16 : Int32) &&& 0x3f).toInt64.toUInt64).toInt64))]) G (X0.ldc2Long hx hown (mvT hZ (o_w hw 4 rfl)) (g := o_g G) rfl (hb hby d1_12)) rfl
  replace G := o_land (q := 16) G X0.here hx (hb hby d1_15) rfl rfl
  replace G := o_l2i (q := 17) G X0.here hx (hb hby d1_16) rfl rfl
  obtain ⟨c1, hn_c1⟩ : ∃ z : Int32, (((((q.toUInt64 >>> ((16 : Int32) &&& 0x3f).toInt64.toUInt64).toInt64) &&& (65535 : Int64)).toInt32).toUInt32.toUInt16.toUInt32.toInt32) = z := ⟨_, rfl⟩
  replace G := o_i2c (q := 18) G X0.here hx (hb hby d1_17) hn_c1 rfl
  replace G := o_istore (q := 20) (l' := #[.val (.int 0), .val (.long q), .second, .val (.int c0), .val (.int c1), .unset, .unset]) G X0.here hx (hb hby d1_18) rfl rfl
  replace G := o_lloadN (q := 21) G X0.here hx (hb hby d1_20) rfl rfl
  replace G := o_bipush (q := 23) G X0.here hx (hb hby d1_21) (v := (32 : Int32)) (by decide) rfl
  replace G := o_lushr (q := 24) G X0.here hx (hb hby d1_23) rfl rfl
  replace G := o_nxs (q := 27) (st := [(.long (65535 : Int64)), (.long ((q.toUInt64 >>> ((32 : Int32) &&& 0x3f).toInt64.toUInt64).toInt64))]) G (X0.ldc2Long hx hown (mvT hZ (o_w hw 4 rfl)) (g := o_g G) rfl (hb hby d1_24)) rfl
  replace G := o_land (q := 28) G X0.here hx (hb hby d1_27) rfl rfl
  replace G := o_l2i (q := 29) G X0.here hx (hb hby d1_28) rfl rfl
  obtain ⟨c2, hn_c2⟩ : ∃ z : Int32, (((((q.toUInt64 >>> ((32 : Int32) &&& 0x3f).toInt64.toUInt64).toInt64) &&& (65535 : Int64)).toInt32).toUInt32.toUInt16.toUInt32.toInt32) = z := ⟨_, rfl⟩
  replace G := o_i2c (q := 30) G X0.here hx (hb hby d1_29) hn_c2 rfl
  replace G := o_istore (q := 32) (l' := #[.val (.int 0), .val (.long q), .second, .val (.int c0), .val (.int c1), .val (.int c2), .unset]) G X0.here hx (hb hby d1_30) rfl rfl
  replace G := o_lloadN (q := 33) G X0.here hx (hb hby d1_32) rfl rfl
  replace G := o_bipush (q := 35) G X0.here hx (hb hby d1_33) (v := (48 : Int32)) (by decide) rfl
  replace G := o_lushr (q := 36) G X0.here hx (hb hby d1_35) rfl rfl
  replace G := o_nxs (q := 39) (st := [(.long (65535 : Int64)), (.long ((q.toUInt64 >>> ((48 : Int32) &&& 0x3f).toInt64.toUInt64).toInt64))]) G (X0.ldc2Long hx hown (mvT hZ (o_w hw 4 rfl)) (g := o_g G) rfl (hb hby d1_36)) rfl
  replace G := o_land (q := 40) G X0.here hx (hb hby d1_39) rfl rfl
  replace G := o_l2i (q := 41) G X0.here hx (hb hby d1_40) rfl rfl
  obtain ⟨c3, hn_c3⟩ : ∃ z : Int32, (((((q.toUInt64 >>> ((48 : Int32) &&& 0x3f).toInt64.toUInt64).toInt64) &&& (65535 : Int64)).toInt32).toUInt32.toUInt16.toUInt32.toInt32) = z := ⟨_, rfl⟩
  replace G := o_i2c (q := 42) G X0.here hx (hb hby d1_41) hn_c3 rfl
  replace G := o_istore (q := 44) (l' := #[.val (.int 0), .val (.long q), .second, .val (.int c0), .val (.int c1), .val (.int c2), .val (.int c3)]) G X0.here hx (hb hby d1_42) rfl rfl
  replace G := o_iloadN (q := 45) G X0.here hx (hb hby d1_44) rfl rfl
  replace G := o_ifNo (q := 48) G X0.here hx (hb hby d1_45) (by decide) rfl
  obtain ⟨T2, h2, X2, e2, E2, A2, D2, -, st2⟩ := newO X0 hx hZ hown (o_w hw 5 rfl) (o_w hw 6 rfl) (o_w hw 7 rfl) e0 (g := o_g G) rfl (hb hby d1_48) (by decide) (by decide)
  obtain ⟨b2, g2⟩ : ∃ z, z = h0.size := ⟨_, rfl⟩
  rw [← g2] at A2 D2 st2
  have ne3 : la ≠ b2 := Nat.ne_of_lt (Nat.lt_of_lt_of_le P0.lt (Nat.le_of_eq g2.symm))
  have ne4 : b ≠ b2 := Nat.ne_of_lt (Nat.lt_of_lt_of_le P2.lt (Nat.le_of_eq g2.symm))
  have ge_b2 : n0 ≤ b2 := Nat.le_trans Z0 (Nat.le_of_eq g2.symm)
  have sz_b2 : h0.size ≤ b2 := Nat.le_trans K0.1 (Nat.le_of_eq g2.symm)
  have Z2 : n0 ≤ h2.size := Nat.le_trans Z0 E2.1
  have K2 : Keep h0 h2 [] := K0.ext E2
  have F2_value : Fld Z h2 b2 o_n1 "value" "[B" .null := D2 (Or.inr (o_w hw 21 rfl)) (ty := (.array .byte)) (by decide)
  have F2_coder : Fld Z h2 b2 o_n1 "coder" "B" (.int 0) := D2 (Or.inr (o_w hw 22 rfl)) (ty := .byte) (by decide)
  replace G := o_nxs (q := 51) (st := [(.ref b2)]) G st2 rfl
  replace G := o_dup (q := 52) G X2.here hx (hb hby d1_51) rfl rfl
  replace G := o_iconst (q := 53) G X2.here hx (hb hby d1_52) (v := (0 : Int32)) (by decide) rfl
  obtain ⟨T5, h5, k5, X5, e5, E5, A5, st5⟩ := newP X2 hx hZ (o_w hw 8 rfl) e2 (g := o_g G) rfl (hb hby d1_53) rfl (by decide) (cap := 0) (by decide) (by decide) (by decide) (by decide)
  obtain ⟨b5, g5⟩ : ∃ z, z = h2.size := ⟨_, rfl⟩
  rw [← g5] at A5 st5
  have ne6 : b2 ≠ b5 := Nat.ne_of_lt (Nat.lt_of_lt_of_le F2_coder.lt (Nat.le_of_eq g5.symm))
  have F7 := (P0.ext E2)
  have ne8 : la ≠ b5 := Nat.ne_of_lt (Nat.lt_of_lt_of_le F7.lt (Nat.le_of_eq g5.symm))
  have F9 := (P2.ext E2)
  have ne10 : b ≠ b5 := Nat.ne_of_lt (Nat.lt_of_lt_of_le F9.lt (Nat.le_of_eq g5.symm))
  have ge_b5 : n0 ≤ b5 := Nat.le_trans Z2 (Nat.le_of_eq g5.symm)
  have sz_b5 : h0.size ≤ b5 := Nat.le_trans K2.1 (Nat.le_of_eq g5.symm)
  have Z5 : n0 ≤ h5.size := Nat.le_trans Z2 E5.1
  have K5 : Keep h0 h5 [] := K2.ext E5
  have V5 : Arv Z h5 b5 k5 .char (0 : Int32) [] (.int 0) := (Arv.new A5 (by decide)).pad (pad_rep [] (.int 0) 0)
  replace G := o_nxs (q := 55) (st := [(.ref b5), (.ref b2), (.ref b2)]) G st5 rfl
  have F12 := (F2_value.ext E5)
  have F13 := (F2_coder.ext E5)
  have F14 := (A2.ext E5)
  have F15 := (F7.ext E5)
  have F16 := ((P1.ext E2).ext E5)
  have F17 := (F9.ext E5)
  obtain ⟨_, _, ⟨T11, L11, kk11, nn11⟩, -, X11, ⟨Lc11, hQ11, l11, y11, z11⟩, st11⟩ := X5.specialBack hx (y := (⟨o_n1, "<init>", "([C)V"⟩ : MethodName)) rfl hown (mvT hZ (o_w hw 9 rfl)) (mvT hZ (o_w hw 10 rfl)) (mvT hZ (o_w hw 11 rfl)) (by decide) (o_backN (V := fun vm => Lit (Z.setVm vm) o_n1 7 la) (W := 1) (rm2y l Z a0 hw [] b2 b5 la b kb k5 h5 n0 Z5 F12 F13 F14 ge_b2 (Ne.symm ne3) (Ne.symm ne4) F15 F16 F17 V5) hZ (o_w hw 11 rfl) (o_w hw 7 rfl) (by decide) (by decide)) (g := o_g G) rfl (by rw [hml]; rfl) (Steps.refl _) (a := b2) (argsL := [(.ref b5)]) (rest := [(.ref b2)]) (lenOf pd_8 rfl) rfl (by show 2 * 0 + _ ≤ _; exact Nat.le_of_eq rfl) (hb hby d1_55) (fun _ hvm => ⟨rfl, e5, (by decide : 2 + 0 ≤ _), (by decide : 4 + 0 ≤ _), Lit.stays (s := s) (vm0 := s.vm) hV hvm.wide⟩)
  dsimp only [Pt.U, Pt.locs, Pt.cells, Pt.slots] at X11 l11 y11 z11 st11 hQ11
  subst l11 y11 z11
  obtain ⟨rfl, N11q, K11q, B11_0, B11_1⟩ := hQ11
  have Z11 : n0 ≤ T11.heap.size := Nat.le_trans Z5 K11q.1
  have K11 : Keep h0 T11.heap [] := K5.trans K11q (allS (Or.inr sz_b2) all0)
  have N11 := Fr.app N0 N11q
  replace G := o_nxv (q := 58) (st := [(.ref b2)]) G st11 rfl
  obtain ⟨fs, hr, hrun, hended, hW, hsame⟩ := X11.leave (v := some (.ref b2)) (fun h => by rw [Bd.returns] at h; cases h)
  refine ⟨_, _, G _ (retOut X11 hx Bd.returns rfl (Or.inr (Or.inr (Or.inr (Or.inr ⟨rfl, rfl, rfl⟩)))) (hb hby d1_58) hr), hrun, hended, _, _, rfl, ?_, ⟨_, rfl⟩, hW, hsame.mono (by decide) (by decide)⟩
  have F18 := (F14.keep K11q)
  show Q1y Z q la b kb h0 n0 _ T11.heap _
  exact ⟨b2, rfl, N11, K11, sz_b2, F18, B11_0, B11_1⟩
theorem d16_0 : decode jdk_42_method_152_code 0 = .ok (.getstatic 38, 3) := by decide +kernel
theorem d16_3 : decode jdk_42_method_152_code 3 = .ok (.ifCond .eq 10, 3) := by decide +kernel
theorem d16_6 : decode jdk_42_method_152_code 6 = .ok (.aload_n 0, 1) := by decide +kernel
theorem d16_7 : decode jdk_42_method_152_code 7 = .ok (.getfield 15, 3) := by decide +kernel
theorem d16_10 : decode jdk_42_method_152_code 10 = .ok (.goto 4, 3) := by decide +kernel
theorem d16_14 : decode jdk_42_method_152_code 14 = .ok (.ireturn, 1) := by decide +kernel
theorem ef_16 (m : MethodId) (x0 : Addr) : entryFrame m #[(.ref x0)] 1 = mkF m 0 #[.val (.ref x0)] [] := by first | (simp [entryFrame, mkF, argsToLocals, Value.category]; done) | rfl
def Q16 (Z : State) (a : Addr) (cc : Int32) (cw : Int32) (h0 : Heap) (n0 : Nat) (v : Option Value) (h : Heap) (L : List Loc) : Prop := v = some (.int cc) ∧ Fr n0 L ∧ h = h0
set_option maxRecDepth 65536 in
set_option maxHeartbeats 40000000 in
theorem rm16 (l : Launch) (Z : State) (a0 : Array Value) (hw : ∀ d ∈ tables_1, d.before a0 Z = true) (ws : List Jvm.Cond) (a : Addr) (cc : Int32) (cw : Int32) (h0 : Heap) (n0 : Nat) (Z0 : n0 ≤ h0.size) (P0 : Sta Z h0 o_n1 "COMPACT_STRINGS" "Z" (.int cw)) (P1 : Fld Z h0 a o_n1 "coder" "B" (.int cc)) (hcw : ¬ cw = (0 : Int32)) (hcc : cc = 0 ∨ cc = 1) :
    MetFree l (⟨o_n1, "coder", "()B"⟩ : MethodName) (head1 (Jvm.Cond.code (⟨o_n1, "coder", "()B"⟩ : MethodName) jdk_42_method_152_code 1 (some .byte) :: ws) ({ frames := 0, cells := 0, slots := 0, locals := 0 } : Room)) (fun argz U => argz = #[(.ref a)] ∧ Z.Warmed39 U.vm ∧ U.heap = h0) (fun _ _ _ _ _ => True) (fun _ U o U' => ∃ v L, o = .returned v ∧ Q16 Z a cc cw h0 n0 v U'.heap L ∧ FrameEnd U o U' L ({ frames := 0, cells := 0, slots := 0, locals := 0 } : Room).cells ({ frames := 0, cells := 0, slots := 0, locals := 0 } : Room).slots) := by
  refine MetFree.of_bodySF (plainFor_of_name pn_java_lang_String) hisR ?_
  intro p e s m args below meth c s₁ Bd hml0 hP hK
  obtain ⟨rfl, hZ, hh⟩ := hP
  have hx := Bd.exec
  have hby := Bd.bytes
  have hml : c.maxLocals = 1 := hml0
  have hown : s.vm.findClass o_n1 = some m.cls := findClass_of_methodNamed Bd.named
  have hnm := (name_of_methodNamed Bd.named Bd.method).1
  have X0 : Stand p l e ({ frames := 0, cells := 0, slots := 0, locals := 0 } : Room) s m #[(.ref a)] below meth c s₁ [] 0 0 := Stand.of_body Bd
  have e0 : s₁.heap = h0 := by rw [← hh, Bd.state]; rfl
  have N0 := Fr.nil n0
  have G : Gets p e below (s₁.setTop (entryFrame m #[(.ref a)] 1)) (s₁.setTop (mkF m 0 #[.val (.ref a)] [])) := fun t k => castTop (ef_16 m a) k
  obtain ⟨T1, X1, e1, st1⟩ := getS2 X0 hx hZ hown (host := "") (Or.inl (o_w hw 27 rfl)) Via.refl e0 P0 (g := o_g G) rfl (hb hby d16_0)
  replace G := o_nxs (q := 3) (st := [(.int cw)]) G st1 rfl
  have hc3_2 : ¬ (cw = (0 : Int32)) := hcw
  replace G := o_ifNo (q := 6) G X1.here hx (hb hby d16_3) ((if0 _ _).trans (feq hc3_2).1) rfl
  replace G := o_aloadN (q := 7) G X1.here hx (hb hby d16_6) rfl rfl rfl
  obtain ⟨T3, X3, e3, st3⟩ := getF X1 hx hZ hown (host := "") (Or.inl (o_w hw 26 rfl)) Via.refl e1 P1 (g := o_g G) rfl rfl (hb hby d16_7)
  replace G := o_nxs (q := 10) (st := [(.int cc)]) G st3 rfl
  replace G := o_goto (q := 14) G X3.here hx (hb hby d16_10) (by decide) (by decide)
  obtain ⟨fs, hr, hrun, hended, hW, hsame⟩ := X3.leave (v := some (.int cc)) (fun h => by rw [Bd.returns] at h; cases h)
  refine ⟨_, _, G _ (retOut X3 hx Bd.returns (o_nb hcc) (Or.inl ⟨rfl, Or.inr (Or.inr (Or.inl rfl)), _, rfl⟩) (hb hby d16_14) hr), hrun, hended, _, _, rfl, ?_, ⟨_, rfl⟩, hW, hsame.mono (by decide) (by decide)⟩
  show Q16 Z a cc cw h0 n0 _ T3.heap _
  rw [e3]
  exact ⟨rfl, N0, rfl⟩
theorem d14_0 : decode jdk_42_method_55_code 0 = .ok (.aload_n 0, 1) := by decide +kernel
theorem d14_1 : decode jdk_42_method_55_code 1 = .ok (.getfield 9, 3) := by decide +kernel
theorem d14_4 : decode jdk_42_method_55_code 4 = .ok (.arraylength, 1) := by decide +kernel
theorem d14_5 : decode jdk_42_method_55_code 5 = .ok (.ifCond .ne 7, 3) := by decide +kernel
theorem d14_8 : decode jdk_42_method_55_code 8 = .ok (.iconst 1, 1) := by decide +kernel
theorem d14_9 : decode jdk_42_method_55_code 9 = .ok (.goto 4, 3) := by decide +kernel
theorem d14_13 : decode jdk_42_method_55_code 13 = .ok (.ireturn, 1) := by decide +kernel
theorem ef_14z (m : MethodId) (x0 : Addr) : entryFrame m #[(.ref x0)] 1 = mkF m 0 #[.val (.ref x0)] [] := by first | (simp [entryFrame, mkF, argsToLocals, Value.category]; done) | rfl
def Q14z (Z : State) (a : Addr) (b : Addr) (kb : ClassId) (h0 : Heap) (n0 : Nat) (v : Option Value) (h : Heap) (L : List Loc) : Prop := v = some (.int 1) ∧ Fr n0 L ∧ h = h0
set_option maxRecDepth 65536 in
set_option maxHeartbeats 40000000 in
theorem rm14z (l : Launch) (Z : State) (a0 : Array Value) (hw : ∀ d ∈ tables_1, d.before a0 Z = true) (ws : List Jvm.Cond) (a : Addr) (b : Addr) (kb : ClassId) (h0 : Heap) (n0 : Nat) (Z0 : n0 ≤ h0.size) (P0 : Fld Z h0 a o_n1 "value" "[B" (.ref b)) (P1 : Arv Z h0 b kb .byte (0 : Int32) [] (.int 0)) :
    MetFree l (⟨o_n1, "isEmpty", "()Z"⟩ : MethodName) (head1 (Jvm.Cond.code (⟨o_n1, "isEmpty", "()Z"⟩ : MethodName) jdk_42_method_55_code 1 (some .boolean) :: ws) ({ frames := 0, cells := 0, slots := 0, locals := 0 } : Room)) (fun argz U => argz = #[(.ref a)] ∧ Z.Warmed39 U.vm ∧ U.heap = h0) (fun _ _ _ _ _ => True) (fun _ U o U' => ∃ v L, o = .returned v ∧ Q14z Z a b kb h0 n0 v U'.heap L ∧ FrameEnd U o U' L ({ frames := 0, cells := 0, slots := 0, locals := 0 } : Room).cells ({ frames := 0, cells := 0, slots := 0, locals := 0 } : Room).slots) := by
  refine MetFree.of_bodySF (plainFor_of_name pn_java_lang_String) hisR ?_
  intro p e s m args below meth c s₁ Bd hml0 hP hK
  obtain ⟨rfl, hZ, hh⟩ := hP
  have hx := Bd.exec
  have hby := Bd.bytes
  have hml : c.maxLocals = 1 := hml0
  have hown : s.vm.findClass o_n1 = some m.cls := findClass_of_methodNamed Bd.named
  have hnm := (name_of_methodNamed Bd.named Bd.method).1
  have X0 : Stand p l e ({ frames := 0, cells := 0, slots := 0, locals := 0 } : Room) s m #[(.ref a)] below meth c s₁ [] 0 0 := Stand.of_body Bd
  have e0 : s₁.heap = h0 := by rw [← hh, Bd.state]; rfl
  have N0 := Fr.nil n0
  have G : Gets p e below (s₁.setTop (entryFrame m #[(.ref a)] 1)) (s₁.setTop (mkF m 0 #[.val (.ref a)] [])) := fun t k => castTop (ef_14z m a) k
  replace G := o_aloadN (q := 1) G X0.here hx (hb hby d14_0) rfl rfl rfl
  obtain ⟨T1, X1, e1, st1⟩ := getF X0 hx hZ hown (host := "") (Or.inl (o_w hw 25 rfl)) Via.refl e0 P0 (g := o_g G) rfl rfl (hb hby d14_1)
  replace G := o_nxs (q := 4) (st := [(.ref b)]) G st1 rfl
  obtain ⟨c2, Ar2, -, S2, N2', -, -⟩ := id P1
  replace G : Gets p e below _ (T1.setTop (mkF m 5 #[.val (.ref a)] [(.int 0)])) := fun t k => G t (X1.arraylength hx (by rw [e1]; exact Ar2.1) (State.isArrayOf_alike hZ.alike Ar2.2.1) (g := o_g G) rfl rfl (hb hby d14_4) t (by rw [len_of S2 N2']; exact k))
  replace G := o_ifNo (q := 8) G X1.here hx (hb hby d14_5) (by decide) rfl
  replace G := o_iconst (q := 9) G X1.here hx (hb hby d14_8) (v := (1 : Int32)) (by decide) rfl
  replace G := o_goto (q := 13) G X1.here hx (hb hby d14_9) (by decide) (by decide)
  obtain ⟨fs, hr, hrun, hended, hW, hsame⟩ := X1.leave (v := some (.int 1)) (fun h => by rw [Bd.returns] at h; cases h)
  refine ⟨_, _, G _ (retOut X1 hx Bd.returns rfl (Or.inl ⟨rfl, Or.inr (Or.inl rfl), _, rfl⟩) (hb hby d14_13) hr), hrun, hended, _, _, rfl, ?_, ⟨_, rfl⟩, hW, hsame.mono (by decide) (by decide)⟩
  show Q14z Z a b kb h0 n0 _ T1.heap _
  rw [e1]
  exact ⟨rfl, N0, rfl⟩
theorem pd_9 : parseMethodDescriptor "()Z" = some ⟨[], some .boolean⟩ := by decide +kernel
theorem d13_0 : decode prog_37_method_4_code 0 = .ok (.lconst 0, 1) := by decide +kernel
theorem d13_1 : decode prog_37_method_4_code 1 = .ok (.lstore_n 1, 1) := by decide +kernel
theorem d13_2 : decode prog_37_method_4_code 2 = .ok (.aload_n 0, 1) := by decide +kernel
theorem d13_3 : decode prog_37_method_4_code 3 = .ok (.invokevirtual 1, 3) := by decide +kernel
theorem d13_6 : decode prog_37_method_4_code 6 = .ok (.ifCond .ne 17, 3) := by decide +kernel
theorem d13_23 : decode prog_37_method_4_code 23 = .ok (.lload_n 1, 1) := by decide +kernel
theorem d13_24 : decode prog_37_method_4_code 24 = .ok (.lreturn, 1) := by decide +kernel
theorem pn_com_example_crossbill_crossbill_spill_RowFormat : plainName "com/example/crossbill/crossbill/spill/RowFormat" = true := by first | (simp [plainName, overriddenIn]; done) | decide +kernel
theorem ef_13z (m : MethodId) (x0 : Addr) : entryFrame m #[(.ref x0)] 3 = mkF m 0 #[.val (.ref x0), .unset, .unset] [] := by first | (simp [entryFrame, mkF, argsToLocals, Value.category]; done) | rfl
def Q13z (Z : State) (a : Addr) (b : Addr) (kb : ClassId) (h0 : Heap) (n0 : Nat) (v : Option Value) (h : Heap) (L : List Loc) : Prop := v = some (.long (0 : Int64)) ∧ Fr n0 L ∧ h = h0
set_option maxRecDepth 65536 in
set_option maxHeartbeats 40000000 in
theorem rm13z (l : Launch) (Z : State) (a0 : Array Value) (hw : ∀ d ∈ tables_1, d.before a0 Z = true) (ws : List Jvm.Cond) (a : Addr) (b : Addr) (kb : ClassId) (h0 : Heap) (n0 : Nat) (Z0 : n0 ≤ h0.size) (P0 : Exa Z h0 a o_n1) (P1 : Fld Z h0 a o_n1 "value" "[B" (.ref b)) (P2 : Arv Z h0 b kb .byte (0 : Int32) [] (.int 0)) :
    MetFree l (⟨"com/example/crossbill/crossbill/spill/RowFormat", "bytesOf", "(Ljava/lang/String;)J"⟩ : MethodName) (head1 (Jvm.Cond.code (⟨"com/example/crossbill/crossbill/spill/RowFormat", "bytesOf", "(Ljava/lang/String;)J"⟩ : MethodName) prog_37_method_4_code 3 (some .long) :: ws) ({ frames := 1, cells := 0, slots := 0, locals := 12 } : Room)) (fun argz U => argz = #[(.ref a)] ∧ Z.Warmed39 U.vm ∧ U.heap = h0) (fun _ _ _ _ _ => True) (fun _ U o U' => ∃ v L, o = .returned v ∧ Q13z Z a b kb h0 n0 v U'.heap L ∧ FrameEnd U o U' L ({ frames := 1, cells := 0, slots := 0, locals := 12 } : Room).cells ({ frames := 1, cells := 0, slots := 0, locals := 12 } : Room).slots) := by
  refine MetFree.of_bodySF (plainFor_of_name pn_com_example_crossbill_crossbill_spill_RowFormat) hisR ?_
  intro p e s m args below meth c s₁ Bd hml0 hP hK
  obtain ⟨rfl, hZ, hh⟩ := hP
  have hx := Bd.exec
  have hby := Bd.bytes
  have hml : c.maxLocals = 3 := hml0
  have hown : s.vm.findClass "com/example/crossbill/crossbill/spill/RowFormat" = some m.cls := findClass_of_methodNamed Bd.named
  have hnm := (name_of_methodNamed Bd.named Bd.method).1
  have X0 : Stand p l e ({ frames := 1, cells := 0, slots := 0, locals := 12 } : Room) s m #[(.ref a)] below meth c s₁ [] 0 0 := Stand.of_body Bd
  have e0 : s₁.heap = h0 := by rw [← hh, Bd.state]; rfl
  have N0 := Fr.nil n0
  have G : Gets p e below (s₁.setTop (entryFrame m #[(.ref a)] 3)) (s₁.setTop (mkF m 0 #[.val (.ref a), .unset, .unset] [])) := fun t k => castTop (ef_13z m a) k
  replace G := o_lconst (q := 1) G X0.here hx (hb hby d13_0) (v := (0 : Int64)) (by decide) rfl
  replace G := o_lstoreN (q := 2) (l' := #[.val (.ref a), .val (.long (0 : Int64)), .second]) G X0.here hx (hb hby d13_1) rfl rfl
  replace G := o_aloadN (q := 3) G X0.here hx (hb hby d13_2) rfl rfl rfl
  obtain ⟨T1, _, Lc1, X1, hQ1, G⟩ := o_vb (q := 6) (W := 0) (argsL := []) (rest := []) (y := (⟨o_n1, "isEmpty", "()Z"⟩ : MethodName)) G X0 hx hZ hown (by rw [hml]; rfl) ⟨(o_w hw 61 rfl), (o_w hw 62 rfl), (o_w hw 64 rfl), (o_w hw 63 rfl), (o_w hw 65 rfl), (o_w hw 7 rfl)⟩ (by decide) e0 P0 (rm14z l Z a0 hw [] a b kb h0 n0 Z0 P1 P2) (lenOf pd_9 rfl) rfl (Nat.le_of_eq rfl) (hb hby d13_3) rfl (by decide) (by decide) (by decide) (by decide)
  obtain ⟨rfl, N1q, e1⟩ := hQ1
  have N1 := Fr.app N0 N1q
  replace G := o_re (st := [(.int 1)]) G rfl
  replace G := o_ifYes (q := 23) G X1.here hx (hb hby d13_6) (by decide) (by decide) (by decide)
  replace G := o_lloadN (q := 24) G X1.here hx (hb hby d13_23) rfl rfl
  obtain ⟨fs, hr, hrun, hended, hW, hsame⟩ := X1.leave (v := some (.long (0 : Int64))) (fun h => by rw [Bd.returns] at h; cases h)
  refine ⟨_, _, G _ (retOut X1 hx Bd.returns rfl (Or.inr (Or.inl ⟨rfl, rfl, _, rfl⟩)) (hb hby d13_24) hr), hrun, hended, _, _, rfl, ?_, ⟨_, rfl⟩, hW, hsame.mono (by decide) (by decide)⟩
  show Q13z Z a b kb h0 n0 _ T1.heap _
  rw [e1]
  exact ⟨rfl, N1, rfl⟩
theorem d14_12 : decode jdk_42_method_55_code 12 = .ok (.iconst 0, 1) := by decide +kernel
theorem ef_14 (m : MethodId) (x0 : Addr) : entryFrame m #[(.ref x0)] 1 = mkF m 0 #[.val (.ref x0)] [] := by first | (simp [entryFrame, mkF, argsToLocals, Value.category]; done) | rfl
def Q14 (Z : State) (a : Addr) (b : Addr) (kb : ClassId) (nn : Int32) (vs : List Value) (h0 : Heap) (n0 : Nat) (v : Option Value) (h : Heap) (L : List Loc) : Prop := v = some (.int 0) ∧ Fr n0 L ∧ h = h0
set_option maxRecDepth 65536 in
set_option maxHeartbeats 40000000 in
theorem rm14 (l : Launch) (Z : State) (a0 : Array Value) (hw : ∀ d ∈ tables_1, d.before a0 Z = true) (ws : List Jvm.Cond) (a : Addr) (b : Addr) (kb : ClassId) (nn : Int32) (vs : List Value) (h0 : Heap) (n0 : Nat) (Z0 : n0 ≤ h0.size) (P0 : Fld Z h0 a o_n1 "value" "[B" (.ref b)) (P1 : Arv Z h0 b kb .byte nn vs (.int 0)) (hne : ¬ (nn = (0 : Int32))) :
    MetFree l (⟨o_n1, "isEmpty", "()Z"⟩ : MethodName) (head1 (Jvm.Cond.code (⟨o_n1, "isEmpty", "()Z"⟩ : MethodName) jdk_42_method_55_code 1 (some .boolean) :: ws) ({ frames := 0, cells := 0, slots := 0, locals := 0 } : Room)) (fun argz U => argz = #[(.ref a)] ∧ Z.Warmed39 U.vm ∧ U.heap = h0) (fun _ _ _ _ _ => True) (fun _ U o U' => ∃ v L, o = .returned v ∧ Q14 Z a b kb nn vs h0 n0 v U'.heap L ∧ FrameEnd U o U' L ({ frames := 0, cells := 0, slots := 0, locals := 0 } : Room).cells ({ frames := 0, cells := 0, slots := 0, locals := 0 } : Room).slots) := by
  refine MetFree.of_bodySF (plainFor_of_name pn_java_lang_String) hisR ?_
  intro p e s m args below meth c s₁ Bd hml0 hP hK
  obtain ⟨rfl, hZ, hh⟩ := hP
  have hx := Bd.exec
  have hby := Bd.bytes
  have hml : c.maxLocals = 1 := hml0
  have hown : s.vm.findClass o_n1 = some m.cls := findClass_of_methodNamed Bd.named
  have hnm := (name_of_methodNamed Bd.named Bd.method).1
  have X0 : Stand p l e ({ frames := 0, cells := 0, slots := 0, locals := 0 } : Room) s m #[(.ref a)] below meth c s₁ [] 0 0 := Stand.of_body Bd
  have e0 : s₁.heap = h0 := by rw [← hh, Bd.state]; rfl
  have N0 := Fr.nil n0
  have G : Gets p e below (s₁.setTop (entryFrame m #[(.ref a)] 1)) (s₁.setTop (mkF m 0 #[.val (.ref a)] [])) := fun t k => castTop (ef_14 m a) k
  replace G := o_aloadN (q := 1) G X0.here hx (hb hby d14_0) rfl rfl rfl
  obtain ⟨T1, X1, e1, st1⟩ := getF X0 hx hZ hown (host := "") (Or.inl (o_w hw 25 rfl)) Via.refl e0 P0 (g := o_g G) rfl rfl (hb hby d14_1)
  replace G := o_nxs (q := 4) (st := [(.ref b)]) G st1 rfl
  obtain ⟨c2, Ar2, -, S2, N2', -, -⟩ := id P1
  replace G : Gets p e below _ (T1.setTop (mkF m 5 #[.val (.ref a)] [(.int nn)])) := fun t k => G t (X1.arraylength hx (by rw [e1]; exact Ar2.1) (State.isArrayOf_alike hZ.alike Ar2.2.1) (g := o_g G) rfl rfl (hb hby d14_4) t (by rw [len_of S2 N2']; exact k))
  have hc5_3 : ¬ (nn = (0 : Int32)) := hne
  replace G := o_ifYes (q := 12) G X1.here hx (hb hby d14_5) ((if0 _ _).trans (feq hc5_3).2) (by decide) (by decide)
  replace G := o_iconst (q := 13) G X1.here hx (hb hby d14_12) (v := (0 : Int32)) (by decide) rfl
  obtain ⟨fs, hr, hrun, hended, hW, hsame⟩ := X1.leave (v := some (.int 0)) (fun h => by rw [Bd.returns] at h; cases h)
  refine ⟨_, _, G _ (retOut X1 hx Bd.returns rfl (Or.inl ⟨rfl, Or.inr (Or.inl rfl), _, rfl⟩) (hb hby d14_13) hr), hrun, hended, _, _, rfl, ?_, ⟨_, rfl⟩, hW, hsame.mono (by decide) (by decide)⟩
  show Q14 Z a b kb nn vs h0 n0 _ T1.heap _
  rw [e1]
  exact ⟨rfl, N0, rfl⟩
theorem pd_10 : parseMethodDescriptor "()B" = some ⟨[], some .byte⟩ := by decide +kernel
theorem d15_0 : decode jdk_42_method_54_code 0 = .ok (.aload_n 0, 1) := by decide +kernel
theorem d15_1 : decode jdk_42_method_54_code 1 = .ok (.getfield 9, 3) := by decide +kernel
theorem d15_4 : decode jdk_42_method_54_code 4 = .ok (.arraylength, 1) := by decide +kernel
theorem d15_5 : decode jdk_42_method_54_code 5 = .ok (.aload_n 0, 1) := by decide +kernel
theorem d15_6 : decode jdk_42_method_54_code 6 = .ok (.invokevirtual 335, 3) := by decide +kernel
theorem d15_9 : decode jdk_42_method_54_code 9 = .ok (.ishr, 1) := by decide +kernel
theorem d15_10 : decode jdk_42_method_54_code 10 = .ok (.ireturn, 1) := by decide +kernel
theorem ef_15n1 (m : MethodId) (x0 : Addr) : entryFrame m #[(.ref x0)] 1 = mkF m 0 #[.val (.ref x0)] [] := by first | (simp [entryFrame, mkF, argsToLocals, Value.category]; done) | rfl
def Q15n1 (Z : State) (a : Addr) (b : Addr) (kb : ClassId) (nn : Int32) (vs : List Value) (cc : Int32) (cw : Int32) (h0 : Heap) (n0 : Nat) (v : Option Value) (h : Heap) (L : List Loc) : Prop := v = some (.int 1) ∧ Fr n0 L ∧ h = h0
set_option maxRecDepth 65536 in
set_option maxHeartbeats 40000000 in
theorem rm15n1 (l : Launch) (Z : State) (a0 : Array Value) (hw : ∀ d ∈ tables_1, d.before a0 Z = true) (ws : List Jvm.Cond) (a : Addr) (b : Addr) (kb : ClassId) (nn : Int32) (vs : List Value) (cc : Int32) (cw : Int32) (h0 : Heap) (n0 : Nat) (Z0 : n0 ≤ h0.size) (P0 : Exa Z h0 a o_n1) (P1 : Sta Z h0 o_n1 "COMPACT_STRINGS" "Z" (.int cw)) (P2 : Fld Z h0 a o_n1 "value" "[B" (.ref b)) (P3 : Arv Z h0 b kb .byte nn vs (.int 0)) (P4 : Fld Z h0 a o_n1 "coder" "B" (.int cc)) (hcw : ¬ cw = (0 : Int32)) (hl : (cc = (0 : Int32) ∧ nn = (1 : Int32)) ∨ (cc = (1 : Int32) ∧ nn = (2 : Int32))) :
    MetFree l (⟨o_n1, "length", "()I"⟩ : MethodName) (head1 (Jvm.Cond.code (⟨o_n1, "length", "()I"⟩ : MethodName) jdk_42_method_54_code 1 (some .int) :: ws) ({ frames := 1, cells := 0, slots := 0, locals := 13 } : Room)) (fun argz U => argz = #[(.ref a)] ∧ Z.Warmed39 U.vm ∧ U.heap = h0) (fun _ _ _ _ _ => True) (fun _ U o U' => ∃ v L, o = .returned v ∧ Q15n1 Z a b kb nn vs cc cw h0 n0 v U'.heap L ∧ FrameEnd U o U' L ({ frames := 1, cells := 0, slots := 0, locals := 13 } : Room).cells ({ frames := 1, cells := 0, slots := 0, locals := 13 } : Room).slots) := by
  refine MetFree.of_bodySF (plainFor_of_name pn_java_lang_String) hisR ?_
  intro p e s m args below meth c s₁ Bd hml0 hP hK
  obtain ⟨rfl, hZ, hh⟩ := hP
  have hx := Bd.exec
  have hby := Bd.bytes
  have hml : c.maxLocals = 1 := hml0
  have hown : s.vm.findClass o_n1 = some m.cls := findClass_of_methodNamed Bd.named
  have hnm := (name_of_methodNamed Bd.named Bd.method).1
  have X0 : Stand p l e ({ frames := 1, cells := 0, slots := 0, locals := 13 } : Room) s m #[(.ref a)] below meth c s₁ [] 0 0 := Stand.of_body Bd
  have e0 : s₁.heap = h0 := by rw [← hh, Bd.state]; rfl
  have N0 := Fr.nil n0
  have G : Gets p e below (s₁.setTop (entryFrame m #[(.ref a)] 1)) (s₁.setTop (mkF m 0 #[.val (.ref a)] [])) := fun t k => castTop (ef_15n1 m a) k
  replace G := o_aloadN (q := 1) G X0.here hx (hb hby d15_0) rfl rfl rfl
  obtain ⟨T1, X1, e1, st1⟩ := getF X0 hx hZ hown (host := "") (Or.inl (o_w hw 25 rfl)) Via.refl e0 P2 (g := o_g G) rfl rfl (hb hby d15_1)
  replace G := o_nxs (q := 4) (st := [(.ref b)]) G st1 rfl
  obtain ⟨c2, Ar2, -, S2, N2', -, -⟩ := id P3
  replace G : Gets p e below _ (T1.setTop (mkF m 5 #[.val (.ref a)] [(.int nn)])) := fun t k => G t (X1.arraylength hx (by rw [e1]; exact Ar2.1) (State.isArrayOf_alike hZ.alike Ar2.2.1) (g := o_g G) rfl rfl (hb hby d15_4) t (by rw [len_of S2 N2']; exact k))
  replace G := o_aloadN (q := 6) G X1.here hx (hb hby d15_5) rfl rfl rfl
  obtain ⟨T3, _, Lc3, X3, hQ3, G⟩ := o_vb (q := 9) (W := 1) (argsL := []) (rest := [(.int nn)]) (y := (⟨o_n1, "coder", "()B"⟩ : MethodName)) G X1 hx hZ hown (by rw [hml]; rfl) ⟨(o_w hw 73 rfl), (o_w hw 74 rfl), (o_w hw 76 rfl), (o_w hw 75 rfl), (o_w hw 77 rfl), (o_w hw 7 rfl)⟩ (by decide) e1 P0 (rm16 l Z a0 hw [] a cc cw h0 n0 Z0 P1 P4 hcw (hl.imp And.left And.left)) (lenOf pd_10 rfl) rfl (Nat.le_of_eq rfl) (hb hby d15_6) rfl (by decide) (by decide) (by decide) (by decide)
  obtain ⟨rfl, N3q, e3⟩ := hQ3
  have N3 := Fr.app N0 N3q
  replace G := o_re (st := [(.int cc), (.int nn)]) G rfl
  replace G := o_ishr (q := 10) G X3.here hx (hb hby d15_9) rfl rfl
  obtain ⟨fs, hr, hrun, hended, hW, hsame⟩ := X3.leave (v := some (.int (nn >>> (cc &&& 31)))) (fun h => by rw [Bd.returns] at h; cases h)
  refine ⟨_, _, G _ (retOut X3 hx Bd.returns rfl (Or.inl ⟨rfl, Or.inl rfl, _, rfl⟩) (hb hby d15_10) hr), hrun, hended, _, _, rfl, ?_, ⟨_, rfl⟩, hW, hsame.mono (by decide) (by decide)⟩
  show Q15n1 Z a b kb nn vs cc cw h0 n0 _ T3.heap _
  rw [e3]
  exact ⟨(congrArg (fun z => some (Value.int z)) (o_ln1 hl)), N3, rfl⟩
theorem pd_11 : parseMethodDescriptor "()I" = some ⟨[], some .int⟩ := by decide +kernel
theorem d13_9 : decode prog_37_method_4_code 9 = .ok (.ldc2_w 7, 3) := by decide +kernel
theorem d13_12 : decode prog_37_method_4_code 12 = .ok (.ldc2_w 9, 3) := by decide +kernel
theorem d13_15 : decode prog_37_method_4_code 15 = .ok (.aload_n 0, 1) := by decide +kernel
theorem d13_16 : decode prog_37_method_4_code 16 = .ok (.invokevirtual 11, 3) := by decide +kernel
theorem d13_19 : decode prog_37_method_4_code 19 = .ok (.i2l, 1) := by decide +kernel
theorem d13_20 : decode prog_37_method_4_code 20 = .ok (.lmul, 1) := by decide +kernel
theorem d13_21 : decode prog_37_method_4_code 21 = .ok (.ladd, 1) := by decide +kernel
theorem d13_22 : decode prog_37_method_4_code 22 = .ok (.lstore_n 1, 1) := by decide +kernel
theorem ef_13n1 (m : MethodId) (x0 : Addr) : entryFrame m #[(.ref x0)] 3 = mkF m 0 #[.val (.ref x0), .unset, .unset] [] := by first | (simp [entryFrame, mkF, argsToLocals, Value.category]; done) | rfl
def Q13n1 (Z : State) (a : Addr) (b : Addr) (kb : ClassId) (nn : Int32) (vs : List Value) (cc : Int32) (cw : Int32) (h0 : Heap) (n0 : Nat) (v : Option Value) (h : Heap) (L : List Loc) : Prop := v = some (.long (50 : Int64)) ∧ Fr n0 L ∧ h = h0
set_option maxRecDepth 65536 in
set_option maxHeartbeats 40000000 in
theorem rm13n1 (l : Launch) (Z : State) (a0 : Array Value) (hw : ∀ d ∈ tables_1, d.before a0 Z = true) (ws : List Jvm.Cond) (a : Addr) (b : Addr) (kb : ClassId) (nn : Int32) (vs : List Value) (cc : Int32) (cw : Int32) (h0 : Heap) (n0 : Nat) (Z0 : n0 ≤ h0.size) (P0 : Exa Z h0 a o_n1) (P1 : Sta Z h0 o_n1 "COMPACT_STRINGS" "Z" (.int cw)) (P2 : Fld Z h0 a o_n1 "value" "[B" (.ref b)) (P3 : Arv Z h0 b kb .byte nn vs (.int 0)) (P4 : Fld Z h0 a o_n1 "coder" "B" (.int cc)) (hcw : ¬ cw = (0 : Int32)) (hl : (cc = (0 : Int32) ∧ nn = (1 : Int32)) ∨ (cc = (1 : Int32) ∧ nn = (2 : Int32))) :
    MetFree l (⟨"com/example/crossbill/crossbill/spill/RowFormat", "bytesOf", "(Ljava/lang/String;)J"⟩ : MethodName) (head1 (Jvm.Cond.code (⟨"com/example/crossbill/crossbill/spill/RowFormat", "bytesOf", "(Ljava/lang/String;)J"⟩ : MethodName) prog_37_method_4_code 3 (some .long) :: ws) ({ frames := 2, cells := 0, slots := 0, locals := 29 } : Room)) (fun argz U => argz = #[(.ref a)] ∧ Z.Warmed39 U.vm ∧ U.heap = h0) (fun _ _ _ _ _ => True) (fun _ U o U' => ∃ v L, o = .returned v ∧ Q13n1 Z a b kb nn vs cc cw h0 n0 v U'.heap L ∧ FrameEnd U o U' L ({ frames := 2, cells := 0, slots := 0, locals := 29 } : Room).cells ({ frames := 2, cells := 0, slots := 0, locals := 29 } : Room).slots) := by
  refine MetFree.of_bodySF (plainFor_of_name pn_com_example_crossbill_crossbill_spill_RowFormat) hisR ?_
  intro p e s m args below meth c s₁ Bd hml0 hP hK
  obtain ⟨rfl, hZ, hh⟩ := hP
  have hx := Bd.exec
  have hby := Bd.bytes
  have hml : c.maxLocals = 3 := hml0
  have hown : s.vm.findClass "com/example/crossbill/crossbill/spill/RowFormat" = some m.cls := findClass_of_methodNamed Bd.named
  have hnm := (name_of_methodNamed Bd.named Bd.method).1
  have X0 : Stand p l e ({ frames := 2, cells := 0, slots := 0, locals := 29 } : Room) s m #[(.ref a)] below meth c s₁ [] 0 0 := Stand.of_body Bd
  have e0 : s₁.heap = h0 := by rw [← hh, Bd.state]; rfl
  have N0 := Fr.nil n0
  have G : Gets p e below (s₁.setTop (entryFrame m #[(.ref a)] 3)) (s₁.setTop (mkF m 0 #[.val (.ref a), .unset, .unset] [])) := fun t k => castTop (ef_13n1 m a) k
  replace G := o_lconst (q := 1) G X0.here hx (hb hby d13_0) (v := (0 : Int64)) (by decide) rfl
  replace G := o_lstoreN (q := 2) (l' := #[.val (.ref a), .val (.long (0 : Int64)), .second]) G X0.here hx (hb hby d13_1) rfl rfl
  replace G := o_aloadN (q := 3) G X0.here hx (hb hby d13_2) rfl rfl rfl
  obtain ⟨T1, _, Lc1, X1, hQ1, G⟩ := o_vb (q := 6) (W := 0) (argsL := []) (rest := []) (y := (⟨o_n1, "isEmpty", "()Z"⟩ : MethodName)) G X0 hx hZ hown (by rw [hml]; rfl) ⟨(o_w hw 61 rfl), (o_w hw 62 rfl), (o_w hw 64 rfl), (o_w hw 63 rfl), (o_w hw 65 rfl), (o_w hw 7 rfl)⟩ (by decide) e0 P0 (rm14 l Z a0 hw [] a b kb nn vs h0 n0 Z0 P2 P3 (o_nz1 hl)) (lenOf pd_9 rfl) rfl (Nat.le_of_eq rfl) (hb hby d13_3) rfl (by decide) (by decide) (by decide) (by decide)
  obtain ⟨rfl, N1q, e1⟩ := hQ1
  have N1 := Fr.app N0 N1q
  replace G := o_re (st := [(.int 0)]) G rfl
  replace G := o_ifNo (q := 9) G X1.here hx (hb hby d13_6) (by decide) rfl
  replace G := o_nxs (q := 12) (st := [(.long (48 : Int64))]) G (X1.ldc2Long hx hown (mvT hZ (o_w hw 66 rfl)) (g := o_g G) rfl (hb hby d13_9)) rfl
  replace G := o_nxs (q := 15) (st := [(.long (2 : Int64)), (.long (48 : Int64))]) G (X1.ldc2Long hx hown (mvT hZ (o_w hw 67 rfl)) (g := o_g G) rfl (hb hby d13_12)) rfl
  replace G := o_aloadN (q := 16) G X1.here hx (hb hby d13_15) rfl rfl rfl
  obtain ⟨T3, _, Lc3, X3, hQ3, G⟩ := o_vb (q := 19) (W := 4) (argsL := []) (rest := [(.long (2 : Int64)), (.long (48 : Int64))]) (y := (⟨o_n1, "length", "()I"⟩ : MethodName)) G X1 hx hZ hown (by rw [hml]; rfl) ⟨(o_w hw 68 rfl), (o_w hw 69 rfl), (o_w hw 71 rfl), (o_w hw 70 rfl), (o_w hw 72 rfl), (o_w hw 7 rfl)⟩ (by decide) e1 P0 (rm15n1 l Z a0 hw [] a b kb nn vs cc cw h0 n0 Z0 P0 P1 P2 P3 P4 hcw hl) (lenOf pd_11 rfl) rfl (Nat.le_of_eq rfl) (hb hby d13_16) rfl (by decide) (by decide) (by decide) (by decide)
  obtain ⟨rfl, N3q, e3⟩ := hQ3
  have N3 := Fr.app N1 N3q
  replace G := o_re (st := [(.int 1), (.long (2 : Int64)), (.long (48 : Int64))]) G rfl
  replace G := o_i2l (q := 20) G X3.here hx (hb hby d13_19) (by decide : ((1 : Int32).toInt64) = (1 : Int64)) rfl
  replace G := o_lmul (q := 21) G X3.here hx (hb hby d13_20) (by decide : ((2 : Int64) * (1 : Int64)) = (2 : Int64)) rfl
  replace G := o_ladd (q := 22) G X3.here hx (hb hby d13_21) (by decide : ((48 : Int64) + (2 : Int64)) = (50 : Int64)) rfl
  replace G := o_lstoreN (q := 23) (l' := #[.val (.ref a), .val (.long (50 : Int64)), .second]) G X3.here hx (hb hby d13_22) rfl rfl
  replace G := o_lloadN (q := 24) G X3.here hx (hb hby d13_23) rfl rfl
  obtain ⟨fs, hr, hrun, hended, hW, hsame⟩ := X3.leave (v := some (.long (50 : Int64))) (fun h => by rw [Bd.returns] at h; cases h)
  refine ⟨_, _, G _ (retOut X3 hx Bd.returns rfl (Or.inr (Or.inl ⟨rfl, rfl, _, rfl⟩)) (hb hby d13_24) hr), hrun, hended, _, _, rfl, ?_, ⟨_, rfl⟩, hW, hsame.mono (by decide) (by decide)⟩
  show Q13n1 Z a b kb nn vs cc cw h0 n0 _ T3.heap _
  rw [e3]
  exact ⟨rfl, N3, rfl⟩
theorem ef_15n2 (m : MethodId) (x0 : Addr) : entryFrame m #[(.ref x0)] 1 = mkF m 0 #[.val (.ref x0)] [] := by first | (simp [entryFrame, mkF, argsToLocals, Value.category]; done) | rfl
def Q15n2 (Z : State) (a : Addr) (b : Addr) (kb : ClassId) (nn : Int32) (vs : List Value) (cc : Int32) (cw : Int32) (h0 : Heap) (n0 : Nat) (v : Option Value) (h : Heap) (L : List Loc) : Prop := v = some (.int 2) ∧ Fr n0 L ∧ h = h0
set_option maxRecDepth 65536 in
set_option maxHeartbeats 40000000 in
theorem rm15n2 (l : Launch) (Z : State) (a0 : Array Value) (hw : ∀ d ∈ tables_1, d.before a0 Z = true) (ws : List Jvm.Cond) (a : Addr) (b : Addr) (kb : ClassId) (nn : Int32) (vs : List Value) (cc : Int32) (cw : Int32) (h0 : Heap) (n0 : Nat) (Z0 : n0 ≤ h0.size) (P0 : Exa Z h0 a o_n1) (P1 : Sta Z h0 o_n1 "COMPACT_STRINGS" "Z" (.int cw)) (P2 : Fld Z h0 a o_n1 "value" "[B" (.ref b)) (P3 : Arv Z h0 b kb .byte nn vs (.int 0)) (P4 : Fld Z h0 a o_n1 "coder" "B" (.int cc)) (hcw : ¬ cw = (0 : Int32)) (hl : (cc = (0 : Int32) ∧ nn = (2 : Int32)) ∨ (cc = (1 : Int32) ∧ nn = (4 : Int32))) :
    MetFree l (⟨o_n1, "length", "()I"⟩ : MethodName) (head1 (Jvm.Cond.code (⟨o_n1, "length", "()I"⟩ : MethodName) jdk_42_method_54_code 1 (some .int) :: ws) ({ frames := 1, cells := 0, slots := 0, locals := 13 } : Room)) (fun argz U => argz = #[(.ref a)] ∧ Z.Warmed39 U.vm ∧ U.heap = h0) (fun _ _ _ _ _ => True) (fun _ U o U' => ∃ v L, o = .returned v ∧ Q15n2 Z a b kb nn vs cc cw h0 n0 v U'.heap L ∧ FrameEnd U o U' L ({ frames := 1, cells := 0, slots := 0, locals := 13 } : Room).cells ({ frames := 1, cells := 0, slots := 0, locals := 13 } : Room).slots) := by
  refine MetFree.of_bodySF (plainFor_of_name pn_java_lang_String) hisR ?_
  intro p e s m args below meth c s₁ Bd hml0 hP hK
  obtain ⟨rfl, hZ, hh⟩ := hP
  have hx := Bd.exec
  have hby := Bd.bytes
  have hml : c.maxLocals = 1 := hml0
  have hown : s.vm.findClass o_n1 = some m.cls := findClass_of_methodNamed Bd.named
  have hnm := (name_of_methodNamed Bd.named Bd.method).1
  have X0 : Stand p l e ({ frames := 1, cells := 0, slots := 0, locals := 13 } : Room) s m #[(.ref a)] below meth c s₁ [] 0 0 := Stand.of_body Bd
  have e0 : s₁.heap = h0 := by rw [← hh, Bd.state]; rfl
  have N0 := Fr.nil n0
  have G : Gets p e below (s₁.setTop (entryFrame m #[(.ref a)] 1)) (s₁.setTop (mkF m 0 #[.val (.ref a)] [])) := fun t k => castTop (ef_15n2 m a) k
  replace G := o_aloadN (q := 1) G X0.here hx (hb hby d15_0) rfl rfl rfl
  obtain ⟨T1, X1, e1, st1⟩ := getF X0 hx hZ hown (host := "") (Or.inl (o_w hw 25 rfl)) Via.refl e0 P2 (g := o_g G) rfl rfl (hb hby d15_1)
  replace G := o_nxs (q := 4) (st := [(.ref b)]) G st1 rfl
  obtain ⟨c2, Ar2, -, S2, N2', -, -⟩ := id P3
  replace G : Gets p e below _ (T1.setTop (mkF m 5 #[.val (.ref a)] [(.int nn)])) := fun t k => G t (X1.arraylength hx (by rw [e1]; exact Ar2.1) (State.isArrayOf_alike hZ.alike Ar2.2.1) (g := o_g G) rfl rfl (hb hby d15_4) t (by rw [len_of S2 N2']; exact k))
  replace G := o_aloadN (q := 6) G X1.here hx (hb hby d15_5) rfl rfl rfl
  obtain ⟨T3, _, Lc3, X3, hQ3, G⟩ := o_vb (q := 9) (W := 1) (argsL := []) (rest := [(.int nn)]) (y := (⟨o_n1, "coder", "()B"⟩ : MethodName)) G X1 hx hZ hown (by rw [hml]; rfl) ⟨(o_w hw 73 rfl), (o_w hw 74 rfl), (o_w hw 76 rfl), (o_w hw 75 rfl), (o_w hw 77 rfl), (o_w hw 7 rfl)⟩ (by decide) e1 P0 (rm16 l Z a0 hw [] a cc cw h0 n0 Z0 P1 P4 hcw (hl.imp And.left And.left)) (lenOf pd_10 rfl) rfl (Nat.le_of_eq rfl) (hb hby d15_6) rfl (by decide) (by decide) (by decide) (by decide)
  obtain ⟨rfl, N3q, e3⟩ := hQ3
  have N3 := Fr.app N0 N3q
  replace G := o_re (st := [(.int cc), (.int nn)]) G rfl
  replace G := o_ishr (q := 10) G X3.here hx (hb hby d15_9) rfl rfl
  obtain ⟨fs, hr, hrun, hended, hW, hsame⟩ := X3.leave (v := some (.int (nn >>> (cc &&& 31)))) (fun h => by rw [Bd.returns] at h; cases h)
  refine ⟨_, _, G _ (retOut X3 hx Bd.returns rfl (Or.inl ⟨rfl, Or.inl rfl, _, rfl⟩) (hb hby d15_10) hr), hrun, hended, _, _, rfl, ?_, ⟨_, rfl⟩, hW, hsame.mono (by decide) (by decide)⟩
  show Q15n2 Z a b kb nn vs cc cw h0 n0 _ T3.heap _
  rw [e3]
  exact ⟨(congrArg (fun z => some (Value.int z)) (o_ln2 hl)), N3, rfl⟩
theorem ef_13n2 (m : MethodId) (x0 : Addr) : entryFrame m #[(.ref x0)] 3 = mkF m 0 #[.val (.ref x0), .unset, .unset] [] := by first | (simp [entryFrame, mkF, argsToLocals, Value.category]; done) | rfl
def Q13n2 (Z : State) (a : Addr) (b : Addr) (kb : ClassId) (nn : Int32) (vs : List Value) (cc : Int32) (cw : Int32) (h0 : Heap) (n0 : Nat) (v : Option Value) (h : Heap) (L : List Loc) : Prop := v = some (.long (52 : Int64)) ∧ Fr n0 L ∧ h = h0
set_option maxRecDepth 65536 in
set_option maxHeartbeats 40000000 in
theorem rm13n2 (l : Launch) (Z : State) (a0 : Array Value) (hw : ∀ d ∈ tables_1, d.before a0 Z = true) (ws : List Jvm.Cond) (a : Addr) (b : Addr) (kb : ClassId) (nn : Int32) (vs : List Value) (cc : Int32) (cw : Int32) (h0 : Heap) (n0 : Nat) (Z0 : n0 ≤ h0.size) (P0 : Exa Z h0 a o_n1) (P1 : Sta Z h0 o_n1 "COMPACT_STRINGS" "Z" (.int cw)) (P2 : Fld Z h0 a o_n1 "value" "[B" (.ref b)) (P3 : Arv Z h0 b kb .byte nn vs (.int 0)) (P4 : Fld Z h0 a o_n1 "coder" "B" (.int cc)) (hcw : ¬ cw = (0 : Int32)) (hl : (cc = (0 : Int32) ∧ nn = (2 : Int32)) ∨ (cc = (1 : Int32) ∧ nn = (4 : Int32))) :
    MetFree l (⟨"com/example/crossbill/crossbill/spill/RowFormat", "bytesOf", "(Ljava/lang/String;)J"⟩ : MethodName) (head1 (Jvm.Cond.code (⟨"com/example/crossbill/crossbill/spill/RowFormat", "bytesOf", "(Ljava/lang/String;)J"⟩ : MethodName) prog_37_method_4_code 3 (some .long) :: ws) ({ frames := 2, cells := 0, slots := 0, locals := 29 } : Room)) (fun argz U => argz = #[(.ref a)] ∧ Z.Warmed39 U.vm ∧ U.heap = h0) (fun _ _ _ _ _ => True) (fun _ U o U' => ∃ v L, o = .returned v ∧ Q13n2 Z a b kb nn vs cc cw h0 n0 v U'.heap L ∧ FrameEnd U o U' L ({ frames := 2, cells := 0, slots := 0, locals := 29 } : Room).cells ({ frames := 2, cells := 0, slots := 0, locals := 29 } : Room).slots) := by
  refine MetFree.of_bodySF (plainFor_of_name pn_com_example_crossbill_crossbill_spill_RowFormat) hisR ?_
  intro p e s m args below meth c s₁ Bd hml0 hP hK
  obtain ⟨rfl, hZ, hh⟩ := hP
  have hx := Bd.exec
  have hby := Bd.bytes
  have hml : c.maxLocals = 3 := hml0
  have hown : s.vm.findClass "com/example/crossbill/crossbill/spill/RowFormat" = some m.cls := findClass_of_methodNamed Bd.named
  have hnm := (name_of_methodNamed Bd.named Bd.method).1
  have X0 : Stand p l e ({ frames := 2, cells := 0, slots := 0, locals := 29 } : Room) s m #[(.ref a)] below meth c s₁ [] 0 0 := Stand.of_body Bd
  have e0 : s₁.heap = h0 := by rw [← hh, Bd.state]; rfl
  have N0 := Fr.nil n0
  have G : Gets p e below (s₁.setTop (entryFrame m #[(.ref a)] 3)) (s₁.setTop (mkF m 0 #[.val (.ref a), .unset, .unset] [])) := fun t k => castTop (ef_13n2 m a) k
  replace G := o_lconst (q := 1) G X0.here hx (hb hby d13_0) (v := (0 : Int64)) (by decide) rfl
  replace G := o_lstoreN (q := 2) (l' := #[.val (.ref a), .val (.long (0 : Int64)), .second]) G X0.here hx (hb hby d13_1) rfl rfl
  replace G := o_aloadN (q := 3) G X0.here hx (hb hby d13_2) rfl rfl rfl
  obtain ⟨T1, _, Lc1, X1, hQ1, G⟩ := o_vb (q := 6) (W := 0) (argsL := []) (rest := []) (y := (⟨o_n1, "isEmpty", "()Z"⟩ : MethodName)) G X0 hx hZ hown (by rw [hml]; rfl) ⟨(o_w hw 61 rfl), (o_w hw 62 rfl), (o_w hw 64 rfl), (o_w hw 63 rfl), (o_w hw 65 rfl), (o_w hw 7 rfl)⟩ (by decide) e0 P0 (rm14 l Z a0 hw [] a b kb nn vs h0 n0 Z0 P2 P3 (o_nz2 hl)) (lenOf pd_9 rfl) rfl (Nat.le_of_eq rfl) (hb hby d13_3) rfl (by decide) (by decide) (by decide) (by decide)
  obtain ⟨rfl, N1q, e1⟩ := hQ1
  have N1 := Fr.app N0 N1q
  replace G := o_re (st := [(.int 0)]) G rfl
  replace G := o_ifNo (q := 9) G X1.here hx (hb hby d13_6) (by decide) rfl
  replace G := o_nxs (q := 12) (st := [(.long (48 : Int64))]) G (X1.ldc2Long hx hown (mvT hZ (o_w hw 66 rfl)) (g := o_g G) rfl (hb hby d13_9)) rfl
  replace G := o_nxs (q := 15) (st := [(.long (2 : Int64)), (.long (48 : Int64))]) G (X1.ldc2Long hx hown (mvT hZ (o_w hw 67 rfl)) (g := o_g G) rfl (hb hby d13_12)) rfl
  replace G := o_aloadN (q := 16) G X1.here hx (hb hby d13_15) rfl rfl rfl
  obtain ⟨T3, _, Lc3, X3, hQ3, G⟩ := o_vb (q := 19) (W := 4) (argsL := []) (rest := [(.long (2 : Int64)), (.long (48 : Int64))]) (y := (⟨o_n1, "length", "()I"⟩ : MethodName)) G X1 hx hZ hown (by rw [hml]; rfl) ⟨(o_w hw 68 rfl), (o_w hw 69 rfl), (o_w hw 71 rfl), (o_w hw 70 rfl), (o_w hw 72 rfl), (o_w hw 7 rfl)⟩ (by decide) e1 P0 (rm15n2 l Z a0 hw [] a b kb nn vs cc cw h0 n0 Z0 P0 P1 P2 P3 P4 hcw hl) (lenOf pd_11 rfl) rfl (Nat.le_of_eq rfl) (hb hby d13_16) rfl (by decide) (by decide) (by decide) (by decide)
  obtain ⟨rfl, N3q, e3⟩ := hQ3
  have N3 := Fr.app N1 N3q
  replace G := o_re (st := [(.int 2), (.long (2 : Int64)), (.long (48 : Int64))]) G rfl
  replace G := o_i2l (q := 20) G X3.here hx (hb hby d13_19) (by decide : ((2 : Int32).toInt64) = (2 : Int64)) rfl
  replace G := o_lmul (q := 21) G X3.here hx (hb hby d13_20) (by decide : ((2 : Int64) * (2 : Int64)) = (4 : Int64)) rfl
  replace G := o_ladd (q := 22) G X3.here hx (hb hby d13_21) (by decide : ((48 : Int64) + (4 : Int64)) = (52 : Int64)) rfl
  replace G := o_lstoreN (q := 23) (l' := #[.val (.ref a), .val (.long (52 : Int64)), .second]) G X3.here hx (hb hby d13_22) rfl rfl
  replace G := o_lloadN (q := 24) G X3.here hx (hb hby d13_23) rfl rfl
  obtain ⟨fs, hr, hrun, hended, hW, hsame⟩ := X3.leave (v := some (.long (52 : Int64))) (fun h => by rw [Bd.returns] at h; cases h)
  refine ⟨_, _, G _ (retOut X3 hx Bd.returns rfl (Or.inr (Or.inl ⟨rfl, rfl, _, rfl⟩)) (hb hby d13_24) hr), hrun, hended, _, _, rfl, ?_, ⟨_, rfl⟩, hW, hsame.mono (by decide) (by decide)⟩
  show Q13n2 Z a b kb nn vs cc cw h0 n0 _ T3.heap _
  rw [e3]
  exact ⟨rfl, N3, rfl⟩
theorem ef_15n3 (m : MethodId) (x0 : Addr) : entryFrame m #[(.ref x0)] 1 = mkF m 0 #[.val (.ref x0)] [] := by first | (simp [entryFrame, mkF, argsToLocals, Value.category]; done) | rfl
def Q15n3 (Z : State) (a : Addr) (b : Addr) (kb : ClassId) (nn : Int32) (vs : List Value) (cc : Int32) (cw : Int32) (h0 : Heap) (n0 : Nat) (v : Option Value) (h : Heap) (L : List Loc) : Prop := v = some (.int 3) ∧ Fr n0 L ∧ h = h0
set_option maxRecDepth 65536 in
set_option maxHeartbeats 40000000 in
theorem rm15n3 (l : Launch) (Z : State) (a0 : Array Value) (hw : ∀ d ∈ tables_1, d.before a0 Z = true) (ws : List Jvm.Cond) (a : Addr) (b : Addr) (kb : ClassId) (nn : Int32) (vs : List Value) (cc : Int32) (cw : Int32) (h0 : Heap) (n0 : Nat) (Z0 : n0 ≤ h0.size) (P0 : Exa Z h0 a o_n1) (P1 : Sta Z h0 o_n1 "COMPACT_STRINGS" "Z" (.int cw)) (P2 : Fld Z h0 a o_n1 "value" "[B" (.ref b)) (P3 : Arv Z h0 b kb .byte nn vs (.int 0)) (P4 : Fld Z h0 a o_n1 "coder" "B" (.int cc)) (hcw : ¬ cw = (0 : Int32)) (hl : (cc = (0 : Int32) ∧ nn = (3 : Int32)) ∨ (cc = (1 : Int32) ∧ nn = (6 : Int32))) :
    MetFree l (⟨o_n1, "length", "()I"⟩ : MethodName) (head1 (Jvm.Cond.code (⟨o_n1, "length", "()I"⟩ : MethodName) jdk_42_method_54_code 1 (some .int) :: ws) ({ frames := 1, cells := 0, slots := 0, locals := 13 } : Room)) (fun argz U => argz = #[(.ref a)] ∧ Z.Warmed39 U.vm ∧ U.heap = h0) (fun _ _ _ _ _ => True) (fun _ U o U' => ∃ v L, o = .returned v ∧ Q15n3 Z a b kb nn vs cc cw h0 n0 v U'.heap L ∧ FrameEnd U o U' L ({ frames := 1, cells := 0, slots := 0, locals := 13 } : Room).cells ({ frames := 1, cells := 0, slots := 0, locals := 13 } : Room).slots) := by
  refine MetFree.of_bodySF (plainFor_of_name pn_java_lang_String) hisR ?_
  intro p e s m args below meth c s₁ Bd hml0 hP hK
  obtain ⟨rfl, hZ, hh⟩ := hP
  have hx := Bd.exec
  have hby := Bd.bytes
  have hml : c.maxLocals = 1 := hml0
  have hown : s.vm.findClass o_n1 = some m.cls := findClass_of_methodNamed Bd.named
  have hnm := (name_of_methodNamed Bd.named Bd.method).1
  have X0 : Stand p l e ({ frames := 1, cells := 0, slots := 0, locals := 13 } : Room) s m #[(.ref a)] below meth c s₁ [] 0 0 := Stand.of_body Bd
  have e0 : s₁.heap = h0 := by rw [← hh, Bd.state]; rfl
  have N0 := Fr.nil n0
  have G : Gets p e below (s₁.setTop (entryFrame m #[(.ref a)] 1)) (s₁.setTop (mkF m 0 #[.val (.ref a)] [])) := fun t k => castTop (ef_15n3 m a) k
  replace G := o_aloadN (q := 1) G X0.here hx (hb hby d15_0) rfl rfl rfl
  obtain ⟨T1, X1, e1, st1⟩ := getF X0 hx hZ hown (host := "") (Or.inl (o_w hw 25 rfl)) Via.refl e0 P2 (g := o_g G) rfl rfl (hb hby d15_1)
  replace G := o_nxs (q := 4) (st := [(.ref b)]) G st1 rfl
  obtain ⟨c2, Ar2, -, S2, N2', -, -⟩ := id P3
  replace G : Gets p e below _ (T1.setTop (mkF m 5 #[.val (.ref a)] [(.int nn)])) := fun t k => G t (X1.arraylength hx (by rw [e1]; exact Ar2.1) (State.isArrayOf_alike hZ.alike Ar2.2.1) (g := o_g G) rfl rfl (hb hby d15_4) t (by rw [len_of S2 N2']; exact k))
  replace G := o_aloadN (q := 6) G X1.here hx (hb hby d15_5) rfl rfl rfl
  obtain ⟨T3, _, Lc3, X3, hQ3, G⟩ := o_vb (q := 9) (W := 1) (argsL := []) (rest := [(.int nn)]) (y := (⟨o_n1, "coder", "()B"⟩ : MethodName)) G X1 hx hZ hown (by rw [hml]; rfl) ⟨(o_w hw 73 rfl), (o_w hw 74 rfl), (o_w hw 76 rfl), (o_w hw 75 rfl), (o_w hw 77 rfl), (o_w hw 7 rfl)⟩ (by decide) e1 P0 (rm16 l Z a0 hw [] a cc cw h0 n0 Z0 P1 P4 hcw (hl.imp And.left And.left)) (lenOf pd_10 rfl) rfl (Nat.le_of_eq rfl) (hb hby d15_6) rfl (by decide) (by decide) (by decide) (by decide)
  obtain ⟨rfl, N3q, e3⟩ := hQ3
  have N3 := Fr.app N0 N3q
  replace G := o_re (st := [(.int cc), (.int nn)]) G rfl
  replace G := o_ishr (q := 10) G X3.here hx (hb hby d15_9) rfl rfl
  obtain ⟨fs, hr, hrun, hended, hW, hsame⟩ := X3.leave (v := some (.int (nn >>> (cc &&& 31)))) (fun h => by rw [Bd.returns] at h; cases h)
  refine ⟨_, _, G _ (retOut X3 hx Bd.returns rfl (Or.inl ⟨rfl, Or.inl rfl, _, rfl⟩) (hb hby d15_10) hr), hrun, hended, _, _, rfl, ?_, ⟨_, rfl⟩, hW, hsame.mono (by decide) (by decide)⟩
  show Q15n3 Z a b kb nn vs cc cw h0 n0 _ T3.heap _
  rw [e3]
  exact ⟨(congrArg (fun z => some (Value.int z)) (o_ln3 hl)), N3, rfl⟩
theorem ef_13n3 (m : MethodId) (x0 : Addr) : entryFrame m #[(.ref x0)] 3 = mkF m 0 #[.val (.ref x0), .unset, .unset] [] := by first | (simp [entryFrame, mkF, argsToLocals, Value.category]; done) | rfl
def Q13n3 (Z : State) (a : Addr) (b : Addr) (kb : ClassId) (nn : Int32) (vs : List Value) (cc : Int32) (cw : Int32) (h0 : Heap) (n0 : Nat) (v : Option Value) (h : Heap) (L : List Loc) : Prop := v = some (.long (54 : Int64)) ∧ Fr n0 L ∧ h = h0
set_option maxRecDepth 65536 in
set_option maxHeartbeats 40000000 in
theorem rm13n3 (l : Launch) (Z : State) (a0 : Array Value) (hw : ∀ d ∈ tables_1, d.before a0 Z = true) (ws : List Jvm.Cond) (a : Addr) (b : Addr) (kb : ClassId) (nn : Int32) (vs : List Value) (cc : Int32) (cw : Int32) (h0 : Heap) (n0 : Nat) (Z0 : n0 ≤ h0.size) (P0 : Exa Z h0 a o_n1) (P1 : Sta Z h0 o_n1 "COMPACT_STRINGS" "Z" (.int cw)) (P2 : Fld Z h0 a o_n1 "value" "[B" (.ref b)) (P3 : Arv Z h0 b kb .byte nn vs (.int 0)) (P4 : Fld Z h0 a o_n1 "coder" "B" (.int cc)) (hcw : ¬ cw = (0 : Int32)) (hl : (cc = (0 : Int32) ∧ nn = (3 : Int32)) ∨ (cc = (1 : Int32) ∧ nn = (6 : Int32))) :
    MetFree l (⟨"com/example/crossbill/crossbill/spill/RowFormat", "bytesOf", "(Ljava/lang/String;)J"⟩ : MethodName) (head1 (Jvm.Cond.code (⟨"com/example/crossbill/crossbill/spill/RowFormat", "bytesOf", "(Ljava/lang/String;)J"⟩ : MethodName) prog_37_method_4_code 3 (some .long) :: ws) ({ frames := 2, cells := 0, slots := 0, locals := 29 } : Room)) (fun argz U => argz = #[(.ref a)] ∧ Z.Warmed39 U.vm ∧ U.heap = h0) (fun _ _ _ _ _ => True) (fun _ U o U' => ∃ v L, o = .returned v ∧ Q13n3 Z a b kb nn vs cc cw h0 n0 v U'.heap L ∧ FrameEnd U o U' L ({ frames := 2, cells := 0, slots := 0, locals := 29 } : Room).cells ({ frames := 2, cells := 0, slots := 0, locals := 29 } : Room).slots) := by
  refine MetFree.of_bodySF (plainFor_of_name pn_com_example_crossbill_crossbill_spill_RowFormat) hisR ?_
  intro p e s m args below meth c s₁ Bd hml0 hP hK
  obtain ⟨rfl, hZ, hh⟩ := hP
  have hx := Bd.exec
  have hby := Bd.bytes
  have hml : c.maxLocals = 3 := hml0
  have hown : s.vm.findClass "com/example/crossbill/crossbill/spill/RowFormat" = some m.cls := findClass_of_methodNamed Bd.named
  have hnm := (name_of_methodNamed Bd.named Bd.method).1
  have X0 : Stand p l e ({ frames := 2, cells := 0, slots := 0, locals := 29 } : Room) s m #[(.ref a)] below meth c s₁ [] 0 0 := Stand.of_body Bd
  have e0 : s₁.heap = h0 := by rw [← hh, Bd.state]; rfl
  have N0 := Fr.nil n0
  have G : Gets p e below (s₁.setTop (entryFrame m #[(.ref a)] 3)) (s₁.setTop (mkF m 0 #[.val (.ref a), .unset, .unset] [])) := fun t k => castTop (ef_13n3 m a) k
  replace G := o_lconst (q := 1) G X0.here hx (hb hby d13_0) (v := (0 : Int64)) (by decide) rfl
  replace G := o_lstoreN (q := 2) (l' := #[.val (.ref a), .val (.long (0 : Int64)), .second]) G X0.here hx (hb hby d13_1) rfl rfl
  replace G := o_aloadN (q := 3) G X0.here hx (hb hby d13_2) rfl rfl rfl
  obtain ⟨T1, _, Lc1, X1, hQ1, G⟩ := o_vb (q := 6) (W := 0) (argsL := []) (rest := []) (y := (⟨o_n1, "isEmpty", "()Z"⟩ : MethodName)) G X0 hx hZ hown (by rw [hml]; rfl) ⟨(o_w hw 61 rfl), (o_w hw 62 rfl), (o_w hw 64 rfl), (o_w hw 63 rfl), (o_w hw 65 rfl), (o_w hw 7 rfl)⟩ (by decide) e0 P0 (rm14 l Z a0 hw [] a b kb nn vs h0 n0 Z0 P2 P3 (o_nz3 hl)) (lenOf pd_9 rfl) rfl (Nat.le_of_eq rfl) (hb hby d13_3) rfl (by decide) (by decide) (by decide) (by decide)
  obtain ⟨rfl, N1q, e1⟩ := hQ1
  have N1 := Fr.app N0 N1q
  replace G := o_re (st := [(.int 0)]) G rfl
  replace G := o_ifNo (q := 9) G X1.here hx (hb hby d13_6) (by decide) rfl
  replace G := o_nxs (q := 12) (st := [(.long (48 : Int64))]) G (X1.ldc2Long hx hown (mvT hZ (o_w hw 66 rfl)) (g := o_g G) rfl (hb hby d13_9)) rfl
  replace G := o_nxs (q := 15) (st := [(.long (2 : Int64)), (.long (48 : Int64))]) G (X1.ldc2Long hx hown (mvT hZ (o_w hw 67 rfl)) (g := o_g G) rfl (hb hby d13_12)) rfl
  replace G := o_aloadN (q := 16) G X1.here hx (hb hby d13_15) rfl rfl rfl
  obtain ⟨T3, _, Lc3, X3, hQ3, G⟩ := o_vb (q := 19) (W := 4) (argsL := []) (rest := [(.long (2 : Int64)), (.long (48 : Int64))]) (y := (⟨o_n1, "length", "()I"⟩ : MethodName)) G X1 hx hZ hown (by rw [hml]; rfl) ⟨(o_w hw 68 rfl), (o_w hw 69 rfl), (o_w hw 71 rfl), (o_w hw 70 rfl), (o_w hw 72 rfl), (o_w hw 7 rfl)⟩ (by decide) e1 P0 (rm15n3 l Z a0 hw [] a b kb nn vs cc cw h0 n0 Z0 P0 P1 P2 P3 P4 hcw hl) (lenOf pd_11 rfl) rfl (Nat.le_of_eq rfl) (hb hby d13_16) rfl (by decide) (by decide) (by decide) (by decide)
  obtain ⟨rfl, N3q, e3⟩ := hQ3
  have N3 := Fr.app N1 N3q
  replace G := o_re (st := [(.int 3), (.long (2 : Int64)), (.long (48 : Int64))]) G rfl
  replace G := o_i2l (q := 20) G X3.here hx (hb hby d13_19) (by decide : ((3 : Int32).toInt64) = (3 : Int64)) rfl
  replace G := o_lmul (q := 21) G X3.here hx (hb hby d13_20) (by decide : ((2 : Int64) * (3 : Int64)) = (6 : Int64)) rfl
  replace G := o_ladd (q := 22) G X3.here hx (hb hby d13_21) (by decide : ((48 : Int64) + (6 : Int64)) = (54 : Int64)) rfl
  replace G := o_lstoreN (q := 23) (l' := #[.val (.ref a), .val (.long (54 : Int64)), .second]) G X3.here hx (hb hby d13_22) rfl rfl
  replace G := o_lloadN (q := 24) G X3.here hx (hb hby d13_23) rfl rfl
  obtain ⟨fs, hr, hrun, hended, hW, hsame⟩ := X3.leave (v := some (.long (54 : Int64))) (fun h => by rw [Bd.returns] at h; cases h)
  refine ⟨_, _, G _ (retOut X3 hx Bd.returns rfl (Or.inr (Or.inl ⟨rfl, rfl, _, rfl⟩)) (hb hby d13_24) hr), hrun, hended, _, _, rfl, ?_, ⟨_, rfl⟩, hW, hsame.mono (by decide) (by decide)⟩
  show Q13n3 Z a b kb nn vs cc cw h0 n0 _ T3.heap _
  rw [e3]
  exact ⟨rfl, N3, rfl⟩
theorem ef_15n4 (m : MethodId) (x0 : Addr) : entryFrame m #[(.ref x0)] 1 = mkF m 0 #[.val (.ref x0)] [] := by first | (simp [entryFrame, mkF, argsToLocals, Value.category]; done) | rfl
def Q15n4 (Z : State) (a : Addr) (b : Addr) (kb : ClassId) (nn : Int32) (vs : List Value) (cc : Int32) (cw : Int32) (h0 : Heap) (n0 : Nat) (v : Option Value) (h : Heap) (L : List Loc) : Prop := v = some (.int 4) ∧ Fr n0 L ∧ h = h0
set_option maxRecDepth 65536 in
set_option maxHeartbeats 40000000 in
theorem rm15n4 (l : Launch) (Z : State) (a0 : Array Value) (hw : ∀ d ∈ tables_1, d.before a0 Z = true) (ws : List Jvm.Cond) (a : Addr) (b : Addr) (kb : ClassId) (nn : Int32) (vs : List Value) (cc : Int32) (cw : Int32) (h0 : Heap) (n0 : Nat) (Z0 : n0 ≤ h0.size) (P0 : Exa Z h0 a o_n1) (P1 : Sta Z h0 o_n1 "COMPACT_STRINGS" "Z" (.int cw)) (P2 : Fld Z h0 a o_n1 "value" "[B" (.ref b)) (P3 : Arv Z h0 b kb .byte nn vs (.int 0)) (P4 : Fld Z h0 a o_n1 "coder" "B" (.int cc)) (hcw : ¬ cw = (0 : Int32)) (hl : (cc = (0 : Int32) ∧ nn = (4 : Int32)) ∨ (cc = (1 : Int32) ∧ nn = (8 : Int32))) :
    MetFree l (⟨o_n1, "length", "()I"⟩ : MethodName) (head1 (Jvm.Cond.code (⟨o_n1, "length", "()I"⟩ : MethodName) jdk_42_method_54_code 1 (some .int) :: ws) ({ frames := 1, cells := 0, slots := 0, locals := 13 } : Room)) (fun argz U => argz = #[(.ref a)] ∧ Z.Warmed39 U.vm ∧ U.heap = h0) (fun _ _ _ _ _ => True) (fun _ U o U' => ∃ v L, o = .returned v ∧ Q15n4 Z a b kb nn vs cc cw h0 n0 v U'.heap L ∧ FrameEnd U o U' L ({ frames := 1, cells := 0, slots := 0, locals := 13 } : Room).cells ({ frames := 1, cells := 0, slots := 0, locals := 13 } : Room).slots) := by
  refine MetFree.of_bodySF (plainFor_of_name pn_java_lang_String) hisR ?_
  intro p e s m args below meth c s₁ Bd hml0 hP hK
  obtain ⟨rfl, hZ, hh⟩ := hP
  have hx := Bd.exec
  have hby := Bd.bytes
  have hml : c.maxLocals = 1 := hml0
  have hown : s.vm.findClass o_n1 = some m.cls := findClass_of_methodNamed Bd.named
  have hnm := (name_of_methodNamed Bd.named Bd.method).1
  have X0 : Stand p l e ({ frames := 1, cells := 0, slots := 0, locals := 13 } : Room) s m #[(.ref a)] below meth c s₁ [] 0 0 := Stand.of_body Bd
  have e0 : s₁.heap = h0 := by rw [← hh, Bd.state]; rfl
  have N0 := Fr.nil n0
  have G : Gets p e below (s₁.setTop (entryFrame m #[(.ref a)] 1)) (s₁.setTop (mkF m 0 #[.val (.ref a)] [])) := fun t k => castTop (ef_15n4 m a) k
  replace G := o_aloadN (q := 1) G X0.here hx (hb hby d15_0) rfl rfl rfl
  obtain ⟨T1, X1, e1, st1⟩ := getF X0 hx hZ hown (host := "") (Or.inl (o_w hw 25 rfl)) Via.refl e0 P2 (g := o_g G) rfl rfl (hb hby d15_1)
  replace G := o_nxs (q := 4) (st := [(.ref b)]) G st1 rfl
  obtain ⟨c2, Ar2, -, S2, N2', -, -⟩ := id P3
  replace G : Gets p e below _ (T1.setTop (mkF m 5 #[.val (.ref a)] [(.int nn)])) := fun t k => G t (X1.arraylength hx (by rw [e1]; exact Ar2.1) (State.isArrayOf_alike hZ.alike Ar2.2.1) (g := o_g G) rfl rfl (hb hby d15_4) t (by rw [len_of S2 N2']; exact k))
  replace G := o_aloadN (q := 6) G X1.here hx (hb hby d15_5) rfl rfl rfl
  obtain ⟨T3, _, Lc3, X3, hQ3, G⟩ := o_vb (q := 9) (W := 1) (argsL := []) (rest := [(.int nn)]) (y := (⟨o_n1, "coder", "()B"⟩ : MethodName)) G X1 hx hZ hown (by rw [hml]; rfl) ⟨(o_w hw 73 rfl), (o_w hw 74 rfl), (o_w hw 76 rfl), (o_w hw 75 rfl), (o_w hw 77 rfl), (o_w hw 7 rfl)⟩ (by decide) e1 P0 (rm16 l Z a0 hw [] a cc cw h0 n0 Z0 P1 P4 hcw (hl.imp And.left And.left)) (lenOf pd_10 rfl) rfl (Nat.le_of_eq rfl) (hb hby d15_6) rfl (by decide) (by decide) (by decide) (by decide)
  obtain ⟨rfl, N3q, e3⟩ := hQ3
  have N3 := Fr.app N0 N3q
  replace G := o_re (st := [(.int cc), (.int nn)]) G rfl
  replace G := o_ishr (q := 10) G X3.here hx (hb hby d15_9) rfl rfl
  obtain ⟨fs, hr, hrun, hended, hW, hsame⟩ := X3.leave (v := some (.int (nn >>> (cc &&& 31)))) (fun h => by rw [Bd.returns] at h; cases h)
  refine ⟨_, _, G _ (retOut X3 hx Bd.returns rfl (Or.inl ⟨rfl, Or.inl rfl, _, rfl⟩) (hb hby d15_10) hr), hrun, hended, _, _, rfl, ?_, ⟨_, rfl⟩, hW, hsame.mono (by decide) (by decide)⟩
  show Q15n4 Z a b kb nn vs cc cw h0 n0 _ T3.heap _
  rw [e3]
  exact ⟨(congrArg (fun z => some (Value.int z)) (o_ln4 hl)), N3, rfl⟩
theorem ef_13n4 (m : MethodId) (x0 : Addr) : entryFrame m #[(.ref x0)] 3 = mkF m 0 #[.val (.ref x0), .unset, .unset] [] := by first | (simp [entryFrame, mkF, argsToLocals, Value.category]; done) | rfl
def Q13n4 (Z : State) (a : Addr) (b : Addr) (kb : ClassId) (nn : Int32) (vs : List Value) (cc : Int32) (cw : Int32) (h0 : Heap) (n0 : Nat) (v : Option Value) (h : Heap) (L : List Loc) : Prop := v = some (.long (56 : Int64)) ∧ Fr n0 L ∧ h = h0
set_option maxRecDepth 65536 in
set_option maxHeartbeats 40000000 in
theorem rm13n4 (l : Launch) (Z : State) (a0 : Array Value) (hw : ∀ d ∈ tables_1, d.before a0 Z = true) (ws : List Jvm.Cond) (a : Addr) (b : Addr) (kb : ClassId) (nn : Int32) (vs : List Value) (cc : Int32) (cw : Int32) (h0 : Heap) (n0 : Nat) (Z0 : n0 ≤ h0.size) (P0 : Exa Z h0 a o_n1) (P1 : Sta Z h0 o_n1 "COMPACT_STRINGS" "Z" (.int cw)) (P2 : Fld Z h0 a o_n1 "value" "[B" (.ref b)) (P3 : Arv Z h0 b kb .byte nn vs (.int 0)) (P4 : Fld Z h0 a o_n1 "coder" "B" (.int cc)) (hcw : ¬ cw = (0 : Int32)) (hl : (cc = (0 : Int32) ∧ nn = (4 : Int32)) ∨ (cc = (1 : Int32) ∧ nn = (8 : Int32))) :
    MetFree l (⟨"com/example/crossbill/crossbill/spill/RowFormat", "bytesOf", "(Ljava/lang/String;)J"⟩ : MethodName) (head1 (Jvm.Cond.code (⟨"com/example/crossbill/crossbill/spill/RowFormat", "bytesOf", "(Ljava/lang/String;)J"⟩ : MethodName) prog_37_method_4_code 3 (some .long) :: ws) ({ frames := 2, cells := 0, slots := 0, locals := 29 } : Room)) (fun argz U => argz = #[(.ref a)] ∧ Z.Warmed39 U.vm ∧ U.heap = h0) (fun _ _ _ _ _ => True) (fun _ U o U' => ∃ v L, o = .returned v ∧ Q13n4 Z a b kb nn vs cc cw h0 n0 v U'.heap L ∧ FrameEnd U o U' L ({ frames := 2, cells := 0, slots := 0, locals := 29 } : Room).cells ({ frames := 2, cells := 0, slots := 0, locals := 29 } : Room).slots) := by
  refine MetFree.of_bodySF (plainFor_of_name pn_com_example_crossbill_crossbill_spill_RowFormat) hisR ?_
  intro p e s m args below meth c s₁ Bd hml0 hP hK
  obtain ⟨rfl, hZ, hh⟩ := hP
  have hx := Bd.exec
  have hby := Bd.bytes
  have hml : c.maxLocals = 3 := hml0
  have hown : s.vm.findClass "com/example/crossbill/crossbill/spill/RowFormat" = some m.cls := findClass_of_methodNamed Bd.named
  have hnm := (name_of_methodNamed Bd.named Bd.method).1
  have X0 : Stand p l e ({ frames := 2, cells := 0, slots := 0, locals := 29 } : Room) s m #[(.ref a)] below meth c s₁ [] 0 0 := Stand.of_body Bd
  have e0 : s₁.heap = h0 := by rw [← hh, Bd.state]; rfl
  have N0 := Fr.nil n0
  have G : Gets p e below (s₁.setTop (entryFrame m #[(.ref a)] 3)) (s₁.setTop (mkF m 0 #[.val (.ref a), .unset, .unset] [])) := fun t k => castTop (ef_13n4 m a) k
  replace G := o_lconst (q := 1) G X0.here hx (hb hby d13_0) (v := (0 : Int64)) (by decide) rfl
  replace G := o_lstoreN (q := 2) (l' := #[.val (.ref a), .val (.long (0 : Int64)), .second]) G X0.here hx (hb hby d13_1) rfl rfl
  replace G := o_aloadN (q := 3) G X0.here hx (hb hby d13_2) rfl rfl rfl
  obtain ⟨T1, _, Lc1, X1, hQ1, G⟩ := o_vb (q := 6) (W := 0) (argsL := []) (rest := []) (y := (⟨o_n1, "isEmpty", "()Z"⟩ : MethodName)) G X0 hx hZ hown (by rw [hml]; rfl) ⟨(o_w hw 61 rfl), (o_w hw 62 rfl), (o_w hw 64 rfl), (o_w hw 63 rfl), (o_w hw 65 rfl), (o_w hw 7 rfl)⟩ (by decide) e0 P0 (rm14 l Z a0 hw [] a b kb nn vs h0 n0 Z0 P2 P3 (o_nz4 hl)) (lenOf pd_9 rfl) rfl (Nat.le_of_eq rfl) (hb hby d13_3) rfl (by decide) (by decide) (by decide) (by decide)
  obtain ⟨rfl, N1q, e1⟩ := hQ1
  have N1 := Fr.app N0 N1q
  replace G := o_re (st := [(.int 0)]) G rfl
  replace G := o_ifNo (q := 9) G X1.here hx (hb hby d13_6) (by decide) rfl
  replace G := o_nxs (q := 12) (st := [(.long (48 : Int64))]) G (X1.ldc2Long hx hown (mvT hZ (o_w hw 66 rfl)) (g := o_g G) rfl (hb hby d13_9)) rfl
  replace G := o_nxs (q := 15) (st := [(.long (2 : Int64)), (.long (48 : Int64))]) G (X1.ldc2Long hx hown (mvT hZ (o_w hw 67 rfl)) (g := o_g G) rfl (hb hby d13_12)) rfl
  replace G := o_aloadN (q := 16) G X1.here hx (hb hby d13_15) rfl rfl rfl
  obtain ⟨T3, _, Lc3, X3, hQ3, G⟩ := o_vb (q := 19) (W := 4) (argsL := []) (rest := [(.long (2 : Int64)), (.long (48 : Int64))]) (y := (⟨o_n1, "length", "()I"⟩ : MethodName)) G X1 hx hZ hown (by rw [hml]; rfl) ⟨(o_w hw 68 rfl), (o_w hw 69 rfl), (o_w hw 71 rfl), (o_w hw 70 rfl), (o_w hw 72 rfl), (o_w hw 7 rfl)⟩ (by decide) e1 P0 (rm15n4 l Z a0 hw [] a b kb nn vs cc cw h0 n0 Z0 P0 P1 P2 P3 P4 hcw hl) (lenOf pd_11 rfl) rfl (Nat.le_of_eq rfl) (hb hby d13_16) rfl (by decide) (by decide) (by decide) (by decide)
  obtain ⟨rfl, N3q, e3⟩ := hQ3
  have N3 := Fr.app N1 N3q
  replace G := o_re (st := [(.int 4), (.long (2 : Int64)), (.long (48 : Int64))]) G rfl
  replace G := o_i2l (q := 20) G X3.here hx (hb hby d13_19) (by decide : ((4 : Int32).toInt64) = (4 : Int64)) rfl
  replace G := o_lmul (q := 21) G X3.here hx (hb hby d13_20) (by decide : ((2 : Int64) * (4 : Int64)) = (8 : Int64)) rfl
  replace G := o_ladd (q := 22) G X3.here hx (hb hby d13_21) (by decide : ((48 : Int64) + (8 : Int64)) = (56 : Int64)) rfl
  replace G := o_lstoreN (q := 23) (l' := #[.val (.ref a), .val (.long (56 : Int64)), .second]) G X3.here hx (hb hby d13_22) rfl rfl
  replace G := o_lloadN (q := 24) G X3.here hx (hb hby d13_23) rfl rfl
  obtain ⟨fs, hr, hrun, hended, hW, hsame⟩ := X3.leave (v := some (.long (56 : Int64))) (fun h => by rw [Bd.returns] at h; cases h)
  refine ⟨_, _, G _ (retOut X3 hx Bd.returns rfl (Or.inr (Or.inl ⟨rfl, rfl, _, rfl⟩)) (hb hby d13_24) hr), hrun, hended, _, _, rfl, ?_, ⟨_, rfl⟩, hW, hsame.mono (by decide) (by decide)⟩
  show Q13n4 Z a b kb nn vs cc cw h0 n0 _ T3.heap _
  rw [e3]
  exact ⟨rfl, N3, rfl⟩
theorem pd_12 : parseMethodDescriptor "(IJ)Ljava/lang/String;" = some ⟨[.int, .long], some (.object o_n1)⟩ := by decide +kernel
theorem pd_13 : parseMethodDescriptor "(Ljava/lang/String;)J" = some ⟨[(.object o_n1)], some .long⟩ := by decide +kernel
theorem ef_0 (m : MethodId) (x0 : Int32) (x1 : Int64) (x2 : Int64) : entryFrame m #[(.int x0), (.long x1), (.long x2)] maxLocals = mkF m 0 #[.val (.int x0), .val (.long x1), .second, .val (.long x2), .second, .unset, .unset, .unset, .unset, .unset, .unset, .unset, .unset, .unset, .unset, .unset] [] := by first | (simp [entryFrame, mkF, argsToLocals, Value.category, maxLocals]; done) | rfl
def Q0 (Z : State) (i0 : Int32) (l1 : Int64) (l2 : Int64) (cw : Int32) (h0 : Heap) (n0 : Nat) (v : Option Value) (h : Heap) (L : List Loc) : Prop := v = some (.int 1) ∧ Fr n0 L
set_option maxRecDepth 65536 in
set_option maxHeartbeats 40000000 in
theorem rm0 (l : Launch) (Z : State) (a0 : Array Value) (hw : ∀ d ∈ tables_1, d.before a0 Z = true) (ws : List Jvm.Cond) (i0 : Int32) (l1 : Int64) (l2 : Int64) (cw : Int32) (h0 : Heap) (n0 : Nat) (Z0 : n0 ≤ h0.size) (P0 : Old Z n0 h0) (P1 : Sta Z Z.heap o_n0 "$assertionsDisabled" "Z" (.int 1)) (P2 : Sta Z Z.heap o_n0 "HI_BYTE_SHIFT" "I" (.int 0)) (P3 : Sta Z Z.heap o_n0 "LO_BYTE_SHIFT" "I" (.int 8)) (P4 : Sta Z Z.heap o_n1 "COMPACT_STRINGS" "Z" (.int cw)) (hcw : ¬ cw = (0 : Int32)) (hch : Jvm.Lit.constHeld Z o_n1 7) (hcb : Jvm.Lit.compactW.before a0 Z = true) :
    MetFree l x (head1 (Jvm.Cond.code x code maxLocals ret :: ws) room_1) (fun argz U => argz = #[(.int i0), (.long l1), (.long l2)] ∧ Z.Warmed39 U.vm ∧ U.heap = h0 ∧ IB Z U.vm []) (fun _ _ _ _ _ => True) (fun _ U o U' => ∃ v L, o = .returned v ∧ Q0 Z i0 l1 l2 cw h0 n0 v U'.heap L ∧ ReturnedEndW U o U' L room_1.cells room_1.slots) := by
  refine MetFree.of_bodySF (plainFor_of_name pn_com_example_crossbill_crossbill_spill_RowFormatBytesOfPinLaw) hisR ?_
  intro p e s m args below meth c s₁ Bd hml0 hP hK
  obtain ⟨rfl, hZ, hh, hV⟩ := hP
  have hx := Bd.exec
  have hby := Bd.bytes
  have hml : c.maxLocals = 16 := hml0
  have hown : s.vm.findClass "com/example/crossbill/crossbill/spill/RowFormatBytesOfPinLaw" = some m.cls := findClass_of_methodNamed Bd.named
  have hnm := (name_of_methodNamed Bd.named Bd.method).1
  have X0 : Stand p l e room_1 s m #[(.int i0), (.long l1), (.long l2)] below meth c s₁ [] 0 0 := Stand.of_body Bd
  have e0 : s₁.heap = h0 := by rw [← hh, Bd.state]; rfl
  have N0 := Fr.nil n0
  have G : Gets p e below (s₁.setTop (entryFrame m #[(.int i0), (.long l1), (.long l2)] maxLocals)) (s₁.setTop (mkF m 0 #[.val (.int i0), .val (.long l1), .second, .val (.long l2), .second, .unset, .unset, .unset, .unset, .unset, .unset, .unset, .unset, .unset, .unset, .unset] [])) := fun t k => castTop (ef_0 m i0 l1 l2) k
  replace G := o_iloadN (q := 1) G X0.here hx (hb hby at_0) rfl rfl
  replace G := o_iconst (q := 2) G X0.here hx (hb hby at_1) (v := (3 : Int32)) (by decide) rfl
  obtain ⟨kk, hn_kk⟩ : ∃ z : Int32, (i0 &&& (3 : Int32)) = z := ⟨_, rfl⟩
  replace G := o_iand (q := 3) G X0.here hx (hb hby at_2) hn_kk rfl
  rcases o_cases4 (o_m3 hn_kk) with rfl | rfl | rfl | rfl
  replace G := o_istore (q := 5) (l' := #[.val (.int i0), .val (.long l1), .second, .val (.long l2), .second, .val (.int 0), .unset, .unset, .unset, .unset, .unset, .unset, .unset, .unset, .unset, .unset]) G X0.here hx (hb hby at_3) rfl rfl
  replace G := o_iload (q := 7) G X0.here hx (hb hby at_5) rfl rfl
  replace G := o_lloadN (q := 8) G X0.here hx (hb hby at_7) rfl rfl
  obtain ⟨_, _, ⟨T1, L1, kk1, nn1⟩, -, X1, S1', g1', ⟨Lc1, hQ1, l1, y1, z1⟩, st1⟩ := callSS X0 hx (y := (⟨"com/example/crossbill/crossbill/spill/RowFormatBytesOfPinLaw", "text", "(IJ)Ljava/lang/String;"⟩ : MethodName)) hown (mvT hZ (o_w hw 0 rfl)) (mvT hZ (o_w hw 1 rfl)) (mvT hZ (o_w hw 2 rfl)) (mvT hZ (o_w hw 3 rfl)) (by decide) (o_backW (V := fun vm => IB Z vm []) (W := 0) (rm1z l Z a0 hw [] l1 h0 n0 Z0 P0 (by assumption) (by assumption)) hZ (o_w hw 3 rfl) (o_w hw 2 rfl) (by decide) (by decide)) (g := o_g G) rfl (by rw [hml]; rfl) (argsL := [(.int 0), (.long l1)]) (rest := []) (lenOf pd_12 rfl) rfl (by show 2 * 0 + _ ≤ _; exact Nat.le_of_eq rfl) (hb hby at_8) (fun _ hvm => ⟨rfl, e0, (by decide : 0 + 4 ≤ _), (by decide : 0 + 8 ≤ _), o_ibw hV hvm⟩)
  dsimp only [Pt.U, Pt.locs, Pt.cells, Pt.slots] at X1 l1 y1 z1 st1 hQ1 S1' g1'
  subst l1 y1 z1
  have S1 := S1'
  have hZ1 : Z.Warmed39 (s.setVm T1.vm).vm := State.Warmed39.trans hZ S1.1
  have hown1 := (S1.1.alike.findClass _ _).trans hown
  obtain ⟨t_1, la_1, b_1, kb_1, rfl, N1q, K1q, B1_0, B1_1, B1_2, B1_3, B1_4, B1_5, B1_6, hL1⟩ := hQ1
  have ge_t_1 : n0 ≤ t_1 := Nat.le_trans Z0 B1_0
  have Z1 : n0 ≤ T1.heap.size := Nat.le_trans Z0 K1q.1
  have N1 := Fr.app N0 N1q
  replace G := o_nxv (q := 11) (st := [(.ref t_1)]) G st1 rfl
  replace G := o_astore (q := 13) (l' := #[.val (.int i0), .val (.long l1), .second, .val (.long l2), .second, .val (.int 0), .val (.ref t_1), .unset, .unset, .unset, .unset, .unset, .unset, .unset, .unset, .unset]) G X1.here hx (hb hby at_11) rfl rfl rfl
  replace G := o_iload (q := 15) G X1.here hx (hb hby at_13) rfl rfl
  replace G := o_iconst (q := 16) G X1.here hx (hb hby at_15) (v := (1 : Int32)) (by decide) rfl
  replace G := o_iadd (q := 17) G X1.here hx (hb hby at_16) (by decide : ((0 : Int32) + (1 : Int32)) = (1 : Int32)) rfl
  replace G := o_lloadN (q := 18) G X1.here hx (hb hby at_17) rfl rfl
  have F3 := (P0.keep K1q all0)
  obtain ⟨_, _, ⟨T2, L2, kk2, nn2⟩, -, X2, ⟨Lc2, hQ2, l2, y2, z2⟩, st2⟩ := Jvm.LawKit.callS X1 hx (y := (⟨"com/example/crossbill/crossbill/spill/RowFormatBytesOfPinLaw", "text", "(IJ)Ljava/lang/String;"⟩ : MethodName)) hown1 (mvT hZ1 (o_w hw 0 rfl)) (mvT hZ1 (o_w hw 1 rfl)) (mvT hZ1 (o_w hw 2 rfl)) (mvT hZ1 (o_w hw 3 rfl)) (by decide) (backOf (W := 0) (rm1n1 l Z a0 hw [] l2 cw T1.heap n0 Z1 F3 P1 P2 P3 P4 hcw) hZ1 (o_w hw 3 rfl) (o_w hw 2 rfl) (by decide) (by decide)) (g := o_g G) rfl (by rw [hml]; rfl) (argsL := [(.int 1), (.long l2)]) (rest := []) (lenOf pd_12 rfl) rfl (by show 2 * 0 + _ ≤ _; exact Nat.le_of_eq rfl) (hb hby at_18) (fun _ _ => ⟨rfl, rfl, (by decide : 4 + 4 ≤ _), (by decide : 8 + 8 ≤ _)⟩)
  dsimp only [Pt.U, Pt.locs, Pt.cells, Pt.slots] at X2 l2 y2 z2 st2 hQ2
  subst l2 y2 z2
  obtain ⟨t_2, b_2, kb_2, cc_2, nn_2, vs_2, rfl, N2q, K2q, B2_0, B2_1, B2_2, B2_3, B2_4, B2_5⟩ := hQ2
  have ne4 : b_1 ≠ t_2 := Nat.ne_of_lt (Nat.lt_of_lt_of_le B1_6.lt B2_0)
  have ne5 : la_1 ≠ t_2 := Nat.ne_of_lt (Nat.lt_of_lt_of_le B1_5.lt B2_0)
  have ne6 : t_1 ≠ t_2 := Nat.ne_of_lt (Nat.lt_of_lt_of_le B1_3.lt B2_0)
  have ge_t_2 : n0 ≤ t_2 := Nat.le_trans Z1 B2_0
  have hk7 := Nat.le_trans (Nat.le_refl _) K2q.1
  have Z2 : n0 ≤ T2.heap.size := Nat.le_trans Z1 K2q.1
  have N2 := Fr.app N1 N2q
  replace G := o_nxs (q := 21) (st := [(.ref t_2)]) G st2 rfl
  replace G := o_astore (q := 23) (l' := #[.val (.int i0), .val (.long l1), .second, .val (.long l2), .second, .val (.int 0), .val (.ref t_1), .val (.ref t_2), .unset, .unset, .unset, .unset, .unset, .unset, .unset, .unset]) G X2.here hx (hb hby at_21) rfl rfl rfl
  replace G := o_iload (q := 25) G X2.here hx (hb hby at_23) rfl rfl
  replace G := o_lloadN (q := 26) G X2.here hx (hb hby at_25) rfl rfl
  have F9 := (B1_4.keep K2q nin0)
  have F10 := (B1_5.keep K2q nin0)
  have F11 := (B1_6.keep K2q nin0)
  obtain ⟨_, _, ⟨T8, L8, kk8, nn8⟩, -, X8, ⟨Lc8, hQ8, l8, y8, z8⟩, st8⟩ := Jvm.LawKit.callS X2 hx (y := (⟨"com/example/crossbill/crossbill/spill/RowFormatBytesOfPinLaw", "text", "(IJ)Ljava/lang/String;"⟩ : MethodName)) hown1 (mvT hZ1 (o_w hw 0 rfl)) (mvT hZ1 (o_w hw 1 rfl)) (mvT hZ1 (o_w hw 2 rfl)) (mvT hZ1 (o_w hw 3 rfl)) (by decide) (o_backN (V := fun vm => Lit (Z.setVm vm) o_n1 7 la_1) (W := 0) (rm1y l Z a0 hw [] l2 la_1 b_1 kb_1 T2.heap n0 Z2 F9 F10 F11) hZ1 (o_w hw 3 rfl) (o_w hw 2 rfl) (by decide) (by decide)) (g := o_g G) rfl (by rw [hml]; rfl) (argsL := [(.int 0), (.long l2)]) (rest := []) (lenOf pd_12 rfl) rfl (by show 2 * 0 + _ ≤ _; exact Nat.le_of_eq rfl) (hb hby at_26) (fun _ hvm => ⟨rfl, rfl, (by decide : 8 + 2 ≤ _), (by decide : 16 + 4 ≤ _), Lit.stays (s := s) (vm0 := T1.vm) hL1 hvm.wide⟩)
  dsimp only [Pt.U, Pt.locs, Pt.cells, Pt.slots] at X8 l8 y8 z8 st8 hQ8
  subst l8 y8 z8
  obtain ⟨t_8, rfl, N8q, K8q, B8_0, B8_1, B8_2, B8_3⟩ := hQ8
  have ne12 : b_2 ≠ t_8 := Nat.ne_of_lt (Nat.lt_of_lt_of_le B2_4.lt B8_0)
  have ne13 : t_2 ≠ t_8 := Nat.ne_of_lt (Nat.lt_of_lt_of_le B2_3.lt B8_0)
  have ne14 : b_1 ≠ t_8 := Nat.ne_of_lt (Nat.lt_of_lt_of_le F11.lt B8_0)
  have ne15 : la_1 ≠ t_8 := Nat.ne_of_lt (Nat.lt_of_lt_of_le F10.lt B8_0)
  have F16 := (B1_3.keep K2q nin0)
  have ne17 : t_1 ≠ t_8 := Nat.ne_of_lt (Nat.lt_of_lt_of_le F16.lt B8_0)
  have ge_t_8 : n0 ≤ t_8 := Nat.le_trans Z2 B8_0
  have hk18 := Nat.le_trans hk7 K8q.1
  have Z8 : n0 ≤ T8.heap.size := Nat.le_trans Z2 K8q.1
  have N8 := Fr.app N2 N8q
  replace G := o_nxs (q := 29) (st := [(.ref t_8)]) G st8 rfl
  replace G := o_astore (q := 31) (l' := #[.val (.int i0), .val (.long l1), .second, .val (.long l2), .second, .val (.int 0), .val (.ref t_1), .val (.ref t_2), .val (.ref t_8), .unset, .unset, .unset, .unset, .unset, .unset, .unset]) G X8.here hx (hb hby at_29) rfl rfl rfl
  replace G := o_aload (q := 33) G X8.here hx (hb hby at_31) rfl rfl rfl
  have F20 := ((B1_1.keep K2q).keep K8q)
  have F21 := ((B1_2.keep K2q nin0).keep K8q nin0)
  have F22 := (F11.keep K8q nin0)
  obtain ⟨_, _, ⟨T19, L19, kk19, nn19⟩, -, X19, ⟨Lc19, hQ19, l19, y19, z19⟩, st19⟩ := Jvm.LawKit.callS X8 hx (y := (⟨"com/example/crossbill/crossbill/spill/RowFormat", "bytesOf", "(Ljava/lang/String;)J"⟩ : MethodName)) hown1 (mvT hZ1 (o_w hw 57 rfl)) (mvT hZ1 (o_w hw 58 rfl)) (mvT hZ1 (o_w hw 59 rfl)) (mvT hZ1 (o_w hw 60 rfl)) (by decide) (backOf (W := 0) (rm13z l Z a0 hw [] t_1 b_1 kb_1 T8.heap n0 Z8 F20 F21 F22) hZ1 (o_w hw 60 rfl) (o_w hw 59 rfl) (by decide) (by decide)) (g := o_g G) rfl (by rw [hml]; rfl) (argsL := [(.ref t_1)]) (rest := []) (lenOf pd_13 rfl) rfl (by show 2 * 0 + _ ≤ _; exact Nat.le_of_eq rfl) (hb hby at_33) (fun _ _ => ⟨rfl, rfl, (by decide : 10 + 0 ≤ _), (by decide : 20 + 0 ≤ _)⟩)
  dsimp only [Pt.U, Pt.locs, Pt.cells, Pt.slots] at X19 l19 y19 z19 st19 hQ19
  subst l19 y19 z19
  obtain ⟨rfl, N19q, e19⟩ := hQ19
  have N19 := Fr.app N8 N19q
  replace G := o_nxs (q := 36) (st := [(.long (0 : Int64))]) G st19 rfl
  replace G := o_lstore (q := 38) (l' := #[.val (.int i0), .val (.long l1), .second, .val (.long l2), .second, .val (.int 0), .val (.ref t_1), .val (.ref t_2), .val (.ref t_8), .val (.long (0 : Int64)), .second, .unset, .unset, .unset, .unset, .unset]) G X19.here hx (hb hby at_36) rfl rfl
  replace G := o_aload (q := 40) G X19.here hx (hb hby at_38) rfl rfl rfl
  have F24 := (B2_1.keep K8q)
  have F25 := ((F3.keep K2q all0).keep K8q all0)
  have F26 : Sta Z T8.heap o_n1 "COMPACT_STRINGS" "Z" (.int cw) := P4.ext F25.2
  have F27 := (B2_2.keep K8q nin0)
  have F28 := (B2_4.keep K8q nin0)
  have F29 := (B2_3.keep K8q nin0)
  obtain ⟨_, _, ⟨T23, L23, kk23, nn23⟩, -, X23, ⟨Lc23, hQ23, l23, y23, z23⟩, st23⟩ := Jvm.LawKit.callS X19 hx (y := (⟨"com/example/crossbill/crossbill/spill/RowFormat", "bytesOf", "(Ljava/lang/String;)J"⟩ : MethodName)) hown1 (mvT hZ1 (o_w hw 57 rfl)) (mvT hZ1 (o_w hw 58 rfl)) (mvT hZ1 (o_w hw 59 rfl)) (mvT hZ1 (o_w hw 60 rfl)) (by decide) (backOf (W := 0) (rm13n1 l Z a0 hw [] t_2 b_2 kb_2 nn_2 vs_2 cc_2 cw T8.heap n0 Z8 F24 F26 F27 F28 F29 hcw B2_5) hZ1 (o_w hw 60 rfl) (o_w hw 59 rfl) (by decide) (by decide)) (g := o_g G) rfl (by rw [hml]; rfl) (argsL := [(.ref t_2)]) (rest := []) (lenOf pd_13 rfl) rfl (by show 2 * 0 + _ ≤ _; exact Nat.le_of_eq rfl) (hb hby at_40) (fun _ _ => ⟨rfl, e19, (by decide : 10 + 0 ≤ _), (by decide : 20 + 0 ≤ _)⟩)
  dsimp only [Pt.U, Pt.locs, Pt.cells, Pt.slots] at X23 l23 y23 z23 st23 hQ23
  subst l23 y23 z23
  obtain ⟨rfl, N23q, e23⟩ := hQ23
  have N23 := Fr.app N19 N23q
  replace G := o_nxs (q := 43) (st := [(.long (50 : Int64))]) G st23 rfl
  replace G := o_lstore (q := 45) (l' := #[.val (.int i0), .val (.long l1), .second, .val (.long l2), .second, .val (.int 0), .val (.ref t_1), .val (.ref t_2), .val (.ref t_8), .val (.long (0 : Int64)), .second, .val (.long (50 : Int64)), .second, .unset, .unset, .unset]) G X23.here hx (hb hby at_43) rfl rfl
  replace G := o_aload (q := 47) G X23.here hx (hb hby at_45) rfl rfl rfl
  obtain ⟨_, _, ⟨T30, L30, kk30, nn30⟩, -, X30, ⟨Lc30, hQ30, l30, y30, z30⟩, st30⟩ := Jvm.LawKit.callS X23 hx (y := (⟨"com/example/crossbill/crossbill/spill/RowFormat", "bytesOf", "(Ljava/lang/String;)J"⟩ : MethodName)) hown1 (mvT hZ1 (o_w hw 57 rfl)) (mvT hZ1 (o_w hw 58 rfl)) (mvT hZ1 (o_w hw 59 rfl)) (mvT hZ1 (o_w hw 60 rfl)) (by decide) (backOf (W := 0) (rm13z l Z a0 hw [] t_8 b_1 kb_1 T8.heap n0 Z8 B8_1 B8_2 F22) hZ1 (o_w hw 60 rfl) (o_w hw 59 rfl) (by decide) (by decide)) (g := o_g G) rfl (by rw [hml]; rfl) (argsL := [(.ref t_8)]) (rest := []) (lenOf pd_13 rfl) rfl (by show 2 * 0 + _ ≤ _; exact Nat.le_of_eq rfl) (hb hby at_47) (fun _ _ => ⟨rfl, e23, (by decide : 10 + 0 ≤ _), (by decide : 20 + 0 ≤ _)⟩)
  dsimp only [Pt.U, Pt.locs, Pt.cells, Pt.slots] at X30 l30 y30 z30 st30 hQ30
  subst l30 y30 z30
  obtain ⟨rfl, N30q, e30⟩ := hQ30
  have N30 := Fr.app N23 N30q
  replace G := o_nxs (q := 50) (st := [(.long (0 : Int64))]) G st30 rfl
  replace G := o_lstore (q := 52) (l' := #[.val (.int i0), .val (.long l1), .second, .val (.long l2), .second, .val (.int 0), .val (.ref t_1), .val (.ref t_2), .val (.ref t_8), .val (.long (0 : Int64)), .second, .val (.long (50 : Int64)), .second, .val (.long (0 : Int64)), .second, .unset]) G X30.here hx (hb hby at_50) rfl rfl
  replace G := o_lload (q := 54) G X30.here hx (hb hby at_52) rfl rfl
  replace G := o_lconst (q := 55) G X30.here hx (hb hby at_54) (v := (0 : Int64)) (by decide) rfl
  replace G := o_lcmp (q := 56) G X30.here hx (hb hby at_55) rfl
  have hc56_31 : ¬ ((0 : Int64) < (0 : Int64)) := by decide
  replace G := o_ifNo (q := 59) G X30.here hx (hb hby at_56) ((if0 _ _).trans (flt (fun z => hc56_31 ((lw_lt _ _).mp z))).1) rfl
  replace G := o_lload (q := 61) G X30.here hx (hb hby at_59) rfl rfl
  replace G := o_lload (q := 63) G X30.here hx (hb hby at_61) rfl rfl
  replace G := o_lcmp (q := 64) G X30.here hx (hb hby at_63) rfl
  have hc64_32 : (0 : Int64) = (0 : Int64) := by decide
  replace G := o_ifNo (q := 67) G X30.here hx (hb hby at_64) ((if0 _ _).trans (teq ((lw_eq _ _).mpr hc64_32)).2) rfl
  replace G := o_iconst (q := 68) G X30.here hx (hb hby at_67) (v := (1 : Int32)) (by decide) rfl
  replace G := o_goto (q := 72) G X30.here hx (hb hby at_68) (by decide) (by decide)
  replace G := o_istore (q := 74) (l' := #[.val (.int i0), .val (.long l1), .second, .val (.long l2), .second, .val (.int 0), .val (.ref t_1), .val (.ref t_2), .val (.ref t_8), .val (.long (0 : Int64)), .second, .val (.long (50 : Int64)), .second, .val (.long (0 : Int64)), .second, .val (.int 1)]) G X30.here hx (hb hby at_72) rfl rfl
  replace G := o_iload (q := 76) G X30.here hx (hb hby at_74) rfl rfl
  replace G := o_ifNo (q := 79) G X30.here hx (hb hby at_76) (by decide) rfl
  replace G := o_iload (q := 81) G X30.here hx (hb hby at_79) rfl rfl
  replace G := o_ifNo (q := 84) G X30.here hx (hb hby at_81) (by decide) rfl
  replace G := o_lload (q := 86) G X30.here hx (hb hby at_84) rfl rfl
  replace G := o_lconst (q := 87) G X30.here hx (hb hby at_86) (v := (0 : Int64)) (by decide) rfl
  replace G := o_lcmp (q := 88) G X30.here hx (hb hby at_87) rfl
  have hc88_35 : (0 : Int64) = (0 : Int64) := by decide
  replace G := o_ifNo (q := 91) G X30.here hx (hb hby at_88) ((if0 _ _).trans (teq ((lw_eq _ _).mpr hc88_35)).2) rfl
  replace G := o_lload (q := 93) G X30.here hx (hb hby at_91) rfl rfl
  replace G := o_nxs (q := 96) (st := [(.long (50 : Int64)), (.long (50 : Int64))]) G (X30.ldc2Long hx hown1 (mvT hZ1 (o_w hw 78 rfl)) (g := o_g G) rfl (hb hby at_93)) rfl
  replace G := o_lcmp (q := 97) G X30.here hx (hb hby at_96) rfl
  have hc97_36 : (50 : Int64) = (50 : Int64) := by decide
  replace G := o_ifNo (q := 100) G X30.here hx (hb hby at_97) ((if0 _ _).trans (teq ((lw_eq _ _).mpr hc97_36)).2) rfl
  replace G := o_iconst (q := 101) G X30.here hx (hb hby at_100) (v := (1 : Int32)) (by decide) rfl
  replace G := o_goto (q := 105) G X30.here hx (hb hby at_101) (by decide) (by decide)
  replace G := o_istore (q := 107) (l' := #[.val (.int i0), .val (.long l1), .second, .val (.long l2), .second, .val (.int 0), .val (.ref t_1), .val (.ref t_2), .val (.ref t_8), .val (.long (0 : Int64)), .second, .val (.long (50 : Int64)), .second, .val (.long (0 : Int64)), .second, .val (.int 1)]) G X30.here hx (hb hby at_105) rfl rfl
  replace G := o_goto (q := 134) G X30.here hx (hb hby at_107) (by decide) (by decide)
  replace G := o_iload (q := 136) G X30.here hx (hb hby at_134) rfl rfl
  obtain ⟨fs, hr, hrun, hended, -, hW, hBk, hsame⟩ := X30.leaveW S1 (by rw [e30]; exact hk18) (v := some (.int 1)) (fun h => by rw [Bd.returns] at h; cases h)
  refine ⟨_, _, G _ (retOut X30 hx Bd.returns rfl (Or.inl ⟨rfl, Or.inr (Or.inl rfl), _, rfl⟩) (hb hby at_136) hr), hrun, hended, _, _, rfl, ?_, ⟨_, rfl⟩, hW, hBk, hsame.mono (by decide) (by decide)⟩
  show Q0 Z i0 l1 l2 cw h0 n0 _ T30.heap _
  rw [e30]
  exact ⟨rfl, N30⟩
  replace G := o_istore (q := 5) (l' := #[.val (.int i0), .val (.long l1), .second, .val (.long l2), .second, .val (.int 1), .unset, .unset, .unset, .unset, .unset, .unset, .unset, .unset, .unset, .unset]) G X0.here hx (hb hby at_3) rfl rfl
  replace G := o_iload (q := 7) G X0.here hx (hb hby at_5) rfl rfl
  replace G := o_lloadN (q := 8) G X0.here hx (hb hby at_7) rfl rfl
  obtain ⟨_, _, ⟨T37, L37, kk37, nn37⟩, -, X37, ⟨Lc37, hQ37, l37, y37, z37⟩, st37⟩ := Jvm.LawKit.callS X0 hx (y := (⟨"com/example/crossbill/crossbill/spill/RowFormatBytesOfPinLaw", "text", "(IJ)Ljava/lang/String;"⟩ : MethodName)) hown (mvT hZ (o_w hw 0 rfl)) (mvT hZ (o_w hw 1 rfl)) (mvT hZ (o_w hw 2 rfl)) (mvT hZ (o_w hw 3 rfl)) (by decide) (backOf (W := 0) (rm1n1 l Z a0 hw [] l1 cw h0 n0 Z0 P0 P1 P2 P3 P4 hcw) hZ (o_w hw 3 rfl) (o_w hw 2 rfl) (by decide) (by decide)) (g := o_g G) rfl (by rw [hml]; rfl) (argsL := [(.int 1), (.long l1)]) (rest := []) (lenOf pd_12 rfl) rfl (by show 2 * 0 + _ ≤ _; exact Nat.le_of_eq rfl) (hb hby at_8) (fun _ _ => ⟨rfl, e0, (by decide : 0 + 4 ≤ _), (by decide : 0 + 8 ≤ _)⟩)
  dsimp only [Pt.U, Pt.locs, Pt.cells, Pt.slots] at X37 l37 y37 z37 st37 hQ37
  subst l37 y37 z37
  obtain ⟨t_37, b_37, kb_37, cc_37, nn_37, vs_37, rfl, N37q, K37q, B37_0, B37_1, B37_2, B37_3, B37_4, B37_5⟩ := hQ37
  have ge_t_37 : n0 ≤ t_37 := Nat.le_trans Z0 B37_0
  have Z37 : n0 ≤ T37.heap.size := Nat.le_trans Z0 K37q.1
  have N37 := Fr.app N0 N37q
  replace G := o_nxs (q := 11) (st := [(.ref t_37)]) G st37 rfl
  replace G := o_astore (q := 13) (l' := #[.val (.int i0), .val (.long l1), .second, .val (.long l2), .second, .val (.int 1), .val (.ref t_37), .unset, .unset, .unset, .unset, .unset, .unset, .unset, .unset, .unset]) G X37.here hx (hb hby at_11) rfl rfl rfl
  replace G := o_iload (q := 15) G X37.here hx (hb hby at_13) rfl rfl
  replace G := o_iconst (q := 16) G X37.here hx (hb hby at_15) (v := (1 : Int32)) (by decide) rfl
  replace G := o_iadd (q := 17) G X37.here hx (hb hby at_16) (by decide : ((1 : Int32) + (1 : Int32)) = (2 : Int32)) rfl
  replace G := o_lloadN (q := 18) G X37.here hx (hb hby at_17) rfl rfl
  have F39 := (P0.keep K37q all0)
  obtain ⟨_, _, ⟨T38, L38, kk38, nn38⟩, -, X38, ⟨Lc38, hQ38, l38, y38, z38⟩, st38⟩ := Jvm.LawKit.callS X37 hx (y := (⟨"com/example/crossbill/crossbill/spill/RowFormatBytesOfPinLaw", "text", "(IJ)Ljava/lang/String;"⟩ : MethodName)) hown (mvT hZ (o_w hw 0 rfl)) (mvT hZ (o_w hw 1 rfl)) (mvT hZ (o_w hw 2 rfl)) (mvT hZ (o_w hw 3 rfl)) (by decide) (backOf (W := 0) (rm1n2 l Z a0 hw [] l2 cw T37.heap n0 Z37 F39 P1 P2 P3 P4 hcw) hZ (o_w hw 3 rfl) (o_w hw 2 rfl) (by decide) (by decide)) (g := o_g G) rfl (by rw [hml]; rfl) (argsL := [(.int 2), (.long l2)]) (rest := []) (lenOf pd_12 rfl) rfl (by show 2 * 0 + _ ≤ _; exact Nat.le_of_eq rfl) (hb hby at_18) (fun _ _ => ⟨rfl, rfl, (by decide : 4 + 4 ≤ _), (by decide : 8 + 12 ≤ _)⟩)
  dsimp only [Pt.U, Pt.locs, Pt.cells, Pt.slots] at X38 l38 y38 z38 st38 hQ38
  subst l38 y38 z38
  obtain ⟨t_38, b_38, kb_38, cc_38, nn_38, vs_38, rfl, N38q, K38q, B38_0, B38_1, B38_2, B38_3, B38_4, B38_5⟩ := hQ38
  have ne40 : b_37 ≠ t_38 := Nat.ne_of_lt (Nat.lt_of_lt_of_le B37_4.lt B38_0)
  have ne41 : t_37 ≠ t_38 := Nat.ne_of_lt (Nat.lt_of_lt_of_le B37_3.lt B38_0)
  have ge_t_38 : n0 ≤ t_38 := Nat.le_trans Z37 B38_0
  have Z38 : n0 ≤ T38.heap.size := Nat.le_trans Z37 K38q.1
  have N38 := Fr.app N37 N38q
  replace G := o_nxs (q := 21) (st := [(.ref t_38)]) G st38 rfl
  replace G := o_astore (q := 23) (l' := #[.val (.int i0), .val (.long l1), .second, .val (.long l2), .second, .val (.int 1), .val (.ref t_37), .val (.ref t_38), .unset, .unset, .unset, .unset, .unset, .unset, .unset, .unset]) G X38.here hx (hb hby at_21) rfl rfl rfl
  replace G := o_iload (q := 25) G X38.here hx (hb hby at_23) rfl rfl
  replace G := o_lloadN (q := 26) G X38.here hx (hb hby at_25) rfl rfl
  have F43 := (F39.keep K38q all0)
  obtain ⟨_, _, ⟨T42, L42, kk42, nn42⟩, -, X42, ⟨Lc42, hQ42, l42, y42, z42⟩, st42⟩ := Jvm.LawKit.callS X38 hx (y := (⟨"com/example/crossbill/crossbill/spill/RowFormatBytesOfPinLaw", "text", "(IJ)Ljava/lang/String;"⟩ : MethodName)) hown (mvT hZ (o_w hw 0 rfl)) (mvT hZ (o_w hw 1 rfl)) (mvT hZ (o_w hw 2 rfl)) (mvT hZ (o_w hw 3 rfl)) (by decide) (backOf (W := 0) (rm1n1 l Z a0 hw [] l2 cw T38.heap n0 Z38 F43 P1 P2 P3 P4 hcw) hZ (o_w hw 3 rfl) (o_w hw 2 rfl) (by decide) (by decide)) (g := o_g G) rfl (by rw [hml]; rfl) (argsL := [(.int 1), (.long l2)]) (rest := []) (lenOf pd_12 rfl) rfl (by show 2 * 0 + _ ≤ _; exact Nat.le_of_eq rfl) (hb hby at_26) (fun _ _ => ⟨rfl, rfl, (by decide : 8 + 4 ≤ _), (by decide : 20 + 8 ≤ _)⟩)
  dsimp only [Pt.U, Pt.locs, Pt.cells, Pt.slots] at X42 l42 y42 z42 st42 hQ42
  subst l42 y42 z42
  obtain ⟨t_42, b_42, kb_42, cc_42, nn_42, vs_42, rfl, N42q, K42q, B42_0, B42_1, B42_2, B42_3, B42_4, B42_5⟩ := hQ42
  have ne44 : b_38 ≠ t_42 := Nat.ne_of_lt (Nat.lt_of_lt_of_le B38_4.lt B42_0)
  have ne45 : t_38 ≠ t_42 := Nat.ne_of_lt (Nat.lt_of_lt_of_le B38_3.lt B42_0)
  have F46 := (B37_4.keep K38q nin0)
  have ne47 : b_37 ≠ t_42 := Nat.ne_of_lt (Nat.lt_of_lt_of_le F46.lt B42_0)
  have F48 := (B37_3.keep K38q nin0)
  have ne49 : t_37 ≠ t_42 := Nat.ne_of_lt (Nat.lt_of_lt_of_le F48.lt B42_0)
  have ge_t_42 : n0 ≤ t_42 := Nat.le_trans Z38 B42_0
  have Z42 : n0 ≤ T42.heap.size := Nat.le_trans Z38 K42q.1
  have N42 := Fr.app N38 N42q
  replace G := o_nxs (q := 29) (st := [(.ref t_42)]) G st42 rfl
  replace G := o_astore (q := 31) (l' := #[.val (.int i0), .val (.long l1), .second, .val (.long l2), .second, .val (.int 1), .val (.ref t_37), .val (.ref t_38), .val (.ref t_42), .unset, .unset, .unset, .unset, .unset, .unset, .unset]) G X42.here hx (hb hby at_29) rfl rfl rfl
  replace G := o_aload (q := 33) G X42.here hx (hb hby at_31) rfl rfl rfl
  have F51 := ((B37_1.keep K38q).keep K42q)
  have F52 := (F43.keep K42q all0)
  have F53 : Sta Z T42.heap o_n1 "COMPACT_STRINGS" "Z" (.int cw) := P4.ext F52.2
  have F54 := ((B37_2.keep K38q nin0).keep K42q nin0)
  have F55 := (F46.keep K42q nin0)
  have F56 := (F48.keep K42q nin0)
  obtain ⟨_, _, ⟨T50, L50, kk50, nn50⟩, -, X50, ⟨Lc50, hQ50, l50, y50, z50⟩, st50⟩ := Jvm.LawKit.callS X42 hx (y := (⟨"com/example/crossbill/crossbill/spill/RowFormat", "bytesOf", "(Ljava/lang/String;)J"⟩ : MethodName)) hown (mvT hZ (o_w hw 57 rfl)) (mvT hZ (o_w hw 58 rfl)) (mvT hZ (o_w hw 59 rfl)) (mvT hZ (o_w hw 60 rfl)) (by decide) (backOf (W := 0) (rm13n1 l Z a0 hw [] t_37 b_37 kb_37 nn_37 vs_37 cc_37 cw T42.heap n0 Z42 F51 F53 F54 F55 F56 hcw B37_5) hZ (o_w hw 60 rfl) (o_w hw 59 rfl) (by decide) (by decide)) (g := o_g G) rfl (by rw [hml]; rfl) (argsL := [(.ref t_37)]) (rest := []) (lenOf pd_13 rfl) rfl (by show 2 * 0 + _ ≤ _; exact Nat.le_of_eq rfl) (hb hby at_33) (fun _ _ => ⟨rfl, rfl, (by decide : 12 + 0 ≤ _), (by decide : 28 + 0 ≤ _)⟩)
  dsimp only [Pt.U, Pt.locs, Pt.cells, Pt.slots] at X50 l50 y50 z50 st50 hQ50
  subst l50 y50 z50
  obtain ⟨rfl, N50q, e50⟩ := hQ50
  have N50 := Fr.app N42 N50q
  replace G := o_nxs (q := 36) (st := [(.long (50 : Int64))]) G st50 rfl
  replace G := o_lstore (q := 38) (l' := #[.val (.int i0), .val (.long l1), .second, .val (.long l2), .second, .val (.int 1), .val (.ref t_37), .val (.ref t_38), .val (.ref t_42), .val (.long (50 : Int64)), .second, .unset, .unset, .unset, .unset, .unset]) G X50.here hx (hb hby at_36) rfl rfl
  replace G := o_aload (q := 40) G X50.here hx (hb hby at_38) rfl rfl rfl
  have F58 := (B38_1.keep K42q)
  have F59 := (B38_2.keep K42q nin0)
  have F60 := (B38_4.keep K42q nin0)
  have F61 := (B38_3.keep K42q nin0)
  obtain ⟨_, _, ⟨T57, L57, kk57, nn57⟩, -, X57, ⟨Lc57, hQ57, l57, y57, z57⟩, st57⟩ := Jvm.LawKit.callS X50 hx (y := (⟨"com/example/crossbill/crossbill/spill/RowFormat", "bytesOf", "(Ljava/lang/String;)J"⟩ : MethodName)) hown (mvT hZ (o_w hw 57 rfl)) (mvT hZ (o_w hw 58 rfl)) (mvT hZ (o_w hw 59 rfl)) (mvT hZ (o_w hw 60 rfl)) (by decide) (backOf (W := 0) (rm13n2 l Z a0 hw [] t_38 b_38 kb_38 nn_38 vs_38 cc_38 cw T42.heap n0 Z42 F58 F53 F59 F60 F61 hcw B38_5) hZ (o_w hw 60 rfl) (o_w hw 59 rfl) (by decide) (by decide)) (g := o_g G) rfl (by rw [hml]; rfl) (argsL := [(.ref t_38)]) (rest := []) (lenOf pd_13 rfl) rfl (by show 2 * 0 + _ ≤ _; exact Nat.le_of_eq rfl) (hb hby at_40) (fun _ _ => ⟨rfl, e50, (by decide : 12 + 0 ≤ _), (by decide : 28 + 0 ≤ _)⟩)
  dsimp only [Pt.U, Pt.locs, Pt.cells, Pt.slots] at X57 l57 y57 z57 st57 hQ57
  subst l57 y57 z57
  obtain ⟨rfl, N57q, e57⟩ := hQ57
  have N57 := Fr.app N50 N57q
  replace G := o_nxs (q := 43) (st := [(.long (52 : Int64))]) G st57 rfl
  replace G := o_lstore (q := 45) (l' := #[.val (.int i0), .val (.long l1), .second, .val (.long l2), .second, .val (.int 1), .val (.ref t_37), .val (.ref t_38), .val (.ref t_42), .val (.long (50 : Int64)), .second, .val (.long (52 : Int64)), .second, .unset, .unset, .unset]) G X57.here hx (hb hby at_43) rfl rfl
  replace G := o_aload (q := 47) G X57.here hx (hb hby at_45) rfl rfl rfl
  obtain ⟨_, _, ⟨T62, L62, kk62, nn62⟩, -, X62, ⟨Lc62, hQ62, l62, y62, z62⟩, st62⟩ := Jvm.LawKit.callS X57 hx (y := (⟨"com/example/crossbill/crossbill/spill/RowFormat", "bytesOf", "(Ljava/lang/String;)J"⟩ : MethodName)) hown (mvT hZ (o_w hw 57 rfl)) (mvT hZ (o_w hw 58 rfl)) (mvT hZ (o_w hw 59 rfl)) (mvT hZ (o_w hw 60 rfl)) (by decide) (backOf (W := 0) (rm13n1 l Z a0 hw [] t_42 b_42 kb_42 nn_42 vs_42 cc_42 cw T42.heap n0 Z42 B42_1 F53 B42_2 B42_4 B42_3 hcw B42_5) hZ (o_w hw 60 rfl) (o_w hw 59 rfl) (by decide) (by decide)) (g := o_g G) rfl (by rw [hml]; rfl) (argsL := [(.ref t_42)]) (rest := []) (lenOf pd_13 rfl) rfl (by show 2 * 0 + _ ≤ _; exact Nat.le_of_eq rfl) (hb hby at_47) (fun _ _ => ⟨rfl, e57, (by decide : 12 + 0 ≤ _), (by decide : 28 + 0 ≤ _)⟩)
  dsimp only [Pt.U, Pt.locs, Pt.cells, Pt.slots] at X62 l62 y62 z62 st62 hQ62
  subst l62 y62 z62
  obtain ⟨rfl, N62q, e62⟩ := hQ62
  have N62 := Fr.app N57 N62q
  replace G := o_nxs (q := 50) (st := [(.long (50 : Int64))]) G st62 rfl
  replace G := o_lstore (q := 52) (l' := #[.val (.int i0), .val (.long l1), .second, .val (.long l2), .second, .val (.int 1), .val (.ref t_37), .val (.ref t_38), .val (.ref t_42), .val (.long (50 : Int64)), .second, .val (.long (52 : Int64)), .second, .val (.long (50 : Int64)), .second, .unset]) G X62.here hx (hb hby at_50) rfl rfl
  replace G := o_lload (q := 54) G X62.here hx (hb hby at_52) rfl rfl
  replace G := o_lconst (q := 55) G X62.here hx (hb hby at_54) (v := (0 : Int64)) (by decide) rfl
  replace G := o_lcmp (q := 56) G X62.here hx (hb hby at_55) rfl
  have hc56_63 : ¬ ((50 : Int64) < (0 : Int64)) := by decide
  replace G := o_ifNo (q := 59) G X62.here hx (hb hby at_56) ((if0 _ _).trans (flt (fun z => hc56_63 ((lw_lt _ _).mp z))).1) rfl
  replace G := o_lload (q := 61) G X62.here hx (hb hby at_59) rfl rfl
  replace G := o_lload (q := 63) G X62.here hx (hb hby at_61) rfl rfl
  replace G := o_lcmp (q := 64) G X62.here hx (hb hby at_63) rfl
  have hc64_64 : (50 : Int64) = (50 : Int64) := by decide
  replace G := o_ifNo (q := 67) G X62.here hx (hb hby at_64) ((if0 _ _).trans (teq ((lw_eq _ _).mpr hc64_64)).2) rfl
  replace G := o_iconst (q := 68) G X62.here hx (hb hby at_67) (v := (1 : Int32)) (by decide) rfl
  replace G := o_goto (q := 72) G X62.here hx (hb hby at_68) (by decide) (by decide)
  replace G := o_istore (q := 74) (l' := #[.val (.int i0), .val (.long l1), .second, .val (.long l2), .second, .val (.int 1), .val (.ref t_37), .val (.ref t_38), .val (.ref t_42), .val (.long (50 : Int64)), .second, .val (.long (52 : Int64)), .second, .val (.long (50 : Int64)), .second, .val (.int 1)]) G X62.here hx (hb hby at_72) rfl rfl
  replace G := o_iload (q := 76) G X62.here hx (hb hby at_74) rfl rfl
  replace G := o_ifYes (q := 110) G X62.here hx (hb hby at_76) (by decide) (by decide) (by decide)
  replace G := o_iload (q := 112) G X62.here hx (hb hby at_110) rfl rfl
  replace G := o_ifNo (q := 115) G X62.here hx (hb hby at_112) (by decide) rfl
  replace G := o_lload (q := 117) G X62.here hx (hb hby at_115) rfl rfl
  replace G := o_lload (q := 119) G X62.here hx (hb hby at_117) rfl rfl
  replace G := o_lsub (q := 120) G X62.here hx (hb hby at_119) (by decide : ((52 : Int64) - (50 : Int64)) = (2 : Int64)) rfl
  replace G := o_nxs (q := 123) (st := [(.long (2 : Int64)), (.long (2 : Int64))]) G (X62.ldc2Long hx hown (mvT hZ (o_w hw 79 rfl)) (g := o_g G) rfl (hb hby at_120)) rfl
  replace G := o_lcmp (q := 124) G X62.here hx (hb hby at_123) rfl
  have hc124_67 : (2 : Int64) = (2 : Int64) := by decide
  replace G := o_ifNo (q := 127) G X62.here hx (hb hby at_124) ((if0 _ _).trans (teq ((lw_eq _ _).mpr hc124_67)).2) rfl
  replace G := o_iconst (q := 128) G X62.here hx (hb hby at_127) (v := (1 : Int32)) (by decide) rfl
  replace G := o_goto (q := 132) G X62.here hx (hb hby at_128) (by decide) (by decide)
  replace G := o_istore (q := 134) (l' := #[.val (.int i0), .val (.long l1), .second, .val (.long l2), .second, .val (.int 1), .val (.ref t_37), .val (.ref t_38), .val (.ref t_42), .val (.long (50 : Int64)), .second, .val (.long (52 : Int64)), .second, .val (.long (50 : Int64)), .second, .val (.int 1)]) G X62.here hx (hb hby at_132) rfl rfl
  replace G := o_iload (q := 136) G X62.here hx (hb hby at_134) rfl rfl
  obtain ⟨fs, hr, hrun, hended, hW, hsame⟩ := X62.leave (v := some (.int 1)) (fun h => by rw [Bd.returns] at h; cases h)
  refine ⟨_, _, G _ (retOut X62 hx Bd.returns rfl (Or.inl ⟨rfl, Or.inr (Or.inl rfl), _, rfl⟩) (hb hby at_136) hr), hrun, hended, _, _, rfl, ?_, ReturnedEndW.of_narrow ⟨_, rfl⟩ hW (hsame.mono (by decide) (by decide))⟩
  show Q0 Z i0 l1 l2 cw h0 n0 _ T62.heap _
  rw [e62]
  exact ⟨rfl, N62⟩
  replace G := o_istore (q := 5) (l' := #[.val (.int i0), .val (.long l1), .second, .val (.long l2), .second, .val (.int 2), .unset, .unset, .unset, .unset, .unset, .unset, .unset, .unset, .unset, .unset]) G X0.here hx (hb hby at_3) rfl rfl
  replace G := o_iload (q := 7) G X0.here hx (hb hby at_5) rfl rfl
  replace G := o_lloadN (q := 8) G X0.here hx (hb hby at_7) rfl rfl
  obtain ⟨_, _, ⟨T68, L68, kk68, nn68⟩, -, X68, ⟨Lc68, hQ68, l68, y68, z68⟩, st68⟩ := Jvm.LawKit.callS X0 hx (y := (⟨"com/example/crossbill/crossbill/spill/RowFormatBytesOfPinLaw", "text", "(IJ)Ljava/lang/String;"⟩ : MethodName)) hown (mvT hZ (o_w hw 0 rfl)) (mvT hZ (o_w hw 1 rfl)) (mvT hZ (o_w hw 2 rfl)) (mvT hZ (o_w hw 3 rfl)) (by decide) (backOf (W := 0) (rm1n2 l Z a0 hw [] l1 cw h0 n0 Z0 P0 P1 P2 P3 P4 hcw) hZ (o_w hw 3 rfl) (o_w hw 2 rfl) (by decide) (by decide)) (g := o_g G) rfl (by rw [hml]; rfl) (argsL := [(.int 2), (.long l1)]) (rest := []) (lenOf pd_12 rfl) rfl (by show 2 * 0 + _ ≤ _; exact Nat.le_of_eq rfl) (hb hby at_8) (fun _ _ => ⟨rfl, e0, (by decide : 0 + 4 ≤ _), (by decide : 0 + 12 ≤ _)⟩)
  dsimp only [Pt.U, Pt.locs, Pt.cells, Pt.slots] at X68 l68 y68 z68 st68 hQ68
  subst l68 y68 z68
  obtain ⟨t_68, b_68, kb_68, cc_68, nn_68, vs_68, rfl, N68q, K68q, B68_0, B68_1, B68_2, B68_3, B68_4, B68_5⟩ := hQ68
  have ge_t_68 : n0 ≤ t_68 := Nat.le_trans Z0 B68_0
  have Z68 : n0 ≤ T68.heap.size := Nat.le_trans Z0 K68q.1
  have N68 := Fr.app N0 N68q
  replace G := o_nxs (q := 11) (st := [(.ref t_68)]) G st68 rfl
  replace G := o_astore (q := 13) (l' := #[.val (.int i0), .val (.long l1), .second, .val (.long l2), .second, .val (.int 2), .val (.ref t_68), .unset, .unset, .unset, .unset, .unset, .unset, .unset, .unset, .unset]) G X68.here hx (hb hby at_11) rfl rfl rfl
  replace G := o_iload (q := 15) G X68.here hx (hb hby at_13) rfl rfl
  replace G := o_iconst (q := 16) G X68.here hx (hb hby at_15) (v := (1 : Int32)) (by decide) rfl
  replace G := o_iadd (q := 17) G X68.here hx (hb hby at_16) (by decide : ((2 : Int32) + (1 : Int32)) = (3 : Int32)) rfl
  replace G := o_lloadN (q := 18) G X68.here hx (hb hby at_17) rfl rfl
  have F70 := (P0.keep K68q all0)
  obtain ⟨_, _, ⟨T69, L69, kk69, nn69⟩, -, X69, ⟨Lc69, hQ69, l69, y69, z69⟩, st69⟩ := Jvm.LawKit.callS X68 hx (y := (⟨"com/example/crossbill/crossbill/spill/RowFormatBytesOfPinLaw", "text", "(IJ)Ljava/lang/String;"⟩ : MethodName)) hown (mvT hZ (o_w hw 0 rfl)) (mvT hZ (o_w hw 1 rfl)) (mvT hZ (o_w hw 2 rfl)) (mvT hZ (o_w hw 3 rfl)) (by decide) (backOf (W := 0) (rm1n3 l Z a0 hw [] l2 cw T68.heap n0 Z68 F70 P1 P2 P3 P4 hcw) hZ (o_w hw 3 rfl) (o_w hw 2 rfl) (by decide) (by decide)) (g := o_g G) rfl (by rw [hml]; rfl) (argsL := [(.int 3), (.long l2)]) (rest := []) (lenOf pd_12 rfl) rfl (by show 2 * 0 + _ ≤ _; exact Nat.le_of_eq rfl) (hb hby at_18) (fun _ _ => ⟨rfl, rfl, (by decide : 4 + 4 ≤ _), (by decide : 12 + 16 ≤ _)⟩)
  dsimp only [Pt.U, Pt.locs, Pt.cells, Pt.slots] at X69 l69 y69 z69 st69 hQ69
  subst l69 y69 z69
  obtain ⟨t_69, b_69, kb_69, cc_69, nn_69, vs_69, rfl, N69q, K69q, B69_0, B69_1, B69_2, B69_3, B69_4, B69_5⟩ := hQ69
  have ne71 : b_68 ≠ t_69 := Nat.ne_of_lt (Nat.lt_of_lt_of_le B68_4.lt B69_0)
  have ne72 : t_68 ≠ t_69 := Nat.ne_of_lt (Nat.lt_of_lt_of_le B68_3.lt B69_0)
  have ge_t_69 : n0 ≤ t_69 := Nat.le_trans Z68 B69_0
  have Z69 : n0 ≤ T69.heap.size := Nat.le_trans Z68 K69q.1
  have N69 := Fr.app N68 N69q
  replace G := o_nxs (q := 21) (st := [(.ref t_69)]) G st69 rfl
  replace G := o_astore (q := 23) (l' := #[.val (.int i0), .val (.long l1), .second, .val (.long l2), .second, .val (.int 2), .val (.ref t_68), .val (.ref t_69), .unset, .unset, .unset, .unset, .unset, .unset, .unset, .unset]) G X69.here hx (hb hby at_21) rfl rfl rfl
  replace G := o_iload (q := 25) G X69.here hx (hb hby at_23) rfl rfl
  replace G := o_lloadN (q := 26) G X69.here hx (hb hby at_25) rfl rfl
  have F74 := (F70.keep K69q all0)
  obtain ⟨_, _, ⟨T73, L73, kk73, nn73⟩, -, X73, ⟨Lc73, hQ73, l73, y73, z73⟩, st73⟩ := Jvm.LawKit.callS X69 hx (y := (⟨"com/example/crossbill/crossbill/spill/RowFormatBytesOfPinLaw", "text", "(IJ)Ljava/lang/String;"⟩ : MethodName)) hown (mvT hZ (o_w hw 0 rfl)) (mvT hZ (o_w hw 1 rfl)) (mvT hZ (o_w hw 2 rfl)) (mvT hZ (o_w hw 3 rfl)) (by decide) (backOf (W := 0) (rm1n2 l Z a0 hw [] l2 cw T69.heap n0 Z69 F74 P1 P2 P3 P4 hcw) hZ (o_w hw 3 rfl) (o_w hw 2 rfl) (by decide) (by decide)) (g := o_g G) rfl (by rw [hml]; rfl) (argsL := [(.int 2), (.long l2)]) (rest := []) (lenOf pd_12 rfl) rfl (by show 2 * 0 + _ ≤ _; exact Nat.le_of_eq rfl) (hb hby at_26) (fun _ _ => ⟨rfl, rfl, (by decide : 8 + 4 ≤ _), (by decide : 28 + 12 ≤ _)⟩)
  dsimp only [Pt.U, Pt.locs, Pt.cells, Pt.slots] at X73 l73 y73 z73 st73 hQ73
  subst l73 y73 z73
  obtain ⟨t_73, b_73, kb_73, cc_73, nn_73, vs_73, rfl, N73q, K73q, B73_0, B73_1, B73_2, B73_3, B73_4, B73_5⟩ := hQ73
  have ne75 : b_69 ≠ t_73 := Nat.ne_of_lt (Nat.lt_of_lt_of_le B69_4.lt B73_0)
  have ne76 : t_69 ≠ t_73 := Nat.ne_of_lt (Nat.lt_of_lt_of_le B69_3.lt B73_0)
  have F77 := (B68_4.keep K69q nin0)
  have ne78 : b_68 ≠ t_73 := Nat.ne_of_lt (Nat.lt_of_lt_of_le F77.lt B73_0)
  have F79 := (B68_3.keep K69q nin0)
  have ne80 : t_68 ≠ t_73 := Nat.ne_of_lt (Nat.lt_of_lt_of_le F79.lt B73_0)
  have ge_t_73 : n0 ≤ t_73 := Nat.le_trans Z69 B73_0
  have Z73 : n0 ≤ T73.heap.size := Nat.le_trans Z69 K73q.1
  have N73 := Fr.app N69 N73q
  replace G := o_nxs (q := 29) (st := [(.ref t_73)]) G st73 rfl
  replace G := o_astore (q := 31) (l' := #[.val (.int i0), .val (.long l1), .second, .val (.long l2), .second, .val (.int 2), .val (.ref t_68), .val (.ref t_69), .val (.ref t_73), .unset, .unset, .unset, .unset, .unset, .unset, .unset]) G X73.here hx (hb hby at_29) rfl rfl rfl
  replace G := o_aload (q := 33) G X73.here hx (hb hby at_31) rfl rfl rfl
  have F82 := ((B68_1.keep K69q).keep K73q)
  have F83 := (F74.keep K73q all0)
  have F84 : Sta Z T73.heap o_n1 "COMPACT_STRINGS" "Z" (.int cw) := P4.ext F83.2
  have F85 := ((B68_2.keep K69q nin0).keep K73q nin0)
  have F86 := (F77.keep K73q nin0)
  have F87 := (F79.keep K73q nin0)
  obtain ⟨_, _, ⟨T81, L81, kk81, nn81⟩, -, X81, ⟨Lc81, hQ81, l81, y81, z81⟩, st81⟩ := Jvm.LawKit.callS X73 hx (y := (⟨"com/example/crossbill/crossbill/spill/RowFormat", "bytesOf", "(Ljava/lang/String;)J"⟩ : MethodName)) hown (mvT hZ (o_w hw 57 rfl)) (mvT hZ (o_w hw 58 rfl)) (mvT hZ (o_w hw 59 rfl)) (mvT hZ (o_w hw 60 rfl)) (by decide) (backOf (W := 0) (rm13n2 l Z a0 hw [] t_68 b_68 kb_68 nn_68 vs_68 cc_68 cw T73.heap n0 Z73 F82 F84 F85 F86 F87 hcw B68_5) hZ (o_w hw 60 rfl) (o_w hw 59 rfl) (by decide) (by decide)) (g := o_g G) rfl (by rw [hml]; rfl) (argsL := [(.ref t_68)]) (rest := []) (lenOf pd_13 rfl) rfl (by show 2 * 0 + _ ≤ _; exact Nat.le_of_eq rfl) (hb hby at_33) (fun _ _ => ⟨rfl, rfl, (by decide : 12 + 0 ≤ _), (by decide : 40 + 0 ≤ _)⟩)
  dsimp only [Pt.U, Pt.locs, Pt.cells, Pt.slots] at X81 l81 y81 z81 st81 hQ81
  subst l81 y81 z81
  obtain ⟨rfl, N81q, e81⟩ := hQ81
  have N81 := Fr.app N73 N81q
  replace G := o_nxs (q := 36) (st := [(.long (52 : Int64))]) G st81 rfl
  replace G := o_lstore (q := 38) (l' := #[.val (.int i0), .val (.long l1), .second, .val (.long l2), .second, .val (.int 2), .val (.ref t_68), .val (.ref t_69), .val (.ref t_73), .val (.long (52 : Int64)), .second, .unset, .unset, .unset, .unset, .unset]) G X81.here hx (hb hby at_36) rfl rfl
  replace G := o_aload (q := 40) G X81.here hx (hb hby at_38) rfl rfl rfl
  have F89 := (B69_1.keep K73q)
  have F90 := (B69_2.keep K73q nin0)
  have F91 := (B69_4.keep K73q nin0)
  have F92 := (B69_3.keep K73q nin0)
  obtain ⟨_, _, ⟨T88, L88, kk88, nn88⟩, -, X88, ⟨Lc88, hQ88, l88, y88, z88⟩, st88⟩ := Jvm.LawKit.callS X81 hx (y := (⟨"com/example/crossbill/crossbill/spill/RowFormat", "bytesOf", "(Ljava/lang/String;)J"⟩ : MethodName)) hown (mvT hZ (o_w hw 57 rfl)) (mvT hZ (o_w hw 58 rfl)) (mvT hZ (o_w hw 59 rfl)) (mvT hZ (o_w hw 60 rfl)) (by decide) (backOf (W := 0) (rm13n3 l Z a0 hw [] t_69 b_69 kb_69 nn_69 vs_69 cc_69 cw T73.heap n0 Z73 F89 F84 F90 F91 F92 hcw B69_5) hZ (o_w hw 60 rfl) (o_w hw 59 rfl) (by decide) (by decide)) (g := o_g G) rfl (by rw [hml]; rfl) (argsL := [(.ref t_69)]) (rest := []) (lenOf pd_13 rfl) rfl (by show 2 * 0 + _ ≤ _; exact Nat.le_of_eq rfl) (hb hby at_40) (fun _ _ => ⟨rfl, e81, (by decide : 12 + 0 ≤ _), (by decide : 40 + 0 ≤ _)⟩)
  dsimp only [Pt.U, Pt.locs, Pt.cells, Pt.slots] at X88 l88 y88 z88 st88 hQ88
  subst l88 y88 z88
  obtain ⟨rfl, N88q, e88⟩ := hQ88
  have N88 := Fr.app N81 N88q
  replace G := o_nxs (q := 43) (st := [(.long (54 : Int64))]) G st88 rfl
  replace G := o_lstore (q := 45) (l' := #[.val (.int i0), .val (.long l1), .second, .val (.long l2), .second, .val (.int 2), .val (.ref t_68), .val (.ref t_69), .val (.ref t_73), .val (.long (52 : Int64)), .second, .val (.long (54 : Int64)), .second, .unset, .unset, .unset]) G X88.here hx (hb hby at_43) rfl rfl
  replace G := o_aload (q := 47) G X88.here hx (hb hby at_45) rfl rfl rfl
  obtain ⟨_, _, ⟨T93, L93, kk93, nn93⟩, -, X93, ⟨Lc93, hQ93, l93, y93, z93⟩, st93⟩ := Jvm.LawKit.callS X88 hx (y := (⟨"com/example/crossbill/crossbill/spill/RowFormat", "bytesOf", "(Ljava/lang/String;)J"⟩ : MethodName)) hown (mvT hZ (o_w hw 57 rfl)) (mvT hZ (o_w hw 58 rfl)) (mvT hZ (o_w hw 59 rfl)) (mvT hZ (o_w hw 60 rfl)) (by decide) (backOf (W := 0) (rm13n2 l Z a0 hw [] t_73 b_73 kb_73 nn_73 vs_73 cc_73 cw T73.heap n0 Z73 B73_1 F84 B73_2 B73_4 B73_3 hcw B73_5) hZ (o_w hw 60 rfl) (o_w hw 59 rfl) (by decide) (by decide)) (g := o_g G) rfl (by rw [hml]; rfl) (argsL := [(.ref t_73)]) (rest := []) (lenOf pd_13 rfl) rfl (by show 2 * 0 + _ ≤ _; exact Nat.le_of_eq rfl) (hb hby at_47) (fun _ _ => ⟨rfl, e88, (by decide : 12 + 0 ≤ _), (by decide : 40 + 0 ≤ _)⟩)
  dsimp only [Pt.U, Pt.locs, Pt.cells, Pt.slots] at X93 l93 y93 z93 st93 hQ93
  subst l93 y93 z93
  obtain ⟨rfl, N93q, e93⟩ := hQ93
  have N93 := Fr.app N88 N93q
  replace G := o_nxs (q := 50) (st := [(.long (52 : Int64))]) G st93 rfl
  replace G := o_lstore (q := 52) (l' := #[.val (.int i0), .val (.long l1), .second, .val (.long l2), .second, .val (.int 2), .val (.ref t_68), .val (.ref t_69), .val (.ref t_73), .val (.long (52 : Int64)), .second, .val (.long (54 : Int64)), .second, .val (.long (52 : Int64)), .second, .unset]) G X93.here hx (hb hby at_50) rfl rfl
  replace G := o_lload (q := 54) G X93.here hx (hb hby at_52) rfl rfl
  replace G := o_lconst (q := 55) G X93.here hx (hb hby at_54) (v := (0 : Int64)) (by decide) rfl
  replace G := o_lcmp (q := 56) G X93.here hx (hb hby at_55) rfl
  have hc56_94 : ¬ ((52 : Int64) < (0 : Int64)) := by decide
  replace G := o_ifNo (q := 59) G X93.here hx (hb hby at_56) ((if0 _ _).trans (flt (fun z => hc56_94 ((lw_lt _ _).mp z))).1) rfl
  replace G := o_lload (q := 61) G X93.here hx (hb hby at_59) rfl rfl
  replace G := o_lload (q := 63) G X93.here hx (hb hby at_61) rfl rfl
  replace G := o_lcmp (q := 64) G X93.here hx (hb hby at_63) rfl
  have hc64_95 : (52 : Int64) = (52 : Int64) := by decide
  replace G := o_ifNo (q := 67) G X93.here hx (hb hby at_64) ((if0 _ _).trans (teq ((lw_eq _ _).mpr hc64_95)).2) rfl
  replace G := o_iconst (q := 68) G X93.here hx (hb hby at_67) (v := (1 : Int32)) (by decide) rfl
  replace G := o_goto (q := 72) G X93.here hx (hb hby at_68) (by decide) (by decide)
  replace G := o_istore (q := 74) (l' := #[.val (.int i0), .val (.long l1), .second, .val (.long l2), .second, .val (.int 2), .val (.ref t_68), .val (.ref t_69), .val (.ref t_73), .val (.long (52 : Int64)), .second, .val (.long (54 : Int64)), .second, .val (.long (52 : Int64)), .second, .val (.int 1)]) G X93.here hx (hb hby at_72) rfl rfl
  replace G := o_iload (q := 76) G X93.here hx (hb hby at_74) rfl rfl
  replace G := o_ifYes (q := 110) G X93.here hx (hb hby at_76) (by decide) (by decide) (by decide)
  replace G := o_iload (q := 112) G X93.here hx (hb hby at_110) rfl rfl
  replace G := o_ifNo (q := 115) G X93.here hx (hb hby at_112) (by decide) rfl
  replace G := o_lload (q := 117) G X93.here hx (hb hby at_115) rfl rfl
  replace G := o_lload (q := 119) G X93.here hx (hb hby at_117) rfl rfl
  replace G := o_lsub (q := 120) G X93.here hx (hb hby at_119) (by decide : ((54 : Int64) - (52 : Int64)) = (2 : Int64)) rfl
  replace G := o_nxs (q := 123) (st := [(.long (2 : Int64)), (.long (2 : Int64))]) G (X93.ldc2Long hx hown (mvT hZ (o_w hw 79 rfl)) (g := o_g G) rfl (hb hby at_120)) rfl
  replace G := o_lcmp (q := 124) G X93.here hx (hb hby at_123) rfl
  have hc124_98 : (2 : Int64) = (2 : Int64) := by decide
  replace G := o_ifNo (q := 127) G X93.here hx (hb hby at_124) ((if0 _ _).trans (teq ((lw_eq _ _).mpr hc124_98)).2) rfl
  replace G := o_iconst (q := 128) G X93.here hx (hb hby at_127) (v := (1 : Int32)) (by decide) rfl
  replace G := o_goto (q := 132) G X93.here hx (hb hby at_128) (by decide) (by decide)
  replace G := o_istore (q := 134) (l' := #[.val (.int i0), .val (.long l1), .second, .val (.long l2), .second, .val (.int 2), .val (.ref t_68), .val (.ref t_69), .val (.ref t_73), .val (.long (52 : Int64)), .second, .val (.long (54 : Int64)), .second, .val (.long (52 : Int64)), .second, .val (.int 1)]) G X93.here hx (hb hby at_132) rfl rfl
  replace G := o_iload (q := 136) G X93.here hx (hb hby at_134) rfl rfl
  obtain ⟨fs, hr, hrun, hended, hW, hsame⟩ := X93.leave (v := some (.int 1)) (fun h => by rw [Bd.returns] at h; cases h)
  refine ⟨_, _, G _ (retOut X93 hx Bd.returns rfl (Or.inl ⟨rfl, Or.inr (Or.inl rfl), _, rfl⟩) (hb hby at_136) hr), hrun, hended, _, _, rfl, ?_, ReturnedEndW.of_narrow ⟨_, rfl⟩ hW (hsame.mono (by decide) (by decide))⟩
  show Q0 Z i0 l1 l2 cw h0 n0 _ T93.heap _
  rw [e93]
  exact ⟨rfl, N93⟩
  replace G := o_istore (q := 5) (l' := #[.val (.int i0), .val (.long l1), .second, .val (.long l2), .second, .val (.int 3), .unset, .unset, .unset, .unset, .unset, .unset, .unset, .unset, .unset, .unset]) G X0.here hx (hb hby at_3) rfl rfl
  replace G := o_iload (q := 7) G X0.here hx (hb hby at_5) rfl rfl
  replace G := o_lloadN (q := 8) G X0.here hx (hb hby at_7) rfl rfl
  obtain ⟨_, _, ⟨T99, L99, kk99, nn99⟩, -, X99, ⟨Lc99, hQ99, l99, y99, z99⟩, st99⟩ := Jvm.LawKit.callS X0 hx (y := (⟨"com/example/crossbill/crossbill/spill/RowFormatBytesOfPinLaw", "text", "(IJ)Ljava/lang/String;"⟩ : MethodName)) hown (mvT hZ (o_w hw 0 rfl)) (mvT hZ (o_w hw 1 rfl)) (mvT hZ (o_w hw 2 rfl)) (mvT hZ (o_w hw 3 rfl)) (by decide) (backOf (W := 0) (rm1n3 l Z a0 hw [] l1 cw h0 n0 Z0 P0 P1 P2 P3 P4 hcw) hZ (o_w hw 3 rfl) (o_w hw 2 rfl) (by decide) (by decide)) (g := o_g G) rfl (by rw [hml]; rfl) (argsL := [(.int 3), (.long l1)]) (rest := []) (lenOf pd_12 rfl) rfl (by show 2 * 0 + _ ≤ _; exact Nat.le_of_eq rfl) (hb hby at_8) (fun _ _ => ⟨rfl, e0, (by decide : 0 + 4 ≤ _), (by decide : 0 + 16 ≤ _)⟩)
  dsimp only [Pt.U, Pt.locs, Pt.cells, Pt.slots] at X99 l99 y99 z99 st99 hQ99
  subst l99 y99 z99
  obtain ⟨t_99, b_99, kb_99, cc_99, nn_99, vs_99, rfl, N99q, K99q, B99_0, B99_1, B99_2, B99_3, B99_4, B99_5⟩ := hQ99
  have ge_t_99 : n0 ≤ t_99 := Nat.le_trans Z0 B99_0
  have Z99 : n0 ≤ T99.heap.size := Nat.le_trans Z0 K99q.1
  have N99 := Fr.app N0 N99q
  replace G := o_nxs (q := 11) (st := [(.ref t_99)]) G st99 rfl
  replace G := o_astore (q := 13) (l' := #[.val (.int i0), .val (.long l1), .second, .val (.long l2), .second, .val (.int 3), .val (.ref t_99), .unset, .unset, .unset, .unset, .unset, .unset, .unset, .unset, .unset]) G X99.here hx (hb hby at_11) rfl rfl rfl
  replace G := o_iload (q := 15) G X99.here hx (hb hby at_13) rfl rfl
  replace G := o_iconst (q := 16) G X99.here hx (hb hby at_15) (v := (1 : Int32)) (by decide) rfl
  replace G := o_iadd (q := 17) G X99.here hx (hb hby at_16) (by decide : ((3 : Int32) + (1 : Int32)) = (4 : Int32)) rfl
  replace G := o_lloadN (q := 18) G X99.here hx (hb hby at_17) rfl rfl
  have F101 := (P0.keep K99q all0)
  obtain ⟨_, _, ⟨T100, L100, kk100, nn100⟩, -, X100, ⟨Lc100, hQ100, l100, y100, z100⟩, st100⟩ := Jvm.LawKit.callS X99 hx (y := (⟨"com/example/crossbill/crossbill/spill/RowFormatBytesOfPinLaw", "text", "(IJ)Ljava/lang/String;"⟩ : MethodName)) hown (mvT hZ (o_w hw 0 rfl)) (mvT hZ (o_w hw 1 rfl)) (mvT hZ (o_w hw 2 rfl)) (mvT hZ (o_w hw 3 rfl)) (by decide) (backOf (W := 0) (rm1n4 l Z a0 hw [] l2 cw T99.heap n0 Z99 F101 P1 P2 P3 P4 hcw) hZ (o_w hw 3 rfl) (o_w hw 2 rfl) (by decide) (by decide)) (g := o_g G) rfl (by rw [hml]; rfl) (argsL := [(.int 4), (.long l2)]) (rest := []) (lenOf pd_12 rfl) rfl (by show 2 * 0 + _ ≤ _; exact Nat.le_of_eq rfl) (hb hby at_18) (fun _ _ => ⟨rfl, rfl, (by decide : 4 + 4 ≤ _), (by decide : 16 + 20 ≤ _)⟩)
  dsimp only [Pt.U, Pt.locs, Pt.cells, Pt.slots] at X100 l100 y100 z100 st100 hQ100
  subst l100 y100 z100
  obtain ⟨t_100, b_100, kb_100, cc_100, nn_100, vs_100, rfl, N100q, K100q, B100_0, B100_1, B100_2, B100_3, B100_4, B100_5⟩ := hQ100
  have ne102 : b_99 ≠ t_100 := Nat.ne_of_lt (Nat.lt_of_lt_of_le B99_4.lt B100_0)
  have ne103 : t_99 ≠ t_100 := Nat.ne_of_lt (Nat.lt_of_lt_of_le B99_3.lt B100_0)
  have ge_t_100 : n0 ≤ t_100 := Nat.le_trans Z99 B100_0
  have Z100 : n0 ≤ T100.heap.size := Nat.le_trans Z99 K100q.1
  have N100 := Fr.app N99 N100q
  replace G := o_nxs (q := 21) (st := [(.ref t_100)]) G st100 rfl
  replace G := o_astore (q := 23) (l' := #[.val (.int i0), .val (.long l1), .second, .val (.long l2), .second, .val (.int 3), .val (.ref t_99), .val (.ref t_100), .unset, .unset, .unset, .unset, .unset, .unset, .unset, .unset]) G X100.here hx (hb hby at_21) rfl rfl rfl
  replace G := o_iload (q := 25) G X100.here hx (hb hby at_23) rfl rfl
  replace G := o_lloadN (q := 26) G X100.here hx (hb hby at_25) rfl rfl
  have F105 := (F101.keep K100q all0)
  obtain ⟨_, _, ⟨T104, L104, kk104, nn104⟩, -, X104, ⟨Lc104, hQ104, l104, y104, z104⟩, st104⟩ := Jvm.LawKit.callS X100 hx (y := (⟨"com/example/crossbill/crossbill/spill/RowFormatBytesOfPinLaw", "text", "(IJ)Ljava/lang/String;"⟩ : MethodName)) hown (mvT hZ (o_w hw 0 rfl)) (mvT hZ (o_w hw 1 rfl)) (mvT hZ (o_w hw 2 rfl)) (mvT hZ (o_w hw 3 rfl)) (by decide) (backOf (W := 0) (rm1n3 l Z a0 hw [] l2 cw T100.heap n0 Z100 F105 P1 P2 P3 P4 hcw) hZ (o_w hw 3 rfl) (o_w hw 2 rfl) (by decide) (by decide)) (g := o_g G) rfl (by rw [hml]; rfl) (argsL := [(.int 3), (.long l2)]) (rest := []) (lenOf pd_12 rfl) rfl (by show 2 * 0 + _ ≤ _; exact Nat.le_of_eq rfl) (hb hby at_26) (fun _ _ => ⟨rfl, rfl, (by decide : 8 + 4 ≤ _), (by decide : 36 + 16 ≤ _)⟩)
  dsimp only [Pt.U, Pt.locs, Pt.cells, Pt.slots] at X104 l104 y104 z104 st104 hQ104
  subst l104 y104 z104
  obtain ⟨t_104, b_104, kb_104, cc_104, nn_104, vs_104, rfl, N104q, K104q, B104_0, B104_1, B104_2, B104_3, B104_4, B104_5⟩ := hQ104
  have ne106 : b_100 ≠ t_104 := Nat.ne_of_lt (Nat.lt_of_lt_of_le B100_4.lt B104_0)
  have ne107 : t_100 ≠ t_104 := Nat.ne_of_lt (Nat.lt_of_lt_of_le B100_3.lt B104_0)
  have F108 := (B99_4.keep K100q nin0)
  have ne109 : b_99 ≠ t_104 := Nat.ne_of_lt (Nat.lt_of_lt_of_le F108.lt B104_0)
  have F110 := (B99_3.keep K100q nin0)
  have ne111 : t_99 ≠ t_104 := Nat.ne_of_lt (Nat.lt_of_lt_of_le F110.lt B104_0)
  have ge_t_104 : n0 ≤ t_104 := Nat.le_trans Z100 B104_0
  have Z104 : n0 ≤ T104.heap.size := Nat.le_trans Z100 K104q.1
  have N104 := Fr.app N100 N104q
  replace G := o_nxs (q := 29) (st := [(.ref t_104)]) G st104 rfl
  replace G := o_astore (q := 31) (l' := #[.val (.int i0), .val (.long l1), .second, .val (.long l2), .second, .val (.int 3), .val (.ref t_99), .val (.ref t_100), .val (.ref t_104), .unset, .unset, .unset, .unset, .unset, .unset, .unset]) G X104.here hx (hb hby at_29) rfl rfl rfl
  replace G := o_aload (q := 33) G X104.here hx (hb hby at_31) rfl rfl rfl
  have F113 := ((B99_1.keep K100q).keep K104q)
  have F114 := (F105.keep K104q all0)
  have F115 : Sta Z T104.heap o_n1 "COMPACT_STRINGS" "Z" (.int cw) := P4.ext F114.2
  have F116 := ((B99_2.keep K100q nin0).keep K104q nin0)
  have F117 := (F108.keep K104q nin0)
  have F118 := (F110.keep K104q nin0)
  obtain ⟨_, _, ⟨T112, L112, kk112, nn112⟩, -, X112, ⟨Lc112, hQ112, l112, y112, z112⟩, st112⟩ := Jvm.LawKit.callS X104 hx (y := (⟨"com/example/crossbill/crossbill/spill/RowFormat", "bytesOf", "(Ljava/lang/String;)J"⟩ : MethodName)) hown (mvT hZ (o_w hw 57 rfl)) (mvT hZ (o_w hw 58 rfl)) (mvT hZ (o_w hw 59 rfl)) (mvT hZ (o_w hw 60 rfl)) (by decide) (backOf (W := 0) (rm13n3 l Z a0 hw [] t_99 b_99 kb_99 nn_99 vs_99 cc_99 cw T104.heap n0 Z104 F113 F115 F116 F117 F118 hcw B99_5) hZ (o_w hw 60 rfl) (o_w hw 59 rfl) (by decide) (by decide)) (g := o_g G) rfl (by rw [hml]; rfl) (argsL := [(.ref t_99)]) (rest := []) (lenOf pd_13 rfl) rfl (by show 2 * 0 + _ ≤ _; exact Nat.le_of_eq rfl) (hb hby at_33) (fun _ _ => ⟨rfl, rfl, (by decide : 12 + 0 ≤ _), (by decide : 52 + 0 ≤ _)⟩)
  dsimp only [Pt.U, Pt.locs, Pt.cells, Pt.slots] at X112 l112 y112 z112 st112 hQ112
  subst l112 y112 z112
  obtain ⟨rfl, N112q, e112⟩ := hQ112
  have N112 := Fr.app N104 N112q
  replace G := o_nxs (q := 36) (st := [(.long (54 : Int64))]) G st112 rfl
  replace G := o_lstore (q := 38) (l' := #[.val (.int i0), .val (.long l1), .second, .val (.long l2), .second, .val (.int 3), .val (.ref t_99), .val (.ref t_100), .val (.ref t_104), .val (.long (54 : Int64)), .second, .unset, .unset, .unset, .unset, .unset]) G X112.here hx (hb hby at_36) rfl rfl
  replace G := o_aload (q := 40) G X112.here hx (hb hby at_38) rfl rfl rfl
  have F120 := (B100_1.keep K104q)
  have F121 := (B100_2.keep K104q nin0)
  have F122 := (B100_4.keep K104q nin0)
  have F123 := (B100_3.keep K104q nin0)
  obtain ⟨_, _, ⟨T119, L119, kk119, nn119⟩, -, X119, ⟨Lc119, hQ119, l119, y119, z119⟩, st119⟩ := Jvm.LawKit.callS X112 hx (y := (⟨"com/example/crossbill/crossbill/spill/RowFormat", "bytesOf", "(Ljava/lang/String;)J"⟩ : MethodName)) hown (mvT hZ (o_w hw 57 rfl)) (mvT hZ (o_w hw 58 rfl)) (mvT hZ (o_w hw 59 rfl)) (mvT hZ (o_w hw 60 rfl)) (by decide) (backOf (W := 0) (rm13n4 l Z a0 hw [] t_100 b_100 kb_100 nn_100 vs_100 cc_100 cw T104.heap n0 Z104 F120 F115 F121 F122 F123 hcw B100_5) hZ (o_w hw 60 rfl) (o_w hw 59 rfl) (by decide) (by decide)) (g := o_g G) rfl (by rw [hml]; rfl) (argsL := [(.ref t_100)]) (rest := []) (lenOf pd_13 rfl) rfl (by show 2 * 0 + _ ≤ _; exact Nat.le_of_eq rfl) (hb hby at_40) (fun _ _ => ⟨rfl, e112, (by decide : 12 + 0 ≤ _), (by decide : 52 + 0 ≤ _)⟩)
  dsimp only [Pt.U, Pt.locs, Pt.cells, Pt.slots] at X119 l119 y119 z119 st119 hQ119
  subst l119 y119 z119
  obtain ⟨rfl, N119q, e119⟩ := hQ119
  have N119 := Fr.app N112 N119q
  replace G := o_nxs (q := 43) (st := [(.long (56 : Int64))]) G st119 rfl
  replace G := o_lstore (q := 45) (l' := #[.val (.int i0), .val (.long l1), .second, .val (.long l2), .second, .val (.int 3), .val (.ref t_99), .val (.ref t_100), .val (.ref t_104), .val (.long (54 : Int64)), .second, .val (.long (56 : Int64)), .second, .unset, .unset, .unset]) G X119.here hx (hb hby at_43) rfl rfl
  replace G := o_aload (q := 47) G X119.here hx (hb hby at_45) rfl rfl rfl
  obtain ⟨_, _, ⟨T124, L124, kk124, nn124⟩, -, X124, ⟨Lc124, hQ124, l124, y124, z124⟩, st124⟩ := Jvm.LawKit.callS X119 hx (y := (⟨"com/example/crossbill/crossbill/spill/RowFormat", "bytesOf", "(Ljava/lang/String;)J"⟩ : MethodName)) hown (mvT hZ (o_w hw 57 rfl)) (mvT hZ (o_w hw 58 rfl)) (mvT hZ (o_w hw 59 rfl)) (mvT hZ (o_w hw 60 rfl)) (by decide) (backOf (W := 0) (rm13n3 l Z a0 hw [] t_104 b_104 kb_104 nn_104 vs_104 cc_104 cw T104.heap n0 Z104 B104_1 F115 B104_2 B104_4 B104_3 hcw B104_5) hZ (o_w hw 60 rfl) (o_w hw 59 rfl) (by decide) (by decide)) (g := o_g G) rfl (by rw [hml]; rfl) (argsL := [(.ref t_104)]) (rest := []) (lenOf pd_13 rfl) rfl (by show 2 * 0 + _ ≤ _; exact Nat.le_of_eq rfl) (hb hby at_47) (fun _ _ => ⟨rfl, e119, (by decide : 12 + 0 ≤ _), (by decide : 52 + 0 ≤ _)⟩)
  dsimp only [Pt.U, Pt.locs, Pt.cells, Pt.slots] at X124 l124 y124 z124 st124 hQ124
  subst l124 y124 z124
  obtain ⟨rfl, N124q, e124⟩ := hQ124
  have N124 := Fr.app N119 N124q
  replace G := o_nxs (q := 50) (st := [(.long (54 : Int64))]) G st124 rfl
  replace G := o_lstore (q := 52) (l' := #[.val (.int i0), .val (.long l1), .second, .val (.long l2), .second, .val (.int 3), .val (.ref t_99), .val (.ref t_100), .val (.ref t_104), .val (.long (54 : Int64)), .second, .val (.long (56 : Int64)), .second, .val (.long (54 : Int64)), .second, .unset]) G X124.here hx (hb hby at_50) rfl rfl
  replace G := o_lload (q := 54) G X124.here hx (hb hby at_52) rfl rfl
  replace G := o_lconst (q := 55) G X124.here hx (hb hby at_54) (v := (0 : Int64)) (by decide) rfl
  replace G := o_lcmp (q := 56) G X124.here hx (hb hby at_55) rfl
  have hc56_125 : ¬ ((54 : Int64) < (0 : Int64)) := by decide
  replace G := o_ifNo (q := 59) G X124.here hx (hb hby at_56) ((if0 _ _).trans (flt (fun z => hc56_125 ((lw_lt _ _).mp z))).1) rfl
  replace G := o_lload (q := 61) G X124.here hx (hb hby at_59) rfl rfl
  replace G := o_lload (q := 63) G X124.here hx (hb hby at_61) rfl rfl
  replace G := o_lcmp (q := 64) G X124.here hx (hb hby at_63) rfl
  have hc64_126 : (54 : Int64) = (54 : Int64) := by decide
  replace G := o_ifNo (q := 67) G X124.here hx (hb hby at_64) ((if0 _ _).trans (teq ((lw_eq _ _).mpr hc64_126)).2) rfl
  replace G := o_iconst (q := 68) G X124.here hx (hb hby at_67) (v := (1 : Int32)) (by decide) rfl
  replace G := o_goto (q := 72) G X124.here hx (hb hby at_68) (by decide) (by decide)
  replace G := o_istore (q := 74) (l' := #[.val (.int i0), .val (.long l1), .second, .val (.long l2), .second, .val (.int 3), .val (.ref t_99), .val (.ref t_100), .val (.ref t_104), .val (.long (54 : Int64)), .second, .val (.long (56 : Int64)), .second, .val (.long (54 : Int64)), .second, .val (.int 1)]) G X124.here hx (hb hby at_72) rfl rfl
  replace G := o_iload (q := 76) G X124.here hx (hb hby at_74) rfl rfl
  replace G := o_ifYes (q := 110) G X124.here hx (hb hby at_76) (by decide) (by decide) (by decide)
  replace G := o_iload (q := 112) G X124.here hx (hb hby at_110) rfl rfl
  replace G := o_ifNo (q := 115) G X124.here hx (hb hby at_112) (by decide) rfl
  replace G := o_lload (q := 117) G X124.here hx (hb hby at_115) rfl rfl
  replace G := o_lload (q := 119) G X124.here hx (hb hby at_117) rfl rfl
  replace G := o_lsub (q := 120) G X124.here hx (hb hby at_119) (by decide : ((56 : Int64) - (54 : Int64)) = (2 : Int64)) rfl
  replace G := o_nxs (q := 123) (st := [(.long (2 : Int64)), (.long (2 : Int64))]) G (X124.ldc2Long hx hown (mvT hZ (o_w hw 79 rfl)) (g := o_g G) rfl (hb hby at_120)) rfl
  replace G := o_lcmp (q := 124) G X124.here hx (hb hby at_123) rfl
  have hc124_129 : (2 : Int64) = (2 : Int64) := by decide
  replace G := o_ifNo (q := 127) G X124.here hx (hb hby at_124) ((if0 _ _).trans (teq ((lw_eq _ _).mpr hc124_129)).2) rfl
  replace G := o_iconst (q := 128) G X124.here hx (hb hby at_127) (v := (1 : Int32)) (by decide) rfl
  replace G := o_goto (q := 132) G X124.here hx (hb hby at_128) (by decide) (by decide)
  replace G := o_istore (q := 134) (l' := #[.val (.int i0), .val (.long l1), .second, .val (.long l2), .second, .val (.int 3), .val (.ref t_99), .val (.ref t_100), .val (.ref t_104), .val (.long (54 : Int64)), .second, .val (.long (56 : Int64)), .second, .val (.long (54 : Int64)), .second, .val (.int 1)]) G X124.here hx (hb hby at_132) rfl rfl
  replace G := o_iload (q := 136) G X124.here hx (hb hby at_134) rfl rfl
  obtain ⟨fs, hr, hrun, hended, hW, hsame⟩ := X124.leave (v := some (.int 1)) (fun h => by rw [Bd.returns] at h; cases h)
  refine ⟨_, _, G _ (retOut X124 hx Bd.returns rfl (Or.inl ⟨rfl, Or.inr (Or.inl rfl), _, rfl⟩) (hb hby at_136) hr), hrun, hended, _, _, rfl, ?_, ReturnedEndW.of_narrow ⟨_, rfl⟩ hW (hsame.mono (by decide) (by decide))⟩
  show Q0 Z i0 l1 l2 cw h0 n0 _ T124.heap _
  rw [e124]
  exact ⟨rfl, N124⟩
set_option maxRecDepth 65536 in
set_option maxHeartbeats 40000000 in
theorem comes_1 {Post : Tables → Env → Array Value → State → Outcome → State → Prop} (hpost : ∀ tb e args s v u, (limb_1_1.after args s (.returned v) u = true ∧ limb_1_2.after args s (.returned v) u = true ∧ True) → ReturnedEndW s (.returned v) u (Jvm.fieldLocs frame_1_writes args s ++ Jvm.arrayLocs frame_1_arrays args s ++ Jvm.staticLocs frame_1_statics s) 40 1216 → Post tb e args s (.returned v) u) :
    ArmFor flags0 classFile x code maxLocals ret World_1 tables_1 room_1 Calls_1 rest_1 Pre_1 Post := by
  intro l hfl _ _ p e ha hc hk s m args below hf hA hF happ hP
  obtain ⟨hcalls, hrest, hpre⟩ := hP
  obtain ⟨-, -, -, hnamed, -, -, -, hat⟩ := (Spec.applies_iff hf).mp happ
  obtain ⟨hg, hn⟩ := and_e (Cond.before_iff.mp (show (Jvm.Cond.and given_1 narrow_1).before args s = true from hpre))
  obtain ⟨g1, g2⟩ := and_e hg
  obtain ⟨g3, g4⟩ := and_e g2
  obtain ⟨g5, g6⟩ := and_e g4
  obtain ⟨w0, w1, w2, rfl⟩ : ∃ w0 w1 w2 : Value, args = #[w0, w1, w2] := by
    have hs : args.size = 3 := by simpa [Cond.value, given_1] using g1
    obtain ⟨L⟩ := args
    match L, hs with
    | [w0, w1, w2], _ => exact ⟨w0, w1, w2, rfl⟩
  have hw := fun d (hd : d ∈ tables_1) => atoms_spec (ws := Jvm.Cond.code x code maxLocals ret :: tables_1) hat d (List.mem_cons_of_mem _ hd)
  have hfit : Fit s := fun {y c} hc i hi => by
    obtain ⟨ha, rfl⟩ := Array.getElem?_eq_some_iff.mp hc
    have q := List.all_eq_true.mp ((Array.all_eq_true_iff_forall_mem.mp hF) _ (Array.getElem_mem ha)) i (List.mem_range.mpr hi)
    simpa [Array.getElem?_eq_getElem hi] using q
  obtain ⟨hsets, hown0⟩ := atoms_of _ (rest_1_c_eq ▸ (show rest_1_c.before _ s = true from hrest))
  have hr0 := Cond.before_iff.mp hown0
  obtain ⟨i0, ei0⟩ := is_v g3
  obtain rfl : w0 = (.int i0) := Option.some.inj ei0
  obtain ⟨i1, ei1⟩ := isL_v g5
  obtain rfl : w1 = (.long i1) := Option.some.inj ei1
  obtain ⟨i2, ei2⟩ := isL_v g6
  obtain rfl : w2 = (.long i2) := Option.some.inj ei2
  have nc := not_v (Cond.before_iff.mp (hsets _ (List.mem_of_getElem? (i := 2) rfl)))
  obtain ⟨cw, ecw⟩ := is_v (Cond.before_iff.mp (hsets _ (List.mem_of_getElem? (i := 1) rfl)))
  have Scw : Sta s s.heap o_n1 "COMPACT_STRINGS" "Z" (.int cw) := Sta.start ecw (Or.inl (hsets _ (List.mem_of_getElem? (i := 0) rfl)))
  have hcw : ¬ (cw = (0 : Int32)) := gotF (Cond.eq_ints ecw (Term.int_eval (0))) nc
  have S_assertionsDisabled : Sta s s.heap o_n0 "$assertionsDisabled" "Z" (.int 1) := Sta.start (o_eqs (Cond.before_iff.mp (hsets _ (List.mem_of_getElem? (i := 12) rfl)))) (Or.inl (hsets _ (List.mem_of_getElem? (i := 11) rfl)))
  have S_HI_BYTE_SHIFT : Sta s s.heap o_n0 "HI_BYTE_SHIFT" "I" (.int 0) := Sta.start (o_eqs (Cond.before_iff.mp (hsets _ (List.mem_of_getElem? (i := 15) rfl)))) (Or.inl (hsets _ (List.mem_of_getElem? (i := 14) rfl)))
  have S_LO_BYTE_SHIFT : Sta s s.heap o_n0 "LO_BYTE_SHIFT" "I" (.int 8) := Sta.start (o_eqs (Cond.before_iff.mp (hsets _ (List.mem_of_getElem? (i := 18) rfl)))) (Or.inl (hsets _ (List.mem_of_getElem? (i := 17) rfl)))
  have hch : Jvm.Lit.constHeld s o_n1 7 := hcalls.1 _ (List.mem_singleton.mpr rfl)
  have hcb : Jvm.Lit.compactW.before _ s = true := hsets _ (List.mem_of_getElem? (i := 2) rfl)
  obtain ⟨n, o, h1, h2, h3, _, L, rfl, ⟨rfl, N⟩, hq⟩ := rm0 l s _ hw tables_1 i0 i1 i2 cw s.heap s.heap.size (Nat.le_refl _) (Old.start s) S_assertionsDisabled S_HI_BYTE_SHIFT S_LO_BYTE_SHIFT Scw hcw hch hcb p e ha hc hk s m _ below hf ((Spec.applies_iff_loose hf).mp happ).1 ⟨rfl, State.Warmed39.refl s, rfl, IB.start⟩ trivial
  refine ⟨n, _, h1, h2, h3, hpost _ _ _ _ _ _ ⟨Cond.after_iff.mpr rfl, Cond.after_iff.mpr (eq_i res_at (Term.int_eval (1)) rfl), trivial⟩ ⟨hq.1, hq.2.1, hq.2.2.1, (hq.2.2.2.sift fun y hy => Or.inr (N y hy)).mono (by decide) (by decide)⟩⟩
theorem main_1_1 : Claimed_1_1 := comes_1 fun _ _ _ _ _ _ h hF => ⟨h.1, hF⟩
theorem main_1_2 : Claimed_1_2 := comes_1 fun _ _ _ _ _ _ h hF => ⟨h.2.1, hF⟩
end Jvm.Pilot.@@N@@
namespace Jvm.Pilot.@@N@@
open Jvm Jvm.ClassFile Sem Op Lib Jvm.Free Jvm.Stand Jvm.Pilot.@@N@@.Jvm.D
/-! MADE BY PROGRAM (witnessworld.py) out of the Statement's table words and the real class files: 20 classes; the members and pool entries that the words name. The judged class is class 1, her method 2. -/
namespace start1
open Jvm.ClassFile
def u (s : String) : CpInfo := .utf8 (stringToUtf16 s)
/-- a pool by its gaps: so many unusable entries, then the entry; so many at the end -/
def gap : Nat → List CpInfo → List CpInfo
  | 0, r => r
  | n + 1, r => .unusable :: gap n r
def poolList (es : List (Nat × CpInfo)) (last : Nat) : List CpInfo := es.foldr (fun e r => gap e.1 (e.2 :: r)) (gap last [])
def pool (es : List (Nat × CpInfo)) (last : Nat) : Array CpInfo := ⟨poolList es last⟩
def fileOf (pool : Array CpInfo) (this : Nat) (attrs : Array Attribute := #[]) (ms : Array MethodInfo := #[]) (fl : Nat := 33) (sup : Nat := 0) (ifs : Array Nat := #[]) (fds : Array FieldInfo := #[]) : ClassFile where
  minorVersion := 0
  majorVersion := 65
  constantPool := pool
  accessFlags := fl
  thisClass := this
  superClass := sup
  interfaces := ifs
  fields := fds
  methods := ms
  attributes := attrs
def plain (name : String) (sup : Option ClassId) : Class where
  name := name
  kind := .ordinary
  loader := none
  accessFlags := 33
  super := sup
  interfaces := #[]
  cf := none
  fields := #[]
  methods := #[]
  instanceTypes := #[]
  staticTypes := #[]
  resolved := #[]
  callSites := []
  init := .initialized
  statics := none
  mirror := none

def pool0 : Array CpInfo := pool [(5, u "<init>"), (0, u "()V"), (1, .class_ 10), (1, u "java/lang/Object")] 113

def k0c0 : Code := { maxStack := 0, maxLocals := 1, code := object_method_1_code, exceptionTable := #[], attributes := #[] }
def k0m0 : Method := { name := "<init>", desc := "()V", sig := { parameters := [], returnType := none }, accessFlags := 1, code := some k0c0 }
/-- java/lang/Object -/
def k0 : Class := { plain "java/lang/Object" none with
  accessFlags := 33
  interfaces := #[]
  cf := some (fileOf pool0 8 #[] #[{ accessFlags := 1, nameIndex := 5, descriptorIndex := 6, attributes := #[] }] 33 0 #[] #[])
  fields := #[]
  methods := #[k0m0]
  instanceTypes := #[]
  staticTypes := #[]
  resolved := Array.replicate 124 none
  statics := none }

def pool1 : Array CpInfo := pool [(2, .class_ 4), (1, u "java/lang/Object"), (0, u "<init>"), (0, u "()V"), (0, .long 65535), (1, .class_ 10), (0, u "java/lang/String"), (0, .methodref 9 12), (0, .nameAndType 5 13), (0, u "([C)V"), (0, .methodref 15 16), (0, .class_ 17), (0, .nameAndType 18 19), (0, u "com/example/crossbill/crossbill/spill/RowFormatBytesOfPinLaw"), (0, u "text"), (0, u "(IJ)Ljava/lang/String;"), (0, .interfaceMethodref 21 22), (0, .class_ 23), (0, .nameAndType 24 25), (0, u "com/example/crossbill/crossbill/spill/RowFormat"), (0, u "bytesOf"), (0, u "(Ljava/lang/String;)J"), (0, .long 50), (1, .long 2), (4, u "law"), (0, u "(IJJ)Z")] 2

def k1m0 : Method := { name := "<init>", desc := "()V", sig := { parameters := [], returnType := none }, accessFlags := 1, code := none }
def k1c1 : Code := { maxStack := 6, maxLocals := 7, code := method_2_code, exceptionTable := #[], attributes := #[] }
def k1m1 : Method := { name := "text", desc := "(IJ)Ljava/lang/String;", sig := { parameters := [.int, .long], returnType := some (.object "java/lang/String") }, accessFlags := 10, code := some k1c1 }
def k1c2 : Code := { maxStack := 4, maxLocals := 16, code := code, exceptionTable := #[], attributes := #[] }
def k1m2 : Method := { name := "law", desc := "(IJJ)Z", sig := { parameters := [.int, .long, .long], returnType := some .boolean }, accessFlags := 9, code := some k1c2 }
/-- com/example/crossbill/crossbill/spill/RowFormatBytesOfPinLaw -/
def k1 : Class := { plain "com/example/crossbill/crossbill/spill/RowFormatBytesOfPinLaw" (some 0) with
  accessFlags := 49
  interfaces := #[]
  cf := some (fileOf pool1 15 #[] #[{ accessFlags := 1, nameIndex := 5, descriptorIndex := 6, attributes := #[] }, { accessFlags := 10, nameIndex := 18, descriptorIndex := 19, attributes := #[] }, { accessFlags := 9, nameIndex := 33, descriptorIndex := 34, attributes := #[] }] 49 2 #[] #[])
  fields := #[]
  methods := #[k1m0, k1m1, k1m2]
  instanceTypes := #[]
  staticTypes := #[]
  resolved := Array.replicate 37 none
  statics := none }

def pool2 : Array CpInfo := pool [(1, .class_ 2), (0, u "java/io/Serializable"), (0, .class_ 4), (0, u "java/lang/Object")] 2

/-- java/io/Serializable -/
def k2 : Class := { plain "java/io/Serializable" (some 0) with
  accessFlags := 1537
  interfaces := #[]
  cf := some (fileOf pool2 1 #[] #[] 1537 3 #[] #[])
  fields := #[]
  methods := #[]
  instanceTypes := #[]
  staticTypes := #[]
  resolved := Array.replicate 7 none
  statics := none }

def pool3 : Array CpInfo := pool [(1, .class_ 2), (0, u "java/lang/Comparable"), (0, .class_ 4), (0, u "java/lang/Object")] 7

/-- java/lang/Comparable -/
def k3 : Class := { plain "java/lang/Comparable" (some 0) with
  accessFlags := 1537
  interfaces := #[]
  cf := some (fileOf pool3 1 #[] #[] 1537 3 #[] #[])
  fields := #[]
  methods := #[]
  instanceTypes := #[]
  staticTypes := #[]
  resolved := Array.replicate 12 none
  statics := none }

def pool4 : Array CpInfo := pool [(2, .class_ 4), (1, u "java/lang/CharSequence"), (42, .class_ 48), (0, u "java/lang/CharSequence$1CodePointIterator"), (10, .class_ 60), (0, u "java/lang/CharSequence$1CharIterator"), (5, .class_ 67), (0, u "java/lang/Object")] 63

/-- java/lang/CharSequence -/
def k4 : Class := { plain "java/lang/CharSequence" (some 0) with
  accessFlags := 1537
  interfaces := #[]
  cf := some (fileOf pool4 2 #[.nestMembers #[47, 59]] #[] 1537 66 #[] #[])
  fields := #[]
  methods := #[]
  instanceTypes := #[]
  staticTypes := #[]
  resolved := Array.replicate 131 none
  statics := none }

def pool5 : Array CpInfo := pool [(1, .class_ 2), (0, u "java/lang/constant/Constable"), (0, .class_ 4), (0, u "java/lang/Object")] 6

/-- java/lang/constant/Constable -/
def k5 : Class := { plain "java/lang/constant/Constable" (some 0) with
  accessFlags := 1537
  interfaces := #[]
  cf := some (fileOf pool5 1 #[] #[] 1537 3 #[] #[])
  fields := #[]
  methods := #[]
  instanceTypes := #[]
  staticTypes := #[]
  resolved := Array.replicate 11 none
  statics := none }

def pool6 : Array CpInfo := pool [(1, .class_ 2), (0, u "java/lang/constant/ConstantDesc"), (0, .class_ 4), (0, u "java/lang/Object")] 32

/-- java/lang/constant/ConstantDesc -/
def k6 : Class := { plain "java/lang/constant/ConstantDesc" (some 0) with
  accessFlags := 1537
  interfaces := #[]
  cf := some (fileOf pool6 1 #[] #[] 1537 3 #[] #[])
  fields := #[]
  methods := #[]
  instanceTypes := #[]
  staticTypes := #[]
  resolved := Array.replicate 37 none
  statics := none }

def pool7 : Array CpInfo := pool [(1, .methodref 2 3), (0, .class_ 4), (0, .nameAndType 5 6), (0, u "java/lang/Object"), (0, u "<init>"), (0, u "()V"), (0, .string 8), (0, u ""), (0, .fieldref 10 11), (0, .class_ 12), (0, .nameAndType 13 14), (0, u "java/lang/String"), (0, u "value"), (0, u "[B"), (0, .fieldref 10 16), (0, .nameAndType 17 18), (0, u "coder"), (0, u "B"), (2, u "hash"), (0, u "I"), (2, u "hashIsZero"), (0, u "Z"), (0, .methodref 10 28), (0, .nameAndType 5 29), (0, u "([CIILjava/lang/Void;)V"), (8, .fieldref 10 39), (0, .nameAndType 40 26), (0, u "COMPACT_STRINGS"), (1, .class_ 44), (1, u "java/lang/StringUTF16"), (0, u "compress"), (1, .methodref 42 48), (0, .nameAndType 49 50), (0, u "coderFromArrayLen"), (0, u "([BI)B"), (91, u "()Z"), (34, .methodref 42 178), (0, .nameAndType 45 179), (0, u "([CII)[B"), (154, u "()I"), (0, .methodref 10 336), (0, .nameAndType 17 337), (0, u "()B"), (169, u "length"), (67, .class_ 576), (0, u "java/lang/CharSequence"), (22, u "CASE_INSENSITIVE_ORDER"), (0, u "Ljava/util/Comparator;"), (91, u "isEmpty"), (317, u "([C)V"), (90, u "serialPersistentFields"), (0, u "[Ljava/io/ObjectStreamField;"), (0, .class_ 1104), (0, u "java/lang/String$CaseInsensitiveComparator"), (1, .class_ 1107), (0, u "java/io/Serializable"), (0, .class_ 1109), (0, u "java/lang/Comparable"), (0, .class_ 1111), (0, u "java/lang/constant/Constable"), (0, .class_ 1113), (0, u "java/lang/constant/ConstantDesc"), (2, u "serialVersionUID"), (0, u "J"), (3, u "REPL"), (0, u "C"), (2, u "LATIN1"), (1, u "UTF16")] 323

def k7m0 : Method := { name := "<init>", desc := "()V", sig := { parameters := [], returnType := none }, accessFlags := 1, code := none }
def k7c1 : Code := { maxStack := 5, maxLocals := 2, code := jdk_42_method_3_code, exceptionTable := #[], attributes := #[] }
def k7m1 : Method := { name := "<init>", desc := "([C)V", sig := { parameters := [(.array .char)], returnType := none }, accessFlags := 1, code := some k7c1 }
def k7c2 : Code := { maxStack := 2, maxLocals := 1, code := jdk_42_method_54_code, exceptionTable := #[], attributes := #[] }
def k7m2 : Method := { name := "length", desc := "()I", sig := { parameters := [], returnType := some .int }, accessFlags := 1, code := some k7c2 }
def k7c3 : Code := { maxStack := 1, maxLocals := 1, code := jdk_42_method_55_code, exceptionTable := #[], attributes := #[] }
def k7m3 : Method := { name := "isEmpty", desc := "()Z", sig := { parameters := [], returnType := some .boolean }, accessFlags := 1, code := some k7c3 }
def k7c4 : Code := { maxStack := 4, maxLocals := 6, code := jdk_42_method_149_code, exceptionTable := #[], attributes := #[] }
def k7m4 : Method := { name := "<init>", desc := "([CIILjava/lang/Void;)V", sig := { parameters := [(.array .char), .int, .int, (.object "java/lang/Void")], returnType := none }, accessFlags := 2, code := some k7c4 }
def k7c5 : Code := { maxStack := 1, maxLocals := 1, code := jdk_42_method_152_code, exceptionTable := #[], attributes := #[] }
def k7m5 : Method := { name := "coder", desc := "()B", sig := { parameters := [], returnType := some .byte }, accessFlags := 0, code := some k7c5 }
/-- java/lang/String -/
def k7 : Class := { plain "java/lang/String" (some 0) with
  accessFlags := 49
  interfaces := #[2, 3, 4, 5, 6]
  cf := some (fileOf pool7 10 #[.nestMembers #[1103]] #[{ accessFlags := 1, nameIndex := 5, descriptorIndex := 6, attributes := #[] }, { accessFlags := 1, nameIndex := 5, descriptorIndex := 1010, attributes := #[] }, { accessFlags := 1, nameIndex := 507, descriptorIndex := 334, attributes := #[] }, { accessFlags := 1, nameIndex := 692, descriptorIndex := 142, attributes := #[] }, { accessFlags := 2, nameIndex := 5, descriptorIndex := 29, attributes := #[] }, { accessFlags := 0, nameIndex := 17, descriptorIndex := 337, attributes := #[] }] 49 2 #[1106, 1108, 575, 1110, 1112] #[{ accessFlags := 18, nameIndex := 13, descriptorIndex := 14, attributes := #[] }, { accessFlags := 18, nameIndex := 17, descriptorIndex := 18, attributes := #[] }, { accessFlags := 2, nameIndex := 21, descriptorIndex := 22, attributes := #[] }, { accessFlags := 2, nameIndex := 25, descriptorIndex := 26, attributes := #[] }, { accessFlags := 26, nameIndex := 1116, descriptorIndex := 1117, attributes := #[] }, { accessFlags := 24, nameIndex := 40, descriptorIndex := 26, attributes := #[] }, { accessFlags := 26, nameIndex := 1101, descriptorIndex := 1102, attributes := #[] }, { accessFlags := 26, nameIndex := 1121, descriptorIndex := 1122, attributes := #[] }, { accessFlags := 25, nameIndex := 599, descriptorIndex := 600, attributes := #[] }, { accessFlags := 24, nameIndex := 1125, descriptorIndex := 18, attributes := #[] }, { accessFlags := 24, nameIndex := 1127, descriptorIndex := 18, attributes := #[] }])
  fields := #[{ name := "value", type := (.array .byte), accessFlags := 18, slot := 0, constantValue := 0 }, { name := "coder", type := .byte, accessFlags := 18, slot := 1, constantValue := 0 }, { name := "hash", type := .int, accessFlags := 2, slot := 2, constantValue := 0 }, { name := "hashIsZero", type := .boolean, accessFlags := 2, slot := 3, constantValue := 0 }, { name := "serialVersionUID", type := .long, accessFlags := 26, slot := 0, constantValue := 0 }, { name := "COMPACT_STRINGS", type := .boolean, accessFlags := 24, slot := 1, constantValue := 0 }, { name := "serialPersistentFields", type := (.array (.object "java/io/ObjectStreamField")), accessFlags := 26, slot := 2, constantValue := 0 }, { name := "REPL", type := .char, accessFlags := 26, slot := 3, constantValue := 0 }, { name := "CASE_INSENSITIVE_ORDER", type := (.object "java/util/Comparator"), accessFlags := 25, slot := 4, constantValue := 0 }, { name := "LATIN1", type := .byte, accessFlags := 24, slot := 5, constantValue := 0 }, { name := "UTF16", type := .byte, accessFlags := 24, slot := 6, constantValue := 0 }]
  methods := #[k7m0, k7m1, k7m2, k7m3, k7m4, k7m5]
  instanceTypes := #[(.array .byte), .byte, .int, .boolean]
  staticTypes := #[.long, .boolean, (.array (.object "java/io/ObjectStreamField")), .char, (.object "java/util/Comparator"), .byte, .byte]
  resolved := Array.replicate 1451 none
  statics := some 0 }

def pool8 : Array CpInfo := pool [(6, .class_ 8), (1, u "java/lang/Object"), (0, u "<init>"), (0, u "()V"), (0, .methodref 12 13), (0, .class_ 14), (0, .nameAndType 15 16), (0, u "java/lang/StringUTF16"), (0, u "newBytesLength"), (0, u "(I)I"), (3, .integer 1073741823), (23, .fieldref 12 45), (0, .nameAndType 46 47), (0, u "$assertionsDisabled"), (0, u "Z"), (11, .fieldref 12 60), (0, .nameAndType 61 62), (0, u "HI_BYTE_SHIFT"), (0, u "I"), (0, .fieldref 12 64), (0, .nameAndType 65 62), (0, u "LO_BYTE_SHIFT"), (5, .methodref 12 72), (0, .nameAndType 73 74), (0, u "getChar"), (0, u "([BI)C"), (32, .methodref 12 108), (0, .nameAndType 109 110), (0, u "newBytesFor"), (0, u "(I)[B"), (0, .methodref 12 112), (0, .nameAndType 113 114), (0, u "putChar"), (0, u "([BII)V"), (0, .methodref 12 116), (0, .nameAndType 117 118), (0, u "compress"), (0, u "([CI[BII)I"), (0, .methodref 12 120), (0, .nameAndType 121 122), (0, u "toBytes"), (0, u "([CII)[B"), (138, u "coderFromArrayLen"), (0, u "([BI)B"), (106, .class_ 371), (1, u "java/lang/StringUTF16$LinesSpliterator"), (58, u "MAX_LENGTH"), (196, .class_ 628), (0, u "java/lang/StringUTF16$CodePointsSpliterator"), (0, .class_ 630), (0, u "java/lang/StringUTF16$CharsSpliterator")] 4

def k8m0 : Method := { name := "<init>", desc := "()V", sig := { parameters := [], returnType := none }, accessFlags := 0, code := none }
def k8c1 : Code := { maxStack := 1, maxLocals := 1, code := jdk_52_method_2_code, exceptionTable := #[], attributes := #[] }
def k8m1 : Method := { name := "newBytesFor", desc := "(I)[B", sig := { parameters := [.int], returnType := some (.array .byte) }, accessFlags := 9, code := some k8c1 }
def k8c2 : Code := { maxStack := 4, maxLocals := 1, code := jdk_52_method_3_code, exceptionTable := #[], attributes := #[] }
def k8m2 : Method := { name := "newBytesLength", desc := "(I)I", sig := { parameters := [.int], returnType := some .int }, accessFlags := 9, code := some k8c2 }
def k8c3 : Code := { maxStack := 4, maxLocals := 3, code := jdk_52_method_4_code, exceptionTable := #[], attributes := #[] }
def k8m3 : Method := { name := "putChar", desc := "([BII)V", sig := { parameters := [(.array .byte), .int, .int], returnType := none }, accessFlags := 8, code := some k8c3 }
def k8c4 : Code := { maxStack := 3, maxLocals := 2, code := jdk_52_method_5_code, exceptionTable := #[], attributes := #[] }
def k8m4 : Method := { name := "getChar", desc := "([BI)C", sig := { parameters := [(.array .byte), .int], returnType := some .char }, accessFlags := 8, code := some k8c4 }
def k8c5 : Code := { maxStack := 4, maxLocals := 5, code := jdk_52_method_14_code, exceptionTable := #[], attributes := #[] }
def k8m5 : Method := { name := "toBytes", desc := "([CII)[B", sig := { parameters := [(.array .char), .int, .int], returnType := some (.array .byte) }, accessFlags := 9, code := some k8c5 }
def k8c6 : Code := { maxStack := 2, maxLocals := 2, code := jdk_52_method_15_code, exceptionTable := #[], attributes := #[] }
def k8m6 : Method := { name := "coderFromArrayLen", desc := "([BI)B", sig := { parameters := [(.array .byte), .int], returnType := some .byte }, accessFlags := 8, code := some k8c6 }
def k8c7 : Code := { maxStack := 5, maxLocals := 6, code := jdk_52_method_16_code, exceptionTable := #[], attributes := #[] }
def k8m7 : Method := { name := "compress", desc := "([CII)[B", sig := { parameters := [(.array .char), .int, .int], returnType := some (.array .byte) }, accessFlags := 9, code := some k8c7 }
def k8c8 : Code := { maxStack := 3, maxLocals := 7, code := jdk_52_method_21_code, exceptionTable := #[], attributes := #[] }
def k8m8 : Method := { name := "compress", desc := "([CI[BII)I", sig := { parameters := [(.array .char), .int, (.array .byte), .int, .int], returnType := some .int }, accessFlags := 9, code := some k8c8 }
/-- java/lang/StringUTF16 -/
def k8 : Class := { plain "java/lang/StringUTF16" (some 0) with
  accessFlags := 48
  interfaces := #[]
  cf := some (fileOf pool8 12 #[.nestMembers #[627, 629, 369]] #[{ accessFlags := 0, nameIndex := 9, descriptorIndex := 10, attributes := #[] }, { accessFlags := 9, nameIndex := 109, descriptorIndex := 110, attributes := #[] }, { accessFlags := 9, nameIndex := 15, descriptorIndex := 16, attributes := #[] }, { accessFlags := 8, nameIndex := 113, descriptorIndex := 114, attributes := #[] }, { accessFlags := 8, nameIndex := 73, descriptorIndex := 74, attributes := #[] }, { accessFlags := 9, nameIndex := 121, descriptorIndex := 122, attributes := #[] }, { accessFlags := 8, nameIndex := 261, descriptorIndex := 262, attributes := #[] }, { accessFlags := 9, nameIndex := 117, descriptorIndex := 122, attributes := #[] }, { accessFlags := 9, nameIndex := 117, descriptorIndex := 118, attributes := #[] }] 48 6 #[] #[{ accessFlags := 26, nameIndex := 61, descriptorIndex := 62, attributes := #[] }, { accessFlags := 26, nameIndex := 65, descriptorIndex := 62, attributes := #[] }, { accessFlags := 24, nameIndex := 430, descriptorIndex := 62, attributes := #[] }, { accessFlags := 4120, nameIndex := 46, descriptorIndex := 47, attributes := #[] }])
  fields := #[{ name := "HI_BYTE_SHIFT", type := .int, accessFlags := 26, slot := 0, constantValue := 0 }, { name := "LO_BYTE_SHIFT", type := .int, accessFlags := 26, slot := 1, constantValue := 0 }, { name := "MAX_LENGTH", type := .int, accessFlags := 24, slot := 2, constantValue := 0 }, { name := "$assertionsDisabled", type := .boolean, accessFlags := 4120, slot := 3, constantValue := 0 }]
  methods := #[k8m0, k8m1, k8m2, k8m3, k8m4, k8m5, k8m6, k8m7, k8m8]
  instanceTypes := #[]
  staticTypes := #[.int, .int, .int, .boolean]
  resolved := Array.replicate 635 none
  statics := some 1 }

def pool9 : Array CpInfo := pool [(1, .methodref 2 3), (0, .class_ 4), (0, .nameAndType 5 6), (0, u "java/lang/String"), (0, u "isEmpty"), (0, u "()Z"), (0, .long 48), (1, .long 2), (1, .methodref 2 12), (0, .nameAndType 13 14), (0, u "length"), (0, u "()I"), (0, .class_ 16), (0, u "com/example/crossbill/crossbill/spill/RowFormat"), (0, .class_ 18), (0, u "java/lang/Object"), (13, u "bytesOf"), (0, u "(Ljava/lang/String;)J")] 6

def k9c0 : Code := { maxStack := 6, maxLocals := 3, code := prog_37_method_4_code, exceptionTable := #[], attributes := #[] }
def k9m0 : Method := { name := "bytesOf", desc := "(Ljava/lang/String;)J", sig := { parameters := [(.object "java/lang/String")], returnType := some .long }, accessFlags := 9, code := some k9c0 }
/-- com/example/crossbill/crossbill/spill/RowFormat -/
def k9 : Class := { plain "com/example/crossbill/crossbill/spill/RowFormat" (some 0) with
  accessFlags := 1537
  interfaces := #[]
  cf := some (fileOf pool9 15 #[] #[{ accessFlags := 9, nameIndex := 32, descriptorIndex := 33, attributes := #[] }] 1537 17 #[] #[])
  fields := #[]
  methods := #[k9m0]
  instanceTypes := #[]
  staticTypes := #[]
  resolved := Array.replicate 40 none
  statics := none }

def pool10 : Array CpInfo := pool [(4, .class_ 6), (1, u "java/lang/Object"), (0, u "<init>"), (0, u "()V"), (5, .class_ 16), (1, u "java/lang/StringLatin1"), (104, u "$assertionsDisabled"), (0, u "Z"), (98, .class_ 223), (1, u "java/lang/StringLatin1$LinesSpliterator"), (166, .class_ 391), (0, u "java/lang/StringLatin1$CharsSpliterator")] 3

def k10m0 : Method := { name := "<init>", desc := "()V", sig := { parameters := [], returnType := none }, accessFlags := 0, code := none }
/-- java/lang/StringLatin1 -/
def k10 : Class := { plain "java/lang/StringLatin1" (some 0) with
  accessFlags := 48
  interfaces := #[]
  cf := some (fileOf pool10 14 #[.nestMembers #[390, 221]] #[{ accessFlags := 0, nameIndex := 7, descriptorIndex := 8, attributes := #[] }] 48 4 #[] #[{ accessFlags := 4120, nameIndex := 121, descriptorIndex := 122, attributes := #[] }])
  fields := #[{ name := "$assertionsDisabled", type := .boolean, accessFlags := 4120, slot := 0, constantValue := 0 }]
  methods := #[k10m0]
  instanceTypes := #[]
  staticTypes := #[.boolean]
  resolved := Array.replicate 395 none
  statics := none }

def pool11 : Array CpInfo := pool [(2, .class_ 4), (1, u "java/lang/Object"), (0, u "<init>"), (0, u "()V"), (17, .class_ 26), (1, u "jdk/internal/util/Preconditions"), (28, .class_ 56), (0, u "jdk/internal/util/Preconditions$4"), (57, .class_ 115), (0, u "jdk/internal/util/Preconditions$1"), (7, u "SIOOBE_FORMATTER"), (0, u "Ljava/util/function/BiFunction;"), (0, .class_ 126), (0, u "jdk/internal/util/Preconditions$2"), (3, u "AIOOBE_FORMATTER"), (0, .class_ 132), (0, u "jdk/internal/util/Preconditions$3"), (3, u "IOOBE_FORMATTER")] 57

def k11m0 : Method := { name := "<init>", desc := "()V", sig := { parameters := [], returnType := none }, accessFlags := 1, code := none }
/-- jdk/internal/util/Preconditions -/
def k11 : Class := { plain "jdk/internal/util/Preconditions" (some 0) with
  accessFlags := 33
  interfaces := #[]
  cf := some (fileOf pool11 24 #[.nestMembers #[55, 131, 125, 114]] #[{ accessFlags := 1, nameIndex := 5, descriptorIndex := 6, attributes := #[] }] 33 2 #[] #[{ accessFlags := 25, nameIndex := 123, descriptorIndex := 124, attributes := #[] }, { accessFlags := 25, nameIndex := 130, descriptorIndex := 124, attributes := #[] }, { accessFlags := 25, nameIndex := 136, descriptorIndex := 124, attributes := #[] }])
  fields := #[{ name := "SIOOBE_FORMATTER", type := (.object "java/util/function/BiFunction"), accessFlags := 25, slot := 0, constantValue := 0 }, { name := "AIOOBE_FORMATTER", type := (.object "java/util/function/BiFunction"), accessFlags := 25, slot := 1, constantValue := 0 }, { name := "IOOBE_FORMATTER", type := (.object "java/util/function/BiFunction"), accessFlags := 25, slot := 2, constantValue := 0 }]
  methods := #[k11m0]
  instanceTypes := #[]
  staticTypes := #[(.object "java/util/function/BiFunction"), (.object "java/util/function/BiFunction"), (.object "java/util/function/BiFunction")]
  resolved := Array.replicate 194 none
  statics := some 2 }

def pool12 : Array CpInfo := pool [(9, u "<init>"), (6, .class_ 18), (1, u "java/lang/Object"), (0, u "()V"), (1, .class_ 23), (1, u "jdk/internal/util/ArraysSupport"), (0, u "LOG2_ARRAY_LONG_INDEX_SCALE"), (0, u "I"), (2, u "U"), (0, u "Ljdk/internal/misc/Unsafe;"), (8, u "BIG_ENDIAN"), (0, u "Z"), (8, u "LOG2_BYTE_BIT_SIZE"), (4, u "LOG2_ARRAY_INT_INDEX_SCALE"), (54, u "JLA"), (0, u "Ljdk/internal/access/JavaLangAccess;"), (11, u "LOG2_ARRAY_BOOLEAN_INDEX_SCALE"), (9, u "LOG2_ARRAY_BYTE_INDEX_SCALE"), (5, u "LOG2_ARRAY_CHAR_INDEX_SCALE"), (5, u "LOG2_ARRAY_SHORT_INDEX_SCALE"), (18, u "LOG2_ARRAY_FLOAT_INDEX_SCALE"), (24, u "LOG2_ARRAY_DOUBLE_INDEX_SCALE"), (89, u "T_BOOLEAN"), (2, u "T_CHAR"), (1, u "T_FLOAT"), (1, u "T_DOUBLE"), (1, u "T_BYTE"), (1, u "T_SHORT"), (1, u "T_INT"), (1, u "T_LONG"), (1, u "SOFT_MAX_ARRAY_LENGTH")] 83

def k12m0 : Method := { name := "<init>", desc := "()V", sig := { parameters := [], returnType := none }, accessFlags := 2, code := none }
/-- jdk/internal/util/ArraysSupport -/
def k12 : Class := { plain "jdk/internal/util/ArraysSupport" (some 0) with
  accessFlags := 33
  interfaces := #[]
  cf := some (fileOf pool12 21 #[] #[{ accessFlags := 2, nameIndex := 9, descriptorIndex := 19, attributes := #[] }] 33 16 #[] #[{ accessFlags := 24, nameIndex := 28, descriptorIndex := 29, attributes := #[] }, { accessFlags := 26, nameIndex := 38, descriptorIndex := 39, attributes := #[] }, { accessFlags := 25, nameIndex := 121, descriptorIndex := 25, attributes := #[] }, { accessFlags := 25, nameIndex := 131, descriptorIndex := 25, attributes := #[] }, { accessFlags := 25, nameIndex := 137, descriptorIndex := 25, attributes := #[] }, { accessFlags := 25, nameIndex := 143, descriptorIndex := 25, attributes := #[] }, { accessFlags := 25, nameIndex := 53, descriptorIndex := 25, attributes := #[] }, { accessFlags := 25, nameIndex := 24, descriptorIndex := 25, attributes := #[] }, { accessFlags := 25, nameIndex := 162, descriptorIndex := 25, attributes := #[] }, { accessFlags := 25, nameIndex := 187, descriptorIndex := 25, attributes := #[] }, { accessFlags := 26, nameIndex := 48, descriptorIndex := 25, attributes := #[] }, { accessFlags := 25, nameIndex := 277, descriptorIndex := 25, attributes := #[] }, { accessFlags := 25, nameIndex := 280, descriptorIndex := 25, attributes := #[] }, { accessFlags := 25, nameIndex := 282, descriptorIndex := 25, attributes := #[] }, { accessFlags := 25, nameIndex := 284, descriptorIndex := 25, attributes := #[] }, { accessFlags := 25, nameIndex := 286, descriptorIndex := 25, attributes := #[] }, { accessFlags := 25, nameIndex := 288, descriptorIndex := 25, attributes := #[] }, { accessFlags := 25, nameIndex := 290, descriptorIndex := 25, attributes := #[] }, { accessFlags := 25, nameIndex := 292, descriptorIndex := 25, attributes := #[] }, { accessFlags := 26, nameIndex := 108, descriptorIndex := 109, attributes := #[] }, { accessFlags := 25, nameIndex := 294, descriptorIndex := 25, attributes := #[] }])
  fields := #[{ name := "U", type := (.object "jdk/internal/misc/Unsafe"), accessFlags := 24, slot := 0, constantValue := 0 }, { name := "BIG_ENDIAN", type := .boolean, accessFlags := 26, slot := 1, constantValue := 0 }, { name := "LOG2_ARRAY_BOOLEAN_INDEX_SCALE", type := .int, accessFlags := 25, slot := 2, constantValue := 0 }, { name := "LOG2_ARRAY_BYTE_INDEX_SCALE", type := .int, accessFlags := 25, slot := 3, constantValue := 0 }, { name := "LOG2_ARRAY_CHAR_INDEX_SCALE", type := .int, accessFlags := 25, slot := 4, constantValue := 0 }, { name := "LOG2_ARRAY_SHORT_INDEX_SCALE", type := .int, accessFlags := 25, slot := 5, constantValue := 0 }, { name := "LOG2_ARRAY_INT_INDEX_SCALE", type := .int, accessFlags := 25, slot := 6, constantValue := 0 }, { name := "LOG2_ARRAY_LONG_INDEX_SCALE", type := .int, accessFlags := 25, slot := 7, constantValue := 0 }, { name := "LOG2_ARRAY_FLOAT_INDEX_SCALE", type := .int, accessFlags := 25, slot := 8, constantValue := 0 }, { name := "LOG2_ARRAY_DOUBLE_INDEX_SCALE", type := .int, accessFlags := 25, slot := 9, constantValue := 0 }, { name := "LOG2_BYTE_BIT_SIZE", type := .int, accessFlags := 26, slot := 10, constantValue := 0 }, { name := "T_BOOLEAN", type := .int, accessFlags := 25, slot := 11, constantValue := 0 }, { name := "T_CHAR", type := .int, accessFlags := 25, slot := 12, constantValue := 0 }, { name := "T_FLOAT", type := .int, accessFlags := 25, slot := 13, constantValue := 0 }, { name := "T_DOUBLE", type := .int, accessFlags := 25, slot := 14, constantValue := 0 }, { name := "T_BYTE", type := .int, accessFlags := 25, slot := 15, constantValue := 0 }, { name := "T_SHORT", type := .int, accessFlags := 25, slot := 16, constantValue := 0 }, { name := "T_INT", type := .int, accessFlags := 25, slot := 17, constantValue := 0 }, { name := "T_LONG", type := .int, accessFlags := 25, slot := 18, constantValue := 0 }, { name := "JLA", type := (.object "jdk/internal/access/JavaLangAccess"), accessFlags := 26, slot := 19, constantValue := 0 }, { name := "SOFT_MAX_ARRAY_LENGTH", type := .int, accessFlags := 25, slot := 20, constantValue := 0 }]
  methods := #[k12m0]
  instanceTypes := #[]
  staticTypes := #[(.object "jdk/internal/misc/Unsafe"), .boolean, .int, .int, .int, .int, .int, .int, .int, .int, .int, .int, .int, .int, .int, .int, .int, .int, .int, (.object "jdk/internal/access/JavaLangAccess"), .int]
  resolved := Array.replicate 378 none
  statics := none }

def pool13 : Array CpInfo := pool [(1, u "java/lang/Cloneable"), (0, .class_ 1), (0, u "java/lang/Object"), (0, .class_ 3)] 3

/-- java/lang/Cloneable -/
def k13 : Class := { plain "java/lang/Cloneable" (some 0) with
  accessFlags := 1537
  interfaces := #[]
  cf := some (fileOf pool13 2 #[] #[] 1537 4 #[] #[])
  fields := #[]
  methods := #[]
  instanceTypes := #[]
  staticTypes := #[]
  resolved := Array.replicate 8 none
  statics := none }

/-- the primitive byte -/
def k14 : Class := { plain "byte" none with kind := .primitive 'B', accessFlags := 0x411 }
/-- [B -/
def k15 : Class := { plain "[B" (some 0) with kind := .array 14 .byte, interfaces := #[13, 2], accessFlags := 1041 }

/-- the primitive char -/
def k16 : Class := { plain "char" none with kind := .primitive 'C', accessFlags := 0x411 }
/-- [C -/
def k17 : Class := { plain "[C" (some 0) with kind := .array 16 .char, interfaces := #[13, 2], accessFlags := 1041 }

/-- the primitive int -/
def k18 : Class := { plain "int" none with kind := .primitive 'I', accessFlags := 0x411 }
/-- [I -/
def k19 : Class := { plain "[I" (some 0) with kind := .array 18 .int, interfaces := #[13, 2], accessFlags := 1041 }

def heap : Heap := #[{ cls := 7, slots := #[.long 0, .int 1, .null, .int 0, .null, .int 0, .int 0], vm := .statics 7 },
  { cls := 8, slots := #[.int 0, .int 8, .int 0, .int 1], vm := .statics 8 },
  { cls := 11, slots := #[.null, .null, .null], vm := .statics 11 }]
def classes : Array Class := #[k0, k1, k2, k3, k4, k5, k6, k7, k8, k9, k10, k11, k12, k13, k14, k15, k16, k17, k18, k19]
def interned : List (Array UInt16 × Addr) := []
def slotsUsed : Nat := 14
def theMethod : MethodId := ⟨1, 2⟩
def args0 : Array Value := #[.int 5, .long 70000, .long 99]
def aboutOver (below : List Frame) : State where
  vm := { classes := classes, interned := interned.toArray }
  heap := heap
  slotsUsed := slotsUsed
  threads := #[{ frames := .invoking theMethod args0 :: below }]
def below0 : List Frame := [.native { method := ⟨0, 0⟩, args := #[] }]
def about1 : State := aboutOver below0
def p0 : Program := .bare "" "" ""
def e0 : Env := launch0.env 0 0 0
theorem w_frames : about1.frames = Frame.invoking theMethod args0 :: below0 := rfl
set_option maxRecDepth 65536 in
theorem w_args : argsFit about1.vm theMethod args0 = true := by decide +kernel
set_option maxRecDepth 65536 in
theorem w_heap : heapFits about1 = true := by decide +kernel
set_option maxRecDepth 65536 in
theorem w_runnable : about1.curStatus? = some .runnable := by decide +kernel
set_option maxRecDepth 65536 in
theorem w_alone : about1.alone = true := by decide +kernel
set_option maxRecDepth 65536 in
theorem w_named : about1.methodNamed? x = some theMethod := by decide +kernel
set_option maxRecDepth 65536 in
theorem w_hears : about1.hears theMethod below0 = true := by decide +kernel
set_option maxRecDepth 65536 in
theorem w_ripe : about1.ripe theMethod args0 below0 = true := by decide +kernel
theorem w_running : about1.status = .running := rfl
set_option maxRecDepth 65536 in
theorem w_room : about1.hasRoom e0.platform room_1 = true :=
  launch0.hasRoom_least _ room_1 (by decide +kernel) (by decide +kernel) (by decide +kernel) (by decide +kernel) (by decide +kernel) (by decide +kernel)
theorem allAtoms_all (ts : List Jvm.Cond) (a : Array Jvm.Value) (st : Jvm.State) : (allAtoms ts).before a st = ts.all (fun c => c.before a st) := by
  induction ts with
  | nil => rfl
  | cons c t ih =>
    show (Jvm.Cond.and c (allAtoms t)).before a st = _
    rw [Jvm.Cond.before_and, ih, List.all_cons]
def words1 : List Jvm.Cond := Jvm.Cond.code x code maxLocals ret :: tables_1
/-- a 'code' word, met by the world's own term for the bytes: nothing is compared byte by byte -/
theorem code_word {y : MethodName} {bytes : ByteArray} {mx : Nat} {rt : Option FieldType} {a : Array Value} {s : State} {m : MethodId} {meth : Method} {c : Code} (h1 : s.methodNamed? y = some m) (h2 : s.vm.method? m = some meth) (h3 : meth.code = some c) (h4 : c.code = bytes)
    (h5 : (c.maxLocals == mx && c.exceptionTable.isEmpty && decide (c.maxStack ≤ mostOperands) && decide (meth.sig.returnType = rt) && !meth.locks && decide (parseMethodDescriptor y.desc = some meth.sig)) = true) : (Jvm.Cond.code y bytes mx rt).before a s = true := by
  simp only [Bool.and_eq_true, beq_iff_eq, Bool.not_eq_true', decide_eq_true_eq] at h5
  obtain ⟨⟨⟨⟨⟨g1, g2⟩, g3⟩, g4⟩, g5⟩, g6⟩ := h5
  simp [Cond.before, Cond.holds, Cond.value, h1, h2, h3, h4, g1, g2, g3, g4, g5, g6]
def isCode : Jvm.Cond → Bool
  | .code _ _ _ _ => true
  | _ => false
theorem all_split {L : List Jvm.Cond} {P : Jvm.Cond → Bool} (h1 : L.all (fun c => isCode c || P c) = true) (h2 : ∀ c ∈ L.filter isCode, P c = true) : L.all P = true := by
  refine List.all_eq_true.mpr fun c hc => ?_
  have h := List.all_eq_true.mp h1 c hc
  rcases Bool.eq_false_or_eq_true (isCode c) with hi | hi
  · exact h2 c (List.mem_filter.mpr ⟨hc, hi⟩)
  · simpa [hi] using h
set_option maxRecDepth 65536 in
theorem w_c0 : (Jvm.Cond.code x code maxLocals ret).before args0 about1 = true := code_word (m := ⟨1, 2⟩) (meth := k1m2) (c := k1c2) (by decide +kernel) rfl rfl rfl (by decide +kernel)
set_option maxRecDepth 65536 in
theorem w_c1 : (Jvm.Cond.code ({ cls := "com/example/crossbill/crossbill/spill/RowFormatBytesOfPinLaw", name := "text", desc := "(IJ)Ljava/lang/String;" } : Jvm.MethodName) method_2_code (7 : Nat) (Option.some (Jvm.ClassFile.FieldType.object "java/lang/String"))).before args0 about1 = true := code_word (m := ⟨1, 1⟩) (meth := k1m1) (c := k1c1) (by decide +kernel) rfl rfl rfl (by decide +kernel)
set_option maxRecDepth 65536 in
theorem w_c2 : (Jvm.Cond.code ({ cls := "java/lang/String", name := "<init>", desc := "([C)V" } : Jvm.MethodName) jdk_42_method_3_code (2 : Nat) (Option.none : Option Jvm.ClassFile.FieldType)).before args0 about1 = true := code_word (m := ⟨7, 1⟩) (meth := k7m1) (c := k7c1) (by decide +kernel) rfl rfl rfl (by decide +kernel)
set_option maxRecDepth 65536 in
theorem w_c3 : (Jvm.Cond.code ({ cls := "java/lang/String", name := "<init>", desc := "([CIILjava/lang/Void;)V" } : Jvm.MethodName) jdk_42_method_149_code (6 : Nat) (Option.none : Option Jvm.ClassFile.FieldType)).before args0 about1 = true := code_word (m := ⟨7, 4⟩) (meth := k7m4) (c := k7c4) (by decide +kernel) rfl rfl rfl (by decide +kernel)
set_option maxRecDepth 65536 in
theorem w_c4 : (Jvm.Cond.code ({ cls := "java/lang/Object", name := "<init>", desc := "()V" } : Jvm.MethodName) object_method_1_code (1 : Nat) (Option.none : Option Jvm.ClassFile.FieldType)).before args0 about1 = true := code_word (m := ⟨0, 0⟩) (meth := k0m0) (c := k0c0) (by decide +kernel) rfl rfl rfl (by decide +kernel)
set_option maxRecDepth 65536 in
theorem w_c5 : (Jvm.Cond.code ({ cls := "java/lang/StringUTF16", name := "compress", desc := "([CII)[B" } : Jvm.MethodName) jdk_52_method_16_code (6 : Nat) (Option.some (Jvm.ClassFile.FieldType.array Jvm.ClassFile.FieldType.byte))).before args0 about1 = true := code_word (m := ⟨8, 7⟩) (meth := k8m7) (c := k8c7) (by decide +kernel) rfl rfl rfl (by decide +kernel)
set_option maxRecDepth 65536 in
theorem w_c6 : (Jvm.Cond.code ({ cls := "java/lang/StringUTF16", name := "compress", desc := "([CI[BII)I" } : Jvm.MethodName) jdk_52_method_21_code (7 : Nat) (Option.some Jvm.ClassFile.FieldType.int)).before args0 about1 = true := code_word (m := ⟨8, 8⟩) (meth := k8m8) (c := k8c8) (by decide +kernel) rfl rfl rfl (by decide +kernel)
set_option maxRecDepth 65536 in
theorem w_c7 : (Jvm.Cond.code ({ cls := "java/lang/StringUTF16", name := "toBytes", desc := "([CII)[B" } : Jvm.MethodName) jdk_52_method_14_code (5 : Nat) (Option.some (Jvm.ClassFile.FieldType.array Jvm.ClassFile.FieldType.byte))).before args0 about1 = true := code_word (m := ⟨8, 5⟩) (meth := k8m5) (c := k8c5) (by decide +kernel) rfl rfl rfl (by decide +kernel)
set_option maxRecDepth 65536 in
theorem w_c8 : (Jvm.Cond.code ({ cls := "java/lang/StringUTF16", name := "newBytesFor", desc := "(I)[B" } : Jvm.MethodName) jdk_52_method_2_code (1 : Nat) (Option.some (Jvm.ClassFile.FieldType.array Jvm.ClassFile.FieldType.byte))).before args0 about1 = true := code_word (m := ⟨8, 1⟩) (meth := k8m1) (c := k8c1) (by decide +kernel) rfl rfl rfl (by decide +kernel)
set_option maxRecDepth 65536 in
theorem w_c9 : (Jvm.Cond.code ({ cls := "java/lang/StringUTF16", name := "newBytesLength", desc := "(I)I" } : Jvm.MethodName) jdk_52_method_3_code (1 : Nat) (Option.some Jvm.ClassFile.FieldType.int)).before args0 about1 = true := code_word (m := ⟨8, 2⟩) (meth := k8m2) (c := k8c2) (by decide +kernel) rfl rfl rfl (by decide +kernel)
set_option maxRecDepth 65536 in
theorem w_c10 : (Jvm.Cond.code ({ cls := "java/lang/StringUTF16", name := "putChar", desc := "([BII)V" } : Jvm.MethodName) jdk_52_method_4_code (3 : Nat) (Option.none : Option Jvm.ClassFile.FieldType)).before args0 about1 = true := code_word (m := ⟨8, 3⟩) (meth := k8m3) (c := k8c3) (by decide +kernel) rfl rfl rfl (by decide +kernel)
set_option maxRecDepth 65536 in
theorem w_c11 : (Jvm.Cond.code ({ cls := "java/lang/StringUTF16", name := "getChar", desc := "([BI)C" } : Jvm.MethodName) jdk_52_method_5_code (2 : Nat) (Option.some Jvm.ClassFile.FieldType.char)).before args0 about1 = true := code_word (m := ⟨8, 4⟩) (meth := k8m4) (c := k8c4) (by decide +kernel) rfl rfl rfl (by decide +kernel)
set_option maxRecDepth 65536 in
theorem w_c12 : (Jvm.Cond.code ({ cls := "java/lang/StringUTF16", name := "coderFromArrayLen", desc := "([BI)B" } : Jvm.MethodName) jdk_52_method_15_code (2 : Nat) (Option.some Jvm.ClassFile.FieldType.byte)).before args0 about1 = true := code_word (m := ⟨8, 6⟩) (meth := k8m6) (c := k8c6) (by decide +kernel) rfl rfl rfl (by decide +kernel)
set_option maxRecDepth 65536 in
theorem w_c13 : (Jvm.Cond.code ({ cls := "com/example/crossbill/crossbill/spill/RowFormat", name := "bytesOf", desc := "(Ljava/lang/String;)J" } : Jvm.MethodName) prog_37_method_4_code (3 : Nat) (Option.some Jvm.ClassFile.FieldType.long)).before args0 about1 = true := code_word (m := ⟨9, 0⟩) (meth := k9m0) (c := k9c0) (by decide +kernel) rfl rfl rfl (by decide +kernel)
set_option maxRecDepth 65536 in
theorem w_c14 : (Jvm.Cond.code ({ cls := "java/lang/String", name := "isEmpty", desc := "()Z" } : Jvm.MethodName) jdk_42_method_55_code (1 : Nat) (Option.some Jvm.ClassFile.FieldType.boolean)).before args0 about1 = true := code_word (m := ⟨7, 3⟩) (meth := k7m3) (c := k7c3) (by decide +kernel) rfl rfl rfl (by decide +kernel)
set_option maxRecDepth 65536 in
theorem w_c15 : (Jvm.Cond.code ({ cls := "java/lang/String", name := "length", desc := "()I" } : Jvm.MethodName) jdk_42_method_54_code (1 : Nat) (Option.some Jvm.ClassFile.FieldType.int)).before args0 about1 = true := code_word (m := ⟨7, 2⟩) (meth := k7m2) (c := k7c2) (by decide +kernel) rfl rfl rfl (by decide +kernel)
set_option maxRecDepth 65536 in
theorem w_c16 : (Jvm.Cond.code ({ cls := "java/lang/String", name := "coder", desc := "()B" } : Jvm.MethodName) jdk_42_method_152_code (1 : Nat) (Option.some Jvm.ClassFile.FieldType.byte)).before args0 about1 = true := code_word (m := ⟨7, 5⟩) (meth := k7m5) (c := k7c5) (by decide +kernel) rfl rfl rfl (by decide +kernel)
def codes1 : List Jvm.Cond := [Jvm.Cond.code x code maxLocals ret, Jvm.Cond.code ({ cls := "com/example/crossbill/crossbill/spill/RowFormatBytesOfPinLaw", name := "text", desc := "(IJ)Ljava/lang/String;" } : Jvm.MethodName) method_2_code (7 : Nat) (Option.some (Jvm.ClassFile.FieldType.object "java/lang/String")), Jvm.Cond.code ({ cls := "java/lang/String", name := "<init>", desc := "([C)V" } : Jvm.MethodName) jdk_42_method_3_code (2 : Nat) (Option.none : Option Jvm.ClassFile.FieldType), Jvm.Cond.code ({ cls := "java/lang/String", name := "<init>", desc := "([CIILjava/lang/Void;)V" } : Jvm.MethodName) jdk_42_method_149_code (6 : Nat) (Option.none : Option Jvm.ClassFile.FieldType), Jvm.Cond.code ({ cls := "java/lang/Object", name := "<init>", desc := "()V" } : Jvm.MethodName) object_method_1_code (1 : Nat) (Option.none : Option Jvm.ClassFile.FieldType), Jvm.Cond.code ({ cls := "java/lang/StringUTF16", name := "compress", desc := "([CII)[B" } : Jvm.MethodName) jdk_52_method_16_code (6 : Nat) (Option.some (Jvm.ClassFile.FieldType.array Jvm.ClassFile.FieldType.byte)), Jvm.Cond.code ({ cls := "java/lang/StringUTF16", name := "compress", desc := "([CI[BII)I" } : Jvm.MethodName) jdk_52_method_21_code (7 : Nat) (Option.some Jvm.ClassFile.FieldType.int), Jvm.Cond.code ({ cls := "java/lang/StringUTF16", name := "toBytes", desc := "([CII)[B" } : Jvm.MethodName) jdk_52_method_14_code (5 : Nat) (Option.some (Jvm.ClassFile.FieldType.array Jvm.ClassFile.FieldType.byte)), Jvm.Cond.code ({ cls := "java/lang/StringUTF16", name := "newBytesFor", desc := "(I)[B" } : Jvm.MethodName) jdk_52_method_2_code (1 : Nat) (Option.some (Jvm.ClassFile.FieldType.array Jvm.ClassFile.FieldType.byte)), Jvm.Cond.code ({ cls := "java/lang/StringUTF16", name := "newBytesLength", desc := "(I)I" } : Jvm.MethodName) jdk_52_method_3_code (1 : Nat) (Option.some Jvm.ClassFile.FieldType.int), Jvm.Cond.code ({ cls := "java/lang/StringUTF16", name := "putChar", desc := "([BII)V" } : Jvm.MethodName) jdk_52_method_4_code (3 : Nat) (Option.none : Option Jvm.ClassFile.FieldType), Jvm.Cond.code ({ cls := "java/lang/StringUTF16", name := "getChar", desc := "([BI)C" } : Jvm.MethodName) jdk_52_method_5_code (2 : Nat) (Option.some Jvm.ClassFile.FieldType.char), Jvm.Cond.code ({ cls := "java/lang/StringUTF16", name := "coderFromArrayLen", desc := "([BI)B" } : Jvm.MethodName) jdk_52_method_15_code (2 : Nat) (Option.some Jvm.ClassFile.FieldType.byte), Jvm.Cond.code ({ cls := "com/example/crossbill/crossbill/spill/RowFormat", name := "bytesOf", desc := "(Ljava/lang/String;)J" } : Jvm.MethodName) prog_37_method_4_code (3 : Nat) (Option.some Jvm.ClassFile.FieldType.long), Jvm.Cond.code ({ cls := "java/lang/String", name := "isEmpty", desc := "()Z" } : Jvm.MethodName) jdk_42_method_55_code (1 : Nat) (Option.some Jvm.ClassFile.FieldType.boolean), Jvm.Cond.code ({ cls := "java/lang/String", name := "length", desc := "()I" } : Jvm.MethodName) jdk_42_method_54_code (1 : Nat) (Option.some Jvm.ClassFile.FieldType.int), Jvm.Cond.code ({ cls := "java/lang/String", name := "coder", desc := "()B" } : Jvm.MethodName) jdk_42_method_152_code (1 : Nat) (Option.some Jvm.ClassFile.FieldType.byte)]
set_option maxRecDepth 65536 in
theorem codes_eq : words1.filter isCode = codes1 := rfl
theorem w_codes : ∀ c ∈ words1.filter isCode, c.before args0 about1 = true := by
  rw [codes_eq]
  intro c hc
  simp only [codes1, List.mem_cons, List.not_mem_nil, or_false] at hc
  rcases hc with rfl | rfl | rfl | rfl | rfl | rfl | rfl | rfl | rfl | rfl | rfl | rfl | rfl | rfl | rfl | rfl | rfl
  · exact w_c0
  · exact w_c1
  · exact w_c2
  · exact w_c3
  · exact w_c4
  · exact w_c5
  · exact w_c6
  · exact w_c7
  · exact w_c8
  · exact w_c9
  · exact w_c10
  · exact w_c11
  · exact w_c12
  · exact w_c13
  · exact w_c14
  · exact w_c15
  · exact w_c16
set_option maxRecDepth 65536 in
theorem w_t1 : (words1.take 24).all (fun c => isCode c || c.before args0 about1) = true := by decide +kernel
set_option maxRecDepth 65536 in
theorem w_t2 : ((words1.drop 24).take 24).all (fun c => isCode c || c.before args0 about1) = true := by decide +kernel
set_option maxRecDepth 65536 in
theorem w_t3 : (((words1.drop 24).drop 24).take 24).all (fun c => isCode c || c.before args0 about1) = true := by decide +kernel
set_option maxRecDepth 65536 in
theorem w_t4 : (((words1.drop 24).drop 24).drop 24).all (fun c => isCode c || c.before args0 about1) = true := by decide +kernel
theorem w_tables : (allAtoms (Jvm.Cond.code x code maxLocals ret :: tables_1)).before args0 about1 = true := by
  rw [allAtoms_all]
  show words1.all (fun c => c.before args0 about1) = true
  refine all_split ?_ w_codes
  rw [← List.take_append_drop 24 words1, List.all_append, w_t1, ← List.take_append_drop 24 (words1.drop 24), List.all_append, w_t2, ← List.take_append_drop 24 ((words1.drop 24).drop 24), List.all_append, w_t3, w_t4]
  rfl
set_option maxRecDepth 65536 in
theorem w_rest : rest_1_c.before args0 about1 = true := by decide +kernel
set_option maxRecDepth 65536 in
theorem w_case : (Jvm.Cond.and given_1 narrow_1).before args0 about1 = true := by decide +kernel
set_option maxRecDepth 65536 in
theorem w_consts : constsHeld consts_1 about1 := Jvm.Lit.constsHeldB_iff.mp (by decide +kernel)
theorem w_applies : (headSpec (Jvm.Cond.code x code maxLocals ret :: tables_1) room_1).applies x e0.platform about1 = true :=
  (Spec.applies_iff w_frames).mpr ⟨w_running, w_runnable, w_alone, w_named, w_hears, w_ripe, w_room, w_tables⟩
theorem atStart : AtStart classFile x code maxLocals ret World_1 tables_1 room_1 Calls_1 rest_1 Pre_1 launch0 p0 e0 about1 theMethod args0 below0 :=
  ⟨lists_1, trivial, launch0.admits_env _ _ _, launch0.least_env, fairChoices_fair.cas, fairChoices_fair.clock, w_frames, w_args, w_heap, w_applies, ⟨w_consts, trivial⟩, w_rest, w_case⟩
end start1
theorem witness_1 : WitnessClaimed_1 := ⟨start1.p0, start1.e0, start1.about1, start1.theMethod, start1.args0, start1.below0, start1.atStart⟩
end Jvm.Pilot.@@N@@

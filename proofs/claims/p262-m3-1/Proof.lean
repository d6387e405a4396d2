import JvmDerived
import JvmDerived.Pilot.@@N@@Statement
import JvmDerived.Pilot.@@N@@Code
set_option linter.unusedVariables false
set_option linter.unusedSimpArgs false
namespace Jvm.Pilot.@@N@@
open Jvm Jvm.ClassFile Sem Op Lib Jvm.Free Jvm.Stand Jvm.LawKit Jvm.RoadKit Bundle Jvm.Pilot.@@N@@.Jvm.D
abbrev Gets (p : Program) (e : Env) (below : List Frame) (S0 S : State) : Prop := ∀ t, Steps p.tables e below S t → Steps p.tables e below S0 t
section Own
variable {p : Program} {e : Env} {below : List Frame} {S0 T : State} {m : MethodId} {c : Code} {pc q : Nat} {Ls : Array Slot} {st : List Value}
theorem o_iadd {x y v : Int32} (G : Gets p e below S0 (T.setTop (mkF m pc Ls (.int y :: .int x :: st)))) (h : At T m c below) (hx : p.tables.exec = Jvm.exec) (hd : decode c.code pc = .ok (.iadd, 1)) (hv : x + y = v) (hq : pc + 1 = q) : Gets p e below S0 (T.setTop (mkF m q Ls (.int v :: st))) := by
  subst hv hq; exact fun t k => G t (XS.iadd h hx rfl hd rfl k)
theorem o_isub {x y v : Int32} (G : Gets p e below S0 (T.setTop (mkF m pc Ls (.int y :: .int x :: st)))) (h : At T m c below) (hx : p.tables.exec = Jvm.exec) (hd : decode c.code pc = .ok (.isub, 1)) (hv : x - y = v) (hq : pc + 1 = q) : Gets p e below S0 (T.setTop (mkF m q Ls (.int v :: st))) := by
  subst hv hq; exact fun t k => G t (XS.isub h hx rfl hd rfl k)
theorem o_imul {x y v : Int32} (G : Gets p e below S0 (T.setTop (mkF m pc Ls (.int y :: .int x :: st)))) (h : At T m c below) (hx : p.tables.exec = Jvm.exec) (hd : decode c.code pc = .ok (.imul, 1)) (hv : x * y = v) (hq : pc + 1 = q) : Gets p e below S0 (T.setTop (mkF m q Ls (.int v :: st))) := by
  subst hv hq; exact fun t k => G t (XS.imul h hx rfl hd rfl k)
theorem o_iand {x y v : Int32} (G : Gets p e below S0 (T.setTop (mkF m pc Ls (.int y :: .int x :: st)))) (h : At T m c below) (hx : p.tables.exec = Jvm.exec) (hd : decode c.code pc = .ok (.iand, 1)) (hv : x &&& y = v) (hq : pc + 1 = q) : Gets p e below S0 (T.setTop (mkF m q Ls (.int v :: st))) := by
  subst hv hq; exact fun t k => G t (XS.iand h hx rfl hd rfl k)
theorem o_idiv {x y v : Int32} (G : Gets p e below S0 (T.setTop (mkF m pc Ls (.int y :: .int x :: st)))) (h : At T m c below) (hx : p.tables.exec = Jvm.exec) (hd : decode c.code pc = .ok (.idiv, 1)) (hy : y ≠ 0) (hv : x / y = v) (hq : pc + 1 = q) : Gets p e below S0 (T.setTop (mkF m q Ls (.int v :: st))) := by
  subst hv hq; exact fun t k => G t (XS.idiv h hx rfl hd rfl hy k)
theorem o_irem {x y v : Int32} (G : Gets p e below S0 (T.setTop (mkF m pc Ls (.int y :: .int x :: st)))) (h : At T m c below) (hx : p.tables.exec = Jvm.exec) (hd : decode c.code pc = .ok (.irem, 1)) (hy : y ≠ 0) (hv : x % y = v) (hq : pc + 1 = q) : Gets p e below S0 (T.setTop (mkF m q Ls (.int v :: st))) := by
  subst hv hq; exact fun t k => G t (XS.irem h hx rfl hd rfl hy (by rw [Jvm.irem_eq_mod]; exact k))
theorem o_dadd {x y v : UInt64} (G : Gets p e below S0 (T.setTop (mkF m pc Ls (.double y :: .double x :: st)))) (h : At T m c below) (hx : p.tables.exec = Jvm.exec) (hd : decode c.code pc = .ok (.dadd, 1)) (hn : Jvm.Free.Fl.NoNaN64 (FP.dadd x y)) (hv : FP.dadd x y = v) (hq : pc + 1 = q) : Gets p e below S0 (T.setTop (mkF m q Ls (.double v :: st))) := by
  subst hq; exact fun t k => G t (XS.daddS h hx rfl hd rfl hn hv k)
theorem o_ddiv {x y v : UInt64} (G : Gets p e below S0 (T.setTop (mkF m pc Ls (.double y :: .double x :: st)))) (h : At T m c below) (hx : p.tables.exec = Jvm.exec) (hd : decode c.code pc = .ok (.ddiv, 1)) (hn : Jvm.Free.Fl.NoNaN64 (FP.ddiv x y)) (hv : FP.ddiv x y = v) (hq : pc + 1 = q) : Gets p e below S0 (T.setTop (mkF m q Ls (.double v :: st))) := by
  subst hq; exact fun t k => G t (XS.ddivS h hx rfl hd rfl hn hv k)
theorem o_dcmp {o : CmpOp} {x y : UInt64} {v : Int32} (G : Gets p e below S0 (T.setTop (mkF m pc Ls (.double y :: .double x :: st)))) (h : At T m c below) (hx : p.tables.exec = Jvm.exec) (hd : decode c.code pc = .ok (.dcmp o, 1)) (hv : cmpValue (FP.dcmp x y) o = v) (hq : pc + 1 = q) : Gets p e below S0 (T.setTop (mkF m q Ls (.int v :: st))) := by
  subst hq; exact fun t k => G t (XS.dcmpS h hx rfl hd rfl hv k)
theorem o_dconst0 {v : UInt64} (G : Gets p e below S0 (T.setTop (mkF m pc Ls st))) (h : At T m c below) (hx : p.tables.exec = Jvm.exec) (hd : decode c.code pc = .ok (.dconst 0, 1)) (hv : FP.dconst0 = v) (hq : pc + 1 = q) : Gets p e below S0 (T.setTop (mkF m q Ls (.double v :: st))) := by
  subst hq; exact fun t k => G t (XS.dconst0 h hx rfl hd hv k)
theorem o_dconst1 {v : UInt64} (G : Gets p e below S0 (T.setTop (mkF m pc Ls st))) (h : At T m c below) (hx : p.tables.exec = Jvm.exec) (hd : decode c.code pc = .ok (.dconst 1, 1)) (hv : FP.dconst1 = v) (hq : pc + 1 = q) : Gets p e below S0 (T.setTop (mkF m q Ls (.double v :: st))) := by
  subst hq; exact fun t k => G t (XS.dconst1 h hx rfl hd hv k)
theorem o_iconst {i : Int} {v : Int32} (G : Gets p e below S0 (T.setTop (mkF m pc Ls st))) (h : At T m c below) (hx : p.tables.exec = Jvm.exec) (hd : decode c.code pc = .ok (.iconst i, 1)) (hv : Int32.ofInt i = v) (hq : pc + 1 = q) : Gets p e below S0 (T.setTop (mkF m q Ls (.int v :: st))) := by
  subst hv hq; exact fun t k => G t (XS.iconst h hx rfl hd k)
theorem o_bipush {i : Int} {v : Int32} (G : Gets p e below S0 (T.setTop (mkF m pc Ls st))) (h : At T m c below) (hx : p.tables.exec = Jvm.exec) (hd : decode c.code pc = .ok (.bipush i, 2)) (hv : (Int8.ofInt i).toInt32 = v) (hq : pc + 2 = q) : Gets p e below S0 (T.setTop (mkF m q Ls (.int v :: st))) := by
  subst hv hq; exact fun t k => G t (XS.bipush h hx rfl hd k)
theorem o_aconst_null  (G : Gets p e below S0 (T.setTop (mkF m pc Ls st))) (h : At T m c below) (hx : p.tables.exec = Jvm.exec) (hd : decode c.code pc = .ok (.aconst_null, 1))  (hq : pc + 1 = q) : Gets p e below S0 (T.setTop (mkF m q Ls (.null :: st))) := by
  subst hq; exact fun t k => G t (XS.aconstNull h hx rfl hd k)
theorem o_iload {i : Nat} {v : Int32} (G : Gets p e below S0 (T.setTop (mkF m pc Ls st))) (h : At T m c below) (hx : p.tables.exec = Jvm.exec) (hd : decode c.code pc = .ok (.iload i, 2)) (hl : Ls[i]? = some (.val (.int v))) (hq : pc + 2 = q) : Gets p e below S0 (T.setTop (mkF m q Ls (.int v :: st))) := by
  subst hq; exact fun t k => G t (XS.iload h hx rfl hd hl k)
theorem o_iloadN {i : Fin 4} {v : Int32} (G : Gets p e below S0 (T.setTop (mkF m pc Ls st))) (h : At T m c below) (hx : p.tables.exec = Jvm.exec) (hd : decode c.code pc = .ok (.iload_n i, 1)) (hl : Ls[i.val]? = some (.val (.int v))) (hq : pc + 1 = q) : Gets p e below S0 (T.setTop (mkF m q Ls (.int v :: st))) := by
  subst hq; exact fun t k => G t (XS.iloadN h hx rfl hd hl k)
theorem o_aload {i : Nat} {v : Value} (G : Gets p e below S0 (T.setTop (mkF m pc Ls st))) (h : At T m c below) (hx : p.tables.exec = Jvm.exec) (hd : decode c.code pc = .ok (.aload i, 2)) (hl : Ls[i]? = some (.val v)) (hv : v.isRef = true) (hq : pc + 2 = q) : Gets p e below S0 (T.setTop (mkF m q Ls (v :: st))) := by
  subst hq; exact fun t k => G t (XS.aload h hx rfl hd hl hv k)
theorem o_aloadN {i : Fin 4} {v : Value} (G : Gets p e below S0 (T.setTop (mkF m pc Ls st))) (h : At T m c below) (hx : p.tables.exec = Jvm.exec) (hd : decode c.code pc = .ok (.aload_n i, 1)) (hl : Ls[i.val]? = some (.val v)) (hv : v.isRef = true) (hq : pc + 1 = q) : Gets p e below S0 (T.setTop (mkF m q Ls (v :: st))) := by
  subst hq; exact fun t k => G t (XS.aloadN h hx rfl hd hl hv k)
theorem o_istore {i : Nat} {v : Int32} {l' : Array Slot} (G : Gets p e below S0 (T.setTop (mkF m pc Ls (.int v :: st)))) (h : At T m c below) (hx : p.tables.exec = Jvm.exec) (hd : decode c.code pc = .ok (.istore i, 2)) (hl : storeLocals Ls i (.int v) = some l') (hq : pc + 2 = q) : Gets p e below S0 (T.setTop (mkF m q l' st)) := by
  subst hq; exact fun t k => G t (XS.istore h hx rfl hd rfl hl k)
theorem o_istoreN {i : Fin 4} {v : Int32} {l' : Array Slot} (G : Gets p e below S0 (T.setTop (mkF m pc Ls (.int v :: st)))) (h : At T m c below) (hx : p.tables.exec = Jvm.exec) (hd : decode c.code pc = .ok (.istore_n i, 1)) (hl : storeLocals Ls i.val (.int v) = some l') (hq : pc + 1 = q) : Gets p e below S0 (T.setTop (mkF m q l' st)) := by
  subst hq; exact fun t k => G t (XS.istoreN h hx rfl hd rfl hl k)
theorem o_astore {i : Nat} {v : Value} {l' : Array Slot} (G : Gets p e below S0 (T.setTop (mkF m pc Ls (v :: st)))) (h : At T m c below) (hx : p.tables.exec = Jvm.exec) (hd : decode c.code pc = .ok (.astore i, 2)) (hv : v.isRef = true) (hl : storeLocals Ls i v = some l') (hq : pc + 2 = q) : Gets p e below S0 (T.setTop (mkF m q l' st)) := by
  subst hq; exact fun t k => G t (XS.astore h hx rfl hd rfl hv hl k)
theorem o_iinc {i : Nat} {d : Int} {x w v : Int32} {l' : Array Slot} (G : Gets p e below S0 (T.setTop (mkF m pc Ls st))) (h : At T m c below) (hx : p.tables.exec = Jvm.exec) (hd : decode c.code pc = .ok (.iinc i d, 3)) (hw : Int32.ofInt d = w) (hl : Ls[i]? = some (.val (.int x))) (hv : x + w = v) (hl' : storeLocals Ls i (.int v) = some l') (hq : pc + 3 = q) : Gets p e below S0 (T.setTop (mkF m q l' st)) := by
  subst hw hv hq; exact fun t k => G t (XS.iinc h hx rfl hd hl hl' k)
theorem o_dup {x : Value} (G : Gets p e below S0 (T.setTop (mkF m pc Ls (x :: st)))) (h : At T m c below) (hx : p.tables.exec = Jvm.exec) (hd : decode c.code pc = .ok (.dup, 1)) (hc : x.category = 1) (hq : pc + 1 = q) : Gets p e below S0 (T.setTop (mkF m q Ls (x :: x :: st))) := by
  subst hq; exact fun t k => G t (XS.dup h hx rfl hd rfl hc k)
theorem o_dup2 {x y : Value} (G : Gets p e below S0 (T.setTop (mkF m pc Ls (x :: y :: st)))) (h : At T m c below) (hx : p.tables.exec = Jvm.exec) (hd : decode c.code pc = .ok (.dup2, 1)) (hc : x.category = 1) (hc2 : y.category = 1) (hq : pc + 1 = q) : Gets p e below S0 (T.setTop (mkF m q Ls (x :: y :: x :: y :: st))) := by
  subst hq; exact fun t k => G t (Jvm.Free.XT.dup2 h hx rfl hd rfl hc hc2 k)
theorem o_goto {o : Int} (G : Gets p e below S0 (T.setTop (mkF m pc Ls st))) (h : At T m c below) (hx : p.tables.exec = Jvm.exec) (hd : decode c.code pc = .ok (.goto o, 3))  (ho : 0 ≤ (pc : Int) + o) (hp : ((pc : Int) + o).toNat = q) : Gets p e below S0 (T.setTop (mkF m q Ls st)) := by
  exact fun t k => G t (XS.goto h hx rfl rfl hd ho hp k)
theorem o_ifYes {cd : ClassFile.Cond} {o : Int} {x : Int32} (G : Gets p e below S0 (T.setTop (mkF m pc Ls (.int x :: st)))) (h : At T m c below) (hx : p.tables.exec = Jvm.exec) (hd : decode c.code pc = .ok (.ifCond cd o, 3)) (hc : ifCond.holds cd x = true) (ho : 0 ≤ (pc : Int) + o) (hp : ((pc : Int) + o).toNat = q) : Gets p e below S0 (T.setTop (mkF m q Ls st)) := by
  exact fun t k => G t (XS.ifYes h hx rfl rfl hd rfl hc ho hp k)
theorem o_ifNo {cd : ClassFile.Cond} {o : Int} {x : Int32} (G : Gets p e below S0 (T.setTop (mkF m pc Ls (.int x :: st)))) (h : At T m c below) (hx : p.tables.exec = Jvm.exec) (hd : decode c.code pc = .ok (.ifCond cd o, 3)) (hc : ifCond.holds cd x = false) (hq : pc + 3 = q) : Gets p e below S0 (T.setTop (mkF m q Ls st)) := by
  subst hq; exact fun t k => G t (XS.ifNo h hx rfl hd rfl hc k)
theorem o_icmpYes {cd : ClassFile.Cond} {o : Int} {x y : Int32} (G : Gets p e below S0 (T.setTop (mkF m pc Ls (.int y :: .int x :: st)))) (h : At T m c below) (hx : p.tables.exec = Jvm.exec) (hd : decode c.code pc = .ok (.if_icmp cd o, 3)) (hc : if_icmp.holds cd x y = true) (ho : 0 ≤ (pc : Int) + o) (hp : ((pc : Int) + o).toNat = q) : Gets p e below S0 (T.setTop (mkF m q Ls st)) := by
  exact fun t k => G t (XS.icmpYes h hx rfl rfl hd rfl hc ho hp k)
theorem o_icmpNo {cd : ClassFile.Cond} {o : Int} {x y : Int32} (G : Gets p e below S0 (T.setTop (mkF m pc Ls (.int y :: .int x :: st)))) (h : At T m c below) (hx : p.tables.exec = Jvm.exec) (hd : decode c.code pc = .ok (.if_icmp cd o, 3)) (hc : if_icmp.holds cd x y = false) (hq : pc + 3 = q) : Gets p e below S0 (T.setTop (mkF m q Ls st)) := by
  subst hq; exact fun t k => G t (XS.icmpNo h hx rfl hd rfl hc k)
theorem o_ifnonnullNo {o : Int} (G : Gets p e below S0 (T.setTop (mkF m pc Ls (.null :: st)))) (h : At T m c below) (hx : p.tables.exec = Jvm.exec) (hd : decode c.code pc = .ok (.ifnonnull o, 3))  (hq : pc + 3 = q) : Gets p e below S0 (T.setTop (mkF m q Ls st)) := by
  subst hq; exact fun t k => G t (XS.ifnonnullNo h hx rfl hd rfl k)
theorem o_sel {s : State} {args : Array Value} {y z : MethodName} (hz : z.cls = y.cls) (w1 : (Jvm.Cond.instanceMethod z).before args s = true) (w2 : (Jvm.Cond.selects z.cls z z).before args s = true) (hinst : (Jvm.Cond.instanceMethod y).before args s = true) (hp : s.PrivateAt y) (hy : y.cls ≠ "java/lang/invoke/MethodHandle" ∧ y.cls ≠ "java/lang/invoke/VarHandle") : (Jvm.Cond.selects y.cls y y).before args s = true := by
  obtain ⟨r, mz, hn, -, -, -⟩ := Cond.instanceMethod_spec w1
  obtain ⟨k, hk, hi⟩ := notFace_of_selects w2 r hn
  exact selects_self_of_private (hz ▸ findClass_of_methodNamed hn) hk hi hp hinst hy
theorem o_w {a0 : Array Value} {Z : State} (hw : ∀ d ∈ tables_1, d.before a0 Z = true) (i : Nat) {d : Jvm.Cond} (h : tables_1[i]? = some d) : d.before a0 Z = true := hw _ (List.mem_of_getElem? h)
theorem o_nxs {T' : State} {st0 : List Value} {g' : JFrame} (G : Gets p e below S0 (T.setTop (mkF m pc Ls st0))) (s : ∀ t, Steps p.tables e below (T'.setTop g') t → Steps p.tables e below (T.setTop (mkF m pc Ls st0)) t) (hg : g' = mkF m q Ls st) : Gets p e below S0 (T'.setTop (mkF m q Ls st)) := by
  subst hg; exact fun t k => G t (s t k)
theorem o_re {st0 : List Value} (G : Gets p e below S0 (T.setTop (mkF m pc Ls st0))) (hg : st0 = st) : Gets p e below S0 (T.setTop (mkF m pc Ls st)) := by
  subst hg; exact G
theorem o_vb {l : Launch} {R : Room} {s : State} {args : Array Value} {meth : Method} {locs : List Loc} {cells slots : Nat} {Z : State} {a0 : Array Value} {h : Heap} {rest : List Value} {own C : String} {index : Nat} {y : MethodName} {bytes : ByteArray} {maxL : Nat} {ret : Option FieldType} {rm : Room} {Q : Option Value → Heap → List Loc → Prop} {W : Nat} {b : Addr} {argsL : List Value}
    (G : Gets p e below S0 (T.setTop (mkF m pc Ls st))) (X : Stand p l e R s m args below meth c T locs cells slots) (hx : p.tables.exec = Jvm.exec) (hZ : Z.Warmed39 s.vm) (hown : s.vm.findClass own = some m.cls) (hml : Ls.size = c.maxLocals)
    (w : (Cond.methodLink own index y).before a0 Z = true ∧ (Cond.declares y).before a0 Z = true ∧ (Cond.selects C y y).before a0 Z = true ∧ (Cond.instanceMethod y).before a0 Z = true ∧ (Cond.code y bytes maxL ret).before a0 Z = true ∧ (Cond.initialized y.cls).before a0 Z = true)
    (hy : y.cls ≠ "java/lang/invoke/MethodHandle" ∧ y.cls ≠ "java/lang/invoke/VarHandle") (eT : T.heap = h) (F : Exa Z h b C)
    (hM : MetFree l y (head1 [Cond.code y bytes maxL ret] rm) (fun a U => a = (.ref b :: argsL).toArray ∧ Z.Warmed39 U.vm ∧ U.heap = h) (fun _ _ _ _ _ => True) (fun _ U o U' => ∃ v L, o = .returned v ∧ Q v U'.heap L ∧ FrameEnd U o U' L rm.cells rm.slots))
    (hlen : ∀ sig, parseMethodDescriptor y.desc = some sig → argsL.length = sig.parameters.length) (hstack : st = argsL.reverse ++ .ref b :: rest) (hW : (rest.map fun v => v.category).sum ≤ W)
    (hd : decode c.code pc = .ok (.invokevirtual index, 3)) (hq : pc + 3 = q) (hf : rm.frames + 1 ≤ R.frames) (hl : W + (maxL + 11) + rm.locals ≤ R.locals) (hc : cells + rm.cells ≤ R.cells) (hs : slots + rm.slots ≤ R.slots) :
    ∃ T' v L, Stand p l e R s m args below meth c T' (locs ++ L) (cells + rm.cells) (slots + rm.slots) ∧ Q v T'.heap L ∧ Gets p e below S0 (T'.setTop (mkF m q Ls (v.toList ++ rest))) := by
  obtain ⟨cq, kq, qa, qb, qc⟩ := isOf hZ eT F
  obtain ⟨v, _, ⟨T', L', kk, nn⟩, -, X', ⟨Lc, hQ, l1, y1, z1⟩, s1⟩ := X.virtualBack hx (y := y) (z := y) hown (mvT hZ w.1) (mvT hZ w.2.1) (notFace_of_selects (args := #[]) (mvT hZ w.2.2.1)) (mvT hZ w.2.2.1) (mvT hZ w.2.2.2.1) hy (backOf (W := W) hM hZ w.2.2.2.2.1 w.2.2.2.2.2 hf hl) qa qc (g := mkF m pc Ls st) rfl hml (Steps.refl _) (argsL := argsL) (rest := rest) hlen hstack (by show 2 * 0 + _ ≤ _; omega) hd (fun _ _ => ⟨rfl, eT, hc, hs⟩)
  dsimp only [Pt.U, Pt.locs, Pt.cells, Pt.slots] at X' l1 y1 z1 s1 hQ
  subst l1 y1 z1 hq
  exact ⟨T', v, Lc, X', hQ, fun t k => G t (s1.trans k)⟩
theorem o_nxv {T' : State} {st0 : List Value} {g' : JFrame} (G : Gets p e below S0 (T.setTop (mkF m pc Ls st0))) (s : Steps p.tables e below (T.setTop (mkF m pc Ls st0)) (T'.setTop g')) (hg : g' = mkF m q Ls st) : Gets p e below S0 (T'.setTop (mkF m q Ls st)) := by
  subst hg; exact fun t k => G t (s.trans k)
end Own
abbrev o_n0 : String := "com/example/gridwright/gridwright/core/ActivityOrder"
abbrev o_n1 : String := "com/example/gridwright/gridwright/core/ActivityOrderDecayPinLaw"
abbrev o_d0 : UInt64 := 4607182418800017408
abbrev o_d1 : UInt64 := 4607419450359352697
abbrev o_d2 : UInt64 := 4607668957263916160
abbrev o_g {p : Program} {e : Env} {below : List Frame} {S0 T : State} {g : JFrame} (_ : Gets p e below S0 (T.setTop g)) : JFrame := g
theorem o_lt32 {x y : Int32} : x < y ↔ x.toInt < y.toInt := Int32.lt_iff_toInt_lt
theorem o_rem {i u : Int32} (d : Int32) (k : Int) (hk : d.toInt = k) (h0 : 0 < k) (h : (u &&& 2147483647) % d = i) : 0 ≤ i.toInt ∧ i.toInt < k := by
  have a1 := c_mask u 2147483647 31 (by decide) (by decide)
  have a2 := (c_irem (u &&& 2147483647) d k hk).1 (by omega)
  rw [h] at a2
  have m2 := Int.emod_nonneg (u &&& 2147483647).toInt (show k ≠ 0 by omega)
  have m3 := Int.emod_lt_of_pos (u &&& 2147483647).toInt h0
  omega
theorem o_num {i : Int32} (k : Int32) (h : i.toInt = k.toInt) : i = k := Int32.toInt_inj.mp h
theorem o_cases6 {i : Int32} (h : 0 ≤ i.toInt ∧ i.toInt < 6) : i = 0 ∨ i = 1 ∨ i = 2 ∨ i = 3 ∨ i = 4 ∨ i = 5 := by
  have e0 : (0 : Int32).toInt = 0 := rfl
  have e1 : (1 : Int32).toInt = 1 := rfl
  have e2 : (2 : Int32).toInt = 2 := rfl
  have e3 : (3 : Int32).toInt = 3 := rfl
  have e4 : (4 : Int32).toInt = 4 := rfl
  have e5 : (5 : Int32).toInt = 5 := rfl
  have q : i.toInt = 0 ∨ i.toInt = 1 ∨ i.toInt = 2 ∨ i.toInt = 3 ∨ i.toInt = 4 ∨ i.toInt = 5 := by omega
  rcases q with q | q | q | q | q | q
  · exact Or.inl (o_num 0 q)
  · exact Or.inr (Or.inl (o_num 1 q))
  · exact Or.inr (Or.inr (Or.inl (o_num 2 q)))
  · exact Or.inr (Or.inr (Or.inr (Or.inl (o_num 3 q))))
  · exact Or.inr (Or.inr (Or.inr (Or.inr (Or.inl (o_num 4 q)))))
  · exact Or.inr (Or.inr (Or.inr (Or.inr (Or.inr ((o_num 5 q))))))
theorem o_nan {r : UInt64} (h : decide (r &&& 0x7fffffffffffffff ≤ 0x7ff0000000000000) = true) : Jvm.Free.Fl.NoNaN64 r := of_decide_eq_true h
abbrev o_in (x : Int32) : Prop := ¬ x < 0 ∧ x < 3
theorem o_cl {x : Int32} (h : o_in x) : x.toNatClampNeg < 3 := by
  obtain ⟨q1, q2⟩ := h
  rw [Int32.lt_iff_toInt_lt] at q1 q2
  have e0 : (0 : Int32).toInt = 0 := rfl
  have e3 : (3 : Int32).toInt = 3 := rfl
  simp only [Int32.toNatClampNeg]; omega
theorem o_01 {c : Prop} [Decidable c] {w : Int32} (h : (if c then (0 : Int32) else (1 : Int32)) = w) : w = 0 ∨ w = 1 := by
  by_cases q : c
  · rw [if_pos q] at h; exact Or.inl h.symm
  · rw [if_neg q] at h; exact Or.inr h.symm
def o_bf (x y : UInt64) (i j : Int32) : Int32 := if (0 : Int32) < cmpValue (FP.dcmp x y) .l then 1 else if cmpValue (FP.dcmp x y) .l = (0 : Int32) then (if i < j then 1 else 0) else 0
def o_lb (x y i j : Int32) : Int32 := if y < x then 1 else if x = y then (if i < j then 1 else 0) else 0
theorem d5_0 : decode prog_7_method_7_code 0 = .ok (.aload_n 0, 1) := by decide +kernel
theorem d5_1 : decode prog_7_method_7_code 1 = .ok (.getfield 13, 3) := by decide +kernel
theorem d5_4 : decode prog_7_method_7_code 4 = .ok (.iload_n 1, 1) := by decide +kernel
theorem d5_5 : decode prog_7_method_7_code 5 = .ok (.daload, 1) := by decide +kernel
theorem d5_6 : decode prog_7_method_7_code 6 = .ok (.aload_n 0, 1) := by decide +kernel
theorem d5_7 : decode prog_7_method_7_code 7 = .ok (.getfield 13, 3) := by decide +kernel
theorem d5_10 : decode prog_7_method_7_code 10 = .ok (.iload_n 2, 1) := by decide +kernel
theorem d5_11 : decode prog_7_method_7_code 11 = .ok (.daload, 1) := by decide +kernel
theorem d5_12 : decode prog_7_method_7_code 12 = .ok (.dcmp .l, 1) := by decide +kernel
theorem d5_13 : decode prog_7_method_7_code 13 = .ok (.ifCond .gt 24, 3) := by decide +kernel
theorem d5_16 : decode prog_7_method_7_code 16 = .ok (.aload_n 0, 1) := by decide +kernel
theorem d5_17 : decode prog_7_method_7_code 17 = .ok (.getfield 13, 3) := by decide +kernel
theorem d5_20 : decode prog_7_method_7_code 20 = .ok (.iload_n 1, 1) := by decide +kernel
theorem d5_21 : decode prog_7_method_7_code 21 = .ok (.daload, 1) := by decide +kernel
theorem d5_22 : decode prog_7_method_7_code 22 = .ok (.aload_n 0, 1) := by decide +kernel
theorem d5_23 : decode prog_7_method_7_code 23 = .ok (.getfield 13, 3) := by decide +kernel
theorem d5_26 : decode prog_7_method_7_code 26 = .ok (.iload_n 2, 1) := by decide +kernel
theorem d5_27 : decode prog_7_method_7_code 27 = .ok (.daload, 1) := by decide +kernel
theorem d5_28 : decode prog_7_method_7_code 28 = .ok (.dcmp .l, 1) := by decide +kernel
theorem d5_29 : decode prog_7_method_7_code 29 = .ok (.ifCond .ne 12, 3) := by decide +kernel
theorem d5_32 : decode prog_7_method_7_code 32 = .ok (.iload_n 1, 1) := by decide +kernel
theorem d5_33 : decode prog_7_method_7_code 33 = .ok (.iload_n 2, 1) := by decide +kernel
theorem d5_34 : decode prog_7_method_7_code 34 = .ok (.if_icmp .ge 7, 3) := by decide +kernel
theorem d5_37 : decode prog_7_method_7_code 37 = .ok (.iconst 1, 1) := by decide +kernel
theorem d5_38 : decode prog_7_method_7_code 38 = .ok (.goto 4, 3) := by decide +kernel
theorem d5_41 : decode prog_7_method_7_code 41 = .ok (.iconst 0, 1) := by decide +kernel
theorem d5_42 : decode prog_7_method_7_code 42 = .ok (.ireturn, 1) := by decide +kernel
theorem pn_com_example_gridwright_gridwright_core_ActivityOrder : plainName o_n0 = true := by first | (simp [plainName, overriddenIn]; done) | decide +kernel
theorem ef_5 (m : MethodId) (x0 : Addr) (x1 : Int32) (x2 : Int32) : entryFrame m #[(.ref x0), (.int x1), (.int x2)] 3 = mkF m 0 #[.val (.ref x0), .val (.int x1), .val (.int x2)] [] := by first | (simp [entryFrame, mkF, argsToLocals, Value.category]; done) | rfl
def Q5 (Z : State) (ob : Addr) (ia : Int32) (ja : Int32) (va : Addr) (ka : ClassId) (av : List Value) (xa : UInt64) (xb : UInt64) (h0 : Heap) (n0 : Nat) (v : Option Value) (h : Heap) (L : List Loc) : Prop := v = some (.int (o_bf xa xb ia ja)) ∧ Fr n0 L ∧ h = h0
set_option maxRecDepth 65536 in
set_option maxHeartbeats 40000000 in
theorem rm5 (l : Launch) (Z : State) (a0 : Array Value) (hw : ∀ d ∈ tables_1, d.before a0 Z = true) (ws : List Jvm.Cond) (ob : Addr) (ia : Int32) (ja : Int32) (va : Addr) (ka : ClassId) (av : List Value) (xa : UInt64) (xb : UInt64) (h0 : Heap) (n0 : Nat) (Z0 : n0 ≤ h0.size) (P0 : Fld Z h0 ob o_n0 "activity" "[D" (.ref va)) (P1 : Arv Z h0 va ka .double (3 : Int32) av (.double 0)) (hia : o_in ia) (hja : o_in ja) (hxa : av.getD ia.toNatClampNeg (.double 0) = .double xa) (hxb : av.getD ja.toNatClampNeg (.double 0) = .double xb) :
    MetFree l (⟨o_n0, "before", "(II)Z"⟩ : MethodName) (head1 (Jvm.Cond.code (⟨o_n0, "before", "(II)Z"⟩ : MethodName) prog_7_method_7_code 3 (some .boolean) :: ws) ({ frames := 0, cells := 0, slots := 0, locals := 0 } : Room)) (fun argz U => argz = #[(.ref ob), (.int ia), (.int ja)] ∧ Z.Warmed39 U.vm ∧ U.heap = h0) (fun _ _ _ _ _ => True) (fun _ U o U' => ∃ v L, o = .returned v ∧ Q5 Z ob ia ja va ka av xa xb h0 n0 v U'.heap L ∧ FrameEnd U o U' L ({ frames := 0, cells := 0, slots := 0, locals := 0 } : Room).cells ({ frames := 0, cells := 0, slots := 0, locals := 0 } : Room).slots) := by
  refine MetFree.of_bodySF (plainFor_of_name pn_com_example_gridwright_gridwright_core_ActivityOrder) hisR ?_
  intro p e s m args below meth c s₁ Bd hml0 hP hK
  obtain ⟨rfl, hZ, hh⟩ := hP
  have hx := Bd.exec
  have hby := Bd.bytes
  have hml : c.maxLocals = 3 := hml0
  have hown : s.vm.findClass o_n0 = some m.cls := findClass_of_methodNamed Bd.named
  have hnm := (name_of_methodNamed Bd.named Bd.method).1
  have X0 : Stand p l e ({ frames := 0, cells := 0, slots := 0, locals := 0 } : Room) s m #[(.ref ob), (.int ia), (.int ja)] below meth c s₁ [] 0 0 := Stand.of_body Bd
  have e0 : s₁.heap = h0 := by rw [← hh, Bd.state]; rfl
  have N0 := Fr.nil n0
  have G : Gets p e below (s₁.setTop (entryFrame m #[(.ref ob), (.int ia), (.int ja)] 3)) (s₁.setTop (mkF m 0 #[.val (.ref ob), .val (.int ia), .val (.int ja)] [])) := fun t k => castTop (ef_5 m ob ia ja) k
  replace G := o_aloadN (q := 1) G X0.here hx (hb hby d5_0) rfl rfl rfl
  obtain ⟨T1, X1, e1, st1⟩ := getF X0 hx hZ hown (host := "") (Or.inl (o_w hw 13 rfl)) Via.refl e0 P0 (g := o_g G) rfl rfl (hb hby d5_1)
  replace G := o_nxs (q := 4) (st := [(.ref va)]) G st1 rfl
  replace G := o_iloadN (q := 5) G X1.here hx (hb hby d5_4) rfl rfl
  obtain ⟨c2, Ar2, -, S2, -, H2, -⟩ := id P1
  have hin2 : ¬ (ia < 0 ∨ c2.slots.size ≤ (ia).toNatClampNeg) := inb_of S2 hia
  replace G := o_nxs (q := 6) (st := [(.double xa)]) G (X1.daload hx (j := ia) (v := (.double xa)) (by rw [e1]; exact Ar2.1) (State.isArrayOf_alike hZ.alike Ar2.2.1) Ar2.2.2 hin2 (Has.at H2 hin2 hxa) (g := o_g G) rfl rfl (hb hby d5_5)) rfl
  replace G := o_aloadN (q := 7) G X1.here hx (hb hby d5_6) rfl rfl rfl
  obtain ⟨T3, X3, e3, st3⟩ := getF X1 hx hZ hown (host := "") (Or.inl (o_w hw 13 rfl)) Via.refl e1 P0 (g := o_g G) rfl rfl (hb hby d5_7)
  replace G := o_nxs (q := 10) (st := [(.ref va), (.double xa)]) G st3 rfl
  replace G := o_iloadN (q := 11) G X3.here hx (hb hby d5_10) rfl rfl
  obtain ⟨c4, Ar4, -, S4, -, H4, -⟩ := id P1
  have hin4 : ¬ (ja < 0 ∨ c4.slots.size ≤ (ja).toNatClampNeg) := inb_of S4 hja
  replace G := o_nxs (q := 12) (st := [(.double xb), (.double xa)]) G (X3.daload hx (j := ja) (v := (.double xb)) (by rw [e3]; exact Ar4.1) (State.isArrayOf_alike hZ.alike Ar4.2.1) Ar4.2.2 hin4 (Has.at H4 hin4 hxb) (g := o_g G) rfl rfl (hb hby d5_11)) rfl
  replace G := o_dcmp (q := 13) G X3.here hx (hb hby d5_12) rfl rfl
  by_cases hc13_5 : (0 : Int32) < (cmpValue (FP.dcmp xa xb) .l)
  replace G := o_ifYes (q := 37) G X3.here hx (hb hby d5_13) ((if0 _ _).trans (tlt hc13_5).2.2.1) (by decide) (by decide)
  replace G := o_iconst (q := 38) G X3.here hx (hb hby d5_37) (v := (1 : Int32)) (by decide) rfl
  replace G := o_goto (q := 42) G X3.here hx (hb hby d5_38) (by decide) (by decide)
  obtain ⟨fs, hr, hrun, hended, hW, hsame⟩ := X3.leave (v := some (.int 1)) (fun h => by rw [Bd.returns] at h; cases h)
  refine ⟨_, _, G _ (retOut X3 hx Bd.returns rfl (Or.inl ⟨rfl, Or.inr (Or.inl rfl), _, rfl⟩) (hb hby d5_42) hr), hrun, hended, _, _, rfl, ?_, ⟨_, rfl⟩, hW, hsame.mono (by decide) (by decide)⟩
  show Q5 Z ob ia ja va ka av xa xb h0 n0 _ T3.heap _
  rw [e3]
  exact ⟨(congrArg (fun z => some (Value.int z)) (by simp [o_bf, hc13_5])), N0, rfl⟩
  replace G := o_ifNo (q := 16) G X3.here hx (hb hby d5_13) ((if0 _ _).trans (flt hc13_5).2.2.1) rfl
  replace G := o_aloadN (q := 17) G X3.here hx (hb hby d5_16) rfl rfl rfl
  obtain ⟨T6, X6, e6, st6⟩ := getF X3 hx hZ hown (host := "") (Or.inl (o_w hw 13 rfl)) Via.refl e3 P0 (g := o_g G) rfl rfl (hb hby d5_17)
  replace G := o_nxs (q := 20) (st := [(.ref va)]) G st6 rfl
  replace G := o_iloadN (q := 21) G X6.here hx (hb hby d5_20) rfl rfl
  obtain ⟨c7, Ar7, -, S7, -, H7, -⟩ := id P1
  have hin7 : ¬ (ia < 0 ∨ c7.slots.size ≤ (ia).toNatClampNeg) := inb_of S7 hia
  replace G := o_nxs (q := 22) (st := [(.double xa)]) G (X6.daload hx (j := ia) (v := (.double xa)) (by rw [e6]; exact Ar7.1) (State.isArrayOf_alike hZ.alike Ar7.2.1) Ar7.2.2 hin7 (Has.at H7 hin7 hxa) (g := o_g G) rfl rfl (hb hby d5_21)) rfl
  replace G := o_aloadN (q := 23) G X6.here hx (hb hby d5_22) rfl rfl rfl
  obtain ⟨T8, X8, e8, st8⟩ := getF X6 hx hZ hown (host := "") (Or.inl (o_w hw 13 rfl)) Via.refl e6 P0 (g := o_g G) rfl rfl (hb hby d5_23)
  replace G := o_nxs (q := 26) (st := [(.ref va), (.double xa)]) G st8 rfl
  replace G := o_iloadN (q := 27) G X8.here hx (hb hby d5_26) rfl rfl
  obtain ⟨c9, Ar9, -, S9, -, H9, -⟩ := id P1
  have hin9 : ¬ (ja < 0 ∨ c9.slots.size ≤ (ja).toNatClampNeg) := inb_of S9 hja
  replace G := o_nxs (q := 28) (st := [(.double xb), (.double xa)]) G (X8.daload hx (j := ja) (v := (.double xb)) (by rw [e8]; exact Ar9.1) (State.isArrayOf_alike hZ.alike Ar9.2.1) Ar9.2.2 hin9 (Has.at H9 hin9 hxb) (g := o_g G) rfl rfl (hb hby d5_27)) rfl
  replace G := o_dcmp (q := 29) G X8.here hx (hb hby d5_28) rfl rfl
  by_cases hc29_10 : (cmpValue (FP.dcmp xa xb) .l) = (0 : Int32)
  replace G := o_ifNo (q := 32) G X8.here hx (hb hby d5_29) ((if0 _ _).trans (teq hc29_10).2) rfl
  replace G := o_iloadN (q := 33) G X8.here hx (hb hby d5_32) rfl rfl
  replace G := o_iloadN (q := 34) G X8.here hx (hb hby d5_33) rfl rfl
  by_cases hc34_11 : ia < ja
  replace G := o_icmpNo (q := 37) G X8.here hx (hb hby d5_34) (tlt hc34_11).2.1 rfl
  replace G := o_iconst (q := 38) G X8.here hx (hb hby d5_37) (v := (1 : Int32)) (by decide) rfl
  replace G := o_goto (q := 42) G X8.here hx (hb hby d5_38) (by decide) (by decide)
  obtain ⟨fs, hr, hrun, hended, hW, hsame⟩ := X8.leave (v := some (.int 1)) (fun h => by rw [Bd.returns] at h; cases h)
  refine ⟨_, _, G _ (retOut X8 hx Bd.returns rfl (Or.inl ⟨rfl, Or.inr (Or.inl rfl), _, rfl⟩) (hb hby d5_42) hr), hrun, hended, _, _, rfl, ?_, ⟨_, rfl⟩, hW, hsame.mono (by decide) (by decide)⟩
  show Q5 Z ob ia ja va ka av xa xb h0 n0 _ T8.heap _
  rw [e8]
  exact ⟨(congrArg (fun z => some (Value.int z)) (by simp [o_bf, hc13_5, hc29_10, hc34_11])), N0, rfl⟩
  replace G := o_icmpYes (q := 41) G X8.here hx (hb hby d5_34) (flt hc34_11).2.1 (by decide) (by decide)
  replace G := o_iconst (q := 42) G X8.here hx (hb hby d5_41) (v := (0 : Int32)) (by decide) rfl
  obtain ⟨fs, hr, hrun, hended, hW, hsame⟩ := X8.leave (v := some (.int 0)) (fun h => by rw [Bd.returns] at h; cases h)
  refine ⟨_, _, G _ (retOut X8 hx Bd.returns rfl (Or.inl ⟨rfl, Or.inr (Or.inl rfl), _, rfl⟩) (hb hby d5_42) hr), hrun, hended, _, _, rfl, ?_, ⟨_, rfl⟩, hW, hsame.mono (by decide) (by decide)⟩
  show Q5 Z ob ia ja va ka av xa xb h0 n0 _ T8.heap _
  rw [e8]
  exact ⟨(congrArg (fun z => some (Value.int z)) (by simp [o_bf, hc13_5, hc29_10, hc34_11])), N0, rfl⟩
  replace G := o_ifYes (q := 41) G X8.here hx (hb hby d5_29) ((if0 _ _).trans (feq hc29_10).2) (by decide) (by decide)
  replace G := o_iconst (q := 42) G X8.here hx (hb hby d5_41) (v := (0 : Int32)) (by decide) rfl
  obtain ⟨fs, hr, hrun, hended, hW, hsame⟩ := X8.leave (v := some (.int 0)) (fun h => by rw [Bd.returns] at h; cases h)
  refine ⟨_, _, G _ (retOut X8 hx Bd.returns rfl (Or.inl ⟨rfl, Or.inr (Or.inl rfl), _, rfl⟩) (hb hby d5_42) hr), hrun, hended, _, _, rfl, ?_, ⟨_, rfl⟩, hW, hsame.mono (by decide) (by decide)⟩
  show Q5 Z ob ia ja va ka av xa xb h0 n0 _ T8.heap _
  rw [e8]
  exact ⟨(congrArg (fun z => some (Value.int z)) (by simp [o_bf, hc13_5, hc29_10])), N0, rfl⟩
theorem d4_0 : decode prog_7_method_8_code 0 = .ok (.aload_n 0, 1) := by decide +kernel
theorem d4_1 : decode prog_7_method_8_code 1 = .ok (.getfield 17, 3) := by decide +kernel
theorem d4_4 : decode prog_7_method_8_code 4 = .ok (.iload_n 1, 1) := by decide +kernel
theorem d4_5 : decode prog_7_method_8_code 5 = .ok (.iaload, 1) := by decide +kernel
theorem d4_6 : decode prog_7_method_8_code 6 = .ok (.istore_n 2, 1) := by decide +kernel
theorem d4_7 : decode prog_7_method_8_code 7 = .ok (.iload_n 1, 1) := by decide +kernel
theorem d4_8 : decode prog_7_method_8_code 8 = .ok (.istore_n 3, 1) := by decide +kernel
theorem d4_9 : decode prog_7_method_8_code 9 = .ok (.iload_n 3, 1) := by decide +kernel
theorem d4_10 : decode prog_7_method_8_code 10 = .ok (.ifCond .le 58, 3) := by decide +kernel
theorem d4_68 : decode prog_7_method_8_code 68 = .ok (.aload_n 0, 1) := by decide +kernel
theorem d4_69 : decode prog_7_method_8_code 69 = .ok (.getfield 17, 3) := by decide +kernel
theorem d4_72 : decode prog_7_method_8_code 72 = .ok (.iload_n 3, 1) := by decide +kernel
theorem d4_73 : decode prog_7_method_8_code 73 = .ok (.iload_n 2, 1) := by decide +kernel
theorem d4_74 : decode prog_7_method_8_code 74 = .ok (.iastore, 1) := by decide +kernel
theorem d4_75 : decode prog_7_method_8_code 75 = .ok (.aload_n 0, 1) := by decide +kernel
theorem d4_76 : decode prog_7_method_8_code 76 = .ok (.getfield 21, 3) := by decide +kernel
theorem d4_79 : decode prog_7_method_8_code 79 = .ok (.iload_n 2, 1) := by decide +kernel
theorem d4_80 : decode prog_7_method_8_code 80 = .ok (.iload_n 3, 1) := by decide +kernel
theorem d4_81 : decode prog_7_method_8_code 81 = .ok (.iastore, 1) := by decide +kernel
theorem d4_82 : decode prog_7_method_8_code 82 = .ok (.return_, 1) := by decide +kernel
theorem ef_4f0 (m : MethodId) (x0 : Addr) : entryFrame m #[(.ref x0), (.int 0)] 4 = mkF m 0 #[.val (.ref x0), .val (.int 0), .unset, .unset] [] := by first | (simp [entryFrame, mkF, argsToLocals, Value.category]; done) | rfl
def Q4f0 (Z : State) (ob : Addr) (va : Addr) (vh : Addr) (vx : Addr) (ka : ClassId) (kh : ClassId) (kx : ClassId) (ea : Int32) (eb : Int32) (ec : Int32) (av : List Value) (xs : List Value) (xt : List Value) (h0 : Heap) (n0 : Nat) (v : Option Value) (h : Heap) (L : List Loc) : Prop := v = none ∧ Fr n0 L ∧ Keep h0 h [vh, vx] ∧ (Arv Z h vh kh .int 3 [(.int ea), (.int eb), (.int ec)] (.int 0)) ∧ (Arv Z h vx kx .int 3 xt (.int 0))
set_option maxRecDepth 65536 in
set_option maxHeartbeats 40000000 in
theorem rm4f0 (l : Launch) (Z : State) (a0 : Array Value) (hw : ∀ d ∈ tables_1, d.before a0 Z = true) (ws : List Jvm.Cond) (ob : Addr) (va : Addr) (vh : Addr) (vx : Addr) (ka : ClassId) (kh : ClassId) (kx : ClassId) (ea : Int32) (eb : Int32) (ec : Int32) (av : List Value) (xs : List Value) (xt : List Value) (h0 : Heap) (n0 : Nat) (Z0 : n0 ≤ h0.size) (P0 : Exa Z h0 ob o_n0) (P1 : Fld Z h0 ob o_n0 "activity" "[D" (.ref va)) (P2 : Fld Z h0 ob o_n0 "heap" "[I" (.ref vh)) (P3 : Fld Z h0 ob o_n0 "heapIndex" "[I" (.ref vx)) (P4 : Arv Z h0 va ka .double (3 : Int32) av (.double 0)) (P5 : Arv Z h0 vh kh .int 3 [(.int ea), (.int eb), (.int ec)] (.int 0)) (P6 : Arv Z h0 vx kx .int 3 xs (.int 0)) (P7 : n0 ≤ vh) (P8 : n0 ≤ vx) (P9 : ob ≠ va) (P10 : ob ≠ vh) (P11 : ob ≠ vx) (P12 : va ≠ vh) (P13 : va ≠ vx) (P14 : vh ≠ vx) (hea : o_in ea) (hxl : xs.length = 3) (hxt : (xs.set ea.toNatClampNeg (.int 0)) = xt) :
    MetFree l (⟨o_n0, "siftUp", "(I)V"⟩ : MethodName) (head1 (Jvm.Cond.code (⟨o_n0, "siftUp", "(I)V"⟩ : MethodName) prog_7_method_8_code 4 none :: ws) ({ frames := 0, cells := 0, slots := 0, locals := 0 } : Room)) (fun argz U => argz = #[(.ref ob), (.int 0)] ∧ Z.Warmed39 U.vm ∧ U.heap = h0) (fun _ _ _ _ _ => True) (fun _ U o U' => ∃ v L, o = .returned v ∧ Q4f0 Z ob va vh vx ka kh kx ea eb ec av xs xt h0 n0 v U'.heap L ∧ FrameEnd U o U' L ({ frames := 0, cells := 0, slots := 0, locals := 0 } : Room).cells ({ frames := 0, cells := 0, slots := 0, locals := 0 } : Room).slots) := by
  refine MetFree.of_bodySF (plainFor_of_name pn_com_example_gridwright_gridwright_core_ActivityOrder) hisR ?_
  intro p e s m args below meth c s₁ Bd hml0 hP hK
  obtain ⟨rfl, hZ, hh⟩ := hP
  have hx := Bd.exec
  have hby := Bd.bytes
  have hml : c.maxLocals = 4 := hml0
  have hown : s.vm.findClass o_n0 = some m.cls := findClass_of_methodNamed Bd.named
  have hnm := (name_of_methodNamed Bd.named Bd.method).1
  have X0 : Stand p l e ({ frames := 0, cells := 0, slots := 0, locals := 0 } : Room) s m #[(.ref ob), (.int 0)] below meth c s₁ [] 0 0 := Stand.of_body Bd
  have e0 : s₁.heap = h0 := by rw [← hh, Bd.state]; rfl
  have N0 := Fr.nil n0
  have K0 : Keep h0 h0 [vh, vx] := Keep.refl _ _
  have G : Gets p e below (s₁.setTop (entryFrame m #[(.ref ob), (.int 0)] 4)) (s₁.setTop (mkF m 0 #[.val (.ref ob), .val (.int 0), .unset, .unset] [])) := fun t k => castTop (ef_4f0 m ob) k
  replace G := o_aloadN (q := 1) G X0.here hx (hb hby d4_0) rfl rfl rfl
  obtain ⟨T1, X1, e1, st1⟩ := getF X0 hx hZ hown (host := "") (Or.inl (o_w hw 16 rfl)) Via.refl e0 P2 (g := o_g G) rfl rfl (hb hby d4_1)
  replace G := o_nxs (q := 4) (st := [(.ref vh)]) G st1 rfl
  replace G := o_iloadN (q := 5) G X1.here hx (hb hby d4_4) rfl rfl
  obtain ⟨c2, Ar2, -, S2, -, H2, -⟩ := id P5
  have hin2 : ¬ ((0 : Int32) < 0 ∨ c2.slots.size ≤ ((0 : Int32)).toNatClampNeg) := inb_of S2 ⟨by decide, by decide⟩
  replace G := o_nxs (q := 6) (st := [(.int ea)]) G (X1.iaload hx (j := (0 : Int32)) (v := (.int ea)) (by rw [e1]; exact Ar2.1) (State.isArrayOf_alike hZ.alike Ar2.2.1) Ar2.2.2 hin2 (Has.at H2 hin2 rfl) (g := o_g G) rfl rfl (hb hby d4_5)) rfl
  replace G := o_istoreN (q := 7) (l' := #[.val (.ref ob), .val (.int 0), .val (.int ea), .unset]) G X1.here hx (hb hby d4_6) rfl rfl
  replace G := o_iloadN (q := 8) G X1.here hx (hb hby d4_7) rfl rfl
  replace G := o_istoreN (q := 9) (l' := #[.val (.ref ob), .val (.int 0), .val (.int ea), .val (.int 0)]) G X1.here hx (hb hby d4_8) rfl rfl
  replace G := o_iloadN (q := 10) G X1.here hx (hb hby d4_9) rfl rfl
  replace G := o_ifYes (q := 68) G X1.here hx (hb hby d4_10) (by decide) (by decide) (by decide)
  replace G := o_aloadN (q := 69) G X1.here hx (hb hby d4_68) rfl rfl rfl
  obtain ⟨T4, X4, e4, st4⟩ := getF X1 hx hZ hown (host := "") (Or.inl (o_w hw 16 rfl)) Via.refl e1 P2 (g := o_g G) rfl rfl (hb hby d4_69)
  replace G := o_nxs (q := 72) (st := [(.ref vh)]) G st4 rfl
  replace G := o_iloadN (q := 73) G X4.here hx (hb hby d4_72) rfl rfl
  replace G := o_iloadN (q := 74) G X4.here hx (hb hby d4_73) rfl rfl
  obtain ⟨c5, Ar5, q5, S5, N5', H5, G5'⟩ := id P5
  have hin5 : ¬ ((0 : Int32) < 0 ∨ c5.slots.size ≤ ((0 : Int32)).toNatClampNeg) := inb_of S5 ⟨by decide, by decide⟩
  obtain ⟨T5, h5, X5, e5, W5, st5⟩ := stI X4 hx hZ e4 Ar5 (j := (0 : Int32)) hin5 (g := o_g G) rfl rfl (hb hby d4_74)
  have N5 := Fr.snoc X5 N0 P7
  have Z5 : n0 ≤ h5.size := Nat.le_trans Z0 (Keep.of_wr W5).1
  have K5 : Keep h0 h5 [vh, vx] := K0.wr W5 (Or.inl (List.mem_of_getElem? (i := 0) rfl))
  have V5 : Arv Z h5 vh kh .int 3 [(.int ea), (.int eb), (.int ec)] (.int 0) := Arv.set Ar5 q5 S5 N5' H5 G5' rfl W5 0 rfl (Nat.le_of_ble_eq_true rfl)
  replace G := o_nxs (q := 75) (st := []) G st5 rfl
  replace G := o_aloadN (q := 76) G X5.here hx (hb hby d4_75) rfl rfl rfl
  have F6 := (P3.other W5 (Or.inl P10))
  obtain ⟨T7, X7, e7, st7⟩ := getF X5 hx hZ hown (host := "") (Or.inl (o_w hw 18 rfl)) Via.refl e5 F6 (g := o_g G) rfl rfl (hb hby d4_76)
  replace G := o_nxs (q := 79) (st := [(.ref vx)]) G st7 rfl
  replace G := o_iloadN (q := 80) G X7.here hx (hb hby d4_79) rfl rfl
  replace G := o_iloadN (q := 81) G X7.here hx (hb hby d4_80) rfl rfl
  have F8 := (P6.other W5 (Ne.symm P14))
  obtain ⟨c9, Ar9, q9, S9, N9', H9, G9'⟩ := id F8
  have hin9 : ¬ (ea < 0 ∨ c9.slots.size ≤ (ea).toNatClampNeg) := inb_of S9 hea
  obtain ⟨T9, h9, X9, e9, W9, st9⟩ := stI X7 hx hZ e7 Ar9 (j := ea) hin9 (g := o_g G) rfl rfl (hb hby d4_81)
  have N9 := Fr.snoc X9 N5 P8
  have Z9 : n0 ≤ h9.size := Nat.le_trans Z5 (Keep.of_wr W9).1
  have K9 : Keep h0 h9 [vh, vx] := K5.wr W9 (Or.inl (List.mem_of_getElem? (i := 1) rfl))
  have V9 : Arv Z h9 vx kx .int 3 (xs.set ea.toNatClampNeg (.int 0)) (.int 0) := Arv.set Ar9 q9 S9 N9' H9 G9' rfl W9 ea.toNatClampNeg rfl (by simp only [List.length_set, hxl]; exact o_cl hea)
  replace G := o_nxs (q := 82) (st := []) G st9 rfl
  have VT10 : Arv Z h9 vx kx .int 3 xt (.int 0) := by rw [← hxt]; exact V9
  obtain ⟨fs, hr, hrun, hended, hW, hsame⟩ := X9.leave (v := none) (fun _ => rfl)
  refine ⟨_, _, G _ (X9.returnOut hx Bd.returns (hb hby d4_82) hr), hrun, hended, _, _, rfl, ?_, ⟨_, rfl⟩, hW, hsame.mono (by decide) (by decide)⟩
  have F11 := (V5.other W9 P14)
  show Q4f0 Z ob va vh vx ka kh kx ea eb ec av xs xt h0 n0 _ T9.heap _
  rw [e9]
  exact ⟨rfl, N9, K9, F11, VT10⟩
theorem pd_0 : parseMethodDescriptor "(II)Z" = some ⟨[.int, .int], some .boolean⟩ := by decide +kernel
theorem d4_13 : decode prog_7_method_8_code 13 = .ok (.aload_n 0, 1) := by decide +kernel
theorem d4_14 : decode prog_7_method_8_code 14 = .ok (.iload_n 2, 1) := by decide +kernel
theorem d4_15 : decode prog_7_method_8_code 15 = .ok (.aload_n 0, 1) := by decide +kernel
theorem d4_16 : decode prog_7_method_8_code 16 = .ok (.getfield 17, 3) := by decide +kernel
theorem d4_19 : decode prog_7_method_8_code 19 = .ok (.iload_n 3, 1) := by decide +kernel
theorem d4_20 : decode prog_7_method_8_code 20 = .ok (.iconst 1, 1) := by decide +kernel
theorem d4_21 : decode prog_7_method_8_code 21 = .ok (.isub, 1) := by decide +kernel
theorem d4_22 : decode prog_7_method_8_code 22 = .ok (.iconst 2, 1) := by decide +kernel
theorem d4_23 : decode prog_7_method_8_code 23 = .ok (.idiv, 1) := by decide +kernel
theorem d4_24 : decode prog_7_method_8_code 24 = .ok (.iaload, 1) := by decide +kernel
theorem d4_25 : decode prog_7_method_8_code 25 = .ok (.invokevirtual 48, 3) := by decide +kernel
theorem d4_28 : decode prog_7_method_8_code 28 = .ok (.ifCond .eq 40, 3) := by decide +kernel
theorem ef_4f1f (m : MethodId) (x0 : Addr) : entryFrame m #[(.ref x0), (.int 1)] 4 = mkF m 0 #[.val (.ref x0), .val (.int 1), .unset, .unset] [] := by first | (simp [entryFrame, mkF, argsToLocals, Value.category]; done) | rfl
def Q4f1f (Z : State) (ob : Addr) (va : Addr) (vh : Addr) (vx : Addr) (ka : ClassId) (kh : ClassId) (kx : ClassId) (ea : Int32) (eb : Int32) (ec : Int32) (av : List Value) (xs : List Value) (xt : List Value) (da : UInt64) (db : UInt64) (h0 : Heap) (n0 : Nat) (v : Option Value) (h : Heap) (L : List Loc) : Prop := v = none ∧ Fr n0 L ∧ Keep h0 h [vh, vx] ∧ (Arv Z h vh kh .int 3 [(.int ea), (.int eb), (.int ec)] (.int 0)) ∧ (Arv Z h vx kx .int 3 xt (.int 0))
set_option maxRecDepth 65536 in
set_option maxHeartbeats 40000000 in
theorem rm4f1f (l : Launch) (Z : State) (a0 : Array Value) (hw : ∀ d ∈ tables_1, d.before a0 Z = true) (ws : List Jvm.Cond) (ob : Addr) (va : Addr) (vh : Addr) (vx : Addr) (ka : ClassId) (kh : ClassId) (kx : ClassId) (ea : Int32) (eb : Int32) (ec : Int32) (av : List Value) (xs : List Value) (xt : List Value) (da : UInt64) (db : UInt64) (h0 : Heap) (n0 : Nat) (Z0 : n0 ≤ h0.size) (P0 : Exa Z h0 ob o_n0) (P1 : Fld Z h0 ob o_n0 "activity" "[D" (.ref va)) (P2 : Fld Z h0 ob o_n0 "heap" "[I" (.ref vh)) (P3 : Fld Z h0 ob o_n0 "heapIndex" "[I" (.ref vx)) (P4 : Arv Z h0 va ka .double (3 : Int32) av (.double 0)) (P5 : Arv Z h0 vh kh .int 3 [(.int ea), (.int eb), (.int ec)] (.int 0)) (P6 : Arv Z h0 vx kx .int 3 xs (.int 0)) (P7 : n0 ≤ vh) (P8 : n0 ≤ vx) (P9 : ob ≠ va) (P10 : ob ≠ vh) (P11 : ob ≠ vx) (P12 : va ≠ vh) (P13 : va ≠ vx) (P14 : vh ≠ vx) (hea : o_in ea) (heb : o_in eb) (hxl : xs.length = 3) (hda : av.getD ea.toNatClampNeg (.double 0) = .double da) (hdb : av.getD eb.toNatClampNeg (.double 0) = .double db) (ho : (o_bf db da eb ea) = (0 : Int32)) (hxt : (xs.set eb.toNatClampNeg (.int 1)) = xt) :
    MetFree l (⟨o_n0, "siftUp", "(I)V"⟩ : MethodName) (head1 (Jvm.Cond.code (⟨o_n0, "siftUp", "(I)V"⟩ : MethodName) prog_7_method_8_code 4 none :: ws) ({ frames := 1, cells := 0, slots := 0, locals := 14 } : Room)) (fun argz U => argz = #[(.ref ob), (.int 1)] ∧ Z.Warmed39 U.vm ∧ U.heap = h0) (fun _ _ _ _ _ => True) (fun _ U o U' => ∃ v L, o = .returned v ∧ Q4f1f Z ob va vh vx ka kh kx ea eb ec av xs xt da db h0 n0 v U'.heap L ∧ FrameEnd U o U' L ({ frames := 1, cells := 0, slots := 0, locals := 14 } : Room).cells ({ frames := 1, cells := 0, slots := 0, locals := 14 } : Room).slots) := by
  refine MetFree.of_bodySF (plainFor_of_name pn_com_example_gridwright_gridwright_core_ActivityOrder) hisR ?_
  intro p e s m args below meth c s₁ Bd hml0 hP hK
  obtain ⟨rfl, hZ, hh⟩ := hP
  have hx := Bd.exec
  have hby := Bd.bytes
  have hml : c.maxLocals = 4 := hml0
  have hown : s.vm.findClass o_n0 = some m.cls := findClass_of_methodNamed Bd.named
  have hnm := (name_of_methodNamed Bd.named Bd.method).1
  have X0 : Stand p l e ({ frames := 1, cells := 0, slots := 0, locals := 14 } : Room) s m #[(.ref ob), (.int 1)] below meth c s₁ [] 0 0 := Stand.of_body Bd
  have e0 : s₁.heap = h0 := by rw [← hh, Bd.state]; rfl
  have N0 := Fr.nil n0
  have K0 : Keep h0 h0 [vh, vx] := Keep.refl _ _
  have G : Gets p e below (s₁.setTop (entryFrame m #[(.ref ob), (.int 1)] 4)) (s₁.setTop (mkF m 0 #[.val (.ref ob), .val (.int 1), .unset, .unset] [])) := fun t k => castTop (ef_4f1f m ob) k
  replace G := o_aloadN (q := 1) G X0.here hx (hb hby d4_0) rfl rfl rfl
  obtain ⟨T1, X1, e1, st1⟩ := getF X0 hx hZ hown (host := "") (Or.inl (o_w hw 16 rfl)) Via.refl e0 P2 (g := o_g G) rfl rfl (hb hby d4_1)
  replace G := o_nxs (q := 4) (st := [(.ref vh)]) G st1 rfl
  replace G := o_iloadN (q := 5) G X1.here hx (hb hby d4_4) rfl rfl
  obtain ⟨c2, Ar2, -, S2, -, H2, -⟩ := id P5
  have hin2 : ¬ ((1 : Int32) < 0 ∨ c2.slots.size ≤ ((1 : Int32)).toNatClampNeg) := inb_of S2 ⟨by decide, by decide⟩
  replace G := o_nxs (q := 6) (st := [(.int eb)]) G (X1.iaload hx (j := (1 : Int32)) (v := (.int eb)) (by rw [e1]; exact Ar2.1) (State.isArrayOf_alike hZ.alike Ar2.2.1) Ar2.2.2 hin2 (Has.at H2 hin2 rfl) (g := o_g G) rfl rfl (hb hby d4_5)) rfl
  replace G := o_istoreN (q := 7) (l' := #[.val (.ref ob), .val (.int 1), .val (.int eb), .unset]) G X1.here hx (hb hby d4_6) rfl rfl
  replace G := o_iloadN (q := 8) G X1.here hx (hb hby d4_7) rfl rfl
  replace G := o_istoreN (q := 9) (l' := #[.val (.ref ob), .val (.int 1), .val (.int eb), .val (.int 1)]) G X1.here hx (hb hby d4_8) rfl rfl
  replace G := o_iloadN (q := 10) G X1.here hx (hb hby d4_9) rfl rfl
  replace G := o_ifNo (q := 13) G X1.here hx (hb hby d4_10) (by decide) rfl
  replace G := o_aloadN (q := 14) G X1.here hx (hb hby d4_13) rfl rfl rfl
  replace G := o_iloadN (q := 15) G X1.here hx (hb hby d4_14) rfl rfl
  replace G := o_aloadN (q := 16) G X1.here hx (hb hby d4_15) rfl rfl rfl
  obtain ⟨T4, X4, e4, st4⟩ := getF X1 hx hZ hown (host := "") (Or.inl (o_w hw 16 rfl)) Via.refl e1 P2 (g := o_g G) rfl rfl (hb hby d4_16)
  replace G := o_nxs (q := 19) (st := [(.ref vh), (.int eb), (.ref ob)]) G st4 rfl
  replace G := o_iloadN (q := 20) G X4.here hx (hb hby d4_19) rfl rfl
  replace G := o_iconst (q := 21) G X4.here hx (hb hby d4_20) (v := (1 : Int32)) (by decide) rfl
  replace G := o_isub (q := 22) G X4.here hx (hb hby d4_21) (by decide : ((1 : Int32) - (1 : Int32)) = (0 : Int32)) rfl
  replace G := o_iconst (q := 23) G X4.here hx (hb hby d4_22) (v := (2 : Int32)) (by decide) rfl
  replace G := o_idiv (q := 24) G X4.here hx (hb hby d4_23) (by decide) (by decide : ((0 : Int32) / (2 : Int32)) = (0 : Int32)) rfl
  obtain ⟨c5, Ar5, -, S5, -, H5, -⟩ := id P5
  have hin5 : ¬ ((0 : Int32) < 0 ∨ c5.slots.size ≤ ((0 : Int32)).toNatClampNeg) := inb_of S5 ⟨by decide, by decide⟩
  replace G := o_nxs (q := 25) (st := [(.int ea), (.int eb), (.ref ob)]) G (X4.iaload hx (j := (0 : Int32)) (v := (.int ea)) (by rw [e4]; exact Ar5.1) (State.isArrayOf_alike hZ.alike Ar5.2.1) Ar5.2.2 hin5 (Has.at H5 hin5 rfl) (g := o_g G) rfl rfl (hb hby d4_24)) rfl
  obtain ⟨cq6, q6, q6'⟩ := P0.cell
  obtain ⟨_, _, ⟨T6, L6, kk6, nn6⟩, -, X6, ⟨Lc6, hQ6, l6, y6, z6⟩, st6⟩ := X4.privateBack hx (y := (⟨o_n0, "before", "(II)Z"⟩ : MethodName)) hown (mvT hZ (o_w hw 31 rfl)) (mvT hZ (o_w hw 32 rfl)) (o_sel (z := (⟨o_n0, "add", "(I)V"⟩ : MethodName)) rfl (mvT hZ (o_w hw 22 rfl)) (mvT hZ (o_w hw 23 rfl)) (mvT hZ (o_w hw 32 rfl)) (Cond.privateMethod_at (mvP hZ (o_w hw 33 rfl) (args := #[]))) (by decide)) (Cond.privateMethod_at (mvP hZ (o_w hw 33 rfl) (args := #[]))) (mvT hZ (o_w hw 34 rfl)) (by decide) (backOf (W := 0) (rm5 l Z a0 hw [] ob eb ea va ka av db da h0 n0 Z0 P1 P4 heb hea hdb hda) hZ (o_w hw 34 rfl) (o_w hw 3 rfl) (by decide) (by decide)) (g := o_g G) rfl (by rw [hml]; rfl) (Steps.refl _) (a := ob) (by rw [e4]; exact q6) q6' (argsL := [(.int eb), (.int ea)]) (rest := []) (lenOf pd_0 rfl) rfl (by show 2 * 0 + _ ≤ _; exact Nat.le_of_eq rfl) (hb hby d4_25) (fun _ _ => ⟨rfl, e4, (by decide : 0 + 0 ≤ _), (by decide : 0 + 0 ≤ _)⟩)
  dsimp only [Pt.U, Pt.locs, Pt.cells, Pt.slots] at X6 l6 y6 z6 st6 hQ6
  subst l6 y6 z6
  obtain ⟨rfl, N6q, e6⟩ := hQ6
  have N6 := Fr.app N0 N6q
  replace G := o_nxv (q := 28) (st := [(.int (o_bf db da eb ea))]) G st6 rfl
  have hc28_7 : (o_bf db da eb ea) = (0 : Int32) := ho
  replace G := o_ifYes (q := 68) G X6.here hx (hb hby d4_28) ((if0 _ _).trans (teq hc28_7).1) (by decide) (by decide)
  replace G := o_aloadN (q := 69) G X6.here hx (hb hby d4_68) rfl rfl rfl
  obtain ⟨T8, X8, e8, st8⟩ := getF X6 hx hZ hown (host := "") (Or.inl (o_w hw 16 rfl)) Via.refl e6 P2 (g := o_g G) rfl rfl (hb hby d4_69)
  replace G := o_nxs (q := 72) (st := [(.ref vh)]) G st8 rfl
  replace G := o_iloadN (q := 73) G X8.here hx (hb hby d4_72) rfl rfl
  replace G := o_iloadN (q := 74) G X8.here hx (hb hby d4_73) rfl rfl
  obtain ⟨c9, Ar9, q9, S9, N9', H9, G9'⟩ := id P5
  have hin9 : ¬ ((1 : Int32) < 0 ∨ c9.slots.size ≤ ((1 : Int32)).toNatClampNeg) := inb_of S9 ⟨by decide, by decide⟩
  obtain ⟨T9, h9, X9, e9, W9, st9⟩ := stI X8 hx hZ e8 Ar9 (j := (1 : Int32)) hin9 (g := o_g G) rfl rfl (hb hby d4_74)
  have N9 := Fr.snoc X9 N6 P7
  have Z9 : n0 ≤ h9.size := Nat.le_trans Z0 (Keep.of_wr W9).1
  have K9 : Keep h0 h9 [vh, vx] := K0.wr W9 (Or.inl (List.mem_of_getElem? (i := 0) rfl))
  have V9 : Arv Z h9 vh kh .int 3 [(.int ea), (.int eb), (.int ec)] (.int 0) := Arv.set Ar9 q9 S9 N9' H9 G9' rfl W9 1 rfl (Nat.le_of_ble_eq_true rfl)
  replace G := o_nxs (q := 75) (st := []) G st9 rfl
  replace G := o_aloadN (q := 76) G X9.here hx (hb hby d4_75) rfl rfl rfl
  have F10 := (P3.other W9 (Or.inl P10))
  obtain ⟨T11, X11, e11, st11⟩ := getF X9 hx hZ hown (host := "") (Or.inl (o_w hw 18 rfl)) Via.refl e9 F10 (g := o_g G) rfl rfl (hb hby d4_76)
  replace G := o_nxs (q := 79) (st := [(.ref vx)]) G st11 rfl
  replace G := o_iloadN (q := 80) G X11.here hx (hb hby d4_79) rfl rfl
  replace G := o_iloadN (q := 81) G X11.here hx (hb hby d4_80) rfl rfl
  have F12 := (P6.other W9 (Ne.symm P14))
  obtain ⟨c13, Ar13, q13, S13, N13', H13, G13'⟩ := id F12
  have hin13 : ¬ (eb < 0 ∨ c13.slots.size ≤ (eb).toNatClampNeg) := inb_of S13 heb
  obtain ⟨T13, h13, X13, e13, W13, st13⟩ := stI X11 hx hZ e11 Ar13 (j := eb) hin13 (g := o_g G) rfl rfl (hb hby d4_81)
  have N13 := Fr.snoc X13 N9 P8
  have Z13 : n0 ≤ h13.size := Nat.le_trans Z9 (Keep.of_wr W13).1
  have K13 : Keep h0 h13 [vh, vx] := K9.wr W13 (Or.inl (List.mem_of_getElem? (i := 1) rfl))
  have V13 : Arv Z h13 vx kx .int 3 (xs.set eb.toNatClampNeg (.int 1)) (.int 0) := Arv.set Ar13 q13 S13 N13' H13 G13' rfl W13 eb.toNatClampNeg rfl (by simp only [List.length_set, hxl]; exact o_cl heb)
  replace G := o_nxs (q := 82) (st := []) G st13 rfl
  have VT14 : Arv Z h13 vx kx .int 3 xt (.int 0) := by rw [← hxt]; exact V13
  obtain ⟨fs, hr, hrun, hended, hW, hsame⟩ := X13.leave (v := none) (fun _ => rfl)
  refine ⟨_, _, G _ (X13.returnOut hx Bd.returns (hb hby d4_82) hr), hrun, hended, _, _, rfl, ?_, ⟨_, rfl⟩, hW, hsame.mono (by decide) (by decide)⟩
  have F15 := (V9.other W13 P14)
  show Q4f1f Z ob va vh vx ka kh kx ea eb ec av xs xt da db h0 n0 _ T13.heap _
  rw [e13]
  exact ⟨rfl, N13, K13, F15, VT14⟩
theorem d4_31 : decode prog_7_method_8_code 31 = .ok (.aload_n 0, 1) := by decide +kernel
theorem d4_32 : decode prog_7_method_8_code 32 = .ok (.getfield 17, 3) := by decide +kernel
theorem d4_35 : decode prog_7_method_8_code 35 = .ok (.iload_n 3, 1) := by decide +kernel
theorem d4_36 : decode prog_7_method_8_code 36 = .ok (.aload_n 0, 1) := by decide +kernel
theorem d4_37 : decode prog_7_method_8_code 37 = .ok (.getfield 17, 3) := by decide +kernel
theorem d4_40 : decode prog_7_method_8_code 40 = .ok (.iload_n 3, 1) := by decide +kernel
theorem d4_41 : decode prog_7_method_8_code 41 = .ok (.iconst 1, 1) := by decide +kernel
theorem d4_42 : decode prog_7_method_8_code 42 = .ok (.isub, 1) := by decide +kernel
theorem d4_43 : decode prog_7_method_8_code 43 = .ok (.iconst 2, 1) := by decide +kernel
theorem d4_44 : decode prog_7_method_8_code 44 = .ok (.idiv, 1) := by decide +kernel
theorem d4_45 : decode prog_7_method_8_code 45 = .ok (.iaload, 1) := by decide +kernel
theorem d4_46 : decode prog_7_method_8_code 46 = .ok (.iastore, 1) := by decide +kernel
theorem d4_47 : decode prog_7_method_8_code 47 = .ok (.aload_n 0, 1) := by decide +kernel
theorem d4_48 : decode prog_7_method_8_code 48 = .ok (.getfield 21, 3) := by decide +kernel
theorem d4_51 : decode prog_7_method_8_code 51 = .ok (.aload_n 0, 1) := by decide +kernel
theorem d4_52 : decode prog_7_method_8_code 52 = .ok (.getfield 17, 3) := by decide +kernel
theorem d4_55 : decode prog_7_method_8_code 55 = .ok (.iload_n 3, 1) := by decide +kernel
theorem d4_56 : decode prog_7_method_8_code 56 = .ok (.iaload, 1) := by decide +kernel
theorem d4_57 : decode prog_7_method_8_code 57 = .ok (.iload_n 3, 1) := by decide +kernel
theorem d4_58 : decode prog_7_method_8_code 58 = .ok (.iastore, 1) := by decide +kernel
theorem d4_59 : decode prog_7_method_8_code 59 = .ok (.iload_n 3, 1) := by decide +kernel
theorem d4_60 : decode prog_7_method_8_code 60 = .ok (.iconst 1, 1) := by decide +kernel
theorem d4_61 : decode prog_7_method_8_code 61 = .ok (.isub, 1) := by decide +kernel
theorem d4_62 : decode prog_7_method_8_code 62 = .ok (.iconst 2, 1) := by decide +kernel
theorem d4_63 : decode prog_7_method_8_code 63 = .ok (.idiv, 1) := by decide +kernel
theorem d4_64 : decode prog_7_method_8_code 64 = .ok (.istore_n 3, 1) := by decide +kernel
theorem d4_65 : decode prog_7_method_8_code 65 = .ok (.goto (-56), 3) := by decide +kernel
theorem ef_4f1t (m : MethodId) (x0 : Addr) : entryFrame m #[(.ref x0), (.int 1)] 4 = mkF m 0 #[.val (.ref x0), .val (.int 1), .unset, .unset] [] := by first | (simp [entryFrame, mkF, argsToLocals, Value.category]; done) | rfl
def Q4f1t (Z : State) (ob : Addr) (va : Addr) (vh : Addr) (vx : Addr) (ka : ClassId) (kh : ClassId) (kx : ClassId) (ea : Int32) (eb : Int32) (ec : Int32) (av : List Value) (xs : List Value) (xt : List Value) (da : UInt64) (db : UInt64) (h0 : Heap) (n0 : Nat) (v : Option Value) (h : Heap) (L : List Loc) : Prop := v = none ∧ Fr n0 L ∧ Keep h0 h [vh, vx] ∧ (Arv Z h vh kh .int 3 [(.int eb), (.int ea), (.int ec)] (.int 0)) ∧ (Arv Z h vx kx .int 3 xt (.int 0))
set_option maxRecDepth 65536 in
set_option maxHeartbeats 40000000 in
theorem rm4f1t (l : Launch) (Z : State) (a0 : Array Value) (hw : ∀ d ∈ tables_1, d.before a0 Z = true) (ws : List Jvm.Cond) (ob : Addr) (va : Addr) (vh : Addr) (vx : Addr) (ka : ClassId) (kh : ClassId) (kx : ClassId) (ea : Int32) (eb : Int32) (ec : Int32) (av : List Value) (xs : List Value) (xt : List Value) (da : UInt64) (db : UInt64) (h0 : Heap) (n0 : Nat) (Z0 : n0 ≤ h0.size) (P0 : Exa Z h0 ob o_n0) (P1 : Fld Z h0 ob o_n0 "activity" "[D" (.ref va)) (P2 : Fld Z h0 ob o_n0 "heap" "[I" (.ref vh)) (P3 : Fld Z h0 ob o_n0 "heapIndex" "[I" (.ref vx)) (P4 : Arv Z h0 va ka .double (3 : Int32) av (.double 0)) (P5 : Arv Z h0 vh kh .int 3 [(.int ea), (.int eb), (.int ec)] (.int 0)) (P6 : Arv Z h0 vx kx .int 3 xs (.int 0)) (P7 : n0 ≤ vh) (P8 : n0 ≤ vx) (P9 : ob ≠ va) (P10 : ob ≠ vh) (P11 : ob ≠ vx) (P12 : va ≠ vh) (P13 : va ≠ vx) (P14 : vh ≠ vx) (hea : o_in ea) (heb : o_in eb) (hxl : xs.length = 3) (hda : av.getD ea.toNatClampNeg (.double 0) = .double da) (hdb : av.getD eb.toNatClampNeg (.double 0) = .double db) (ho : ¬ (o_bf db da eb ea) = (0 : Int32)) (hxt : ((xs.set ea.toNatClampNeg (.int 1)).set eb.toNatClampNeg (.int 0)) = xt) :
    MetFree l (⟨o_n0, "siftUp", "(I)V"⟩ : MethodName) (head1 (Jvm.Cond.code (⟨o_n0, "siftUp", "(I)V"⟩ : MethodName) prog_7_method_8_code 4 none :: ws) ({ frames := 1, cells := 0, slots := 0, locals := 14 } : Room)) (fun argz U => argz = #[(.ref ob), (.int 1)] ∧ Z.Warmed39 U.vm ∧ U.heap = h0) (fun _ _ _ _ _ => True) (fun _ U o U' => ∃ v L, o = .returned v ∧ Q4f1t Z ob va vh vx ka kh kx ea eb ec av xs xt da db h0 n0 v U'.heap L ∧ FrameEnd U o U' L ({ frames := 1, cells := 0, slots := 0, locals := 14 } : Room).cells ({ frames := 1, cells := 0, slots := 0, locals := 14 } : Room).slots) := by
  refine MetFree.of_bodySF (plainFor_of_name pn_com_example_gridwright_gridwright_core_ActivityOrder) hisR ?_
  intro p e s m args below meth c s₁ Bd hml0 hP hK
  obtain ⟨rfl, hZ, hh⟩ := hP
  have hx := Bd.exec
  have hby := Bd.bytes
  have hml : c.maxLocals = 4 := hml0
  have hown : s.vm.findClass o_n0 = some m.cls := findClass_of_methodNamed Bd.named
  have hnm := (name_of_methodNamed Bd.named Bd.method).1
  have X0 : Stand p l e ({ frames := 1, cells := 0, slots := 0, locals := 14 } : Room) s m #[(.ref ob), (.int 1)] below meth c s₁ [] 0 0 := Stand.of_body Bd
  have e0 : s₁.heap = h0 := by rw [← hh, Bd.state]; rfl
  have N0 := Fr.nil n0
  have K0 : Keep h0 h0 [vh, vx] := Keep.refl _ _
  have G : Gets p e below (s₁.setTop (entryFrame m #[(.ref ob), (.int 1)] 4)) (s₁.setTop (mkF m 0 #[.val (.ref ob), .val (.int 1), .unset, .unset] [])) := fun t k => castTop (ef_4f1t m ob) k
  replace G := o_aloadN (q := 1) G X0.here hx (hb hby d4_0) rfl rfl rfl
  obtain ⟨T1, X1, e1, st1⟩ := getF X0 hx hZ hown (host := "") (Or.inl (o_w hw 16 rfl)) Via.refl e0 P2 (g := o_g G) rfl rfl (hb hby d4_1)
  replace G := o_nxs (q := 4) (st := [(.ref vh)]) G st1 rfl
  replace G := o_iloadN (q := 5) G X1.here hx (hb hby d4_4) rfl rfl
  obtain ⟨c2, Ar2, -, S2, -, H2, -⟩ := id P5
  have hin2 : ¬ ((1 : Int32) < 0 ∨ c2.slots.size ≤ ((1 : Int32)).toNatClampNeg) := inb_of S2 ⟨by decide, by decide⟩
  replace G := o_nxs (q := 6) (st := [(.int eb)]) G (X1.iaload hx (j := (1 : Int32)) (v := (.int eb)) (by rw [e1]; exact Ar2.1) (State.isArrayOf_alike hZ.alike Ar2.2.1) Ar2.2.2 hin2 (Has.at H2 hin2 rfl) (g := o_g G) rfl rfl (hb hby d4_5)) rfl
  replace G := o_istoreN (q := 7) (l' := #[.val (.ref ob), .val (.int 1), .val (.int eb), .unset]) G X1.here hx (hb hby d4_6) rfl rfl
  replace G := o_iloadN (q := 8) G X1.here hx (hb hby d4_7) rfl rfl
  replace G := o_istoreN (q := 9) (l' := #[.val (.ref ob), .val (.int 1), .val (.int eb), .val (.int 1)]) G X1.here hx (hb hby d4_8) rfl rfl
  replace G := o_iloadN (q := 10) G X1.here hx (hb hby d4_9) rfl rfl
  replace G := o_ifNo (q := 13) G X1.here hx (hb hby d4_10) (by decide) rfl
  replace G := o_aloadN (q := 14) G X1.here hx (hb hby d4_13) rfl rfl rfl
  replace G := o_iloadN (q := 15) G X1.here hx (hb hby d4_14) rfl rfl
  replace G := o_aloadN (q := 16) G X1.here hx (hb hby d4_15) rfl rfl rfl
  obtain ⟨T4, X4, e4, st4⟩ := getF X1 hx hZ hown (host := "") (Or.inl (o_w hw 16 rfl)) Via.refl e1 P2 (g := o_g G) rfl rfl (hb hby d4_16)
  replace G := o_nxs (q := 19) (st := [(.ref vh), (.int eb), (.ref ob)]) G st4 rfl
  replace G := o_iloadN (q := 20) G X4.here hx (hb hby d4_19) rfl rfl
  replace G := o_iconst (q := 21) G X4.here hx (hb hby d4_20) (v := (1 : Int32)) (by decide) rfl
  replace G := o_isub (q := 22) G X4.here hx (hb hby d4_21) (by decide : ((1 : Int32) - (1 : Int32)) = (0 : Int32)) rfl
  replace G := o_iconst (q := 23) G X4.here hx (hb hby d4_22) (v := (2 : Int32)) (by decide) rfl
  replace G := o_idiv (q := 24) G X4.here hx (hb hby d4_23) (by decide) (by decide : ((0 : Int32) / (2 : Int32)) = (0 : Int32)) rfl
  obtain ⟨c5, Ar5, -, S5, -, H5, -⟩ := id P5
  have hin5 : ¬ ((0 : Int32) < 0 ∨ c5.slots.size ≤ ((0 : Int32)).toNatClampNeg) := inb_of S5 ⟨by decide, by decide⟩
  replace G := o_nxs (q := 25) (st := [(.int ea), (.int eb), (.ref ob)]) G (X4.iaload hx (j := (0 : Int32)) (v := (.int ea)) (by rw [e4]; exact Ar5.1) (State.isArrayOf_alike hZ.alike Ar5.2.1) Ar5.2.2 hin5 (Has.at H5 hin5 rfl) (g := o_g G) rfl rfl (hb hby d4_24)) rfl
  obtain ⟨cq6, q6, q6'⟩ := P0.cell
  obtain ⟨_, _, ⟨T6, L6, kk6, nn6⟩, -, X6, ⟨Lc6, hQ6, l6, y6, z6⟩, st6⟩ := X4.privateBack hx (y := (⟨o_n0, "before", "(II)Z"⟩ : MethodName)) hown (mvT hZ (o_w hw 31 rfl)) (mvT hZ (o_w hw 32 rfl)) (o_sel (z := (⟨o_n0, "add", "(I)V"⟩ : MethodName)) rfl (mvT hZ (o_w hw 22 rfl)) (mvT hZ (o_w hw 23 rfl)) (mvT hZ (o_w hw 32 rfl)) (Cond.privateMethod_at (mvP hZ (o_w hw 33 rfl) (args := #[]))) (by decide)) (Cond.privateMethod_at (mvP hZ (o_w hw 33 rfl) (args := #[]))) (mvT hZ (o_w hw 34 rfl)) (by decide) (backOf (W := 0) (rm5 l Z a0 hw [] ob eb ea va ka av db da h0 n0 Z0 P1 P4 heb hea hdb hda) hZ (o_w hw 34 rfl) (o_w hw 3 rfl) (by decide) (by decide)) (g := o_g G) rfl (by rw [hml]; rfl) (Steps.refl _) (a := ob) (by rw [e4]; exact q6) q6' (argsL := [(.int eb), (.int ea)]) (rest := []) (lenOf pd_0 rfl) rfl (by show 2 * 0 + _ ≤ _; exact Nat.le_of_eq rfl) (hb hby d4_25) (fun _ _ => ⟨rfl, e4, (by decide : 0 + 0 ≤ _), (by decide : 0 + 0 ≤ _)⟩)
  dsimp only [Pt.U, Pt.locs, Pt.cells, Pt.slots] at X6 l6 y6 z6 st6 hQ6
  subst l6 y6 z6
  obtain ⟨rfl, N6q, e6⟩ := hQ6
  have N6 := Fr.app N0 N6q
  replace G := o_nxv (q := 28) (st := [(.int (o_bf db da eb ea))]) G st6 rfl
  have hc28_7 : ¬ ((o_bf db da eb ea) = (0 : Int32)) := ho
  replace G := o_ifNo (q := 31) G X6.here hx (hb hby d4_28) ((if0 _ _).trans (feq hc28_7).1) rfl
  replace G := o_aloadN (q := 32) G X6.here hx (hb hby d4_31) rfl rfl rfl
  obtain ⟨T8, X8, e8, st8⟩ := getF X6 hx hZ hown (host := "") (Or.inl (o_w hw 16 rfl)) Via.refl e6 P2 (g := o_g G) rfl rfl (hb hby d4_32)
  replace G := o_nxs (q := 35) (st := [(.ref vh)]) G st8 rfl
  replace G := o_iloadN (q := 36) G X8.here hx (hb hby d4_35) rfl rfl
  replace G := o_aloadN (q := 37) G X8.here hx (hb hby d4_36) rfl rfl rfl
  obtain ⟨T9, X9, e9, st9⟩ := getF X8 hx hZ hown (host := "") (Or.inl (o_w hw 16 rfl)) Via.refl e8 P2 (g := o_g G) rfl rfl (hb hby d4_37)
  replace G := o_nxs (q := 40) (st := [(.ref vh), (.int 1), (.ref vh)]) G st9 rfl
  replace G := o_iloadN (q := 41) G X9.here hx (hb hby d4_40) rfl rfl
  replace G := o_iconst (q := 42) G X9.here hx (hb hby d4_41) (v := (1 : Int32)) (by decide) rfl
  replace G := o_isub (q := 43) G X9.here hx (hb hby d4_42) (by decide : ((1 : Int32) - (1 : Int32)) = (0 : Int32)) rfl
  replace G := o_iconst (q := 44) G X9.here hx (hb hby d4_43) (v := (2 : Int32)) (by decide) rfl
  replace G := o_idiv (q := 45) G X9.here hx (hb hby d4_44) (by decide) (by decide : ((0 : Int32) / (2 : Int32)) = (0 : Int32)) rfl
  obtain ⟨c10, Ar10, -, S10, -, H10, -⟩ := id P5
  have hin10 : ¬ ((0 : Int32) < 0 ∨ c10.slots.size ≤ ((0 : Int32)).toNatClampNeg) := inb_of S10 ⟨by decide, by decide⟩
  replace G := o_nxs (q := 46) (st := [(.int ea), (.int 1), (.ref vh)]) G (X9.iaload hx (j := (0 : Int32)) (v := (.int ea)) (by rw [e9]; exact Ar10.1) (State.isArrayOf_alike hZ.alike Ar10.2.1) Ar10.2.2 hin10 (Has.at H10 hin10 rfl) (g := o_g G) rfl rfl (hb hby d4_45)) rfl
  obtain ⟨c11, Ar11, q11, S11, N11', H11, G11'⟩ := id P5
  have hin11 : ¬ ((1 : Int32) < 0 ∨ c11.slots.size ≤ ((1 : Int32)).toNatClampNeg) := inb_of S11 ⟨by decide, by decide⟩
  obtain ⟨T11, h11, X11, e11, W11, st11⟩ := stI X9 hx hZ e9 Ar11 (j := (1 : Int32)) hin11 (g := o_g G) rfl rfl (hb hby d4_46)
  have N11 := Fr.snoc X11 N6 P7
  have Z11 : n0 ≤ h11.size := Nat.le_trans Z0 (Keep.of_wr W11).1
  have K11 : Keep h0 h11 [vh, vx] := K0.wr W11 (Or.inl (List.mem_of_getElem? (i := 0) rfl))
  have V11 : Arv Z h11 vh kh .int 3 [(.int ea), (.int ea), (.int ec)] (.int 0) := Arv.set Ar11 q11 S11 N11' H11 G11' rfl W11 1 rfl (Nat.le_of_ble_eq_true rfl)
  replace G := o_nxs (q := 47) (st := []) G st11 rfl
  replace G := o_aloadN (q := 48) G X11.here hx (hb hby d4_47) rfl rfl rfl
  have F12 := (P3.other W11 (Or.inl P10))
  obtain ⟨T13, X13, e13, st13⟩ := getF X11 hx hZ hown (host := "") (Or.inl (o_w hw 18 rfl)) Via.refl e11 F12 (g := o_g G) rfl rfl (hb hby d4_48)
  replace G := o_nxs (q := 51) (st := [(.ref vx)]) G st13 rfl
  replace G := o_aloadN (q := 52) G X13.here hx (hb hby d4_51) rfl rfl rfl
  have F14 := (P2.other W11 (Or.inl P10))
  obtain ⟨T15, X15, e15, st15⟩ := getF X13 hx hZ hown (host := "") (Or.inl (o_w hw 16 rfl)) Via.refl e13 F14 (g := o_g G) rfl rfl (hb hby d4_52)
  replace G := o_nxs (q := 55) (st := [(.ref vh), (.ref vx)]) G st15 rfl
  replace G := o_iloadN (q := 56) G X15.here hx (hb hby d4_55) rfl rfl
  obtain ⟨c16, Ar16, -, S16, -, H16, -⟩ := id V11
  have hin16 : ¬ ((1 : Int32) < 0 ∨ c16.slots.size ≤ ((1 : Int32)).toNatClampNeg) := inb_of S16 ⟨by decide, by decide⟩
  replace G := o_nxs (q := 57) (st := [(.int ea), (.ref vx)]) G (X15.iaload hx (j := (1 : Int32)) (v := (.int ea)) (by rw [e15]; exact Ar16.1) (State.isArrayOf_alike hZ.alike Ar16.2.1) Ar16.2.2 hin16 (Has.at H16 hin16 rfl) (g := o_g G) rfl rfl (hb hby d4_56)) rfl
  replace G := o_iloadN (q := 58) G X15.here hx (hb hby d4_57) rfl rfl
  have F17 := (P6.other W11 (Ne.symm P14))
  obtain ⟨c18, Ar18, q18, S18, N18', H18, G18'⟩ := id F17
  have hin18 : ¬ (ea < 0 ∨ c18.slots.size ≤ (ea).toNatClampNeg) := inb_of S18 hea
  obtain ⟨T18, h18, X18, e18, W18, st18⟩ := stI X15 hx hZ e15 Ar18 (j := ea) hin18 (g := o_g G) rfl rfl (hb hby d4_58)
  have N18 := Fr.snoc X18 N11 P8
  have Z18 : n0 ≤ h18.size := Nat.le_trans Z11 (Keep.of_wr W18).1
  have K18 : Keep h0 h18 [vh, vx] := K11.wr W18 (Or.inl (List.mem_of_getElem? (i := 1) rfl))
  have V18 : Arv Z h18 vx kx .int 3 (xs.set ea.toNatClampNeg (.int 1)) (.int 0) := Arv.set Ar18 q18 S18 N18' H18 G18' rfl W18 ea.toNatClampNeg rfl (by simp only [List.length_set, hxl]; exact o_cl hea)
  replace G := o_nxs (q := 59) (st := []) G st18 rfl
  replace G := o_iloadN (q := 60) G X18.here hx (hb hby d4_59) rfl rfl
  replace G := o_iconst (q := 61) G X18.here hx (hb hby d4_60) (v := (1 : Int32)) (by decide) rfl
  replace G := o_isub (q := 62) G X18.here hx (hb hby d4_61) (by decide : ((1 : Int32) - (1 : Int32)) = (0 : Int32)) rfl
  replace G := o_iconst (q := 63) G X18.here hx (hb hby d4_62) (v := (2 : Int32)) (by decide) rfl
  replace G := o_idiv (q := 64) G X18.here hx (hb hby d4_63) (by decide) (by decide : ((0 : Int32) / (2 : Int32)) = (0 : Int32)) rfl
  replace G := o_istoreN (q := 65) (l' := #[.val (.ref ob), .val (.int 1), .val (.int eb), .val (.int 0)]) G X18.here hx (hb hby d4_64) rfl rfl
  replace G := o_goto (q := 9) G X18.here hx (hb hby d4_65) (by decide) (by decide)
  replace G := o_iloadN (q := 10) G X18.here hx (hb hby d4_9) rfl rfl
  replace G := o_ifYes (q := 68) G X18.here hx (hb hby d4_10) (by decide) (by decide) (by decide)
  replace G := o_aloadN (q := 69) G X18.here hx (hb hby d4_68) rfl rfl rfl
  have F20 := (F14.other W18 (Or.inl P11))
  obtain ⟨T21, X21, e21, st21⟩ := getF X18 hx hZ hown (host := "") (Or.inl (o_w hw 16 rfl)) Via.refl e18 F20 (g := o_g G) rfl rfl (hb hby d4_69)
  replace G := o_nxs (q := 72) (st := [(.ref vh)]) G st21 rfl
  replace G := o_iloadN (q := 73) G X21.here hx (hb hby d4_72) rfl rfl
  replace G := o_iloadN (q := 74) G X21.here hx (hb hby d4_73) rfl rfl
  have F22 := (V11.other W18 P14)
  obtain ⟨c23, Ar23, q23, S23, N23', H23, G23'⟩ := id F22
  have hin23 : ¬ ((0 : Int32) < 0 ∨ c23.slots.size ≤ ((0 : Int32)).toNatClampNeg) := inb_of S23 ⟨by decide, by decide⟩
  obtain ⟨T23, h23, X23, e23, W23, st23⟩ := stI X21 hx hZ e21 Ar23 (j := (0 : Int32)) hin23 (g := o_g G) rfl rfl (hb hby d4_74)
  have N23 := Fr.snoc X23 N18 P7
  have Z23 : n0 ≤ h23.size := Nat.le_trans Z18 (Keep.of_wr W23).1
  have K23 : Keep h0 h23 [vh, vx] := K18.wr W23 (Or.inl (List.mem_of_getElem? (i := 0) rfl))
  have V23 : Arv Z h23 vh kh .int 3 [(.int eb), (.int ea), (.int ec)] (.int 0) := Arv.set Ar23 q23 S23 N23' H23 G23' rfl W23 0 rfl (Nat.le_of_ble_eq_true rfl)
  replace G := o_nxs (q := 75) (st := []) G st23 rfl
  replace G := o_aloadN (q := 76) G X23.here hx (hb hby d4_75) rfl rfl rfl
  have F24 := ((F12.other W18 (Or.inl P11)).other W23 (Or.inl P10))
  obtain ⟨T25, X25, e25, st25⟩ := getF X23 hx hZ hown (host := "") (Or.inl (o_w hw 18 rfl)) Via.refl e23 F24 (g := o_g G) rfl rfl (hb hby d4_76)
  replace G := o_nxs (q := 79) (st := [(.ref vx)]) G st25 rfl
  replace G := o_iloadN (q := 80) G X25.here hx (hb hby d4_79) rfl rfl
  replace G := o_iloadN (q := 81) G X25.here hx (hb hby d4_80) rfl rfl
  have F26 : Arv Z h23 vx kx .int 3 (xs.set ea.toNatClampNeg (.int 1)) (.int 0) := (V18.other W23 (Ne.symm P14))
  obtain ⟨c27, Ar27, q27, S27, N27', H27, G27'⟩ := id F26
  have hin27 : ¬ (eb < 0 ∨ c27.slots.size ≤ (eb).toNatClampNeg) := inb_of S27 heb
  obtain ⟨T27, h27, X27, e27, W27, st27⟩ := stI X25 hx hZ e25 Ar27 (j := eb) hin27 (g := o_g G) rfl rfl (hb hby d4_81)
  have N27 := Fr.snoc X27 N23 P8
  have Z27 : n0 ≤ h27.size := Nat.le_trans Z23 (Keep.of_wr W27).1
  have K27 : Keep h0 h27 [vh, vx] := K23.wr W27 (Or.inl (List.mem_of_getElem? (i := 1) rfl))
  have V27 : Arv Z h27 vx kx .int 3 ((xs.set ea.toNatClampNeg (.int 1)).set eb.toNatClampNeg (.int 0)) (.int 0) := Arv.set Ar27 q27 S27 N27' H27 G27' rfl W27 eb.toNatClampNeg rfl (by simp only [List.length_set, hxl]; exact o_cl heb)
  replace G := o_nxs (q := 82) (st := []) G st27 rfl
  have VT28 : Arv Z h27 vx kx .int 3 xt (.int 0) := by rw [← hxt]; exact V27
  obtain ⟨fs, hr, hrun, hended, hW, hsame⟩ := X27.leave (v := none) (fun _ => rfl)
  refine ⟨_, _, G _ (X27.returnOut hx Bd.returns (hb hby d4_82) hr), hrun, hended, _, _, rfl, ?_, ⟨_, rfl⟩, hW, hsame.mono (by decide) (by decide)⟩
  have F29 := (V23.other W27 P14)
  show Q4f1t Z ob va vh vx ka kh kx ea eb ec av xs xt da db h0 n0 _ T27.heap _
  rw [e27]
  exact ⟨rfl, N27, K27, F29, VT28⟩
theorem ef_4f2f (m : MethodId) (x0 : Addr) : entryFrame m #[(.ref x0), (.int 2)] 4 = mkF m 0 #[.val (.ref x0), .val (.int 2), .unset, .unset] [] := by first | (simp [entryFrame, mkF, argsToLocals, Value.category]; done) | rfl
def Q4f2f (Z : State) (ob : Addr) (va : Addr) (vh : Addr) (vx : Addr) (ka : ClassId) (kh : ClassId) (kx : ClassId) (ea : Int32) (eb : Int32) (ec : Int32) (av : List Value) (xs : List Value) (xt : List Value) (da : UInt64) (dc : UInt64) (h0 : Heap) (n0 : Nat) (v : Option Value) (h : Heap) (L : List Loc) : Prop := v = none ∧ Fr n0 L ∧ Keep h0 h [vh, vx] ∧ (Arv Z h vh kh .int 3 [(.int ea), (.int eb), (.int ec)] (.int 0)) ∧ (Arv Z h vx kx .int 3 xt (.int 0))
set_option maxRecDepth 65536 in
set_option maxHeartbeats 40000000 in
theorem rm4f2f (l : Launch) (Z : State) (a0 : Array Value) (hw : ∀ d ∈ tables_1, d.before a0 Z = true) (ws : List Jvm.Cond) (ob : Addr) (va : Addr) (vh : Addr) (vx : Addr) (ka : ClassId) (kh : ClassId) (kx : ClassId) (ea : Int32) (eb : Int32) (ec : Int32) (av : List Value) (xs : List Value) (xt : List Value) (da : UInt64) (dc : UInt64) (h0 : Heap) (n0 : Nat) (Z0 : n0 ≤ h0.size) (P0 : Exa Z h0 ob o_n0) (P1 : Fld Z h0 ob o_n0 "activity" "[D" (.ref va)) (P2 : Fld Z h0 ob o_n0 "heap" "[I" (.ref vh)) (P3 : Fld Z h0 ob o_n0 "heapIndex" "[I" (.ref vx)) (P4 : Arv Z h0 va ka .double (3 : Int32) av (.double 0)) (P5 : Arv Z h0 vh kh .int 3 [(.int ea), (.int eb), (.int ec)] (.int 0)) (P6 : Arv Z h0 vx kx .int 3 xs (.int 0)) (P7 : n0 ≤ vh) (P8 : n0 ≤ vx) (P9 : ob ≠ va) (P10 : ob ≠ vh) (P11 : ob ≠ vx) (P12 : va ≠ vh) (P13 : va ≠ vx) (P14 : vh ≠ vx) (hea : o_in ea) (hec : o_in ec) (hxl : xs.length = 3) (hda : av.getD ea.toNatClampNeg (.double 0) = .double da) (hdc : av.getD ec.toNatClampNeg (.double 0) = .double dc) (ho : (o_bf dc da ec ea) = (0 : Int32)) (hxt : (xs.set ec.toNatClampNeg (.int 2)) = xt) :
    MetFree l (⟨o_n0, "siftUp", "(I)V"⟩ : MethodName) (head1 (Jvm.Cond.code (⟨o_n0, "siftUp", "(I)V"⟩ : MethodName) prog_7_method_8_code 4 none :: ws) ({ frames := 1, cells := 0, slots := 0, locals := 14 } : Room)) (fun argz U => argz = #[(.ref ob), (.int 2)] ∧ Z.Warmed39 U.vm ∧ U.heap = h0) (fun _ _ _ _ _ => True) (fun _ U o U' => ∃ v L, o = .returned v ∧ Q4f2f Z ob va vh vx ka kh kx ea eb ec av xs xt da dc h0 n0 v U'.heap L ∧ FrameEnd U o U' L ({ frames := 1, cells := 0, slots := 0, locals := 14 } : Room).cells ({ frames := 1, cells := 0, slots := 0, locals := 14 } : Room).slots) := by
  refine MetFree.of_bodySF (plainFor_of_name pn_com_example_gridwright_gridwright_core_ActivityOrder) hisR ?_
  intro p e s m args below meth c s₁ Bd hml0 hP hK
  obtain ⟨rfl, hZ, hh⟩ := hP
  have hx := Bd.exec
  have hby := Bd.bytes
  have hml : c.maxLocals = 4 := hml0
  have hown : s.vm.findClass o_n0 = some m.cls := findClass_of_methodNamed Bd.named
  have hnm := (name_of_methodNamed Bd.named Bd.method).1
  have X0 : Stand p l e ({ frames := 1, cells := 0, slots := 0, locals := 14 } : Room) s m #[(.ref ob), (.int 2)] below meth c s₁ [] 0 0 := Stand.of_body Bd
  have e0 : s₁.heap = h0 := by rw [← hh, Bd.state]; rfl
  have N0 := Fr.nil n0
  have K0 : Keep h0 h0 [vh, vx] := Keep.refl _ _
  have G : Gets p e below (s₁.setTop (entryFrame m #[(.ref ob), (.int 2)] 4)) (s₁.setTop (mkF m 0 #[.val (.ref ob), .val (.int 2), .unset, .unset] [])) := fun t k => castTop (ef_4f2f m ob) k
  replace G := o_aloadN (q := 1) G X0.here hx (hb hby d4_0) rfl rfl rfl
  obtain ⟨T1, X1, e1, st1⟩ := getF X0 hx hZ hown (host := "") (Or.inl (o_w hw 16 rfl)) Via.refl e0 P2 (g := o_g G) rfl rfl (hb hby d4_1)
  replace G := o_nxs (q := 4) (st := [(.ref vh)]) G st1 rfl
  replace G := o_iloadN (q := 5) G X1.here hx (hb hby d4_4) rfl rfl
  obtain ⟨c2, Ar2, -, S2, -, H2, -⟩ := id P5
  have hin2 : ¬ ((2 : Int32) < 0 ∨ c2.slots.size ≤ ((2 : Int32)).toNatClampNeg) := inb_of S2 ⟨by decide, by decide⟩
  replace G := o_nxs (q := 6) (st := [(.int ec)]) G (X1.iaload hx (j := (2 : Int32)) (v := (.int ec)) (by rw [e1]; exact Ar2.1) (State.isArrayOf_alike hZ.alike Ar2.2.1) Ar2.2.2 hin2 (Has.at H2 hin2 rfl) (g := o_g G) rfl rfl (hb hby d4_5)) rfl
  replace G := o_istoreN (q := 7) (l' := #[.val (.ref ob), .val (.int 2), .val (.int ec), .unset]) G X1.here hx (hb hby d4_6) rfl rfl
  replace G := o_iloadN (q := 8) G X1.here hx (hb hby d4_7) rfl rfl
  replace G := o_istoreN (q := 9) (l' := #[.val (.ref ob), .val (.int 2), .val (.int ec), .val (.int 2)]) G X1.here hx (hb hby d4_8) rfl rfl
  replace G := o_iloadN (q := 10) G X1.here hx (hb hby d4_9) rfl rfl
  replace G := o_ifNo (q := 13) G X1.here hx (hb hby d4_10) (by decide) rfl
  replace G := o_aloadN (q := 14) G X1.here hx (hb hby d4_13) rfl rfl rfl
  replace G := o_iloadN (q := 15) G X1.here hx (hb hby d4_14) rfl rfl
  replace G := o_aloadN (q := 16) G X1.here hx (hb hby d4_15) rfl rfl rfl
  obtain ⟨T4, X4, e4, st4⟩ := getF X1 hx hZ hown (host := "") (Or.inl (o_w hw 16 rfl)) Via.refl e1 P2 (g := o_g G) rfl rfl (hb hby d4_16)
  replace G := o_nxs (q := 19) (st := [(.ref vh), (.int ec), (.ref ob)]) G st4 rfl
  replace G := o_iloadN (q := 20) G X4.here hx (hb hby d4_19) rfl rfl
  replace G := o_iconst (q := 21) G X4.here hx (hb hby d4_20) (v := (1 : Int32)) (by decide) rfl
  replace G := o_isub (q := 22) G X4.here hx (hb hby d4_21) (by decide : ((2 : Int32) - (1 : Int32)) = (1 : Int32)) rfl
  replace G := o_iconst (q := 23) G X4.here hx (hb hby d4_22) (v := (2 : Int32)) (by decide) rfl
  replace G := o_idiv (q := 24) G X4.here hx (hb hby d4_23) (by decide) (by decide : ((1 : Int32) / (2 : Int32)) = (0 : Int32)) rfl
  obtain ⟨c5, Ar5, -, S5, -, H5, -⟩ := id P5
  have hin5 : ¬ ((0 : Int32) < 0 ∨ c5.slots.size ≤ ((0 : Int32)).toNatClampNeg) := inb_of S5 ⟨by decide, by decide⟩
  replace G := o_nxs (q := 25) (st := [(.int ea), (.int ec), (.ref ob)]) G (X4.iaload hx (j := (0 : Int32)) (v := (.int ea)) (by rw [e4]; exact Ar5.1) (State.isArrayOf_alike hZ.alike Ar5.2.1) Ar5.2.2 hin5 (Has.at H5 hin5 rfl) (g := o_g G) rfl rfl (hb hby d4_24)) rfl
  obtain ⟨cq6, q6, q6'⟩ := P0.cell
  obtain ⟨_, _, ⟨T6, L6, kk6, nn6⟩, -, X6, ⟨Lc6, hQ6, l6, y6, z6⟩, st6⟩ := X4.privateBack hx (y := (⟨o_n0, "before", "(II)Z"⟩ : MethodName)) hown (mvT hZ (o_w hw 31 rfl)) (mvT hZ (o_w hw 32 rfl)) (o_sel (z := (⟨o_n0, "add", "(I)V"⟩ : MethodName)) rfl (mvT hZ (o_w hw 22 rfl)) (mvT hZ (o_w hw 23 rfl)) (mvT hZ (o_w hw 32 rfl)) (Cond.privateMethod_at (mvP hZ (o_w hw 33 rfl) (args := #[]))) (by decide)) (Cond.privateMethod_at (mvP hZ (o_w hw 33 rfl) (args := #[]))) (mvT hZ (o_w hw 34 rfl)) (by decide) (backOf (W := 0) (rm5 l Z a0 hw [] ob ec ea va ka av dc da h0 n0 Z0 P1 P4 hec hea hdc hda) hZ (o_w hw 34 rfl) (o_w hw 3 rfl) (by decide) (by decide)) (g := o_g G) rfl (by rw [hml]; rfl) (Steps.refl _) (a := ob) (by rw [e4]; exact q6) q6' (argsL := [(.int ec), (.int ea)]) (rest := []) (lenOf pd_0 rfl) rfl (by show 2 * 0 + _ ≤ _; exact Nat.le_of_eq rfl) (hb hby d4_25) (fun _ _ => ⟨rfl, e4, (by decide : 0 + 0 ≤ _), (by decide : 0 + 0 ≤ _)⟩)
  dsimp only [Pt.U, Pt.locs, Pt.cells, Pt.slots] at X6 l6 y6 z6 st6 hQ6
  subst l6 y6 z6
  obtain ⟨rfl, N6q, e6⟩ := hQ6
  have N6 := Fr.app N0 N6q
  replace G := o_nxv (q := 28) (st := [(.int (o_bf dc da ec ea))]) G st6 rfl
  have hc28_7 : (o_bf dc da ec ea) = (0 : Int32) := ho
  replace G := o_ifYes (q := 68) G X6.here hx (hb hby d4_28) ((if0 _ _).trans (teq hc28_7).1) (by decide) (by decide)
  replace G := o_aloadN (q := 69) G X6.here hx (hb hby d4_68) rfl rfl rfl
  obtain ⟨T8, X8, e8, st8⟩ := getF X6 hx hZ hown (host := "") (Or.inl (o_w hw 16 rfl)) Via.refl e6 P2 (g := o_g G) rfl rfl (hb hby d4_69)
  replace G := o_nxs (q := 72) (st := [(.ref vh)]) G st8 rfl
  replace G := o_iloadN (q := 73) G X8.here hx (hb hby d4_72) rfl rfl
  replace G := o_iloadN (q := 74) G X8.here hx (hb hby d4_73) rfl rfl
  obtain ⟨c9, Ar9, q9, S9, N9', H9, G9'⟩ := id P5
  have hin9 : ¬ ((2 : Int32) < 0 ∨ c9.slots.size ≤ ((2 : Int32)).toNatClampNeg) := inb_of S9 ⟨by decide, by decide⟩
  obtain ⟨T9, h9, X9, e9, W9, st9⟩ := stI X8 hx hZ e8 Ar9 (j := (2 : Int32)) hin9 (g := o_g G) rfl rfl (hb hby d4_74)
  have N9 := Fr.snoc X9 N6 P7
  have Z9 : n0 ≤ h9.size := Nat.le_trans Z0 (Keep.of_wr W9).1
  have K9 : Keep h0 h9 [vh, vx] := K0.wr W9 (Or.inl (List.mem_of_getElem? (i := 0) rfl))
  have V9 : Arv Z h9 vh kh .int 3 [(.int ea), (.int eb), (.int ec)] (.int 0) := Arv.set Ar9 q9 S9 N9' H9 G9' rfl W9 2 rfl (Nat.le_of_ble_eq_true rfl)
  replace G := o_nxs (q := 75) (st := []) G st9 rfl
  replace G := o_aloadN (q := 76) G X9.here hx (hb hby d4_75) rfl rfl rfl
  have F10 := (P3.other W9 (Or.inl P10))
  obtain ⟨T11, X11, e11, st11⟩ := getF X9 hx hZ hown (host := "") (Or.inl (o_w hw 18 rfl)) Via.refl e9 F10 (g := o_g G) rfl rfl (hb hby d4_76)
  replace G := o_nxs (q := 79) (st := [(.ref vx)]) G st11 rfl
  replace G := o_iloadN (q := 80) G X11.here hx (hb hby d4_79) rfl rfl
  replace G := o_iloadN (q := 81) G X11.here hx (hb hby d4_80) rfl rfl
  have F12 := (P6.other W9 (Ne.symm P14))
  obtain ⟨c13, Ar13, q13, S13, N13', H13, G13'⟩ := id F12
  have hin13 : ¬ (ec < 0 ∨ c13.slots.size ≤ (ec).toNatClampNeg) := inb_of S13 hec
  obtain ⟨T13, h13, X13, e13, W13, st13⟩ := stI X11 hx hZ e11 Ar13 (j := ec) hin13 (g := o_g G) rfl rfl (hb hby d4_81)
  have N13 := Fr.snoc X13 N9 P8
  have Z13 : n0 ≤ h13.size := Nat.le_trans Z9 (Keep.of_wr W13).1
  have K13 : Keep h0 h13 [vh, vx] := K9.wr W13 (Or.inl (List.mem_of_getElem? (i := 1) rfl))
  have V13 : Arv Z h13 vx kx .int 3 (xs.set ec.toNatClampNeg (.int 2)) (.int 0) := Arv.set Ar13 q13 S13 N13' H13 G13' rfl W13 ec.toNatClampNeg rfl (by simp only [List.length_set, hxl]; exact o_cl hec)
  replace G := o_nxs (q := 82) (st := []) G st13 rfl
  have VT14 : Arv Z h13 vx kx .int 3 xt (.int 0) := by rw [← hxt]; exact V13
  obtain ⟨fs, hr, hrun, hended, hW, hsame⟩ := X13.leave (v := none) (fun _ => rfl)
  refine ⟨_, _, G _ (X13.returnOut hx Bd.returns (hb hby d4_82) hr), hrun, hended, _, _, rfl, ?_, ⟨_, rfl⟩, hW, hsame.mono (by decide) (by decide)⟩
  have F15 := (V9.other W13 P14)
  show Q4f2f Z ob va vh vx ka kh kx ea eb ec av xs xt da dc h0 n0 _ T13.heap _
  rw [e13]
  exact ⟨rfl, N13, K13, F15, VT14⟩
theorem ef_4f2t (m : MethodId) (x0 : Addr) : entryFrame m #[(.ref x0), (.int 2)] 4 = mkF m 0 #[.val (.ref x0), .val (.int 2), .unset, .unset] [] := by first | (simp [entryFrame, mkF, argsToLocals, Value.category]; done) | rfl
def Q4f2t (Z : State) (ob : Addr) (va : Addr) (vh : Addr) (vx : Addr) (ka : ClassId) (kh : ClassId) (kx : ClassId) (ea : Int32) (eb : Int32) (ec : Int32) (av : List Value) (xs : List Value) (xt : List Value) (da : UInt64) (dc : UInt64) (h0 : Heap) (n0 : Nat) (v : Option Value) (h : Heap) (L : List Loc) : Prop := v = none ∧ Fr n0 L ∧ Keep h0 h [vh, vx] ∧ (Arv Z h vh kh .int 3 [(.int ec), (.int eb), (.int ea)] (.int 0)) ∧ (Arv Z h vx kx .int 3 xt (.int 0))
set_option maxRecDepth 65536 in
set_option maxHeartbeats 40000000 in
theorem rm4f2t (l : Launch) (Z : State) (a0 : Array Value) (hw : ∀ d ∈ tables_1, d.before a0 Z = true) (ws : List Jvm.Cond) (ob : Addr) (va : Addr) (vh : Addr) (vx : Addr) (ka : ClassId) (kh : ClassId) (kx : ClassId) (ea : Int32) (eb : Int32) (ec : Int32) (av : List Value) (xs : List Value) (xt : List Value) (da : UInt64) (dc : UInt64) (h0 : Heap) (n0 : Nat) (Z0 : n0 ≤ h0.size) (P0 : Exa Z h0 ob o_n0) (P1 : Fld Z h0 ob o_n0 "activity" "[D" (.ref va)) (P2 : Fld Z h0 ob o_n0 "heap" "[I" (.ref vh)) (P3 : Fld Z h0 ob o_n0 "heapIndex" "[I" (.ref vx)) (P4 : Arv Z h0 va ka .double (3 : Int32) av (.double 0)) (P5 : Arv Z h0 vh kh .int 3 [(.int ea), (.int eb), (.int ec)] (.int 0)) (P6 : Arv Z h0 vx kx .int 3 xs (.int 0)) (P7 : n0 ≤ vh) (P8 : n0 ≤ vx) (P9 : ob ≠ va) (P10 : ob ≠ vh) (P11 : ob ≠ vx) (P12 : va ≠ vh) (P13 : va ≠ vx) (P14 : vh ≠ vx) (hea : o_in ea) (hec : o_in ec) (hxl : xs.length = 3) (hda : av.getD ea.toNatClampNeg (.double 0) = .double da) (hdc : av.getD ec.toNatClampNeg (.double 0) = .double dc) (ho : ¬ (o_bf dc da ec ea) = (0 : Int32)) (hxt : ((xs.set ea.toNatClampNeg (.int 2)).set ec.toNatClampNeg (.int 0)) = xt) :
    MetFree l (⟨o_n0, "siftUp", "(I)V"⟩ : MethodName) (head1 (Jvm.Cond.code (⟨o_n0, "siftUp", "(I)V"⟩ : MethodName) prog_7_method_8_code 4 none :: ws) ({ frames := 1, cells := 0, slots := 0, locals := 14 } : Room)) (fun argz U => argz = #[(.ref ob), (.int 2)] ∧ Z.Warmed39 U.vm ∧ U.heap = h0) (fun _ _ _ _ _ => True) (fun _ U o U' => ∃ v L, o = .returned v ∧ Q4f2t Z ob va vh vx ka kh kx ea eb ec av xs xt da dc h0 n0 v U'.heap L ∧ FrameEnd U o U' L ({ frames := 1, cells := 0, slots := 0, locals := 14 } : Room).cells ({ frames := 1, cells := 0, slots := 0, locals := 14 } : Room).slots) := by
  refine MetFree.of_bodySF (plainFor_of_name pn_com_example_gridwright_gridwright_core_ActivityOrder) hisR ?_
  intro p e s m args below meth c s₁ Bd hml0 hP hK
  obtain ⟨rfl, hZ, hh⟩ := hP
  have hx := Bd.exec
  have hby := Bd.bytes
  have hml : c.maxLocals = 4 := hml0
  have hown : s.vm.findClass o_n0 = some m.cls := findClass_of_methodNamed Bd.named
  have hnm := (name_of_methodNamed Bd.named Bd.method).1
  have X0 : Stand p l e ({ frames := 1, cells := 0, slots := 0, locals := 14 } : Room) s m #[(.ref ob), (.int 2)] below meth c s₁ [] 0 0 := Stand.of_body Bd
  have e0 : s₁.heap = h0 := by rw [← hh, Bd.state]; rfl
  have N0 := Fr.nil n0
  have K0 : Keep h0 h0 [vh, vx] := Keep.refl _ _
  have G : Gets p e below (s₁.setTop (entryFrame m #[(.ref ob), (.int 2)] 4)) (s₁.setTop (mkF m 0 #[.val (.ref ob), .val (.int 2), .unset, .unset] [])) := fun t k => castTop (ef_4f2t m ob) k
  replace G := o_aloadN (q := 1) G X0.here hx (hb hby d4_0) rfl rfl rfl
  obtain ⟨T1, X1, e1, st1⟩ := getF X0 hx hZ hown (host := "") (Or.inl (o_w hw 16 rfl)) Via.refl e0 P2 (g := o_g G) rfl rfl (hb hby d4_1)
  replace G := o_nxs (q := 4) (st := [(.ref vh)]) G st1 rfl
  replace G := o_iloadN (q := 5) G X1.here hx (hb hby d4_4) rfl rfl
  obtain ⟨c2, Ar2, -, S2, -, H2, -⟩ := id P5
  have hin2 : ¬ ((2 : Int32) < 0 ∨ c2.slots.size ≤ ((2 : Int32)).toNatClampNeg) := inb_of S2 ⟨by decide, by decide⟩
  replace G := o_nxs (q := 6) (st := [(.int ec)]) G (X1.iaload hx (j := (2 : Int32)) (v := (.int ec)) (by rw [e1]; exact Ar2.1) (State.isArrayOf_alike hZ.alike Ar2.2.1) Ar2.2.2 hin2 (Has.at H2 hin2 rfl) (g := o_g G) rfl rfl (hb hby d4_5)) rfl
  replace G := o_istoreN (q := 7) (l' := #[.val (.ref ob), .val (.int 2), .val (.int ec), .unset]) G X1.here hx (hb hby d4_6) rfl rfl
  replace G := o_iloadN (q := 8) G X1.here hx (hb hby d4_7) rfl rfl
  replace G := o_istoreN (q := 9) (l' := #[.val (.ref ob), .val (.int 2), .val (.int ec), .val (.int 2)]) G X1.here hx (hb hby d4_8) rfl rfl
  replace G := o_iloadN (q := 10) G X1.here hx (hb hby d4_9) rfl rfl
  replace G := o_ifNo (q := 13) G X1.here hx (hb hby d4_10) (by decide) rfl
  replace G := o_aloadN (q := 14) G X1.here hx (hb hby d4_13) rfl rfl rfl
  replace G := o_iloadN (q := 15) G X1.here hx (hb hby d4_14) rfl rfl
  replace G := o_aloadN (q := 16) G X1.here hx (hb hby d4_15) rfl rfl rfl
  obtain ⟨T4, X4, e4, st4⟩ := getF X1 hx hZ hown (host := "") (Or.inl (o_w hw 16 rfl)) Via.refl e1 P2 (g := o_g G) rfl rfl (hb hby d4_16)
  replace G := o_nxs (q := 19) (st := [(.ref vh), (.int ec), (.ref ob)]) G st4 rfl
  replace G := o_iloadN (q := 20) G X4.here hx (hb hby d4_19) rfl rfl
  replace G := o_iconst (q := 21) G X4.here hx (hb hby d4_20) (v := (1 : Int32)) (by decide) rfl
  replace G := o_isub (q := 22) G X4.here hx (hb hby d4_21) (by decide : ((2 : Int32) - (1 : Int32)) = (1 : Int32)) rfl
  replace G := o_iconst (q := 23) G X4.here hx (hb hby d4_22) (v := (2 : Int32)) (by decide) rfl
  replace G := o_idiv (q := 24) G X4.here hx (hb hby d4_23) (by decide) (by decide : ((1 : Int32) / (2 : Int32)) = (0 : Int32)) rfl
  obtain ⟨c5, Ar5, -, S5, -, H5, -⟩ := id P5
  have hin5 : ¬ ((0 : Int32) < 0 ∨ c5.slots.size ≤ ((0 : Int32)).toNatClampNeg) := inb_of S5 ⟨by decide, by decide⟩
  replace G := o_nxs (q := 25) (st := [(.int ea), (.int ec), (.ref ob)]) G (X4.iaload hx (j := (0 : Int32)) (v := (.int ea)) (by rw [e4]; exact Ar5.1) (State.isArrayOf_alike hZ.alike Ar5.2.1) Ar5.2.2 hin5 (Has.at H5 hin5 rfl) (g := o_g G) rfl rfl (hb hby d4_24)) rfl
  obtain ⟨cq6, q6, q6'⟩ := P0.cell
  obtain ⟨_, _, ⟨T6, L6, kk6, nn6⟩, -, X6, ⟨Lc6, hQ6, l6, y6, z6⟩, st6⟩ := X4.privateBack hx (y := (⟨o_n0, "before", "(II)Z"⟩ : MethodName)) hown (mvT hZ (o_w hw 31 rfl)) (mvT hZ (o_w hw 32 rfl)) (o_sel (z := (⟨o_n0, "add", "(I)V"⟩ : MethodName)) rfl (mvT hZ (o_w hw 22 rfl)) (mvT hZ (o_w hw 23 rfl)) (mvT hZ (o_w hw 32 rfl)) (Cond.privateMethod_at (mvP hZ (o_w hw 33 rfl) (args := #[]))) (by decide)) (Cond.privateMethod_at (mvP hZ (o_w hw 33 rfl) (args := #[]))) (mvT hZ (o_w hw 34 rfl)) (by decide) (backOf (W := 0) (rm5 l Z a0 hw [] ob ec ea va ka av dc da h0 n0 Z0 P1 P4 hec hea hdc hda) hZ (o_w hw 34 rfl) (o_w hw 3 rfl) (by decide) (by decide)) (g := o_g G) rfl (by rw [hml]; rfl) (Steps.refl _) (a := ob) (by rw [e4]; exact q6) q6' (argsL := [(.int ec), (.int ea)]) (rest := []) (lenOf pd_0 rfl) rfl (by show 2 * 0 + _ ≤ _; exact Nat.le_of_eq rfl) (hb hby d4_25) (fun _ _ => ⟨rfl, e4, (by decide : 0 + 0 ≤ _), (by decide : 0 + 0 ≤ _)⟩)
  dsimp only [Pt.U, Pt.locs, Pt.cells, Pt.slots] at X6 l6 y6 z6 st6 hQ6
  subst l6 y6 z6
  obtain ⟨rfl, N6q, e6⟩ := hQ6
  have N6 := Fr.app N0 N6q
  replace G := o_nxv (q := 28) (st := [(.int (o_bf dc da ec ea))]) G st6 rfl
  have hc28_7 : ¬ ((o_bf dc da ec ea) = (0 : Int32)) := ho
  replace G := o_ifNo (q := 31) G X6.here hx (hb hby d4_28) ((if0 _ _).trans (feq hc28_7).1) rfl
  replace G := o_aloadN (q := 32) G X6.here hx (hb hby d4_31) rfl rfl rfl
  obtain ⟨T8, X8, e8, st8⟩ := getF X6 hx hZ hown (host := "") (Or.inl (o_w hw 16 rfl)) Via.refl e6 P2 (g := o_g G) rfl rfl (hb hby d4_32)
  replace G := o_nxs (q := 35) (st := [(.ref vh)]) G st8 rfl
  replace G := o_iloadN (q := 36) G X8.here hx (hb hby d4_35) rfl rfl
  replace G := o_aloadN (q := 37) G X8.here hx (hb hby d4_36) rfl rfl rfl
  obtain ⟨T9, X9, e9, st9⟩ := getF X8 hx hZ hown (host := "") (Or.inl (o_w hw 16 rfl)) Via.refl e8 P2 (g := o_g G) rfl rfl (hb hby d4_37)
  replace G := o_nxs (q := 40) (st := [(.ref vh), (.int 2), (.ref vh)]) G st9 rfl
  replace G := o_iloadN (q := 41) G X9.here hx (hb hby d4_40) rfl rfl
  replace G := o_iconst (q := 42) G X9.here hx (hb hby d4_41) (v := (1 : Int32)) (by decide) rfl
  replace G := o_isub (q := 43) G X9.here hx (hb hby d4_42) (by decide : ((2 : Int32) - (1 : Int32)) = (1 : Int32)) rfl
  replace G := o_iconst (q := 44) G X9.here hx (hb hby d4_43) (v := (2 : Int32)) (by decide) rfl
  replace G := o_idiv (q := 45) G X9.here hx (hb hby d4_44) (by decide) (by decide : ((1 : Int32) / (2 : Int32)) = (0 : Int32)) rfl
  obtain ⟨c10, Ar10, -, S10, -, H10, -⟩ := id P5
  have hin10 : ¬ ((0 : Int32) < 0 ∨ c10.slots.size ≤ ((0 : Int32)).toNatClampNeg) := inb_of S10 ⟨by decide, by decide⟩
  replace G := o_nxs (q := 46) (st := [(.int ea), (.int 2), (.ref vh)]) G (X9.iaload hx (j := (0 : Int32)) (v := (.int ea)) (by rw [e9]; exact Ar10.1) (State.isArrayOf_alike hZ.alike Ar10.2.1) Ar10.2.2 hin10 (Has.at H10 hin10 rfl) (g := o_g G) rfl rfl (hb hby d4_45)) rfl
  obtain ⟨c11, Ar11, q11, S11, N11', H11, G11'⟩ := id P5
  have hin11 : ¬ ((2 : Int32) < 0 ∨ c11.slots.size ≤ ((2 : Int32)).toNatClampNeg) := inb_of S11 ⟨by decide, by decide⟩
  obtain ⟨T11, h11, X11, e11, W11, st11⟩ := stI X9 hx hZ e9 Ar11 (j := (2 : Int32)) hin11 (g := o_g G) rfl rfl (hb hby d4_46)
  have N11 := Fr.snoc X11 N6 P7
  have Z11 : n0 ≤ h11.size := Nat.le_trans Z0 (Keep.of_wr W11).1
  have K11 : Keep h0 h11 [vh, vx] := K0.wr W11 (Or.inl (List.mem_of_getElem? (i := 0) rfl))
  have V11 : Arv Z h11 vh kh .int 3 [(.int ea), (.int eb), (.int ea)] (.int 0) := Arv.set Ar11 q11 S11 N11' H11 G11' rfl W11 2 rfl (Nat.le_of_ble_eq_true rfl)
  replace G := o_nxs (q := 47) (st := []) G st11 rfl
  replace G := o_aloadN (q := 48) G X11.here hx (hb hby d4_47) rfl rfl rfl
  have F12 := (P3.other W11 (Or.inl P10))
  obtain ⟨T13, X13, e13, st13⟩ := getF X11 hx hZ hown (host := "") (Or.inl (o_w hw 18 rfl)) Via.refl e11 F12 (g := o_g G) rfl rfl (hb hby d4_48)
  replace G := o_nxs (q := 51) (st := [(.ref vx)]) G st13 rfl
  replace G := o_aloadN (q := 52) G X13.here hx (hb hby d4_51) rfl rfl rfl
  have F14 := (P2.other W11 (Or.inl P10))
  obtain ⟨T15, X15, e15, st15⟩ := getF X13 hx hZ hown (host := "") (Or.inl (o_w hw 16 rfl)) Via.refl e13 F14 (g := o_g G) rfl rfl (hb hby d4_52)
  replace G := o_nxs (q := 55) (st := [(.ref vh), (.ref vx)]) G st15 rfl
  replace G := o_iloadN (q := 56) G X15.here hx (hb hby d4_55) rfl rfl
  obtain ⟨c16, Ar16, -, S16, -, H16, -⟩ := id V11
  have hin16 : ¬ ((2 : Int32) < 0 ∨ c16.slots.size ≤ ((2 : Int32)).toNatClampNeg) := inb_of S16 ⟨by decide, by decide⟩
  replace G := o_nxs (q := 57) (st := [(.int ea), (.ref vx)]) G (X15.iaload hx (j := (2 : Int32)) (v := (.int ea)) (by rw [e15]; exact Ar16.1) (State.isArrayOf_alike hZ.alike Ar16.2.1) Ar16.2.2 hin16 (Has.at H16 hin16 rfl) (g := o_g G) rfl rfl (hb hby d4_56)) rfl
  replace G := o_iloadN (q := 58) G X15.here hx (hb hby d4_57) rfl rfl
  have F17 := (P6.other W11 (Ne.symm P14))
  obtain ⟨c18, Ar18, q18, S18, N18', H18, G18'⟩ := id F17
  have hin18 : ¬ (ea < 0 ∨ c18.slots.size ≤ (ea).toNatClampNeg) := inb_of S18 hea
  obtain ⟨T18, h18, X18, e18, W18, st18⟩ := stI X15 hx hZ e15 Ar18 (j := ea) hin18 (g := o_g G) rfl rfl (hb hby d4_58)
  have N18 := Fr.snoc X18 N11 P8
  have Z18 : n0 ≤ h18.size := Nat.le_trans Z11 (Keep.of_wr W18).1
  have K18 : Keep h0 h18 [vh, vx] := K11.wr W18 (Or.inl (List.mem_of_getElem? (i := 1) rfl))
  have V18 : Arv Z h18 vx kx .int 3 (xs.set ea.toNatClampNeg (.int 2)) (.int 0) := Arv.set Ar18 q18 S18 N18' H18 G18' rfl W18 ea.toNatClampNeg rfl (by simp only [List.length_set, hxl]; exact o_cl hea)
  replace G := o_nxs (q := 59) (st := []) G st18 rfl
  replace G := o_iloadN (q := 60) G X18.here hx (hb hby d4_59) rfl rfl
  replace G := o_iconst (q := 61) G X18.here hx (hb hby d4_60) (v := (1 : Int32)) (by decide) rfl
  replace G := o_isub (q := 62) G X18.here hx (hb hby d4_61) (by decide : ((2 : Int32) - (1 : Int32)) = (1 : Int32)) rfl
  replace G := o_iconst (q := 63) G X18.here hx (hb hby d4_62) (v := (2 : Int32)) (by decide) rfl
  replace G := o_idiv (q := 64) G X18.here hx (hb hby d4_63) (by decide) (by decide : ((1 : Int32) / (2 : Int32)) = (0 : Int32)) rfl
  replace G := o_istoreN (q := 65) (l' := #[.val (.ref ob), .val (.int 2), .val (.int ec), .val (.int 0)]) G X18.here hx (hb hby d4_64) rfl rfl
  replace G := o_goto (q := 9) G X18.here hx (hb hby d4_65) (by decide) (by decide)
  replace G := o_iloadN (q := 10) G X18.here hx (hb hby d4_9) rfl rfl
  replace G := o_ifYes (q := 68) G X18.here hx (hb hby d4_10) (by decide) (by decide) (by decide)
  replace G := o_aloadN (q := 69) G X18.here hx (hb hby d4_68) rfl rfl rfl
  have F20 := (F14.other W18 (Or.inl P11))
  obtain ⟨T21, X21, e21, st21⟩ := getF X18 hx hZ hown (host := "") (Or.inl (o_w hw 16 rfl)) Via.refl e18 F20 (g := o_g G) rfl rfl (hb hby d4_69)
  replace G := o_nxs (q := 72) (st := [(.ref vh)]) G st21 rfl
  replace G := o_iloadN (q := 73) G X21.here hx (hb hby d4_72) rfl rfl
  replace G := o_iloadN (q := 74) G X21.here hx (hb hby d4_73) rfl rfl
  have F22 := (V11.other W18 P14)
  obtain ⟨c23, Ar23, q23, S23, N23', H23, G23'⟩ := id F22
  have hin23 : ¬ ((0 : Int32) < 0 ∨ c23.slots.size ≤ ((0 : Int32)).toNatClampNeg) := inb_of S23 ⟨by decide, by decide⟩
  obtain ⟨T23, h23, X23, e23, W23, st23⟩ := stI X21 hx hZ e21 Ar23 (j := (0 : Int32)) hin23 (g := o_g G) rfl rfl (hb hby d4_74)
  have N23 := Fr.snoc X23 N18 P7
  have Z23 : n0 ≤ h23.size := Nat.le_trans Z18 (Keep.of_wr W23).1
  have K23 : Keep h0 h23 [vh, vx] := K18.wr W23 (Or.inl (List.mem_of_getElem? (i := 0) rfl))
  have V23 : Arv Z h23 vh kh .int 3 [(.int ec), (.int eb), (.int ea)] (.int 0) := Arv.set Ar23 q23 S23 N23' H23 G23' rfl W23 0 rfl (Nat.le_of_ble_eq_true rfl)
  replace G := o_nxs (q := 75) (st := []) G st23 rfl
  replace G := o_aloadN (q := 76) G X23.here hx (hb hby d4_75) rfl rfl rfl
  have F24 := ((F12.other W18 (Or.inl P11)).other W23 (Or.inl P10))
  obtain ⟨T25, X25, e25, st25⟩ := getF X23 hx hZ hown (host := "") (Or.inl (o_w hw 18 rfl)) Via.refl e23 F24 (g := o_g G) rfl rfl (hb hby d4_76)
  replace G := o_nxs (q := 79) (st := [(.ref vx)]) G st25 rfl
  replace G := o_iloadN (q := 80) G X25.here hx (hb hby d4_79) rfl rfl
  replace G := o_iloadN (q := 81) G X25.here hx (hb hby d4_80) rfl rfl
  have F26 : Arv Z h23 vx kx .int 3 (xs.set ea.toNatClampNeg (.int 2)) (.int 0) := (V18.other W23 (Ne.symm P14))
  obtain ⟨c27, Ar27, q27, S27, N27', H27, G27'⟩ := id F26
  have hin27 : ¬ (ec < 0 ∨ c27.slots.size ≤ (ec).toNatClampNeg) := inb_of S27 hec
  obtain ⟨T27, h27, X27, e27, W27, st27⟩ := stI X25 hx hZ e25 Ar27 (j := ec) hin27 (g := o_g G) rfl rfl (hb hby d4_81)
  have N27 := Fr.snoc X27 N23 P8
  have Z27 : n0 ≤ h27.size := Nat.le_trans Z23 (Keep.of_wr W27).1
  have K27 : Keep h0 h27 [vh, vx] := K23.wr W27 (Or.inl (List.mem_of_getElem? (i := 1) rfl))
  have V27 : Arv Z h27 vx kx .int 3 ((xs.set ea.toNatClampNeg (.int 2)).set ec.toNatClampNeg (.int 0)) (.int 0) := Arv.set Ar27 q27 S27 N27' H27 G27' rfl W27 ec.toNatClampNeg rfl (by simp only [List.length_set, hxl]; exact o_cl hec)
  replace G := o_nxs (q := 82) (st := []) G st27 rfl
  have VT28 : Arv Z h27 vx kx .int 3 xt (.int 0) := by rw [← hxt]; exact V27
  obtain ⟨fs, hr, hrun, hended, hW, hsame⟩ := X27.leave (v := none) (fun _ => rfl)
  refine ⟨_, _, G _ (X27.returnOut hx Bd.returns (hb hby d4_82) hr), hrun, hended, _, _, rfl, ?_, ⟨_, rfl⟩, hW, hsame.mono (by decide) (by decide)⟩
  have F29 := (V23.other W27 P14)
  show Q4f2t Z ob va vh vx ka kh kx ea eb ec av xs xt da dc h0 n0 _ T27.heap _
  rw [e27]
  exact ⟨rfl, N27, K27, F29, VT28⟩
theorem d9_0 : decode prog_7_method_9_code 0 = .ok (.aload_n 0, 1) := by decide +kernel
theorem d9_1 : decode prog_7_method_9_code 1 = .ok (.getfield 17, 3) := by decide +kernel
theorem d9_4 : decode prog_7_method_9_code 4 = .ok (.iload_n 1, 1) := by decide +kernel
theorem d9_5 : decode prog_7_method_9_code 5 = .ok (.iaload, 1) := by decide +kernel
theorem d9_6 : decode prog_7_method_9_code 6 = .ok (.istore_n 2, 1) := by decide +kernel
theorem d9_7 : decode prog_7_method_9_code 7 = .ok (.iload_n 1, 1) := by decide +kernel
theorem d9_8 : decode prog_7_method_9_code 8 = .ok (.istore_n 3, 1) := by decide +kernel
theorem d9_9 : decode prog_7_method_9_code 9 = .ok (.iconst 2, 1) := by decide +kernel
theorem d9_10 : decode prog_7_method_9_code 10 = .ok (.iload_n 3, 1) := by decide +kernel
theorem d9_11 : decode prog_7_method_9_code 11 = .ok (.imul, 1) := by decide +kernel
theorem d9_12 : decode prog_7_method_9_code 12 = .ok (.iconst 1, 1) := by decide +kernel
theorem d9_13 : decode prog_7_method_9_code 13 = .ok (.iadd, 1) := by decide +kernel
theorem d9_14 : decode prog_7_method_9_code 14 = .ok (.istore 4, 2) := by decide +kernel
theorem d9_16 : decode prog_7_method_9_code 16 = .ok (.iload 4, 2) := by decide +kernel
theorem d9_18 : decode prog_7_method_9_code 18 = .ok (.aload_n 0, 1) := by decide +kernel
theorem d9_19 : decode prog_7_method_9_code 19 = .ok (.getfield 34, 3) := by decide +kernel
theorem d9_22 : decode prog_7_method_9_code 22 = .ok (.if_icmp .ge 96, 3) := by decide +kernel
theorem d9_118 : decode prog_7_method_9_code 118 = .ok (.aload_n 0, 1) := by decide +kernel
theorem d9_119 : decode prog_7_method_9_code 119 = .ok (.getfield 17, 3) := by decide +kernel
theorem d9_122 : decode prog_7_method_9_code 122 = .ok (.iload_n 3, 1) := by decide +kernel
theorem d9_123 : decode prog_7_method_9_code 123 = .ok (.iload_n 2, 1) := by decide +kernel
theorem d9_124 : decode prog_7_method_9_code 124 = .ok (.iastore, 1) := by decide +kernel
theorem d9_125 : decode prog_7_method_9_code 125 = .ok (.aload_n 0, 1) := by decide +kernel
theorem d9_126 : decode prog_7_method_9_code 126 = .ok (.getfield 21, 3) := by decide +kernel
theorem d9_129 : decode prog_7_method_9_code 129 = .ok (.iload_n 2, 1) := by decide +kernel
theorem d9_130 : decode prog_7_method_9_code 130 = .ok (.iload_n 3, 1) := by decide +kernel
theorem d9_131 : decode prog_7_method_9_code 131 = .ok (.iastore, 1) := by decide +kernel
theorem d9_132 : decode prog_7_method_9_code 132 = .ok (.return_, 1) := by decide +kernel
theorem ef_9n1 (m : MethodId) (x0 : Addr) : entryFrame m #[(.ref x0), (.int 0)] 5 = mkF m 0 #[.val (.ref x0), .val (.int 0), .unset, .unset, .unset] [] := by first | (simp [entryFrame, mkF, argsToLocals, Value.category]; done) | rfl
def Q9n1 (Z : State) (ob : Addr) (va : Addr) (vh : Addr) (vx : Addr) (ka : ClassId) (kh : ClassId) (kx : ClassId) (ea : Int32) (eb : Int32) (ec : Int32) (av : List Value) (xs : List Value) (xt : List Value) (h0 : Heap) (n0 : Nat) (v : Option Value) (h : Heap) (L : List Loc) : Prop := v = none ∧ Fr n0 L ∧ Keep h0 h [vh, vx] ∧ (Arv Z h vh kh .int 3 [(.int ea), (.int eb), (.int ec)] (.int 0)) ∧ (Arv Z h vx kx .int 3 xt (.int 0))
set_option maxRecDepth 65536 in
set_option maxHeartbeats 40000000 in
theorem rm9n1 (l : Launch) (Z : State) (a0 : Array Value) (hw : ∀ d ∈ tables_1, d.before a0 Z = true) (ws : List Jvm.Cond) (ob : Addr) (va : Addr) (vh : Addr) (vx : Addr) (ka : ClassId) (kh : ClassId) (kx : ClassId) (ea : Int32) (eb : Int32) (ec : Int32) (av : List Value) (xs : List Value) (xt : List Value) (h0 : Heap) (n0 : Nat) (Z0 : n0 ≤ h0.size) (P0 : Exa Z h0 ob o_n0) (P1 : Fld Z h0 ob o_n0 "activity" "[D" (.ref va)) (P2 : Fld Z h0 ob o_n0 "heap" "[I" (.ref vh)) (P3 : Fld Z h0 ob o_n0 "heapIndex" "[I" (.ref vx)) (P4 : Fld Z h0 ob o_n0 "heapSize" "I" (.int 1)) (P5 : Arv Z h0 va ka .double (3 : Int32) av (.double 0)) (P6 : Arv Z h0 vh kh .int 3 [(.int ea), (.int eb), (.int ec)] (.int 0)) (P7 : Arv Z h0 vx kx .int 3 xs (.int 0)) (P8 : n0 ≤ vh) (P9 : n0 ≤ vx) (P10 : ob ≠ va) (P11 : ob ≠ vh) (P12 : ob ≠ vx) (P13 : va ≠ vh) (P14 : va ≠ vx) (P15 : vh ≠ vx) (hea : o_in ea) (hxl : xs.length = 3) (hxt : (xs.set ea.toNatClampNeg (.int 0)) = xt) :
    MetFree l (⟨o_n0, "siftDown", "(I)V"⟩ : MethodName) (head1 (Jvm.Cond.code (⟨o_n0, "siftDown", "(I)V"⟩ : MethodName) prog_7_method_9_code 5 none :: ws) ({ frames := 0, cells := 0, slots := 0, locals := 0 } : Room)) (fun argz U => argz = #[(.ref ob), (.int 0)] ∧ Z.Warmed39 U.vm ∧ U.heap = h0) (fun _ _ _ _ _ => True) (fun _ U o U' => ∃ v L, o = .returned v ∧ Q9n1 Z ob va vh vx ka kh kx ea eb ec av xs xt h0 n0 v U'.heap L ∧ FrameEnd U o U' L ({ frames := 0, cells := 0, slots := 0, locals := 0 } : Room).cells ({ frames := 0, cells := 0, slots := 0, locals := 0 } : Room).slots) := by
  refine MetFree.of_bodySF (plainFor_of_name pn_com_example_gridwright_gridwright_core_ActivityOrder) hisR ?_
  intro p e s m args below meth c s₁ Bd hml0 hP hK
  obtain ⟨rfl, hZ, hh⟩ := hP
  have hx := Bd.exec
  have hby := Bd.bytes
  have hml : c.maxLocals = 5 := hml0
  have hown : s.vm.findClass o_n0 = some m.cls := findClass_of_methodNamed Bd.named
  have hnm := (name_of_methodNamed Bd.named Bd.method).1
  have X0 : Stand p l e ({ frames := 0, cells := 0, slots := 0, locals := 0 } : Room) s m #[(.ref ob), (.int 0)] below meth c s₁ [] 0 0 := Stand.of_body Bd
  have e0 : s₁.heap = h0 := by rw [← hh, Bd.state]; rfl
  have N0 := Fr.nil n0
  have K0 : Keep h0 h0 [vh, vx] := Keep.refl _ _
  have G : Gets p e below (s₁.setTop (entryFrame m #[(.ref ob), (.int 0)] 5)) (s₁.setTop (mkF m 0 #[.val (.ref ob), .val (.int 0), .unset, .unset, .unset] [])) := fun t k => castTop (ef_9n1 m ob) k
  replace G := o_aloadN (q := 1) G X0.here hx (hb hby d9_0) rfl rfl rfl
  obtain ⟨T1, X1, e1, st1⟩ := getF X0 hx hZ hown (host := "") (Or.inl (o_w hw 16 rfl)) Via.refl e0 P2 (g := o_g G) rfl rfl (hb hby d9_1)
  replace G := o_nxs (q := 4) (st := [(.ref vh)]) G st1 rfl
  replace G := o_iloadN (q := 5) G X1.here hx (hb hby d9_4) rfl rfl
  obtain ⟨c2, Ar2, -, S2, -, H2, -⟩ := id P6
  have hin2 : ¬ ((0 : Int32) < 0 ∨ c2.slots.size ≤ ((0 : Int32)).toNatClampNeg) := inb_of S2 ⟨by decide, by decide⟩
  replace G := o_nxs (q := 6) (st := [(.int ea)]) G (X1.iaload hx (j := (0 : Int32)) (v := (.int ea)) (by rw [e1]; exact Ar2.1) (State.isArrayOf_alike hZ.alike Ar2.2.1) Ar2.2.2 hin2 (Has.at H2 hin2 rfl) (g := o_g G) rfl rfl (hb hby d9_5)) rfl
  replace G := o_istoreN (q := 7) (l' := #[.val (.ref ob), .val (.int 0), .val (.int ea), .unset, .unset]) G X1.here hx (hb hby d9_6) rfl rfl
  replace G := o_iloadN (q := 8) G X1.here hx (hb hby d9_7) rfl rfl
  replace G := o_istoreN (q := 9) (l' := #[.val (.ref ob), .val (.int 0), .val (.int ea), .val (.int 0), .unset]) G X1.here hx (hb hby d9_8) rfl rfl
  replace G := o_iconst (q := 10) G X1.here hx (hb hby d9_9) (v := (2 : Int32)) (by decide) rfl
  replace G := o_iloadN (q := 11) G X1.here hx (hb hby d9_10) rfl rfl
  replace G := o_imul (q := 12) G X1.here hx (hb hby d9_11) (by decide : ((2 : Int32) * (0 : Int32)) = (0 : Int32)) rfl
  replace G := o_iconst (q := 13) G X1.here hx (hb hby d9_12) (v := (1 : Int32)) (by decide) rfl
  replace G := o_iadd (q := 14) G X1.here hx (hb hby d9_13) (by decide : ((0 : Int32) + (1 : Int32)) = (1 : Int32)) rfl
  replace G := o_istore (q := 16) (l' := #[.val (.ref ob), .val (.int 0), .val (.int ea), .val (.int 0), .val (.int 1)]) G X1.here hx (hb hby d9_14) rfl rfl
  replace G := o_iload (q := 18) G X1.here hx (hb hby d9_16) rfl rfl
  replace G := o_aloadN (q := 19) G X1.here hx (hb hby d9_18) rfl rfl rfl
  obtain ⟨T3, X3, e3, st3⟩ := getF X1 hx hZ hown (host := "") (Or.inl (o_w hw 25 rfl)) Via.refl e1 P4 (g := o_g G) rfl rfl (hb hby d9_19)
  replace G := o_nxs (q := 22) (st := [(.int 1), (.int 1)]) G st3 rfl
  replace G := o_icmpYes (q := 118) G X3.here hx (hb hby d9_22) (by decide) (by decide) (by decide)
  replace G := o_aloadN (q := 119) G X3.here hx (hb hby d9_118) rfl rfl rfl
  obtain ⟨T5, X5, e5, st5⟩ := getF X3 hx hZ hown (host := "") (Or.inl (o_w hw 16 rfl)) Via.refl e3 P2 (g := o_g G) rfl rfl (hb hby d9_119)
  replace G := o_nxs (q := 122) (st := [(.ref vh)]) G st5 rfl
  replace G := o_iloadN (q := 123) G X5.here hx (hb hby d9_122) rfl rfl
  replace G := o_iloadN (q := 124) G X5.here hx (hb hby d9_123) rfl rfl
  obtain ⟨c6, Ar6, q6, S6, N6', H6, G6'⟩ := id P6
  have hin6 : ¬ ((0 : Int32) < 0 ∨ c6.slots.size ≤ ((0 : Int32)).toNatClampNeg) := inb_of S6 ⟨by decide, by decide⟩
  obtain ⟨T6, h6, X6, e6, W6, st6⟩ := stI X5 hx hZ e5 Ar6 (j := (0 : Int32)) hin6 (g := o_g G) rfl rfl (hb hby d9_124)
  have N6 := Fr.snoc X6 N0 P8
  have Z6 : n0 ≤ h6.size := Nat.le_trans Z0 (Keep.of_wr W6).1
  have K6 : Keep h0 h6 [vh, vx] := K0.wr W6 (Or.inl (List.mem_of_getElem? (i := 0) rfl))
  have V6 : Arv Z h6 vh kh .int 3 [(.int ea), (.int eb), (.int ec)] (.int 0) := Arv.set Ar6 q6 S6 N6' H6 G6' rfl W6 0 rfl (Nat.le_of_ble_eq_true rfl)
  replace G := o_nxs (q := 125) (st := []) G st6 rfl
  replace G := o_aloadN (q := 126) G X6.here hx (hb hby d9_125) rfl rfl rfl
  have F7 := (P3.other W6 (Or.inl P11))
  obtain ⟨T8, X8, e8, st8⟩ := getF X6 hx hZ hown (host := "") (Or.inl (o_w hw 18 rfl)) Via.refl e6 F7 (g := o_g G) rfl rfl (hb hby d9_126)
  replace G := o_nxs (q := 129) (st := [(.ref vx)]) G st8 rfl
  replace G := o_iloadN (q := 130) G X8.here hx (hb hby d9_129) rfl rfl
  replace G := o_iloadN (q := 131) G X8.here hx (hb hby d9_130) rfl rfl
  have F9 := (P7.other W6 (Ne.symm P15))
  obtain ⟨c10, Ar10, q10, S10, N10', H10, G10'⟩ := id F9
  have hin10 : ¬ (ea < 0 ∨ c10.slots.size ≤ (ea).toNatClampNeg) := inb_of S10 hea
  obtain ⟨T10, h10, X10, e10, W10, st10⟩ := stI X8 hx hZ e8 Ar10 (j := ea) hin10 (g := o_g G) rfl rfl (hb hby d9_131)
  have N10 := Fr.snoc X10 N6 P9
  have Z10 : n0 ≤ h10.size := Nat.le_trans Z6 (Keep.of_wr W10).1
  have K10 : Keep h0 h10 [vh, vx] := K6.wr W10 (Or.inl (List.mem_of_getElem? (i := 1) rfl))
  have V10 : Arv Z h10 vx kx .int 3 (xs.set ea.toNatClampNeg (.int 0)) (.int 0) := Arv.set Ar10 q10 S10 N10' H10 G10' rfl W10 ea.toNatClampNeg rfl (by simp only [List.length_set, hxl]; exact o_cl hea)
  replace G := o_nxs (q := 132) (st := []) G st10 rfl
  have VT11 : Arv Z h10 vx kx .int 3 xt (.int 0) := by rw [← hxt]; exact V10
  obtain ⟨fs, hr, hrun, hended, hW, hsame⟩ := X10.leave (v := none) (fun _ => rfl)
  refine ⟨_, _, G _ (X10.returnOut hx Bd.returns (hb hby d9_132) hr), hrun, hended, _, _, rfl, ?_, ⟨_, rfl⟩, hW, hsame.mono (by decide) (by decide)⟩
  have F12 := (V6.other W10 P15)
  show Q9n1 Z ob va vh vx ka kh kx ea eb ec av xs xt h0 n0 _ T10.heap _
  rw [e10]
  exact ⟨rfl, N10, K10, F12, VT11⟩
theorem d9_25 : decode prog_7_method_9_code 25 = .ok (.iload 4, 2) := by decide +kernel
theorem d9_27 : decode prog_7_method_9_code 27 = .ok (.iconst 1, 1) := by decide +kernel
theorem d9_28 : decode prog_7_method_9_code 28 = .ok (.iadd, 1) := by decide +kernel
theorem d9_29 : decode prog_7_method_9_code 29 = .ok (.aload_n 0, 1) := by decide +kernel
theorem d9_30 : decode prog_7_method_9_code 30 = .ok (.getfield 34, 3) := by decide +kernel
theorem d9_33 : decode prog_7_method_9_code 33 = .ok (.if_icmp .ge 29, 3) := by decide +kernel
theorem d9_62 : decode prog_7_method_9_code 62 = .ok (.aload_n 0, 1) := by decide +kernel
theorem d9_63 : decode prog_7_method_9_code 63 = .ok (.aload_n 0, 1) := by decide +kernel
theorem d9_64 : decode prog_7_method_9_code 64 = .ok (.getfield 17, 3) := by decide +kernel
theorem d9_67 : decode prog_7_method_9_code 67 = .ok (.iload 4, 2) := by decide +kernel
theorem d9_69 : decode prog_7_method_9_code 69 = .ok (.iaload, 1) := by decide +kernel
theorem d9_70 : decode prog_7_method_9_code 70 = .ok (.iload_n 2, 1) := by decide +kernel
theorem d9_71 : decode prog_7_method_9_code 71 = .ok (.invokevirtual 48, 3) := by decide +kernel
theorem d9_74 : decode prog_7_method_9_code 74 = .ok (.ifCond .ne 6, 3) := by decide +kernel
theorem d9_77 : decode prog_7_method_9_code 77 = .ok (.goto 41, 3) := by decide +kernel
theorem ef_9n2f (m : MethodId) (x0 : Addr) : entryFrame m #[(.ref x0), (.int 0)] 5 = mkF m 0 #[.val (.ref x0), .val (.int 0), .unset, .unset, .unset] [] := by first | (simp [entryFrame, mkF, argsToLocals, Value.category]; done) | rfl
def Q9n2f (Z : State) (ob : Addr) (va : Addr) (vh : Addr) (vx : Addr) (ka : ClassId) (kh : ClassId) (kx : ClassId) (ea : Int32) (eb : Int32) (ec : Int32) (av : List Value) (xs : List Value) (xt : List Value) (da : UInt64) (db : UInt64) (h0 : Heap) (n0 : Nat) (v : Option Value) (h : Heap) (L : List Loc) : Prop := v = none ∧ Fr n0 L ∧ Keep h0 h [vh, vx] ∧ (Arv Z h vh kh .int 3 [(.int ea), (.int eb), (.int ec)] (.int 0)) ∧ (Arv Z h vx kx .int 3 xt (.int 0))
set_option maxRecDepth 65536 in
set_option maxHeartbeats 40000000 in
theorem rm9n2f (l : Launch) (Z : State) (a0 : Array Value) (hw : ∀ d ∈ tables_1, d.before a0 Z = true) (ws : List Jvm.Cond) (ob : Addr) (va : Addr) (vh : Addr) (vx : Addr) (ka : ClassId) (kh : ClassId) (kx : ClassId) (ea : Int32) (eb : Int32) (ec : Int32) (av : List Value) (xs : List Value) (xt : List Value) (da : UInt64) (db : UInt64) (h0 : Heap) (n0 : Nat) (Z0 : n0 ≤ h0.size) (P0 : Exa Z h0 ob o_n0) (P1 : Fld Z h0 ob o_n0 "activity" "[D" (.ref va)) (P2 : Fld Z h0 ob o_n0 "heap" "[I" (.ref vh)) (P3 : Fld Z h0 ob o_n0 "heapIndex" "[I" (.ref vx)) (P4 : Fld Z h0 ob o_n0 "heapSize" "I" (.int 2)) (P5 : Arv Z h0 va ka .double (3 : Int32) av (.double 0)) (P6 : Arv Z h0 vh kh .int 3 [(.int ea), (.int eb), (.int ec)] (.int 0)) (P7 : Arv Z h0 vx kx .int 3 xs (.int 0)) (P8 : n0 ≤ vh) (P9 : n0 ≤ vx) (P10 : ob ≠ va) (P11 : ob ≠ vh) (P12 : ob ≠ vx) (P13 : va ≠ vh) (P14 : va ≠ vx) (P15 : vh ≠ vx) (hea : o_in ea) (heb : o_in eb) (hxl : xs.length = 3) (hda : av.getD ea.toNatClampNeg (.double 0) = .double da) (hdb : av.getD eb.toNatClampNeg (.double 0) = .double db) (ho : (o_bf db da eb ea) = (0 : Int32)) (hxt : (xs.set ea.toNatClampNeg (.int 0)) = xt) :
    MetFree l (⟨o_n0, "siftDown", "(I)V"⟩ : MethodName) (head1 (Jvm.Cond.code (⟨o_n0, "siftDown", "(I)V"⟩ : MethodName) prog_7_method_9_code 5 none :: ws) ({ frames := 1, cells := 0, slots := 0, locals := 14 } : Room)) (fun argz U => argz = #[(.ref ob), (.int 0)] ∧ Z.Warmed39 U.vm ∧ U.heap = h0) (fun _ _ _ _ _ => True) (fun _ U o U' => ∃ v L, o = .returned v ∧ Q9n2f Z ob va vh vx ka kh kx ea eb ec av xs xt da db h0 n0 v U'.heap L ∧ FrameEnd U o U' L ({ frames := 1, cells := 0, slots := 0, locals := 14 } : Room).cells ({ frames := 1, cells := 0, slots := 0, locals := 14 } : Room).slots) := by
  refine MetFree.of_bodySF (plainFor_of_name pn_com_example_gridwright_gridwright_core_ActivityOrder) hisR ?_
  intro p e s m args below meth c s₁ Bd hml0 hP hK
  obtain ⟨rfl, hZ, hh⟩ := hP
  have hx := Bd.exec
  have hby := Bd.bytes
  have hml : c.maxLocals = 5 := hml0
  have hown : s.vm.findClass o_n0 = some m.cls := findClass_of_methodNamed Bd.named
  have hnm := (name_of_methodNamed Bd.named Bd.method).1
  have X0 : Stand p l e ({ frames := 1, cells := 0, slots := 0, locals := 14 } : Room) s m #[(.ref ob), (.int 0)] below meth c s₁ [] 0 0 := Stand.of_body Bd
  have e0 : s₁.heap = h0 := by rw [← hh, Bd.state]; rfl
  have N0 := Fr.nil n0
  have K0 : Keep h0 h0 [vh, vx] := Keep.refl _ _
  have G : Gets p e below (s₁.setTop (entryFrame m #[(.ref ob), (.int 0)] 5)) (s₁.setTop (mkF m 0 #[.val (.ref ob), .val (.int 0), .unset, .unset, .unset] [])) := fun t k => castTop (ef_9n2f m ob) k
  replace G := o_aloadN (q := 1) G X0.here hx (hb hby d9_0) rfl rfl rfl
  obtain ⟨T1, X1, e1, st1⟩ := getF X0 hx hZ hown (host := "") (Or.inl (o_w hw 16 rfl)) Via.refl e0 P2 (g := o_g G) rfl rfl (hb hby d9_1)
  replace G := o_nxs (q := 4) (st := [(.ref vh)]) G st1 rfl
  replace G := o_iloadN (q := 5) G X1.here hx (hb hby d9_4) rfl rfl
  obtain ⟨c2, Ar2, -, S2, -, H2, -⟩ := id P6
  have hin2 : ¬ ((0 : Int32) < 0 ∨ c2.slots.size ≤ ((0 : Int32)).toNatClampNeg) := inb_of S2 ⟨by decide, by decide⟩
  replace G := o_nxs (q := 6) (st := [(.int ea)]) G (X1.iaload hx (j := (0 : Int32)) (v := (.int ea)) (by rw [e1]; exact Ar2.1) (State.isArrayOf_alike hZ.alike Ar2.2.1) Ar2.2.2 hin2 (Has.at H2 hin2 rfl) (g := o_g G) rfl rfl (hb hby d9_5)) rfl
  replace G := o_istoreN (q := 7) (l' := #[.val (.ref ob), .val (.int 0), .val (.int ea), .unset, .unset]) G X1.here hx (hb hby d9_6) rfl rfl
  replace G := o_iloadN (q := 8) G X1.here hx (hb hby d9_7) rfl rfl
  replace G := o_istoreN (q := 9) (l' := #[.val (.ref ob), .val (.int 0), .val (.int ea), .val (.int 0), .unset]) G X1.here hx (hb hby d9_8) rfl rfl
  replace G := o_iconst (q := 10) G X1.here hx (hb hby d9_9) (v := (2 : Int32)) (by decide) rfl
  replace G := o_iloadN (q := 11) G X1.here hx (hb hby d9_10) rfl rfl
  replace G := o_imul (q := 12) G X1.here hx (hb hby d9_11) (by decide : ((2 : Int32) * (0 : Int32)) = (0 : Int32)) rfl
  replace G := o_iconst (q := 13) G X1.here hx (hb hby d9_12) (v := (1 : Int32)) (by decide) rfl
  replace G := o_iadd (q := 14) G X1.here hx (hb hby d9_13) (by decide : ((0 : Int32) + (1 : Int32)) = (1 : Int32)) rfl
  replace G := o_istore (q := 16) (l' := #[.val (.ref ob), .val (.int 0), .val (.int ea), .val (.int 0), .val (.int 1)]) G X1.here hx (hb hby d9_14) rfl rfl
  replace G := o_iload (q := 18) G X1.here hx (hb hby d9_16) rfl rfl
  replace G := o_aloadN (q := 19) G X1.here hx (hb hby d9_18) rfl rfl rfl
  obtain ⟨T3, X3, e3, st3⟩ := getF X1 hx hZ hown (host := "") (Or.inl (o_w hw 25 rfl)) Via.refl e1 P4 (g := o_g G) rfl rfl (hb hby d9_19)
  replace G := o_nxs (q := 22) (st := [(.int 2), (.int 1)]) G st3 rfl
  replace G := o_icmpNo (q := 25) G X3.here hx (hb hby d9_22) (by decide) rfl
  replace G := o_iload (q := 27) G X3.here hx (hb hby d9_25) rfl rfl
  replace G := o_iconst (q := 28) G X3.here hx (hb hby d9_27) (v := (1 : Int32)) (by decide) rfl
  replace G := o_iadd (q := 29) G X3.here hx (hb hby d9_28) (by decide : ((1 : Int32) + (1 : Int32)) = (2 : Int32)) rfl
  replace G := o_aloadN (q := 30) G X3.here hx (hb hby d9_29) rfl rfl rfl
  obtain ⟨T5, X5, e5, st5⟩ := getF X3 hx hZ hown (host := "") (Or.inl (o_w hw 25 rfl)) Via.refl e3 P4 (g := o_g G) rfl rfl (hb hby d9_30)
  replace G := o_nxs (q := 33) (st := [(.int 2), (.int 2)]) G st5 rfl
  replace G := o_icmpYes (q := 62) G X5.here hx (hb hby d9_33) (by decide) (by decide) (by decide)
  replace G := o_aloadN (q := 63) G X5.here hx (hb hby d9_62) rfl rfl rfl
  replace G := o_aloadN (q := 64) G X5.here hx (hb hby d9_63) rfl rfl rfl
  obtain ⟨T7, X7, e7, st7⟩ := getF X5 hx hZ hown (host := "") (Or.inl (o_w hw 16 rfl)) Via.refl e5 P2 (g := o_g G) rfl rfl (hb hby d9_64)
  replace G := o_nxs (q := 67) (st := [(.ref vh), (.ref ob)]) G st7 rfl
  replace G := o_iload (q := 69) G X7.here hx (hb hby d9_67) rfl rfl
  obtain ⟨c8, Ar8, -, S8, -, H8, -⟩ := id P6
  have hin8 : ¬ ((1 : Int32) < 0 ∨ c8.slots.size ≤ ((1 : Int32)).toNatClampNeg) := inb_of S8 ⟨by decide, by decide⟩
  replace G := o_nxs (q := 70) (st := [(.int eb), (.ref ob)]) G (X7.iaload hx (j := (1 : Int32)) (v := (.int eb)) (by rw [e7]; exact Ar8.1) (State.isArrayOf_alike hZ.alike Ar8.2.1) Ar8.2.2 hin8 (Has.at H8 hin8 rfl) (g := o_g G) rfl rfl (hb hby d9_69)) rfl
  replace G := o_iloadN (q := 71) G X7.here hx (hb hby d9_70) rfl rfl
  obtain ⟨cq9, q9, q9'⟩ := P0.cell
  obtain ⟨_, _, ⟨T9, L9, kk9, nn9⟩, -, X9, ⟨Lc9, hQ9, l9, y9, z9⟩, st9⟩ := X7.privateBack hx (y := (⟨o_n0, "before", "(II)Z"⟩ : MethodName)) hown (mvT hZ (o_w hw 31 rfl)) (mvT hZ (o_w hw 32 rfl)) (o_sel (z := (⟨o_n0, "add", "(I)V"⟩ : MethodName)) rfl (mvT hZ (o_w hw 22 rfl)) (mvT hZ (o_w hw 23 rfl)) (mvT hZ (o_w hw 32 rfl)) (Cond.privateMethod_at (mvP hZ (o_w hw 33 rfl) (args := #[]))) (by decide)) (Cond.privateMethod_at (mvP hZ (o_w hw 33 rfl) (args := #[]))) (mvT hZ (o_w hw 34 rfl)) (by decide) (backOf (W := 0) (rm5 l Z a0 hw [] ob eb ea va ka av db da h0 n0 Z0 P1 P5 heb hea hdb hda) hZ (o_w hw 34 rfl) (o_w hw 3 rfl) (by decide) (by decide)) (g := o_g G) rfl (by rw [hml]; rfl) (Steps.refl _) (a := ob) (by rw [e7]; exact q9) q9' (argsL := [(.int eb), (.int ea)]) (rest := []) (lenOf pd_0 rfl) rfl (by show 2 * 0 + _ ≤ _; exact Nat.le_of_eq rfl) (hb hby d9_71) (fun _ _ => ⟨rfl, e7, (by decide : 0 + 0 ≤ _), (by decide : 0 + 0 ≤ _)⟩)
  dsimp only [Pt.U, Pt.locs, Pt.cells, Pt.slots] at X9 l9 y9 z9 st9 hQ9
  subst l9 y9 z9
  obtain ⟨rfl, N9q, e9⟩ := hQ9
  have N9 := Fr.app N0 N9q
  replace G := o_nxv (q := 74) (st := [(.int (o_bf db da eb ea))]) G st9 rfl
  have hc74_10 : (o_bf db da eb ea) = (0 : Int32) := ho
  replace G := o_ifNo (q := 77) G X9.here hx (hb hby d9_74) ((if0 _ _).trans (teq hc74_10).2) rfl
  replace G := o_goto (q := 118) G X9.here hx (hb hby d9_77) (by decide) (by decide)
  replace G := o_aloadN (q := 119) G X9.here hx (hb hby d9_118) rfl rfl rfl
  obtain ⟨T11, X11, e11, st11⟩ := getF X9 hx hZ hown (host := "") (Or.inl (o_w hw 16 rfl)) Via.refl e9 P2 (g := o_g G) rfl rfl (hb hby d9_119)
  replace G := o_nxs (q := 122) (st := [(.ref vh)]) G st11 rfl
  replace G := o_iloadN (q := 123) G X11.here hx (hb hby d9_122) rfl rfl
  replace G := o_iloadN (q := 124) G X11.here hx (hb hby d9_123) rfl rfl
  obtain ⟨c12, Ar12, q12, S12, N12', H12, G12'⟩ := id P6
  have hin12 : ¬ ((0 : Int32) < 0 ∨ c12.slots.size ≤ ((0 : Int32)).toNatClampNeg) := inb_of S12 ⟨by decide, by decide⟩
  obtain ⟨T12, h12, X12, e12, W12, st12⟩ := stI X11 hx hZ e11 Ar12 (j := (0 : Int32)) hin12 (g := o_g G) rfl rfl (hb hby d9_124)
  have N12 := Fr.snoc X12 N9 P8
  have Z12 : n0 ≤ h12.size := Nat.le_trans Z0 (Keep.of_wr W12).1
  have K12 : Keep h0 h12 [vh, vx] := K0.wr W12 (Or.inl (List.mem_of_getElem? (i := 0) rfl))
  have V12 : Arv Z h12 vh kh .int 3 [(.int ea), (.int eb), (.int ec)] (.int 0) := Arv.set Ar12 q12 S12 N12' H12 G12' rfl W12 0 rfl (Nat.le_of_ble_eq_true rfl)
  replace G := o_nxs (q := 125) (st := []) G st12 rfl
  replace G := o_aloadN (q := 126) G X12.here hx (hb hby d9_125) rfl rfl rfl
  have F13 := (P3.other W12 (Or.inl P11))
  obtain ⟨T14, X14, e14, st14⟩ := getF X12 hx hZ hown (host := "") (Or.inl (o_w hw 18 rfl)) Via.refl e12 F13 (g := o_g G) rfl rfl (hb hby d9_126)
  replace G := o_nxs (q := 129) (st := [(.ref vx)]) G st14 rfl
  replace G := o_iloadN (q := 130) G X14.here hx (hb hby d9_129) rfl rfl
  replace G := o_iloadN (q := 131) G X14.here hx (hb hby d9_130) rfl rfl
  have F15 := (P7.other W12 (Ne.symm P15))
  obtain ⟨c16, Ar16, q16, S16, N16', H16, G16'⟩ := id F15
  have hin16 : ¬ (ea < 0 ∨ c16.slots.size ≤ (ea).toNatClampNeg) := inb_of S16 hea
  obtain ⟨T16, h16, X16, e16, W16, st16⟩ := stI X14 hx hZ e14 Ar16 (j := ea) hin16 (g := o_g G) rfl rfl (hb hby d9_131)
  have N16 := Fr.snoc X16 N12 P9
  have Z16 : n0 ≤ h16.size := Nat.le_trans Z12 (Keep.of_wr W16).1
  have K16 : Keep h0 h16 [vh, vx] := K12.wr W16 (Or.inl (List.mem_of_getElem? (i := 1) rfl))
  have V16 : Arv Z h16 vx kx .int 3 (xs.set ea.toNatClampNeg (.int 0)) (.int 0) := Arv.set Ar16 q16 S16 N16' H16 G16' rfl W16 ea.toNatClampNeg rfl (by simp only [List.length_set, hxl]; exact o_cl hea)
  replace G := o_nxs (q := 132) (st := []) G st16 rfl
  have VT17 : Arv Z h16 vx kx .int 3 xt (.int 0) := by rw [← hxt]; exact V16
  obtain ⟨fs, hr, hrun, hended, hW, hsame⟩ := X16.leave (v := none) (fun _ => rfl)
  refine ⟨_, _, G _ (X16.returnOut hx Bd.returns (hb hby d9_132) hr), hrun, hended, _, _, rfl, ?_, ⟨_, rfl⟩, hW, hsame.mono (by decide) (by decide)⟩
  have F18 := (V12.other W16 P15)
  show Q9n2f Z ob va vh vx ka kh kx ea eb ec av xs xt da db h0 n0 _ T16.heap _
  rw [e16]
  exact ⟨rfl, N16, K16, F18, VT17⟩
theorem d9_80 : decode prog_7_method_9_code 80 = .ok (.aload_n 0, 1) := by decide +kernel
theorem d9_81 : decode prog_7_method_9_code 81 = .ok (.getfield 17, 3) := by decide +kernel
theorem d9_84 : decode prog_7_method_9_code 84 = .ok (.iload_n 3, 1) := by decide +kernel
theorem d9_85 : decode prog_7_method_9_code 85 = .ok (.aload_n 0, 1) := by decide +kernel
theorem d9_86 : decode prog_7_method_9_code 86 = .ok (.getfield 17, 3) := by decide +kernel
theorem d9_89 : decode prog_7_method_9_code 89 = .ok (.iload 4, 2) := by decide +kernel
theorem d9_91 : decode prog_7_method_9_code 91 = .ok (.iaload, 1) := by decide +kernel
theorem d9_92 : decode prog_7_method_9_code 92 = .ok (.iastore, 1) := by decide +kernel
theorem d9_93 : decode prog_7_method_9_code 93 = .ok (.aload_n 0, 1) := by decide +kernel
theorem d9_94 : decode prog_7_method_9_code 94 = .ok (.getfield 21, 3) := by decide +kernel
theorem d9_97 : decode prog_7_method_9_code 97 = .ok (.aload_n 0, 1) := by decide +kernel
theorem d9_98 : decode prog_7_method_9_code 98 = .ok (.getfield 17, 3) := by decide +kernel
theorem d9_101 : decode prog_7_method_9_code 101 = .ok (.iload_n 3, 1) := by decide +kernel
theorem d9_102 : decode prog_7_method_9_code 102 = .ok (.iaload, 1) := by decide +kernel
theorem d9_103 : decode prog_7_method_9_code 103 = .ok (.iload_n 3, 1) := by decide +kernel
theorem d9_104 : decode prog_7_method_9_code 104 = .ok (.iastore, 1) := by decide +kernel
theorem d9_105 : decode prog_7_method_9_code 105 = .ok (.iload 4, 2) := by decide +kernel
theorem d9_107 : decode prog_7_method_9_code 107 = .ok (.istore_n 3, 1) := by decide +kernel
theorem d9_108 : decode prog_7_method_9_code 108 = .ok (.iconst 2, 1) := by decide +kernel
theorem d9_109 : decode prog_7_method_9_code 109 = .ok (.iload_n 3, 1) := by decide +kernel
theorem d9_110 : decode prog_7_method_9_code 110 = .ok (.imul, 1) := by decide +kernel
theorem d9_111 : decode prog_7_method_9_code 111 = .ok (.iconst 1, 1) := by decide +kernel
theorem d9_112 : decode prog_7_method_9_code 112 = .ok (.iadd, 1) := by decide +kernel
theorem d9_113 : decode prog_7_method_9_code 113 = .ok (.istore 4, 2) := by decide +kernel
theorem d9_115 : decode prog_7_method_9_code 115 = .ok (.goto (-99), 3) := by decide +kernel
theorem ef_9n2t (m : MethodId) (x0 : Addr) : entryFrame m #[(.ref x0), (.int 0)] 5 = mkF m 0 #[.val (.ref x0), .val (.int 0), .unset, .unset, .unset] [] := by first | (simp [entryFrame, mkF, argsToLocals, Value.category]; done) | rfl
def Q9n2t (Z : State) (ob : Addr) (va : Addr) (vh : Addr) (vx : Addr) (ka : ClassId) (kh : ClassId) (kx : ClassId) (ea : Int32) (eb : Int32) (ec : Int32) (av : List Value) (xs : List Value) (xt : List Value) (da : UInt64) (db : UInt64) (h0 : Heap) (n0 : Nat) (v : Option Value) (h : Heap) (L : List Loc) : Prop := v = none ∧ Fr n0 L ∧ Keep h0 h [vh, vx] ∧ (Arv Z h vh kh .int 3 [(.int eb), (.int ea), (.int ec)] (.int 0)) ∧ (Arv Z h vx kx .int 3 xt (.int 0))
set_option maxRecDepth 65536 in
set_option maxHeartbeats 40000000 in
theorem rm9n2t (l : Launch) (Z : State) (a0 : Array Value) (hw : ∀ d ∈ tables_1, d.before a0 Z = true) (ws : List Jvm.Cond) (ob : Addr) (va : Addr) (vh : Addr) (vx : Addr) (ka : ClassId) (kh : ClassId) (kx : ClassId) (ea : Int32) (eb : Int32) (ec : Int32) (av : List Value) (xs : List Value) (xt : List Value) (da : UInt64) (db : UInt64) (h0 : Heap) (n0 : Nat) (Z0 : n0 ≤ h0.size) (P0 : Exa Z h0 ob o_n0) (P1 : Fld Z h0 ob o_n0 "activity" "[D" (.ref va)) (P2 : Fld Z h0 ob o_n0 "heap" "[I" (.ref vh)) (P3 : Fld Z h0 ob o_n0 "heapIndex" "[I" (.ref vx)) (P4 : Fld Z h0 ob o_n0 "heapSize" "I" (.int 2)) (P5 : Arv Z h0 va ka .double (3 : Int32) av (.double 0)) (P6 : Arv Z h0 vh kh .int 3 [(.int ea), (.int eb), (.int ec)] (.int 0)) (P7 : Arv Z h0 vx kx .int 3 xs (.int 0)) (P8 : n0 ≤ vh) (P9 : n0 ≤ vx) (P10 : ob ≠ va) (P11 : ob ≠ vh) (P12 : ob ≠ vx) (P13 : va ≠ vh) (P14 : va ≠ vx) (P15 : vh ≠ vx) (hea : o_in ea) (heb : o_in eb) (hxl : xs.length = 3) (hda : av.getD ea.toNatClampNeg (.double 0) = .double da) (hdb : av.getD eb.toNatClampNeg (.double 0) = .double db) (ho : ¬ (o_bf db da eb ea) = (0 : Int32)) (hxt : ((xs.set eb.toNatClampNeg (.int 0)).set ea.toNatClampNeg (.int 1)) = xt) :
    MetFree l (⟨o_n0, "siftDown", "(I)V"⟩ : MethodName) (head1 (Jvm.Cond.code (⟨o_n0, "siftDown", "(I)V"⟩ : MethodName) prog_7_method_9_code 5 none :: ws) ({ frames := 1, cells := 0, slots := 0, locals := 14 } : Room)) (fun argz U => argz = #[(.ref ob), (.int 0)] ∧ Z.Warmed39 U.vm ∧ U.heap = h0) (fun _ _ _ _ _ => True) (fun _ U o U' => ∃ v L, o = .returned v ∧ Q9n2t Z ob va vh vx ka kh kx ea eb ec av xs xt da db h0 n0 v U'.heap L ∧ FrameEnd U o U' L ({ frames := 1, cells := 0, slots := 0, locals := 14 } : Room).cells ({ frames := 1, cells := 0, slots := 0, locals := 14 } : Room).slots) := by
  refine MetFree.of_bodySF (plainFor_of_name pn_com_example_gridwright_gridwright_core_ActivityOrder) hisR ?_
  intro p e s m args below meth c s₁ Bd hml0 hP hK
  obtain ⟨rfl, hZ, hh⟩ := hP
  have hx := Bd.exec
  have hby := Bd.bytes
  have hml : c.maxLocals = 5 := hml0
  have hown : s.vm.findClass o_n0 = some m.cls := findClass_of_methodNamed Bd.named
  have hnm := (name_of_methodNamed Bd.named Bd.method).1
  have X0 : Stand p l e ({ frames := 1, cells := 0, slots := 0, locals := 14 } : Room) s m #[(.ref ob), (.int 0)] below meth c s₁ [] 0 0 := Stand.of_body Bd
  have e0 : s₁.heap = h0 := by rw [← hh, Bd.state]; rfl
  have N0 := Fr.nil n0
  have K0 : Keep h0 h0 [vh, vx] := Keep.refl _ _
  have G : Gets p e below (s₁.setTop (entryFrame m #[(.ref ob), (.int 0)] 5)) (s₁.setTop (mkF m 0 #[.val (.ref ob), .val (.int 0), .unset, .unset, .unset] [])) := fun t k => castTop (ef_9n2t m ob) k
  replace G := o_aloadN (q := 1) G X0.here hx (hb hby d9_0) rfl rfl rfl
  obtain ⟨T1, X1, e1, st1⟩ := getF X0 hx hZ hown (host := "") (Or.inl (o_w hw 16 rfl)) Via.refl e0 P2 (g := o_g G) rfl rfl (hb hby d9_1)
  replace G := o_nxs (q := 4) (st := [(.ref vh)]) G st1 rfl
  replace G := o_iloadN (q := 5) G X1.here hx (hb hby d9_4) rfl rfl
  obtain ⟨c2, Ar2, -, S2, -, H2, -⟩ := id P6
  have hin2 : ¬ ((0 : Int32) < 0 ∨ c2.slots.size ≤ ((0 : Int32)).toNatClampNeg) := inb_of S2 ⟨by decide, by decide⟩
  replace G := o_nxs (q := 6) (st := [(.int ea)]) G (X1.iaload hx (j := (0 : Int32)) (v := (.int ea)) (by rw [e1]; exact Ar2.1) (State.isArrayOf_alike hZ.alike Ar2.2.1) Ar2.2.2 hin2 (Has.at H2 hin2 rfl) (g := o_g G) rfl rfl (hb hby d9_5)) rfl
  replace G := o_istoreN (q := 7) (l' := #[.val (.ref ob), .val (.int 0), .val (.int ea), .unset, .unset]) G X1.here hx (hb hby d9_6) rfl rfl
  replace G := o_iloadN (q := 8) G X1.here hx (hb hby d9_7) rfl rfl
  replace G := o_istoreN (q := 9) (l' := #[.val (.ref ob), .val (.int 0), .val (.int ea), .val (.int 0), .unset]) G X1.here hx (hb hby d9_8) rfl rfl
  replace G := o_iconst (q := 10) G X1.here hx (hb hby d9_9) (v := (2 : Int32)) (by decide) rfl
  replace G := o_iloadN (q := 11) G X1.here hx (hb hby d9_10) rfl rfl
  replace G := o_imul (q := 12) G X1.here hx (hb hby d9_11) (by decide : ((2 : Int32) * (0 : Int32)) = (0 : Int32)) rfl
  replace G := o_iconst (q := 13) G X1.here hx (hb hby d9_12) (v := (1 : Int32)) (by decide) rfl
  replace G := o_iadd (q := 14) G X1.here hx (hb hby d9_13) (by decide : ((0 : Int32) + (1 : Int32)) = (1 : Int32)) rfl
  replace G := o_istore (q := 16) (l' := #[.val (.ref ob), .val (.int 0), .val (.int ea), .val (.int 0), .val (.int 1)]) G X1.here hx (hb hby d9_14) rfl rfl
  replace G := o_iload (q := 18) G X1.here hx (hb hby d9_16) rfl rfl
  replace G := o_aloadN (q := 19) G X1.here hx (hb hby d9_18) rfl rfl rfl
  obtain ⟨T3, X3, e3, st3⟩ := getF X1 hx hZ hown (host := "") (Or.inl (o_w hw 25 rfl)) Via.refl e1 P4 (g := o_g G) rfl rfl (hb hby d9_19)
  replace G := o_nxs (q := 22) (st := [(.int 2), (.int 1)]) G st3 rfl
  replace G := o_icmpNo (q := 25) G X3.here hx (hb hby d9_22) (by decide) rfl
  replace G := o_iload (q := 27) G X3.here hx (hb hby d9_25) rfl rfl
  replace G := o_iconst (q := 28) G X3.here hx (hb hby d9_27) (v := (1 : Int32)) (by decide) rfl
  replace G := o_iadd (q := 29) G X3.here hx (hb hby d9_28) (by decide : ((1 : Int32) + (1 : Int32)) = (2 : Int32)) rfl
  replace G := o_aloadN (q := 30) G X3.here hx (hb hby d9_29) rfl rfl rfl
  obtain ⟨T5, X5, e5, st5⟩ := getF X3 hx hZ hown (host := "") (Or.inl (o_w hw 25 rfl)) Via.refl e3 P4 (g := o_g G) rfl rfl (hb hby d9_30)
  replace G := o_nxs (q := 33) (st := [(.int 2), (.int 2)]) G st5 rfl
  replace G := o_icmpYes (q := 62) G X5.here hx (hb hby d9_33) (by decide) (by decide) (by decide)
  replace G := o_aloadN (q := 63) G X5.here hx (hb hby d9_62) rfl rfl rfl
  replace G := o_aloadN (q := 64) G X5.here hx (hb hby d9_63) rfl rfl rfl
  obtain ⟨T7, X7, e7, st7⟩ := getF X5 hx hZ hown (host := "") (Or.inl (o_w hw 16 rfl)) Via.refl e5 P2 (g := o_g G) rfl rfl (hb hby d9_64)
  replace G := o_nxs (q := 67) (st := [(.ref vh), (.ref ob)]) G st7 rfl
  replace G := o_iload (q := 69) G X7.here hx (hb hby d9_67) rfl rfl
  obtain ⟨c8, Ar8, -, S8, -, H8, -⟩ := id P6
  have hin8 : ¬ ((1 : Int32) < 0 ∨ c8.slots.size ≤ ((1 : Int32)).toNatClampNeg) := inb_of S8 ⟨by decide, by decide⟩
  replace G := o_nxs (q := 70) (st := [(.int eb), (.ref ob)]) G (X7.iaload hx (j := (1 : Int32)) (v := (.int eb)) (by rw [e7]; exact Ar8.1) (State.isArrayOf_alike hZ.alike Ar8.2.1) Ar8.2.2 hin8 (Has.at H8 hin8 rfl) (g := o_g G) rfl rfl (hb hby d9_69)) rfl
  replace G := o_iloadN (q := 71) G X7.here hx (hb hby d9_70) rfl rfl
  obtain ⟨cq9, q9, q9'⟩ := P0.cell
  obtain ⟨_, _, ⟨T9, L9, kk9, nn9⟩, -, X9, ⟨Lc9, hQ9, l9, y9, z9⟩, st9⟩ := X7.privateBack hx (y := (⟨o_n0, "before", "(II)Z"⟩ : MethodName)) hown (mvT hZ (o_w hw 31 rfl)) (mvT hZ (o_w hw 32 rfl)) (o_sel (z := (⟨o_n0, "add", "(I)V"⟩ : MethodName)) rfl (mvT hZ (o_w hw 22 rfl)) (mvT hZ (o_w hw 23 rfl)) (mvT hZ (o_w hw 32 rfl)) (Cond.privateMethod_at (mvP hZ (o_w hw 33 rfl) (args := #[]))) (by decide)) (Cond.privateMethod_at (mvP hZ (o_w hw 33 rfl) (args := #[]))) (mvT hZ (o_w hw 34 rfl)) (by decide) (backOf (W := 0) (rm5 l Z a0 hw [] ob eb ea va ka av db da h0 n0 Z0 P1 P5 heb hea hdb hda) hZ (o_w hw 34 rfl) (o_w hw 3 rfl) (by decide) (by decide)) (g := o_g G) rfl (by rw [hml]; rfl) (Steps.refl _) (a := ob) (by rw [e7]; exact q9) q9' (argsL := [(.int eb), (.int ea)]) (rest := []) (lenOf pd_0 rfl) rfl (by show 2 * 0 + _ ≤ _; exact Nat.le_of_eq rfl) (hb hby d9_71) (fun _ _ => ⟨rfl, e7, (by decide : 0 + 0 ≤ _), (by decide : 0 + 0 ≤ _)⟩)
  dsimp only [Pt.U, Pt.locs, Pt.cells, Pt.slots] at X9 l9 y9 z9 st9 hQ9
  subst l9 y9 z9
  obtain ⟨rfl, N9q, e9⟩ := hQ9
  have N9 := Fr.app N0 N9q
  replace G := o_nxv (q := 74) (st := [(.int (o_bf db da eb ea))]) G st9 rfl
  have hc74_10 : ¬ ((o_bf db da eb ea) = (0 : Int32)) := ho
  replace G := o_ifYes (q := 80) G X9.here hx (hb hby d9_74) ((if0 _ _).trans (feq hc74_10).2) (by decide) (by decide)
  replace G := o_aloadN (q := 81) G X9.here hx (hb hby d9_80) rfl rfl rfl
  obtain ⟨T11, X11, e11, st11⟩ := getF X9 hx hZ hown (host := "") (Or.inl (o_w hw 16 rfl)) Via.refl e9 P2 (g := o_g G) rfl rfl (hb hby d9_81)
  replace G := o_nxs (q := 84) (st := [(.ref vh)]) G st11 rfl
  replace G := o_iloadN (q := 85) G X11.here hx (hb hby d9_84) rfl rfl
  replace G := o_aloadN (q := 86) G X11.here hx (hb hby d9_85) rfl rfl rfl
  obtain ⟨T12, X12, e12, st12⟩ := getF X11 hx hZ hown (host := "") (Or.inl (o_w hw 16 rfl)) Via.refl e11 P2 (g := o_g G) rfl rfl (hb hby d9_86)
  replace G := o_nxs (q := 89) (st := [(.ref vh), (.int 0), (.ref vh)]) G st12 rfl
  replace G := o_iload (q := 91) G X12.here hx (hb hby d9_89) rfl rfl
  obtain ⟨c13, Ar13, -, S13, -, H13, -⟩ := id P6
  have hin13 : ¬ ((1 : Int32) < 0 ∨ c13.slots.size ≤ ((1 : Int32)).toNatClampNeg) := inb_of S13 ⟨by decide, by decide⟩
  replace G := o_nxs (q := 92) (st := [(.int eb), (.int 0), (.ref vh)]) G (X12.iaload hx (j := (1 : Int32)) (v := (.int eb)) (by rw [e12]; exact Ar13.1) (State.isArrayOf_alike hZ.alike Ar13.2.1) Ar13.2.2 hin13 (Has.at H13 hin13 rfl) (g := o_g G) rfl rfl (hb hby d9_91)) rfl
  obtain ⟨c14, Ar14, q14, S14, N14', H14, G14'⟩ := id P6
  have hin14 : ¬ ((0 : Int32) < 0 ∨ c14.slots.size ≤ ((0 : Int32)).toNatClampNeg) := inb_of S14 ⟨by decide, by decide⟩
  obtain ⟨T14, h14, X14, e14, W14, st14⟩ := stI X12 hx hZ e12 Ar14 (j := (0 : Int32)) hin14 (g := o_g G) rfl rfl (hb hby d9_92)
  have N14 := Fr.snoc X14 N9 P8
  have Z14 : n0 ≤ h14.size := Nat.le_trans Z0 (Keep.of_wr W14).1
  have K14 : Keep h0 h14 [vh, vx] := K0.wr W14 (Or.inl (List.mem_of_getElem? (i := 0) rfl))
  have V14 : Arv Z h14 vh kh .int 3 [(.int eb), (.int eb), (.int ec)] (.int 0) := Arv.set Ar14 q14 S14 N14' H14 G14' rfl W14 0 rfl (Nat.le_of_ble_eq_true rfl)
  replace G := o_nxs (q := 93) (st := []) G st14 rfl
  replace G := o_aloadN (q := 94) G X14.here hx (hb hby d9_93) rfl rfl rfl
  have F15 := (P3.other W14 (Or.inl P11))
  obtain ⟨T16, X16, e16, st16⟩ := getF X14 hx hZ hown (host := "") (Or.inl (o_w hw 18 rfl)) Via.refl e14 F15 (g := o_g G) rfl rfl (hb hby d9_94)
  replace G := o_nxs (q := 97) (st := [(.ref vx)]) G st16 rfl
  replace G := o_aloadN (q := 98) G X16.here hx (hb hby d9_97) rfl rfl rfl
  have F17 := (P2.other W14 (Or.inl P11))
  obtain ⟨T18, X18, e18, st18⟩ := getF X16 hx hZ hown (host := "") (Or.inl (o_w hw 16 rfl)) Via.refl e16 F17 (g := o_g G) rfl rfl (hb hby d9_98)
  replace G := o_nxs (q := 101) (st := [(.ref vh), (.ref vx)]) G st18 rfl
  replace G := o_iloadN (q := 102) G X18.here hx (hb hby d9_101) rfl rfl
  obtain ⟨c19, Ar19, -, S19, -, H19, -⟩ := id V14
  have hin19 : ¬ ((0 : Int32) < 0 ∨ c19.slots.size ≤ ((0 : Int32)).toNatClampNeg) := inb_of S19 ⟨by decide, by decide⟩
  replace G := o_nxs (q := 103) (st := [(.int eb), (.ref vx)]) G (X18.iaload hx (j := (0 : Int32)) (v := (.int eb)) (by rw [e18]; exact Ar19.1) (State.isArrayOf_alike hZ.alike Ar19.2.1) Ar19.2.2 hin19 (Has.at H19 hin19 rfl) (g := o_g G) rfl rfl (hb hby d9_102)) rfl
  replace G := o_iloadN (q := 104) G X18.here hx (hb hby d9_103) rfl rfl
  have F20 := (P7.other W14 (Ne.symm P15))
  obtain ⟨c21, Ar21, q21, S21, N21', H21, G21'⟩ := id F20
  have hin21 : ¬ (eb < 0 ∨ c21.slots.size ≤ (eb).toNatClampNeg) := inb_of S21 heb
  obtain ⟨T21, h21, X21, e21, W21, st21⟩ := stI X18 hx hZ e18 Ar21 (j := eb) hin21 (g := o_g G) rfl rfl (hb hby d9_104)
  have N21 := Fr.snoc X21 N14 P9
  have Z21 : n0 ≤ h21.size := Nat.le_trans Z14 (Keep.of_wr W21).1
  have K21 : Keep h0 h21 [vh, vx] := K14.wr W21 (Or.inl (List.mem_of_getElem? (i := 1) rfl))
  have V21 : Arv Z h21 vx kx .int 3 (xs.set eb.toNatClampNeg (.int 0)) (.int 0) := Arv.set Ar21 q21 S21 N21' H21 G21' rfl W21 eb.toNatClampNeg rfl (by simp only [List.length_set, hxl]; exact o_cl heb)
  replace G := o_nxs (q := 105) (st := []) G st21 rfl
  replace G := o_iload (q := 107) G X21.here hx (hb hby d9_105) rfl rfl
  replace G := o_istoreN (q := 108) (l' := #[.val (.ref ob), .val (.int 0), .val (.int ea), .val (.int 1), .val (.int 1)]) G X21.here hx (hb hby d9_107) rfl rfl
  replace G := o_iconst (q := 109) G X21.here hx (hb hby d9_108) (v := (2 : Int32)) (by decide) rfl
  replace G := o_iloadN (q := 110) G X21.here hx (hb hby d9_109) rfl rfl
  replace G := o_imul (q := 111) G X21.here hx (hb hby d9_110) (by decide : ((2 : Int32) * (1 : Int32)) = (2 : Int32)) rfl
  replace G := o_iconst (q := 112) G X21.here hx (hb hby d9_111) (v := (1 : Int32)) (by decide) rfl
  replace G := o_iadd (q := 113) G X21.here hx (hb hby d9_112) (by decide : ((2 : Int32) + (1 : Int32)) = (3 : Int32)) rfl
  replace G := o_istore (q := 115) (l' := #[.val (.ref ob), .val (.int 0), .val (.int ea), .val (.int 1), .val (.int 3)]) G X21.here hx (hb hby d9_113) rfl rfl
  replace G := o_goto (q := 16) G X21.here hx (hb hby d9_115) (by decide) (by decide)
  replace G := o_iload (q := 18) G X21.here hx (hb hby d9_16) rfl rfl
  replace G := o_aloadN (q := 19) G X21.here hx (hb hby d9_18) rfl rfl rfl
  have F22 := ((P4.other W14 (Or.inl P11)).other W21 (Or.inl P12))
  obtain ⟨T23, X23, e23, st23⟩ := getF X21 hx hZ hown (host := "") (Or.inl (o_w hw 25 rfl)) Via.refl e21 F22 (g := o_g G) rfl rfl (hb hby d9_19)
  replace G := o_nxs (q := 22) (st := [(.int 2), (.int 3)]) G st23 rfl
  replace G := o_icmpYes (q := 118) G X23.here hx (hb hby d9_22) (by decide) (by decide) (by decide)
  replace G := o_aloadN (q := 119) G X23.here hx (hb hby d9_118) rfl rfl rfl
  have F25 := (F17.other W21 (Or.inl P12))
  obtain ⟨T26, X26, e26, st26⟩ := getF X23 hx hZ hown (host := "") (Or.inl (o_w hw 16 rfl)) Via.refl e23 F25 (g := o_g G) rfl rfl (hb hby d9_119)
  replace G := o_nxs (q := 122) (st := [(.ref vh)]) G st26 rfl
  replace G := o_iloadN (q := 123) G X26.here hx (hb hby d9_122) rfl rfl
  replace G := o_iloadN (q := 124) G X26.here hx (hb hby d9_123) rfl rfl
  have F27 := (V14.other W21 P15)
  obtain ⟨c28, Ar28, q28, S28, N28', H28, G28'⟩ := id F27
  have hin28 : ¬ ((1 : Int32) < 0 ∨ c28.slots.size ≤ ((1 : Int32)).toNatClampNeg) := inb_of S28 ⟨by decide, by decide⟩
  obtain ⟨T28, h28, X28, e28, W28, st28⟩ := stI X26 hx hZ e26 Ar28 (j := (1 : Int32)) hin28 (g := o_g G) rfl rfl (hb hby d9_124)
  have N28 := Fr.snoc X28 N21 P8
  have Z28 : n0 ≤ h28.size := Nat.le_trans Z21 (Keep.of_wr W28).1
  have K28 : Keep h0 h28 [vh, vx] := K21.wr W28 (Or.inl (List.mem_of_getElem? (i := 0) rfl))
  have V28 : Arv Z h28 vh kh .int 3 [(.int eb), (.int ea), (.int ec)] (.int 0) := Arv.set Ar28 q28 S28 N28' H28 G28' rfl W28 1 rfl (Nat.le_of_ble_eq_true rfl)
  replace G := o_nxs (q := 125) (st := []) G st28 rfl
  replace G := o_aloadN (q := 126) G X28.here hx (hb hby d9_125) rfl rfl rfl
  have F29 := ((F15.other W21 (Or.inl P12)).other W28 (Or.inl P11))
  obtain ⟨T30, X30, e30, st30⟩ := getF X28 hx hZ hown (host := "") (Or.inl (o_w hw 18 rfl)) Via.refl e28 F29 (g := o_g G) rfl rfl (hb hby d9_126)
  replace G := o_nxs (q := 129) (st := [(.ref vx)]) G st30 rfl
  replace G := o_iloadN (q := 130) G X30.here hx (hb hby d9_129) rfl rfl
  replace G := o_iloadN (q := 131) G X30.here hx (hb hby d9_130) rfl rfl
  have F31 : Arv Z h28 vx kx .int 3 (xs.set eb.toNatClampNeg (.int 0)) (.int 0) := (V21.other W28 (Ne.symm P15))
  obtain ⟨c32, Ar32, q32, S32, N32', H32, G32'⟩ := id F31
  have hin32 : ¬ (ea < 0 ∨ c32.slots.size ≤ (ea).toNatClampNeg) := inb_of S32 hea
  obtain ⟨T32, h32, X32, e32, W32, st32⟩ := stI X30 hx hZ e30 Ar32 (j := ea) hin32 (g := o_g G) rfl rfl (hb hby d9_131)
  have N32 := Fr.snoc X32 N28 P9
  have Z32 : n0 ≤ h32.size := Nat.le_trans Z28 (Keep.of_wr W32).1
  have K32 : Keep h0 h32 [vh, vx] := K28.wr W32 (Or.inl (List.mem_of_getElem? (i := 1) rfl))
  have V32 : Arv Z h32 vx kx .int 3 ((xs.set eb.toNatClampNeg (.int 0)).set ea.toNatClampNeg (.int 1)) (.int 0) := Arv.set Ar32 q32 S32 N32' H32 G32' rfl W32 ea.toNatClampNeg rfl (by simp only [List.length_set, hxl]; exact o_cl hea)
  replace G := o_nxs (q := 132) (st := []) G st32 rfl
  have VT33 : Arv Z h32 vx kx .int 3 xt (.int 0) := by rw [← hxt]; exact V32
  obtain ⟨fs, hr, hrun, hended, hW, hsame⟩ := X32.leave (v := none) (fun _ => rfl)
  refine ⟨_, _, G _ (X32.returnOut hx Bd.returns (hb hby d9_132) hr), hrun, hended, _, _, rfl, ?_, ⟨_, rfl⟩, hW, hsame.mono (by decide) (by decide)⟩
  have F34 := (V28.other W32 P15)
  show Q9n2t Z ob va vh vx ka kh kx ea eb ec av xs xt da db h0 n0 _ T32.heap _
  rw [e32]
  exact ⟨rfl, N32, K32, F34, VT33⟩
theorem d8_0 : decode prog_7_method_4_code 0 = .ok (.aload_n 0, 1) := by decide +kernel
theorem d8_1 : decode prog_7_method_4_code 1 = .ok (.getfield 17, 3) := by decide +kernel
theorem d8_4 : decode prog_7_method_4_code 4 = .ok (.iconst 0, 1) := by decide +kernel
theorem d8_5 : decode prog_7_method_4_code 5 = .ok (.iaload, 1) := by decide +kernel
theorem d8_6 : decode prog_7_method_4_code 6 = .ok (.istore_n 1, 1) := by decide +kernel
theorem d8_7 : decode prog_7_method_4_code 7 = .ok (.aload_n 0, 1) := by decide +kernel
theorem d8_8 : decode prog_7_method_4_code 8 = .ok (.getfield 21, 3) := by decide +kernel
theorem d8_11 : decode prog_7_method_4_code 11 = .ok (.iload_n 1, 1) := by decide +kernel
theorem d8_12 : decode prog_7_method_4_code 12 = .ok (.iconst (-1), 1) := by decide +kernel
theorem d8_13 : decode prog_7_method_4_code 13 = .ok (.iastore, 1) := by decide +kernel
theorem d8_14 : decode prog_7_method_4_code 14 = .ok (.aload_n 0, 1) := by decide +kernel
theorem d8_15 : decode prog_7_method_4_code 15 = .ok (.dup, 1) := by decide +kernel
theorem d8_16 : decode prog_7_method_4_code 16 = .ok (.getfield 34, 3) := by decide +kernel
theorem d8_19 : decode prog_7_method_4_code 19 = .ok (.iconst 1, 1) := by decide +kernel
theorem d8_20 : decode prog_7_method_4_code 20 = .ok (.isub, 1) := by decide +kernel
theorem d8_21 : decode prog_7_method_4_code 21 = .ok (.putfield 34, 3) := by decide +kernel
theorem d8_24 : decode prog_7_method_4_code 24 = .ok (.aload_n 0, 1) := by decide +kernel
theorem d8_25 : decode prog_7_method_4_code 25 = .ok (.getfield 34, 3) := by decide +kernel
theorem d8_28 : decode prog_7_method_4_code 28 = .ok (.ifCond .le 35, 3) := by decide +kernel
theorem d8_63 : decode prog_7_method_4_code 63 = .ok (.iload_n 1, 1) := by decide +kernel
theorem d8_64 : decode prog_7_method_4_code 64 = .ok (.ireturn, 1) := by decide +kernel
theorem ef_8n1 (m : MethodId) (x0 : Addr) : entryFrame m #[(.ref x0)] 2 = mkF m 0 #[.val (.ref x0), .unset] [] := by first | (simp [entryFrame, mkF, argsToLocals, Value.category]; done) | rfl
def Q8n1 (Z : State) (ob : Addr) (va : Addr) (vh : Addr) (vx : Addr) (ka : ClassId) (kh : ClassId) (kx : ClassId) (ea : Int32) (eb : Int32) (ec : Int32) (av : List Value) (xs : List Value) (xt : List Value) (bu : UInt64) (h0 : Heap) (n0 : Nat) (v : Option Value) (h : Heap) (L : List Loc) : Prop := v = some (.int ea) ∧ Fr n0 L ∧ Keep h0 h [ob, vh, vx] ∧ (Fld Z h ob o_n0 "activity" "[D" (.ref va)) ∧ (Fld Z h ob o_n0 "heap" "[I" (.ref vh)) ∧ (Fld Z h ob o_n0 "heapIndex" "[I" (.ref vx)) ∧ (Fld Z h ob o_n0 "heapSize" "I" (.int 0)) ∧ (Fld Z h ob o_n0 "bump" "D" (.double bu)) ∧ (Arv Z h vh kh .int 3 [(.int ea), (.int eb), (.int ec)] (.int 0)) ∧ (Arv Z h vx kx .int 3 xt (.int 0))
set_option maxRecDepth 65536 in
set_option maxHeartbeats 40000000 in
theorem rm8n1 (l : Launch) (Z : State) (a0 : Array Value) (hw : ∀ d ∈ tables_1, d.before a0 Z = true) (ws : List Jvm.Cond) (ob : Addr) (va : Addr) (vh : Addr) (vx : Addr) (ka : ClassId) (kh : ClassId) (kx : ClassId) (ea : Int32) (eb : Int32) (ec : Int32) (av : List Value) (xs : List Value) (xt : List Value) (bu : UInt64) (h0 : Heap) (n0 : Nat) (Z0 : n0 ≤ h0.size) (P0 : Exa Z h0 ob o_n0) (P1 : Fld Z h0 ob o_n0 "activity" "[D" (.ref va)) (P2 : Fld Z h0 ob o_n0 "heap" "[I" (.ref vh)) (P3 : Fld Z h0 ob o_n0 "heapIndex" "[I" (.ref vx)) (P4 : Fld Z h0 ob o_n0 "heapSize" "I" (.int 1)) (P5 : Fld Z h0 ob o_n0 "bump" "D" (.double bu)) (P6 : Arv Z h0 va ka .double (3 : Int32) av (.double 0)) (P7 : Arv Z h0 vh kh .int 3 [(.int ea), (.int eb), (.int ec)] (.int 0)) (P8 : Arv Z h0 vx kx .int 3 xs (.int 0)) (P9 : n0 ≤ ob) (P10 : n0 ≤ vh) (P11 : n0 ≤ vx) (P12 : ob ≠ va) (P13 : ob ≠ vh) (P14 : ob ≠ vx) (P15 : va ≠ vh) (P16 : va ≠ vx) (P17 : vh ≠ vx) (hea : o_in ea) (hxl : xs.length = 3) (hxt : (xs.set ea.toNatClampNeg (.int (-1))) = xt) :
    MetFree l (⟨o_n0, "takeFirst", "()I"⟩ : MethodName) (head1 (Jvm.Cond.code (⟨o_n0, "takeFirst", "()I"⟩ : MethodName) prog_7_method_4_code 2 (some .int) :: ws) ({ frames := 0, cells := 0, slots := 0, locals := 0 } : Room)) (fun argz U => argz = #[(.ref ob)] ∧ Z.Warmed39 U.vm ∧ U.heap = h0) (fun _ _ _ _ _ => True) (fun _ U o U' => ∃ v L, o = .returned v ∧ Q8n1 Z ob va vh vx ka kh kx ea eb ec av xs xt bu h0 n0 v U'.heap L ∧ FrameEnd U o U' L ({ frames := 0, cells := 0, slots := 0, locals := 0 } : Room).cells ({ frames := 0, cells := 0, slots := 0, locals := 0 } : Room).slots) := by
  refine MetFree.of_bodySF (plainFor_of_name pn_com_example_gridwright_gridwright_core_ActivityOrder) hisR ?_
  intro p e s m args below meth c s₁ Bd hml0 hP hK
  obtain ⟨rfl, hZ, hh⟩ := hP
  have hx := Bd.exec
  have hby := Bd.bytes
  have hml : c.maxLocals = 2 := hml0
  have hown : s.vm.findClass o_n0 = some m.cls := findClass_of_methodNamed Bd.named
  have hnm := (name_of_methodNamed Bd.named Bd.method).1
  have X0 : Stand p l e ({ frames := 0, cells := 0, slots := 0, locals := 0 } : Room) s m #[(.ref ob)] below meth c s₁ [] 0 0 := Stand.of_body Bd
  have e0 : s₁.heap = h0 := by rw [← hh, Bd.state]; rfl
  have N0 := Fr.nil n0
  have K0 : Keep h0 h0 [ob, vh, vx] := Keep.refl _ _
  have G : Gets p e below (s₁.setTop (entryFrame m #[(.ref ob)] 2)) (s₁.setTop (mkF m 0 #[.val (.ref ob), .unset] [])) := fun t k => castTop (ef_8n1 m ob) k
  replace G := o_aloadN (q := 1) G X0.here hx (hb hby d8_0) rfl rfl rfl
  obtain ⟨T1, X1, e1, st1⟩ := getF X0 hx hZ hown (host := "") (Or.inl (o_w hw 16 rfl)) Via.refl e0 P2 (g := o_g G) rfl rfl (hb hby d8_1)
  replace G := o_nxs (q := 4) (st := [(.ref vh)]) G st1 rfl
  replace G := o_iconst (q := 5) G X1.here hx (hb hby d8_4) (v := (0 : Int32)) (by decide) rfl
  obtain ⟨c2, Ar2, -, S2, -, H2, -⟩ := id P7
  have hin2 : ¬ ((0 : Int32) < 0 ∨ c2.slots.size ≤ ((0 : Int32)).toNatClampNeg) := inb_of S2 ⟨by decide, by decide⟩
  replace G := o_nxs (q := 6) (st := [(.int ea)]) G (X1.iaload hx (j := (0 : Int32)) (v := (.int ea)) (by rw [e1]; exact Ar2.1) (State.isArrayOf_alike hZ.alike Ar2.2.1) Ar2.2.2 hin2 (Has.at H2 hin2 rfl) (g := o_g G) rfl rfl (hb hby d8_5)) rfl
  replace G := o_istoreN (q := 7) (l' := #[.val (.ref ob), .val (.int ea)]) G X1.here hx (hb hby d8_6) rfl rfl
  replace G := o_aloadN (q := 8) G X1.here hx (hb hby d8_7) rfl rfl rfl
  obtain ⟨T3, X3, e3, st3⟩ := getF X1 hx hZ hown (host := "") (Or.inl (o_w hw 18 rfl)) Via.refl e1 P3 (g := o_g G) rfl rfl (hb hby d8_8)
  replace G := o_nxs (q := 11) (st := [(.ref vx)]) G st3 rfl
  replace G := o_iloadN (q := 12) G X3.here hx (hb hby d8_11) rfl rfl
  replace G := o_iconst (q := 13) G X3.here hx (hb hby d8_12) (v := (-1 : Int32)) (by decide) rfl
  obtain ⟨c4, Ar4, q4, S4, N4', H4, G4'⟩ := id P8
  have hin4 : ¬ (ea < 0 ∨ c4.slots.size ≤ (ea).toNatClampNeg) := inb_of S4 hea
  obtain ⟨T4, h4, X4, e4, W4, st4⟩ := stI X3 hx hZ e3 Ar4 (j := ea) hin4 (g := o_g G) rfl rfl (hb hby d8_13)
  have N4 := Fr.snoc X4 N0 P11
  have Z4 : n0 ≤ h4.size := Nat.le_trans Z0 (Keep.of_wr W4).1
  have K4 : Keep h0 h4 [ob, vh, vx] := K0.wr W4 (Or.inl (List.mem_of_getElem? (i := 2) rfl))
  have V4 : Arv Z h4 vx kx .int 3 (xs.set ea.toNatClampNeg (.int (-1))) (.int 0) := Arv.set Ar4 q4 S4 N4' H4 G4' rfl W4 ea.toNatClampNeg rfl (by simp only [List.length_set, hxl]; exact o_cl hea)
  replace G := o_nxs (q := 14) (st := []) G st4 rfl
  replace G := o_aloadN (q := 15) G X4.here hx (hb hby d8_14) rfl rfl rfl
  replace G := o_dup (q := 16) G X4.here hx (hb hby d8_15) rfl rfl
  have F5 := (P4.other W4 (Or.inl P14))
  obtain ⟨T6, X6, e6, st6⟩ := getF X4 hx hZ hown (host := "") (Or.inl (o_w hw 25 rfl)) Via.refl e4 F5 (g := o_g G) rfl rfl (hb hby d8_16)
  replace G := o_nxs (q := 19) (st := [(.int 1), (.ref ob)]) G st6 rfl
  replace G := o_iconst (q := 20) G X6.here hx (hb hby d8_19) (v := (1 : Int32)) (by decide) rfl
  replace G := o_isub (q := 21) G X6.here hx (hb hby d8_20) (by decide : ((1 : Int32) - (1 : Int32)) = (0 : Int32)) rfl
  have F7 := (P0.wr W4)
  obtain ⟨T8, h8, X8, e8, W8, st8⟩ := putF X6 hx hZ hown (host := "") (Or.inl (o_w hw 25 rfl)) Via.refl e6 F5 F7 (Or.inl (o_w hw 26 rfl)) (o_w hw 2 rfl) (ty := .int) (by decide) rfl rfl (g := o_g G) rfl rfl (hb hby d8_21)
  have N8 := Fr.snoc X8 N4 P9
  have Z8 : n0 ≤ h8.size := Nat.le_trans Z4 (Keep.of_wr W8).1
  have K8 : Keep h0 h8 [ob, vh, vx] := K4.wr W8 (Or.inl (List.mem_of_getElem? (i := 0) rfl))
  have F8 : Fld Z h8 ob o_n0 "heapSize" "I" (.int 0) := F5.same W8
  replace G := o_nxs (q := 24) (st := []) G st8 rfl
  replace G := o_aloadN (q := 25) G X8.here hx (hb hby d8_24) rfl rfl rfl
  obtain ⟨T9, X9, e9, st9⟩ := getF X8 hx hZ hown (host := "") (Or.inl (o_w hw 25 rfl)) Via.refl e8 F8 (g := o_g G) rfl rfl (hb hby d8_25)
  replace G := o_nxs (q := 28) (st := [(.int 0)]) G st9 rfl
  replace G := o_ifYes (q := 63) G X9.here hx (hb hby d8_28) (by decide) (by decide) (by decide)
  have F11 : Arv Z h8 vx kx .int 3 (xs.set ea.toNatClampNeg (.int (-1))) (.int 0) := (V4.other W8 (Ne.symm P14))
  have VT12 : Arv Z h8 vx kx .int 3 xt (.int 0) := by rw [← hxt]; exact F11
  replace G := o_iloadN (q := 64) G X9.here hx (hb hby d8_63) rfl rfl
  obtain ⟨fs, hr, hrun, hended, hW, hsame⟩ := X9.leave (v := some (.int ea)) (fun h => by rw [Bd.returns] at h; cases h)
  refine ⟨_, _, G _ (retOut X9 hx Bd.returns rfl (Or.inl ⟨rfl, Or.inl rfl, _, rfl⟩) (hb hby d8_64) hr), hrun, hended, _, _, rfl, ?_, ⟨_, rfl⟩, hW, hsame.mono (by decide) (by decide)⟩
  have F13 := ((P1.other W4 (Or.inl P14)).other W8 (Or.inr (slot_ne (Or.inr (o_w hw 14 rfl)) (Or.inl (o_w hw 26 rfl)) (by decide) (t := (.array .double)) (t' := .int) (by decide) (by decide))))
  have F14 := ((P2.other W4 (Or.inl P14)).other W8 (Or.inr (slot_ne (Or.inr (o_w hw 17 rfl)) (Or.inl (o_w hw 26 rfl)) (by decide) (t := (.array .int)) (t' := .int) (by decide) (by decide))))
  have F15 := ((P3.other W4 (Or.inl P14)).other W8 (Or.inr (slot_ne (Or.inr (o_w hw 19 rfl)) (Or.inl (o_w hw 26 rfl)) (by decide) (t := (.array .int)) (t' := .int) (by decide) (by decide))))
  have F16 := ((P5.other W4 (Or.inl P14)).other W8 (Or.inr (slot_ne (Or.inl (o_w hw 11 rfl)) (Or.inl (o_w hw 26 rfl)) (by decide) (t := .double) (t' := .int) (by decide) (by decide))))
  have F17 := ((P7.other W4 P17).other W8 (Ne.symm P13))
  show Q8n1 Z ob va vh vx ka kh kx ea eb ec av xs xt bu h0 n0 _ T9.heap _
  rw [e9]
  exact ⟨rfl, N8, K8, F13, F14, F15, F8, F16, F17, VT12⟩
theorem pd_1 : parseMethodDescriptor "(I)V" = some ⟨[.int], none⟩ := by decide +kernel
theorem d8_31 : decode prog_7_method_4_code 31 = .ok (.aload_n 0, 1) := by decide +kernel
theorem d8_32 : decode prog_7_method_4_code 32 = .ok (.getfield 17, 3) := by decide +kernel
theorem d8_35 : decode prog_7_method_4_code 35 = .ok (.iconst 0, 1) := by decide +kernel
theorem d8_36 : decode prog_7_method_4_code 36 = .ok (.aload_n 0, 1) := by decide +kernel
theorem d8_37 : decode prog_7_method_4_code 37 = .ok (.getfield 17, 3) := by decide +kernel
theorem d8_40 : decode prog_7_method_4_code 40 = .ok (.aload_n 0, 1) := by decide +kernel
theorem d8_41 : decode prog_7_method_4_code 41 = .ok (.getfield 34, 3) := by decide +kernel
theorem d8_44 : decode prog_7_method_4_code 44 = .ok (.iaload, 1) := by decide +kernel
theorem d8_45 : decode prog_7_method_4_code 45 = .ok (.iastore, 1) := by decide +kernel
theorem d8_46 : decode prog_7_method_4_code 46 = .ok (.aload_n 0, 1) := by decide +kernel
theorem d8_47 : decode prog_7_method_4_code 47 = .ok (.getfield 21, 3) := by decide +kernel
theorem d8_50 : decode prog_7_method_4_code 50 = .ok (.aload_n 0, 1) := by decide +kernel
theorem d8_51 : decode prog_7_method_4_code 51 = .ok (.getfield 17, 3) := by decide +kernel
theorem d8_54 : decode prog_7_method_4_code 54 = .ok (.iconst 0, 1) := by decide +kernel
theorem d8_55 : decode prog_7_method_4_code 55 = .ok (.iaload, 1) := by decide +kernel
theorem d8_56 : decode prog_7_method_4_code 56 = .ok (.iconst 0, 1) := by decide +kernel
theorem d8_57 : decode prog_7_method_4_code 57 = .ok (.iastore, 1) := by decide +kernel
theorem d8_58 : decode prog_7_method_4_code 58 = .ok (.aload_n 0, 1) := by decide +kernel
theorem d8_59 : decode prog_7_method_4_code 59 = .ok (.iconst 0, 1) := by decide +kernel
theorem d8_60 : decode prog_7_method_4_code 60 = .ok (.invokevirtual 41, 3) := by decide +kernel
theorem ef_8n2 (m : MethodId) (x0 : Addr) : entryFrame m #[(.ref x0)] 2 = mkF m 0 #[.val (.ref x0), .unset] [] := by first | (simp [entryFrame, mkF, argsToLocals, Value.category]; done) | rfl
def Q8n2 (Z : State) (ob : Addr) (va : Addr) (vh : Addr) (vx : Addr) (ka : ClassId) (kh : ClassId) (kx : ClassId) (ea : Int32) (eb : Int32) (ec : Int32) (av : List Value) (xs : List Value) (xt : List Value) (bu : UInt64) (h0 : Heap) (n0 : Nat) (v : Option Value) (h : Heap) (L : List Loc) : Prop := v = some (.int ea) ∧ Fr n0 L ∧ Keep h0 h [ob, vh, vx] ∧ (Fld Z h ob o_n0 "activity" "[D" (.ref va)) ∧ (Fld Z h ob o_n0 "heap" "[I" (.ref vh)) ∧ (Fld Z h ob o_n0 "heapIndex" "[I" (.ref vx)) ∧ (Fld Z h ob o_n0 "heapSize" "I" (.int 1)) ∧ (Fld Z h ob o_n0 "bump" "D" (.double bu)) ∧ (Arv Z h vh kh .int 3 [(.int eb), (.int eb), (.int ec)] (.int 0)) ∧ (Arv Z h vx kx .int 3 xt (.int 0))
set_option maxRecDepth 65536 in
set_option maxHeartbeats 40000000 in
theorem rm8n2 (l : Launch) (Z : State) (a0 : Array Value) (hw : ∀ d ∈ tables_1, d.before a0 Z = true) (ws : List Jvm.Cond) (ob : Addr) (va : Addr) (vh : Addr) (vx : Addr) (ka : ClassId) (kh : ClassId) (kx : ClassId) (ea : Int32) (eb : Int32) (ec : Int32) (av : List Value) (xs : List Value) (xt : List Value) (bu : UInt64) (h0 : Heap) (n0 : Nat) (Z0 : n0 ≤ h0.size) (P0 : Exa Z h0 ob o_n0) (P1 : Fld Z h0 ob o_n0 "activity" "[D" (.ref va)) (P2 : Fld Z h0 ob o_n0 "heap" "[I" (.ref vh)) (P3 : Fld Z h0 ob o_n0 "heapIndex" "[I" (.ref vx)) (P4 : Fld Z h0 ob o_n0 "heapSize" "I" (.int 2)) (P5 : Fld Z h0 ob o_n0 "bump" "D" (.double bu)) (P6 : Arv Z h0 va ka .double (3 : Int32) av (.double 0)) (P7 : Arv Z h0 vh kh .int 3 [(.int ea), (.int eb), (.int ec)] (.int 0)) (P8 : Arv Z h0 vx kx .int 3 xs (.int 0)) (P9 : n0 ≤ ob) (P10 : n0 ≤ vh) (P11 : n0 ≤ vx) (P12 : ob ≠ va) (P13 : ob ≠ vh) (P14 : ob ≠ vx) (P15 : va ≠ vh) (P16 : va ≠ vx) (P17 : vh ≠ vx) (hea : o_in ea) (heb : o_in eb) (hxl : xs.length = 3) (hxt : (((xs.set ea.toNatClampNeg (.int (-1))).set eb.toNatClampNeg (.int 0)).set eb.toNatClampNeg (.int 0)) = xt) :
    MetFree l (⟨o_n0, "takeFirst", "()I"⟩ : MethodName) (head1 (Jvm.Cond.code (⟨o_n0, "takeFirst", "()I"⟩ : MethodName) prog_7_method_4_code 2 (some .int) :: ws) ({ frames := 1, cells := 0, slots := 0, locals := 16 } : Room)) (fun argz U => argz = #[(.ref ob)] ∧ Z.Warmed39 U.vm ∧ U.heap = h0) (fun _ _ _ _ _ => True) (fun _ U o U' => ∃ v L, o = .returned v ∧ Q8n2 Z ob va vh vx ka kh kx ea eb ec av xs xt bu h0 n0 v U'.heap L ∧ FrameEnd U o U' L ({ frames := 1, cells := 0, slots := 0, locals := 16 } : Room).cells ({ frames := 1, cells := 0, slots := 0, locals := 16 } : Room).slots) := by
  refine MetFree.of_bodySF (plainFor_of_name pn_com_example_gridwright_gridwright_core_ActivityOrder) hisR ?_
  intro p e s m args below meth c s₁ Bd hml0 hP hK
  obtain ⟨rfl, hZ, hh⟩ := hP
  have hx := Bd.exec
  have hby := Bd.bytes
  have hml : c.maxLocals = 2 := hml0
  have hown : s.vm.findClass o_n0 = some m.cls := findClass_of_methodNamed Bd.named
  have hnm := (name_of_methodNamed Bd.named Bd.method).1
  have X0 : Stand p l e ({ frames := 1, cells := 0, slots := 0, locals := 16 } : Room) s m #[(.ref ob)] below meth c s₁ [] 0 0 := Stand.of_body Bd
  have e0 : s₁.heap = h0 := by rw [← hh, Bd.state]; rfl
  have N0 := Fr.nil n0
  have K0 : Keep h0 h0 [ob, vh, vx] := Keep.refl _ _
  have G : Gets p e below (s₁.setTop (entryFrame m #[(.ref ob)] 2)) (s₁.setTop (mkF m 0 #[.val (.ref ob), .unset] [])) := fun t k => castTop (ef_8n2 m ob) k
  replace G := o_aloadN (q := 1) G X0.here hx (hb hby d8_0) rfl rfl rfl
  obtain ⟨T1, X1, e1, st1⟩ := getF X0 hx hZ hown (host := "") (Or.inl (o_w hw 16 rfl)) Via.refl e0 P2 (g := o_g G) rfl rfl (hb hby d8_1)
  replace G := o_nxs (q := 4) (st := [(.ref vh)]) G st1 rfl
  replace G := o_iconst (q := 5) G X1.here hx (hb hby d8_4) (v := (0 : Int32)) (by decide) rfl
  obtain ⟨c2, Ar2, -, S2, -, H2, -⟩ := id P7
  have hin2 : ¬ ((0 : Int32) < 0 ∨ c2.slots.size ≤ ((0 : Int32)).toNatClampNeg) := inb_of S2 ⟨by decide, by decide⟩
  replace G := o_nxs (q := 6) (st := [(.int ea)]) G (X1.iaload hx (j := (0 : Int32)) (v := (.int ea)) (by rw [e1]; exact Ar2.1) (State.isArrayOf_alike hZ.alike Ar2.2.1) Ar2.2.2 hin2 (Has.at H2 hin2 rfl) (g := o_g G) rfl rfl (hb hby d8_5)) rfl
  replace G := o_istoreN (q := 7) (l' := #[.val (.ref ob), .val (.int ea)]) G X1.here hx (hb hby d8_6) rfl rfl
  replace G := o_aloadN (q := 8) G X1.here hx (hb hby d8_7) rfl rfl rfl
  obtain ⟨T3, X3, e3, st3⟩ := getF X1 hx hZ hown (host := "") (Or.inl (o_w hw 18 rfl)) Via.refl e1 P3 (g := o_g G) rfl rfl (hb hby d8_8)
  replace G := o_nxs (q := 11) (st := [(.ref vx)]) G st3 rfl
  replace G := o_iloadN (q := 12) G X3.here hx (hb hby d8_11) rfl rfl
  replace G := o_iconst (q := 13) G X3.here hx (hb hby d8_12) (v := (-1 : Int32)) (by decide) rfl
  obtain ⟨c4, Ar4, q4, S4, N4', H4, G4'⟩ := id P8
  have hin4 : ¬ (ea < 0 ∨ c4.slots.size ≤ (ea).toNatClampNeg) := inb_of S4 hea
  obtain ⟨T4, h4, X4, e4, W4, st4⟩ := stI X3 hx hZ e3 Ar4 (j := ea) hin4 (g := o_g G) rfl rfl (hb hby d8_13)
  have N4 := Fr.snoc X4 N0 P11
  have Z4 : n0 ≤ h4.size := Nat.le_trans Z0 (Keep.of_wr W4).1
  have K4 : Keep h0 h4 [ob, vh, vx] := K0.wr W4 (Or.inl (List.mem_of_getElem? (i := 2) rfl))
  have V4 : Arv Z h4 vx kx .int 3 (xs.set ea.toNatClampNeg (.int (-1))) (.int 0) := Arv.set Ar4 q4 S4 N4' H4 G4' rfl W4 ea.toNatClampNeg rfl (by simp only [List.length_set, hxl]; exact o_cl hea)
  replace G := o_nxs (q := 14) (st := []) G st4 rfl
  replace G := o_aloadN (q := 15) G X4.here hx (hb hby d8_14) rfl rfl rfl
  replace G := o_dup (q := 16) G X4.here hx (hb hby d8_15) rfl rfl
  have F5 := (P4.other W4 (Or.inl P14))
  obtain ⟨T6, X6, e6, st6⟩ := getF X4 hx hZ hown (host := "") (Or.inl (o_w hw 25 rfl)) Via.refl e4 F5 (g := o_g G) rfl rfl (hb hby d8_16)
  replace G := o_nxs (q := 19) (st := [(.int 2), (.ref ob)]) G st6 rfl
  replace G := o_iconst (q := 20) G X6.here hx (hb hby d8_19) (v := (1 : Int32)) (by decide) rfl
  replace G := o_isub (q := 21) G X6.here hx (hb hby d8_20) (by decide : ((2 : Int32) - (1 : Int32)) = (1 : Int32)) rfl
  have F7 := (P0.wr W4)
  obtain ⟨T8, h8, X8, e8, W8, st8⟩ := putF X6 hx hZ hown (host := "") (Or.inl (o_w hw 25 rfl)) Via.refl e6 F5 F7 (Or.inl (o_w hw 26 rfl)) (o_w hw 2 rfl) (ty := .int) (by decide) rfl rfl (g := o_g G) rfl rfl (hb hby d8_21)
  have N8 := Fr.snoc X8 N4 P9
  have Z8 : n0 ≤ h8.size := Nat.le_trans Z4 (Keep.of_wr W8).1
  have K8 : Keep h0 h8 [ob, vh, vx] := K4.wr W8 (Or.inl (List.mem_of_getElem? (i := 0) rfl))
  have F8 : Fld Z h8 ob o_n0 "heapSize" "I" (.int 1) := F5.same W8
  replace G := o_nxs (q := 24) (st := []) G st8 rfl
  replace G := o_aloadN (q := 25) G X8.here hx (hb hby d8_24) rfl rfl rfl
  obtain ⟨T9, X9, e9, st9⟩ := getF X8 hx hZ hown (host := "") (Or.inl (o_w hw 25 rfl)) Via.refl e8 F8 (g := o_g G) rfl rfl (hb hby d8_25)
  replace G := o_nxs (q := 28) (st := [(.int 1)]) G st9 rfl
  replace G := o_ifNo (q := 31) G X9.here hx (hb hby d8_28) (by decide) rfl
  replace G := o_aloadN (q := 32) G X9.here hx (hb hby d8_31) rfl rfl rfl
  have F11 := ((P2.other W4 (Or.inl P14)).other W8 (Or.inr (slot_ne (Or.inr (o_w hw 17 rfl)) (Or.inl (o_w hw 26 rfl)) (by decide) (t := (.array .int)) (t' := .int) (by decide) (by decide))))
  obtain ⟨T12, X12, e12, st12⟩ := getF X9 hx hZ hown (host := "") (Or.inl (o_w hw 16 rfl)) Via.refl e9 F11 (g := o_g G) rfl rfl (hb hby d8_32)
  replace G := o_nxs (q := 35) (st := [(.ref vh)]) G st12 rfl
  replace G := o_iconst (q := 36) G X12.here hx (hb hby d8_35) (v := (0 : Int32)) (by decide) rfl
  replace G := o_aloadN (q := 37) G X12.here hx (hb hby d8_36) rfl rfl rfl
  obtain ⟨T13, X13, e13, st13⟩ := getF X12 hx hZ hown (host := "") (Or.inl (o_w hw 16 rfl)) Via.refl e12 F11 (g := o_g G) rfl rfl (hb hby d8_37)
  replace G := o_nxs (q := 40) (st := [(.ref vh), (.int 0), (.ref vh)]) G st13 rfl
  replace G := o_aloadN (q := 41) G X13.here hx (hb hby d8_40) rfl rfl rfl
  obtain ⟨T14, X14, e14, st14⟩ := getF X13 hx hZ hown (host := "") (Or.inl (o_w hw 25 rfl)) Via.refl e13 F8 (g := o_g G) rfl rfl (hb hby d8_41)
  replace G := o_nxs (q := 44) (st := [(.int 1), (.ref vh), (.int 0), (.ref vh)]) G st14 rfl
  have F15 := ((P7.other W4 P17).other W8 (Ne.symm P13))
  obtain ⟨c16, Ar16, -, S16, -, H16, -⟩ := id F15
  have hin16 : ¬ ((1 : Int32) < 0 ∨ c16.slots.size ≤ ((1 : Int32)).toNatClampNeg) := inb_of S16 ⟨by decide, by decide⟩
  replace G := o_nxs (q := 45) (st := [(.int eb), (.int 0), (.ref vh)]) G (X14.iaload hx (j := (1 : Int32)) (v := (.int eb)) (by rw [e14]; exact Ar16.1) (State.isArrayOf_alike hZ.alike Ar16.2.1) Ar16.2.2 hin16 (Has.at H16 hin16 rfl) (g := o_g G) rfl rfl (hb hby d8_44)) rfl
  obtain ⟨c17, Ar17, q17, S17, N17', H17, G17'⟩ := id F15
  have hin17 : ¬ ((0 : Int32) < 0 ∨ c17.slots.size ≤ ((0 : Int32)).toNatClampNeg) := inb_of S17 ⟨by decide, by decide⟩
  obtain ⟨T17, h17, X17, e17, W17, st17⟩ := stI X14 hx hZ e14 Ar17 (j := (0 : Int32)) hin17 (g := o_g G) rfl rfl (hb hby d8_45)
  have N17 := Fr.snoc X17 N8 P10
  have Z17 : n0 ≤ h17.size := Nat.le_trans Z8 (Keep.of_wr W17).1
  have K17 : Keep h0 h17 [ob, vh, vx] := K8.wr W17 (Or.inl (List.mem_of_getElem? (i := 1) rfl))
  have V17 : Arv Z h17 vh kh .int 3 [(.int eb), (.int eb), (.int ec)] (.int 0) := Arv.set Ar17 q17 S17 N17' H17 G17' rfl W17 0 rfl (Nat.le_of_ble_eq_true rfl)
  replace G := o_nxs (q := 46) (st := []) G st17 rfl
  replace G := o_aloadN (q := 47) G X17.here hx (hb hby d8_46) rfl rfl rfl
  have F18 := (((P3.other W4 (Or.inl P14)).other W8 (Or.inr (slot_ne (Or.inr (o_w hw 19 rfl)) (Or.inl (o_w hw 26 rfl)) (by decide) (t := (.array .int)) (t' := .int) (by decide) (by decide)))).other W17 (Or.inl P13))
  obtain ⟨T19, X19, e19, st19⟩ := getF X17 hx hZ hown (host := "") (Or.inl (o_w hw 18 rfl)) Via.refl e17 F18 (g := o_g G) rfl rfl (hb hby d8_47)
  replace G := o_nxs (q := 50) (st := [(.ref vx)]) G st19 rfl
  replace G := o_aloadN (q := 51) G X19.here hx (hb hby d8_50) rfl rfl rfl
  have F20 := (F11.other W17 (Or.inl P13))
  obtain ⟨T21, X21, e21, st21⟩ := getF X19 hx hZ hown (host := "") (Or.inl (o_w hw 16 rfl)) Via.refl e19 F20 (g := o_g G) rfl rfl (hb hby d8_51)
  replace G := o_nxs (q := 54) (st := [(.ref vh), (.ref vx)]) G st21 rfl
  replace G := o_iconst (q := 55) G X21.here hx (hb hby d8_54) (v := (0 : Int32)) (by decide) rfl
  obtain ⟨c22, Ar22, -, S22, -, H22, -⟩ := id V17
  have hin22 : ¬ ((0 : Int32) < 0 ∨ c22.slots.size ≤ ((0 : Int32)).toNatClampNeg) := inb_of S22 ⟨by decide, by decide⟩
  replace G := o_nxs (q := 56) (st := [(.int eb), (.ref vx)]) G (X21.iaload hx (j := (0 : Int32)) (v := (.int eb)) (by rw [e21]; exact Ar22.1) (State.isArrayOf_alike hZ.alike Ar22.2.1) Ar22.2.2 hin22 (Has.at H22 hin22 rfl) (g := o_g G) rfl rfl (hb hby d8_55)) rfl
  replace G := o_iconst (q := 57) G X21.here hx (hb hby d8_56) (v := (0 : Int32)) (by decide) rfl
  have F23 : Arv Z h17 vx kx .int 3 (xs.set ea.toNatClampNeg (.int (-1))) (.int 0) := ((V4.other W8 (Ne.symm P14)).other W17 (Ne.symm P17))
  obtain ⟨c24, Ar24, q24, S24, N24', H24, G24'⟩ := id F23
  have hin24 : ¬ (eb < 0 ∨ c24.slots.size ≤ (eb).toNatClampNeg) := inb_of S24 heb
  obtain ⟨T24, h24, X24, e24, W24, st24⟩ := stI X21 hx hZ e21 Ar24 (j := eb) hin24 (g := o_g G) rfl rfl (hb hby d8_57)
  have N24 := Fr.snoc X24 N17 P11
  have Z24 : n0 ≤ h24.size := Nat.le_trans Z17 (Keep.of_wr W24).1
  have K24 : Keep h0 h24 [ob, vh, vx] := K17.wr W24 (Or.inl (List.mem_of_getElem? (i := 2) rfl))
  have V24 : Arv Z h24 vx kx .int 3 ((xs.set ea.toNatClampNeg (.int (-1))).set eb.toNatClampNeg (.int 0)) (.int 0) := Arv.set Ar24 q24 S24 N24' H24 G24' rfl W24 eb.toNatClampNeg rfl (by simp only [List.length_set, hxl]; exact o_cl heb)
  replace G := o_nxs (q := 58) (st := []) G st24 rfl
  replace G := o_aloadN (q := 59) G X24.here hx (hb hby d8_58) rfl rfl rfl
  replace G := o_iconst (q := 60) G X24.here hx (hb hby d8_59) (v := (0 : Int32)) (by decide) rfl
  have F26 := (((F7.wr W8).wr W17).wr W24)
  have F27 := ((((P1.other W4 (Or.inl P14)).other W8 (Or.inr (slot_ne (Or.inr (o_w hw 14 rfl)) (Or.inl (o_w hw 26 rfl)) (by decide) (t := (.array .double)) (t' := .int) (by decide) (by decide)))).other W17 (Or.inl P13)).other W24 (Or.inl P14))
  have F28 := (F20.other W24 (Or.inl P14))
  have F29 := (F18.other W24 (Or.inl P14))
  have F30 := ((F8.other W17 (Or.inl P13)).other W24 (Or.inl P14))
  have F31 := ((((P6.other W4 P16).other W8 (Ne.symm P12)).other W17 P15).other W24 P16)
  have F32 := (V17.other W24 P17)
  obtain ⟨cq25, q25, q25'⟩ := F26.cell
  obtain ⟨_, _, ⟨T25, L25, kk25, nn25⟩, -, X25, ⟨Lc25, hQ25, l25, y25, z25⟩, st25⟩ := X24.privateBack hx (y := (⟨o_n0, "siftDown", "(I)V"⟩ : MethodName)) hown (mvT hZ (o_w hw 52 rfl)) (mvT hZ (o_w hw 53 rfl)) (o_sel (z := (⟨o_n0, "add", "(I)V"⟩ : MethodName)) rfl (mvT hZ (o_w hw 22 rfl)) (mvT hZ (o_w hw 23 rfl)) (mvT hZ (o_w hw 53 rfl)) (Cond.privateMethod_at (mvP hZ (o_w hw 54 rfl) (args := #[]))) (by decide)) (Cond.privateMethod_at (mvP hZ (o_w hw 54 rfl) (args := #[]))) (mvT hZ (o_w hw 55 rfl)) (by decide) (backOf (W := 0) (rm9n1 l Z a0 hw [] ob va vh vx ka kh kx eb eb ec av ((xs.set ea.toNatClampNeg (.int (-1))).set eb.toNatClampNeg (.int 0)) xt h24 n0 Z24 F26 F27 F28 F29 F30 F31 F32 V24 P10 P11 P12 P13 P14 P15 P16 P17 heb (by simp only [List.length_set, hxl]) hxt) hZ (o_w hw 55 rfl) (o_w hw 3 rfl) (by decide) (by decide)) (g := o_g G) rfl (by rw [hml]; rfl) (Steps.refl _) (a := ob) (by rw [e24]; exact q25) q25' (argsL := [(.int 0)]) (rest := []) (lenOf pd_1 rfl) rfl (by show 2 * 0 + _ ≤ _; exact Nat.le_of_eq rfl) (hb hby d8_60) (fun _ _ => ⟨rfl, e24, (by decide : 0 + 0 ≤ _), (by decide : 0 + 0 ≤ _)⟩)
  dsimp only [Pt.U, Pt.locs, Pt.cells, Pt.slots] at X25 l25 y25 z25 st25 hQ25
  subst l25 y25 z25
  obtain ⟨rfl, N25q, K25q, B25_0, B25_1⟩ := hQ25
  have Z25 : n0 ≤ T25.heap.size := Nat.le_trans Z24 K25q.1
  have K25 : Keep h0 T25.heap [ob, vh, vx] := K24.trans K25q (allS (Or.inl (List.mem_of_getElem? (i := 1) rfl)) (allS (Or.inl (List.mem_of_getElem? (i := 2) rfl)) all0))
  have N25 := Fr.app N24 N25q
  replace G := o_nxv (q := 63) (st := []) G st25 rfl
  replace G := o_iloadN (q := 64) G X25.here hx (hb hby d8_63) rfl rfl
  obtain ⟨fs, hr, hrun, hended, hW, hsame⟩ := X25.leave (v := some (.int ea)) (fun h => by rw [Bd.returns] at h; cases h)
  refine ⟨_, _, G _ (retOut X25 hx Bd.returns rfl (Or.inl ⟨rfl, Or.inl rfl, _, rfl⟩) (hb hby d8_64) hr), hrun, hended, _, _, rfl, ?_, ⟨_, rfl⟩, hW, hsame.mono (by decide) (by decide)⟩
  have F33 := (F27.keep K25q (ninS P13 (ninS P14 nin0)))
  have F34 := (F28.keep K25q (ninS P13 (ninS P14 nin0)))
  have F35 := (F29.keep K25q (ninS P13 (ninS P14 nin0)))
  have F36 := (F30.keep K25q (ninS P13 (ninS P14 nin0)))
  have F37 := (((((P5.other W4 (Or.inl P14)).other W8 (Or.inr (slot_ne (Or.inl (o_w hw 11 rfl)) (Or.inl (o_w hw 26 rfl)) (by decide) (t := .double) (t' := .int) (by decide) (by decide)))).other W17 (Or.inl P13)).other W24 (Or.inl P14)).keep K25q (ninS P13 (ninS P14 nin0)))
  show Q8n2 Z ob va vh vx ka kh kx ea eb ec av xs xt bu h0 n0 _ T25.heap _
  exact ⟨rfl, N25, K25, F33, F34, F35, F36, F37, B25_0, B25_1⟩
theorem ef_8n3f (m : MethodId) (x0 : Addr) : entryFrame m #[(.ref x0)] 2 = mkF m 0 #[.val (.ref x0), .unset] [] := by first | (simp [entryFrame, mkF, argsToLocals, Value.category]; done) | rfl
def Q8n3f (Z : State) (ob : Addr) (va : Addr) (vh : Addr) (vx : Addr) (ka : ClassId) (kh : ClassId) (kx : ClassId) (ea : Int32) (eb : Int32) (ec : Int32) (av : List Value) (xs : List Value) (xt : List Value) (bu : UInt64) (dc : UInt64) (db : UInt64) (h0 : Heap) (n0 : Nat) (v : Option Value) (h : Heap) (L : List Loc) : Prop := v = some (.int ea) ∧ Fr n0 L ∧ Keep h0 h [ob, vh, vx] ∧ (Fld Z h ob o_n0 "activity" "[D" (.ref va)) ∧ (Fld Z h ob o_n0 "heap" "[I" (.ref vh)) ∧ (Fld Z h ob o_n0 "heapIndex" "[I" (.ref vx)) ∧ (Fld Z h ob o_n0 "heapSize" "I" (.int 2)) ∧ (Fld Z h ob o_n0 "bump" "D" (.double bu)) ∧ (Arv Z h vh kh .int 3 [(.int ec), (.int eb), (.int ec)] (.int 0)) ∧ (Arv Z h vx kx .int 3 xt (.int 0))
set_option maxRecDepth 65536 in
set_option maxHeartbeats 40000000 in
theorem rm8n3f (l : Launch) (Z : State) (a0 : Array Value) (hw : ∀ d ∈ tables_1, d.before a0 Z = true) (ws : List Jvm.Cond) (ob : Addr) (va : Addr) (vh : Addr) (vx : Addr) (ka : ClassId) (kh : ClassId) (kx : ClassId) (ea : Int32) (eb : Int32) (ec : Int32) (av : List Value) (xs : List Value) (xt : List Value) (bu : UInt64) (dc : UInt64) (db : UInt64) (h0 : Heap) (n0 : Nat) (Z0 : n0 ≤ h0.size) (P0 : Exa Z h0 ob o_n0) (P1 : Fld Z h0 ob o_n0 "activity" "[D" (.ref va)) (P2 : Fld Z h0 ob o_n0 "heap" "[I" (.ref vh)) (P3 : Fld Z h0 ob o_n0 "heapIndex" "[I" (.ref vx)) (P4 : Fld Z h0 ob o_n0 "heapSize" "I" (.int 3)) (P5 : Fld Z h0 ob o_n0 "bump" "D" (.double bu)) (P6 : Arv Z h0 va ka .double (3 : Int32) av (.double 0)) (P7 : Arv Z h0 vh kh .int 3 [(.int ea), (.int eb), (.int ec)] (.int 0)) (P8 : Arv Z h0 vx kx .int 3 xs (.int 0)) (P9 : n0 ≤ ob) (P10 : n0 ≤ vh) (P11 : n0 ≤ vx) (P12 : ob ≠ va) (P13 : ob ≠ vh) (P14 : ob ≠ vx) (P15 : va ≠ vh) (P16 : va ≠ vx) (P17 : vh ≠ vx) (hea : o_in ea) (heb : o_in eb) (hec : o_in ec) (hxl : xs.length = 3) (hdc : av.getD ec.toNatClampNeg (.double 0) = .double dc) (hdb : av.getD eb.toNatClampNeg (.double 0) = .double db) (ho : (o_bf db dc eb ec) = (0 : Int32)) (hxt : (((xs.set ea.toNatClampNeg (.int (-1))).set ec.toNatClampNeg (.int 0)).set ec.toNatClampNeg (.int 0)) = xt) :
    MetFree l (⟨o_n0, "takeFirst", "()I"⟩ : MethodName) (head1 (Jvm.Cond.code (⟨o_n0, "takeFirst", "()I"⟩ : MethodName) prog_7_method_4_code 2 (some .int) :: ws) ({ frames := 2, cells := 0, slots := 0, locals := 30 } : Room)) (fun argz U => argz = #[(.ref ob)] ∧ Z.Warmed39 U.vm ∧ U.heap = h0) (fun _ _ _ _ _ => True) (fun _ U o U' => ∃ v L, o = .returned v ∧ Q8n3f Z ob va vh vx ka kh kx ea eb ec av xs xt bu dc db h0 n0 v U'.heap L ∧ FrameEnd U o U' L ({ frames := 2, cells := 0, slots := 0, locals := 30 } : Room).cells ({ frames := 2, cells := 0, slots := 0, locals := 30 } : Room).slots) := by
  refine MetFree.of_bodySF (plainFor_of_name pn_com_example_gridwright_gridwright_core_ActivityOrder) hisR ?_
  intro p e s m args below meth c s₁ Bd hml0 hP hK
  obtain ⟨rfl, hZ, hh⟩ := hP
  have hx := Bd.exec
  have hby := Bd.bytes
  have hml : c.maxLocals = 2 := hml0
  have hown : s.vm.findClass o_n0 = some m.cls := findClass_of_methodNamed Bd.named
  have hnm := (name_of_methodNamed Bd.named Bd.method).1
  have X0 : Stand p l e ({ frames := 2, cells := 0, slots := 0, locals := 30 } : Room) s m #[(.ref ob)] below meth c s₁ [] 0 0 := Stand.of_body Bd
  have e0 : s₁.heap = h0 := by rw [← hh, Bd.state]; rfl
  have N0 := Fr.nil n0
  have K0 : Keep h0 h0 [ob, vh, vx] := Keep.refl _ _
  have G : Gets p e below (s₁.setTop (entryFrame m #[(.ref ob)] 2)) (s₁.setTop (mkF m 0 #[.val (.ref ob), .unset] [])) := fun t k => castTop (ef_8n3f m ob) k
  replace G := o_aloadN (q := 1) G X0.here hx (hb hby d8_0) rfl rfl rfl
  obtain ⟨T1, X1, e1, st1⟩ := getF X0 hx hZ hown (host := "") (Or.inl (o_w hw 16 rfl)) Via.refl e0 P2 (g := o_g G) rfl rfl (hb hby d8_1)
  replace G := o_nxs (q := 4) (st := [(.ref vh)]) G st1 rfl
  replace G := o_iconst (q := 5) G X1.here hx (hb hby d8_4) (v := (0 : Int32)) (by decide) rfl
  obtain ⟨c2, Ar2, -, S2, -, H2, -⟩ := id P7
  have hin2 : ¬ ((0 : Int32) < 0 ∨ c2.slots.size ≤ ((0 : Int32)).toNatClampNeg) := inb_of S2 ⟨by decide, by decide⟩
  replace G := o_nxs (q := 6) (st := [(.int ea)]) G (X1.iaload hx (j := (0 : Int32)) (v := (.int ea)) (by rw [e1]; exact Ar2.1) (State.isArrayOf_alike hZ.alike Ar2.2.1) Ar2.2.2 hin2 (Has.at H2 hin2 rfl) (g := o_g G) rfl rfl (hb hby d8_5)) rfl
  replace G := o_istoreN (q := 7) (l' := #[.val (.ref ob), .val (.int ea)]) G X1.here hx (hb hby d8_6) rfl rfl
  replace G := o_aloadN (q := 8) G X1.here hx (hb hby d8_7) rfl rfl rfl
  obtain ⟨T3, X3, e3, st3⟩ := getF X1 hx hZ hown (host := "") (Or.inl (o_w hw 18 rfl)) Via.refl e1 P3 (g := o_g G) rfl rfl (hb hby d8_8)
  replace G := o_nxs (q := 11) (st := [(.ref vx)]) G st3 rfl
  replace G := o_iloadN (q := 12) G X3.here hx (hb hby d8_11) rfl rfl
  replace G := o_iconst (q := 13) G X3.here hx (hb hby d8_12) (v := (-1 : Int32)) (by decide) rfl
  obtain ⟨c4, Ar4, q4, S4, N4', H4, G4'⟩ := id P8
  have hin4 : ¬ (ea < 0 ∨ c4.slots.size ≤ (ea).toNatClampNeg) := inb_of S4 hea
  obtain ⟨T4, h4, X4, e4, W4, st4⟩ := stI X3 hx hZ e3 Ar4 (j := ea) hin4 (g := o_g G) rfl rfl (hb hby d8_13)
  have N4 := Fr.snoc X4 N0 P11
  have Z4 : n0 ≤ h4.size := Nat.le_trans Z0 (Keep.of_wr W4).1
  have K4 : Keep h0 h4 [ob, vh, vx] := K0.wr W4 (Or.inl (List.mem_of_getElem? (i := 2) rfl))
  have V4 : Arv Z h4 vx kx .int 3 (xs.set ea.toNatClampNeg (.int (-1))) (.int 0) := Arv.set Ar4 q4 S4 N4' H4 G4' rfl W4 ea.toNatClampNeg rfl (by simp only [List.length_set, hxl]; exact o_cl hea)
  replace G := o_nxs (q := 14) (st := []) G st4 rfl
  replace G := o_aloadN (q := 15) G X4.here hx (hb hby d8_14) rfl rfl rfl
  replace G := o_dup (q := 16) G X4.here hx (hb hby d8_15) rfl rfl
  have F5 := (P4.other W4 (Or.inl P14))
  obtain ⟨T6, X6, e6, st6⟩ := getF X4 hx hZ hown (host := "") (Or.inl (o_w hw 25 rfl)) Via.refl e4 F5 (g := o_g G) rfl rfl (hb hby d8_16)
  replace G := o_nxs (q := 19) (st := [(.int 3), (.ref ob)]) G st6 rfl
  replace G := o_iconst (q := 20) G X6.here hx (hb hby d8_19) (v := (1 : Int32)) (by decide) rfl
  replace G := o_isub (q := 21) G X6.here hx (hb hby d8_20) (by decide : ((3 : Int32) - (1 : Int32)) = (2 : Int32)) rfl
  have F7 := (P0.wr W4)
  obtain ⟨T8, h8, X8, e8, W8, st8⟩ := putF X6 hx hZ hown (host := "") (Or.inl (o_w hw 25 rfl)) Via.refl e6 F5 F7 (Or.inl (o_w hw 26 rfl)) (o_w hw 2 rfl) (ty := .int) (by decide) rfl rfl (g := o_g G) rfl rfl (hb hby d8_21)
  have N8 := Fr.snoc X8 N4 P9
  have Z8 : n0 ≤ h8.size := Nat.le_trans Z4 (Keep.of_wr W8).1
  have K8 : Keep h0 h8 [ob, vh, vx] := K4.wr W8 (Or.inl (List.mem_of_getElem? (i := 0) rfl))
  have F8 : Fld Z h8 ob o_n0 "heapSize" "I" (.int 2) := F5.same W8
  replace G := o_nxs (q := 24) (st := []) G st8 rfl
  replace G := o_aloadN (q := 25) G X8.here hx (hb hby d8_24) rfl rfl rfl
  obtain ⟨T9, X9, e9, st9⟩ := getF X8 hx hZ hown (host := "") (Or.inl (o_w hw 25 rfl)) Via.refl e8 F8 (g := o_g G) rfl rfl (hb hby d8_25)
  replace G := o_nxs (q := 28) (st := [(.int 2)]) G st9 rfl
  replace G := o_ifNo (q := 31) G X9.here hx (hb hby d8_28) (by decide) rfl
  replace G := o_aloadN (q := 32) G X9.here hx (hb hby d8_31) rfl rfl rfl
  have F11 := ((P2.other W4 (Or.inl P14)).other W8 (Or.inr (slot_ne (Or.inr (o_w hw 17 rfl)) (Or.inl (o_w hw 26 rfl)) (by decide) (t := (.array .int)) (t' := .int) (by decide) (by decide))))
  obtain ⟨T12, X12, e12, st12⟩ := getF X9 hx hZ hown (host := "") (Or.inl (o_w hw 16 rfl)) Via.refl e9 F11 (g := o_g G) rfl rfl (hb hby d8_32)
  replace G := o_nxs (q := 35) (st := [(.ref vh)]) G st12 rfl
  replace G := o_iconst (q := 36) G X12.here hx (hb hby d8_35) (v := (0 : Int32)) (by decide) rfl
  replace G := o_aloadN (q := 37) G X12.here hx (hb hby d8_36) rfl rfl rfl
  obtain ⟨T13, X13, e13, st13⟩ := getF X12 hx hZ hown (host := "") (Or.inl (o_w hw 16 rfl)) Via.refl e12 F11 (g := o_g G) rfl rfl (hb hby d8_37)
  replace G := o_nxs (q := 40) (st := [(.ref vh), (.int 0), (.ref vh)]) G st13 rfl
  replace G := o_aloadN (q := 41) G X13.here hx (hb hby d8_40) rfl rfl rfl
  obtain ⟨T14, X14, e14, st14⟩ := getF X13 hx hZ hown (host := "") (Or.inl (o_w hw 25 rfl)) Via.refl e13 F8 (g := o_g G) rfl rfl (hb hby d8_41)
  replace G := o_nxs (q := 44) (st := [(.int 2), (.ref vh), (.int 0), (.ref vh)]) G st14 rfl
  have F15 := ((P7.other W4 P17).other W8 (Ne.symm P13))
  obtain ⟨c16, Ar16, -, S16, -, H16, -⟩ := id F15
  have hin16 : ¬ ((2 : Int32) < 0 ∨ c16.slots.size ≤ ((2 : Int32)).toNatClampNeg) := inb_of S16 ⟨by decide, by decide⟩
  replace G := o_nxs (q := 45) (st := [(.int ec), (.int 0), (.ref vh)]) G (X14.iaload hx (j := (2 : Int32)) (v := (.int ec)) (by rw [e14]; exact Ar16.1) (State.isArrayOf_alike hZ.alike Ar16.2.1) Ar16.2.2 hin16 (Has.at H16 hin16 rfl) (g := o_g G) rfl rfl (hb hby d8_44)) rfl
  obtain ⟨c17, Ar17, q17, S17, N17', H17, G17'⟩ := id F15
  have hin17 : ¬ ((0 : Int32) < 0 ∨ c17.slots.size ≤ ((0 : Int32)).toNatClampNeg) := inb_of S17 ⟨by decide, by decide⟩
  obtain ⟨T17, h17, X17, e17, W17, st17⟩ := stI X14 hx hZ e14 Ar17 (j := (0 : Int32)) hin17 (g := o_g G) rfl rfl (hb hby d8_45)
  have N17 := Fr.snoc X17 N8 P10
  have Z17 : n0 ≤ h17.size := Nat.le_trans Z8 (Keep.of_wr W17).1
  have K17 : Keep h0 h17 [ob, vh, vx] := K8.wr W17 (Or.inl (List.mem_of_getElem? (i := 1) rfl))
  have V17 : Arv Z h17 vh kh .int 3 [(.int ec), (.int eb), (.int ec)] (.int 0) := Arv.set Ar17 q17 S17 N17' H17 G17' rfl W17 0 rfl (Nat.le_of_ble_eq_true rfl)
  replace G := o_nxs (q := 46) (st := []) G st17 rfl
  replace G := o_aloadN (q := 47) G X17.here hx (hb hby d8_46) rfl rfl rfl
  have F18 := (((P3.other W4 (Or.inl P14)).other W8 (Or.inr (slot_ne (Or.inr (o_w hw 19 rfl)) (Or.inl (o_w hw 26 rfl)) (by decide) (t := (.array .int)) (t' := .int) (by decide) (by decide)))).other W17 (Or.inl P13))
  obtain ⟨T19, X19, e19, st19⟩ := getF X17 hx hZ hown (host := "") (Or.inl (o_w hw 18 rfl)) Via.refl e17 F18 (g := o_g G) rfl rfl (hb hby d8_47)
  replace G := o_nxs (q := 50) (st := [(.ref vx)]) G st19 rfl
  replace G := o_aloadN (q := 51) G X19.here hx (hb hby d8_50) rfl rfl rfl
  have F20 := (F11.other W17 (Or.inl P13))
  obtain ⟨T21, X21, e21, st21⟩ := getF X19 hx hZ hown (host := "") (Or.inl (o_w hw 16 rfl)) Via.refl e19 F20 (g := o_g G) rfl rfl (hb hby d8_51)
  replace G := o_nxs (q := 54) (st := [(.ref vh), (.ref vx)]) G st21 rfl
  replace G := o_iconst (q := 55) G X21.here hx (hb hby d8_54) (v := (0 : Int32)) (by decide) rfl
  obtain ⟨c22, Ar22, -, S22, -, H22, -⟩ := id V17
  have hin22 : ¬ ((0 : Int32) < 0 ∨ c22.slots.size ≤ ((0 : Int32)).toNatClampNeg) := inb_of S22 ⟨by decide, by decide⟩
  replace G := o_nxs (q := 56) (st := [(.int ec), (.ref vx)]) G (X21.iaload hx (j := (0 : Int32)) (v := (.int ec)) (by rw [e21]; exact Ar22.1) (State.isArrayOf_alike hZ.alike Ar22.2.1) Ar22.2.2 hin22 (Has.at H22 hin22 rfl) (g := o_g G) rfl rfl (hb hby d8_55)) rfl
  replace G := o_iconst (q := 57) G X21.here hx (hb hby d8_56) (v := (0 : Int32)) (by decide) rfl
  have F23 : Arv Z h17 vx kx .int 3 (xs.set ea.toNatClampNeg (.int (-1))) (.int 0) := ((V4.other W8 (Ne.symm P14)).other W17 (Ne.symm P17))
  obtain ⟨c24, Ar24, q24, S24, N24', H24, G24'⟩ := id F23
  have hin24 : ¬ (ec < 0 ∨ c24.slots.size ≤ (ec).toNatClampNeg) := inb_of S24 hec
  obtain ⟨T24, h24, X24, e24, W24, st24⟩ := stI X21 hx hZ e21 Ar24 (j := ec) hin24 (g := o_g G) rfl rfl (hb hby d8_57)
  have N24 := Fr.snoc X24 N17 P11
  have Z24 : n0 ≤ h24.size := Nat.le_trans Z17 (Keep.of_wr W24).1
  have K24 : Keep h0 h24 [ob, vh, vx] := K17.wr W24 (Or.inl (List.mem_of_getElem? (i := 2) rfl))
  have V24 : Arv Z h24 vx kx .int 3 ((xs.set ea.toNatClampNeg (.int (-1))).set ec.toNatClampNeg (.int 0)) (.int 0) := Arv.set Ar24 q24 S24 N24' H24 G24' rfl W24 ec.toNatClampNeg rfl (by simp only [List.length_set, hxl]; exact o_cl hec)
  replace G := o_nxs (q := 58) (st := []) G st24 rfl
  replace G := o_aloadN (q := 59) G X24.here hx (hb hby d8_58) rfl rfl rfl
  replace G := o_iconst (q := 60) G X24.here hx (hb hby d8_59) (v := (0 : Int32)) (by decide) rfl
  have F26 := (((F7.wr W8).wr W17).wr W24)
  have F27 := ((((P1.other W4 (Or.inl P14)).other W8 (Or.inr (slot_ne (Or.inr (o_w hw 14 rfl)) (Or.inl (o_w hw 26 rfl)) (by decide) (t := (.array .double)) (t' := .int) (by decide) (by decide)))).other W17 (Or.inl P13)).other W24 (Or.inl P14))
  have F28 := (F20.other W24 (Or.inl P14))
  have F29 := (F18.other W24 (Or.inl P14))
  have F30 := ((F8.other W17 (Or.inl P13)).other W24 (Or.inl P14))
  have F31 := ((((P6.other W4 P16).other W8 (Ne.symm P12)).other W17 P15).other W24 P16)
  have F32 := (V17.other W24 P17)
  obtain ⟨cq25, q25, q25'⟩ := F26.cell
  obtain ⟨_, _, ⟨T25, L25, kk25, nn25⟩, -, X25, ⟨Lc25, hQ25, l25, y25, z25⟩, st25⟩ := X24.privateBack hx (y := (⟨o_n0, "siftDown", "(I)V"⟩ : MethodName)) hown (mvT hZ (o_w hw 52 rfl)) (mvT hZ (o_w hw 53 rfl)) (o_sel (z := (⟨o_n0, "add", "(I)V"⟩ : MethodName)) rfl (mvT hZ (o_w hw 22 rfl)) (mvT hZ (o_w hw 23 rfl)) (mvT hZ (o_w hw 53 rfl)) (Cond.privateMethod_at (mvP hZ (o_w hw 54 rfl) (args := #[]))) (by decide)) (Cond.privateMethod_at (mvP hZ (o_w hw 54 rfl) (args := #[]))) (mvT hZ (o_w hw 55 rfl)) (by decide) (backOf (W := 0) (rm9n2f l Z a0 hw [] ob va vh vx ka kh kx ec eb ec av ((xs.set ea.toNatClampNeg (.int (-1))).set ec.toNatClampNeg (.int 0)) xt dc db h24 n0 Z24 F26 F27 F28 F29 F30 F31 F32 V24 P10 P11 P12 P13 P14 P15 P16 P17 hec heb (by simp only [List.length_set, hxl]) hdc hdb ho hxt) hZ (o_w hw 55 rfl) (o_w hw 3 rfl) (by decide) (by decide)) (g := o_g G) rfl (by rw [hml]; rfl) (Steps.refl _) (a := ob) (by rw [e24]; exact q25) q25' (argsL := [(.int 0)]) (rest := []) (lenOf pd_1 rfl) rfl (by show 2 * 0 + _ ≤ _; exact Nat.le_of_eq rfl) (hb hby d8_60) (fun _ _ => ⟨rfl, e24, (by decide : 0 + 0 ≤ _), (by decide : 0 + 0 ≤ _)⟩)
  dsimp only [Pt.U, Pt.locs, Pt.cells, Pt.slots] at X25 l25 y25 z25 st25 hQ25
  subst l25 y25 z25
  obtain ⟨rfl, N25q, K25q, B25_0, B25_1⟩ := hQ25
  have Z25 : n0 ≤ T25.heap.size := Nat.le_trans Z24 K25q.1
  have K25 : Keep h0 T25.heap [ob, vh, vx] := K24.trans K25q (allS (Or.inl (List.mem_of_getElem? (i := 1) rfl)) (allS (Or.inl (List.mem_of_getElem? (i := 2) rfl)) all0))
  have N25 := Fr.app N24 N25q
  replace G := o_nxv (q := 63) (st := []) G st25 rfl
  replace G := o_iloadN (q := 64) G X25.here hx (hb hby d8_63) rfl rfl
  obtain ⟨fs, hr, hrun, hended, hW, hsame⟩ := X25.leave (v := some (.int ea)) (fun h => by rw [Bd.returns] at h; cases h)
  refine ⟨_, _, G _ (retOut X25 hx Bd.returns rfl (Or.inl ⟨rfl, Or.inl rfl, _, rfl⟩) (hb hby d8_64) hr), hrun, hended, _, _, rfl, ?_, ⟨_, rfl⟩, hW, hsame.mono (by decide) (by decide)⟩
  have F33 := (F27.keep K25q (ninS P13 (ninS P14 nin0)))
  have F34 := (F28.keep K25q (ninS P13 (ninS P14 nin0)))
  have F35 := (F29.keep K25q (ninS P13 (ninS P14 nin0)))
  have F36 := (F30.keep K25q (ninS P13 (ninS P14 nin0)))
  have F37 := (((((P5.other W4 (Or.inl P14)).other W8 (Or.inr (slot_ne (Or.inl (o_w hw 11 rfl)) (Or.inl (o_w hw 26 rfl)) (by decide) (t := .double) (t' := .int) (by decide) (by decide)))).other W17 (Or.inl P13)).other W24 (Or.inl P14)).keep K25q (ninS P13 (ninS P14 nin0)))
  show Q8n3f Z ob va vh vx ka kh kx ea eb ec av xs xt bu dc db h0 n0 _ T25.heap _
  exact ⟨rfl, N25, K25, F33, F34, F35, F36, F37, B25_0, B25_1⟩
theorem ef_8n3t (m : MethodId) (x0 : Addr) : entryFrame m #[(.ref x0)] 2 = mkF m 0 #[.val (.ref x0), .unset] [] := by first | (simp [entryFrame, mkF, argsToLocals, Value.category]; done) | rfl
def Q8n3t (Z : State) (ob : Addr) (va : Addr) (vh : Addr) (vx : Addr) (ka : ClassId) (kh : ClassId) (kx : ClassId) (ea : Int32) (eb : Int32) (ec : Int32) (av : List Value) (xs : List Value) (xt : List Value) (bu : UInt64) (dc : UInt64) (db : UInt64) (h0 : Heap) (n0 : Nat) (v : Option Value) (h : Heap) (L : List Loc) : Prop := v = some (.int ea) ∧ Fr n0 L ∧ Keep h0 h [ob, vh, vx] ∧ (Fld Z h ob o_n0 "activity" "[D" (.ref va)) ∧ (Fld Z h ob o_n0 "heap" "[I" (.ref vh)) ∧ (Fld Z h ob o_n0 "heapIndex" "[I" (.ref vx)) ∧ (Fld Z h ob o_n0 "heapSize" "I" (.int 2)) ∧ (Fld Z h ob o_n0 "bump" "D" (.double bu)) ∧ (Arv Z h vh kh .int 3 [(.int eb), (.int ec), (.int ec)] (.int 0)) ∧ (Arv Z h vx kx .int 3 xt (.int 0))
set_option maxRecDepth 65536 in
set_option maxHeartbeats 40000000 in
theorem rm8n3t (l : Launch) (Z : State) (a0 : Array Value) (hw : ∀ d ∈ tables_1, d.before a0 Z = true) (ws : List Jvm.Cond) (ob : Addr) (va : Addr) (vh : Addr) (vx : Addr) (ka : ClassId) (kh : ClassId) (kx : ClassId) (ea : Int32) (eb : Int32) (ec : Int32) (av : List Value) (xs : List Value) (xt : List Value) (bu : UInt64) (dc : UInt64) (db : UInt64) (h0 : Heap) (n0 : Nat) (Z0 : n0 ≤ h0.size) (P0 : Exa Z h0 ob o_n0) (P1 : Fld Z h0 ob o_n0 "activity" "[D" (.ref va)) (P2 : Fld Z h0 ob o_n0 "heap" "[I" (.ref vh)) (P3 : Fld Z h0 ob o_n0 "heapIndex" "[I" (.ref vx)) (P4 : Fld Z h0 ob o_n0 "heapSize" "I" (.int 3)) (P5 : Fld Z h0 ob o_n0 "bump" "D" (.double bu)) (P6 : Arv Z h0 va ka .double (3 : Int32) av (.double 0)) (P7 : Arv Z h0 vh kh .int 3 [(.int ea), (.int eb), (.int ec)] (.int 0)) (P8 : Arv Z h0 vx kx .int 3 xs (.int 0)) (P9 : n0 ≤ ob) (P10 : n0 ≤ vh) (P11 : n0 ≤ vx) (P12 : ob ≠ va) (P13 : ob ≠ vh) (P14 : ob ≠ vx) (P15 : va ≠ vh) (P16 : va ≠ vx) (P17 : vh ≠ vx) (hea : o_in ea) (heb : o_in eb) (hec : o_in ec) (hxl : xs.length = 3) (hdc : av.getD ec.toNatClampNeg (.double 0) = .double dc) (hdb : av.getD eb.toNatClampNeg (.double 0) = .double db) (ho : ¬ (o_bf db dc eb ec) = (0 : Int32)) (hxt : ((((xs.set ea.toNatClampNeg (.int (-1))).set ec.toNatClampNeg (.int 0)).set eb.toNatClampNeg (.int 0)).set ec.toNatClampNeg (.int 1)) = xt) :
    MetFree l (⟨o_n0, "takeFirst", "()I"⟩ : MethodName) (head1 (Jvm.Cond.code (⟨o_n0, "takeFirst", "()I"⟩ : MethodName) prog_7_method_4_code 2 (some .int) :: ws) ({ frames := 2, cells := 0, slots := 0, locals := 30 } : Room)) (fun argz U => argz = #[(.ref ob)] ∧ Z.Warmed39 U.vm ∧ U.heap = h0) (fun _ _ _ _ _ => True) (fun _ U o U' => ∃ v L, o = .returned v ∧ Q8n3t Z ob va vh vx ka kh kx ea eb ec av xs xt bu dc db h0 n0 v U'.heap L ∧ FrameEnd U o U' L ({ frames := 2, cells := 0, slots := 0, locals := 30 } : Room).cells ({ frames := 2, cells := 0, slots := 0, locals := 30 } : Room).slots) := by
  refine MetFree.of_bodySF (plainFor_of_name pn_com_example_gridwright_gridwright_core_ActivityOrder) hisR ?_
  intro p e s m args below meth c s₁ Bd hml0 hP hK
  obtain ⟨rfl, hZ, hh⟩ := hP
  have hx := Bd.exec
  have hby := Bd.bytes
  have hml : c.maxLocals = 2 := hml0
  have hown : s.vm.findClass o_n0 = some m.cls := findClass_of_methodNamed Bd.named
  have hnm := (name_of_methodNamed Bd.named Bd.method).1
  have X0 : Stand p l e ({ frames := 2, cells := 0, slots := 0, locals := 30 } : Room) s m #[(.ref ob)] below meth c s₁ [] 0 0 := Stand.of_body Bd
  have e0 : s₁.heap = h0 := by rw [← hh, Bd.state]; rfl
  have N0 := Fr.nil n0
  have K0 : Keep h0 h0 [ob, vh, vx] := Keep.refl _ _
  have G : Gets p e below (s₁.setTop (entryFrame m #[(.ref ob)] 2)) (s₁.setTop (mkF m 0 #[.val (.ref ob), .unset] [])) := fun t k => castTop (ef_8n3t m ob) k
  replace G := o_aloadN (q := 1) G X0.here hx (hb hby d8_0) rfl rfl rfl
  obtain ⟨T1, X1, e1, st1⟩ := getF X0 hx hZ hown (host := "") (Or.inl (o_w hw 16 rfl)) Via.refl e0 P2 (g := o_g G) rfl rfl (hb hby d8_1)
  replace G := o_nxs (q := 4) (st := [(.ref vh)]) G st1 rfl
  replace G := o_iconst (q := 5) G X1.here hx (hb hby d8_4) (v := (0 : Int32)) (by decide) rfl
  obtain ⟨c2, Ar2, -, S2, -, H2, -⟩ := id P7
  have hin2 : ¬ ((0 : Int32) < 0 ∨ c2.slots.size ≤ ((0 : Int32)).toNatClampNeg) := inb_of S2 ⟨by decide, by decide⟩
  replace G := o_nxs (q := 6) (st := [(.int ea)]) G (X1.iaload hx (j := (0 : Int32)) (v := (.int ea)) (by rw [e1]; exact Ar2.1) (State.isArrayOf_alike hZ.alike Ar2.2.1) Ar2.2.2 hin2 (Has.at H2 hin2 rfl) (g := o_g G) rfl rfl (hb hby d8_5)) rfl
  replace G := o_istoreN (q := 7) (l' := #[.val (.ref ob), .val (.int ea)]) G X1.here hx (hb hby d8_6) rfl rfl
  replace G := o_aloadN (q := 8) G X1.here hx (hb hby d8_7) rfl rfl rfl
  obtain ⟨T3, X3, e3, st3⟩ := getF X1 hx hZ hown (host := "") (Or.inl (o_w hw 18 rfl)) Via.refl e1 P3 (g := o_g G) rfl rfl (hb hby d8_8)
  replace G := o_nxs (q := 11) (st := [(.ref vx)]) G st3 rfl
  replace G := o_iloadN (q := 12) G X3.here hx (hb hby d8_11) rfl rfl
  replace G := o_iconst (q := 13) G X3.here hx (hb hby d8_12) (v := (-1 : Int32)) (by decide) rfl
  obtain ⟨c4, Ar4, q4, S4, N4', H4, G4'⟩ := id P8
  have hin4 : ¬ (ea < 0 ∨ c4.slots.size ≤ (ea).toNatClampNeg) := inb_of S4 hea
  obtain ⟨T4, h4, X4, e4, W4, st4⟩ := stI X3 hx hZ e3 Ar4 (j := ea) hin4 (g := o_g G) rfl rfl (hb hby d8_13)
  have N4 := Fr.snoc X4 N0 P11
  have Z4 : n0 ≤ h4.size := Nat.le_trans Z0 (Keep.of_wr W4).1
  have K4 : Keep h0 h4 [ob, vh, vx] := K0.wr W4 (Or.inl (List.mem_of_getElem? (i := 2) rfl))
  have V4 : Arv Z h4 vx kx .int 3 (xs.set ea.toNatClampNeg (.int (-1))) (.int 0) := Arv.set Ar4 q4 S4 N4' H4 G4' rfl W4 ea.toNatClampNeg rfl (by simp only [List.length_set, hxl]; exact o_cl hea)
  replace G := o_nxs (q := 14) (st := []) G st4 rfl
  replace G := o_aloadN (q := 15) G X4.here hx (hb hby d8_14) rfl rfl rfl
  replace G := o_dup (q := 16) G X4.here hx (hb hby d8_15) rfl rfl
  have F5 := (P4.other W4 (Or.inl P14))
  obtain ⟨T6, X6, e6, st6⟩ := getF X4 hx hZ hown (host := "") (Or.inl (o_w hw 25 rfl)) Via.refl e4 F5 (g := o_g G) rfl rfl (hb hby d8_16)
  replace G := o_nxs (q := 19) (st := [(.int 3), (.ref ob)]) G st6 rfl
  replace G := o_iconst (q := 20) G X6.here hx (hb hby d8_19) (v := (1 : Int32)) (by decide) rfl
  replace G := o_isub (q := 21) G X6.here hx (hb hby d8_20) (by decide : ((3 : Int32) - (1 : Int32)) = (2 : Int32)) rfl
  have F7 := (P0.wr W4)
  obtain ⟨T8, h8, X8, e8, W8, st8⟩ := putF X6 hx hZ hown (host := "") (Or.inl (o_w hw 25 rfl)) Via.refl e6 F5 F7 (Or.inl (o_w hw 26 rfl)) (o_w hw 2 rfl) (ty := .int) (by decide) rfl rfl (g := o_g G) rfl rfl (hb hby d8_21)
  have N8 := Fr.snoc X8 N4 P9
  have Z8 : n0 ≤ h8.size := Nat.le_trans Z4 (Keep.of_wr W8).1
  have K8 : Keep h0 h8 [ob, vh, vx] := K4.wr W8 (Or.inl (List.mem_of_getElem? (i := 0) rfl))
  have F8 : Fld Z h8 ob o_n0 "heapSize" "I" (.int 2) := F5.same W8
  replace G := o_nxs (q := 24) (st := []) G st8 rfl
  replace G := o_aloadN (q := 25) G X8.here hx (hb hby d8_24) rfl rfl rfl
  obtain ⟨T9, X9, e9, st9⟩ := getF X8 hx hZ hown (host := "") (Or.inl (o_w hw 25 rfl)) Via.refl e8 F8 (g := o_g G) rfl rfl (hb hby d8_25)
  replace G := o_nxs (q := 28) (st := [(.int 2)]) G st9 rfl
  replace G := o_ifNo (q := 31) G X9.here hx (hb hby d8_28) (by decide) rfl
  replace G := o_aloadN (q := 32) G X9.here hx (hb hby d8_31) rfl rfl rfl
  have F11 := ((P2.other W4 (Or.inl P14)).other W8 (Or.inr (slot_ne (Or.inr (o_w hw 17 rfl)) (Or.inl (o_w hw 26 rfl)) (by decide) (t := (.array .int)) (t' := .int) (by decide) (by decide))))
  obtain ⟨T12, X12, e12, st12⟩ := getF X9 hx hZ hown (host := "") (Or.inl (o_w hw 16 rfl)) Via.refl e9 F11 (g := o_g G) rfl rfl (hb hby d8_32)
  replace G := o_nxs (q := 35) (st := [(.ref vh)]) G st12 rfl
  replace G := o_iconst (q := 36) G X12.here hx (hb hby d8_35) (v := (0 : Int32)) (by decide) rfl
  replace G := o_aloadN (q := 37) G X12.here hx (hb hby d8_36) rfl rfl rfl
  obtain ⟨T13, X13, e13, st13⟩ := getF X12 hx hZ hown (host := "") (Or.inl (o_w hw 16 rfl)) Via.refl e12 F11 (g := o_g G) rfl rfl (hb hby d8_37)
  replace G := o_nxs (q := 40) (st := [(.ref vh), (.int 0), (.ref vh)]) G st13 rfl
  replace G := o_aloadN (q := 41) G X13.here hx (hb hby d8_40) rfl rfl rfl
  obtain ⟨T14, X14, e14, st14⟩ := getF X13 hx hZ hown (host := "") (Or.inl (o_w hw 25 rfl)) Via.refl e13 F8 (g := o_g G) rfl rfl (hb hby d8_41)
  replace G := o_nxs (q := 44) (st := [(.int 2), (.ref vh), (.int 0), (.ref vh)]) G st14 rfl
  have F15 := ((P7.other W4 P17).other W8 (Ne.symm P13))
  obtain ⟨c16, Ar16, -, S16, -, H16, -⟩ := id F15
  have hin16 : ¬ ((2 : Int32) < 0 ∨ c16.slots.size ≤ ((2 : Int32)).toNatClampNeg) := inb_of S16 ⟨by decide, by decide⟩
  replace G := o_nxs (q := 45) (st := [(.int ec), (.int 0), (.ref vh)]) G (X14.iaload hx (j := (2 : Int32)) (v := (.int ec)) (by rw [e14]; exact Ar16.1) (State.isArrayOf_alike hZ.alike Ar16.2.1) Ar16.2.2 hin16 (Has.at H16 hin16 rfl) (g := o_g G) rfl rfl (hb hby d8_44)) rfl
  obtain ⟨c17, Ar17, q17, S17, N17', H17, G17'⟩ := id F15
  have hin17 : ¬ ((0 : Int32) < 0 ∨ c17.slots.size ≤ ((0 : Int32)).toNatClampNeg) := inb_of S17 ⟨by decide, by decide⟩
  obtain ⟨T17, h17, X17, e17, W17, st17⟩ := stI X14 hx hZ e14 Ar17 (j := (0 : Int32)) hin17 (g := o_g G) rfl rfl (hb hby d8_45)
  have N17 := Fr.snoc X17 N8 P10
  have Z17 : n0 ≤ h17.size := Nat.le_trans Z8 (Keep.of_wr W17).1
  have K17 : Keep h0 h17 [ob, vh, vx] := K8.wr W17 (Or.inl (List.mem_of_getElem? (i := 1) rfl))
  have V17 : Arv Z h17 vh kh .int 3 [(.int ec), (.int eb), (.int ec)] (.int 0) := Arv.set Ar17 q17 S17 N17' H17 G17' rfl W17 0 rfl (Nat.le_of_ble_eq_true rfl)
  replace G := o_nxs (q := 46) (st := []) G st17 rfl
  replace G := o_aloadN (q := 47) G X17.here hx (hb hby d8_46) rfl rfl rfl
  have F18 := (((P3.other W4 (Or.inl P14)).other W8 (Or.inr (slot_ne (Or.inr (o_w hw 19 rfl)) (Or.inl (o_w hw 26 rfl)) (by decide) (t := (.array .int)) (t' := .int) (by decide) (by decide)))).other W17 (Or.inl P13))
  obtain ⟨T19, X19, e19, st19⟩ := getF X17 hx hZ hown (host := "") (Or.inl (o_w hw 18 rfl)) Via.refl e17 F18 (g := o_g G) rfl rfl (hb hby d8_47)
  replace G := o_nxs (q := 50) (st := [(.ref vx)]) G st19 rfl
  replace G := o_aloadN (q := 51) G X19.here hx (hb hby d8_50) rfl rfl rfl
  have F20 := (F11.other W17 (Or.inl P13))
  obtain ⟨T21, X21, e21, st21⟩ := getF X19 hx hZ hown (host := "") (Or.inl (o_w hw 16 rfl)) Via.refl e19 F20 (g := o_g G) rfl rfl (hb hby d8_51)
  replace G := o_nxs (q := 54) (st := [(.ref vh), (.ref vx)]) G st21 rfl
  replace G := o_iconst (q := 55) G X21.here hx (hb hby d8_54) (v := (0 : Int32)) (by decide) rfl
  obtain ⟨c22, Ar22, -, S22, -, H22, -⟩ := id V17
  have hin22 : ¬ ((0 : Int32) < 0 ∨ c22.slots.size ≤ ((0 : Int32)).toNatClampNeg) := inb_of S22 ⟨by decide, by decide⟩
  replace G := o_nxs (q := 56) (st := [(.int ec), (.ref vx)]) G (X21.iaload hx (j := (0 : Int32)) (v := (.int ec)) (by rw [e21]; exact Ar22.1) (State.isArrayOf_alike hZ.alike Ar22.2.1) Ar22.2.2 hin22 (Has.at H22 hin22 rfl) (g := o_g G) rfl rfl (hb hby d8_55)) rfl
  replace G := o_iconst (q := 57) G X21.here hx (hb hby d8_56) (v := (0 : Int32)) (by decide) rfl
  have F23 : Arv Z h17 vx kx .int 3 (xs.set ea.toNatClampNeg (.int (-1))) (.int 0) := ((V4.other W8 (Ne.symm P14)).other W17 (Ne.symm P17))
  obtain ⟨c24, Ar24, q24, S24, N24', H24, G24'⟩ := id F23
  have hin24 : ¬ (ec < 0 ∨ c24.slots.size ≤ (ec).toNatClampNeg) := inb_of S24 hec
  obtain ⟨T24, h24, X24, e24, W24, st24⟩ := stI X21 hx hZ e21 Ar24 (j := ec) hin24 (g := o_g G) rfl rfl (hb hby d8_57)
  have N24 := Fr.snoc X24 N17 P11
  have Z24 : n0 ≤ h24.size := Nat.le_trans Z17 (Keep.of_wr W24).1
  have K24 : Keep h0 h24 [ob, vh, vx] := K17.wr W24 (Or.inl (List.mem_of_getElem? (i := 2) rfl))
  have V24 : Arv Z h24 vx kx .int 3 ((xs.set ea.toNatClampNeg (.int (-1))).set ec.toNatClampNeg (.int 0)) (.int 0) := Arv.set Ar24 q24 S24 N24' H24 G24' rfl W24 ec.toNatClampNeg rfl (by simp only [List.length_set, hxl]; exact o_cl hec)
  replace G := o_nxs (q := 58) (st := []) G st24 rfl
  replace G := o_aloadN (q := 59) G X24.here hx (hb hby d8_58) rfl rfl rfl
  replace G := o_iconst (q := 60) G X24.here hx (hb hby d8_59) (v := (0 : Int32)) (by decide) rfl
  have F26 := (((F7.wr W8).wr W17).wr W24)
  have F27 := ((((P1.other W4 (Or.inl P14)).other W8 (Or.inr (slot_ne (Or.inr (o_w hw 14 rfl)) (Or.inl (o_w hw 26 rfl)) (by decide) (t := (.array .double)) (t' := .int) (by decide) (by decide)))).other W17 (Or.inl P13)).other W24 (Or.inl P14))
  have F28 := (F20.other W24 (Or.inl P14))
  have F29 := (F18.other W24 (Or.inl P14))
  have F30 := ((F8.other W17 (Or.inl P13)).other W24 (Or.inl P14))
  have F31 := ((((P6.other W4 P16).other W8 (Ne.symm P12)).other W17 P15).other W24 P16)
  have F32 := (V17.other W24 P17)
  obtain ⟨cq25, q25, q25'⟩ := F26.cell
  obtain ⟨_, _, ⟨T25, L25, kk25, nn25⟩, -, X25, ⟨Lc25, hQ25, l25, y25, z25⟩, st25⟩ := X24.privateBack hx (y := (⟨o_n0, "siftDown", "(I)V"⟩ : MethodName)) hown (mvT hZ (o_w hw 52 rfl)) (mvT hZ (o_w hw 53 rfl)) (o_sel (z := (⟨o_n0, "add", "(I)V"⟩ : MethodName)) rfl (mvT hZ (o_w hw 22 rfl)) (mvT hZ (o_w hw 23 rfl)) (mvT hZ (o_w hw 53 rfl)) (Cond.privateMethod_at (mvP hZ (o_w hw 54 rfl) (args := #[]))) (by decide)) (Cond.privateMethod_at (mvP hZ (o_w hw 54 rfl) (args := #[]))) (mvT hZ (o_w hw 55 rfl)) (by decide) (backOf (W := 0) (rm9n2t l Z a0 hw [] ob va vh vx ka kh kx ec eb ec av ((xs.set ea.toNatClampNeg (.int (-1))).set ec.toNatClampNeg (.int 0)) xt dc db h24 n0 Z24 F26 F27 F28 F29 F30 F31 F32 V24 P10 P11 P12 P13 P14 P15 P16 P17 hec heb (by simp only [List.length_set, hxl]) hdc hdb ho hxt) hZ (o_w hw 55 rfl) (o_w hw 3 rfl) (by decide) (by decide)) (g := o_g G) rfl (by rw [hml]; rfl) (Steps.refl _) (a := ob) (by rw [e24]; exact q25) q25' (argsL := [(.int 0)]) (rest := []) (lenOf pd_1 rfl) rfl (by show 2 * 0 + _ ≤ _; exact Nat.le_of_eq rfl) (hb hby d8_60) (fun _ _ => ⟨rfl, e24, (by decide : 0 + 0 ≤ _), (by decide : 0 + 0 ≤ _)⟩)
  dsimp only [Pt.U, Pt.locs, Pt.cells, Pt.slots] at X25 l25 y25 z25 st25 hQ25
  subst l25 y25 z25
  obtain ⟨rfl, N25q, K25q, B25_0, B25_1⟩ := hQ25
  have Z25 : n0 ≤ T25.heap.size := Nat.le_trans Z24 K25q.1
  have K25 : Keep h0 T25.heap [ob, vh, vx] := K24.trans K25q (allS (Or.inl (List.mem_of_getElem? (i := 1) rfl)) (allS (Or.inl (List.mem_of_getElem? (i := 2) rfl)) all0))
  have N25 := Fr.app N24 N25q
  replace G := o_nxv (q := 63) (st := []) G st25 rfl
  replace G := o_iloadN (q := 64) G X25.here hx (hb hby d8_63) rfl rfl
  obtain ⟨fs, hr, hrun, hended, hW, hsame⟩ := X25.leave (v := some (.int ea)) (fun h => by rw [Bd.returns] at h; cases h)
  refine ⟨_, _, G _ (retOut X25 hx Bd.returns rfl (Or.inl ⟨rfl, Or.inl rfl, _, rfl⟩) (hb hby d8_64) hr), hrun, hended, _, _, rfl, ?_, ⟨_, rfl⟩, hW, hsame.mono (by decide) (by decide)⟩
  have F33 := (F27.keep K25q (ninS P13 (ninS P14 nin0)))
  have F34 := (F28.keep K25q (ninS P13 (ninS P14 nin0)))
  have F35 := (F29.keep K25q (ninS P13 (ninS P14 nin0)))
  have F36 := (F30.keep K25q (ninS P13 (ninS P14 nin0)))
  have F37 := (((((P5.other W4 (Or.inl P14)).other W8 (Or.inr (slot_ne (Or.inl (o_w hw 11 rfl)) (Or.inl (o_w hw 26 rfl)) (by decide) (t := .double) (t' := .int) (by decide) (by decide)))).other W17 (Or.inl P13)).other W24 (Or.inl P14)).keep K25q (ninS P13 (ninS P14 nin0)))
  show Q8n3t Z ob va vh vx ka kh kx ea eb ec av xs xt bu dc db h0 n0 _ T25.heap _
  exact ⟨rfl, N25, K25, F33, F34, F35, F36, F37, B25_0, B25_1⟩
theorem d6_0 : decode prog_7_method_5_code 0 = .ok (.aload_n 0, 1) := by decide +kernel
theorem d6_1 : decode prog_7_method_5_code 1 = .ok (.getfield 13, 3) := by decide +kernel
theorem d6_4 : decode prog_7_method_5_code 4 = .ok (.iload_n 1, 1) := by decide +kernel
theorem d6_5 : decode prog_7_method_5_code 5 = .ok (.dup2, 1) := by decide +kernel
theorem d6_6 : decode prog_7_method_5_code 6 = .ok (.daload, 1) := by decide +kernel
theorem d6_7 : decode prog_7_method_5_code 7 = .ok (.aload_n 0, 1) := by decide +kernel
theorem d6_8 : decode prog_7_method_5_code 8 = .ok (.getfield 7, 3) := by decide +kernel
theorem d6_11 : decode prog_7_method_5_code 11 = .ok (.dadd, 1) := by decide +kernel
theorem d6_12 : decode prog_7_method_5_code 12 = .ok (.dastore, 1) := by decide +kernel
theorem d6_13 : decode prog_7_method_5_code 13 = .ok (.aload_n 0, 1) := by decide +kernel
theorem d6_14 : decode prog_7_method_5_code 14 = .ok (.getfield 13, 3) := by decide +kernel
theorem d6_17 : decode prog_7_method_5_code 17 = .ok (.iload_n 1, 1) := by decide +kernel
theorem d6_18 : decode prog_7_method_5_code 18 = .ok (.daload, 1) := by decide +kernel
theorem d6_19 : decode prog_7_method_5_code 19 = .ok (.ldc2_w 44, 3) := by decide +kernel
theorem d6_22 : decode prog_7_method_5_code 22 = .ok (.dcmp .l, 1) := by decide +kernel
theorem d6_23 : decode prog_7_method_5_code 23 = .ok (.ifCond .le 44, 3) := by decide +kernel
theorem d6_67 : decode prog_7_method_5_code 67 = .ok (.aload_n 0, 1) := by decide +kernel
theorem d6_68 : decode prog_7_method_5_code 68 = .ok (.getfield 21, 3) := by decide +kernel
theorem d6_71 : decode prog_7_method_5_code 71 = .ok (.iload_n 1, 1) := by decide +kernel
theorem d6_72 : decode prog_7_method_5_code 72 = .ok (.iaload, 1) := by decide +kernel
theorem d6_73 : decode prog_7_method_5_code 73 = .ok (.ifCond .lt 13, 3) := by decide +kernel
theorem d6_76 : decode prog_7_method_5_code 76 = .ok (.aload_n 0, 1) := by decide +kernel
theorem d6_77 : decode prog_7_method_5_code 77 = .ok (.aload_n 0, 1) := by decide +kernel
theorem d6_78 : decode prog_7_method_5_code 78 = .ok (.getfield 21, 3) := by decide +kernel
theorem d6_81 : decode prog_7_method_5_code 81 = .ok (.iload_n 1, 1) := by decide +kernel
theorem d6_82 : decode prog_7_method_5_code 82 = .ok (.iaload, 1) := by decide +kernel
theorem d6_83 : decode prog_7_method_5_code 83 = .ok (.invokevirtual 38, 3) := by decide +kernel
theorem d6_86 : decode prog_7_method_5_code 86 = .ok (.return_, 1) := by decide +kernel
theorem ef_6f0 (m : MethodId) (x0 : Addr) (x1 : Int32) : entryFrame m #[(.ref x0), (.int x1)] 3 = mkF m 0 #[.val (.ref x0), .val (.int x1), .unset] [] := by first | (simp [entryFrame, mkF, argsToLocals, Value.category]; done) | rfl
def Q6f0 (Z : State) (ob : Addr) (vv : Int32) (va : Addr) (vh : Addr) (vx : Addr) (ka : ClassId) (kh : ClassId) (kx : ClassId) (ea : Int32) (eb : Int32) (ec : Int32) (av : List Value) (xs : List Value) (xt : List Value) (bu : UInt64) (aw : List Value) (dx : UInt64) (dy : UInt64) (h0 : Heap) (n0 : Nat) (v : Option Value) (h : Heap) (L : List Loc) : Prop := v = none ∧ Fr n0 L ∧ Keep h0 h [va, vh, vx] ∧ (Arv Z h va ka .double (3 : Int32) aw (.double 0)) ∧ (Arv Z h vh kh .int 3 [(.int ea), (.int eb), (.int ec)] (.int 0)) ∧ (Arv Z h vx kx .int 3 xt (.int 0))
set_option maxRecDepth 65536 in
set_option maxHeartbeats 40000000 in
theorem rm6f0 (l : Launch) (Z : State) (a0 : Array Value) (hw : ∀ d ∈ tables_1, d.before a0 Z = true) (ws : List Jvm.Cond) (ob : Addr) (vv : Int32) (va : Addr) (vh : Addr) (vx : Addr) (ka : ClassId) (kh : ClassId) (kx : ClassId) (ea : Int32) (eb : Int32) (ec : Int32) (av : List Value) (xs : List Value) (xt : List Value) (bu : UInt64) (aw : List Value) (dx : UInt64) (dy : UInt64) (h0 : Heap) (n0 : Nat) (Z0 : n0 ≤ h0.size) (P0 : Exa Z h0 ob o_n0) (P1 : Fld Z h0 ob o_n0 "activity" "[D" (.ref va)) (P2 : Fld Z h0 ob o_n0 "heap" "[I" (.ref vh)) (P3 : Fld Z h0 ob o_n0 "heapIndex" "[I" (.ref vx)) (P4 : Fld Z h0 ob o_n0 "bump" "D" (.double bu)) (P5 : Arv Z h0 va ka .double (3 : Int32) av (.double 0)) (P6 : Arv Z h0 vh kh .int 3 [(.int ea), (.int eb), (.int ec)] (.int 0)) (P7 : Arv Z h0 vx kx .int 3 xs (.int 0)) (P8 : n0 ≤ va) (P9 : n0 ≤ vh) (P10 : n0 ≤ vx) (P11 : ob ≠ va) (P12 : ob ≠ vh) (P13 : ob ≠ vx) (P14 : va ≠ vh) (P15 : va ≠ vx) (P16 : vh ≠ vx) (hea : o_in ea) (hv : o_in vv) (hxl : xs.length = 3) (hal : av.length = 3) (hxi : xs.getD vv.toNatClampNeg (.int 0) = .int 0) (hx0 : av.getD vv.toNatClampNeg (.double 0) = .double dx) (hy : FP.dadd dx bu = dy) (hyn : Jvm.Free.Fl.NoNaN64 (FP.dadd dx bu)) (hyr : FP.dcmp dy (6103021453049119613 : UInt64) = some .lt) (haw : (av.set vv.toNatClampNeg (.double dy)) = aw) (hy2 : aw.getD vv.toNatClampNeg (.double 0) = .double dy) (hxt : (xs.set ea.toNatClampNeg (.int 0)) = xt) :
    MetFree l (⟨o_n0, "bump", "(I)V"⟩ : MethodName) (head1 (Jvm.Cond.code (⟨o_n0, "bump", "(I)V"⟩ : MethodName) prog_7_method_5_code 3 none :: ws) ({ frames := 1, cells := 0, slots := 0, locals := 15 } : Room)) (fun argz U => argz = #[(.ref ob), (.int vv)] ∧ Z.Warmed39 U.vm ∧ U.heap = h0) (fun _ _ _ _ _ => True) (fun _ U o U' => ∃ v L, o = .returned v ∧ Q6f0 Z ob vv va vh vx ka kh kx ea eb ec av xs xt bu aw dx dy h0 n0 v U'.heap L ∧ FrameEnd U o U' L ({ frames := 1, cells := 0, slots := 0, locals := 15 } : Room).cells ({ frames := 1, cells := 0, slots := 0, locals := 15 } : Room).slots) := by
  refine MetFree.of_bodySF (plainFor_of_name pn_com_example_gridwright_gridwright_core_ActivityOrder) hisR ?_
  intro p e s m args below meth c s₁ Bd hml0 hP hK
  obtain ⟨rfl, hZ, hh⟩ := hP
  have hx := Bd.exec
  have hby := Bd.bytes
  have hml : c.maxLocals = 3 := hml0
  have hown : s.vm.findClass o_n0 = some m.cls := findClass_of_methodNamed Bd.named
  have hnm := (name_of_methodNamed Bd.named Bd.method).1
  have X0 : Stand p l e ({ frames := 1, cells := 0, slots := 0, locals := 15 } : Room) s m #[(.ref ob), (.int vv)] below meth c s₁ [] 0 0 := Stand.of_body Bd
  have e0 : s₁.heap = h0 := by rw [← hh, Bd.state]; rfl
  have N0 := Fr.nil n0
  have K0 : Keep h0 h0 [va, vh, vx] := Keep.refl _ _
  have G : Gets p e below (s₁.setTop (entryFrame m #[(.ref ob), (.int vv)] 3)) (s₁.setTop (mkF m 0 #[.val (.ref ob), .val (.int vv), .unset] [])) := fun t k => castTop (ef_6f0 m ob vv) k
  replace G := o_aloadN (q := 1) G X0.here hx (hb hby d6_0) rfl rfl rfl
  obtain ⟨T1, X1, e1, st1⟩ := getF X0 hx hZ hown (host := "") (Or.inl (o_w hw 13 rfl)) Via.refl e0 P1 (g := o_g G) rfl rfl (hb hby d6_1)
  replace G := o_nxs (q := 4) (st := [(.ref va)]) G st1 rfl
  replace G := o_iloadN (q := 5) G X1.here hx (hb hby d6_4) rfl rfl
  replace G := o_dup2 (q := 6) G X1.here hx (hb hby d6_5) rfl rfl rfl
  obtain ⟨c2, Ar2, -, S2, -, H2, -⟩ := id P5
  have hin2 : ¬ (vv < 0 ∨ c2.slots.size ≤ (vv).toNatClampNeg) := inb_of S2 hv
  replace G := o_nxs (q := 7) (st := [(.double dx), (.int vv), (.ref va)]) G (X1.daload hx (j := vv) (v := (.double dx)) (by rw [e1]; exact Ar2.1) (State.isArrayOf_alike hZ.alike Ar2.2.1) Ar2.2.2 hin2 (Has.at H2 hin2 hx0) (g := o_g G) rfl rfl (hb hby d6_6)) rfl
  replace G := o_aloadN (q := 8) G X1.here hx (hb hby d6_7) rfl rfl rfl
  obtain ⟨T3, X3, e3, st3⟩ := getF X1 hx hZ hown (host := "") (Or.inl (o_w hw 10 rfl)) Via.refl e1 P4 (g := o_g G) rfl rfl (hb hby d6_8)
  replace G := o_nxs (q := 11) (st := [(.double bu), (.double dx), (.int vv), (.ref va)]) G st3 rfl
  replace G := o_dadd (q := 12) G X3.here hx (hb hby d6_11) hyn hy rfl
  obtain ⟨c4, Ar4, q4, S4, N4', H4, G4'⟩ := id P5
  have hin4 : ¬ (vv < 0 ∨ c4.slots.size ≤ (vv).toNatClampNeg) := inb_of S4 hv
  obtain ⟨T4, h4, X4, e4, W4, st4⟩ := stD X3 hx hZ e3 Ar4 (j := vv) hin4 (g := o_g G) rfl rfl (hb hby d6_12)
  have N4 := Fr.snoc X4 N0 P8
  have Z4 : n0 ≤ h4.size := Nat.le_trans Z0 (Keep.of_wr W4).1
  have K4 : Keep h0 h4 [va, vh, vx] := K0.wr W4 (Or.inl (List.mem_of_getElem? (i := 0) rfl))
  have V4 : Arv Z h4 va ka .double (3 : Int32) (av.set vv.toNatClampNeg (.double dy)) (.double 0) := Arv.set Ar4 q4 S4 N4' H4 G4' rfl W4 vv.toNatClampNeg rfl (by rw [hal]; exact o_cl hv)
  replace G := o_nxs (q := 13) (st := []) G st4 rfl
  have VT5 : Arv Z h4 va ka .double (3 : Int32) aw (.double 0) := by rw [← haw]; exact V4
  replace G := o_aloadN (q := 14) G X4.here hx (hb hby d6_13) rfl rfl rfl
  have F6 := (P1.other W4 (Or.inl P11))
  obtain ⟨T7, X7, e7, st7⟩ := getF X4 hx hZ hown (host := "") (Or.inl (o_w hw 13 rfl)) Via.refl e4 F6 (g := o_g G) rfl rfl (hb hby d6_14)
  replace G := o_nxs (q := 17) (st := [(.ref va)]) G st7 rfl
  replace G := o_iloadN (q := 18) G X7.here hx (hb hby d6_17) rfl rfl
  obtain ⟨c8, Ar8, -, S8, -, H8, -⟩ := id VT5
  have hin8 : ¬ (vv < 0 ∨ c8.slots.size ≤ (vv).toNatClampNeg) := inb_of S8 hv
  replace G := o_nxs (q := 19) (st := [(.double dy)]) G (X7.daload hx (j := vv) (v := (.double dy)) (by rw [e7]; exact Ar8.1) (State.isArrayOf_alike hZ.alike Ar8.2.1) Ar8.2.2 hin8 (Has.at H8 hin8 hy2) (g := o_g G) rfl rfl (hb hby d6_18)) rfl
  replace G := o_nxs (q := 22) (st := [(.double 6103021453049119613), (.double dy)]) G (X7.ldc2DoubleC hx hown (mvT hZ (o_w hw 40 rfl)) (g := o_g G) rfl (hb hby d6_19)) rfl
  replace G := o_dcmp (q := 23) G X7.here hx (hb hby d6_22) (by rw [hyr] <;> rfl) rfl
  replace G := o_ifYes (q := 67) G X7.here hx (hb hby d6_23) (by decide) (by decide) (by decide)
  replace G := o_aloadN (q := 68) G X7.here hx (hb hby d6_67) rfl rfl rfl
  have F10 := (P3.other W4 (Or.inl P11))
  obtain ⟨T11, X11, e11, st11⟩ := getF X7 hx hZ hown (host := "") (Or.inl (o_w hw 18 rfl)) Via.refl e7 F10 (g := o_g G) rfl rfl (hb hby d6_68)
  replace G := o_nxs (q := 71) (st := [(.ref vx)]) G st11 rfl
  replace G := o_iloadN (q := 72) G X11.here hx (hb hby d6_71) rfl rfl
  have F12 := (P7.other W4 (Ne.symm P15))
  obtain ⟨c13, Ar13, -, S13, -, H13, -⟩ := id F12
  have hin13 : ¬ (vv < 0 ∨ c13.slots.size ≤ (vv).toNatClampNeg) := inb_of S13 hv
  replace G := o_nxs (q := 73) (st := [(.int 0)]) G (X11.iaload hx (j := vv) (v := (.int 0)) (by rw [e11]; exact Ar13.1) (State.isArrayOf_alike hZ.alike Ar13.2.1) Ar13.2.2 hin13 (Has.at H13 hin13 hxi) (g := o_g G) rfl rfl (hb hby d6_72)) rfl
  replace G := o_ifNo (q := 76) G X11.here hx (hb hby d6_73) (by decide) rfl
  replace G := o_aloadN (q := 77) G X11.here hx (hb hby d6_76) rfl rfl rfl
  replace G := o_aloadN (q := 78) G X11.here hx (hb hby d6_77) rfl rfl rfl
  obtain ⟨T15, X15, e15, st15⟩ := getF X11 hx hZ hown (host := "") (Or.inl (o_w hw 18 rfl)) Via.refl e11 F10 (g := o_g G) rfl rfl (hb hby d6_78)
  replace G := o_nxs (q := 81) (st := [(.ref vx), (.ref ob)]) G st15 rfl
  replace G := o_iloadN (q := 82) G X15.here hx (hb hby d6_81) rfl rfl
  obtain ⟨c16, Ar16, -, S16, -, H16, -⟩ := id F12
  have hin16 : ¬ (vv < 0 ∨ c16.slots.size ≤ (vv).toNatClampNeg) := inb_of S16 hv
  replace G := o_nxs (q := 83) (st := [(.int 0), (.ref ob)]) G (X15.iaload hx (j := vv) (v := (.int 0)) (by rw [e15]; exact Ar16.1) (State.isArrayOf_alike hZ.alike Ar16.2.1) Ar16.2.2 hin16 (Has.at H16 hin16 hxi) (g := o_g G) rfl rfl (hb hby d6_82)) rfl
  have F18 := (P0.wr W4)
  have F19 := (P2.other W4 (Or.inl P11))
  have F20 := (P6.other W4 (Ne.symm P14))
  obtain ⟨cq17, q17, q17'⟩ := F18.cell
  obtain ⟨_, _, ⟨T17, L17, kk17, nn17⟩, -, X17, ⟨Lc17, hQ17, l17, y17, z17⟩, st17⟩ := X15.privateBack hx (y := (⟨o_n0, "siftUp", "(I)V"⟩ : MethodName)) hown (mvT hZ (o_w hw 27 rfl)) (mvT hZ (o_w hw 28 rfl)) (o_sel (z := (⟨o_n0, "add", "(I)V"⟩ : MethodName)) rfl (mvT hZ (o_w hw 22 rfl)) (mvT hZ (o_w hw 23 rfl)) (mvT hZ (o_w hw 28 rfl)) (Cond.privateMethod_at (mvP hZ (o_w hw 29 rfl) (args := #[]))) (by decide)) (Cond.privateMethod_at (mvP hZ (o_w hw 29 rfl) (args := #[]))) (mvT hZ (o_w hw 30 rfl)) (by decide) (backOf (W := 0) (rm4f0 l Z a0 hw [] ob va vh vx ka kh kx ea eb ec aw xs xt h4 n0 Z4 F18 F6 F19 F10 VT5 F20 F12 P9 P10 P11 P12 P13 P14 P15 P16 (by assumption) hxl hxt) hZ (o_w hw 30 rfl) (o_w hw 3 rfl) (by decide) (by decide)) (g := o_g G) rfl (by rw [hml]; rfl) (Steps.refl _) (a := ob) (by rw [e15]; exact q17) q17' (argsL := [(.int 0)]) (rest := []) (lenOf pd_1 rfl) rfl (by show 2 * 0 + _ ≤ _; exact Nat.le_of_eq rfl) (hb hby d6_83) (fun _ _ => ⟨rfl, e15, (by decide : 0 + 0 ≤ _), (by decide : 0 + 0 ≤ _)⟩)
  dsimp only [Pt.U, Pt.locs, Pt.cells, Pt.slots] at X17 l17 y17 z17 st17 hQ17
  subst l17 y17 z17
  obtain ⟨rfl, N17q, K17q, B17_0, B17_1⟩ := hQ17
  have Z17 : n0 ≤ T17.heap.size := Nat.le_trans Z4 K17q.1
  have K17 : Keep h0 T17.heap [va, vh, vx] := K4.trans K17q (allS (Or.inl (List.mem_of_getElem? (i := 1) rfl)) (allS (Or.inl (List.mem_of_getElem? (i := 2) rfl)) all0))
  have N17 := Fr.app N4 N17q
  replace G := o_nxv (q := 86) (st := []) G st17 rfl
  obtain ⟨fs, hr, hrun, hended, hW, hsame⟩ := X17.leave (v := none) (fun _ => rfl)
  refine ⟨_, _, G _ (X17.returnOut hx Bd.returns (hb hby d6_86) hr), hrun, hended, _, _, rfl, ?_, ⟨_, rfl⟩, hW, hsame.mono (by decide) (by decide)⟩
  have F21 := (VT5.keep K17q (ninS P14 (ninS P15 nin0)))
  show Q6f0 Z ob vv va vh vx ka kh kx ea eb ec av xs xt bu aw dx dy h0 n0 _ T17.heap _
  exact ⟨rfl, N17, K17, F21, B17_0, B17_1⟩
theorem ef_6f1f (m : MethodId) (x0 : Addr) (x1 : Int32) : entryFrame m #[(.ref x0), (.int x1)] 3 = mkF m 0 #[.val (.ref x0), .val (.int x1), .unset] [] := by first | (simp [entryFrame, mkF, argsToLocals, Value.category]; done) | rfl
def Q6f1f (Z : State) (ob : Addr) (vv : Int32) (va : Addr) (vh : Addr) (vx : Addr) (ka : ClassId) (kh : ClassId) (kx : ClassId) (ea : Int32) (eb : Int32) (ec : Int32) (av : List Value) (xs : List Value) (xt : List Value) (bu : UInt64) (aw : List Value) (dx : UInt64) (dy : UInt64) (da : UInt64) (db : UInt64) (h0 : Heap) (n0 : Nat) (v : Option Value) (h : Heap) (L : List Loc) : Prop := v = none ∧ Fr n0 L ∧ Keep h0 h [va, vh, vx] ∧ (Arv Z h va ka .double (3 : Int32) aw (.double 0)) ∧ (Arv Z h vh kh .int 3 [(.int ea), (.int eb), (.int ec)] (.int 0)) ∧ (Arv Z h vx kx .int 3 xt (.int 0))
set_option maxRecDepth 65536 in
set_option maxHeartbeats 40000000 in
theorem rm6f1f (l : Launch) (Z : State) (a0 : Array Value) (hw : ∀ d ∈ tables_1, d.before a0 Z = true) (ws : List Jvm.Cond) (ob : Addr) (vv : Int32) (va : Addr) (vh : Addr) (vx : Addr) (ka : ClassId) (kh : ClassId) (kx : ClassId) (ea : Int32) (eb : Int32) (ec : Int32) (av : List Value) (xs : List Value) (xt : List Value) (bu : UInt64) (aw : List Value) (dx : UInt64) (dy : UInt64) (da : UInt64) (db : UInt64) (h0 : Heap) (n0 : Nat) (Z0 : n0 ≤ h0.size) (P0 : Exa Z h0 ob o_n0) (P1 : Fld Z h0 ob o_n0 "activity" "[D" (.ref va)) (P2 : Fld Z h0 ob o_n0 "heap" "[I" (.ref vh)) (P3 : Fld Z h0 ob o_n0 "heapIndex" "[I" (.ref vx)) (P4 : Fld Z h0 ob o_n0 "bump" "D" (.double bu)) (P5 : Arv Z h0 va ka .double (3 : Int32) av (.double 0)) (P6 : Arv Z h0 vh kh .int 3 [(.int ea), (.int eb), (.int ec)] (.int 0)) (P7 : Arv Z h0 vx kx .int 3 xs (.int 0)) (P8 : n0 ≤ va) (P9 : n0 ≤ vh) (P10 : n0 ≤ vx) (P11 : ob ≠ va) (P12 : ob ≠ vh) (P13 : ob ≠ vx) (P14 : va ≠ vh) (P15 : va ≠ vx) (P16 : vh ≠ vx) (hea : o_in ea) (heb : o_in eb) (hv : o_in vv) (hxl : xs.length = 3) (hal : av.length = 3) (hxi : xs.getD vv.toNatClampNeg (.int 0) = .int 1) (hx0 : av.getD vv.toNatClampNeg (.double 0) = .double dx) (hy : FP.dadd dx bu = dy) (hyn : Jvm.Free.Fl.NoNaN64 (FP.dadd dx bu)) (hyr : FP.dcmp dy (6103021453049119613 : UInt64) = some .lt) (haw : (av.set vv.toNatClampNeg (.double dy)) = aw) (hy2 : aw.getD vv.toNatClampNeg (.double 0) = .double dy) (hda : aw.getD ea.toNatClampNeg (.double 0) = .double da) (hdb : aw.getD eb.toNatClampNeg (.double 0) = .double db) (ho : (o_bf db da eb ea) = (0 : Int32)) (hxt : (xs.set eb.toNatClampNeg (.int 1)) = xt) :
    MetFree l (⟨o_n0, "bump", "(I)V"⟩ : MethodName) (head1 (Jvm.Cond.code (⟨o_n0, "bump", "(I)V"⟩ : MethodName) prog_7_method_5_code 3 none :: ws) ({ frames := 2, cells := 0, slots := 0, locals := 29 } : Room)) (fun argz U => argz = #[(.ref ob), (.int vv)] ∧ Z.Warmed39 U.vm ∧ U.heap = h0) (fun _ _ _ _ _ => True) (fun _ U o U' => ∃ v L, o = .returned v ∧ Q6f1f Z ob vv va vh vx ka kh kx ea eb ec av xs xt bu aw dx dy da db h0 n0 v U'.heap L ∧ FrameEnd U o U' L ({ frames := 2, cells := 0, slots := 0, locals := 29 } : Room).cells ({ frames := 2, cells := 0, slots := 0, locals := 29 } : Room).slots) := by
  refine MetFree.of_bodySF (plainFor_of_name pn_com_example_gridwright_gridwright_core_ActivityOrder) hisR ?_
  intro p e s m args below meth c s₁ Bd hml0 hP hK
  obtain ⟨rfl, hZ, hh⟩ := hP
  have hx := Bd.exec
  have hby := Bd.bytes
  have hml : c.maxLocals = 3 := hml0
  have hown : s.vm.findClass o_n0 = some m.cls := findClass_of_methodNamed Bd.named
  have hnm := (name_of_methodNamed Bd.named Bd.method).1
  have X0 : Stand p l e ({ frames := 2, cells := 0, slots := 0, locals := 29 } : Room) s m #[(.ref ob), (.int vv)] below meth c s₁ [] 0 0 := Stand.of_body Bd
  have e0 : s₁.heap = h0 := by rw [← hh, Bd.state]; rfl
  have N0 := Fr.nil n0
  have K0 : Keep h0 h0 [va, vh, vx] := Keep.refl _ _
  have G : Gets p e below (s₁.setTop (entryFrame m #[(.ref ob), (.int vv)] 3)) (s₁.setTop (mkF m 0 #[.val (.ref ob), .val (.int vv), .unset] [])) := fun t k => castTop (ef_6f1f m ob vv) k
  replace G := o_aloadN (q := 1) G X0.here hx (hb hby d6_0) rfl rfl rfl
  obtain ⟨T1, X1, e1, st1⟩ := getF X0 hx hZ hown (host := "") (Or.inl (o_w hw 13 rfl)) Via.refl e0 P1 (g := o_g G) rfl rfl (hb hby d6_1)
  replace G := o_nxs (q := 4) (st := [(.ref va)]) G st1 rfl
  replace G := o_iloadN (q := 5) G X1.here hx (hb hby d6_4) rfl rfl
  replace G := o_dup2 (q := 6) G X1.here hx (hb hby d6_5) rfl rfl rfl
  obtain ⟨c2, Ar2, -, S2, -, H2, -⟩ := id P5
  have hin2 : ¬ (vv < 0 ∨ c2.slots.size ≤ (vv).toNatClampNeg) := inb_of S2 hv
  replace G := o_nxs (q := 7) (st := [(.double dx), (.int vv), (.ref va)]) G (X1.daload hx (j := vv) (v := (.double dx)) (by rw [e1]; exact Ar2.1) (State.isArrayOf_alike hZ.alike Ar2.2.1) Ar2.2.2 hin2 (Has.at H2 hin2 hx0) (g := o_g G) rfl rfl (hb hby d6_6)) rfl
  replace G := o_aloadN (q := 8) G X1.here hx (hb hby d6_7) rfl rfl rfl
  obtain ⟨T3, X3, e3, st3⟩ := getF X1 hx hZ hown (host := "") (Or.inl (o_w hw 10 rfl)) Via.refl e1 P4 (g := o_g G) rfl rfl (hb hby d6_8)
  replace G := o_nxs (q := 11) (st := [(.double bu), (.double dx), (.int vv), (.ref va)]) G st3 rfl
  replace G := o_dadd (q := 12) G X3.here hx (hb hby d6_11) hyn hy rfl
  obtain ⟨c4, Ar4, q4, S4, N4', H4, G4'⟩ := id P5
  have hin4 : ¬ (vv < 0 ∨ c4.slots.size ≤ (vv).toNatClampNeg) := inb_of S4 hv
  obtain ⟨T4, h4, X4, e4, W4, st4⟩ := stD X3 hx hZ e3 Ar4 (j := vv) hin4 (g := o_g G) rfl rfl (hb hby d6_12)
  have N4 := Fr.snoc X4 N0 P8
  have Z4 : n0 ≤ h4.size := Nat.le_trans Z0 (Keep.of_wr W4).1
  have K4 : Keep h0 h4 [va, vh, vx] := K0.wr W4 (Or.inl (List.mem_of_getElem? (i := 0) rfl))
  have V4 : Arv Z h4 va ka .double (3 : Int32) (av.set vv.toNatClampNeg (.double dy)) (.double 0) := Arv.set Ar4 q4 S4 N4' H4 G4' rfl W4 vv.toNatClampNeg rfl (by rw [hal]; exact o_cl hv)
  replace G := o_nxs (q := 13) (st := []) G st4 rfl
  have VT5 : Arv Z h4 va ka .double (3 : Int32) aw (.double 0) := by rw [← haw]; exact V4
  replace G := o_aloadN (q := 14) G X4.here hx (hb hby d6_13) rfl rfl rfl
  have F6 := (P1.other W4 (Or.inl P11))
  obtain ⟨T7, X7, e7, st7⟩ := getF X4 hx hZ hown (host := "") (Or.inl (o_w hw 13 rfl)) Via.refl e4 F6 (g := o_g G) rfl rfl (hb hby d6_14)
  replace G := o_nxs (q := 17) (st := [(.ref va)]) G st7 rfl
  replace G := o_iloadN (q := 18) G X7.here hx (hb hby d6_17) rfl rfl
  obtain ⟨c8, Ar8, -, S8, -, H8, -⟩ := id VT5
  have hin8 : ¬ (vv < 0 ∨ c8.slots.size ≤ (vv).toNatClampNeg) := inb_of S8 hv
  replace G := o_nxs (q := 19) (st := [(.double dy)]) G (X7.daload hx (j := vv) (v := (.double dy)) (by rw [e7]; exact Ar8.1) (State.isArrayOf_alike hZ.alike Ar8.2.1) Ar8.2.2 hin8 (Has.at H8 hin8 hy2) (g := o_g G) rfl rfl (hb hby d6_18)) rfl
  replace G := o_nxs (q := 22) (st := [(.double 6103021453049119613), (.double dy)]) G (X7.ldc2DoubleC hx hown (mvT hZ (o_w hw 40 rfl)) (g := o_g G) rfl (hb hby d6_19)) rfl
  replace G := o_dcmp (q := 23) G X7.here hx (hb hby d6_22) (by rw [hyr] <;> rfl) rfl
  replace G := o_ifYes (q := 67) G X7.here hx (hb hby d6_23) (by decide) (by decide) (by decide)
  replace G := o_aloadN (q := 68) G X7.here hx (hb hby d6_67) rfl rfl rfl
  have F10 := (P3.other W4 (Or.inl P11))
  obtain ⟨T11, X11, e11, st11⟩ := getF X7 hx hZ hown (host := "") (Or.inl (o_w hw 18 rfl)) Via.refl e7 F10 (g := o_g G) rfl rfl (hb hby d6_68)
  replace G := o_nxs (q := 71) (st := [(.ref vx)]) G st11 rfl
  replace G := o_iloadN (q := 72) G X11.here hx (hb hby d6_71) rfl rfl
  have F12 := (P7.other W4 (Ne.symm P15))
  obtain ⟨c13, Ar13, -, S13, -, H13, -⟩ := id F12
  have hin13 : ¬ (vv < 0 ∨ c13.slots.size ≤ (vv).toNatClampNeg) := inb_of S13 hv
  replace G := o_nxs (q := 73) (st := [(.int 1)]) G (X11.iaload hx (j := vv) (v := (.int 1)) (by rw [e11]; exact Ar13.1) (State.isArrayOf_alike hZ.alike Ar13.2.1) Ar13.2.2 hin13 (Has.at H13 hin13 hxi) (g := o_g G) rfl rfl (hb hby d6_72)) rfl
  replace G := o_ifNo (q := 76) G X11.here hx (hb hby d6_73) (by decide) rfl
  replace G := o_aloadN (q := 77) G X11.here hx (hb hby d6_76) rfl rfl rfl
  replace G := o_aloadN (q := 78) G X11.here hx (hb hby d6_77) rfl rfl rfl
  obtain ⟨T15, X15, e15, st15⟩ := getF X11 hx hZ hown (host := "") (Or.inl (o_w hw 18 rfl)) Via.refl e11 F10 (g := o_g G) rfl rfl (hb hby d6_78)
  replace G := o_nxs (q := 81) (st := [(.ref vx), (.ref ob)]) G st15 rfl
  replace G := o_iloadN (q := 82) G X15.here hx (hb hby d6_81) rfl rfl
  obtain ⟨c16, Ar16, -, S16, -, H16, -⟩ := id F12
  have hin16 : ¬ (vv < 0 ∨ c16.slots.size ≤ (vv).toNatClampNeg) := inb_of S16 hv
  replace G := o_nxs (q := 83) (st := [(.int 1), (.ref ob)]) G (X15.iaload hx (j := vv) (v := (.int 1)) (by rw [e15]; exact Ar16.1) (State.isArrayOf_alike hZ.alike Ar16.2.1) Ar16.2.2 hin16 (Has.at H16 hin16 hxi) (g := o_g G) rfl rfl (hb hby d6_82)) rfl
  have F18 := (P0.wr W4)
  have F19 := (P2.other W4 (Or.inl P11))
  have F20 := (P6.other W4 (Ne.symm P14))
  obtain ⟨cq17, q17, q17'⟩ := F18.cell
  obtain ⟨_, _, ⟨T17, L17, kk17, nn17⟩, -, X17, ⟨Lc17, hQ17, l17, y17, z17⟩, st17⟩ := X15.privateBack hx (y := (⟨o_n0, "siftUp", "(I)V"⟩ : MethodName)) hown (mvT hZ (o_w hw 27 rfl)) (mvT hZ (o_w hw 28 rfl)) (o_sel (z := (⟨o_n0, "add", "(I)V"⟩ : MethodName)) rfl (mvT hZ (o_w hw 22 rfl)) (mvT hZ (o_w hw 23 rfl)) (mvT hZ (o_w hw 28 rfl)) (Cond.privateMethod_at (mvP hZ (o_w hw 29 rfl) (args := #[]))) (by decide)) (Cond.privateMethod_at (mvP hZ (o_w hw 29 rfl) (args := #[]))) (mvT hZ (o_w hw 30 rfl)) (by decide) (backOf (W := 0) (rm4f1f l Z a0 hw [] ob va vh vx ka kh kx ea eb ec aw xs xt da db h4 n0 Z4 F18 F6 F19 F10 VT5 F20 F12 P9 P10 P11 P12 P13 P14 P15 P16 (by assumption) (by assumption) hxl (by assumption) (by assumption) (by assumption) hxt) hZ (o_w hw 30 rfl) (o_w hw 3 rfl) (by decide) (by decide)) (g := o_g G) rfl (by rw [hml]; rfl) (Steps.refl _) (a := ob) (by rw [e15]; exact q17) q17' (argsL := [(.int 1)]) (rest := []) (lenOf pd_1 rfl) rfl (by show 2 * 0 + _ ≤ _; exact Nat.le_of_eq rfl) (hb hby d6_83) (fun _ _ => ⟨rfl, e15, (by decide : 0 + 0 ≤ _), (by decide : 0 + 0 ≤ _)⟩)
  dsimp only [Pt.U, Pt.locs, Pt.cells, Pt.slots] at X17 l17 y17 z17 st17 hQ17
  subst l17 y17 z17
  obtain ⟨rfl, N17q, K17q, B17_0, B17_1⟩ := hQ17
  have Z17 : n0 ≤ T17.heap.size := Nat.le_trans Z4 K17q.1
  have K17 : Keep h0 T17.heap [va, vh, vx] := K4.trans K17q (allS (Or.inl (List.mem_of_getElem? (i := 1) rfl)) (allS (Or.inl (List.mem_of_getElem? (i := 2) rfl)) all0))
  have N17 := Fr.app N4 N17q
  replace G := o_nxv (q := 86) (st := []) G st17 rfl
  obtain ⟨fs, hr, hrun, hended, hW, hsame⟩ := X17.leave (v := none) (fun _ => rfl)
  refine ⟨_, _, G _ (X17.returnOut hx Bd.returns (hb hby d6_86) hr), hrun, hended, _, _, rfl, ?_, ⟨_, rfl⟩, hW, hsame.mono (by decide) (by decide)⟩
  have F21 := (VT5.keep K17q (ninS P14 (ninS P15 nin0)))
  show Q6f1f Z ob vv va vh vx ka kh kx ea eb ec av xs xt bu aw dx dy da db h0 n0 _ T17.heap _
  exact ⟨rfl, N17, K17, F21, B17_0, B17_1⟩
theorem ef_6f1t (m : MethodId) (x0 : Addr) (x1 : Int32) : entryFrame m #[(.ref x0), (.int x1)] 3 = mkF m 0 #[.val (.ref x0), .val (.int x1), .unset] [] := by first | (simp [entryFrame, mkF, argsToLocals, Value.category]; done) | rfl
def Q6f1t (Z : State) (ob : Addr) (vv : Int32) (va : Addr) (vh : Addr) (vx : Addr) (ka : ClassId) (kh : ClassId) (kx : ClassId) (ea : Int32) (eb : Int32) (ec : Int32) (av : List Value) (xs : List Value) (xt : List Value) (bu : UInt64) (aw : List Value) (dx : UInt64) (dy : UInt64) (da : UInt64) (db : UInt64) (h0 : Heap) (n0 : Nat) (v : Option Value) (h : Heap) (L : List Loc) : Prop := v = none ∧ Fr n0 L ∧ Keep h0 h [va, vh, vx] ∧ (Arv Z h va ka .double (3 : Int32) aw (.double 0)) ∧ (Arv Z h vh kh .int 3 [(.int eb), (.int ea), (.int ec)] (.int 0)) ∧ (Arv Z h vx kx .int 3 xt (.int 0))
set_option maxRecDepth 65536 in
set_option maxHeartbeats 40000000 in
theorem rm6f1t (l : Launch) (Z : State) (a0 : Array Value) (hw : ∀ d ∈ tables_1, d.before a0 Z = true) (ws : List Jvm.Cond) (ob : Addr) (vv : Int32) (va : Addr) (vh : Addr) (vx : Addr) (ka : ClassId) (kh : ClassId) (kx : ClassId) (ea : Int32) (eb : Int32) (ec : Int32) (av : List Value) (xs : List Value) (xt : List Value) (bu : UInt64) (aw : List Value) (dx : UInt64) (dy : UInt64) (da : UInt64) (db : UInt64) (h0 : Heap) (n0 : Nat) (Z0 : n0 ≤ h0.size) (P0 : Exa Z h0 ob o_n0) (P1 : Fld Z h0 ob o_n0 "activity" "[D" (.ref va)) (P2 : Fld Z h0 ob o_n0 "heap" "[I" (.ref vh)) (P3 : Fld Z h0 ob o_n0 "heapIndex" "[I" (.ref vx)) (P4 : Fld Z h0 ob o_n0 "bump" "D" (.double bu)) (P5 : Arv Z h0 va ka .double (3 : Int32) av (.double 0)) (P6 : Arv Z h0 vh kh .int 3 [(.int ea), (.int eb), (.int ec)] (.int 0)) (P7 : Arv Z h0 vx kx .int 3 xs (.int 0)) (P8 : n0 ≤ va) (P9 : n0 ≤ vh) (P10 : n0 ≤ vx) (P11 : ob ≠ va) (P12 : ob ≠ vh) (P13 : ob ≠ vx) (P14 : va ≠ vh) (P15 : va ≠ vx) (P16 : vh ≠ vx) (hea : o_in ea) (heb : o_in eb) (hv : o_in vv) (hxl : xs.length = 3) (hal : av.length = 3) (hxi : xs.getD vv.toNatClampNeg (.int 0) = .int 1) (hx0 : av.getD vv.toNatClampNeg (.double 0) = .double dx) (hy : FP.dadd dx bu = dy) (hyn : Jvm.Free.Fl.NoNaN64 (FP.dadd dx bu)) (hyr : FP.dcmp dy (6103021453049119613 : UInt64) = some .lt) (haw : (av.set vv.toNatClampNeg (.double dy)) = aw) (hy2 : aw.getD vv.toNatClampNeg (.double 0) = .double dy) (hda : aw.getD ea.toNatClampNeg (.double 0) = .double da) (hdb : aw.getD eb.toNatClampNeg (.double 0) = .double db) (ho : ¬ (o_bf db da eb ea) = (0 : Int32)) (hxt : ((xs.set ea.toNatClampNeg (.int 1)).set eb.toNatClampNeg (.int 0)) = xt) :
    MetFree l (⟨o_n0, "bump", "(I)V"⟩ : MethodName) (head1 (Jvm.Cond.code (⟨o_n0, "bump", "(I)V"⟩ : MethodName) prog_7_method_5_code 3 none :: ws) ({ frames := 2, cells := 0, slots := 0, locals := 29 } : Room)) (fun argz U => argz = #[(.ref ob), (.int vv)] ∧ Z.Warmed39 U.vm ∧ U.heap = h0) (fun _ _ _ _ _ => True) (fun _ U o U' => ∃ v L, o = .returned v ∧ Q6f1t Z ob vv va vh vx ka kh kx ea eb ec av xs xt bu aw dx dy da db h0 n0 v U'.heap L ∧ FrameEnd U o U' L ({ frames := 2, cells := 0, slots := 0, locals := 29 } : Room).cells ({ frames := 2, cells := 0, slots := 0, locals := 29 } : Room).slots) := by
  refine MetFree.of_bodySF (plainFor_of_name pn_com_example_gridwright_gridwright_core_ActivityOrder) hisR ?_
  intro p e s m args below meth c s₁ Bd hml0 hP hK
  obtain ⟨rfl, hZ, hh⟩ := hP
  have hx := Bd.exec
  have hby := Bd.bytes
  have hml : c.maxLocals = 3 := hml0
  have hown : s.vm.findClass o_n0 = some m.cls := findClass_of_methodNamed Bd.named
  have hnm := (name_of_methodNamed Bd.named Bd.method).1
  have X0 : Stand p l e ({ frames := 2, cells := 0, slots := 0, locals := 29 } : Room) s m #[(.ref ob), (.int vv)] below meth c s₁ [] 0 0 := Stand.of_body Bd
  have e0 : s₁.heap = h0 := by rw [← hh, Bd.state]; rfl
  have N0 := Fr.nil n0
  have K0 : Keep h0 h0 [va, vh, vx] := Keep.refl _ _
  have G : Gets p e below (s₁.setTop (entryFrame m #[(.ref ob), (.int vv)] 3)) (s₁.setTop (mkF m 0 #[.val (.ref ob), .val (.int vv), .unset] [])) := fun t k => castTop (ef_6f1t m ob vv) k
  replace G := o_aloadN (q := 1) G X0.here hx (hb hby d6_0) rfl rfl rfl
  obtain ⟨T1, X1, e1, st1⟩ := getF X0 hx hZ hown (host := "") (Or.inl (o_w hw 13 rfl)) Via.refl e0 P1 (g := o_g G) rfl rfl (hb hby d6_1)
  replace G := o_nxs (q := 4) (st := [(.ref va)]) G st1 rfl
  replace G := o_iloadN (q := 5) G X1.here hx (hb hby d6_4) rfl rfl
  replace G := o_dup2 (q := 6) G X1.here hx (hb hby d6_5) rfl rfl rfl
  obtain ⟨c2, Ar2, -, S2, -, H2, -⟩ := id P5
  have hin2 : ¬ (vv < 0 ∨ c2.slots.size ≤ (vv).toNatClampNeg) := inb_of S2 hv
  replace G := o_nxs (q := 7) (st := [(.double dx), (.int vv), (.ref va)]) G (X1.daload hx (j := vv) (v := (.double dx)) (by rw [e1]; exact Ar2.1) (State.isArrayOf_alike hZ.alike Ar2.2.1) Ar2.2.2 hin2 (Has.at H2 hin2 hx0) (g := o_g G) rfl rfl (hb hby d6_6)) rfl
  replace G := o_aloadN (q := 8) G X1.here hx (hb hby d6_7) rfl rfl rfl
  obtain ⟨T3, X3, e3, st3⟩ := getF X1 hx hZ hown (host := "") (Or.inl (o_w hw 10 rfl)) Via.refl e1 P4 (g := o_g G) rfl rfl (hb hby d6_8)
  replace G := o_nxs (q := 11) (st := [(.double bu), (.double dx), (.int vv), (.ref va)]) G st3 rfl
  replace G := o_dadd (q := 12) G X3.here hx (hb hby d6_11) hyn hy rfl
  obtain ⟨c4, Ar4, q4, S4, N4', H4, G4'⟩ := id P5
  have hin4 : ¬ (vv < 0 ∨ c4.slots.size ≤ (vv).toNatClampNeg) := inb_of S4 hv
  obtain ⟨T4, h4, X4, e4, W4, st4⟩ := stD X3 hx hZ e3 Ar4 (j := vv) hin4 (g := o_g G) rfl rfl (hb hby d6_12)
  have N4 := Fr.snoc X4 N0 P8
  have Z4 : n0 ≤ h4.size := Nat.le_trans Z0 (Keep.of_wr W4).1
  have K4 : Keep h0 h4 [va, vh, vx] := K0.wr W4 (Or.inl (List.mem_of_getElem? (i := 0) rfl))
  have V4 : Arv Z h4 va ka .double (3 : Int32) (av.set vv.toNatClampNeg (.double dy)) (.double 0) := Arv.set Ar4 q4 S4 N4' H4 G4' rfl W4 vv.toNatClampNeg rfl (by rw [hal]; exact o_cl hv)
  replace G := o_nxs (q := 13) (st := []) G st4 rfl
  have VT5 : Arv Z h4 va ka .double (3 : Int32) aw (.double 0) := by rw [← haw]; exact V4
  replace G := o_aloadN (q := 14) G X4.here hx (hb hby d6_13) rfl rfl rfl
  have F6 := (P1.other W4 (Or.inl P11))
  obtain ⟨T7, X7, e7, st7⟩ := getF X4 hx hZ hown (host := "") (Or.inl (o_w hw 13 rfl)) Via.refl e4 F6 (g := o_g G) rfl rfl (hb hby d6_14)
  replace G := o_nxs (q := 17) (st := [(.ref va)]) G st7 rfl
  replace G := o_iloadN (q := 18) G X7.here hx (hb hby d6_17) rfl rfl
  obtain ⟨c8, Ar8, -, S8, -, H8, -⟩ := id VT5
  have hin8 : ¬ (vv < 0 ∨ c8.slots.size ≤ (vv).toNatClampNeg) := inb_of S8 hv
  replace G := o_nxs (q := 19) (st := [(.double dy)]) G (X7.daload hx (j := vv) (v := (.double dy)) (by rw [e7]; exact Ar8.1) (State.isArrayOf_alike hZ.alike Ar8.2.1) Ar8.2.2 hin8 (Has.at H8 hin8 hy2) (g := o_g G) rfl rfl (hb hby d6_18)) rfl
  replace G := o_nxs (q := 22) (st := [(.double 6103021453049119613), (.double dy)]) G (X7.ldc2DoubleC hx hown (mvT hZ (o_w hw 40 rfl)) (g := o_g G) rfl (hb hby d6_19)) rfl
  replace G := o_dcmp (q := 23) G X7.here hx (hb hby d6_22) (by rw [hyr] <;> rfl) rfl
  replace G := o_ifYes (q := 67) G X7.here hx (hb hby d6_23) (by decide) (by decide) (by decide)
  replace G := o_aloadN (q := 68) G X7.here hx (hb hby d6_67) rfl rfl rfl
  have F10 := (P3.other W4 (Or.inl P11))
  obtain ⟨T11, X11, e11, st11⟩ := getF X7 hx hZ hown (host := "") (Or.inl (o_w hw 18 rfl)) Via.refl e7 F10 (g := o_g G) rfl rfl (hb hby d6_68)
  replace G := o_nxs (q := 71) (st := [(.ref vx)]) G st11 rfl
  replace G := o_iloadN (q := 72) G X11.here hx (hb hby d6_71) rfl rfl
  have F12 := (P7.other W4 (Ne.symm P15))
  obtain ⟨c13, Ar13, -, S13, -, H13, -⟩ := id F12
  have hin13 : ¬ (vv < 0 ∨ c13.slots.size ≤ (vv).toNatClampNeg) := inb_of S13 hv
  replace G := o_nxs (q := 73) (st := [(.int 1)]) G (X11.iaload hx (j := vv) (v := (.int 1)) (by rw [e11]; exact Ar13.1) (State.isArrayOf_alike hZ.alike Ar13.2.1) Ar13.2.2 hin13 (Has.at H13 hin13 hxi) (g := o_g G) rfl rfl (hb hby d6_72)) rfl
  replace G := o_ifNo (q := 76) G X11.here hx (hb hby d6_73) (by decide) rfl
  replace G := o_aloadN (q := 77) G X11.here hx (hb hby d6_76) rfl rfl rfl
  replace G := o_aloadN (q := 78) G X11.here hx (hb hby d6_77) rfl rfl rfl
  obtain ⟨T15, X15, e15, st15⟩ := getF X11 hx hZ hown (host := "") (Or.inl (o_w hw 18 rfl)) Via.refl e11 F10 (g := o_g G) rfl rfl (hb hby d6_78)
  replace G := o_nxs (q := 81) (st := [(.ref vx), (.ref ob)]) G st15 rfl
  replace G := o_iloadN (q := 82) G X15.here hx (hb hby d6_81) rfl rfl
  obtain ⟨c16, Ar16, -, S16, -, H16, -⟩ := id F12
  have hin16 : ¬ (vv < 0 ∨ c16.slots.size ≤ (vv).toNatClampNeg) := inb_of S16 hv
  replace G := o_nxs (q := 83) (st := [(.int 1), (.ref ob)]) G (X15.iaload hx (j := vv) (v := (.int 1)) (by rw [e15]; exact Ar16.1) (State.isArrayOf_alike hZ.alike Ar16.2.1) Ar16.2.2 hin16 (Has.at H16 hin16 hxi) (g := o_g G) rfl rfl (hb hby d6_82)) rfl
  have F18 := (P0.wr W4)
  have F19 := (P2.other W4 (Or.inl P11))
  have F20 := (P6.other W4 (Ne.symm P14))
  obtain ⟨cq17, q17, q17'⟩ := F18.cell
  obtain ⟨_, _, ⟨T17, L17, kk17, nn17⟩, -, X17, ⟨Lc17, hQ17, l17, y17, z17⟩, st17⟩ := X15.privateBack hx (y := (⟨o_n0, "siftUp", "(I)V"⟩ : MethodName)) hown (mvT hZ (o_w hw 27 rfl)) (mvT hZ (o_w hw 28 rfl)) (o_sel (z := (⟨o_n0, "add", "(I)V"⟩ : MethodName)) rfl (mvT hZ (o_w hw 22 rfl)) (mvT hZ (o_w hw 23 rfl)) (mvT hZ (o_w hw 28 rfl)) (Cond.privateMethod_at (mvP hZ (o_w hw 29 rfl) (args := #[]))) (by decide)) (Cond.privateMethod_at (mvP hZ (o_w hw 29 rfl) (args := #[]))) (mvT hZ (o_w hw 30 rfl)) (by decide) (backOf (W := 0) (rm4f1t l Z a0 hw [] ob va vh vx ka kh kx ea eb ec aw xs xt da db h4 n0 Z4 F18 F6 F19 F10 VT5 F20 F12 P9 P10 P11 P12 P13 P14 P15 P16 (by assumption) (by assumption) hxl (by assumption) (by assumption) (by assumption) hxt) hZ (o_w hw 30 rfl) (o_w hw 3 rfl) (by decide) (by decide)) (g := o_g G) rfl (by rw [hml]; rfl) (Steps.refl _) (a := ob) (by rw [e15]; exact q17) q17' (argsL := [(.int 1)]) (rest := []) (lenOf pd_1 rfl) rfl (by show 2 * 0 + _ ≤ _; exact Nat.le_of_eq rfl) (hb hby d6_83) (fun _ _ => ⟨rfl, e15, (by decide : 0 + 0 ≤ _), (by decide : 0 + 0 ≤ _)⟩)
  dsimp only [Pt.U, Pt.locs, Pt.cells, Pt.slots] at X17 l17 y17 z17 st17 hQ17
  subst l17 y17 z17
  obtain ⟨rfl, N17q, K17q, B17_0, B17_1⟩ := hQ17
  have Z17 : n0 ≤ T17.heap.size := Nat.le_trans Z4 K17q.1
  have K17 : Keep h0 T17.heap [va, vh, vx] := K4.trans K17q (allS (Or.inl (List.mem_of_getElem? (i := 1) rfl)) (allS (Or.inl (List.mem_of_getElem? (i := 2) rfl)) all0))
  have N17 := Fr.app N4 N17q
  replace G := o_nxv (q := 86) (st := []) G st17 rfl
  obtain ⟨fs, hr, hrun, hended, hW, hsame⟩ := X17.leave (v := none) (fun _ => rfl)
  refine ⟨_, _, G _ (X17.returnOut hx Bd.returns (hb hby d6_86) hr), hrun, hended, _, _, rfl, ?_, ⟨_, rfl⟩, hW, hsame.mono (by decide) (by decide)⟩
  have F21 := (VT5.keep K17q (ninS P14 (ninS P15 nin0)))
  show Q6f1t Z ob vv va vh vx ka kh kx ea eb ec av xs xt bu aw dx dy da db h0 n0 _ T17.heap _
  exact ⟨rfl, N17, K17, F21, B17_0, B17_1⟩
theorem ef_6f2f (m : MethodId) (x0 : Addr) (x1 : Int32) : entryFrame m #[(.ref x0), (.int x1)] 3 = mkF m 0 #[.val (.ref x0), .val (.int x1), .unset] [] := by first | (simp [entryFrame, mkF, argsToLocals, Value.category]; done) | rfl
def Q6f2f (Z : State) (ob : Addr) (vv : Int32) (va : Addr) (vh : Addr) (vx : Addr) (ka : ClassId) (kh : ClassId) (kx : ClassId) (ea : Int32) (eb : Int32) (ec : Int32) (av : List Value) (xs : List Value) (xt : List Value) (bu : UInt64) (aw : List Value) (dx : UInt64) (dy : UInt64) (da : UInt64) (dc : UInt64) (h0 : Heap) (n0 : Nat) (v : Option Value) (h : Heap) (L : List Loc) : Prop := v = none ∧ Fr n0 L ∧ Keep h0 h [va, vh, vx] ∧ (Arv Z h va ka .double (3 : Int32) aw (.double 0)) ∧ (Arv Z h vh kh .int 3 [(.int ea), (.int eb), (.int ec)] (.int 0)) ∧ (Arv Z h vx kx .int 3 xt (.int 0))
set_option maxRecDepth 65536 in
set_option maxHeartbeats 40000000 in
theorem rm6f2f (l : Launch) (Z : State) (a0 : Array Value) (hw : ∀ d ∈ tables_1, d.before a0 Z = true) (ws : List Jvm.Cond) (ob : Addr) (vv : Int32) (va : Addr) (vh : Addr) (vx : Addr) (ka : ClassId) (kh : ClassId) (kx : ClassId) (ea : Int32) (eb : Int32) (ec : Int32) (av : List Value) (xs : List Value) (xt : List Value) (bu : UInt64) (aw : List Value) (dx : UInt64) (dy : UInt64) (da : UInt64) (dc : UInt64) (h0 : Heap) (n0 : Nat) (Z0 : n0 ≤ h0.size) (P0 : Exa Z h0 ob o_n0) (P1 : Fld Z h0 ob o_n0 "activity" "[D" (.ref va)) (P2 : Fld Z h0 ob o_n0 "heap" "[I" (.ref vh)) (P3 : Fld Z h0 ob o_n0 "heapIndex" "[I" (.ref vx)) (P4 : Fld Z h0 ob o_n0 "bump" "D" (.double bu)) (P5 : Arv Z h0 va ka .double (3 : Int32) av (.double 0)) (P6 : Arv Z h0 vh kh .int 3 [(.int ea), (.int eb), (.int ec)] (.int 0)) (P7 : Arv Z h0 vx kx .int 3 xs (.int 0)) (P8 : n0 ≤ va) (P9 : n0 ≤ vh) (P10 : n0 ≤ vx) (P11 : ob ≠ va) (P12 : ob ≠ vh) (P13 : ob ≠ vx) (P14 : va ≠ vh) (P15 : va ≠ vx) (P16 : vh ≠ vx) (hea : o_in ea) (hec : o_in ec) (hv : o_in vv) (hxl : xs.length = 3) (hal : av.length = 3) (hxi : xs.getD vv.toNatClampNeg (.int 0) = .int 2) (hx0 : av.getD vv.toNatClampNeg (.double 0) = .double dx) (hy : FP.dadd dx bu = dy) (hyn : Jvm.Free.Fl.NoNaN64 (FP.dadd dx bu)) (hyr : FP.dcmp dy (6103021453049119613 : UInt64) = some .lt) (haw : (av.set vv.toNatClampNeg (.double dy)) = aw) (hy2 : aw.getD vv.toNatClampNeg (.double 0) = .double dy) (hda : aw.getD ea.toNatClampNeg (.double 0) = .double da) (hdc : aw.getD ec.toNatClampNeg (.double 0) = .double dc) (ho : (o_bf dc da ec ea) = (0 : Int32)) (hxt : (xs.set ec.toNatClampNeg (.int 2)) = xt) :
    MetFree l (⟨o_n0, "bump", "(I)V"⟩ : MethodName) (head1 (Jvm.Cond.code (⟨o_n0, "bump", "(I)V"⟩ : MethodName) prog_7_method_5_code 3 none :: ws) ({ frames := 2, cells := 0, slots := 0, locals := 29 } : Room)) (fun argz U => argz = #[(.ref ob), (.int vv)] ∧ Z.Warmed39 U.vm ∧ U.heap = h0) (fun _ _ _ _ _ => True) (fun _ U o U' => ∃ v L, o = .returned v ∧ Q6f2f Z ob vv va vh vx ka kh kx ea eb ec av xs xt bu aw dx dy da dc h0 n0 v U'.heap L ∧ FrameEnd U o U' L ({ frames := 2, cells := 0, slots := 0, locals := 29 } : Room).cells ({ frames := 2, cells := 0, slots := 0, locals := 29 } : Room).slots) := by
  refine MetFree.of_bodySF (plainFor_of_name pn_com_example_gridwright_gridwright_core_ActivityOrder) hisR ?_
  intro p e s m args below meth c s₁ Bd hml0 hP hK
  obtain ⟨rfl, hZ, hh⟩ := hP
  have hx := Bd.exec
  have hby := Bd.bytes
  have hml : c.maxLocals = 3 := hml0
  have hown : s.vm.findClass o_n0 = some m.cls := findClass_of_methodNamed Bd.named
  have hnm := (name_of_methodNamed Bd.named Bd.method).1
  have X0 : Stand p l e ({ frames := 2, cells := 0, slots := 0, locals := 29 } : Room) s m #[(.ref ob), (.int vv)] below meth c s₁ [] 0 0 := Stand.of_body Bd
  have e0 : s₁.heap = h0 := by rw [← hh, Bd.state]; rfl
  have N0 := Fr.nil n0
  have K0 : Keep h0 h0 [va, vh, vx] := Keep.refl _ _
  have G : Gets p e below (s₁.setTop (entryFrame m #[(.ref ob), (.int vv)] 3)) (s₁.setTop (mkF m 0 #[.val (.ref ob), .val (.int vv), .unset] [])) := fun t k => castTop (ef_6f2f m ob vv) k
  replace G := o_aloadN (q := 1) G X0.here hx (hb hby d6_0) rfl rfl rfl
  obtain ⟨T1, X1, e1, st1⟩ := getF X0 hx hZ hown (host := "") (Or.inl (o_w hw 13 rfl)) Via.refl e0 P1 (g := o_g G) rfl rfl (hb hby d6_1)
  replace G := o_nxs (q := 4) (st := [(.ref va)]) G st1 rfl
  replace G := o_iloadN (q := 5) G X1.here hx (hb hby d6_4) rfl rfl
  replace G := o_dup2 (q := 6) G X1.here hx (hb hby d6_5) rfl rfl rfl
  obtain ⟨c2, Ar2, -, S2, -, H2, -⟩ := id P5
  have hin2 : ¬ (vv < 0 ∨ c2.slots.size ≤ (vv).toNatClampNeg) := inb_of S2 hv
  replace G := o_nxs (q := 7) (st := [(.double dx), (.int vv), (.ref va)]) G (X1.daload hx (j := vv) (v := (.double dx)) (by rw [e1]; exact Ar2.1) (State.isArrayOf_alike hZ.alike Ar2.2.1) Ar2.2.2 hin2 (Has.at H2 hin2 hx0) (g := o_g G) rfl rfl (hb hby d6_6)) rfl
  replace G := o_aloadN (q := 8) G X1.here hx (hb hby d6_7) rfl rfl rfl
  obtain ⟨T3, X3, e3, st3⟩ := getF X1 hx hZ hown (host := "") (Or.inl (o_w hw 10 rfl)) Via.refl e1 P4 (g := o_g G) rfl rfl (hb hby d6_8)
  replace G := o_nxs (q := 11) (st := [(.double bu), (.double dx), (.int vv), (.ref va)]) G st3 rfl
  replace G := o_dadd (q := 12) G X3.here hx (hb hby d6_11) hyn hy rfl
  obtain ⟨c4, Ar4, q4, S4, N4', H4, G4'⟩ := id P5
  have hin4 : ¬ (vv < 0 ∨ c4.slots.size ≤ (vv).toNatClampNeg) := inb_of S4 hv
  obtain ⟨T4, h4, X4, e4, W4, st4⟩ := stD X3 hx hZ e3 Ar4 (j := vv) hin4 (g := o_g G) rfl rfl (hb hby d6_12)
  have N4 := Fr.snoc X4 N0 P8
  have Z4 : n0 ≤ h4.size := Nat.le_trans Z0 (Keep.of_wr W4).1
  have K4 : Keep h0 h4 [va, vh, vx] := K0.wr W4 (Or.inl (List.mem_of_getElem? (i := 0) rfl))
  have V4 : Arv Z h4 va ka .double (3 : Int32) (av.set vv.toNatClampNeg (.double dy)) (.double 0) := Arv.set Ar4 q4 S4 N4' H4 G4' rfl W4 vv.toNatClampNeg rfl (by rw [hal]; exact o_cl hv)
  replace G := o_nxs (q := 13) (st := []) G st4 rfl
  have VT5 : Arv Z h4 va ka .double (3 : Int32) aw (.double 0) := by rw [← haw]; exact V4
  replace G := o_aloadN (q := 14) G X4.here hx (hb hby d6_13) rfl rfl rfl
  have F6 := (P1.other W4 (Or.inl P11))
  obtain ⟨T7, X7, e7, st7⟩ := getF X4 hx hZ hown (host := "") (Or.inl (o_w hw 13 rfl)) Via.refl e4 F6 (g := o_g G) rfl rfl (hb hby d6_14)
  replace G := o_nxs (q := 17) (st := [(.ref va)]) G st7 rfl
  replace G := o_iloadN (q := 18) G X7.here hx (hb hby d6_17) rfl rfl
  obtain ⟨c8, Ar8, -, S8, -, H8, -⟩ := id VT5
  have hin8 : ¬ (vv < 0 ∨ c8.slots.size ≤ (vv).toNatClampNeg) := inb_of S8 hv
  replace G := o_nxs (q := 19) (st := [(.double dy)]) G (X7.daload hx (j := vv) (v := (.double dy)) (by rw [e7]; exact Ar8.1) (State.isArrayOf_alike hZ.alike Ar8.2.1) Ar8.2.2 hin8 (Has.at H8 hin8 hy2) (g := o_g G) rfl rfl (hb hby d6_18)) rfl
  replace G := o_nxs (q := 22) (st := [(.double 6103021453049119613), (.double dy)]) G (X7.ldc2DoubleC hx hown (mvT hZ (o_w hw 40 rfl)) (g := o_g G) rfl (hb hby d6_19)) rfl
  replace G := o_dcmp (q := 23) G X7.here hx (hb hby d6_22) (by rw [hyr] <;> rfl) rfl
  replace G := o_ifYes (q := 67) G X7.here hx (hb hby d6_23) (by decide) (by decide) (by decide)
  replace G := o_aloadN (q := 68) G X7.here hx (hb hby d6_67) rfl rfl rfl
  have F10 := (P3.other W4 (Or.inl P11))
  obtain ⟨T11, X11, e11, st11⟩ := getF X7 hx hZ hown (host := "") (Or.inl (o_w hw 18 rfl)) Via.refl e7 F10 (g := o_g G) rfl rfl (hb hby d6_68)
  replace G := o_nxs (q := 71) (st := [(.ref vx)]) G st11 rfl
  replace G := o_iloadN (q := 72) G X11.here hx (hb hby d6_71) rfl rfl
  have F12 := (P7.other W4 (Ne.symm P15))
  obtain ⟨c13, Ar13, -, S13, -, H13, -⟩ := id F12
  have hin13 : ¬ (vv < 0 ∨ c13.slots.size ≤ (vv).toNatClampNeg) := inb_of S13 hv
  replace G := o_nxs (q := 73) (st := [(.int 2)]) G (X11.iaload hx (j := vv) (v := (.int 2)) (by rw [e11]; exact Ar13.1) (State.isArrayOf_alike hZ.alike Ar13.2.1) Ar13.2.2 hin13 (Has.at H13 hin13 hxi) (g := o_g G) rfl rfl (hb hby d6_72)) rfl
  replace G := o_ifNo (q := 76) G X11.here hx (hb hby d6_73) (by decide) rfl
  replace G := o_aloadN (q := 77) G X11.here hx (hb hby d6_76) rfl rfl rfl
  replace G := o_aloadN (q := 78) G X11.here hx (hb hby d6_77) rfl rfl rfl
  obtain ⟨T15, X15, e15, st15⟩ := getF X11 hx hZ hown (host := "") (Or.inl (o_w hw 18 rfl)) Via.refl e11 F10 (g := o_g G) rfl rfl (hb hby d6_78)
  replace G := o_nxs (q := 81) (st := [(.ref vx), (.ref ob)]) G st15 rfl
  replace G := o_iloadN (q := 82) G X15.here hx (hb hby d6_81) rfl rfl
  obtain ⟨c16, Ar16, -, S16, -, H16, -⟩ := id F12
  have hin16 : ¬ (vv < 0 ∨ c16.slots.size ≤ (vv).toNatClampNeg) := inb_of S16 hv
  replace G := o_nxs (q := 83) (st := [(.int 2), (.ref ob)]) G (X15.iaload hx (j := vv) (v := (.int 2)) (by rw [e15]; exact Ar16.1) (State.isArrayOf_alike hZ.alike Ar16.2.1) Ar16.2.2 hin16 (Has.at H16 hin16 hxi) (g := o_g G) rfl rfl (hb hby d6_82)) rfl
  have F18 := (P0.wr W4)
  have F19 := (P2.other W4 (Or.inl P11))
  have F20 := (P6.other W4 (Ne.symm P14))
  obtain ⟨cq17, q17, q17'⟩ := F18.cell
  obtain ⟨_, _, ⟨T17, L17, kk17, nn17⟩, -, X17, ⟨Lc17, hQ17, l17, y17, z17⟩, st17⟩ := X15.privateBack hx (y := (⟨o_n0, "siftUp", "(I)V"⟩ : MethodName)) hown (mvT hZ (o_w hw 27 rfl)) (mvT hZ (o_w hw 28 rfl)) (o_sel (z := (⟨o_n0, "add", "(I)V"⟩ : MethodName)) rfl (mvT hZ (o_w hw 22 rfl)) (mvT hZ (o_w hw 23 rfl)) (mvT hZ (o_w hw 28 rfl)) (Cond.privateMethod_at (mvP hZ (o_w hw 29 rfl) (args := #[]))) (by decide)) (Cond.privateMethod_at (mvP hZ (o_w hw 29 rfl) (args := #[]))) (mvT hZ (o_w hw 30 rfl)) (by decide) (backOf (W := 0) (rm4f2f l Z a0 hw [] ob va vh vx ka kh kx ea eb ec aw xs xt da dc h4 n0 Z4 F18 F6 F19 F10 VT5 F20 F12 P9 P10 P11 P12 P13 P14 P15 P16 (by assumption) (by assumption) hxl (by assumption) (by assumption) (by assumption) hxt) hZ (o_w hw 30 rfl) (o_w hw 3 rfl) (by decide) (by decide)) (g := o_g G) rfl (by rw [hml]; rfl) (Steps.refl _) (a := ob) (by rw [e15]; exact q17) q17' (argsL := [(.int 2)]) (rest := []) (lenOf pd_1 rfl) rfl (by show 2 * 0 + _ ≤ _; exact Nat.le_of_eq rfl) (hb hby d6_83) (fun _ _ => ⟨rfl, e15, (by decide : 0 + 0 ≤ _), (by decide : 0 + 0 ≤ _)⟩)
  dsimp only [Pt.U, Pt.locs, Pt.cells, Pt.slots] at X17 l17 y17 z17 st17 hQ17
  subst l17 y17 z17
  obtain ⟨rfl, N17q, K17q, B17_0, B17_1⟩ := hQ17
  have Z17 : n0 ≤ T17.heap.size := Nat.le_trans Z4 K17q.1
  have K17 : Keep h0 T17.heap [va, vh, vx] := K4.trans K17q (allS (Or.inl (List.mem_of_getElem? (i := 1) rfl)) (allS (Or.inl (List.mem_of_getElem? (i := 2) rfl)) all0))
  have N17 := Fr.app N4 N17q
  replace G := o_nxv (q := 86) (st := []) G st17 rfl
  obtain ⟨fs, hr, hrun, hended, hW, hsame⟩ := X17.leave (v := none) (fun _ => rfl)
  refine ⟨_, _, G _ (X17.returnOut hx Bd.returns (hb hby d6_86) hr), hrun, hended, _, _, rfl, ?_, ⟨_, rfl⟩, hW, hsame.mono (by decide) (by decide)⟩
  have F21 := (VT5.keep K17q (ninS P14 (ninS P15 nin0)))
  show Q6f2f Z ob vv va vh vx ka kh kx ea eb ec av xs xt bu aw dx dy da dc h0 n0 _ T17.heap _
  exact ⟨rfl, N17, K17, F21, B17_0, B17_1⟩
theorem ef_6f2t (m : MethodId) (x0 : Addr) (x1 : Int32) : entryFrame m #[(.ref x0), (.int x1)] 3 = mkF m 0 #[.val (.ref x0), .val (.int x1), .unset] [] := by first | (simp [entryFrame, mkF, argsToLocals, Value.category]; done) | rfl
def Q6f2t (Z : State) (ob : Addr) (vv : Int32) (va : Addr) (vh : Addr) (vx : Addr) (ka : ClassId) (kh : ClassId) (kx : ClassId) (ea : Int32) (eb : Int32) (ec : Int32) (av : List Value) (xs : List Value) (xt : List Value) (bu : UInt64) (aw : List Value) (dx : UInt64) (dy : UInt64) (da : UInt64) (dc : UInt64) (h0 : Heap) (n0 : Nat) (v : Option Value) (h : Heap) (L : List Loc) : Prop := v = none ∧ Fr n0 L ∧ Keep h0 h [va, vh, vx] ∧ (Arv Z h va ka .double (3 : Int32) aw (.double 0)) ∧ (Arv Z h vh kh .int 3 [(.int ec), (.int eb), (.int ea)] (.int 0)) ∧ (Arv Z h vx kx .int 3 xt (.int 0))
set_option maxRecDepth 65536 in
set_option maxHeartbeats 40000000 in
theorem rm6f2t (l : Launch) (Z : State) (a0 : Array Value) (hw : ∀ d ∈ tables_1, d.before a0 Z = true) (ws : List Jvm.Cond) (ob : Addr) (vv : Int32) (va : Addr) (vh : Addr) (vx : Addr) (ka : ClassId) (kh : ClassId) (kx : ClassId) (ea : Int32) (eb : Int32) (ec : Int32) (av : List Value) (xs : List Value) (xt : List Value) (bu : UInt64) (aw : List Value) (dx : UInt64) (dy : UInt64) (da : UInt64) (dc : UInt64) (h0 : Heap) (n0 : Nat) (Z0 : n0 ≤ h0.size) (P0 : Exa Z h0 ob o_n0) (P1 : Fld Z h0 ob o_n0 "activity" "[D" (.ref va)) (P2 : Fld Z h0 ob o_n0 "heap" "[I" (.ref vh)) (P3 : Fld Z h0 ob o_n0 "heapIndex" "[I" (.ref vx)) (P4 : Fld Z h0 ob o_n0 "bump" "D" (.double bu)) (P5 : Arv Z h0 va ka .double (3 : Int32) av (.double 0)) (P6 : Arv Z h0 vh kh .int 3 [(.int ea), (.int eb), (.int ec)] (.int 0)) (P7 : Arv Z h0 vx kx .int 3 xs (.int 0)) (P8 : n0 ≤ va) (P9 : n0 ≤ vh) (P10 : n0 ≤ vx) (P11 : ob ≠ va) (P12 : ob ≠ vh) (P13 : ob ≠ vx) (P14 : va ≠ vh) (P15 : va ≠ vx) (P16 : vh ≠ vx) (hea : o_in ea) (hec : o_in ec) (hv : o_in vv) (hxl : xs.length = 3) (hal : av.length = 3) (hxi : xs.getD vv.toNatClampNeg (.int 0) = .int 2) (hx0 : av.getD vv.toNatClampNeg (.double 0) = .double dx) (hy : FP.dadd dx bu = dy) (hyn : Jvm.Free.Fl.NoNaN64 (FP.dadd dx bu)) (hyr : FP.dcmp dy (6103021453049119613 : UInt64) = some .lt) (haw : (av.set vv.toNatClampNeg (.double dy)) = aw) (hy2 : aw.getD vv.toNatClampNeg (.double 0) = .double dy) (hda : aw.getD ea.toNatClampNeg (.double 0) = .double da) (hdc : aw.getD ec.toNatClampNeg (.double 0) = .double dc) (ho : ¬ (o_bf dc da ec ea) = (0 : Int32)) (hxt : ((xs.set ea.toNatClampNeg (.int 2)).set ec.toNatClampNeg (.int 0)) = xt) :
    MetFree l (⟨o_n0, "bump", "(I)V"⟩ : MethodName) (head1 (Jvm.Cond.code (⟨o_n0, "bump", "(I)V"⟩ : MethodName) prog_7_method_5_code 3 none :: ws) ({ frames := 2, cells := 0, slots := 0, locals := 29 } : Room)) (fun argz U => argz = #[(.ref ob), (.int vv)] ∧ Z.Warmed39 U.vm ∧ U.heap = h0) (fun _ _ _ _ _ => True) (fun _ U o U' => ∃ v L, o = .returned v ∧ Q6f2t Z ob vv va vh vx ka kh kx ea eb ec av xs xt bu aw dx dy da dc h0 n0 v U'.heap L ∧ FrameEnd U o U' L ({ frames := 2, cells := 0, slots := 0, locals := 29 } : Room).cells ({ frames := 2, cells := 0, slots := 0, locals := 29 } : Room).slots) := by
  refine MetFree.of_bodySF (plainFor_of_name pn_com_example_gridwright_gridwright_core_ActivityOrder) hisR ?_
  intro p e s m args below meth c s₁ Bd hml0 hP hK
  obtain ⟨rfl, hZ, hh⟩ := hP
  have hx := Bd.exec
  have hby := Bd.bytes
  have hml : c.maxLocals = 3 := hml0
  have hown : s.vm.findClass o_n0 = some m.cls := findClass_of_methodNamed Bd.named
  have hnm := (name_of_methodNamed Bd.named Bd.method).1
  have X0 : Stand p l e ({ frames := 2, cells := 0, slots := 0, locals := 29 } : Room) s m #[(.ref ob), (.int vv)] below meth c s₁ [] 0 0 := Stand.of_body Bd
  have e0 : s₁.heap = h0 := by rw [← hh, Bd.state]; rfl
  have N0 := Fr.nil n0
  have K0 : Keep h0 h0 [va, vh, vx] := Keep.refl _ _
  have G : Gets p e below (s₁.setTop (entryFrame m #[(.ref ob), (.int vv)] 3)) (s₁.setTop (mkF m 0 #[.val (.ref ob), .val (.int vv), .unset] [])) := fun t k => castTop (ef_6f2t m ob vv) k
  replace G := o_aloadN (q := 1) G X0.here hx (hb hby d6_0) rfl rfl rfl
  obtain ⟨T1, X1, e1, st1⟩ := getF X0 hx hZ hown (host := "") (Or.inl (o_w hw 13 rfl)) Via.refl e0 P1 (g := o_g G) rfl rfl (hb hby d6_1)
  replace G := o_nxs (q := 4) (st := [(.ref va)]) G st1 rfl
  replace G := o_iloadN (q := 5) G X1.here hx (hb hby d6_4) rfl rfl
  replace G := o_dup2 (q := 6) G X1.here hx (hb hby d6_5) rfl rfl rfl
  obtain ⟨c2, Ar2, -, S2, -, H2, -⟩ := id P5
  have hin2 : ¬ (vv < 0 ∨ c2.slots.size ≤ (vv).toNatClampNeg) := inb_of S2 hv
  replace G := o_nxs (q := 7) (st := [(.double dx), (.int vv), (.ref va)]) G (X1.daload hx (j := vv) (v := (.double dx)) (by rw [e1]; exact Ar2.1) (State.isArrayOf_alike hZ.alike Ar2.2.1) Ar2.2.2 hin2 (Has.at H2 hin2 hx0) (g := o_g G) rfl rfl (hb hby d6_6)) rfl
  replace G := o_aloadN (q := 8) G X1.here hx (hb hby d6_7) rfl rfl rfl
  obtain ⟨T3, X3, e3, st3⟩ := getF X1 hx hZ hown (host := "") (Or.inl (o_w hw 10 rfl)) Via.refl e1 P4 (g := o_g G) rfl rfl (hb hby d6_8)
  replace G := o_nxs (q := 11) (st := [(.double bu), (.double dx), (.int vv), (.ref va)]) G st3 rfl
  replace G := o_dadd (q := 12) G X3.here hx (hb hby d6_11) hyn hy rfl
  obtain ⟨c4, Ar4, q4, S4, N4', H4, G4'⟩ := id P5
  have hin4 : ¬ (vv < 0 ∨ c4.slots.size ≤ (vv).toNatClampNeg) := inb_of S4 hv
  obtain ⟨T4, h4, X4, e4, W4, st4⟩ := stD X3 hx hZ e3 Ar4 (j := vv) hin4 (g := o_g G) rfl rfl (hb hby d6_12)
  have N4 := Fr.snoc X4 N0 P8
  have Z4 : n0 ≤ h4.size := Nat.le_trans Z0 (Keep.of_wr W4).1
  have K4 : Keep h0 h4 [va, vh, vx] := K0.wr W4 (Or.inl (List.mem_of_getElem? (i := 0) rfl))
  have V4 : Arv Z h4 va ka .double (3 : Int32) (av.set vv.toNatClampNeg (.double dy)) (.double 0) := Arv.set Ar4 q4 S4 N4' H4 G4' rfl W4 vv.toNatClampNeg rfl (by rw [hal]; exact o_cl hv)
  replace G := o_nxs (q := 13) (st := []) G st4 rfl
  have VT5 : Arv Z h4 va ka .double (3 : Int32) aw (.double 0) := by rw [← haw]; exact V4
  replace G := o_aloadN (q := 14) G X4.here hx (hb hby d6_13) rfl rfl rfl
  have F6 := (P1.other W4 (Or.inl P11))
  obtain ⟨T7, X7, e7, st7⟩ := getF X4 hx hZ hown (host := "") (Or.inl (o_w hw 13 rfl)) Via.refl e4 F6 (g := o_g G) rfl rfl (hb hby d6_14)
  replace G := o_nxs (q := 17) (st := [(.ref va)]) G st7 rfl
  replace G := o_iloadN (q := 18) G X7.here hx (hb hby d6_17) rfl rfl
  obtain ⟨c8, Ar8, -, S8, -, H8, -⟩ := id VT5
  have hin8 : ¬ (vv < 0 ∨ c8.slots.size ≤ (vv).toNatClampNeg) := inb_of S8 hv
  replace G := o_nxs (q := 19) (st := [(.double dy)]) G (X7.daload hx (j := vv) (v := (.double dy)) (by rw [e7]; exact Ar8.1) (State.isArrayOf_alike hZ.alike Ar8.2.1) Ar8.2.2 hin8 (Has.at H8 hin8 hy2) (g := o_g G) rfl rfl (hb hby d6_18)) rfl
  replace G := o_nxs (q := 22) (st := [(.double 6103021453049119613), (.double dy)]) G (X7.ldc2DoubleC hx hown (mvT hZ (o_w hw 40 rfl)) (g := o_g G) rfl (hb hby d6_19)) rfl
  replace G := o_dcmp (q := 23) G X7.here hx (hb hby d6_22) (by rw [hyr] <;> rfl) rfl
  replace G := o_ifYes (q := 67) G X7.here hx (hb hby d6_23) (by decide) (by decide) (by decide)
  replace G := o_aloadN (q := 68) G X7.here hx (hb hby d6_67) rfl rfl rfl
  have F10 := (P3.other W4 (Or.inl P11))
  obtain ⟨T11, X11, e11, st11⟩ := getF X7 hx hZ hown (host := "") (Or.inl (o_w hw 18 rfl)) Via.refl e7 F10 (g := o_g G) rfl rfl (hb hby d6_68)
  replace G := o_nxs (q := 71) (st := [(.ref vx)]) G st11 rfl
  replace G := o_iloadN (q := 72) G X11.here hx (hb hby d6_71) rfl rfl
  have F12 := (P7.other W4 (Ne.symm P15))
  obtain ⟨c13, Ar13, -, S13, -, H13, -⟩ := id F12
  have hin13 : ¬ (vv < 0 ∨ c13.slots.size ≤ (vv).toNatClampNeg) := inb_of S13 hv
  replace G := o_nxs (q := 73) (st := [(.int 2)]) G (X11.iaload hx (j := vv) (v := (.int 2)) (by rw [e11]; exact Ar13.1) (State.isArrayOf_alike hZ.alike Ar13.2.1) Ar13.2.2 hin13 (Has.at H13 hin13 hxi) (g := o_g G) rfl rfl (hb hby d6_72)) rfl
  replace G := o_ifNo (q := 76) G X11.here hx (hb hby d6_73) (by decide) rfl
  replace G := o_aloadN (q := 77) G X11.here hx (hb hby d6_76) rfl rfl rfl
  replace G := o_aloadN (q := 78) G X11.here hx (hb hby d6_77) rfl rfl rfl
  obtain ⟨T15, X15, e15, st15⟩ := getF X11 hx hZ hown (host := "") (Or.inl (o_w hw 18 rfl)) Via.refl e11 F10 (g := o_g G) rfl rfl (hb hby d6_78)
  replace G := o_nxs (q := 81) (st := [(.ref vx), (.ref ob)]) G st15 rfl
  replace G := o_iloadN (q := 82) G X15.here hx (hb hby d6_81) rfl rfl
  obtain ⟨c16, Ar16, -, S16, -, H16, -⟩ := id F12
  have hin16 : ¬ (vv < 0 ∨ c16.slots.size ≤ (vv).toNatClampNeg) := inb_of S16 hv
  replace G := o_nxs (q := 83) (st := [(.int 2), (.ref ob)]) G (X15.iaload hx (j := vv) (v := (.int 2)) (by rw [e15]; exact Ar16.1) (State.isArrayOf_alike hZ.alike Ar16.2.1) Ar16.2.2 hin16 (Has.at H16 hin16 hxi) (g := o_g G) rfl rfl (hb hby d6_82)) rfl
  have F18 := (P0.wr W4)
  have F19 := (P2.other W4 (Or.inl P11))
  have F20 := (P6.other W4 (Ne.symm P14))
  obtain ⟨cq17, q17, q17'⟩ := F18.cell
  obtain ⟨_, _, ⟨T17, L17, kk17, nn17⟩, -, X17, ⟨Lc17, hQ17, l17, y17, z17⟩, st17⟩ := X15.privateBack hx (y := (⟨o_n0, "siftUp", "(I)V"⟩ : MethodName)) hown (mvT hZ (o_w hw 27 rfl)) (mvT hZ (o_w hw 28 rfl)) (o_sel (z := (⟨o_n0, "add", "(I)V"⟩ : MethodName)) rfl (mvT hZ (o_w hw 22 rfl)) (mvT hZ (o_w hw 23 rfl)) (mvT hZ (o_w hw 28 rfl)) (Cond.privateMethod_at (mvP hZ (o_w hw 29 rfl) (args := #[]))) (by decide)) (Cond.privateMethod_at (mvP hZ (o_w hw 29 rfl) (args := #[]))) (mvT hZ (o_w hw 30 rfl)) (by decide) (backOf (W := 0) (rm4f2t l Z a0 hw [] ob va vh vx ka kh kx ea eb ec aw xs xt da dc h4 n0 Z4 F18 F6 F19 F10 VT5 F20 F12 P9 P10 P11 P12 P13 P14 P15 P16 (by assumption) (by assumption) hxl (by assumption) (by assumption) (by assumption) hxt) hZ (o_w hw 30 rfl) (o_w hw 3 rfl) (by decide) (by decide)) (g := o_g G) rfl (by rw [hml]; rfl) (Steps.refl _) (a := ob) (by rw [e15]; exact q17) q17' (argsL := [(.int 2)]) (rest := []) (lenOf pd_1 rfl) rfl (by show 2 * 0 + _ ≤ _; exact Nat.le_of_eq rfl) (hb hby d6_83) (fun _ _ => ⟨rfl, e15, (by decide : 0 + 0 ≤ _), (by decide : 0 + 0 ≤ _)⟩)
  dsimp only [Pt.U, Pt.locs, Pt.cells, Pt.slots] at X17 l17 y17 z17 st17 hQ17
  subst l17 y17 z17
  obtain ⟨rfl, N17q, K17q, B17_0, B17_1⟩ := hQ17
  have Z17 : n0 ≤ T17.heap.size := Nat.le_trans Z4 K17q.1
  have K17 : Keep h0 T17.heap [va, vh, vx] := K4.trans K17q (allS (Or.inl (List.mem_of_getElem? (i := 1) rfl)) (allS (Or.inl (List.mem_of_getElem? (i := 2) rfl)) all0))
  have N17 := Fr.app N4 N17q
  replace G := o_nxv (q := 86) (st := []) G st17 rfl
  obtain ⟨fs, hr, hrun, hended, hW, hsame⟩ := X17.leave (v := none) (fun _ => rfl)
  refine ⟨_, _, G _ (X17.returnOut hx Bd.returns (hb hby d6_86) hr), hrun, hended, _, _, rfl, ?_, ⟨_, rfl⟩, hW, hsame.mono (by decide) (by decide)⟩
  have F21 := (VT5.keep K17q (ninS P14 (ninS P15 nin0)))
  show Q6f2t Z ob vv va vh vx ka kh kx ea eb ec av xs xt bu aw dx dy da dc h0 n0 _ T17.heap _
  exact ⟨rfl, N17, K17, F21, B17_0, B17_1⟩
theorem d7_0 : decode prog_7_method_6_code 0 = .ok (.aload_n 0, 1) := by decide +kernel
theorem d7_1 : decode prog_7_method_6_code 1 = .ok (.dup, 1) := by decide +kernel
theorem d7_2 : decode prog_7_method_6_code 2 = .ok (.getfield 7, 3) := by decide +kernel
theorem d7_5 : decode prog_7_method_6_code 5 = .ok (.ldc2_w 46, 3) := by decide +kernel
theorem d7_8 : decode prog_7_method_6_code 8 = .ok (.ddiv, 1) := by decide +kernel
theorem d7_9 : decode prog_7_method_6_code 9 = .ok (.putfield 7, 3) := by decide +kernel
theorem d7_12 : decode prog_7_method_6_code 12 = .ok (.return_, 1) := by decide +kernel
theorem ef_7 (m : MethodId) (x0 : Addr) : entryFrame m #[(.ref x0)] 1 = mkF m 0 #[.val (.ref x0)] [] := by first | (simp [entryFrame, mkF, argsToLocals, Value.category]; done) | rfl
def Q7 (Z : State) (ob : Addr) (va : Addr) (vh : Addr) (vx : Addr) (bu : UInt64) (bw : UInt64) (zn : Int32) (h0 : Heap) (n0 : Nat) (v : Option Value) (h : Heap) (L : List Loc) : Prop := v = none ∧ Fr n0 L ∧ Keep h0 h [ob] ∧ (Fld Z h ob o_n0 "activity" "[D" (.ref va)) ∧ (Fld Z h ob o_n0 "heap" "[I" (.ref vh)) ∧ (Fld Z h ob o_n0 "heapIndex" "[I" (.ref vx)) ∧ (Fld Z h ob o_n0 "heapSize" "I" (.int zn)) ∧ (Fld Z h ob o_n0 "bump" "D" (.double bw))
set_option maxRecDepth 65536 in
set_option maxHeartbeats 40000000 in
theorem rm7 (l : Launch) (Z : State) (a0 : Array Value) (hw : ∀ d ∈ tables_1, d.before a0 Z = true) (ws : List Jvm.Cond) (ob : Addr) (va : Addr) (vh : Addr) (vx : Addr) (bu : UInt64) (bw : UInt64) (zn : Int32) (h0 : Heap) (n0 : Nat) (Z0 : n0 ≤ h0.size) (P0 : Exa Z h0 ob o_n0) (P1 : Fld Z h0 ob o_n0 "activity" "[D" (.ref va)) (P2 : Fld Z h0 ob o_n0 "heap" "[I" (.ref vh)) (P3 : Fld Z h0 ob o_n0 "heapIndex" "[I" (.ref vx)) (P4 : Fld Z h0 ob o_n0 "heapSize" "I" (.int zn)) (P5 : Fld Z h0 ob o_n0 "bump" "D" (.double bu)) (P6 : n0 ≤ ob) (hdv : FP.ddiv bu (4606732058837280358 : UInt64) = bw) (hdn : Jvm.Free.Fl.NoNaN64 (FP.ddiv bu (4606732058837280358 : UInt64))) :
    MetFree l (⟨o_n0, "decay", "()V"⟩ : MethodName) (head1 (Jvm.Cond.code (⟨o_n0, "decay", "()V"⟩ : MethodName) prog_7_method_6_code 1 none :: ws) ({ frames := 0, cells := 0, slots := 0, locals := 0 } : Room)) (fun argz U => argz = #[(.ref ob)] ∧ Z.Warmed39 U.vm ∧ U.heap = h0) (fun _ _ _ _ _ => True) (fun _ U o U' => ∃ v L, o = .returned v ∧ Q7 Z ob va vh vx bu bw zn h0 n0 v U'.heap L ∧ FrameEnd U o U' L ({ frames := 0, cells := 0, slots := 0, locals := 0 } : Room).cells ({ frames := 0, cells := 0, slots := 0, locals := 0 } : Room).slots) := by
  refine MetFree.of_bodySF (plainFor_of_name pn_com_example_gridwright_gridwright_core_ActivityOrder) hisR ?_
  intro p e s m args below meth c s₁ Bd hml0 hP hK
  obtain ⟨rfl, hZ, hh⟩ := hP
  have hx := Bd.exec
  have hby := Bd.bytes
  have hml : c.maxLocals = 1 := hml0
  have hown : s.vm.findClass o_n0 = some m.cls := findClass_of_methodNamed Bd.named
  have hnm := (name_of_methodNamed Bd.named Bd.method).1
  have X0 : Stand p l e ({ frames := 0, cells := 0, slots := 0, locals := 0 } : Room) s m #[(.ref ob)] below meth c s₁ [] 0 0 := Stand.of_body Bd
  have e0 : s₁.heap = h0 := by rw [← hh, Bd.state]; rfl
  have N0 := Fr.nil n0
  have K0 : Keep h0 h0 [ob] := Keep.refl _ _
  have G : Gets p e below (s₁.setTop (entryFrame m #[(.ref ob)] 1)) (s₁.setTop (mkF m 0 #[.val (.ref ob)] [])) := fun t k => castTop (ef_7 m ob) k
  replace G := o_aloadN (q := 1) G X0.here hx (hb hby d7_0) rfl rfl rfl
  replace G := o_dup (q := 2) G X0.here hx (hb hby d7_1) rfl rfl
  obtain ⟨T1, X1, e1, st1⟩ := getF X0 hx hZ hown (host := "") (Or.inl (o_w hw 10 rfl)) Via.refl e0 P5 (g := o_g G) rfl rfl (hb hby d7_2)
  replace G := o_nxs (q := 5) (st := [(.double bu), (.ref ob)]) G st1 rfl
  replace G := o_nxs (q := 8) (st := [(.double 4606732058837280358), (.double bu), (.ref ob)]) G (X1.ldc2DoubleC hx hown (mvT hZ (o_w hw 46 rfl)) (g := o_g G) rfl (hb hby d7_5)) rfl
  replace G := o_ddiv (q := 9) G X1.here hx (hb hby d7_8) hdn hdv rfl
  obtain ⟨T2, h2, X2, e2, W2, st2⟩ := putF X1 hx hZ hown (host := "") (Or.inl (o_w hw 10 rfl)) Via.refl e1 P5 P0 (Or.inl (o_w hw 11 rfl)) (o_w hw 2 rfl) (ty := .double) (by decide) rfl rfl (g := o_g G) rfl rfl (hb hby d7_9)
  have N2 := Fr.snoc X2 N0 P6
  have Z2 : n0 ≤ h2.size := Nat.le_trans Z0 (Keep.of_wr W2).1
  have K2 : Keep h0 h2 [ob] := K0.wr W2 (Or.inl (List.mem_of_getElem? (i := 0) rfl))
  have F2 : Fld Z h2 ob o_n0 "bump" "D" (.double bw) := P5.same W2
  replace G := o_nxs (q := 12) (st := []) G st2 rfl
  obtain ⟨fs, hr, hrun, hended, hW, hsame⟩ := X2.leave (v := none) (fun _ => rfl)
  refine ⟨_, _, G _ (X2.returnOut hx Bd.returns (hb hby d7_12) hr), hrun, hended, _, _, rfl, ?_, ⟨_, rfl⟩, hW, hsame.mono (by decide) (by decide)⟩
  have F3 := (P1.other W2 (Or.inr (slot_ne (Or.inr (o_w hw 14 rfl)) (Or.inl (o_w hw 11 rfl)) (by decide) (t := (.array .double)) (t' := .double) (by decide) (by decide))))
  have F4 := (P2.other W2 (Or.inr (slot_ne (Or.inr (o_w hw 17 rfl)) (Or.inl (o_w hw 11 rfl)) (by decide) (t := (.array .int)) (t' := .double) (by decide) (by decide))))
  have F5 := (P3.other W2 (Or.inr (slot_ne (Or.inr (o_w hw 19 rfl)) (Or.inl (o_w hw 11 rfl)) (by decide) (t := (.array .int)) (t' := .double) (by decide) (by decide))))
  have F6 := (P4.other W2 (Or.inr (slot_ne (Or.inl (o_w hw 26 rfl)) (Or.inl (o_w hw 11 rfl)) (by decide) (t := .int) (t' := .double) (by decide) (by decide))))
  show Q7 Z ob va vh vx bu bw zn h0 n0 _ T2.heap _
  rw [e2]
  exact ⟨rfl, N2, K2, F3, F4, F5, F6, F2⟩
theorem d3_0 : decode prog_7_method_3_code 0 = .ok (.aload_n 0, 1) := by decide +kernel
theorem d3_1 : decode prog_7_method_3_code 1 = .ok (.getfield 21, 3) := by decide +kernel
theorem d3_4 : decode prog_7_method_3_code 4 = .ok (.iload_n 1, 1) := by decide +kernel
theorem d3_5 : decode prog_7_method_3_code 5 = .ok (.iaload, 1) := by decide +kernel
theorem d3_6 : decode prog_7_method_3_code 6 = .ok (.ifCond .ge 43, 3) := by decide +kernel
theorem d3_9 : decode prog_7_method_3_code 9 = .ok (.aload_n 0, 1) := by decide +kernel
theorem d3_10 : decode prog_7_method_3_code 10 = .ok (.getfield 17, 3) := by decide +kernel
theorem d3_13 : decode prog_7_method_3_code 13 = .ok (.aload_n 0, 1) := by decide +kernel
theorem d3_14 : decode prog_7_method_3_code 14 = .ok (.getfield 34, 3) := by decide +kernel
theorem d3_17 : decode prog_7_method_3_code 17 = .ok (.iload_n 1, 1) := by decide +kernel
theorem d3_18 : decode prog_7_method_3_code 18 = .ok (.iastore, 1) := by decide +kernel
theorem d3_19 : decode prog_7_method_3_code 19 = .ok (.aload_n 0, 1) := by decide +kernel
theorem d3_20 : decode prog_7_method_3_code 20 = .ok (.getfield 21, 3) := by decide +kernel
theorem d3_23 : decode prog_7_method_3_code 23 = .ok (.iload_n 1, 1) := by decide +kernel
theorem d3_24 : decode prog_7_method_3_code 24 = .ok (.aload_n 0, 1) := by decide +kernel
theorem d3_25 : decode prog_7_method_3_code 25 = .ok (.getfield 34, 3) := by decide +kernel
theorem d3_28 : decode prog_7_method_3_code 28 = .ok (.iastore, 1) := by decide +kernel
theorem d3_29 : decode prog_7_method_3_code 29 = .ok (.aload_n 0, 1) := by decide +kernel
theorem d3_30 : decode prog_7_method_3_code 30 = .ok (.dup, 1) := by decide +kernel
theorem d3_31 : decode prog_7_method_3_code 31 = .ok (.getfield 34, 3) := by decide +kernel
theorem d3_34 : decode prog_7_method_3_code 34 = .ok (.iconst 1, 1) := by decide +kernel
theorem d3_35 : decode prog_7_method_3_code 35 = .ok (.iadd, 1) := by decide +kernel
theorem d3_36 : decode prog_7_method_3_code 36 = .ok (.putfield 34, 3) := by decide +kernel
theorem d3_39 : decode prog_7_method_3_code 39 = .ok (.aload_n 0, 1) := by decide +kernel
theorem d3_40 : decode prog_7_method_3_code 40 = .ok (.aload_n 0, 1) := by decide +kernel
theorem d3_41 : decode prog_7_method_3_code 41 = .ok (.getfield 34, 3) := by decide +kernel
theorem d3_44 : decode prog_7_method_3_code 44 = .ok (.iconst 1, 1) := by decide +kernel
theorem d3_45 : decode prog_7_method_3_code 45 = .ok (.isub, 1) := by decide +kernel
theorem d3_46 : decode prog_7_method_3_code 46 = .ok (.invokevirtual 38, 3) := by decide +kernel
theorem d3_49 : decode prog_7_method_3_code 49 = .ok (.return_, 1) := by decide +kernel
theorem ef_3v0 (m : MethodId) (x0 : Addr) : entryFrame m #[(.ref x0), (.int 0)] 2 = mkF m 0 #[.val (.ref x0), .val (.int 0)] [] := by first | (simp [entryFrame, mkF, argsToLocals, Value.category]; done) | rfl
def Q3v0 (Z : State) (ob : Addr) (va : Addr) (vh : Addr) (vx : Addr) (ka : ClassId) (kh : ClassId) (kx : ClassId) (h0 : Heap) (n0 : Nat) (v : Option Value) (h : Heap) (L : List Loc) : Prop := v = none ∧ Fr n0 L ∧ Keep h0 h [ob, vh, vx] ∧ (Fld Z h ob o_n0 "activity" "[D" (.ref va)) ∧ (Fld Z h ob o_n0 "heap" "[I" (.ref vh)) ∧ (Fld Z h ob o_n0 "heapIndex" "[I" (.ref vx)) ∧ (Fld Z h ob o_n0 "heapSize" "I" (.int 1)) ∧ (Arv Z h vh kh .int 3 [(.int 0), (.int 0), (.int 0)] (.int 0)) ∧ (Arv Z h vx kx .int 3 [(.int 0), (.int 0), (.int 0)] (.int 0)) ∧ (Fld Z h ob o_n0 "bump" "D" (.double o_d0))
set_option maxRecDepth 65536 in
set_option maxHeartbeats 40000000 in
theorem rm3v0 (l : Launch) (Z : State) (a0 : Array Value) (hw : ∀ d ∈ tables_1, d.before a0 Z = true) (ws : List Jvm.Cond) (ob : Addr) (va : Addr) (vh : Addr) (vx : Addr) (ka : ClassId) (kh : ClassId) (kx : ClassId) (h0 : Heap) (n0 : Nat) (Z0 : n0 ≤ h0.size) (P0 : Exa Z h0 ob o_n0) (P1 : Fld Z h0 ob o_n0 "activity" "[D" (.ref va)) (P2 : Fld Z h0 ob o_n0 "heap" "[I" (.ref vh)) (P3 : Fld Z h0 ob o_n0 "heapIndex" "[I" (.ref vx)) (P4 : Fld Z h0 ob o_n0 "heapSize" "I" (.int 0)) (P5 : Arv Z h0 va ka .double (3 : Int32) [(.double 0), (.double 0), (.double 0)] (.double 0)) (P6 : Arv Z h0 vh kh .int 3 [(.int 0), (.int 0), (.int 0)] (.int 0)) (P7 : Arv Z h0 vx kx .int 3 [(.int (-1)), (.int 0), (.int 0)] (.int 0)) (P8 : n0 ≤ ob) (P9 : n0 ≤ vh) (P10 : n0 ≤ vx) (P11 : ob ≠ va) (P12 : ob ≠ vh) (P13 : ob ≠ vx) (P14 : va ≠ vh) (P15 : va ≠ vx) (P16 : vh ≠ vx) (P17 : Fld Z h0 ob o_n0 "bump" "D" (.double o_d0)) :
    MetFree l (⟨o_n0, "add", "(I)V"⟩ : MethodName) (head1 (Jvm.Cond.code (⟨o_n0, "add", "(I)V"⟩ : MethodName) prog_7_method_3_code 2 none :: ws) ({ frames := 1, cells := 0, slots := 0, locals := 15 } : Room)) (fun argz U => argz = #[(.ref ob), (.int 0)] ∧ Z.Warmed39 U.vm ∧ U.heap = h0) (fun _ _ _ _ _ => True) (fun _ U o U' => ∃ v L, o = .returned v ∧ Q3v0 Z ob va vh vx ka kh kx h0 n0 v U'.heap L ∧ FrameEnd U o U' L ({ frames := 1, cells := 0, slots := 0, locals := 15 } : Room).cells ({ frames := 1, cells := 0, slots := 0, locals := 15 } : Room).slots) := by
  refine MetFree.of_bodySF (plainFor_of_name pn_com_example_gridwright_gridwright_core_ActivityOrder) hisR ?_
  intro p e s m args below meth c s₁ Bd hml0 hP hK
  obtain ⟨rfl, hZ, hh⟩ := hP
  have hx := Bd.exec
  have hby := Bd.bytes
  have hml : c.maxLocals = 2 := hml0
  have hown : s.vm.findClass o_n0 = some m.cls := findClass_of_methodNamed Bd.named
  have hnm := (name_of_methodNamed Bd.named Bd.method).1
  have X0 : Stand p l e ({ frames := 1, cells := 0, slots := 0, locals := 15 } : Room) s m #[(.ref ob), (.int 0)] below meth c s₁ [] 0 0 := Stand.of_body Bd
  have e0 : s₁.heap = h0 := by rw [← hh, Bd.state]; rfl
  have N0 := Fr.nil n0
  have K0 : Keep h0 h0 [ob, vh, vx] := Keep.refl _ _
  have G : Gets p e below (s₁.setTop (entryFrame m #[(.ref ob), (.int 0)] 2)) (s₁.setTop (mkF m 0 #[.val (.ref ob), .val (.int 0)] [])) := fun t k => castTop (ef_3v0 m ob) k
  replace G := o_aloadN (q := 1) G X0.here hx (hb hby d3_0) rfl rfl rfl
  obtain ⟨T1, X1, e1, st1⟩ := getF X0 hx hZ hown (host := "") (Or.inl (o_w hw 18 rfl)) Via.refl e0 P3 (g := o_g G) rfl rfl (hb hby d3_1)
  replace G := o_nxs (q := 4) (st := [(.ref vx)]) G st1 rfl
  replace G := o_iloadN (q := 5) G X1.here hx (hb hby d3_4) rfl rfl
  obtain ⟨c2, Ar2, -, S2, -, H2, -⟩ := id P7
  have hin2 : ¬ ((0 : Int32) < 0 ∨ c2.slots.size ≤ ((0 : Int32)).toNatClampNeg) := inb_of S2 ⟨by decide, by decide⟩
  replace G := o_nxs (q := 6) (st := [(.int (-1))]) G (X1.iaload hx (j := (0 : Int32)) (v := (.int (-1))) (by rw [e1]; exact Ar2.1) (State.isArrayOf_alike hZ.alike Ar2.2.1) Ar2.2.2 hin2 (Has.at H2 hin2 rfl) (g := o_g G) rfl rfl (hb hby d3_5)) rfl
  replace G := o_ifNo (q := 9) G X1.here hx (hb hby d3_6) (by decide) rfl
  replace G := o_aloadN (q := 10) G X1.here hx (hb hby d3_9) rfl rfl rfl
  obtain ⟨T4, X4, e4, st4⟩ := getF X1 hx hZ hown (host := "") (Or.inl (o_w hw 16 rfl)) Via.refl e1 P2 (g := o_g G) rfl rfl (hb hby d3_10)
  replace G := o_nxs (q := 13) (st := [(.ref vh)]) G st4 rfl
  replace G := o_aloadN (q := 14) G X4.here hx (hb hby d3_13) rfl rfl rfl
  obtain ⟨T5, X5, e5, st5⟩ := getF X4 hx hZ hown (host := "") (Or.inl (o_w hw 25 rfl)) Via.refl e4 P4 (g := o_g G) rfl rfl (hb hby d3_14)
  replace G := o_nxs (q := 17) (st := [(.int 0), (.ref vh)]) G st5 rfl
  replace G := o_iloadN (q := 18) G X5.here hx (hb hby d3_17) rfl rfl
  obtain ⟨c6, Ar6, q6, S6, N6', H6, G6'⟩ := id P6
  have hin6 : ¬ ((0 : Int32) < 0 ∨ c6.slots.size ≤ ((0 : Int32)).toNatClampNeg) := inb_of S6 ⟨by decide, by decide⟩
  obtain ⟨T6, h6, X6, e6, W6, st6⟩ := stI X5 hx hZ e5 Ar6 (j := (0 : Int32)) hin6 (g := o_g G) rfl rfl (hb hby d3_18)
  have N6 := Fr.snoc X6 N0 P9
  have Z6 : n0 ≤ h6.size := Nat.le_trans Z0 (Keep.of_wr W6).1
  have K6 : Keep h0 h6 [ob, vh, vx] := K0.wr W6 (Or.inl (List.mem_of_getElem? (i := 1) rfl))
  have V6 : Arv Z h6 vh kh .int 3 [(.int 0), (.int 0), (.int 0)] (.int 0) := Arv.set Ar6 q6 S6 N6' H6 G6' rfl W6 0 rfl (Nat.le_of_ble_eq_true rfl)
  replace G := o_nxs (q := 19) (st := []) G st6 rfl
  replace G := o_aloadN (q := 20) G X6.here hx (hb hby d3_19) rfl rfl rfl
  have F7 := (P3.other W6 (Or.inl P12))
  obtain ⟨T8, X8, e8, st8⟩ := getF X6 hx hZ hown (host := "") (Or.inl (o_w hw 18 rfl)) Via.refl e6 F7 (g := o_g G) rfl rfl (hb hby d3_20)
  replace G := o_nxs (q := 23) (st := [(.ref vx)]) G st8 rfl
  replace G := o_iloadN (q := 24) G X8.here hx (hb hby d3_23) rfl rfl
  replace G := o_aloadN (q := 25) G X8.here hx (hb hby d3_24) rfl rfl rfl
  have F9 := (P4.other W6 (Or.inl P12))
  obtain ⟨T10, X10, e10, st10⟩ := getF X8 hx hZ hown (host := "") (Or.inl (o_w hw 25 rfl)) Via.refl e8 F9 (g := o_g G) rfl rfl (hb hby d3_25)
  replace G := o_nxs (q := 28) (st := [(.int 0), (.int 0), (.ref vx)]) G st10 rfl
  have F11 := (P7.other W6 (Ne.symm P16))
  obtain ⟨c12, Ar12, q12, S12, N12', H12, G12'⟩ := id F11
  have hin12 : ¬ ((0 : Int32) < 0 ∨ c12.slots.size ≤ ((0 : Int32)).toNatClampNeg) := inb_of S12 ⟨by decide, by decide⟩
  obtain ⟨T12, h12, X12, e12, W12, st12⟩ := stI X10 hx hZ e10 Ar12 (j := (0 : Int32)) hin12 (g := o_g G) rfl rfl (hb hby d3_28)
  have N12 := Fr.snoc X12 N6 P10
  have Z12 : n0 ≤ h12.size := Nat.le_trans Z6 (Keep.of_wr W12).1
  have K12 : Keep h0 h12 [ob, vh, vx] := K6.wr W12 (Or.inl (List.mem_of_getElem? (i := 2) rfl))
  have V12 : Arv Z h12 vx kx .int 3 [(.int 0), (.int 0), (.int 0)] (.int 0) := Arv.set Ar12 q12 S12 N12' H12 G12' rfl W12 0 rfl (Nat.le_of_ble_eq_true rfl)
  replace G := o_nxs (q := 29) (st := []) G st12 rfl
  replace G := o_aloadN (q := 30) G X12.here hx (hb hby d3_29) rfl rfl rfl
  replace G := o_dup (q := 31) G X12.here hx (hb hby d3_30) rfl rfl
  have F13 := (F9.other W12 (Or.inl P13))
  obtain ⟨T14, X14, e14, st14⟩ := getF X12 hx hZ hown (host := "") (Or.inl (o_w hw 25 rfl)) Via.refl e12 F13 (g := o_g G) rfl rfl (hb hby d3_31)
  replace G := o_nxs (q := 34) (st := [(.int 0), (.ref ob)]) G st14 rfl
  replace G := o_iconst (q := 35) G X14.here hx (hb hby d3_34) (v := (1 : Int32)) (by decide) rfl
  replace G := o_iadd (q := 36) G X14.here hx (hb hby d3_35) (by decide : ((0 : Int32) + (1 : Int32)) = (1 : Int32)) rfl
  have F15 := ((P0.wr W6).wr W12)
  obtain ⟨T16, h16, X16, e16, W16, st16⟩ := putF X14 hx hZ hown (host := "") (Or.inl (o_w hw 25 rfl)) Via.refl e14 F13 F15 (Or.inl (o_w hw 26 rfl)) (o_w hw 2 rfl) (ty := .int) (by decide) rfl rfl (g := o_g G) rfl rfl (hb hby d3_36)
  have N16 := Fr.snoc X16 N12 P8
  have Z16 : n0 ≤ h16.size := Nat.le_trans Z12 (Keep.of_wr W16).1
  have K16 : Keep h0 h16 [ob, vh, vx] := K12.wr W16 (Or.inl (List.mem_of_getElem? (i := 0) rfl))
  have F16 : Fld Z h16 ob o_n0 "heapSize" "I" (.int 1) := F13.same W16
  replace G := o_nxs (q := 39) (st := []) G st16 rfl
  replace G := o_aloadN (q := 40) G X16.here hx (hb hby d3_39) rfl rfl rfl
  replace G := o_aloadN (q := 41) G X16.here hx (hb hby d3_40) rfl rfl rfl
  obtain ⟨T17, X17, e17, st17⟩ := getF X16 hx hZ hown (host := "") (Or.inl (o_w hw 25 rfl)) Via.refl e16 F16 (g := o_g G) rfl rfl (hb hby d3_41)
  replace G := o_nxs (q := 44) (st := [(.int 1), (.ref ob)]) G st17 rfl
  replace G := o_iconst (q := 45) G X17.here hx (hb hby d3_44) (v := (1 : Int32)) (by decide) rfl
  replace G := o_isub (q := 46) G X17.here hx (hb hby d3_45) (by decide : ((1 : Int32) - (1 : Int32)) = (0 : Int32)) rfl
  have F19 := (F15.wr W16)
  have F20 := (((P1.other W6 (Or.inl P12)).other W12 (Or.inl P13)).other W16 (Or.inr (slot_ne (Or.inr (o_w hw 14 rfl)) (Or.inl (o_w hw 26 rfl)) (by decide) (t := (.array .double)) (t' := .int) (by decide) (by decide))))
  have F21 := (((P2.other W6 (Or.inl P12)).other W12 (Or.inl P13)).other W16 (Or.inr (slot_ne (Or.inr (o_w hw 17 rfl)) (Or.inl (o_w hw 26 rfl)) (by decide) (t := (.array .int)) (t' := .int) (by decide) (by decide))))
  have F22 := ((F7.other W12 (Or.inl P13)).other W16 (Or.inr (slot_ne (Or.inr (o_w hw 19 rfl)) (Or.inl (o_w hw 26 rfl)) (by decide) (t := (.array .int)) (t' := .int) (by decide) (by decide))))
  have F23 := (((P5.other W6 P14).other W12 P15).other W16 (Ne.symm P11))
  have F24 := ((V6.other W12 P16).other W16 (Ne.symm P12))
  have F25 := (V12.other W16 (Ne.symm P13))
  obtain ⟨cq18, q18, q18'⟩ := F19.cell
  obtain ⟨_, _, ⟨T18, L18, kk18, nn18⟩, -, X18, ⟨Lc18, hQ18, l18, y18, z18⟩, st18⟩ := X17.privateBack hx (y := (⟨o_n0, "siftUp", "(I)V"⟩ : MethodName)) hown (mvT hZ (o_w hw 27 rfl)) (mvT hZ (o_w hw 28 rfl)) (o_sel (z := (⟨o_n0, "add", "(I)V"⟩ : MethodName)) rfl (mvT hZ (o_w hw 22 rfl)) (mvT hZ (o_w hw 23 rfl)) (mvT hZ (o_w hw 28 rfl)) (Cond.privateMethod_at (mvP hZ (o_w hw 29 rfl) (args := #[]))) (by decide)) (Cond.privateMethod_at (mvP hZ (o_w hw 29 rfl) (args := #[]))) (mvT hZ (o_w hw 30 rfl)) (by decide) (backOf (W := 0) (rm4f0 l Z a0 hw [] ob va vh vx ka kh kx (0 : Int32) (0 : Int32) (0 : Int32) [(.double 0), (.double 0), (.double 0)] [(.int 0), (.int 0), (.int 0)] [(.int 0), (.int 0), (.int 0)] h16 n0 Z16 F19 F20 F21 F22 F23 F24 F25 P9 P10 P11 P12 P13 P14 P15 P16 ⟨by decide, by decide⟩ rfl rfl) hZ (o_w hw 30 rfl) (o_w hw 3 rfl) (by decide) (by decide)) (g := o_g G) rfl (by rw [hml]; rfl) (Steps.refl _) (a := ob) (by rw [e17]; exact q18) q18' (argsL := [(.int 0)]) (rest := []) (lenOf pd_1 rfl) rfl (by show 2 * 0 + _ ≤ _; exact Nat.le_of_eq rfl) (hb hby d3_46) (fun _ _ => ⟨rfl, e17, (by decide : 0 + 0 ≤ _), (by decide : 0 + 0 ≤ _)⟩)
  dsimp only [Pt.U, Pt.locs, Pt.cells, Pt.slots] at X18 l18 y18 z18 st18 hQ18
  subst l18 y18 z18
  obtain ⟨rfl, N18q, K18q, B18_0, B18_1⟩ := hQ18
  have Z18 : n0 ≤ T18.heap.size := Nat.le_trans Z16 K18q.1
  have K18 : Keep h0 T18.heap [ob, vh, vx] := K16.trans K18q (allS (Or.inl (List.mem_of_getElem? (i := 1) rfl)) (allS (Or.inl (List.mem_of_getElem? (i := 2) rfl)) all0))
  have N18 := Fr.app N16 N18q
  replace G := o_nxv (q := 49) (st := []) G st18 rfl
  obtain ⟨fs, hr, hrun, hended, hW, hsame⟩ := X18.leave (v := none) (fun _ => rfl)
  refine ⟨_, _, G _ (X18.returnOut hx Bd.returns (hb hby d3_49) hr), hrun, hended, _, _, rfl, ?_, ⟨_, rfl⟩, hW, hsame.mono (by decide) (by decide)⟩
  have F26 := (F20.keep K18q (ninS P12 (ninS P13 nin0)))
  have F27 := (F21.keep K18q (ninS P12 (ninS P13 nin0)))
  have F28 := (F22.keep K18q (ninS P12 (ninS P13 nin0)))
  have F29 := (F16.keep K18q (ninS P12 (ninS P13 nin0)))
  have F30 := ((((P17.other W6 (Or.inl P12)).other W12 (Or.inl P13)).other W16 (Or.inr (slot_ne (Or.inl (o_w hw 11 rfl)) (Or.inl (o_w hw 26 rfl)) (by decide) (t := .double) (t' := .int) (by decide) (by decide)))).keep K18q (ninS P12 (ninS P13 nin0)))
  show Q3v0 Z ob va vh vx ka kh kx h0 n0 _ T18.heap _
  exact ⟨rfl, N18, K18, F26, F27, F28, F29, B18_0, B18_1, F30⟩
theorem ef_3v1 (m : MethodId) (x0 : Addr) : entryFrame m #[(.ref x0), (.int 1)] 2 = mkF m 0 #[.val (.ref x0), .val (.int 1)] [] := by first | (simp [entryFrame, mkF, argsToLocals, Value.category]; done) | rfl
def Q3v1 (Z : State) (ob : Addr) (va : Addr) (vh : Addr) (vx : Addr) (ka : ClassId) (kh : ClassId) (kx : ClassId) (h0 : Heap) (n0 : Nat) (v : Option Value) (h : Heap) (L : List Loc) : Prop := v = none ∧ Fr n0 L ∧ Keep h0 h [ob, vh, vx] ∧ (Fld Z h ob o_n0 "activity" "[D" (.ref va)) ∧ (Fld Z h ob o_n0 "heap" "[I" (.ref vh)) ∧ (Fld Z h ob o_n0 "heapIndex" "[I" (.ref vx)) ∧ (Fld Z h ob o_n0 "heapSize" "I" (.int 2)) ∧ (Arv Z h vh kh .int 3 [(.int 0), (.int 1), (.int 0)] (.int 0)) ∧ (Arv Z h vx kx .int 3 [(.int 0), (.int 1), (.int 0)] (.int 0)) ∧ (Fld Z h ob o_n0 "bump" "D" (.double o_d0))
set_option maxRecDepth 65536 in
set_option maxHeartbeats 40000000 in
theorem rm3v1 (l : Launch) (Z : State) (a0 : Array Value) (hw : ∀ d ∈ tables_1, d.before a0 Z = true) (ws : List Jvm.Cond) (ob : Addr) (va : Addr) (vh : Addr) (vx : Addr) (ka : ClassId) (kh : ClassId) (kx : ClassId) (h0 : Heap) (n0 : Nat) (Z0 : n0 ≤ h0.size) (P0 : Exa Z h0 ob o_n0) (P1 : Fld Z h0 ob o_n0 "activity" "[D" (.ref va)) (P2 : Fld Z h0 ob o_n0 "heap" "[I" (.ref vh)) (P3 : Fld Z h0 ob o_n0 "heapIndex" "[I" (.ref vx)) (P4 : Fld Z h0 ob o_n0 "heapSize" "I" (.int 1)) (P5 : Arv Z h0 va ka .double (3 : Int32) [(.double 0), (.double 0), (.double 0)] (.double 0)) (P6 : Arv Z h0 vh kh .int 3 [(.int 0), (.int 0), (.int 0)] (.int 0)) (P7 : Arv Z h0 vx kx .int 3 [(.int 0), (.int (-1)), (.int 0)] (.int 0)) (P8 : n0 ≤ ob) (P9 : n0 ≤ vh) (P10 : n0 ≤ vx) (P11 : ob ≠ va) (P12 : ob ≠ vh) (P13 : ob ≠ vx) (P14 : va ≠ vh) (P15 : va ≠ vx) (P16 : vh ≠ vx) (P17 : Fld Z h0 ob o_n0 "bump" "D" (.double o_d0)) :
    MetFree l (⟨o_n0, "add", "(I)V"⟩ : MethodName) (head1 (Jvm.Cond.code (⟨o_n0, "add", "(I)V"⟩ : MethodName) prog_7_method_3_code 2 none :: ws) ({ frames := 2, cells := 0, slots := 0, locals := 29 } : Room)) (fun argz U => argz = #[(.ref ob), (.int 1)] ∧ Z.Warmed39 U.vm ∧ U.heap = h0) (fun _ _ _ _ _ => True) (fun _ U o U' => ∃ v L, o = .returned v ∧ Q3v1 Z ob va vh vx ka kh kx h0 n0 v U'.heap L ∧ FrameEnd U o U' L ({ frames := 2, cells := 0, slots := 0, locals := 29 } : Room).cells ({ frames := 2, cells := 0, slots := 0, locals := 29 } : Room).slots) := by
  refine MetFree.of_bodySF (plainFor_of_name pn_com_example_gridwright_gridwright_core_ActivityOrder) hisR ?_
  intro p e s m args below meth c s₁ Bd hml0 hP hK
  obtain ⟨rfl, hZ, hh⟩ := hP
  have hx := Bd.exec
  have hby := Bd.bytes
  have hml : c.maxLocals = 2 := hml0
  have hown : s.vm.findClass o_n0 = some m.cls := findClass_of_methodNamed Bd.named
  have hnm := (name_of_methodNamed Bd.named Bd.method).1
  have X0 : Stand p l e ({ frames := 2, cells := 0, slots := 0, locals := 29 } : Room) s m #[(.ref ob), (.int 1)] below meth c s₁ [] 0 0 := Stand.of_body Bd
  have e0 : s₁.heap = h0 := by rw [← hh, Bd.state]; rfl
  have N0 := Fr.nil n0
  have K0 : Keep h0 h0 [ob, vh, vx] := Keep.refl _ _
  have G : Gets p e below (s₁.setTop (entryFrame m #[(.ref ob), (.int 1)] 2)) (s₁.setTop (mkF m 0 #[.val (.ref ob), .val (.int 1)] [])) := fun t k => castTop (ef_3v1 m ob) k
  replace G := o_aloadN (q := 1) G X0.here hx (hb hby d3_0) rfl rfl rfl
  obtain ⟨T1, X1, e1, st1⟩ := getF X0 hx hZ hown (host := "") (Or.inl (o_w hw 18 rfl)) Via.refl e0 P3 (g := o_g G) rfl rfl (hb hby d3_1)
  replace G := o_nxs (q := 4) (st := [(.ref vx)]) G st1 rfl
  replace G := o_iloadN (q := 5) G X1.here hx (hb hby d3_4) rfl rfl
  obtain ⟨c2, Ar2, -, S2, -, H2, -⟩ := id P7
  have hin2 : ¬ ((1 : Int32) < 0 ∨ c2.slots.size ≤ ((1 : Int32)).toNatClampNeg) := inb_of S2 ⟨by decide, by decide⟩
  replace G := o_nxs (q := 6) (st := [(.int (-1))]) G (X1.iaload hx (j := (1 : Int32)) (v := (.int (-1))) (by rw [e1]; exact Ar2.1) (State.isArrayOf_alike hZ.alike Ar2.2.1) Ar2.2.2 hin2 (Has.at H2 hin2 rfl) (g := o_g G) rfl rfl (hb hby d3_5)) rfl
  replace G := o_ifNo (q := 9) G X1.here hx (hb hby d3_6) (by decide) rfl
  replace G := o_aloadN (q := 10) G X1.here hx (hb hby d3_9) rfl rfl rfl
  obtain ⟨T4, X4, e4, st4⟩ := getF X1 hx hZ hown (host := "") (Or.inl (o_w hw 16 rfl)) Via.refl e1 P2 (g := o_g G) rfl rfl (hb hby d3_10)
  replace G := o_nxs (q := 13) (st := [(.ref vh)]) G st4 rfl
  replace G := o_aloadN (q := 14) G X4.here hx (hb hby d3_13) rfl rfl rfl
  obtain ⟨T5, X5, e5, st5⟩ := getF X4 hx hZ hown (host := "") (Or.inl (o_w hw 25 rfl)) Via.refl e4 P4 (g := o_g G) rfl rfl (hb hby d3_14)
  replace G := o_nxs (q := 17) (st := [(.int 1), (.ref vh)]) G st5 rfl
  replace G := o_iloadN (q := 18) G X5.here hx (hb hby d3_17) rfl rfl
  obtain ⟨c6, Ar6, q6, S6, N6', H6, G6'⟩ := id P6
  have hin6 : ¬ ((1 : Int32) < 0 ∨ c6.slots.size ≤ ((1 : Int32)).toNatClampNeg) := inb_of S6 ⟨by decide, by decide⟩
  obtain ⟨T6, h6, X6, e6, W6, st6⟩ := stI X5 hx hZ e5 Ar6 (j := (1 : Int32)) hin6 (g := o_g G) rfl rfl (hb hby d3_18)
  have N6 := Fr.snoc X6 N0 P9
  have Z6 : n0 ≤ h6.size := Nat.le_trans Z0 (Keep.of_wr W6).1
  have K6 : Keep h0 h6 [ob, vh, vx] := K0.wr W6 (Or.inl (List.mem_of_getElem? (i := 1) rfl))
  have V6 : Arv Z h6 vh kh .int 3 [(.int 0), (.int 1), (.int 0)] (.int 0) := Arv.set Ar6 q6 S6 N6' H6 G6' rfl W6 1 rfl (Nat.le_of_ble_eq_true rfl)
  replace G := o_nxs (q := 19) (st := []) G st6 rfl
  replace G := o_aloadN (q := 20) G X6.here hx (hb hby d3_19) rfl rfl rfl
  have F7 := (P3.other W6 (Or.inl P12))
  obtain ⟨T8, X8, e8, st8⟩ := getF X6 hx hZ hown (host := "") (Or.inl (o_w hw 18 rfl)) Via.refl e6 F7 (g := o_g G) rfl rfl (hb hby d3_20)
  replace G := o_nxs (q := 23) (st := [(.ref vx)]) G st8 rfl
  replace G := o_iloadN (q := 24) G X8.here hx (hb hby d3_23) rfl rfl
  replace G := o_aloadN (q := 25) G X8.here hx (hb hby d3_24) rfl rfl rfl
  have F9 := (P4.other W6 (Or.inl P12))
  obtain ⟨T10, X10, e10, st10⟩ := getF X8 hx hZ hown (host := "") (Or.inl (o_w hw 25 rfl)) Via.refl e8 F9 (g := o_g G) rfl rfl (hb hby d3_25)
  replace G := o_nxs (q := 28) (st := [(.int 1), (.int 1), (.ref vx)]) G st10 rfl
  have F11 := (P7.other W6 (Ne.symm P16))
  obtain ⟨c12, Ar12, q12, S12, N12', H12, G12'⟩ := id F11
  have hin12 : ¬ ((1 : Int32) < 0 ∨ c12.slots.size ≤ ((1 : Int32)).toNatClampNeg) := inb_of S12 ⟨by decide, by decide⟩
  obtain ⟨T12, h12, X12, e12, W12, st12⟩ := stI X10 hx hZ e10 Ar12 (j := (1 : Int32)) hin12 (g := o_g G) rfl rfl (hb hby d3_28)
  have N12 := Fr.snoc X12 N6 P10
  have Z12 : n0 ≤ h12.size := Nat.le_trans Z6 (Keep.of_wr W12).1
  have K12 : Keep h0 h12 [ob, vh, vx] := K6.wr W12 (Or.inl (List.mem_of_getElem? (i := 2) rfl))
  have V12 : Arv Z h12 vx kx .int 3 [(.int 0), (.int 1), (.int 0)] (.int 0) := Arv.set Ar12 q12 S12 N12' H12 G12' rfl W12 1 rfl (Nat.le_of_ble_eq_true rfl)
  replace G := o_nxs (q := 29) (st := []) G st12 rfl
  replace G := o_aloadN (q := 30) G X12.here hx (hb hby d3_29) rfl rfl rfl
  replace G := o_dup (q := 31) G X12.here hx (hb hby d3_30) rfl rfl
  have F13 := (F9.other W12 (Or.inl P13))
  obtain ⟨T14, X14, e14, st14⟩ := getF X12 hx hZ hown (host := "") (Or.inl (o_w hw 25 rfl)) Via.refl e12 F13 (g := o_g G) rfl rfl (hb hby d3_31)
  replace G := o_nxs (q := 34) (st := [(.int 1), (.ref ob)]) G st14 rfl
  replace G := o_iconst (q := 35) G X14.here hx (hb hby d3_34) (v := (1 : Int32)) (by decide) rfl
  replace G := o_iadd (q := 36) G X14.here hx (hb hby d3_35) (by decide : ((1 : Int32) + (1 : Int32)) = (2 : Int32)) rfl
  have F15 := ((P0.wr W6).wr W12)
  obtain ⟨T16, h16, X16, e16, W16, st16⟩ := putF X14 hx hZ hown (host := "") (Or.inl (o_w hw 25 rfl)) Via.refl e14 F13 F15 (Or.inl (o_w hw 26 rfl)) (o_w hw 2 rfl) (ty := .int) (by decide) rfl rfl (g := o_g G) rfl rfl (hb hby d3_36)
  have N16 := Fr.snoc X16 N12 P8
  have Z16 : n0 ≤ h16.size := Nat.le_trans Z12 (Keep.of_wr W16).1
  have K16 : Keep h0 h16 [ob, vh, vx] := K12.wr W16 (Or.inl (List.mem_of_getElem? (i := 0) rfl))
  have F16 : Fld Z h16 ob o_n0 "heapSize" "I" (.int 2) := F13.same W16
  replace G := o_nxs (q := 39) (st := []) G st16 rfl
  replace G := o_aloadN (q := 40) G X16.here hx (hb hby d3_39) rfl rfl rfl
  replace G := o_aloadN (q := 41) G X16.here hx (hb hby d3_40) rfl rfl rfl
  obtain ⟨T17, X17, e17, st17⟩ := getF X16 hx hZ hown (host := "") (Or.inl (o_w hw 25 rfl)) Via.refl e16 F16 (g := o_g G) rfl rfl (hb hby d3_41)
  replace G := o_nxs (q := 44) (st := [(.int 2), (.ref ob)]) G st17 rfl
  replace G := o_iconst (q := 45) G X17.here hx (hb hby d3_44) (v := (1 : Int32)) (by decide) rfl
  replace G := o_isub (q := 46) G X17.here hx (hb hby d3_45) (by decide : ((2 : Int32) - (1 : Int32)) = (1 : Int32)) rfl
  have F19 := (F15.wr W16)
  have F20 := (((P1.other W6 (Or.inl P12)).other W12 (Or.inl P13)).other W16 (Or.inr (slot_ne (Or.inr (o_w hw 14 rfl)) (Or.inl (o_w hw 26 rfl)) (by decide) (t := (.array .double)) (t' := .int) (by decide) (by decide))))
  have F21 := (((P2.other W6 (Or.inl P12)).other W12 (Or.inl P13)).other W16 (Or.inr (slot_ne (Or.inr (o_w hw 17 rfl)) (Or.inl (o_w hw 26 rfl)) (by decide) (t := (.array .int)) (t' := .int) (by decide) (by decide))))
  have F22 := ((F7.other W12 (Or.inl P13)).other W16 (Or.inr (slot_ne (Or.inr (o_w hw 19 rfl)) (Or.inl (o_w hw 26 rfl)) (by decide) (t := (.array .int)) (t' := .int) (by decide) (by decide))))
  have F23 := (((P5.other W6 P14).other W12 P15).other W16 (Ne.symm P11))
  have F24 := ((V6.other W12 P16).other W16 (Ne.symm P12))
  have F25 := (V12.other W16 (Ne.symm P13))
  obtain ⟨cq18, q18, q18'⟩ := F19.cell
  obtain ⟨_, _, ⟨T18, L18, kk18, nn18⟩, -, X18, ⟨Lc18, hQ18, l18, y18, z18⟩, st18⟩ := X17.privateBack hx (y := (⟨o_n0, "siftUp", "(I)V"⟩ : MethodName)) hown (mvT hZ (o_w hw 27 rfl)) (mvT hZ (o_w hw 28 rfl)) (o_sel (z := (⟨o_n0, "add", "(I)V"⟩ : MethodName)) rfl (mvT hZ (o_w hw 22 rfl)) (mvT hZ (o_w hw 23 rfl)) (mvT hZ (o_w hw 28 rfl)) (Cond.privateMethod_at (mvP hZ (o_w hw 29 rfl) (args := #[]))) (by decide)) (Cond.privateMethod_at (mvP hZ (o_w hw 29 rfl) (args := #[]))) (mvT hZ (o_w hw 30 rfl)) (by decide) (backOf (W := 0) (rm4f1f l Z a0 hw [] ob va vh vx ka kh kx (0 : Int32) (1 : Int32) (0 : Int32) [(.double 0), (.double 0), (.double 0)] [(.int 0), (.int 1), (.int 0)] [(.int 0), (.int 1), (.int 0)] (0 : UInt64) (0 : UInt64) h16 n0 Z16 F19 F20 F21 F22 F23 F24 F25 P9 P10 P11 P12 P13 P14 P15 P16 ⟨by decide, by decide⟩ ⟨by decide, by decide⟩ rfl rfl rfl (by decide +kernel) rfl) hZ (o_w hw 30 rfl) (o_w hw 3 rfl) (by decide) (by decide)) (g := o_g G) rfl (by rw [hml]; rfl) (Steps.refl _) (a := ob) (by rw [e17]; exact q18) q18' (argsL := [(.int 1)]) (rest := []) (lenOf pd_1 rfl) rfl (by show 2 * 0 + _ ≤ _; exact Nat.le_of_eq rfl) (hb hby d3_46) (fun _ _ => ⟨rfl, e17, (by decide : 0 + 0 ≤ _), (by decide : 0 + 0 ≤ _)⟩)
  dsimp only [Pt.U, Pt.locs, Pt.cells, Pt.slots] at X18 l18 y18 z18 st18 hQ18
  subst l18 y18 z18
  obtain ⟨rfl, N18q, K18q, B18_0, B18_1⟩ := hQ18
  have Z18 : n0 ≤ T18.heap.size := Nat.le_trans Z16 K18q.1
  have K18 : Keep h0 T18.heap [ob, vh, vx] := K16.trans K18q (allS (Or.inl (List.mem_of_getElem? (i := 1) rfl)) (allS (Or.inl (List.mem_of_getElem? (i := 2) rfl)) all0))
  have N18 := Fr.app N16 N18q
  replace G := o_nxv (q := 49) (st := []) G st18 rfl
  obtain ⟨fs, hr, hrun, hended, hW, hsame⟩ := X18.leave (v := none) (fun _ => rfl)
  refine ⟨_, _, G _ (X18.returnOut hx Bd.returns (hb hby d3_49) hr), hrun, hended, _, _, rfl, ?_, ⟨_, rfl⟩, hW, hsame.mono (by decide) (by decide)⟩
  have F26 := (F20.keep K18q (ninS P12 (ninS P13 nin0)))
  have F27 := (F21.keep K18q (ninS P12 (ninS P13 nin0)))
  have F28 := (F22.keep K18q (ninS P12 (ninS P13 nin0)))
  have F29 := (F16.keep K18q (ninS P12 (ninS P13 nin0)))
  have F30 := ((((P17.other W6 (Or.inl P12)).other W12 (Or.inl P13)).other W16 (Or.inr (slot_ne (Or.inl (o_w hw 11 rfl)) (Or.inl (o_w hw 26 rfl)) (by decide) (t := .double) (t' := .int) (by decide) (by decide)))).keep K18q (ninS P12 (ninS P13 nin0)))
  show Q3v1 Z ob va vh vx ka kh kx h0 n0 _ T18.heap _
  exact ⟨rfl, N18, K18, F26, F27, F28, F29, B18_0, B18_1, F30⟩
theorem ef_3v2 (m : MethodId) (x0 : Addr) : entryFrame m #[(.ref x0), (.int 2)] 2 = mkF m 0 #[.val (.ref x0), .val (.int 2)] [] := by first | (simp [entryFrame, mkF, argsToLocals, Value.category]; done) | rfl
def Q3v2 (Z : State) (ob : Addr) (va : Addr) (vh : Addr) (vx : Addr) (ka : ClassId) (kh : ClassId) (kx : ClassId) (h0 : Heap) (n0 : Nat) (v : Option Value) (h : Heap) (L : List Loc) : Prop := v = none ∧ Fr n0 L ∧ Keep h0 h [ob, vh, vx] ∧ (Fld Z h ob o_n0 "activity" "[D" (.ref va)) ∧ (Fld Z h ob o_n0 "heap" "[I" (.ref vh)) ∧ (Fld Z h ob o_n0 "heapIndex" "[I" (.ref vx)) ∧ (Fld Z h ob o_n0 "heapSize" "I" (.int 3)) ∧ (Arv Z h vh kh .int 3 [(.int 0), (.int 1), (.int 2)] (.int 0)) ∧ (Arv Z h vx kx .int 3 [(.int 0), (.int 1), (.int 2)] (.int 0)) ∧ (Fld Z h ob o_n0 "bump" "D" (.double o_d0))
set_option maxRecDepth 65536 in
set_option maxHeartbeats 40000000 in
theorem rm3v2 (l : Launch) (Z : State) (a0 : Array Value) (hw : ∀ d ∈ tables_1, d.before a0 Z = true) (ws : List Jvm.Cond) (ob : Addr) (va : Addr) (vh : Addr) (vx : Addr) (ka : ClassId) (kh : ClassId) (kx : ClassId) (h0 : Heap) (n0 : Nat) (Z0 : n0 ≤ h0.size) (P0 : Exa Z h0 ob o_n0) (P1 : Fld Z h0 ob o_n0 "activity" "[D" (.ref va)) (P2 : Fld Z h0 ob o_n0 "heap" "[I" (.ref vh)) (P3 : Fld Z h0 ob o_n0 "heapIndex" "[I" (.ref vx)) (P4 : Fld Z h0 ob o_n0 "heapSize" "I" (.int 2)) (P5 : Arv Z h0 va ka .double (3 : Int32) [(.double 0), (.double 0), (.double 0)] (.double 0)) (P6 : Arv Z h0 vh kh .int 3 [(.int 0), (.int 1), (.int 0)] (.int 0)) (P7 : Arv Z h0 vx kx .int 3 [(.int 0), (.int 1), (.int (-1))] (.int 0)) (P8 : n0 ≤ ob) (P9 : n0 ≤ vh) (P10 : n0 ≤ vx) (P11 : ob ≠ va) (P12 : ob ≠ vh) (P13 : ob ≠ vx) (P14 : va ≠ vh) (P15 : va ≠ vx) (P16 : vh ≠ vx) (P17 : Fld Z h0 ob o_n0 "bump" "D" (.double o_d0)) :
    MetFree l (⟨o_n0, "add", "(I)V"⟩ : MethodName) (head1 (Jvm.Cond.code (⟨o_n0, "add", "(I)V"⟩ : MethodName) prog_7_method_3_code 2 none :: ws) ({ frames := 2, cells := 0, slots := 0, locals := 29 } : Room)) (fun argz U => argz = #[(.ref ob), (.int 2)] ∧ Z.Warmed39 U.vm ∧ U.heap = h0) (fun _ _ _ _ _ => True) (fun _ U o U' => ∃ v L, o = .returned v ∧ Q3v2 Z ob va vh vx ka kh kx h0 n0 v U'.heap L ∧ FrameEnd U o U' L ({ frames := 2, cells := 0, slots := 0, locals := 29 } : Room).cells ({ frames := 2, cells := 0, slots := 0, locals := 29 } : Room).slots) := by
  refine MetFree.of_bodySF (plainFor_of_name pn_com_example_gridwright_gridwright_core_ActivityOrder) hisR ?_
  intro p e s m args below meth c s₁ Bd hml0 hP hK
  obtain ⟨rfl, hZ, hh⟩ := hP
  have hx := Bd.exec
  have hby := Bd.bytes
  have hml : c.maxLocals = 2 := hml0
  have hown : s.vm.findClass o_n0 = some m.cls := findClass_of_methodNamed Bd.named
  have hnm := (name_of_methodNamed Bd.named Bd.method).1
  have X0 : Stand p l e ({ frames := 2, cells := 0, slots := 0, locals := 29 } : Room) s m #[(.ref ob), (.int 2)] below meth c s₁ [] 0 0 := Stand.of_body Bd
  have e0 : s₁.heap = h0 := by rw [← hh, Bd.state]; rfl
  have N0 := Fr.nil n0
  have K0 : Keep h0 h0 [ob, vh, vx] := Keep.refl _ _
  have G : Gets p e below (s₁.setTop (entryFrame m #[(.ref ob), (.int 2)] 2)) (s₁.setTop (mkF m 0 #[.val (.ref ob), .val (.int 2)] [])) := fun t k => castTop (ef_3v2 m ob) k
  replace G := o_aloadN (q := 1) G X0.here hx (hb hby d3_0) rfl rfl rfl
  obtain ⟨T1, X1, e1, st1⟩ := getF X0 hx hZ hown (host := "") (Or.inl (o_w hw 18 rfl)) Via.refl e0 P3 (g := o_g G) rfl rfl (hb hby d3_1)
  replace G := o_nxs (q := 4) (st := [(.ref vx)]) G st1 rfl
  replace G := o_iloadN (q := 5) G X1.here hx (hb hby d3_4) rfl rfl
  obtain ⟨c2, Ar2, -, S2, -, H2, -⟩ := id P7
  have hin2 : ¬ ((2 : Int32) < 0 ∨ c2.slots.size ≤ ((2 : Int32)).toNatClampNeg) := inb_of S2 ⟨by decide, by decide⟩
  replace G := o_nxs (q := 6) (st := [(.int (-1))]) G (X1.iaload hx (j := (2 : Int32)) (v := (.int (-1))) (by rw [e1]; exact Ar2.1) (State.isArrayOf_alike hZ.alike Ar2.2.1) Ar2.2.2 hin2 (Has.at H2 hin2 rfl) (g := o_g G) rfl rfl (hb hby d3_5)) rfl
  replace G := o_ifNo (q := 9) G X1.here hx (hb hby d3_6) (by decide) rfl
  replace G := o_aloadN (q := 10) G X1.here hx (hb hby d3_9) rfl rfl rfl
  obtain ⟨T4, X4, e4, st4⟩ := getF X1 hx hZ hown (host := "") (Or.inl (o_w hw 16 rfl)) Via.refl e1 P2 (g := o_g G) rfl rfl (hb hby d3_10)
  replace G := o_nxs (q := 13) (st := [(.ref vh)]) G st4 rfl
  replace G := o_aloadN (q := 14) G X4.here hx (hb hby d3_13) rfl rfl rfl
  obtain ⟨T5, X5, e5, st5⟩ := getF X4 hx hZ hown (host := "") (Or.inl (o_w hw 25 rfl)) Via.refl e4 P4 (g := o_g G) rfl rfl (hb hby d3_14)
  replace G := o_nxs (q := 17) (st := [(.int 2), (.ref vh)]) G st5 rfl
  replace G := o_iloadN (q := 18) G X5.here hx (hb hby d3_17) rfl rfl
  obtain ⟨c6, Ar6, q6, S6, N6', H6, G6'⟩ := id P6
  have hin6 : ¬ ((2 : Int32) < 0 ∨ c6.slots.size ≤ ((2 : Int32)).toNatClampNeg) := inb_of S6 ⟨by decide, by decide⟩
  obtain ⟨T6, h6, X6, e6, W6, st6⟩ := stI X5 hx hZ e5 Ar6 (j := (2 : Int32)) hin6 (g := o_g G) rfl rfl (hb hby d3_18)
  have N6 := Fr.snoc X6 N0 P9
  have Z6 : n0 ≤ h6.size := Nat.le_trans Z0 (Keep.of_wr W6).1
  have K6 : Keep h0 h6 [ob, vh, vx] := K0.wr W6 (Or.inl (List.mem_of_getElem? (i := 1) rfl))
  have V6 : Arv Z h6 vh kh .int 3 [(.int 0), (.int 1), (.int 2)] (.int 0) := Arv.set Ar6 q6 S6 N6' H6 G6' rfl W6 2 rfl (Nat.le_of_ble_eq_true rfl)
  replace G := o_nxs (q := 19) (st := []) G st6 rfl
  replace G := o_aloadN (q := 20) G X6.here hx (hb hby d3_19) rfl rfl rfl
  have F7 := (P3.other W6 (Or.inl P12))
  obtain ⟨T8, X8, e8, st8⟩ := getF X6 hx hZ hown (host := "") (Or.inl (o_w hw 18 rfl)) Via.refl e6 F7 (g := o_g G) rfl rfl (hb hby d3_20)
  replace G := o_nxs (q := 23) (st := [(.ref vx)]) G st8 rfl
  replace G := o_iloadN (q := 24) G X8.here hx (hb hby d3_23) rfl rfl
  replace G := o_aloadN (q := 25) G X8.here hx (hb hby d3_24) rfl rfl rfl
  have F9 := (P4.other W6 (Or.inl P12))
  obtain ⟨T10, X10, e10, st10⟩ := getF X8 hx hZ hown (host := "") (Or.inl (o_w hw 25 rfl)) Via.refl e8 F9 (g := o_g G) rfl rfl (hb hby d3_25)
  replace G := o_nxs (q := 28) (st := [(.int 2), (.int 2), (.ref vx)]) G st10 rfl
  have F11 := (P7.other W6 (Ne.symm P16))
  obtain ⟨c12, Ar12, q12, S12, N12', H12, G12'⟩ := id F11
  have hin12 : ¬ ((2 : Int32) < 0 ∨ c12.slots.size ≤ ((2 : Int32)).toNatClampNeg) := inb_of S12 ⟨by decide, by decide⟩
  obtain ⟨T12, h12, X12, e12, W12, st12⟩ := stI X10 hx hZ e10 Ar12 (j := (2 : Int32)) hin12 (g := o_g G) rfl rfl (hb hby d3_28)
  have N12 := Fr.snoc X12 N6 P10
  have Z12 : n0 ≤ h12.size := Nat.le_trans Z6 (Keep.of_wr W12).1
  have K12 : Keep h0 h12 [ob, vh, vx] := K6.wr W12 (Or.inl (List.mem_of_getElem? (i := 2) rfl))
  have V12 : Arv Z h12 vx kx .int 3 [(.int 0), (.int 1), (.int 2)] (.int 0) := Arv.set Ar12 q12 S12 N12' H12 G12' rfl W12 2 rfl (Nat.le_of_ble_eq_true rfl)
  replace G := o_nxs (q := 29) (st := []) G st12 rfl
  replace G := o_aloadN (q := 30) G X12.here hx (hb hby d3_29) rfl rfl rfl
  replace G := o_dup (q := 31) G X12.here hx (hb hby d3_30) rfl rfl
  have F13 := (F9.other W12 (Or.inl P13))
  obtain ⟨T14, X14, e14, st14⟩ := getF X12 hx hZ hown (host := "") (Or.inl (o_w hw 25 rfl)) Via.refl e12 F13 (g := o_g G) rfl rfl (hb hby d3_31)
  replace G := o_nxs (q := 34) (st := [(.int 2), (.ref ob)]) G st14 rfl
  replace G := o_iconst (q := 35) G X14.here hx (hb hby d3_34) (v := (1 : Int32)) (by decide) rfl
  replace G := o_iadd (q := 36) G X14.here hx (hb hby d3_35) (by decide : ((2 : Int32) + (1 : Int32)) = (3 : Int32)) rfl
  have F15 := ((P0.wr W6).wr W12)
  obtain ⟨T16, h16, X16, e16, W16, st16⟩ := putF X14 hx hZ hown (host := "") (Or.inl (o_w hw 25 rfl)) Via.refl e14 F13 F15 (Or.inl (o_w hw 26 rfl)) (o_w hw 2 rfl) (ty := .int) (by decide) rfl rfl (g := o_g G) rfl rfl (hb hby d3_36)
  have N16 := Fr.snoc X16 N12 P8
  have Z16 : n0 ≤ h16.size := Nat.le_trans Z12 (Keep.of_wr W16).1
  have K16 : Keep h0 h16 [ob, vh, vx] := K12.wr W16 (Or.inl (List.mem_of_getElem? (i := 0) rfl))
  have F16 : Fld Z h16 ob o_n0 "heapSize" "I" (.int 3) := F13.same W16
  replace G := o_nxs (q := 39) (st := []) G st16 rfl
  replace G := o_aloadN (q := 40) G X16.here hx (hb hby d3_39) rfl rfl rfl
  replace G := o_aloadN (q := 41) G X16.here hx (hb hby d3_40) rfl rfl rfl
  obtain ⟨T17, X17, e17, st17⟩ := getF X16 hx hZ hown (host := "") (Or.inl (o_w hw 25 rfl)) Via.refl e16 F16 (g := o_g G) rfl rfl (hb hby d3_41)
  replace G := o_nxs (q := 44) (st := [(.int 3), (.ref ob)]) G st17 rfl
  replace G := o_iconst (q := 45) G X17.here hx (hb hby d3_44) (v := (1 : Int32)) (by decide) rfl
  replace G := o_isub (q := 46) G X17.here hx (hb hby d3_45) (by decide : ((3 : Int32) - (1 : Int32)) = (2 : Int32)) rfl
  have F19 := (F15.wr W16)
  have F20 := (((P1.other W6 (Or.inl P12)).other W12 (Or.inl P13)).other W16 (Or.inr (slot_ne (Or.inr (o_w hw 14 rfl)) (Or.inl (o_w hw 26 rfl)) (by decide) (t := (.array .double)) (t' := .int) (by decide) (by decide))))
  have F21 := (((P2.other W6 (Or.inl P12)).other W12 (Or.inl P13)).other W16 (Or.inr (slot_ne (Or.inr (o_w hw 17 rfl)) (Or.inl (o_w hw 26 rfl)) (by decide) (t := (.array .int)) (t' := .int) (by decide) (by decide))))
  have F22 := ((F7.other W12 (Or.inl P13)).other W16 (Or.inr (slot_ne (Or.inr (o_w hw 19 rfl)) (Or.inl (o_w hw 26 rfl)) (by decide) (t := (.array .int)) (t' := .int) (by decide) (by decide))))
  have F23 := (((P5.other W6 P14).other W12 P15).other W16 (Ne.symm P11))
  have F24 := ((V6.other W12 P16).other W16 (Ne.symm P12))
  have F25 := (V12.other W16 (Ne.symm P13))
  obtain ⟨cq18, q18, q18'⟩ := F19.cell
  obtain ⟨_, _, ⟨T18, L18, kk18, nn18⟩, -, X18, ⟨Lc18, hQ18, l18, y18, z18⟩, st18⟩ := X17.privateBack hx (y := (⟨o_n0, "siftUp", "(I)V"⟩ : MethodName)) hown (mvT hZ (o_w hw 27 rfl)) (mvT hZ (o_w hw 28 rfl)) (o_sel (z := (⟨o_n0, "add", "(I)V"⟩ : MethodName)) rfl (mvT hZ (o_w hw 22 rfl)) (mvT hZ (o_w hw 23 rfl)) (mvT hZ (o_w hw 28 rfl)) (Cond.privateMethod_at (mvP hZ (o_w hw 29 rfl) (args := #[]))) (by decide)) (Cond.privateMethod_at (mvP hZ (o_w hw 29 rfl) (args := #[]))) (mvT hZ (o_w hw 30 rfl)) (by decide) (backOf (W := 0) (rm4f2f l Z a0 hw [] ob va vh vx ka kh kx (0 : Int32) (1 : Int32) (2 : Int32) [(.double 0), (.double 0), (.double 0)] [(.int 0), (.int 1), (.int 2)] [(.int 0), (.int 1), (.int 2)] (0 : UInt64) (0 : UInt64) h16 n0 Z16 F19 F20 F21 F22 F23 F24 F25 P9 P10 P11 P12 P13 P14 P15 P16 ⟨by decide, by decide⟩ ⟨by decide, by decide⟩ rfl rfl rfl (by decide +kernel) rfl) hZ (o_w hw 30 rfl) (o_w hw 3 rfl) (by decide) (by decide)) (g := o_g G) rfl (by rw [hml]; rfl) (Steps.refl _) (a := ob) (by rw [e17]; exact q18) q18' (argsL := [(.int 2)]) (rest := []) (lenOf pd_1 rfl) rfl (by show 2 * 0 + _ ≤ _; exact Nat.le_of_eq rfl) (hb hby d3_46) (fun _ _ => ⟨rfl, e17, (by decide : 0 + 0 ≤ _), (by decide : 0 + 0 ≤ _)⟩)
  dsimp only [Pt.U, Pt.locs, Pt.cells, Pt.slots] at X18 l18 y18 z18 st18 hQ18
  subst l18 y18 z18
  obtain ⟨rfl, N18q, K18q, B18_0, B18_1⟩ := hQ18
  have Z18 : n0 ≤ T18.heap.size := Nat.le_trans Z16 K18q.1
  have K18 : Keep h0 T18.heap [ob, vh, vx] := K16.trans K18q (allS (Or.inl (List.mem_of_getElem? (i := 1) rfl)) (allS (Or.inl (List.mem_of_getElem? (i := 2) rfl)) all0))
  have N18 := Fr.app N16 N18q
  replace G := o_nxv (q := 49) (st := []) G st18 rfl
  obtain ⟨fs, hr, hrun, hended, hW, hsame⟩ := X18.leave (v := none) (fun _ => rfl)
  refine ⟨_, _, G _ (X18.returnOut hx Bd.returns (hb hby d3_49) hr), hrun, hended, _, _, rfl, ?_, ⟨_, rfl⟩, hW, hsame.mono (by decide) (by decide)⟩
  have F26 := (F20.keep K18q (ninS P12 (ninS P13 nin0)))
  have F27 := (F21.keep K18q (ninS P12 (ninS P13 nin0)))
  have F28 := (F22.keep K18q (ninS P12 (ninS P13 nin0)))
  have F29 := (F16.keep K18q (ninS P12 (ninS P13 nin0)))
  have F30 := ((((P17.other W6 (Or.inl P12)).other W12 (Or.inl P13)).other W16 (Or.inr (slot_ne (Or.inl (o_w hw 11 rfl)) (Or.inl (o_w hw 26 rfl)) (by decide) (t := .double) (t' := .int) (by decide) (by decide)))).keep K18q (ninS P12 (ninS P13 nin0)))
  show Q3v2 Z ob va vh vx ka kh kx h0 n0 _ T18.heap _
  exact ⟨rfl, N18, K18, F26, F27, F28, F29, B18_0, B18_1, F30⟩
theorem d1_0 : decode prog_7_method_1_code 0 = .ok (.aload_n 0, 1) := by decide +kernel
theorem d1_1 : decode prog_7_method_1_code 1 = .ok (.invokespecial 1, 3) := by decide +kernel
theorem d1_4 : decode prog_7_method_1_code 4 = .ok (.aload_n 0, 1) := by decide +kernel
theorem d1_5 : decode prog_7_method_1_code 5 = .ok (.dconst 1, 1) := by decide +kernel
theorem d1_6 : decode prog_7_method_1_code 6 = .ok (.putfield 7, 3) := by decide +kernel
theorem d1_9 : decode prog_7_method_1_code 9 = .ok (.aload_n 0, 1) := by decide +kernel
theorem d1_10 : decode prog_7_method_1_code 10 = .ok (.iload_n 1, 1) := by decide +kernel
theorem d1_11 : decode prog_7_method_1_code 11 = .ok (.newarray .double, 2) := by decide +kernel
theorem d1_13 : decode prog_7_method_1_code 13 = .ok (.putfield 13, 3) := by decide +kernel
theorem d1_16 : decode prog_7_method_1_code 16 = .ok (.aload_n 0, 1) := by decide +kernel
theorem d1_17 : decode prog_7_method_1_code 17 = .ok (.iload_n 1, 1) := by decide +kernel
theorem d1_18 : decode prog_7_method_1_code 18 = .ok (.newarray .int, 2) := by decide +kernel
theorem d1_20 : decode prog_7_method_1_code 20 = .ok (.putfield 17, 3) := by decide +kernel
theorem d1_23 : decode prog_7_method_1_code 23 = .ok (.aload_n 0, 1) := by decide +kernel
theorem d1_24 : decode prog_7_method_1_code 24 = .ok (.iload_n 1, 1) := by decide +kernel
theorem d1_25 : decode prog_7_method_1_code 25 = .ok (.newarray .int, 2) := by decide +kernel
theorem d1_27 : decode prog_7_method_1_code 27 = .ok (.putfield 21, 3) := by decide +kernel
theorem d1_30 : decode prog_7_method_1_code 30 = .ok (.iconst 0, 1) := by decide +kernel
theorem d1_31 : decode prog_7_method_1_code 31 = .ok (.istore_n 3, 1) := by decide +kernel
theorem d1_32 : decode prog_7_method_1_code 32 = .ok (.iload_n 3, 1) := by decide +kernel
theorem d1_33 : decode prog_7_method_1_code 33 = .ok (.iload_n 1, 1) := by decide +kernel
theorem d1_34 : decode prog_7_method_1_code 34 = .ok (.if_icmp .ge 39, 3) := by decide +kernel
theorem d1_37 : decode prog_7_method_1_code 37 = .ok (.aload_n 0, 1) := by decide +kernel
theorem d1_38 : decode prog_7_method_1_code 38 = .ok (.getfield 13, 3) := by decide +kernel
theorem d1_41 : decode prog_7_method_1_code 41 = .ok (.iload_n 3, 1) := by decide +kernel
theorem d1_42 : decode prog_7_method_1_code 42 = .ok (.aload_n 2, 1) := by decide +kernel
theorem d1_43 : decode prog_7_method_1_code 43 = .ok (.ifnonnull 7, 3) := by decide +kernel
theorem d1_46 : decode prog_7_method_1_code 46 = .ok (.dconst 0, 1) := by decide +kernel
theorem d1_47 : decode prog_7_method_1_code 47 = .ok (.goto 7, 3) := by decide +kernel
theorem d1_54 : decode prog_7_method_1_code 54 = .ok (.dastore, 1) := by decide +kernel
theorem d1_55 : decode prog_7_method_1_code 55 = .ok (.aload_n 0, 1) := by decide +kernel
theorem d1_56 : decode prog_7_method_1_code 56 = .ok (.getfield 21, 3) := by decide +kernel
theorem d1_59 : decode prog_7_method_1_code 59 = .ok (.iload_n 3, 1) := by decide +kernel
theorem d1_60 : decode prog_7_method_1_code 60 = .ok (.iconst (-1), 1) := by decide +kernel
theorem d1_61 : decode prog_7_method_1_code 61 = .ok (.iastore, 1) := by decide +kernel
theorem d1_62 : decode prog_7_method_1_code 62 = .ok (.aload_n 0, 1) := by decide +kernel
theorem d1_63 : decode prog_7_method_1_code 63 = .ok (.iload_n 3, 1) := by decide +kernel
theorem d1_64 : decode prog_7_method_1_code 64 = .ok (.invokevirtual 30, 3) := by decide +kernel
theorem d1_67 : decode prog_7_method_1_code 67 = .ok (.iinc 3 1, 3) := by decide +kernel
theorem d1_70 : decode prog_7_method_1_code 70 = .ok (.goto (-38), 3) := by decide +kernel
theorem d1_73 : decode prog_7_method_1_code 73 = .ok (.return_, 1) := by decide +kernel
theorem ef_1 (m : MethodId) (x0 : Addr) : entryFrame m #[(.ref x0), (.int 3), .null] 4 = mkF m 0 #[.val (.ref x0), .val (.int 3), .val .null, .unset] [] := by first | (simp [entryFrame, mkF, argsToLocals, Value.category]; done) | rfl
def Q1 (Z : State) (ob : Addr) (h0 : Heap) (n0 : Nat) (v : Option Value) (h : Heap) (L : List Loc) : Prop := ∃ (va : Addr) (vh : Addr) (vx : Addr) (ka : ClassId) (kh : ClassId) (kx : ClassId), v = none ∧ Fr n0 L ∧ Keep h0 h [ob] ∧ (Fld Z h ob o_n0 "activity" "[D" (.ref va)) ∧ (Fld Z h ob o_n0 "heap" "[I" (.ref vh)) ∧ (Fld Z h ob o_n0 "heapIndex" "[I" (.ref vx)) ∧ (Fld Z h ob o_n0 "heapSize" "I" (.int 3)) ∧ (Fld Z h ob o_n0 "bump" "D" (.double o_d0)) ∧ h0.size ≤ va ∧ h0.size ≤ vh ∧ h0.size ≤ vx ∧ va ≠ vh ∧ va ≠ vx ∧ vh ≠ vx ∧ (Arv Z h va ka .double (3 : Int32) [(.double 0), (.double 0), (.double 0)] (.double 0)) ∧ (Arv Z h vh kh .int 3 [(.int 0), (.int 1), (.int 2)] (.int 0)) ∧ (Arv Z h vx kx .int 3 [(.int 0), (.int 1), (.int 2)] (.int 0))
set_option maxRecDepth 65536 in
set_option maxHeartbeats 40000000 in
theorem rm1 (l : Launch) (Z : State) (a0 : Array Value) (hw : ∀ d ∈ tables_1, d.before a0 Z = true) (ws : List Jvm.Cond) (ob : Addr) (h0 : Heap) (n0 : Nat) (Z0 : n0 ≤ h0.size) (P0 : Exa Z h0 ob o_n0) (P1 : Fld Z h0 ob o_n0 "activity" "[D" .null) (P2 : Fld Z h0 ob o_n0 "heap" "[I" .null) (P3 : Fld Z h0 ob o_n0 "heapIndex" "[I" .null) (P4 : Fld Z h0 ob o_n0 "heapSize" "I" (.int 0)) (P5 : Fld Z h0 ob o_n0 "bump" "D" (.double 0)) (P6 : n0 ≤ ob) :
    MetFree l (⟨o_n0, "<init>", "(ILcom/example/gridwright/gridwright/core/SplitMix64;)V"⟩ : MethodName) (head1 (Jvm.Cond.code (⟨o_n0, "<init>", "(ILcom/example/gridwright/gridwright/core/SplitMix64;)V"⟩ : MethodName) prog_7_method_1_code 4 none :: ws) ({ frames := 3, cells := 3, slots := 9, locals := 42 } : Room)) (fun argz U => argz = #[(.ref ob), (.int 3), .null] ∧ Z.Warmed39 U.vm ∧ U.heap = h0) (fun _ _ _ _ _ => True) (fun _ U o U' => ∃ v L, o = .returned v ∧ Q1 Z ob h0 n0 v U'.heap L ∧ FrameEnd U o U' L ({ frames := 3, cells := 3, slots := 9, locals := 42 } : Room).cells ({ frames := 3, cells := 3, slots := 9, locals := 42 } : Room).slots) := by
  refine MetFree.of_bodySF (plainFor_of_name pn_com_example_gridwright_gridwright_core_ActivityOrder) hisR ?_
  intro p e s m args below meth c s₁ Bd hml0 hP hK
  obtain ⟨rfl, hZ, hh⟩ := hP
  have hx := Bd.exec
  have hby := Bd.bytes
  have hml : c.maxLocals = 4 := hml0
  have hown : s.vm.findClass o_n0 = some m.cls := findClass_of_methodNamed Bd.named
  have hnm := (name_of_methodNamed Bd.named Bd.method).1
  have X0 : Stand p l e ({ frames := 3, cells := 3, slots := 9, locals := 42 } : Room) s m #[(.ref ob), (.int 3), .null] below meth c s₁ [] 0 0 := Stand.of_body Bd
  have e0 : s₁.heap = h0 := by rw [← hh, Bd.state]; rfl
  have N0 := Fr.nil n0
  have K0 : Keep h0 h0 [ob] := Keep.refl _ _
  have G : Gets p e below (s₁.setTop (entryFrame m #[(.ref ob), (.int 3), .null] 4)) (s₁.setTop (mkF m 0 #[.val (.ref ob), .val (.int 3), .val .null, .unset] [])) := fun t k => castTop (ef_1 m ob) k
  replace G := o_aloadN (q := 1) G X0.here hx (hb hby d1_0) rfl rfl rfl
  obtain ⟨T1, X1, e1, st1⟩ := initO X0 hx hZ hown (o_w hw 7 rfl) (o_w hw 8 rfl) (o_w hw 9 rfl) e0 (g := o_g G) rfl (by rw [hml]; rfl) rfl (hb hby d1_1) (by decide) (W := 0) (by show 2 * 0 + _ ≤ _; exact Nat.le_of_eq rfl) (by decide)
  replace G := o_nxs (q := 4) (st := []) G st1 rfl
  replace G := o_aloadN (q := 5) G X1.here hx (hb hby d1_4) rfl rfl rfl
  replace G := o_dconst1 (q := 6) G X1.here hx (hb hby d1_5) (v := o_d0) (by decide +kernel) rfl
  obtain ⟨T2, h2, X2, e2, W2, st2⟩ := putF X1 hx hZ hown (host := "") (Or.inl (o_w hw 10 rfl)) Via.refl e1 P5 P0 (Or.inl (o_w hw 11 rfl)) (o_w hw 2 rfl) (ty := .double) (by decide) rfl rfl (g := o_g G) rfl rfl (hb hby d1_6)
  have N2 := Fr.snoc X2 N0 P6
  have Z2 : n0 ≤ h2.size := Nat.le_trans Z0 (Keep.of_wr W2).1
  have K2 : Keep h0 h2 [ob] := K0.wr W2 (Or.inl (List.mem_of_getElem? (i := 0) rfl))
  have F2 : Fld Z h2 ob o_n0 "bump" "D" (.double o_d0) := P5.same W2
  replace G := o_nxs (q := 9) (st := []) G st2 rfl
  replace G := o_aloadN (q := 10) G X2.here hx (hb hby d1_9) rfl rfl rfl
  replace G := o_iloadN (q := 11) G X2.here hx (hb hby d1_10) rfl rfl
  obtain ⟨T3, h3, k3, X3, e3, E3, A3, st3⟩ := newP X2 hx hZ (o_w hw 12 rfl) e2 (g := o_g G) rfl (hb hby d1_11) rfl (by decide) (cap := 3) (by decide) (by decide) (by decide) (by decide)
  obtain ⟨b3, g3⟩ : ∃ z, z = h2.size := ⟨_, rfl⟩
  rw [← g3] at A3 st3
  have ne4 : ob ≠ b3 := Nat.ne_of_lt (Nat.lt_of_lt_of_le F2.lt (Nat.le_of_eq g3.symm))
  have ge_b3 : n0 ≤ b3 := Nat.le_trans Z2 (Nat.le_of_eq g3.symm)
  have sz_b3 : h0.size ≤ b3 := Nat.le_trans K2.1 (Nat.le_of_eq g3.symm)
  have Z3 : n0 ≤ h3.size := Nat.le_trans Z2 E3.1
  have K3 : Keep h0 h3 [ob] := K2.ext E3
  have V3 : Arv Z h3 b3 k3 .double (3 : Int32) [(.double 0), (.double 0), (.double 0)] (.double 0) := (Arv.new A3 (by decide)).pad (pad_rep [] (.double 0) 3)
  replace G := o_nxs (q := 13) (st := [(.ref b3), (.ref ob)]) G st3 rfl
  have F5 := ((P0.wr W2).ext E3)
  have F6 := ((P1.other W2 (Or.inr (slot_ne (Or.inr (o_w hw 14 rfl)) (Or.inl (o_w hw 11 rfl)) (by decide) (t := (.array .double)) (t' := .double) (by decide) (by decide)))).ext E3)
  obtain ⟨T7, h7, X7, e7, W7, st7⟩ := putF X3 hx hZ hown (host := "") (Or.inl (o_w hw 13 rfl)) Via.refl e3 F6 F5 (Or.inr ⟨(o_w hw 14 rfl), rfl, hnm⟩) (o_w hw 2 rfl) (ty := (.array .double)) (by decide) rfl rfl (g := o_g G) rfl rfl (hb hby d1_13)
  have N7 := Fr.snoc X7 N2 P6
  have Z7 : n0 ≤ h7.size := Nat.le_trans Z3 (Keep.of_wr W7).1
  have K7 : Keep h0 h7 [ob] := K3.wr W7 (Or.inl (List.mem_of_getElem? (i := 0) rfl))
  have F7 : Fld Z h7 ob o_n0 "activity" "[D" (.ref b3) := F6.same W7
  replace G := o_nxs (q := 16) (st := []) G st7 rfl
  replace G := o_aloadN (q := 17) G X7.here hx (hb hby d1_16) rfl rfl rfl
  replace G := o_iloadN (q := 18) G X7.here hx (hb hby d1_17) rfl rfl
  obtain ⟨T8, h8, k8, X8, e8, E8, A8, st8⟩ := newP X7 hx hZ (o_w hw 15 rfl) e7 (g := o_g G) rfl (hb hby d1_18) rfl (by decide) (cap := 3) (by decide) (by decide) (by decide) (by decide)
  obtain ⟨b8, g8⟩ : ∃ z, z = h7.size := ⟨_, rfl⟩
  rw [← g8] at A8 st8
  have ne9 : ob ≠ b8 := Nat.ne_of_lt (Nat.lt_of_lt_of_le F7.lt (Nat.le_of_eq g8.symm))
  have F10 := (V3.other W7 (Ne.symm ne4))
  have ne11 : b3 ≠ b8 := Nat.ne_of_lt (Nat.lt_of_lt_of_le F10.lt (Nat.le_of_eq g8.symm))
  have ge_b8 : n0 ≤ b8 := Nat.le_trans Z7 (Nat.le_of_eq g8.symm)
  have sz_b8 : h0.size ≤ b8 := Nat.le_trans K7.1 (Nat.le_of_eq g8.symm)
  have Z8 : n0 ≤ h8.size := Nat.le_trans Z7 E8.1
  have K8 : Keep h0 h8 [ob] := K7.ext E8
  have V8 : Arv Z h8 b8 k8 .int 3 [(.int 0), (.int 0), (.int 0)] (.int 0) := (Arv.new A8 (by decide)).pad (pad_rep [] (.int 0) 3)
  replace G := o_nxs (q := 20) (st := [(.ref b8), (.ref ob)]) G st8 rfl
  have F12 := ((F5.wr W7).ext E8)
  have F13 := ((((P2.other W2 (Or.inr (slot_ne (Or.inr (o_w hw 17 rfl)) (Or.inl (o_w hw 11 rfl)) (by decide) (t := (.array .int)) (t' := .double) (by decide) (by decide)))).ext E3).other W7 (Or.inr (slot_ne (Or.inr (o_w hw 17 rfl)) (Or.inr (o_w hw 14 rfl)) (by decide) (t := (.array .int)) (t' := (.array .double)) (by decide) (by decide)))).ext E8)
  obtain ⟨T14, h14, X14, e14, W14, st14⟩ := putF X8 hx hZ hown (host := "") (Or.inl (o_w hw 16 rfl)) Via.refl e8 F13 F12 (Or.inr ⟨(o_w hw 17 rfl), rfl, hnm⟩) (o_w hw 2 rfl) (ty := (.array .int)) (by decide) rfl rfl (g := o_g G) rfl rfl (hb hby d1_20)
  have N14 := Fr.snoc X14 N7 P6
  have Z14 : n0 ≤ h14.size := Nat.le_trans Z8 (Keep.of_wr W14).1
  have K14 : Keep h0 h14 [ob] := K8.wr W14 (Or.inl (List.mem_of_getElem? (i := 0) rfl))
  have F14 : Fld Z h14 ob o_n0 "heap" "[I" (.ref b8) := F13.same W14
  replace G := o_nxs (q := 23) (st := []) G st14 rfl
  replace G := o_aloadN (q := 24) G X14.here hx (hb hby d1_23) rfl rfl rfl
  replace G := o_iloadN (q := 25) G X14.here hx (hb hby d1_24) rfl rfl
  obtain ⟨T15, h15, k15, X15, e15, E15, A15, st15⟩ := newP X14 hx hZ (o_w hw 15 rfl) e14 (g := o_g G) rfl (hb hby d1_25) rfl (by decide) (cap := 3) (by decide) (by decide) (by decide) (by decide)
  obtain ⟨b15, g15⟩ : ∃ z, z = h14.size := ⟨_, rfl⟩
  rw [← g15] at A15 st15
  have ne16 : ob ≠ b15 := Nat.ne_of_lt (Nat.lt_of_lt_of_le F14.lt (Nat.le_of_eq g15.symm))
  have F17 := (V8.other W14 (Ne.symm ne9))
  have ne18 : b8 ≠ b15 := Nat.ne_of_lt (Nat.lt_of_lt_of_le F17.lt (Nat.le_of_eq g15.symm))
  have F19 := ((F10.ext E8).other W14 (Ne.symm ne4))
  have ne20 : b3 ≠ b15 := Nat.ne_of_lt (Nat.lt_of_lt_of_le F19.lt (Nat.le_of_eq g15.symm))
  have ge_b15 : n0 ≤ b15 := Nat.le_trans Z14 (Nat.le_of_eq g15.symm)
  have sz_b15 : h0.size ≤ b15 := Nat.le_trans K14.1 (Nat.le_of_eq g15.symm)
  have Z15 : n0 ≤ h15.size := Nat.le_trans Z14 E15.1
  have K15 : Keep h0 h15 [ob] := K14.ext E15
  have V15 : Arv Z h15 b15 k15 .int 3 [(.int 0), (.int 0), (.int 0)] (.int 0) := (Arv.new A15 (by decide)).pad (pad_rep [] (.int 0) 3)
  replace G := o_nxs (q := 27) (st := [(.ref b15), (.ref ob)]) G st15 rfl
  have F21 := ((F12.wr W14).ext E15)
  have F22 := ((((((P3.other W2 (Or.inr (slot_ne (Or.inr (o_w hw 19 rfl)) (Or.inl (o_w hw 11 rfl)) (by decide) (t := (.array .int)) (t' := .double) (by decide) (by decide)))).ext E3).other W7 (Or.inr (slot_ne (Or.inr (o_w hw 19 rfl)) (Or.inr (o_w hw 14 rfl)) (by decide) (t := (.array .int)) (t' := (.array .double)) (by decide) (by decide)))).ext E8).other W14 (Or.inr (slot_ne (Or.inr (o_w hw 19 rfl)) (Or.inr (o_w hw 17 rfl)) (by decide) (t := (.array .int)) (t' := (.array .int)) (by decide) (by decide)))).ext E15)
  obtain ⟨T23, h23, X23, e23, W23, st23⟩ := putF X15 hx hZ hown (host := "") (Or.inl (o_w hw 18 rfl)) Via.refl e15 F22 F21 (Or.inr ⟨(o_w hw 19 rfl), rfl, hnm⟩) (o_w hw 2 rfl) (ty := (.array .int)) (by decide) rfl rfl (g := o_g G) rfl rfl (hb hby d1_27)
  have N23 := Fr.snoc X23 N14 P6
  have Z23 : n0 ≤ h23.size := Nat.le_trans Z15 (Keep.of_wr W23).1
  have K23 : Keep h0 h23 [ob] := K15.wr W23 (Or.inl (List.mem_of_getElem? (i := 0) rfl))
  have F23 : Fld Z h23 ob o_n0 "heapIndex" "[I" (.ref b15) := F22.same W23
  replace G := o_nxs (q := 30) (st := []) G st23 rfl
  replace G := o_iconst (q := 31) G X23.here hx (hb hby d1_30) (v := (0 : Int32)) (by decide) rfl
  replace G := o_istoreN (q := 32) (l' := #[.val (.ref ob), .val (.int 3), .val .null, .val (.int 0)]) G X23.here hx (hb hby d1_31) rfl rfl
  replace G := o_iloadN (q := 33) G X23.here hx (hb hby d1_32) rfl rfl
  replace G := o_iloadN (q := 34) G X23.here hx (hb hby d1_33) rfl rfl
  replace G := o_icmpNo (q := 37) G X23.here hx (hb hby d1_34) (by decide) rfl
  replace G := o_aloadN (q := 38) G X23.here hx (hb hby d1_37) rfl rfl rfl
  have F25 := ((((F7.ext E8).other W14 (Or.inr (slot_ne (Or.inr (o_w hw 14 rfl)) (Or.inr (o_w hw 17 rfl)) (by decide) (t := (.array .double)) (t' := (.array .int)) (by decide) (by decide)))).ext E15).other W23 (Or.inr (slot_ne (Or.inr (o_w hw 14 rfl)) (Or.inr (o_w hw 19 rfl)) (by decide) (t := (.array .double)) (t' := (.array .int)) (by decide) (by decide))))
  obtain ⟨T26, X26, e26, st26⟩ := getF X23 hx hZ hown (host := "") (Or.inl (o_w hw 13 rfl)) Via.refl e23 F25 (g := o_g G) rfl rfl (hb hby d1_38)
  replace G := o_nxs (q := 41) (st := [(.ref b3)]) G st26 rfl
  replace G := o_iloadN (q := 42) G X26.here hx (hb hby d1_41) rfl rfl
  replace G := o_aloadN (q := 43) G X26.here hx (hb hby d1_42) rfl rfl rfl
  replace G := o_ifnonnullNo (q := 46) G X26.here hx (hb hby d1_43) rfl
  replace G := o_dconst0 (q := 47) G X26.here hx (hb hby d1_46) (v := (0 : UInt64)) (by decide +kernel) rfl
  replace G := o_goto (q := 54) G X26.here hx (hb hby d1_47) (by decide) (by decide)
  have F27 := ((F19.ext E15).other W23 (Ne.symm ne4))
  obtain ⟨c28, Ar28, q28, S28, N28', H28, G28'⟩ := id F27
  have hin28 : ¬ ((0 : Int32) < 0 ∨ c28.slots.size ≤ ((0 : Int32)).toNatClampNeg) := inb_of S28 ⟨by decide, by decide⟩
  obtain ⟨T28, h28, X28, e28, W28, st28⟩ := stD X26 hx hZ e26 Ar28 (j := (0 : Int32)) hin28 (g := o_g G) rfl rfl (hb hby d1_54)
  have N28 := Fr.snoc X28 N23 ge_b3
  have Z28 : n0 ≤ h28.size := Nat.le_trans Z23 (Keep.of_wr W28).1
  have K28 : Keep h0 h28 [ob] := K23.wr W28 (Or.inr sz_b3)
  have V28 : Arv Z h28 b3 k3 .double (3 : Int32) [(.double 0), (.double 0), (.double 0)] (.double 0) := Arv.set Ar28 q28 S28 N28' H28 G28' rfl W28 0 rfl (Nat.le_of_ble_eq_true rfl)
  replace G := o_nxs (q := 55) (st := []) G st28 rfl
  replace G := o_aloadN (q := 56) G X28.here hx (hb hby d1_55) rfl rfl rfl
  have F29 := (F23.other W28 (Or.inl ne4))
  obtain ⟨T30, X30, e30, st30⟩ := getF X28 hx hZ hown (host := "") (Or.inl (o_w hw 18 rfl)) Via.refl e28 F29 (g := o_g G) rfl rfl (hb hby d1_56)
  replace G := o_nxs (q := 59) (st := [(.ref b15)]) G st30 rfl
  replace G := o_iloadN (q := 60) G X30.here hx (hb hby d1_59) rfl rfl
  replace G := o_iconst (q := 61) G X30.here hx (hb hby d1_60) (v := (-1 : Int32)) (by decide) rfl
  have F31 := ((V15.other W23 (Ne.symm ne16)).other W28 (Ne.symm ne20))
  obtain ⟨c32, Ar32, q32, S32, N32', H32, G32'⟩ := id F31
  have hin32 : ¬ ((0 : Int32) < 0 ∨ c32.slots.size ≤ ((0 : Int32)).toNatClampNeg) := inb_of S32 ⟨by decide, by decide⟩
  obtain ⟨T32, h32, X32, e32, W32, st32⟩ := stI X30 hx hZ e30 Ar32 (j := (0 : Int32)) hin32 (g := o_g G) rfl rfl (hb hby d1_61)
  have N32 := Fr.snoc X32 N28 ge_b15
  have Z32 : n0 ≤ h32.size := Nat.le_trans Z28 (Keep.of_wr W32).1
  have K32 : Keep h0 h32 [ob] := K28.wr W32 (Or.inr sz_b15)
  have V32 : Arv Z h32 b15 k15 .int 3 [(.int (-1)), (.int 0), (.int 0)] (.int 0) := Arv.set Ar32 q32 S32 N32' H32 G32' rfl W32 0 rfl (Nat.le_of_ble_eq_true rfl)
  replace G := o_nxs (q := 62) (st := []) G st32 rfl
  replace G := o_aloadN (q := 63) G X32.here hx (hb hby d1_62) rfl rfl rfl
  replace G := o_iloadN (q := 64) G X32.here hx (hb hby d1_63) rfl rfl
  have F34 := (((F21.wr W23).wr W28).wr W32)
  have F35 := ((F25.other W28 (Or.inl ne4)).other W32 (Or.inl ne16))
  have F36 := ((((F14.ext E15).other W23 (Or.inr (slot_ne (Or.inr (o_w hw 17 rfl)) (Or.inr (o_w hw 19 rfl)) (by decide) (t := (.array .int)) (t' := (.array .int)) (by decide) (by decide)))).other W28 (Or.inl ne4)).other W32 (Or.inl ne16))
  have F37 := (F29.other W32 (Or.inl ne16))
  have F38 := (((((((((P4.other W2 (Or.inr (slot_ne (Or.inl (o_w hw 26 rfl)) (Or.inl (o_w hw 11 rfl)) (by decide) (t := .int) (t' := .double) (by decide) (by decide)))).ext E3).other W7 (Or.inr (slot_ne (Or.inl (o_w hw 26 rfl)) (Or.inr (o_w hw 14 rfl)) (by decide) (t := .int) (t' := (.array .double)) (by decide) (by decide)))).ext E8).other W14 (Or.inr (slot_ne (Or.inl (o_w hw 26 rfl)) (Or.inr (o_w hw 17 rfl)) (by decide) (t := .int) (t' := (.array .int)) (by decide) (by decide)))).ext E15).other W23 (Or.inr (slot_ne (Or.inl (o_w hw 26 rfl)) (Or.inr (o_w hw 19 rfl)) (by decide) (t := .int) (t' := (.array .int)) (by decide) (by decide)))).other W28 (Or.inl ne4)).other W32 (Or.inl ne16))
  have F39 := (V28.other W32 ne20)
  have F40 := ((((F17.ext E15).other W23 (Ne.symm ne9)).other W28 (Ne.symm ne11)).other W32 ne18)
  have F41 := ((((((((F2.ext E3).other W7 (Or.inr (slot_ne (Or.inl (o_w hw 11 rfl)) (Or.inr (o_w hw 14 rfl)) (by decide) (t := .double) (t' := (.array .double)) (by decide) (by decide)))).ext E8).other W14 (Or.inr (slot_ne (Or.inl (o_w hw 11 rfl)) (Or.inr (o_w hw 17 rfl)) (by decide) (t := .double) (t' := (.array .int)) (by decide) (by decide)))).ext E15).other W23 (Or.inr (slot_ne (Or.inl (o_w hw 11 rfl)) (Or.inr (o_w hw 19 rfl)) (by decide) (t := .double) (t' := (.array .int)) (by decide) (by decide)))).other W28 (Or.inl ne4)).other W32 (Or.inl ne16))
  obtain ⟨T33, _, Lc33, X33, hQ33, G⟩ := o_vb (q := 67) (W := 0) (argsL := [(.int 0)]) (rest := []) (y := (⟨o_n0, "add", "(I)V"⟩ : MethodName)) G X32 hx hZ hown (by rw [hml]; rfl) ⟨(o_w hw 20 rfl), (o_w hw 21 rfl), (o_w hw 23 rfl), (o_w hw 22 rfl), (o_w hw 24 rfl), (o_w hw 3 rfl)⟩ (by decide) e32 F34 (rm3v0 l Z a0 hw [] ob b3 b8 b15 k3 k8 k15 h32 n0 Z32 F34 F35 F36 F37 F38 F39 F40 V32 P6 ge_b8 ge_b15 ne4 ne9 ne16 ne11 ne20 ne18 F41) (lenOf pd_1 rfl) rfl (Nat.le_of_eq rfl) (hb hby d1_64) rfl (by decide) (by decide) (by decide) (by decide)
  obtain ⟨rfl, N33q, K33q, B33_0, B33_1, B33_2, B33_3, B33_4, B33_5, B33_6⟩ := hQ33
  have Z33 : n0 ≤ T33.heap.size := Nat.le_trans Z32 K33q.1
  have K33 : Keep h0 T33.heap [ob] := K32.trans K33q (allS (Or.inl (List.mem_of_getElem? (i := 0) rfl)) (allS (Or.inr sz_b8) (allS (Or.inr sz_b15) all0)))
  have N33 := Fr.app N32 N33q
  replace G := o_re (st := []) G rfl
  replace G := o_iinc (q := 70) (l' := #[.val (.ref ob), .val (.int 3), .val .null, .val (.int 1)]) (w := (1 : Int32)) G X33.here hx (hb hby d1_67) (by decide) rfl (by decide : ((0 : Int32) + (1 : Int32)) = (1 : Int32)) rfl rfl
  replace G := o_goto (q := 32) G X33.here hx (hb hby d1_70) (by decide) (by decide)
  replace G := o_iloadN (q := 33) G X33.here hx (hb hby d1_32) rfl rfl
  replace G := o_iloadN (q := 34) G X33.here hx (hb hby d1_33) rfl rfl
  replace G := o_icmpNo (q := 37) G X33.here hx (hb hby d1_34) (by decide) rfl
  replace G := o_aloadN (q := 38) G X33.here hx (hb hby d1_37) rfl rfl rfl
  obtain ⟨T43, X43, e43, st43⟩ := getF X33 hx hZ hown (host := "") (Or.inl (o_w hw 13 rfl)) Via.refl rfl B33_0 (g := o_g G) rfl rfl (hb hby d1_38)
  replace G := o_nxs (q := 41) (st := [(.ref b3)]) G st43 rfl
  replace G := o_iloadN (q := 42) G X43.here hx (hb hby d1_41) rfl rfl
  replace G := o_aloadN (q := 43) G X43.here hx (hb hby d1_42) rfl rfl rfl
  replace G := o_ifnonnullNo (q := 46) G X43.here hx (hb hby d1_43) rfl
  replace G := o_dconst0 (q := 47) G X43.here hx (hb hby d1_46) (v := (0 : UInt64)) (by decide +kernel) rfl
  replace G := o_goto (q := 54) G X43.here hx (hb hby d1_47) (by decide) (by decide)
  have F44 := (F39.keep K33q (ninS (Ne.symm ne4) (ninS ne11 (ninS ne20 nin0))))
  obtain ⟨c45, Ar45, q45, S45, N45', H45, G45'⟩ := id F44
  have hin45 : ¬ ((1 : Int32) < 0 ∨ c45.slots.size ≤ ((1 : Int32)).toNatClampNeg) := inb_of S45 ⟨by decide, by decide⟩
  obtain ⟨T45, h45, X45, e45, W45, st45⟩ := stD X43 hx hZ e43 Ar45 (j := (1 : Int32)) hin45 (g := o_g G) rfl rfl (hb hby d1_54)
  have N45 := Fr.snoc X45 N33 ge_b3
  have Z45 : n0 ≤ h45.size := Nat.le_trans Z33 (Keep.of_wr W45).1
  have K45 : Keep h0 h45 [ob] := K33.wr W45 (Or.inr sz_b3)
  have V45 : Arv Z h45 b3 k3 .double (3 : Int32) [(.double 0), (.double 0), (.double 0)] (.double 0) := Arv.set Ar45 q45 S45 N45' H45 G45' rfl W45 1 rfl (Nat.le_of_ble_eq_true rfl)
  replace G := o_nxs (q := 55) (st := []) G st45 rfl
  replace G := o_aloadN (q := 56) G X45.here hx (hb hby d1_55) rfl rfl rfl
  have F46 := (B33_2.other W45 (Or.inl ne4))
  obtain ⟨T47, X47, e47, st47⟩ := getF X45 hx hZ hown (host := "") (Or.inl (o_w hw 18 rfl)) Via.refl e45 F46 (g := o_g G) rfl rfl (hb hby d1_56)
  replace G := o_nxs (q := 59) (st := [(.ref b15)]) G st47 rfl
  replace G := o_iloadN (q := 60) G X47.here hx (hb hby d1_59) rfl rfl
  replace G := o_iconst (q := 61) G X47.here hx (hb hby d1_60) (v := (-1 : Int32)) (by decide) rfl
  have F48 := (B33_5.other W45 (Ne.symm ne20))
  obtain ⟨c49, Ar49, q49, S49, N49', H49, G49'⟩ := id F48
  have hin49 : ¬ ((1 : Int32) < 0 ∨ c49.slots.size ≤ ((1 : Int32)).toNatClampNeg) := inb_of S49 ⟨by decide, by decide⟩
  obtain ⟨T49, h49, X49, e49, W49, st49⟩ := stI X47 hx hZ e47 Ar49 (j := (1 : Int32)) hin49 (g := o_g G) rfl rfl (hb hby d1_61)
  have N49 := Fr.snoc X49 N45 ge_b15
  have Z49 : n0 ≤ h49.size := Nat.le_trans Z45 (Keep.of_wr W49).1
  have K49 : Keep h0 h49 [ob] := K45.wr W49 (Or.inr sz_b15)
  have V49 : Arv Z h49 b15 k15 .int 3 [(.int 0), (.int (-1)), (.int 0)] (.int 0) := Arv.set Ar49 q49 S49 N49' H49 G49' rfl W49 1 rfl (Nat.le_of_ble_eq_true rfl)
  replace G := o_nxs (q := 62) (st := []) G st49 rfl
  replace G := o_aloadN (q := 63) G X49.here hx (hb hby d1_62) rfl rfl rfl
  replace G := o_iloadN (q := 64) G X49.here hx (hb hby d1_63) rfl rfl
  have F51 := (((F34.keep K33q).wr W45).wr W49)
  have F52 := ((B33_0.other W45 (Or.inl ne4)).other W49 (Or.inl ne16))
  have F53 := ((B33_1.other W45 (Or.inl ne4)).other W49 (Or.inl ne16))
  have F54 := (F46.other W49 (Or.inl ne16))
  have F55 := ((B33_3.other W45 (Or.inl ne4)).other W49 (Or.inl ne16))
  have F56 := (V45.other W49 ne20)
  have F57 := ((B33_4.other W45 (Ne.symm ne11)).other W49 ne18)
  have F58 := ((B33_6.other W45 (Or.inl ne4)).other W49 (Or.inl ne16))
  obtain ⟨T50, _, Lc50, X50, hQ50, G⟩ := o_vb (q := 67) (W := 0) (argsL := [(.int 1)]) (rest := []) (y := (⟨o_n0, "add", "(I)V"⟩ : MethodName)) G X49 hx hZ hown (by rw [hml]; rfl) ⟨(o_w hw 20 rfl), (o_w hw 21 rfl), (o_w hw 23 rfl), (o_w hw 22 rfl), (o_w hw 24 rfl), (o_w hw 3 rfl)⟩ (by decide) e49 F51 (rm3v1 l Z a0 hw [] ob b3 b8 b15 k3 k8 k15 h49 n0 Z49 F51 F52 F53 F54 F55 F56 F57 V49 P6 ge_b8 ge_b15 ne4 ne9 ne16 ne11 ne20 ne18 F58) (lenOf pd_1 rfl) rfl (Nat.le_of_eq rfl) (hb hby d1_64) rfl (by decide) (by decide) (by decide) (by decide)
  obtain ⟨rfl, N50q, K50q, B50_0, B50_1, B50_2, B50_3, B50_4, B50_5, B50_6⟩ := hQ50
  have Z50 : n0 ≤ T50.heap.size := Nat.le_trans Z49 K50q.1
  have K50 : Keep h0 T50.heap [ob] := K49.trans K50q (allS (Or.inl (List.mem_of_getElem? (i := 0) rfl)) (allS (Or.inr sz_b8) (allS (Or.inr sz_b15) all0)))
  have N50 := Fr.app N49 N50q
  replace G := o_re (st := []) G rfl
  replace G := o_iinc (q := 70) (l' := #[.val (.ref ob), .val (.int 3), .val .null, .val (.int 2)]) (w := (1 : Int32)) G X50.here hx (hb hby d1_67) (by decide) rfl (by decide : ((1 : Int32) + (1 : Int32)) = (2 : Int32)) rfl rfl
  replace G := o_goto (q := 32) G X50.here hx (hb hby d1_70) (by decide) (by decide)
  replace G := o_iloadN (q := 33) G X50.here hx (hb hby d1_32) rfl rfl
  replace G := o_iloadN (q := 34) G X50.here hx (hb hby d1_33) rfl rfl
  replace G := o_icmpNo (q := 37) G X50.here hx (hb hby d1_34) (by decide) rfl
  replace G := o_aloadN (q := 38) G X50.here hx (hb hby d1_37) rfl rfl rfl
  obtain ⟨T60, X60, e60, st60⟩ := getF X50 hx hZ hown (host := "") (Or.inl (o_w hw 13 rfl)) Via.refl rfl B50_0 (g := o_g G) rfl rfl (hb hby d1_38)
  replace G := o_nxs (q := 41) (st := [(.ref b3)]) G st60 rfl
  replace G := o_iloadN (q := 42) G X60.here hx (hb hby d1_41) rfl rfl
  replace G := o_aloadN (q := 43) G X60.here hx (hb hby d1_42) rfl rfl rfl
  replace G := o_ifnonnullNo (q := 46) G X60.here hx (hb hby d1_43) rfl
  replace G := o_dconst0 (q := 47) G X60.here hx (hb hby d1_46) (v := (0 : UInt64)) (by decide +kernel) rfl
  replace G := o_goto (q := 54) G X60.here hx (hb hby d1_47) (by decide) (by decide)
  have F61 := (F56.keep K50q (ninS (Ne.symm ne4) (ninS ne11 (ninS ne20 nin0))))
  obtain ⟨c62, Ar62, q62, S62, N62', H62, G62'⟩ := id F61
  have hin62 : ¬ ((2 : Int32) < 0 ∨ c62.slots.size ≤ ((2 : Int32)).toNatClampNeg) := inb_of S62 ⟨by decide, by decide⟩
  obtain ⟨T62, h62, X62, e62, W62, st62⟩ := stD X60 hx hZ e60 Ar62 (j := (2 : Int32)) hin62 (g := o_g G) rfl rfl (hb hby d1_54)
  have N62 := Fr.snoc X62 N50 ge_b3
  have Z62 : n0 ≤ h62.size := Nat.le_trans Z50 (Keep.of_wr W62).1
  have K62 : Keep h0 h62 [ob] := K50.wr W62 (Or.inr sz_b3)
  have V62 : Arv Z h62 b3 k3 .double (3 : Int32) [(.double 0), (.double 0), (.double 0)] (.double 0) := Arv.set Ar62 q62 S62 N62' H62 G62' rfl W62 2 rfl (Nat.le_of_ble_eq_true rfl)
  replace G := o_nxs (q := 55) (st := []) G st62 rfl
  replace G := o_aloadN (q := 56) G X62.here hx (hb hby d1_55) rfl rfl rfl
  have F63 := (B50_2.other W62 (Or.inl ne4))
  obtain ⟨T64, X64, e64, st64⟩ := getF X62 hx hZ hown (host := "") (Or.inl (o_w hw 18 rfl)) Via.refl e62 F63 (g := o_g G) rfl rfl (hb hby d1_56)
  replace G := o_nxs (q := 59) (st := [(.ref b15)]) G st64 rfl
  replace G := o_iloadN (q := 60) G X64.here hx (hb hby d1_59) rfl rfl
  replace G := o_iconst (q := 61) G X64.here hx (hb hby d1_60) (v := (-1 : Int32)) (by decide) rfl
  have F65 := (B50_5.other W62 (Ne.symm ne20))
  obtain ⟨c66, Ar66, q66, S66, N66', H66, G66'⟩ := id F65
  have hin66 : ¬ ((2 : Int32) < 0 ∨ c66.slots.size ≤ ((2 : Int32)).toNatClampNeg) := inb_of S66 ⟨by decide, by decide⟩
  obtain ⟨T66, h66, X66, e66, W66, st66⟩ := stI X64 hx hZ e64 Ar66 (j := (2 : Int32)) hin66 (g := o_g G) rfl rfl (hb hby d1_61)
  have N66 := Fr.snoc X66 N62 ge_b15
  have Z66 : n0 ≤ h66.size := Nat.le_trans Z62 (Keep.of_wr W66).1
  have K66 : Keep h0 h66 [ob] := K62.wr W66 (Or.inr sz_b15)
  have V66 : Arv Z h66 b15 k15 .int 3 [(.int 0), (.int 1), (.int (-1))] (.int 0) := Arv.set Ar66 q66 S66 N66' H66 G66' rfl W66 2 rfl (Nat.le_of_ble_eq_true rfl)
  replace G := o_nxs (q := 62) (st := []) G st66 rfl
  replace G := o_aloadN (q := 63) G X66.here hx (hb hby d1_62) rfl rfl rfl
  replace G := o_iloadN (q := 64) G X66.here hx (hb hby d1_63) rfl rfl
  have F68 := (((F51.keep K50q).wr W62).wr W66)
  have F69 := ((B50_0.other W62 (Or.inl ne4)).other W66 (Or.inl ne16))
  have F70 := ((B50_1.other W62 (Or.inl ne4)).other W66 (Or.inl ne16))
  have F71 := (F63.other W66 (Or.inl ne16))
  have F72 := ((B50_3.other W62 (Or.inl ne4)).other W66 (Or.inl ne16))
  have F73 := (V62.other W66 ne20)
  have F74 := ((B50_4.other W62 (Ne.symm ne11)).other W66 ne18)
  have F75 := ((B50_6.other W62 (Or.inl ne4)).other W66 (Or.inl ne16))
  obtain ⟨T67, _, Lc67, X67, hQ67, G⟩ := o_vb (q := 67) (W := 0) (argsL := [(.int 2)]) (rest := []) (y := (⟨o_n0, "add", "(I)V"⟩ : MethodName)) G X66 hx hZ hown (by rw [hml]; rfl) ⟨(o_w hw 20 rfl), (o_w hw 21 rfl), (o_w hw 23 rfl), (o_w hw 22 rfl), (o_w hw 24 rfl), (o_w hw 3 rfl)⟩ (by decide) e66 F68 (rm3v2 l Z a0 hw [] ob b3 b8 b15 k3 k8 k15 h66 n0 Z66 F68 F69 F70 F71 F72 F73 F74 V66 P6 ge_b8 ge_b15 ne4 ne9 ne16 ne11 ne20 ne18 F75) (lenOf pd_1 rfl) rfl (Nat.le_of_eq rfl) (hb hby d1_64) rfl (by decide) (by decide) (by decide) (by decide)
  obtain ⟨rfl, N67q, K67q, B67_0, B67_1, B67_2, B67_3, B67_4, B67_5, B67_6⟩ := hQ67
  have Z67 : n0 ≤ T67.heap.size := Nat.le_trans Z66 K67q.1
  have K67 : Keep h0 T67.heap [ob] := K66.trans K67q (allS (Or.inl (List.mem_of_getElem? (i := 0) rfl)) (allS (Or.inr sz_b8) (allS (Or.inr sz_b15) all0)))
  have N67 := Fr.app N66 N67q
  replace G := o_re (st := []) G rfl
  replace G := o_iinc (q := 70) (l' := #[.val (.ref ob), .val (.int 3), .val .null, .val (.int 3)]) (w := (1 : Int32)) G X67.here hx (hb hby d1_67) (by decide) rfl (by decide : ((2 : Int32) + (1 : Int32)) = (3 : Int32)) rfl rfl
  replace G := o_goto (q := 32) G X67.here hx (hb hby d1_70) (by decide) (by decide)
  replace G := o_iloadN (q := 33) G X67.here hx (hb hby d1_32) rfl rfl
  replace G := o_iloadN (q := 34) G X67.here hx (hb hby d1_33) rfl rfl
  replace G := o_icmpYes (q := 73) G X67.here hx (hb hby d1_34) (by decide) (by decide) (by decide)
  obtain ⟨fs, hr, hrun, hended, hW, hsame⟩ := X67.leave (v := none) (fun _ => rfl)
  refine ⟨_, _, G _ (X67.returnOut hx Bd.returns (hb hby d1_73) hr), hrun, hended, _, _, rfl, ?_, ⟨_, rfl⟩, hW, hsame.mono (by decide) (by decide)⟩
  have F77 := (F73.keep K67q (ninS (Ne.symm ne4) (ninS ne11 (ninS ne20 nin0))))
  show Q1 Z ob h0 n0 _ T67.heap _
  exact ⟨b3, b8, b15, k3, k8, k15, rfl, N67, K67, B67_0, B67_1, B67_2, B67_3, B67_6, sz_b3, sz_b8, sz_b15, ne11, ne20, ne18, F77, B67_4, B67_5⟩
theorem d10_0 : decode method_3_code 0 = .ok (.aload_n 0, 1) := by decide +kernel
theorem d10_1 : decode method_3_code 1 = .ok (.iload_n 1, 1) := by decide +kernel
theorem d10_2 : decode method_3_code 2 = .ok (.iaload, 1) := by decide +kernel
theorem d10_3 : decode method_3_code 3 = .ok (.aload_n 0, 1) := by decide +kernel
theorem d10_4 : decode method_3_code 4 = .ok (.iload_n 2, 1) := by decide +kernel
theorem d10_5 : decode method_3_code 5 = .ok (.iaload, 1) := by decide +kernel
theorem d10_6 : decode method_3_code 6 = .ok (.if_icmp .gt 17, 3) := by decide +kernel
theorem d10_9 : decode method_3_code 9 = .ok (.aload_n 0, 1) := by decide +kernel
theorem d10_10 : decode method_3_code 10 = .ok (.iload_n 1, 1) := by decide +kernel
theorem d10_11 : decode method_3_code 11 = .ok (.iaload, 1) := by decide +kernel
theorem d10_12 : decode method_3_code 12 = .ok (.aload_n 0, 1) := by decide +kernel
theorem d10_13 : decode method_3_code 13 = .ok (.iload_n 2, 1) := by decide +kernel
theorem d10_14 : decode method_3_code 14 = .ok (.iaload, 1) := by decide +kernel
theorem d10_15 : decode method_3_code 15 = .ok (.if_icmp .ne 12, 3) := by decide +kernel
theorem d10_18 : decode method_3_code 18 = .ok (.iload_n 1, 1) := by decide +kernel
theorem d10_19 : decode method_3_code 19 = .ok (.iload_n 2, 1) := by decide +kernel
theorem d10_20 : decode method_3_code 20 = .ok (.if_icmp .ge 7, 3) := by decide +kernel
theorem d10_23 : decode method_3_code 23 = .ok (.iconst 1, 1) := by decide +kernel
theorem d10_24 : decode method_3_code 24 = .ok (.goto 4, 3) := by decide +kernel
theorem d10_27 : decode method_3_code 27 = .ok (.iconst 0, 1) := by decide +kernel
theorem d10_28 : decode method_3_code 28 = .ok (.ireturn, 1) := by decide +kernel
theorem pn_com_example_gridwright_gridwright_core_ActivityOrderDecayPinLaw : plainName o_n1 = true := by first | (simp [plainName, overriddenIn]; done) | decide +kernel
theorem ef_10 (m : MethodId) (x0 : Addr) (x1 : Int32) (x2 : Int32) : entryFrame m #[(.ref x0), (.int x1), (.int x2)] 3 = mkF m 0 #[.val (.ref x0), .val (.int x1), .val (.int x2)] [] := by first | (simp [entryFrame, mkF, argsToLocals, Value.category]; done) | rfl
def Q10 (Z : State) (ar : Addr) (ia : Int32) (ja : Int32) (kr : ClassId) (rs : List Value) (ra : Int32) (rb : Int32) (h0 : Heap) (n0 : Nat) (v : Option Value) (h : Heap) (L : List Loc) : Prop := v = some (.int (o_lb ra rb ia ja)) ∧ Fr n0 L ∧ h = h0
set_option maxRecDepth 65536 in
set_option maxHeartbeats 40000000 in
theorem rm10 (l : Launch) (Z : State) (a0 : Array Value) (hw : ∀ d ∈ tables_1, d.before a0 Z = true) (ws : List Jvm.Cond) (ar : Addr) (ia : Int32) (ja : Int32) (kr : ClassId) (rs : List Value) (ra : Int32) (rb : Int32) (h0 : Heap) (n0 : Nat) (Z0 : n0 ≤ h0.size) (P0 : Arv Z h0 ar kr .int 3 rs (.int 0)) (hia : o_in ia) (hja : o_in ja) (hra : rs.getD ia.toNatClampNeg (.int 0) = .int ra) (hrb : rs.getD ja.toNatClampNeg (.int 0) = .int rb) :
    MetFree l (⟨o_n1, "before", "([III)Z"⟩ : MethodName) (head1 (Jvm.Cond.code (⟨o_n1, "before", "([III)Z"⟩ : MethodName) method_3_code 3 (some .boolean) :: ws) ({ frames := 0, cells := 0, slots := 0, locals := 0 } : Room)) (fun argz U => argz = #[(.ref ar), (.int ia), (.int ja)] ∧ Z.Warmed39 U.vm ∧ U.heap = h0) (fun _ _ _ _ _ => True) (fun _ U o U' => ∃ v L, o = .returned v ∧ Q10 Z ar ia ja kr rs ra rb h0 n0 v U'.heap L ∧ FrameEnd U o U' L ({ frames := 0, cells := 0, slots := 0, locals := 0 } : Room).cells ({ frames := 0, cells := 0, slots := 0, locals := 0 } : Room).slots) := by
  refine MetFree.of_bodySF (plainFor_of_name pn_com_example_gridwright_gridwright_core_ActivityOrderDecayPinLaw) hisR ?_
  intro p e s m args below meth c s₁ Bd hml0 hP hK
  obtain ⟨rfl, hZ, hh⟩ := hP
  have hx := Bd.exec
  have hby := Bd.bytes
  have hml : c.maxLocals = 3 := hml0
  have hown : s.vm.findClass o_n1 = some m.cls := findClass_of_methodNamed Bd.named
  have hnm := (name_of_methodNamed Bd.named Bd.method).1
  have X0 : Stand p l e ({ frames := 0, cells := 0, slots := 0, locals := 0 } : Room) s m #[(.ref ar), (.int ia), (.int ja)] below meth c s₁ [] 0 0 := Stand.of_body Bd
  have e0 : s₁.heap = h0 := by rw [← hh, Bd.state]; rfl
  have N0 := Fr.nil n0
  have G : Gets p e below (s₁.setTop (entryFrame m #[(.ref ar), (.int ia), (.int ja)] 3)) (s₁.setTop (mkF m 0 #[.val (.ref ar), .val (.int ia), .val (.int ja)] [])) := fun t k => castTop (ef_10 m ar ia ja) k
  replace G := o_aloadN (q := 1) G X0.here hx (hb hby d10_0) rfl rfl rfl
  replace G := o_iloadN (q := 2) G X0.here hx (hb hby d10_1) rfl rfl
  obtain ⟨c1, Ar1, -, S1, -, H1, -⟩ := id P0
  have hin1 : ¬ (ia < 0 ∨ c1.slots.size ≤ (ia).toNatClampNeg) := inb_of S1 hia
  replace G := o_nxs (q := 3) (st := [(.int ra)]) G (X0.iaload hx (j := ia) (v := (.int ra)) (by rw [e0]; exact Ar1.1) (State.isArrayOf_alike hZ.alike Ar1.2.1) Ar1.2.2 hin1 (Has.at H1 hin1 hra) (g := o_g G) rfl rfl (hb hby d10_2)) rfl
  replace G := o_aloadN (q := 4) G X0.here hx (hb hby d10_3) rfl rfl rfl
  replace G := o_iloadN (q := 5) G X0.here hx (hb hby d10_4) rfl rfl
  obtain ⟨c2, Ar2, -, S2, -, H2, -⟩ := id P0
  have hin2 : ¬ (ja < 0 ∨ c2.slots.size ≤ (ja).toNatClampNeg) := inb_of S2 hja
  replace G := o_nxs (q := 6) (st := [(.int rb), (.int ra)]) G (X0.iaload hx (j := ja) (v := (.int rb)) (by rw [e0]; exact Ar2.1) (State.isArrayOf_alike hZ.alike Ar2.2.1) Ar2.2.2 hin2 (Has.at H2 hin2 hrb) (g := o_g G) rfl rfl (hb hby d10_5)) rfl
  by_cases hc6_3 : rb < ra
  replace G := o_icmpYes (q := 23) G X0.here hx (hb hby d10_6) (tlt hc6_3).2.2.1 (by decide) (by decide)
  replace G := o_iconst (q := 24) G X0.here hx (hb hby d10_23) (v := (1 : Int32)) (by decide) rfl
  replace G := o_goto (q := 28) G X0.here hx (hb hby d10_24) (by decide) (by decide)
  obtain ⟨fs, hr, hrun, hended, hW, hsame⟩ := X0.leave (v := some (.int 1)) (fun h => by rw [Bd.returns] at h; cases h)
  refine ⟨_, _, G _ (retOut X0 hx Bd.returns rfl (Or.inl ⟨rfl, Or.inr (Or.inl rfl), _, rfl⟩) (hb hby d10_28) hr), hrun, hended, _, _, rfl, ?_, ⟨_, rfl⟩, hW, hsame.mono (by decide) (by decide)⟩
  show Q10 Z ar ia ja kr rs ra rb h0 n0 _ s₁.heap _
  rw [e0]
  exact ⟨(congrArg (fun z => some (Value.int z)) (by simp [o_lb, hc6_3])), N0, rfl⟩
  replace G := o_icmpNo (q := 9) G X0.here hx (hb hby d10_6) (flt hc6_3).2.2.1 rfl
  replace G := o_aloadN (q := 10) G X0.here hx (hb hby d10_9) rfl rfl rfl
  replace G := o_iloadN (q := 11) G X0.here hx (hb hby d10_10) rfl rfl
  obtain ⟨c4, Ar4, -, S4, -, H4, -⟩ := id P0
  have hin4 : ¬ (ia < 0 ∨ c4.slots.size ≤ (ia).toNatClampNeg) := inb_of S4 hia
  replace G := o_nxs (q := 12) (st := [(.int ra)]) G (X0.iaload hx (j := ia) (v := (.int ra)) (by rw [e0]; exact Ar4.1) (State.isArrayOf_alike hZ.alike Ar4.2.1) Ar4.2.2 hin4 (Has.at H4 hin4 hra) (g := o_g G) rfl rfl (hb hby d10_11)) rfl
  replace G := o_aloadN (q := 13) G X0.here hx (hb hby d10_12) rfl rfl rfl
  replace G := o_iloadN (q := 14) G X0.here hx (hb hby d10_13) rfl rfl
  obtain ⟨c5, Ar5, -, S5, -, H5, -⟩ := id P0
  have hin5 : ¬ (ja < 0 ∨ c5.slots.size ≤ (ja).toNatClampNeg) := inb_of S5 hja
  replace G := o_nxs (q := 15) (st := [(.int rb), (.int ra)]) G (X0.iaload hx (j := ja) (v := (.int rb)) (by rw [e0]; exact Ar5.1) (State.isArrayOf_alike hZ.alike Ar5.2.1) Ar5.2.2 hin5 (Has.at H5 hin5 hrb) (g := o_g G) rfl rfl (hb hby d10_14)) rfl
  by_cases hc15_6 : ra = rb
  replace G := o_icmpNo (q := 18) G X0.here hx (hb hby d10_15) (teq hc15_6).2 rfl
  replace G := o_iloadN (q := 19) G X0.here hx (hb hby d10_18) rfl rfl
  replace G := o_iloadN (q := 20) G X0.here hx (hb hby d10_19) rfl rfl
  by_cases hc20_7 : ia < ja
  replace G := o_icmpNo (q := 23) G X0.here hx (hb hby d10_20) (tlt hc20_7).2.1 rfl
  replace G := o_iconst (q := 24) G X0.here hx (hb hby d10_23) (v := (1 : Int32)) (by decide) rfl
  replace G := o_goto (q := 28) G X0.here hx (hb hby d10_24) (by decide) (by decide)
  obtain ⟨fs, hr, hrun, hended, hW, hsame⟩ := X0.leave (v := some (.int 1)) (fun h => by rw [Bd.returns] at h; cases h)
  refine ⟨_, _, G _ (retOut X0 hx Bd.returns rfl (Or.inl ⟨rfl, Or.inr (Or.inl rfl), _, rfl⟩) (hb hby d10_28) hr), hrun, hended, _, _, rfl, ?_, ⟨_, rfl⟩, hW, hsame.mono (by decide) (by decide)⟩
  show Q10 Z ar ia ja kr rs ra rb h0 n0 _ s₁.heap _
  rw [e0]
  exact ⟨(congrArg (fun z => some (Value.int z)) (by simp [o_lb, hc6_3, hc15_6, hc20_7])), N0, rfl⟩
  replace G := o_icmpYes (q := 27) G X0.here hx (hb hby d10_20) (flt hc20_7).2.1 (by decide) (by decide)
  replace G := o_iconst (q := 28) G X0.here hx (hb hby d10_27) (v := (0 : Int32)) (by decide) rfl
  obtain ⟨fs, hr, hrun, hended, hW, hsame⟩ := X0.leave (v := some (.int 0)) (fun h => by rw [Bd.returns] at h; cases h)
  refine ⟨_, _, G _ (retOut X0 hx Bd.returns rfl (Or.inl ⟨rfl, Or.inr (Or.inl rfl), _, rfl⟩) (hb hby d10_28) hr), hrun, hended, _, _, rfl, ?_, ⟨_, rfl⟩, hW, hsame.mono (by decide) (by decide)⟩
  show Q10 Z ar ia ja kr rs ra rb h0 n0 _ s₁.heap _
  rw [e0]
  exact ⟨(congrArg (fun z => some (Value.int z)) (by simp [o_lb, hc6_3, hc15_6, hc20_7])), N0, rfl⟩
  replace G := o_icmpYes (q := 27) G X0.here hx (hb hby d10_15) (feq hc15_6).2 (by decide) (by decide)
  replace G := o_iconst (q := 28) G X0.here hx (hb hby d10_27) (v := (0 : Int32)) (by decide) rfl
  obtain ⟨fs, hr, hrun, hended, hW, hsame⟩ := X0.leave (v := some (.int 0)) (fun h => by rw [Bd.returns] at h; cases h)
  refine ⟨_, _, G _ (retOut X0 hx Bd.returns rfl (Or.inl ⟨rfl, Or.inr (Or.inl rfl), _, rfl⟩) (hb hby d10_28) hr), hrun, hended, _, _, rfl, ?_, ⟨_, rfl⟩, hW, hsame.mono (by decide) (by decide)⟩
  show Q10 Z ar ia ja kr rs ra rb h0 n0 _ s₁.heap _
  rw [e0]
  exact ⟨(congrArg (fun z => some (Value.int z)) (by simp [o_lb, hc6_3, hc15_6])), N0, rfl⟩
theorem d11_0 : decode prog_7_method_2_code 0 = .ok (.aload_n 0, 1) := by decide +kernel
theorem d11_1 : decode prog_7_method_2_code 1 = .ok (.getfield 34, 3) := by decide +kernel
theorem d11_4 : decode prog_7_method_2_code 4 = .ok (.ifCond .ne 7, 3) := by decide +kernel
theorem d11_7 : decode prog_7_method_2_code 7 = .ok (.iconst 1, 1) := by decide +kernel
theorem d11_8 : decode prog_7_method_2_code 8 = .ok (.goto 4, 3) := by decide +kernel
theorem d11_12 : decode prog_7_method_2_code 12 = .ok (.ireturn, 1) := by decide +kernel
theorem ef_11 (m : MethodId) (x0 : Addr) : entryFrame m #[(.ref x0)] 1 = mkF m 0 #[.val (.ref x0)] [] := by first | (simp [entryFrame, mkF, argsToLocals, Value.category]; done) | rfl
def Q11 (Z : State) (ob : Addr) (h0 : Heap) (n0 : Nat) (v : Option Value) (h : Heap) (L : List Loc) : Prop := v = some (.int 1) ∧ Fr n0 L ∧ h = h0
set_option maxRecDepth 65536 in
set_option maxHeartbeats 40000000 in
theorem rm11 (l : Launch) (Z : State) (a0 : Array Value) (hw : ∀ d ∈ tables_1, d.before a0 Z = true) (ws : List Jvm.Cond) (ob : Addr) (h0 : Heap) (n0 : Nat) (Z0 : n0 ≤ h0.size) (P0 : Fld Z h0 ob o_n0 "heapSize" "I" (.int 0)) :
    MetFree l (⟨o_n0, "isEmpty", "()Z"⟩ : MethodName) (head1 (Jvm.Cond.code (⟨o_n0, "isEmpty", "()Z"⟩ : MethodName) prog_7_method_2_code 1 (some .boolean) :: ws) ({ frames := 0, cells := 0, slots := 0, locals := 0 } : Room)) (fun argz U => argz = #[(.ref ob)] ∧ Z.Warmed39 U.vm ∧ U.heap = h0) (fun _ _ _ _ _ => True) (fun _ U o U' => ∃ v L, o = .returned v ∧ Q11 Z ob h0 n0 v U'.heap L ∧ FrameEnd U o U' L ({ frames := 0, cells := 0, slots := 0, locals := 0 } : Room).cells ({ frames := 0, cells := 0, slots := 0, locals := 0 } : Room).slots) := by
  refine MetFree.of_bodySF (plainFor_of_name pn_com_example_gridwright_gridwright_core_ActivityOrder) hisR ?_
  intro p e s m args below meth c s₁ Bd hml0 hP hK
  obtain ⟨rfl, hZ, hh⟩ := hP
  have hx := Bd.exec
  have hby := Bd.bytes
  have hml : c.maxLocals = 1 := hml0
  have hown : s.vm.findClass o_n0 = some m.cls := findClass_of_methodNamed Bd.named
  have hnm := (name_of_methodNamed Bd.named Bd.method).1
  have X0 : Stand p l e ({ frames := 0, cells := 0, slots := 0, locals := 0 } : Room) s m #[(.ref ob)] below meth c s₁ [] 0 0 := Stand.of_body Bd
  have e0 : s₁.heap = h0 := by rw [← hh, Bd.state]; rfl
  have N0 := Fr.nil n0
  have G : Gets p e below (s₁.setTop (entryFrame m #[(.ref ob)] 1)) (s₁.setTop (mkF m 0 #[.val (.ref ob)] [])) := fun t k => castTop (ef_11 m ob) k
  replace G := o_aloadN (q := 1) G X0.here hx (hb hby d11_0) rfl rfl rfl
  obtain ⟨T1, X1, e1, st1⟩ := getF X0 hx hZ hown (host := "") (Or.inl (o_w hw 25 rfl)) Via.refl e0 P0 (g := o_g G) rfl rfl (hb hby d11_1)
  replace G := o_nxs (q := 4) (st := [(.int 0)]) G st1 rfl
  replace G := o_ifNo (q := 7) G X1.here hx (hb hby d11_4) (by decide) rfl
  replace G := o_iconst (q := 8) G X1.here hx (hb hby d11_7) (v := (1 : Int32)) (by decide) rfl
  replace G := o_goto (q := 12) G X1.here hx (hb hby d11_8) (by decide) (by decide)
  obtain ⟨fs, hr, hrun, hended, hW, hsame⟩ := X1.leave (v := some (.int 1)) (fun h => by rw [Bd.returns] at h; cases h)
  refine ⟨_, _, G _ (retOut X1 hx Bd.returns rfl (Or.inl ⟨rfl, Or.inr (Or.inl rfl), _, rfl⟩) (hb hby d11_12) hr), hrun, hended, _, _, rfl, ?_, ⟨_, rfl⟩, hW, hsame.mono (by decide) (by decide)⟩
  show Q11 Z ob h0 n0 _ T1.heap _
  rw [e1]
  exact ⟨rfl, N0, rfl⟩
theorem pd_2 : parseMethodDescriptor "(ILcom/example/gridwright/gridwright/core/SplitMix64;)V" = some ⟨[.int, (.object "com/example/gridwright/gridwright/core/SplitMix64")], none⟩ := by decide +kernel
theorem pd_3 : parseMethodDescriptor "()I" = some ⟨[], some .int⟩ := by decide +kernel
theorem pd_4 : parseMethodDescriptor "([III)Z" = some ⟨[(.array .int), .int, .int], some .boolean⟩ := by decide +kernel
theorem pd_5 : parseMethodDescriptor "()Z" = some ⟨[], some .boolean⟩ := by decide +kernel
theorem pd_6 : parseMethodDescriptor "()V" = some ⟨[], none⟩ := by decide +kernel
theorem ef_0 (m : MethodId) (x0 : Int32) (x1 : Int32) : entryFrame m #[(.int x0), (.int x1)] maxLocals = mkF m 0 #[.val (.int x0), .val (.int x1), .unset, .unset, .unset, .unset, .unset, .unset, .unset, .unset, .unset, .unset, .unset, .unset, .unset, .unset] [] := by first | (simp [entryFrame, mkF, argsToLocals, Value.category, maxLocals]; done) | rfl
def Q0 (Z : State) (i0 : Int32) (i1 : Int32) (h0 : Heap) (n0 : Nat) (v : Option Value) (h : Heap) (L : List Loc) : Prop := v = some (.int 1) ∧ Fr n0 L
set_option maxRecDepth 65536 in
set_option maxHeartbeats 40000000 in
theorem rm0 (l : Launch) (Z : State) (a0 : Array Value) (hw : ∀ d ∈ tables_1, d.before a0 Z = true) (ws : List Jvm.Cond) (i0 : Int32) (i1 : Int32) (h0 : Heap) (n0 : Nat) (Z0 : n0 ≤ h0.size)  :
    MetFree l x (head1 (Jvm.Cond.code x code maxLocals ret :: ws) room_1) (fun argz U => argz = #[(.int i0), (.int i1)] ∧ Z.Warmed39 U.vm ∧ U.heap = h0) (fun _ _ _ _ _ => True) (fun _ U o U' => ∃ v L, o = .returned v ∧ Q0 Z i0 i1 h0 n0 v U'.heap L ∧ FrameEnd U o U' L room_1.cells room_1.slots) := by
  refine MetFree.of_bodySF (plainFor_of_name pn_com_example_gridwright_gridwright_core_ActivityOrderDecayPinLaw) hisR ?_
  intro p e s m args below meth c s₁ Bd hml0 hP hK
  obtain ⟨rfl, hZ, hh⟩ := hP
  have hx := Bd.exec
  have hby := Bd.bytes
  have hml : c.maxLocals = 16 := hml0
  have hown : s.vm.findClass o_n1 = some m.cls := findClass_of_methodNamed Bd.named
  have hnm := (name_of_methodNamed Bd.named Bd.method).1
  have X0 : Stand p l e room_1 s m #[(.int i0), (.int i1)] below meth c s₁ [] 0 0 := Stand.of_body Bd
  have e0 : s₁.heap = h0 := by rw [← hh, Bd.state]; rfl
  have N0 := Fr.nil n0
  have G : Gets p e below (s₁.setTop (entryFrame m #[(.int i0), (.int i1)] maxLocals)) (s₁.setTop (mkF m 0 #[.val (.int i0), .val (.int i1), .unset, .unset, .unset, .unset, .unset, .unset, .unset, .unset, .unset, .unset, .unset, .unset, .unset, .unset] [])) := fun t k => castTop (ef_0 m i0 i1) k
  replace G := o_iloadN (q := 1) G X0.here hx (hb hby at_0) rfl rfl
  replace G := o_nxs (q := 3) (st := [(.int 2147483647), (.int i0)]) G (X0.ldcInt hx hown (mvT hZ (o_w hw 0 rfl)) (g := o_g G) rfl (hb hby at_1)) rfl
  obtain ⟨u, hn_u⟩ : ∃ z : Int32, (i0 &&& (2147483647 : Int32)) = z := ⟨_, rfl⟩
  replace G := o_iand (q := 4) G X0.here hx (hb hby at_3) hn_u rfl
  replace G := o_bipush (q := 6) G X0.here hx (hb hby at_4) (v := (6 : Int32)) (by decide) rfl
  obtain ⟨i, hn_i⟩ : ∃ z : Int32, (u % (6 : Int32)) = z := ⟨_, rfl⟩
  replace G := o_irem (q := 7) G X0.here hx (hb hby at_6) (by decide) hn_i rfl
  rw [← hn_u] at hn_i
  rcases o_cases6 (o_rem 6 6 rfl (by decide) hn_i) with rfl | rfl | rfl | rfl | rfl | rfl
  replace G := o_istoreN (q := 8) (l' := #[.val (.int i0), .val (.int i1), .val (.int 0), .unset, .unset, .unset, .unset, .unset, .unset, .unset, .unset, .unset, .unset, .unset, .unset, .unset]) G X0.here hx (hb hby at_7) rfl rfl
  replace G := o_iloadN (q := 9) G X0.here hx (hb hby at_8) rfl rfl
  replace G := o_iconst (q := 10) G X0.here hx (hb hby at_9) (v := (2 : Int32)) (by decide) rfl
  replace G := o_idiv (q := 11) G X0.here hx (hb hby at_10) (by decide) (by decide : ((0 : Int32) / (2 : Int32)) = (0 : Int32)) rfl
  replace G := o_istoreN (q := 12) (l' := #[.val (.int i0), .val (.int i1), .val (.int 0), .val (.int 0), .unset, .unset, .unset, .unset, .unset, .unset, .unset, .unset, .unset, .unset, .unset, .unset]) G X0.here hx (hb hby at_11) rfl rfl
  replace G := o_iloadN (q := 13) G X0.here hx (hb hby at_12) rfl rfl
  replace G := o_ifNo (q := 16) G X0.here hx (hb hby at_13) (by decide) rfl
  replace G := o_iconst (q := 17) G X0.here hx (hb hby at_16) (v := (1 : Int32)) (by decide) rfl
  replace G := o_goto (q := 21) G X0.here hx (hb hby at_17) (by decide) (by decide)
  replace G := o_istore (q := 23) (l' := #[.val (.int i0), .val (.int i1), .val (.int 0), .val (.int 0), .val (.int 1), .unset, .unset, .unset, .unset, .unset, .unset, .unset, .unset, .unset, .unset, .unset]) G X0.here hx (hb hby at_21) rfl rfl
  replace G := o_iloadN (q := 24) G X0.here hx (hb hby at_23) rfl rfl
  replace G := o_iconst (q := 25) G X0.here hx (hb hby at_24) (v := (2 : Int32)) (by decide) rfl
  replace G := o_icmpYes (q := 32) G X0.here hx (hb hby at_25) (by decide) (by decide) (by decide)
  replace G := o_iconst (q := 33) G X0.here hx (hb hby at_32) (v := (2 : Int32)) (by decide) rfl
  replace G := o_istore (q := 35) (l' := #[.val (.int i0), .val (.int i1), .val (.int 0), .val (.int 0), .val (.int 1), .val (.int 2), .unset, .unset, .unset, .unset, .unset, .unset, .unset, .unset, .unset, .unset]) G X0.here hx (hb hby at_33) rfl rfl
  replace G := o_iloadN (q := 36) G X0.here hx (hb hby at_35) rfl rfl
  replace G := o_iconst (q := 37) G X0.here hx (hb hby at_36) (v := (1 : Int32)) (by decide) rfl
  replace G := o_iand (q := 38) G X0.here hx (hb hby at_37) (by decide : ((0 : Int32) &&& (1 : Int32)) = (0 : Int32)) rfl
  replace G := o_ifNo (q := 41) G X0.here hx (hb hby at_38) (by decide) rfl
  replace G := o_iload (q := 43) G X0.here hx (hb hby at_41) rfl rfl
  replace G := o_goto (q := 48) G X0.here hx (hb hby at_43) (by decide) (by decide)
  replace G := o_istore (q := 50) (l' := #[.val (.int i0), .val (.int i1), .val (.int 0), .val (.int 0), .val (.int 1), .val (.int 2), .val (.int 1), .unset, .unset, .unset, .unset, .unset, .unset, .unset, .unset, .unset]) G X0.here hx (hb hby at_48) rfl rfl
  replace G := o_iloadN (q := 51) G X0.here hx (hb hby at_50) rfl rfl
  replace G := o_iconst (q := 52) G X0.here hx (hb hby at_51) (v := (1 : Int32)) (by decide) rfl
  replace G := o_iand (q := 53) G X0.here hx (hb hby at_52) (by decide : ((0 : Int32) &&& (1 : Int32)) = (0 : Int32)) rfl
  replace G := o_ifNo (q := 56) G X0.here hx (hb hby at_53) (by decide) rfl
  replace G := o_iload (q := 58) G X0.here hx (hb hby at_56) rfl rfl
  replace G := o_goto (q := 63) G X0.here hx (hb hby at_58) (by decide) (by decide)
  replace G := o_istore (q := 65) (l' := #[.val (.int i0), .val (.int i1), .val (.int 0), .val (.int 0), .val (.int 1), .val (.int 2), .val (.int 1), .val (.int 2), .unset, .unset, .unset, .unset, .unset, .unset, .unset, .unset]) G X0.here hx (hb hby at_63) rfl rfl
  replace G := o_iloadN (q := 66) G X0.here hx (hb hby at_65) rfl rfl
  replace G := o_iconst (q := 67) G X0.here hx (hb hby at_66) (v := (1 : Int32)) (by decide) rfl
  obtain ⟨m1, hn_m1⟩ : ∃ z : Int32, (i1 &&& (1 : Int32)) = z := ⟨_, rfl⟩
  replace G := o_iand (q := 68) G X0.here hx (hb hby at_67) hn_m1 rfl
  replace G : Gets p e below (s₁.setTop (entryFrame m #[(.int i0), (.int i1)] maxLocals)) (s₁.setTop (mkF m 76 #[.val (.int i0), .val (.int i1), .val (.int 0), .val (.int 0), .val (.int 1), .val (.int 2), .val (.int 1), .val (.int 2), .unset, .unset, .unset, .unset, .unset, .unset, .unset, .unset] [(.int (if m1 = (0 : Int32) then (0 : Int32) else (1 : Int32)))])) := by
    by_cases hc68_5 : m1 = (0 : Int32)
    · replace G := o_ifYes (q := 75) G X0.here hx (hb hby at_68) ((if0 _ _).trans (teq hc68_5).1) (by decide) (by decide)
      replace G := o_iconst (q := 76) G X0.here hx (hb hby at_75) (v := (0 : Int32)) (by decide) rfl
      simp only [if_pos hc68_5]
      exact G
    · replace G := o_ifNo (q := 71) G X0.here hx (hb hby at_68) ((if0 _ _).trans (feq hc68_5).1) rfl
      replace G := o_iconst (q := 72) G X0.here hx (hb hby at_71) (v := (1 : Int32)) (by decide) rfl
      replace G := o_goto (q := 76) G X0.here hx (hb hby at_72) (by decide) (by decide)
      simp only [if_neg hc68_5]
      exact G
  obtain ⟨w1, hn_w1⟩ : ∃ z : Int32, (if m1 = (0 : Int32) then (0 : Int32) else (1 : Int32)) = z := ⟨_, rfl⟩
  rw [hn_w1] at G
  replace G := o_istore (q := 78) (l' := #[.val (.int i0), .val (.int i1), .val (.int 0), .val (.int 0), .val (.int 1), .val (.int 2), .val (.int 1), .val (.int 2), .val (.int w1), .unset, .unset, .unset, .unset, .unset, .unset, .unset]) G X0.here hx (hb hby at_76) rfl rfl
  replace G := o_iloadN (q := 79) G X0.here hx (hb hby at_78) rfl rfl
  replace G := o_iconst (q := 80) G X0.here hx (hb hby at_79) (v := (2 : Int32)) (by decide) rfl
  obtain ⟨m2, hn_m2⟩ : ∃ z : Int32, (i1 &&& (2 : Int32)) = z := ⟨_, rfl⟩
  replace G := o_iand (q := 81) G X0.here hx (hb hby at_80) hn_m2 rfl
  replace G : Gets p e below (s₁.setTop (entryFrame m #[(.int i0), (.int i1)] maxLocals)) (s₁.setTop (mkF m 89 #[.val (.int i0), .val (.int i1), .val (.int 0), .val (.int 0), .val (.int 1), .val (.int 2), .val (.int 1), .val (.int 2), .val (.int w1), .unset, .unset, .unset, .unset, .unset, .unset, .unset] [(.int (if m2 = (0 : Int32) then (0 : Int32) else (1 : Int32)))])) := by
    by_cases hc81_6 : m2 = (0 : Int32)
    · replace G := o_ifYes (q := 88) G X0.here hx (hb hby at_81) ((if0 _ _).trans (teq hc81_6).1) (by decide) (by decide)
      replace G := o_iconst (q := 89) G X0.here hx (hb hby at_88) (v := (0 : Int32)) (by decide) rfl
      simp only [if_pos hc81_6]
      exact G
    · replace G := o_ifNo (q := 84) G X0.here hx (hb hby at_81) ((if0 _ _).trans (feq hc81_6).1) rfl
      replace G := o_iconst (q := 85) G X0.here hx (hb hby at_84) (v := (1 : Int32)) (by decide) rfl
      replace G := o_goto (q := 89) G X0.here hx (hb hby at_85) (by decide) (by decide)
      simp only [if_neg hc81_6]
      exact G
  obtain ⟨w2, hn_w2⟩ : ∃ z : Int32, (if m2 = (0 : Int32) then (0 : Int32) else (1 : Int32)) = z := ⟨_, rfl⟩
  rw [hn_w2] at G
  replace G := o_istore (q := 91) (l' := #[.val (.int i0), .val (.int i1), .val (.int 0), .val (.int 0), .val (.int 1), .val (.int 2), .val (.int 1), .val (.int 2), .val (.int w1), .val (.int w2), .unset, .unset, .unset, .unset, .unset, .unset]) G X0.here hx (hb hby at_89) rfl rfl
  obtain ⟨T7, h7, X7, e7, E7, A7, D7, -, st7⟩ := newO X0 hx hZ hown (o_w hw 1 rfl) (o_w hw 2 rfl) (o_w hw 3 rfl) e0 (g := o_g G) rfl (hb hby at_91) (by decide) (by decide)
  obtain ⟨b7, g7⟩ : ∃ z, z = h0.size := ⟨_, rfl⟩
  rw [← g7] at A7 D7 st7
  have ge_b7 : n0 ≤ b7 := Nat.le_trans Z0 (Nat.le_of_eq g7.symm)
  have Z7 : n0 ≤ h7.size := Nat.le_trans Z0 E7.1
  have F7_bump : Fld Z h7 b7 o_n0 "bump" "D" (.double 0) := D7 (Or.inl (o_w hw 11 rfl)) (ty := .double) (by decide)
  have F7_activity : Fld Z h7 b7 o_n0 "activity" "[D" .null := D7 (Or.inr (o_w hw 14 rfl)) (ty := (.array .double)) (by decide)
  have F7_heap : Fld Z h7 b7 o_n0 "heap" "[I" .null := D7 (Or.inr (o_w hw 17 rfl)) (ty := (.array .int)) (by decide)
  have F7_heapIndex : Fld Z h7 b7 o_n0 "heapIndex" "[I" .null := D7 (Or.inr (o_w hw 19 rfl)) (ty := (.array .int)) (by decide)
  have F7_heapSize : Fld Z h7 b7 o_n0 "heapSize" "I" (.int 0) := D7 (Or.inl (o_w hw 26 rfl)) (ty := .int) (by decide)
  replace G := o_nxs (q := 94) (st := [(.ref b7)]) G st7 rfl
  replace G := o_dup (q := 95) G X7.here hx (hb hby at_94) rfl rfl
  replace G := o_iconst (q := 96) G X7.here hx (hb hby at_95) (v := (3 : Int32)) (by decide) rfl
  replace G := o_aconst_null (q := 97) G X7.here hx (hb hby at_96) rfl
  obtain ⟨_, _, ⟨T8, L8, kk8, nn8⟩, -, X8, ⟨Lc8, hQ8, l8, y8, z8⟩, st8⟩ := X7.specialBack hx (y := (⟨o_n0, "<init>", "(ILcom/example/gridwright/gridwright/core/SplitMix64;)V"⟩ : MethodName)) rfl hown (mvT hZ (o_w hw 4 rfl)) (mvT hZ (o_w hw 5 rfl)) (mvT hZ (o_w hw 6 rfl)) (by decide) (backOf (W := 1) (rm1 l Z a0 hw [] b7 h7 n0 Z7 A7 F7_activity F7_heap F7_heapIndex F7_heapSize F7_bump ge_b7) hZ (o_w hw 6 rfl) (o_w hw 3 rfl) (by decide) (by decide)) (g := o_g G) rfl (by rw [hml]; rfl) (Steps.refl _) (a := b7) (argsL := [(.int 3), .null]) (rest := [(.ref b7)]) (lenOf pd_2 rfl) rfl (by show 2 * 0 + _ ≤ _; exact Nat.le_of_eq rfl) (hb hby at_97) (fun _ _ => ⟨rfl, e7, (by decide : 1 + 3 ≤ _), (by decide : 5 + 9 ≤ _)⟩)
  dsimp only [Pt.U, Pt.locs, Pt.cells, Pt.slots] at X8 l8 y8 z8 st8 hQ8
  subst l8 y8 z8
  obtain ⟨va_8, vh_8, vx_8, ka_8, kh_8, kx_8, rfl, N8q, K8q, B8_0, B8_1, B8_2, B8_3, B8_4, B8_5, B8_6, B8_7, B8_8, B8_9, B8_10, B8_11, B8_12, B8_13⟩ := hQ8
  have ne9 : b7 ≠ va_8 := Nat.ne_of_lt (Nat.lt_of_lt_of_le F7_heapSize.lt B8_5)
  have ge_va_8 : n0 ≤ va_8 := Nat.le_trans Z7 B8_5
  have ne10 : b7 ≠ vh_8 := Nat.ne_of_lt (Nat.lt_of_lt_of_le F7_heapSize.lt B8_6)
  have ge_vh_8 : n0 ≤ vh_8 := Nat.le_trans Z7 B8_6
  have ne11 : b7 ≠ vx_8 := Nat.ne_of_lt (Nat.lt_of_lt_of_le F7_heapSize.lt B8_7)
  have ge_vx_8 : n0 ≤ vx_8 := Nat.le_trans Z7 B8_7
  have Z8 : n0 ≤ T8.heap.size := Nat.le_trans Z7 K8q.1
  have N8 := Fr.app N0 N8q
  replace G := o_nxv (q := 100) (st := [(.ref b7)]) G st8 rfl
  replace G := o_astore (q := 102) (l' := #[.val (.int i0), .val (.int i1), .val (.int 0), .val (.int 0), .val (.int 1), .val (.int 2), .val (.int 1), .val (.int 2), .val (.int w1), .val (.int w2), .val (.ref b7), .unset, .unset, .unset, .unset, .unset]) G X8.here hx (hb hby at_100) rfl rfl rfl
  replace G := o_aload (q := 104) G X8.here hx (hb hby at_102) rfl rfl rfl
  replace G := o_iloadN (q := 105) G X8.here hx (hb hby at_104) rfl rfl
  have F13 := (A7.keep K8q)
  obtain ⟨T12, _, Lc12, X12, hQ12, G⟩ := o_vb (q := 108) (W := 0) (argsL := [(.int 0)]) (rest := []) (y := (⟨o_n0, "bump", "(I)V"⟩ : MethodName)) G X8 hx hZ hown (by rw [hml]; rfl) ⟨(o_w hw 35 rfl), (o_w hw 36 rfl), (o_w hw 38 rfl), (o_w hw 37 rfl), (o_w hw 39 rfl), (o_w hw 3 rfl)⟩ (by decide) rfl F13 (rm6f0 l Z a0 hw [] b7 (0 : Int32) va_8 vh_8 vx_8 ka_8 kh_8 kx_8 (0 : Int32) (1 : Int32) (2 : Int32) [(.double 0), (.double 0), (.double 0)] [(.int 0), (.int 1), (.int 2)] [(.int 0), (.int 1), (.int 2)] o_d0 [(.double o_d0), (.double 0), (.double 0)] (0 : UInt64) o_d0 T8.heap n0 Z8 F13 B8_0 B8_1 B8_2 B8_4 B8_11 B8_12 B8_13 ge_va_8 ge_vh_8 ge_vx_8 ne9 ne10 ne11 B8_8 B8_9 B8_10 ⟨by decide, by decide⟩ ⟨by decide, by decide⟩ rfl rfl rfl rfl (by decide +kernel) (o_nan (by decide +kernel)) (by decide +kernel) rfl rfl rfl) (lenOf pd_1 rfl) rfl (Nat.le_of_eq rfl) (hb hby at_105) rfl (by decide) (by decide) (by decide) (by decide)
  obtain ⟨rfl, N12q, K12q, B12_0, B12_1, B12_2⟩ := hQ12
  have Z12 : n0 ≤ T12.heap.size := Nat.le_trans Z8 K12q.1
  have N12 := Fr.app N8 N12q
  replace G := o_re (st := []) G rfl
  rcases o_01 hn_w1 with rfl | rfl
  replace G := o_iload (q := 110) G X12.here hx (hb hby at_108) rfl rfl
  replace G := o_ifYes (q := 118) G X12.here hx (hb hby at_110) (by decide) (by decide) (by decide)
  replace G := o_aload (q := 120) G X12.here hx (hb hby at_118) rfl rfl rfl
  replace G := o_iload (q := 122) G X12.here hx (hb hby at_120) rfl rfl
  have F16 := (F13.keep K12q)
  have F17 := (B8_0.keep K12q (ninS ne9 (ninS ne10 (ninS ne11 nin0))))
  have F18 := (B8_1.keep K12q (ninS ne9 (ninS ne10 (ninS ne11 nin0))))
  have F19 := (B8_2.keep K12q (ninS ne9 (ninS ne10 (ninS ne11 nin0))))
  have F20 := (B8_4.keep K12q (ninS ne9 (ninS ne10 (ninS ne11 nin0))))
  obtain ⟨T15, _, Lc15, X15, hQ15, G⟩ := o_vb (q := 125) (W := 0) (argsL := [(.int 1)]) (rest := []) (y := (⟨o_n0, "bump", "(I)V"⟩ : MethodName)) G X12 hx hZ hown (by rw [hml]; rfl) ⟨(o_w hw 35 rfl), (o_w hw 36 rfl), (o_w hw 38 rfl), (o_w hw 37 rfl), (o_w hw 39 rfl), (o_w hw 3 rfl)⟩ (by decide) rfl F16 (rm6f1f l Z a0 hw [] b7 (1 : Int32) va_8 vh_8 vx_8 ka_8 kh_8 kx_8 (0 : Int32) (1 : Int32) (2 : Int32) [(.double o_d0), (.double 0), (.double 0)] [(.int 0), (.int 1), (.int 2)] [(.int 0), (.int 1), (.int 2)] o_d0 [(.double o_d0), (.double o_d0), (.double 0)] (0 : UInt64) o_d0 o_d0 o_d0 T12.heap n0 Z12 F16 F17 F18 F19 F20 B12_0 B12_1 B12_2 ge_va_8 ge_vh_8 ge_vx_8 ne9 ne10 ne11 B8_8 B8_9 B8_10 ⟨by decide, by decide⟩ ⟨by decide, by decide⟩ ⟨by decide, by decide⟩ rfl rfl rfl rfl (by decide +kernel) (o_nan (by decide +kernel)) (by decide +kernel) rfl rfl rfl rfl (by decide +kernel) rfl) (lenOf pd_1 rfl) rfl (Nat.le_of_eq rfl) (hb hby at_122) rfl (by decide) (by decide) (by decide) (by decide)
  obtain ⟨rfl, N15q, K15q, B15_0, B15_1, B15_2⟩ := hQ15
  have Z15 : n0 ≤ T15.heap.size := Nat.le_trans Z12 K15q.1
  have N15 := Fr.app N12 N15q
  replace G := o_re (st := []) G rfl
  rcases o_01 hn_w2 with rfl | rfl
  replace G := o_iload (q := 127) G X15.here hx (hb hby at_125) rfl rfl
  replace G := o_ifYes (q := 135) G X15.here hx (hb hby at_127) (by decide) (by decide) (by decide)
  replace G := o_aload (q := 137) G X15.here hx (hb hby at_135) rfl rfl rfl
  replace G := o_iload (q := 139) G X15.here hx (hb hby at_137) rfl rfl
  have F23 := (F16.keep K15q)
  have F24 := (F17.keep K15q (ninS ne9 (ninS ne10 (ninS ne11 nin0))))
  have F25 := (F18.keep K15q (ninS ne9 (ninS ne10 (ninS ne11 nin0))))
  have F26 := (F19.keep K15q (ninS ne9 (ninS ne10 (ninS ne11 nin0))))
  have F27 := (F20.keep K15q (ninS ne9 (ninS ne10 (ninS ne11 nin0))))
  obtain ⟨T22, _, Lc22, X22, hQ22, G⟩ := o_vb (q := 142) (W := 0) (argsL := [(.int 2)]) (rest := []) (y := (⟨o_n0, "bump", "(I)V"⟩ : MethodName)) G X15 hx hZ hown (by rw [hml]; rfl) ⟨(o_w hw 35 rfl), (o_w hw 36 rfl), (o_w hw 38 rfl), (o_w hw 37 rfl), (o_w hw 39 rfl), (o_w hw 3 rfl)⟩ (by decide) rfl F23 (rm6f2f l Z a0 hw [] b7 (2 : Int32) va_8 vh_8 vx_8 ka_8 kh_8 kx_8 (0 : Int32) (1 : Int32) (2 : Int32) [(.double o_d0), (.double o_d0), (.double 0)] [(.int 0), (.int 1), (.int 2)] [(.int 0), (.int 1), (.int 2)] o_d0 [(.double o_d0), (.double o_d0), (.double o_d0)] (0 : UInt64) o_d0 o_d0 o_d0 T15.heap n0 Z15 F23 F24 F25 F26 F27 B15_0 B15_1 B15_2 ge_va_8 ge_vh_8 ge_vx_8 ne9 ne10 ne11 B8_8 B8_9 B8_10 ⟨by decide, by decide⟩ ⟨by decide, by decide⟩ ⟨by decide, by decide⟩ rfl rfl rfl rfl (by decide +kernel) (o_nan (by decide +kernel)) (by decide +kernel) rfl rfl rfl rfl (by decide +kernel) rfl) (lenOf pd_1 rfl) rfl (Nat.le_of_eq rfl) (hb hby at_139) rfl (by decide) (by decide) (by decide) (by decide)
  obtain ⟨rfl, N22q, K22q, B22_0, B22_1, B22_2⟩ := hQ22
  have Z22 : n0 ≤ T22.heap.size := Nat.le_trans Z15 K22q.1
  have N22 := Fr.app N15 N22q
  replace G := o_re (st := []) G rfl
  replace G := o_iconst (q := 143) G X22.here hx (hb hby at_142) (v := (3 : Int32)) (by decide) rfl
  obtain ⟨T28, h28, k28, X28, e28, E28, A28, st28⟩ := newP X22 hx hZ (o_w hw 15 rfl) rfl (g := o_g G) rfl (hb hby at_143) rfl (by decide) (cap := 3) (by decide) (by decide) (by decide) (by decide)
  obtain ⟨b28, g28⟩ : ∃ z, z = T22.heap.size := ⟨_, rfl⟩
  rw [← g28] at A28 st28
  have ne29 : vx_8 ≠ b28 := Nat.ne_of_lt (Nat.lt_of_lt_of_le B22_2.lt (Nat.le_of_eq g28.symm))
  have ne30 : vh_8 ≠ b28 := Nat.ne_of_lt (Nat.lt_of_lt_of_le B22_1.lt (Nat.le_of_eq g28.symm))
  have ne31 : va_8 ≠ b28 := Nat.ne_of_lt (Nat.lt_of_lt_of_le B22_0.lt (Nat.le_of_eq g28.symm))
  have F32 := (F27.keep K22q (ninS ne9 (ninS ne10 (ninS ne11 nin0))))
  have ne33 : b7 ≠ b28 := Nat.ne_of_lt (Nat.lt_of_lt_of_le F32.lt (Nat.le_of_eq g28.symm))
  have ge_b28 : n0 ≤ b28 := Nat.le_trans Z22 (Nat.le_of_eq g28.symm)
  have Z28 : n0 ≤ h28.size := Nat.le_trans Z22 E28.1
  have V28 : Arv Z h28 b28 k28 .int 3 [(.int 0), (.int 0), (.int 0)] (.int 0) := (Arv.new A28 (by decide)).pad (pad_rep [] (.int 0) 3)
  replace G := o_nxs (q := 145) (st := [(.ref b28)]) G st28 rfl
  replace G := o_astore (q := 147) (l' := #[.val (.int i0), .val (.int i1), .val (.int 0), .val (.int 0), .val (.int 1), .val (.int 2), .val (.int 1), .val (.int 2), .val (.int 0), .val (.int 0), .val (.ref b7), .val (.ref b28), .unset, .unset, .unset, .unset]) G X28.here hx (hb hby at_145) rfl rfl rfl
  replace G := o_aload (q := 149) G X28.here hx (hb hby at_147) rfl rfl rfl
  replace G := o_iloadN (q := 150) G X28.here hx (hb hby at_149) rfl rfl
  replace G := o_iconst (q := 151) G X28.here hx (hb hby at_150) (v := (0 : Int32)) (by decide) rfl
  obtain ⟨c34, Ar34, q34, S34, N34', H34, G34'⟩ := id V28
  have hin34 : ¬ ((0 : Int32) < 0 ∨ c34.slots.size ≤ ((0 : Int32)).toNatClampNeg) := inb_of S34 ⟨by decide, by decide⟩
  obtain ⟨T34, h34, X34, e34, W34, st34⟩ := stI X28 hx hZ e28 Ar34 (j := (0 : Int32)) hin34 (g := o_g G) rfl rfl (hb hby at_151)
  have N34 := Fr.snoc X34 N22 ge_b28
  have Z34 : n0 ≤ h34.size := Nat.le_trans Z28 (Keep.of_wr W34).1
  have V34 : Arv Z h34 b28 k28 .int 3 [(.int 0), (.int 0), (.int 0)] (.int 0) := Arv.set Ar34 q34 S34 N34' H34 G34' rfl W34 0 rfl (Nat.le_of_ble_eq_true rfl)
  replace G := o_nxs (q := 152) (st := []) G st34 rfl
  replace G := o_aload (q := 154) G X34.here hx (hb hby at_152) rfl rfl rfl
  replace G := o_iload (q := 156) G X34.here hx (hb hby at_154) rfl rfl
  replace G := o_iload (q := 158) G X34.here hx (hb hby at_156) rfl rfl
  replace G := o_ifYes (q := 165) G X34.here hx (hb hby at_158) (by decide) (by decide) (by decide)
  replace G := o_iconst (q := 166) G X34.here hx (hb hby at_165) (v := (0 : Int32)) (by decide) rfl
  obtain ⟨c36, Ar36, q36, S36, N36', H36, G36'⟩ := id V34
  have hin36 : ¬ ((1 : Int32) < 0 ∨ c36.slots.size ≤ ((1 : Int32)).toNatClampNeg) := inb_of S36 ⟨by decide, by decide⟩
  obtain ⟨T36, h36, X36, e36, W36, st36⟩ := stI X34 hx hZ e34 Ar36 (j := (1 : Int32)) hin36 (g := o_g G) rfl rfl (hb hby at_166)
  have N36 := Fr.snoc X36 N34 ge_b28
  have Z36 : n0 ≤ h36.size := Nat.le_trans Z34 (Keep.of_wr W36).1
  have V36 : Arv Z h36 b28 k28 .int 3 [(.int 0), (.int 0), (.int 0)] (.int 0) := Arv.set Ar36 q36 S36 N36' H36 G36' rfl W36 1 rfl (Nat.le_of_ble_eq_true rfl)
  replace G := o_nxs (q := 167) (st := []) G st36 rfl
  replace G := o_aload (q := 169) G X36.here hx (hb hby at_167) rfl rfl rfl
  replace G := o_iload (q := 171) G X36.here hx (hb hby at_169) rfl rfl
  replace G := o_aload (q := 173) G X36.here hx (hb hby at_171) rfl rfl rfl
  replace G := o_iload (q := 175) G X36.here hx (hb hby at_173) rfl rfl
  obtain ⟨c37, Ar37, -, S37, -, H37, -⟩ := id V36
  have hin37 : ¬ ((1 : Int32) < 0 ∨ c37.slots.size ≤ ((1 : Int32)).toNatClampNeg) := inb_of S37 ⟨by decide, by decide⟩
  replace G := o_nxs (q := 176) (st := [(.int 0), (.int 2), (.ref b28)]) G (X36.iaload hx (j := (1 : Int32)) (v := (.int 0)) (by rw [e36]; exact Ar37.1) (State.isArrayOf_alike hZ.alike Ar37.2.1) Ar37.2.2 hin37 (Has.at H37 hin37 rfl) (g := o_g G) rfl rfl (hb hby at_175)) rfl
  replace G := o_iload (q := 178) G X36.here hx (hb hby at_176) rfl rfl
  replace G := o_ifYes (q := 185) G X36.here hx (hb hby at_178) (by decide) (by decide) (by decide)
  replace G := o_iconst (q := 186) G X36.here hx (hb hby at_185) (v := (0 : Int32)) (by decide) rfl
  replace G := o_iadd (q := 187) G X36.here hx (hb hby at_186) (by decide : ((0 : Int32) + (0 : Int32)) = (0 : Int32)) rfl
  obtain ⟨c39, Ar39, q39, S39, N39', H39, G39'⟩ := id V36
  have hin39 : ¬ ((2 : Int32) < 0 ∨ c39.slots.size ≤ ((2 : Int32)).toNatClampNeg) := inb_of S39 ⟨by decide, by decide⟩
  obtain ⟨T39, h39, X39, e39, W39, st39⟩ := stI X36 hx hZ e36 Ar39 (j := (2 : Int32)) hin39 (g := o_g G) rfl rfl (hb hby at_187)
  have N39 := Fr.snoc X39 N36 ge_b28
  have Z39 : n0 ≤ h39.size := Nat.le_trans Z36 (Keep.of_wr W39).1
  have V39 : Arv Z h39 b28 k28 .int 3 [(.int 0), (.int 0), (.int 0)] (.int 0) := Arv.set Ar39 q39 S39 N39' H39 G39' rfl W39 2 rfl (Nat.le_of_ble_eq_true rfl)
  replace G := o_nxs (q := 188) (st := []) G st39 rfl
  replace G := o_aload (q := 190) G X39.here hx (hb hby at_188) rfl rfl rfl
  have F41 := (((((F23.keep K22q).ext E28).wr W34).wr W36).wr W39)
  have F42 := (((((F24.keep K22q (ninS ne9 (ninS ne10 (ninS ne11 nin0)))).ext E28).other W34 (Or.inl ne33)).other W36 (Or.inl ne33)).other W39 (Or.inl ne33))
  have F43 := (((((F25.keep K22q (ninS ne9 (ninS ne10 (ninS ne11 nin0)))).ext E28).other W34 (Or.inl ne33)).other W36 (Or.inl ne33)).other W39 (Or.inl ne33))
  have F44 := (((((F26.keep K22q (ninS ne9 (ninS ne10 (ninS ne11 nin0)))).ext E28).other W34 (Or.inl ne33)).other W36 (Or.inl ne33)).other W39 (Or.inl ne33))
  have F45 := (((((((B8_3.keep K12q (ninS ne9 (ninS ne10 (ninS ne11 nin0)))).keep K15q (ninS ne9 (ninS ne10 (ninS ne11 nin0)))).keep K22q (ninS ne9 (ninS ne10 (ninS ne11 nin0)))).ext E28).other W34 (Or.inl ne33)).other W36 (Or.inl ne33)).other W39 (Or.inl ne33))
  have F46 := ((((F32.ext E28).other W34 (Or.inl ne33)).other W36 (Or.inl ne33)).other W39 (Or.inl ne33))
  have F47 := ((((B22_0.ext E28).other W34 ne31).other W36 ne31).other W39 ne31)
  have F48 := ((((B22_1.ext E28).other W34 ne30).other W36 ne30).other W39 ne30)
  have F49 := ((((B22_2.ext E28).other W34 ne29).other W36 ne29).other W39 ne29)
  obtain ⟨T40, _, Lc40, X40, hQ40, G⟩ := o_vb (q := 193) (W := 0) (argsL := []) (rest := []) (y := (⟨o_n0, "takeFirst", "()I"⟩ : MethodName)) G X39 hx hZ hown (by rw [hml]; rfl) ⟨(o_w hw 47 rfl), (o_w hw 48 rfl), (o_w hw 50 rfl), (o_w hw 49 rfl), (o_w hw 51 rfl), (o_w hw 3 rfl)⟩ (by decide) e39 F41 (rm8n3t l Z a0 hw [] b7 va_8 vh_8 vx_8 ka_8 kh_8 kx_8 (0 : Int32) (1 : Int32) (2 : Int32) [(.double o_d0), (.double o_d0), (.double o_d0)] [(.int 0), (.int 1), (.int 2)] [(.int (-1)), (.int 0), (.int 1)] o_d0 o_d0 o_d0 h39 n0 Z39 F41 F42 F43 F44 F45 F46 F47 F48 F49 ge_b7 ge_vh_8 ge_vx_8 ne9 ne10 ne11 B8_8 B8_9 B8_10 ⟨by decide, by decide⟩ ⟨by decide, by decide⟩ ⟨by decide, by decide⟩ rfl rfl rfl (by decide +kernel) rfl) (lenOf pd_3 rfl) rfl (Nat.le_of_eq rfl) (hb hby at_190) rfl (by decide) (by decide) (by decide) (by decide)
  obtain ⟨rfl, N40q, K40q, B40_0, B40_1, B40_2, B40_3, B40_4, B40_5, B40_6⟩ := hQ40
  have Z40 : n0 ≤ T40.heap.size := Nat.le_trans Z39 K40q.1
  have N40 := Fr.app N39 N40q
  replace G := o_re (st := [(.int 0)]) G rfl
  replace G := o_istore (q := 195) (l' := #[.val (.int i0), .val (.int i1), .val (.int 0), .val (.int 0), .val (.int 1), .val (.int 2), .val (.int 1), .val (.int 2), .val (.int 0), .val (.int 0), .val (.ref b7), .val (.ref b28), .val (.int 0), .unset, .unset, .unset]) G X40.here hx (hb hby at_193) rfl rfl
  replace G := o_aload (q := 197) G X40.here hx (hb hby at_195) rfl rfl rfl
  have F51 := (F41.keep K40q)
  have F52 := (F47.keep K40q (ninS (Ne.symm ne9) (ninS B8_8 (ninS B8_9 nin0))))
  obtain ⟨T50, _, Lc50, X50, hQ50, G⟩ := o_vb (q := 200) (W := 0) (argsL := []) (rest := []) (y := (⟨o_n0, "takeFirst", "()I"⟩ : MethodName)) G X40 hx hZ hown (by rw [hml]; rfl) ⟨(o_w hw 47 rfl), (o_w hw 48 rfl), (o_w hw 50 rfl), (o_w hw 49 rfl), (o_w hw 51 rfl), (o_w hw 3 rfl)⟩ (by decide) rfl F51 (rm8n2 l Z a0 hw [] b7 va_8 vh_8 vx_8 ka_8 kh_8 kx_8 (1 : Int32) (2 : Int32) (2 : Int32) [(.double o_d0), (.double o_d0), (.double o_d0)] [(.int (-1)), (.int 0), (.int 1)] [(.int (-1)), (.int (-1)), (.int 0)] o_d0 T40.heap n0 Z40 F51 B40_0 B40_1 B40_2 B40_3 B40_4 F52 B40_5 B40_6 ge_b7 ge_vh_8 ge_vx_8 ne9 ne10 ne11 B8_8 B8_9 B8_10 ⟨by decide, by decide⟩ ⟨by decide, by decide⟩ rfl rfl) (lenOf pd_3 rfl) rfl (Nat.le_of_eq rfl) (hb hby at_197) rfl (by decide) (by decide) (by decide) (by decide)
  obtain ⟨rfl, N50q, K50q, B50_0, B50_1, B50_2, B50_3, B50_4, B50_5, B50_6⟩ := hQ50
  have Z50 : n0 ≤ T50.heap.size := Nat.le_trans Z40 K50q.1
  have N50 := Fr.app N40 N50q
  replace G := o_re (st := [(.int 1)]) G rfl
  replace G := o_istore (q := 202) (l' := #[.val (.int i0), .val (.int i1), .val (.int 0), .val (.int 0), .val (.int 1), .val (.int 2), .val (.int 1), .val (.int 2), .val (.int 0), .val (.int 0), .val (.ref b7), .val (.ref b28), .val (.int 0), .val (.int 1), .unset, .unset]) G X50.here hx (hb hby at_200) rfl rfl
  replace G := o_aload (q := 204) G X50.here hx (hb hby at_202) rfl rfl rfl
  have F54 := (F51.keep K50q)
  have F55 := (F52.keep K50q (ninS (Ne.symm ne9) (ninS B8_8 (ninS B8_9 nin0))))
  obtain ⟨T53, _, Lc53, X53, hQ53, G⟩ := o_vb (q := 207) (W := 0) (argsL := []) (rest := []) (y := (⟨o_n0, "takeFirst", "()I"⟩ : MethodName)) G X50 hx hZ hown (by rw [hml]; rfl) ⟨(o_w hw 47 rfl), (o_w hw 48 rfl), (o_w hw 50 rfl), (o_w hw 49 rfl), (o_w hw 51 rfl), (o_w hw 3 rfl)⟩ (by decide) rfl F54 (rm8n1 l Z a0 hw [] b7 va_8 vh_8 vx_8 ka_8 kh_8 kx_8 (2 : Int32) (2 : Int32) (2 : Int32) [(.double o_d0), (.double o_d0), (.double o_d0)] [(.int (-1)), (.int (-1)), (.int 0)] [(.int (-1)), (.int (-1)), (.int (-1))] o_d0 T50.heap n0 Z50 F54 B50_0 B50_1 B50_2 B50_3 B50_4 F55 B50_5 B50_6 ge_b7 ge_vh_8 ge_vx_8 ne9 ne10 ne11 B8_8 B8_9 B8_10 ⟨by decide, by decide⟩ rfl rfl) (lenOf pd_3 rfl) rfl (Nat.le_of_eq rfl) (hb hby at_204) rfl (by decide) (by decide) (by decide) (by decide)
  obtain ⟨rfl, N53q, K53q, B53_0, B53_1, B53_2, B53_3, B53_4, B53_5, B53_6⟩ := hQ53
  have Z53 : n0 ≤ T53.heap.size := Nat.le_trans Z50 K53q.1
  have N53 := Fr.app N50 N53q
  replace G := o_re (st := [(.int 2)]) G rfl
  replace G := o_istore (q := 209) (l' := #[.val (.int i0), .val (.int i1), .val (.int 0), .val (.int 0), .val (.int 1), .val (.int 2), .val (.int 1), .val (.int 2), .val (.int 0), .val (.int 0), .val (.ref b7), .val (.ref b28), .val (.int 0), .val (.int 1), .val (.int 2), .unset]) G X53.here hx (hb hby at_207) rfl rfl
  replace G := o_iload (q := 211) G X53.here hx (hb hby at_209) rfl rfl
  replace G := o_ifNo (q := 214) G X53.here hx (hb hby at_211) (by decide) rfl
  replace G := o_iload (q := 216) G X53.here hx (hb hby at_214) rfl rfl
  replace G := o_iconst (q := 217) G X53.here hx (hb hby at_216) (v := (3 : Int32)) (by decide) rfl
  replace G := o_icmpNo (q := 220) G X53.here hx (hb hby at_217) (by decide) rfl
  replace G := o_iload (q := 222) G X53.here hx (hb hby at_220) rfl rfl
  replace G := o_ifNo (q := 225) G X53.here hx (hb hby at_222) (by decide) rfl
  replace G := o_iload (q := 227) G X53.here hx (hb hby at_225) rfl rfl
  replace G := o_iconst (q := 228) G X53.here hx (hb hby at_227) (v := (3 : Int32)) (by decide) rfl
  replace G := o_icmpNo (q := 231) G X53.here hx (hb hby at_228) (by decide) rfl
  replace G := o_iload (q := 233) G X53.here hx (hb hby at_231) rfl rfl
  replace G := o_ifNo (q := 236) G X53.here hx (hb hby at_233) (by decide) rfl
  replace G := o_iload (q := 238) G X53.here hx (hb hby at_236) rfl rfl
  replace G := o_iconst (q := 239) G X53.here hx (hb hby at_238) (v := (3 : Int32)) (by decide) rfl
  replace G := o_icmpNo (q := 242) G X53.here hx (hb hby at_239) (by decide) rfl
  replace G := o_iload (q := 244) G X53.here hx (hb hby at_242) rfl rfl
  replace G := o_iload (q := 246) G X53.here hx (hb hby at_244) rfl rfl
  replace G := o_icmpNo (q := 249) G X53.here hx (hb hby at_246) (by decide) rfl
  replace G := o_iload (q := 251) G X53.here hx (hb hby at_249) rfl rfl
  replace G := o_iload (q := 253) G X53.here hx (hb hby at_251) rfl rfl
  replace G := o_icmpNo (q := 256) G X53.here hx (hb hby at_253) (by decide) rfl
  replace G := o_iload (q := 258) G X53.here hx (hb hby at_256) rfl rfl
  replace G := o_iload (q := 260) G X53.here hx (hb hby at_258) rfl rfl
  replace G := o_icmpNo (q := 263) G X53.here hx (hb hby at_260) (by decide) rfl
  replace G := o_iconst (q := 264) G X53.here hx (hb hby at_263) (v := (1 : Int32)) (by decide) rfl
  replace G := o_goto (q := 268) G X53.here hx (hb hby at_264) (by decide) (by decide)
  replace G := o_istore (q := 270) (l' := #[.val (.int i0), .val (.int i1), .val (.int 0), .val (.int 0), .val (.int 1), .val (.int 2), .val (.int 1), .val (.int 2), .val (.int 0), .val (.int 0), .val (.ref b7), .val (.ref b28), .val (.int 0), .val (.int 1), .val (.int 2), .val (.int 1)]) G X53.here hx (hb hby at_268) rfl rfl
  replace G := o_iload (q := 272) G X53.here hx (hb hby at_270) rfl rfl
  replace G := o_ifNo (q := 275) G X53.here hx (hb hby at_272) (by decide) rfl
  replace G := o_aload (q := 277) G X53.here hx (hb hby at_275) rfl rfl rfl
  replace G := o_iload (q := 279) G X53.here hx (hb hby at_277) rfl rfl
  replace G := o_iload (q := 281) G X53.here hx (hb hby at_279) rfl rfl
  have F67 := (((V39.keep K40q (ninS (Ne.symm ne33) (ninS (Ne.symm ne30) (ninS (Ne.symm ne29) nin0)))).keep K50q (ninS (Ne.symm ne33) (ninS (Ne.symm ne30) (ninS (Ne.symm ne29) nin0)))).keep K53q (ninS (Ne.symm ne33) (ninS (Ne.symm ne30) (ninS (Ne.symm ne29) nin0))))
  obtain ⟨_, _, ⟨T66, L66, kk66, nn66⟩, -, X66, ⟨Lc66, hQ66, l66, y66, z66⟩, st66⟩ := Jvm.LawKit.callS X53 hx (y := (⟨o_n1, "before", "([III)Z"⟩ : MethodName)) hown (mvT hZ (o_w hw 56 rfl)) (mvT hZ (o_w hw 57 rfl)) (mvT hZ (o_w hw 58 rfl)) (mvT hZ (o_w hw 59 rfl)) (by decide) (backOf (W := 0) (rm10 l Z a0 hw [] b28 (0 : Int32) (1 : Int32) k28 [(.int 0), (.int 0), (.int 0)] (0 : Int32) (0 : Int32) T53.heap n0 Z53 F67 ⟨by decide, by decide⟩ ⟨by decide, by decide⟩ rfl rfl) hZ (o_w hw 59 rfl) (o_w hw 58 rfl) (by decide) (by decide)) (g := o_g G) rfl (by rw [hml]; rfl) (argsL := [(.ref b28), (.int 0), (.int 1)]) (rest := []) (lenOf pd_4 rfl) rfl (by show 2 * 0 + _ ≤ _; exact Nat.le_of_eq rfl) (hb hby at_281) (fun _ _ => ⟨rfl, rfl, (by decide : 5 + 0 ≤ _), (by decide : 17 + 0 ≤ _)⟩)
  dsimp only [Pt.U, Pt.locs, Pt.cells, Pt.slots] at X66 l66 y66 z66 st66 hQ66
  subst l66 y66 z66
  obtain ⟨rfl, N66q, e66⟩ := hQ66
  have N66 := Fr.app N53 N66q
  replace G := o_nxs (q := 284) (st := [(.int (o_lb (0 : Int32) (0 : Int32) (0 : Int32) (1 : Int32)))]) G st66 rfl
  replace G := o_ifNo (q := 287) G X66.here hx (hb hby at_284) (by decide) rfl
  replace G := o_aload (q := 289) G X66.here hx (hb hby at_287) rfl rfl rfl
  replace G := o_iload (q := 291) G X66.here hx (hb hby at_289) rfl rfl
  replace G := o_iload (q := 293) G X66.here hx (hb hby at_291) rfl rfl
  obtain ⟨_, _, ⟨T69, L69, kk69, nn69⟩, -, X69, ⟨Lc69, hQ69, l69, y69, z69⟩, st69⟩ := Jvm.LawKit.callS X66 hx (y := (⟨o_n1, "before", "([III)Z"⟩ : MethodName)) hown (mvT hZ (o_w hw 56 rfl)) (mvT hZ (o_w hw 57 rfl)) (mvT hZ (o_w hw 58 rfl)) (mvT hZ (o_w hw 59 rfl)) (by decide) (backOf (W := 0) (rm10 l Z a0 hw [] b28 (1 : Int32) (2 : Int32) k28 [(.int 0), (.int 0), (.int 0)] (0 : Int32) (0 : Int32) T53.heap n0 Z53 F67 ⟨by decide, by decide⟩ ⟨by decide, by decide⟩ rfl rfl) hZ (o_w hw 59 rfl) (o_w hw 58 rfl) (by decide) (by decide)) (g := o_g G) rfl (by rw [hml]; rfl) (argsL := [(.ref b28), (.int 1), (.int 2)]) (rest := []) (lenOf pd_4 rfl) rfl (by show 2 * 0 + _ ≤ _; exact Nat.le_of_eq rfl) (hb hby at_293) (fun _ _ => ⟨rfl, e66, (by decide : 5 + 0 ≤ _), (by decide : 17 + 0 ≤ _)⟩)
  dsimp only [Pt.U, Pt.locs, Pt.cells, Pt.slots] at X69 l69 y69 z69 st69 hQ69
  subst l69 y69 z69
  obtain ⟨rfl, N69q, e69⟩ := hQ69
  have N69 := Fr.app N66 N69q
  replace G := o_nxs (q := 296) (st := [(.int (o_lb (0 : Int32) (0 : Int32) (1 : Int32) (2 : Int32)))]) G st69 rfl
  replace G := o_ifNo (q := 299) G X69.here hx (hb hby at_296) (by decide) rfl
  replace G := o_aload (q := 301) G X69.here hx (hb hby at_299) rfl rfl rfl
  have F72 := (F54.keep K53q)
  obtain ⟨T71, _, Lc71, X71, hQ71, G⟩ := o_vb (q := 304) (W := 0) (argsL := []) (rest := []) (y := (⟨o_n0, "isEmpty", "()Z"⟩ : MethodName)) G X69 hx hZ hown (by rw [hml]; rfl) ⟨(o_w hw 60 rfl), (o_w hw 61 rfl), (o_w hw 63 rfl), (o_w hw 62 rfl), (o_w hw 64 rfl), (o_w hw 3 rfl)⟩ (by decide) e69 F72 (rm11 l Z a0 hw [] b7 T53.heap n0 Z53 B53_3) (lenOf pd_5 rfl) rfl (Nat.le_of_eq rfl) (hb hby at_301) rfl (by decide) (by decide) (by decide) (by decide)
  obtain ⟨rfl, N71q, e71⟩ := hQ71
  have N71 := Fr.app N69 N71q
  replace G := o_re (st := [(.int 1)]) G rfl
  replace G := o_ifNo (q := 307) G X71.here hx (hb hby at_304) (by decide) rfl
  replace G := o_iconst (q := 308) G X71.here hx (hb hby at_307) (v := (1 : Int32)) (by decide) rfl
  replace G := o_goto (q := 312) G X71.here hx (hb hby at_308) (by decide) (by decide)
  obtain ⟨fs, hr, hrun, hended, hW, hsame⟩ := X71.leave (v := some (.int 1)) (fun h => by rw [Bd.returns] at h; cases h)
  refine ⟨_, _, G _ (retOut X71 hx Bd.returns rfl (Or.inl ⟨rfl, Or.inr (Or.inl rfl), _, rfl⟩) (hb hby at_312) hr), hrun, hended, _, _, rfl, ?_, ⟨_, rfl⟩, hW, hsame.mono (by decide) (by decide)⟩
  show Q0 Z i0 i1 h0 n0 _ T71.heap _
  rw [e71]
  exact ⟨rfl, N71⟩
  replace G := o_iload (q := 127) G X15.here hx (hb hby at_125) rfl rfl
  replace G := o_ifNo (q := 130) G X15.here hx (hb hby at_127) (by decide) rfl
  replace G := o_aload (q := 132) G X15.here hx (hb hby at_130) rfl rfl rfl
  have F76 := (F16.keep K15q)
  have F77 := (F17.keep K15q (ninS ne9 (ninS ne10 (ninS ne11 nin0))))
  have F78 := (F18.keep K15q (ninS ne9 (ninS ne10 (ninS ne11 nin0))))
  have F79 := (F19.keep K15q (ninS ne9 (ninS ne10 (ninS ne11 nin0))))
  have F80 := ((B8_3.keep K12q (ninS ne9 (ninS ne10 (ninS ne11 nin0)))).keep K15q (ninS ne9 (ninS ne10 (ninS ne11 nin0))))
  have F81 := (F20.keep K15q (ninS ne9 (ninS ne10 (ninS ne11 nin0))))
  obtain ⟨T75, _, Lc75, X75, hQ75, G⟩ := o_vb (q := 135) (W := 0) (argsL := []) (rest := []) (y := (⟨o_n0, "decay", "()V"⟩ : MethodName)) G X15 hx hZ hown (by rw [hml]; rfl) ⟨(o_w hw 41 rfl), (o_w hw 42 rfl), (o_w hw 44 rfl), (o_w hw 43 rfl), (o_w hw 45 rfl), (o_w hw 3 rfl)⟩ (by decide) rfl F76 (rm7 l Z a0 hw [] b7 va_8 vh_8 vx_8 o_d0 o_d1 (3 : Int32) T15.heap n0 Z15 F76 F77 F78 F79 F80 F81 ge_b7 (by decide +kernel) (o_nan (by decide +kernel))) (lenOf pd_6 rfl) rfl (Nat.le_of_eq rfl) (hb hby at_132) rfl (by decide) (by decide) (by decide) (by decide)
  obtain ⟨rfl, N75q, K75q, B75_0, B75_1, B75_2, B75_3, B75_4⟩ := hQ75
  have Z75 : n0 ≤ T75.heap.size := Nat.le_trans Z15 K75q.1
  have N75 := Fr.app N15 N75q
  replace G := o_re (st := []) G rfl
  replace G := o_aload (q := 137) G X75.here hx (hb hby at_135) rfl rfl rfl
  replace G := o_iload (q := 139) G X75.here hx (hb hby at_137) rfl rfl
  have F83 := (F76.keep K75q)
  have F84 := (B15_0.keep K75q (ninS (Ne.symm ne9) nin0))
  have F85 := (B15_1.keep K75q (ninS (Ne.symm ne10) nin0))
  have F86 := (B15_2.keep K75q (ninS (Ne.symm ne11) nin0))
  obtain ⟨T82, _, Lc82, X82, hQ82, G⟩ := o_vb (q := 142) (W := 0) (argsL := [(.int 2)]) (rest := []) (y := (⟨o_n0, "bump", "(I)V"⟩ : MethodName)) G X75 hx hZ hown (by rw [hml]; rfl) ⟨(o_w hw 35 rfl), (o_w hw 36 rfl), (o_w hw 38 rfl), (o_w hw 37 rfl), (o_w hw 39 rfl), (o_w hw 3 rfl)⟩ (by decide) rfl F83 (rm6f2t l Z a0 hw [] b7 (2 : Int32) va_8 vh_8 vx_8 ka_8 kh_8 kx_8 (0 : Int32) (1 : Int32) (2 : Int32) [(.double o_d0), (.double o_d0), (.double 0)] [(.int 0), (.int 1), (.int 2)] [(.int 2), (.int 1), (.int 0)] o_d1 [(.double o_d0), (.double o_d0), (.double o_d1)] (0 : UInt64) o_d1 o_d0 o_d1 T75.heap n0 Z75 F83 B75_0 B75_1 B75_2 B75_4 F84 F85 F86 ge_va_8 ge_vh_8 ge_vx_8 ne9 ne10 ne11 B8_8 B8_9 B8_10 ⟨by decide, by decide⟩ ⟨by decide, by decide⟩ ⟨by decide, by decide⟩ rfl rfl rfl rfl (by decide +kernel) (o_nan (by decide +kernel)) (by decide +kernel) rfl rfl rfl rfl (by decide +kernel) rfl) (lenOf pd_1 rfl) rfl (Nat.le_of_eq rfl) (hb hby at_139) rfl (by decide) (by decide) (by decide) (by decide)
  obtain ⟨rfl, N82q, K82q, B82_0, B82_1, B82_2⟩ := hQ82
  have Z82 : n0 ≤ T82.heap.size := Nat.le_trans Z75 K82q.1
  have N82 := Fr.app N75 N82q
  replace G := o_re (st := []) G rfl
  replace G := o_iconst (q := 143) G X82.here hx (hb hby at_142) (v := (3 : Int32)) (by decide) rfl
  obtain ⟨T87, h87, k87, X87, e87, E87, A87, st87⟩ := newP X82 hx hZ (o_w hw 15 rfl) rfl (g := o_g G) rfl (hb hby at_143) rfl (by decide) (cap := 3) (by decide) (by decide) (by decide) (by decide)
  obtain ⟨b87, g87⟩ : ∃ z, z = T82.heap.size := ⟨_, rfl⟩
  rw [← g87] at A87 st87
  have ne88 : vx_8 ≠ b87 := Nat.ne_of_lt (Nat.lt_of_lt_of_le B82_2.lt (Nat.le_of_eq g87.symm))
  have ne89 : vh_8 ≠ b87 := Nat.ne_of_lt (Nat.lt_of_lt_of_le B82_1.lt (Nat.le_of_eq g87.symm))
  have ne90 : va_8 ≠ b87 := Nat.ne_of_lt (Nat.lt_of_lt_of_le B82_0.lt (Nat.le_of_eq g87.symm))
  have F91 := (B75_4.keep K82q (ninS ne9 (ninS ne10 (ninS ne11 nin0))))
  have ne92 : b7 ≠ b87 := Nat.ne_of_lt (Nat.lt_of_lt_of_le F91.lt (Nat.le_of_eq g87.symm))
  have ge_b87 : n0 ≤ b87 := Nat.le_trans Z82 (Nat.le_of_eq g87.symm)
  have Z87 : n0 ≤ h87.size := Nat.le_trans Z82 E87.1
  have V87 : Arv Z h87 b87 k87 .int 3 [(.int 0), (.int 0), (.int 0)] (.int 0) := (Arv.new A87 (by decide)).pad (pad_rep [] (.int 0) 3)
  replace G := o_nxs (q := 145) (st := [(.ref b87)]) G st87 rfl
  replace G := o_astore (q := 147) (l' := #[.val (.int i0), .val (.int i1), .val (.int 0), .val (.int 0), .val (.int 1), .val (.int 2), .val (.int 1), .val (.int 2), .val (.int 0), .val (.int 1), .val (.ref b7), .val (.ref b87), .unset, .unset, .unset, .unset]) G X87.here hx (hb hby at_145) rfl rfl rfl
  replace G := o_aload (q := 149) G X87.here hx (hb hby at_147) rfl rfl rfl
  replace G := o_iloadN (q := 150) G X87.here hx (hb hby at_149) rfl rfl
  replace G := o_iconst (q := 151) G X87.here hx (hb hby at_150) (v := (0 : Int32)) (by decide) rfl
  obtain ⟨c93, Ar93, q93, S93, N93', H93, G93'⟩ := id V87
  have hin93 : ¬ ((0 : Int32) < 0 ∨ c93.slots.size ≤ ((0 : Int32)).toNatClampNeg) := inb_of S93 ⟨by decide, by decide⟩
  obtain ⟨T93, h93, X93, e93, W93, st93⟩ := stI X87 hx hZ e87 Ar93 (j := (0 : Int32)) hin93 (g := o_g G) rfl rfl (hb hby at_151)
  have N93 := Fr.snoc X93 N82 ge_b87
  have Z93 : n0 ≤ h93.size := Nat.le_trans Z87 (Keep.of_wr W93).1
  have V93 : Arv Z h93 b87 k87 .int 3 [(.int 0), (.int 0), (.int 0)] (.int 0) := Arv.set Ar93 q93 S93 N93' H93 G93' rfl W93 0 rfl (Nat.le_of_ble_eq_true rfl)
  replace G := o_nxs (q := 152) (st := []) G st93 rfl
  replace G := o_aload (q := 154) G X93.here hx (hb hby at_152) rfl rfl rfl
  replace G := o_iload (q := 156) G X93.here hx (hb hby at_154) rfl rfl
  replace G := o_iload (q := 158) G X93.here hx (hb hby at_156) rfl rfl
  replace G := o_ifYes (q := 165) G X93.here hx (hb hby at_158) (by decide) (by decide) (by decide)
  replace G := o_iconst (q := 166) G X93.here hx (hb hby at_165) (v := (0 : Int32)) (by decide) rfl
  obtain ⟨c95, Ar95, q95, S95, N95', H95, G95'⟩ := id V93
  have hin95 : ¬ ((1 : Int32) < 0 ∨ c95.slots.size ≤ ((1 : Int32)).toNatClampNeg) := inb_of S95 ⟨by decide, by decide⟩
  obtain ⟨T95, h95, X95, e95, W95, st95⟩ := stI X93 hx hZ e93 Ar95 (j := (1 : Int32)) hin95 (g := o_g G) rfl rfl (hb hby at_166)
  have N95 := Fr.snoc X95 N93 ge_b87
  have Z95 : n0 ≤ h95.size := Nat.le_trans Z93 (Keep.of_wr W95).1
  have V95 : Arv Z h95 b87 k87 .int 3 [(.int 0), (.int 0), (.int 0)] (.int 0) := Arv.set Ar95 q95 S95 N95' H95 G95' rfl W95 1 rfl (Nat.le_of_ble_eq_true rfl)
  replace G := o_nxs (q := 167) (st := []) G st95 rfl
  replace G := o_aload (q := 169) G X95.here hx (hb hby at_167) rfl rfl rfl
  replace G := o_iload (q := 171) G X95.here hx (hb hby at_169) rfl rfl
  replace G := o_aload (q := 173) G X95.here hx (hb hby at_171) rfl rfl rfl
  replace G := o_iload (q := 175) G X95.here hx (hb hby at_173) rfl rfl
  obtain ⟨c96, Ar96, -, S96, -, H96, -⟩ := id V95
  have hin96 : ¬ ((1 : Int32) < 0 ∨ c96.slots.size ≤ ((1 : Int32)).toNatClampNeg) := inb_of S96 ⟨by decide, by decide⟩
  replace G := o_nxs (q := 176) (st := [(.int 0), (.int 2), (.ref b87)]) G (X95.iaload hx (j := (1 : Int32)) (v := (.int 0)) (by rw [e95]; exact Ar96.1) (State.isArrayOf_alike hZ.alike Ar96.2.1) Ar96.2.2 hin96 (Has.at H96 hin96 rfl) (g := o_g G) rfl rfl (hb hby at_175)) rfl
  replace G := o_iload (q := 178) G X95.here hx (hb hby at_176) rfl rfl
  replace G := o_ifNo (q := 181) G X95.here hx (hb hby at_178) (by decide) rfl
  replace G := o_iconst (q := 182) G X95.here hx (hb hby at_181) (v := (1 : Int32)) (by decide) rfl
  replace G := o_goto (q := 186) G X95.here hx (hb hby at_182) (by decide) (by decide)
  replace G := o_iadd (q := 187) G X95.here hx (hb hby at_186) (by decide : ((0 : Int32) + (1 : Int32)) = (1 : Int32)) rfl
  obtain ⟨c98, Ar98, q98, S98, N98', H98, G98'⟩ := id V95
  have hin98 : ¬ ((2 : Int32) < 0 ∨ c98.slots.size ≤ ((2 : Int32)).toNatClampNeg) := inb_of S98 ⟨by decide, by decide⟩
  obtain ⟨T98, h98, X98, e98, W98, st98⟩ := stI X95 hx hZ e95 Ar98 (j := (2 : Int32)) hin98 (g := o_g G) rfl rfl (hb hby at_187)
  have N98 := Fr.snoc X98 N95 ge_b87
  have Z98 : n0 ≤ h98.size := Nat.le_trans Z95 (Keep.of_wr W98).1
  have V98 : Arv Z h98 b87 k87 .int 3 [(.int 0), (.int 0), (.int 1)] (.int 0) := Arv.set Ar98 q98 S98 N98' H98 G98' rfl W98 2 rfl (Nat.le_of_ble_eq_true rfl)
  replace G := o_nxs (q := 188) (st := []) G st98 rfl
  replace G := o_aload (q := 190) G X98.here hx (hb hby at_188) rfl rfl rfl
  have F100 := (((((F83.keep K82q).ext E87).wr W93).wr W95).wr W98)
  have F101 := (((((B75_0.keep K82q (ninS ne9 (ninS ne10 (ninS ne11 nin0)))).ext E87).other W93 (Or.inl ne92)).other W95 (Or.inl ne92)).other W98 (Or.inl ne92))
  have F102 := (((((B75_1.keep K82q (ninS ne9 (ninS ne10 (ninS ne11 nin0)))).ext E87).other W93 (Or.inl ne92)).other W95 (Or.inl ne92)).other W98 (Or.inl ne92))
  have F103 := (((((B75_2.keep K82q (ninS ne9 (ninS ne10 (ninS ne11 nin0)))).ext E87).other W93 (Or.inl ne92)).other W95 (Or.inl ne92)).other W98 (Or.inl ne92))
  have F104 := (((((B75_3.keep K82q (ninS ne9 (ninS ne10 (ninS ne11 nin0)))).ext E87).other W93 (Or.inl ne92)).other W95 (Or.inl ne92)).other W98 (Or.inl ne92))
  have F105 := ((((F91.ext E87).other W93 (Or.inl ne92)).other W95 (Or.inl ne92)).other W98 (Or.inl ne92))
  have F106 := ((((B82_0.ext E87).other W93 ne90).other W95 ne90).other W98 ne90)
  have F107 := ((((B82_1.ext E87).other W93 ne89).other W95 ne89).other W98 ne89)
  have F108 := ((((B82_2.ext E87).other W93 ne88).other W95 ne88).other W98 ne88)
  obtain ⟨T99, _, Lc99, X99, hQ99, G⟩ := o_vb (q := 193) (W := 0) (argsL := []) (rest := []) (y := (⟨o_n0, "takeFirst", "()I"⟩ : MethodName)) G X98 hx hZ hown (by rw [hml]; rfl) ⟨(o_w hw 47 rfl), (o_w hw 48 rfl), (o_w hw 50 rfl), (o_w hw 49 rfl), (o_w hw 51 rfl), (o_w hw 3 rfl)⟩ (by decide) e98 F100 (rm8n3f l Z a0 hw [] b7 va_8 vh_8 vx_8 ka_8 kh_8 kx_8 (2 : Int32) (1 : Int32) (0 : Int32) [(.double o_d0), (.double o_d0), (.double o_d1)] [(.int 2), (.int 1), (.int 0)] [(.int 0), (.int 1), (.int (-1))] o_d1 o_d0 o_d0 h98 n0 Z98 F100 F101 F102 F103 F104 F105 F106 F107 F108 ge_b7 ge_vh_8 ge_vx_8 ne9 ne10 ne11 B8_8 B8_9 B8_10 ⟨by decide, by decide⟩ ⟨by decide, by decide⟩ ⟨by decide, by decide⟩ rfl rfl rfl (by decide +kernel) rfl) (lenOf pd_3 rfl) rfl (Nat.le_of_eq rfl) (hb hby at_190) rfl (by decide) (by decide) (by decide) (by decide)
  obtain ⟨rfl, N99q, K99q, B99_0, B99_1, B99_2, B99_3, B99_4, B99_5, B99_6⟩ := hQ99
  have Z99 : n0 ≤ T99.heap.size := Nat.le_trans Z98 K99q.1
  have N99 := Fr.app N98 N99q
  replace G := o_re (st := [(.int 2)]) G rfl
  replace G := o_istore (q := 195) (l' := #[.val (.int i0), .val (.int i1), .val (.int 0), .val (.int 0), .val (.int 1), .val (.int 2), .val (.int 1), .val (.int 2), .val (.int 0), .val (.int 1), .val (.ref b7), .val (.ref b87), .val (.int 2), .unset, .unset, .unset]) G X99.here hx (hb hby at_193) rfl rfl
  replace G := o_aload (q := 197) G X99.here hx (hb hby at_195) rfl rfl rfl
  have F110 := (F100.keep K99q)
  have F111 := (F106.keep K99q (ninS (Ne.symm ne9) (ninS B8_8 (ninS B8_9 nin0))))
  obtain ⟨T109, _, Lc109, X109, hQ109, G⟩ := o_vb (q := 200) (W := 0) (argsL := []) (rest := []) (y := (⟨o_n0, "takeFirst", "()I"⟩ : MethodName)) G X99 hx hZ hown (by rw [hml]; rfl) ⟨(o_w hw 47 rfl), (o_w hw 48 rfl), (o_w hw 50 rfl), (o_w hw 49 rfl), (o_w hw 51 rfl), (o_w hw 3 rfl)⟩ (by decide) rfl F110 (rm8n2 l Z a0 hw [] b7 va_8 vh_8 vx_8 ka_8 kh_8 kx_8 (0 : Int32) (1 : Int32) (0 : Int32) [(.double o_d0), (.double o_d0), (.double o_d1)] [(.int 0), (.int 1), (.int (-1))] [(.int (-1)), (.int 0), (.int (-1))] o_d1 T99.heap n0 Z99 F110 B99_0 B99_1 B99_2 B99_3 B99_4 F111 B99_5 B99_6 ge_b7 ge_vh_8 ge_vx_8 ne9 ne10 ne11 B8_8 B8_9 B8_10 ⟨by decide, by decide⟩ ⟨by decide, by decide⟩ rfl rfl) (lenOf pd_3 rfl) rfl (Nat.le_of_eq rfl) (hb hby at_197) rfl (by decide) (by decide) (by decide) (by decide)
  obtain ⟨rfl, N109q, K109q, B109_0, B109_1, B109_2, B109_3, B109_4, B109_5, B109_6⟩ := hQ109
  have Z109 : n0 ≤ T109.heap.size := Nat.le_trans Z99 K109q.1
  have N109 := Fr.app N99 N109q
  replace G := o_re (st := [(.int 0)]) G rfl
  replace G := o_istore (q := 202) (l' := #[.val (.int i0), .val (.int i1), .val (.int 0), .val (.int 0), .val (.int 1), .val (.int 2), .val (.int 1), .val (.int 2), .val (.int 0), .val (.int 1), .val (.ref b7), .val (.ref b87), .val (.int 2), .val (.int 0), .unset, .unset]) G X109.here hx (hb hby at_200) rfl rfl
  replace G := o_aload (q := 204) G X109.here hx (hb hby at_202) rfl rfl rfl
  have F113 := (F110.keep K109q)
  have F114 := (F111.keep K109q (ninS (Ne.symm ne9) (ninS B8_8 (ninS B8_9 nin0))))
  obtain ⟨T112, _, Lc112, X112, hQ112, G⟩ := o_vb (q := 207) (W := 0) (argsL := []) (rest := []) (y := (⟨o_n0, "takeFirst", "()I"⟩ : MethodName)) G X109 hx hZ hown (by rw [hml]; rfl) ⟨(o_w hw 47 rfl), (o_w hw 48 rfl), (o_w hw 50 rfl), (o_w hw 49 rfl), (o_w hw 51 rfl), (o_w hw 3 rfl)⟩ (by decide) rfl F113 (rm8n1 l Z a0 hw [] b7 va_8 vh_8 vx_8 ka_8 kh_8 kx_8 (1 : Int32) (1 : Int32) (0 : Int32) [(.double o_d0), (.double o_d0), (.double o_d1)] [(.int (-1)), (.int 0), (.int (-1))] [(.int (-1)), (.int (-1)), (.int (-1))] o_d1 T109.heap n0 Z109 F113 B109_0 B109_1 B109_2 B109_3 B109_4 F114 B109_5 B109_6 ge_b7 ge_vh_8 ge_vx_8 ne9 ne10 ne11 B8_8 B8_9 B8_10 ⟨by decide, by decide⟩ rfl rfl) (lenOf pd_3 rfl) rfl (Nat.le_of_eq rfl) (hb hby at_204) rfl (by decide) (by decide) (by decide) (by decide)
  obtain ⟨rfl, N112q, K112q, B112_0, B112_1, B112_2, B112_3, B112_4, B112_5, B112_6⟩ := hQ112
  have Z112 : n0 ≤ T112.heap.size := Nat.le_trans Z109 K112q.1
  have N112 := Fr.app N109 N112q
  replace G := o_re (st := [(.int 1)]) G rfl
  replace G := o_istore (q := 209) (l' := #[.val (.int i0), .val (.int i1), .val (.int 0), .val (.int 0), .val (.int 1), .val (.int 2), .val (.int 1), .val (.int 2), .val (.int 0), .val (.int 1), .val (.ref b7), .val (.ref b87), .val (.int 2), .val (.int 0), .val (.int 1), .unset]) G X112.here hx (hb hby at_207) rfl rfl
  replace G := o_iload (q := 211) G X112.here hx (hb hby at_209) rfl rfl
  replace G := o_ifNo (q := 214) G X112.here hx (hb hby at_211) (by decide) rfl
  replace G := o_iload (q := 216) G X112.here hx (hb hby at_214) rfl rfl
  replace G := o_iconst (q := 217) G X112.here hx (hb hby at_216) (v := (3 : Int32)) (by decide) rfl
  replace G := o_icmpNo (q := 220) G X112.here hx (hb hby at_217) (by decide) rfl
  replace G := o_iload (q := 222) G X112.here hx (hb hby at_220) rfl rfl
  replace G := o_ifNo (q := 225) G X112.here hx (hb hby at_222) (by decide) rfl
  replace G := o_iload (q := 227) G X112.here hx (hb hby at_225) rfl rfl
  replace G := o_iconst (q := 228) G X112.here hx (hb hby at_227) (v := (3 : Int32)) (by decide) rfl
  replace G := o_icmpNo (q := 231) G X112.here hx (hb hby at_228) (by decide) rfl
  replace G := o_iload (q := 233) G X112.here hx (hb hby at_231) rfl rfl
  replace G := o_ifNo (q := 236) G X112.here hx (hb hby at_233) (by decide) rfl
  replace G := o_iload (q := 238) G X112.here hx (hb hby at_236) rfl rfl
  replace G := o_iconst (q := 239) G X112.here hx (hb hby at_238) (v := (3 : Int32)) (by decide) rfl
  replace G := o_icmpNo (q := 242) G X112.here hx (hb hby at_239) (by decide) rfl
  replace G := o_iload (q := 244) G X112.here hx (hb hby at_242) rfl rfl
  replace G := o_iload (q := 246) G X112.here hx (hb hby at_244) rfl rfl
  replace G := o_icmpNo (q := 249) G X112.here hx (hb hby at_246) (by decide) rfl
  replace G := o_iload (q := 251) G X112.here hx (hb hby at_249) rfl rfl
  replace G := o_iload (q := 253) G X112.here hx (hb hby at_251) rfl rfl
  replace G := o_icmpNo (q := 256) G X112.here hx (hb hby at_253) (by decide) rfl
  replace G := o_iload (q := 258) G X112.here hx (hb hby at_256) rfl rfl
  replace G := o_iload (q := 260) G X112.here hx (hb hby at_258) rfl rfl
  replace G := o_icmpNo (q := 263) G X112.here hx (hb hby at_260) (by decide) rfl
  replace G := o_iconst (q := 264) G X112.here hx (hb hby at_263) (v := (1 : Int32)) (by decide) rfl
  replace G := o_goto (q := 268) G X112.here hx (hb hby at_264) (by decide) (by decide)
  replace G := o_istore (q := 270) (l' := #[.val (.int i0), .val (.int i1), .val (.int 0), .val (.int 0), .val (.int 1), .val (.int 2), .val (.int 1), .val (.int 2), .val (.int 0), .val (.int 1), .val (.ref b7), .val (.ref b87), .val (.int 2), .val (.int 0), .val (.int 1), .val (.int 1)]) G X112.here hx (hb hby at_268) rfl rfl
  replace G := o_iload (q := 272) G X112.here hx (hb hby at_270) rfl rfl
  replace G := o_ifNo (q := 275) G X112.here hx (hb hby at_272) (by decide) rfl
  replace G := o_aload (q := 277) G X112.here hx (hb hby at_275) rfl rfl rfl
  replace G := o_iload (q := 279) G X112.here hx (hb hby at_277) rfl rfl
  replace G := o_iload (q := 281) G X112.here hx (hb hby at_279) rfl rfl
  have F126 := (((V98.keep K99q (ninS (Ne.symm ne92) (ninS (Ne.symm ne89) (ninS (Ne.symm ne88) nin0)))).keep K109q (ninS (Ne.symm ne92) (ninS (Ne.symm ne89) (ninS (Ne.symm ne88) nin0)))).keep K112q (ninS (Ne.symm ne92) (ninS (Ne.symm ne89) (ninS (Ne.symm ne88) nin0))))
  obtain ⟨_, _, ⟨T125, L125, kk125, nn125⟩, -, X125, ⟨Lc125, hQ125, l125, y125, z125⟩, st125⟩ := Jvm.LawKit.callS X112 hx (y := (⟨o_n1, "before", "([III)Z"⟩ : MethodName)) hown (mvT hZ (o_w hw 56 rfl)) (mvT hZ (o_w hw 57 rfl)) (mvT hZ (o_w hw 58 rfl)) (mvT hZ (o_w hw 59 rfl)) (by decide) (backOf (W := 0) (rm10 l Z a0 hw [] b87 (2 : Int32) (0 : Int32) k87 [(.int 0), (.int 0), (.int 1)] (1 : Int32) (0 : Int32) T112.heap n0 Z112 F126 ⟨by decide, by decide⟩ ⟨by decide, by decide⟩ rfl rfl) hZ (o_w hw 59 rfl) (o_w hw 58 rfl) (by decide) (by decide)) (g := o_g G) rfl (by rw [hml]; rfl) (argsL := [(.ref b87), (.int 2), (.int 0)]) (rest := []) (lenOf pd_4 rfl) rfl (by show 2 * 0 + _ ≤ _; exact Nat.le_of_eq rfl) (hb hby at_281) (fun _ _ => ⟨rfl, rfl, (by decide : 5 + 0 ≤ _), (by decide : 17 + 0 ≤ _)⟩)
  dsimp only [Pt.U, Pt.locs, Pt.cells, Pt.slots] at X125 l125 y125 z125 st125 hQ125
  subst l125 y125 z125
  obtain ⟨rfl, N125q, e125⟩ := hQ125
  have N125 := Fr.app N112 N125q
  replace G := o_nxs (q := 284) (st := [(.int (o_lb (1 : Int32) (0 : Int32) (2 : Int32) (0 : Int32)))]) G st125 rfl
  replace G := o_ifNo (q := 287) G X125.here hx (hb hby at_284) (by decide) rfl
  replace G := o_aload (q := 289) G X125.here hx (hb hby at_287) rfl rfl rfl
  replace G := o_iload (q := 291) G X125.here hx (hb hby at_289) rfl rfl
  replace G := o_iload (q := 293) G X125.here hx (hb hby at_291) rfl rfl
  obtain ⟨_, _, ⟨T128, L128, kk128, nn128⟩, -, X128, ⟨Lc128, hQ128, l128, y128, z128⟩, st128⟩ := Jvm.LawKit.callS X125 hx (y := (⟨o_n1, "before", "([III)Z"⟩ : MethodName)) hown (mvT hZ (o_w hw 56 rfl)) (mvT hZ (o_w hw 57 rfl)) (mvT hZ (o_w hw 58 rfl)) (mvT hZ (o_w hw 59 rfl)) (by decide) (backOf (W := 0) (rm10 l Z a0 hw [] b87 (0 : Int32) (1 : Int32) k87 [(.int 0), (.int 0), (.int 1)] (0 : Int32) (0 : Int32) T112.heap n0 Z112 F126 ⟨by decide, by decide⟩ ⟨by decide, by decide⟩ rfl rfl) hZ (o_w hw 59 rfl) (o_w hw 58 rfl) (by decide) (by decide)) (g := o_g G) rfl (by rw [hml]; rfl) (argsL := [(.ref b87), (.int 0), (.int 1)]) (rest := []) (lenOf pd_4 rfl) rfl (by show 2 * 0 + _ ≤ _; exact Nat.le_of_eq rfl) (hb hby at_293) (fun _ _ => ⟨rfl, e125, (by decide : 5 + 0 ≤ _), (by decide : 17 + 0 ≤ _)⟩)
  dsimp only [Pt.U, Pt.locs, Pt.cells, Pt.slots] at X128 l128 y128 z128 st128 hQ128
  subst l128 y128 z128
  obtain ⟨rfl, N128q, e128⟩ := hQ128
  have N128 := Fr.app N125 N128q
  replace G := o_nxs (q := 296) (st := [(.int (o_lb (0 : Int32) (0 : Int32) (0 : Int32) (1 : Int32)))]) G st128 rfl
  replace G := o_ifNo (q := 299) G X128.here hx (hb hby at_296) (by decide) rfl
  replace G := o_aload (q := 301) G X128.here hx (hb hby at_299) rfl rfl rfl
  have F131 := (F113.keep K112q)
  obtain ⟨T130, _, Lc130, X130, hQ130, G⟩ := o_vb (q := 304) (W := 0) (argsL := []) (rest := []) (y := (⟨o_n0, "isEmpty", "()Z"⟩ : MethodName)) G X128 hx hZ hown (by rw [hml]; rfl) ⟨(o_w hw 60 rfl), (o_w hw 61 rfl), (o_w hw 63 rfl), (o_w hw 62 rfl), (o_w hw 64 rfl), (o_w hw 3 rfl)⟩ (by decide) e128 F131 (rm11 l Z a0 hw [] b7 T112.heap n0 Z112 B112_3) (lenOf pd_5 rfl) rfl (Nat.le_of_eq rfl) (hb hby at_301) rfl (by decide) (by decide) (by decide) (by decide)
  obtain ⟨rfl, N130q, e130⟩ := hQ130
  have N130 := Fr.app N128 N130q
  replace G := o_re (st := [(.int 1)]) G rfl
  replace G := o_ifNo (q := 307) G X130.here hx (hb hby at_304) (by decide) rfl
  replace G := o_iconst (q := 308) G X130.here hx (hb hby at_307) (v := (1 : Int32)) (by decide) rfl
  replace G := o_goto (q := 312) G X130.here hx (hb hby at_308) (by decide) (by decide)
  obtain ⟨fs, hr, hrun, hended, hW, hsame⟩ := X130.leave (v := some (.int 1)) (fun h => by rw [Bd.returns] at h; cases h)
  refine ⟨_, _, G _ (retOut X130 hx Bd.returns rfl (Or.inl ⟨rfl, Or.inr (Or.inl rfl), _, rfl⟩) (hb hby at_312) hr), hrun, hended, _, _, rfl, ?_, ⟨_, rfl⟩, hW, hsame.mono (by decide) (by decide)⟩
  show Q0 Z i0 i1 h0 n0 _ T130.heap _
  rw [e130]
  exact ⟨rfl, N130⟩
  replace G := o_iload (q := 110) G X12.here hx (hb hby at_108) rfl rfl
  replace G := o_ifNo (q := 113) G X12.here hx (hb hby at_110) (by decide) rfl
  replace G := o_aload (q := 115) G X12.here hx (hb hby at_113) rfl rfl rfl
  have F135 := (F13.keep K12q)
  have F136 := (B8_0.keep K12q (ninS ne9 (ninS ne10 (ninS ne11 nin0))))
  have F137 := (B8_1.keep K12q (ninS ne9 (ninS ne10 (ninS ne11 nin0))))
  have F138 := (B8_2.keep K12q (ninS ne9 (ninS ne10 (ninS ne11 nin0))))
  have F139 := (B8_3.keep K12q (ninS ne9 (ninS ne10 (ninS ne11 nin0))))
  have F140 := (B8_4.keep K12q (ninS ne9 (ninS ne10 (ninS ne11 nin0))))
  obtain ⟨T134, _, Lc134, X134, hQ134, G⟩ := o_vb (q := 118) (W := 0) (argsL := []) (rest := []) (y := (⟨o_n0, "decay", "()V"⟩ : MethodName)) G X12 hx hZ hown (by rw [hml]; rfl) ⟨(o_w hw 41 rfl), (o_w hw 42 rfl), (o_w hw 44 rfl), (o_w hw 43 rfl), (o_w hw 45 rfl), (o_w hw 3 rfl)⟩ (by decide) rfl F135 (rm7 l Z a0 hw [] b7 va_8 vh_8 vx_8 o_d0 o_d1 (3 : Int32) T12.heap n0 Z12 F135 F136 F137 F138 F139 F140 ge_b7 (by decide +kernel) (o_nan (by decide +kernel))) (lenOf pd_6 rfl) rfl (Nat.le_of_eq rfl) (hb hby at_115) rfl (by decide) (by decide) (by decide) (by decide)
  obtain ⟨rfl, N134q, K134q, B134_0, B134_1, B134_2, B134_3, B134_4⟩ := hQ134
  have Z134 : n0 ≤ T134.heap.size := Nat.le_trans Z12 K134q.1
  have N134 := Fr.app N12 N134q
  replace G := o_re (st := []) G rfl
  replace G := o_aload (q := 120) G X134.here hx (hb hby at_118) rfl rfl rfl
  replace G := o_iload (q := 122) G X134.here hx (hb hby at_120) rfl rfl
  have F142 := (F135.keep K134q)
  have F143 := (B12_0.keep K134q (ninS (Ne.symm ne9) nin0))
  have F144 := (B12_1.keep K134q (ninS (Ne.symm ne10) nin0))
  have F145 := (B12_2.keep K134q (ninS (Ne.symm ne11) nin0))
  obtain ⟨T141, _, Lc141, X141, hQ141, G⟩ := o_vb (q := 125) (W := 0) (argsL := [(.int 1)]) (rest := []) (y := (⟨o_n0, "bump", "(I)V"⟩ : MethodName)) G X134 hx hZ hown (by rw [hml]; rfl) ⟨(o_w hw 35 rfl), (o_w hw 36 rfl), (o_w hw 38 rfl), (o_w hw 37 rfl), (o_w hw 39 rfl), (o_w hw 3 rfl)⟩ (by decide) rfl F142 (rm6f1t l Z a0 hw [] b7 (1 : Int32) va_8 vh_8 vx_8 ka_8 kh_8 kx_8 (0 : Int32) (1 : Int32) (2 : Int32) [(.double o_d0), (.double 0), (.double 0)] [(.int 0), (.int 1), (.int 2)] [(.int 1), (.int 0), (.int 2)] o_d1 [(.double o_d0), (.double o_d1), (.double 0)] (0 : UInt64) o_d1 o_d0 o_d1 T134.heap n0 Z134 F142 B134_0 B134_1 B134_2 B134_4 F143 F144 F145 ge_va_8 ge_vh_8 ge_vx_8 ne9 ne10 ne11 B8_8 B8_9 B8_10 ⟨by decide, by decide⟩ ⟨by decide, by decide⟩ ⟨by decide, by decide⟩ rfl rfl rfl rfl (by decide +kernel) (o_nan (by decide +kernel)) (by decide +kernel) rfl rfl rfl rfl (by decide +kernel) rfl) (lenOf pd_1 rfl) rfl (Nat.le_of_eq rfl) (hb hby at_122) rfl (by decide) (by decide) (by decide) (by decide)
  obtain ⟨rfl, N141q, K141q, B141_0, B141_1, B141_2⟩ := hQ141
  have Z141 : n0 ≤ T141.heap.size := Nat.le_trans Z134 K141q.1
  have N141 := Fr.app N134 N141q
  replace G := o_re (st := []) G rfl
  rcases o_01 hn_w2 with rfl | rfl
  replace G := o_iload (q := 127) G X141.here hx (hb hby at_125) rfl rfl
  replace G := o_ifYes (q := 135) G X141.here hx (hb hby at_127) (by decide) (by decide) (by decide)
  replace G := o_aload (q := 137) G X141.here hx (hb hby at_135) rfl rfl rfl
  replace G := o_iload (q := 139) G X141.here hx (hb hby at_137) rfl rfl
  have F148 := (F142.keep K141q)
  have F149 := (B134_0.keep K141q (ninS ne9 (ninS ne10 (ninS ne11 nin0))))
  have F150 := (B134_1.keep K141q (ninS ne9 (ninS ne10 (ninS ne11 nin0))))
  have F151 := (B134_2.keep K141q (ninS ne9 (ninS ne10 (ninS ne11 nin0))))
  have F152 := (B134_4.keep K141q (ninS ne9 (ninS ne10 (ninS ne11 nin0))))
  obtain ⟨T147, _, Lc147, X147, hQ147, G⟩ := o_vb (q := 142) (W := 0) (argsL := [(.int 2)]) (rest := []) (y := (⟨o_n0, "bump", "(I)V"⟩ : MethodName)) G X141 hx hZ hown (by rw [hml]; rfl) ⟨(o_w hw 35 rfl), (o_w hw 36 rfl), (o_w hw 38 rfl), (o_w hw 37 rfl), (o_w hw 39 rfl), (o_w hw 3 rfl)⟩ (by decide) rfl F148 (rm6f2f l Z a0 hw [] b7 (2 : Int32) va_8 vh_8 vx_8 ka_8 kh_8 kx_8 (1 : Int32) (0 : Int32) (2 : Int32) [(.double o_d0), (.double o_d1), (.double 0)] [(.int 1), (.int 0), (.int 2)] [(.int 1), (.int 0), (.int 2)] o_d1 [(.double o_d0), (.double o_d1), (.double o_d1)] (0 : UInt64) o_d1 o_d1 o_d1 T141.heap n0 Z141 F148 F149 F150 F151 F152 B141_0 B141_1 B141_2 ge_va_8 ge_vh_8 ge_vx_8 ne9 ne10 ne11 B8_8 B8_9 B8_10 ⟨by decide, by decide⟩ ⟨by decide, by decide⟩ ⟨by decide, by decide⟩ rfl rfl rfl rfl (by decide +kernel) (o_nan (by decide +kernel)) (by decide +kernel) rfl rfl rfl rfl (by decide +kernel) rfl) (lenOf pd_1 rfl) rfl (Nat.le_of_eq rfl) (hb hby at_139) rfl (by decide) (by decide) (by decide) (by decide)
  obtain ⟨rfl, N147q, K147q, B147_0, B147_1, B147_2⟩ := hQ147
  have Z147 : n0 ≤ T147.heap.size := Nat.le_trans Z141 K147q.1
  have N147 := Fr.app N141 N147q
  replace G := o_re (st := []) G rfl
  replace G := o_iconst (q := 143) G X147.here hx (hb hby at_142) (v := (3 : Int32)) (by decide) rfl
  obtain ⟨T153, h153, k153, X153, e153, E153, A153, st153⟩ := newP X147 hx hZ (o_w hw 15 rfl) rfl (g := o_g G) rfl (hb hby at_143) rfl (by decide) (cap := 3) (by decide) (by decide) (by decide) (by decide)
  obtain ⟨b153, g153⟩ : ∃ z, z = T147.heap.size := ⟨_, rfl⟩
  rw [← g153] at A153 st153
  have ne154 : vx_8 ≠ b153 := Nat.ne_of_lt (Nat.lt_of_lt_of_le B147_2.lt (Nat.le_of_eq g153.symm))
  have ne155 : vh_8 ≠ b153 := Nat.ne_of_lt (Nat.lt_of_lt_of_le B147_1.lt (Nat.le_of_eq g153.symm))
  have ne156 : va_8 ≠ b153 := Nat.ne_of_lt (Nat.lt_of_lt_of_le B147_0.lt (Nat.le_of_eq g153.symm))
  have F157 := (F152.keep K147q (ninS ne9 (ninS ne10 (ninS ne11 nin0))))
  have ne158 : b7 ≠ b153 := Nat.ne_of_lt (Nat.lt_of_lt_of_le F157.lt (Nat.le_of_eq g153.symm))
  have ge_b153 : n0 ≤ b153 := Nat.le_trans Z147 (Nat.le_of_eq g153.symm)
  have Z153 : n0 ≤ h153.size := Nat.le_trans Z147 E153.1
  have V153 : Arv Z h153 b153 k153 .int 3 [(.int 0), (.int 0), (.int 0)] (.int 0) := (Arv.new A153 (by decide)).pad (pad_rep [] (.int 0) 3)
  replace G := o_nxs (q := 145) (st := [(.ref b153)]) G st153 rfl
  replace G := o_astore (q := 147) (l' := #[.val (.int i0), .val (.int i1), .val (.int 0), .val (.int 0), .val (.int 1), .val (.int 2), .val (.int 1), .val (.int 2), .val (.int 1), .val (.int 0), .val (.ref b7), .val (.ref b153), .unset, .unset, .unset, .unset]) G X153.here hx (hb hby at_145) rfl rfl rfl
  replace G := o_aload (q := 149) G X153.here hx (hb hby at_147) rfl rfl rfl
  replace G := o_iloadN (q := 150) G X153.here hx (hb hby at_149) rfl rfl
  replace G := o_iconst (q := 151) G X153.here hx (hb hby at_150) (v := (0 : Int32)) (by decide) rfl
  obtain ⟨c159, Ar159, q159, S159, N159', H159, G159'⟩ := id V153
  have hin159 : ¬ ((0 : Int32) < 0 ∨ c159.slots.size ≤ ((0 : Int32)).toNatClampNeg) := inb_of S159 ⟨by decide, by decide⟩
  obtain ⟨T159, h159, X159, e159, W159, st159⟩ := stI X153 hx hZ e153 Ar159 (j := (0 : Int32)) hin159 (g := o_g G) rfl rfl (hb hby at_151)
  have N159 := Fr.snoc X159 N147 ge_b153
  have Z159 : n0 ≤ h159.size := Nat.le_trans Z153 (Keep.of_wr W159).1
  have V159 : Arv Z h159 b153 k153 .int 3 [(.int 0), (.int 0), (.int 0)] (.int 0) := Arv.set Ar159 q159 S159 N159' H159 G159' rfl W159 0 rfl (Nat.le_of_ble_eq_true rfl)
  replace G := o_nxs (q := 152) (st := []) G st159 rfl
  replace G := o_aload (q := 154) G X159.here hx (hb hby at_152) rfl rfl rfl
  replace G := o_iload (q := 156) G X159.here hx (hb hby at_154) rfl rfl
  replace G := o_iload (q := 158) G X159.here hx (hb hby at_156) rfl rfl
  replace G := o_ifNo (q := 161) G X159.here hx (hb hby at_158) (by decide) rfl
  replace G := o_iconst (q := 162) G X159.here hx (hb hby at_161) (v := (1 : Int32)) (by decide) rfl
  replace G := o_goto (q := 166) G X159.here hx (hb hby at_162) (by decide) (by decide)
  obtain ⟨c161, Ar161, q161, S161, N161', H161, G161'⟩ := id V159
  have hin161 : ¬ ((1 : Int32) < 0 ∨ c161.slots.size ≤ ((1 : Int32)).toNatClampNeg) := inb_of S161 ⟨by decide, by decide⟩
  obtain ⟨T161, h161, X161, e161, W161, st161⟩ := stI X159 hx hZ e159 Ar161 (j := (1 : Int32)) hin161 (g := o_g G) rfl rfl (hb hby at_166)
  have N161 := Fr.snoc X161 N159 ge_b153
  have Z161 : n0 ≤ h161.size := Nat.le_trans Z159 (Keep.of_wr W161).1
  have V161 : Arv Z h161 b153 k153 .int 3 [(.int 0), (.int 1), (.int 0)] (.int 0) := Arv.set Ar161 q161 S161 N161' H161 G161' rfl W161 1 rfl (Nat.le_of_ble_eq_true rfl)
  replace G := o_nxs (q := 167) (st := []) G st161 rfl
  replace G := o_aload (q := 169) G X161.here hx (hb hby at_167) rfl rfl rfl
  replace G := o_iload (q := 171) G X161.here hx (hb hby at_169) rfl rfl
  replace G := o_aload (q := 173) G X161.here hx (hb hby at_171) rfl rfl rfl
  replace G := o_iload (q := 175) G X161.here hx (hb hby at_173) rfl rfl
  obtain ⟨c162, Ar162, -, S162, -, H162, -⟩ := id V161
  have hin162 : ¬ ((1 : Int32) < 0 ∨ c162.slots.size ≤ ((1 : Int32)).toNatClampNeg) := inb_of S162 ⟨by decide, by decide⟩
  replace G := o_nxs (q := 176) (st := [(.int 1), (.int 2), (.ref b153)]) G (X161.iaload hx (j := (1 : Int32)) (v := (.int 1)) (by rw [e161]; exact Ar162.1) (State.isArrayOf_alike hZ.alike Ar162.2.1) Ar162.2.2 hin162 (Has.at H162 hin162 rfl) (g := o_g G) rfl rfl (hb hby at_175)) rfl
  replace G := o_iload (q := 178) G X161.here hx (hb hby at_176) rfl rfl
  replace G := o_ifYes (q := 185) G X161.here hx (hb hby at_178) (by decide) (by decide) (by decide)
  replace G := o_iconst (q := 186) G X161.here hx (hb hby at_185) (v := (0 : Int32)) (by decide) rfl
  replace G := o_iadd (q := 187) G X161.here hx (hb hby at_186) (by decide : ((1 : Int32) + (0 : Int32)) = (1 : Int32)) rfl
  obtain ⟨c164, Ar164, q164, S164, N164', H164, G164'⟩ := id V161
  have hin164 : ¬ ((2 : Int32) < 0 ∨ c164.slots.size ≤ ((2 : Int32)).toNatClampNeg) := inb_of S164 ⟨by decide, by decide⟩
  obtain ⟨T164, h164, X164, e164, W164, st164⟩ := stI X161 hx hZ e161 Ar164 (j := (2 : Int32)) hin164 (g := o_g G) rfl rfl (hb hby at_187)
  have N164 := Fr.snoc X164 N161 ge_b153
  have Z164 : n0 ≤ h164.size := Nat.le_trans Z161 (Keep.of_wr W164).1
  have V164 : Arv Z h164 b153 k153 .int 3 [(.int 0), (.int 1), (.int 1)] (.int 0) := Arv.set Ar164 q164 S164 N164' H164 G164' rfl W164 2 rfl (Nat.le_of_ble_eq_true rfl)
  replace G := o_nxs (q := 188) (st := []) G st164 rfl
  replace G := o_aload (q := 190) G X164.here hx (hb hby at_188) rfl rfl rfl
  have F166 := (((((F148.keep K147q).ext E153).wr W159).wr W161).wr W164)
  have F167 := (((((F149.keep K147q (ninS ne9 (ninS ne10 (ninS ne11 nin0)))).ext E153).other W159 (Or.inl ne158)).other W161 (Or.inl ne158)).other W164 (Or.inl ne158))
  have F168 := (((((F150.keep K147q (ninS ne9 (ninS ne10 (ninS ne11 nin0)))).ext E153).other W159 (Or.inl ne158)).other W161 (Or.inl ne158)).other W164 (Or.inl ne158))
  have F169 := (((((F151.keep K147q (ninS ne9 (ninS ne10 (ninS ne11 nin0)))).ext E153).other W159 (Or.inl ne158)).other W161 (Or.inl ne158)).other W164 (Or.inl ne158))
  have F170 := ((((((B134_3.keep K141q (ninS ne9 (ninS ne10 (ninS ne11 nin0)))).keep K147q (ninS ne9 (ninS ne10 (ninS ne11 nin0)))).ext E153).other W159 (Or.inl ne158)).other W161 (Or.inl ne158)).other W164 (Or.inl ne158))
  have F171 := ((((F157.ext E153).other W159 (Or.inl ne158)).other W161 (Or.inl ne158)).other W164 (Or.inl ne158))
  have F172 := ((((B147_0.ext E153).other W159 ne156).other W161 ne156).other W164 ne156)
  have F173 := ((((B147_1.ext E153).other W159 ne155).other W161 ne155).other W164 ne155)
  have F174 := ((((B147_2.ext E153).other W159 ne154).other W161 ne154).other W164 ne154)
  obtain ⟨T165, _, Lc165, X165, hQ165, G⟩ := o_vb (q := 193) (W := 0) (argsL := []) (rest := []) (y := (⟨o_n0, "takeFirst", "()I"⟩ : MethodName)) G X164 hx hZ hown (by rw [hml]; rfl) ⟨(o_w hw 47 rfl), (o_w hw 48 rfl), (o_w hw 50 rfl), (o_w hw 49 rfl), (o_w hw 51 rfl), (o_w hw 3 rfl)⟩ (by decide) e164 F166 (rm8n3f l Z a0 hw [] b7 va_8 vh_8 vx_8 ka_8 kh_8 kx_8 (1 : Int32) (0 : Int32) (2 : Int32) [(.double o_d0), (.double o_d1), (.double o_d1)] [(.int 1), (.int 0), (.int 2)] [(.int 1), (.int (-1)), (.int 0)] o_d1 o_d1 o_d0 h164 n0 Z164 F166 F167 F168 F169 F170 F171 F172 F173 F174 ge_b7 ge_vh_8 ge_vx_8 ne9 ne10 ne11 B8_8 B8_9 B8_10 ⟨by decide, by decide⟩ ⟨by decide, by decide⟩ ⟨by decide, by decide⟩ rfl rfl rfl (by decide +kernel) rfl) (lenOf pd_3 rfl) rfl (Nat.le_of_eq rfl) (hb hby at_190) rfl (by decide) (by decide) (by decide) (by decide)
  obtain ⟨rfl, N165q, K165q, B165_0, B165_1, B165_2, B165_3, B165_4, B165_5, B165_6⟩ := hQ165
  have Z165 : n0 ≤ T165.heap.size := Nat.le_trans Z164 K165q.1
  have N165 := Fr.app N164 N165q
  replace G := o_re (st := [(.int 1)]) G rfl
  replace G := o_istore (q := 195) (l' := #[.val (.int i0), .val (.int i1), .val (.int 0), .val (.int 0), .val (.int 1), .val (.int 2), .val (.int 1), .val (.int 2), .val (.int 1), .val (.int 0), .val (.ref b7), .val (.ref b153), .val (.int 1), .unset, .unset, .unset]) G X165.here hx (hb hby at_193) rfl rfl
  replace G := o_aload (q := 197) G X165.here hx (hb hby at_195) rfl rfl rfl
  have F176 := (F166.keep K165q)
  have F177 := (F172.keep K165q (ninS (Ne.symm ne9) (ninS B8_8 (ninS B8_9 nin0))))
  obtain ⟨T175, _, Lc175, X175, hQ175, G⟩ := o_vb (q := 200) (W := 0) (argsL := []) (rest := []) (y := (⟨o_n0, "takeFirst", "()I"⟩ : MethodName)) G X165 hx hZ hown (by rw [hml]; rfl) ⟨(o_w hw 47 rfl), (o_w hw 48 rfl), (o_w hw 50 rfl), (o_w hw 49 rfl), (o_w hw 51 rfl), (o_w hw 3 rfl)⟩ (by decide) rfl F176 (rm8n2 l Z a0 hw [] b7 va_8 vh_8 vx_8 ka_8 kh_8 kx_8 (2 : Int32) (0 : Int32) (2 : Int32) [(.double o_d0), (.double o_d1), (.double o_d1)] [(.int 1), (.int (-1)), (.int 0)] [(.int 0), (.int (-1)), (.int (-1))] o_d1 T165.heap n0 Z165 F176 B165_0 B165_1 B165_2 B165_3 B165_4 F177 B165_5 B165_6 ge_b7 ge_vh_8 ge_vx_8 ne9 ne10 ne11 B8_8 B8_9 B8_10 ⟨by decide, by decide⟩ ⟨by decide, by decide⟩ rfl rfl) (lenOf pd_3 rfl) rfl (Nat.le_of_eq rfl) (hb hby at_197) rfl (by decide) (by decide) (by decide) (by decide)
  obtain ⟨rfl, N175q, K175q, B175_0, B175_1, B175_2, B175_3, B175_4, B175_5, B175_6⟩ := hQ175
  have Z175 : n0 ≤ T175.heap.size := Nat.le_trans Z165 K175q.1
  have N175 := Fr.app N165 N175q
  replace G := o_re (st := [(.int 2)]) G rfl
  replace G := o_istore (q := 202) (l' := #[.val (.int i0), .val (.int i1), .val (.int 0), .val (.int 0), .val (.int 1), .val (.int 2), .val (.int 1), .val (.int 2), .val (.int 1), .val (.int 0), .val (.ref b7), .val (.ref b153), .val (.int 1), .val (.int 2), .unset, .unset]) G X175.here hx (hb hby at_200) rfl rfl
  replace G := o_aload (q := 204) G X175.here hx (hb hby at_202) rfl rfl rfl
  have F179 := (F176.keep K175q)
  have F180 := (F177.keep K175q (ninS (Ne.symm ne9) (ninS B8_8 (ninS B8_9 nin0))))
  obtain ⟨T178, _, Lc178, X178, hQ178, G⟩ := o_vb (q := 207) (W := 0) (argsL := []) (rest := []) (y := (⟨o_n0, "takeFirst", "()I"⟩ : MethodName)) G X175 hx hZ hown (by rw [hml]; rfl) ⟨(o_w hw 47 rfl), (o_w hw 48 rfl), (o_w hw 50 rfl), (o_w hw 49 rfl), (o_w hw 51 rfl), (o_w hw 3 rfl)⟩ (by decide) rfl F179 (rm8n1 l Z a0 hw [] b7 va_8 vh_8 vx_8 ka_8 kh_8 kx_8 (0 : Int32) (0 : Int32) (2 : Int32) [(.double o_d0), (.double o_d1), (.double o_d1)] [(.int 0), (.int (-1)), (.int (-1))] [(.int (-1)), (.int (-1)), (.int (-1))] o_d1 T175.heap n0 Z175 F179 B175_0 B175_1 B175_2 B175_3 B175_4 F180 B175_5 B175_6 ge_b7 ge_vh_8 ge_vx_8 ne9 ne10 ne11 B8_8 B8_9 B8_10 ⟨by decide, by decide⟩ rfl rfl) (lenOf pd_3 rfl) rfl (Nat.le_of_eq rfl) (hb hby at_204) rfl (by decide) (by decide) (by decide) (by decide)
  obtain ⟨rfl, N178q, K178q, B178_0, B178_1, B178_2, B178_3, B178_4, B178_5, B178_6⟩ := hQ178
  have Z178 : n0 ≤ T178.heap.size := Nat.le_trans Z175 K178q.1
  have N178 := Fr.app N175 N178q
  replace G := o_re (st := [(.int 0)]) G rfl
  replace G := o_istore (q := 209) (l' := #[.val (.int i0), .val (.int i1), .val (.int 0), .val (.int 0), .val (.int 1), .val (.int 2), .val (.int 1), .val (.int 2), .val (.int 1), .val (.int 0), .val (.ref b7), .val (.ref b153), .val (.int 1), .val (.int 2), .val (.int 0), .unset]) G X178.here hx (hb hby at_207) rfl rfl
  replace G := o_iload (q := 211) G X178.here hx (hb hby at_209) rfl rfl
  replace G := o_ifNo (q := 214) G X178.here hx (hb hby at_211) (by decide) rfl
  replace G := o_iload (q := 216) G X178.here hx (hb hby at_214) rfl rfl
  replace G := o_iconst (q := 217) G X178.here hx (hb hby at_216) (v := (3 : Int32)) (by decide) rfl
  replace G := o_icmpNo (q := 220) G X178.here hx (hb hby at_217) (by decide) rfl
  replace G := o_iload (q := 222) G X178.here hx (hb hby at_220) rfl rfl
  replace G := o_ifNo (q := 225) G X178.here hx (hb hby at_222) (by decide) rfl
  replace G := o_iload (q := 227) G X178.here hx (hb hby at_225) rfl rfl
  replace G := o_iconst (q := 228) G X178.here hx (hb hby at_227) (v := (3 : Int32)) (by decide) rfl
  replace G := o_icmpNo (q := 231) G X178.here hx (hb hby at_228) (by decide) rfl
  replace G := o_iload (q := 233) G X178.here hx (hb hby at_231) rfl rfl
  replace G := o_ifNo (q := 236) G X178.here hx (hb hby at_233) (by decide) rfl
  replace G := o_iload (q := 238) G X178.here hx (hb hby at_236) rfl rfl
  replace G := o_iconst (q := 239) G X178.here hx (hb hby at_238) (v := (3 : Int32)) (by decide) rfl
  replace G := o_icmpNo (q := 242) G X178.here hx (hb hby at_239) (by decide) rfl
  replace G := o_iload (q := 244) G X178.here hx (hb hby at_242) rfl rfl
  replace G := o_iload (q := 246) G X178.here hx (hb hby at_244) rfl rfl
  replace G := o_icmpNo (q := 249) G X178.here hx (hb hby at_246) (by decide) rfl
  replace G := o_iload (q := 251) G X178.here hx (hb hby at_249) rfl rfl
  replace G := o_iload (q := 253) G X178.here hx (hb hby at_251) rfl rfl
  replace G := o_icmpNo (q := 256) G X178.here hx (hb hby at_253) (by decide) rfl
  replace G := o_iload (q := 258) G X178.here hx (hb hby at_256) rfl rfl
  replace G := o_iload (q := 260) G X178.here hx (hb hby at_258) rfl rfl
  replace G := o_icmpNo (q := 263) G X178.here hx (hb hby at_260) (by decide) rfl
  replace G := o_iconst (q := 264) G X178.here hx (hb hby at_263) (v := (1 : Int32)) (by decide) rfl
  replace G := o_goto (q := 268) G X178.here hx (hb hby at_264) (by decide) (by decide)
  replace G := o_istore (q := 270) (l' := #[.val (.int i0), .val (.int i1), .val (.int 0), .val (.int 0), .val (.int 1), .val (.int 2), .val (.int 1), .val (.int 2), .val (.int 1), .val (.int 0), .val (.ref b7), .val (.ref b153), .val (.int 1), .val (.int 2), .val (.int 0), .val (.int 1)]) G X178.here hx (hb hby at_268) rfl rfl
  replace G := o_iload (q := 272) G X178.here hx (hb hby at_270) rfl rfl
  replace G := o_ifNo (q := 275) G X178.here hx (hb hby at_272) (by decide) rfl
  replace G := o_aload (q := 277) G X178.here hx (hb hby at_275) rfl rfl rfl
  replace G := o_iload (q := 279) G X178.here hx (hb hby at_277) rfl rfl
  replace G := o_iload (q := 281) G X178.here hx (hb hby at_279) rfl rfl
  have F192 := (((V164.keep K165q (ninS (Ne.symm ne158) (ninS (Ne.symm ne155) (ninS (Ne.symm ne154) nin0)))).keep K175q (ninS (Ne.symm ne158) (ninS (Ne.symm ne155) (ninS (Ne.symm ne154) nin0)))).keep K178q (ninS (Ne.symm ne158) (ninS (Ne.symm ne155) (ninS (Ne.symm ne154) nin0))))
  obtain ⟨_, _, ⟨T191, L191, kk191, nn191⟩, -, X191, ⟨Lc191, hQ191, l191, y191, z191⟩, st191⟩ := Jvm.LawKit.callS X178 hx (y := (⟨o_n1, "before", "([III)Z"⟩ : MethodName)) hown (mvT hZ (o_w hw 56 rfl)) (mvT hZ (o_w hw 57 rfl)) (mvT hZ (o_w hw 58 rfl)) (mvT hZ (o_w hw 59 rfl)) (by decide) (backOf (W := 0) (rm10 l Z a0 hw [] b153 (1 : Int32) (2 : Int32) k153 [(.int 0), (.int 1), (.int 1)] (1 : Int32) (1 : Int32) T178.heap n0 Z178 F192 ⟨by decide, by decide⟩ ⟨by decide, by decide⟩ rfl rfl) hZ (o_w hw 59 rfl) (o_w hw 58 rfl) (by decide) (by decide)) (g := o_g G) rfl (by rw [hml]; rfl) (argsL := [(.ref b153), (.int 1), (.int 2)]) (rest := []) (lenOf pd_4 rfl) rfl (by show 2 * 0 + _ ≤ _; exact Nat.le_of_eq rfl) (hb hby at_281) (fun _ _ => ⟨rfl, rfl, (by decide : 5 + 0 ≤ _), (by decide : 17 + 0 ≤ _)⟩)
  dsimp only [Pt.U, Pt.locs, Pt.cells, Pt.slots] at X191 l191 y191 z191 st191 hQ191
  subst l191 y191 z191
  obtain ⟨rfl, N191q, e191⟩ := hQ191
  have N191 := Fr.app N178 N191q
  replace G := o_nxs (q := 284) (st := [(.int (o_lb (1 : Int32) (1 : Int32) (1 : Int32) (2 : Int32)))]) G st191 rfl
  replace G := o_ifNo (q := 287) G X191.here hx (hb hby at_284) (by decide) rfl
  replace G := o_aload (q := 289) G X191.here hx (hb hby at_287) rfl rfl rfl
  replace G := o_iload (q := 291) G X191.here hx (hb hby at_289) rfl rfl
  replace G := o_iload (q := 293) G X191.here hx (hb hby at_291) rfl rfl
  obtain ⟨_, _, ⟨T194, L194, kk194, nn194⟩, -, X194, ⟨Lc194, hQ194, l194, y194, z194⟩, st194⟩ := Jvm.LawKit.callS X191 hx (y := (⟨o_n1, "before", "([III)Z"⟩ : MethodName)) hown (mvT hZ (o_w hw 56 rfl)) (mvT hZ (o_w hw 57 rfl)) (mvT hZ (o_w hw 58 rfl)) (mvT hZ (o_w hw 59 rfl)) (by decide) (backOf (W := 0) (rm10 l Z a0 hw [] b153 (2 : Int32) (0 : Int32) k153 [(.int 0), (.int 1), (.int 1)] (1 : Int32) (0 : Int32) T178.heap n0 Z178 F192 ⟨by decide, by decide⟩ ⟨by decide, by decide⟩ rfl rfl) hZ (o_w hw 59 rfl) (o_w hw 58 rfl) (by decide) (by decide)) (g := o_g G) rfl (by rw [hml]; rfl) (argsL := [(.ref b153), (.int 2), (.int 0)]) (rest := []) (lenOf pd_4 rfl) rfl (by show 2 * 0 + _ ≤ _; exact Nat.le_of_eq rfl) (hb hby at_293) (fun _ _ => ⟨rfl, e191, (by decide : 5 + 0 ≤ _), (by decide : 17 + 0 ≤ _)⟩)
  dsimp only [Pt.U, Pt.locs, Pt.cells, Pt.slots] at X194 l194 y194 z194 st194 hQ194
  subst l194 y194 z194
  obtain ⟨rfl, N194q, e194⟩ := hQ194
  have N194 := Fr.app N191 N194q
  replace G := o_nxs (q := 296) (st := [(.int (o_lb (1 : Int32) (0 : Int32) (2 : Int32) (0 : Int32)))]) G st194 rfl
  replace G := o_ifNo (q := 299) G X194.here hx (hb hby at_296) (by decide) rfl
  replace G := o_aload (q := 301) G X194.here hx (hb hby at_299) rfl rfl rfl
  have F197 := (F179.keep K178q)
  obtain ⟨T196, _, Lc196, X196, hQ196, G⟩ := o_vb (q := 304) (W := 0) (argsL := []) (rest := []) (y := (⟨o_n0, "isEmpty", "()Z"⟩ : MethodName)) G X194 hx hZ hown (by rw [hml]; rfl) ⟨(o_w hw 60 rfl), (o_w hw 61 rfl), (o_w hw 63 rfl), (o_w hw 62 rfl), (o_w hw 64 rfl), (o_w hw 3 rfl)⟩ (by decide) e194 F197 (rm11 l Z a0 hw [] b7 T178.heap n0 Z178 B178_3) (lenOf pd_5 rfl) rfl (Nat.le_of_eq rfl) (hb hby at_301) rfl (by decide) (by decide) (by decide) (by decide)
  obtain ⟨rfl, N196q, e196⟩ := hQ196
  have N196 := Fr.app N194 N196q
  replace G := o_re (st := [(.int 1)]) G rfl
  replace G := o_ifNo (q := 307) G X196.here hx (hb hby at_304) (by decide) rfl
  replace G := o_iconst (q := 308) G X196.here hx (hb hby at_307) (v := (1 : Int32)) (by decide) rfl
  replace G := o_goto (q := 312) G X196.here hx (hb hby at_308) (by decide) (by decide)
  obtain ⟨fs, hr, hrun, hended, hW, hsame⟩ := X196.leave (v := some (.int 1)) (fun h => by rw [Bd.returns] at h; cases h)
  refine ⟨_, _, G _ (retOut X196 hx Bd.returns rfl (Or.inl ⟨rfl, Or.inr (Or.inl rfl), _, rfl⟩) (hb hby at_312) hr), hrun, hended, _, _, rfl, ?_, ⟨_, rfl⟩, hW, hsame.mono (by decide) (by decide)⟩
  show Q0 Z i0 i1 h0 n0 _ T196.heap _
  rw [e196]
  exact ⟨rfl, N196⟩
  replace G := o_iload (q := 127) G X141.here hx (hb hby at_125) rfl rfl
  replace G := o_ifNo (q := 130) G X141.here hx (hb hby at_127) (by decide) rfl
  replace G := o_aload (q := 132) G X141.here hx (hb hby at_130) rfl rfl rfl
  have F201 := (F142.keep K141q)
  have F202 := (B134_0.keep K141q (ninS ne9 (ninS ne10 (ninS ne11 nin0))))
  have F203 := (B134_1.keep K141q (ninS ne9 (ninS ne10 (ninS ne11 nin0))))
  have F204 := (B134_2.keep K141q (ninS ne9 (ninS ne10 (ninS ne11 nin0))))
  have F205 := (B134_3.keep K141q (ninS ne9 (ninS ne10 (ninS ne11 nin0))))
  have F206 := (B134_4.keep K141q (ninS ne9 (ninS ne10 (ninS ne11 nin0))))
  obtain ⟨T200, _, Lc200, X200, hQ200, G⟩ := o_vb (q := 135) (W := 0) (argsL := []) (rest := []) (y := (⟨o_n0, "decay", "()V"⟩ : MethodName)) G X141 hx hZ hown (by rw [hml]; rfl) ⟨(o_w hw 41 rfl), (o_w hw 42 rfl), (o_w hw 44 rfl), (o_w hw 43 rfl), (o_w hw 45 rfl), (o_w hw 3 rfl)⟩ (by decide) rfl F201 (rm7 l Z a0 hw [] b7 va_8 vh_8 vx_8 o_d1 o_d2 (3 : Int32) T141.heap n0 Z141 F201 F202 F203 F204 F205 F206 ge_b7 (by decide +kernel) (o_nan (by decide +kernel))) (lenOf pd_6 rfl) rfl (Nat.le_of_eq rfl) (hb hby at_132) rfl (by decide) (by decide) (by decide) (by decide)
  obtain ⟨rfl, N200q, K200q, B200_0, B200_1, B200_2, B200_3, B200_4⟩ := hQ200
  have Z200 : n0 ≤ T200.heap.size := Nat.le_trans Z141 K200q.1
  have N200 := Fr.app N141 N200q
  replace G := o_re (st := []) G rfl
  replace G := o_aload (q := 137) G X200.here hx (hb hby at_135) rfl rfl rfl
  replace G := o_iload (q := 139) G X200.here hx (hb hby at_137) rfl rfl
  have F208 := (F201.keep K200q)
  have F209 := (B141_0.keep K200q (ninS (Ne.symm ne9) nin0))
  have F210 := (B141_1.keep K200q (ninS (Ne.symm ne10) nin0))
  have F211 := (B141_2.keep K200q (ninS (Ne.symm ne11) nin0))
  obtain ⟨T207, _, Lc207, X207, hQ207, G⟩ := o_vb (q := 142) (W := 0) (argsL := [(.int 2)]) (rest := []) (y := (⟨o_n0, "bump", "(I)V"⟩ : MethodName)) G X200 hx hZ hown (by rw [hml]; rfl) ⟨(o_w hw 35 rfl), (o_w hw 36 rfl), (o_w hw 38 rfl), (o_w hw 37 rfl), (o_w hw 39 rfl), (o_w hw 3 rfl)⟩ (by decide) rfl F208 (rm6f2t l Z a0 hw [] b7 (2 : Int32) va_8 vh_8 vx_8 ka_8 kh_8 kx_8 (1 : Int32) (0 : Int32) (2 : Int32) [(.double o_d0), (.double o_d1), (.double 0)] [(.int 1), (.int 0), (.int 2)] [(.int 1), (.int 2), (.int 0)] o_d2 [(.double o_d0), (.double o_d1), (.double o_d2)] (0 : UInt64) o_d2 o_d1 o_d2 T200.heap n0 Z200 F208 B200_0 B200_1 B200_2 B200_4 F209 F210 F211 ge_va_8 ge_vh_8 ge_vx_8 ne9 ne10 ne11 B8_8 B8_9 B8_10 ⟨by decide, by decide⟩ ⟨by decide, by decide⟩ ⟨by decide, by decide⟩ rfl rfl rfl rfl (by decide +kernel) (o_nan (by decide +kernel)) (by decide +kernel) rfl rfl rfl rfl (by decide +kernel) rfl) (lenOf pd_1 rfl) rfl (Nat.le_of_eq rfl) (hb hby at_139) rfl (by decide) (by decide) (by decide) (by decide)
  obtain ⟨rfl, N207q, K207q, B207_0, B207_1, B207_2⟩ := hQ207
  have Z207 : n0 ≤ T207.heap.size := Nat.le_trans Z200 K207q.1
  have N207 := Fr.app N200 N207q
  replace G := o_re (st := []) G rfl
  replace G := o_iconst (q := 143) G X207.here hx (hb hby at_142) (v := (3 : Int32)) (by decide) rfl
  obtain ⟨T212, h212, k212, X212, e212, E212, A212, st212⟩ := newP X207 hx hZ (o_w hw 15 rfl) rfl (g := o_g G) rfl (hb hby at_143) rfl (by decide) (cap := 3) (by decide) (by decide) (by decide) (by decide)
  obtain ⟨b212, g212⟩ : ∃ z, z = T207.heap.size := ⟨_, rfl⟩
  rw [← g212] at A212 st212
  have ne213 : vx_8 ≠ b212 := Nat.ne_of_lt (Nat.lt_of_lt_of_le B207_2.lt (Nat.le_of_eq g212.symm))
  have ne214 : vh_8 ≠ b212 := Nat.ne_of_lt (Nat.lt_of_lt_of_le B207_1.lt (Nat.le_of_eq g212.symm))
  have ne215 : va_8 ≠ b212 := Nat.ne_of_lt (Nat.lt_of_lt_of_le B207_0.lt (Nat.le_of_eq g212.symm))
  have F216 := (B200_4.keep K207q (ninS ne9 (ninS ne10 (ninS ne11 nin0))))
  have ne217 : b7 ≠ b212 := Nat.ne_of_lt (Nat.lt_of_lt_of_le F216.lt (Nat.le_of_eq g212.symm))
  have ge_b212 : n0 ≤ b212 := Nat.le_trans Z207 (Nat.le_of_eq g212.symm)
  have Z212 : n0 ≤ h212.size := Nat.le_trans Z207 E212.1
  have V212 : Arv Z h212 b212 k212 .int 3 [(.int 0), (.int 0), (.int 0)] (.int 0) := (Arv.new A212 (by decide)).pad (pad_rep [] (.int 0) 3)
  replace G := o_nxs (q := 145) (st := [(.ref b212)]) G st212 rfl
  replace G := o_astore (q := 147) (l' := #[.val (.int i0), .val (.int i1), .val (.int 0), .val (.int 0), .val (.int 1), .val (.int 2), .val (.int 1), .val (.int 2), .val (.int 1), .val (.int 1), .val (.ref b7), .val (.ref b212), .unset, .unset, .unset, .unset]) G X212.here hx (hb hby at_145) rfl rfl rfl
  replace G := o_aload (q := 149) G X212.here hx (hb hby at_147) rfl rfl rfl
  replace G := o_iloadN (q := 150) G X212.here hx (hb hby at_149) rfl rfl
  replace G := o_iconst (q := 151) G X212.here hx (hb hby at_150) (v := (0 : Int32)) (by decide) rfl
  obtain ⟨c218, Ar218, q218, S218, N218', H218, G218'⟩ := id V212
  have hin218 : ¬ ((0 : Int32) < 0 ∨ c218.slots.size ≤ ((0 : Int32)).toNatClampNeg) := inb_of S218 ⟨by decide, by decide⟩
  obtain ⟨T218, h218, X218, e218, W218, st218⟩ := stI X212 hx hZ e212 Ar218 (j := (0 : Int32)) hin218 (g := o_g G) rfl rfl (hb hby at_151)
  have N218 := Fr.snoc X218 N207 ge_b212
  have Z218 : n0 ≤ h218.size := Nat.le_trans Z212 (Keep.of_wr W218).1
  have V218 : Arv Z h218 b212 k212 .int 3 [(.int 0), (.int 0), (.int 0)] (.int 0) := Arv.set Ar218 q218 S218 N218' H218 G218' rfl W218 0 rfl (Nat.le_of_ble_eq_true rfl)
  replace G := o_nxs (q := 152) (st := []) G st218 rfl
  replace G := o_aload (q := 154) G X218.here hx (hb hby at_152) rfl rfl rfl
  replace G := o_iload (q := 156) G X218.here hx (hb hby at_154) rfl rfl
  replace G := o_iload (q := 158) G X218.here hx (hb hby at_156) rfl rfl
  replace G := o_ifNo (q := 161) G X218.here hx (hb hby at_158) (by decide) rfl
  replace G := o_iconst (q := 162) G X218.here hx (hb hby at_161) (v := (1 : Int32)) (by decide) rfl
  replace G := o_goto (q := 166) G X218.here hx (hb hby at_162) (by decide) (by decide)
  obtain ⟨c220, Ar220, q220, S220, N220', H220, G220'⟩ := id V218
  have hin220 : ¬ ((1 : Int32) < 0 ∨ c220.slots.size ≤ ((1 : Int32)).toNatClampNeg) := inb_of S220 ⟨by decide, by decide⟩
  obtain ⟨T220, h220, X220, e220, W220, st220⟩ := stI X218 hx hZ e218 Ar220 (j := (1 : Int32)) hin220 (g := o_g G) rfl rfl (hb hby at_166)
  have N220 := Fr.snoc X220 N218 ge_b212
  have Z220 : n0 ≤ h220.size := Nat.le_trans Z218 (Keep.of_wr W220).1
  have V220 : Arv Z h220 b212 k212 .int 3 [(.int 0), (.int 1), (.int 0)] (.int 0) := Arv.set Ar220 q220 S220 N220' H220 G220' rfl W220 1 rfl (Nat.le_of_ble_eq_true rfl)
  replace G := o_nxs (q := 167) (st := []) G st220 rfl
  replace G := o_aload (q := 169) G X220.here hx (hb hby at_167) rfl rfl rfl
  replace G := o_iload (q := 171) G X220.here hx (hb hby at_169) rfl rfl
  replace G := o_aload (q := 173) G X220.here hx (hb hby at_171) rfl rfl rfl
  replace G := o_iload (q := 175) G X220.here hx (hb hby at_173) rfl rfl
  obtain ⟨c221, Ar221, -, S221, -, H221, -⟩ := id V220
  have hin221 : ¬ ((1 : Int32) < 0 ∨ c221.slots.size ≤ ((1 : Int32)).toNatClampNeg) := inb_of S221 ⟨by decide, by decide⟩
  replace G := o_nxs (q := 176) (st := [(.int 1), (.int 2), (.ref b212)]) G (X220.iaload hx (j := (1 : Int32)) (v := (.int 1)) (by rw [e220]; exact Ar221.1) (State.isArrayOf_alike hZ.alike Ar221.2.1) Ar221.2.2 hin221 (Has.at H221 hin221 rfl) (g := o_g G) rfl rfl (hb hby at_175)) rfl
  replace G := o_iload (q := 178) G X220.here hx (hb hby at_176) rfl rfl
  replace G := o_ifNo (q := 181) G X220.here hx (hb hby at_178) (by decide) rfl
  replace G := o_iconst (q := 182) G X220.here hx (hb hby at_181) (v := (1 : Int32)) (by decide) rfl
  replace G := o_goto (q := 186) G X220.here hx (hb hby at_182) (by decide) (by decide)
  replace G := o_iadd (q := 187) G X220.here hx (hb hby at_186) (by decide : ((1 : Int32) + (1 : Int32)) = (2 : Int32)) rfl
  obtain ⟨c223, Ar223, q223, S223, N223', H223, G223'⟩ := id V220
  have hin223 : ¬ ((2 : Int32) < 0 ∨ c223.slots.size ≤ ((2 : Int32)).toNatClampNeg) := inb_of S223 ⟨by decide, by decide⟩
  obtain ⟨T223, h223, X223, e223, W223, st223⟩ := stI X220 hx hZ e220 Ar223 (j := (2 : Int32)) hin223 (g := o_g G) rfl rfl (hb hby at_187)
  have N223 := Fr.snoc X223 N220 ge_b212
  have Z223 : n0 ≤ h223.size := Nat.le_trans Z220 (Keep.of_wr W223).1
  have V223 : Arv Z h223 b212 k212 .int 3 [(.int 0), (.int 1), (.int 2)] (.int 0) := Arv.set Ar223 q223 S223 N223' H223 G223' rfl W223 2 rfl (Nat.le_of_ble_eq_true rfl)
  replace G := o_nxs (q := 188) (st := []) G st223 rfl
  replace G := o_aload (q := 190) G X223.here hx (hb hby at_188) rfl rfl rfl
  have F225 := (((((F208.keep K207q).ext E212).wr W218).wr W220).wr W223)
  have F226 := (((((B200_0.keep K207q (ninS ne9 (ninS ne10 (ninS ne11 nin0)))).ext E212).other W218 (Or.inl ne217)).other W220 (Or.inl ne217)).other W223 (Or.inl ne217))
  have F227 := (((((B200_1.keep K207q (ninS ne9 (ninS ne10 (ninS ne11 nin0)))).ext E212).other W218 (Or.inl ne217)).other W220 (Or.inl ne217)).other W223 (Or.inl ne217))
  have F228 := (((((B200_2.keep K207q (ninS ne9 (ninS ne10 (ninS ne11 nin0)))).ext E212).other W218 (Or.inl ne217)).other W220 (Or.inl ne217)).other W223 (Or.inl ne217))
  have F229 := (((((B200_3.keep K207q (ninS ne9 (ninS ne10 (ninS ne11 nin0)))).ext E212).other W218 (Or.inl ne217)).other W220 (Or.inl ne217)).other W223 (Or.inl ne217))
  have F230 := ((((F216.ext E212).other W218 (Or.inl ne217)).other W220 (Or.inl ne217)).other W223 (Or.inl ne217))
  have F231 := ((((B207_0.ext E212).other W218 ne215).other W220 ne215).other W223 ne215)
  have F232 := ((((B207_1.ext E212).other W218 ne214).other W220 ne214).other W223 ne214)
  have F233 := ((((B207_2.ext E212).other W218 ne213).other W220 ne213).other W223 ne213)
  obtain ⟨T224, _, Lc224, X224, hQ224, G⟩ := o_vb (q := 193) (W := 0) (argsL := []) (rest := []) (y := (⟨o_n0, "takeFirst", "()I"⟩ : MethodName)) G X223 hx hZ hown (by rw [hml]; rfl) ⟨(o_w hw 47 rfl), (o_w hw 48 rfl), (o_w hw 50 rfl), (o_w hw 49 rfl), (o_w hw 51 rfl), (o_w hw 3 rfl)⟩ (by decide) e223 F225 (rm8n3f l Z a0 hw [] b7 va_8 vh_8 vx_8 ka_8 kh_8 kx_8 (2 : Int32) (0 : Int32) (1 : Int32) [(.double o_d0), (.double o_d1), (.double o_d2)] [(.int 1), (.int 2), (.int 0)] [(.int 1), (.int 0), (.int (-1))] o_d2 o_d1 o_d0 h223 n0 Z223 F225 F226 F227 F228 F229 F230 F231 F232 F233 ge_b7 ge_vh_8 ge_vx_8 ne9 ne10 ne11 B8_8 B8_9 B8_10 ⟨by decide, by decide⟩ ⟨by decide, by decide⟩ ⟨by decide, by decide⟩ rfl rfl rfl (by decide +kernel) rfl) (lenOf pd_3 rfl) rfl (Nat.le_of_eq rfl) (hb hby at_190) rfl (by decide) (by decide) (by decide) (by decide)
  obtain ⟨rfl, N224q, K224q, B224_0, B224_1, B224_2, B224_3, B224_4, B224_5, B224_6⟩ := hQ224
  have Z224 : n0 ≤ T224.heap.size := Nat.le_trans Z223 K224q.1
  have N224 := Fr.app N223 N224q
  replace G := o_re (st := [(.int 2)]) G rfl
  replace G := o_istore (q := 195) (l' := #[.val (.int i0), .val (.int i1), .val (.int 0), .val (.int 0), .val (.int 1), .val (.int 2), .val (.int 1), .val (.int 2), .val (.int 1), .val (.int 1), .val (.ref b7), .val (.ref b212), .val (.int 2), .unset, .unset, .unset]) G X224.here hx (hb hby at_193) rfl rfl
  replace G := o_aload (q := 197) G X224.here hx (hb hby at_195) rfl rfl rfl
  have F235 := (F225.keep K224q)
  have F236 := (F231.keep K224q (ninS (Ne.symm ne9) (ninS B8_8 (ninS B8_9 nin0))))
  obtain ⟨T234, _, Lc234, X234, hQ234, G⟩ := o_vb (q := 200) (W := 0) (argsL := []) (rest := []) (y := (⟨o_n0, "takeFirst", "()I"⟩ : MethodName)) G X224 hx hZ hown (by rw [hml]; rfl) ⟨(o_w hw 47 rfl), (o_w hw 48 rfl), (o_w hw 50 rfl), (o_w hw 49 rfl), (o_w hw 51 rfl), (o_w hw 3 rfl)⟩ (by decide) rfl F235 (rm8n2 l Z a0 hw [] b7 va_8 vh_8 vx_8 ka_8 kh_8 kx_8 (1 : Int32) (0 : Int32) (1 : Int32) [(.double o_d0), (.double o_d1), (.double o_d2)] [(.int 1), (.int 0), (.int (-1))] [(.int 0), (.int (-1)), (.int (-1))] o_d2 T224.heap n0 Z224 F235 B224_0 B224_1 B224_2 B224_3 B224_4 F236 B224_5 B224_6 ge_b7 ge_vh_8 ge_vx_8 ne9 ne10 ne11 B8_8 B8_9 B8_10 ⟨by decide, by decide⟩ ⟨by decide, by decide⟩ rfl rfl) (lenOf pd_3 rfl) rfl (Nat.le_of_eq rfl) (hb hby at_197) rfl (by decide) (by decide) (by decide) (by decide)
  obtain ⟨rfl, N234q, K234q, B234_0, B234_1, B234_2, B234_3, B234_4, B234_5, B234_6⟩ := hQ234
  have Z234 : n0 ≤ T234.heap.size := Nat.le_trans Z224 K234q.1
  have N234 := Fr.app N224 N234q
  replace G := o_re (st := [(.int 1)]) G rfl
  replace G := o_istore (q := 202) (l' := #[.val (.int i0), .val (.int i1), .val (.int 0), .val (.int 0), .val (.int 1), .val (.int 2), .val (.int 1), .val (.int 2), .val (.int 1), .val (.int 1), .val (.ref b7), .val (.ref b212), .val (.int 2), .val (.int 1), .unset, .unset]) G X234.here hx (hb hby at_200) rfl rfl
  replace G := o_aload (q := 204) G X234.here hx (hb hby at_202) rfl rfl rfl
  have F238 := (F235.keep K234q)
  have F239 := (F236.keep K234q (ninS (Ne.symm ne9) (ninS B8_8 (ninS B8_9 nin0))))
  obtain ⟨T237, _, Lc237, X237, hQ237, G⟩ := o_vb (q := 207) (W := 0) (argsL := []) (rest := []) (y := (⟨o_n0, "takeFirst", "()I"⟩ : MethodName)) G X234 hx hZ hown (by rw [hml]; rfl) ⟨(o_w hw 47 rfl), (o_w hw 48 rfl), (o_w hw 50 rfl), (o_w hw 49 rfl), (o_w hw 51 rfl), (o_w hw 3 rfl)⟩ (by decide) rfl F238 (rm8n1 l Z a0 hw [] b7 va_8 vh_8 vx_8 ka_8 kh_8 kx_8 (0 : Int32) (0 : Int32) (1 : Int32) [(.double o_d0), (.double o_d1), (.double o_d2)] [(.int 0), (.int (-1)), (.int (-1))] [(.int (-1)), (.int (-1)), (.int (-1))] o_d2 T234.heap n0 Z234 F238 B234_0 B234_1 B234_2 B234_3 B234_4 F239 B234_5 B234_6 ge_b7 ge_vh_8 ge_vx_8 ne9 ne10 ne11 B8_8 B8_9 B8_10 ⟨by decide, by decide⟩ rfl rfl) (lenOf pd_3 rfl) rfl (Nat.le_of_eq rfl) (hb hby at_204) rfl (by decide) (by decide) (by decide) (by decide)
  obtain ⟨rfl, N237q, K237q, B237_0, B237_1, B237_2, B237_3, B237_4, B237_5, B237_6⟩ := hQ237
  have Z237 : n0 ≤ T237.heap.size := Nat.le_trans Z234 K237q.1
  have N237 := Fr.app N234 N237q
  replace G := o_re (st := [(.int 0)]) G rfl
  replace G := o_istore (q := 209) (l' := #[.val (.int i0), .val (.int i1), .val (.int 0), .val (.int 0), .val (.int 1), .val (.int 2), .val (.int 1), .val (.int 2), .val (.int 1), .val (.int 1), .val (.ref b7), .val (.ref b212), .val (.int 2), .val (.int 1), .val (.int 0), .unset]) G X237.here hx (hb hby at_207) rfl rfl
  replace G := o_iload (q := 211) G X237.here hx (hb hby at_209) rfl rfl
  replace G := o_ifNo (q := 214) G X237.here hx (hb hby at_211) (by decide) rfl
  replace G := o_iload (q := 216) G X237.here hx (hb hby at_214) rfl rfl
  replace G := o_iconst (q := 217) G X237.here hx (hb hby at_216) (v := (3 : Int32)) (by decide) rfl
  replace G := o_icmpNo (q := 220) G X237.here hx (hb hby at_217) (by decide) rfl
  replace G := o_iload (q := 222) G X237.here hx (hb hby at_220) rfl rfl
  replace G := o_ifNo (q := 225) G X237.here hx (hb hby at_222) (by decide) rfl
  replace G := o_iload (q := 227) G X237.here hx (hb hby at_225) rfl rfl
  replace G := o_iconst (q := 228) G X237.here hx (hb hby at_227) (v := (3 : Int32)) (by decide) rfl
  replace G := o_icmpNo (q := 231) G X237.here hx (hb hby at_228) (by decide) rfl
  replace G := o_iload (q := 233) G X237.here hx (hb hby at_231) rfl rfl
  replace G := o_ifNo (q := 236) G X237.here hx (hb hby at_233) (by decide) rfl
  replace G := o_iload (q := 238) G X237.here hx (hb hby at_236) rfl rfl
  replace G := o_iconst (q := 239) G X237.here hx (hb hby at_238) (v := (3 : Int32)) (by decide) rfl
  replace G := o_icmpNo (q := 242) G X237.here hx (hb hby at_239) (by decide) rfl
  replace G := o_iload (q := 244) G X237.here hx (hb hby at_242) rfl rfl
  replace G := o_iload (q := 246) G X237.here hx (hb hby at_244) rfl rfl
  replace G := o_icmpNo (q := 249) G X237.here hx (hb hby at_246) (by decide) rfl
  replace G := o_iload (q := 251) G X237.here hx (hb hby at_249) rfl rfl
  replace G := o_iload (q := 253) G X237.here hx (hb hby at_251) rfl rfl
  replace G := o_icmpNo (q := 256) G X237.here hx (hb hby at_253) (by decide) rfl
  replace G := o_iload (q := 258) G X237.here hx (hb hby at_256) rfl rfl
  replace G := o_iload (q := 260) G X237.here hx (hb hby at_258) rfl rfl
  replace G := o_icmpNo (q := 263) G X237.here hx (hb hby at_260) (by decide) rfl
  replace G := o_iconst (q := 264) G X237.here hx (hb hby at_263) (v := (1 : Int32)) (by decide) rfl
  replace G := o_goto (q := 268) G X237.here hx (hb hby at_264) (by decide) (by decide)
  replace G := o_istore (q := 270) (l' := #[.val (.int i0), .val (.int i1), .val (.int 0), .val (.int 0), .val (.int 1), .val (.int 2), .val (.int 1), .val (.int 2), .val (.int 1), .val (.int 1), .val (.ref b7), .val (.ref b212), .val (.int 2), .val (.int 1), .val (.int 0), .val (.int 1)]) G X237.here hx (hb hby at_268) rfl rfl
  replace G := o_iload (q := 272) G X237.here hx (hb hby at_270) rfl rfl
  replace G := o_ifNo (q := 275) G X237.here hx (hb hby at_272) (by decide) rfl
  replace G := o_aload (q := 277) G X237.here hx (hb hby at_275) rfl rfl rfl
  replace G := o_iload (q := 279) G X237.here hx (hb hby at_277) rfl rfl
  replace G := o_iload (q := 281) G X237.here hx (hb hby at_279) rfl rfl
  have F251 := (((V223.keep K224q (ninS (Ne.symm ne217) (ninS (Ne.symm ne214) (ninS (Ne.symm ne213) nin0)))).keep K234q (ninS (Ne.symm ne217) (ninS (Ne.symm ne214) (ninS (Ne.symm ne213) nin0)))).keep K237q (ninS (Ne.symm ne217) (ninS (Ne.symm ne214) (ninS (Ne.symm ne213) nin0))))
  obtain ⟨_, _, ⟨T250, L250, kk250, nn250⟩, -, X250, ⟨Lc250, hQ250, l250, y250, z250⟩, st250⟩ := Jvm.LawKit.callS X237 hx (y := (⟨o_n1, "before", "([III)Z"⟩ : MethodName)) hown (mvT hZ (o_w hw 56 rfl)) (mvT hZ (o_w hw 57 rfl)) (mvT hZ (o_w hw 58 rfl)) (mvT hZ (o_w hw 59 rfl)) (by decide) (backOf (W := 0) (rm10 l Z a0 hw [] b212 (2 : Int32) (1 : Int32) k212 [(.int 0), (.int 1), (.int 2)] (2 : Int32) (1 : Int32) T237.heap n0 Z237 F251 ⟨by decide, by decide⟩ ⟨by decide, by decide⟩ rfl rfl) hZ (o_w hw 59 rfl) (o_w hw 58 rfl) (by decide) (by decide)) (g := o_g G) rfl (by rw [hml]; rfl) (argsL := [(.ref b212), (.int 2), (.int 1)]) (rest := []) (lenOf pd_4 rfl) rfl (by show 2 * 0 + _ ≤ _; exact Nat.le_of_eq rfl) (hb hby at_281) (fun _ _ => ⟨rfl, rfl, (by decide : 5 + 0 ≤ _), (by decide : 17 + 0 ≤ _)⟩)
  dsimp only [Pt.U, Pt.locs, Pt.cells, Pt.slots] at X250 l250 y250 z250 st250 hQ250
  subst l250 y250 z250
  obtain ⟨rfl, N250q, e250⟩ := hQ250
  have N250 := Fr.app N237 N250q
  replace G := o_nxs (q := 284) (st := [(.int (o_lb (2 : Int32) (1 : Int32) (2 : Int32) (1 : Int32)))]) G st250 rfl
  replace G := o_ifNo (q := 287) G X250.here hx (hb hby at_284) (by decide) rfl
  replace G := o_aload (q := 289) G X250.here hx (hb hby at_287) rfl rfl rfl
  replace G := o_iload (q := 291) G X250.here hx (hb hby at_289) rfl rfl
  replace G := o_iload (q := 293) G X250.here hx (hb hby at_291) rfl rfl
  obtain ⟨_, _, ⟨T253, L253, kk253, nn253⟩, -, X253, ⟨Lc253, hQ253, l253, y253, z253⟩, st253⟩ := Jvm.LawKit.callS X250 hx (y := (⟨o_n1, "before", "([III)Z"⟩ : MethodName)) hown (mvT hZ (o_w hw 56 rfl)) (mvT hZ (o_w hw 57 rfl)) (mvT hZ (o_w hw 58 rfl)) (mvT hZ (o_w hw 59 rfl)) (by decide) (backOf (W := 0) (rm10 l Z a0 hw [] b212 (1 : Int32) (0 : Int32) k212 [(.int 0), (.int 1), (.int 2)] (1 : Int32) (0 : Int32) T237.heap n0 Z237 F251 ⟨by decide, by decide⟩ ⟨by decide, by decide⟩ rfl rfl) hZ (o_w hw 59 rfl) (o_w hw 58 rfl) (by decide) (by decide)) (g := o_g G) rfl (by rw [hml]; rfl) (argsL := [(.ref b212), (.int 1), (.int 0)]) (rest := []) (lenOf pd_4 rfl) rfl (by show 2 * 0 + _ ≤ _; exact Nat.le_of_eq rfl) (hb hby at_293) (fun _ _ => ⟨rfl, e250, (by decide : 5 + 0 ≤ _), (by decide : 17 + 0 ≤ _)⟩)
  dsimp only [Pt.U, Pt.locs, Pt.cells, Pt.slots] at X253 l253 y253 z253 st253 hQ253
  subst l253 y253 z253
  obtain ⟨rfl, N253q, e253⟩ := hQ253
  have N253 := Fr.app N250 N253q
  replace G := o_nxs (q := 296) (st := [(.int (o_lb (1 : Int32) (0 : Int32) (1 : Int32) (0 : Int32)))]) G st253 rfl
  replace G := o_ifNo (q := 299) G X253.here hx (hb hby at_296) (by decide) rfl
  replace G := o_aload (q := 301) G X253.here hx (hb hby at_299) rfl rfl rfl
  have F256 := (F238.keep K237q)
  obtain ⟨T255, _, Lc255, X255, hQ255, G⟩ := o_vb (q := 304) (W := 0) (argsL := []) (rest := []) (y := (⟨o_n0, "isEmpty", "()Z"⟩ : MethodName)) G X253 hx hZ hown (by rw [hml]; rfl) ⟨(o_w hw 60 rfl), (o_w hw 61 rfl), (o_w hw 63 rfl), (o_w hw 62 rfl), (o_w hw 64 rfl), (o_w hw 3 rfl)⟩ (by decide) e253 F256 (rm11 l Z a0 hw [] b7 T237.heap n0 Z237 B237_3) (lenOf pd_5 rfl) rfl (Nat.le_of_eq rfl) (hb hby at_301) rfl (by decide) (by decide) (by decide) (by decide)
  obtain ⟨rfl, N255q, e255⟩ := hQ255
  have N255 := Fr.app N253 N255q
  replace G := o_re (st := [(.int 1)]) G rfl
  replace G := o_ifNo (q := 307) G X255.here hx (hb hby at_304) (by decide) rfl
  replace G := o_iconst (q := 308) G X255.here hx (hb hby at_307) (v := (1 : Int32)) (by decide) rfl
  replace G := o_goto (q := 312) G X255.here hx (hb hby at_308) (by decide) (by decide)
  obtain ⟨fs, hr, hrun, hended, hW, hsame⟩ := X255.leave (v := some (.int 1)) (fun h => by rw [Bd.returns] at h; cases h)
  refine ⟨_, _, G _ (retOut X255 hx Bd.returns rfl (Or.inl ⟨rfl, Or.inr (Or.inl rfl), _, rfl⟩) (hb hby at_312) hr), hrun, hended, _, _, rfl, ?_, ⟨_, rfl⟩, hW, hsame.mono (by decide) (by decide)⟩
  show Q0 Z i0 i1 h0 n0 _ T255.heap _
  rw [e255]
  exact ⟨rfl, N255⟩
  replace G := o_istoreN (q := 8) (l' := #[.val (.int i0), .val (.int i1), .val (.int 1), .unset, .unset, .unset, .unset, .unset, .unset, .unset, .unset, .unset, .unset, .unset, .unset, .unset]) G X0.here hx (hb hby at_7) rfl rfl
  replace G := o_iloadN (q := 9) G X0.here hx (hb hby at_8) rfl rfl
  replace G := o_iconst (q := 10) G X0.here hx (hb hby at_9) (v := (2 : Int32)) (by decide) rfl
  replace G := o_idiv (q := 11) G X0.here hx (hb hby at_10) (by decide) (by decide : ((1 : Int32) / (2 : Int32)) = (0 : Int32)) rfl
  replace G := o_istoreN (q := 12) (l' := #[.val (.int i0), .val (.int i1), .val (.int 1), .val (.int 0), .unset, .unset, .unset, .unset, .unset, .unset, .unset, .unset, .unset, .unset, .unset, .unset]) G X0.here hx (hb hby at_11) rfl rfl
  replace G := o_iloadN (q := 13) G X0.here hx (hb hby at_12) rfl rfl
  replace G := o_ifNo (q := 16) G X0.here hx (hb hby at_13) (by decide) rfl
  replace G := o_iconst (q := 17) G X0.here hx (hb hby at_16) (v := (1 : Int32)) (by decide) rfl
  replace G := o_goto (q := 21) G X0.here hx (hb hby at_17) (by decide) (by decide)
  replace G := o_istore (q := 23) (l' := #[.val (.int i0), .val (.int i1), .val (.int 1), .val (.int 0), .val (.int 1), .unset, .unset, .unset, .unset, .unset, .unset, .unset, .unset, .unset, .unset, .unset]) G X0.here hx (hb hby at_21) rfl rfl
  replace G := o_iloadN (q := 24) G X0.here hx (hb hby at_23) rfl rfl
  replace G := o_iconst (q := 25) G X0.here hx (hb hby at_24) (v := (2 : Int32)) (by decide) rfl
  replace G := o_icmpYes (q := 32) G X0.here hx (hb hby at_25) (by decide) (by decide) (by decide)
  replace G := o_iconst (q := 33) G X0.here hx (hb hby at_32) (v := (2 : Int32)) (by decide) rfl
  replace G := o_istore (q := 35) (l' := #[.val (.int i0), .val (.int i1), .val (.int 1), .val (.int 0), .val (.int 1), .val (.int 2), .unset, .unset, .unset, .unset, .unset, .unset, .unset, .unset, .unset, .unset]) G X0.here hx (hb hby at_33) rfl rfl
  replace G := o_iloadN (q := 36) G X0.here hx (hb hby at_35) rfl rfl
  replace G := o_iconst (q := 37) G X0.here hx (hb hby at_36) (v := (1 : Int32)) (by decide) rfl
  replace G := o_iand (q := 38) G X0.here hx (hb hby at_37) (by decide : ((1 : Int32) &&& (1 : Int32)) = (1 : Int32)) rfl
  replace G := o_ifYes (q := 46) G X0.here hx (hb hby at_38) (by decide) (by decide) (by decide)
  replace G := o_iload (q := 48) G X0.here hx (hb hby at_46) rfl rfl
  replace G := o_istore (q := 50) (l' := #[.val (.int i0), .val (.int i1), .val (.int 1), .val (.int 0), .val (.int 1), .val (.int 2), .val (.int 2), .unset, .unset, .unset, .unset, .unset, .unset, .unset, .unset, .unset]) G X0.here hx (hb hby at_48) rfl rfl
  replace G := o_iloadN (q := 51) G X0.here hx (hb hby at_50) rfl rfl
  replace G := o_iconst (q := 52) G X0.here hx (hb hby at_51) (v := (1 : Int32)) (by decide) rfl
  replace G := o_iand (q := 53) G X0.here hx (hb hby at_52) (by decide : ((1 : Int32) &&& (1 : Int32)) = (1 : Int32)) rfl
  replace G := o_ifYes (q := 61) G X0.here hx (hb hby at_53) (by decide) (by decide) (by decide)
  replace G := o_iload (q := 63) G X0.here hx (hb hby at_61) rfl rfl
  replace G := o_istore (q := 65) (l' := #[.val (.int i0), .val (.int i1), .val (.int 1), .val (.int 0), .val (.int 1), .val (.int 2), .val (.int 2), .val (.int 1), .unset, .unset, .unset, .unset, .unset, .unset, .unset, .unset]) G X0.here hx (hb hby at_63) rfl rfl
  replace G := o_iloadN (q := 66) G X0.here hx (hb hby at_65) rfl rfl
  replace G := o_iconst (q := 67) G X0.here hx (hb hby at_66) (v := (1 : Int32)) (by decide) rfl
  obtain ⟨m1, hn_m1⟩ : ∃ z : Int32, (i1 &&& (1 : Int32)) = z := ⟨_, rfl⟩
  replace G := o_iand (q := 68) G X0.here hx (hb hby at_67) hn_m1 rfl
  replace G : Gets p e below (s₁.setTop (entryFrame m #[(.int i0), (.int i1)] maxLocals)) (s₁.setTop (mkF m 76 #[.val (.int i0), .val (.int i1), .val (.int 1), .val (.int 0), .val (.int 1), .val (.int 2), .val (.int 2), .val (.int 1), .unset, .unset, .unset, .unset, .unset, .unset, .unset, .unset] [(.int (if m1 = (0 : Int32) then (0 : Int32) else (1 : Int32)))])) := by
    by_cases hc68_262 : m1 = (0 : Int32)
    · replace G := o_ifYes (q := 75) G X0.here hx (hb hby at_68) ((if0 _ _).trans (teq hc68_262).1) (by decide) (by decide)
      replace G := o_iconst (q := 76) G X0.here hx (hb hby at_75) (v := (0 : Int32)) (by decide) rfl
      simp only [if_pos hc68_262]
      exact G
    · replace G := o_ifNo (q := 71) G X0.here hx (hb hby at_68) ((if0 _ _).trans (feq hc68_262).1) rfl
      replace G := o_iconst (q := 72) G X0.here hx (hb hby at_71) (v := (1 : Int32)) (by decide) rfl
      replace G := o_goto (q := 76) G X0.here hx (hb hby at_72) (by decide) (by decide)
      simp only [if_neg hc68_262]
      exact G
  obtain ⟨w1, hn_w1⟩ : ∃ z : Int32, (if m1 = (0 : Int32) then (0 : Int32) else (1 : Int32)) = z := ⟨_, rfl⟩
  rw [hn_w1] at G
  replace G := o_istore (q := 78) (l' := #[.val (.int i0), .val (.int i1), .val (.int 1), .val (.int 0), .val (.int 1), .val (.int 2), .val (.int 2), .val (.int 1), .val (.int w1), .unset, .unset, .unset, .unset, .unset, .unset, .unset]) G X0.here hx (hb hby at_76) rfl rfl
  replace G := o_iloadN (q := 79) G X0.here hx (hb hby at_78) rfl rfl
  replace G := o_iconst (q := 80) G X0.here hx (hb hby at_79) (v := (2 : Int32)) (by decide) rfl
  obtain ⟨m2, hn_m2⟩ : ∃ z : Int32, (i1 &&& (2 : Int32)) = z := ⟨_, rfl⟩
  replace G := o_iand (q := 81) G X0.here hx (hb hby at_80) hn_m2 rfl
  replace G : Gets p e below (s₁.setTop (entryFrame m #[(.int i0), (.int i1)] maxLocals)) (s₁.setTop (mkF m 89 #[.val (.int i0), .val (.int i1), .val (.int 1), .val (.int 0), .val (.int 1), .val (.int 2), .val (.int 2), .val (.int 1), .val (.int w1), .unset, .unset, .unset, .unset, .unset, .unset, .unset] [(.int (if m2 = (0 : Int32) then (0 : Int32) else (1 : Int32)))])) := by
    by_cases hc81_263 : m2 = (0 : Int32)
    · replace G := o_ifYes (q := 88) G X0.here hx (hb hby at_81) ((if0 _ _).trans (teq hc81_263).1) (by decide) (by decide)
      replace G := o_iconst (q := 89) G X0.here hx (hb hby at_88) (v := (0 : Int32)) (by decide) rfl
      simp only [if_pos hc81_263]
      exact G
    · replace G := o_ifNo (q := 84) G X0.here hx (hb hby at_81) ((if0 _ _).trans (feq hc81_263).1) rfl
      replace G := o_iconst (q := 85) G X0.here hx (hb hby at_84) (v := (1 : Int32)) (by decide) rfl
      replace G := o_goto (q := 89) G X0.here hx (hb hby at_85) (by decide) (by decide)
      simp only [if_neg hc81_263]
      exact G
  obtain ⟨w2, hn_w2⟩ : ∃ z : Int32, (if m2 = (0 : Int32) then (0 : Int32) else (1 : Int32)) = z := ⟨_, rfl⟩
  rw [hn_w2] at G
  replace G := o_istore (q := 91) (l' := #[.val (.int i0), .val (.int i1), .val (.int 1), .val (.int 0), .val (.int 1), .val (.int 2), .val (.int 2), .val (.int 1), .val (.int w1), .val (.int w2), .unset, .unset, .unset, .unset, .unset, .unset]) G X0.here hx (hb hby at_89) rfl rfl
  obtain ⟨T264, h264, X264, e264, E264, A264, D264, -, st264⟩ := newO X0 hx hZ hown (o_w hw 1 rfl) (o_w hw 2 rfl) (o_w hw 3 rfl) e0 (g := o_g G) rfl (hb hby at_91) (by decide) (by decide)
  obtain ⟨b264, g264⟩ : ∃ z, z = h0.size := ⟨_, rfl⟩
  rw [← g264] at A264 D264 st264
  have ge_b264 : n0 ≤ b264 := Nat.le_trans Z0 (Nat.le_of_eq g264.symm)
  have Z264 : n0 ≤ h264.size := Nat.le_trans Z0 E264.1
  have F264_bump : Fld Z h264 b264 o_n0 "bump" "D" (.double 0) := D264 (Or.inl (o_w hw 11 rfl)) (ty := .double) (by decide)
  have F264_activity : Fld Z h264 b264 o_n0 "activity" "[D" .null := D264 (Or.inr (o_w hw 14 rfl)) (ty := (.array .double)) (by decide)
  have F264_heap : Fld Z h264 b264 o_n0 "heap" "[I" .null := D264 (Or.inr (o_w hw 17 rfl)) (ty := (.array .int)) (by decide)
  have F264_heapIndex : Fld Z h264 b264 o_n0 "heapIndex" "[I" .null := D264 (Or.inr (o_w hw 19 rfl)) (ty := (.array .int)) (by decide)
  have F264_heapSize : Fld Z h264 b264 o_n0 "heapSize" "I" (.int 0) := D264 (Or.inl (o_w hw 26 rfl)) (ty := .int) (by decide)
  replace G := o_nxs (q := 94) (st := [(.ref b264)]) G st264 rfl
  replace G := o_dup (q := 95) G X264.here hx (hb hby at_94) rfl rfl
  replace G := o_iconst (q := 96) G X264.here hx (hb hby at_95) (v := (3 : Int32)) (by decide) rfl
  replace G := o_aconst_null (q := 97) G X264.here hx (hb hby at_96) rfl
  obtain ⟨_, _, ⟨T265, L265, kk265, nn265⟩, -, X265, ⟨Lc265, hQ265, l265, y265, z265⟩, st265⟩ := X264.specialBack hx (y := (⟨o_n0, "<init>", "(ILcom/example/gridwright/gridwright/core/SplitMix64;)V"⟩ : MethodName)) rfl hown (mvT hZ (o_w hw 4 rfl)) (mvT hZ (o_w hw 5 rfl)) (mvT hZ (o_w hw 6 rfl)) (by decide) (backOf (W := 1) (rm1 l Z a0 hw [] b264 h264 n0 Z264 A264 F264_activity F264_heap F264_heapIndex F264_heapSize F264_bump ge_b264) hZ (o_w hw 6 rfl) (o_w hw 3 rfl) (by decide) (by decide)) (g := o_g G) rfl (by rw [hml]; rfl) (Steps.refl _) (a := b264) (argsL := [(.int 3), .null]) (rest := [(.ref b264)]) (lenOf pd_2 rfl) rfl (by show 2 * 0 + _ ≤ _; exact Nat.le_of_eq rfl) (hb hby at_97) (fun _ _ => ⟨rfl, e264, (by decide : 1 + 3 ≤ _), (by decide : 5 + 9 ≤ _)⟩)
  dsimp only [Pt.U, Pt.locs, Pt.cells, Pt.slots] at X265 l265 y265 z265 st265 hQ265
  subst l265 y265 z265
  obtain ⟨va_265, vh_265, vx_265, ka_265, kh_265, kx_265, rfl, N265q, K265q, B265_0, B265_1, B265_2, B265_3, B265_4, B265_5, B265_6, B265_7, B265_8, B265_9, B265_10, B265_11, B265_12, B265_13⟩ := hQ265
  have ne266 : b264 ≠ va_265 := Nat.ne_of_lt (Nat.lt_of_lt_of_le F264_heapSize.lt B265_5)
  have ge_va_265 : n0 ≤ va_265 := Nat.le_trans Z264 B265_5
  have ne267 : b264 ≠ vh_265 := Nat.ne_of_lt (Nat.lt_of_lt_of_le F264_heapSize.lt B265_6)
  have ge_vh_265 : n0 ≤ vh_265 := Nat.le_trans Z264 B265_6
  have ne268 : b264 ≠ vx_265 := Nat.ne_of_lt (Nat.lt_of_lt_of_le F264_heapSize.lt B265_7)
  have ge_vx_265 : n0 ≤ vx_265 := Nat.le_trans Z264 B265_7
  have Z265 : n0 ≤ T265.heap.size := Nat.le_trans Z264 K265q.1
  have N265 := Fr.app N0 N265q
  replace G := o_nxv (q := 100) (st := [(.ref b264)]) G st265 rfl
  replace G := o_astore (q := 102) (l' := #[.val (.int i0), .val (.int i1), .val (.int 1), .val (.int 0), .val (.int 1), .val (.int 2), .val (.int 2), .val (.int 1), .val (.int w1), .val (.int w2), .val (.ref b264), .unset, .unset, .unset, .unset, .unset]) G X265.here hx (hb hby at_100) rfl rfl rfl
  replace G := o_aload (q := 104) G X265.here hx (hb hby at_102) rfl rfl rfl
  replace G := o_iloadN (q := 105) G X265.here hx (hb hby at_104) rfl rfl
  have F270 := (A264.keep K265q)
  obtain ⟨T269, _, Lc269, X269, hQ269, G⟩ := o_vb (q := 108) (W := 0) (argsL := [(.int 0)]) (rest := []) (y := (⟨o_n0, "bump", "(I)V"⟩ : MethodName)) G X265 hx hZ hown (by rw [hml]; rfl) ⟨(o_w hw 35 rfl), (o_w hw 36 rfl), (o_w hw 38 rfl), (o_w hw 37 rfl), (o_w hw 39 rfl), (o_w hw 3 rfl)⟩ (by decide) rfl F270 (rm6f0 l Z a0 hw [] b264 (0 : Int32) va_265 vh_265 vx_265 ka_265 kh_265 kx_265 (0 : Int32) (1 : Int32) (2 : Int32) [(.double 0), (.double 0), (.double 0)] [(.int 0), (.int 1), (.int 2)] [(.int 0), (.int 1), (.int 2)] o_d0 [(.double o_d0), (.double 0), (.double 0)] (0 : UInt64) o_d0 T265.heap n0 Z265 F270 B265_0 B265_1 B265_2 B265_4 B265_11 B265_12 B265_13 ge_va_265 ge_vh_265 ge_vx_265 ne266 ne267 ne268 B265_8 B265_9 B265_10 ⟨by decide, by decide⟩ ⟨by decide, by decide⟩ rfl rfl rfl rfl (by decide +kernel) (o_nan (by decide +kernel)) (by decide +kernel) rfl rfl rfl) (lenOf pd_1 rfl) rfl (Nat.le_of_eq rfl) (hb hby at_105) rfl (by decide) (by decide) (by decide) (by decide)
  obtain ⟨rfl, N269q, K269q, B269_0, B269_1, B269_2⟩ := hQ269
  have Z269 : n0 ≤ T269.heap.size := Nat.le_trans Z265 K269q.1
  have N269 := Fr.app N265 N269q
  replace G := o_re (st := []) G rfl
  rcases o_01 hn_w1 with rfl | rfl
  replace G := o_iload (q := 110) G X269.here hx (hb hby at_108) rfl rfl
  replace G := o_ifYes (q := 118) G X269.here hx (hb hby at_110) (by decide) (by decide) (by decide)
  replace G := o_aload (q := 120) G X269.here hx (hb hby at_118) rfl rfl rfl
  replace G := o_iload (q := 122) G X269.here hx (hb hby at_120) rfl rfl
  have F273 := (F270.keep K269q)
  have F274 := (B265_0.keep K269q (ninS ne266 (ninS ne267 (ninS ne268 nin0))))
  have F275 := (B265_1.keep K269q (ninS ne266 (ninS ne267 (ninS ne268 nin0))))
  have F276 := (B265_2.keep K269q (ninS ne266 (ninS ne267 (ninS ne268 nin0))))
  have F277 := (B265_4.keep K269q (ninS ne266 (ninS ne267 (ninS ne268 nin0))))
  obtain ⟨T272, _, Lc272, X272, hQ272, G⟩ := o_vb (q := 125) (W := 0) (argsL := [(.int 2)]) (rest := []) (y := (⟨o_n0, "bump", "(I)V"⟩ : MethodName)) G X269 hx hZ hown (by rw [hml]; rfl) ⟨(o_w hw 35 rfl), (o_w hw 36 rfl), (o_w hw 38 rfl), (o_w hw 37 rfl), (o_w hw 39 rfl), (o_w hw 3 rfl)⟩ (by decide) rfl F273 (rm6f2f l Z a0 hw [] b264 (2 : Int32) va_265 vh_265 vx_265 ka_265 kh_265 kx_265 (0 : Int32) (1 : Int32) (2 : Int32) [(.double o_d0), (.double 0), (.double 0)] [(.int 0), (.int 1), (.int 2)] [(.int 0), (.int 1), (.int 2)] o_d0 [(.double o_d0), (.double 0), (.double o_d0)] (0 : UInt64) o_d0 o_d0 o_d0 T269.heap n0 Z269 F273 F274 F275 F276 F277 B269_0 B269_1 B269_2 ge_va_265 ge_vh_265 ge_vx_265 ne266 ne267 ne268 B265_8 B265_9 B265_10 ⟨by decide, by decide⟩ ⟨by decide, by decide⟩ ⟨by decide, by decide⟩ rfl rfl rfl rfl (by decide +kernel) (o_nan (by decide +kernel)) (by decide +kernel) rfl rfl rfl rfl (by decide +kernel) rfl) (lenOf pd_1 rfl) rfl (Nat.le_of_eq rfl) (hb hby at_122) rfl (by decide) (by decide) (by decide) (by decide)
  obtain ⟨rfl, N272q, K272q, B272_0, B272_1, B272_2⟩ := hQ272
  have Z272 : n0 ≤ T272.heap.size := Nat.le_trans Z269 K272q.1
  have N272 := Fr.app N269 N272q
  replace G := o_re (st := []) G rfl
  rcases o_01 hn_w2 with rfl | rfl
  replace G := o_iload (q := 127) G X272.here hx (hb hby at_125) rfl rfl
  replace G := o_ifYes (q := 135) G X272.here hx (hb hby at_127) (by decide) (by decide) (by decide)
  replace G := o_aload (q := 137) G X272.here hx (hb hby at_135) rfl rfl rfl
  replace G := o_iload (q := 139) G X272.here hx (hb hby at_137) rfl rfl
  have F280 := (F273.keep K272q)
  have F281 := (F274.keep K272q (ninS ne266 (ninS ne267 (ninS ne268 nin0))))
  have F282 := (F275.keep K272q (ninS ne266 (ninS ne267 (ninS ne268 nin0))))
  have F283 := (F276.keep K272q (ninS ne266 (ninS ne267 (ninS ne268 nin0))))
  have F284 := (F277.keep K272q (ninS ne266 (ninS ne267 (ninS ne268 nin0))))
  obtain ⟨T279, _, Lc279, X279, hQ279, G⟩ := o_vb (q := 142) (W := 0) (argsL := [(.int 1)]) (rest := []) (y := (⟨o_n0, "bump", "(I)V"⟩ : MethodName)) G X272 hx hZ hown (by rw [hml]; rfl) ⟨(o_w hw 35 rfl), (o_w hw 36 rfl), (o_w hw 38 rfl), (o_w hw 37 rfl), (o_w hw 39 rfl), (o_w hw 3 rfl)⟩ (by decide) rfl F280 (rm6f1f l Z a0 hw [] b264 (1 : Int32) va_265 vh_265 vx_265 ka_265 kh_265 kx_265 (0 : Int32) (1 : Int32) (2 : Int32) [(.double o_d0), (.double 0), (.double o_d0)] [(.int 0), (.int 1), (.int 2)] [(.int 0), (.int 1), (.int 2)] o_d0 [(.double o_d0), (.double o_d0), (.double o_d0)] (0 : UInt64) o_d0 o_d0 o_d0 T272.heap n0 Z272 F280 F281 F282 F283 F284 B272_0 B272_1 B272_2 ge_va_265 ge_vh_265 ge_vx_265 ne266 ne267 ne268 B265_8 B265_9 B265_10 ⟨by decide, by decide⟩ ⟨by decide, by decide⟩ ⟨by decide, by decide⟩ rfl rfl rfl rfl (by decide +kernel) (o_nan (by decide +kernel)) (by decide +kernel) rfl rfl rfl rfl (by decide +kernel) rfl) (lenOf pd_1 rfl) rfl (Nat.le_of_eq rfl) (hb hby at_139) rfl (by decide) (by decide) (by decide) (by decide)
  obtain ⟨rfl, N279q, K279q, B279_0, B279_1, B279_2⟩ := hQ279
  have Z279 : n0 ≤ T279.heap.size := Nat.le_trans Z272 K279q.1
  have N279 := Fr.app N272 N279q
  replace G := o_re (st := []) G rfl
  replace G := o_iconst (q := 143) G X279.here hx (hb hby at_142) (v := (3 : Int32)) (by decide) rfl
  obtain ⟨T285, h285, k285, X285, e285, E285, A285, st285⟩ := newP X279 hx hZ (o_w hw 15 rfl) rfl (g := o_g G) rfl (hb hby at_143) rfl (by decide) (cap := 3) (by decide) (by decide) (by decide) (by decide)
  obtain ⟨b285, g285⟩ : ∃ z, z = T279.heap.size := ⟨_, rfl⟩
  rw [← g285] at A285 st285
  have ne286 : vx_265 ≠ b285 := Nat.ne_of_lt (Nat.lt_of_lt_of_le B279_2.lt (Nat.le_of_eq g285.symm))
  have ne287 : vh_265 ≠ b285 := Nat.ne_of_lt (Nat.lt_of_lt_of_le B279_1.lt (Nat.le_of_eq g285.symm))
  have ne288 : va_265 ≠ b285 := Nat.ne_of_lt (Nat.lt_of_lt_of_le B279_0.lt (Nat.le_of_eq g285.symm))
  have F289 := (F284.keep K279q (ninS ne266 (ninS ne267 (ninS ne268 nin0))))
  have ne290 : b264 ≠ b285 := Nat.ne_of_lt (Nat.lt_of_lt_of_le F289.lt (Nat.le_of_eq g285.symm))
  have ge_b285 : n0 ≤ b285 := Nat.le_trans Z279 (Nat.le_of_eq g285.symm)
  have Z285 : n0 ≤ h285.size := Nat.le_trans Z279 E285.1
  have V285 : Arv Z h285 b285 k285 .int 3 [(.int 0), (.int 0), (.int 0)] (.int 0) := (Arv.new A285 (by decide)).pad (pad_rep [] (.int 0) 3)
  replace G := o_nxs (q := 145) (st := [(.ref b285)]) G st285 rfl
  replace G := o_astore (q := 147) (l' := #[.val (.int i0), .val (.int i1), .val (.int 1), .val (.int 0), .val (.int 1), .val (.int 2), .val (.int 2), .val (.int 1), .val (.int 0), .val (.int 0), .val (.ref b264), .val (.ref b285), .unset, .unset, .unset, .unset]) G X285.here hx (hb hby at_145) rfl rfl rfl
  replace G := o_aload (q := 149) G X285.here hx (hb hby at_147) rfl rfl rfl
  replace G := o_iloadN (q := 150) G X285.here hx (hb hby at_149) rfl rfl
  replace G := o_iconst (q := 151) G X285.here hx (hb hby at_150) (v := (0 : Int32)) (by decide) rfl
  obtain ⟨c291, Ar291, q291, S291, N291', H291, G291'⟩ := id V285
  have hin291 : ¬ ((0 : Int32) < 0 ∨ c291.slots.size ≤ ((0 : Int32)).toNatClampNeg) := inb_of S291 ⟨by decide, by decide⟩
  obtain ⟨T291, h291, X291, e291, W291, st291⟩ := stI X285 hx hZ e285 Ar291 (j := (0 : Int32)) hin291 (g := o_g G) rfl rfl (hb hby at_151)
  have N291 := Fr.snoc X291 N279 ge_b285
  have Z291 : n0 ≤ h291.size := Nat.le_trans Z285 (Keep.of_wr W291).1
  have V291 : Arv Z h291 b285 k285 .int 3 [(.int 0), (.int 0), (.int 0)] (.int 0) := Arv.set Ar291 q291 S291 N291' H291 G291' rfl W291 0 rfl (Nat.le_of_ble_eq_true rfl)
  replace G := o_nxs (q := 152) (st := []) G st291 rfl
  replace G := o_aload (q := 154) G X291.here hx (hb hby at_152) rfl rfl rfl
  replace G := o_iload (q := 156) G X291.here hx (hb hby at_154) rfl rfl
  replace G := o_iload (q := 158) G X291.here hx (hb hby at_156) rfl rfl
  replace G := o_ifYes (q := 165) G X291.here hx (hb hby at_158) (by decide) (by decide) (by decide)
  replace G := o_iconst (q := 166) G X291.here hx (hb hby at_165) (v := (0 : Int32)) (by decide) rfl
  obtain ⟨c293, Ar293, q293, S293, N293', H293, G293'⟩ := id V291
  have hin293 : ¬ ((2 : Int32) < 0 ∨ c293.slots.size ≤ ((2 : Int32)).toNatClampNeg) := inb_of S293 ⟨by decide, by decide⟩
  obtain ⟨T293, h293, X293, e293, W293, st293⟩ := stI X291 hx hZ e291 Ar293 (j := (2 : Int32)) hin293 (g := o_g G) rfl rfl (hb hby at_166)
  have N293 := Fr.snoc X293 N291 ge_b285
  have Z293 : n0 ≤ h293.size := Nat.le_trans Z291 (Keep.of_wr W293).1
  have V293 : Arv Z h293 b285 k285 .int 3 [(.int 0), (.int 0), (.int 0)] (.int 0) := Arv.set Ar293 q293 S293 N293' H293 G293' rfl W293 2 rfl (Nat.le_of_ble_eq_true rfl)
  replace G := o_nxs (q := 167) (st := []) G st293 rfl
  replace G := o_aload (q := 169) G X293.here hx (hb hby at_167) rfl rfl rfl
  replace G := o_iload (q := 171) G X293.here hx (hb hby at_169) rfl rfl
  replace G := o_aload (q := 173) G X293.here hx (hb hby at_171) rfl rfl rfl
  replace G := o_iload (q := 175) G X293.here hx (hb hby at_173) rfl rfl
  obtain ⟨c294, Ar294, -, S294, -, H294, -⟩ := id V293
  have hin294 : ¬ ((2 : Int32) < 0 ∨ c294.slots.size ≤ ((2 : Int32)).toNatClampNeg) := inb_of S294 ⟨by decide, by decide⟩
  replace G := o_nxs (q := 176) (st := [(.int 0), (.int 1), (.ref b285)]) G (X293.iaload hx (j := (2 : Int32)) (v := (.int 0)) (by rw [e293]; exact Ar294.1) (State.isArrayOf_alike hZ.alike Ar294.2.1) Ar294.2.2 hin294 (Has.at H294 hin294 rfl) (g := o_g G) rfl rfl (hb hby at_175)) rfl
  replace G := o_iload (q := 178) G X293.here hx (hb hby at_176) rfl rfl
  replace G := o_ifYes (q := 185) G X293.here hx (hb hby at_178) (by decide) (by decide) (by decide)
  replace G := o_iconst (q := 186) G X293.here hx (hb hby at_185) (v := (0 : Int32)) (by decide) rfl
  replace G := o_iadd (q := 187) G X293.here hx (hb hby at_186) (by decide : ((0 : Int32) + (0 : Int32)) = (0 : Int32)) rfl
  obtain ⟨c296, Ar296, q296, S296, N296', H296, G296'⟩ := id V293
  have hin296 : ¬ ((1 : Int32) < 0 ∨ c296.slots.size ≤ ((1 : Int32)).toNatClampNeg) := inb_of S296 ⟨by decide, by decide⟩
  obtain ⟨T296, h296, X296, e296, W296, st296⟩ := stI X293 hx hZ e293 Ar296 (j := (1 : Int32)) hin296 (g := o_g G) rfl rfl (hb hby at_187)
  have N296 := Fr.snoc X296 N293 ge_b285
  have Z296 : n0 ≤ h296.size := Nat.le_trans Z293 (Keep.of_wr W296).1
  have V296 : Arv Z h296 b285 k285 .int 3 [(.int 0), (.int 0), (.int 0)] (.int 0) := Arv.set Ar296 q296 S296 N296' H296 G296' rfl W296 1 rfl (Nat.le_of_ble_eq_true rfl)
  replace G := o_nxs (q := 188) (st := []) G st296 rfl
  replace G := o_aload (q := 190) G X296.here hx (hb hby at_188) rfl rfl rfl
  have F298 := (((((F280.keep K279q).ext E285).wr W291).wr W293).wr W296)
  have F299 := (((((F281.keep K279q (ninS ne266 (ninS ne267 (ninS ne268 nin0)))).ext E285).other W291 (Or.inl ne290)).other W293 (Or.inl ne290)).other W296 (Or.inl ne290))
  have F300 := (((((F282.keep K279q (ninS ne266 (ninS ne267 (ninS ne268 nin0)))).ext E285).other W291 (Or.inl ne290)).other W293 (Or.inl ne290)).other W296 (Or.inl ne290))
  have F301 := (((((F283.keep K279q (ninS ne266 (ninS ne267 (ninS ne268 nin0)))).ext E285).other W291 (Or.inl ne290)).other W293 (Or.inl ne290)).other W296 (Or.inl ne290))
  have F302 := (((((((B265_3.keep K269q (ninS ne266 (ninS ne267 (ninS ne268 nin0)))).keep K272q (ninS ne266 (ninS ne267 (ninS ne268 nin0)))).keep K279q (ninS ne266 (ninS ne267 (ninS ne268 nin0)))).ext E285).other W291 (Or.inl ne290)).other W293 (Or.inl ne290)).other W296 (Or.inl ne290))
  have F303 := ((((F289.ext E285).other W291 (Or.inl ne290)).other W293 (Or.inl ne290)).other W296 (Or.inl ne290))
  have F304 := ((((B279_0.ext E285).other W291 ne288).other W293 ne288).other W296 ne288)
  have F305 := ((((B279_1.ext E285).other W291 ne287).other W293 ne287).other W296 ne287)
  have F306 := ((((B279_2.ext E285).other W291 ne286).other W293 ne286).other W296 ne286)
  obtain ⟨T297, _, Lc297, X297, hQ297, G⟩ := o_vb (q := 193) (W := 0) (argsL := []) (rest := []) (y := (⟨o_n0, "takeFirst", "()I"⟩ : MethodName)) G X296 hx hZ hown (by rw [hml]; rfl) ⟨(o_w hw 47 rfl), (o_w hw 48 rfl), (o_w hw 50 rfl), (o_w hw 49 rfl), (o_w hw 51 rfl), (o_w hw 3 rfl)⟩ (by decide) e296 F298 (rm8n3t l Z a0 hw [] b264 va_265 vh_265 vx_265 ka_265 kh_265 kx_265 (0 : Int32) (1 : Int32) (2 : Int32) [(.double o_d0), (.double o_d0), (.double o_d0)] [(.int 0), (.int 1), (.int 2)] [(.int (-1)), (.int 0), (.int 1)] o_d0 o_d0 o_d0 h296 n0 Z296 F298 F299 F300 F301 F302 F303 F304 F305 F306 ge_b264 ge_vh_265 ge_vx_265 ne266 ne267 ne268 B265_8 B265_9 B265_10 ⟨by decide, by decide⟩ ⟨by decide, by decide⟩ ⟨by decide, by decide⟩ rfl rfl rfl (by decide +kernel) rfl) (lenOf pd_3 rfl) rfl (Nat.le_of_eq rfl) (hb hby at_190) rfl (by decide) (by decide) (by decide) (by decide)
  obtain ⟨rfl, N297q, K297q, B297_0, B297_1, B297_2, B297_3, B297_4, B297_5, B297_6⟩ := hQ297
  have Z297 : n0 ≤ T297.heap.size := Nat.le_trans Z296 K297q.1
  have N297 := Fr.app N296 N297q
  replace G := o_re (st := [(.int 0)]) G rfl
  replace G := o_istore (q := 195) (l' := #[.val (.int i0), .val (.int i1), .val (.int 1), .val (.int 0), .val (.int 1), .val (.int 2), .val (.int 2), .val (.int 1), .val (.int 0), .val (.int 0), .val (.ref b264), .val (.ref b285), .val (.int 0), .unset, .unset, .unset]) G X297.here hx (hb hby at_193) rfl rfl
  replace G := o_aload (q := 197) G X297.here hx (hb hby at_195) rfl rfl rfl
  have F308 := (F298.keep K297q)
  have F309 := (F304.keep K297q (ninS (Ne.symm ne266) (ninS B265_8 (ninS B265_9 nin0))))
  obtain ⟨T307, _, Lc307, X307, hQ307, G⟩ := o_vb (q := 200) (W := 0) (argsL := []) (rest := []) (y := (⟨o_n0, "takeFirst", "()I"⟩ : MethodName)) G X297 hx hZ hown (by rw [hml]; rfl) ⟨(o_w hw 47 rfl), (o_w hw 48 rfl), (o_w hw 50 rfl), (o_w hw 49 rfl), (o_w hw 51 rfl), (o_w hw 3 rfl)⟩ (by decide) rfl F308 (rm8n2 l Z a0 hw [] b264 va_265 vh_265 vx_265 ka_265 kh_265 kx_265 (1 : Int32) (2 : Int32) (2 : Int32) [(.double o_d0), (.double o_d0), (.double o_d0)] [(.int (-1)), (.int 0), (.int 1)] [(.int (-1)), (.int (-1)), (.int 0)] o_d0 T297.heap n0 Z297 F308 B297_0 B297_1 B297_2 B297_3 B297_4 F309 B297_5 B297_6 ge_b264 ge_vh_265 ge_vx_265 ne266 ne267 ne268 B265_8 B265_9 B265_10 ⟨by decide, by decide⟩ ⟨by decide, by decide⟩ rfl rfl) (lenOf pd_3 rfl) rfl (Nat.le_of_eq rfl) (hb hby at_197) rfl (by decide) (by decide) (by decide) (by decide)
  obtain ⟨rfl, N307q, K307q, B307_0, B307_1, B307_2, B307_3, B307_4, B307_5, B307_6⟩ := hQ307
  have Z307 : n0 ≤ T307.heap.size := Nat.le_trans Z297 K307q.1
  have N307 := Fr.app N297 N307q
  replace G := o_re (st := [(.int 1)]) G rfl
  replace G := o_istore (q := 202) (l' := #[.val (.int i0), .val (.int i1), .val (.int 1), .val (.int 0), .val (.int 1), .val (.int 2), .val (.int 2), .val (.int 1), .val (.int 0), .val (.int 0), .val (.ref b264), .val (.ref b285), .val (.int 0), .val (.int 1), .unset, .unset]) G X307.here hx (hb hby at_200) rfl rfl
  replace G := o_aload (q := 204) G X307.here hx (hb hby at_202) rfl rfl rfl
  have F311 := (F308.keep K307q)
  have F312 := (F309.keep K307q (ninS (Ne.symm ne266) (ninS B265_8 (ninS B265_9 nin0))))
  obtain ⟨T310, _, Lc310, X310, hQ310, G⟩ := o_vb (q := 207) (W := 0) (argsL := []) (rest := []) (y := (⟨o_n0, "takeFirst", "()I"⟩ : MethodName)) G X307 hx hZ hown (by rw [hml]; rfl) ⟨(o_w hw 47 rfl), (o_w hw 48 rfl), (o_w hw 50 rfl), (o_w hw 49 rfl), (o_w hw 51 rfl), (o_w hw 3 rfl)⟩ (by decide) rfl F311 (rm8n1 l Z a0 hw [] b264 va_265 vh_265 vx_265 ka_265 kh_265 kx_265 (2 : Int32) (2 : Int32) (2 : Int32) [(.double o_d0), (.double o_d0), (.double o_d0)] [(.int (-1)), (.int (-1)), (.int 0)] [(.int (-1)), (.int (-1)), (.int (-1))] o_d0 T307.heap n0 Z307 F311 B307_0 B307_1 B307_2 B307_3 B307_4 F312 B307_5 B307_6 ge_b264 ge_vh_265 ge_vx_265 ne266 ne267 ne268 B265_8 B265_9 B265_10 ⟨by decide, by decide⟩ rfl rfl) (lenOf pd_3 rfl) rfl (Nat.le_of_eq rfl) (hb hby at_204) rfl (by decide) (by decide) (by decide) (by decide)
  obtain ⟨rfl, N310q, K310q, B310_0, B310_1, B310_2, B310_3, B310_4, B310_5, B310_6⟩ := hQ310
  have Z310 : n0 ≤ T310.heap.size := Nat.le_trans Z307 K310q.1
  have N310 := Fr.app N307 N310q
  replace G := o_re (st := [(.int 2)]) G rfl
  replace G := o_istore (q := 209) (l' := #[.val (.int i0), .val (.int i1), .val (.int 1), .val (.int 0), .val (.int 1), .val (.int 2), .val (.int 2), .val (.int 1), .val (.int 0), .val (.int 0), .val (.ref b264), .val (.ref b285), .val (.int 0), .val (.int 1), .val (.int 2), .unset]) G X310.here hx (hb hby at_207) rfl rfl
  replace G := o_iload (q := 211) G X310.here hx (hb hby at_209) rfl rfl
  replace G := o_ifNo (q := 214) G X310.here hx (hb hby at_211) (by decide) rfl
  replace G := o_iload (q := 216) G X310.here hx (hb hby at_214) rfl rfl
  replace G := o_iconst (q := 217) G X310.here hx (hb hby at_216) (v := (3 : Int32)) (by decide) rfl
  replace G := o_icmpNo (q := 220) G X310.here hx (hb hby at_217) (by decide) rfl
  replace G := o_iload (q := 222) G X310.here hx (hb hby at_220) rfl rfl
  replace G := o_ifNo (q := 225) G X310.here hx (hb hby at_222) (by decide) rfl
  replace G := o_iload (q := 227) G X310.here hx (hb hby at_225) rfl rfl
  replace G := o_iconst (q := 228) G X310.here hx (hb hby at_227) (v := (3 : Int32)) (by decide) rfl
  replace G := o_icmpNo (q := 231) G X310.here hx (hb hby at_228) (by decide) rfl
  replace G := o_iload (q := 233) G X310.here hx (hb hby at_231) rfl rfl
  replace G := o_ifNo (q := 236) G X310.here hx (hb hby at_233) (by decide) rfl
  replace G := o_iload (q := 238) G X310.here hx (hb hby at_236) rfl rfl
  replace G := o_iconst (q := 239) G X310.here hx (hb hby at_238) (v := (3 : Int32)) (by decide) rfl
  replace G := o_icmpNo (q := 242) G X310.here hx (hb hby at_239) (by decide) rfl
  replace G := o_iload (q := 244) G X310.here hx (hb hby at_242) rfl rfl
  replace G := o_iload (q := 246) G X310.here hx (hb hby at_244) rfl rfl
  replace G := o_icmpNo (q := 249) G X310.here hx (hb hby at_246) (by decide) rfl
  replace G := o_iload (q := 251) G X310.here hx (hb hby at_249) rfl rfl
  replace G := o_iload (q := 253) G X310.here hx (hb hby at_251) rfl rfl
  replace G := o_icmpNo (q := 256) G X310.here hx (hb hby at_253) (by decide) rfl
  replace G := o_iload (q := 258) G X310.here hx (hb hby at_256) rfl rfl
  replace G := o_iload (q := 260) G X310.here hx (hb hby at_258) rfl rfl
  replace G := o_icmpNo (q := 263) G X310.here hx (hb hby at_260) (by decide) rfl
  replace G := o_iconst (q := 264) G X310.here hx (hb hby at_263) (v := (1 : Int32)) (by decide) rfl
  replace G := o_goto (q := 268) G X310.here hx (hb hby at_264) (by decide) (by decide)
  replace G := o_istore (q := 270) (l' := #[.val (.int i0), .val (.int i1), .val (.int 1), .val (.int 0), .val (.int 1), .val (.int 2), .val (.int 2), .val (.int 1), .val (.int 0), .val (.int 0), .val (.ref b264), .val (.ref b285), .val (.int 0), .val (.int 1), .val (.int 2), .val (.int 1)]) G X310.here hx (hb hby at_268) rfl rfl
  replace G := o_iload (q := 272) G X310.here hx (hb hby at_270) rfl rfl
  replace G := o_ifNo (q := 275) G X310.here hx (hb hby at_272) (by decide) rfl
  replace G := o_aload (q := 277) G X310.here hx (hb hby at_275) rfl rfl rfl
  replace G := o_iload (q := 279) G X310.here hx (hb hby at_277) rfl rfl
  replace G := o_iload (q := 281) G X310.here hx (hb hby at_279) rfl rfl
  have F324 := (((V296.keep K297q (ninS (Ne.symm ne290) (ninS (Ne.symm ne287) (ninS (Ne.symm ne286) nin0)))).keep K307q (ninS (Ne.symm ne290) (ninS (Ne.symm ne287) (ninS (Ne.symm ne286) nin0)))).keep K310q (ninS (Ne.symm ne290) (ninS (Ne.symm ne287) (ninS (Ne.symm ne286) nin0))))
  obtain ⟨_, _, ⟨T323, L323, kk323, nn323⟩, -, X323, ⟨Lc323, hQ323, l323, y323, z323⟩, st323⟩ := Jvm.LawKit.callS X310 hx (y := (⟨o_n1, "before", "([III)Z"⟩ : MethodName)) hown (mvT hZ (o_w hw 56 rfl)) (mvT hZ (o_w hw 57 rfl)) (mvT hZ (o_w hw 58 rfl)) (mvT hZ (o_w hw 59 rfl)) (by decide) (backOf (W := 0) (rm10 l Z a0 hw [] b285 (0 : Int32) (1 : Int32) k285 [(.int 0), (.int 0), (.int 0)] (0 : Int32) (0 : Int32) T310.heap n0 Z310 F324 ⟨by decide, by decide⟩ ⟨by decide, by decide⟩ rfl rfl) hZ (o_w hw 59 rfl) (o_w hw 58 rfl) (by decide) (by decide)) (g := o_g G) rfl (by rw [hml]; rfl) (argsL := [(.ref b285), (.int 0), (.int 1)]) (rest := []) (lenOf pd_4 rfl) rfl (by show 2 * 0 + _ ≤ _; exact Nat.le_of_eq rfl) (hb hby at_281) (fun _ _ => ⟨rfl, rfl, (by decide : 5 + 0 ≤ _), (by decide : 17 + 0 ≤ _)⟩)
  dsimp only [Pt.U, Pt.locs, Pt.cells, Pt.slots] at X323 l323 y323 z323 st323 hQ323
  subst l323 y323 z323
  obtain ⟨rfl, N323q, e323⟩ := hQ323
  have N323 := Fr.app N310 N323q
  replace G := o_nxs (q := 284) (st := [(.int (o_lb (0 : Int32) (0 : Int32) (0 : Int32) (1 : Int32)))]) G st323 rfl
  replace G := o_ifNo (q := 287) G X323.here hx (hb hby at_284) (by decide) rfl
  replace G := o_aload (q := 289) G X323.here hx (hb hby at_287) rfl rfl rfl
  replace G := o_iload (q := 291) G X323.here hx (hb hby at_289) rfl rfl
  replace G := o_iload (q := 293) G X323.here hx (hb hby at_291) rfl rfl
  obtain ⟨_, _, ⟨T326, L326, kk326, nn326⟩, -, X326, ⟨Lc326, hQ326, l326, y326, z326⟩, st326⟩ := Jvm.LawKit.callS X323 hx (y := (⟨o_n1, "before", "([III)Z"⟩ : MethodName)) hown (mvT hZ (o_w hw 56 rfl)) (mvT hZ (o_w hw 57 rfl)) (mvT hZ (o_w hw 58 rfl)) (mvT hZ (o_w hw 59 rfl)) (by decide) (backOf (W := 0) (rm10 l Z a0 hw [] b285 (1 : Int32) (2 : Int32) k285 [(.int 0), (.int 0), (.int 0)] (0 : Int32) (0 : Int32) T310.heap n0 Z310 F324 ⟨by decide, by decide⟩ ⟨by decide, by decide⟩ rfl rfl) hZ (o_w hw 59 rfl) (o_w hw 58 rfl) (by decide) (by decide)) (g := o_g G) rfl (by rw [hml]; rfl) (argsL := [(.ref b285), (.int 1), (.int 2)]) (rest := []) (lenOf pd_4 rfl) rfl (by show 2 * 0 + _ ≤ _; exact Nat.le_of_eq rfl) (hb hby at_293) (fun _ _ => ⟨rfl, e323, (by decide : 5 + 0 ≤ _), (by decide : 17 + 0 ≤ _)⟩)
  dsimp only [Pt.U, Pt.locs, Pt.cells, Pt.slots] at X326 l326 y326 z326 st326 hQ326
  subst l326 y326 z326
  obtain ⟨rfl, N326q, e326⟩ := hQ326
  have N326 := Fr.app N323 N326q
  replace G := o_nxs (q := 296) (st := [(.int (o_lb (0 : Int32) (0 : Int32) (1 : Int32) (2 : Int32)))]) G st326 rfl
  replace G := o_ifNo (q := 299) G X326.here hx (hb hby at_296) (by decide) rfl
  replace G := o_aload (q := 301) G X326.here hx (hb hby at_299) rfl rfl rfl
  have F329 := (F311.keep K310q)
  obtain ⟨T328, _, Lc328, X328, hQ328, G⟩ := o_vb (q := 304) (W := 0) (argsL := []) (rest := []) (y := (⟨o_n0, "isEmpty", "()Z"⟩ : MethodName)) G X326 hx hZ hown (by rw [hml]; rfl) ⟨(o_w hw 60 rfl), (o_w hw 61 rfl), (o_w hw 63 rfl), (o_w hw 62 rfl), (o_w hw 64 rfl), (o_w hw 3 rfl)⟩ (by decide) e326 F329 (rm11 l Z a0 hw [] b264 T310.heap n0 Z310 B310_3) (lenOf pd_5 rfl) rfl (Nat.le_of_eq rfl) (hb hby at_301) rfl (by decide) (by decide) (by decide) (by decide)
  obtain ⟨rfl, N328q, e328⟩ := hQ328
  have N328 := Fr.app N326 N328q
  replace G := o_re (st := [(.int 1)]) G rfl
  replace G := o_ifNo (q := 307) G X328.here hx (hb hby at_304) (by decide) rfl
  replace G := o_iconst (q := 308) G X328.here hx (hb hby at_307) (v := (1 : Int32)) (by decide) rfl
  replace G := o_goto (q := 312) G X328.here hx (hb hby at_308) (by decide) (by decide)
  obtain ⟨fs, hr, hrun, hended, hW, hsame⟩ := X328.leave (v := some (.int 1)) (fun h => by rw [Bd.returns] at h; cases h)
  refine ⟨_, _, G _ (retOut X328 hx Bd.returns rfl (Or.inl ⟨rfl, Or.inr (Or.inl rfl), _, rfl⟩) (hb hby at_312) hr), hrun, hended, _, _, rfl, ?_, ⟨_, rfl⟩, hW, hsame.mono (by decide) (by decide)⟩
  show Q0 Z i0 i1 h0 n0 _ T328.heap _
  rw [e328]
  exact ⟨rfl, N328⟩
  replace G := o_iload (q := 127) G X272.here hx (hb hby at_125) rfl rfl
  replace G := o_ifNo (q := 130) G X272.here hx (hb hby at_127) (by decide) rfl
  replace G := o_aload (q := 132) G X272.here hx (hb hby at_130) rfl rfl rfl
  have F333 := (F273.keep K272q)
  have F334 := (F274.keep K272q (ninS ne266 (ninS ne267 (ninS ne268 nin0))))
  have F335 := (F275.keep K272q (ninS ne266 (ninS ne267 (ninS ne268 nin0))))
  have F336 := (F276.keep K272q (ninS ne266 (ninS ne267 (ninS ne268 nin0))))
  have F337 := ((B265_3.keep K269q (ninS ne266 (ninS ne267 (ninS ne268 nin0)))).keep K272q (ninS ne266 (ninS ne267 (ninS ne268 nin0))))
  have F338 := (F277.keep K272q (ninS ne266 (ninS ne267 (ninS ne268 nin0))))
  obtain ⟨T332, _, Lc332, X332, hQ332, G⟩ := o_vb (q := 135) (W := 0) (argsL := []) (rest := []) (y := (⟨o_n0, "decay", "()V"⟩ : MethodName)) G X272 hx hZ hown (by rw [hml]; rfl) ⟨(o_w hw 41 rfl), (o_w hw 42 rfl), (o_w hw 44 rfl), (o_w hw 43 rfl), (o_w hw 45 rfl), (o_w hw 3 rfl)⟩ (by decide) rfl F333 (rm7 l Z a0 hw [] b264 va_265 vh_265 vx_265 o_d0 o_d1 (3 : Int32) T272.heap n0 Z272 F333 F334 F335 F336 F337 F338 ge_b264 (by decide +kernel) (o_nan (by decide +kernel))) (lenOf pd_6 rfl) rfl (Nat.le_of_eq rfl) (hb hby at_132) rfl (by decide) (by decide) (by decide) (by decide)
  obtain ⟨rfl, N332q, K332q, B332_0, B332_1, B332_2, B332_3, B332_4⟩ := hQ332
  have Z332 : n0 ≤ T332.heap.size := Nat.le_trans Z272 K332q.1
  have N332 := Fr.app N272 N332q
  replace G := o_re (st := []) G rfl
  replace G := o_aload (q := 137) G X332.here hx (hb hby at_135) rfl rfl rfl
  replace G := o_iload (q := 139) G X332.here hx (hb hby at_137) rfl rfl
  have F340 := (F333.keep K332q)
  have F341 := (B272_0.keep K332q (ninS (Ne.symm ne266) nin0))
  have F342 := (B272_1.keep K332q (ninS (Ne.symm ne267) nin0))
  have F343 := (B272_2.keep K332q (ninS (Ne.symm ne268) nin0))
  obtain ⟨T339, _, Lc339, X339, hQ339, G⟩ := o_vb (q := 142) (W := 0) (argsL := [(.int 1)]) (rest := []) (y := (⟨o_n0, "bump", "(I)V"⟩ : MethodName)) G X332 hx hZ hown (by rw [hml]; rfl) ⟨(o_w hw 35 rfl), (o_w hw 36 rfl), (o_w hw 38 rfl), (o_w hw 37 rfl), (o_w hw 39 rfl), (o_w hw 3 rfl)⟩ (by decide) rfl F340 (rm6f1t l Z a0 hw [] b264 (1 : Int32) va_265 vh_265 vx_265 ka_265 kh_265 kx_265 (0 : Int32) (1 : Int32) (2 : Int32) [(.double o_d0), (.double 0), (.double o_d0)] [(.int 0), (.int 1), (.int 2)] [(.int 1), (.int 0), (.int 2)] o_d1 [(.double o_d0), (.double o_d1), (.double o_d0)] (0 : UInt64) o_d1 o_d0 o_d1 T332.heap n0 Z332 F340 B332_0 B332_1 B332_2 B332_4 F341 F342 F343 ge_va_265 ge_vh_265 ge_vx_265 ne266 ne267 ne268 B265_8 B265_9 B265_10 ⟨by decide, by decide⟩ ⟨by decide, by decide⟩ ⟨by decide, by decide⟩ rfl rfl rfl rfl (by decide +kernel) (o_nan (by decide +kernel)) (by decide +kernel) rfl rfl rfl rfl (by decide +kernel) rfl) (lenOf pd_1 rfl) rfl (Nat.le_of_eq rfl) (hb hby at_139) rfl (by decide) (by decide) (by decide) (by decide)
  obtain ⟨rfl, N339q, K339q, B339_0, B339_1, B339_2⟩ := hQ339
  have Z339 : n0 ≤ T339.heap.size := Nat.le_trans Z332 K339q.1
  have N339 := Fr.app N332 N339q
  replace G := o_re (st := []) G rfl
  replace G := o_iconst (q := 143) G X339.here hx (hb hby at_142) (v := (3 : Int32)) (by decide) rfl
  obtain ⟨T344, h344, k344, X344, e344, E344, A344, st344⟩ := newP X339 hx hZ (o_w hw 15 rfl) rfl (g := o_g G) rfl (hb hby at_143) rfl (by decide) (cap := 3) (by decide) (by decide) (by decide) (by decide)
  obtain ⟨b344, g344⟩ : ∃ z, z = T339.heap.size := ⟨_, rfl⟩
  rw [← g344] at A344 st344
  have ne345 : vx_265 ≠ b344 := Nat.ne_of_lt (Nat.lt_of_lt_of_le B339_2.lt (Nat.le_of_eq g344.symm))
  have ne346 : vh_265 ≠ b344 := Nat.ne_of_lt (Nat.lt_of_lt_of_le B339_1.lt (Nat.le_of_eq g344.symm))
  have ne347 : va_265 ≠ b344 := Nat.ne_of_lt (Nat.lt_of_lt_of_le B339_0.lt (Nat.le_of_eq g344.symm))
  have F348 := (B332_4.keep K339q (ninS ne266 (ninS ne267 (ninS ne268 nin0))))
  have ne349 : b264 ≠ b344 := Nat.ne_of_lt (Nat.lt_of_lt_of_le F348.lt (Nat.le_of_eq g344.symm))
  have ge_b344 : n0 ≤ b344 := Nat.le_trans Z339 (Nat.le_of_eq g344.symm)
  have Z344 : n0 ≤ h344.size := Nat.le_trans Z339 E344.1
  have V344 : Arv Z h344 b344 k344 .int 3 [(.int 0), (.int 0), (.int 0)] (.int 0) := (Arv.new A344 (by decide)).pad (pad_rep [] (.int 0) 3)
  replace G := o_nxs (q := 145) (st := [(.ref b344)]) G st344 rfl
  replace G := o_astore (q := 147) (l' := #[.val (.int i0), .val (.int i1), .val (.int 1), .val (.int 0), .val (.int 1), .val (.int 2), .val (.int 2), .val (.int 1), .val (.int 0), .val (.int 1), .val (.ref b264), .val (.ref b344), .unset, .unset, .unset, .unset]) G X344.here hx (hb hby at_145) rfl rfl rfl
  replace G := o_aload (q := 149) G X344.here hx (hb hby at_147) rfl rfl rfl
  replace G := o_iloadN (q := 150) G X344.here hx (hb hby at_149) rfl rfl
  replace G := o_iconst (q := 151) G X344.here hx (hb hby at_150) (v := (0 : Int32)) (by decide) rfl
  obtain ⟨c350, Ar350, q350, S350, N350', H350, G350'⟩ := id V344
  have hin350 : ¬ ((0 : Int32) < 0 ∨ c350.slots.size ≤ ((0 : Int32)).toNatClampNeg) := inb_of S350 ⟨by decide, by decide⟩
  obtain ⟨T350, h350, X350, e350, W350, st350⟩ := stI X344 hx hZ e344 Ar350 (j := (0 : Int32)) hin350 (g := o_g G) rfl rfl (hb hby at_151)
  have N350 := Fr.snoc X350 N339 ge_b344
  have Z350 : n0 ≤ h350.size := Nat.le_trans Z344 (Keep.of_wr W350).1
  have V350 : Arv Z h350 b344 k344 .int 3 [(.int 0), (.int 0), (.int 0)] (.int 0) := Arv.set Ar350 q350 S350 N350' H350 G350' rfl W350 0 rfl (Nat.le_of_ble_eq_true rfl)
  replace G := o_nxs (q := 152) (st := []) G st350 rfl
  replace G := o_aload (q := 154) G X350.here hx (hb hby at_152) rfl rfl rfl
  replace G := o_iload (q := 156) G X350.here hx (hb hby at_154) rfl rfl
  replace G := o_iload (q := 158) G X350.here hx (hb hby at_156) rfl rfl
  replace G := o_ifYes (q := 165) G X350.here hx (hb hby at_158) (by decide) (by decide) (by decide)
  replace G := o_iconst (q := 166) G X350.here hx (hb hby at_165) (v := (0 : Int32)) (by decide) rfl
  obtain ⟨c352, Ar352, q352, S352, N352', H352, G352'⟩ := id V350
  have hin352 : ¬ ((2 : Int32) < 0 ∨ c352.slots.size ≤ ((2 : Int32)).toNatClampNeg) := inb_of S352 ⟨by decide, by decide⟩
  obtain ⟨T352, h352, X352, e352, W352, st352⟩ := stI X350 hx hZ e350 Ar352 (j := (2 : Int32)) hin352 (g := o_g G) rfl rfl (hb hby at_166)
  have N352 := Fr.snoc X352 N350 ge_b344
  have Z352 : n0 ≤ h352.size := Nat.le_trans Z350 (Keep.of_wr W352).1
  have V352 : Arv Z h352 b344 k344 .int 3 [(.int 0), (.int 0), (.int 0)] (.int 0) := Arv.set Ar352 q352 S352 N352' H352 G352' rfl W352 2 rfl (Nat.le_of_ble_eq_true rfl)
  replace G := o_nxs (q := 167) (st := []) G st352 rfl
  replace G := o_aload (q := 169) G X352.here hx (hb hby at_167) rfl rfl rfl
  replace G := o_iload (q := 171) G X352.here hx (hb hby at_169) rfl rfl
  replace G := o_aload (q := 173) G X352.here hx (hb hby at_171) rfl rfl rfl
  replace G := o_iload (q := 175) G X352.here hx (hb hby at_173) rfl rfl
  obtain ⟨c353, Ar353, -, S353, -, H353, -⟩ := id V352
  have hin353 : ¬ ((2 : Int32) < 0 ∨ c353.slots.size ≤ ((2 : Int32)).toNatClampNeg) := inb_of S353 ⟨by decide, by decide⟩
  replace G := o_nxs (q := 176) (st := [(.int 0), (.int 1), (.ref b344)]) G (X352.iaload hx (j := (2 : Int32)) (v := (.int 0)) (by rw [e352]; exact Ar353.1) (State.isArrayOf_alike hZ.alike Ar353.2.1) Ar353.2.2 hin353 (Has.at H353 hin353 rfl) (g := o_g G) rfl rfl (hb hby at_175)) rfl
  replace G := o_iload (q := 178) G X352.here hx (hb hby at_176) rfl rfl
  replace G := o_ifNo (q := 181) G X352.here hx (hb hby at_178) (by decide) rfl
  replace G := o_iconst (q := 182) G X352.here hx (hb hby at_181) (v := (1 : Int32)) (by decide) rfl
  replace G := o_goto (q := 186) G X352.here hx (hb hby at_182) (by decide) (by decide)
  replace G := o_iadd (q := 187) G X352.here hx (hb hby at_186) (by decide : ((0 : Int32) + (1 : Int32)) = (1 : Int32)) rfl
  obtain ⟨c355, Ar355, q355, S355, N355', H355, G355'⟩ := id V352
  have hin355 : ¬ ((1 : Int32) < 0 ∨ c355.slots.size ≤ ((1 : Int32)).toNatClampNeg) := inb_of S355 ⟨by decide, by decide⟩
  obtain ⟨T355, h355, X355, e355, W355, st355⟩ := stI X352 hx hZ e352 Ar355 (j := (1 : Int32)) hin355 (g := o_g G) rfl rfl (hb hby at_187)
  have N355 := Fr.snoc X355 N352 ge_b344
  have Z355 : n0 ≤ h355.size := Nat.le_trans Z352 (Keep.of_wr W355).1
  have V355 : Arv Z h355 b344 k344 .int 3 [(.int 0), (.int 1), (.int 0)] (.int 0) := Arv.set Ar355 q355 S355 N355' H355 G355' rfl W355 1 rfl (Nat.le_of_ble_eq_true rfl)
  replace G := o_nxs (q := 188) (st := []) G st355 rfl
  replace G := o_aload (q := 190) G X355.here hx (hb hby at_188) rfl rfl rfl
  have F357 := (((((F340.keep K339q).ext E344).wr W350).wr W352).wr W355)
  have F358 := (((((B332_0.keep K339q (ninS ne266 (ninS ne267 (ninS ne268 nin0)))).ext E344).other W350 (Or.inl ne349)).other W352 (Or.inl ne349)).other W355 (Or.inl ne349))
  have F359 := (((((B332_1.keep K339q (ninS ne266 (ninS ne267 (ninS ne268 nin0)))).ext E344).other W350 (Or.inl ne349)).other W352 (Or.inl ne349)).other W355 (Or.inl ne349))
  have F360 := (((((B332_2.keep K339q (ninS ne266 (ninS ne267 (ninS ne268 nin0)))).ext E344).other W350 (Or.inl ne349)).other W352 (Or.inl ne349)).other W355 (Or.inl ne349))
  have F361 := (((((B332_3.keep K339q (ninS ne266 (ninS ne267 (ninS ne268 nin0)))).ext E344).other W350 (Or.inl ne349)).other W352 (Or.inl ne349)).other W355 (Or.inl ne349))
  have F362 := ((((F348.ext E344).other W350 (Or.inl ne349)).other W352 (Or.inl ne349)).other W355 (Or.inl ne349))
  have F363 := ((((B339_0.ext E344).other W350 ne347).other W352 ne347).other W355 ne347)
  have F364 := ((((B339_1.ext E344).other W350 ne346).other W352 ne346).other W355 ne346)
  have F365 := ((((B339_2.ext E344).other W350 ne345).other W352 ne345).other W355 ne345)
  obtain ⟨T356, _, Lc356, X356, hQ356, G⟩ := o_vb (q := 193) (W := 0) (argsL := []) (rest := []) (y := (⟨o_n0, "takeFirst", "()I"⟩ : MethodName)) G X355 hx hZ hown (by rw [hml]; rfl) ⟨(o_w hw 47 rfl), (o_w hw 48 rfl), (o_w hw 50 rfl), (o_w hw 49 rfl), (o_w hw 51 rfl), (o_w hw 3 rfl)⟩ (by decide) e355 F357 (rm8n3t l Z a0 hw [] b264 va_265 vh_265 vx_265 ka_265 kh_265 kx_265 (1 : Int32) (0 : Int32) (2 : Int32) [(.double o_d0), (.double o_d1), (.double o_d0)] [(.int 1), (.int 0), (.int 2)] [(.int 0), (.int (-1)), (.int 1)] o_d1 o_d0 o_d0 h355 n0 Z355 F357 F358 F359 F360 F361 F362 F363 F364 F365 ge_b264 ge_vh_265 ge_vx_265 ne266 ne267 ne268 B265_8 B265_9 B265_10 ⟨by decide, by decide⟩ ⟨by decide, by decide⟩ ⟨by decide, by decide⟩ rfl rfl rfl (by decide +kernel) rfl) (lenOf pd_3 rfl) rfl (Nat.le_of_eq rfl) (hb hby at_190) rfl (by decide) (by decide) (by decide) (by decide)
  obtain ⟨rfl, N356q, K356q, B356_0, B356_1, B356_2, B356_3, B356_4, B356_5, B356_6⟩ := hQ356
  have Z356 : n0 ≤ T356.heap.size := Nat.le_trans Z355 K356q.1
  have N356 := Fr.app N355 N356q
  replace G := o_re (st := [(.int 1)]) G rfl
  replace G := o_istore (q := 195) (l' := #[.val (.int i0), .val (.int i1), .val (.int 1), .val (.int 0), .val (.int 1), .val (.int 2), .val (.int 2), .val (.int 1), .val (.int 0), .val (.int 1), .val (.ref b264), .val (.ref b344), .val (.int 1), .unset, .unset, .unset]) G X356.here hx (hb hby at_193) rfl rfl
  replace G := o_aload (q := 197) G X356.here hx (hb hby at_195) rfl rfl rfl
  have F367 := (F357.keep K356q)
  have F368 := (F363.keep K356q (ninS (Ne.symm ne266) (ninS B265_8 (ninS B265_9 nin0))))
  obtain ⟨T366, _, Lc366, X366, hQ366, G⟩ := o_vb (q := 200) (W := 0) (argsL := []) (rest := []) (y := (⟨o_n0, "takeFirst", "()I"⟩ : MethodName)) G X356 hx hZ hown (by rw [hml]; rfl) ⟨(o_w hw 47 rfl), (o_w hw 48 rfl), (o_w hw 50 rfl), (o_w hw 49 rfl), (o_w hw 51 rfl), (o_w hw 3 rfl)⟩ (by decide) rfl F367 (rm8n2 l Z a0 hw [] b264 va_265 vh_265 vx_265 ka_265 kh_265 kx_265 (0 : Int32) (2 : Int32) (2 : Int32) [(.double o_d0), (.double o_d1), (.double o_d0)] [(.int 0), (.int (-1)), (.int 1)] [(.int (-1)), (.int (-1)), (.int 0)] o_d1 T356.heap n0 Z356 F367 B356_0 B356_1 B356_2 B356_3 B356_4 F368 B356_5 B356_6 ge_b264 ge_vh_265 ge_vx_265 ne266 ne267 ne268 B265_8 B265_9 B265_10 ⟨by decide, by decide⟩ ⟨by decide, by decide⟩ rfl rfl) (lenOf pd_3 rfl) rfl (Nat.le_of_eq rfl) (hb hby at_197) rfl (by decide) (by decide) (by decide) (by decide)
  obtain ⟨rfl, N366q, K366q, B366_0, B366_1, B366_2, B366_3, B366_4, B366_5, B366_6⟩ := hQ366
  have Z366 : n0 ≤ T366.heap.size := Nat.le_trans Z356 K366q.1
  have N366 := Fr.app N356 N366q
  replace G := o_re (st := [(.int 0)]) G rfl
  replace G := o_istore (q := 202) (l' := #[.val (.int i0), .val (.int i1), .val (.int 1), .val (.int 0), .val (.int 1), .val (.int 2), .val (.int 2), .val (.int 1), .val (.int 0), .val (.int 1), .val (.ref b264), .val (.ref b344), .val (.int 1), .val (.int 0), .unset, .unset]) G X366.here hx (hb hby at_200) rfl rfl
  replace G := o_aload (q := 204) G X366.here hx (hb hby at_202) rfl rfl rfl
  have F370 := (F367.keep K366q)
  have F371 := (F368.keep K366q (ninS (Ne.symm ne266) (ninS B265_8 (ninS B265_9 nin0))))
  obtain ⟨T369, _, Lc369, X369, hQ369, G⟩ := o_vb (q := 207) (W := 0) (argsL := []) (rest := []) (y := (⟨o_n0, "takeFirst", "()I"⟩ : MethodName)) G X366 hx hZ hown (by rw [hml]; rfl) ⟨(o_w hw 47 rfl), (o_w hw 48 rfl), (o_w hw 50 rfl), (o_w hw 49 rfl), (o_w hw 51 rfl), (o_w hw 3 rfl)⟩ (by decide) rfl F370 (rm8n1 l Z a0 hw [] b264 va_265 vh_265 vx_265 ka_265 kh_265 kx_265 (2 : Int32) (2 : Int32) (2 : Int32) [(.double o_d0), (.double o_d1), (.double o_d0)] [(.int (-1)), (.int (-1)), (.int 0)] [(.int (-1)), (.int (-1)), (.int (-1))] o_d1 T366.heap n0 Z366 F370 B366_0 B366_1 B366_2 B366_3 B366_4 F371 B366_5 B366_6 ge_b264 ge_vh_265 ge_vx_265 ne266 ne267 ne268 B265_8 B265_9 B265_10 ⟨by decide, by decide⟩ rfl rfl) (lenOf pd_3 rfl) rfl (Nat.le_of_eq rfl) (hb hby at_204) rfl (by decide) (by decide) (by decide) (by decide)
  obtain ⟨rfl, N369q, K369q, B369_0, B369_1, B369_2, B369_3, B369_4, B369_5, B369_6⟩ := hQ369
  have Z369 : n0 ≤ T369.heap.size := Nat.le_trans Z366 K369q.1
  have N369 := Fr.app N366 N369q
  replace G := o_re (st := [(.int 2)]) G rfl
  replace G := o_istore (q := 209) (l' := #[.val (.int i0), .val (.int i1), .val (.int 1), .val (.int 0), .val (.int 1), .val (.int 2), .val (.int 2), .val (.int 1), .val (.int 0), .val (.int 1), .val (.ref b264), .val (.ref b344), .val (.int 1), .val (.int 0), .val (.int 2), .unset]) G X369.here hx (hb hby at_207) rfl rfl
  replace G := o_iload (q := 211) G X369.here hx (hb hby at_209) rfl rfl
  replace G := o_ifNo (q := 214) G X369.here hx (hb hby at_211) (by decide) rfl
  replace G := o_iload (q := 216) G X369.here hx (hb hby at_214) rfl rfl
  replace G := o_iconst (q := 217) G X369.here hx (hb hby at_216) (v := (3 : Int32)) (by decide) rfl
  replace G := o_icmpNo (q := 220) G X369.here hx (hb hby at_217) (by decide) rfl
  replace G := o_iload (q := 222) G X369.here hx (hb hby at_220) rfl rfl
  replace G := o_ifNo (q := 225) G X369.here hx (hb hby at_222) (by decide) rfl
  replace G := o_iload (q := 227) G X369.here hx (hb hby at_225) rfl rfl
  replace G := o_iconst (q := 228) G X369.here hx (hb hby at_227) (v := (3 : Int32)) (by decide) rfl
  replace G := o_icmpNo (q := 231) G X369.here hx (hb hby at_228) (by decide) rfl
  replace G := o_iload (q := 233) G X369.here hx (hb hby at_231) rfl rfl
  replace G := o_ifNo (q := 236) G X369.here hx (hb hby at_233) (by decide) rfl
  replace G := o_iload (q := 238) G X369.here hx (hb hby at_236) rfl rfl
  replace G := o_iconst (q := 239) G X369.here hx (hb hby at_238) (v := (3 : Int32)) (by decide) rfl
  replace G := o_icmpNo (q := 242) G X369.here hx (hb hby at_239) (by decide) rfl
  replace G := o_iload (q := 244) G X369.here hx (hb hby at_242) rfl rfl
  replace G := o_iload (q := 246) G X369.here hx (hb hby at_244) rfl rfl
  replace G := o_icmpNo (q := 249) G X369.here hx (hb hby at_246) (by decide) rfl
  replace G := o_iload (q := 251) G X369.here hx (hb hby at_249) rfl rfl
  replace G := o_iload (q := 253) G X369.here hx (hb hby at_251) rfl rfl
  replace G := o_icmpNo (q := 256) G X369.here hx (hb hby at_253) (by decide) rfl
  replace G := o_iload (q := 258) G X369.here hx (hb hby at_256) rfl rfl
  replace G := o_iload (q := 260) G X369.here hx (hb hby at_258) rfl rfl
  replace G := o_icmpNo (q := 263) G X369.here hx (hb hby at_260) (by decide) rfl
  replace G := o_iconst (q := 264) G X369.here hx (hb hby at_263) (v := (1 : Int32)) (by decide) rfl
  replace G := o_goto (q := 268) G X369.here hx (hb hby at_264) (by decide) (by decide)
  replace G := o_istore (q := 270) (l' := #[.val (.int i0), .val (.int i1), .val (.int 1), .val (.int 0), .val (.int 1), .val (.int 2), .val (.int 2), .val (.int 1), .val (.int 0), .val (.int 1), .val (.ref b264), .val (.ref b344), .val (.int 1), .val (.int 0), .val (.int 2), .val (.int 1)]) G X369.here hx (hb hby at_268) rfl rfl
  replace G := o_iload (q := 272) G X369.here hx (hb hby at_270) rfl rfl
  replace G := o_ifNo (q := 275) G X369.here hx (hb hby at_272) (by decide) rfl
  replace G := o_aload (q := 277) G X369.here hx (hb hby at_275) rfl rfl rfl
  replace G := o_iload (q := 279) G X369.here hx (hb hby at_277) rfl rfl
  replace G := o_iload (q := 281) G X369.here hx (hb hby at_279) rfl rfl
  have F383 := (((V355.keep K356q (ninS (Ne.symm ne349) (ninS (Ne.symm ne346) (ninS (Ne.symm ne345) nin0)))).keep K366q (ninS (Ne.symm ne349) (ninS (Ne.symm ne346) (ninS (Ne.symm ne345) nin0)))).keep K369q (ninS (Ne.symm ne349) (ninS (Ne.symm ne346) (ninS (Ne.symm ne345) nin0))))
  obtain ⟨_, _, ⟨T382, L382, kk382, nn382⟩, -, X382, ⟨Lc382, hQ382, l382, y382, z382⟩, st382⟩ := Jvm.LawKit.callS X369 hx (y := (⟨o_n1, "before", "([III)Z"⟩ : MethodName)) hown (mvT hZ (o_w hw 56 rfl)) (mvT hZ (o_w hw 57 rfl)) (mvT hZ (o_w hw 58 rfl)) (mvT hZ (o_w hw 59 rfl)) (by decide) (backOf (W := 0) (rm10 l Z a0 hw [] b344 (1 : Int32) (0 : Int32) k344 [(.int 0), (.int 1), (.int 0)] (1 : Int32) (0 : Int32) T369.heap n0 Z369 F383 ⟨by decide, by decide⟩ ⟨by decide, by decide⟩ rfl rfl) hZ (o_w hw 59 rfl) (o_w hw 58 rfl) (by decide) (by decide)) (g := o_g G) rfl (by rw [hml]; rfl) (argsL := [(.ref b344), (.int 1), (.int 0)]) (rest := []) (lenOf pd_4 rfl) rfl (by show 2 * 0 + _ ≤ _; exact Nat.le_of_eq rfl) (hb hby at_281) (fun _ _ => ⟨rfl, rfl, (by decide : 5 + 0 ≤ _), (by decide : 17 + 0 ≤ _)⟩)
  dsimp only [Pt.U, Pt.locs, Pt.cells, Pt.slots] at X382 l382 y382 z382 st382 hQ382
  subst l382 y382 z382
  obtain ⟨rfl, N382q, e382⟩ := hQ382
  have N382 := Fr.app N369 N382q
  replace G := o_nxs (q := 284) (st := [(.int (o_lb (1 : Int32) (0 : Int32) (1 : Int32) (0 : Int32)))]) G st382 rfl
  replace G := o_ifNo (q := 287) G X382.here hx (hb hby at_284) (by decide) rfl
  replace G := o_aload (q := 289) G X382.here hx (hb hby at_287) rfl rfl rfl
  replace G := o_iload (q := 291) G X382.here hx (hb hby at_289) rfl rfl
  replace G := o_iload (q := 293) G X382.here hx (hb hby at_291) rfl rfl
  obtain ⟨_, _, ⟨T385, L385, kk385, nn385⟩, -, X385, ⟨Lc385, hQ385, l385, y385, z385⟩, st385⟩ := Jvm.LawKit.callS X382 hx (y := (⟨o_n1, "before", "([III)Z"⟩ : MethodName)) hown (mvT hZ (o_w hw 56 rfl)) (mvT hZ (o_w hw 57 rfl)) (mvT hZ (o_w hw 58 rfl)) (mvT hZ (o_w hw 59 rfl)) (by decide) (backOf (W := 0) (rm10 l Z a0 hw [] b344 (0 : Int32) (2 : Int32) k344 [(.int 0), (.int 1), (.int 0)] (0 : Int32) (0 : Int32) T369.heap n0 Z369 F383 ⟨by decide, by decide⟩ ⟨by decide, by decide⟩ rfl rfl) hZ (o_w hw 59 rfl) (o_w hw 58 rfl) (by decide) (by decide)) (g := o_g G) rfl (by rw [hml]; rfl) (argsL := [(.ref b344), (.int 0), (.int 2)]) (rest := []) (lenOf pd_4 rfl) rfl (by show 2 * 0 + _ ≤ _; exact Nat.le_of_eq rfl) (hb hby at_293) (fun _ _ => ⟨rfl, e382, (by decide : 5 + 0 ≤ _), (by decide : 17 + 0 ≤ _)⟩)
  dsimp only [Pt.U, Pt.locs, Pt.cells, Pt.slots] at X385 l385 y385 z385 st385 hQ385
  subst l385 y385 z385
  obtain ⟨rfl, N385q, e385⟩ := hQ385
  have N385 := Fr.app N382 N385q
  replace G := o_nxs (q := 296) (st := [(.int (o_lb (0 : Int32) (0 : Int32) (0 : Int32) (2 : Int32)))]) G st385 rfl
  replace G := o_ifNo (q := 299) G X385.here hx (hb hby at_296) (by decide) rfl
  replace G := o_aload (q := 301) G X385.here hx (hb hby at_299) rfl rfl rfl
  have F388 := (F370.keep K369q)
  obtain ⟨T387, _, Lc387, X387, hQ387, G⟩ := o_vb (q := 304) (W := 0) (argsL := []) (rest := []) (y := (⟨o_n0, "isEmpty", "()Z"⟩ : MethodName)) G X385 hx hZ hown (by rw [hml]; rfl) ⟨(o_w hw 60 rfl), (o_w hw 61 rfl), (o_w hw 63 rfl), (o_w hw 62 rfl), (o_w hw 64 rfl), (o_w hw 3 rfl)⟩ (by decide) e385 F388 (rm11 l Z a0 hw [] b264 T369.heap n0 Z369 B369_3) (lenOf pd_5 rfl) rfl (Nat.le_of_eq rfl) (hb hby at_301) rfl (by decide) (by decide) (by decide) (by decide)
  obtain ⟨rfl, N387q, e387⟩ := hQ387
  have N387 := Fr.app N385 N387q
  replace G := o_re (st := [(.int 1)]) G rfl
  replace G := o_ifNo (q := 307) G X387.here hx (hb hby at_304) (by decide) rfl
  replace G := o_iconst (q := 308) G X387.here hx (hb hby at_307) (v := (1 : Int32)) (by decide) rfl
  replace G := o_goto (q := 312) G X387.here hx (hb hby at_308) (by decide) (by decide)
  obtain ⟨fs, hr, hrun, hended, hW, hsame⟩ := X387.leave (v := some (.int 1)) (fun h => by rw [Bd.returns] at h; cases h)
  refine ⟨_, _, G _ (retOut X387 hx Bd.returns rfl (Or.inl ⟨rfl, Or.inr (Or.inl rfl), _, rfl⟩) (hb hby at_312) hr), hrun, hended, _, _, rfl, ?_, ⟨_, rfl⟩, hW, hsame.mono (by decide) (by decide)⟩
  show Q0 Z i0 i1 h0 n0 _ T387.heap _
  rw [e387]
  exact ⟨rfl, N387⟩
  replace G := o_iload (q := 110) G X269.here hx (hb hby at_108) rfl rfl
  replace G := o_ifNo (q := 113) G X269.here hx (hb hby at_110) (by decide) rfl
  replace G := o_aload (q := 115) G X269.here hx (hb hby at_113) rfl rfl rfl
  have F392 := (F270.keep K269q)
  have F393 := (B265_0.keep K269q (ninS ne266 (ninS ne267 (ninS ne268 nin0))))
  have F394 := (B265_1.keep K269q (ninS ne266 (ninS ne267 (ninS ne268 nin0))))
  have F395 := (B265_2.keep K269q (ninS ne266 (ninS ne267 (ninS ne268 nin0))))
  have F396 := (B265_3.keep K269q (ninS ne266 (ninS ne267 (ninS ne268 nin0))))
  have F397 := (B265_4.keep K269q (ninS ne266 (ninS ne267 (ninS ne268 nin0))))
  obtain ⟨T391, _, Lc391, X391, hQ391, G⟩ := o_vb (q := 118) (W := 0) (argsL := []) (rest := []) (y := (⟨o_n0, "decay", "()V"⟩ : MethodName)) G X269 hx hZ hown (by rw [hml]; rfl) ⟨(o_w hw 41 rfl), (o_w hw 42 rfl), (o_w hw 44 rfl), (o_w hw 43 rfl), (o_w hw 45 rfl), (o_w hw 3 rfl)⟩ (by decide) rfl F392 (rm7 l Z a0 hw [] b264 va_265 vh_265 vx_265 o_d0 o_d1 (3 : Int32) T269.heap n0 Z269 F392 F393 F394 F395 F396 F397 ge_b264 (by decide +kernel) (o_nan (by decide +kernel))) (lenOf pd_6 rfl) rfl (Nat.le_of_eq rfl) (hb hby at_115) rfl (by decide) (by decide) (by decide) (by decide)
  obtain ⟨rfl, N391q, K391q, B391_0, B391_1, B391_2, B391_3, B391_4⟩ := hQ391
  have Z391 : n0 ≤ T391.heap.size := Nat.le_trans Z269 K391q.1
  have N391 := Fr.app N269 N391q
  replace G := o_re (st := []) G rfl
  replace G := o_aload (q := 120) G X391.here hx (hb hby at_118) rfl rfl rfl
  replace G := o_iload (q := 122) G X391.here hx (hb hby at_120) rfl rfl
  have F399 := (F392.keep K391q)
  have F400 := (B269_0.keep K391q (ninS (Ne.symm ne266) nin0))
  have F401 := (B269_1.keep K391q (ninS (Ne.symm ne267) nin0))
  have F402 := (B269_2.keep K391q (ninS (Ne.symm ne268) nin0))
  obtain ⟨T398, _, Lc398, X398, hQ398, G⟩ := o_vb (q := 125) (W := 0) (argsL := [(.int 2)]) (rest := []) (y := (⟨o_n0, "bump", "(I)V"⟩ : MethodName)) G X391 hx hZ hown (by rw [hml]; rfl) ⟨(o_w hw 35 rfl), (o_w hw 36 rfl), (o_w hw 38 rfl), (o_w hw 37 rfl), (o_w hw 39 rfl), (o_w hw 3 rfl)⟩ (by decide) rfl F399 (rm6f2t l Z a0 hw [] b264 (2 : Int32) va_265 vh_265 vx_265 ka_265 kh_265 kx_265 (0 : Int32) (1 : Int32) (2 : Int32) [(.double o_d0), (.double 0), (.double 0)] [(.int 0), (.int 1), (.int 2)] [(.int 2), (.int 1), (.int 0)] o_d1 [(.double o_d0), (.double 0), (.double o_d1)] (0 : UInt64) o_d1 o_d0 o_d1 T391.heap n0 Z391 F399 B391_0 B391_1 B391_2 B391_4 F400 F401 F402 ge_va_265 ge_vh_265 ge_vx_265 ne266 ne267 ne268 B265_8 B265_9 B265_10 ⟨by decide, by decide⟩ ⟨by decide, by decide⟩ ⟨by decide, by decide⟩ rfl rfl rfl rfl (by decide +kernel) (o_nan (by decide +kernel)) (by decide +kernel) rfl rfl rfl rfl (by decide +kernel) rfl) (lenOf pd_1 rfl) rfl (Nat.le_of_eq rfl) (hb hby at_122) rfl (by decide) (by decide) (by decide) (by decide)
  obtain ⟨rfl, N398q, K398q, B398_0, B398_1, B398_2⟩ := hQ398
  have Z398 : n0 ≤ T398.heap.size := Nat.le_trans Z391 K398q.1
  have N398 := Fr.app N391 N398q
  replace G := o_re (st := []) G rfl
  rcases o_01 hn_w2 with rfl | rfl
  replace G := o_iload (q := 127) G X398.here hx (hb hby at_125) rfl rfl
  replace G := o_ifYes (q := 135) G X398.here hx (hb hby at_127) (by decide) (by decide) (by decide)
  replace G := o_aload (q := 137) G X398.here hx (hb hby at_135) rfl rfl rfl
  replace G := o_iload (q := 139) G X398.here hx (hb hby at_137) rfl rfl
  have F405 := (F399.keep K398q)
  have F406 := (B391_0.keep K398q (ninS ne266 (ninS ne267 (ninS ne268 nin0))))
  have F407 := (B391_1.keep K398q (ninS ne266 (ninS ne267 (ninS ne268 nin0))))
  have F408 := (B391_2.keep K398q (ninS ne266 (ninS ne267 (ninS ne268 nin0))))
  have F409 := (B391_4.keep K398q (ninS ne266 (ninS ne267 (ninS ne268 nin0))))
  obtain ⟨T404, _, Lc404, X404, hQ404, G⟩ := o_vb (q := 142) (W := 0) (argsL := [(.int 1)]) (rest := []) (y := (⟨o_n0, "bump", "(I)V"⟩ : MethodName)) G X398 hx hZ hown (by rw [hml]; rfl) ⟨(o_w hw 35 rfl), (o_w hw 36 rfl), (o_w hw 38 rfl), (o_w hw 37 rfl), (o_w hw 39 rfl), (o_w hw 3 rfl)⟩ (by decide) rfl F405 (rm6f1t l Z a0 hw [] b264 (1 : Int32) va_265 vh_265 vx_265 ka_265 kh_265 kx_265 (2 : Int32) (1 : Int32) (0 : Int32) [(.double o_d0), (.double 0), (.double o_d1)] [(.int 2), (.int 1), (.int 0)] [(.int 2), (.int 0), (.int 1)] o_d1 [(.double o_d0), (.double o_d1), (.double o_d1)] (0 : UInt64) o_d1 o_d1 o_d1 T398.heap n0 Z398 F405 F406 F407 F408 F409 B398_0 B398_1 B398_2 ge_va_265 ge_vh_265 ge_vx_265 ne266 ne267 ne268 B265_8 B265_9 B265_10 ⟨by decide, by decide⟩ ⟨by decide, by decide⟩ ⟨by decide, by decide⟩ rfl rfl rfl rfl (by decide +kernel) (o_nan (by decide +kernel)) (by decide +kernel) rfl rfl rfl rfl (by decide +kernel) rfl) (lenOf pd_1 rfl) rfl (Nat.le_of_eq rfl) (hb hby at_139) rfl (by decide) (by decide) (by decide) (by decide)
  obtain ⟨rfl, N404q, K404q, B404_0, B404_1, B404_2⟩ := hQ404
  have Z404 : n0 ≤ T404.heap.size := Nat.le_trans Z398 K404q.1
  have N404 := Fr.app N398 N404q
  replace G := o_re (st := []) G rfl
  replace G := o_iconst (q := 143) G X404.here hx (hb hby at_142) (v := (3 : Int32)) (by decide) rfl
  obtain ⟨T410, h410, k410, X410, e410, E410, A410, st410⟩ := newP X404 hx hZ (o_w hw 15 rfl) rfl (g := o_g G) rfl (hb hby at_143) rfl (by decide) (cap := 3) (by decide) (by decide) (by decide) (by decide)
  obtain ⟨b410, g410⟩ : ∃ z, z = T404.heap.size := ⟨_, rfl⟩
  rw [← g410] at A410 st410
  have ne411 : vx_265 ≠ b410 := Nat.ne_of_lt (Nat.lt_of_lt_of_le B404_2.lt (Nat.le_of_eq g410.symm))
  have ne412 : vh_265 ≠ b410 := Nat.ne_of_lt (Nat.lt_of_lt_of_le B404_1.lt (Nat.le_of_eq g410.symm))
  have ne413 : va_265 ≠ b410 := Nat.ne_of_lt (Nat.lt_of_lt_of_le B404_0.lt (Nat.le_of_eq g410.symm))
  have F414 := (F409.keep K404q (ninS ne266 (ninS ne267 (ninS ne268 nin0))))
  have ne415 : b264 ≠ b410 := Nat.ne_of_lt (Nat.lt_of_lt_of_le F414.lt (Nat.le_of_eq g410.symm))
  have ge_b410 : n0 ≤ b410 := Nat.le_trans Z404 (Nat.le_of_eq g410.symm)
  have Z410 : n0 ≤ h410.size := Nat.le_trans Z404 E410.1
  have V410 : Arv Z h410 b410 k410 .int 3 [(.int 0), (.int 0), (.int 0)] (.int 0) := (Arv.new A410 (by decide)).pad (pad_rep [] (.int 0) 3)
  replace G := o_nxs (q := 145) (st := [(.ref b410)]) G st410 rfl
  replace G := o_astore (q := 147) (l' := #[.val (.int i0), .val (.int i1), .val (.int 1), .val (.int 0), .val (.int 1), .val (.int 2), .val (.int 2), .val (.int 1), .val (.int 1), .val (.int 0), .val (.ref b264), .val (.ref b410), .unset, .unset, .unset, .unset]) G X410.here hx (hb hby at_145) rfl rfl rfl
  replace G := o_aload (q := 149) G X410.here hx (hb hby at_147) rfl rfl rfl
  replace G := o_iloadN (q := 150) G X410.here hx (hb hby at_149) rfl rfl
  replace G := o_iconst (q := 151) G X410.here hx (hb hby at_150) (v := (0 : Int32)) (by decide) rfl
  obtain ⟨c416, Ar416, q416, S416, N416', H416, G416'⟩ := id V410
  have hin416 : ¬ ((0 : Int32) < 0 ∨ c416.slots.size ≤ ((0 : Int32)).toNatClampNeg) := inb_of S416 ⟨by decide, by decide⟩
  obtain ⟨T416, h416, X416, e416, W416, st416⟩ := stI X410 hx hZ e410 Ar416 (j := (0 : Int32)) hin416 (g := o_g G) rfl rfl (hb hby at_151)
  have N416 := Fr.snoc X416 N404 ge_b410
  have Z416 : n0 ≤ h416.size := Nat.le_trans Z410 (Keep.of_wr W416).1
  have V416 : Arv Z h416 b410 k410 .int 3 [(.int 0), (.int 0), (.int 0)] (.int 0) := Arv.set Ar416 q416 S416 N416' H416 G416' rfl W416 0 rfl (Nat.le_of_ble_eq_true rfl)
  replace G := o_nxs (q := 152) (st := []) G st416 rfl
  replace G := o_aload (q := 154) G X416.here hx (hb hby at_152) rfl rfl rfl
  replace G := o_iload (q := 156) G X416.here hx (hb hby at_154) rfl rfl
  replace G := o_iload (q := 158) G X416.here hx (hb hby at_156) rfl rfl
  replace G := o_ifNo (q := 161) G X416.here hx (hb hby at_158) (by decide) rfl
  replace G := o_iconst (q := 162) G X416.here hx (hb hby at_161) (v := (1 : Int32)) (by decide) rfl
  replace G := o_goto (q := 166) G X416.here hx (hb hby at_162) (by decide) (by decide)
  obtain ⟨c418, Ar418, q418, S418, N418', H418, G418'⟩ := id V416
  have hin418 : ¬ ((2 : Int32) < 0 ∨ c418.slots.size ≤ ((2 : Int32)).toNatClampNeg) := inb_of S418 ⟨by decide, by decide⟩
  obtain ⟨T418, h418, X418, e418, W418, st418⟩ := stI X416 hx hZ e416 Ar418 (j := (2 : Int32)) hin418 (g := o_g G) rfl rfl (hb hby at_166)
  have N418 := Fr.snoc X418 N416 ge_b410
  have Z418 : n0 ≤ h418.size := Nat.le_trans Z416 (Keep.of_wr W418).1
  have V418 : Arv Z h418 b410 k410 .int 3 [(.int 0), (.int 0), (.int 1)] (.int 0) := Arv.set Ar418 q418 S418 N418' H418 G418' rfl W418 2 rfl (Nat.le_of_ble_eq_true rfl)
  replace G := o_nxs (q := 167) (st := []) G st418 rfl
  replace G := o_aload (q := 169) G X418.here hx (hb hby at_167) rfl rfl rfl
  replace G := o_iload (q := 171) G X418.here hx (hb hby at_169) rfl rfl
  replace G := o_aload (q := 173) G X418.here hx (hb hby at_171) rfl rfl rfl
  replace G := o_iload (q := 175) G X418.here hx (hb hby at_173) rfl rfl
  obtain ⟨c419, Ar419, -, S419, -, H419, -⟩ := id V418
  have hin419 : ¬ ((2 : Int32) < 0 ∨ c419.slots.size ≤ ((2 : Int32)).toNatClampNeg) := inb_of S419 ⟨by decide, by decide⟩
  replace G := o_nxs (q := 176) (st := [(.int 1), (.int 1), (.ref b410)]) G (X418.iaload hx (j := (2 : Int32)) (v := (.int 1)) (by rw [e418]; exact Ar419.1) (State.isArrayOf_alike hZ.alike Ar419.2.1) Ar419.2.2 hin419 (Has.at H419 hin419 rfl) (g := o_g G) rfl rfl (hb hby at_175)) rfl
  replace G := o_iload (q := 178) G X418.here hx (hb hby at_176) rfl rfl
  replace G := o_ifYes (q := 185) G X418.here hx (hb hby at_178) (by decide) (by decide) (by decide)
  replace G := o_iconst (q := 186) G X418.here hx (hb hby at_185) (v := (0 : Int32)) (by decide) rfl
  replace G := o_iadd (q := 187) G X418.here hx (hb hby at_186) (by decide : ((1 : Int32) + (0 : Int32)) = (1 : Int32)) rfl
  obtain ⟨c421, Ar421, q421, S421, N421', H421, G421'⟩ := id V418
  have hin421 : ¬ ((1 : Int32) < 0 ∨ c421.slots.size ≤ ((1 : Int32)).toNatClampNeg) := inb_of S421 ⟨by decide, by decide⟩
  obtain ⟨T421, h421, X421, e421, W421, st421⟩ := stI X418 hx hZ e418 Ar421 (j := (1 : Int32)) hin421 (g := o_g G) rfl rfl (hb hby at_187)
  have N421 := Fr.snoc X421 N418 ge_b410
  have Z421 : n0 ≤ h421.size := Nat.le_trans Z418 (Keep.of_wr W421).1
  have V421 : Arv Z h421 b410 k410 .int 3 [(.int 0), (.int 1), (.int 1)] (.int 0) := Arv.set Ar421 q421 S421 N421' H421 G421' rfl W421 1 rfl (Nat.le_of_ble_eq_true rfl)
  replace G := o_nxs (q := 188) (st := []) G st421 rfl
  replace G := o_aload (q := 190) G X421.here hx (hb hby at_188) rfl rfl rfl
  have F423 := (((((F405.keep K404q).ext E410).wr W416).wr W418).wr W421)
  have F424 := (((((F406.keep K404q (ninS ne266 (ninS ne267 (ninS ne268 nin0)))).ext E410).other W416 (Or.inl ne415)).other W418 (Or.inl ne415)).other W421 (Or.inl ne415))
  have F425 := (((((F407.keep K404q (ninS ne266 (ninS ne267 (ninS ne268 nin0)))).ext E410).other W416 (Or.inl ne415)).other W418 (Or.inl ne415)).other W421 (Or.inl ne415))
  have F426 := (((((F408.keep K404q (ninS ne266 (ninS ne267 (ninS ne268 nin0)))).ext E410).other W416 (Or.inl ne415)).other W418 (Or.inl ne415)).other W421 (Or.inl ne415))
  have F427 := ((((((B391_3.keep K398q (ninS ne266 (ninS ne267 (ninS ne268 nin0)))).keep K404q (ninS ne266 (ninS ne267 (ninS ne268 nin0)))).ext E410).other W416 (Or.inl ne415)).other W418 (Or.inl ne415)).other W421 (Or.inl ne415))
  have F428 := ((((F414.ext E410).other W416 (Or.inl ne415)).other W418 (Or.inl ne415)).other W421 (Or.inl ne415))
  have F429 := ((((B404_0.ext E410).other W416 ne413).other W418 ne413).other W421 ne413)
  have F430 := ((((B404_1.ext E410).other W416 ne412).other W418 ne412).other W421 ne412)
  have F431 := ((((B404_2.ext E410).other W416 ne411).other W418 ne411).other W421 ne411)
  obtain ⟨T422, _, Lc422, X422, hQ422, G⟩ := o_vb (q := 193) (W := 0) (argsL := []) (rest := []) (y := (⟨o_n0, "takeFirst", "()I"⟩ : MethodName)) G X421 hx hZ hown (by rw [hml]; rfl) ⟨(o_w hw 47 rfl), (o_w hw 48 rfl), (o_w hw 50 rfl), (o_w hw 49 rfl), (o_w hw 51 rfl), (o_w hw 3 rfl)⟩ (by decide) e421 F423 (rm8n3t l Z a0 hw [] b264 va_265 vh_265 vx_265 ka_265 kh_265 kx_265 (1 : Int32) (2 : Int32) (0 : Int32) [(.double o_d0), (.double o_d1), (.double o_d1)] [(.int 2), (.int 0), (.int 1)] [(.int 1), (.int (-1)), (.int 0)] o_d1 o_d0 o_d1 h421 n0 Z421 F423 F424 F425 F426 F427 F428 F429 F430 F431 ge_b264 ge_vh_265 ge_vx_265 ne266 ne267 ne268 B265_8 B265_9 B265_10 ⟨by decide, by decide⟩ ⟨by decide, by decide⟩ ⟨by decide, by decide⟩ rfl rfl rfl (by decide +kernel) rfl) (lenOf pd_3 rfl) rfl (Nat.le_of_eq rfl) (hb hby at_190) rfl (by decide) (by decide) (by decide) (by decide)
  obtain ⟨rfl, N422q, K422q, B422_0, B422_1, B422_2, B422_3, B422_4, B422_5, B422_6⟩ := hQ422
  have Z422 : n0 ≤ T422.heap.size := Nat.le_trans Z421 K422q.1
  have N422 := Fr.app N421 N422q
  replace G := o_re (st := [(.int 1)]) G rfl
  replace G := o_istore (q := 195) (l' := #[.val (.int i0), .val (.int i1), .val (.int 1), .val (.int 0), .val (.int 1), .val (.int 2), .val (.int 2), .val (.int 1), .val (.int 1), .val (.int 0), .val (.ref b264), .val (.ref b410), .val (.int 1), .unset, .unset, .unset]) G X422.here hx (hb hby at_193) rfl rfl
  replace G := o_aload (q := 197) G X422.here hx (hb hby at_195) rfl rfl rfl
  have F433 := (F423.keep K422q)
  have F434 := (F429.keep K422q (ninS (Ne.symm ne266) (ninS B265_8 (ninS B265_9 nin0))))
  obtain ⟨T432, _, Lc432, X432, hQ432, G⟩ := o_vb (q := 200) (W := 0) (argsL := []) (rest := []) (y := (⟨o_n0, "takeFirst", "()I"⟩ : MethodName)) G X422 hx hZ hown (by rw [hml]; rfl) ⟨(o_w hw 47 rfl), (o_w hw 48 rfl), (o_w hw 50 rfl), (o_w hw 49 rfl), (o_w hw 51 rfl), (o_w hw 3 rfl)⟩ (by decide) rfl F433 (rm8n2 l Z a0 hw [] b264 va_265 vh_265 vx_265 ka_265 kh_265 kx_265 (2 : Int32) (0 : Int32) (0 : Int32) [(.double o_d0), (.double o_d1), (.double o_d1)] [(.int 1), (.int (-1)), (.int 0)] [(.int 0), (.int (-1)), (.int (-1))] o_d1 T422.heap n0 Z422 F433 B422_0 B422_1 B422_2 B422_3 B422_4 F434 B422_5 B422_6 ge_b264 ge_vh_265 ge_vx_265 ne266 ne267 ne268 B265_8 B265_9 B265_10 ⟨by decide, by decide⟩ ⟨by decide, by decide⟩ rfl rfl) (lenOf pd_3 rfl) rfl (Nat.le_of_eq rfl) (hb hby at_197) rfl (by decide) (by decide) (by decide) (by decide)
  obtain ⟨rfl, N432q, K432q, B432_0, B432_1, B432_2, B432_3, B432_4, B432_5, B432_6⟩ := hQ432
  have Z432 : n0 ≤ T432.heap.size := Nat.le_trans Z422 K432q.1
  have N432 := Fr.app N422 N432q
  replace G := o_re (st := [(.int 2)]) G rfl
  replace G := o_istore (q := 202) (l' := #[.val (.int i0), .val (.int i1), .val (.int 1), .val (.int 0), .val (.int 1), .val (.int 2), .val (.int 2), .val (.int 1), .val (.int 1), .val (.int 0), .val (.ref b264), .val (.ref b410), .val (.int 1), .val (.int 2), .unset, .unset]) G X432.here hx (hb hby at_200) rfl rfl
  replace G := o_aload (q := 204) G X432.here hx (hb hby at_202) rfl rfl rfl
  have F436 := (F433.keep K432q)
  have F437 := (F434.keep K432q (ninS (Ne.symm ne266) (ninS B265_8 (ninS B265_9 nin0))))
  obtain ⟨T435, _, Lc435, X435, hQ435, G⟩ := o_vb (q := 207) (W := 0) (argsL := []) (rest := []) (y := (⟨o_n0, "takeFirst", "()I"⟩ : MethodName)) G X432 hx hZ hown (by rw [hml]; rfl) ⟨(o_w hw 47 rfl), (o_w hw 48 rfl), (o_w hw 50 rfl), (o_w hw 49 rfl), (o_w hw 51 rfl), (o_w hw 3 rfl)⟩ (by decide) rfl F436 (rm8n1 l Z a0 hw [] b264 va_265 vh_265 vx_265 ka_265 kh_265 kx_265 (0 : Int32) (0 : Int32) (0 : Int32) [(.double o_d0), (.double o_d1), (.double o_d1)] [(.int 0), (.int (-1)), (.int (-1))] [(.int (-1)), (.int (-1)), (.int (-1))] o_d1 T432.heap n0 Z432 F436 B432_0 B432_1 B432_2 B432_3 B432_4 F437 B432_5 B432_6 ge_b264 ge_vh_265 ge_vx_265 ne266 ne267 ne268 B265_8 B265_9 B265_10 ⟨by decide, by decide⟩ rfl rfl) (lenOf pd_3 rfl) rfl (Nat.le_of_eq rfl) (hb hby at_204) rfl (by decide) (by decide) (by decide) (by decide)
  obtain ⟨rfl, N435q, K435q, B435_0, B435_1, B435_2, B435_3, B435_4, B435_5, B435_6⟩ := hQ435
  have Z435 : n0 ≤ T435.heap.size := Nat.le_trans Z432 K435q.1
  have N435 := Fr.app N432 N435q
  replace G := o_re (st := [(.int 0)]) G rfl
  replace G := o_istore (q := 209) (l' := #[.val (.int i0), .val (.int i1), .val (.int 1), .val (.int 0), .val (.int 1), .val (.int 2), .val (.int 2), .val (.int 1), .val (.int 1), .val (.int 0), .val (.ref b264), .val (.ref b410), .val (.int 1), .val (.int 2), .val (.int 0), .unset]) G X435.here hx (hb hby at_207) rfl rfl
  replace G := o_iload (q := 211) G X435.here hx (hb hby at_209) rfl rfl
  replace G := o_ifNo (q := 214) G X435.here hx (hb hby at_211) (by decide) rfl
  replace G := o_iload (q := 216) G X435.here hx (hb hby at_214) rfl rfl
  replace G := o_iconst (q := 217) G X435.here hx (hb hby at_216) (v := (3 : Int32)) (by decide) rfl
  replace G := o_icmpNo (q := 220) G X435.here hx (hb hby at_217) (by decide) rfl
  replace G := o_iload (q := 222) G X435.here hx (hb hby at_220) rfl rfl
  replace G := o_ifNo (q := 225) G X435.here hx (hb hby at_222) (by decide) rfl
  replace G := o_iload (q := 227) G X435.here hx (hb hby at_225) rfl rfl
  replace G := o_iconst (q := 228) G X435.here hx (hb hby at_227) (v := (3 : Int32)) (by decide) rfl
  replace G := o_icmpNo (q := 231) G X435.here hx (hb hby at_228) (by decide) rfl
  replace G := o_iload (q := 233) G X435.here hx (hb hby at_231) rfl rfl
  replace G := o_ifNo (q := 236) G X435.here hx (hb hby at_233) (by decide) rfl
  replace G := o_iload (q := 238) G X435.here hx (hb hby at_236) rfl rfl
  replace G := o_iconst (q := 239) G X435.here hx (hb hby at_238) (v := (3 : Int32)) (by decide) rfl
  replace G := o_icmpNo (q := 242) G X435.here hx (hb hby at_239) (by decide) rfl
  replace G := o_iload (q := 244) G X435.here hx (hb hby at_242) rfl rfl
  replace G := o_iload (q := 246) G X435.here hx (hb hby at_244) rfl rfl
  replace G := o_icmpNo (q := 249) G X435.here hx (hb hby at_246) (by decide) rfl
  replace G := o_iload (q := 251) G X435.here hx (hb hby at_249) rfl rfl
  replace G := o_iload (q := 253) G X435.here hx (hb hby at_251) rfl rfl
  replace G := o_icmpNo (q := 256) G X435.here hx (hb hby at_253) (by decide) rfl
  replace G := o_iload (q := 258) G X435.here hx (hb hby at_256) rfl rfl
  replace G := o_iload (q := 260) G X435.here hx (hb hby at_258) rfl rfl
  replace G := o_icmpNo (q := 263) G X435.here hx (hb hby at_260) (by decide) rfl
  replace G := o_iconst (q := 264) G X435.here hx (hb hby at_263) (v := (1 : Int32)) (by decide) rfl
  replace G := o_goto (q := 268) G X435.here hx (hb hby at_264) (by decide) (by decide)
  replace G := o_istore (q := 270) (l' := #[.val (.int i0), .val (.int i1), .val (.int 1), .val (.int 0), .val (.int 1), .val (.int 2), .val (.int 2), .val (.int 1), .val (.int 1), .val (.int 0), .val (.ref b264), .val (.ref b410), .val (.int 1), .val (.int 2), .val (.int 0), .val (.int 1)]) G X435.here hx (hb hby at_268) rfl rfl
  replace G := o_iload (q := 272) G X435.here hx (hb hby at_270) rfl rfl
  replace G := o_ifNo (q := 275) G X435.here hx (hb hby at_272) (by decide) rfl
  replace G := o_aload (q := 277) G X435.here hx (hb hby at_275) rfl rfl rfl
  replace G := o_iload (q := 279) G X435.here hx (hb hby at_277) rfl rfl
  replace G := o_iload (q := 281) G X435.here hx (hb hby at_279) rfl rfl
  have F449 := (((V421.keep K422q (ninS (Ne.symm ne415) (ninS (Ne.symm ne412) (ninS (Ne.symm ne411) nin0)))).keep K432q (ninS (Ne.symm ne415) (ninS (Ne.symm ne412) (ninS (Ne.symm ne411) nin0)))).keep K435q (ninS (Ne.symm ne415) (ninS (Ne.symm ne412) (ninS (Ne.symm ne411) nin0))))
  obtain ⟨_, _, ⟨T448, L448, kk448, nn448⟩, -, X448, ⟨Lc448, hQ448, l448, y448, z448⟩, st448⟩ := Jvm.LawKit.callS X435 hx (y := (⟨o_n1, "before", "([III)Z"⟩ : MethodName)) hown (mvT hZ (o_w hw 56 rfl)) (mvT hZ (o_w hw 57 rfl)) (mvT hZ (o_w hw 58 rfl)) (mvT hZ (o_w hw 59 rfl)) (by decide) (backOf (W := 0) (rm10 l Z a0 hw [] b410 (1 : Int32) (2 : Int32) k410 [(.int 0), (.int 1), (.int 1)] (1 : Int32) (1 : Int32) T435.heap n0 Z435 F449 ⟨by decide, by decide⟩ ⟨by decide, by decide⟩ rfl rfl) hZ (o_w hw 59 rfl) (o_w hw 58 rfl) (by decide) (by decide)) (g := o_g G) rfl (by rw [hml]; rfl) (argsL := [(.ref b410), (.int 1), (.int 2)]) (rest := []) (lenOf pd_4 rfl) rfl (by show 2 * 0 + _ ≤ _; exact Nat.le_of_eq rfl) (hb hby at_281) (fun _ _ => ⟨rfl, rfl, (by decide : 5 + 0 ≤ _), (by decide : 17 + 0 ≤ _)⟩)
  dsimp only [Pt.U, Pt.locs, Pt.cells, Pt.slots] at X448 l448 y448 z448 st448 hQ448
  subst l448 y448 z448
  obtain ⟨rfl, N448q, e448⟩ := hQ448
  have N448 := Fr.app N435 N448q
  replace G := o_nxs (q := 284) (st := [(.int (o_lb (1 : Int32) (1 : Int32) (1 : Int32) (2 : Int32)))]) G st448 rfl
  replace G := o_ifNo (q := 287) G X448.here hx (hb hby at_284) (by decide) rfl
  replace G := o_aload (q := 289) G X448.here hx (hb hby at_287) rfl rfl rfl
  replace G := o_iload (q := 291) G X448.here hx (hb hby at_289) rfl rfl
  replace G := o_iload (q := 293) G X448.here hx (hb hby at_291) rfl rfl
  obtain ⟨_, _, ⟨T451, L451, kk451, nn451⟩, -, X451, ⟨Lc451, hQ451, l451, y451, z451⟩, st451⟩ := Jvm.LawKit.callS X448 hx (y := (⟨o_n1, "before", "([III)Z"⟩ : MethodName)) hown (mvT hZ (o_w hw 56 rfl)) (mvT hZ (o_w hw 57 rfl)) (mvT hZ (o_w hw 58 rfl)) (mvT hZ (o_w hw 59 rfl)) (by decide) (backOf (W := 0) (rm10 l Z a0 hw [] b410 (2 : Int32) (0 : Int32) k410 [(.int 0), (.int 1), (.int 1)] (1 : Int32) (0 : Int32) T435.heap n0 Z435 F449 ⟨by decide, by decide⟩ ⟨by decide, by decide⟩ rfl rfl) hZ (o_w hw 59 rfl) (o_w hw 58 rfl) (by decide) (by decide)) (g := o_g G) rfl (by rw [hml]; rfl) (argsL := [(.ref b410), (.int 2), (.int 0)]) (rest := []) (lenOf pd_4 rfl) rfl (by show 2 * 0 + _ ≤ _; exact Nat.le_of_eq rfl) (hb hby at_293) (fun _ _ => ⟨rfl, e448, (by decide : 5 + 0 ≤ _), (by decide : 17 + 0 ≤ _)⟩)
  dsimp only [Pt.U, Pt.locs, Pt.cells, Pt.slots] at X451 l451 y451 z451 st451 hQ451
  subst l451 y451 z451
  obtain ⟨rfl, N451q, e451⟩ := hQ451
  have N451 := Fr.app N448 N451q
  replace G := o_nxs (q := 296) (st := [(.int (o_lb (1 : Int32) (0 : Int32) (2 : Int32) (0 : Int32)))]) G st451 rfl
  replace G := o_ifNo (q := 299) G X451.here hx (hb hby at_296) (by decide) rfl
  replace G := o_aload (q := 301) G X451.here hx (hb hby at_299) rfl rfl rfl
  have F454 := (F436.keep K435q)
  obtain ⟨T453, _, Lc453, X453, hQ453, G⟩ := o_vb (q := 304) (W := 0) (argsL := []) (rest := []) (y := (⟨o_n0, "isEmpty", "()Z"⟩ : MethodName)) G X451 hx hZ hown (by rw [hml]; rfl) ⟨(o_w hw 60 rfl), (o_w hw 61 rfl), (o_w hw 63 rfl), (o_w hw 62 rfl), (o_w hw 64 rfl), (o_w hw 3 rfl)⟩ (by decide) e451 F454 (rm11 l Z a0 hw [] b264 T435.heap n0 Z435 B435_3) (lenOf pd_5 rfl) rfl (Nat.le_of_eq rfl) (hb hby at_301) rfl (by decide) (by decide) (by decide) (by decide)
  obtain ⟨rfl, N453q, e453⟩ := hQ453
  have N453 := Fr.app N451 N453q
  replace G := o_re (st := [(.int 1)]) G rfl
  replace G := o_ifNo (q := 307) G X453.here hx (hb hby at_304) (by decide) rfl
  replace G := o_iconst (q := 308) G X453.here hx (hb hby at_307) (v := (1 : Int32)) (by decide) rfl
  replace G := o_goto (q := 312) G X453.here hx (hb hby at_308) (by decide) (by decide)
  obtain ⟨fs, hr, hrun, hended, hW, hsame⟩ := X453.leave (v := some (.int 1)) (fun h => by rw [Bd.returns] at h; cases h)
  refine ⟨_, _, G _ (retOut X453 hx Bd.returns rfl (Or.inl ⟨rfl, Or.inr (Or.inl rfl), _, rfl⟩) (hb hby at_312) hr), hrun, hended, _, _, rfl, ?_, ⟨_, rfl⟩, hW, hsame.mono (by decide) (by decide)⟩
  show Q0 Z i0 i1 h0 n0 _ T453.heap _
  rw [e453]
  exact ⟨rfl, N453⟩
  replace G := o_iload (q := 127) G X398.here hx (hb hby at_125) rfl rfl
  replace G := o_ifNo (q := 130) G X398.here hx (hb hby at_127) (by decide) rfl
  replace G := o_aload (q := 132) G X398.here hx (hb hby at_130) rfl rfl rfl
  have F458 := (F399.keep K398q)
  have F459 := (B391_0.keep K398q (ninS ne266 (ninS ne267 (ninS ne268 nin0))))
  have F460 := (B391_1.keep K398q (ninS ne266 (ninS ne267 (ninS ne268 nin0))))
  have F461 := (B391_2.keep K398q (ninS ne266 (ninS ne267 (ninS ne268 nin0))))
  have F462 := (B391_3.keep K398q (ninS ne266 (ninS ne267 (ninS ne268 nin0))))
  have F463 := (B391_4.keep K398q (ninS ne266 (ninS ne267 (ninS ne268 nin0))))
  obtain ⟨T457, _, Lc457, X457, hQ457, G⟩ := o_vb (q := 135) (W := 0) (argsL := []) (rest := []) (y := (⟨o_n0, "decay", "()V"⟩ : MethodName)) G X398 hx hZ hown (by rw [hml]; rfl) ⟨(o_w hw 41 rfl), (o_w hw 42 rfl), (o_w hw 44 rfl), (o_w hw 43 rfl), (o_w hw 45 rfl), (o_w hw 3 rfl)⟩ (by decide) rfl F458 (rm7 l Z a0 hw [] b264 va_265 vh_265 vx_265 o_d1 o_d2 (3 : Int32) T398.heap n0 Z398 F458 F459 F460 F461 F462 F463 ge_b264 (by decide +kernel) (o_nan (by decide +kernel))) (lenOf pd_6 rfl) rfl (Nat.le_of_eq rfl) (hb hby at_132) rfl (by decide) (by decide) (by decide) (by decide)
  obtain ⟨rfl, N457q, K457q, B457_0, B457_1, B457_2, B457_3, B457_4⟩ := hQ457
  have Z457 : n0 ≤ T457.heap.size := Nat.le_trans Z398 K457q.1
  have N457 := Fr.app N398 N457q
  replace G := o_re (st := []) G rfl
  replace G := o_aload (q := 137) G X457.here hx (hb hby at_135) rfl rfl rfl
  replace G := o_iload (q := 139) G X457.here hx (hb hby at_137) rfl rfl
  have F465 := (F458.keep K457q)
  have F466 := (B398_0.keep K457q (ninS (Ne.symm ne266) nin0))
  have F467 := (B398_1.keep K457q (ninS (Ne.symm ne267) nin0))
  have F468 := (B398_2.keep K457q (ninS (Ne.symm ne268) nin0))
  obtain ⟨T464, _, Lc464, X464, hQ464, G⟩ := o_vb (q := 142) (W := 0) (argsL := [(.int 1)]) (rest := []) (y := (⟨o_n0, "bump", "(I)V"⟩ : MethodName)) G X457 hx hZ hown (by rw [hml]; rfl) ⟨(o_w hw 35 rfl), (o_w hw 36 rfl), (o_w hw 38 rfl), (o_w hw 37 rfl), (o_w hw 39 rfl), (o_w hw 3 rfl)⟩ (by decide) rfl F465 (rm6f1t l Z a0 hw [] b264 (1 : Int32) va_265 vh_265 vx_265 ka_265 kh_265 kx_265 (2 : Int32) (1 : Int32) (0 : Int32) [(.double o_d0), (.double 0), (.double o_d1)] [(.int 2), (.int 1), (.int 0)] [(.int 2), (.int 0), (.int 1)] o_d2 [(.double o_d0), (.double o_d2), (.double o_d1)] (0 : UInt64) o_d2 o_d1 o_d2 T457.heap n0 Z457 F465 B457_0 B457_1 B457_2 B457_4 F466 F467 F468 ge_va_265 ge_vh_265 ge_vx_265 ne266 ne267 ne268 B265_8 B265_9 B265_10 ⟨by decide, by decide⟩ ⟨by decide, by decide⟩ ⟨by decide, by decide⟩ rfl rfl rfl rfl (by decide +kernel) (o_nan (by decide +kernel)) (by decide +kernel) rfl rfl rfl rfl (by decide +kernel) rfl) (lenOf pd_1 rfl) rfl (Nat.le_of_eq rfl) (hb hby at_139) rfl (by decide) (by decide) (by decide) (by decide)
  obtain ⟨rfl, N464q, K464q, B464_0, B464_1, B464_2⟩ := hQ464
  have Z464 : n0 ≤ T464.heap.size := Nat.le_trans Z457 K464q.1
  have N464 := Fr.app N457 N464q
  replace G := o_re (st := []) G rfl
  replace G := o_iconst (q := 143) G X464.here hx (hb hby at_142) (v := (3 : Int32)) (by decide) rfl
  obtain ⟨T469, h469, k469, X469, e469, E469, A469, st469⟩ := newP X464 hx hZ (o_w hw 15 rfl) rfl (g := o_g G) rfl (hb hby at_143) rfl (by decide) (cap := 3) (by decide) (by decide) (by decide) (by decide)
  obtain ⟨b469, g469⟩ : ∃ z, z = T464.heap.size := ⟨_, rfl⟩
  rw [← g469] at A469 st469
  have ne470 : vx_265 ≠ b469 := Nat.ne_of_lt (Nat.lt_of_lt_of_le B464_2.lt (Nat.le_of_eq g469.symm))
  have ne471 : vh_265 ≠ b469 := Nat.ne_of_lt (Nat.lt_of_lt_of_le B464_1.lt (Nat.le_of_eq g469.symm))
  have ne472 : va_265 ≠ b469 := Nat.ne_of_lt (Nat.lt_of_lt_of_le B464_0.lt (Nat.le_of_eq g469.symm))
  have F473 := (B457_4.keep K464q (ninS ne266 (ninS ne267 (ninS ne268 nin0))))
  have ne474 : b264 ≠ b469 := Nat.ne_of_lt (Nat.lt_of_lt_of_le F473.lt (Nat.le_of_eq g469.symm))
  have ge_b469 : n0 ≤ b469 := Nat.le_trans Z464 (Nat.le_of_eq g469.symm)
  have Z469 : n0 ≤ h469.size := Nat.le_trans Z464 E469.1
  have V469 : Arv Z h469 b469 k469 .int 3 [(.int 0), (.int 0), (.int 0)] (.int 0) := (Arv.new A469 (by decide)).pad (pad_rep [] (.int 0) 3)
  replace G := o_nxs (q := 145) (st := [(.ref b469)]) G st469 rfl
  replace G := o_astore (q := 147) (l' := #[.val (.int i0), .val (.int i1), .val (.int 1), .val (.int 0), .val (.int 1), .val (.int 2), .val (.int 2), .val (.int 1), .val (.int 1), .val (.int 1), .val (.ref b264), .val (.ref b469), .unset, .unset, .unset, .unset]) G X469.here hx (hb hby at_145) rfl rfl rfl
  replace G := o_aload (q := 149) G X469.here hx (hb hby at_147) rfl rfl rfl
  replace G := o_iloadN (q := 150) G X469.here hx (hb hby at_149) rfl rfl
  replace G := o_iconst (q := 151) G X469.here hx (hb hby at_150) (v := (0 : Int32)) (by decide) rfl
  obtain ⟨c475, Ar475, q475, S475, N475', H475, G475'⟩ := id V469
  have hin475 : ¬ ((0 : Int32) < 0 ∨ c475.slots.size ≤ ((0 : Int32)).toNatClampNeg) := inb_of S475 ⟨by decide, by decide⟩
  obtain ⟨T475, h475, X475, e475, W475, st475⟩ := stI X469 hx hZ e469 Ar475 (j := (0 : Int32)) hin475 (g := o_g G) rfl rfl (hb hby at_151)
  have N475 := Fr.snoc X475 N464 ge_b469
  have Z475 : n0 ≤ h475.size := Nat.le_trans Z469 (Keep.of_wr W475).1
  have V475 : Arv Z h475 b469 k469 .int 3 [(.int 0), (.int 0), (.int 0)] (.int 0) := Arv.set Ar475 q475 S475 N475' H475 G475' rfl W475 0 rfl (Nat.le_of_ble_eq_true rfl)
  replace G := o_nxs (q := 152) (st := []) G st475 rfl
  replace G := o_aload (q := 154) G X475.here hx (hb hby at_152) rfl rfl rfl
  replace G := o_iload (q := 156) G X475.here hx (hb hby at_154) rfl rfl
  replace G := o_iload (q := 158) G X475.here hx (hb hby at_156) rfl rfl
  replace G := o_ifNo (q := 161) G X475.here hx (hb hby at_158) (by decide) rfl
  replace G := o_iconst (q := 162) G X475.here hx (hb hby at_161) (v := (1 : Int32)) (by decide) rfl
  replace G := o_goto (q := 166) G X475.here hx (hb hby at_162) (by decide) (by decide)
  obtain ⟨c477, Ar477, q477, S477, N477', H477, G477'⟩ := id V475
  have hin477 : ¬ ((2 : Int32) < 0 ∨ c477.slots.size ≤ ((2 : Int32)).toNatClampNeg) := inb_of S477 ⟨by decide, by decide⟩
  obtain ⟨T477, h477, X477, e477, W477, st477⟩ := stI X475 hx hZ e475 Ar477 (j := (2 : Int32)) hin477 (g := o_g G) rfl rfl (hb hby at_166)
  have N477 := Fr.snoc X477 N475 ge_b469
  have Z477 : n0 ≤ h477.size := Nat.le_trans Z475 (Keep.of_wr W477).1
  have V477 : Arv Z h477 b469 k469 .int 3 [(.int 0), (.int 0), (.int 1)] (.int 0) := Arv.set Ar477 q477 S477 N477' H477 G477' rfl W477 2 rfl (Nat.le_of_ble_eq_true rfl)
  replace G := o_nxs (q := 167) (st := []) G st477 rfl
  replace G := o_aload (q := 169) G X477.here hx (hb hby at_167) rfl rfl rfl
  replace G := o_iload (q := 171) G X477.here hx (hb hby at_169) rfl rfl
  replace G := o_aload (q := 173) G X477.here hx (hb hby at_171) rfl rfl rfl
  replace G := o_iload (q := 175) G X477.here hx (hb hby at_173) rfl rfl
  obtain ⟨c478, Ar478, -, S478, -, H478, -⟩ := id V477
  have hin478 : ¬ ((2 : Int32) < 0 ∨ c478.slots.size ≤ ((2 : Int32)).toNatClampNeg) := inb_of S478 ⟨by decide, by decide⟩
  replace G := o_nxs (q := 176) (st := [(.int 1), (.int 1), (.ref b469)]) G (X477.iaload hx (j := (2 : Int32)) (v := (.int 1)) (by rw [e477]; exact Ar478.1) (State.isArrayOf_alike hZ.alike Ar478.2.1) Ar478.2.2 hin478 (Has.at H478 hin478 rfl) (g := o_g G) rfl rfl (hb hby at_175)) rfl
  replace G := o_iload (q := 178) G X477.here hx (hb hby at_176) rfl rfl
  replace G := o_ifNo (q := 181) G X477.here hx (hb hby at_178) (by decide) rfl
  replace G := o_iconst (q := 182) G X477.here hx (hb hby at_181) (v := (1 : Int32)) (by decide) rfl
  replace G := o_goto (q := 186) G X477.here hx (hb hby at_182) (by decide) (by decide)
  replace G := o_iadd (q := 187) G X477.here hx (hb hby at_186) (by decide : ((1 : Int32) + (1 : Int32)) = (2 : Int32)) rfl
  obtain ⟨c480, Ar480, q480, S480, N480', H480, G480'⟩ := id V477
  have hin480 : ¬ ((1 : Int32) < 0 ∨ c480.slots.size ≤ ((1 : Int32)).toNatClampNeg) := inb_of S480 ⟨by decide, by decide⟩
  obtain ⟨T480, h480, X480, e480, W480, st480⟩ := stI X477 hx hZ e477 Ar480 (j := (1 : Int32)) hin480 (g := o_g G) rfl rfl (hb hby at_187)
  have N480 := Fr.snoc X480 N477 ge_b469
  have Z480 : n0 ≤ h480.size := Nat.le_trans Z477 (Keep.of_wr W480).1
  have V480 : Arv Z h480 b469 k469 .int 3 [(.int 0), (.int 2), (.int 1)] (.int 0) := Arv.set Ar480 q480 S480 N480' H480 G480' rfl W480 1 rfl (Nat.le_of_ble_eq_true rfl)
  replace G := o_nxs (q := 188) (st := []) G st480 rfl
  replace G := o_aload (q := 190) G X480.here hx (hb hby at_188) rfl rfl rfl
  have F482 := (((((F465.keep K464q).ext E469).wr W475).wr W477).wr W480)
  have F483 := (((((B457_0.keep K464q (ninS ne266 (ninS ne267 (ninS ne268 nin0)))).ext E469).other W475 (Or.inl ne474)).other W477 (Or.inl ne474)).other W480 (Or.inl ne474))
  have F484 := (((((B457_1.keep K464q (ninS ne266 (ninS ne267 (ninS ne268 nin0)))).ext E469).other W475 (Or.inl ne474)).other W477 (Or.inl ne474)).other W480 (Or.inl ne474))
  have F485 := (((((B457_2.keep K464q (ninS ne266 (ninS ne267 (ninS ne268 nin0)))).ext E469).other W475 (Or.inl ne474)).other W477 (Or.inl ne474)).other W480 (Or.inl ne474))
  have F486 := (((((B457_3.keep K464q (ninS ne266 (ninS ne267 (ninS ne268 nin0)))).ext E469).other W475 (Or.inl ne474)).other W477 (Or.inl ne474)).other W480 (Or.inl ne474))
  have F487 := ((((F473.ext E469).other W475 (Or.inl ne474)).other W477 (Or.inl ne474)).other W480 (Or.inl ne474))
  have F488 := ((((B464_0.ext E469).other W475 ne472).other W477 ne472).other W480 ne472)
  have F489 := ((((B464_1.ext E469).other W475 ne471).other W477 ne471).other W480 ne471)
  have F490 := ((((B464_2.ext E469).other W475 ne470).other W477 ne470).other W480 ne470)
  obtain ⟨T481, _, Lc481, X481, hQ481, G⟩ := o_vb (q := 193) (W := 0) (argsL := []) (rest := []) (y := (⟨o_n0, "takeFirst", "()I"⟩ : MethodName)) G X480 hx hZ hown (by rw [hml]; rfl) ⟨(o_w hw 47 rfl), (o_w hw 48 rfl), (o_w hw 50 rfl), (o_w hw 49 rfl), (o_w hw 51 rfl), (o_w hw 3 rfl)⟩ (by decide) e480 F482 (rm8n3t l Z a0 hw [] b264 va_265 vh_265 vx_265 ka_265 kh_265 kx_265 (1 : Int32) (2 : Int32) (0 : Int32) [(.double o_d0), (.double o_d2), (.double o_d1)] [(.int 2), (.int 0), (.int 1)] [(.int 1), (.int (-1)), (.int 0)] o_d2 o_d0 o_d1 h480 n0 Z480 F482 F483 F484 F485 F486 F487 F488 F489 F490 ge_b264 ge_vh_265 ge_vx_265 ne266 ne267 ne268 B265_8 B265_9 B265_10 ⟨by decide, by decide⟩ ⟨by decide, by decide⟩ ⟨by decide, by decide⟩ rfl rfl rfl (by decide +kernel) rfl) (lenOf pd_3 rfl) rfl (Nat.le_of_eq rfl) (hb hby at_190) rfl (by decide) (by decide) (by decide) (by decide)
  obtain ⟨rfl, N481q, K481q, B481_0, B481_1, B481_2, B481_3, B481_4, B481_5, B481_6⟩ := hQ481
  have Z481 : n0 ≤ T481.heap.size := Nat.le_trans Z480 K481q.1
  have N481 := Fr.app N480 N481q
  replace G := o_re (st := [(.int 1)]) G rfl
  replace G := o_istore (q := 195) (l' := #[.val (.int i0), .val (.int i1), .val (.int 1), .val (.int 0), .val (.int 1), .val (.int 2), .val (.int 2), .val (.int 1), .val (.int 1), .val (.int 1), .val (.ref b264), .val (.ref b469), .val (.int 1), .unset, .unset, .unset]) G X481.here hx (hb hby at_193) rfl rfl
  replace G := o_aload (q := 197) G X481.here hx (hb hby at_195) rfl rfl rfl
  have F492 := (F482.keep K481q)
  have F493 := (F488.keep K481q (ninS (Ne.symm ne266) (ninS B265_8 (ninS B265_9 nin0))))
  obtain ⟨T491, _, Lc491, X491, hQ491, G⟩ := o_vb (q := 200) (W := 0) (argsL := []) (rest := []) (y := (⟨o_n0, "takeFirst", "()I"⟩ : MethodName)) G X481 hx hZ hown (by rw [hml]; rfl) ⟨(o_w hw 47 rfl), (o_w hw 48 rfl), (o_w hw 50 rfl), (o_w hw 49 rfl), (o_w hw 51 rfl), (o_w hw 3 rfl)⟩ (by decide) rfl F492 (rm8n2 l Z a0 hw [] b264 va_265 vh_265 vx_265 ka_265 kh_265 kx_265 (2 : Int32) (0 : Int32) (0 : Int32) [(.double o_d0), (.double o_d2), (.double o_d1)] [(.int 1), (.int (-1)), (.int 0)] [(.int 0), (.int (-1)), (.int (-1))] o_d2 T481.heap n0 Z481 F492 B481_0 B481_1 B481_2 B481_3 B481_4 F493 B481_5 B481_6 ge_b264 ge_vh_265 ge_vx_265 ne266 ne267 ne268 B265_8 B265_9 B265_10 ⟨by decide, by decide⟩ ⟨by decide, by decide⟩ rfl rfl) (lenOf pd_3 rfl) rfl (Nat.le_of_eq rfl) (hb hby at_197) rfl (by decide) (by decide) (by decide) (by decide)
  obtain ⟨rfl, N491q, K491q, B491_0, B491_1, B491_2, B491_3, B491_4, B491_5, B491_6⟩ := hQ491
  have Z491 : n0 ≤ T491.heap.size := Nat.le_trans Z481 K491q.1
  have N491 := Fr.app N481 N491q
  replace G := o_re (st := [(.int 2)]) G rfl
  replace G := o_istore (q := 202) (l' := #[.val (.int i0), .val (.int i1), .val (.int 1), .val (.int 0), .val (.int 1), .val (.int 2), .val (.int 2), .val (.int 1), .val (.int 1), .val (.int 1), .val (.ref b264), .val (.ref b469), .val (.int 1), .val (.int 2), .unset, .unset]) G X491.here hx (hb hby at_200) rfl rfl
  replace G := o_aload (q := 204) G X491.here hx (hb hby at_202) rfl rfl rfl
  have F495 := (F492.keep K491q)
  have F496 := (F493.keep K491q (ninS (Ne.symm ne266) (ninS B265_8 (ninS B265_9 nin0))))
  obtain ⟨T494, _, Lc494, X494, hQ494, G⟩ := o_vb (q := 207) (W := 0) (argsL := []) (rest := []) (y := (⟨o_n0, "takeFirst", "()I"⟩ : MethodName)) G X491 hx hZ hown (by rw [hml]; rfl) ⟨(o_w hw 47 rfl), (o_w hw 48 rfl), (o_w hw 50 rfl), (o_w hw 49 rfl), (o_w hw 51 rfl), (o_w hw 3 rfl)⟩ (by decide) rfl F495 (rm8n1 l Z a0 hw [] b264 va_265 vh_265 vx_265 ka_265 kh_265 kx_265 (0 : Int32) (0 : Int32) (0 : Int32) [(.double o_d0), (.double o_d2), (.double o_d1)] [(.int 0), (.int (-1)), (.int (-1))] [(.int (-1)), (.int (-1)), (.int (-1))] o_d2 T491.heap n0 Z491 F495 B491_0 B491_1 B491_2 B491_3 B491_4 F496 B491_5 B491_6 ge_b264 ge_vh_265 ge_vx_265 ne266 ne267 ne268 B265_8 B265_9 B265_10 ⟨by decide, by decide⟩ rfl rfl) (lenOf pd_3 rfl) rfl (Nat.le_of_eq rfl) (hb hby at_204) rfl (by decide) (by decide) (by decide) (by decide)
  obtain ⟨rfl, N494q, K494q, B494_0, B494_1, B494_2, B494_3, B494_4, B494_5, B494_6⟩ := hQ494
  have Z494 : n0 ≤ T494.heap.size := Nat.le_trans Z491 K494q.1
  have N494 := Fr.app N491 N494q
  replace G := o_re (st := [(.int 0)]) G rfl
  replace G := o_istore (q := 209) (l' := #[.val (.int i0), .val (.int i1), .val (.int 1), .val (.int 0), .val (.int 1), .val (.int 2), .val (.int 2), .val (.int 1), .val (.int 1), .val (.int 1), .val (.ref b264), .val (.ref b469), .val (.int 1), .val (.int 2), .val (.int 0), .unset]) G X494.here hx (hb hby at_207) rfl rfl
  replace G := o_iload (q := 211) G X494.here hx (hb hby at_209) rfl rfl
  replace G := o_ifNo (q := 214) G X494.here hx (hb hby at_211) (by decide) rfl
  replace G := o_iload (q := 216) G X494.here hx (hb hby at_214) rfl rfl
  replace G := o_iconst (q := 217) G X494.here hx (hb hby at_216) (v := (3 : Int32)) (by decide) rfl
  replace G := o_icmpNo (q := 220) G X494.here hx (hb hby at_217) (by decide) rfl
  replace G := o_iload (q := 222) G X494.here hx (hb hby at_220) rfl rfl
  replace G := o_ifNo (q := 225) G X494.here hx (hb hby at_222) (by decide) rfl
  replace G := o_iload (q := 227) G X494.here hx (hb hby at_225) rfl rfl
  replace G := o_iconst (q := 228) G X494.here hx (hb hby at_227) (v := (3 : Int32)) (by decide) rfl
  replace G := o_icmpNo (q := 231) G X494.here hx (hb hby at_228) (by decide) rfl
  replace G := o_iload (q := 233) G X494.here hx (hb hby at_231) rfl rfl
  replace G := o_ifNo (q := 236) G X494.here hx (hb hby at_233) (by decide) rfl
  replace G := o_iload (q := 238) G X494.here hx (hb hby at_236) rfl rfl
  replace G := o_iconst (q := 239) G X494.here hx (hb hby at_238) (v := (3 : Int32)) (by decide) rfl
  replace G := o_icmpNo (q := 242) G X494.here hx (hb hby at_239) (by decide) rfl
  replace G := o_iload (q := 244) G X494.here hx (hb hby at_242) rfl rfl
  replace G := o_iload (q := 246) G X494.here hx (hb hby at_244) rfl rfl
  replace G := o_icmpNo (q := 249) G X494.here hx (hb hby at_246) (by decide) rfl
  replace G := o_iload (q := 251) G X494.here hx (hb hby at_249) rfl rfl
  replace G := o_iload (q := 253) G X494.here hx (hb hby at_251) rfl rfl
  replace G := o_icmpNo (q := 256) G X494.here hx (hb hby at_253) (by decide) rfl
  replace G := o_iload (q := 258) G X494.here hx (hb hby at_256) rfl rfl
  replace G := o_iload (q := 260) G X494.here hx (hb hby at_258) rfl rfl
  replace G := o_icmpNo (q := 263) G X494.here hx (hb hby at_260) (by decide) rfl
  replace G := o_iconst (q := 264) G X494.here hx (hb hby at_263) (v := (1 : Int32)) (by decide) rfl
  replace G := o_goto (q := 268) G X494.here hx (hb hby at_264) (by decide) (by decide)
  replace G := o_istore (q := 270) (l' := #[.val (.int i0), .val (.int i1), .val (.int 1), .val (.int 0), .val (.int 1), .val (.int 2), .val (.int 2), .val (.int 1), .val (.int 1), .val (.int 1), .val (.ref b264), .val (.ref b469), .val (.int 1), .val (.int 2), .val (.int 0), .val (.int 1)]) G X494.here hx (hb hby at_268) rfl rfl
  replace G := o_iload (q := 272) G X494.here hx (hb hby at_270) rfl rfl
  replace G := o_ifNo (q := 275) G X494.here hx (hb hby at_272) (by decide) rfl
  replace G := o_aload (q := 277) G X494.here hx (hb hby at_275) rfl rfl rfl
  replace G := o_iload (q := 279) G X494.here hx (hb hby at_277) rfl rfl
  replace G := o_iload (q := 281) G X494.here hx (hb hby at_279) rfl rfl
  have F508 := (((V480.keep K481q (ninS (Ne.symm ne474) (ninS (Ne.symm ne471) (ninS (Ne.symm ne470) nin0)))).keep K491q (ninS (Ne.symm ne474) (ninS (Ne.symm ne471) (ninS (Ne.symm ne470) nin0)))).keep K494q (ninS (Ne.symm ne474) (ninS (Ne.symm ne471) (ninS (Ne.symm ne470) nin0))))
  obtain ⟨_, _, ⟨T507, L507, kk507, nn507⟩, -, X507, ⟨Lc507, hQ507, l507, y507, z507⟩, st507⟩ := Jvm.LawKit.callS X494 hx (y := (⟨o_n1, "before", "([III)Z"⟩ : MethodName)) hown (mvT hZ (o_w hw 56 rfl)) (mvT hZ (o_w hw 57 rfl)) (mvT hZ (o_w hw 58 rfl)) (mvT hZ (o_w hw 59 rfl)) (by decide) (backOf (W := 0) (rm10 l Z a0 hw [] b469 (1 : Int32) (2 : Int32) k469 [(.int 0), (.int 2), (.int 1)] (2 : Int32) (1 : Int32) T494.heap n0 Z494 F508 ⟨by decide, by decide⟩ ⟨by decide, by decide⟩ rfl rfl) hZ (o_w hw 59 rfl) (o_w hw 58 rfl) (by decide) (by decide)) (g := o_g G) rfl (by rw [hml]; rfl) (argsL := [(.ref b469), (.int 1), (.int 2)]) (rest := []) (lenOf pd_4 rfl) rfl (by show 2 * 0 + _ ≤ _; exact Nat.le_of_eq rfl) (hb hby at_281) (fun _ _ => ⟨rfl, rfl, (by decide : 5 + 0 ≤ _), (by decide : 17 + 0 ≤ _)⟩)
  dsimp only [Pt.U, Pt.locs, Pt.cells, Pt.slots] at X507 l507 y507 z507 st507 hQ507
  subst l507 y507 z507
  obtain ⟨rfl, N507q, e507⟩ := hQ507
  have N507 := Fr.app N494 N507q
  replace G := o_nxs (q := 284) (st := [(.int (o_lb (2 : Int32) (1 : Int32) (1 : Int32) (2 : Int32)))]) G st507 rfl
  replace G := o_ifNo (q := 287) G X507.here hx (hb hby at_284) (by decide) rfl
  replace G := o_aload (q := 289) G X507.here hx (hb hby at_287) rfl rfl rfl
  replace G := o_iload (q := 291) G X507.here hx (hb hby at_289) rfl rfl
  replace G := o_iload (q := 293) G X507.here hx (hb hby at_291) rfl rfl
  obtain ⟨_, _, ⟨T510, L510, kk510, nn510⟩, -, X510, ⟨Lc510, hQ510, l510, y510, z510⟩, st510⟩ := Jvm.LawKit.callS X507 hx (y := (⟨o_n1, "before", "([III)Z"⟩ : MethodName)) hown (mvT hZ (o_w hw 56 rfl)) (mvT hZ (o_w hw 57 rfl)) (mvT hZ (o_w hw 58 rfl)) (mvT hZ (o_w hw 59 rfl)) (by decide) (backOf (W := 0) (rm10 l Z a0 hw [] b469 (2 : Int32) (0 : Int32) k469 [(.int 0), (.int 2), (.int 1)] (1 : Int32) (0 : Int32) T494.heap n0 Z494 F508 ⟨by decide, by decide⟩ ⟨by decide, by decide⟩ rfl rfl) hZ (o_w hw 59 rfl) (o_w hw 58 rfl) (by decide) (by decide)) (g := o_g G) rfl (by rw [hml]; rfl) (argsL := [(.ref b469), (.int 2), (.int 0)]) (rest := []) (lenOf pd_4 rfl) rfl (by show 2 * 0 + _ ≤ _; exact Nat.le_of_eq rfl) (hb hby at_293) (fun _ _ => ⟨rfl, e507, (by decide : 5 + 0 ≤ _), (by decide : 17 + 0 ≤ _)⟩)
  dsimp only [Pt.U, Pt.locs, Pt.cells, Pt.slots] at X510 l510 y510 z510 st510 hQ510
  subst l510 y510 z510
  obtain ⟨rfl, N510q, e510⟩ := hQ510
  have N510 := Fr.app N507 N510q
  replace G := o_nxs (q := 296) (st := [(.int (o_lb (1 : Int32) (0 : Int32) (2 : Int32) (0 : Int32)))]) G st510 rfl
  replace G := o_ifNo (q := 299) G X510.here hx (hb hby at_296) (by decide) rfl
  replace G := o_aload (q := 301) G X510.here hx (hb hby at_299) rfl rfl rfl
  have F513 := (F495.keep K494q)
  obtain ⟨T512, _, Lc512, X512, hQ512, G⟩ := o_vb (q := 304) (W := 0) (argsL := []) (rest := []) (y := (⟨o_n0, "isEmpty", "()Z"⟩ : MethodName)) G X510 hx hZ hown (by rw [hml]; rfl) ⟨(o_w hw 60 rfl), (o_w hw 61 rfl), (o_w hw 63 rfl), (o_w hw 62 rfl), (o_w hw 64 rfl), (o_w hw 3 rfl)⟩ (by decide) e510 F513 (rm11 l Z a0 hw [] b264 T494.heap n0 Z494 B494_3) (lenOf pd_5 rfl) rfl (Nat.le_of_eq rfl) (hb hby at_301) rfl (by decide) (by decide) (by decide) (by decide)
  obtain ⟨rfl, N512q, e512⟩ := hQ512
  have N512 := Fr.app N510 N512q
  replace G := o_re (st := [(.int 1)]) G rfl
  replace G := o_ifNo (q := 307) G X512.here hx (hb hby at_304) (by decide) rfl
  replace G := o_iconst (q := 308) G X512.here hx (hb hby at_307) (v := (1 : Int32)) (by decide) rfl
  replace G := o_goto (q := 312) G X512.here hx (hb hby at_308) (by decide) (by decide)
  obtain ⟨fs, hr, hrun, hended, hW, hsame⟩ := X512.leave (v := some (.int 1)) (fun h => by rw [Bd.returns] at h; cases h)
  refine ⟨_, _, G _ (retOut X512 hx Bd.returns rfl (Or.inl ⟨rfl, Or.inr (Or.inl rfl), _, rfl⟩) (hb hby at_312) hr), hrun, hended, _, _, rfl, ?_, ⟨_, rfl⟩, hW, hsame.mono (by decide) (by decide)⟩
  show Q0 Z i0 i1 h0 n0 _ T512.heap _
  rw [e512]
  exact ⟨rfl, N512⟩
  replace G := o_istoreN (q := 8) (l' := #[.val (.int i0), .val (.int i1), .val (.int 2), .unset, .unset, .unset, .unset, .unset, .unset, .unset, .unset, .unset, .unset, .unset, .unset, .unset]) G X0.here hx (hb hby at_7) rfl rfl
  replace G := o_iloadN (q := 9) G X0.here hx (hb hby at_8) rfl rfl
  replace G := o_iconst (q := 10) G X0.here hx (hb hby at_9) (v := (2 : Int32)) (by decide) rfl
  replace G := o_idiv (q := 11) G X0.here hx (hb hby at_10) (by decide) (by decide : ((2 : Int32) / (2 : Int32)) = (1 : Int32)) rfl
  replace G := o_istoreN (q := 12) (l' := #[.val (.int i0), .val (.int i1), .val (.int 2), .val (.int 1), .unset, .unset, .unset, .unset, .unset, .unset, .unset, .unset, .unset, .unset, .unset, .unset]) G X0.here hx (hb hby at_11) rfl rfl
  replace G := o_iloadN (q := 13) G X0.here hx (hb hby at_12) rfl rfl
  replace G := o_ifYes (q := 20) G X0.here hx (hb hby at_13) (by decide) (by decide) (by decide)
  replace G := o_iconst (q := 21) G X0.here hx (hb hby at_20) (v := (0 : Int32)) (by decide) rfl
  replace G := o_istore (q := 23) (l' := #[.val (.int i0), .val (.int i1), .val (.int 2), .val (.int 1), .val (.int 0), .unset, .unset, .unset, .unset, .unset, .unset, .unset, .unset, .unset, .unset, .unset]) G X0.here hx (hb hby at_21) rfl rfl
  replace G := o_iloadN (q := 24) G X0.here hx (hb hby at_23) rfl rfl
  replace G := o_iconst (q := 25) G X0.here hx (hb hby at_24) (v := (2 : Int32)) (by decide) rfl
  replace G := o_icmpYes (q := 32) G X0.here hx (hb hby at_25) (by decide) (by decide) (by decide)
  replace G := o_iconst (q := 33) G X0.here hx (hb hby at_32) (v := (2 : Int32)) (by decide) rfl
  replace G := o_istore (q := 35) (l' := #[.val (.int i0), .val (.int i1), .val (.int 2), .val (.int 1), .val (.int 0), .val (.int 2), .unset, .unset, .unset, .unset, .unset, .unset, .unset, .unset, .unset, .unset]) G X0.here hx (hb hby at_33) rfl rfl
  replace G := o_iloadN (q := 36) G X0.here hx (hb hby at_35) rfl rfl
  replace G := o_iconst (q := 37) G X0.here hx (hb hby at_36) (v := (1 : Int32)) (by decide) rfl
  replace G := o_iand (q := 38) G X0.here hx (hb hby at_37) (by decide : ((2 : Int32) &&& (1 : Int32)) = (0 : Int32)) rfl
  replace G := o_ifNo (q := 41) G X0.here hx (hb hby at_38) (by decide) rfl
  replace G := o_iload (q := 43) G X0.here hx (hb hby at_41) rfl rfl
  replace G := o_goto (q := 48) G X0.here hx (hb hby at_43) (by decide) (by decide)
  replace G := o_istore (q := 50) (l' := #[.val (.int i0), .val (.int i1), .val (.int 2), .val (.int 1), .val (.int 0), .val (.int 2), .val (.int 0), .unset, .unset, .unset, .unset, .unset, .unset, .unset, .unset, .unset]) G X0.here hx (hb hby at_48) rfl rfl
  replace G := o_iloadN (q := 51) G X0.here hx (hb hby at_50) rfl rfl
  replace G := o_iconst (q := 52) G X0.here hx (hb hby at_51) (v := (1 : Int32)) (by decide) rfl
  replace G := o_iand (q := 53) G X0.here hx (hb hby at_52) (by decide : ((2 : Int32) &&& (1 : Int32)) = (0 : Int32)) rfl
  replace G := o_ifNo (q := 56) G X0.here hx (hb hby at_53) (by decide) rfl
  replace G := o_iload (q := 58) G X0.here hx (hb hby at_56) rfl rfl
  replace G := o_goto (q := 63) G X0.here hx (hb hby at_58) (by decide) (by decide)
  replace G := o_istore (q := 65) (l' := #[.val (.int i0), .val (.int i1), .val (.int 2), .val (.int 1), .val (.int 0), .val (.int 2), .val (.int 0), .val (.int 2), .unset, .unset, .unset, .unset, .unset, .unset, .unset, .unset]) G X0.here hx (hb hby at_63) rfl rfl
  replace G := o_iloadN (q := 66) G X0.here hx (hb hby at_65) rfl rfl
  replace G := o_iconst (q := 67) G X0.here hx (hb hby at_66) (v := (1 : Int32)) (by decide) rfl
  obtain ⟨m1, hn_m1⟩ : ∃ z : Int32, (i1 &&& (1 : Int32)) = z := ⟨_, rfl⟩
  replace G := o_iand (q := 68) G X0.here hx (hb hby at_67) hn_m1 rfl
  replace G : Gets p e below (s₁.setTop (entryFrame m #[(.int i0), (.int i1)] maxLocals)) (s₁.setTop (mkF m 76 #[.val (.int i0), .val (.int i1), .val (.int 2), .val (.int 1), .val (.int 0), .val (.int 2), .val (.int 0), .val (.int 2), .unset, .unset, .unset, .unset, .unset, .unset, .unset, .unset] [(.int (if m1 = (0 : Int32) then (0 : Int32) else (1 : Int32)))])) := by
    by_cases hc68_519 : m1 = (0 : Int32)
    · replace G := o_ifYes (q := 75) G X0.here hx (hb hby at_68) ((if0 _ _).trans (teq hc68_519).1) (by decide) (by decide)
      replace G := o_iconst (q := 76) G X0.here hx (hb hby at_75) (v := (0 : Int32)) (by decide) rfl
      simp only [if_pos hc68_519]
      exact G
    · replace G := o_ifNo (q := 71) G X0.here hx (hb hby at_68) ((if0 _ _).trans (feq hc68_519).1) rfl
      replace G := o_iconst (q := 72) G X0.here hx (hb hby at_71) (v := (1 : Int32)) (by decide) rfl
      replace G := o_goto (q := 76) G X0.here hx (hb hby at_72) (by decide) (by decide)
      simp only [if_neg hc68_519]
      exact G
  obtain ⟨w1, hn_w1⟩ : ∃ z : Int32, (if m1 = (0 : Int32) then (0 : Int32) else (1 : Int32)) = z := ⟨_, rfl⟩
  rw [hn_w1] at G
  replace G := o_istore (q := 78) (l' := #[.val (.int i0), .val (.int i1), .val (.int 2), .val (.int 1), .val (.int 0), .val (.int 2), .val (.int 0), .val (.int 2), .val (.int w1), .unset, .unset, .unset, .unset, .unset, .unset, .unset]) G X0.here hx (hb hby at_76) rfl rfl
  replace G := o_iloadN (q := 79) G X0.here hx (hb hby at_78) rfl rfl
  replace G := o_iconst (q := 80) G X0.here hx (hb hby at_79) (v := (2 : Int32)) (by decide) rfl
  obtain ⟨m2, hn_m2⟩ : ∃ z : Int32, (i1 &&& (2 : Int32)) = z := ⟨_, rfl⟩
  replace G := o_iand (q := 81) G X0.here hx (hb hby at_80) hn_m2 rfl
  replace G : Gets p e below (s₁.setTop (entryFrame m #[(.int i0), (.int i1)] maxLocals)) (s₁.setTop (mkF m 89 #[.val (.int i0), .val (.int i1), .val (.int 2), .val (.int 1), .val (.int 0), .val (.int 2), .val (.int 0), .val (.int 2), .val (.int w1), .unset, .unset, .unset, .unset, .unset, .unset, .unset] [(.int (if m2 = (0 : Int32) then (0 : Int32) else (1 : Int32)))])) := by
    by_cases hc81_520 : m2 = (0 : Int32)
    · replace G := o_ifYes (q := 88) G X0.here hx (hb hby at_81) ((if0 _ _).trans (teq hc81_520).1) (by decide) (by decide)
      replace G := o_iconst (q := 89) G X0.here hx (hb hby at_88) (v := (0 : Int32)) (by decide) rfl
      simp only [if_pos hc81_520]
      exact G
    · replace G := o_ifNo (q := 84) G X0.here hx (hb hby at_81) ((if0 _ _).trans (feq hc81_520).1) rfl
      replace G := o_iconst (q := 85) G X0.here hx (hb hby at_84) (v := (1 : Int32)) (by decide) rfl
      replace G := o_goto (q := 89) G X0.here hx (hb hby at_85) (by decide) (by decide)
      simp only [if_neg hc81_520]
      exact G
  obtain ⟨w2, hn_w2⟩ : ∃ z : Int32, (if m2 = (0 : Int32) then (0 : Int32) else (1 : Int32)) = z := ⟨_, rfl⟩
  rw [hn_w2] at G
  replace G := o_istore (q := 91) (l' := #[.val (.int i0), .val (.int i1), .val (.int 2), .val (.int 1), .val (.int 0), .val (.int 2), .val (.int 0), .val (.int 2), .val (.int w1), .val (.int w2), .unset, .unset, .unset, .unset, .unset, .unset]) G X0.here hx (hb hby at_89) rfl rfl
  obtain ⟨T521, h521, X521, e521, E521, A521, D521, -, st521⟩ := newO X0 hx hZ hown (o_w hw 1 rfl) (o_w hw 2 rfl) (o_w hw 3 rfl) e0 (g := o_g G) rfl (hb hby at_91) (by decide) (by decide)
  obtain ⟨b521, g521⟩ : ∃ z, z = h0.size := ⟨_, rfl⟩
  rw [← g521] at A521 D521 st521
  have ge_b521 : n0 ≤ b521 := Nat.le_trans Z0 (Nat.le_of_eq g521.symm)
  have Z521 : n0 ≤ h521.size := Nat.le_trans Z0 E521.1
  have F521_bump : Fld Z h521 b521 o_n0 "bump" "D" (.double 0) := D521 (Or.inl (o_w hw 11 rfl)) (ty := .double) (by decide)
  have F521_activity : Fld Z h521 b521 o_n0 "activity" "[D" .null := D521 (Or.inr (o_w hw 14 rfl)) (ty := (.array .double)) (by decide)
  have F521_heap : Fld Z h521 b521 o_n0 "heap" "[I" .null := D521 (Or.inr (o_w hw 17 rfl)) (ty := (.array .int)) (by decide)
  have F521_heapIndex : Fld Z h521 b521 o_n0 "heapIndex" "[I" .null := D521 (Or.inr (o_w hw 19 rfl)) (ty := (.array .int)) (by decide)
  have F521_heapSize : Fld Z h521 b521 o_n0 "heapSize" "I" (.int 0) := D521 (Or.inl (o_w hw 26 rfl)) (ty := .int) (by decide)
  replace G := o_nxs (q := 94) (st := [(.ref b521)]) G st521 rfl
  replace G := o_dup (q := 95) G X521.here hx (hb hby at_94) rfl rfl
  replace G := o_iconst (q := 96) G X521.here hx (hb hby at_95) (v := (3 : Int32)) (by decide) rfl
  replace G := o_aconst_null (q := 97) G X521.here hx (hb hby at_96) rfl
  obtain ⟨_, _, ⟨T522, L522, kk522, nn522⟩, -, X522, ⟨Lc522, hQ522, l522, y522, z522⟩, st522⟩ := X521.specialBack hx (y := (⟨o_n0, "<init>", "(ILcom/example/gridwright/gridwright/core/SplitMix64;)V"⟩ : MethodName)) rfl hown (mvT hZ (o_w hw 4 rfl)) (mvT hZ (o_w hw 5 rfl)) (mvT hZ (o_w hw 6 rfl)) (by decide) (backOf (W := 1) (rm1 l Z a0 hw [] b521 h521 n0 Z521 A521 F521_activity F521_heap F521_heapIndex F521_heapSize F521_bump ge_b521) hZ (o_w hw 6 rfl) (o_w hw 3 rfl) (by decide) (by decide)) (g := o_g G) rfl (by rw [hml]; rfl) (Steps.refl _) (a := b521) (argsL := [(.int 3), .null]) (rest := [(.ref b521)]) (lenOf pd_2 rfl) rfl (by show 2 * 0 + _ ≤ _; exact Nat.le_of_eq rfl) (hb hby at_97) (fun _ _ => ⟨rfl, e521, (by decide : 1 + 3 ≤ _), (by decide : 5 + 9 ≤ _)⟩)
  dsimp only [Pt.U, Pt.locs, Pt.cells, Pt.slots] at X522 l522 y522 z522 st522 hQ522
  subst l522 y522 z522
  obtain ⟨va_522, vh_522, vx_522, ka_522, kh_522, kx_522, rfl, N522q, K522q, B522_0, B522_1, B522_2, B522_3, B522_4, B522_5, B522_6, B522_7, B522_8, B522_9, B522_10, B522_11, B522_12, B522_13⟩ := hQ522
  have ne523 : b521 ≠ va_522 := Nat.ne_of_lt (Nat.lt_of_lt_of_le F521_heapSize.lt B522_5)
  have ge_va_522 : n0 ≤ va_522 := Nat.le_trans Z521 B522_5
  have ne524 : b521 ≠ vh_522 := Nat.ne_of_lt (Nat.lt_of_lt_of_le F521_heapSize.lt B522_6)
  have ge_vh_522 : n0 ≤ vh_522 := Nat.le_trans Z521 B522_6
  have ne525 : b521 ≠ vx_522 := Nat.ne_of_lt (Nat.lt_of_lt_of_le F521_heapSize.lt B522_7)
  have ge_vx_522 : n0 ≤ vx_522 := Nat.le_trans Z521 B522_7
  have Z522 : n0 ≤ T522.heap.size := Nat.le_trans Z521 K522q.1
  have N522 := Fr.app N0 N522q
  replace G := o_nxv (q := 100) (st := [(.ref b521)]) G st522 rfl
  replace G := o_astore (q := 102) (l' := #[.val (.int i0), .val (.int i1), .val (.int 2), .val (.int 1), .val (.int 0), .val (.int 2), .val (.int 0), .val (.int 2), .val (.int w1), .val (.int w2), .val (.ref b521), .unset, .unset, .unset, .unset, .unset]) G X522.here hx (hb hby at_100) rfl rfl rfl
  replace G := o_aload (q := 104) G X522.here hx (hb hby at_102) rfl rfl rfl
  replace G := o_iloadN (q := 105) G X522.here hx (hb hby at_104) rfl rfl
  have F527 := (A521.keep K522q)
  obtain ⟨T526, _, Lc526, X526, hQ526, G⟩ := o_vb (q := 108) (W := 0) (argsL := [(.int 1)]) (rest := []) (y := (⟨o_n0, "bump", "(I)V"⟩ : MethodName)) G X522 hx hZ hown (by rw [hml]; rfl) ⟨(o_w hw 35 rfl), (o_w hw 36 rfl), (o_w hw 38 rfl), (o_w hw 37 rfl), (o_w hw 39 rfl), (o_w hw 3 rfl)⟩ (by decide) rfl F527 (rm6f1t l Z a0 hw [] b521 (1 : Int32) va_522 vh_522 vx_522 ka_522 kh_522 kx_522 (0 : Int32) (1 : Int32) (2 : Int32) [(.double 0), (.double 0), (.double 0)] [(.int 0), (.int 1), (.int 2)] [(.int 1), (.int 0), (.int 2)] o_d0 [(.double 0), (.double o_d0), (.double 0)] (0 : UInt64) o_d0 (0 : UInt64) o_d0 T522.heap n0 Z522 F527 B522_0 B522_1 B522_2 B522_4 B522_11 B522_12 B522_13 ge_va_522 ge_vh_522 ge_vx_522 ne523 ne524 ne525 B522_8 B522_9 B522_10 ⟨by decide, by decide⟩ ⟨by decide, by decide⟩ ⟨by decide, by decide⟩ rfl rfl rfl rfl (by decide +kernel) (o_nan (by decide +kernel)) (by decide +kernel) rfl rfl rfl rfl (by decide +kernel) rfl) (lenOf pd_1 rfl) rfl (Nat.le_of_eq rfl) (hb hby at_105) rfl (by decide) (by decide) (by decide) (by decide)
  obtain ⟨rfl, N526q, K526q, B526_0, B526_1, B526_2⟩ := hQ526
  have Z526 : n0 ≤ T526.heap.size := Nat.le_trans Z522 K526q.1
  have N526 := Fr.app N522 N526q
  replace G := o_re (st := []) G rfl
  rcases o_01 hn_w1 with rfl | rfl
  replace G := o_iload (q := 110) G X526.here hx (hb hby at_108) rfl rfl
  replace G := o_ifYes (q := 118) G X526.here hx (hb hby at_110) (by decide) (by decide) (by decide)
  replace G := o_aload (q := 120) G X526.here hx (hb hby at_118) rfl rfl rfl
  replace G := o_iload (q := 122) G X526.here hx (hb hby at_120) rfl rfl
  have F530 := (F527.keep K526q)
  have F531 := (B522_0.keep K526q (ninS ne523 (ninS ne524 (ninS ne525 nin0))))
  have F532 := (B522_1.keep K526q (ninS ne523 (ninS ne524 (ninS ne525 nin0))))
  have F533 := (B522_2.keep K526q (ninS ne523 (ninS ne524 (ninS ne525 nin0))))
  have F534 := (B522_4.keep K526q (ninS ne523 (ninS ne524 (ninS ne525 nin0))))
  obtain ⟨T529, _, Lc529, X529, hQ529, G⟩ := o_vb (q := 125) (W := 0) (argsL := [(.int 0)]) (rest := []) (y := (⟨o_n0, "bump", "(I)V"⟩ : MethodName)) G X526 hx hZ hown (by rw [hml]; rfl) ⟨(o_w hw 35 rfl), (o_w hw 36 rfl), (o_w hw 38 rfl), (o_w hw 37 rfl), (o_w hw 39 rfl), (o_w hw 3 rfl)⟩ (by decide) rfl F530 (rm6f1t l Z a0 hw [] b521 (0 : Int32) va_522 vh_522 vx_522 ka_522 kh_522 kx_522 (1 : Int32) (0 : Int32) (2 : Int32) [(.double 0), (.double o_d0), (.double 0)] [(.int 1), (.int 0), (.int 2)] [(.int 0), (.int 1), (.int 2)] o_d0 [(.double o_d0), (.double o_d0), (.double 0)] (0 : UInt64) o_d0 o_d0 o_d0 T526.heap n0 Z526 F530 F531 F532 F533 F534 B526_0 B526_1 B526_2 ge_va_522 ge_vh_522 ge_vx_522 ne523 ne524 ne525 B522_8 B522_9 B522_10 ⟨by decide, by decide⟩ ⟨by decide, by decide⟩ ⟨by decide, by decide⟩ rfl rfl rfl rfl (by decide +kernel) (o_nan (by decide +kernel)) (by decide +kernel) rfl rfl rfl rfl (by decide +kernel) rfl) (lenOf pd_1 rfl) rfl (Nat.le_of_eq rfl) (hb hby at_122) rfl (by decide) (by decide) (by decide) (by decide)
  obtain ⟨rfl, N529q, K529q, B529_0, B529_1, B529_2⟩ := hQ529
  have Z529 : n0 ≤ T529.heap.size := Nat.le_trans Z526 K529q.1
  have N529 := Fr.app N526 N529q
  replace G := o_re (st := []) G rfl
  rcases o_01 hn_w2 with rfl | rfl
  replace G := o_iload (q := 127) G X529.here hx (hb hby at_125) rfl rfl
  replace G := o_ifYes (q := 135) G X529.here hx (hb hby at_127) (by decide) (by decide) (by decide)
  replace G := o_aload (q := 137) G X529.here hx (hb hby at_135) rfl rfl rfl
  replace G := o_iload (q := 139) G X529.here hx (hb hby at_137) rfl rfl
  have F537 := (F530.keep K529q)
  have F538 := (F531.keep K529q (ninS ne523 (ninS ne524 (ninS ne525 nin0))))
  have F539 := (F532.keep K529q (ninS ne523 (ninS ne524 (ninS ne525 nin0))))
  have F540 := (F533.keep K529q (ninS ne523 (ninS ne524 (ninS ne525 nin0))))
  have F541 := (F534.keep K529q (ninS ne523 (ninS ne524 (ninS ne525 nin0))))
  obtain ⟨T536, _, Lc536, X536, hQ536, G⟩ := o_vb (q := 142) (W := 0) (argsL := [(.int 2)]) (rest := []) (y := (⟨o_n0, "bump", "(I)V"⟩ : MethodName)) G X529 hx hZ hown (by rw [hml]; rfl) ⟨(o_w hw 35 rfl), (o_w hw 36 rfl), (o_w hw 38 rfl), (o_w hw 37 rfl), (o_w hw 39 rfl), (o_w hw 3 rfl)⟩ (by decide) rfl F537 (rm6f2f l Z a0 hw [] b521 (2 : Int32) va_522 vh_522 vx_522 ka_522 kh_522 kx_522 (0 : Int32) (1 : Int32) (2 : Int32) [(.double o_d0), (.double o_d0), (.double 0)] [(.int 0), (.int 1), (.int 2)] [(.int 0), (.int 1), (.int 2)] o_d0 [(.double o_d0), (.double o_d0), (.double o_d0)] (0 : UInt64) o_d0 o_d0 o_d0 T529.heap n0 Z529 F537 F538 F539 F540 F541 B529_0 B529_1 B529_2 ge_va_522 ge_vh_522 ge_vx_522 ne523 ne524 ne525 B522_8 B522_9 B522_10 ⟨by decide, by decide⟩ ⟨by decide, by decide⟩ ⟨by decide, by decide⟩ rfl rfl rfl rfl (by decide +kernel) (o_nan (by decide +kernel)) (by decide +kernel) rfl rfl rfl rfl (by decide +kernel) rfl) (lenOf pd_1 rfl) rfl (Nat.le_of_eq rfl) (hb hby at_139) rfl (by decide) (by decide) (by decide) (by decide)
  obtain ⟨rfl, N536q, K536q, B536_0, B536_1, B536_2⟩ := hQ536
  have Z536 : n0 ≤ T536.heap.size := Nat.le_trans Z529 K536q.1
  have N536 := Fr.app N529 N536q
  replace G := o_re (st := []) G rfl
  replace G := o_iconst (q := 143) G X536.here hx (hb hby at_142) (v := (3 : Int32)) (by decide) rfl
  obtain ⟨T542, h542, k542, X542, e542, E542, A542, st542⟩ := newP X536 hx hZ (o_w hw 15 rfl) rfl (g := o_g G) rfl (hb hby at_143) rfl (by decide) (cap := 3) (by decide) (by decide) (by decide) (by decide)
  obtain ⟨b542, g542⟩ : ∃ z, z = T536.heap.size := ⟨_, rfl⟩
  rw [← g542] at A542 st542
  have ne543 : vx_522 ≠ b542 := Nat.ne_of_lt (Nat.lt_of_lt_of_le B536_2.lt (Nat.le_of_eq g542.symm))
  have ne544 : vh_522 ≠ b542 := Nat.ne_of_lt (Nat.lt_of_lt_of_le B536_1.lt (Nat.le_of_eq g542.symm))
  have ne545 : va_522 ≠ b542 := Nat.ne_of_lt (Nat.lt_of_lt_of_le B536_0.lt (Nat.le_of_eq g542.symm))
  have F546 := (F541.keep K536q (ninS ne523 (ninS ne524 (ninS ne525 nin0))))
  have ne547 : b521 ≠ b542 := Nat.ne_of_lt (Nat.lt_of_lt_of_le F546.lt (Nat.le_of_eq g542.symm))
  have ge_b542 : n0 ≤ b542 := Nat.le_trans Z536 (Nat.le_of_eq g542.symm)
  have Z542 : n0 ≤ h542.size := Nat.le_trans Z536 E542.1
  have V542 : Arv Z h542 b542 k542 .int 3 [(.int 0), (.int 0), (.int 0)] (.int 0) := (Arv.new A542 (by decide)).pad (pad_rep [] (.int 0) 3)
  replace G := o_nxs (q := 145) (st := [(.ref b542)]) G st542 rfl
  replace G := o_astore (q := 147) (l' := #[.val (.int i0), .val (.int i1), .val (.int 2), .val (.int 1), .val (.int 0), .val (.int 2), .val (.int 0), .val (.int 2), .val (.int 0), .val (.int 0), .val (.ref b521), .val (.ref b542), .unset, .unset, .unset, .unset]) G X542.here hx (hb hby at_145) rfl rfl rfl
  replace G := o_aload (q := 149) G X542.here hx (hb hby at_147) rfl rfl rfl
  replace G := o_iloadN (q := 150) G X542.here hx (hb hby at_149) rfl rfl
  replace G := o_iconst (q := 151) G X542.here hx (hb hby at_150) (v := (0 : Int32)) (by decide) rfl
  obtain ⟨c548, Ar548, q548, S548, N548', H548, G548'⟩ := id V542
  have hin548 : ¬ ((1 : Int32) < 0 ∨ c548.slots.size ≤ ((1 : Int32)).toNatClampNeg) := inb_of S548 ⟨by decide, by decide⟩
  obtain ⟨T548, h548, X548, e548, W548, st548⟩ := stI X542 hx hZ e542 Ar548 (j := (1 : Int32)) hin548 (g := o_g G) rfl rfl (hb hby at_151)
  have N548 := Fr.snoc X548 N536 ge_b542
  have Z548 : n0 ≤ h548.size := Nat.le_trans Z542 (Keep.of_wr W548).1
  have V548 : Arv Z h548 b542 k542 .int 3 [(.int 0), (.int 0), (.int 0)] (.int 0) := Arv.set Ar548 q548 S548 N548' H548 G548' rfl W548 1 rfl (Nat.le_of_ble_eq_true rfl)
  replace G := o_nxs (q := 152) (st := []) G st548 rfl
  replace G := o_aload (q := 154) G X548.here hx (hb hby at_152) rfl rfl rfl
  replace G := o_iload (q := 156) G X548.here hx (hb hby at_154) rfl rfl
  replace G := o_iload (q := 158) G X548.here hx (hb hby at_156) rfl rfl
  replace G := o_ifYes (q := 165) G X548.here hx (hb hby at_158) (by decide) (by decide) (by decide)
  replace G := o_iconst (q := 166) G X548.here hx (hb hby at_165) (v := (0 : Int32)) (by decide) rfl
  obtain ⟨c550, Ar550, q550, S550, N550', H550, G550'⟩ := id V548
  have hin550 : ¬ ((0 : Int32) < 0 ∨ c550.slots.size ≤ ((0 : Int32)).toNatClampNeg) := inb_of S550 ⟨by decide, by decide⟩
  obtain ⟨T550, h550, X550, e550, W550, st550⟩ := stI X548 hx hZ e548 Ar550 (j := (0 : Int32)) hin550 (g := o_g G) rfl rfl (hb hby at_166)
  have N550 := Fr.snoc X550 N548 ge_b542
  have Z550 : n0 ≤ h550.size := Nat.le_trans Z548 (Keep.of_wr W550).1
  have V550 : Arv Z h550 b542 k542 .int 3 [(.int 0), (.int 0), (.int 0)] (.int 0) := Arv.set Ar550 q550 S550 N550' H550 G550' rfl W550 0 rfl (Nat.le_of_ble_eq_true rfl)
  replace G := o_nxs (q := 167) (st := []) G st550 rfl
  replace G := o_aload (q := 169) G X550.here hx (hb hby at_167) rfl rfl rfl
  replace G := o_iload (q := 171) G X550.here hx (hb hby at_169) rfl rfl
  replace G := o_aload (q := 173) G X550.here hx (hb hby at_171) rfl rfl rfl
  replace G := o_iload (q := 175) G X550.here hx (hb hby at_173) rfl rfl
  obtain ⟨c551, Ar551, -, S551, -, H551, -⟩ := id V550
  have hin551 : ¬ ((0 : Int32) < 0 ∨ c551.slots.size ≤ ((0 : Int32)).toNatClampNeg) := inb_of S551 ⟨by decide, by decide⟩
  replace G := o_nxs (q := 176) (st := [(.int 0), (.int 2), (.ref b542)]) G (X550.iaload hx (j := (0 : Int32)) (v := (.int 0)) (by rw [e550]; exact Ar551.1) (State.isArrayOf_alike hZ.alike Ar551.2.1) Ar551.2.2 hin551 (Has.at H551 hin551 rfl) (g := o_g G) rfl rfl (hb hby at_175)) rfl
  replace G := o_iload (q := 178) G X550.here hx (hb hby at_176) rfl rfl
  replace G := o_ifYes (q := 185) G X550.here hx (hb hby at_178) (by decide) (by decide) (by decide)
  replace G := o_iconst (q := 186) G X550.here hx (hb hby at_185) (v := (0 : Int32)) (by decide) rfl
  replace G := o_iadd (q := 187) G X550.here hx (hb hby at_186) (by decide : ((0 : Int32) + (0 : Int32)) = (0 : Int32)) rfl
  obtain ⟨c553, Ar553, q553, S553, N553', H553, G553'⟩ := id V550
  have hin553 : ¬ ((2 : Int32) < 0 ∨ c553.slots.size ≤ ((2 : Int32)).toNatClampNeg) := inb_of S553 ⟨by decide, by decide⟩
  obtain ⟨T553, h553, X553, e553, W553, st553⟩ := stI X550 hx hZ e550 Ar553 (j := (2 : Int32)) hin553 (g := o_g G) rfl rfl (hb hby at_187)
  have N553 := Fr.snoc X553 N550 ge_b542
  have Z553 : n0 ≤ h553.size := Nat.le_trans Z550 (Keep.of_wr W553).1
  have V553 : Arv Z h553 b542 k542 .int 3 [(.int 0), (.int 0), (.int 0)] (.int 0) := Arv.set Ar553 q553 S553 N553' H553 G553' rfl W553 2 rfl (Nat.le_of_ble_eq_true rfl)
  replace G := o_nxs (q := 188) (st := []) G st553 rfl
  replace G := o_aload (q := 190) G X553.here hx (hb hby at_188) rfl rfl rfl
  have F555 := (((((F537.keep K536q).ext E542).wr W548).wr W550).wr W553)
  have F556 := (((((F538.keep K536q (ninS ne523 (ninS ne524 (ninS ne525 nin0)))).ext E542).other W548 (Or.inl ne547)).other W550 (Or.inl ne547)).other W553 (Or.inl ne547))
  have F557 := (((((F539.keep K536q (ninS ne523 (ninS ne524 (ninS ne525 nin0)))).ext E542).other W548 (Or.inl ne547)).other W550 (Or.inl ne547)).other W553 (Or.inl ne547))
  have F558 := (((((F540.keep K536q (ninS ne523 (ninS ne524 (ninS ne525 nin0)))).ext E542).other W548 (Or.inl ne547)).other W550 (Or.inl ne547)).other W553 (Or.inl ne547))
  have F559 := (((((((B522_3.keep K526q (ninS ne523 (ninS ne524 (ninS ne525 nin0)))).keep K529q (ninS ne523 (ninS ne524 (ninS ne525 nin0)))).keep K536q (ninS ne523 (ninS ne524 (ninS ne525 nin0)))).ext E542).other W548 (Or.inl ne547)).other W550 (Or.inl ne547)).other W553 (Or.inl ne547))
  have F560 := ((((F546.ext E542).other W548 (Or.inl ne547)).other W550 (Or.inl ne547)).other W553 (Or.inl ne547))
  have F561 := ((((B536_0.ext E542).other W548 ne545).other W550 ne545).other W553 ne545)
  have F562 := ((((B536_1.ext E542).other W548 ne544).other W550 ne544).other W553 ne544)
  have F563 := ((((B536_2.ext E542).other W548 ne543).other W550 ne543).other W553 ne543)
  obtain ⟨T554, _, Lc554, X554, hQ554, G⟩ := o_vb (q := 193) (W := 0) (argsL := []) (rest := []) (y := (⟨o_n0, "takeFirst", "()I"⟩ : MethodName)) G X553 hx hZ hown (by rw [hml]; rfl) ⟨(o_w hw 47 rfl), (o_w hw 48 rfl), (o_w hw 50 rfl), (o_w hw 49 rfl), (o_w hw 51 rfl), (o_w hw 3 rfl)⟩ (by decide) e553 F555 (rm8n3t l Z a0 hw [] b521 va_522 vh_522 vx_522 ka_522 kh_522 kx_522 (0 : Int32) (1 : Int32) (2 : Int32) [(.double o_d0), (.double o_d0), (.double o_d0)] [(.int 0), (.int 1), (.int 2)] [(.int (-1)), (.int 0), (.int 1)] o_d0 o_d0 o_d0 h553 n0 Z553 F555 F556 F557 F558 F559 F560 F561 F562 F563 ge_b521 ge_vh_522 ge_vx_522 ne523 ne524 ne525 B522_8 B522_9 B522_10 ⟨by decide, by decide⟩ ⟨by decide, by decide⟩ ⟨by decide, by decide⟩ rfl rfl rfl (by decide +kernel) rfl) (lenOf pd_3 rfl) rfl (Nat.le_of_eq rfl) (hb hby at_190) rfl (by decide) (by decide) (by decide) (by decide)
  obtain ⟨rfl, N554q, K554q, B554_0, B554_1, B554_2, B554_3, B554_4, B554_5, B554_6⟩ := hQ554
  have Z554 : n0 ≤ T554.heap.size := Nat.le_trans Z553 K554q.1
  have N554 := Fr.app N553 N554q
  replace G := o_re (st := [(.int 0)]) G rfl
  replace G := o_istore (q := 195) (l' := #[.val (.int i0), .val (.int i1), .val (.int 2), .val (.int 1), .val (.int 0), .val (.int 2), .val (.int 0), .val (.int 2), .val (.int 0), .val (.int 0), .val (.ref b521), .val (.ref b542), .val (.int 0), .unset, .unset, .unset]) G X554.here hx (hb hby at_193) rfl rfl
  replace G := o_aload (q := 197) G X554.here hx (hb hby at_195) rfl rfl rfl
  have F565 := (F555.keep K554q)
  have F566 := (F561.keep K554q (ninS (Ne.symm ne523) (ninS B522_8 (ninS B522_9 nin0))))
  obtain ⟨T564, _, Lc564, X564, hQ564, G⟩ := o_vb (q := 200) (W := 0) (argsL := []) (rest := []) (y := (⟨o_n0, "takeFirst", "()I"⟩ : MethodName)) G X554 hx hZ hown (by rw [hml]; rfl) ⟨(o_w hw 47 rfl), (o_w hw 48 rfl), (o_w hw 50 rfl), (o_w hw 49 rfl), (o_w hw 51 rfl), (o_w hw 3 rfl)⟩ (by decide) rfl F565 (rm8n2 l Z a0 hw [] b521 va_522 vh_522 vx_522 ka_522 kh_522 kx_522 (1 : Int32) (2 : Int32) (2 : Int32) [(.double o_d0), (.double o_d0), (.double o_d0)] [(.int (-1)), (.int 0), (.int 1)] [(.int (-1)), (.int (-1)), (.int 0)] o_d0 T554.heap n0 Z554 F565 B554_0 B554_1 B554_2 B554_3 B554_4 F566 B554_5 B554_6 ge_b521 ge_vh_522 ge_vx_522 ne523 ne524 ne525 B522_8 B522_9 B522_10 ⟨by decide, by decide⟩ ⟨by decide, by decide⟩ rfl rfl) (lenOf pd_3 rfl) rfl (Nat.le_of_eq rfl) (hb hby at_197) rfl (by decide) (by decide) (by decide) (by decide)
  obtain ⟨rfl, N564q, K564q, B564_0, B564_1, B564_2, B564_3, B564_4, B564_5, B564_6⟩ := hQ564
  have Z564 : n0 ≤ T564.heap.size := Nat.le_trans Z554 K564q.1
  have N564 := Fr.app N554 N564q
  replace G := o_re (st := [(.int 1)]) G rfl
  replace G := o_istore (q := 202) (l' := #[.val (.int i0), .val (.int i1), .val (.int 2), .val (.int 1), .val (.int 0), .val (.int 2), .val (.int 0), .val (.int 2), .val (.int 0), .val (.int 0), .val (.ref b521), .val (.ref b542), .val (.int 0), .val (.int 1), .unset, .unset]) G X564.here hx (hb hby at_200) rfl rfl
  replace G := o_aload (q := 204) G X564.here hx (hb hby at_202) rfl rfl rfl
  have F568 := (F565.keep K564q)
  have F569 := (F566.keep K564q (ninS (Ne.symm ne523) (ninS B522_8 (ninS B522_9 nin0))))
  obtain ⟨T567, _, Lc567, X567, hQ567, G⟩ := o_vb (q := 207) (W := 0) (argsL := []) (rest := []) (y := (⟨o_n0, "takeFirst", "()I"⟩ : MethodName)) G X564 hx hZ hown (by rw [hml]; rfl) ⟨(o_w hw 47 rfl), (o_w hw 48 rfl), (o_w hw 50 rfl), (o_w hw 49 rfl), (o_w hw 51 rfl), (o_w hw 3 rfl)⟩ (by decide) rfl F568 (rm8n1 l Z a0 hw [] b521 va_522 vh_522 vx_522 ka_522 kh_522 kx_522 (2 : Int32) (2 : Int32) (2 : Int32) [(.double o_d0), (.double o_d0), (.double o_d0)] [(.int (-1)), (.int (-1)), (.int 0)] [(.int (-1)), (.int (-1)), (.int (-1))] o_d0 T564.heap n0 Z564 F568 B564_0 B564_1 B564_2 B564_3 B564_4 F569 B564_5 B564_6 ge_b521 ge_vh_522 ge_vx_522 ne523 ne524 ne525 B522_8 B522_9 B522_10 ⟨by decide, by decide⟩ rfl rfl) (lenOf pd_3 rfl) rfl (Nat.le_of_eq rfl) (hb hby at_204) rfl (by decide) (by decide) (by decide) (by decide)
  obtain ⟨rfl, N567q, K567q, B567_0, B567_1, B567_2, B567_3, B567_4, B567_5, B567_6⟩ := hQ567
  have Z567 : n0 ≤ T567.heap.size := Nat.le_trans Z564 K567q.1
  have N567 := Fr.app N564 N567q
  replace G := o_re (st := [(.int 2)]) G rfl
  replace G := o_istore (q := 209) (l' := #[.val (.int i0), .val (.int i1), .val (.int 2), .val (.int 1), .val (.int 0), .val (.int 2), .val (.int 0), .val (.int 2), .val (.int 0), .val (.int 0), .val (.ref b521), .val (.ref b542), .val (.int 0), .val (.int 1), .val (.int 2), .unset]) G X567.here hx (hb hby at_207) rfl rfl
  replace G := o_iload (q := 211) G X567.here hx (hb hby at_209) rfl rfl
  replace G := o_ifNo (q := 214) G X567.here hx (hb hby at_211) (by decide) rfl
  replace G := o_iload (q := 216) G X567.here hx (hb hby at_214) rfl rfl
  replace G := o_iconst (q := 217) G X567.here hx (hb hby at_216) (v := (3 : Int32)) (by decide) rfl
  replace G := o_icmpNo (q := 220) G X567.here hx (hb hby at_217) (by decide) rfl
  replace G := o_iload (q := 222) G X567.here hx (hb hby at_220) rfl rfl
  replace G := o_ifNo (q := 225) G X567.here hx (hb hby at_222) (by decide) rfl
  replace G := o_iload (q := 227) G X567.here hx (hb hby at_225) rfl rfl
  replace G := o_iconst (q := 228) G X567.here hx (hb hby at_227) (v := (3 : Int32)) (by decide) rfl
  replace G := o_icmpNo (q := 231) G X567.here hx (hb hby at_228) (by decide) rfl
  replace G := o_iload (q := 233) G X567.here hx (hb hby at_231) rfl rfl
  replace G := o_ifNo (q := 236) G X567.here hx (hb hby at_233) (by decide) rfl
  replace G := o_iload (q := 238) G X567.here hx (hb hby at_236) rfl rfl
  replace G := o_iconst (q := 239) G X567.here hx (hb hby at_238) (v := (3 : Int32)) (by decide) rfl
  replace G := o_icmpNo (q := 242) G X567.here hx (hb hby at_239) (by decide) rfl
  replace G := o_iload (q := 244) G X567.here hx (hb hby at_242) rfl rfl
  replace G := o_iload (q := 246) G X567.here hx (hb hby at_244) rfl rfl
  replace G := o_icmpNo (q := 249) G X567.here hx (hb hby at_246) (by decide) rfl
  replace G := o_iload (q := 251) G X567.here hx (hb hby at_249) rfl rfl
  replace G := o_iload (q := 253) G X567.here hx (hb hby at_251) rfl rfl
  replace G := o_icmpNo (q := 256) G X567.here hx (hb hby at_253) (by decide) rfl
  replace G := o_iload (q := 258) G X567.here hx (hb hby at_256) rfl rfl
  replace G := o_iload (q := 260) G X567.here hx (hb hby at_258) rfl rfl
  replace G := o_icmpNo (q := 263) G X567.here hx (hb hby at_260) (by decide) rfl
  replace G := o_iconst (q := 264) G X567.here hx (hb hby at_263) (v := (1 : Int32)) (by decide) rfl
  replace G := o_goto (q := 268) G X567.here hx (hb hby at_264) (by decide) (by decide)
  replace G := o_istore (q := 270) (l' := #[.val (.int i0), .val (.int i1), .val (.int 2), .val (.int 1), .val (.int 0), .val (.int 2), .val (.int 0), .val (.int 2), .val (.int 0), .val (.int 0), .val (.ref b521), .val (.ref b542), .val (.int 0), .val (.int 1), .val (.int 2), .val (.int 1)]) G X567.here hx (hb hby at_268) rfl rfl
  replace G := o_iload (q := 272) G X567.here hx (hb hby at_270) rfl rfl
  replace G := o_ifNo (q := 275) G X567.here hx (hb hby at_272) (by decide) rfl
  replace G := o_aload (q := 277) G X567.here hx (hb hby at_275) rfl rfl rfl
  replace G := o_iload (q := 279) G X567.here hx (hb hby at_277) rfl rfl
  replace G := o_iload (q := 281) G X567.here hx (hb hby at_279) rfl rfl
  have F581 := (((V553.keep K554q (ninS (Ne.symm ne547) (ninS (Ne.symm ne544) (ninS (Ne.symm ne543) nin0)))).keep K564q (ninS (Ne.symm ne547) (ninS (Ne.symm ne544) (ninS (Ne.symm ne543) nin0)))).keep K567q (ninS (Ne.symm ne547) (ninS (Ne.symm ne544) (ninS (Ne.symm ne543) nin0))))
  obtain ⟨_, _, ⟨T580, L580, kk580, nn580⟩, -, X580, ⟨Lc580, hQ580, l580, y580, z580⟩, st580⟩ := Jvm.LawKit.callS X567 hx (y := (⟨o_n1, "before", "([III)Z"⟩ : MethodName)) hown (mvT hZ (o_w hw 56 rfl)) (mvT hZ (o_w hw 57 rfl)) (mvT hZ (o_w hw 58 rfl)) (mvT hZ (o_w hw 59 rfl)) (by decide) (backOf (W := 0) (rm10 l Z a0 hw [] b542 (0 : Int32) (1 : Int32) k542 [(.int 0), (.int 0), (.int 0)] (0 : Int32) (0 : Int32) T567.heap n0 Z567 F581 ⟨by decide, by decide⟩ ⟨by decide, by decide⟩ rfl rfl) hZ (o_w hw 59 rfl) (o_w hw 58 rfl) (by decide) (by decide)) (g := o_g G) rfl (by rw [hml]; rfl) (argsL := [(.ref b542), (.int 0), (.int 1)]) (rest := []) (lenOf pd_4 rfl) rfl (by show 2 * 0 + _ ≤ _; exact Nat.le_of_eq rfl) (hb hby at_281) (fun _ _ => ⟨rfl, rfl, (by decide : 5 + 0 ≤ _), (by decide : 17 + 0 ≤ _)⟩)
  dsimp only [Pt.U, Pt.locs, Pt.cells, Pt.slots] at X580 l580 y580 z580 st580 hQ580
  subst l580 y580 z580
  obtain ⟨rfl, N580q, e580⟩ := hQ580
  have N580 := Fr.app N567 N580q
  replace G := o_nxs (q := 284) (st := [(.int (o_lb (0 : Int32) (0 : Int32) (0 : Int32) (1 : Int32)))]) G st580 rfl
  replace G := o_ifNo (q := 287) G X580.here hx (hb hby at_284) (by decide) rfl
  replace G := o_aload (q := 289) G X580.here hx (hb hby at_287) rfl rfl rfl
  replace G := o_iload (q := 291) G X580.here hx (hb hby at_289) rfl rfl
  replace G := o_iload (q := 293) G X580.here hx (hb hby at_291) rfl rfl
  obtain ⟨_, _, ⟨T583, L583, kk583, nn583⟩, -, X583, ⟨Lc583, hQ583, l583, y583, z583⟩, st583⟩ := Jvm.LawKit.callS X580 hx (y := (⟨o_n1, "before", "([III)Z"⟩ : MethodName)) hown (mvT hZ (o_w hw 56 rfl)) (mvT hZ (o_w hw 57 rfl)) (mvT hZ (o_w hw 58 rfl)) (mvT hZ (o_w hw 59 rfl)) (by decide) (backOf (W := 0) (rm10 l Z a0 hw [] b542 (1 : Int32) (2 : Int32) k542 [(.int 0), (.int 0), (.int 0)] (0 : Int32) (0 : Int32) T567.heap n0 Z567 F581 ⟨by decide, by decide⟩ ⟨by decide, by decide⟩ rfl rfl) hZ (o_w hw 59 rfl) (o_w hw 58 rfl) (by decide) (by decide)) (g := o_g G) rfl (by rw [hml]; rfl) (argsL := [(.ref b542), (.int 1), (.int 2)]) (rest := []) (lenOf pd_4 rfl) rfl (by show 2 * 0 + _ ≤ _; exact Nat.le_of_eq rfl) (hb hby at_293) (fun _ _ => ⟨rfl, e580, (by decide : 5 + 0 ≤ _), (by decide : 17 + 0 ≤ _)⟩)
  dsimp only [Pt.U, Pt.locs, Pt.cells, Pt.slots] at X583 l583 y583 z583 st583 hQ583
  subst l583 y583 z583
  obtain ⟨rfl, N583q, e583⟩ := hQ583
  have N583 := Fr.app N580 N583q
  replace G := o_nxs (q := 296) (st := [(.int (o_lb (0 : Int32) (0 : Int32) (1 : Int32) (2 : Int32)))]) G st583 rfl
  replace G := o_ifNo (q := 299) G X583.here hx (hb hby at_296) (by decide) rfl
  replace G := o_aload (q := 301) G X583.here hx (hb hby at_299) rfl rfl rfl
  have F586 := (F568.keep K567q)
  obtain ⟨T585, _, Lc585, X585, hQ585, G⟩ := o_vb (q := 304) (W := 0) (argsL := []) (rest := []) (y := (⟨o_n0, "isEmpty", "()Z"⟩ : MethodName)) G X583 hx hZ hown (by rw [hml]; rfl) ⟨(o_w hw 60 rfl), (o_w hw 61 rfl), (o_w hw 63 rfl), (o_w hw 62 rfl), (o_w hw 64 rfl), (o_w hw 3 rfl)⟩ (by decide) e583 F586 (rm11 l Z a0 hw [] b521 T567.heap n0 Z567 B567_3) (lenOf pd_5 rfl) rfl (Nat.le_of_eq rfl) (hb hby at_301) rfl (by decide) (by decide) (by decide) (by decide)
  obtain ⟨rfl, N585q, e585⟩ := hQ585
  have N585 := Fr.app N583 N585q
  replace G := o_re (st := [(.int 1)]) G rfl
  replace G := o_ifNo (q := 307) G X585.here hx (hb hby at_304) (by decide) rfl
  replace G := o_iconst (q := 308) G X585.here hx (hb hby at_307) (v := (1 : Int32)) (by decide) rfl
  replace G := o_goto (q := 312) G X585.here hx (hb hby at_308) (by decide) (by decide)
  obtain ⟨fs, hr, hrun, hended, hW, hsame⟩ := X585.leave (v := some (.int 1)) (fun h => by rw [Bd.returns] at h; cases h)
  refine ⟨_, _, G _ (retOut X585 hx Bd.returns rfl (Or.inl ⟨rfl, Or.inr (Or.inl rfl), _, rfl⟩) (hb hby at_312) hr), hrun, hended, _, _, rfl, ?_, ⟨_, rfl⟩, hW, hsame.mono (by decide) (by decide)⟩
  show Q0 Z i0 i1 h0 n0 _ T585.heap _
  rw [e585]
  exact ⟨rfl, N585⟩
  replace G := o_iload (q := 127) G X529.here hx (hb hby at_125) rfl rfl
  replace G := o_ifNo (q := 130) G X529.here hx (hb hby at_127) (by decide) rfl
  replace G := o_aload (q := 132) G X529.here hx (hb hby at_130) rfl rfl rfl
  have F590 := (F530.keep K529q)
  have F591 := (F531.keep K529q (ninS ne523 (ninS ne524 (ninS ne525 nin0))))
  have F592 := (F532.keep K529q (ninS ne523 (ninS ne524 (ninS ne525 nin0))))
  have F593 := (F533.keep K529q (ninS ne523 (ninS ne524 (ninS ne525 nin0))))
  have F594 := ((B522_3.keep K526q (ninS ne523 (ninS ne524 (ninS ne525 nin0)))).keep K529q (ninS ne523 (ninS ne524 (ninS ne525 nin0))))
  have F595 := (F534.keep K529q (ninS ne523 (ninS ne524 (ninS ne525 nin0))))
  obtain ⟨T589, _, Lc589, X589, hQ589, G⟩ := o_vb (q := 135) (W := 0) (argsL := []) (rest := []) (y := (⟨o_n0, "decay", "()V"⟩ : MethodName)) G X529 hx hZ hown (by rw [hml]; rfl) ⟨(o_w hw 41 rfl), (o_w hw 42 rfl), (o_w hw 44 rfl), (o_w hw 43 rfl), (o_w hw 45 rfl), (o_w hw 3 rfl)⟩ (by decide) rfl F590 (rm7 l Z a0 hw [] b521 va_522 vh_522 vx_522 o_d0 o_d1 (3 : Int32) T529.heap n0 Z529 F590 F591 F592 F593 F594 F595 ge_b521 (by decide +kernel) (o_nan (by decide +kernel))) (lenOf pd_6 rfl) rfl (Nat.le_of_eq rfl) (hb hby at_132) rfl (by decide) (by decide) (by decide) (by decide)
  obtain ⟨rfl, N589q, K589q, B589_0, B589_1, B589_2, B589_3, B589_4⟩ := hQ589
  have Z589 : n0 ≤ T589.heap.size := Nat.le_trans Z529 K589q.1
  have N589 := Fr.app N529 N589q
  replace G := o_re (st := []) G rfl
  replace G := o_aload (q := 137) G X589.here hx (hb hby at_135) rfl rfl rfl
  replace G := o_iload (q := 139) G X589.here hx (hb hby at_137) rfl rfl
  have F597 := (F590.keep K589q)
  have F598 := (B529_0.keep K589q (ninS (Ne.symm ne523) nin0))
  have F599 := (B529_1.keep K589q (ninS (Ne.symm ne524) nin0))
  have F600 := (B529_2.keep K589q (ninS (Ne.symm ne525) nin0))
  obtain ⟨T596, _, Lc596, X596, hQ596, G⟩ := o_vb (q := 142) (W := 0) (argsL := [(.int 2)]) (rest := []) (y := (⟨o_n0, "bump", "(I)V"⟩ : MethodName)) G X589 hx hZ hown (by rw [hml]; rfl) ⟨(o_w hw 35 rfl), (o_w hw 36 rfl), (o_w hw 38 rfl), (o_w hw 37 rfl), (o_w hw 39 rfl), (o_w hw 3 rfl)⟩ (by decide) rfl F597 (rm6f2t l Z a0 hw [] b521 (2 : Int32) va_522 vh_522 vx_522 ka_522 kh_522 kx_522 (0 : Int32) (1 : Int32) (2 : Int32) [(.double o_d0), (.double o_d0), (.double 0)] [(.int 0), (.int 1), (.int 2)] [(.int 2), (.int 1), (.int 0)] o_d1 [(.double o_d0), (.double o_d0), (.double o_d1)] (0 : UInt64) o_d1 o_d0 o_d1 T589.heap n0 Z589 F597 B589_0 B589_1 B589_2 B589_4 F598 F599 F600 ge_va_522 ge_vh_522 ge_vx_522 ne523 ne524 ne525 B522_8 B522_9 B522_10 ⟨by decide, by decide⟩ ⟨by decide, by decide⟩ ⟨by decide, by decide⟩ rfl rfl rfl rfl (by decide +kernel) (o_nan (by decide +kernel)) (by decide +kernel) rfl rfl rfl rfl (by decide +kernel) rfl) (lenOf pd_1 rfl) rfl (Nat.le_of_eq rfl) (hb hby at_139) rfl (by decide) (by decide) (by decide) (by decide)
  obtain ⟨rfl, N596q, K596q, B596_0, B596_1, B596_2⟩ := hQ596
  have Z596 : n0 ≤ T596.heap.size := Nat.le_trans Z589 K596q.1
  have N596 := Fr.app N589 N596q
  replace G := o_re (st := []) G rfl
  replace G := o_iconst (q := 143) G X596.here hx (hb hby at_142) (v := (3 : Int32)) (by decide) rfl
  obtain ⟨T601, h601, k601, X601, e601, E601, A601, st601⟩ := newP X596 hx hZ (o_w hw 15 rfl) rfl (g := o_g G) rfl (hb hby at_143) rfl (by decide) (cap := 3) (by decide) (by decide) (by decide) (by decide)
  obtain ⟨b601, g601⟩ : ∃ z, z = T596.heap.size := ⟨_, rfl⟩
  rw [← g601] at A601 st601
  have ne602 : vx_522 ≠ b601 := Nat.ne_of_lt (Nat.lt_of_lt_of_le B596_2.lt (Nat.le_of_eq g601.symm))
  have ne603 : vh_522 ≠ b601 := Nat.ne_of_lt (Nat.lt_of_lt_of_le B596_1.lt (Nat.le_of_eq g601.symm))
  have ne604 : va_522 ≠ b601 := Nat.ne_of_lt (Nat.lt_of_lt_of_le B596_0.lt (Nat.le_of_eq g601.symm))
  have F605 := (B589_4.keep K596q (ninS ne523 (ninS ne524 (ninS ne525 nin0))))
  have ne606 : b521 ≠ b601 := Nat.ne_of_lt (Nat.lt_of_lt_of_le F605.lt (Nat.le_of_eq g601.symm))
  have ge_b601 : n0 ≤ b601 := Nat.le_trans Z596 (Nat.le_of_eq g601.symm)
  have Z601 : n0 ≤ h601.size := Nat.le_trans Z596 E601.1
  have V601 : Arv Z h601 b601 k601 .int 3 [(.int 0), (.int 0), (.int 0)] (.int 0) := (Arv.new A601 (by decide)).pad (pad_rep [] (.int 0) 3)
  replace G := o_nxs (q := 145) (st := [(.ref b601)]) G st601 rfl
  replace G := o_astore (q := 147) (l' := #[.val (.int i0), .val (.int i1), .val (.int 2), .val (.int 1), .val (.int 0), .val (.int 2), .val (.int 0), .val (.int 2), .val (.int 0), .val (.int 1), .val (.ref b521), .val (.ref b601), .unset, .unset, .unset, .unset]) G X601.here hx (hb hby at_145) rfl rfl rfl
  replace G := o_aload (q := 149) G X601.here hx (hb hby at_147) rfl rfl rfl
  replace G := o_iloadN (q := 150) G X601.here hx (hb hby at_149) rfl rfl
  replace G := o_iconst (q := 151) G X601.here hx (hb hby at_150) (v := (0 : Int32)) (by decide) rfl
  obtain ⟨c607, Ar607, q607, S607, N607', H607, G607'⟩ := id V601
  have hin607 : ¬ ((1 : Int32) < 0 ∨ c607.slots.size ≤ ((1 : Int32)).toNatClampNeg) := inb_of S607 ⟨by decide, by decide⟩
  obtain ⟨T607, h607, X607, e607, W607, st607⟩ := stI X601 hx hZ e601 Ar607 (j := (1 : Int32)) hin607 (g := o_g G) rfl rfl (hb hby at_151)
  have N607 := Fr.snoc X607 N596 ge_b601
  have Z607 : n0 ≤ h607.size := Nat.le_trans Z601 (Keep.of_wr W607).1
  have V607 : Arv Z h607 b601 k601 .int 3 [(.int 0), (.int 0), (.int 0)] (.int 0) := Arv.set Ar607 q607 S607 N607' H607 G607' rfl W607 1 rfl (Nat.le_of_ble_eq_true rfl)
  replace G := o_nxs (q := 152) (st := []) G st607 rfl
  replace G := o_aload (q := 154) G X607.here hx (hb hby at_152) rfl rfl rfl
  replace G := o_iload (q := 156) G X607.here hx (hb hby at_154) rfl rfl
  replace G := o_iload (q := 158) G X607.here hx (hb hby at_156) rfl rfl
  replace G := o_ifYes (q := 165) G X607.here hx (hb hby at_158) (by decide) (by decide) (by decide)
  replace G := o_iconst (q := 166) G X607.here hx (hb hby at_165) (v := (0 : Int32)) (by decide) rfl
  obtain ⟨c609, Ar609, q609, S609, N609', H609, G609'⟩ := id V607
  have hin609 : ¬ ((0 : Int32) < 0 ∨ c609.slots.size ≤ ((0 : Int32)).toNatClampNeg) := inb_of S609 ⟨by decide, by decide⟩
  obtain ⟨T609, h609, X609, e609, W609, st609⟩ := stI X607 hx hZ e607 Ar609 (j := (0 : Int32)) hin609 (g := o_g G) rfl rfl (hb hby at_166)
  have N609 := Fr.snoc X609 N607 ge_b601
  have Z609 : n0 ≤ h609.size := Nat.le_trans Z607 (Keep.of_wr W609).1
  have V609 : Arv Z h609 b601 k601 .int 3 [(.int 0), (.int 0), (.int 0)] (.int 0) := Arv.set Ar609 q609 S609 N609' H609 G609' rfl W609 0 rfl (Nat.le_of_ble_eq_true rfl)
  replace G := o_nxs (q := 167) (st := []) G st609 rfl
  replace G := o_aload (q := 169) G X609.here hx (hb hby at_167) rfl rfl rfl
  replace G := o_iload (q := 171) G X609.here hx (hb hby at_169) rfl rfl
  replace G := o_aload (q := 173) G X609.here hx (hb hby at_171) rfl rfl rfl
  replace G := o_iload (q := 175) G X609.here hx (hb hby at_173) rfl rfl
  obtain ⟨c610, Ar610, -, S610, -, H610, -⟩ := id V609
  have hin610 : ¬ ((0 : Int32) < 0 ∨ c610.slots.size ≤ ((0 : Int32)).toNatClampNeg) := inb_of S610 ⟨by decide, by decide⟩
  replace G := o_nxs (q := 176) (st := [(.int 0), (.int 2), (.ref b601)]) G (X609.iaload hx (j := (0 : Int32)) (v := (.int 0)) (by rw [e609]; exact Ar610.1) (State.isArrayOf_alike hZ.alike Ar610.2.1) Ar610.2.2 hin610 (Has.at H610 hin610 rfl) (g := o_g G) rfl rfl (hb hby at_175)) rfl
  replace G := o_iload (q := 178) G X609.here hx (hb hby at_176) rfl rfl
  replace G := o_ifNo (q := 181) G X609.here hx (hb hby at_178) (by decide) rfl
  replace G := o_iconst (q := 182) G X609.here hx (hb hby at_181) (v := (1 : Int32)) (by decide) rfl
  replace G := o_goto (q := 186) G X609.here hx (hb hby at_182) (by decide) (by decide)
  replace G := o_iadd (q := 187) G X609.here hx (hb hby at_186) (by decide : ((0 : Int32) + (1 : Int32)) = (1 : Int32)) rfl
  obtain ⟨c612, Ar612, q612, S612, N612', H612, G612'⟩ := id V609
  have hin612 : ¬ ((2 : Int32) < 0 ∨ c612.slots.size ≤ ((2 : Int32)).toNatClampNeg) := inb_of S612 ⟨by decide, by decide⟩
  obtain ⟨T612, h612, X612, e612, W612, st612⟩ := stI X609 hx hZ e609 Ar612 (j := (2 : Int32)) hin612 (g := o_g G) rfl rfl (hb hby at_187)
  have N612 := Fr.snoc X612 N609 ge_b601
  have Z612 : n0 ≤ h612.size := Nat.le_trans Z609 (Keep.of_wr W612).1
  have V612 : Arv Z h612 b601 k601 .int 3 [(.int 0), (.int 0), (.int 1)] (.int 0) := Arv.set Ar612 q612 S612 N612' H612 G612' rfl W612 2 rfl (Nat.le_of_ble_eq_true rfl)
  replace G := o_nxs (q := 188) (st := []) G st612 rfl
  replace G := o_aload (q := 190) G X612.here hx (hb hby at_188) rfl rfl rfl
  have F614 := (((((F597.keep K596q).ext E601).wr W607).wr W609).wr W612)
  have F615 := (((((B589_0.keep K596q (ninS ne523 (ninS ne524 (ninS ne525 nin0)))).ext E601).other W607 (Or.inl ne606)).other W609 (Or.inl ne606)).other W612 (Or.inl ne606))
  have F616 := (((((B589_1.keep K596q (ninS ne523 (ninS ne524 (ninS ne525 nin0)))).ext E601).other W607 (Or.inl ne606)).other W609 (Or.inl ne606)).other W612 (Or.inl ne606))
  have F617 := (((((B589_2.keep K596q (ninS ne523 (ninS ne524 (ninS ne525 nin0)))).ext E601).other W607 (Or.inl ne606)).other W609 (Or.inl ne606)).other W612 (Or.inl ne606))
  have F618 := (((((B589_3.keep K596q (ninS ne523 (ninS ne524 (ninS ne525 nin0)))).ext E601).other W607 (Or.inl ne606)).other W609 (Or.inl ne606)).other W612 (Or.inl ne606))
  have F619 := ((((F605.ext E601).other W607 (Or.inl ne606)).other W609 (Or.inl ne606)).other W612 (Or.inl ne606))
  have F620 := ((((B596_0.ext E601).other W607 ne604).other W609 ne604).other W612 ne604)
  have F621 := ((((B596_1.ext E601).other W607 ne603).other W609 ne603).other W612 ne603)
  have F622 := ((((B596_2.ext E601).other W607 ne602).other W609 ne602).other W612 ne602)
  obtain ⟨T613, _, Lc613, X613, hQ613, G⟩ := o_vb (q := 193) (W := 0) (argsL := []) (rest := []) (y := (⟨o_n0, "takeFirst", "()I"⟩ : MethodName)) G X612 hx hZ hown (by rw [hml]; rfl) ⟨(o_w hw 47 rfl), (o_w hw 48 rfl), (o_w hw 50 rfl), (o_w hw 49 rfl), (o_w hw 51 rfl), (o_w hw 3 rfl)⟩ (by decide) e612 F614 (rm8n3f l Z a0 hw [] b521 va_522 vh_522 vx_522 ka_522 kh_522 kx_522 (2 : Int32) (1 : Int32) (0 : Int32) [(.double o_d0), (.double o_d0), (.double o_d1)] [(.int 2), (.int 1), (.int 0)] [(.int 0), (.int 1), (.int (-1))] o_d1 o_d0 o_d0 h612 n0 Z612 F614 F615 F616 F617 F618 F619 F620 F621 F622 ge_b521 ge_vh_522 ge_vx_522 ne523 ne524 ne525 B522_8 B522_9 B522_10 ⟨by decide, by decide⟩ ⟨by decide, by decide⟩ ⟨by decide, by decide⟩ rfl rfl rfl (by decide +kernel) rfl) (lenOf pd_3 rfl) rfl (Nat.le_of_eq rfl) (hb hby at_190) rfl (by decide) (by decide) (by decide) (by decide)
  obtain ⟨rfl, N613q, K613q, B613_0, B613_1, B613_2, B613_3, B613_4, B613_5, B613_6⟩ := hQ613
  have Z613 : n0 ≤ T613.heap.size := Nat.le_trans Z612 K613q.1
  have N613 := Fr.app N612 N613q
  replace G := o_re (st := [(.int 2)]) G rfl
  replace G := o_istore (q := 195) (l' := #[.val (.int i0), .val (.int i1), .val (.int 2), .val (.int 1), .val (.int 0), .val (.int 2), .val (.int 0), .val (.int 2), .val (.int 0), .val (.int 1), .val (.ref b521), .val (.ref b601), .val (.int 2), .unset, .unset, .unset]) G X613.here hx (hb hby at_193) rfl rfl
  replace G := o_aload (q := 197) G X613.here hx (hb hby at_195) rfl rfl rfl
  have F624 := (F614.keep K613q)
  have F625 := (F620.keep K613q (ninS (Ne.symm ne523) (ninS B522_8 (ninS B522_9 nin0))))
  obtain ⟨T623, _, Lc623, X623, hQ623, G⟩ := o_vb (q := 200) (W := 0) (argsL := []) (rest := []) (y := (⟨o_n0, "takeFirst", "()I"⟩ : MethodName)) G X613 hx hZ hown (by rw [hml]; rfl) ⟨(o_w hw 47 rfl), (o_w hw 48 rfl), (o_w hw 50 rfl), (o_w hw 49 rfl), (o_w hw 51 rfl), (o_w hw 3 rfl)⟩ (by decide) rfl F624 (rm8n2 l Z a0 hw [] b521 va_522 vh_522 vx_522 ka_522 kh_522 kx_522 (0 : Int32) (1 : Int32) (0 : Int32) [(.double o_d0), (.double o_d0), (.double o_d1)] [(.int 0), (.int 1), (.int (-1))] [(.int (-1)), (.int 0), (.int (-1))] o_d1 T613.heap n0 Z613 F624 B613_0 B613_1 B613_2 B613_3 B613_4 F625 B613_5 B613_6 ge_b521 ge_vh_522 ge_vx_522 ne523 ne524 ne525 B522_8 B522_9 B522_10 ⟨by decide, by decide⟩ ⟨by decide, by decide⟩ rfl rfl) (lenOf pd_3 rfl) rfl (Nat.le_of_eq rfl) (hb hby at_197) rfl (by decide) (by decide) (by decide) (by decide)
  obtain ⟨rfl, N623q, K623q, B623_0, B623_1, B623_2, B623_3, B623_4, B623_5, B623_6⟩ := hQ623
  have Z623 : n0 ≤ T623.heap.size := Nat.le_trans Z613 K623q.1
  have N623 := Fr.app N613 N623q
  replace G := o_re (st := [(.int 0)]) G rfl
  replace G := o_istore (q := 202) (l' := #[.val (.int i0), .val (.int i1), .val (.int 2), .val (.int 1), .val (.int 0), .val (.int 2), .val (.int 0), .val (.int 2), .val (.int 0), .val (.int 1), .val (.ref b521), .val (.ref b601), .val (.int 2), .val (.int 0), .unset, .unset]) G X623.here hx (hb hby at_200) rfl rfl
  replace G := o_aload (q := 204) G X623.here hx (hb hby at_202) rfl rfl rfl
  have F627 := (F624.keep K623q)
  have F628 := (F625.keep K623q (ninS (Ne.symm ne523) (ninS B522_8 (ninS B522_9 nin0))))
  obtain ⟨T626, _, Lc626, X626, hQ626, G⟩ := o_vb (q := 207) (W := 0) (argsL := []) (rest := []) (y := (⟨o_n0, "takeFirst", "()I"⟩ : MethodName)) G X623 hx hZ hown (by rw [hml]; rfl) ⟨(o_w hw 47 rfl), (o_w hw 48 rfl), (o_w hw 50 rfl), (o_w hw 49 rfl), (o_w hw 51 rfl), (o_w hw 3 rfl)⟩ (by decide) rfl F627 (rm8n1 l Z a0 hw [] b521 va_522 vh_522 vx_522 ka_522 kh_522 kx_522 (1 : Int32) (1 : Int32) (0 : Int32) [(.double o_d0), (.double o_d0), (.double o_d1)] [(.int (-1)), (.int 0), (.int (-1))] [(.int (-1)), (.int (-1)), (.int (-1))] o_d1 T623.heap n0 Z623 F627 B623_0 B623_1 B623_2 B623_3 B623_4 F628 B623_5 B623_6 ge_b521 ge_vh_522 ge_vx_522 ne523 ne524 ne525 B522_8 B522_9 B522_10 ⟨by decide, by decide⟩ rfl rfl) (lenOf pd_3 rfl) rfl (Nat.le_of_eq rfl) (hb hby at_204) rfl (by decide) (by decide) (by decide) (by decide)
  obtain ⟨rfl, N626q, K626q, B626_0, B626_1, B626_2, B626_3, B626_4, B626_5, B626_6⟩ := hQ626
  have Z626 : n0 ≤ T626.heap.size := Nat.le_trans Z623 K626q.1
  have N626 := Fr.app N623 N626q
  replace G := o_re (st := [(.int 1)]) G rfl
  replace G := o_istore (q := 209) (l' := #[.val (.int i0), .val (.int i1), .val (.int 2), .val (.int 1), .val (.int 0), .val (.int 2), .val (.int 0), .val (.int 2), .val (.int 0), .val (.int 1), .val (.ref b521), .val (.ref b601), .val (.int 2), .val (.int 0), .val (.int 1), .unset]) G X626.here hx (hb hby at_207) rfl rfl
  replace G := o_iload (q := 211) G X626.here hx (hb hby at_209) rfl rfl
  replace G := o_ifNo (q := 214) G X626.here hx (hb hby at_211) (by decide) rfl
  replace G := o_iload (q := 216) G X626.here hx (hb hby at_214) rfl rfl
  replace G := o_iconst (q := 217) G X626.here hx (hb hby at_216) (v := (3 : Int32)) (by decide) rfl
  replace G := o_icmpNo (q := 220) G X626.here hx (hb hby at_217) (by decide) rfl
  replace G := o_iload (q := 222) G X626.here hx (hb hby at_220) rfl rfl
  replace G := o_ifNo (q := 225) G X626.here hx (hb hby at_222) (by decide) rfl
  replace G := o_iload (q := 227) G X626.here hx (hb hby at_225) rfl rfl
  replace G := o_iconst (q := 228) G X626.here hx (hb hby at_227) (v := (3 : Int32)) (by decide) rfl
  replace G := o_icmpNo (q := 231) G X626.here hx (hb hby at_228) (by decide) rfl
  replace G := o_iload (q := 233) G X626.here hx (hb hby at_231) rfl rfl
  replace G := o_ifNo (q := 236) G X626.here hx (hb hby at_233) (by decide) rfl
  replace G := o_iload (q := 238) G X626.here hx (hb hby at_236) rfl rfl
  replace G := o_iconst (q := 239) G X626.here hx (hb hby at_238) (v := (3 : Int32)) (by decide) rfl
  replace G := o_icmpNo (q := 242) G X626.here hx (hb hby at_239) (by decide) rfl
  replace G := o_iload (q := 244) G X626.here hx (hb hby at_242) rfl rfl
  replace G := o_iload (q := 246) G X626.here hx (hb hby at_244) rfl rfl
  replace G := o_icmpNo (q := 249) G X626.here hx (hb hby at_246) (by decide) rfl
  replace G := o_iload (q := 251) G X626.here hx (hb hby at_249) rfl rfl
  replace G := o_iload (q := 253) G X626.here hx (hb hby at_251) rfl rfl
  replace G := o_icmpNo (q := 256) G X626.here hx (hb hby at_253) (by decide) rfl
  replace G := o_iload (q := 258) G X626.here hx (hb hby at_256) rfl rfl
  replace G := o_iload (q := 260) G X626.here hx (hb hby at_258) rfl rfl
  replace G := o_icmpNo (q := 263) G X626.here hx (hb hby at_260) (by decide) rfl
  replace G := o_iconst (q := 264) G X626.here hx (hb hby at_263) (v := (1 : Int32)) (by decide) rfl
  replace G := o_goto (q := 268) G X626.here hx (hb hby at_264) (by decide) (by decide)
  replace G := o_istore (q := 270) (l' := #[.val (.int i0), .val (.int i1), .val (.int 2), .val (.int 1), .val (.int 0), .val (.int 2), .val (.int 0), .val (.int 2), .val (.int 0), .val (.int 1), .val (.ref b521), .val (.ref b601), .val (.int 2), .val (.int 0), .val (.int 1), .val (.int 1)]) G X626.here hx (hb hby at_268) rfl rfl
  replace G := o_iload (q := 272) G X626.here hx (hb hby at_270) rfl rfl
  replace G := o_ifNo (q := 275) G X626.here hx (hb hby at_272) (by decide) rfl
  replace G := o_aload (q := 277) G X626.here hx (hb hby at_275) rfl rfl rfl
  replace G := o_iload (q := 279) G X626.here hx (hb hby at_277) rfl rfl
  replace G := o_iload (q := 281) G X626.here hx (hb hby at_279) rfl rfl
  have F640 := (((V612.keep K613q (ninS (Ne.symm ne606) (ninS (Ne.symm ne603) (ninS (Ne.symm ne602) nin0)))).keep K623q (ninS (Ne.symm ne606) (ninS (Ne.symm ne603) (ninS (Ne.symm ne602) nin0)))).keep K626q (ninS (Ne.symm ne606) (ninS (Ne.symm ne603) (ninS (Ne.symm ne602) nin0))))
  obtain ⟨_, _, ⟨T639, L639, kk639, nn639⟩, -, X639, ⟨Lc639, hQ639, l639, y639, z639⟩, st639⟩ := Jvm.LawKit.callS X626 hx (y := (⟨o_n1, "before", "([III)Z"⟩ : MethodName)) hown (mvT hZ (o_w hw 56 rfl)) (mvT hZ (o_w hw 57 rfl)) (mvT hZ (o_w hw 58 rfl)) (mvT hZ (o_w hw 59 rfl)) (by decide) (backOf (W := 0) (rm10 l Z a0 hw [] b601 (2 : Int32) (0 : Int32) k601 [(.int 0), (.int 0), (.int 1)] (1 : Int32) (0 : Int32) T626.heap n0 Z626 F640 ⟨by decide, by decide⟩ ⟨by decide, by decide⟩ rfl rfl) hZ (o_w hw 59 rfl) (o_w hw 58 rfl) (by decide) (by decide)) (g := o_g G) rfl (by rw [hml]; rfl) (argsL := [(.ref b601), (.int 2), (.int 0)]) (rest := []) (lenOf pd_4 rfl) rfl (by show 2 * 0 + _ ≤ _; exact Nat.le_of_eq rfl) (hb hby at_281) (fun _ _ => ⟨rfl, rfl, (by decide : 5 + 0 ≤ _), (by decide : 17 + 0 ≤ _)⟩)
  dsimp only [Pt.U, Pt.locs, Pt.cells, Pt.slots] at X639 l639 y639 z639 st639 hQ639
  subst l639 y639 z639
  obtain ⟨rfl, N639q, e639⟩ := hQ639
  have N639 := Fr.app N626 N639q
  replace G := o_nxs (q := 284) (st := [(.int (o_lb (1 : Int32) (0 : Int32) (2 : Int32) (0 : Int32)))]) G st639 rfl
  replace G := o_ifNo (q := 287) G X639.here hx (hb hby at_284) (by decide) rfl
  replace G := o_aload (q := 289) G X639.here hx (hb hby at_287) rfl rfl rfl
  replace G := o_iload (q := 291) G X639.here hx (hb hby at_289) rfl rfl
  replace G := o_iload (q := 293) G X639.here hx (hb hby at_291) rfl rfl
  obtain ⟨_, _, ⟨T642, L642, kk642, nn642⟩, -, X642, ⟨Lc642, hQ642, l642, y642, z642⟩, st642⟩ := Jvm.LawKit.callS X639 hx (y := (⟨o_n1, "before", "([III)Z"⟩ : MethodName)) hown (mvT hZ (o_w hw 56 rfl)) (mvT hZ (o_w hw 57 rfl)) (mvT hZ (o_w hw 58 rfl)) (mvT hZ (o_w hw 59 rfl)) (by decide) (backOf (W := 0) (rm10 l Z a0 hw [] b601 (0 : Int32) (1 : Int32) k601 [(.int 0), (.int 0), (.int 1)] (0 : Int32) (0 : Int32) T626.heap n0 Z626 F640 ⟨by decide, by decide⟩ ⟨by decide, by decide⟩ rfl rfl) hZ (o_w hw 59 rfl) (o_w hw 58 rfl) (by decide) (by decide)) (g := o_g G) rfl (by rw [hml]; rfl) (argsL := [(.ref b601), (.int 0), (.int 1)]) (rest := []) (lenOf pd_4 rfl) rfl (by show 2 * 0 + _ ≤ _; exact Nat.le_of_eq rfl) (hb hby at_293) (fun _ _ => ⟨rfl, e639, (by decide : 5 + 0 ≤ _), (by decide : 17 + 0 ≤ _)⟩)
  dsimp only [Pt.U, Pt.locs, Pt.cells, Pt.slots] at X642 l642 y642 z642 st642 hQ642
  subst l642 y642 z642
  obtain ⟨rfl, N642q, e642⟩ := hQ642
  have N642 := Fr.app N639 N642q
  replace G := o_nxs (q := 296) (st := [(.int (o_lb (0 : Int32) (0 : Int32) (0 : Int32) (1 : Int32)))]) G st642 rfl
  replace G := o_ifNo (q := 299) G X642.here hx (hb hby at_296) (by decide) rfl
  replace G := o_aload (q := 301) G X642.here hx (hb hby at_299) rfl rfl rfl
  have F645 := (F627.keep K626q)
  obtain ⟨T644, _, Lc644, X644, hQ644, G⟩ := o_vb (q := 304) (W := 0) (argsL := []) (rest := []) (y := (⟨o_n0, "isEmpty", "()Z"⟩ : MethodName)) G X642 hx hZ hown (by rw [hml]; rfl) ⟨(o_w hw 60 rfl), (o_w hw 61 rfl), (o_w hw 63 rfl), (o_w hw 62 rfl), (o_w hw 64 rfl), (o_w hw 3 rfl)⟩ (by decide) e642 F645 (rm11 l Z a0 hw [] b521 T626.heap n0 Z626 B626_3) (lenOf pd_5 rfl) rfl (Nat.le_of_eq rfl) (hb hby at_301) rfl (by decide) (by decide) (by decide) (by decide)
  obtain ⟨rfl, N644q, e644⟩ := hQ644
  have N644 := Fr.app N642 N644q
  replace G := o_re (st := [(.int 1)]) G rfl
  replace G := o_ifNo (q := 307) G X644.here hx (hb hby at_304) (by decide) rfl
  replace G := o_iconst (q := 308) G X644.here hx (hb hby at_307) (v := (1 : Int32)) (by decide) rfl
  replace G := o_goto (q := 312) G X644.here hx (hb hby at_308) (by decide) (by decide)
  obtain ⟨fs, hr, hrun, hended, hW, hsame⟩ := X644.leave (v := some (.int 1)) (fun h => by rw [Bd.returns] at h; cases h)
  refine ⟨_, _, G _ (retOut X644 hx Bd.returns rfl (Or.inl ⟨rfl, Or.inr (Or.inl rfl), _, rfl⟩) (hb hby at_312) hr), hrun, hended, _, _, rfl, ?_, ⟨_, rfl⟩, hW, hsame.mono (by decide) (by decide)⟩
  show Q0 Z i0 i1 h0 n0 _ T644.heap _
  rw [e644]
  exact ⟨rfl, N644⟩
  replace G := o_iload (q := 110) G X526.here hx (hb hby at_108) rfl rfl
  replace G := o_ifNo (q := 113) G X526.here hx (hb hby at_110) (by decide) rfl
  replace G := o_aload (q := 115) G X526.here hx (hb hby at_113) rfl rfl rfl
  have F649 := (F527.keep K526q)
  have F650 := (B522_0.keep K526q (ninS ne523 (ninS ne524 (ninS ne525 nin0))))
  have F651 := (B522_1.keep K526q (ninS ne523 (ninS ne524 (ninS ne525 nin0))))
  have F652 := (B522_2.keep K526q (ninS ne523 (ninS ne524 (ninS ne525 nin0))))
  have F653 := (B522_3.keep K526q (ninS ne523 (ninS ne524 (ninS ne525 nin0))))
  have F654 := (B522_4.keep K526q (ninS ne523 (ninS ne524 (ninS ne525 nin0))))
  obtain ⟨T648, _, Lc648, X648, hQ648, G⟩ := o_vb (q := 118) (W := 0) (argsL := []) (rest := []) (y := (⟨o_n0, "decay", "()V"⟩ : MethodName)) G X526 hx hZ hown (by rw [hml]; rfl) ⟨(o_w hw 41 rfl), (o_w hw 42 rfl), (o_w hw 44 rfl), (o_w hw 43 rfl), (o_w hw 45 rfl), (o_w hw 3 rfl)⟩ (by decide) rfl F649 (rm7 l Z a0 hw [] b521 va_522 vh_522 vx_522 o_d0 o_d1 (3 : Int32) T526.heap n0 Z526 F649 F650 F651 F652 F653 F654 ge_b521 (by decide +kernel) (o_nan (by decide +kernel))) (lenOf pd_6 rfl) rfl (Nat.le_of_eq rfl) (hb hby at_115) rfl (by decide) (by decide) (by decide) (by decide)
  obtain ⟨rfl, N648q, K648q, B648_0, B648_1, B648_2, B648_3, B648_4⟩ := hQ648
  have Z648 : n0 ≤ T648.heap.size := Nat.le_trans Z526 K648q.1
  have N648 := Fr.app N526 N648q
  replace G := o_re (st := []) G rfl
  replace G := o_aload (q := 120) G X648.here hx (hb hby at_118) rfl rfl rfl
  replace G := o_iload (q := 122) G X648.here hx (hb hby at_120) rfl rfl
  have F656 := (F649.keep K648q)
  have F657 := (B526_0.keep K648q (ninS (Ne.symm ne523) nin0))
  have F658 := (B526_1.keep K648q (ninS (Ne.symm ne524) nin0))
  have F659 := (B526_2.keep K648q (ninS (Ne.symm ne525) nin0))
  obtain ⟨T655, _, Lc655, X655, hQ655, G⟩ := o_vb (q := 125) (W := 0) (argsL := [(.int 0)]) (rest := []) (y := (⟨o_n0, "bump", "(I)V"⟩ : MethodName)) G X648 hx hZ hown (by rw [hml]; rfl) ⟨(o_w hw 35 rfl), (o_w hw 36 rfl), (o_w hw 38 rfl), (o_w hw 37 rfl), (o_w hw 39 rfl), (o_w hw 3 rfl)⟩ (by decide) rfl F656 (rm6f1t l Z a0 hw [] b521 (0 : Int32) va_522 vh_522 vx_522 ka_522 kh_522 kx_522 (1 : Int32) (0 : Int32) (2 : Int32) [(.double 0), (.double o_d0), (.double 0)] [(.int 1), (.int 0), (.int 2)] [(.int 0), (.int 1), (.int 2)] o_d1 [(.double o_d1), (.double o_d0), (.double 0)] (0 : UInt64) o_d1 o_d0 o_d1 T648.heap n0 Z648 F656 B648_0 B648_1 B648_2 B648_4 F657 F658 F659 ge_va_522 ge_vh_522 ge_vx_522 ne523 ne524 ne525 B522_8 B522_9 B522_10 ⟨by decide, by decide⟩ ⟨by decide, by decide⟩ ⟨by decide, by decide⟩ rfl rfl rfl rfl (by decide +kernel) (o_nan (by decide +kernel)) (by decide +kernel) rfl rfl rfl rfl (by decide +kernel) rfl) (lenOf pd_1 rfl) rfl (Nat.le_of_eq rfl) (hb hby at_122) rfl (by decide) (by decide) (by decide) (by decide)
  obtain ⟨rfl, N655q, K655q, B655_0, B655_1, B655_2⟩ := hQ655
  have Z655 : n0 ≤ T655.heap.size := Nat.le_trans Z648 K655q.1
  have N655 := Fr.app N648 N655q
  replace G := o_re (st := []) G rfl
  rcases o_01 hn_w2 with rfl | rfl
  replace G := o_iload (q := 127) G X655.here hx (hb hby at_125) rfl rfl
  replace G := o_ifYes (q := 135) G X655.here hx (hb hby at_127) (by decide) (by decide) (by decide)
  replace G := o_aload (q := 137) G X655.here hx (hb hby at_135) rfl rfl rfl
  replace G := o_iload (q := 139) G X655.here hx (hb hby at_137) rfl rfl
  have F662 := (F656.keep K655q)
  have F663 := (B648_0.keep K655q (ninS ne523 (ninS ne524 (ninS ne525 nin0))))
  have F664 := (B648_1.keep K655q (ninS ne523 (ninS ne524 (ninS ne525 nin0))))
  have F665 := (B648_2.keep K655q (ninS ne523 (ninS ne524 (ninS ne525 nin0))))
  have F666 := (B648_4.keep K655q (ninS ne523 (ninS ne524 (ninS ne525 nin0))))
  obtain ⟨T661, _, Lc661, X661, hQ661, G⟩ := o_vb (q := 142) (W := 0) (argsL := [(.int 2)]) (rest := []) (y := (⟨o_n0, "bump", "(I)V"⟩ : MethodName)) G X655 hx hZ hown (by rw [hml]; rfl) ⟨(o_w hw 35 rfl), (o_w hw 36 rfl), (o_w hw 38 rfl), (o_w hw 37 rfl), (o_w hw 39 rfl), (o_w hw 3 rfl)⟩ (by decide) rfl F662 (rm6f2f l Z a0 hw [] b521 (2 : Int32) va_522 vh_522 vx_522 ka_522 kh_522 kx_522 (0 : Int32) (1 : Int32) (2 : Int32) [(.double o_d1), (.double o_d0), (.double 0)] [(.int 0), (.int 1), (.int 2)] [(.int 0), (.int 1), (.int 2)] o_d1 [(.double o_d1), (.double o_d0), (.double o_d1)] (0 : UInt64) o_d1 o_d1 o_d1 T655.heap n0 Z655 F662 F663 F664 F665 F666 B655_0 B655_1 B655_2 ge_va_522 ge_vh_522 ge_vx_522 ne523 ne524 ne525 B522_8 B522_9 B522_10 ⟨by decide, by decide⟩ ⟨by decide, by decide⟩ ⟨by decide, by decide⟩ rfl rfl rfl rfl (by decide +kernel) (o_nan (by decide +kernel)) (by decide +kernel) rfl rfl rfl rfl (by decide +kernel) rfl) (lenOf pd_1 rfl) rfl (Nat.le_of_eq rfl) (hb hby at_139) rfl (by decide) (by decide) (by decide) (by decide)
  obtain ⟨rfl, N661q, K661q, B661_0, B661_1, B661_2⟩ := hQ661
  have Z661 : n0 ≤ T661.heap.size := Nat.le_trans Z655 K661q.1
  have N661 := Fr.app N655 N661q
  replace G := o_re (st := []) G rfl
  replace G := o_iconst (q := 143) G X661.here hx (hb hby at_142) (v := (3 : Int32)) (by decide) rfl
  obtain ⟨T667, h667, k667, X667, e667, E667, A667, st667⟩ := newP X661 hx hZ (o_w hw 15 rfl) rfl (g := o_g G) rfl (hb hby at_143) rfl (by decide) (cap := 3) (by decide) (by decide) (by decide) (by decide)
  obtain ⟨b667, g667⟩ : ∃ z, z = T661.heap.size := ⟨_, rfl⟩
  rw [← g667] at A667 st667
  have ne668 : vx_522 ≠ b667 := Nat.ne_of_lt (Nat.lt_of_lt_of_le B661_2.lt (Nat.le_of_eq g667.symm))
  have ne669 : vh_522 ≠ b667 := Nat.ne_of_lt (Nat.lt_of_lt_of_le B661_1.lt (Nat.le_of_eq g667.symm))
  have ne670 : va_522 ≠ b667 := Nat.ne_of_lt (Nat.lt_of_lt_of_le B661_0.lt (Nat.le_of_eq g667.symm))
  have F671 := (F666.keep K661q (ninS ne523 (ninS ne524 (ninS ne525 nin0))))
  have ne672 : b521 ≠ b667 := Nat.ne_of_lt (Nat.lt_of_lt_of_le F671.lt (Nat.le_of_eq g667.symm))
  have ge_b667 : n0 ≤ b667 := Nat.le_trans Z661 (Nat.le_of_eq g667.symm)
  have Z667 : n0 ≤ h667.size := Nat.le_trans Z661 E667.1
  have V667 : Arv Z h667 b667 k667 .int 3 [(.int 0), (.int 0), (.int 0)] (.int 0) := (Arv.new A667 (by decide)).pad (pad_rep [] (.int 0) 3)
  replace G := o_nxs (q := 145) (st := [(.ref b667)]) G st667 rfl
  replace G := o_astore (q := 147) (l' := #[.val (.int i0), .val (.int i1), .val (.int 2), .val (.int 1), .val (.int 0), .val (.int 2), .val (.int 0), .val (.int 2), .val (.int 1), .val (.int 0), .val (.ref b521), .val (.ref b667), .unset, .unset, .unset, .unset]) G X667.here hx (hb hby at_145) rfl rfl rfl
  replace G := o_aload (q := 149) G X667.here hx (hb hby at_147) rfl rfl rfl
  replace G := o_iloadN (q := 150) G X667.here hx (hb hby at_149) rfl rfl
  replace G := o_iconst (q := 151) G X667.here hx (hb hby at_150) (v := (0 : Int32)) (by decide) rfl
  obtain ⟨c673, Ar673, q673, S673, N673', H673, G673'⟩ := id V667
  have hin673 : ¬ ((1 : Int32) < 0 ∨ c673.slots.size ≤ ((1 : Int32)).toNatClampNeg) := inb_of S673 ⟨by decide, by decide⟩
  obtain ⟨T673, h673, X673, e673, W673, st673⟩ := stI X667 hx hZ e667 Ar673 (j := (1 : Int32)) hin673 (g := o_g G) rfl rfl (hb hby at_151)
  have N673 := Fr.snoc X673 N661 ge_b667
  have Z673 : n0 ≤ h673.size := Nat.le_trans Z667 (Keep.of_wr W673).1
  have V673 : Arv Z h673 b667 k667 .int 3 [(.int 0), (.int 0), (.int 0)] (.int 0) := Arv.set Ar673 q673 S673 N673' H673 G673' rfl W673 1 rfl (Nat.le_of_ble_eq_true rfl)
  replace G := o_nxs (q := 152) (st := []) G st673 rfl
  replace G := o_aload (q := 154) G X673.here hx (hb hby at_152) rfl rfl rfl
  replace G := o_iload (q := 156) G X673.here hx (hb hby at_154) rfl rfl
  replace G := o_iload (q := 158) G X673.here hx (hb hby at_156) rfl rfl
  replace G := o_ifNo (q := 161) G X673.here hx (hb hby at_158) (by decide) rfl
  replace G := o_iconst (q := 162) G X673.here hx (hb hby at_161) (v := (1 : Int32)) (by decide) rfl
  replace G := o_goto (q := 166) G X673.here hx (hb hby at_162) (by decide) (by decide)
  obtain ⟨c675, Ar675, q675, S675, N675', H675, G675'⟩ := id V673
  have hin675 : ¬ ((0 : Int32) < 0 ∨ c675.slots.size ≤ ((0 : Int32)).toNatClampNeg) := inb_of S675 ⟨by decide, by decide⟩
  obtain ⟨T675, h675, X675, e675, W675, st675⟩ := stI X673 hx hZ e673 Ar675 (j := (0 : Int32)) hin675 (g := o_g G) rfl rfl (hb hby at_166)
  have N675 := Fr.snoc X675 N673 ge_b667
  have Z675 : n0 ≤ h675.size := Nat.le_trans Z673 (Keep.of_wr W675).1
  have V675 : Arv Z h675 b667 k667 .int 3 [(.int 1), (.int 0), (.int 0)] (.int 0) := Arv.set Ar675 q675 S675 N675' H675 G675' rfl W675 0 rfl (Nat.le_of_ble_eq_true rfl)
  replace G := o_nxs (q := 167) (st := []) G st675 rfl
  replace G := o_aload (q := 169) G X675.here hx (hb hby at_167) rfl rfl rfl
  replace G := o_iload (q := 171) G X675.here hx (hb hby at_169) rfl rfl
  replace G := o_aload (q := 173) G X675.here hx (hb hby at_171) rfl rfl rfl
  replace G := o_iload (q := 175) G X675.here hx (hb hby at_173) rfl rfl
  obtain ⟨c676, Ar676, -, S676, -, H676, -⟩ := id V675
  have hin676 : ¬ ((0 : Int32) < 0 ∨ c676.slots.size ≤ ((0 : Int32)).toNatClampNeg) := inb_of S676 ⟨by decide, by decide⟩
  replace G := o_nxs (q := 176) (st := [(.int 1), (.int 2), (.ref b667)]) G (X675.iaload hx (j := (0 : Int32)) (v := (.int 1)) (by rw [e675]; exact Ar676.1) (State.isArrayOf_alike hZ.alike Ar676.2.1) Ar676.2.2 hin676 (Has.at H676 hin676 rfl) (g := o_g G) rfl rfl (hb hby at_175)) rfl
  replace G := o_iload (q := 178) G X675.here hx (hb hby at_176) rfl rfl
  replace G := o_ifYes (q := 185) G X675.here hx (hb hby at_178) (by decide) (by decide) (by decide)
  replace G := o_iconst (q := 186) G X675.here hx (hb hby at_185) (v := (0 : Int32)) (by decide) rfl
  replace G := o_iadd (q := 187) G X675.here hx (hb hby at_186) (by decide : ((1 : Int32) + (0 : Int32)) = (1 : Int32)) rfl
  obtain ⟨c678, Ar678, q678, S678, N678', H678, G678'⟩ := id V675
  have hin678 : ¬ ((2 : Int32) < 0 ∨ c678.slots.size ≤ ((2 : Int32)).toNatClampNeg) := inb_of S678 ⟨by decide, by decide⟩
  obtain ⟨T678, h678, X678, e678, W678, st678⟩ := stI X675 hx hZ e675 Ar678 (j := (2 : Int32)) hin678 (g := o_g G) rfl rfl (hb hby at_187)
  have N678 := Fr.snoc X678 N675 ge_b667
  have Z678 : n0 ≤ h678.size := Nat.le_trans Z675 (Keep.of_wr W678).1
  have V678 : Arv Z h678 b667 k667 .int 3 [(.int 1), (.int 0), (.int 1)] (.int 0) := Arv.set Ar678 q678 S678 N678' H678 G678' rfl W678 2 rfl (Nat.le_of_ble_eq_true rfl)
  replace G := o_nxs (q := 188) (st := []) G st678 rfl
  replace G := o_aload (q := 190) G X678.here hx (hb hby at_188) rfl rfl rfl
  have F680 := (((((F662.keep K661q).ext E667).wr W673).wr W675).wr W678)
  have F681 := (((((F663.keep K661q (ninS ne523 (ninS ne524 (ninS ne525 nin0)))).ext E667).other W673 (Or.inl ne672)).other W675 (Or.inl ne672)).other W678 (Or.inl ne672))
  have F682 := (((((F664.keep K661q (ninS ne523 (ninS ne524 (ninS ne525 nin0)))).ext E667).other W673 (Or.inl ne672)).other W675 (Or.inl ne672)).other W678 (Or.inl ne672))
  have F683 := (((((F665.keep K661q (ninS ne523 (ninS ne524 (ninS ne525 nin0)))).ext E667).other W673 (Or.inl ne672)).other W675 (Or.inl ne672)).other W678 (Or.inl ne672))
  have F684 := ((((((B648_3.keep K655q (ninS ne523 (ninS ne524 (ninS ne525 nin0)))).keep K661q (ninS ne523 (ninS ne524 (ninS ne525 nin0)))).ext E667).other W673 (Or.inl ne672)).other W675 (Or.inl ne672)).other W678 (Or.inl ne672))
  have F685 := ((((F671.ext E667).other W673 (Or.inl ne672)).other W675 (Or.inl ne672)).other W678 (Or.inl ne672))
  have F686 := ((((B661_0.ext E667).other W673 ne670).other W675 ne670).other W678 ne670)
  have F687 := ((((B661_1.ext E667).other W673 ne669).other W675 ne669).other W678 ne669)
  have F688 := ((((B661_2.ext E667).other W673 ne668).other W675 ne668).other W678 ne668)
  obtain ⟨T679, _, Lc679, X679, hQ679, G⟩ := o_vb (q := 193) (W := 0) (argsL := []) (rest := []) (y := (⟨o_n0, "takeFirst", "()I"⟩ : MethodName)) G X678 hx hZ hown (by rw [hml]; rfl) ⟨(o_w hw 47 rfl), (o_w hw 48 rfl), (o_w hw 50 rfl), (o_w hw 49 rfl), (o_w hw 51 rfl), (o_w hw 3 rfl)⟩ (by decide) e678 F680 (rm8n3f l Z a0 hw [] b521 va_522 vh_522 vx_522 ka_522 kh_522 kx_522 (0 : Int32) (1 : Int32) (2 : Int32) [(.double o_d1), (.double o_d0), (.double o_d1)] [(.int 0), (.int 1), (.int 2)] [(.int (-1)), (.int 1), (.int 0)] o_d1 o_d1 o_d0 h678 n0 Z678 F680 F681 F682 F683 F684 F685 F686 F687 F688 ge_b521 ge_vh_522 ge_vx_522 ne523 ne524 ne525 B522_8 B522_9 B522_10 ⟨by decide, by decide⟩ ⟨by decide, by decide⟩ ⟨by decide, by decide⟩ rfl rfl rfl (by decide +kernel) rfl) (lenOf pd_3 rfl) rfl (Nat.le_of_eq rfl) (hb hby at_190) rfl (by decide) (by decide) (by decide) (by decide)
  obtain ⟨rfl, N679q, K679q, B679_0, B679_1, B679_2, B679_3, B679_4, B679_5, B679_6⟩ := hQ679
  have Z679 : n0 ≤ T679.heap.size := Nat.le_trans Z678 K679q.1
  have N679 := Fr.app N678 N679q
  replace G := o_re (st := [(.int 0)]) G rfl
  replace G := o_istore (q := 195) (l' := #[.val (.int i0), .val (.int i1), .val (.int 2), .val (.int 1), .val (.int 0), .val (.int 2), .val (.int 0), .val (.int 2), .val (.int 1), .val (.int 0), .val (.ref b521), .val (.ref b667), .val (.int 0), .unset, .unset, .unset]) G X679.here hx (hb hby at_193) rfl rfl
  replace G := o_aload (q := 197) G X679.here hx (hb hby at_195) rfl rfl rfl
  have F690 := (F680.keep K679q)
  have F691 := (F686.keep K679q (ninS (Ne.symm ne523) (ninS B522_8 (ninS B522_9 nin0))))
  obtain ⟨T689, _, Lc689, X689, hQ689, G⟩ := o_vb (q := 200) (W := 0) (argsL := []) (rest := []) (y := (⟨o_n0, "takeFirst", "()I"⟩ : MethodName)) G X679 hx hZ hown (by rw [hml]; rfl) ⟨(o_w hw 47 rfl), (o_w hw 48 rfl), (o_w hw 50 rfl), (o_w hw 49 rfl), (o_w hw 51 rfl), (o_w hw 3 rfl)⟩ (by decide) rfl F690 (rm8n2 l Z a0 hw [] b521 va_522 vh_522 vx_522 ka_522 kh_522 kx_522 (2 : Int32) (1 : Int32) (2 : Int32) [(.double o_d1), (.double o_d0), (.double o_d1)] [(.int (-1)), (.int 1), (.int 0)] [(.int (-1)), (.int 0), (.int (-1))] o_d1 T679.heap n0 Z679 F690 B679_0 B679_1 B679_2 B679_3 B679_4 F691 B679_5 B679_6 ge_b521 ge_vh_522 ge_vx_522 ne523 ne524 ne525 B522_8 B522_9 B522_10 ⟨by decide, by decide⟩ ⟨by decide, by decide⟩ rfl rfl) (lenOf pd_3 rfl) rfl (Nat.le_of_eq rfl) (hb hby at_197) rfl (by decide) (by decide) (by decide) (by decide)
  obtain ⟨rfl, N689q, K689q, B689_0, B689_1, B689_2, B689_3, B689_4, B689_5, B689_6⟩ := hQ689
  have Z689 : n0 ≤ T689.heap.size := Nat.le_trans Z679 K689q.1
  have N689 := Fr.app N679 N689q
  replace G := o_re (st := [(.int 2)]) G rfl
  replace G := o_istore (q := 202) (l' := #[.val (.int i0), .val (.int i1), .val (.int 2), .val (.int 1), .val (.int 0), .val (.int 2), .val (.int 0), .val (.int 2), .val (.int 1), .val (.int 0), .val (.ref b521), .val (.ref b667), .val (.int 0), .val (.int 2), .unset, .unset]) G X689.here hx (hb hby at_200) rfl rfl
  replace G := o_aload (q := 204) G X689.here hx (hb hby at_202) rfl rfl rfl
  have F693 := (F690.keep K689q)
  have F694 := (F691.keep K689q (ninS (Ne.symm ne523) (ninS B522_8 (ninS B522_9 nin0))))
  obtain ⟨T692, _, Lc692, X692, hQ692, G⟩ := o_vb (q := 207) (W := 0) (argsL := []) (rest := []) (y := (⟨o_n0, "takeFirst", "()I"⟩ : MethodName)) G X689 hx hZ hown (by rw [hml]; rfl) ⟨(o_w hw 47 rfl), (o_w hw 48 rfl), (o_w hw 50 rfl), (o_w hw 49 rfl), (o_w hw 51 rfl), (o_w hw 3 rfl)⟩ (by decide) rfl F693 (rm8n1 l Z a0 hw [] b521 va_522 vh_522 vx_522 ka_522 kh_522 kx_522 (1 : Int32) (1 : Int32) (2 : Int32) [(.double o_d1), (.double o_d0), (.double o_d1)] [(.int (-1)), (.int 0), (.int (-1))] [(.int (-1)), (.int (-1)), (.int (-1))] o_d1 T689.heap n0 Z689 F693 B689_0 B689_1 B689_2 B689_3 B689_4 F694 B689_5 B689_6 ge_b521 ge_vh_522 ge_vx_522 ne523 ne524 ne525 B522_8 B522_9 B522_10 ⟨by decide, by decide⟩ rfl rfl) (lenOf pd_3 rfl) rfl (Nat.le_of_eq rfl) (hb hby at_204) rfl (by decide) (by decide) (by decide) (by decide)
  obtain ⟨rfl, N692q, K692q, B692_0, B692_1, B692_2, B692_3, B692_4, B692_5, B692_6⟩ := hQ692
  have Z692 : n0 ≤ T692.heap.size := Nat.le_trans Z689 K692q.1
  have N692 := Fr.app N689 N692q
  replace G := o_re (st := [(.int 1)]) G rfl
  replace G := o_istore (q := 209) (l' := #[.val (.int i0), .val (.int i1), .val (.int 2), .val (.int 1), .val (.int 0), .val (.int 2), .val (.int 0), .val (.int 2), .val (.int 1), .val (.int 0), .val (.ref b521), .val (.ref b667), .val (.int 0), .val (.int 2), .val (.int 1), .unset]) G X692.here hx (hb hby at_207) rfl rfl
  replace G := o_iload (q := 211) G X692.here hx (hb hby at_209) rfl rfl
  replace G := o_ifNo (q := 214) G X692.here hx (hb hby at_211) (by decide) rfl
  replace G := o_iload (q := 216) G X692.here hx (hb hby at_214) rfl rfl
  replace G := o_iconst (q := 217) G X692.here hx (hb hby at_216) (v := (3 : Int32)) (by decide) rfl
  replace G := o_icmpNo (q := 220) G X692.here hx (hb hby at_217) (by decide) rfl
  replace G := o_iload (q := 222) G X692.here hx (hb hby at_220) rfl rfl
  replace G := o_ifNo (q := 225) G X692.here hx (hb hby at_222) (by decide) rfl
  replace G := o_iload (q := 227) G X692.here hx (hb hby at_225) rfl rfl
  replace G := o_iconst (q := 228) G X692.here hx (hb hby at_227) (v := (3 : Int32)) (by decide) rfl
  replace G := o_icmpNo (q := 231) G X692.here hx (hb hby at_228) (by decide) rfl
  replace G := o_iload (q := 233) G X692.here hx (hb hby at_231) rfl rfl
  replace G := o_ifNo (q := 236) G X692.here hx (hb hby at_233) (by decide) rfl
  replace G := o_iload (q := 238) G X692.here hx (hb hby at_236) rfl rfl
  replace G := o_iconst (q := 239) G X692.here hx (hb hby at_238) (v := (3 : Int32)) (by decide) rfl
  replace G := o_icmpNo (q := 242) G X692.here hx (hb hby at_239) (by decide) rfl
  replace G := o_iload (q := 244) G X692.here hx (hb hby at_242) rfl rfl
  replace G := o_iload (q := 246) G X692.here hx (hb hby at_244) rfl rfl
  replace G := o_icmpNo (q := 249) G X692.here hx (hb hby at_246) (by decide) rfl
  replace G := o_iload (q := 251) G X692.here hx (hb hby at_249) rfl rfl
  replace G := o_iload (q := 253) G X692.here hx (hb hby at_251) rfl rfl
  replace G := o_icmpNo (q := 256) G X692.here hx (hb hby at_253) (by decide) rfl
  replace G := o_iload (q := 258) G X692.here hx (hb hby at_256) rfl rfl
  replace G := o_iload (q := 260) G X692.here hx (hb hby at_258) rfl rfl
  replace G := o_icmpNo (q := 263) G X692.here hx (hb hby at_260) (by decide) rfl
  replace G := o_iconst (q := 264) G X692.here hx (hb hby at_263) (v := (1 : Int32)) (by decide) rfl
  replace G := o_goto (q := 268) G X692.here hx (hb hby at_264) (by decide) (by decide)
  replace G := o_istore (q := 270) (l' := #[.val (.int i0), .val (.int i1), .val (.int 2), .val (.int 1), .val (.int 0), .val (.int 2), .val (.int 0), .val (.int 2), .val (.int 1), .val (.int 0), .val (.ref b521), .val (.ref b667), .val (.int 0), .val (.int 2), .val (.int 1), .val (.int 1)]) G X692.here hx (hb hby at_268) rfl rfl
  replace G := o_iload (q := 272) G X692.here hx (hb hby at_270) rfl rfl
  replace G := o_ifNo (q := 275) G X692.here hx (hb hby at_272) (by decide) rfl
  replace G := o_aload (q := 277) G X692.here hx (hb hby at_275) rfl rfl rfl
  replace G := o_iload (q := 279) G X692.here hx (hb hby at_277) rfl rfl
  replace G := o_iload (q := 281) G X692.here hx (hb hby at_279) rfl rfl
  have F706 := (((V678.keep K679q (ninS (Ne.symm ne672) (ninS (Ne.symm ne669) (ninS (Ne.symm ne668) nin0)))).keep K689q (ninS (Ne.symm ne672) (ninS (Ne.symm ne669) (ninS (Ne.symm ne668) nin0)))).keep K692q (ninS (Ne.symm ne672) (ninS (Ne.symm ne669) (ninS (Ne.symm ne668) nin0))))
  obtain ⟨_, _, ⟨T705, L705, kk705, nn705⟩, -, X705, ⟨Lc705, hQ705, l705, y705, z705⟩, st705⟩ := Jvm.LawKit.callS X692 hx (y := (⟨o_n1, "before", "([III)Z"⟩ : MethodName)) hown (mvT hZ (o_w hw 56 rfl)) (mvT hZ (o_w hw 57 rfl)) (mvT hZ (o_w hw 58 rfl)) (mvT hZ (o_w hw 59 rfl)) (by decide) (backOf (W := 0) (rm10 l Z a0 hw [] b667 (0 : Int32) (2 : Int32) k667 [(.int 1), (.int 0), (.int 1)] (1 : Int32) (1 : Int32) T692.heap n0 Z692 F706 ⟨by decide, by decide⟩ ⟨by decide, by decide⟩ rfl rfl) hZ (o_w hw 59 rfl) (o_w hw 58 rfl) (by decide) (by decide)) (g := o_g G) rfl (by rw [hml]; rfl) (argsL := [(.ref b667), (.int 0), (.int 2)]) (rest := []) (lenOf pd_4 rfl) rfl (by show 2 * 0 + _ ≤ _; exact Nat.le_of_eq rfl) (hb hby at_281) (fun _ _ => ⟨rfl, rfl, (by decide : 5 + 0 ≤ _), (by decide : 17 + 0 ≤ _)⟩)
  dsimp only [Pt.U, Pt.locs, Pt.cells, Pt.slots] at X705 l705 y705 z705 st705 hQ705
  subst l705 y705 z705
  obtain ⟨rfl, N705q, e705⟩ := hQ705
  have N705 := Fr.app N692 N705q
  replace G := o_nxs (q := 284) (st := [(.int (o_lb (1 : Int32) (1 : Int32) (0 : Int32) (2 : Int32)))]) G st705 rfl
  replace G := o_ifNo (q := 287) G X705.here hx (hb hby at_284) (by decide) rfl
  replace G := o_aload (q := 289) G X705.here hx (hb hby at_287) rfl rfl rfl
  replace G := o_iload (q := 291) G X705.here hx (hb hby at_289) rfl rfl
  replace G := o_iload (q := 293) G X705.here hx (hb hby at_291) rfl rfl
  obtain ⟨_, _, ⟨T708, L708, kk708, nn708⟩, -, X708, ⟨Lc708, hQ708, l708, y708, z708⟩, st708⟩ := Jvm.LawKit.callS X705 hx (y := (⟨o_n1, "before", "([III)Z"⟩ : MethodName)) hown (mvT hZ (o_w hw 56 rfl)) (mvT hZ (o_w hw 57 rfl)) (mvT hZ (o_w hw 58 rfl)) (mvT hZ (o_w hw 59 rfl)) (by decide) (backOf (W := 0) (rm10 l Z a0 hw [] b667 (2 : Int32) (1 : Int32) k667 [(.int 1), (.int 0), (.int 1)] (1 : Int32) (0 : Int32) T692.heap n0 Z692 F706 ⟨by decide, by decide⟩ ⟨by decide, by decide⟩ rfl rfl) hZ (o_w hw 59 rfl) (o_w hw 58 rfl) (by decide) (by decide)) (g := o_g G) rfl (by rw [hml]; rfl) (argsL := [(.ref b667), (.int 2), (.int 1)]) (rest := []) (lenOf pd_4 rfl) rfl (by show 2 * 0 + _ ≤ _; exact Nat.le_of_eq rfl) (hb hby at_293) (fun _ _ => ⟨rfl, e705, (by decide : 5 + 0 ≤ _), (by decide : 17 + 0 ≤ _)⟩)
  dsimp only [Pt.U, Pt.locs, Pt.cells, Pt.slots] at X708 l708 y708 z708 st708 hQ708
  subst l708 y708 z708
  obtain ⟨rfl, N708q, e708⟩ := hQ708
  have N708 := Fr.app N705 N708q
  replace G := o_nxs (q := 296) (st := [(.int (o_lb (1 : Int32) (0 : Int32) (2 : Int32) (1 : Int32)))]) G st708 rfl
  replace G := o_ifNo (q := 299) G X708.here hx (hb hby at_296) (by decide) rfl
  replace G := o_aload (q := 301) G X708.here hx (hb hby at_299) rfl rfl rfl
  have F711 := (F693.keep K692q)
  obtain ⟨T710, _, Lc710, X710, hQ710, G⟩ := o_vb (q := 304) (W := 0) (argsL := []) (rest := []) (y := (⟨o_n0, "isEmpty", "()Z"⟩ : MethodName)) G X708 hx hZ hown (by rw [hml]; rfl) ⟨(o_w hw 60 rfl), (o_w hw 61 rfl), (o_w hw 63 rfl), (o_w hw 62 rfl), (o_w hw 64 rfl), (o_w hw 3 rfl)⟩ (by decide) e708 F711 (rm11 l Z a0 hw [] b521 T692.heap n0 Z692 B692_3) (lenOf pd_5 rfl) rfl (Nat.le_of_eq rfl) (hb hby at_301) rfl (by decide) (by decide) (by decide) (by decide)
  obtain ⟨rfl, N710q, e710⟩ := hQ710
  have N710 := Fr.app N708 N710q
  replace G := o_re (st := [(.int 1)]) G rfl
  replace G := o_ifNo (q := 307) G X710.here hx (hb hby at_304) (by decide) rfl
  replace G := o_iconst (q := 308) G X710.here hx (hb hby at_307) (v := (1 : Int32)) (by decide) rfl
  replace G := o_goto (q := 312) G X710.here hx (hb hby at_308) (by decide) (by decide)
  obtain ⟨fs, hr, hrun, hended, hW, hsame⟩ := X710.leave (v := some (.int 1)) (fun h => by rw [Bd.returns] at h; cases h)
  refine ⟨_, _, G _ (retOut X710 hx Bd.returns rfl (Or.inl ⟨rfl, Or.inr (Or.inl rfl), _, rfl⟩) (hb hby at_312) hr), hrun, hended, _, _, rfl, ?_, ⟨_, rfl⟩, hW, hsame.mono (by decide) (by decide)⟩
  show Q0 Z i0 i1 h0 n0 _ T710.heap _
  rw [e710]
  exact ⟨rfl, N710⟩
  replace G := o_iload (q := 127) G X655.here hx (hb hby at_125) rfl rfl
  replace G := o_ifNo (q := 130) G X655.here hx (hb hby at_127) (by decide) rfl
  replace G := o_aload (q := 132) G X655.here hx (hb hby at_130) rfl rfl rfl
  have F715 := (F656.keep K655q)
  have F716 := (B648_0.keep K655q (ninS ne523 (ninS ne524 (ninS ne525 nin0))))
  have F717 := (B648_1.keep K655q (ninS ne523 (ninS ne524 (ninS ne525 nin0))))
  have F718 := (B648_2.keep K655q (ninS ne523 (ninS ne524 (ninS ne525 nin0))))
  have F719 := (B648_3.keep K655q (ninS ne523 (ninS ne524 (ninS ne525 nin0))))
  have F720 := (B648_4.keep K655q (ninS ne523 (ninS ne524 (ninS ne525 nin0))))
  obtain ⟨T714, _, Lc714, X714, hQ714, G⟩ := o_vb (q := 135) (W := 0) (argsL := []) (rest := []) (y := (⟨o_n0, "decay", "()V"⟩ : MethodName)) G X655 hx hZ hown (by rw [hml]; rfl) ⟨(o_w hw 41 rfl), (o_w hw 42 rfl), (o_w hw 44 rfl), (o_w hw 43 rfl), (o_w hw 45 rfl), (o_w hw 3 rfl)⟩ (by decide) rfl F715 (rm7 l Z a0 hw [] b521 va_522 vh_522 vx_522 o_d1 o_d2 (3 : Int32) T655.heap n0 Z655 F715 F716 F717 F718 F719 F720 ge_b521 (by decide +kernel) (o_nan (by decide +kernel))) (lenOf pd_6 rfl) rfl (Nat.le_of_eq rfl) (hb hby at_132) rfl (by decide) (by decide) (by decide) (by decide)
  obtain ⟨rfl, N714q, K714q, B714_0, B714_1, B714_2, B714_3, B714_4⟩ := hQ714
  have Z714 : n0 ≤ T714.heap.size := Nat.le_trans Z655 K714q.1
  have N714 := Fr.app N655 N714q
  replace G := o_re (st := []) G rfl
  replace G := o_aload (q := 137) G X714.here hx (hb hby at_135) rfl rfl rfl
  replace G := o_iload (q := 139) G X714.here hx (hb hby at_137) rfl rfl
  have F722 := (F715.keep K714q)
  have F723 := (B655_0.keep K714q (ninS (Ne.symm ne523) nin0))
  have F724 := (B655_1.keep K714q (ninS (Ne.symm ne524) nin0))
  have F725 := (B655_2.keep K714q (ninS (Ne.symm ne525) nin0))
  obtain ⟨T721, _, Lc721, X721, hQ721, G⟩ := o_vb (q := 142) (W := 0) (argsL := [(.int 2)]) (rest := []) (y := (⟨o_n0, "bump", "(I)V"⟩ : MethodName)) G X714 hx hZ hown (by rw [hml]; rfl) ⟨(o_w hw 35 rfl), (o_w hw 36 rfl), (o_w hw 38 rfl), (o_w hw 37 rfl), (o_w hw 39 rfl), (o_w hw 3 rfl)⟩ (by decide) rfl F722 (rm6f2t l Z a0 hw [] b521 (2 : Int32) va_522 vh_522 vx_522 ka_522 kh_522 kx_522 (0 : Int32) (1 : Int32) (2 : Int32) [(.double o_d1), (.double o_d0), (.double 0)] [(.int 0), (.int 1), (.int 2)] [(.int 2), (.int 1), (.int 0)] o_d2 [(.double o_d1), (.double o_d0), (.double o_d2)] (0 : UInt64) o_d2 o_d1 o_d2 T714.heap n0 Z714 F722 B714_0 B714_1 B714_2 B714_4 F723 F724 F725 ge_va_522 ge_vh_522 ge_vx_522 ne523 ne524 ne525 B522_8 B522_9 B522_10 ⟨by decide, by decide⟩ ⟨by decide, by decide⟩ ⟨by decide, by decide⟩ rfl rfl rfl rfl (by decide +kernel) (o_nan (by decide +kernel)) (by decide +kernel) rfl rfl rfl rfl (by decide +kernel) rfl) (lenOf pd_1 rfl) rfl (Nat.le_of_eq rfl) (hb hby at_139) rfl (by decide) (by decide) (by decide) (by decide)
  obtain ⟨rfl, N721q, K721q, B721_0, B721_1, B721_2⟩ := hQ721
  have Z721 : n0 ≤ T721.heap.size := Nat.le_trans Z714 K721q.1
  have N721 := Fr.app N714 N721q
  replace G := o_re (st := []) G rfl
  replace G := o_iconst (q := 143) G X721.here hx (hb hby at_142) (v := (3 : Int32)) (by decide) rfl
  obtain ⟨T726, h726, k726, X726, e726, E726, A726, st726⟩ := newP X721 hx hZ (o_w hw 15 rfl) rfl (g := o_g G) rfl (hb hby at_143) rfl (by decide) (cap := 3) (by decide) (by decide) (by decide) (by decide)
  obtain ⟨b726, g726⟩ : ∃ z, z = T721.heap.size := ⟨_, rfl⟩
  rw [← g726] at A726 st726
  have ne727 : vx_522 ≠ b726 := Nat.ne_of_lt (Nat.lt_of_lt_of_le B721_2.lt (Nat.le_of_eq g726.symm))
  have ne728 : vh_522 ≠ b726 := Nat.ne_of_lt (Nat.lt_of_lt_of_le B721_1.lt (Nat.le_of_eq g726.symm))
  have ne729 : va_522 ≠ b726 := Nat.ne_of_lt (Nat.lt_of_lt_of_le B721_0.lt (Nat.le_of_eq g726.symm))
  have F730 := (B714_4.keep K721q (ninS ne523 (ninS ne524 (ninS ne525 nin0))))
  have ne731 : b521 ≠ b726 := Nat.ne_of_lt (Nat.lt_of_lt_of_le F730.lt (Nat.le_of_eq g726.symm))
  have ge_b726 : n0 ≤ b726 := Nat.le_trans Z721 (Nat.le_of_eq g726.symm)
  have Z726 : n0 ≤ h726.size := Nat.le_trans Z721 E726.1
  have V726 : Arv Z h726 b726 k726 .int 3 [(.int 0), (.int 0), (.int 0)] (.int 0) := (Arv.new A726 (by decide)).pad (pad_rep [] (.int 0) 3)
  replace G := o_nxs (q := 145) (st := [(.ref b726)]) G st726 rfl
  replace G := o_astore (q := 147) (l' := #[.val (.int i0), .val (.int i1), .val (.int 2), .val (.int 1), .val (.int 0), .val (.int 2), .val (.int 0), .val (.int 2), .val (.int 1), .val (.int 1), .val (.ref b521), .val (.ref b726), .unset, .unset, .unset, .unset]) G X726.here hx (hb hby at_145) rfl rfl rfl
  replace G := o_aload (q := 149) G X726.here hx (hb hby at_147) rfl rfl rfl
  replace G := o_iloadN (q := 150) G X726.here hx (hb hby at_149) rfl rfl
  replace G := o_iconst (q := 151) G X726.here hx (hb hby at_150) (v := (0 : Int32)) (by decide) rfl
  obtain ⟨c732, Ar732, q732, S732, N732', H732, G732'⟩ := id V726
  have hin732 : ¬ ((1 : Int32) < 0 ∨ c732.slots.size ≤ ((1 : Int32)).toNatClampNeg) := inb_of S732 ⟨by decide, by decide⟩
  obtain ⟨T732, h732, X732, e732, W732, st732⟩ := stI X726 hx hZ e726 Ar732 (j := (1 : Int32)) hin732 (g := o_g G) rfl rfl (hb hby at_151)
  have N732 := Fr.snoc X732 N721 ge_b726
  have Z732 : n0 ≤ h732.size := Nat.le_trans Z726 (Keep.of_wr W732).1
  have V732 : Arv Z h732 b726 k726 .int 3 [(.int 0), (.int 0), (.int 0)] (.int 0) := Arv.set Ar732 q732 S732 N732' H732 G732' rfl W732 1 rfl (Nat.le_of_ble_eq_true rfl)
  replace G := o_nxs (q := 152) (st := []) G st732 rfl
  replace G := o_aload (q := 154) G X732.here hx (hb hby at_152) rfl rfl rfl
  replace G := o_iload (q := 156) G X732.here hx (hb hby at_154) rfl rfl
  replace G := o_iload (q := 158) G X732.here hx (hb hby at_156) rfl rfl
  replace G := o_ifNo (q := 161) G X732.here hx (hb hby at_158) (by decide) rfl
  replace G := o_iconst (q := 162) G X732.here hx (hb hby at_161) (v := (1 : Int32)) (by decide) rfl
  replace G := o_goto (q := 166) G X732.here hx (hb hby at_162) (by decide) (by decide)
  obtain ⟨c734, Ar734, q734, S734, N734', H734, G734'⟩ := id V732
  have hin734 : ¬ ((0 : Int32) < 0 ∨ c734.slots.size ≤ ((0 : Int32)).toNatClampNeg) := inb_of S734 ⟨by decide, by decide⟩
  obtain ⟨T734, h734, X734, e734, W734, st734⟩ := stI X732 hx hZ e732 Ar734 (j := (0 : Int32)) hin734 (g := o_g G) rfl rfl (hb hby at_166)
  have N734 := Fr.snoc X734 N732 ge_b726
  have Z734 : n0 ≤ h734.size := Nat.le_trans Z732 (Keep.of_wr W734).1
  have V734 : Arv Z h734 b726 k726 .int 3 [(.int 1), (.int 0), (.int 0)] (.int 0) := Arv.set Ar734 q734 S734 N734' H734 G734' rfl W734 0 rfl (Nat.le_of_ble_eq_true rfl)
  replace G := o_nxs (q := 167) (st := []) G st734 rfl
  replace G := o_aload (q := 169) G X734.here hx (hb hby at_167) rfl rfl rfl
  replace G := o_iload (q := 171) G X734.here hx (hb hby at_169) rfl rfl
  replace G := o_aload (q := 173) G X734.here hx (hb hby at_171) rfl rfl rfl
  replace G := o_iload (q := 175) G X734.here hx (hb hby at_173) rfl rfl
  obtain ⟨c735, Ar735, -, S735, -, H735, -⟩ := id V734
  have hin735 : ¬ ((0 : Int32) < 0 ∨ c735.slots.size ≤ ((0 : Int32)).toNatClampNeg) := inb_of S735 ⟨by decide, by decide⟩
  replace G := o_nxs (q := 176) (st := [(.int 1), (.int 2), (.ref b726)]) G (X734.iaload hx (j := (0 : Int32)) (v := (.int 1)) (by rw [e734]; exact Ar735.1) (State.isArrayOf_alike hZ.alike Ar735.2.1) Ar735.2.2 hin735 (Has.at H735 hin735 rfl) (g := o_g G) rfl rfl (hb hby at_175)) rfl
  replace G := o_iload (q := 178) G X734.here hx (hb hby at_176) rfl rfl
  replace G := o_ifNo (q := 181) G X734.here hx (hb hby at_178) (by decide) rfl
  replace G := o_iconst (q := 182) G X734.here hx (hb hby at_181) (v := (1 : Int32)) (by decide) rfl
  replace G := o_goto (q := 186) G X734.here hx (hb hby at_182) (by decide) (by decide)
  replace G := o_iadd (q := 187) G X734.here hx (hb hby at_186) (by decide : ((1 : Int32) + (1 : Int32)) = (2 : Int32)) rfl
  obtain ⟨c737, Ar737, q737, S737, N737', H737, G737'⟩ := id V734
  have hin737 : ¬ ((2 : Int32) < 0 ∨ c737.slots.size ≤ ((2 : Int32)).toNatClampNeg) := inb_of S737 ⟨by decide, by decide⟩
  obtain ⟨T737, h737, X737, e737, W737, st737⟩ := stI X734 hx hZ e734 Ar737 (j := (2 : Int32)) hin737 (g := o_g G) rfl rfl (hb hby at_187)
  have N737 := Fr.snoc X737 N734 ge_b726
  have Z737 : n0 ≤ h737.size := Nat.le_trans Z734 (Keep.of_wr W737).1
  have V737 : Arv Z h737 b726 k726 .int 3 [(.int 1), (.int 0), (.int 2)] (.int 0) := Arv.set Ar737 q737 S737 N737' H737 G737' rfl W737 2 rfl (Nat.le_of_ble_eq_true rfl)
  replace G := o_nxs (q := 188) (st := []) G st737 rfl
  replace G := o_aload (q := 190) G X737.here hx (hb hby at_188) rfl rfl rfl
  have F739 := (((((F722.keep K721q).ext E726).wr W732).wr W734).wr W737)
  have F740 := (((((B714_0.keep K721q (ninS ne523 (ninS ne524 (ninS ne525 nin0)))).ext E726).other W732 (Or.inl ne731)).other W734 (Or.inl ne731)).other W737 (Or.inl ne731))
  have F741 := (((((B714_1.keep K721q (ninS ne523 (ninS ne524 (ninS ne525 nin0)))).ext E726).other W732 (Or.inl ne731)).other W734 (Or.inl ne731)).other W737 (Or.inl ne731))
  have F742 := (((((B714_2.keep K721q (ninS ne523 (ninS ne524 (ninS ne525 nin0)))).ext E726).other W732 (Or.inl ne731)).other W734 (Or.inl ne731)).other W737 (Or.inl ne731))
  have F743 := (((((B714_3.keep K721q (ninS ne523 (ninS ne524 (ninS ne525 nin0)))).ext E726).other W732 (Or.inl ne731)).other W734 (Or.inl ne731)).other W737 (Or.inl ne731))
  have F744 := ((((F730.ext E726).other W732 (Or.inl ne731)).other W734 (Or.inl ne731)).other W737 (Or.inl ne731))
  have F745 := ((((B721_0.ext E726).other W732 ne729).other W734 ne729).other W737 ne729)
  have F746 := ((((B721_1.ext E726).other W732 ne728).other W734 ne728).other W737 ne728)
  have F747 := ((((B721_2.ext E726).other W732 ne727).other W734 ne727).other W737 ne727)
  obtain ⟨T738, _, Lc738, X738, hQ738, G⟩ := o_vb (q := 193) (W := 0) (argsL := []) (rest := []) (y := (⟨o_n0, "takeFirst", "()I"⟩ : MethodName)) G X737 hx hZ hown (by rw [hml]; rfl) ⟨(o_w hw 47 rfl), (o_w hw 48 rfl), (o_w hw 50 rfl), (o_w hw 49 rfl), (o_w hw 51 rfl), (o_w hw 3 rfl)⟩ (by decide) e737 F739 (rm8n3f l Z a0 hw [] b521 va_522 vh_522 vx_522 ka_522 kh_522 kx_522 (2 : Int32) (1 : Int32) (0 : Int32) [(.double o_d1), (.double o_d0), (.double o_d2)] [(.int 2), (.int 1), (.int 0)] [(.int 0), (.int 1), (.int (-1))] o_d2 o_d1 o_d0 h737 n0 Z737 F739 F740 F741 F742 F743 F744 F745 F746 F747 ge_b521 ge_vh_522 ge_vx_522 ne523 ne524 ne525 B522_8 B522_9 B522_10 ⟨by decide, by decide⟩ ⟨by decide, by decide⟩ ⟨by decide, by decide⟩ rfl rfl rfl (by decide +kernel) rfl) (lenOf pd_3 rfl) rfl (Nat.le_of_eq rfl) (hb hby at_190) rfl (by decide) (by decide) (by decide) (by decide)
  obtain ⟨rfl, N738q, K738q, B738_0, B738_1, B738_2, B738_3, B738_4, B738_5, B738_6⟩ := hQ738
  have Z738 : n0 ≤ T738.heap.size := Nat.le_trans Z737 K738q.1
  have N738 := Fr.app N737 N738q
  replace G := o_re (st := [(.int 2)]) G rfl
  replace G := o_istore (q := 195) (l' := #[.val (.int i0), .val (.int i1), .val (.int 2), .val (.int 1), .val (.int 0), .val (.int 2), .val (.int 0), .val (.int 2), .val (.int 1), .val (.int 1), .val (.ref b521), .val (.ref b726), .val (.int 2), .unset, .unset, .unset]) G X738.here hx (hb hby at_193) rfl rfl
  replace G := o_aload (q := 197) G X738.here hx (hb hby at_195) rfl rfl rfl
  have F749 := (F739.keep K738q)
  have F750 := (F745.keep K738q (ninS (Ne.symm ne523) (ninS B522_8 (ninS B522_9 nin0))))
  obtain ⟨T748, _, Lc748, X748, hQ748, G⟩ := o_vb (q := 200) (W := 0) (argsL := []) (rest := []) (y := (⟨o_n0, "takeFirst", "()I"⟩ : MethodName)) G X738 hx hZ hown (by rw [hml]; rfl) ⟨(o_w hw 47 rfl), (o_w hw 48 rfl), (o_w hw 50 rfl), (o_w hw 49 rfl), (o_w hw 51 rfl), (o_w hw 3 rfl)⟩ (by decide) rfl F749 (rm8n2 l Z a0 hw [] b521 va_522 vh_522 vx_522 ka_522 kh_522 kx_522 (0 : Int32) (1 : Int32) (0 : Int32) [(.double o_d1), (.double o_d0), (.double o_d2)] [(.int 0), (.int 1), (.int (-1))] [(.int (-1)), (.int 0), (.int (-1))] o_d2 T738.heap n0 Z738 F749 B738_0 B738_1 B738_2 B738_3 B738_4 F750 B738_5 B738_6 ge_b521 ge_vh_522 ge_vx_522 ne523 ne524 ne525 B522_8 B522_9 B522_10 ⟨by decide, by decide⟩ ⟨by decide, by decide⟩ rfl rfl) (lenOf pd_3 rfl) rfl (Nat.le_of_eq rfl) (hb hby at_197) rfl (by decide) (by decide) (by decide) (by decide)
  obtain ⟨rfl, N748q, K748q, B748_0, B748_1, B748_2, B748_3, B748_4, B748_5, B748_6⟩ := hQ748
  have Z748 : n0 ≤ T748.heap.size := Nat.le_trans Z738 K748q.1
  have N748 := Fr.app N738 N748q
  replace G := o_re (st := [(.int 0)]) G rfl
  replace G := o_istore (q := 202) (l' := #[.val (.int i0), .val (.int i1), .val (.int 2), .val (.int 1), .val (.int 0), .val (.int 2), .val (.int 0), .val (.int 2), .val (.int 1), .val (.int 1), .val (.ref b521), .val (.ref b726), .val (.int 2), .val (.int 0), .unset, .unset]) G X748.here hx (hb hby at_200) rfl rfl
  replace G := o_aload (q := 204) G X748.here hx (hb hby at_202) rfl rfl rfl
  have F752 := (F749.keep K748q)
  have F753 := (F750.keep K748q (ninS (Ne.symm ne523) (ninS B522_8 (ninS B522_9 nin0))))
  obtain ⟨T751, _, Lc751, X751, hQ751, G⟩ := o_vb (q := 207) (W := 0) (argsL := []) (rest := []) (y := (⟨o_n0, "takeFirst", "()I"⟩ : MethodName)) G X748 hx hZ hown (by rw [hml]; rfl) ⟨(o_w hw 47 rfl), (o_w hw 48 rfl), (o_w hw 50 rfl), (o_w hw 49 rfl), (o_w hw 51 rfl), (o_w hw 3 rfl)⟩ (by decide) rfl F752 (rm8n1 l Z a0 hw [] b521 va_522 vh_522 vx_522 ka_522 kh_522 kx_522 (1 : Int32) (1 : Int32) (0 : Int32) [(.double o_d1), (.double o_d0), (.double o_d2)] [(.int (-1)), (.int 0), (.int (-1))] [(.int (-1)), (.int (-1)), (.int (-1))] o_d2 T748.heap n0 Z748 F752 B748_0 B748_1 B748_2 B748_3 B748_4 F753 B748_5 B748_6 ge_b521 ge_vh_522 ge_vx_522 ne523 ne524 ne525 B522_8 B522_9 B522_10 ⟨by decide, by decide⟩ rfl rfl) (lenOf pd_3 rfl) rfl (Nat.le_of_eq rfl) (hb hby at_204) rfl (by decide) (by decide) (by decide) (by decide)
  obtain ⟨rfl, N751q, K751q, B751_0, B751_1, B751_2, B751_3, B751_4, B751_5, B751_6⟩ := hQ751
  have Z751 : n0 ≤ T751.heap.size := Nat.le_trans Z748 K751q.1
  have N751 := Fr.app N748 N751q
  replace G := o_re (st := [(.int 1)]) G rfl
  replace G := o_istore (q := 209) (l' := #[.val (.int i0), .val (.int i1), .val (.int 2), .val (.int 1), .val (.int 0), .val (.int 2), .val (.int 0), .val (.int 2), .val (.int 1), .val (.int 1), .val (.ref b521), .val (.ref b726), .val (.int 2), .val (.int 0), .val (.int 1), .unset]) G X751.here hx (hb hby at_207) rfl rfl
  replace G := o_iload (q := 211) G X751.here hx (hb hby at_209) rfl rfl
  replace G := o_ifNo (q := 214) G X751.here hx (hb hby at_211) (by decide) rfl
  replace G := o_iload (q := 216) G X751.here hx (hb hby at_214) rfl rfl
  replace G := o_iconst (q := 217) G X751.here hx (hb hby at_216) (v := (3 : Int32)) (by decide) rfl
  replace G := o_icmpNo (q := 220) G X751.here hx (hb hby at_217) (by decide) rfl
  replace G := o_iload (q := 222) G X751.here hx (hb hby at_220) rfl rfl
  replace G := o_ifNo (q := 225) G X751.here hx (hb hby at_222) (by decide) rfl
  replace G := o_iload (q := 227) G X751.here hx (hb hby at_225) rfl rfl
  replace G := o_iconst (q := 228) G X751.here hx (hb hby at_227) (v := (3 : Int32)) (by decide) rfl
  replace G := o_icmpNo (q := 231) G X751.here hx (hb hby at_228) (by decide) rfl
  replace G := o_iload (q := 233) G X751.here hx (hb hby at_231) rfl rfl
  replace G := o_ifNo (q := 236) G X751.here hx (hb hby at_233) (by decide) rfl
  replace G := o_iload (q := 238) G X751.here hx (hb hby at_236) rfl rfl
  replace G := o_iconst (q := 239) G X751.here hx (hb hby at_238) (v := (3 : Int32)) (by decide) rfl
  replace G := o_icmpNo (q := 242) G X751.here hx (hb hby at_239) (by decide) rfl
  replace G := o_iload (q := 244) G X751.here hx (hb hby at_242) rfl rfl
  replace G := o_iload (q := 246) G X751.here hx (hb hby at_244) rfl rfl
  replace G := o_icmpNo (q := 249) G X751.here hx (hb hby at_246) (by decide) rfl
  replace G := o_iload (q := 251) G X751.here hx (hb hby at_249) rfl rfl
  replace G := o_iload (q := 253) G X751.here hx (hb hby at_251) rfl rfl
  replace G := o_icmpNo (q := 256) G X751.here hx (hb hby at_253) (by decide) rfl
  replace G := o_iload (q := 258) G X751.here hx (hb hby at_256) rfl rfl
  replace G := o_iload (q := 260) G X751.here hx (hb hby at_258) rfl rfl
  replace G := o_icmpNo (q := 263) G X751.here hx (hb hby at_260) (by decide) rfl
  replace G := o_iconst (q := 264) G X751.here hx (hb hby at_263) (v := (1 : Int32)) (by decide) rfl
  replace G := o_goto (q := 268) G X751.here hx (hb hby at_264) (by decide) (by decide)
  replace G := o_istore (q := 270) (l' := #[.val (.int i0), .val (.int i1), .val (.int 2), .val (.int 1), .val (.int 0), .val (.int 2), .val (.int 0), .val (.int 2), .val (.int 1), .val (.int 1), .val (.ref b521), .val (.ref b726), .val (.int 2), .val (.int 0), .val (.int 1), .val (.int 1)]) G X751.here hx (hb hby at_268) rfl rfl
  replace G := o_iload (q := 272) G X751.here hx (hb hby at_270) rfl rfl
  replace G := o_ifNo (q := 275) G X751.here hx (hb hby at_272) (by decide) rfl
  replace G := o_aload (q := 277) G X751.here hx (hb hby at_275) rfl rfl rfl
  replace G := o_iload (q := 279) G X751.here hx (hb hby at_277) rfl rfl
  replace G := o_iload (q := 281) G X751.here hx (hb hby at_279) rfl rfl
  have F765 := (((V737.keep K738q (ninS (Ne.symm ne731) (ninS (Ne.symm ne728) (ninS (Ne.symm ne727) nin0)))).keep K748q (ninS (Ne.symm ne731) (ninS (Ne.symm ne728) (ninS (Ne.symm ne727) nin0)))).keep K751q (ninS (Ne.symm ne731) (ninS (Ne.symm ne728) (ninS (Ne.symm ne727) nin0))))
  obtain ⟨_, _, ⟨T764, L764, kk764, nn764⟩, -, X764, ⟨Lc764, hQ764, l764, y764, z764⟩, st764⟩ := Jvm.LawKit.callS X751 hx (y := (⟨o_n1, "before", "([III)Z"⟩ : MethodName)) hown (mvT hZ (o_w hw 56 rfl)) (mvT hZ (o_w hw 57 rfl)) (mvT hZ (o_w hw 58 rfl)) (mvT hZ (o_w hw 59 rfl)) (by decide) (backOf (W := 0) (rm10 l Z a0 hw [] b726 (2 : Int32) (0 : Int32) k726 [(.int 1), (.int 0), (.int 2)] (2 : Int32) (1 : Int32) T751.heap n0 Z751 F765 ⟨by decide, by decide⟩ ⟨by decide, by decide⟩ rfl rfl) hZ (o_w hw 59 rfl) (o_w hw 58 rfl) (by decide) (by decide)) (g := o_g G) rfl (by rw [hml]; rfl) (argsL := [(.ref b726), (.int 2), (.int 0)]) (rest := []) (lenOf pd_4 rfl) rfl (by show 2 * 0 + _ ≤ _; exact Nat.le_of_eq rfl) (hb hby at_281) (fun _ _ => ⟨rfl, rfl, (by decide : 5 + 0 ≤ _), (by decide : 17 + 0 ≤ _)⟩)
  dsimp only [Pt.U, Pt.locs, Pt.cells, Pt.slots] at X764 l764 y764 z764 st764 hQ764
  subst l764 y764 z764
  obtain ⟨rfl, N764q, e764⟩ := hQ764
  have N764 := Fr.app N751 N764q
  replace G := o_nxs (q := 284) (st := [(.int (o_lb (2 : Int32) (1 : Int32) (2 : Int32) (0 : Int32)))]) G st764 rfl
  replace G := o_ifNo (q := 287) G X764.here hx (hb hby at_284) (by decide) rfl
  replace G := o_aload (q := 289) G X764.here hx (hb hby at_287) rfl rfl rfl
  replace G := o_iload (q := 291) G X764.here hx (hb hby at_289) rfl rfl
  replace G := o_iload (q := 293) G X764.here hx (hb hby at_291) rfl rfl
  obtain ⟨_, _, ⟨T767, L767, kk767, nn767⟩, -, X767, ⟨Lc767, hQ767, l767, y767, z767⟩, st767⟩ := Jvm.LawKit.callS X764 hx (y := (⟨o_n1, "before", "([III)Z"⟩ : MethodName)) hown (mvT hZ (o_w hw 56 rfl)) (mvT hZ (o_w hw 57 rfl)) (mvT hZ (o_w hw 58 rfl)) (mvT hZ (o_w hw 59 rfl)) (by decide) (backOf (W := 0) (rm10 l Z a0 hw [] b726 (0 : Int32) (1 : Int32) k726 [(.int 1), (.int 0), (.int 2)] (1 : Int32) (0 : Int32) T751.heap n0 Z751 F765 ⟨by decide, by decide⟩ ⟨by decide, by decide⟩ rfl rfl) hZ (o_w hw 59 rfl) (o_w hw 58 rfl) (by decide) (by decide)) (g := o_g G) rfl (by rw [hml]; rfl) (argsL := [(.ref b726), (.int 0), (.int 1)]) (rest := []) (lenOf pd_4 rfl) rfl (by show 2 * 0 + _ ≤ _; exact Nat.le_of_eq rfl) (hb hby at_293) (fun _ _ => ⟨rfl, e764, (by decide : 5 + 0 ≤ _), (by decide : 17 + 0 ≤ _)⟩)
  dsimp only [Pt.U, Pt.locs, Pt.cells, Pt.slots] at X767 l767 y767 z767 st767 hQ767
  subst l767 y767 z767
  obtain ⟨rfl, N767q, e767⟩ := hQ767
  have N767 := Fr.app N764 N767q
  replace G := o_nxs (q := 296) (st := [(.int (o_lb (1 : Int32) (0 : Int32) (0 : Int32) (1 : Int32)))]) G st767 rfl
  replace G := o_ifNo (q := 299) G X767.here hx (hb hby at_296) (by decide) rfl
  replace G := o_aload (q := 301) G X767.here hx (hb hby at_299) rfl rfl rfl
  have F770 := (F752.keep K751q)
  obtain ⟨T769, _, Lc769, X769, hQ769, G⟩ := o_vb (q := 304) (W := 0) (argsL := []) (rest := []) (y := (⟨o_n0, "isEmpty", "()Z"⟩ : MethodName)) G X767 hx hZ hown (by rw [hml]; rfl) ⟨(o_w hw 60 rfl), (o_w hw 61 rfl), (o_w hw 63 rfl), (o_w hw 62 rfl), (o_w hw 64 rfl), (o_w hw 3 rfl)⟩ (by decide) e767 F770 (rm11 l Z a0 hw [] b521 T751.heap n0 Z751 B751_3) (lenOf pd_5 rfl) rfl (Nat.le_of_eq rfl) (hb hby at_301) rfl (by decide) (by decide) (by decide) (by decide)
  obtain ⟨rfl, N769q, e769⟩ := hQ769
  have N769 := Fr.app N767 N769q
  replace G := o_re (st := [(.int 1)]) G rfl
  replace G := o_ifNo (q := 307) G X769.here hx (hb hby at_304) (by decide) rfl
  replace G := o_iconst (q := 308) G X769.here hx (hb hby at_307) (v := (1 : Int32)) (by decide) rfl
  replace G := o_goto (q := 312) G X769.here hx (hb hby at_308) (by decide) (by decide)
  obtain ⟨fs, hr, hrun, hended, hW, hsame⟩ := X769.leave (v := some (.int 1)) (fun h => by rw [Bd.returns] at h; cases h)
  refine ⟨_, _, G _ (retOut X769 hx Bd.returns rfl (Or.inl ⟨rfl, Or.inr (Or.inl rfl), _, rfl⟩) (hb hby at_312) hr), hrun, hended, _, _, rfl, ?_, ⟨_, rfl⟩, hW, hsame.mono (by decide) (by decide)⟩
  show Q0 Z i0 i1 h0 n0 _ T769.heap _
  rw [e769]
  exact ⟨rfl, N769⟩
  replace G := o_istoreN (q := 8) (l' := #[.val (.int i0), .val (.int i1), .val (.int 3), .unset, .unset, .unset, .unset, .unset, .unset, .unset, .unset, .unset, .unset, .unset, .unset, .unset]) G X0.here hx (hb hby at_7) rfl rfl
  replace G := o_iloadN (q := 9) G X0.here hx (hb hby at_8) rfl rfl
  replace G := o_iconst (q := 10) G X0.here hx (hb hby at_9) (v := (2 : Int32)) (by decide) rfl
  replace G := o_idiv (q := 11) G X0.here hx (hb hby at_10) (by decide) (by decide : ((3 : Int32) / (2 : Int32)) = (1 : Int32)) rfl
  replace G := o_istoreN (q := 12) (l' := #[.val (.int i0), .val (.int i1), .val (.int 3), .val (.int 1), .unset, .unset, .unset, .unset, .unset, .unset, .unset, .unset, .unset, .unset, .unset, .unset]) G X0.here hx (hb hby at_11) rfl rfl
  replace G := o_iloadN (q := 13) G X0.here hx (hb hby at_12) rfl rfl
  replace G := o_ifYes (q := 20) G X0.here hx (hb hby at_13) (by decide) (by decide) (by decide)
  replace G := o_iconst (q := 21) G X0.here hx (hb hby at_20) (v := (0 : Int32)) (by decide) rfl
  replace G := o_istore (q := 23) (l' := #[.val (.int i0), .val (.int i1), .val (.int 3), .val (.int 1), .val (.int 0), .unset, .unset, .unset, .unset, .unset, .unset, .unset, .unset, .unset, .unset, .unset]) G X0.here hx (hb hby at_21) rfl rfl
  replace G := o_iloadN (q := 24) G X0.here hx (hb hby at_23) rfl rfl
  replace G := o_iconst (q := 25) G X0.here hx (hb hby at_24) (v := (2 : Int32)) (by decide) rfl
  replace G := o_icmpYes (q := 32) G X0.here hx (hb hby at_25) (by decide) (by decide) (by decide)
  replace G := o_iconst (q := 33) G X0.here hx (hb hby at_32) (v := (2 : Int32)) (by decide) rfl
  replace G := o_istore (q := 35) (l' := #[.val (.int i0), .val (.int i1), .val (.int 3), .val (.int 1), .val (.int 0), .val (.int 2), .unset, .unset, .unset, .unset, .unset, .unset, .unset, .unset, .unset, .unset]) G X0.here hx (hb hby at_33) rfl rfl
  replace G := o_iloadN (q := 36) G X0.here hx (hb hby at_35) rfl rfl
  replace G := o_iconst (q := 37) G X0.here hx (hb hby at_36) (v := (1 : Int32)) (by decide) rfl
  replace G := o_iand (q := 38) G X0.here hx (hb hby at_37) (by decide : ((3 : Int32) &&& (1 : Int32)) = (1 : Int32)) rfl
  replace G := o_ifYes (q := 46) G X0.here hx (hb hby at_38) (by decide) (by decide) (by decide)
  replace G := o_iload (q := 48) G X0.here hx (hb hby at_46) rfl rfl
  replace G := o_istore (q := 50) (l' := #[.val (.int i0), .val (.int i1), .val (.int 3), .val (.int 1), .val (.int 0), .val (.int 2), .val (.int 2), .unset, .unset, .unset, .unset, .unset, .unset, .unset, .unset, .unset]) G X0.here hx (hb hby at_48) rfl rfl
  replace G := o_iloadN (q := 51) G X0.here hx (hb hby at_50) rfl rfl
  replace G := o_iconst (q := 52) G X0.here hx (hb hby at_51) (v := (1 : Int32)) (by decide) rfl
  replace G := o_iand (q := 53) G X0.here hx (hb hby at_52) (by decide : ((3 : Int32) &&& (1 : Int32)) = (1 : Int32)) rfl
  replace G := o_ifYes (q := 61) G X0.here hx (hb hby at_53) (by decide) (by decide) (by decide)
  replace G := o_iload (q := 63) G X0.here hx (hb hby at_61) rfl rfl
  replace G := o_istore (q := 65) (l' := #[.val (.int i0), .val (.int i1), .val (.int 3), .val (.int 1), .val (.int 0), .val (.int 2), .val (.int 2), .val (.int 0), .unset, .unset, .unset, .unset, .unset, .unset, .unset, .unset]) G X0.here hx (hb hby at_63) rfl rfl
  replace G := o_iloadN (q := 66) G X0.here hx (hb hby at_65) rfl rfl
  replace G := o_iconst (q := 67) G X0.here hx (hb hby at_66) (v := (1 : Int32)) (by decide) rfl
  obtain ⟨m1, hn_m1⟩ : ∃ z : Int32, (i1 &&& (1 : Int32)) = z := ⟨_, rfl⟩
  replace G := o_iand (q := 68) G X0.here hx (hb hby at_67) hn_m1 rfl
  replace G : Gets p e below (s₁.setTop (entryFrame m #[(.int i0), (.int i1)] maxLocals)) (s₁.setTop (mkF m 76 #[.val (.int i0), .val (.int i1), .val (.int 3), .val (.int 1), .val (.int 0), .val (.int 2), .val (.int 2), .val (.int 0), .unset, .unset, .unset, .unset, .unset, .unset, .unset, .unset] [(.int (if m1 = (0 : Int32) then (0 : Int32) else (1 : Int32)))])) := by
    by_cases hc68_776 : m1 = (0 : Int32)
    · replace G := o_ifYes (q := 75) G X0.here hx (hb hby at_68) ((if0 _ _).trans (teq hc68_776).1) (by decide) (by decide)
      replace G := o_iconst (q := 76) G X0.here hx (hb hby at_75) (v := (0 : Int32)) (by decide) rfl
      simp only [if_pos hc68_776]
      exact G
    · replace G := o_ifNo (q := 71) G X0.here hx (hb hby at_68) ((if0 _ _).trans (feq hc68_776).1) rfl
      replace G := o_iconst (q := 72) G X0.here hx (hb hby at_71) (v := (1 : Int32)) (by decide) rfl
      replace G := o_goto (q := 76) G X0.here hx (hb hby at_72) (by decide) (by decide)
      simp only [if_neg hc68_776]
      exact G
  obtain ⟨w1, hn_w1⟩ : ∃ z : Int32, (if m1 = (0 : Int32) then (0 : Int32) else (1 : Int32)) = z := ⟨_, rfl⟩
  rw [hn_w1] at G
  replace G := o_istore (q := 78) (l' := #[.val (.int i0), .val (.int i1), .val (.int 3), .val (.int 1), .val (.int 0), .val (.int 2), .val (.int 2), .val (.int 0), .val (.int w1), .unset, .unset, .unset, .unset, .unset, .unset, .unset]) G X0.here hx (hb hby at_76) rfl rfl
  replace G := o_iloadN (q := 79) G X0.here hx (hb hby at_78) rfl rfl
  replace G := o_iconst (q := 80) G X0.here hx (hb hby at_79) (v := (2 : Int32)) (by decide) rfl
  obtain ⟨m2, hn_m2⟩ : ∃ z : Int32, (i1 &&& (2 : Int32)) = z := ⟨_, rfl⟩
  replace G := o_iand (q := 81) G X0.here hx (hb hby at_80) hn_m2 rfl
  replace G : Gets p e below (s₁.setTop (entryFrame m #[(.int i0), (.int i1)] maxLocals)) (s₁.setTop (mkF m 89 #[.val (.int i0), .val (.int i1), .val (.int 3), .val (.int 1), .val (.int 0), .val (.int 2), .val (.int 2), .val (.int 0), .val (.int w1), .unset, .unset, .unset, .unset, .unset, .unset, .unset] [(.int (if m2 = (0 : Int32) then (0 : Int32) else (1 : Int32)))])) := by
    by_cases hc81_777 : m2 = (0 : Int32)
    · replace G := o_ifYes (q := 88) G X0.here hx (hb hby at_81) ((if0 _ _).trans (teq hc81_777).1) (by decide) (by decide)
      replace G := o_iconst (q := 89) G X0.here hx (hb hby at_88) (v := (0 : Int32)) (by decide) rfl
      simp only [if_pos hc81_777]
      exact G
    · replace G := o_ifNo (q := 84) G X0.here hx (hb hby at_81) ((if0 _ _).trans (feq hc81_777).1) rfl
      replace G := o_iconst (q := 85) G X0.here hx (hb hby at_84) (v := (1 : Int32)) (by decide) rfl
      replace G := o_goto (q := 89) G X0.here hx (hb hby at_85) (by decide) (by decide)
      simp only [if_neg hc81_777]
      exact G
  obtain ⟨w2, hn_w2⟩ : ∃ z : Int32, (if m2 = (0 : Int32) then (0 : Int32) else (1 : Int32)) = z := ⟨_, rfl⟩
  rw [hn_w2] at G
  replace G := o_istore (q := 91) (l' := #[.val (.int i0), .val (.int i1), .val (.int 3), .val (.int 1), .val (.int 0), .val (.int 2), .val (.int 2), .val (.int 0), .val (.int w1), .val (.int w2), .unset, .unset, .unset, .unset, .unset, .unset]) G X0.here hx (hb hby at_89) rfl rfl
  obtain ⟨T778, h778, X778, e778, E778, A778, D778, -, st778⟩ := newO X0 hx hZ hown (o_w hw 1 rfl) (o_w hw 2 rfl) (o_w hw 3 rfl) e0 (g := o_g G) rfl (hb hby at_91) (by decide) (by decide)
  obtain ⟨b778, g778⟩ : ∃ z, z = h0.size := ⟨_, rfl⟩
  rw [← g778] at A778 D778 st778
  have ge_b778 : n0 ≤ b778 := Nat.le_trans Z0 (Nat.le_of_eq g778.symm)
  have Z778 : n0 ≤ h778.size := Nat.le_trans Z0 E778.1
  have F778_bump : Fld Z h778 b778 o_n0 "bump" "D" (.double 0) := D778 (Or.inl (o_w hw 11 rfl)) (ty := .double) (by decide)
  have F778_activity : Fld Z h778 b778 o_n0 "activity" "[D" .null := D778 (Or.inr (o_w hw 14 rfl)) (ty := (.array .double)) (by decide)
  have F778_heap : Fld Z h778 b778 o_n0 "heap" "[I" .null := D778 (Or.inr (o_w hw 17 rfl)) (ty := (.array .int)) (by decide)
  have F778_heapIndex : Fld Z h778 b778 o_n0 "heapIndex" "[I" .null := D778 (Or.inr (o_w hw 19 rfl)) (ty := (.array .int)) (by decide)
  have F778_heapSize : Fld Z h778 b778 o_n0 "heapSize" "I" (.int 0) := D778 (Or.inl (o_w hw 26 rfl)) (ty := .int) (by decide)
  replace G := o_nxs (q := 94) (st := [(.ref b778)]) G st778 rfl
  replace G := o_dup (q := 95) G X778.here hx (hb hby at_94) rfl rfl
  replace G := o_iconst (q := 96) G X778.here hx (hb hby at_95) (v := (3 : Int32)) (by decide) rfl
  replace G := o_aconst_null (q := 97) G X778.here hx (hb hby at_96) rfl
  obtain ⟨_, _, ⟨T779, L779, kk779, nn779⟩, -, X779, ⟨Lc779, hQ779, l779, y779, z779⟩, st779⟩ := X778.specialBack hx (y := (⟨o_n0, "<init>", "(ILcom/example/gridwright/gridwright/core/SplitMix64;)V"⟩ : MethodName)) rfl hown (mvT hZ (o_w hw 4 rfl)) (mvT hZ (o_w hw 5 rfl)) (mvT hZ (o_w hw 6 rfl)) (by decide) (backOf (W := 1) (rm1 l Z a0 hw [] b778 h778 n0 Z778 A778 F778_activity F778_heap F778_heapIndex F778_heapSize F778_bump ge_b778) hZ (o_w hw 6 rfl) (o_w hw 3 rfl) (by decide) (by decide)) (g := o_g G) rfl (by rw [hml]; rfl) (Steps.refl _) (a := b778) (argsL := [(.int 3), .null]) (rest := [(.ref b778)]) (lenOf pd_2 rfl) rfl (by show 2 * 0 + _ ≤ _; exact Nat.le_of_eq rfl) (hb hby at_97) (fun _ _ => ⟨rfl, e778, (by decide : 1 + 3 ≤ _), (by decide : 5 + 9 ≤ _)⟩)
  dsimp only [Pt.U, Pt.locs, Pt.cells, Pt.slots] at X779 l779 y779 z779 st779 hQ779
  subst l779 y779 z779
  obtain ⟨va_779, vh_779, vx_779, ka_779, kh_779, kx_779, rfl, N779q, K779q, B779_0, B779_1, B779_2, B779_3, B779_4, B779_5, B779_6, B779_7, B779_8, B779_9, B779_10, B779_11, B779_12, B779_13⟩ := hQ779
  have ne780 : b778 ≠ va_779 := Nat.ne_of_lt (Nat.lt_of_lt_of_le F778_heapSize.lt B779_5)
  have ge_va_779 : n0 ≤ va_779 := Nat.le_trans Z778 B779_5
  have ne781 : b778 ≠ vh_779 := Nat.ne_of_lt (Nat.lt_of_lt_of_le F778_heapSize.lt B779_6)
  have ge_vh_779 : n0 ≤ vh_779 := Nat.le_trans Z778 B779_6
  have ne782 : b778 ≠ vx_779 := Nat.ne_of_lt (Nat.lt_of_lt_of_le F778_heapSize.lt B779_7)
  have ge_vx_779 : n0 ≤ vx_779 := Nat.le_trans Z778 B779_7
  have Z779 : n0 ≤ T779.heap.size := Nat.le_trans Z778 K779q.1
  have N779 := Fr.app N0 N779q
  replace G := o_nxv (q := 100) (st := [(.ref b778)]) G st779 rfl
  replace G := o_astore (q := 102) (l' := #[.val (.int i0), .val (.int i1), .val (.int 3), .val (.int 1), .val (.int 0), .val (.int 2), .val (.int 2), .val (.int 0), .val (.int w1), .val (.int w2), .val (.ref b778), .unset, .unset, .unset, .unset, .unset]) G X779.here hx (hb hby at_100) rfl rfl rfl
  replace G := o_aload (q := 104) G X779.here hx (hb hby at_102) rfl rfl rfl
  replace G := o_iloadN (q := 105) G X779.here hx (hb hby at_104) rfl rfl
  have F784 := (A778.keep K779q)
  obtain ⟨T783, _, Lc783, X783, hQ783, G⟩ := o_vb (q := 108) (W := 0) (argsL := [(.int 1)]) (rest := []) (y := (⟨o_n0, "bump", "(I)V"⟩ : MethodName)) G X779 hx hZ hown (by rw [hml]; rfl) ⟨(o_w hw 35 rfl), (o_w hw 36 rfl), (o_w hw 38 rfl), (o_w hw 37 rfl), (o_w hw 39 rfl), (o_w hw 3 rfl)⟩ (by decide) rfl F784 (rm6f1t l Z a0 hw [] b778 (1 : Int32) va_779 vh_779 vx_779 ka_779 kh_779 kx_779 (0 : Int32) (1 : Int32) (2 : Int32) [(.double 0), (.double 0), (.double 0)] [(.int 0), (.int 1), (.int 2)] [(.int 1), (.int 0), (.int 2)] o_d0 [(.double 0), (.double o_d0), (.double 0)] (0 : UInt64) o_d0 (0 : UInt64) o_d0 T779.heap n0 Z779 F784 B779_0 B779_1 B779_2 B779_4 B779_11 B779_12 B779_13 ge_va_779 ge_vh_779 ge_vx_779 ne780 ne781 ne782 B779_8 B779_9 B779_10 ⟨by decide, by decide⟩ ⟨by decide, by decide⟩ ⟨by decide, by decide⟩ rfl rfl rfl rfl (by decide +kernel) (o_nan (by decide +kernel)) (by decide +kernel) rfl rfl rfl rfl (by decide +kernel) rfl) (lenOf pd_1 rfl) rfl (Nat.le_of_eq rfl) (hb hby at_105) rfl (by decide) (by decide) (by decide) (by decide)
  obtain ⟨rfl, N783q, K783q, B783_0, B783_1, B783_2⟩ := hQ783
  have Z783 : n0 ≤ T783.heap.size := Nat.le_trans Z779 K783q.1
  have N783 := Fr.app N779 N783q
  replace G := o_re (st := []) G rfl
  rcases o_01 hn_w1 with rfl | rfl
  replace G := o_iload (q := 110) G X783.here hx (hb hby at_108) rfl rfl
  replace G := o_ifYes (q := 118) G X783.here hx (hb hby at_110) (by decide) (by decide) (by decide)
  replace G := o_aload (q := 120) G X783.here hx (hb hby at_118) rfl rfl rfl
  replace G := o_iload (q := 122) G X783.here hx (hb hby at_120) rfl rfl
  have F787 := (F784.keep K783q)
  have F788 := (B779_0.keep K783q (ninS ne780 (ninS ne781 (ninS ne782 nin0))))
  have F789 := (B779_1.keep K783q (ninS ne780 (ninS ne781 (ninS ne782 nin0))))
  have F790 := (B779_2.keep K783q (ninS ne780 (ninS ne781 (ninS ne782 nin0))))
  have F791 := (B779_4.keep K783q (ninS ne780 (ninS ne781 (ninS ne782 nin0))))
  obtain ⟨T786, _, Lc786, X786, hQ786, G⟩ := o_vb (q := 125) (W := 0) (argsL := [(.int 2)]) (rest := []) (y := (⟨o_n0, "bump", "(I)V"⟩ : MethodName)) G X783 hx hZ hown (by rw [hml]; rfl) ⟨(o_w hw 35 rfl), (o_w hw 36 rfl), (o_w hw 38 rfl), (o_w hw 37 rfl), (o_w hw 39 rfl), (o_w hw 3 rfl)⟩ (by decide) rfl F787 (rm6f2f l Z a0 hw [] b778 (2 : Int32) va_779 vh_779 vx_779 ka_779 kh_779 kx_779 (1 : Int32) (0 : Int32) (2 : Int32) [(.double 0), (.double o_d0), (.double 0)] [(.int 1), (.int 0), (.int 2)] [(.int 1), (.int 0), (.int 2)] o_d0 [(.double 0), (.double o_d0), (.double o_d0)] (0 : UInt64) o_d0 o_d0 o_d0 T783.heap n0 Z783 F787 F788 F789 F790 F791 B783_0 B783_1 B783_2 ge_va_779 ge_vh_779 ge_vx_779 ne780 ne781 ne782 B779_8 B779_9 B779_10 ⟨by decide, by decide⟩ ⟨by decide, by decide⟩ ⟨by decide, by decide⟩ rfl rfl rfl rfl (by decide +kernel) (o_nan (by decide +kernel)) (by decide +kernel) rfl rfl rfl rfl (by decide +kernel) rfl) (lenOf pd_1 rfl) rfl (Nat.le_of_eq rfl) (hb hby at_122) rfl (by decide) (by decide) (by decide) (by decide)
  obtain ⟨rfl, N786q, K786q, B786_0, B786_1, B786_2⟩ := hQ786
  have Z786 : n0 ≤ T786.heap.size := Nat.le_trans Z783 K786q.1
  have N786 := Fr.app N783 N786q
  replace G := o_re (st := []) G rfl
  rcases o_01 hn_w2 with rfl | rfl
  replace G := o_iload (q := 127) G X786.here hx (hb hby at_125) rfl rfl
  replace G := o_ifYes (q := 135) G X786.here hx (hb hby at_127) (by decide) (by decide) (by decide)
  replace G := o_aload (q := 137) G X786.here hx (hb hby at_135) rfl rfl rfl
  replace G := o_iload (q := 139) G X786.here hx (hb hby at_137) rfl rfl
  have F794 := (F787.keep K786q)
  have F795 := (F788.keep K786q (ninS ne780 (ninS ne781 (ninS ne782 nin0))))
  have F796 := (F789.keep K786q (ninS ne780 (ninS ne781 (ninS ne782 nin0))))
  have F797 := (F790.keep K786q (ninS ne780 (ninS ne781 (ninS ne782 nin0))))
  have F798 := (F791.keep K786q (ninS ne780 (ninS ne781 (ninS ne782 nin0))))
  obtain ⟨T793, _, Lc793, X793, hQ793, G⟩ := o_vb (q := 142) (W := 0) (argsL := [(.int 0)]) (rest := []) (y := (⟨o_n0, "bump", "(I)V"⟩ : MethodName)) G X786 hx hZ hown (by rw [hml]; rfl) ⟨(o_w hw 35 rfl), (o_w hw 36 rfl), (o_w hw 38 rfl), (o_w hw 37 rfl), (o_w hw 39 rfl), (o_w hw 3 rfl)⟩ (by decide) rfl F794 (rm6f1t l Z a0 hw [] b778 (0 : Int32) va_779 vh_779 vx_779 ka_779 kh_779 kx_779 (1 : Int32) (0 : Int32) (2 : Int32) [(.double 0), (.double o_d0), (.double o_d0)] [(.int 1), (.int 0), (.int 2)] [(.int 0), (.int 1), (.int 2)] o_d0 [(.double o_d0), (.double o_d0), (.double o_d0)] (0 : UInt64) o_d0 o_d0 o_d0 T786.heap n0 Z786 F794 F795 F796 F797 F798 B786_0 B786_1 B786_2 ge_va_779 ge_vh_779 ge_vx_779 ne780 ne781 ne782 B779_8 B779_9 B779_10 ⟨by decide, by decide⟩ ⟨by decide, by decide⟩ ⟨by decide, by decide⟩ rfl rfl rfl rfl (by decide +kernel) (o_nan (by decide +kernel)) (by decide +kernel) rfl rfl rfl rfl (by decide +kernel) rfl) (lenOf pd_1 rfl) rfl (Nat.le_of_eq rfl) (hb hby at_139) rfl (by decide) (by decide) (by decide) (by decide)
  obtain ⟨rfl, N793q, K793q, B793_0, B793_1, B793_2⟩ := hQ793
  have Z793 : n0 ≤ T793.heap.size := Nat.le_trans Z786 K793q.1
  have N793 := Fr.app N786 N793q
  replace G := o_re (st := []) G rfl
  replace G := o_iconst (q := 143) G X793.here hx (hb hby at_142) (v := (3 : Int32)) (by decide) rfl
  obtain ⟨T799, h799, k799, X799, e799, E799, A799, st799⟩ := newP X793 hx hZ (o_w hw 15 rfl) rfl (g := o_g G) rfl (hb hby at_143) rfl (by decide) (cap := 3) (by decide) (by decide) (by decide) (by decide)
  obtain ⟨b799, g799⟩ : ∃ z, z = T793.heap.size := ⟨_, rfl⟩
  rw [← g799] at A799 st799
  have ne800 : vx_779 ≠ b799 := Nat.ne_of_lt (Nat.lt_of_lt_of_le B793_2.lt (Nat.le_of_eq g799.symm))
  have ne801 : vh_779 ≠ b799 := Nat.ne_of_lt (Nat.lt_of_lt_of_le B793_1.lt (Nat.le_of_eq g799.symm))
  have ne802 : va_779 ≠ b799 := Nat.ne_of_lt (Nat.lt_of_lt_of_le B793_0.lt (Nat.le_of_eq g799.symm))
  have F803 := (F798.keep K793q (ninS ne780 (ninS ne781 (ninS ne782 nin0))))
  have ne804 : b778 ≠ b799 := Nat.ne_of_lt (Nat.lt_of_lt_of_le F803.lt (Nat.le_of_eq g799.symm))
  have ge_b799 : n0 ≤ b799 := Nat.le_trans Z793 (Nat.le_of_eq g799.symm)
  have Z799 : n0 ≤ h799.size := Nat.le_trans Z793 E799.1
  have V799 : Arv Z h799 b799 k799 .int 3 [(.int 0), (.int 0), (.int 0)] (.int 0) := (Arv.new A799 (by decide)).pad (pad_rep [] (.int 0) 3)
  replace G := o_nxs (q := 145) (st := [(.ref b799)]) G st799 rfl
  replace G := o_astore (q := 147) (l' := #[.val (.int i0), .val (.int i1), .val (.int 3), .val (.int 1), .val (.int 0), .val (.int 2), .val (.int 2), .val (.int 0), .val (.int 0), .val (.int 0), .val (.ref b778), .val (.ref b799), .unset, .unset, .unset, .unset]) G X799.here hx (hb hby at_145) rfl rfl rfl
  replace G := o_aload (q := 149) G X799.here hx (hb hby at_147) rfl rfl rfl
  replace G := o_iloadN (q := 150) G X799.here hx (hb hby at_149) rfl rfl
  replace G := o_iconst (q := 151) G X799.here hx (hb hby at_150) (v := (0 : Int32)) (by decide) rfl
  obtain ⟨c805, Ar805, q805, S805, N805', H805, G805'⟩ := id V799
  have hin805 : ¬ ((1 : Int32) < 0 ∨ c805.slots.size ≤ ((1 : Int32)).toNatClampNeg) := inb_of S805 ⟨by decide, by decide⟩
  obtain ⟨T805, h805, X805, e805, W805, st805⟩ := stI X799 hx hZ e799 Ar805 (j := (1 : Int32)) hin805 (g := o_g G) rfl rfl (hb hby at_151)
  have N805 := Fr.snoc X805 N793 ge_b799
  have Z805 : n0 ≤ h805.size := Nat.le_trans Z799 (Keep.of_wr W805).1
  have V805 : Arv Z h805 b799 k799 .int 3 [(.int 0), (.int 0), (.int 0)] (.int 0) := Arv.set Ar805 q805 S805 N805' H805 G805' rfl W805 1 rfl (Nat.le_of_ble_eq_true rfl)
  replace G := o_nxs (q := 152) (st := []) G st805 rfl
  replace G := o_aload (q := 154) G X805.here hx (hb hby at_152) rfl rfl rfl
  replace G := o_iload (q := 156) G X805.here hx (hb hby at_154) rfl rfl
  replace G := o_iload (q := 158) G X805.here hx (hb hby at_156) rfl rfl
  replace G := o_ifYes (q := 165) G X805.here hx (hb hby at_158) (by decide) (by decide) (by decide)
  replace G := o_iconst (q := 166) G X805.here hx (hb hby at_165) (v := (0 : Int32)) (by decide) rfl
  obtain ⟨c807, Ar807, q807, S807, N807', H807, G807'⟩ := id V805
  have hin807 : ¬ ((2 : Int32) < 0 ∨ c807.slots.size ≤ ((2 : Int32)).toNatClampNeg) := inb_of S807 ⟨by decide, by decide⟩
  obtain ⟨T807, h807, X807, e807, W807, st807⟩ := stI X805 hx hZ e805 Ar807 (j := (2 : Int32)) hin807 (g := o_g G) rfl rfl (hb hby at_166)
  have N807 := Fr.snoc X807 N805 ge_b799
  have Z807 : n0 ≤ h807.size := Nat.le_trans Z805 (Keep.of_wr W807).1
  have V807 : Arv Z h807 b799 k799 .int 3 [(.int 0), (.int 0), (.int 0)] (.int 0) := Arv.set Ar807 q807 S807 N807' H807 G807' rfl W807 2 rfl (Nat.le_of_ble_eq_true rfl)
  replace G := o_nxs (q := 167) (st := []) G st807 rfl
  replace G := o_aload (q := 169) G X807.here hx (hb hby at_167) rfl rfl rfl
  replace G := o_iload (q := 171) G X807.here hx (hb hby at_169) rfl rfl
  replace G := o_aload (q := 173) G X807.here hx (hb hby at_171) rfl rfl rfl
  replace G := o_iload (q := 175) G X807.here hx (hb hby at_173) rfl rfl
  obtain ⟨c808, Ar808, -, S808, -, H808, -⟩ := id V807
  have hin808 : ¬ ((2 : Int32) < 0 ∨ c808.slots.size ≤ ((2 : Int32)).toNatClampNeg) := inb_of S808 ⟨by decide, by decide⟩
  replace G := o_nxs (q := 176) (st := [(.int 0), (.int 0), (.ref b799)]) G (X807.iaload hx (j := (2 : Int32)) (v := (.int 0)) (by rw [e807]; exact Ar808.1) (State.isArrayOf_alike hZ.alike Ar808.2.1) Ar808.2.2 hin808 (Has.at H808 hin808 rfl) (g := o_g G) rfl rfl (hb hby at_175)) rfl
  replace G := o_iload (q := 178) G X807.here hx (hb hby at_176) rfl rfl
  replace G := o_ifYes (q := 185) G X807.here hx (hb hby at_178) (by decide) (by decide) (by decide)
  replace G := o_iconst (q := 186) G X807.here hx (hb hby at_185) (v := (0 : Int32)) (by decide) rfl
  replace G := o_iadd (q := 187) G X807.here hx (hb hby at_186) (by decide : ((0 : Int32) + (0 : Int32)) = (0 : Int32)) rfl
  obtain ⟨c810, Ar810, q810, S810, N810', H810, G810'⟩ := id V807
  have hin810 : ¬ ((0 : Int32) < 0 ∨ c810.slots.size ≤ ((0 : Int32)).toNatClampNeg) := inb_of S810 ⟨by decide, by decide⟩
  obtain ⟨T810, h810, X810, e810, W810, st810⟩ := stI X807 hx hZ e807 Ar810 (j := (0 : Int32)) hin810 (g := o_g G) rfl rfl (hb hby at_187)
  have N810 := Fr.snoc X810 N807 ge_b799
  have Z810 : n0 ≤ h810.size := Nat.le_trans Z807 (Keep.of_wr W810).1
  have V810 : Arv Z h810 b799 k799 .int 3 [(.int 0), (.int 0), (.int 0)] (.int 0) := Arv.set Ar810 q810 S810 N810' H810 G810' rfl W810 0 rfl (Nat.le_of_ble_eq_true rfl)
  replace G := o_nxs (q := 188) (st := []) G st810 rfl
  replace G := o_aload (q := 190) G X810.here hx (hb hby at_188) rfl rfl rfl
  have F812 := (((((F794.keep K793q).ext E799).wr W805).wr W807).wr W810)
  have F813 := (((((F795.keep K793q (ninS ne780 (ninS ne781 (ninS ne782 nin0)))).ext E799).other W805 (Or.inl ne804)).other W807 (Or.inl ne804)).other W810 (Or.inl ne804))
  have F814 := (((((F796.keep K793q (ninS ne780 (ninS ne781 (ninS ne782 nin0)))).ext E799).other W805 (Or.inl ne804)).other W807 (Or.inl ne804)).other W810 (Or.inl ne804))
  have F815 := (((((F797.keep K793q (ninS ne780 (ninS ne781 (ninS ne782 nin0)))).ext E799).other W805 (Or.inl ne804)).other W807 (Or.inl ne804)).other W810 (Or.inl ne804))
  have F816 := (((((((B779_3.keep K783q (ninS ne780 (ninS ne781 (ninS ne782 nin0)))).keep K786q (ninS ne780 (ninS ne781 (ninS ne782 nin0)))).keep K793q (ninS ne780 (ninS ne781 (ninS ne782 nin0)))).ext E799).other W805 (Or.inl ne804)).other W807 (Or.inl ne804)).other W810 (Or.inl ne804))
  have F817 := ((((F803.ext E799).other W805 (Or.inl ne804)).other W807 (Or.inl ne804)).other W810 (Or.inl ne804))
  have F818 := ((((B793_0.ext E799).other W805 ne802).other W807 ne802).other W810 ne802)
  have F819 := ((((B793_1.ext E799).other W805 ne801).other W807 ne801).other W810 ne801)
  have F820 := ((((B793_2.ext E799).other W805 ne800).other W807 ne800).other W810 ne800)
  obtain ⟨T811, _, Lc811, X811, hQ811, G⟩ := o_vb (q := 193) (W := 0) (argsL := []) (rest := []) (y := (⟨o_n0, "takeFirst", "()I"⟩ : MethodName)) G X810 hx hZ hown (by rw [hml]; rfl) ⟨(o_w hw 47 rfl), (o_w hw 48 rfl), (o_w hw 50 rfl), (o_w hw 49 rfl), (o_w hw 51 rfl), (o_w hw 3 rfl)⟩ (by decide) e810 F812 (rm8n3t l Z a0 hw [] b778 va_779 vh_779 vx_779 ka_779 kh_779 kx_779 (0 : Int32) (1 : Int32) (2 : Int32) [(.double o_d0), (.double o_d0), (.double o_d0)] [(.int 0), (.int 1), (.int 2)] [(.int (-1)), (.int 0), (.int 1)] o_d0 o_d0 o_d0 h810 n0 Z810 F812 F813 F814 F815 F816 F817 F818 F819 F820 ge_b778 ge_vh_779 ge_vx_779 ne780 ne781 ne782 B779_8 B779_9 B779_10 ⟨by decide, by decide⟩ ⟨by decide, by decide⟩ ⟨by decide, by decide⟩ rfl rfl rfl (by decide +kernel) rfl) (lenOf pd_3 rfl) rfl (Nat.le_of_eq rfl) (hb hby at_190) rfl (by decide) (by decide) (by decide) (by decide)
  obtain ⟨rfl, N811q, K811q, B811_0, B811_1, B811_2, B811_3, B811_4, B811_5, B811_6⟩ := hQ811
  have Z811 : n0 ≤ T811.heap.size := Nat.le_trans Z810 K811q.1
  have N811 := Fr.app N810 N811q
  replace G := o_re (st := [(.int 0)]) G rfl
  replace G := o_istore (q := 195) (l' := #[.val (.int i0), .val (.int i1), .val (.int 3), .val (.int 1), .val (.int 0), .val (.int 2), .val (.int 2), .val (.int 0), .val (.int 0), .val (.int 0), .val (.ref b778), .val (.ref b799), .val (.int 0), .unset, .unset, .unset]) G X811.here hx (hb hby at_193) rfl rfl
  replace G := o_aload (q := 197) G X811.here hx (hb hby at_195) rfl rfl rfl
  have F822 := (F812.keep K811q)
  have F823 := (F818.keep K811q (ninS (Ne.symm ne780) (ninS B779_8 (ninS B779_9 nin0))))
  obtain ⟨T821, _, Lc821, X821, hQ821, G⟩ := o_vb (q := 200) (W := 0) (argsL := []) (rest := []) (y := (⟨o_n0, "takeFirst", "()I"⟩ : MethodName)) G X811 hx hZ hown (by rw [hml]; rfl) ⟨(o_w hw 47 rfl), (o_w hw 48 rfl), (o_w hw 50 rfl), (o_w hw 49 rfl), (o_w hw 51 rfl), (o_w hw 3 rfl)⟩ (by decide) rfl F822 (rm8n2 l Z a0 hw [] b778 va_779 vh_779 vx_779 ka_779 kh_779 kx_779 (1 : Int32) (2 : Int32) (2 : Int32) [(.double o_d0), (.double o_d0), (.double o_d0)] [(.int (-1)), (.int 0), (.int 1)] [(.int (-1)), (.int (-1)), (.int 0)] o_d0 T811.heap n0 Z811 F822 B811_0 B811_1 B811_2 B811_3 B811_4 F823 B811_5 B811_6 ge_b778 ge_vh_779 ge_vx_779 ne780 ne781 ne782 B779_8 B779_9 B779_10 ⟨by decide, by decide⟩ ⟨by decide, by decide⟩ rfl rfl) (lenOf pd_3 rfl) rfl (Nat.le_of_eq rfl) (hb hby at_197) rfl (by decide) (by decide) (by decide) (by decide)
  obtain ⟨rfl, N821q, K821q, B821_0, B821_1, B821_2, B821_3, B821_4, B821_5, B821_6⟩ := hQ821
  have Z821 : n0 ≤ T821.heap.size := Nat.le_trans Z811 K821q.1
  have N821 := Fr.app N811 N821q
  replace G := o_re (st := [(.int 1)]) G rfl
  replace G := o_istore (q := 202) (l' := #[.val (.int i0), .val (.int i1), .val (.int 3), .val (.int 1), .val (.int 0), .val (.int 2), .val (.int 2), .val (.int 0), .val (.int 0), .val (.int 0), .val (.ref b778), .val (.ref b799), .val (.int 0), .val (.int 1), .unset, .unset]) G X821.here hx (hb hby at_200) rfl rfl
  replace G := o_aload (q := 204) G X821.here hx (hb hby at_202) rfl rfl rfl
  have F825 := (F822.keep K821q)
  have F826 := (F823.keep K821q (ninS (Ne.symm ne780) (ninS B779_8 (ninS B779_9 nin0))))
  obtain ⟨T824, _, Lc824, X824, hQ824, G⟩ := o_vb (q := 207) (W := 0) (argsL := []) (rest := []) (y := (⟨o_n0, "takeFirst", "()I"⟩ : MethodName)) G X821 hx hZ hown (by rw [hml]; rfl) ⟨(o_w hw 47 rfl), (o_w hw 48 rfl), (o_w hw 50 rfl), (o_w hw 49 rfl), (o_w hw 51 rfl), (o_w hw 3 rfl)⟩ (by decide) rfl F825 (rm8n1 l Z a0 hw [] b778 va_779 vh_779 vx_779 ka_779 kh_779 kx_779 (2 : Int32) (2 : Int32) (2 : Int32) [(.double o_d0), (.double o_d0), (.double o_d0)] [(.int (-1)), (.int (-1)), (.int 0)] [(.int (-1)), (.int (-1)), (.int (-1))] o_d0 T821.heap n0 Z821 F825 B821_0 B821_1 B821_2 B821_3 B821_4 F826 B821_5 B821_6 ge_b778 ge_vh_779 ge_vx_779 ne780 ne781 ne782 B779_8 B779_9 B779_10 ⟨by decide, by decide⟩ rfl rfl) (lenOf pd_3 rfl) rfl (Nat.le_of_eq rfl) (hb hby at_204) rfl (by decide) (by decide) (by decide) (by decide)
  obtain ⟨rfl, N824q, K824q, B824_0, B824_1, B824_2, B824_3, B824_4, B824_5, B824_6⟩ := hQ824
  have Z824 : n0 ≤ T824.heap.size := Nat.le_trans Z821 K824q.1
  have N824 := Fr.app N821 N824q
  replace G := o_re (st := [(.int 2)]) G rfl
  replace G := o_istore (q := 209) (l' := #[.val (.int i0), .val (.int i1), .val (.int 3), .val (.int 1), .val (.int 0), .val (.int 2), .val (.int 2), .val (.int 0), .val (.int 0), .val (.int 0), .val (.ref b778), .val (.ref b799), .val (.int 0), .val (.int 1), .val (.int 2), .unset]) G X824.here hx (hb hby at_207) rfl rfl
  replace G := o_iload (q := 211) G X824.here hx (hb hby at_209) rfl rfl
  replace G := o_ifNo (q := 214) G X824.here hx (hb hby at_211) (by decide) rfl
  replace G := o_iload (q := 216) G X824.here hx (hb hby at_214) rfl rfl
  replace G := o_iconst (q := 217) G X824.here hx (hb hby at_216) (v := (3 : Int32)) (by decide) rfl
  replace G := o_icmpNo (q := 220) G X824.here hx (hb hby at_217) (by decide) rfl
  replace G := o_iload (q := 222) G X824.here hx (hb hby at_220) rfl rfl
  replace G := o_ifNo (q := 225) G X824.here hx (hb hby at_222) (by decide) rfl
  replace G := o_iload (q := 227) G X824.here hx (hb hby at_225) rfl rfl
  replace G := o_iconst (q := 228) G X824.here hx (hb hby at_227) (v := (3 : Int32)) (by decide) rfl
  replace G := o_icmpNo (q := 231) G X824.here hx (hb hby at_228) (by decide) rfl
  replace G := o_iload (q := 233) G X824.here hx (hb hby at_231) rfl rfl
  replace G := o_ifNo (q := 236) G X824.here hx (hb hby at_233) (by decide) rfl
  replace G := o_iload (q := 238) G X824.here hx (hb hby at_236) rfl rfl
  replace G := o_iconst (q := 239) G X824.here hx (hb hby at_238) (v := (3 : Int32)) (by decide) rfl
  replace G := o_icmpNo (q := 242) G X824.here hx (hb hby at_239) (by decide) rfl
  replace G := o_iload (q := 244) G X824.here hx (hb hby at_242) rfl rfl
  replace G := o_iload (q := 246) G X824.here hx (hb hby at_244) rfl rfl
  replace G := o_icmpNo (q := 249) G X824.here hx (hb hby at_246) (by decide) rfl
  replace G := o_iload (q := 251) G X824.here hx (hb hby at_249) rfl rfl
  replace G := o_iload (q := 253) G X824.here hx (hb hby at_251) rfl rfl
  replace G := o_icmpNo (q := 256) G X824.here hx (hb hby at_253) (by decide) rfl
  replace G := o_iload (q := 258) G X824.here hx (hb hby at_256) rfl rfl
  replace G := o_iload (q := 260) G X824.here hx (hb hby at_258) rfl rfl
  replace G := o_icmpNo (q := 263) G X824.here hx (hb hby at_260) (by decide) rfl
  replace G := o_iconst (q := 264) G X824.here hx (hb hby at_263) (v := (1 : Int32)) (by decide) rfl
  replace G := o_goto (q := 268) G X824.here hx (hb hby at_264) (by decide) (by decide)
  replace G := o_istore (q := 270) (l' := #[.val (.int i0), .val (.int i1), .val (.int 3), .val (.int 1), .val (.int 0), .val (.int 2), .val (.int 2), .val (.int 0), .val (.int 0), .val (.int 0), .val (.ref b778), .val (.ref b799), .val (.int 0), .val (.int 1), .val (.int 2), .val (.int 1)]) G X824.here hx (hb hby at_268) rfl rfl
  replace G := o_iload (q := 272) G X824.here hx (hb hby at_270) rfl rfl
  replace G := o_ifNo (q := 275) G X824.here hx (hb hby at_272) (by decide) rfl
  replace G := o_aload (q := 277) G X824.here hx (hb hby at_275) rfl rfl rfl
  replace G := o_iload (q := 279) G X824.here hx (hb hby at_277) rfl rfl
  replace G := o_iload (q := 281) G X824.here hx (hb hby at_279) rfl rfl
  have F838 := (((V810.keep K811q (ninS (Ne.symm ne804) (ninS (Ne.symm ne801) (ninS (Ne.symm ne800) nin0)))).keep K821q (ninS (Ne.symm ne804) (ninS (Ne.symm ne801) (ninS (Ne.symm ne800) nin0)))).keep K824q (ninS (Ne.symm ne804) (ninS (Ne.symm ne801) (ninS (Ne.symm ne800) nin0))))
  obtain ⟨_, _, ⟨T837, L837, kk837, nn837⟩, -, X837, ⟨Lc837, hQ837, l837, y837, z837⟩, st837⟩ := Jvm.LawKit.callS X824 hx (y := (⟨o_n1, "before", "([III)Z"⟩ : MethodName)) hown (mvT hZ (o_w hw 56 rfl)) (mvT hZ (o_w hw 57 rfl)) (mvT hZ (o_w hw 58 rfl)) (mvT hZ (o_w hw 59 rfl)) (by decide) (backOf (W := 0) (rm10 l Z a0 hw [] b799 (0 : Int32) (1 : Int32) k799 [(.int 0), (.int 0), (.int 0)] (0 : Int32) (0 : Int32) T824.heap n0 Z824 F838 ⟨by decide, by decide⟩ ⟨by decide, by decide⟩ rfl rfl) hZ (o_w hw 59 rfl) (o_w hw 58 rfl) (by decide) (by decide)) (g := o_g G) rfl (by rw [hml]; rfl) (argsL := [(.ref b799), (.int 0), (.int 1)]) (rest := []) (lenOf pd_4 rfl) rfl (by show 2 * 0 + _ ≤ _; exact Nat.le_of_eq rfl) (hb hby at_281) (fun _ _ => ⟨rfl, rfl, (by decide : 5 + 0 ≤ _), (by decide : 17 + 0 ≤ _)⟩)
  dsimp only [Pt.U, Pt.locs, Pt.cells, Pt.slots] at X837 l837 y837 z837 st837 hQ837
  subst l837 y837 z837
  obtain ⟨rfl, N837q, e837⟩ := hQ837
  have N837 := Fr.app N824 N837q
  replace G := o_nxs (q := 284) (st := [(.int (o_lb (0 : Int32) (0 : Int32) (0 : Int32) (1 : Int32)))]) G st837 rfl
  replace G := o_ifNo (q := 287) G X837.here hx (hb hby at_284) (by decide) rfl
  replace G := o_aload (q := 289) G X837.here hx (hb hby at_287) rfl rfl rfl
  replace G := o_iload (q := 291) G X837.here hx (hb hby at_289) rfl rfl
  replace G := o_iload (q := 293) G X837.here hx (hb hby at_291) rfl rfl
  obtain ⟨_, _, ⟨T840, L840, kk840, nn840⟩, -, X840, ⟨Lc840, hQ840, l840, y840, z840⟩, st840⟩ := Jvm.LawKit.callS X837 hx (y := (⟨o_n1, "before", "([III)Z"⟩ : MethodName)) hown (mvT hZ (o_w hw 56 rfl)) (mvT hZ (o_w hw 57 rfl)) (mvT hZ (o_w hw 58 rfl)) (mvT hZ (o_w hw 59 rfl)) (by decide) (backOf (W := 0) (rm10 l Z a0 hw [] b799 (1 : Int32) (2 : Int32) k799 [(.int 0), (.int 0), (.int 0)] (0 : Int32) (0 : Int32) T824.heap n0 Z824 F838 ⟨by decide, by decide⟩ ⟨by decide, by decide⟩ rfl rfl) hZ (o_w hw 59 rfl) (o_w hw 58 rfl) (by decide) (by decide)) (g := o_g G) rfl (by rw [hml]; rfl) (argsL := [(.ref b799), (.int 1), (.int 2)]) (rest := []) (lenOf pd_4 rfl) rfl (by show 2 * 0 + _ ≤ _; exact Nat.le_of_eq rfl) (hb hby at_293) (fun _ _ => ⟨rfl, e837, (by decide : 5 + 0 ≤ _), (by decide : 17 + 0 ≤ _)⟩)
  dsimp only [Pt.U, Pt.locs, Pt.cells, Pt.slots] at X840 l840 y840 z840 st840 hQ840
  subst l840 y840 z840
  obtain ⟨rfl, N840q, e840⟩ := hQ840
  have N840 := Fr.app N837 N840q
  replace G := o_nxs (q := 296) (st := [(.int (o_lb (0 : Int32) (0 : Int32) (1 : Int32) (2 : Int32)))]) G st840 rfl
  replace G := o_ifNo (q := 299) G X840.here hx (hb hby at_296) (by decide) rfl
  replace G := o_aload (q := 301) G X840.here hx (hb hby at_299) rfl rfl rfl
  have F843 := (F825.keep K824q)
  obtain ⟨T842, _, Lc842, X842, hQ842, G⟩ := o_vb (q := 304) (W := 0) (argsL := []) (rest := []) (y := (⟨o_n0, "isEmpty", "()Z"⟩ : MethodName)) G X840 hx hZ hown (by rw [hml]; rfl) ⟨(o_w hw 60 rfl), (o_w hw 61 rfl), (o_w hw 63 rfl), (o_w hw 62 rfl), (o_w hw 64 rfl), (o_w hw 3 rfl)⟩ (by decide) e840 F843 (rm11 l Z a0 hw [] b778 T824.heap n0 Z824 B824_3) (lenOf pd_5 rfl) rfl (Nat.le_of_eq rfl) (hb hby at_301) rfl (by decide) (by decide) (by decide) (by decide)
  obtain ⟨rfl, N842q, e842⟩ := hQ842
  have N842 := Fr.app N840 N842q
  replace G := o_re (st := [(.int 1)]) G rfl
  replace G := o_ifNo (q := 307) G X842.here hx (hb hby at_304) (by decide) rfl
  replace G := o_iconst (q := 308) G X842.here hx (hb hby at_307) (v := (1 : Int32)) (by decide) rfl
  replace G := o_goto (q := 312) G X842.here hx (hb hby at_308) (by decide) (by decide)
  obtain ⟨fs, hr, hrun, hended, hW, hsame⟩ := X842.leave (v := some (.int 1)) (fun h => by rw [Bd.returns] at h; cases h)
  refine ⟨_, _, G _ (retOut X842 hx Bd.returns rfl (Or.inl ⟨rfl, Or.inr (Or.inl rfl), _, rfl⟩) (hb hby at_312) hr), hrun, hended, _, _, rfl, ?_, ⟨_, rfl⟩, hW, hsame.mono (by decide) (by decide)⟩
  show Q0 Z i0 i1 h0 n0 _ T842.heap _
  rw [e842]
  exact ⟨rfl, N842⟩
  replace G := o_iload (q := 127) G X786.here hx (hb hby at_125) rfl rfl
  replace G := o_ifNo (q := 130) G X786.here hx (hb hby at_127) (by decide) rfl
  replace G := o_aload (q := 132) G X786.here hx (hb hby at_130) rfl rfl rfl
  have F847 := (F787.keep K786q)
  have F848 := (F788.keep K786q (ninS ne780 (ninS ne781 (ninS ne782 nin0))))
  have F849 := (F789.keep K786q (ninS ne780 (ninS ne781 (ninS ne782 nin0))))
  have F850 := (F790.keep K786q (ninS ne780 (ninS ne781 (ninS ne782 nin0))))
  have F851 := ((B779_3.keep K783q (ninS ne780 (ninS ne781 (ninS ne782 nin0)))).keep K786q (ninS ne780 (ninS ne781 (ninS ne782 nin0))))
  have F852 := (F791.keep K786q (ninS ne780 (ninS ne781 (ninS ne782 nin0))))
  obtain ⟨T846, _, Lc846, X846, hQ846, G⟩ := o_vb (q := 135) (W := 0) (argsL := []) (rest := []) (y := (⟨o_n0, "decay", "()V"⟩ : MethodName)) G X786 hx hZ hown (by rw [hml]; rfl) ⟨(o_w hw 41 rfl), (o_w hw 42 rfl), (o_w hw 44 rfl), (o_w hw 43 rfl), (o_w hw 45 rfl), (o_w hw 3 rfl)⟩ (by decide) rfl F847 (rm7 l Z a0 hw [] b778 va_779 vh_779 vx_779 o_d0 o_d1 (3 : Int32) T786.heap n0 Z786 F847 F848 F849 F850 F851 F852 ge_b778 (by decide +kernel) (o_nan (by decide +kernel))) (lenOf pd_6 rfl) rfl (Nat.le_of_eq rfl) (hb hby at_132) rfl (by decide) (by decide) (by decide) (by decide)
  obtain ⟨rfl, N846q, K846q, B846_0, B846_1, B846_2, B846_3, B846_4⟩ := hQ846
  have Z846 : n0 ≤ T846.heap.size := Nat.le_trans Z786 K846q.1
  have N846 := Fr.app N786 N846q
  replace G := o_re (st := []) G rfl
  replace G := o_aload (q := 137) G X846.here hx (hb hby at_135) rfl rfl rfl
  replace G := o_iload (q := 139) G X846.here hx (hb hby at_137) rfl rfl
  have F854 := (F847.keep K846q)
  have F855 := (B786_0.keep K846q (ninS (Ne.symm ne780) nin0))
  have F856 := (B786_1.keep K846q (ninS (Ne.symm ne781) nin0))
  have F857 := (B786_2.keep K846q (ninS (Ne.symm ne782) nin0))
  obtain ⟨T853, _, Lc853, X853, hQ853, G⟩ := o_vb (q := 142) (W := 0) (argsL := [(.int 0)]) (rest := []) (y := (⟨o_n0, "bump", "(I)V"⟩ : MethodName)) G X846 hx hZ hown (by rw [hml]; rfl) ⟨(o_w hw 35 rfl), (o_w hw 36 rfl), (o_w hw 38 rfl), (o_w hw 37 rfl), (o_w hw 39 rfl), (o_w hw 3 rfl)⟩ (by decide) rfl F854 (rm6f1t l Z a0 hw [] b778 (0 : Int32) va_779 vh_779 vx_779 ka_779 kh_779 kx_779 (1 : Int32) (0 : Int32) (2 : Int32) [(.double 0), (.double o_d0), (.double o_d0)] [(.int 1), (.int 0), (.int 2)] [(.int 0), (.int 1), (.int 2)] o_d1 [(.double o_d1), (.double o_d0), (.double o_d0)] (0 : UInt64) o_d1 o_d0 o_d1 T846.heap n0 Z846 F854 B846_0 B846_1 B846_2 B846_4 F855 F856 F857 ge_va_779 ge_vh_779 ge_vx_779 ne780 ne781 ne782 B779_8 B779_9 B779_10 ⟨by decide, by decide⟩ ⟨by decide, by decide⟩ ⟨by decide, by decide⟩ rfl rfl rfl rfl (by decide +kernel) (o_nan (by decide +kernel)) (by decide +kernel) rfl rfl rfl rfl (by decide +kernel) rfl) (lenOf pd_1 rfl) rfl (Nat.le_of_eq rfl) (hb hby at_139) rfl (by decide) (by decide) (by decide) (by decide)
  obtain ⟨rfl, N853q, K853q, B853_0, B853_1, B853_2⟩ := hQ853
  have Z853 : n0 ≤ T853.heap.size := Nat.le_trans Z846 K853q.1
  have N853 := Fr.app N846 N853q
  replace G := o_re (st := []) G rfl
  replace G := o_iconst (q := 143) G X853.here hx (hb hby at_142) (v := (3 : Int32)) (by decide) rfl
  obtain ⟨T858, h858, k858, X858, e858, E858, A858, st858⟩ := newP X853 hx hZ (o_w hw 15 rfl) rfl (g := o_g G) rfl (hb hby at_143) rfl (by decide) (cap := 3) (by decide) (by decide) (by decide) (by decide)
  obtain ⟨b858, g858⟩ : ∃ z, z = T853.heap.size := ⟨_, rfl⟩
  rw [← g858] at A858 st858
  have ne859 : vx_779 ≠ b858 := Nat.ne_of_lt (Nat.lt_of_lt_of_le B853_2.lt (Nat.le_of_eq g858.symm))
  have ne860 : vh_779 ≠ b858 := Nat.ne_of_lt (Nat.lt_of_lt_of_le B853_1.lt (Nat.le_of_eq g858.symm))
  have ne861 : va_779 ≠ b858 := Nat.ne_of_lt (Nat.lt_of_lt_of_le B853_0.lt (Nat.le_of_eq g858.symm))
  have F862 := (B846_4.keep K853q (ninS ne780 (ninS ne781 (ninS ne782 nin0))))
  have ne863 : b778 ≠ b858 := Nat.ne_of_lt (Nat.lt_of_lt_of_le F862.lt (Nat.le_of_eq g858.symm))
  have ge_b858 : n0 ≤ b858 := Nat.le_trans Z853 (Nat.le_of_eq g858.symm)
  have Z858 : n0 ≤ h858.size := Nat.le_trans Z853 E858.1
  have V858 : Arv Z h858 b858 k858 .int 3 [(.int 0), (.int 0), (.int 0)] (.int 0) := (Arv.new A858 (by decide)).pad (pad_rep [] (.int 0) 3)
  replace G := o_nxs (q := 145) (st := [(.ref b858)]) G st858 rfl
  replace G := o_astore (q := 147) (l' := #[.val (.int i0), .val (.int i1), .val (.int 3), .val (.int 1), .val (.int 0), .val (.int 2), .val (.int 2), .val (.int 0), .val (.int 0), .val (.int 1), .val (.ref b778), .val (.ref b858), .unset, .unset, .unset, .unset]) G X858.here hx (hb hby at_145) rfl rfl rfl
  replace G := o_aload (q := 149) G X858.here hx (hb hby at_147) rfl rfl rfl
  replace G := o_iloadN (q := 150) G X858.here hx (hb hby at_149) rfl rfl
  replace G := o_iconst (q := 151) G X858.here hx (hb hby at_150) (v := (0 : Int32)) (by decide) rfl
  obtain ⟨c864, Ar864, q864, S864, N864', H864, G864'⟩ := id V858
  have hin864 : ¬ ((1 : Int32) < 0 ∨ c864.slots.size ≤ ((1 : Int32)).toNatClampNeg) := inb_of S864 ⟨by decide, by decide⟩
  obtain ⟨T864, h864, X864, e864, W864, st864⟩ := stI X858 hx hZ e858 Ar864 (j := (1 : Int32)) hin864 (g := o_g G) rfl rfl (hb hby at_151)
  have N864 := Fr.snoc X864 N853 ge_b858
  have Z864 : n0 ≤ h864.size := Nat.le_trans Z858 (Keep.of_wr W864).1
  have V864 : Arv Z h864 b858 k858 .int 3 [(.int 0), (.int 0), (.int 0)] (.int 0) := Arv.set Ar864 q864 S864 N864' H864 G864' rfl W864 1 rfl (Nat.le_of_ble_eq_true rfl)
  replace G := o_nxs (q := 152) (st := []) G st864 rfl
  replace G := o_aload (q := 154) G X864.here hx (hb hby at_152) rfl rfl rfl
  replace G := o_iload (q := 156) G X864.here hx (hb hby at_154) rfl rfl
  replace G := o_iload (q := 158) G X864.here hx (hb hby at_156) rfl rfl
  replace G := o_ifYes (q := 165) G X864.here hx (hb hby at_158) (by decide) (by decide) (by decide)
  replace G := o_iconst (q := 166) G X864.here hx (hb hby at_165) (v := (0 : Int32)) (by decide) rfl
  obtain ⟨c866, Ar866, q866, S866, N866', H866, G866'⟩ := id V864
  have hin866 : ¬ ((2 : Int32) < 0 ∨ c866.slots.size ≤ ((2 : Int32)).toNatClampNeg) := inb_of S866 ⟨by decide, by decide⟩
  obtain ⟨T866, h866, X866, e866, W866, st866⟩ := stI X864 hx hZ e864 Ar866 (j := (2 : Int32)) hin866 (g := o_g G) rfl rfl (hb hby at_166)
  have N866 := Fr.snoc X866 N864 ge_b858
  have Z866 : n0 ≤ h866.size := Nat.le_trans Z864 (Keep.of_wr W866).1
  have V866 : Arv Z h866 b858 k858 .int 3 [(.int 0), (.int 0), (.int 0)] (.int 0) := Arv.set Ar866 q866 S866 N866' H866 G866' rfl W866 2 rfl (Nat.le_of_ble_eq_true rfl)
  replace G := o_nxs (q := 167) (st := []) G st866 rfl
  replace G := o_aload (q := 169) G X866.here hx (hb hby at_167) rfl rfl rfl
  replace G := o_iload (q := 171) G X866.here hx (hb hby at_169) rfl rfl
  replace G := o_aload (q := 173) G X866.here hx (hb hby at_171) rfl rfl rfl
  replace G := o_iload (q := 175) G X866.here hx (hb hby at_173) rfl rfl
  obtain ⟨c867, Ar867, -, S867, -, H867, -⟩ := id V866
  have hin867 : ¬ ((2 : Int32) < 0 ∨ c867.slots.size ≤ ((2 : Int32)).toNatClampNeg) := inb_of S867 ⟨by decide, by decide⟩
  replace G := o_nxs (q := 176) (st := [(.int 0), (.int 0), (.ref b858)]) G (X866.iaload hx (j := (2 : Int32)) (v := (.int 0)) (by rw [e866]; exact Ar867.1) (State.isArrayOf_alike hZ.alike Ar867.2.1) Ar867.2.2 hin867 (Has.at H867 hin867 rfl) (g := o_g G) rfl rfl (hb hby at_175)) rfl
  replace G := o_iload (q := 178) G X866.here hx (hb hby at_176) rfl rfl
  replace G := o_ifNo (q := 181) G X866.here hx (hb hby at_178) (by decide) rfl
  replace G := o_iconst (q := 182) G X866.here hx (hb hby at_181) (v := (1 : Int32)) (by decide) rfl
  replace G := o_goto (q := 186) G X866.here hx (hb hby at_182) (by decide) (by decide)
  replace G := o_iadd (q := 187) G X866.here hx (hb hby at_186) (by decide : ((0 : Int32) + (1 : Int32)) = (1 : Int32)) rfl
  obtain ⟨c869, Ar869, q869, S869, N869', H869, G869'⟩ := id V866
  have hin869 : ¬ ((0 : Int32) < 0 ∨ c869.slots.size ≤ ((0 : Int32)).toNatClampNeg) := inb_of S869 ⟨by decide, by decide⟩
  obtain ⟨T869, h869, X869, e869, W869, st869⟩ := stI X866 hx hZ e866 Ar869 (j := (0 : Int32)) hin869 (g := o_g G) rfl rfl (hb hby at_187)
  have N869 := Fr.snoc X869 N866 ge_b858
  have Z869 : n0 ≤ h869.size := Nat.le_trans Z866 (Keep.of_wr W869).1
  have V869 : Arv Z h869 b858 k858 .int 3 [(.int 1), (.int 0), (.int 0)] (.int 0) := Arv.set Ar869 q869 S869 N869' H869 G869' rfl W869 0 rfl (Nat.le_of_ble_eq_true rfl)
  replace G := o_nxs (q := 188) (st := []) G st869 rfl
  replace G := o_aload (q := 190) G X869.here hx (hb hby at_188) rfl rfl rfl
  have F871 := (((((F854.keep K853q).ext E858).wr W864).wr W866).wr W869)
  have F872 := (((((B846_0.keep K853q (ninS ne780 (ninS ne781 (ninS ne782 nin0)))).ext E858).other W864 (Or.inl ne863)).other W866 (Or.inl ne863)).other W869 (Or.inl ne863))
  have F873 := (((((B846_1.keep K853q (ninS ne780 (ninS ne781 (ninS ne782 nin0)))).ext E858).other W864 (Or.inl ne863)).other W866 (Or.inl ne863)).other W869 (Or.inl ne863))
  have F874 := (((((B846_2.keep K853q (ninS ne780 (ninS ne781 (ninS ne782 nin0)))).ext E858).other W864 (Or.inl ne863)).other W866 (Or.inl ne863)).other W869 (Or.inl ne863))
  have F875 := (((((B846_3.keep K853q (ninS ne780 (ninS ne781 (ninS ne782 nin0)))).ext E858).other W864 (Or.inl ne863)).other W866 (Or.inl ne863)).other W869 (Or.inl ne863))
  have F876 := ((((F862.ext E858).other W864 (Or.inl ne863)).other W866 (Or.inl ne863)).other W869 (Or.inl ne863))
  have F877 := ((((B853_0.ext E858).other W864 ne861).other W866 ne861).other W869 ne861)
  have F878 := ((((B853_1.ext E858).other W864 ne860).other W866 ne860).other W869 ne860)
  have F879 := ((((B853_2.ext E858).other W864 ne859).other W866 ne859).other W869 ne859)
  obtain ⟨T870, _, Lc870, X870, hQ870, G⟩ := o_vb (q := 193) (W := 0) (argsL := []) (rest := []) (y := (⟨o_n0, "takeFirst", "()I"⟩ : MethodName)) G X869 hx hZ hown (by rw [hml]; rfl) ⟨(o_w hw 47 rfl), (o_w hw 48 rfl), (o_w hw 50 rfl), (o_w hw 49 rfl), (o_w hw 51 rfl), (o_w hw 3 rfl)⟩ (by decide) e869 F871 (rm8n3t l Z a0 hw [] b778 va_779 vh_779 vx_779 ka_779 kh_779 kx_779 (0 : Int32) (1 : Int32) (2 : Int32) [(.double o_d1), (.double o_d0), (.double o_d0)] [(.int 0), (.int 1), (.int 2)] [(.int (-1)), (.int 0), (.int 1)] o_d1 o_d0 o_d0 h869 n0 Z869 F871 F872 F873 F874 F875 F876 F877 F878 F879 ge_b778 ge_vh_779 ge_vx_779 ne780 ne781 ne782 B779_8 B779_9 B779_10 ⟨by decide, by decide⟩ ⟨by decide, by decide⟩ ⟨by decide, by decide⟩ rfl rfl rfl (by decide +kernel) rfl) (lenOf pd_3 rfl) rfl (Nat.le_of_eq rfl) (hb hby at_190) rfl (by decide) (by decide) (by decide) (by decide)
  obtain ⟨rfl, N870q, K870q, B870_0, B870_1, B870_2, B870_3, B870_4, B870_5, B870_6⟩ := hQ870
  have Z870 : n0 ≤ T870.heap.size := Nat.le_trans Z869 K870q.1
  have N870 := Fr.app N869 N870q
  replace G := o_re (st := [(.int 0)]) G rfl
  replace G := o_istore (q := 195) (l' := #[.val (.int i0), .val (.int i1), .val (.int 3), .val (.int 1), .val (.int 0), .val (.int 2), .val (.int 2), .val (.int 0), .val (.int 0), .val (.int 1), .val (.ref b778), .val (.ref b858), .val (.int 0), .unset, .unset, .unset]) G X870.here hx (hb hby at_193) rfl rfl
  replace G := o_aload (q := 197) G X870.here hx (hb hby at_195) rfl rfl rfl
  have F881 := (F871.keep K870q)
  have F882 := (F877.keep K870q (ninS (Ne.symm ne780) (ninS B779_8 (ninS B779_9 nin0))))
  obtain ⟨T880, _, Lc880, X880, hQ880, G⟩ := o_vb (q := 200) (W := 0) (argsL := []) (rest := []) (y := (⟨o_n0, "takeFirst", "()I"⟩ : MethodName)) G X870 hx hZ hown (by rw [hml]; rfl) ⟨(o_w hw 47 rfl), (o_w hw 48 rfl), (o_w hw 50 rfl), (o_w hw 49 rfl), (o_w hw 51 rfl), (o_w hw 3 rfl)⟩ (by decide) rfl F881 (rm8n2 l Z a0 hw [] b778 va_779 vh_779 vx_779 ka_779 kh_779 kx_779 (1 : Int32) (2 : Int32) (2 : Int32) [(.double o_d1), (.double o_d0), (.double o_d0)] [(.int (-1)), (.int 0), (.int 1)] [(.int (-1)), (.int (-1)), (.int 0)] o_d1 T870.heap n0 Z870 F881 B870_0 B870_1 B870_2 B870_3 B870_4 F882 B870_5 B870_6 ge_b778 ge_vh_779 ge_vx_779 ne780 ne781 ne782 B779_8 B779_9 B779_10 ⟨by decide, by decide⟩ ⟨by decide, by decide⟩ rfl rfl) (lenOf pd_3 rfl) rfl (Nat.le_of_eq rfl) (hb hby at_197) rfl (by decide) (by decide) (by decide) (by decide)
  obtain ⟨rfl, N880q, K880q, B880_0, B880_1, B880_2, B880_3, B880_4, B880_5, B880_6⟩ := hQ880
  have Z880 : n0 ≤ T880.heap.size := Nat.le_trans Z870 K880q.1
  have N880 := Fr.app N870 N880q
  replace G := o_re (st := [(.int 1)]) G rfl
  replace G := o_istore (q := 202) (l' := #[.val (.int i0), .val (.int i1), .val (.int 3), .val (.int 1), .val (.int 0), .val (.int 2), .val (.int 2), .val (.int 0), .val (.int 0), .val (.int 1), .val (.ref b778), .val (.ref b858), .val (.int 0), .val (.int 1), .unset, .unset]) G X880.here hx (hb hby at_200) rfl rfl
  replace G := o_aload (q := 204) G X880.here hx (hb hby at_202) rfl rfl rfl
  have F884 := (F881.keep K880q)
  have F885 := (F882.keep K880q (ninS (Ne.symm ne780) (ninS B779_8 (ninS B779_9 nin0))))
  obtain ⟨T883, _, Lc883, X883, hQ883, G⟩ := o_vb (q := 207) (W := 0) (argsL := []) (rest := []) (y := (⟨o_n0, "takeFirst", "()I"⟩ : MethodName)) G X880 hx hZ hown (by rw [hml]; rfl) ⟨(o_w hw 47 rfl), (o_w hw 48 rfl), (o_w hw 50 rfl), (o_w hw 49 rfl), (o_w hw 51 rfl), (o_w hw 3 rfl)⟩ (by decide) rfl F884 (rm8n1 l Z a0 hw [] b778 va_779 vh_779 vx_779 ka_779 kh_779 kx_779 (2 : Int32) (2 : Int32) (2 : Int32) [(.double o_d1), (.double o_d0), (.double o_d0)] [(.int (-1)), (.int (-1)), (.int 0)] [(.int (-1)), (.int (-1)), (.int (-1))] o_d1 T880.heap n0 Z880 F884 B880_0 B880_1 B880_2 B880_3 B880_4 F885 B880_5 B880_6 ge_b778 ge_vh_779 ge_vx_779 ne780 ne781 ne782 B779_8 B779_9 B779_10 ⟨by decide, by decide⟩ rfl rfl) (lenOf pd_3 rfl) rfl (Nat.le_of_eq rfl) (hb hby at_204) rfl (by decide) (by decide) (by decide) (by decide)
  obtain ⟨rfl, N883q, K883q, B883_0, B883_1, B883_2, B883_3, B883_4, B883_5, B883_6⟩ := hQ883
  have Z883 : n0 ≤ T883.heap.size := Nat.le_trans Z880 K883q.1
  have N883 := Fr.app N880 N883q
  replace G := o_re (st := [(.int 2)]) G rfl
  replace G := o_istore (q := 209) (l' := #[.val (.int i0), .val (.int i1), .val (.int 3), .val (.int 1), .val (.int 0), .val (.int 2), .val (.int 2), .val (.int 0), .val (.int 0), .val (.int 1), .val (.ref b778), .val (.ref b858), .val (.int 0), .val (.int 1), .val (.int 2), .unset]) G X883.here hx (hb hby at_207) rfl rfl
  replace G := o_iload (q := 211) G X883.here hx (hb hby at_209) rfl rfl
  replace G := o_ifNo (q := 214) G X883.here hx (hb hby at_211) (by decide) rfl
  replace G := o_iload (q := 216) G X883.here hx (hb hby at_214) rfl rfl
  replace G := o_iconst (q := 217) G X883.here hx (hb hby at_216) (v := (3 : Int32)) (by decide) rfl
  replace G := o_icmpNo (q := 220) G X883.here hx (hb hby at_217) (by decide) rfl
  replace G := o_iload (q := 222) G X883.here hx (hb hby at_220) rfl rfl
  replace G := o_ifNo (q := 225) G X883.here hx (hb hby at_222) (by decide) rfl
  replace G := o_iload (q := 227) G X883.here hx (hb hby at_225) rfl rfl
  replace G := o_iconst (q := 228) G X883.here hx (hb hby at_227) (v := (3 : Int32)) (by decide) rfl
  replace G := o_icmpNo (q := 231) G X883.here hx (hb hby at_228) (by decide) rfl
  replace G := o_iload (q := 233) G X883.here hx (hb hby at_231) rfl rfl
  replace G := o_ifNo (q := 236) G X883.here hx (hb hby at_233) (by decide) rfl
  replace G := o_iload (q := 238) G X883.here hx (hb hby at_236) rfl rfl
  replace G := o_iconst (q := 239) G X883.here hx (hb hby at_238) (v := (3 : Int32)) (by decide) rfl
  replace G := o_icmpNo (q := 242) G X883.here hx (hb hby at_239) (by decide) rfl
  replace G := o_iload (q := 244) G X883.here hx (hb hby at_242) rfl rfl
  replace G := o_iload (q := 246) G X883.here hx (hb hby at_244) rfl rfl
  replace G := o_icmpNo (q := 249) G X883.here hx (hb hby at_246) (by decide) rfl
  replace G := o_iload (q := 251) G X883.here hx (hb hby at_249) rfl rfl
  replace G := o_iload (q := 253) G X883.here hx (hb hby at_251) rfl rfl
  replace G := o_icmpNo (q := 256) G X883.here hx (hb hby at_253) (by decide) rfl
  replace G := o_iload (q := 258) G X883.here hx (hb hby at_256) rfl rfl
  replace G := o_iload (q := 260) G X883.here hx (hb hby at_258) rfl rfl
  replace G := o_icmpNo (q := 263) G X883.here hx (hb hby at_260) (by decide) rfl
  replace G := o_iconst (q := 264) G X883.here hx (hb hby at_263) (v := (1 : Int32)) (by decide) rfl
  replace G := o_goto (q := 268) G X883.here hx (hb hby at_264) (by decide) (by decide)
  replace G := o_istore (q := 270) (l' := #[.val (.int i0), .val (.int i1), .val (.int 3), .val (.int 1), .val (.int 0), .val (.int 2), .val (.int 2), .val (.int 0), .val (.int 0), .val (.int 1), .val (.ref b778), .val (.ref b858), .val (.int 0), .val (.int 1), .val (.int 2), .val (.int 1)]) G X883.here hx (hb hby at_268) rfl rfl
  replace G := o_iload (q := 272) G X883.here hx (hb hby at_270) rfl rfl
  replace G := o_ifNo (q := 275) G X883.here hx (hb hby at_272) (by decide) rfl
  replace G := o_aload (q := 277) G X883.here hx (hb hby at_275) rfl rfl rfl
  replace G := o_iload (q := 279) G X883.here hx (hb hby at_277) rfl rfl
  replace G := o_iload (q := 281) G X883.here hx (hb hby at_279) rfl rfl
  have F897 := (((V869.keep K870q (ninS (Ne.symm ne863) (ninS (Ne.symm ne860) (ninS (Ne.symm ne859) nin0)))).keep K880q (ninS (Ne.symm ne863) (ninS (Ne.symm ne860) (ninS (Ne.symm ne859) nin0)))).keep K883q (ninS (Ne.symm ne863) (ninS (Ne.symm ne860) (ninS (Ne.symm ne859) nin0))))
  obtain ⟨_, _, ⟨T896, L896, kk896, nn896⟩, -, X896, ⟨Lc896, hQ896, l896, y896, z896⟩, st896⟩ := Jvm.LawKit.callS X883 hx (y := (⟨o_n1, "before", "([III)Z"⟩ : MethodName)) hown (mvT hZ (o_w hw 56 rfl)) (mvT hZ (o_w hw 57 rfl)) (mvT hZ (o_w hw 58 rfl)) (mvT hZ (o_w hw 59 rfl)) (by decide) (backOf (W := 0) (rm10 l Z a0 hw [] b858 (0 : Int32) (1 : Int32) k858 [(.int 1), (.int 0), (.int 0)] (1 : Int32) (0 : Int32) T883.heap n0 Z883 F897 ⟨by decide, by decide⟩ ⟨by decide, by decide⟩ rfl rfl) hZ (o_w hw 59 rfl) (o_w hw 58 rfl) (by decide) (by decide)) (g := o_g G) rfl (by rw [hml]; rfl) (argsL := [(.ref b858), (.int 0), (.int 1)]) (rest := []) (lenOf pd_4 rfl) rfl (by show 2 * 0 + _ ≤ _; exact Nat.le_of_eq rfl) (hb hby at_281) (fun _ _ => ⟨rfl, rfl, (by decide : 5 + 0 ≤ _), (by decide : 17 + 0 ≤ _)⟩)
  dsimp only [Pt.U, Pt.locs, Pt.cells, Pt.slots] at X896 l896 y896 z896 st896 hQ896
  subst l896 y896 z896
  obtain ⟨rfl, N896q, e896⟩ := hQ896
  have N896 := Fr.app N883 N896q
  replace G := o_nxs (q := 284) (st := [(.int (o_lb (1 : Int32) (0 : Int32) (0 : Int32) (1 : Int32)))]) G st896 rfl
  replace G := o_ifNo (q := 287) G X896.here hx (hb hby at_284) (by decide) rfl
  replace G := o_aload (q := 289) G X896.here hx (hb hby at_287) rfl rfl rfl
  replace G := o_iload (q := 291) G X896.here hx (hb hby at_289) rfl rfl
  replace G := o_iload (q := 293) G X896.here hx (hb hby at_291) rfl rfl
  obtain ⟨_, _, ⟨T899, L899, kk899, nn899⟩, -, X899, ⟨Lc899, hQ899, l899, y899, z899⟩, st899⟩ := Jvm.LawKit.callS X896 hx (y := (⟨o_n1, "before", "([III)Z"⟩ : MethodName)) hown (mvT hZ (o_w hw 56 rfl)) (mvT hZ (o_w hw 57 rfl)) (mvT hZ (o_w hw 58 rfl)) (mvT hZ (o_w hw 59 rfl)) (by decide) (backOf (W := 0) (rm10 l Z a0 hw [] b858 (1 : Int32) (2 : Int32) k858 [(.int 1), (.int 0), (.int 0)] (0 : Int32) (0 : Int32) T883.heap n0 Z883 F897 ⟨by decide, by decide⟩ ⟨by decide, by decide⟩ rfl rfl) hZ (o_w hw 59 rfl) (o_w hw 58 rfl) (by decide) (by decide)) (g := o_g G) rfl (by rw [hml]; rfl) (argsL := [(.ref b858), (.int 1), (.int 2)]) (rest := []) (lenOf pd_4 rfl) rfl (by show 2 * 0 + _ ≤ _; exact Nat.le_of_eq rfl) (hb hby at_293) (fun _ _ => ⟨rfl, e896, (by decide : 5 + 0 ≤ _), (by decide : 17 + 0 ≤ _)⟩)
  dsimp only [Pt.U, Pt.locs, Pt.cells, Pt.slots] at X899 l899 y899 z899 st899 hQ899
  subst l899 y899 z899
  obtain ⟨rfl, N899q, e899⟩ := hQ899
  have N899 := Fr.app N896 N899q
  replace G := o_nxs (q := 296) (st := [(.int (o_lb (0 : Int32) (0 : Int32) (1 : Int32) (2 : Int32)))]) G st899 rfl
  replace G := o_ifNo (q := 299) G X899.here hx (hb hby at_296) (by decide) rfl
  replace G := o_aload (q := 301) G X899.here hx (hb hby at_299) rfl rfl rfl
  have F902 := (F884.keep K883q)
  obtain ⟨T901, _, Lc901, X901, hQ901, G⟩ := o_vb (q := 304) (W := 0) (argsL := []) (rest := []) (y := (⟨o_n0, "isEmpty", "()Z"⟩ : MethodName)) G X899 hx hZ hown (by rw [hml]; rfl) ⟨(o_w hw 60 rfl), (o_w hw 61 rfl), (o_w hw 63 rfl), (o_w hw 62 rfl), (o_w hw 64 rfl), (o_w hw 3 rfl)⟩ (by decide) e899 F902 (rm11 l Z a0 hw [] b778 T883.heap n0 Z883 B883_3) (lenOf pd_5 rfl) rfl (Nat.le_of_eq rfl) (hb hby at_301) rfl (by decide) (by decide) (by decide) (by decide)
  obtain ⟨rfl, N901q, e901⟩ := hQ901
  have N901 := Fr.app N899 N901q
  replace G := o_re (st := [(.int 1)]) G rfl
  replace G := o_ifNo (q := 307) G X901.here hx (hb hby at_304) (by decide) rfl
  replace G := o_iconst (q := 308) G X901.here hx (hb hby at_307) (v := (1 : Int32)) (by decide) rfl
  replace G := o_goto (q := 312) G X901.here hx (hb hby at_308) (by decide) (by decide)
  obtain ⟨fs, hr, hrun, hended, hW, hsame⟩ := X901.leave (v := some (.int 1)) (fun h => by rw [Bd.returns] at h; cases h)
  refine ⟨_, _, G _ (retOut X901 hx Bd.returns rfl (Or.inl ⟨rfl, Or.inr (Or.inl rfl), _, rfl⟩) (hb hby at_312) hr), hrun, hended, _, _, rfl, ?_, ⟨_, rfl⟩, hW, hsame.mono (by decide) (by decide)⟩
  show Q0 Z i0 i1 h0 n0 _ T901.heap _
  rw [e901]
  exact ⟨rfl, N901⟩
  replace G := o_iload (q := 110) G X783.here hx (hb hby at_108) rfl rfl
  replace G := o_ifNo (q := 113) G X783.here hx (hb hby at_110) (by decide) rfl
  replace G := o_aload (q := 115) G X783.here hx (hb hby at_113) rfl rfl rfl
  have F906 := (F784.keep K783q)
  have F907 := (B779_0.keep K783q (ninS ne780 (ninS ne781 (ninS ne782 nin0))))
  have F908 := (B779_1.keep K783q (ninS ne780 (ninS ne781 (ninS ne782 nin0))))
  have F909 := (B779_2.keep K783q (ninS ne780 (ninS ne781 (ninS ne782 nin0))))
  have F910 := (B779_3.keep K783q (ninS ne780 (ninS ne781 (ninS ne782 nin0))))
  have F911 := (B779_4.keep K783q (ninS ne780 (ninS ne781 (ninS ne782 nin0))))
  obtain ⟨T905, _, Lc905, X905, hQ905, G⟩ := o_vb (q := 118) (W := 0) (argsL := []) (rest := []) (y := (⟨o_n0, "decay", "()V"⟩ : MethodName)) G X783 hx hZ hown (by rw [hml]; rfl) ⟨(o_w hw 41 rfl), (o_w hw 42 rfl), (o_w hw 44 rfl), (o_w hw 43 rfl), (o_w hw 45 rfl), (o_w hw 3 rfl)⟩ (by decide) rfl F906 (rm7 l Z a0 hw [] b778 va_779 vh_779 vx_779 o_d0 o_d1 (3 : Int32) T783.heap n0 Z783 F906 F907 F908 F909 F910 F911 ge_b778 (by decide +kernel) (o_nan (by decide +kernel))) (lenOf pd_6 rfl) rfl (Nat.le_of_eq rfl) (hb hby at_115) rfl (by decide) (by decide) (by decide) (by decide)
  obtain ⟨rfl, N905q, K905q, B905_0, B905_1, B905_2, B905_3, B905_4⟩ := hQ905
  have Z905 : n0 ≤ T905.heap.size := Nat.le_trans Z783 K905q.1
  have N905 := Fr.app N783 N905q
  replace G := o_re (st := []) G rfl
  replace G := o_aload (q := 120) G X905.here hx (hb hby at_118) rfl rfl rfl
  replace G := o_iload (q := 122) G X905.here hx (hb hby at_120) rfl rfl
  have F913 := (F906.keep K905q)
  have F914 := (B783_0.keep K905q (ninS (Ne.symm ne780) nin0))
  have F915 := (B783_1.keep K905q (ninS (Ne.symm ne781) nin0))
  have F916 := (B783_2.keep K905q (ninS (Ne.symm ne782) nin0))
  obtain ⟨T912, _, Lc912, X912, hQ912, G⟩ := o_vb (q := 125) (W := 0) (argsL := [(.int 2)]) (rest := []) (y := (⟨o_n0, "bump", "(I)V"⟩ : MethodName)) G X905 hx hZ hown (by rw [hml]; rfl) ⟨(o_w hw 35 rfl), (o_w hw 36 rfl), (o_w hw 38 rfl), (o_w hw 37 rfl), (o_w hw 39 rfl), (o_w hw 3 rfl)⟩ (by decide) rfl F913 (rm6f2t l Z a0 hw [] b778 (2 : Int32) va_779 vh_779 vx_779 ka_779 kh_779 kx_779 (1 : Int32) (0 : Int32) (2 : Int32) [(.double 0), (.double o_d0), (.double 0)] [(.int 1), (.int 0), (.int 2)] [(.int 1), (.int 2), (.int 0)] o_d1 [(.double 0), (.double o_d0), (.double o_d1)] (0 : UInt64) o_d1 o_d0 o_d1 T905.heap n0 Z905 F913 B905_0 B905_1 B905_2 B905_4 F914 F915 F916 ge_va_779 ge_vh_779 ge_vx_779 ne780 ne781 ne782 B779_8 B779_9 B779_10 ⟨by decide, by decide⟩ ⟨by decide, by decide⟩ ⟨by decide, by decide⟩ rfl rfl rfl rfl (by decide +kernel) (o_nan (by decide +kernel)) (by decide +kernel) rfl rfl rfl rfl (by decide +kernel) rfl) (lenOf pd_1 rfl) rfl (Nat.le_of_eq rfl) (hb hby at_122) rfl (by decide) (by decide) (by decide) (by decide)
  obtain ⟨rfl, N912q, K912q, B912_0, B912_1, B912_2⟩ := hQ912
  have Z912 : n0 ≤ T912.heap.size := Nat.le_trans Z905 K912q.1
  have N912 := Fr.app N905 N912q
  replace G := o_re (st := []) G rfl
  rcases o_01 hn_w2 with rfl | rfl
  replace G := o_iload (q := 127) G X912.here hx (hb hby at_125) rfl rfl
  replace G := o_ifYes (q := 135) G X912.here hx (hb hby at_127) (by decide) (by decide) (by decide)
  replace G := o_aload (q := 137) G X912.here hx (hb hby at_135) rfl rfl rfl
  replace G := o_iload (q := 139) G X912.here hx (hb hby at_137) rfl rfl
  have F919 := (F913.keep K912q)
  have F920 := (B905_0.keep K912q (ninS ne780 (ninS ne781 (ninS ne782 nin0))))
  have F921 := (B905_1.keep K912q (ninS ne780 (ninS ne781 (ninS ne782 nin0))))
  have F922 := (B905_2.keep K912q (ninS ne780 (ninS ne781 (ninS ne782 nin0))))
  have F923 := (B905_4.keep K912q (ninS ne780 (ninS ne781 (ninS ne782 nin0))))
  obtain ⟨T918, _, Lc918, X918, hQ918, G⟩ := o_vb (q := 142) (W := 0) (argsL := [(.int 0)]) (rest := []) (y := (⟨o_n0, "bump", "(I)V"⟩ : MethodName)) G X912 hx hZ hown (by rw [hml]; rfl) ⟨(o_w hw 35 rfl), (o_w hw 36 rfl), (o_w hw 38 rfl), (o_w hw 37 rfl), (o_w hw 39 rfl), (o_w hw 3 rfl)⟩ (by decide) rfl F919 (rm6f1t l Z a0 hw [] b778 (0 : Int32) va_779 vh_779 vx_779 ka_779 kh_779 kx_779 (2 : Int32) (0 : Int32) (1 : Int32) [(.double 0), (.double o_d0), (.double o_d1)] [(.int 1), (.int 2), (.int 0)] [(.int 0), (.int 2), (.int 1)] o_d1 [(.double o_d1), (.double o_d0), (.double o_d1)] (0 : UInt64) o_d1 o_d1 o_d1 T912.heap n0 Z912 F919 F920 F921 F922 F923 B912_0 B912_1 B912_2 ge_va_779 ge_vh_779 ge_vx_779 ne780 ne781 ne782 B779_8 B779_9 B779_10 ⟨by decide, by decide⟩ ⟨by decide, by decide⟩ ⟨by decide, by decide⟩ rfl rfl rfl rfl (by decide +kernel) (o_nan (by decide +kernel)) (by decide +kernel) rfl rfl rfl rfl (by decide +kernel) rfl) (lenOf pd_1 rfl) rfl (Nat.le_of_eq rfl) (hb hby at_139) rfl (by decide) (by decide) (by decide) (by decide)
  obtain ⟨rfl, N918q, K918q, B918_0, B918_1, B918_2⟩ := hQ918
  have Z918 : n0 ≤ T918.heap.size := Nat.le_trans Z912 K918q.1
  have N918 := Fr.app N912 N918q
  replace G := o_re (st := []) G rfl
  replace G := o_iconst (q := 143) G X918.here hx (hb hby at_142) (v := (3 : Int32)) (by decide) rfl
  obtain ⟨T924, h924, k924, X924, e924, E924, A924, st924⟩ := newP X918 hx hZ (o_w hw 15 rfl) rfl (g := o_g G) rfl (hb hby at_143) rfl (by decide) (cap := 3) (by decide) (by decide) (by decide) (by decide)
  obtain ⟨b924, g924⟩ : ∃ z, z = T918.heap.size := ⟨_, rfl⟩
  rw [← g924] at A924 st924
  have ne925 : vx_779 ≠ b924 := Nat.ne_of_lt (Nat.lt_of_lt_of_le B918_2.lt (Nat.le_of_eq g924.symm))
  have ne926 : vh_779 ≠ b924 := Nat.ne_of_lt (Nat.lt_of_lt_of_le B918_1.lt (Nat.le_of_eq g924.symm))
  have ne927 : va_779 ≠ b924 := Nat.ne_of_lt (Nat.lt_of_lt_of_le B918_0.lt (Nat.le_of_eq g924.symm))
  have F928 := (F923.keep K918q (ninS ne780 (ninS ne781 (ninS ne782 nin0))))
  have ne929 : b778 ≠ b924 := Nat.ne_of_lt (Nat.lt_of_lt_of_le F928.lt (Nat.le_of_eq g924.symm))
  have ge_b924 : n0 ≤ b924 := Nat.le_trans Z918 (Nat.le_of_eq g924.symm)
  have Z924 : n0 ≤ h924.size := Nat.le_trans Z918 E924.1
  have V924 : Arv Z h924 b924 k924 .int 3 [(.int 0), (.int 0), (.int 0)] (.int 0) := (Arv.new A924 (by decide)).pad (pad_rep [] (.int 0) 3)
  replace G := o_nxs (q := 145) (st := [(.ref b924)]) G st924 rfl
  replace G := o_astore (q := 147) (l' := #[.val (.int i0), .val (.int i1), .val (.int 3), .val (.int 1), .val (.int 0), .val (.int 2), .val (.int 2), .val (.int 0), .val (.int 1), .val (.int 0), .val (.ref b778), .val (.ref b924), .unset, .unset, .unset, .unset]) G X924.here hx (hb hby at_145) rfl rfl rfl
  replace G := o_aload (q := 149) G X924.here hx (hb hby at_147) rfl rfl rfl
  replace G := o_iloadN (q := 150) G X924.here hx (hb hby at_149) rfl rfl
  replace G := o_iconst (q := 151) G X924.here hx (hb hby at_150) (v := (0 : Int32)) (by decide) rfl
  obtain ⟨c930, Ar930, q930, S930, N930', H930, G930'⟩ := id V924
  have hin930 : ¬ ((1 : Int32) < 0 ∨ c930.slots.size ≤ ((1 : Int32)).toNatClampNeg) := inb_of S930 ⟨by decide, by decide⟩
  obtain ⟨T930, h930, X930, e930, W930, st930⟩ := stI X924 hx hZ e924 Ar930 (j := (1 : Int32)) hin930 (g := o_g G) rfl rfl (hb hby at_151)
  have N930 := Fr.snoc X930 N918 ge_b924
  have Z930 : n0 ≤ h930.size := Nat.le_trans Z924 (Keep.of_wr W930).1
  have V930 : Arv Z h930 b924 k924 .int 3 [(.int 0), (.int 0), (.int 0)] (.int 0) := Arv.set Ar930 q930 S930 N930' H930 G930' rfl W930 1 rfl (Nat.le_of_ble_eq_true rfl)
  replace G := o_nxs (q := 152) (st := []) G st930 rfl
  replace G := o_aload (q := 154) G X930.here hx (hb hby at_152) rfl rfl rfl
  replace G := o_iload (q := 156) G X930.here hx (hb hby at_154) rfl rfl
  replace G := o_iload (q := 158) G X930.here hx (hb hby at_156) rfl rfl
  replace G := o_ifNo (q := 161) G X930.here hx (hb hby at_158) (by decide) rfl
  replace G := o_iconst (q := 162) G X930.here hx (hb hby at_161) (v := (1 : Int32)) (by decide) rfl
  replace G := o_goto (q := 166) G X930.here hx (hb hby at_162) (by decide) (by decide)
  obtain ⟨c932, Ar932, q932, S932, N932', H932, G932'⟩ := id V930
  have hin932 : ¬ ((2 : Int32) < 0 ∨ c932.slots.size ≤ ((2 : Int32)).toNatClampNeg) := inb_of S932 ⟨by decide, by decide⟩
  obtain ⟨T932, h932, X932, e932, W932, st932⟩ := stI X930 hx hZ e930 Ar932 (j := (2 : Int32)) hin932 (g := o_g G) rfl rfl (hb hby at_166)
  have N932 := Fr.snoc X932 N930 ge_b924
  have Z932 : n0 ≤ h932.size := Nat.le_trans Z930 (Keep.of_wr W932).1
  have V932 : Arv Z h932 b924 k924 .int 3 [(.int 0), (.int 0), (.int 1)] (.int 0) := Arv.set Ar932 q932 S932 N932' H932 G932' rfl W932 2 rfl (Nat.le_of_ble_eq_true rfl)
  replace G := o_nxs (q := 167) (st := []) G st932 rfl
  replace G := o_aload (q := 169) G X932.here hx (hb hby at_167) rfl rfl rfl
  replace G := o_iload (q := 171) G X932.here hx (hb hby at_169) rfl rfl
  replace G := o_aload (q := 173) G X932.here hx (hb hby at_171) rfl rfl rfl
  replace G := o_iload (q := 175) G X932.here hx (hb hby at_173) rfl rfl
  obtain ⟨c933, Ar933, -, S933, -, H933, -⟩ := id V932
  have hin933 : ¬ ((2 : Int32) < 0 ∨ c933.slots.size ≤ ((2 : Int32)).toNatClampNeg) := inb_of S933 ⟨by decide, by decide⟩
  replace G := o_nxs (q := 176) (st := [(.int 1), (.int 0), (.ref b924)]) G (X932.iaload hx (j := (2 : Int32)) (v := (.int 1)) (by rw [e932]; exact Ar933.1) (State.isArrayOf_alike hZ.alike Ar933.2.1) Ar933.2.2 hin933 (Has.at H933 hin933 rfl) (g := o_g G) rfl rfl (hb hby at_175)) rfl
  replace G := o_iload (q := 178) G X932.here hx (hb hby at_176) rfl rfl
  replace G := o_ifYes (q := 185) G X932.here hx (hb hby at_178) (by decide) (by decide) (by decide)
  replace G := o_iconst (q := 186) G X932.here hx (hb hby at_185) (v := (0 : Int32)) (by decide) rfl
  replace G := o_iadd (q := 187) G X932.here hx (hb hby at_186) (by decide : ((1 : Int32) + (0 : Int32)) = (1 : Int32)) rfl
  obtain ⟨c935, Ar935, q935, S935, N935', H935, G935'⟩ := id V932
  have hin935 : ¬ ((0 : Int32) < 0 ∨ c935.slots.size ≤ ((0 : Int32)).toNatClampNeg) := inb_of S935 ⟨by decide, by decide⟩
  obtain ⟨T935, h935, X935, e935, W935, st935⟩ := stI X932 hx hZ e932 Ar935 (j := (0 : Int32)) hin935 (g := o_g G) rfl rfl (hb hby at_187)
  have N935 := Fr.snoc X935 N932 ge_b924
  have Z935 : n0 ≤ h935.size := Nat.le_trans Z932 (Keep.of_wr W935).1
  have V935 : Arv Z h935 b924 k924 .int 3 [(.int 1), (.int 0), (.int 1)] (.int 0) := Arv.set Ar935 q935 S935 N935' H935 G935' rfl W935 0 rfl (Nat.le_of_ble_eq_true rfl)
  replace G := o_nxs (q := 188) (st := []) G st935 rfl
  replace G := o_aload (q := 190) G X935.here hx (hb hby at_188) rfl rfl rfl
  have F937 := (((((F919.keep K918q).ext E924).wr W930).wr W932).wr W935)
  have F938 := (((((F920.keep K918q (ninS ne780 (ninS ne781 (ninS ne782 nin0)))).ext E924).other W930 (Or.inl ne929)).other W932 (Or.inl ne929)).other W935 (Or.inl ne929))
  have F939 := (((((F921.keep K918q (ninS ne780 (ninS ne781 (ninS ne782 nin0)))).ext E924).other W930 (Or.inl ne929)).other W932 (Or.inl ne929)).other W935 (Or.inl ne929))
  have F940 := (((((F922.keep K918q (ninS ne780 (ninS ne781 (ninS ne782 nin0)))).ext E924).other W930 (Or.inl ne929)).other W932 (Or.inl ne929)).other W935 (Or.inl ne929))
  have F941 := ((((((B905_3.keep K912q (ninS ne780 (ninS ne781 (ninS ne782 nin0)))).keep K918q (ninS ne780 (ninS ne781 (ninS ne782 nin0)))).ext E924).other W930 (Or.inl ne929)).other W932 (Or.inl ne929)).other W935 (Or.inl ne929))
  have F942 := ((((F928.ext E924).other W930 (Or.inl ne929)).other W932 (Or.inl ne929)).other W935 (Or.inl ne929))
  have F943 := ((((B918_0.ext E924).other W930 ne927).other W932 ne927).other W935 ne927)
  have F944 := ((((B918_1.ext E924).other W930 ne926).other W932 ne926).other W935 ne926)
  have F945 := ((((B918_2.ext E924).other W930 ne925).other W932 ne925).other W935 ne925)
  obtain ⟨T936, _, Lc936, X936, hQ936, G⟩ := o_vb (q := 193) (W := 0) (argsL := []) (rest := []) (y := (⟨o_n0, "takeFirst", "()I"⟩ : MethodName)) G X935 hx hZ hown (by rw [hml]; rfl) ⟨(o_w hw 47 rfl), (o_w hw 48 rfl), (o_w hw 50 rfl), (o_w hw 49 rfl), (o_w hw 51 rfl), (o_w hw 3 rfl)⟩ (by decide) e935 F937 (rm8n3t l Z a0 hw [] b778 va_779 vh_779 vx_779 ka_779 kh_779 kx_779 (0 : Int32) (2 : Int32) (1 : Int32) [(.double o_d1), (.double o_d0), (.double o_d1)] [(.int 0), (.int 2), (.int 1)] [(.int (-1)), (.int 1), (.int 0)] o_d1 o_d0 o_d1 h935 n0 Z935 F937 F938 F939 F940 F941 F942 F943 F944 F945 ge_b778 ge_vh_779 ge_vx_779 ne780 ne781 ne782 B779_8 B779_9 B779_10 ⟨by decide, by decide⟩ ⟨by decide, by decide⟩ ⟨by decide, by decide⟩ rfl rfl rfl (by decide +kernel) rfl) (lenOf pd_3 rfl) rfl (Nat.le_of_eq rfl) (hb hby at_190) rfl (by decide) (by decide) (by decide) (by decide)
  obtain ⟨rfl, N936q, K936q, B936_0, B936_1, B936_2, B936_3, B936_4, B936_5, B936_6⟩ := hQ936
  have Z936 : n0 ≤ T936.heap.size := Nat.le_trans Z935 K936q.1
  have N936 := Fr.app N935 N936q
  replace G := o_re (st := [(.int 0)]) G rfl
  replace G := o_istore (q := 195) (l' := #[.val (.int i0), .val (.int i1), .val (.int 3), .val (.int 1), .val (.int 0), .val (.int 2), .val (.int 2), .val (.int 0), .val (.int 1), .val (.int 0), .val (.ref b778), .val (.ref b924), .val (.int 0), .unset, .unset, .unset]) G X936.here hx (hb hby at_193) rfl rfl
  replace G := o_aload (q := 197) G X936.here hx (hb hby at_195) rfl rfl rfl
  have F947 := (F937.keep K936q)
  have F948 := (F943.keep K936q (ninS (Ne.symm ne780) (ninS B779_8 (ninS B779_9 nin0))))
  obtain ⟨T946, _, Lc946, X946, hQ946, G⟩ := o_vb (q := 200) (W := 0) (argsL := []) (rest := []) (y := (⟨o_n0, "takeFirst", "()I"⟩ : MethodName)) G X936 hx hZ hown (by rw [hml]; rfl) ⟨(o_w hw 47 rfl), (o_w hw 48 rfl), (o_w hw 50 rfl), (o_w hw 49 rfl), (o_w hw 51 rfl), (o_w hw 3 rfl)⟩ (by decide) rfl F947 (rm8n2 l Z a0 hw [] b778 va_779 vh_779 vx_779 ka_779 kh_779 kx_779 (2 : Int32) (1 : Int32) (1 : Int32) [(.double o_d1), (.double o_d0), (.double o_d1)] [(.int (-1)), (.int 1), (.int 0)] [(.int (-1)), (.int 0), (.int (-1))] o_d1 T936.heap n0 Z936 F947 B936_0 B936_1 B936_2 B936_3 B936_4 F948 B936_5 B936_6 ge_b778 ge_vh_779 ge_vx_779 ne780 ne781 ne782 B779_8 B779_9 B779_10 ⟨by decide, by decide⟩ ⟨by decide, by decide⟩ rfl rfl) (lenOf pd_3 rfl) rfl (Nat.le_of_eq rfl) (hb hby at_197) rfl (by decide) (by decide) (by decide) (by decide)
  obtain ⟨rfl, N946q, K946q, B946_0, B946_1, B946_2, B946_3, B946_4, B946_5, B946_6⟩ := hQ946
  have Z946 : n0 ≤ T946.heap.size := Nat.le_trans Z936 K946q.1
  have N946 := Fr.app N936 N946q
  replace G := o_re (st := [(.int 2)]) G rfl
  replace G := o_istore (q := 202) (l' := #[.val (.int i0), .val (.int i1), .val (.int 3), .val (.int 1), .val (.int 0), .val (.int 2), .val (.int 2), .val (.int 0), .val (.int 1), .val (.int 0), .val (.ref b778), .val (.ref b924), .val (.int 0), .val (.int 2), .unset, .unset]) G X946.here hx (hb hby at_200) rfl rfl
  replace G := o_aload (q := 204) G X946.here hx (hb hby at_202) rfl rfl rfl
  have F950 := (F947.keep K946q)
  have F951 := (F948.keep K946q (ninS (Ne.symm ne780) (ninS B779_8 (ninS B779_9 nin0))))
  obtain ⟨T949, _, Lc949, X949, hQ949, G⟩ := o_vb (q := 207) (W := 0) (argsL := []) (rest := []) (y := (⟨o_n0, "takeFirst", "()I"⟩ : MethodName)) G X946 hx hZ hown (by rw [hml]; rfl) ⟨(o_w hw 47 rfl), (o_w hw 48 rfl), (o_w hw 50 rfl), (o_w hw 49 rfl), (o_w hw 51 rfl), (o_w hw 3 rfl)⟩ (by decide) rfl F950 (rm8n1 l Z a0 hw [] b778 va_779 vh_779 vx_779 ka_779 kh_779 kx_779 (1 : Int32) (1 : Int32) (1 : Int32) [(.double o_d1), (.double o_d0), (.double o_d1)] [(.int (-1)), (.int 0), (.int (-1))] [(.int (-1)), (.int (-1)), (.int (-1))] o_d1 T946.heap n0 Z946 F950 B946_0 B946_1 B946_2 B946_3 B946_4 F951 B946_5 B946_6 ge_b778 ge_vh_779 ge_vx_779 ne780 ne781 ne782 B779_8 B779_9 B779_10 ⟨by decide, by decide⟩ rfl rfl) (lenOf pd_3 rfl) rfl (Nat.le_of_eq rfl) (hb hby at_204) rfl (by decide) (by decide) (by decide) (by decide)
  obtain ⟨rfl, N949q, K949q, B949_0, B949_1, B949_2, B949_3, B949_4, B949_5, B949_6⟩ := hQ949
  have Z949 : n0 ≤ T949.heap.size := Nat.le_trans Z946 K949q.1
  have N949 := Fr.app N946 N949q
  replace G := o_re (st := [(.int 1)]) G rfl
  replace G := o_istore (q := 209) (l' := #[.val (.int i0), .val (.int i1), .val (.int 3), .val (.int 1), .val (.int 0), .val (.int 2), .val (.int 2), .val (.int 0), .val (.int 1), .val (.int 0), .val (.ref b778), .val (.ref b924), .val (.int 0), .val (.int 2), .val (.int 1), .unset]) G X949.here hx (hb hby at_207) rfl rfl
  replace G := o_iload (q := 211) G X949.here hx (hb hby at_209) rfl rfl
  replace G := o_ifNo (q := 214) G X949.here hx (hb hby at_211) (by decide) rfl
  replace G := o_iload (q := 216) G X949.here hx (hb hby at_214) rfl rfl
  replace G := o_iconst (q := 217) G X949.here hx (hb hby at_216) (v := (3 : Int32)) (by decide) rfl
  replace G := o_icmpNo (q := 220) G X949.here hx (hb hby at_217) (by decide) rfl
  replace G := o_iload (q := 222) G X949.here hx (hb hby at_220) rfl rfl
  replace G := o_ifNo (q := 225) G X949.here hx (hb hby at_222) (by decide) rfl
  replace G := o_iload (q := 227) G X949.here hx (hb hby at_225) rfl rfl
  replace G := o_iconst (q := 228) G X949.here hx (hb hby at_227) (v := (3 : Int32)) (by decide) rfl
  replace G := o_icmpNo (q := 231) G X949.here hx (hb hby at_228) (by decide) rfl
  replace G := o_iload (q := 233) G X949.here hx (hb hby at_231) rfl rfl
  replace G := o_ifNo (q := 236) G X949.here hx (hb hby at_233) (by decide) rfl
  replace G := o_iload (q := 238) G X949.here hx (hb hby at_236) rfl rfl
  replace G := o_iconst (q := 239) G X949.here hx (hb hby at_238) (v := (3 : Int32)) (by decide) rfl
  replace G := o_icmpNo (q := 242) G X949.here hx (hb hby at_239) (by decide) rfl
  replace G := o_iload (q := 244) G X949.here hx (hb hby at_242) rfl rfl
  replace G := o_iload (q := 246) G X949.here hx (hb hby at_244) rfl rfl
  replace G := o_icmpNo (q := 249) G X949.here hx (hb hby at_246) (by decide) rfl
  replace G := o_iload (q := 251) G X949.here hx (hb hby at_249) rfl rfl
  replace G := o_iload (q := 253) G X949.here hx (hb hby at_251) rfl rfl
  replace G := o_icmpNo (q := 256) G X949.here hx (hb hby at_253) (by decide) rfl
  replace G := o_iload (q := 258) G X949.here hx (hb hby at_256) rfl rfl
  replace G := o_iload (q := 260) G X949.here hx (hb hby at_258) rfl rfl
  replace G := o_icmpNo (q := 263) G X949.here hx (hb hby at_260) (by decide) rfl
  replace G := o_iconst (q := 264) G X949.here hx (hb hby at_263) (v := (1 : Int32)) (by decide) rfl
  replace G := o_goto (q := 268) G X949.here hx (hb hby at_264) (by decide) (by decide)
  replace G := o_istore (q := 270) (l' := #[.val (.int i0), .val (.int i1), .val (.int 3), .val (.int 1), .val (.int 0), .val (.int 2), .val (.int 2), .val (.int 0), .val (.int 1), .val (.int 0), .val (.ref b778), .val (.ref b924), .val (.int 0), .val (.int 2), .val (.int 1), .val (.int 1)]) G X949.here hx (hb hby at_268) rfl rfl
  replace G := o_iload (q := 272) G X949.here hx (hb hby at_270) rfl rfl
  replace G := o_ifNo (q := 275) G X949.here hx (hb hby at_272) (by decide) rfl
  replace G := o_aload (q := 277) G X949.here hx (hb hby at_275) rfl rfl rfl
  replace G := o_iload (q := 279) G X949.here hx (hb hby at_277) rfl rfl
  replace G := o_iload (q := 281) G X949.here hx (hb hby at_279) rfl rfl
  have F963 := (((V935.keep K936q (ninS (Ne.symm ne929) (ninS (Ne.symm ne926) (ninS (Ne.symm ne925) nin0)))).keep K946q (ninS (Ne.symm ne929) (ninS (Ne.symm ne926) (ninS (Ne.symm ne925) nin0)))).keep K949q (ninS (Ne.symm ne929) (ninS (Ne.symm ne926) (ninS (Ne.symm ne925) nin0))))
  obtain ⟨_, _, ⟨T962, L962, kk962, nn962⟩, -, X962, ⟨Lc962, hQ962, l962, y962, z962⟩, st962⟩ := Jvm.LawKit.callS X949 hx (y := (⟨o_n1, "before", "([III)Z"⟩ : MethodName)) hown (mvT hZ (o_w hw 56 rfl)) (mvT hZ (o_w hw 57 rfl)) (mvT hZ (o_w hw 58 rfl)) (mvT hZ (o_w hw 59 rfl)) (by decide) (backOf (W := 0) (rm10 l Z a0 hw [] b924 (0 : Int32) (2 : Int32) k924 [(.int 1), (.int 0), (.int 1)] (1 : Int32) (1 : Int32) T949.heap n0 Z949 F963 ⟨by decide, by decide⟩ ⟨by decide, by decide⟩ rfl rfl) hZ (o_w hw 59 rfl) (o_w hw 58 rfl) (by decide) (by decide)) (g := o_g G) rfl (by rw [hml]; rfl) (argsL := [(.ref b924), (.int 0), (.int 2)]) (rest := []) (lenOf pd_4 rfl) rfl (by show 2 * 0 + _ ≤ _; exact Nat.le_of_eq rfl) (hb hby at_281) (fun _ _ => ⟨rfl, rfl, (by decide : 5 + 0 ≤ _), (by decide : 17 + 0 ≤ _)⟩)
  dsimp only [Pt.U, Pt.locs, Pt.cells, Pt.slots] at X962 l962 y962 z962 st962 hQ962
  subst l962 y962 z962
  obtain ⟨rfl, N962q, e962⟩ := hQ962
  have N962 := Fr.app N949 N962q
  replace G := o_nxs (q := 284) (st := [(.int (o_lb (1 : Int32) (1 : Int32) (0 : Int32) (2 : Int32)))]) G st962 rfl
  replace G := o_ifNo (q := 287) G X962.here hx (hb hby at_284) (by decide) rfl
  replace G := o_aload (q := 289) G X962.here hx (hb hby at_287) rfl rfl rfl
  replace G := o_iload (q := 291) G X962.here hx (hb hby at_289) rfl rfl
  replace G := o_iload (q := 293) G X962.here hx (hb hby at_291) rfl rfl
  obtain ⟨_, _, ⟨T965, L965, kk965, nn965⟩, -, X965, ⟨Lc965, hQ965, l965, y965, z965⟩, st965⟩ := Jvm.LawKit.callS X962 hx (y := (⟨o_n1, "before", "([III)Z"⟩ : MethodName)) hown (mvT hZ (o_w hw 56 rfl)) (mvT hZ (o_w hw 57 rfl)) (mvT hZ (o_w hw 58 rfl)) (mvT hZ (o_w hw 59 rfl)) (by decide) (backOf (W := 0) (rm10 l Z a0 hw [] b924 (2 : Int32) (1 : Int32) k924 [(.int 1), (.int 0), (.int 1)] (1 : Int32) (0 : Int32) T949.heap n0 Z949 F963 ⟨by decide, by decide⟩ ⟨by decide, by decide⟩ rfl rfl) hZ (o_w hw 59 rfl) (o_w hw 58 rfl) (by decide) (by decide)) (g := o_g G) rfl (by rw [hml]; rfl) (argsL := [(.ref b924), (.int 2), (.int 1)]) (rest := []) (lenOf pd_4 rfl) rfl (by show 2 * 0 + _ ≤ _; exact Nat.le_of_eq rfl) (hb hby at_293) (fun _ _ => ⟨rfl, e962, (by decide : 5 + 0 ≤ _), (by decide : 17 + 0 ≤ _)⟩)
  dsimp only [Pt.U, Pt.locs, Pt.cells, Pt.slots] at X965 l965 y965 z965 st965 hQ965
  subst l965 y965 z965
  obtain ⟨rfl, N965q, e965⟩ := hQ965
  have N965 := Fr.app N962 N965q
  replace G := o_nxs (q := 296) (st := [(.int (o_lb (1 : Int32) (0 : Int32) (2 : Int32) (1 : Int32)))]) G st965 rfl
  replace G := o_ifNo (q := 299) G X965.here hx (hb hby at_296) (by decide) rfl
  replace G := o_aload (q := 301) G X965.here hx (hb hby at_299) rfl rfl rfl
  have F968 := (F950.keep K949q)
  obtain ⟨T967, _, Lc967, X967, hQ967, G⟩ := o_vb (q := 304) (W := 0) (argsL := []) (rest := []) (y := (⟨o_n0, "isEmpty", "()Z"⟩ : MethodName)) G X965 hx hZ hown (by rw [hml]; rfl) ⟨(o_w hw 60 rfl), (o_w hw 61 rfl), (o_w hw 63 rfl), (o_w hw 62 rfl), (o_w hw 64 rfl), (o_w hw 3 rfl)⟩ (by decide) e965 F968 (rm11 l Z a0 hw [] b778 T949.heap n0 Z949 B949_3) (lenOf pd_5 rfl) rfl (Nat.le_of_eq rfl) (hb hby at_301) rfl (by decide) (by decide) (by decide) (by decide)
  obtain ⟨rfl, N967q, e967⟩ := hQ967
  have N967 := Fr.app N965 N967q
  replace G := o_re (st := [(.int 1)]) G rfl
  replace G := o_ifNo (q := 307) G X967.here hx (hb hby at_304) (by decide) rfl
  replace G := o_iconst (q := 308) G X967.here hx (hb hby at_307) (v := (1 : Int32)) (by decide) rfl
  replace G := o_goto (q := 312) G X967.here hx (hb hby at_308) (by decide) (by decide)
  obtain ⟨fs, hr, hrun, hended, hW, hsame⟩ := X967.leave (v := some (.int 1)) (fun h => by rw [Bd.returns] at h; cases h)
  refine ⟨_, _, G _ (retOut X967 hx Bd.returns rfl (Or.inl ⟨rfl, Or.inr (Or.inl rfl), _, rfl⟩) (hb hby at_312) hr), hrun, hended, _, _, rfl, ?_, ⟨_, rfl⟩, hW, hsame.mono (by decide) (by decide)⟩
  show Q0 Z i0 i1 h0 n0 _ T967.heap _
  rw [e967]
  exact ⟨rfl, N967⟩
  replace G := o_iload (q := 127) G X912.here hx (hb hby at_125) rfl rfl
  replace G := o_ifNo (q := 130) G X912.here hx (hb hby at_127) (by decide) rfl
  replace G := o_aload (q := 132) G X912.here hx (hb hby at_130) rfl rfl rfl
  have F972 := (F913.keep K912q)
  have F973 := (B905_0.keep K912q (ninS ne780 (ninS ne781 (ninS ne782 nin0))))
  have F974 := (B905_1.keep K912q (ninS ne780 (ninS ne781 (ninS ne782 nin0))))
  have F975 := (B905_2.keep K912q (ninS ne780 (ninS ne781 (ninS ne782 nin0))))
  have F976 := (B905_3.keep K912q (ninS ne780 (ninS ne781 (ninS ne782 nin0))))
  have F977 := (B905_4.keep K912q (ninS ne780 (ninS ne781 (ninS ne782 nin0))))
  obtain ⟨T971, _, Lc971, X971, hQ971, G⟩ := o_vb (q := 135) (W := 0) (argsL := []) (rest := []) (y := (⟨o_n0, "decay", "()V"⟩ : MethodName)) G X912 hx hZ hown (by rw [hml]; rfl) ⟨(o_w hw 41 rfl), (o_w hw 42 rfl), (o_w hw 44 rfl), (o_w hw 43 rfl), (o_w hw 45 rfl), (o_w hw 3 rfl)⟩ (by decide) rfl F972 (rm7 l Z a0 hw [] b778 va_779 vh_779 vx_779 o_d1 o_d2 (3 : Int32) T912.heap n0 Z912 F972 F973 F974 F975 F976 F977 ge_b778 (by decide +kernel) (o_nan (by decide +kernel))) (lenOf pd_6 rfl) rfl (Nat.le_of_eq rfl) (hb hby at_132) rfl (by decide) (by decide) (by decide) (by decide)
  obtain ⟨rfl, N971q, K971q, B971_0, B971_1, B971_2, B971_3, B971_4⟩ := hQ971
  have Z971 : n0 ≤ T971.heap.size := Nat.le_trans Z912 K971q.1
  have N971 := Fr.app N912 N971q
  replace G := o_re (st := []) G rfl
  replace G := o_aload (q := 137) G X971.here hx (hb hby at_135) rfl rfl rfl
  replace G := o_iload (q := 139) G X971.here hx (hb hby at_137) rfl rfl
  have F979 := (F972.keep K971q)
  have F980 := (B912_0.keep K971q (ninS (Ne.symm ne780) nin0))
  have F981 := (B912_1.keep K971q (ninS (Ne.symm ne781) nin0))
  have F982 := (B912_2.keep K971q (ninS (Ne.symm ne782) nin0))
  obtain ⟨T978, _, Lc978, X978, hQ978, G⟩ := o_vb (q := 142) (W := 0) (argsL := [(.int 0)]) (rest := []) (y := (⟨o_n0, "bump", "(I)V"⟩ : MethodName)) G X971 hx hZ hown (by rw [hml]; rfl) ⟨(o_w hw 35 rfl), (o_w hw 36 rfl), (o_w hw 38 rfl), (o_w hw 37 rfl), (o_w hw 39 rfl), (o_w hw 3 rfl)⟩ (by decide) rfl F979 (rm6f1t l Z a0 hw [] b778 (0 : Int32) va_779 vh_779 vx_779 ka_779 kh_779 kx_779 (2 : Int32) (0 : Int32) (1 : Int32) [(.double 0), (.double o_d0), (.double o_d1)] [(.int 1), (.int 2), (.int 0)] [(.int 0), (.int 2), (.int 1)] o_d2 [(.double o_d2), (.double o_d0), (.double o_d1)] (0 : UInt64) o_d2 o_d1 o_d2 T971.heap n0 Z971 F979 B971_0 B971_1 B971_2 B971_4 F980 F981 F982 ge_va_779 ge_vh_779 ge_vx_779 ne780 ne781 ne782 B779_8 B779_9 B779_10 ⟨by decide, by decide⟩ ⟨by decide, by decide⟩ ⟨by decide, by decide⟩ rfl rfl rfl rfl (by decide +kernel) (o_nan (by decide +kernel)) (by decide +kernel) rfl rfl rfl rfl (by decide +kernel) rfl) (lenOf pd_1 rfl) rfl (Nat.le_of_eq rfl) (hb hby at_139) rfl (by decide) (by decide) (by decide) (by decide)
  obtain ⟨rfl, N978q, K978q, B978_0, B978_1, B978_2⟩ := hQ978
  have Z978 : n0 ≤ T978.heap.size := Nat.le_trans Z971 K978q.1
  have N978 := Fr.app N971 N978q
  replace G := o_re (st := []) G rfl
  replace G := o_iconst (q := 143) G X978.here hx (hb hby at_142) (v := (3 : Int32)) (by decide) rfl
  obtain ⟨T983, h983, k983, X983, e983, E983, A983, st983⟩ := newP X978 hx hZ (o_w hw 15 rfl) rfl (g := o_g G) rfl (hb hby at_143) rfl (by decide) (cap := 3) (by decide) (by decide) (by decide) (by decide)
  obtain ⟨b983, g983⟩ : ∃ z, z = T978.heap.size := ⟨_, rfl⟩
  rw [← g983] at A983 st983
  have ne984 : vx_779 ≠ b983 := Nat.ne_of_lt (Nat.lt_of_lt_of_le B978_2.lt (Nat.le_of_eq g983.symm))
  have ne985 : vh_779 ≠ b983 := Nat.ne_of_lt (Nat.lt_of_lt_of_le B978_1.lt (Nat.le_of_eq g983.symm))
  have ne986 : va_779 ≠ b983 := Nat.ne_of_lt (Nat.lt_of_lt_of_le B978_0.lt (Nat.le_of_eq g983.symm))
  have F987 := (B971_4.keep K978q (ninS ne780 (ninS ne781 (ninS ne782 nin0))))
  have ne988 : b778 ≠ b983 := Nat.ne_of_lt (Nat.lt_of_lt_of_le F987.lt (Nat.le_of_eq g983.symm))
  have ge_b983 : n0 ≤ b983 := Nat.le_trans Z978 (Nat.le_of_eq g983.symm)
  have Z983 : n0 ≤ h983.size := Nat.le_trans Z978 E983.1
  have V983 : Arv Z h983 b983 k983 .int 3 [(.int 0), (.int 0), (.int 0)] (.int 0) := (Arv.new A983 (by decide)).pad (pad_rep [] (.int 0) 3)
  replace G := o_nxs (q := 145) (st := [(.ref b983)]) G st983 rfl
  replace G := o_astore (q := 147) (l' := #[.val (.int i0), .val (.int i1), .val (.int 3), .val (.int 1), .val (.int 0), .val (.int 2), .val (.int 2), .val (.int 0), .val (.int 1), .val (.int 1), .val (.ref b778), .val (.ref b983), .unset, .unset, .unset, .unset]) G X983.here hx (hb hby at_145) rfl rfl rfl
  replace G := o_aload (q := 149) G X983.here hx (hb hby at_147) rfl rfl rfl
  replace G := o_iloadN (q := 150) G X983.here hx (hb hby at_149) rfl rfl
  replace G := o_iconst (q := 151) G X983.here hx (hb hby at_150) (v := (0 : Int32)) (by decide) rfl
  obtain ⟨c989, Ar989, q989, S989, N989', H989, G989'⟩ := id V983
  have hin989 : ¬ ((1 : Int32) < 0 ∨ c989.slots.size ≤ ((1 : Int32)).toNatClampNeg) := inb_of S989 ⟨by decide, by decide⟩
  obtain ⟨T989, h989, X989, e989, W989, st989⟩ := stI X983 hx hZ e983 Ar989 (j := (1 : Int32)) hin989 (g := o_g G) rfl rfl (hb hby at_151)
  have N989 := Fr.snoc X989 N978 ge_b983
  have Z989 : n0 ≤ h989.size := Nat.le_trans Z983 (Keep.of_wr W989).1
  have V989 : Arv Z h989 b983 k983 .int 3 [(.int 0), (.int 0), (.int 0)] (.int 0) := Arv.set Ar989 q989 S989 N989' H989 G989' rfl W989 1 rfl (Nat.le_of_ble_eq_true rfl)
  replace G := o_nxs (q := 152) (st := []) G st989 rfl
  replace G := o_aload (q := 154) G X989.here hx (hb hby at_152) rfl rfl rfl
  replace G := o_iload (q := 156) G X989.here hx (hb hby at_154) rfl rfl
  replace G := o_iload (q := 158) G X989.here hx (hb hby at_156) rfl rfl
  replace G := o_ifNo (q := 161) G X989.here hx (hb hby at_158) (by decide) rfl
  replace G := o_iconst (q := 162) G X989.here hx (hb hby at_161) (v := (1 : Int32)) (by decide) rfl
  replace G := o_goto (q := 166) G X989.here hx (hb hby at_162) (by decide) (by decide)
  obtain ⟨c991, Ar991, q991, S991, N991', H991, G991'⟩ := id V989
  have hin991 : ¬ ((2 : Int32) < 0 ∨ c991.slots.size ≤ ((2 : Int32)).toNatClampNeg) := inb_of S991 ⟨by decide, by decide⟩
  obtain ⟨T991, h991, X991, e991, W991, st991⟩ := stI X989 hx hZ e989 Ar991 (j := (2 : Int32)) hin991 (g := o_g G) rfl rfl (hb hby at_166)
  have N991 := Fr.snoc X991 N989 ge_b983
  have Z991 : n0 ≤ h991.size := Nat.le_trans Z989 (Keep.of_wr W991).1
  have V991 : Arv Z h991 b983 k983 .int 3 [(.int 0), (.int 0), (.int 1)] (.int 0) := Arv.set Ar991 q991 S991 N991' H991 G991' rfl W991 2 rfl (Nat.le_of_ble_eq_true rfl)
  replace G := o_nxs (q := 167) (st := []) G st991 rfl
  replace G := o_aload (q := 169) G X991.here hx (hb hby at_167) rfl rfl rfl
  replace G := o_iload (q := 171) G X991.here hx (hb hby at_169) rfl rfl
  replace G := o_aload (q := 173) G X991.here hx (hb hby at_171) rfl rfl rfl
  replace G := o_iload (q := 175) G X991.here hx (hb hby at_173) rfl rfl
  obtain ⟨c992, Ar992, -, S992, -, H992, -⟩ := id V991
  have hin992 : ¬ ((2 : Int32) < 0 ∨ c992.slots.size ≤ ((2 : Int32)).toNatClampNeg) := inb_of S992 ⟨by decide, by decide⟩
  replace G := o_nxs (q := 176) (st := [(.int 1), (.int 0), (.ref b983)]) G (X991.iaload hx (j := (2 : Int32)) (v := (.int 1)) (by rw [e991]; exact Ar992.1) (State.isArrayOf_alike hZ.alike Ar992.2.1) Ar992.2.2 hin992 (Has.at H992 hin992 rfl) (g := o_g G) rfl rfl (hb hby at_175)) rfl
  replace G := o_iload (q := 178) G X991.here hx (hb hby at_176) rfl rfl
  replace G := o_ifNo (q := 181) G X991.here hx (hb hby at_178) (by decide) rfl
  replace G := o_iconst (q := 182) G X991.here hx (hb hby at_181) (v := (1 : Int32)) (by decide) rfl
  replace G := o_goto (q := 186) G X991.here hx (hb hby at_182) (by decide) (by decide)
  replace G := o_iadd (q := 187) G X991.here hx (hb hby at_186) (by decide : ((1 : Int32) + (1 : Int32)) = (2 : Int32)) rfl
  obtain ⟨c994, Ar994, q994, S994, N994', H994, G994'⟩ := id V991
  have hin994 : ¬ ((0 : Int32) < 0 ∨ c994.slots.size ≤ ((0 : Int32)).toNatClampNeg) := inb_of S994 ⟨by decide, by decide⟩
  obtain ⟨T994, h994, X994, e994, W994, st994⟩ := stI X991 hx hZ e991 Ar994 (j := (0 : Int32)) hin994 (g := o_g G) rfl rfl (hb hby at_187)
  have N994 := Fr.snoc X994 N991 ge_b983
  have Z994 : n0 ≤ h994.size := Nat.le_trans Z991 (Keep.of_wr W994).1
  have V994 : Arv Z h994 b983 k983 .int 3 [(.int 2), (.int 0), (.int 1)] (.int 0) := Arv.set Ar994 q994 S994 N994' H994 G994' rfl W994 0 rfl (Nat.le_of_ble_eq_true rfl)
  replace G := o_nxs (q := 188) (st := []) G st994 rfl
  replace G := o_aload (q := 190) G X994.here hx (hb hby at_188) rfl rfl rfl
  have F996 := (((((F979.keep K978q).ext E983).wr W989).wr W991).wr W994)
  have F997 := (((((B971_0.keep K978q (ninS ne780 (ninS ne781 (ninS ne782 nin0)))).ext E983).other W989 (Or.inl ne988)).other W991 (Or.inl ne988)).other W994 (Or.inl ne988))
  have F998 := (((((B971_1.keep K978q (ninS ne780 (ninS ne781 (ninS ne782 nin0)))).ext E983).other W989 (Or.inl ne988)).other W991 (Or.inl ne988)).other W994 (Or.inl ne988))
  have F999 := (((((B971_2.keep K978q (ninS ne780 (ninS ne781 (ninS ne782 nin0)))).ext E983).other W989 (Or.inl ne988)).other W991 (Or.inl ne988)).other W994 (Or.inl ne988))
  have F1000 := (((((B971_3.keep K978q (ninS ne780 (ninS ne781 (ninS ne782 nin0)))).ext E983).other W989 (Or.inl ne988)).other W991 (Or.inl ne988)).other W994 (Or.inl ne988))
  have F1001 := ((((F987.ext E983).other W989 (Or.inl ne988)).other W991 (Or.inl ne988)).other W994 (Or.inl ne988))
  have F1002 := ((((B978_0.ext E983).other W989 ne986).other W991 ne986).other W994 ne986)
  have F1003 := ((((B978_1.ext E983).other W989 ne985).other W991 ne985).other W994 ne985)
  have F1004 := ((((B978_2.ext E983).other W989 ne984).other W991 ne984).other W994 ne984)
  obtain ⟨T995, _, Lc995, X995, hQ995, G⟩ := o_vb (q := 193) (W := 0) (argsL := []) (rest := []) (y := (⟨o_n0, "takeFirst", "()I"⟩ : MethodName)) G X994 hx hZ hown (by rw [hml]; rfl) ⟨(o_w hw 47 rfl), (o_w hw 48 rfl), (o_w hw 50 rfl), (o_w hw 49 rfl), (o_w hw 51 rfl), (o_w hw 3 rfl)⟩ (by decide) e994 F996 (rm8n3t l Z a0 hw [] b778 va_779 vh_779 vx_779 ka_779 kh_779 kx_779 (0 : Int32) (2 : Int32) (1 : Int32) [(.double o_d2), (.double o_d0), (.double o_d1)] [(.int 0), (.int 2), (.int 1)] [(.int (-1)), (.int 1), (.int 0)] o_d2 o_d0 o_d1 h994 n0 Z994 F996 F997 F998 F999 F1000 F1001 F1002 F1003 F1004 ge_b778 ge_vh_779 ge_vx_779 ne780 ne781 ne782 B779_8 B779_9 B779_10 ⟨by decide, by decide⟩ ⟨by decide, by decide⟩ ⟨by decide, by decide⟩ rfl rfl rfl (by decide +kernel) rfl) (lenOf pd_3 rfl) rfl (Nat.le_of_eq rfl) (hb hby at_190) rfl (by decide) (by decide) (by decide) (by decide)
  obtain ⟨rfl, N995q, K995q, B995_0, B995_1, B995_2, B995_3, B995_4, B995_5, B995_6⟩ := hQ995
  have Z995 : n0 ≤ T995.heap.size := Nat.le_trans Z994 K995q.1
  have N995 := Fr.app N994 N995q
  replace G := o_re (st := [(.int 0)]) G rfl
  replace G := o_istore (q := 195) (l' := #[.val (.int i0), .val (.int i1), .val (.int 3), .val (.int 1), .val (.int 0), .val (.int 2), .val (.int 2), .val (.int 0), .val (.int 1), .val (.int 1), .val (.ref b778), .val (.ref b983), .val (.int 0), .unset, .unset, .unset]) G X995.here hx (hb hby at_193) rfl rfl
  replace G := o_aload (q := 197) G X995.here hx (hb hby at_195) rfl rfl rfl
  have F1006 := (F996.keep K995q)
  have F1007 := (F1002.keep K995q (ninS (Ne.symm ne780) (ninS B779_8 (ninS B779_9 nin0))))
  obtain ⟨T1005, _, Lc1005, X1005, hQ1005, G⟩ := o_vb (q := 200) (W := 0) (argsL := []) (rest := []) (y := (⟨o_n0, "takeFirst", "()I"⟩ : MethodName)) G X995 hx hZ hown (by rw [hml]; rfl) ⟨(o_w hw 47 rfl), (o_w hw 48 rfl), (o_w hw 50 rfl), (o_w hw 49 rfl), (o_w hw 51 rfl), (o_w hw 3 rfl)⟩ (by decide) rfl F1006 (rm8n2 l Z a0 hw [] b778 va_779 vh_779 vx_779 ka_779 kh_779 kx_779 (2 : Int32) (1 : Int32) (1 : Int32) [(.double o_d2), (.double o_d0), (.double o_d1)] [(.int (-1)), (.int 1), (.int 0)] [(.int (-1)), (.int 0), (.int (-1))] o_d2 T995.heap n0 Z995 F1006 B995_0 B995_1 B995_2 B995_3 B995_4 F1007 B995_5 B995_6 ge_b778 ge_vh_779 ge_vx_779 ne780 ne781 ne782 B779_8 B779_9 B779_10 ⟨by decide, by decide⟩ ⟨by decide, by decide⟩ rfl rfl) (lenOf pd_3 rfl) rfl (Nat.le_of_eq rfl) (hb hby at_197) rfl (by decide) (by decide) (by decide) (by decide)
  obtain ⟨rfl, N1005q, K1005q, B1005_0, B1005_1, B1005_2, B1005_3, B1005_4, B1005_5, B1005_6⟩ := hQ1005
  have Z1005 : n0 ≤ T1005.heap.size := Nat.le_trans Z995 K1005q.1
  have N1005 := Fr.app N995 N1005q
  replace G := o_re (st := [(.int 2)]) G rfl
  replace G := o_istore (q := 202) (l' := #[.val (.int i0), .val (.int i1), .val (.int 3), .val (.int 1), .val (.int 0), .val (.int 2), .val (.int 2), .val (.int 0), .val (.int 1), .val (.int 1), .val (.ref b778), .val (.ref b983), .val (.int 0), .val (.int 2), .unset, .unset]) G X1005.here hx (hb hby at_200) rfl rfl
  replace G := o_aload (q := 204) G X1005.here hx (hb hby at_202) rfl rfl rfl
  have F1009 := (F1006.keep K1005q)
  have F1010 := (F1007.keep K1005q (ninS (Ne.symm ne780) (ninS B779_8 (ninS B779_9 nin0))))
  obtain ⟨T1008, _, Lc1008, X1008, hQ1008, G⟩ := o_vb (q := 207) (W := 0) (argsL := []) (rest := []) (y := (⟨o_n0, "takeFirst", "()I"⟩ : MethodName)) G X1005 hx hZ hown (by rw [hml]; rfl) ⟨(o_w hw 47 rfl), (o_w hw 48 rfl), (o_w hw 50 rfl), (o_w hw 49 rfl), (o_w hw 51 rfl), (o_w hw 3 rfl)⟩ (by decide) rfl F1009 (rm8n1 l Z a0 hw [] b778 va_779 vh_779 vx_779 ka_779 kh_779 kx_779 (1 : Int32) (1 : Int32) (1 : Int32) [(.double o_d2), (.double o_d0), (.double o_d1)] [(.int (-1)), (.int 0), (.int (-1))] [(.int (-1)), (.int (-1)), (.int (-1))] o_d2 T1005.heap n0 Z1005 F1009 B1005_0 B1005_1 B1005_2 B1005_3 B1005_4 F1010 B1005_5 B1005_6 ge_b778 ge_vh_779 ge_vx_779 ne780 ne781 ne782 B779_8 B779_9 B779_10 ⟨by decide, by decide⟩ rfl rfl) (lenOf pd_3 rfl) rfl (Nat.le_of_eq rfl) (hb hby at_204) rfl (by decide) (by decide) (by decide) (by decide)
  obtain ⟨rfl, N1008q, K1008q, B1008_0, B1008_1, B1008_2, B1008_3, B1008_4, B1008_5, B1008_6⟩ := hQ1008
  have Z1008 : n0 ≤ T1008.heap.size := Nat.le_trans Z1005 K1008q.1
  have N1008 := Fr.app N1005 N1008q
  replace G := o_re (st := [(.int 1)]) G rfl
  replace G := o_istore (q := 209) (l' := #[.val (.int i0), .val (.int i1), .val (.int 3), .val (.int 1), .val (.int 0), .val (.int 2), .val (.int 2), .val (.int 0), .val (.int 1), .val (.int 1), .val (.ref b778), .val (.ref b983), .val (.int 0), .val (.int 2), .val (.int 1), .unset]) G X1008.here hx (hb hby at_207) rfl rfl
  replace G := o_iload (q := 211) G X1008.here hx (hb hby at_209) rfl rfl
  replace G := o_ifNo (q := 214) G X1008.here hx (hb hby at_211) (by decide) rfl
  replace G := o_iload (q := 216) G X1008.here hx (hb hby at_214) rfl rfl
  replace G := o_iconst (q := 217) G X1008.here hx (hb hby at_216) (v := (3 : Int32)) (by decide) rfl
  replace G := o_icmpNo (q := 220) G X1008.here hx (hb hby at_217) (by decide) rfl
  replace G := o_iload (q := 222) G X1008.here hx (hb hby at_220) rfl rfl
  replace G := o_ifNo (q := 225) G X1008.here hx (hb hby at_222) (by decide) rfl
  replace G := o_iload (q := 227) G X1008.here hx (hb hby at_225) rfl rfl
  replace G := o_iconst (q := 228) G X1008.here hx (hb hby at_227) (v := (3 : Int32)) (by decide) rfl
  replace G := o_icmpNo (q := 231) G X1008.here hx (hb hby at_228) (by decide) rfl
  replace G := o_iload (q := 233) G X1008.here hx (hb hby at_231) rfl rfl
  replace G := o_ifNo (q := 236) G X1008.here hx (hb hby at_233) (by decide) rfl
  replace G := o_iload (q := 238) G X1008.here hx (hb hby at_236) rfl rfl
  replace G := o_iconst (q := 239) G X1008.here hx (hb hby at_238) (v := (3 : Int32)) (by decide) rfl
  replace G := o_icmpNo (q := 242) G X1008.here hx (hb hby at_239) (by decide) rfl
  replace G := o_iload (q := 244) G X1008.here hx (hb hby at_242) rfl rfl
  replace G := o_iload (q := 246) G X1008.here hx (hb hby at_244) rfl rfl
  replace G := o_icmpNo (q := 249) G X1008.here hx (hb hby at_246) (by decide) rfl
  replace G := o_iload (q := 251) G X1008.here hx (hb hby at_249) rfl rfl
  replace G := o_iload (q := 253) G X1008.here hx (hb hby at_251) rfl rfl
  replace G := o_icmpNo (q := 256) G X1008.here hx (hb hby at_253) (by decide) rfl
  replace G := o_iload (q := 258) G X1008.here hx (hb hby at_256) rfl rfl
  replace G := o_iload (q := 260) G X1008.here hx (hb hby at_258) rfl rfl
  replace G := o_icmpNo (q := 263) G X1008.here hx (hb hby at_260) (by decide) rfl
  replace G := o_iconst (q := 264) G X1008.here hx (hb hby at_263) (v := (1 : Int32)) (by decide) rfl
  replace G := o_goto (q := 268) G X1008.here hx (hb hby at_264) (by decide) (by decide)
  replace G := o_istore (q := 270) (l' := #[.val (.int i0), .val (.int i1), .val (.int 3), .val (.int 1), .val (.int 0), .val (.int 2), .val (.int 2), .val (.int 0), .val (.int 1), .val (.int 1), .val (.ref b778), .val (.ref b983), .val (.int 0), .val (.int 2), .val (.int 1), .val (.int 1)]) G X1008.here hx (hb hby at_268) rfl rfl
  replace G := o_iload (q := 272) G X1008.here hx (hb hby at_270) rfl rfl
  replace G := o_ifNo (q := 275) G X1008.here hx (hb hby at_272) (by decide) rfl
  replace G := o_aload (q := 277) G X1008.here hx (hb hby at_275) rfl rfl rfl
  replace G := o_iload (q := 279) G X1008.here hx (hb hby at_277) rfl rfl
  replace G := o_iload (q := 281) G X1008.here hx (hb hby at_279) rfl rfl
  have F1022 := (((V994.keep K995q (ninS (Ne.symm ne988) (ninS (Ne.symm ne985) (ninS (Ne.symm ne984) nin0)))).keep K1005q (ninS (Ne.symm ne988) (ninS (Ne.symm ne985) (ninS (Ne.symm ne984) nin0)))).keep K1008q (ninS (Ne.symm ne988) (ninS (Ne.symm ne985) (ninS (Ne.symm ne984) nin0))))
  obtain ⟨_, _, ⟨T1021, L1021, kk1021, nn1021⟩, -, X1021, ⟨Lc1021, hQ1021, l1021, y1021, z1021⟩, st1021⟩ := Jvm.LawKit.callS X1008 hx (y := (⟨o_n1, "before", "([III)Z"⟩ : MethodName)) hown (mvT hZ (o_w hw 56 rfl)) (mvT hZ (o_w hw 57 rfl)) (mvT hZ (o_w hw 58 rfl)) (mvT hZ (o_w hw 59 rfl)) (by decide) (backOf (W := 0) (rm10 l Z a0 hw [] b983 (0 : Int32) (2 : Int32) k983 [(.int 2), (.int 0), (.int 1)] (2 : Int32) (1 : Int32) T1008.heap n0 Z1008 F1022 ⟨by decide, by decide⟩ ⟨by decide, by decide⟩ rfl rfl) hZ (o_w hw 59 rfl) (o_w hw 58 rfl) (by decide) (by decide)) (g := o_g G) rfl (by rw [hml]; rfl) (argsL := [(.ref b983), (.int 0), (.int 2)]) (rest := []) (lenOf pd_4 rfl) rfl (by show 2 * 0 + _ ≤ _; exact Nat.le_of_eq rfl) (hb hby at_281) (fun _ _ => ⟨rfl, rfl, (by decide : 5 + 0 ≤ _), (by decide : 17 + 0 ≤ _)⟩)
  dsimp only [Pt.U, Pt.locs, Pt.cells, Pt.slots] at X1021 l1021 y1021 z1021 st1021 hQ1021
  subst l1021 y1021 z1021
  obtain ⟨rfl, N1021q, e1021⟩ := hQ1021
  have N1021 := Fr.app N1008 N1021q
  replace G := o_nxs (q := 284) (st := [(.int (o_lb (2 : Int32) (1 : Int32) (0 : Int32) (2 : Int32)))]) G st1021 rfl
  replace G := o_ifNo (q := 287) G X1021.here hx (hb hby at_284) (by decide) rfl
  replace G := o_aload (q := 289) G X1021.here hx (hb hby at_287) rfl rfl rfl
  replace G := o_iload (q := 291) G X1021.here hx (hb hby at_289) rfl rfl
  replace G := o_iload (q := 293) G X1021.here hx (hb hby at_291) rfl rfl
  obtain ⟨_, _, ⟨T1024, L1024, kk1024, nn1024⟩, -, X1024, ⟨Lc1024, hQ1024, l1024, y1024, z1024⟩, st1024⟩ := Jvm.LawKit.callS X1021 hx (y := (⟨o_n1, "before", "([III)Z"⟩ : MethodName)) hown (mvT hZ (o_w hw 56 rfl)) (mvT hZ (o_w hw 57 rfl)) (mvT hZ (o_w hw 58 rfl)) (mvT hZ (o_w hw 59 rfl)) (by decide) (backOf (W := 0) (rm10 l Z a0 hw [] b983 (2 : Int32) (1 : Int32) k983 [(.int 2), (.int 0), (.int 1)] (1 : Int32) (0 : Int32) T1008.heap n0 Z1008 F1022 ⟨by decide, by decide⟩ ⟨by decide, by decide⟩ rfl rfl) hZ (o_w hw 59 rfl) (o_w hw 58 rfl) (by decide) (by decide)) (g := o_g G) rfl (by rw [hml]; rfl) (argsL := [(.ref b983), (.int 2), (.int 1)]) (rest := []) (lenOf pd_4 rfl) rfl (by show 2 * 0 + _ ≤ _; exact Nat.le_of_eq rfl) (hb hby at_293) (fun _ _ => ⟨rfl, e1021, (by decide : 5 + 0 ≤ _), (by decide : 17 + 0 ≤ _)⟩)
  dsimp only [Pt.U, Pt.locs, Pt.cells, Pt.slots] at X1024 l1024 y1024 z1024 st1024 hQ1024
  subst l1024 y1024 z1024
  obtain ⟨rfl, N1024q, e1024⟩ := hQ1024
  have N1024 := Fr.app N1021 N1024q
  replace G := o_nxs (q := 296) (st := [(.int (o_lb (1 : Int32) (0 : Int32) (2 : Int32) (1 : Int32)))]) G st1024 rfl
  replace G := o_ifNo (q := 299) G X1024.here hx (hb hby at_296) (by decide) rfl
  replace G := o_aload (q := 301) G X1024.here hx (hb hby at_299) rfl rfl rfl
  have F1027 := (F1009.keep K1008q)
  obtain ⟨T1026, _, Lc1026, X1026, hQ1026, G⟩ := o_vb (q := 304) (W := 0) (argsL := []) (rest := []) (y := (⟨o_n0, "isEmpty", "()Z"⟩ : MethodName)) G X1024 hx hZ hown (by rw [hml]; rfl) ⟨(o_w hw 60 rfl), (o_w hw 61 rfl), (o_w hw 63 rfl), (o_w hw 62 rfl), (o_w hw 64 rfl), (o_w hw 3 rfl)⟩ (by decide) e1024 F1027 (rm11 l Z a0 hw [] b778 T1008.heap n0 Z1008 B1008_3) (lenOf pd_5 rfl) rfl (Nat.le_of_eq rfl) (hb hby at_301) rfl (by decide) (by decide) (by decide) (by decide)
  obtain ⟨rfl, N1026q, e1026⟩ := hQ1026
  have N1026 := Fr.app N1024 N1026q
  replace G := o_re (st := [(.int 1)]) G rfl
  replace G := o_ifNo (q := 307) G X1026.here hx (hb hby at_304) (by decide) rfl
  replace G := o_iconst (q := 308) G X1026.here hx (hb hby at_307) (v := (1 : Int32)) (by decide) rfl
  replace G := o_goto (q := 312) G X1026.here hx (hb hby at_308) (by decide) (by decide)
  obtain ⟨fs, hr, hrun, hended, hW, hsame⟩ := X1026.leave (v := some (.int 1)) (fun h => by rw [Bd.returns] at h; cases h)
  refine ⟨_, _, G _ (retOut X1026 hx Bd.returns rfl (Or.inl ⟨rfl, Or.inr (Or.inl rfl), _, rfl⟩) (hb hby at_312) hr), hrun, hended, _, _, rfl, ?_, ⟨_, rfl⟩, hW, hsame.mono (by decide) (by decide)⟩
  show Q0 Z i0 i1 h0 n0 _ T1026.heap _
  rw [e1026]
  exact ⟨rfl, N1026⟩
  replace G := o_istoreN (q := 8) (l' := #[.val (.int i0), .val (.int i1), .val (.int 4), .unset, .unset, .unset, .unset, .unset, .unset, .unset, .unset, .unset, .unset, .unset, .unset, .unset]) G X0.here hx (hb hby at_7) rfl rfl
  replace G := o_iloadN (q := 9) G X0.here hx (hb hby at_8) rfl rfl
  replace G := o_iconst (q := 10) G X0.here hx (hb hby at_9) (v := (2 : Int32)) (by decide) rfl
  replace G := o_idiv (q := 11) G X0.here hx (hb hby at_10) (by decide) (by decide : ((4 : Int32) / (2 : Int32)) = (2 : Int32)) rfl
  replace G := o_istoreN (q := 12) (l' := #[.val (.int i0), .val (.int i1), .val (.int 4), .val (.int 2), .unset, .unset, .unset, .unset, .unset, .unset, .unset, .unset, .unset, .unset, .unset, .unset]) G X0.here hx (hb hby at_11) rfl rfl
  replace G := o_iloadN (q := 13) G X0.here hx (hb hby at_12) rfl rfl
  replace G := o_ifYes (q := 20) G X0.here hx (hb hby at_13) (by decide) (by decide) (by decide)
  replace G := o_iconst (q := 21) G X0.here hx (hb hby at_20) (v := (0 : Int32)) (by decide) rfl
  replace G := o_istore (q := 23) (l' := #[.val (.int i0), .val (.int i1), .val (.int 4), .val (.int 2), .val (.int 0), .unset, .unset, .unset, .unset, .unset, .unset, .unset, .unset, .unset, .unset, .unset]) G X0.here hx (hb hby at_21) rfl rfl
  replace G := o_iloadN (q := 24) G X0.here hx (hb hby at_23) rfl rfl
  replace G := o_iconst (q := 25) G X0.here hx (hb hby at_24) (v := (2 : Int32)) (by decide) rfl
  replace G := o_icmpNo (q := 28) G X0.here hx (hb hby at_25) (by decide) rfl
  replace G := o_iconst (q := 29) G X0.here hx (hb hby at_28) (v := (1 : Int32)) (by decide) rfl
  replace G := o_goto (q := 33) G X0.here hx (hb hby at_29) (by decide) (by decide)
  replace G := o_istore (q := 35) (l' := #[.val (.int i0), .val (.int i1), .val (.int 4), .val (.int 2), .val (.int 0), .val (.int 1), .unset, .unset, .unset, .unset, .unset, .unset, .unset, .unset, .unset, .unset]) G X0.here hx (hb hby at_33) rfl rfl
  replace G := o_iloadN (q := 36) G X0.here hx (hb hby at_35) rfl rfl
  replace G := o_iconst (q := 37) G X0.here hx (hb hby at_36) (v := (1 : Int32)) (by decide) rfl
  replace G := o_iand (q := 38) G X0.here hx (hb hby at_37) (by decide : ((4 : Int32) &&& (1 : Int32)) = (0 : Int32)) rfl
  replace G := o_ifNo (q := 41) G X0.here hx (hb hby at_38) (by decide) rfl
  replace G := o_iload (q := 43) G X0.here hx (hb hby at_41) rfl rfl
  replace G := o_goto (q := 48) G X0.here hx (hb hby at_43) (by decide) (by decide)
  replace G := o_istore (q := 50) (l' := #[.val (.int i0), .val (.int i1), .val (.int 4), .val (.int 2), .val (.int 0), .val (.int 1), .val (.int 0), .unset, .unset, .unset, .unset, .unset, .unset, .unset, .unset, .unset]) G X0.here hx (hb hby at_48) rfl rfl
  replace G := o_iloadN (q := 51) G X0.here hx (hb hby at_50) rfl rfl
  replace G := o_iconst (q := 52) G X0.here hx (hb hby at_51) (v := (1 : Int32)) (by decide) rfl
  replace G := o_iand (q := 53) G X0.here hx (hb hby at_52) (by decide : ((4 : Int32) &&& (1 : Int32)) = (0 : Int32)) rfl
  replace G := o_ifNo (q := 56) G X0.here hx (hb hby at_53) (by decide) rfl
  replace G := o_iload (q := 58) G X0.here hx (hb hby at_56) rfl rfl
  replace G := o_goto (q := 63) G X0.here hx (hb hby at_58) (by decide) (by decide)
  replace G := o_istore (q := 65) (l' := #[.val (.int i0), .val (.int i1), .val (.int 4), .val (.int 2), .val (.int 0), .val (.int 1), .val (.int 0), .val (.int 1), .unset, .unset, .unset, .unset, .unset, .unset, .unset, .unset]) G X0.here hx (hb hby at_63) rfl rfl
  replace G := o_iloadN (q := 66) G X0.here hx (hb hby at_65) rfl rfl
  replace G := o_iconst (q := 67) G X0.here hx (hb hby at_66) (v := (1 : Int32)) (by decide) rfl
  obtain ⟨m1, hn_m1⟩ : ∃ z : Int32, (i1 &&& (1 : Int32)) = z := ⟨_, rfl⟩
  replace G := o_iand (q := 68) G X0.here hx (hb hby at_67) hn_m1 rfl
  replace G : Gets p e below (s₁.setTop (entryFrame m #[(.int i0), (.int i1)] maxLocals)) (s₁.setTop (mkF m 76 #[.val (.int i0), .val (.int i1), .val (.int 4), .val (.int 2), .val (.int 0), .val (.int 1), .val (.int 0), .val (.int 1), .unset, .unset, .unset, .unset, .unset, .unset, .unset, .unset] [(.int (if m1 = (0 : Int32) then (0 : Int32) else (1 : Int32)))])) := by
    by_cases hc68_1033 : m1 = (0 : Int32)
    · replace G := o_ifYes (q := 75) G X0.here hx (hb hby at_68) ((if0 _ _).trans (teq hc68_1033).1) (by decide) (by decide)
      replace G := o_iconst (q := 76) G X0.here hx (hb hby at_75) (v := (0 : Int32)) (by decide) rfl
      simp only [if_pos hc68_1033]
      exact G
    · replace G := o_ifNo (q := 71) G X0.here hx (hb hby at_68) ((if0 _ _).trans (feq hc68_1033).1) rfl
      replace G := o_iconst (q := 72) G X0.here hx (hb hby at_71) (v := (1 : Int32)) (by decide) rfl
      replace G := o_goto (q := 76) G X0.here hx (hb hby at_72) (by decide) (by decide)
      simp only [if_neg hc68_1033]
      exact G
  obtain ⟨w1, hn_w1⟩ : ∃ z : Int32, (if m1 = (0 : Int32) then (0 : Int32) else (1 : Int32)) = z := ⟨_, rfl⟩
  rw [hn_w1] at G
  replace G := o_istore (q := 78) (l' := #[.val (.int i0), .val (.int i1), .val (.int 4), .val (.int 2), .val (.int 0), .val (.int 1), .val (.int 0), .val (.int 1), .val (.int w1), .unset, .unset, .unset, .unset, .unset, .unset, .unset]) G X0.here hx (hb hby at_76) rfl rfl
  replace G := o_iloadN (q := 79) G X0.here hx (hb hby at_78) rfl rfl
  replace G := o_iconst (q := 80) G X0.here hx (hb hby at_79) (v := (2 : Int32)) (by decide) rfl
  obtain ⟨m2, hn_m2⟩ : ∃ z : Int32, (i1 &&& (2 : Int32)) = z := ⟨_, rfl⟩
  replace G := o_iand (q := 81) G X0.here hx (hb hby at_80) hn_m2 rfl
  replace G : Gets p e below (s₁.setTop (entryFrame m #[(.int i0), (.int i1)] maxLocals)) (s₁.setTop (mkF m 89 #[.val (.int i0), .val (.int i1), .val (.int 4), .val (.int 2), .val (.int 0), .val (.int 1), .val (.int 0), .val (.int 1), .val (.int w1), .unset, .unset, .unset, .unset, .unset, .unset, .unset] [(.int (if m2 = (0 : Int32) then (0 : Int32) else (1 : Int32)))])) := by
    by_cases hc81_1034 : m2 = (0 : Int32)
    · replace G := o_ifYes (q := 88) G X0.here hx (hb hby at_81) ((if0 _ _).trans (teq hc81_1034).1) (by decide) (by decide)
      replace G := o_iconst (q := 89) G X0.here hx (hb hby at_88) (v := (0 : Int32)) (by decide) rfl
      simp only [if_pos hc81_1034]
      exact G
    · replace G := o_ifNo (q := 84) G X0.here hx (hb hby at_81) ((if0 _ _).trans (feq hc81_1034).1) rfl
      replace G := o_iconst (q := 85) G X0.here hx (hb hby at_84) (v := (1 : Int32)) (by decide) rfl
      replace G := o_goto (q := 89) G X0.here hx (hb hby at_85) (by decide) (by decide)
      simp only [if_neg hc81_1034]
      exact G
  obtain ⟨w2, hn_w2⟩ : ∃ z : Int32, (if m2 = (0 : Int32) then (0 : Int32) else (1 : Int32)) = z := ⟨_, rfl⟩
  rw [hn_w2] at G
  replace G := o_istore (q := 91) (l' := #[.val (.int i0), .val (.int i1), .val (.int 4), .val (.int 2), .val (.int 0), .val (.int 1), .val (.int 0), .val (.int 1), .val (.int w1), .val (.int w2), .unset, .unset, .unset, .unset, .unset, .unset]) G X0.here hx (hb hby at_89) rfl rfl
  obtain ⟨T1035, h1035, X1035, e1035, E1035, A1035, D1035, -, st1035⟩ := newO X0 hx hZ hown (o_w hw 1 rfl) (o_w hw 2 rfl) (o_w hw 3 rfl) e0 (g := o_g G) rfl (hb hby at_91) (by decide) (by decide)
  obtain ⟨b1035, g1035⟩ : ∃ z, z = h0.size := ⟨_, rfl⟩
  rw [← g1035] at A1035 D1035 st1035
  have ge_b1035 : n0 ≤ b1035 := Nat.le_trans Z0 (Nat.le_of_eq g1035.symm)
  have Z1035 : n0 ≤ h1035.size := Nat.le_trans Z0 E1035.1
  have F1035_bump : Fld Z h1035 b1035 o_n0 "bump" "D" (.double 0) := D1035 (Or.inl (o_w hw 11 rfl)) (ty := .double) (by decide)
  have F1035_activity : Fld Z h1035 b1035 o_n0 "activity" "[D" .null := D1035 (Or.inr (o_w hw 14 rfl)) (ty := (.array .double)) (by decide)
  have F1035_heap : Fld Z h1035 b1035 o_n0 "heap" "[I" .null := D1035 (Or.inr (o_w hw 17 rfl)) (ty := (.array .int)) (by decide)
  have F1035_heapIndex : Fld Z h1035 b1035 o_n0 "heapIndex" "[I" .null := D1035 (Or.inr (o_w hw 19 rfl)) (ty := (.array .int)) (by decide)
  have F1035_heapSize : Fld Z h1035 b1035 o_n0 "heapSize" "I" (.int 0) := D1035 (Or.inl (o_w hw 26 rfl)) (ty := .int) (by decide)
  replace G := o_nxs (q := 94) (st := [(.ref b1035)]) G st1035 rfl
  replace G := o_dup (q := 95) G X1035.here hx (hb hby at_94) rfl rfl
  replace G := o_iconst (q := 96) G X1035.here hx (hb hby at_95) (v := (3 : Int32)) (by decide) rfl
  replace G := o_aconst_null (q := 97) G X1035.here hx (hb hby at_96) rfl
  obtain ⟨_, _, ⟨T1036, L1036, kk1036, nn1036⟩, -, X1036, ⟨Lc1036, hQ1036, l1036, y1036, z1036⟩, st1036⟩ := X1035.specialBack hx (y := (⟨o_n0, "<init>", "(ILcom/example/gridwright/gridwright/core/SplitMix64;)V"⟩ : MethodName)) rfl hown (mvT hZ (o_w hw 4 rfl)) (mvT hZ (o_w hw 5 rfl)) (mvT hZ (o_w hw 6 rfl)) (by decide) (backOf (W := 1) (rm1 l Z a0 hw [] b1035 h1035 n0 Z1035 A1035 F1035_activity F1035_heap F1035_heapIndex F1035_heapSize F1035_bump ge_b1035) hZ (o_w hw 6 rfl) (o_w hw 3 rfl) (by decide) (by decide)) (g := o_g G) rfl (by rw [hml]; rfl) (Steps.refl _) (a := b1035) (argsL := [(.int 3), .null]) (rest := [(.ref b1035)]) (lenOf pd_2 rfl) rfl (by show 2 * 0 + _ ≤ _; exact Nat.le_of_eq rfl) (hb hby at_97) (fun _ _ => ⟨rfl, e1035, (by decide : 1 + 3 ≤ _), (by decide : 5 + 9 ≤ _)⟩)
  dsimp only [Pt.U, Pt.locs, Pt.cells, Pt.slots] at X1036 l1036 y1036 z1036 st1036 hQ1036
  subst l1036 y1036 z1036
  obtain ⟨va_1036, vh_1036, vx_1036, ka_1036, kh_1036, kx_1036, rfl, N1036q, K1036q, B1036_0, B1036_1, B1036_2, B1036_3, B1036_4, B1036_5, B1036_6, B1036_7, B1036_8, B1036_9, B1036_10, B1036_11, B1036_12, B1036_13⟩ := hQ1036
  have ne1037 : b1035 ≠ va_1036 := Nat.ne_of_lt (Nat.lt_of_lt_of_le F1035_heapSize.lt B1036_5)
  have ge_va_1036 : n0 ≤ va_1036 := Nat.le_trans Z1035 B1036_5
  have ne1038 : b1035 ≠ vh_1036 := Nat.ne_of_lt (Nat.lt_of_lt_of_le F1035_heapSize.lt B1036_6)
  have ge_vh_1036 : n0 ≤ vh_1036 := Nat.le_trans Z1035 B1036_6
  have ne1039 : b1035 ≠ vx_1036 := Nat.ne_of_lt (Nat.lt_of_lt_of_le F1035_heapSize.lt B1036_7)
  have ge_vx_1036 : n0 ≤ vx_1036 := Nat.le_trans Z1035 B1036_7
  have Z1036 : n0 ≤ T1036.heap.size := Nat.le_trans Z1035 K1036q.1
  have N1036 := Fr.app N0 N1036q
  replace G := o_nxv (q := 100) (st := [(.ref b1035)]) G st1036 rfl
  replace G := o_astore (q := 102) (l' := #[.val (.int i0), .val (.int i1), .val (.int 4), .val (.int 2), .val (.int 0), .val (.int 1), .val (.int 0), .val (.int 1), .val (.int w1), .val (.int w2), .val (.ref b1035), .unset, .unset, .unset, .unset, .unset]) G X1036.here hx (hb hby at_100) rfl rfl rfl
  replace G := o_aload (q := 104) G X1036.here hx (hb hby at_102) rfl rfl rfl
  replace G := o_iloadN (q := 105) G X1036.here hx (hb hby at_104) rfl rfl
  have F1041 := (A1035.keep K1036q)
  obtain ⟨T1040, _, Lc1040, X1040, hQ1040, G⟩ := o_vb (q := 108) (W := 0) (argsL := [(.int 2)]) (rest := []) (y := (⟨o_n0, "bump", "(I)V"⟩ : MethodName)) G X1036 hx hZ hown (by rw [hml]; rfl) ⟨(o_w hw 35 rfl), (o_w hw 36 rfl), (o_w hw 38 rfl), (o_w hw 37 rfl), (o_w hw 39 rfl), (o_w hw 3 rfl)⟩ (by decide) rfl F1041 (rm6f2t l Z a0 hw [] b1035 (2 : Int32) va_1036 vh_1036 vx_1036 ka_1036 kh_1036 kx_1036 (0 : Int32) (1 : Int32) (2 : Int32) [(.double 0), (.double 0), (.double 0)] [(.int 0), (.int 1), (.int 2)] [(.int 2), (.int 1), (.int 0)] o_d0 [(.double 0), (.double 0), (.double o_d0)] (0 : UInt64) o_d0 (0 : UInt64) o_d0 T1036.heap n0 Z1036 F1041 B1036_0 B1036_1 B1036_2 B1036_4 B1036_11 B1036_12 B1036_13 ge_va_1036 ge_vh_1036 ge_vx_1036 ne1037 ne1038 ne1039 B1036_8 B1036_9 B1036_10 ⟨by decide, by decide⟩ ⟨by decide, by decide⟩ ⟨by decide, by decide⟩ rfl rfl rfl rfl (by decide +kernel) (o_nan (by decide +kernel)) (by decide +kernel) rfl rfl rfl rfl (by decide +kernel) rfl) (lenOf pd_1 rfl) rfl (Nat.le_of_eq rfl) (hb hby at_105) rfl (by decide) (by decide) (by decide) (by decide)
  obtain ⟨rfl, N1040q, K1040q, B1040_0, B1040_1, B1040_2⟩ := hQ1040
  have Z1040 : n0 ≤ T1040.heap.size := Nat.le_trans Z1036 K1040q.1
  have N1040 := Fr.app N1036 N1040q
  replace G := o_re (st := []) G rfl
  rcases o_01 hn_w1 with rfl | rfl
  replace G := o_iload (q := 110) G X1040.here hx (hb hby at_108) rfl rfl
  replace G := o_ifYes (q := 118) G X1040.here hx (hb hby at_110) (by decide) (by decide) (by decide)
  replace G := o_aload (q := 120) G X1040.here hx (hb hby at_118) rfl rfl rfl
  replace G := o_iload (q := 122) G X1040.here hx (hb hby at_120) rfl rfl
  have F1044 := (F1041.keep K1040q)
  have F1045 := (B1036_0.keep K1040q (ninS ne1037 (ninS ne1038 (ninS ne1039 nin0))))
  have F1046 := (B1036_1.keep K1040q (ninS ne1037 (ninS ne1038 (ninS ne1039 nin0))))
  have F1047 := (B1036_2.keep K1040q (ninS ne1037 (ninS ne1038 (ninS ne1039 nin0))))
  have F1048 := (B1036_4.keep K1040q (ninS ne1037 (ninS ne1038 (ninS ne1039 nin0))))
  obtain ⟨T1043, _, Lc1043, X1043, hQ1043, G⟩ := o_vb (q := 125) (W := 0) (argsL := [(.int 0)]) (rest := []) (y := (⟨o_n0, "bump", "(I)V"⟩ : MethodName)) G X1040 hx hZ hown (by rw [hml]; rfl) ⟨(o_w hw 35 rfl), (o_w hw 36 rfl), (o_w hw 38 rfl), (o_w hw 37 rfl), (o_w hw 39 rfl), (o_w hw 3 rfl)⟩ (by decide) rfl F1044 (rm6f2t l Z a0 hw [] b1035 (0 : Int32) va_1036 vh_1036 vx_1036 ka_1036 kh_1036 kx_1036 (2 : Int32) (1 : Int32) (0 : Int32) [(.double 0), (.double 0), (.double o_d0)] [(.int 2), (.int 1), (.int 0)] [(.int 0), (.int 1), (.int 2)] o_d0 [(.double o_d0), (.double 0), (.double o_d0)] (0 : UInt64) o_d0 o_d0 o_d0 T1040.heap n0 Z1040 F1044 F1045 F1046 F1047 F1048 B1040_0 B1040_1 B1040_2 ge_va_1036 ge_vh_1036 ge_vx_1036 ne1037 ne1038 ne1039 B1036_8 B1036_9 B1036_10 ⟨by decide, by decide⟩ ⟨by decide, by decide⟩ ⟨by decide, by decide⟩ rfl rfl rfl rfl (by decide +kernel) (o_nan (by decide +kernel)) (by decide +kernel) rfl rfl rfl rfl (by decide +kernel) rfl) (lenOf pd_1 rfl) rfl (Nat.le_of_eq rfl) (hb hby at_122) rfl (by decide) (by decide) (by decide) (by decide)
  obtain ⟨rfl, N1043q, K1043q, B1043_0, B1043_1, B1043_2⟩ := hQ1043
  have Z1043 : n0 ≤ T1043.heap.size := Nat.le_trans Z1040 K1043q.1
  have N1043 := Fr.app N1040 N1043q
  replace G := o_re (st := []) G rfl
  rcases o_01 hn_w2 with rfl | rfl
  replace G := o_iload (q := 127) G X1043.here hx (hb hby at_125) rfl rfl
  replace G := o_ifYes (q := 135) G X1043.here hx (hb hby at_127) (by decide) (by decide) (by decide)
  replace G := o_aload (q := 137) G X1043.here hx (hb hby at_135) rfl rfl rfl
  replace G := o_iload (q := 139) G X1043.here hx (hb hby at_137) rfl rfl
  have F1051 := (F1044.keep K1043q)
  have F1052 := (F1045.keep K1043q (ninS ne1037 (ninS ne1038 (ninS ne1039 nin0))))
  have F1053 := (F1046.keep K1043q (ninS ne1037 (ninS ne1038 (ninS ne1039 nin0))))
  have F1054 := (F1047.keep K1043q (ninS ne1037 (ninS ne1038 (ninS ne1039 nin0))))
  have F1055 := (F1048.keep K1043q (ninS ne1037 (ninS ne1038 (ninS ne1039 nin0))))
  obtain ⟨T1050, _, Lc1050, X1050, hQ1050, G⟩ := o_vb (q := 142) (W := 0) (argsL := [(.int 1)]) (rest := []) (y := (⟨o_n0, "bump", "(I)V"⟩ : MethodName)) G X1043 hx hZ hown (by rw [hml]; rfl) ⟨(o_w hw 35 rfl), (o_w hw 36 rfl), (o_w hw 38 rfl), (o_w hw 37 rfl), (o_w hw 39 rfl), (o_w hw 3 rfl)⟩ (by decide) rfl F1051 (rm6f1f l Z a0 hw [] b1035 (1 : Int32) va_1036 vh_1036 vx_1036 ka_1036 kh_1036 kx_1036 (0 : Int32) (1 : Int32) (2 : Int32) [(.double o_d0), (.double 0), (.double o_d0)] [(.int 0), (.int 1), (.int 2)] [(.int 0), (.int 1), (.int 2)] o_d0 [(.double o_d0), (.double o_d0), (.double o_d0)] (0 : UInt64) o_d0 o_d0 o_d0 T1043.heap n0 Z1043 F1051 F1052 F1053 F1054 F1055 B1043_0 B1043_1 B1043_2 ge_va_1036 ge_vh_1036 ge_vx_1036 ne1037 ne1038 ne1039 B1036_8 B1036_9 B1036_10 ⟨by decide, by decide⟩ ⟨by decide, by decide⟩ ⟨by decide, by decide⟩ rfl rfl rfl rfl (by decide +kernel) (o_nan (by decide +kernel)) (by decide +kernel) rfl rfl rfl rfl (by decide +kernel) rfl) (lenOf pd_1 rfl) rfl (Nat.le_of_eq rfl) (hb hby at_139) rfl (by decide) (by decide) (by decide) (by decide)
  obtain ⟨rfl, N1050q, K1050q, B1050_0, B1050_1, B1050_2⟩ := hQ1050
  have Z1050 : n0 ≤ T1050.heap.size := Nat.le_trans Z1043 K1050q.1
  have N1050 := Fr.app N1043 N1050q
  replace G := o_re (st := []) G rfl
  replace G := o_iconst (q := 143) G X1050.here hx (hb hby at_142) (v := (3 : Int32)) (by decide) rfl
  obtain ⟨T1056, h1056, k1056, X1056, e1056, E1056, A1056, st1056⟩ := newP X1050 hx hZ (o_w hw 15 rfl) rfl (g := o_g G) rfl (hb hby at_143) rfl (by decide) (cap := 3) (by decide) (by decide) (by decide) (by decide)
  obtain ⟨b1056, g1056⟩ : ∃ z, z = T1050.heap.size := ⟨_, rfl⟩
  rw [← g1056] at A1056 st1056
  have ne1057 : vx_1036 ≠ b1056 := Nat.ne_of_lt (Nat.lt_of_lt_of_le B1050_2.lt (Nat.le_of_eq g1056.symm))
  have ne1058 : vh_1036 ≠ b1056 := Nat.ne_of_lt (Nat.lt_of_lt_of_le B1050_1.lt (Nat.le_of_eq g1056.symm))
  have ne1059 : va_1036 ≠ b1056 := Nat.ne_of_lt (Nat.lt_of_lt_of_le B1050_0.lt (Nat.le_of_eq g1056.symm))
  have F1060 := (F1055.keep K1050q (ninS ne1037 (ninS ne1038 (ninS ne1039 nin0))))
  have ne1061 : b1035 ≠ b1056 := Nat.ne_of_lt (Nat.lt_of_lt_of_le F1060.lt (Nat.le_of_eq g1056.symm))
  have ge_b1056 : n0 ≤ b1056 := Nat.le_trans Z1050 (Nat.le_of_eq g1056.symm)
  have Z1056 : n0 ≤ h1056.size := Nat.le_trans Z1050 E1056.1
  have V1056 : Arv Z h1056 b1056 k1056 .int 3 [(.int 0), (.int 0), (.int 0)] (.int 0) := (Arv.new A1056 (by decide)).pad (pad_rep [] (.int 0) 3)
  replace G := o_nxs (q := 145) (st := [(.ref b1056)]) G st1056 rfl
  replace G := o_astore (q := 147) (l' := #[.val (.int i0), .val (.int i1), .val (.int 4), .val (.int 2), .val (.int 0), .val (.int 1), .val (.int 0), .val (.int 1), .val (.int 0), .val (.int 0), .val (.ref b1035), .val (.ref b1056), .unset, .unset, .unset, .unset]) G X1056.here hx (hb hby at_145) rfl rfl rfl
  replace G := o_aload (q := 149) G X1056.here hx (hb hby at_147) rfl rfl rfl
  replace G := o_iloadN (q := 150) G X1056.here hx (hb hby at_149) rfl rfl
  replace G := o_iconst (q := 151) G X1056.here hx (hb hby at_150) (v := (0 : Int32)) (by decide) rfl
  obtain ⟨c1062, Ar1062, q1062, S1062, N1062', H1062, G1062'⟩ := id V1056
  have hin1062 : ¬ ((2 : Int32) < 0 ∨ c1062.slots.size ≤ ((2 : Int32)).toNatClampNeg) := inb_of S1062 ⟨by decide, by decide⟩
  obtain ⟨T1062, h1062, X1062, e1062, W1062, st1062⟩ := stI X1056 hx hZ e1056 Ar1062 (j := (2 : Int32)) hin1062 (g := o_g G) rfl rfl (hb hby at_151)
  have N1062 := Fr.snoc X1062 N1050 ge_b1056
  have Z1062 : n0 ≤ h1062.size := Nat.le_trans Z1056 (Keep.of_wr W1062).1
  have V1062 : Arv Z h1062 b1056 k1056 .int 3 [(.int 0), (.int 0), (.int 0)] (.int 0) := Arv.set Ar1062 q1062 S1062 N1062' H1062 G1062' rfl W1062 2 rfl (Nat.le_of_ble_eq_true rfl)
  replace G := o_nxs (q := 152) (st := []) G st1062 rfl
  replace G := o_aload (q := 154) G X1062.here hx (hb hby at_152) rfl rfl rfl
  replace G := o_iload (q := 156) G X1062.here hx (hb hby at_154) rfl rfl
  replace G := o_iload (q := 158) G X1062.here hx (hb hby at_156) rfl rfl
  replace G := o_ifYes (q := 165) G X1062.here hx (hb hby at_158) (by decide) (by decide) (by decide)
  replace G := o_iconst (q := 166) G X1062.here hx (hb hby at_165) (v := (0 : Int32)) (by decide) rfl
  obtain ⟨c1064, Ar1064, q1064, S1064, N1064', H1064, G1064'⟩ := id V1062
  have hin1064 : ¬ ((0 : Int32) < 0 ∨ c1064.slots.size ≤ ((0 : Int32)).toNatClampNeg) := inb_of S1064 ⟨by decide, by decide⟩
  obtain ⟨T1064, h1064, X1064, e1064, W1064, st1064⟩ := stI X1062 hx hZ e1062 Ar1064 (j := (0 : Int32)) hin1064 (g := o_g G) rfl rfl (hb hby at_166)
  have N1064 := Fr.snoc X1064 N1062 ge_b1056
  have Z1064 : n0 ≤ h1064.size := Nat.le_trans Z1062 (Keep.of_wr W1064).1
  have V1064 : Arv Z h1064 b1056 k1056 .int 3 [(.int 0), (.int 0), (.int 0)] (.int 0) := Arv.set Ar1064 q1064 S1064 N1064' H1064 G1064' rfl W1064 0 rfl (Nat.le_of_ble_eq_true rfl)
  replace G := o_nxs (q := 167) (st := []) G st1064 rfl
  replace G := o_aload (q := 169) G X1064.here hx (hb hby at_167) rfl rfl rfl
  replace G := o_iload (q := 171) G X1064.here hx (hb hby at_169) rfl rfl
  replace G := o_aload (q := 173) G X1064.here hx (hb hby at_171) rfl rfl rfl
  replace G := o_iload (q := 175) G X1064.here hx (hb hby at_173) rfl rfl
  obtain ⟨c1065, Ar1065, -, S1065, -, H1065, -⟩ := id V1064
  have hin1065 : ¬ ((0 : Int32) < 0 ∨ c1065.slots.size ≤ ((0 : Int32)).toNatClampNeg) := inb_of S1065 ⟨by decide, by decide⟩
  replace G := o_nxs (q := 176) (st := [(.int 0), (.int 1), (.ref b1056)]) G (X1064.iaload hx (j := (0 : Int32)) (v := (.int 0)) (by rw [e1064]; exact Ar1065.1) (State.isArrayOf_alike hZ.alike Ar1065.2.1) Ar1065.2.2 hin1065 (Has.at H1065 hin1065 rfl) (g := o_g G) rfl rfl (hb hby at_175)) rfl
  replace G := o_iload (q := 178) G X1064.here hx (hb hby at_176) rfl rfl
  replace G := o_ifYes (q := 185) G X1064.here hx (hb hby at_178) (by decide) (by decide) (by decide)
  replace G := o_iconst (q := 186) G X1064.here hx (hb hby at_185) (v := (0 : Int32)) (by decide) rfl
  replace G := o_iadd (q := 187) G X1064.here hx (hb hby at_186) (by decide : ((0 : Int32) + (0 : Int32)) = (0 : Int32)) rfl
  obtain ⟨c1067, Ar1067, q1067, S1067, N1067', H1067, G1067'⟩ := id V1064
  have hin1067 : ¬ ((1 : Int32) < 0 ∨ c1067.slots.size ≤ ((1 : Int32)).toNatClampNeg) := inb_of S1067 ⟨by decide, by decide⟩
  obtain ⟨T1067, h1067, X1067, e1067, W1067, st1067⟩ := stI X1064 hx hZ e1064 Ar1067 (j := (1 : Int32)) hin1067 (g := o_g G) rfl rfl (hb hby at_187)
  have N1067 := Fr.snoc X1067 N1064 ge_b1056
  have Z1067 : n0 ≤ h1067.size := Nat.le_trans Z1064 (Keep.of_wr W1067).1
  have V1067 : Arv Z h1067 b1056 k1056 .int 3 [(.int 0), (.int 0), (.int 0)] (.int 0) := Arv.set Ar1067 q1067 S1067 N1067' H1067 G1067' rfl W1067 1 rfl (Nat.le_of_ble_eq_true rfl)
  replace G := o_nxs (q := 188) (st := []) G st1067 rfl
  replace G := o_aload (q := 190) G X1067.here hx (hb hby at_188) rfl rfl rfl
  have F1069 := (((((F1051.keep K1050q).ext E1056).wr W1062).wr W1064).wr W1067)
  have F1070 := (((((F1052.keep K1050q (ninS ne1037 (ninS ne1038 (ninS ne1039 nin0)))).ext E1056).other W1062 (Or.inl ne1061)).other W1064 (Or.inl ne1061)).other W1067 (Or.inl ne1061))
  have F1071 := (((((F1053.keep K1050q (ninS ne1037 (ninS ne1038 (ninS ne1039 nin0)))).ext E1056).other W1062 (Or.inl ne1061)).other W1064 (Or.inl ne1061)).other W1067 (Or.inl ne1061))
  have F1072 := (((((F1054.keep K1050q (ninS ne1037 (ninS ne1038 (ninS ne1039 nin0)))).ext E1056).other W1062 (Or.inl ne1061)).other W1064 (Or.inl ne1061)).other W1067 (Or.inl ne1061))
  have F1073 := (((((((B1036_3.keep K1040q (ninS ne1037 (ninS ne1038 (ninS ne1039 nin0)))).keep K1043q (ninS ne1037 (ninS ne1038 (ninS ne1039 nin0)))).keep K1050q (ninS ne1037 (ninS ne1038 (ninS ne1039 nin0)))).ext E1056).other W1062 (Or.inl ne1061)).other W1064 (Or.inl ne1061)).other W1067 (Or.inl ne1061))
  have F1074 := ((((F1060.ext E1056).other W1062 (Or.inl ne1061)).other W1064 (Or.inl ne1061)).other W1067 (Or.inl ne1061))
  have F1075 := ((((B1050_0.ext E1056).other W1062 ne1059).other W1064 ne1059).other W1067 ne1059)
  have F1076 := ((((B1050_1.ext E1056).other W1062 ne1058).other W1064 ne1058).other W1067 ne1058)
  have F1077 := ((((B1050_2.ext E1056).other W1062 ne1057).other W1064 ne1057).other W1067 ne1057)
  obtain ⟨T1068, _, Lc1068, X1068, hQ1068, G⟩ := o_vb (q := 193) (W := 0) (argsL := []) (rest := []) (y := (⟨o_n0, "takeFirst", "()I"⟩ : MethodName)) G X1067 hx hZ hown (by rw [hml]; rfl) ⟨(o_w hw 47 rfl), (o_w hw 48 rfl), (o_w hw 50 rfl), (o_w hw 49 rfl), (o_w hw 51 rfl), (o_w hw 3 rfl)⟩ (by decide) e1067 F1069 (rm8n3t l Z a0 hw [] b1035 va_1036 vh_1036 vx_1036 ka_1036 kh_1036 kx_1036 (0 : Int32) (1 : Int32) (2 : Int32) [(.double o_d0), (.double o_d0), (.double o_d0)] [(.int 0), (.int 1), (.int 2)] [(.int (-1)), (.int 0), (.int 1)] o_d0 o_d0 o_d0 h1067 n0 Z1067 F1069 F1070 F1071 F1072 F1073 F1074 F1075 F1076 F1077 ge_b1035 ge_vh_1036 ge_vx_1036 ne1037 ne1038 ne1039 B1036_8 B1036_9 B1036_10 ⟨by decide, by decide⟩ ⟨by decide, by decide⟩ ⟨by decide, by decide⟩ rfl rfl rfl (by decide +kernel) rfl) (lenOf pd_3 rfl) rfl (Nat.le_of_eq rfl) (hb hby at_190) rfl (by decide) (by decide) (by decide) (by decide)
  obtain ⟨rfl, N1068q, K1068q, B1068_0, B1068_1, B1068_2, B1068_3, B1068_4, B1068_5, B1068_6⟩ := hQ1068
  have Z1068 : n0 ≤ T1068.heap.size := Nat.le_trans Z1067 K1068q.1
  have N1068 := Fr.app N1067 N1068q
  replace G := o_re (st := [(.int 0)]) G rfl
  replace G := o_istore (q := 195) (l' := #[.val (.int i0), .val (.int i1), .val (.int 4), .val (.int 2), .val (.int 0), .val (.int 1), .val (.int 0), .val (.int 1), .val (.int 0), .val (.int 0), .val (.ref b1035), .val (.ref b1056), .val (.int 0), .unset, .unset, .unset]) G X1068.here hx (hb hby at_193) rfl rfl
  replace G := o_aload (q := 197) G X1068.here hx (hb hby at_195) rfl rfl rfl
  have F1079 := (F1069.keep K1068q)
  have F1080 := (F1075.keep K1068q (ninS (Ne.symm ne1037) (ninS B1036_8 (ninS B1036_9 nin0))))
  obtain ⟨T1078, _, Lc1078, X1078, hQ1078, G⟩ := o_vb (q := 200) (W := 0) (argsL := []) (rest := []) (y := (⟨o_n0, "takeFirst", "()I"⟩ : MethodName)) G X1068 hx hZ hown (by rw [hml]; rfl) ⟨(o_w hw 47 rfl), (o_w hw 48 rfl), (o_w hw 50 rfl), (o_w hw 49 rfl), (o_w hw 51 rfl), (o_w hw 3 rfl)⟩ (by decide) rfl F1079 (rm8n2 l Z a0 hw [] b1035 va_1036 vh_1036 vx_1036 ka_1036 kh_1036 kx_1036 (1 : Int32) (2 : Int32) (2 : Int32) [(.double o_d0), (.double o_d0), (.double o_d0)] [(.int (-1)), (.int 0), (.int 1)] [(.int (-1)), (.int (-1)), (.int 0)] o_d0 T1068.heap n0 Z1068 F1079 B1068_0 B1068_1 B1068_2 B1068_3 B1068_4 F1080 B1068_5 B1068_6 ge_b1035 ge_vh_1036 ge_vx_1036 ne1037 ne1038 ne1039 B1036_8 B1036_9 B1036_10 ⟨by decide, by decide⟩ ⟨by decide, by decide⟩ rfl rfl) (lenOf pd_3 rfl) rfl (Nat.le_of_eq rfl) (hb hby at_197) rfl (by decide) (by decide) (by decide) (by decide)
  obtain ⟨rfl, N1078q, K1078q, B1078_0, B1078_1, B1078_2, B1078_3, B1078_4, B1078_5, B1078_6⟩ := hQ1078
  have Z1078 : n0 ≤ T1078.heap.size := Nat.le_trans Z1068 K1078q.1
  have N1078 := Fr.app N1068 N1078q
  replace G := o_re (st := [(.int 1)]) G rfl
  replace G := o_istore (q := 202) (l' := #[.val (.int i0), .val (.int i1), .val (.int 4), .val (.int 2), .val (.int 0), .val (.int 1), .val (.int 0), .val (.int 1), .val (.int 0), .val (.int 0), .val (.ref b1035), .val (.ref b1056), .val (.int 0), .val (.int 1), .unset, .unset]) G X1078.here hx (hb hby at_200) rfl rfl
  replace G := o_aload (q := 204) G X1078.here hx (hb hby at_202) rfl rfl rfl
  have F1082 := (F1079.keep K1078q)
  have F1083 := (F1080.keep K1078q (ninS (Ne.symm ne1037) (ninS B1036_8 (ninS B1036_9 nin0))))
  obtain ⟨T1081, _, Lc1081, X1081, hQ1081, G⟩ := o_vb (q := 207) (W := 0) (argsL := []) (rest := []) (y := (⟨o_n0, "takeFirst", "()I"⟩ : MethodName)) G X1078 hx hZ hown (by rw [hml]; rfl) ⟨(o_w hw 47 rfl), (o_w hw 48 rfl), (o_w hw 50 rfl), (o_w hw 49 rfl), (o_w hw 51 rfl), (o_w hw 3 rfl)⟩ (by decide) rfl F1082 (rm8n1 l Z a0 hw [] b1035 va_1036 vh_1036 vx_1036 ka_1036 kh_1036 kx_1036 (2 : Int32) (2 : Int32) (2 : Int32) [(.double o_d0), (.double o_d0), (.double o_d0)] [(.int (-1)), (.int (-1)), (.int 0)] [(.int (-1)), (.int (-1)), (.int (-1))] o_d0 T1078.heap n0 Z1078 F1082 B1078_0 B1078_1 B1078_2 B1078_3 B1078_4 F1083 B1078_5 B1078_6 ge_b1035 ge_vh_1036 ge_vx_1036 ne1037 ne1038 ne1039 B1036_8 B1036_9 B1036_10 ⟨by decide, by decide⟩ rfl rfl) (lenOf pd_3 rfl) rfl (Nat.le_of_eq rfl) (hb hby at_204) rfl (by decide) (by decide) (by decide) (by decide)
  obtain ⟨rfl, N1081q, K1081q, B1081_0, B1081_1, B1081_2, B1081_3, B1081_4, B1081_5, B1081_6⟩ := hQ1081
  have Z1081 : n0 ≤ T1081.heap.size := Nat.le_trans Z1078 K1081q.1
  have N1081 := Fr.app N1078 N1081q
  replace G := o_re (st := [(.int 2)]) G rfl
  replace G := o_istore (q := 209) (l' := #[.val (.int i0), .val (.int i1), .val (.int 4), .val (.int 2), .val (.int 0), .val (.int 1), .val (.int 0), .val (.int 1), .val (.int 0), .val (.int 0), .val (.ref b1035), .val (.ref b1056), .val (.int 0), .val (.int 1), .val (.int 2), .unset]) G X1081.here hx (hb hby at_207) rfl rfl
  replace G := o_iload (q := 211) G X1081.here hx (hb hby at_209) rfl rfl
  replace G := o_ifNo (q := 214) G X1081.here hx (hb hby at_211) (by decide) rfl
  replace G := o_iload (q := 216) G X1081.here hx (hb hby at_214) rfl rfl
  replace G := o_iconst (q := 217) G X1081.here hx (hb hby at_216) (v := (3 : Int32)) (by decide) rfl
  replace G := o_icmpNo (q := 220) G X1081.here hx (hb hby at_217) (by decide) rfl
  replace G := o_iload (q := 222) G X1081.here hx (hb hby at_220) rfl rfl
  replace G := o_ifNo (q := 225) G X1081.here hx (hb hby at_222) (by decide) rfl
  replace G := o_iload (q := 227) G X1081.here hx (hb hby at_225) rfl rfl
  replace G := o_iconst (q := 228) G X1081.here hx (hb hby at_227) (v := (3 : Int32)) (by decide) rfl
  replace G := o_icmpNo (q := 231) G X1081.here hx (hb hby at_228) (by decide) rfl
  replace G := o_iload (q := 233) G X1081.here hx (hb hby at_231) rfl rfl
  replace G := o_ifNo (q := 236) G X1081.here hx (hb hby at_233) (by decide) rfl
  replace G := o_iload (q := 238) G X1081.here hx (hb hby at_236) rfl rfl
  replace G := o_iconst (q := 239) G X1081.here hx (hb hby at_238) (v := (3 : Int32)) (by decide) rfl
  replace G := o_icmpNo (q := 242) G X1081.here hx (hb hby at_239) (by decide) rfl
  replace G := o_iload (q := 244) G X1081.here hx (hb hby at_242) rfl rfl
  replace G := o_iload (q := 246) G X1081.here hx (hb hby at_244) rfl rfl
  replace G := o_icmpNo (q := 249) G X1081.here hx (hb hby at_246) (by decide) rfl
  replace G := o_iload (q := 251) G X1081.here hx (hb hby at_249) rfl rfl
  replace G := o_iload (q := 253) G X1081.here hx (hb hby at_251) rfl rfl
  replace G := o_icmpNo (q := 256) G X1081.here hx (hb hby at_253) (by decide) rfl
  replace G := o_iload (q := 258) G X1081.here hx (hb hby at_256) rfl rfl
  replace G := o_iload (q := 260) G X1081.here hx (hb hby at_258) rfl rfl
  replace G := o_icmpNo (q := 263) G X1081.here hx (hb hby at_260) (by decide) rfl
  replace G := o_iconst (q := 264) G X1081.here hx (hb hby at_263) (v := (1 : Int32)) (by decide) rfl
  replace G := o_goto (q := 268) G X1081.here hx (hb hby at_264) (by decide) (by decide)
  replace G := o_istore (q := 270) (l' := #[.val (.int i0), .val (.int i1), .val (.int 4), .val (.int 2), .val (.int 0), .val (.int 1), .val (.int 0), .val (.int 1), .val (.int 0), .val (.int 0), .val (.ref b1035), .val (.ref b1056), .val (.int 0), .val (.int 1), .val (.int 2), .val (.int 1)]) G X1081.here hx (hb hby at_268) rfl rfl
  replace G := o_iload (q := 272) G X1081.here hx (hb hby at_270) rfl rfl
  replace G := o_ifNo (q := 275) G X1081.here hx (hb hby at_272) (by decide) rfl
  replace G := o_aload (q := 277) G X1081.here hx (hb hby at_275) rfl rfl rfl
  replace G := o_iload (q := 279) G X1081.here hx (hb hby at_277) rfl rfl
  replace G := o_iload (q := 281) G X1081.here hx (hb hby at_279) rfl rfl
  have F1095 := (((V1067.keep K1068q (ninS (Ne.symm ne1061) (ninS (Ne.symm ne1058) (ninS (Ne.symm ne1057) nin0)))).keep K1078q (ninS (Ne.symm ne1061) (ninS (Ne.symm ne1058) (ninS (Ne.symm ne1057) nin0)))).keep K1081q (ninS (Ne.symm ne1061) (ninS (Ne.symm ne1058) (ninS (Ne.symm ne1057) nin0))))
  obtain ⟨_, _, ⟨T1094, L1094, kk1094, nn1094⟩, -, X1094, ⟨Lc1094, hQ1094, l1094, y1094, z1094⟩, st1094⟩ := Jvm.LawKit.callS X1081 hx (y := (⟨o_n1, "before", "([III)Z"⟩ : MethodName)) hown (mvT hZ (o_w hw 56 rfl)) (mvT hZ (o_w hw 57 rfl)) (mvT hZ (o_w hw 58 rfl)) (mvT hZ (o_w hw 59 rfl)) (by decide) (backOf (W := 0) (rm10 l Z a0 hw [] b1056 (0 : Int32) (1 : Int32) k1056 [(.int 0), (.int 0), (.int 0)] (0 : Int32) (0 : Int32) T1081.heap n0 Z1081 F1095 ⟨by decide, by decide⟩ ⟨by decide, by decide⟩ rfl rfl) hZ (o_w hw 59 rfl) (o_w hw 58 rfl) (by decide) (by decide)) (g := o_g G) rfl (by rw [hml]; rfl) (argsL := [(.ref b1056), (.int 0), (.int 1)]) (rest := []) (lenOf pd_4 rfl) rfl (by show 2 * 0 + _ ≤ _; exact Nat.le_of_eq rfl) (hb hby at_281) (fun _ _ => ⟨rfl, rfl, (by decide : 5 + 0 ≤ _), (by decide : 17 + 0 ≤ _)⟩)
  dsimp only [Pt.U, Pt.locs, Pt.cells, Pt.slots] at X1094 l1094 y1094 z1094 st1094 hQ1094
  subst l1094 y1094 z1094
  obtain ⟨rfl, N1094q, e1094⟩ := hQ1094
  have N1094 := Fr.app N1081 N1094q
  replace G := o_nxs (q := 284) (st := [(.int (o_lb (0 : Int32) (0 : Int32) (0 : Int32) (1 : Int32)))]) G st1094 rfl
  replace G := o_ifNo (q := 287) G X1094.here hx (hb hby at_284) (by decide) rfl
  replace G := o_aload (q := 289) G X1094.here hx (hb hby at_287) rfl rfl rfl
  replace G := o_iload (q := 291) G X1094.here hx (hb hby at_289) rfl rfl
  replace G := o_iload (q := 293) G X1094.here hx (hb hby at_291) rfl rfl
  obtain ⟨_, _, ⟨T1097, L1097, kk1097, nn1097⟩, -, X1097, ⟨Lc1097, hQ1097, l1097, y1097, z1097⟩, st1097⟩ := Jvm.LawKit.callS X1094 hx (y := (⟨o_n1, "before", "([III)Z"⟩ : MethodName)) hown (mvT hZ (o_w hw 56 rfl)) (mvT hZ (o_w hw 57 rfl)) (mvT hZ (o_w hw 58 rfl)) (mvT hZ (o_w hw 59 rfl)) (by decide) (backOf (W := 0) (rm10 l Z a0 hw [] b1056 (1 : Int32) (2 : Int32) k1056 [(.int 0), (.int 0), (.int 0)] (0 : Int32) (0 : Int32) T1081.heap n0 Z1081 F1095 ⟨by decide, by decide⟩ ⟨by decide, by decide⟩ rfl rfl) hZ (o_w hw 59 rfl) (o_w hw 58 rfl) (by decide) (by decide)) (g := o_g G) rfl (by rw [hml]; rfl) (argsL := [(.ref b1056), (.int 1), (.int 2)]) (rest := []) (lenOf pd_4 rfl) rfl (by show 2 * 0 + _ ≤ _; exact Nat.le_of_eq rfl) (hb hby at_293) (fun _ _ => ⟨rfl, e1094, (by decide : 5 + 0 ≤ _), (by decide : 17 + 0 ≤ _)⟩)
  dsimp only [Pt.U, Pt.locs, Pt.cells, Pt.slots] at X1097 l1097 y1097 z1097 st1097 hQ1097
  subst l1097 y1097 z1097
  obtain ⟨rfl, N1097q, e1097⟩ := hQ1097
  have N1097 := Fr.app N1094 N1097q
  replace G := o_nxs (q := 296) (st := [(.int (o_lb (0 : Int32) (0 : Int32) (1 : Int32) (2 : Int32)))]) G st1097 rfl
  replace G := o_ifNo (q := 299) G X1097.here hx (hb hby at_296) (by decide) rfl
  replace G := o_aload (q := 301) G X1097.here hx (hb hby at_299) rfl rfl rfl
  have F1100 := (F1082.keep K1081q)
  obtain ⟨T1099, _, Lc1099, X1099, hQ1099, G⟩ := o_vb (q := 304) (W := 0) (argsL := []) (rest := []) (y := (⟨o_n0, "isEmpty", "()Z"⟩ : MethodName)) G X1097 hx hZ hown (by rw [hml]; rfl) ⟨(o_w hw 60 rfl), (o_w hw 61 rfl), (o_w hw 63 rfl), (o_w hw 62 rfl), (o_w hw 64 rfl), (o_w hw 3 rfl)⟩ (by decide) e1097 F1100 (rm11 l Z a0 hw [] b1035 T1081.heap n0 Z1081 B1081_3) (lenOf pd_5 rfl) rfl (Nat.le_of_eq rfl) (hb hby at_301) rfl (by decide) (by decide) (by decide) (by decide)
  obtain ⟨rfl, N1099q, e1099⟩ := hQ1099
  have N1099 := Fr.app N1097 N1099q
  replace G := o_re (st := [(.int 1)]) G rfl
  replace G := o_ifNo (q := 307) G X1099.here hx (hb hby at_304) (by decide) rfl
  replace G := o_iconst (q := 308) G X1099.here hx (hb hby at_307) (v := (1 : Int32)) (by decide) rfl
  replace G := o_goto (q := 312) G X1099.here hx (hb hby at_308) (by decide) (by decide)
  obtain ⟨fs, hr, hrun, hended, hW, hsame⟩ := X1099.leave (v := some (.int 1)) (fun h => by rw [Bd.returns] at h; cases h)
  refine ⟨_, _, G _ (retOut X1099 hx Bd.returns rfl (Or.inl ⟨rfl, Or.inr (Or.inl rfl), _, rfl⟩) (hb hby at_312) hr), hrun, hended, _, _, rfl, ?_, ⟨_, rfl⟩, hW, hsame.mono (by decide) (by decide)⟩
  show Q0 Z i0 i1 h0 n0 _ T1099.heap _
  rw [e1099]
  exact ⟨rfl, N1099⟩
  replace G := o_iload (q := 127) G X1043.here hx (hb hby at_125) rfl rfl
  replace G := o_ifNo (q := 130) G X1043.here hx (hb hby at_127) (by decide) rfl
  replace G := o_aload (q := 132) G X1043.here hx (hb hby at_130) rfl rfl rfl
  have F1104 := (F1044.keep K1043q)
  have F1105 := (F1045.keep K1043q (ninS ne1037 (ninS ne1038 (ninS ne1039 nin0))))
  have F1106 := (F1046.keep K1043q (ninS ne1037 (ninS ne1038 (ninS ne1039 nin0))))
  have F1107 := (F1047.keep K1043q (ninS ne1037 (ninS ne1038 (ninS ne1039 nin0))))
  have F1108 := ((B1036_3.keep K1040q (ninS ne1037 (ninS ne1038 (ninS ne1039 nin0)))).keep K1043q (ninS ne1037 (ninS ne1038 (ninS ne1039 nin0))))
  have F1109 := (F1048.keep K1043q (ninS ne1037 (ninS ne1038 (ninS ne1039 nin0))))
  obtain ⟨T1103, _, Lc1103, X1103, hQ1103, G⟩ := o_vb (q := 135) (W := 0) (argsL := []) (rest := []) (y := (⟨o_n0, "decay", "()V"⟩ : MethodName)) G X1043 hx hZ hown (by rw [hml]; rfl) ⟨(o_w hw 41 rfl), (o_w hw 42 rfl), (o_w hw 44 rfl), (o_w hw 43 rfl), (o_w hw 45 rfl), (o_w hw 3 rfl)⟩ (by decide) rfl F1104 (rm7 l Z a0 hw [] b1035 va_1036 vh_1036 vx_1036 o_d0 o_d1 (3 : Int32) T1043.heap n0 Z1043 F1104 F1105 F1106 F1107 F1108 F1109 ge_b1035 (by decide +kernel) (o_nan (by decide +kernel))) (lenOf pd_6 rfl) rfl (Nat.le_of_eq rfl) (hb hby at_132) rfl (by decide) (by decide) (by decide) (by decide)
  obtain ⟨rfl, N1103q, K1103q, B1103_0, B1103_1, B1103_2, B1103_3, B1103_4⟩ := hQ1103
  have Z1103 : n0 ≤ T1103.heap.size := Nat.le_trans Z1043 K1103q.1
  have N1103 := Fr.app N1043 N1103q
  replace G := o_re (st := []) G rfl
  replace G := o_aload (q := 137) G X1103.here hx (hb hby at_135) rfl rfl rfl
  replace G := o_iload (q := 139) G X1103.here hx (hb hby at_137) rfl rfl
  have F1111 := (F1104.keep K1103q)
  have F1112 := (B1043_0.keep K1103q (ninS (Ne.symm ne1037) nin0))
  have F1113 := (B1043_1.keep K1103q (ninS (Ne.symm ne1038) nin0))
  have F1114 := (B1043_2.keep K1103q (ninS (Ne.symm ne1039) nin0))
  obtain ⟨T1110, _, Lc1110, X1110, hQ1110, G⟩ := o_vb (q := 142) (W := 0) (argsL := [(.int 1)]) (rest := []) (y := (⟨o_n0, "bump", "(I)V"⟩ : MethodName)) G X1103 hx hZ hown (by rw [hml]; rfl) ⟨(o_w hw 35 rfl), (o_w hw 36 rfl), (o_w hw 38 rfl), (o_w hw 37 rfl), (o_w hw 39 rfl), (o_w hw 3 rfl)⟩ (by decide) rfl F1111 (rm6f1t l Z a0 hw [] b1035 (1 : Int32) va_1036 vh_1036 vx_1036 ka_1036 kh_1036 kx_1036 (0 : Int32) (1 : Int32) (2 : Int32) [(.double o_d0), (.double 0), (.double o_d0)] [(.int 0), (.int 1), (.int 2)] [(.int 1), (.int 0), (.int 2)] o_d1 [(.double o_d0), (.double o_d1), (.double o_d0)] (0 : UInt64) o_d1 o_d0 o_d1 T1103.heap n0 Z1103 F1111 B1103_0 B1103_1 B1103_2 B1103_4 F1112 F1113 F1114 ge_va_1036 ge_vh_1036 ge_vx_1036 ne1037 ne1038 ne1039 B1036_8 B1036_9 B1036_10 ⟨by decide, by decide⟩ ⟨by decide, by decide⟩ ⟨by decide, by decide⟩ rfl rfl rfl rfl (by decide +kernel) (o_nan (by decide +kernel)) (by decide +kernel) rfl rfl rfl rfl (by decide +kernel) rfl) (lenOf pd_1 rfl) rfl (Nat.le_of_eq rfl) (hb hby at_139) rfl (by decide) (by decide) (by decide) (by decide)
  obtain ⟨rfl, N1110q, K1110q, B1110_0, B1110_1, B1110_2⟩ := hQ1110
  have Z1110 : n0 ≤ T1110.heap.size := Nat.le_trans Z1103 K1110q.1
  have N1110 := Fr.app N1103 N1110q
  replace G := o_re (st := []) G rfl
  replace G := o_iconst (q := 143) G X1110.here hx (hb hby at_142) (v := (3 : Int32)) (by decide) rfl
  obtain ⟨T1115, h1115, k1115, X1115, e1115, E1115, A1115, st1115⟩ := newP X1110 hx hZ (o_w hw 15 rfl) rfl (g := o_g G) rfl (hb hby at_143) rfl (by decide) (cap := 3) (by decide) (by decide) (by decide) (by decide)
  obtain ⟨b1115, g1115⟩ : ∃ z, z = T1110.heap.size := ⟨_, rfl⟩
  rw [← g1115] at A1115 st1115
  have ne1116 : vx_1036 ≠ b1115 := Nat.ne_of_lt (Nat.lt_of_lt_of_le B1110_2.lt (Nat.le_of_eq g1115.symm))
  have ne1117 : vh_1036 ≠ b1115 := Nat.ne_of_lt (Nat.lt_of_lt_of_le B1110_1.lt (Nat.le_of_eq g1115.symm))
  have ne1118 : va_1036 ≠ b1115 := Nat.ne_of_lt (Nat.lt_of_lt_of_le B1110_0.lt (Nat.le_of_eq g1115.symm))
  have F1119 := (B1103_4.keep K1110q (ninS ne1037 (ninS ne1038 (ninS ne1039 nin0))))
  have ne1120 : b1035 ≠ b1115 := Nat.ne_of_lt (Nat.lt_of_lt_of_le F1119.lt (Nat.le_of_eq g1115.symm))
  have ge_b1115 : n0 ≤ b1115 := Nat.le_trans Z1110 (Nat.le_of_eq g1115.symm)
  have Z1115 : n0 ≤ h1115.size := Nat.le_trans Z1110 E1115.1
  have V1115 : Arv Z h1115 b1115 k1115 .int 3 [(.int 0), (.int 0), (.int 0)] (.int 0) := (Arv.new A1115 (by decide)).pad (pad_rep [] (.int 0) 3)
  replace G := o_nxs (q := 145) (st := [(.ref b1115)]) G st1115 rfl
  replace G := o_astore (q := 147) (l' := #[.val (.int i0), .val (.int i1), .val (.int 4), .val (.int 2), .val (.int 0), .val (.int 1), .val (.int 0), .val (.int 1), .val (.int 0), .val (.int 1), .val (.ref b1035), .val (.ref b1115), .unset, .unset, .unset, .unset]) G X1115.here hx (hb hby at_145) rfl rfl rfl
  replace G := o_aload (q := 149) G X1115.here hx (hb hby at_147) rfl rfl rfl
  replace G := o_iloadN (q := 150) G X1115.here hx (hb hby at_149) rfl rfl
  replace G := o_iconst (q := 151) G X1115.here hx (hb hby at_150) (v := (0 : Int32)) (by decide) rfl
  obtain ⟨c1121, Ar1121, q1121, S1121, N1121', H1121, G1121'⟩ := id V1115
  have hin1121 : ¬ ((2 : Int32) < 0 ∨ c1121.slots.size ≤ ((2 : Int32)).toNatClampNeg) := inb_of S1121 ⟨by decide, by decide⟩
  obtain ⟨T1121, h1121, X1121, e1121, W1121, st1121⟩ := stI X1115 hx hZ e1115 Ar1121 (j := (2 : Int32)) hin1121 (g := o_g G) rfl rfl (hb hby at_151)
  have N1121 := Fr.snoc X1121 N1110 ge_b1115
  have Z1121 : n0 ≤ h1121.size := Nat.le_trans Z1115 (Keep.of_wr W1121).1
  have V1121 : Arv Z h1121 b1115 k1115 .int 3 [(.int 0), (.int 0), (.int 0)] (.int 0) := Arv.set Ar1121 q1121 S1121 N1121' H1121 G1121' rfl W1121 2 rfl (Nat.le_of_ble_eq_true rfl)
  replace G := o_nxs (q := 152) (st := []) G st1121 rfl
  replace G := o_aload (q := 154) G X1121.here hx (hb hby at_152) rfl rfl rfl
  replace G := o_iload (q := 156) G X1121.here hx (hb hby at_154) rfl rfl
  replace G := o_iload (q := 158) G X1121.here hx (hb hby at_156) rfl rfl
  replace G := o_ifYes (q := 165) G X1121.here hx (hb hby at_158) (by decide) (by decide) (by decide)
  replace G := o_iconst (q := 166) G X1121.here hx (hb hby at_165) (v := (0 : Int32)) (by decide) rfl
  obtain ⟨c1123, Ar1123, q1123, S1123, N1123', H1123, G1123'⟩ := id V1121
  have hin1123 : ¬ ((0 : Int32) < 0 ∨ c1123.slots.size ≤ ((0 : Int32)).toNatClampNeg) := inb_of S1123 ⟨by decide, by decide⟩
  obtain ⟨T1123, h1123, X1123, e1123, W1123, st1123⟩ := stI X1121 hx hZ e1121 Ar1123 (j := (0 : Int32)) hin1123 (g := o_g G) rfl rfl (hb hby at_166)
  have N1123 := Fr.snoc X1123 N1121 ge_b1115
  have Z1123 : n0 ≤ h1123.size := Nat.le_trans Z1121 (Keep.of_wr W1123).1
  have V1123 : Arv Z h1123 b1115 k1115 .int 3 [(.int 0), (.int 0), (.int 0)] (.int 0) := Arv.set Ar1123 q1123 S1123 N1123' H1123 G1123' rfl W1123 0 rfl (Nat.le_of_ble_eq_true rfl)
  replace G := o_nxs (q := 167) (st := []) G st1123 rfl
  replace G := o_aload (q := 169) G X1123.here hx (hb hby at_167) rfl rfl rfl
  replace G := o_iload (q := 171) G X1123.here hx (hb hby at_169) rfl rfl
  replace G := o_aload (q := 173) G X1123.here hx (hb hby at_171) rfl rfl rfl
  replace G := o_iload (q := 175) G X1123.here hx (hb hby at_173) rfl rfl
  obtain ⟨c1124, Ar1124, -, S1124, -, H1124, -⟩ := id V1123
  have hin1124 : ¬ ((0 : Int32) < 0 ∨ c1124.slots.size ≤ ((0 : Int32)).toNatClampNeg) := inb_of S1124 ⟨by decide, by decide⟩
  replace G := o_nxs (q := 176) (st := [(.int 0), (.int 1), (.ref b1115)]) G (X1123.iaload hx (j := (0 : Int32)) (v := (.int 0)) (by rw [e1123]; exact Ar1124.1) (State.isArrayOf_alike hZ.alike Ar1124.2.1) Ar1124.2.2 hin1124 (Has.at H1124 hin1124 rfl) (g := o_g G) rfl rfl (hb hby at_175)) rfl
  replace G := o_iload (q := 178) G X1123.here hx (hb hby at_176) rfl rfl
  replace G := o_ifNo (q := 181) G X1123.here hx (hb hby at_178) (by decide) rfl
  replace G := o_iconst (q := 182) G X1123.here hx (hb hby at_181) (v := (1 : Int32)) (by decide) rfl
  replace G := o_goto (q := 186) G X1123.here hx (hb hby at_182) (by decide) (by decide)
  replace G := o_iadd (q := 187) G X1123.here hx (hb hby at_186) (by decide : ((0 : Int32) + (1 : Int32)) = (1 : Int32)) rfl
  obtain ⟨c1126, Ar1126, q1126, S1126, N1126', H1126, G1126'⟩ := id V1123
  have hin1126 : ¬ ((1 : Int32) < 0 ∨ c1126.slots.size ≤ ((1 : Int32)).toNatClampNeg) := inb_of S1126 ⟨by decide, by decide⟩
  obtain ⟨T1126, h1126, X1126, e1126, W1126, st1126⟩ := stI X1123 hx hZ e1123 Ar1126 (j := (1 : Int32)) hin1126 (g := o_g G) rfl rfl (hb hby at_187)
  have N1126 := Fr.snoc X1126 N1123 ge_b1115
  have Z1126 : n0 ≤ h1126.size := Nat.le_trans Z1123 (Keep.of_wr W1126).1
  have V1126 : Arv Z h1126 b1115 k1115 .int 3 [(.int 0), (.int 1), (.int 0)] (.int 0) := Arv.set Ar1126 q1126 S1126 N1126' H1126 G1126' rfl W1126 1 rfl (Nat.le_of_ble_eq_true rfl)
  replace G := o_nxs (q := 188) (st := []) G st1126 rfl
  replace G := o_aload (q := 190) G X1126.here hx (hb hby at_188) rfl rfl rfl
  have F1128 := (((((F1111.keep K1110q).ext E1115).wr W1121).wr W1123).wr W1126)
  have F1129 := (((((B1103_0.keep K1110q (ninS ne1037 (ninS ne1038 (ninS ne1039 nin0)))).ext E1115).other W1121 (Or.inl ne1120)).other W1123 (Or.inl ne1120)).other W1126 (Or.inl ne1120))
  have F1130 := (((((B1103_1.keep K1110q (ninS ne1037 (ninS ne1038 (ninS ne1039 nin0)))).ext E1115).other W1121 (Or.inl ne1120)).other W1123 (Or.inl ne1120)).other W1126 (Or.inl ne1120))
  have F1131 := (((((B1103_2.keep K1110q (ninS ne1037 (ninS ne1038 (ninS ne1039 nin0)))).ext E1115).other W1121 (Or.inl ne1120)).other W1123 (Or.inl ne1120)).other W1126 (Or.inl ne1120))
  have F1132 := (((((B1103_3.keep K1110q (ninS ne1037 (ninS ne1038 (ninS ne1039 nin0)))).ext E1115).other W1121 (Or.inl ne1120)).other W1123 (Or.inl ne1120)).other W1126 (Or.inl ne1120))
  have F1133 := ((((F1119.ext E1115).other W1121 (Or.inl ne1120)).other W1123 (Or.inl ne1120)).other W1126 (Or.inl ne1120))
  have F1134 := ((((B1110_0.ext E1115).other W1121 ne1118).other W1123 ne1118).other W1126 ne1118)
  have F1135 := ((((B1110_1.ext E1115).other W1121 ne1117).other W1123 ne1117).other W1126 ne1117)
  have F1136 := ((((B1110_2.ext E1115).other W1121 ne1116).other W1123 ne1116).other W1126 ne1116)
  obtain ⟨T1127, _, Lc1127, X1127, hQ1127, G⟩ := o_vb (q := 193) (W := 0) (argsL := []) (rest := []) (y := (⟨o_n0, "takeFirst", "()I"⟩ : MethodName)) G X1126 hx hZ hown (by rw [hml]; rfl) ⟨(o_w hw 47 rfl), (o_w hw 48 rfl), (o_w hw 50 rfl), (o_w hw 49 rfl), (o_w hw 51 rfl), (o_w hw 3 rfl)⟩ (by decide) e1126 F1128 (rm8n3t l Z a0 hw [] b1035 va_1036 vh_1036 vx_1036 ka_1036 kh_1036 kx_1036 (1 : Int32) (0 : Int32) (2 : Int32) [(.double o_d0), (.double o_d1), (.double o_d0)] [(.int 1), (.int 0), (.int 2)] [(.int 0), (.int (-1)), (.int 1)] o_d1 o_d0 o_d0 h1126 n0 Z1126 F1128 F1129 F1130 F1131 F1132 F1133 F1134 F1135 F1136 ge_b1035 ge_vh_1036 ge_vx_1036 ne1037 ne1038 ne1039 B1036_8 B1036_9 B1036_10 ⟨by decide, by decide⟩ ⟨by decide, by decide⟩ ⟨by decide, by decide⟩ rfl rfl rfl (by decide +kernel) rfl) (lenOf pd_3 rfl) rfl (Nat.le_of_eq rfl) (hb hby at_190) rfl (by decide) (by decide) (by decide) (by decide)
  obtain ⟨rfl, N1127q, K1127q, B1127_0, B1127_1, B1127_2, B1127_3, B1127_4, B1127_5, B1127_6⟩ := hQ1127
  have Z1127 : n0 ≤ T1127.heap.size := Nat.le_trans Z1126 K1127q.1
  have N1127 := Fr.app N1126 N1127q
  replace G := o_re (st := [(.int 1)]) G rfl
  replace G := o_istore (q := 195) (l' := #[.val (.int i0), .val (.int i1), .val (.int 4), .val (.int 2), .val (.int 0), .val (.int 1), .val (.int 0), .val (.int 1), .val (.int 0), .val (.int 1), .val (.ref b1035), .val (.ref b1115), .val (.int 1), .unset, .unset, .unset]) G X1127.here hx (hb hby at_193) rfl rfl
  replace G := o_aload (q := 197) G X1127.here hx (hb hby at_195) rfl rfl rfl
  have F1138 := (F1128.keep K1127q)
  have F1139 := (F1134.keep K1127q (ninS (Ne.symm ne1037) (ninS B1036_8 (ninS B1036_9 nin0))))
  obtain ⟨T1137, _, Lc1137, X1137, hQ1137, G⟩ := o_vb (q := 200) (W := 0) (argsL := []) (rest := []) (y := (⟨o_n0, "takeFirst", "()I"⟩ : MethodName)) G X1127 hx hZ hown (by rw [hml]; rfl) ⟨(o_w hw 47 rfl), (o_w hw 48 rfl), (o_w hw 50 rfl), (o_w hw 49 rfl), (o_w hw 51 rfl), (o_w hw 3 rfl)⟩ (by decide) rfl F1138 (rm8n2 l Z a0 hw [] b1035 va_1036 vh_1036 vx_1036 ka_1036 kh_1036 kx_1036 (0 : Int32) (2 : Int32) (2 : Int32) [(.double o_d0), (.double o_d1), (.double o_d0)] [(.int 0), (.int (-1)), (.int 1)] [(.int (-1)), (.int (-1)), (.int 0)] o_d1 T1127.heap n0 Z1127 F1138 B1127_0 B1127_1 B1127_2 B1127_3 B1127_4 F1139 B1127_5 B1127_6 ge_b1035 ge_vh_1036 ge_vx_1036 ne1037 ne1038 ne1039 B1036_8 B1036_9 B1036_10 ⟨by decide, by decide⟩ ⟨by decide, by decide⟩ rfl rfl) (lenOf pd_3 rfl) rfl (Nat.le_of_eq rfl) (hb hby at_197) rfl (by decide) (by decide) (by decide) (by decide)
  obtain ⟨rfl, N1137q, K1137q, B1137_0, B1137_1, B1137_2, B1137_3, B1137_4, B1137_5, B1137_6⟩ := hQ1137
  have Z1137 : n0 ≤ T1137.heap.size := Nat.le_trans Z1127 K1137q.1
  have N1137 := Fr.app N1127 N1137q
  replace G := o_re (st := [(.int 0)]) G rfl
  replace G := o_istore (q := 202) (l' := #[.val (.int i0), .val (.int i1), .val (.int 4), .val (.int 2), .val (.int 0), .val (.int 1), .val (.int 0), .val (.int 1), .val (.int 0), .val (.int 1), .val (.ref b1035), .val (.ref b1115), .val (.int 1), .val (.int 0), .unset, .unset]) G X1137.here hx (hb hby at_200) rfl rfl
  replace G := o_aload (q := 204) G X1137.here hx (hb hby at_202) rfl rfl rfl
  have F1141 := (F1138.keep K1137q)
  have F1142 := (F1139.keep K1137q (ninS (Ne.symm ne1037) (ninS B1036_8 (ninS B1036_9 nin0))))
  obtain ⟨T1140, _, Lc1140, X1140, hQ1140, G⟩ := o_vb (q := 207) (W := 0) (argsL := []) (rest := []) (y := (⟨o_n0, "takeFirst", "()I"⟩ : MethodName)) G X1137 hx hZ hown (by rw [hml]; rfl) ⟨(o_w hw 47 rfl), (o_w hw 48 rfl), (o_w hw 50 rfl), (o_w hw 49 rfl), (o_w hw 51 rfl), (o_w hw 3 rfl)⟩ (by decide) rfl F1141 (rm8n1 l Z a0 hw [] b1035 va_1036 vh_1036 vx_1036 ka_1036 kh_1036 kx_1036 (2 : Int32) (2 : Int32) (2 : Int32) [(.double o_d0), (.double o_d1), (.double o_d0)] [(.int (-1)), (.int (-1)), (.int 0)] [(.int (-1)), (.int (-1)), (.int (-1))] o_d1 T1137.heap n0 Z1137 F1141 B1137_0 B1137_1 B1137_2 B1137_3 B1137_4 F1142 B1137_5 B1137_6 ge_b1035 ge_vh_1036 ge_vx_1036 ne1037 ne1038 ne1039 B1036_8 B1036_9 B1036_10 ⟨by decide, by decide⟩ rfl rfl) (lenOf pd_3 rfl) rfl (Nat.le_of_eq rfl) (hb hby at_204) rfl (by decide) (by decide) (by decide) (by decide)
  obtain ⟨rfl, N1140q, K1140q, B1140_0, B1140_1, B1140_2, B1140_3, B1140_4, B1140_5, B1140_6⟩ := hQ1140
  have Z1140 : n0 ≤ T1140.heap.size := Nat.le_trans Z1137 K1140q.1
  have N1140 := Fr.app N1137 N1140q
  replace G := o_re (st := [(.int 2)]) G rfl
  replace G := o_istore (q := 209) (l' := #[.val (.int i0), .val (.int i1), .val (.int 4), .val (.int 2), .val (.int 0), .val (.int 1), .val (.int 0), .val (.int 1), .val (.int 0), .val (.int 1), .val (.ref b1035), .val (.ref b1115), .val (.int 1), .val (.int 0), .val (.int 2), .unset]) G X1140.here hx (hb hby at_207) rfl rfl
  replace G := o_iload (q := 211) G X1140.here hx (hb hby at_209) rfl rfl
  replace G := o_ifNo (q := 214) G X1140.here hx (hb hby at_211) (by decide) rfl
  replace G := o_iload (q := 216) G X1140.here hx (hb hby at_214) rfl rfl
  replace G := o_iconst (q := 217) G X1140.here hx (hb hby at_216) (v := (3 : Int32)) (by decide) rfl
  replace G := o_icmpNo (q := 220) G X1140.here hx (hb hby at_217) (by decide) rfl
  replace G := o_iload (q := 222) G X1140.here hx (hb hby at_220) rfl rfl
  replace G := o_ifNo (q := 225) G X1140.here hx (hb hby at_222) (by decide) rfl
  replace G := o_iload (q := 227) G X1140.here hx (hb hby at_225) rfl rfl
  replace G := o_iconst (q := 228) G X1140.here hx (hb hby at_227) (v := (3 : Int32)) (by decide) rfl
  replace G := o_icmpNo (q := 231) G X1140.here hx (hb hby at_228) (by decide) rfl
  replace G := o_iload (q := 233) G X1140.here hx (hb hby at_231) rfl rfl
  replace G := o_ifNo (q := 236) G X1140.here hx (hb hby at_233) (by decide) rfl
  replace G := o_iload (q := 238) G X1140.here hx (hb hby at_236) rfl rfl
  replace G := o_iconst (q := 239) G X1140.here hx (hb hby at_238) (v := (3 : Int32)) (by decide) rfl
  replace G := o_icmpNo (q := 242) G X1140.here hx (hb hby at_239) (by decide) rfl
  replace G := o_iload (q := 244) G X1140.here hx (hb hby at_242) rfl rfl
  replace G := o_iload (q := 246) G X1140.here hx (hb hby at_244) rfl rfl
  replace G := o_icmpNo (q := 249) G X1140.here hx (hb hby at_246) (by decide) rfl
  replace G := o_iload (q := 251) G X1140.here hx (hb hby at_249) rfl rfl
  replace G := o_iload (q := 253) G X1140.here hx (hb hby at_251) rfl rfl
  replace G := o_icmpNo (q := 256) G X1140.here hx (hb hby at_253) (by decide) rfl
  replace G := o_iload (q := 258) G X1140.here hx (hb hby at_256) rfl rfl
  replace G := o_iload (q := 260) G X1140.here hx (hb hby at_258) rfl rfl
  replace G := o_icmpNo (q := 263) G X1140.here hx (hb hby at_260) (by decide) rfl
  replace G := o_iconst (q := 264) G X1140.here hx (hb hby at_263) (v := (1 : Int32)) (by decide) rfl
  replace G := o_goto (q := 268) G X1140.here hx (hb hby at_264) (by decide) (by decide)
  replace G := o_istore (q := 270) (l' := #[.val (.int i0), .val (.int i1), .val (.int 4), .val (.int 2), .val (.int 0), .val (.int 1), .val (.int 0), .val (.int 1), .val (.int 0), .val (.int 1), .val (.ref b1035), .val (.ref b1115), .val (.int 1), .val (.int 0), .val (.int 2), .val (.int 1)]) G X1140.here hx (hb hby at_268) rfl rfl
  replace G := o_iload (q := 272) G X1140.here hx (hb hby at_270) rfl rfl
  replace G := o_ifNo (q := 275) G X1140.here hx (hb hby at_272) (by decide) rfl
  replace G := o_aload (q := 277) G X1140.here hx (hb hby at_275) rfl rfl rfl
  replace G := o_iload (q := 279) G X1140.here hx (hb hby at_277) rfl rfl
  replace G := o_iload (q := 281) G X1140.here hx (hb hby at_279) rfl rfl
  have F1154 := (((V1126.keep K1127q (ninS (Ne.symm ne1120) (ninS (Ne.symm ne1117) (ninS (Ne.symm ne1116) nin0)))).keep K1137q (ninS (Ne.symm ne1120) (ninS (Ne.symm ne1117) (ninS (Ne.symm ne1116) nin0)))).keep K1140q (ninS (Ne.symm ne1120) (ninS (Ne.symm ne1117) (ninS (Ne.symm ne1116) nin0))))
  obtain ⟨_, _, ⟨T1153, L1153, kk1153, nn1153⟩, -, X1153, ⟨Lc1153, hQ1153, l1153, y1153, z1153⟩, st1153⟩ := Jvm.LawKit.callS X1140 hx (y := (⟨o_n1, "before", "([III)Z"⟩ : MethodName)) hown (mvT hZ (o_w hw 56 rfl)) (mvT hZ (o_w hw 57 rfl)) (mvT hZ (o_w hw 58 rfl)) (mvT hZ (o_w hw 59 rfl)) (by decide) (backOf (W := 0) (rm10 l Z a0 hw [] b1115 (1 : Int32) (0 : Int32) k1115 [(.int 0), (.int 1), (.int 0)] (1 : Int32) (0 : Int32) T1140.heap n0 Z1140 F1154 ⟨by decide, by decide⟩ ⟨by decide, by decide⟩ rfl rfl) hZ (o_w hw 59 rfl) (o_w hw 58 rfl) (by decide) (by decide)) (g := o_g G) rfl (by rw [hml]; rfl) (argsL := [(.ref b1115), (.int 1), (.int 0)]) (rest := []) (lenOf pd_4 rfl) rfl (by show 2 * 0 + _ ≤ _; exact Nat.le_of_eq rfl) (hb hby at_281) (fun _ _ => ⟨rfl, rfl, (by decide : 5 + 0 ≤ _), (by decide : 17 + 0 ≤ _)⟩)
  dsimp only [Pt.U, Pt.locs, Pt.cells, Pt.slots] at X1153 l1153 y1153 z1153 st1153 hQ1153
  subst l1153 y1153 z1153
  obtain ⟨rfl, N1153q, e1153⟩ := hQ1153
  have N1153 := Fr.app N1140 N1153q
  replace G := o_nxs (q := 284) (st := [(.int (o_lb (1 : Int32) (0 : Int32) (1 : Int32) (0 : Int32)))]) G st1153 rfl
  replace G := o_ifNo (q := 287) G X1153.here hx (hb hby at_284) (by decide) rfl
  replace G := o_aload (q := 289) G X1153.here hx (hb hby at_287) rfl rfl rfl
  replace G := o_iload (q := 291) G X1153.here hx (hb hby at_289) rfl rfl
  replace G := o_iload (q := 293) G X1153.here hx (hb hby at_291) rfl rfl
  obtain ⟨_, _, ⟨T1156, L1156, kk1156, nn1156⟩, -, X1156, ⟨Lc1156, hQ1156, l1156, y1156, z1156⟩, st1156⟩ := Jvm.LawKit.callS X1153 hx (y := (⟨o_n1, "before", "([III)Z"⟩ : MethodName)) hown (mvT hZ (o_w hw 56 rfl)) (mvT hZ (o_w hw 57 rfl)) (mvT hZ (o_w hw 58 rfl)) (mvT hZ (o_w hw 59 rfl)) (by decide) (backOf (W := 0) (rm10 l Z a0 hw [] b1115 (0 : Int32) (2 : Int32) k1115 [(.int 0), (.int 1), (.int 0)] (0 : Int32) (0 : Int32) T1140.heap n0 Z1140 F1154 ⟨by decide, by decide⟩ ⟨by decide, by decide⟩ rfl rfl) hZ (o_w hw 59 rfl) (o_w hw 58 rfl) (by decide) (by decide)) (g := o_g G) rfl (by rw [hml]; rfl) (argsL := [(.ref b1115), (.int 0), (.int 2)]) (rest := []) (lenOf pd_4 rfl) rfl (by show 2 * 0 + _ ≤ _; exact Nat.le_of_eq rfl) (hb hby at_293) (fun _ _ => ⟨rfl, e1153, (by decide : 5 + 0 ≤ _), (by decide : 17 + 0 ≤ _)⟩)
  dsimp only [Pt.U, Pt.locs, Pt.cells, Pt.slots] at X1156 l1156 y1156 z1156 st1156 hQ1156
  subst l1156 y1156 z1156
  obtain ⟨rfl, N1156q, e1156⟩ := hQ1156
  have N1156 := Fr.app N1153 N1156q
  replace G := o_nxs (q := 296) (st := [(.int (o_lb (0 : Int32) (0 : Int32) (0 : Int32) (2 : Int32)))]) G st1156 rfl
  replace G := o_ifNo (q := 299) G X1156.here hx (hb hby at_296) (by decide) rfl
  replace G := o_aload (q := 301) G X1156.here hx (hb hby at_299) rfl rfl rfl
  have F1159 := (F1141.keep K1140q)
  obtain ⟨T1158, _, Lc1158, X1158, hQ1158, G⟩ := o_vb (q := 304) (W := 0) (argsL := []) (rest := []) (y := (⟨o_n0, "isEmpty", "()Z"⟩ : MethodName)) G X1156 hx hZ hown (by rw [hml]; rfl) ⟨(o_w hw 60 rfl), (o_w hw 61 rfl), (o_w hw 63 rfl), (o_w hw 62 rfl), (o_w hw 64 rfl), (o_w hw 3 rfl)⟩ (by decide) e1156 F1159 (rm11 l Z a0 hw [] b1035 T1140.heap n0 Z1140 B1140_3) (lenOf pd_5 rfl) rfl (Nat.le_of_eq rfl) (hb hby at_301) rfl (by decide) (by decide) (by decide) (by decide)
  obtain ⟨rfl, N1158q, e1158⟩ := hQ1158
  have N1158 := Fr.app N1156 N1158q
  replace G := o_re (st := [(.int 1)]) G rfl
  replace G := o_ifNo (q := 307) G X1158.here hx (hb hby at_304) (by decide) rfl
  replace G := o_iconst (q := 308) G X1158.here hx (hb hby at_307) (v := (1 : Int32)) (by decide) rfl
  replace G := o_goto (q := 312) G X1158.here hx (hb hby at_308) (by decide) (by decide)
  obtain ⟨fs, hr, hrun, hended, hW, hsame⟩ := X1158.leave (v := some (.int 1)) (fun h => by rw [Bd.returns] at h; cases h)
  refine ⟨_, _, G _ (retOut X1158 hx Bd.returns rfl (Or.inl ⟨rfl, Or.inr (Or.inl rfl), _, rfl⟩) (hb hby at_312) hr), hrun, hended, _, _, rfl, ?_, ⟨_, rfl⟩, hW, hsame.mono (by decide) (by decide)⟩
  show Q0 Z i0 i1 h0 n0 _ T1158.heap _
  rw [e1158]
  exact ⟨rfl, N1158⟩
  replace G := o_iload (q := 110) G X1040.here hx (hb hby at_108) rfl rfl
  replace G := o_ifNo (q := 113) G X1040.here hx (hb hby at_110) (by decide) rfl
  replace G := o_aload (q := 115) G X1040.here hx (hb hby at_113) rfl rfl rfl
  have F1163 := (F1041.keep K1040q)
  have F1164 := (B1036_0.keep K1040q (ninS ne1037 (ninS ne1038 (ninS ne1039 nin0))))
  have F1165 := (B1036_1.keep K1040q (ninS ne1037 (ninS ne1038 (ninS ne1039 nin0))))
  have F1166 := (B1036_2.keep K1040q (ninS ne1037 (ninS ne1038 (ninS ne1039 nin0))))
  have F1167 := (B1036_3.keep K1040q (ninS ne1037 (ninS ne1038 (ninS ne1039 nin0))))
  have F1168 := (B1036_4.keep K1040q (ninS ne1037 (ninS ne1038 (ninS ne1039 nin0))))
  obtain ⟨T1162, _, Lc1162, X1162, hQ1162, G⟩ := o_vb (q := 118) (W := 0) (argsL := []) (rest := []) (y := (⟨o_n0, "decay", "()V"⟩ : MethodName)) G X1040 hx hZ hown (by rw [hml]; rfl) ⟨(o_w hw 41 rfl), (o_w hw 42 rfl), (o_w hw 44 rfl), (o_w hw 43 rfl), (o_w hw 45 rfl), (o_w hw 3 rfl)⟩ (by decide) rfl F1163 (rm7 l Z a0 hw [] b1035 va_1036 vh_1036 vx_1036 o_d0 o_d1 (3 : Int32) T1040.heap n0 Z1040 F1163 F1164 F1165 F1166 F1167 F1168 ge_b1035 (by decide +kernel) (o_nan (by decide +kernel))) (lenOf pd_6 rfl) rfl (Nat.le_of_eq rfl) (hb hby at_115) rfl (by decide) (by decide) (by decide) (by decide)
  obtain ⟨rfl, N1162q, K1162q, B1162_0, B1162_1, B1162_2, B1162_3, B1162_4⟩ := hQ1162
  have Z1162 : n0 ≤ T1162.heap.size := Nat.le_trans Z1040 K1162q.1
  have N1162 := Fr.app N1040 N1162q
  replace G := o_re (st := []) G rfl
  replace G := o_aload (q := 120) G X1162.here hx (hb hby at_118) rfl rfl rfl
  replace G := o_iload (q := 122) G X1162.here hx (hb hby at_120) rfl rfl
  have F1170 := (F1163.keep K1162q)
  have F1171 := (B1040_0.keep K1162q (ninS (Ne.symm ne1037) nin0))
  have F1172 := (B1040_1.keep K1162q (ninS (Ne.symm ne1038) nin0))
  have F1173 := (B1040_2.keep K1162q (ninS (Ne.symm ne1039) nin0))
  obtain ⟨T1169, _, Lc1169, X1169, hQ1169, G⟩ := o_vb (q := 125) (W := 0) (argsL := [(.int 0)]) (rest := []) (y := (⟨o_n0, "bump", "(I)V"⟩ : MethodName)) G X1162 hx hZ hown (by rw [hml]; rfl) ⟨(o_w hw 35 rfl), (o_w hw 36 rfl), (o_w hw 38 rfl), (o_w hw 37 rfl), (o_w hw 39 rfl), (o_w hw 3 rfl)⟩ (by decide) rfl F1170 (rm6f2t l Z a0 hw [] b1035 (0 : Int32) va_1036 vh_1036 vx_1036 ka_1036 kh_1036 kx_1036 (2 : Int32) (1 : Int32) (0 : Int32) [(.double 0), (.double 0), (.double o_d0)] [(.int 2), (.int 1), (.int 0)] [(.int 0), (.int 1), (.int 2)] o_d1 [(.double o_d1), (.double 0), (.double o_d0)] (0 : UInt64) o_d1 o_d0 o_d1 T1162.heap n0 Z1162 F1170 B1162_0 B1162_1 B1162_2 B1162_4 F1171 F1172 F1173 ge_va_1036 ge_vh_1036 ge_vx_1036 ne1037 ne1038 ne1039 B1036_8 B1036_9 B1036_10 ⟨by decide, by decide⟩ ⟨by decide, by decide⟩ ⟨by decide, by decide⟩ rfl rfl rfl rfl (by decide +kernel) (o_nan (by decide +kernel)) (by decide +kernel) rfl rfl rfl rfl (by decide +kernel) rfl) (lenOf pd_1 rfl) rfl (Nat.le_of_eq rfl) (hb hby at_122) rfl (by decide) (by decide) (by decide) (by decide)
  obtain ⟨rfl, N1169q, K1169q, B1169_0, B1169_1, B1169_2⟩ := hQ1169
  have Z1169 : n0 ≤ T1169.heap.size := Nat.le_trans Z1162 K1169q.1
  have N1169 := Fr.app N1162 N1169q
  replace G := o_re (st := []) G rfl
  rcases o_01 hn_w2 with rfl | rfl
  replace G := o_iload (q := 127) G X1169.here hx (hb hby at_125) rfl rfl
  replace G := o_ifYes (q := 135) G X1169.here hx (hb hby at_127) (by decide) (by decide) (by decide)
  replace G := o_aload (q := 137) G X1169.here hx (hb hby at_135) rfl rfl rfl
  replace G := o_iload (q := 139) G X1169.here hx (hb hby at_137) rfl rfl
  have F1176 := (F1170.keep K1169q)
  have F1177 := (B1162_0.keep K1169q (ninS ne1037 (ninS ne1038 (ninS ne1039 nin0))))
  have F1178 := (B1162_1.keep K1169q (ninS ne1037 (ninS ne1038 (ninS ne1039 nin0))))
  have F1179 := (B1162_2.keep K1169q (ninS ne1037 (ninS ne1038 (ninS ne1039 nin0))))
  have F1180 := (B1162_4.keep K1169q (ninS ne1037 (ninS ne1038 (ninS ne1039 nin0))))
  obtain ⟨T1175, _, Lc1175, X1175, hQ1175, G⟩ := o_vb (q := 142) (W := 0) (argsL := [(.int 1)]) (rest := []) (y := (⟨o_n0, "bump", "(I)V"⟩ : MethodName)) G X1169 hx hZ hown (by rw [hml]; rfl) ⟨(o_w hw 35 rfl), (o_w hw 36 rfl), (o_w hw 38 rfl), (o_w hw 37 rfl), (o_w hw 39 rfl), (o_w hw 3 rfl)⟩ (by decide) rfl F1176 (rm6f1f l Z a0 hw [] b1035 (1 : Int32) va_1036 vh_1036 vx_1036 ka_1036 kh_1036 kx_1036 (0 : Int32) (1 : Int32) (2 : Int32) [(.double o_d1), (.double 0), (.double o_d0)] [(.int 0), (.int 1), (.int 2)] [(.int 0), (.int 1), (.int 2)] o_d1 [(.double o_d1), (.double o_d1), (.double o_d0)] (0 : UInt64) o_d1 o_d1 o_d1 T1169.heap n0 Z1169 F1176 F1177 F1178 F1179 F1180 B1169_0 B1169_1 B1169_2 ge_va_1036 ge_vh_1036 ge_vx_1036 ne1037 ne1038 ne1039 B1036_8 B1036_9 B1036_10 ⟨by decide, by decide⟩ ⟨by decide, by decide⟩ ⟨by decide, by decide⟩ rfl rfl rfl rfl (by decide +kernel) (o_nan (by decide +kernel)) (by decide +kernel) rfl rfl rfl rfl (by decide +kernel) rfl) (lenOf pd_1 rfl) rfl (Nat.le_of_eq rfl) (hb hby at_139) rfl (by decide) (by decide) (by decide) (by decide)
  obtain ⟨rfl, N1175q, K1175q, B1175_0, B1175_1, B1175_2⟩ := hQ1175
  have Z1175 : n0 ≤ T1175.heap.size := Nat.le_trans Z1169 K1175q.1
  have N1175 := Fr.app N1169 N1175q
  replace G := o_re (st := []) G rfl
  replace G := o_iconst (q := 143) G X1175.here hx (hb hby at_142) (v := (3 : Int32)) (by decide) rfl
  obtain ⟨T1181, h1181, k1181, X1181, e1181, E1181, A1181, st1181⟩ := newP X1175 hx hZ (o_w hw 15 rfl) rfl (g := o_g G) rfl (hb hby at_143) rfl (by decide) (cap := 3) (by decide) (by decide) (by decide) (by decide)
  obtain ⟨b1181, g1181⟩ : ∃ z, z = T1175.heap.size := ⟨_, rfl⟩
  rw [← g1181] at A1181 st1181
  have ne1182 : vx_1036 ≠ b1181 := Nat.ne_of_lt (Nat.lt_of_lt_of_le B1175_2.lt (Nat.le_of_eq g1181.symm))
  have ne1183 : vh_1036 ≠ b1181 := Nat.ne_of_lt (Nat.lt_of_lt_of_le B1175_1.lt (Nat.le_of_eq g1181.symm))
  have ne1184 : va_1036 ≠ b1181 := Nat.ne_of_lt (Nat.lt_of_lt_of_le B1175_0.lt (Nat.le_of_eq g1181.symm))
  have F1185 := (F1180.keep K1175q (ninS ne1037 (ninS ne1038 (ninS ne1039 nin0))))
  have ne1186 : b1035 ≠ b1181 := Nat.ne_of_lt (Nat.lt_of_lt_of_le F1185.lt (Nat.le_of_eq g1181.symm))
  have ge_b1181 : n0 ≤ b1181 := Nat.le_trans Z1175 (Nat.le_of_eq g1181.symm)
  have Z1181 : n0 ≤ h1181.size := Nat.le_trans Z1175 E1181.1
  have V1181 : Arv Z h1181 b1181 k1181 .int 3 [(.int 0), (.int 0), (.int 0)] (.int 0) := (Arv.new A1181 (by decide)).pad (pad_rep [] (.int 0) 3)
  replace G := o_nxs (q := 145) (st := [(.ref b1181)]) G st1181 rfl
  replace G := o_astore (q := 147) (l' := #[.val (.int i0), .val (.int i1), .val (.int 4), .val (.int 2), .val (.int 0), .val (.int 1), .val (.int 0), .val (.int 1), .val (.int 1), .val (.int 0), .val (.ref b1035), .val (.ref b1181), .unset, .unset, .unset, .unset]) G X1181.here hx (hb hby at_145) rfl rfl rfl
  replace G := o_aload (q := 149) G X1181.here hx (hb hby at_147) rfl rfl rfl
  replace G := o_iloadN (q := 150) G X1181.here hx (hb hby at_149) rfl rfl
  replace G := o_iconst (q := 151) G X1181.here hx (hb hby at_150) (v := (0 : Int32)) (by decide) rfl
  obtain ⟨c1187, Ar1187, q1187, S1187, N1187', H1187, G1187'⟩ := id V1181
  have hin1187 : ¬ ((2 : Int32) < 0 ∨ c1187.slots.size ≤ ((2 : Int32)).toNatClampNeg) := inb_of S1187 ⟨by decide, by decide⟩
  obtain ⟨T1187, h1187, X1187, e1187, W1187, st1187⟩ := stI X1181 hx hZ e1181 Ar1187 (j := (2 : Int32)) hin1187 (g := o_g G) rfl rfl (hb hby at_151)
  have N1187 := Fr.snoc X1187 N1175 ge_b1181
  have Z1187 : n0 ≤ h1187.size := Nat.le_trans Z1181 (Keep.of_wr W1187).1
  have V1187 : Arv Z h1187 b1181 k1181 .int 3 [(.int 0), (.int 0), (.int 0)] (.int 0) := Arv.set Ar1187 q1187 S1187 N1187' H1187 G1187' rfl W1187 2 rfl (Nat.le_of_ble_eq_true rfl)
  replace G := o_nxs (q := 152) (st := []) G st1187 rfl
  replace G := o_aload (q := 154) G X1187.here hx (hb hby at_152) rfl rfl rfl
  replace G := o_iload (q := 156) G X1187.here hx (hb hby at_154) rfl rfl
  replace G := o_iload (q := 158) G X1187.here hx (hb hby at_156) rfl rfl
  replace G := o_ifNo (q := 161) G X1187.here hx (hb hby at_158) (by decide) rfl
  replace G := o_iconst (q := 162) G X1187.here hx (hb hby at_161) (v := (1 : Int32)) (by decide) rfl
  replace G := o_goto (q := 166) G X1187.here hx (hb hby at_162) (by decide) (by decide)
  obtain ⟨c1189, Ar1189, q1189, S1189, N1189', H1189, G1189'⟩ := id V1187
  have hin1189 : ¬ ((0 : Int32) < 0 ∨ c1189.slots.size ≤ ((0 : Int32)).toNatClampNeg) := inb_of S1189 ⟨by decide, by decide⟩
  obtain ⟨T1189, h1189, X1189, e1189, W1189, st1189⟩ := stI X1187 hx hZ e1187 Ar1189 (j := (0 : Int32)) hin1189 (g := o_g G) rfl rfl (hb hby at_166)
  have N1189 := Fr.snoc X1189 N1187 ge_b1181
  have Z1189 : n0 ≤ h1189.size := Nat.le_trans Z1187 (Keep.of_wr W1189).1
  have V1189 : Arv Z h1189 b1181 k1181 .int 3 [(.int 1), (.int 0), (.int 0)] (.int 0) := Arv.set Ar1189 q1189 S1189 N1189' H1189 G1189' rfl W1189 0 rfl (Nat.le_of_ble_eq_true rfl)
  replace G := o_nxs (q := 167) (st := []) G st1189 rfl
  replace G := o_aload (q := 169) G X1189.here hx (hb hby at_167) rfl rfl rfl
  replace G := o_iload (q := 171) G X1189.here hx (hb hby at_169) rfl rfl
  replace G := o_aload (q := 173) G X1189.here hx (hb hby at_171) rfl rfl rfl
  replace G := o_iload (q := 175) G X1189.here hx (hb hby at_173) rfl rfl
  obtain ⟨c1190, Ar1190, -, S1190, -, H1190, -⟩ := id V1189
  have hin1190 : ¬ ((0 : Int32) < 0 ∨ c1190.slots.size ≤ ((0 : Int32)).toNatClampNeg) := inb_of S1190 ⟨by decide, by decide⟩
  replace G := o_nxs (q := 176) (st := [(.int 1), (.int 1), (.ref b1181)]) G (X1189.iaload hx (j := (0 : Int32)) (v := (.int 1)) (by rw [e1189]; exact Ar1190.1) (State.isArrayOf_alike hZ.alike Ar1190.2.1) Ar1190.2.2 hin1190 (Has.at H1190 hin1190 rfl) (g := o_g G) rfl rfl (hb hby at_175)) rfl
  replace G := o_iload (q := 178) G X1189.here hx (hb hby at_176) rfl rfl
  replace G := o_ifYes (q := 185) G X1189.here hx (hb hby at_178) (by decide) (by decide) (by decide)
  replace G := o_iconst (q := 186) G X1189.here hx (hb hby at_185) (v := (0 : Int32)) (by decide) rfl
  replace G := o_iadd (q := 187) G X1189.here hx (hb hby at_186) (by decide : ((1 : Int32) + (0 : Int32)) = (1 : Int32)) rfl
  obtain ⟨c1192, Ar1192, q1192, S1192, N1192', H1192, G1192'⟩ := id V1189
  have hin1192 : ¬ ((1 : Int32) < 0 ∨ c1192.slots.size ≤ ((1 : Int32)).toNatClampNeg) := inb_of S1192 ⟨by decide, by decide⟩
  obtain ⟨T1192, h1192, X1192, e1192, W1192, st1192⟩ := stI X1189 hx hZ e1189 Ar1192 (j := (1 : Int32)) hin1192 (g := o_g G) rfl rfl (hb hby at_187)
  have N1192 := Fr.snoc X1192 N1189 ge_b1181
  have Z1192 : n0 ≤ h1192.size := Nat.le_trans Z1189 (Keep.of_wr W1192).1
  have V1192 : Arv Z h1192 b1181 k1181 .int 3 [(.int 1), (.int 1), (.int 0)] (.int 0) := Arv.set Ar1192 q1192 S1192 N1192' H1192 G1192' rfl W1192 1 rfl (Nat.le_of_ble_eq_true rfl)
  replace G := o_nxs (q := 188) (st := []) G st1192 rfl
  replace G := o_aload (q := 190) G X1192.here hx (hb hby at_188) rfl rfl rfl
  have F1194 := (((((F1176.keep K1175q).ext E1181).wr W1187).wr W1189).wr W1192)
  have F1195 := (((((F1177.keep K1175q (ninS ne1037 (ninS ne1038 (ninS ne1039 nin0)))).ext E1181).other W1187 (Or.inl ne1186)).other W1189 (Or.inl ne1186)).other W1192 (Or.inl ne1186))
  have F1196 := (((((F1178.keep K1175q (ninS ne1037 (ninS ne1038 (ninS ne1039 nin0)))).ext E1181).other W1187 (Or.inl ne1186)).other W1189 (Or.inl ne1186)).other W1192 (Or.inl ne1186))
  have F1197 := (((((F1179.keep K1175q (ninS ne1037 (ninS ne1038 (ninS ne1039 nin0)))).ext E1181).other W1187 (Or.inl ne1186)).other W1189 (Or.inl ne1186)).other W1192 (Or.inl ne1186))
  have F1198 := ((((((B1162_3.keep K1169q (ninS ne1037 (ninS ne1038 (ninS ne1039 nin0)))).keep K1175q (ninS ne1037 (ninS ne1038 (ninS ne1039 nin0)))).ext E1181).other W1187 (Or.inl ne1186)).other W1189 (Or.inl ne1186)).other W1192 (Or.inl ne1186))
  have F1199 := ((((F1185.ext E1181).other W1187 (Or.inl ne1186)).other W1189 (Or.inl ne1186)).other W1192 (Or.inl ne1186))
  have F1200 := ((((B1175_0.ext E1181).other W1187 ne1184).other W1189 ne1184).other W1192 ne1184)
  have F1201 := ((((B1175_1.ext E1181).other W1187 ne1183).other W1189 ne1183).other W1192 ne1183)
  have F1202 := ((((B1175_2.ext E1181).other W1187 ne1182).other W1189 ne1182).other W1192 ne1182)
  obtain ⟨T1193, _, Lc1193, X1193, hQ1193, G⟩ := o_vb (q := 193) (W := 0) (argsL := []) (rest := []) (y := (⟨o_n0, "takeFirst", "()I"⟩ : MethodName)) G X1192 hx hZ hown (by rw [hml]; rfl) ⟨(o_w hw 47 rfl), (o_w hw 48 rfl), (o_w hw 50 rfl), (o_w hw 49 rfl), (o_w hw 51 rfl), (o_w hw 3 rfl)⟩ (by decide) e1192 F1194 (rm8n3t l Z a0 hw [] b1035 va_1036 vh_1036 vx_1036 ka_1036 kh_1036 kx_1036 (0 : Int32) (1 : Int32) (2 : Int32) [(.double o_d1), (.double o_d1), (.double o_d0)] [(.int 0), (.int 1), (.int 2)] [(.int (-1)), (.int 0), (.int 1)] o_d1 o_d0 o_d1 h1192 n0 Z1192 F1194 F1195 F1196 F1197 F1198 F1199 F1200 F1201 F1202 ge_b1035 ge_vh_1036 ge_vx_1036 ne1037 ne1038 ne1039 B1036_8 B1036_9 B1036_10 ⟨by decide, by decide⟩ ⟨by decide, by decide⟩ ⟨by decide, by decide⟩ rfl rfl rfl (by decide +kernel) rfl) (lenOf pd_3 rfl) rfl (Nat.le_of_eq rfl) (hb hby at_190) rfl (by decide) (by decide) (by decide) (by decide)
  obtain ⟨rfl, N1193q, K1193q, B1193_0, B1193_1, B1193_2, B1193_3, B1193_4, B1193_5, B1193_6⟩ := hQ1193
  have Z1193 : n0 ≤ T1193.heap.size := Nat.le_trans Z1192 K1193q.1
  have N1193 := Fr.app N1192 N1193q
  replace G := o_re (st := [(.int 0)]) G rfl
  replace G := o_istore (q := 195) (l' := #[.val (.int i0), .val (.int i1), .val (.int 4), .val (.int 2), .val (.int 0), .val (.int 1), .val (.int 0), .val (.int 1), .val (.int 1), .val (.int 0), .val (.ref b1035), .val (.ref b1181), .val (.int 0), .unset, .unset, .unset]) G X1193.here hx (hb hby at_193) rfl rfl
  replace G := o_aload (q := 197) G X1193.here hx (hb hby at_195) rfl rfl rfl
  have F1204 := (F1194.keep K1193q)
  have F1205 := (F1200.keep K1193q (ninS (Ne.symm ne1037) (ninS B1036_8 (ninS B1036_9 nin0))))
  obtain ⟨T1203, _, Lc1203, X1203, hQ1203, G⟩ := o_vb (q := 200) (W := 0) (argsL := []) (rest := []) (y := (⟨o_n0, "takeFirst", "()I"⟩ : MethodName)) G X1193 hx hZ hown (by rw [hml]; rfl) ⟨(o_w hw 47 rfl), (o_w hw 48 rfl), (o_w hw 50 rfl), (o_w hw 49 rfl), (o_w hw 51 rfl), (o_w hw 3 rfl)⟩ (by decide) rfl F1204 (rm8n2 l Z a0 hw [] b1035 va_1036 vh_1036 vx_1036 ka_1036 kh_1036 kx_1036 (1 : Int32) (2 : Int32) (2 : Int32) [(.double o_d1), (.double o_d1), (.double o_d0)] [(.int (-1)), (.int 0), (.int 1)] [(.int (-1)), (.int (-1)), (.int 0)] o_d1 T1193.heap n0 Z1193 F1204 B1193_0 B1193_1 B1193_2 B1193_3 B1193_4 F1205 B1193_5 B1193_6 ge_b1035 ge_vh_1036 ge_vx_1036 ne1037 ne1038 ne1039 B1036_8 B1036_9 B1036_10 ⟨by decide, by decide⟩ ⟨by decide, by decide⟩ rfl rfl) (lenOf pd_3 rfl) rfl (Nat.le_of_eq rfl) (hb hby at_197) rfl (by decide) (by decide) (by decide) (by decide)
  obtain ⟨rfl, N1203q, K1203q, B1203_0, B1203_1, B1203_2, B1203_3, B1203_4, B1203_5, B1203_6⟩ := hQ1203
  have Z1203 : n0 ≤ T1203.heap.size := Nat.le_trans Z1193 K1203q.1
  have N1203 := Fr.app N1193 N1203q
  replace G := o_re (st := [(.int 1)]) G rfl
  replace G := o_istore (q := 202) (l' := #[.val (.int i0), .val (.int i1), .val (.int 4), .val (.int 2), .val (.int 0), .val (.int 1), .val (.int 0), .val (.int 1), .val (.int 1), .val (.int 0), .val (.ref b1035), .val (.ref b1181), .val (.int 0), .val (.int 1), .unset, .unset]) G X1203.here hx (hb hby at_200) rfl rfl
  replace G := o_aload (q := 204) G X1203.here hx (hb hby at_202) rfl rfl rfl
  have F1207 := (F1204.keep K1203q)
  have F1208 := (F1205.keep K1203q (ninS (Ne.symm ne1037) (ninS B1036_8 (ninS B1036_9 nin0))))
  obtain ⟨T1206, _, Lc1206, X1206, hQ1206, G⟩ := o_vb (q := 207) (W := 0) (argsL := []) (rest := []) (y := (⟨o_n0, "takeFirst", "()I"⟩ : MethodName)) G X1203 hx hZ hown (by rw [hml]; rfl) ⟨(o_w hw 47 rfl), (o_w hw 48 rfl), (o_w hw 50 rfl), (o_w hw 49 rfl), (o_w hw 51 rfl), (o_w hw 3 rfl)⟩ (by decide) rfl F1207 (rm8n1 l Z a0 hw [] b1035 va_1036 vh_1036 vx_1036 ka_1036 kh_1036 kx_1036 (2 : Int32) (2 : Int32) (2 : Int32) [(.double o_d1), (.double o_d1), (.double o_d0)] [(.int (-1)), (.int (-1)), (.int 0)] [(.int (-1)), (.int (-1)), (.int (-1))] o_d1 T1203.heap n0 Z1203 F1207 B1203_0 B1203_1 B1203_2 B1203_3 B1203_4 F1208 B1203_5 B1203_6 ge_b1035 ge_vh_1036 ge_vx_1036 ne1037 ne1038 ne1039 B1036_8 B1036_9 B1036_10 ⟨by decide, by decide⟩ rfl rfl) (lenOf pd_3 rfl) rfl (Nat.le_of_eq rfl) (hb hby at_204) rfl (by decide) (by decide) (by decide) (by decide)
  obtain ⟨rfl, N1206q, K1206q, B1206_0, B1206_1, B1206_2, B1206_3, B1206_4, B1206_5, B1206_6⟩ := hQ1206
  have Z1206 : n0 ≤ T1206.heap.size := Nat.le_trans Z1203 K1206q.1
  have N1206 := Fr.app N1203 N1206q
  replace G := o_re (st := [(.int 2)]) G rfl
  replace G := o_istore (q := 209) (l' := #[.val (.int i0), .val (.int i1), .val (.int 4), .val (.int 2), .val (.int 0), .val (.int 1), .val (.int 0), .val (.int 1), .val (.int 1), .val (.int 0), .val (.ref b1035), .val (.ref b1181), .val (.int 0), .val (.int 1), .val (.int 2), .unset]) G X1206.here hx (hb hby at_207) rfl rfl
  replace G := o_iload (q := 211) G X1206.here hx (hb hby at_209) rfl rfl
  replace G := o_ifNo (q := 214) G X1206.here hx (hb hby at_211) (by decide) rfl
  replace G := o_iload (q := 216) G X1206.here hx (hb hby at_214) rfl rfl
  replace G := o_iconst (q := 217) G X1206.here hx (hb hby at_216) (v := (3 : Int32)) (by decide) rfl
  replace G := o_icmpNo (q := 220) G X1206.here hx (hb hby at_217) (by decide) rfl
  replace G := o_iload (q := 222) G X1206.here hx (hb hby at_220) rfl rfl
  replace G := o_ifNo (q := 225) G X1206.here hx (hb hby at_222) (by decide) rfl
  replace G := o_iload (q := 227) G X1206.here hx (hb hby at_225) rfl rfl
  replace G := o_iconst (q := 228) G X1206.here hx (hb hby at_227) (v := (3 : Int32)) (by decide) rfl
  replace G := o_icmpNo (q := 231) G X1206.here hx (hb hby at_228) (by decide) rfl
  replace G := o_iload (q := 233) G X1206.here hx (hb hby at_231) rfl rfl
  replace G := o_ifNo (q := 236) G X1206.here hx (hb hby at_233) (by decide) rfl
  replace G := o_iload (q := 238) G X1206.here hx (hb hby at_236) rfl rfl
  replace G := o_iconst (q := 239) G X1206.here hx (hb hby at_238) (v := (3 : Int32)) (by decide) rfl
  replace G := o_icmpNo (q := 242) G X1206.here hx (hb hby at_239) (by decide) rfl
  replace G := o_iload (q := 244) G X1206.here hx (hb hby at_242) rfl rfl
  replace G := o_iload (q := 246) G X1206.here hx (hb hby at_244) rfl rfl
  replace G := o_icmpNo (q := 249) G X1206.here hx (hb hby at_246) (by decide) rfl
  replace G := o_iload (q := 251) G X1206.here hx (hb hby at_249) rfl rfl
  replace G := o_iload (q := 253) G X1206.here hx (hb hby at_251) rfl rfl
  replace G := o_icmpNo (q := 256) G X1206.here hx (hb hby at_253) (by decide) rfl
  replace G := o_iload (q := 258) G X1206.here hx (hb hby at_256) rfl rfl
  replace G := o_iload (q := 260) G X1206.here hx (hb hby at_258) rfl rfl
  replace G := o_icmpNo (q := 263) G X1206.here hx (hb hby at_260) (by decide) rfl
  replace G := o_iconst (q := 264) G X1206.here hx (hb hby at_263) (v := (1 : Int32)) (by decide) rfl
  replace G := o_goto (q := 268) G X1206.here hx (hb hby at_264) (by decide) (by decide)
  replace G := o_istore (q := 270) (l' := #[.val (.int i0), .val (.int i1), .val (.int 4), .val (.int 2), .val (.int 0), .val (.int 1), .val (.int 0), .val (.int 1), .val (.int 1), .val (.int 0), .val (.ref b1035), .val (.ref b1181), .val (.int 0), .val (.int 1), .val (.int 2), .val (.int 1)]) G X1206.here hx (hb hby at_268) rfl rfl
  replace G := o_iload (q := 272) G X1206.here hx (hb hby at_270) rfl rfl
  replace G := o_ifNo (q := 275) G X1206.here hx (hb hby at_272) (by decide) rfl
  replace G := o_aload (q := 277) G X1206.here hx (hb hby at_275) rfl rfl rfl
  replace G := o_iload (q := 279) G X1206.here hx (hb hby at_277) rfl rfl
  replace G := o_iload (q := 281) G X1206.here hx (hb hby at_279) rfl rfl
  have F1220 := (((V1192.keep K1193q (ninS (Ne.symm ne1186) (ninS (Ne.symm ne1183) (ninS (Ne.symm ne1182) nin0)))).keep K1203q (ninS (Ne.symm ne1186) (ninS (Ne.symm ne1183) (ninS (Ne.symm ne1182) nin0)))).keep K1206q (ninS (Ne.symm ne1186) (ninS (Ne.symm ne1183) (ninS (Ne.symm ne1182) nin0))))
  obtain ⟨_, _, ⟨T1219, L1219, kk1219, nn1219⟩, -, X1219, ⟨Lc1219, hQ1219, l1219, y1219, z1219⟩, st1219⟩ := Jvm.LawKit.callS X1206 hx (y := (⟨o_n1, "before", "([III)Z"⟩ : MethodName)) hown (mvT hZ (o_w hw 56 rfl)) (mvT hZ (o_w hw 57 rfl)) (mvT hZ (o_w hw 58 rfl)) (mvT hZ (o_w hw 59 rfl)) (by decide) (backOf (W := 0) (rm10 l Z a0 hw [] b1181 (0 : Int32) (1 : Int32) k1181 [(.int 1), (.int 1), (.int 0)] (1 : Int32) (1 : Int32) T1206.heap n0 Z1206 F1220 ⟨by decide, by decide⟩ ⟨by decide, by decide⟩ rfl rfl) hZ (o_w hw 59 rfl) (o_w hw 58 rfl) (by decide) (by decide)) (g := o_g G) rfl (by rw [hml]; rfl) (argsL := [(.ref b1181), (.int 0), (.int 1)]) (rest := []) (lenOf pd_4 rfl) rfl (by show 2 * 0 + _ ≤ _; exact Nat.le_of_eq rfl) (hb hby at_281) (fun _ _ => ⟨rfl, rfl, (by decide : 5 + 0 ≤ _), (by decide : 17 + 0 ≤ _)⟩)
  dsimp only [Pt.U, Pt.locs, Pt.cells, Pt.slots] at X1219 l1219 y1219 z1219 st1219 hQ1219
  subst l1219 y1219 z1219
  obtain ⟨rfl, N1219q, e1219⟩ := hQ1219
  have N1219 := Fr.app N1206 N1219q
  replace G := o_nxs (q := 284) (st := [(.int (o_lb (1 : Int32) (1 : Int32) (0 : Int32) (1 : Int32)))]) G st1219 rfl
  replace G := o_ifNo (q := 287) G X1219.here hx (hb hby at_284) (by decide) rfl
  replace G := o_aload (q := 289) G X1219.here hx (hb hby at_287) rfl rfl rfl
  replace G := o_iload (q := 291) G X1219.here hx (hb hby at_289) rfl rfl
  replace G := o_iload (q := 293) G X1219.here hx (hb hby at_291) rfl rfl
  obtain ⟨_, _, ⟨T1222, L1222, kk1222, nn1222⟩, -, X1222, ⟨Lc1222, hQ1222, l1222, y1222, z1222⟩, st1222⟩ := Jvm.LawKit.callS X1219 hx (y := (⟨o_n1, "before", "([III)Z"⟩ : MethodName)) hown (mvT hZ (o_w hw 56 rfl)) (mvT hZ (o_w hw 57 rfl)) (mvT hZ (o_w hw 58 rfl)) (mvT hZ (o_w hw 59 rfl)) (by decide) (backOf (W := 0) (rm10 l Z a0 hw [] b1181 (1 : Int32) (2 : Int32) k1181 [(.int 1), (.int 1), (.int 0)] (1 : Int32) (0 : Int32) T1206.heap n0 Z1206 F1220 ⟨by decide, by decide⟩ ⟨by decide, by decide⟩ rfl rfl) hZ (o_w hw 59 rfl) (o_w hw 58 rfl) (by decide) (by decide)) (g := o_g G) rfl (by rw [hml]; rfl) (argsL := [(.ref b1181), (.int 1), (.int 2)]) (rest := []) (lenOf pd_4 rfl) rfl (by show 2 * 0 + _ ≤ _; exact Nat.le_of_eq rfl) (hb hby at_293) (fun _ _ => ⟨rfl, e1219, (by decide : 5 + 0 ≤ _), (by decide : 17 + 0 ≤ _)⟩)
  dsimp only [Pt.U, Pt.locs, Pt.cells, Pt.slots] at X1222 l1222 y1222 z1222 st1222 hQ1222
  subst l1222 y1222 z1222
  obtain ⟨rfl, N1222q, e1222⟩ := hQ1222
  have N1222 := Fr.app N1219 N1222q
  replace G := o_nxs (q := 296) (st := [(.int (o_lb (1 : Int32) (0 : Int32) (1 : Int32) (2 : Int32)))]) G st1222 rfl
  replace G := o_ifNo (q := 299) G X1222.here hx (hb hby at_296) (by decide) rfl
  replace G := o_aload (q := 301) G X1222.here hx (hb hby at_299) rfl rfl rfl
  have F1225 := (F1207.keep K1206q)
  obtain ⟨T1224, _, Lc1224, X1224, hQ1224, G⟩ := o_vb (q := 304) (W := 0) (argsL := []) (rest := []) (y := (⟨o_n0, "isEmpty", "()Z"⟩ : MethodName)) G X1222 hx hZ hown (by rw [hml]; rfl) ⟨(o_w hw 60 rfl), (o_w hw 61 rfl), (o_w hw 63 rfl), (o_w hw 62 rfl), (o_w hw 64 rfl), (o_w hw 3 rfl)⟩ (by decide) e1222 F1225 (rm11 l Z a0 hw [] b1035 T1206.heap n0 Z1206 B1206_3) (lenOf pd_5 rfl) rfl (Nat.le_of_eq rfl) (hb hby at_301) rfl (by decide) (by decide) (by decide) (by decide)
  obtain ⟨rfl, N1224q, e1224⟩ := hQ1224
  have N1224 := Fr.app N1222 N1224q
  replace G := o_re (st := [(.int 1)]) G rfl
  replace G := o_ifNo (q := 307) G X1224.here hx (hb hby at_304) (by decide) rfl
  replace G := o_iconst (q := 308) G X1224.here hx (hb hby at_307) (v := (1 : Int32)) (by decide) rfl
  replace G := o_goto (q := 312) G X1224.here hx (hb hby at_308) (by decide) (by decide)
  obtain ⟨fs, hr, hrun, hended, hW, hsame⟩ := X1224.leave (v := some (.int 1)) (fun h => by rw [Bd.returns] at h; cases h)
  refine ⟨_, _, G _ (retOut X1224 hx Bd.returns rfl (Or.inl ⟨rfl, Or.inr (Or.inl rfl), _, rfl⟩) (hb hby at_312) hr), hrun, hended, _, _, rfl, ?_, ⟨_, rfl⟩, hW, hsame.mono (by decide) (by decide)⟩
  show Q0 Z i0 i1 h0 n0 _ T1224.heap _
  rw [e1224]
  exact ⟨rfl, N1224⟩
  replace G := o_iload (q := 127) G X1169.here hx (hb hby at_125) rfl rfl
  replace G := o_ifNo (q := 130) G X1169.here hx (hb hby at_127) (by decide) rfl
  replace G := o_aload (q := 132) G X1169.here hx (hb hby at_130) rfl rfl rfl
  have F1229 := (F1170.keep K1169q)
  have F1230 := (B1162_0.keep K1169q (ninS ne1037 (ninS ne1038 (ninS ne1039 nin0))))
  have F1231 := (B1162_1.keep K1169q (ninS ne1037 (ninS ne1038 (ninS ne1039 nin0))))
  have F1232 := (B1162_2.keep K1169q (ninS ne1037 (ninS ne1038 (ninS ne1039 nin0))))
  have F1233 := (B1162_3.keep K1169q (ninS ne1037 (ninS ne1038 (ninS ne1039 nin0))))
  have F1234 := (B1162_4.keep K1169q (ninS ne1037 (ninS ne1038 (ninS ne1039 nin0))))
  obtain ⟨T1228, _, Lc1228, X1228, hQ1228, G⟩ := o_vb (q := 135) (W := 0) (argsL := []) (rest := []) (y := (⟨o_n0, "decay", "()V"⟩ : MethodName)) G X1169 hx hZ hown (by rw [hml]; rfl) ⟨(o_w hw 41 rfl), (o_w hw 42 rfl), (o_w hw 44 rfl), (o_w hw 43 rfl), (o_w hw 45 rfl), (o_w hw 3 rfl)⟩ (by decide) rfl F1229 (rm7 l Z a0 hw [] b1035 va_1036 vh_1036 vx_1036 o_d1 o_d2 (3 : Int32) T1169.heap n0 Z1169 F1229 F1230 F1231 F1232 F1233 F1234 ge_b1035 (by decide +kernel) (o_nan (by decide +kernel))) (lenOf pd_6 rfl) rfl (Nat.le_of_eq rfl) (hb hby at_132) rfl (by decide) (by decide) (by decide) (by decide)
  obtain ⟨rfl, N1228q, K1228q, B1228_0, B1228_1, B1228_2, B1228_3, B1228_4⟩ := hQ1228
  have Z1228 : n0 ≤ T1228.heap.size := Nat.le_trans Z1169 K1228q.1
  have N1228 := Fr.app N1169 N1228q
  replace G := o_re (st := []) G rfl
  replace G := o_aload (q := 137) G X1228.here hx (hb hby at_135) rfl rfl rfl
  replace G := o_iload (q := 139) G X1228.here hx (hb hby at_137) rfl rfl
  have F1236 := (F1229.keep K1228q)
  have F1237 := (B1169_0.keep K1228q (ninS (Ne.symm ne1037) nin0))
  have F1238 := (B1169_1.keep K1228q (ninS (Ne.symm ne1038) nin0))
  have F1239 := (B1169_2.keep K1228q (ninS (Ne.symm ne1039) nin0))
  obtain ⟨T1235, _, Lc1235, X1235, hQ1235, G⟩ := o_vb (q := 142) (W := 0) (argsL := [(.int 1)]) (rest := []) (y := (⟨o_n0, "bump", "(I)V"⟩ : MethodName)) G X1228 hx hZ hown (by rw [hml]; rfl) ⟨(o_w hw 35 rfl), (o_w hw 36 rfl), (o_w hw 38 rfl), (o_w hw 37 rfl), (o_w hw 39 rfl), (o_w hw 3 rfl)⟩ (by decide) rfl F1236 (rm6f1t l Z a0 hw [] b1035 (1 : Int32) va_1036 vh_1036 vx_1036 ka_1036 kh_1036 kx_1036 (0 : Int32) (1 : Int32) (2 : Int32) [(.double o_d1), (.double 0), (.double o_d0)] [(.int 0), (.int 1), (.int 2)] [(.int 1), (.int 0), (.int 2)] o_d2 [(.double o_d1), (.double o_d2), (.double o_d0)] (0 : UInt64) o_d2 o_d1 o_d2 T1228.heap n0 Z1228 F1236 B1228_0 B1228_1 B1228_2 B1228_4 F1237 F1238 F1239 ge_va_1036 ge_vh_1036 ge_vx_1036 ne1037 ne1038 ne1039 B1036_8 B1036_9 B1036_10 ⟨by decide, by decide⟩ ⟨by decide, by decide⟩ ⟨by decide, by decide⟩ rfl rfl rfl rfl (by decide +kernel) (o_nan (by decide +kernel)) (by decide +kernel) rfl rfl rfl rfl (by decide +kernel) rfl) (lenOf pd_1 rfl) rfl (Nat.le_of_eq rfl) (hb hby at_139) rfl (by decide) (by decide) (by decide) (by decide)
  obtain ⟨rfl, N1235q, K1235q, B1235_0, B1235_1, B1235_2⟩ := hQ1235
  have Z1235 : n0 ≤ T1235.heap.size := Nat.le_trans Z1228 K1235q.1
  have N1235 := Fr.app N1228 N1235q
  replace G := o_re (st := []) G rfl
  replace G := o_iconst (q := 143) G X1235.here hx (hb hby at_142) (v := (3 : Int32)) (by decide) rfl
  obtain ⟨T1240, h1240, k1240, X1240, e1240, E1240, A1240, st1240⟩ := newP X1235 hx hZ (o_w hw 15 rfl) rfl (g := o_g G) rfl (hb hby at_143) rfl (by decide) (cap := 3) (by decide) (by decide) (by decide) (by decide)
  obtain ⟨b1240, g1240⟩ : ∃ z, z = T1235.heap.size := ⟨_, rfl⟩
  rw [← g1240] at A1240 st1240
  have ne1241 : vx_1036 ≠ b1240 := Nat.ne_of_lt (Nat.lt_of_lt_of_le B1235_2.lt (Nat.le_of_eq g1240.symm))
  have ne1242 : vh_1036 ≠ b1240 := Nat.ne_of_lt (Nat.lt_of_lt_of_le B1235_1.lt (Nat.le_of_eq g1240.symm))
  have ne1243 : va_1036 ≠ b1240 := Nat.ne_of_lt (Nat.lt_of_lt_of_le B1235_0.lt (Nat.le_of_eq g1240.symm))
  have F1244 := (B1228_4.keep K1235q (ninS ne1037 (ninS ne1038 (ninS ne1039 nin0))))
  have ne1245 : b1035 ≠ b1240 := Nat.ne_of_lt (Nat.lt_of_lt_of_le F1244.lt (Nat.le_of_eq g1240.symm))
  have ge_b1240 : n0 ≤ b1240 := Nat.le_trans Z1235 (Nat.le_of_eq g1240.symm)
  have Z1240 : n0 ≤ h1240.size := Nat.le_trans Z1235 E1240.1
  have V1240 : Arv Z h1240 b1240 k1240 .int 3 [(.int 0), (.int 0), (.int 0)] (.int 0) := (Arv.new A1240 (by decide)).pad (pad_rep [] (.int 0) 3)
  replace G := o_nxs (q := 145) (st := [(.ref b1240)]) G st1240 rfl
  replace G := o_astore (q := 147) (l' := #[.val (.int i0), .val (.int i1), .val (.int 4), .val (.int 2), .val (.int 0), .val (.int 1), .val (.int 0), .val (.int 1), .val (.int 1), .val (.int 1), .val (.ref b1035), .val (.ref b1240), .unset, .unset, .unset, .unset]) G X1240.here hx (hb hby at_145) rfl rfl rfl
  replace G := o_aload (q := 149) G X1240.here hx (hb hby at_147) rfl rfl rfl
  replace G := o_iloadN (q := 150) G X1240.here hx (hb hby at_149) rfl rfl
  replace G := o_iconst (q := 151) G X1240.here hx (hb hby at_150) (v := (0 : Int32)) (by decide) rfl
  obtain ⟨c1246, Ar1246, q1246, S1246, N1246', H1246, G1246'⟩ := id V1240
  have hin1246 : ¬ ((2 : Int32) < 0 ∨ c1246.slots.size ≤ ((2 : Int32)).toNatClampNeg) := inb_of S1246 ⟨by decide, by decide⟩
  obtain ⟨T1246, h1246, X1246, e1246, W1246, st1246⟩ := stI X1240 hx hZ e1240 Ar1246 (j := (2 : Int32)) hin1246 (g := o_g G) rfl rfl (hb hby at_151)
  have N1246 := Fr.snoc X1246 N1235 ge_b1240
  have Z1246 : n0 ≤ h1246.size := Nat.le_trans Z1240 (Keep.of_wr W1246).1
  have V1246 : Arv Z h1246 b1240 k1240 .int 3 [(.int 0), (.int 0), (.int 0)] (.int 0) := Arv.set Ar1246 q1246 S1246 N1246' H1246 G1246' rfl W1246 2 rfl (Nat.le_of_ble_eq_true rfl)
  replace G := o_nxs (q := 152) (st := []) G st1246 rfl
  replace G := o_aload (q := 154) G X1246.here hx (hb hby at_152) rfl rfl rfl
  replace G := o_iload (q := 156) G X1246.here hx (hb hby at_154) rfl rfl
  replace G := o_iload (q := 158) G X1246.here hx (hb hby at_156) rfl rfl
  replace G := o_ifNo (q := 161) G X1246.here hx (hb hby at_158) (by decide) rfl
  replace G := o_iconst (q := 162) G X1246.here hx (hb hby at_161) (v := (1 : Int32)) (by decide) rfl
  replace G := o_goto (q := 166) G X1246.here hx (hb hby at_162) (by decide) (by decide)
  obtain ⟨c1248, Ar1248, q1248, S1248, N1248', H1248, G1248'⟩ := id V1246
  have hin1248 : ¬ ((0 : Int32) < 0 ∨ c1248.slots.size ≤ ((0 : Int32)).toNatClampNeg) := inb_of S1248 ⟨by decide, by decide⟩
  obtain ⟨T1248, h1248, X1248, e1248, W1248, st1248⟩ := stI X1246 hx hZ e1246 Ar1248 (j := (0 : Int32)) hin1248 (g := o_g G) rfl rfl (hb hby at_166)
  have N1248 := Fr.snoc X1248 N1246 ge_b1240
  have Z1248 : n0 ≤ h1248.size := Nat.le_trans Z1246 (Keep.of_wr W1248).1
  have V1248 : Arv Z h1248 b1240 k1240 .int 3 [(.int 1), (.int 0), (.int 0)] (.int 0) := Arv.set Ar1248 q1248 S1248 N1248' H1248 G1248' rfl W1248 0 rfl (Nat.le_of_ble_eq_true rfl)
  replace G := o_nxs (q := 167) (st := []) G st1248 rfl
  replace G := o_aload (q := 169) G X1248.here hx (hb hby at_167) rfl rfl rfl
  replace G := o_iload (q := 171) G X1248.here hx (hb hby at_169) rfl rfl
  replace G := o_aload (q := 173) G X1248.here hx (hb hby at_171) rfl rfl rfl
  replace G := o_iload (q := 175) G X1248.here hx (hb hby at_173) rfl rfl
  obtain ⟨c1249, Ar1249, -, S1249, -, H1249, -⟩ := id V1248
  have hin1249 : ¬ ((0 : Int32) < 0 ∨ c1249.slots.size ≤ ((0 : Int32)).toNatClampNeg) := inb_of S1249 ⟨by decide, by decide⟩
  replace G := o_nxs (q := 176) (st := [(.int 1), (.int 1), (.ref b1240)]) G (X1248.iaload hx (j := (0 : Int32)) (v := (.int 1)) (by rw [e1248]; exact Ar1249.1) (State.isArrayOf_alike hZ.alike Ar1249.2.1) Ar1249.2.2 hin1249 (Has.at H1249 hin1249 rfl) (g := o_g G) rfl rfl (hb hby at_175)) rfl
  replace G := o_iload (q := 178) G X1248.here hx (hb hby at_176) rfl rfl
  replace G := o_ifNo (q := 181) G X1248.here hx (hb hby at_178) (by decide) rfl
  replace G := o_iconst (q := 182) G X1248.here hx (hb hby at_181) (v := (1 : Int32)) (by decide) rfl
  replace G := o_goto (q := 186) G X1248.here hx (hb hby at_182) (by decide) (by decide)
  replace G := o_iadd (q := 187) G X1248.here hx (hb hby at_186) (by decide : ((1 : Int32) + (1 : Int32)) = (2 : Int32)) rfl
  obtain ⟨c1251, Ar1251, q1251, S1251, N1251', H1251, G1251'⟩ := id V1248
  have hin1251 : ¬ ((1 : Int32) < 0 ∨ c1251.slots.size ≤ ((1 : Int32)).toNatClampNeg) := inb_of S1251 ⟨by decide, by decide⟩
  obtain ⟨T1251, h1251, X1251, e1251, W1251, st1251⟩ := stI X1248 hx hZ e1248 Ar1251 (j := (1 : Int32)) hin1251 (g := o_g G) rfl rfl (hb hby at_187)
  have N1251 := Fr.snoc X1251 N1248 ge_b1240
  have Z1251 : n0 ≤ h1251.size := Nat.le_trans Z1248 (Keep.of_wr W1251).1
  have V1251 : Arv Z h1251 b1240 k1240 .int 3 [(.int 1), (.int 2), (.int 0)] (.int 0) := Arv.set Ar1251 q1251 S1251 N1251' H1251 G1251' rfl W1251 1 rfl (Nat.le_of_ble_eq_true rfl)
  replace G := o_nxs (q := 188) (st := []) G st1251 rfl
  replace G := o_aload (q := 190) G X1251.here hx (hb hby at_188) rfl rfl rfl
  have F1253 := (((((F1236.keep K1235q).ext E1240).wr W1246).wr W1248).wr W1251)
  have F1254 := (((((B1228_0.keep K1235q (ninS ne1037 (ninS ne1038 (ninS ne1039 nin0)))).ext E1240).other W1246 (Or.inl ne1245)).other W1248 (Or.inl ne1245)).other W1251 (Or.inl ne1245))
  have F1255 := (((((B1228_1.keep K1235q (ninS ne1037 (ninS ne1038 (ninS ne1039 nin0)))).ext E1240).other W1246 (Or.inl ne1245)).other W1248 (Or.inl ne1245)).other W1251 (Or.inl ne1245))
  have F1256 := (((((B1228_2.keep K1235q (ninS ne1037 (ninS ne1038 (ninS ne1039 nin0)))).ext E1240).other W1246 (Or.inl ne1245)).other W1248 (Or.inl ne1245)).other W1251 (Or.inl ne1245))
  have F1257 := (((((B1228_3.keep K1235q (ninS ne1037 (ninS ne1038 (ninS ne1039 nin0)))).ext E1240).other W1246 (Or.inl ne1245)).other W1248 (Or.inl ne1245)).other W1251 (Or.inl ne1245))
  have F1258 := ((((F1244.ext E1240).other W1246 (Or.inl ne1245)).other W1248 (Or.inl ne1245)).other W1251 (Or.inl ne1245))
  have F1259 := ((((B1235_0.ext E1240).other W1246 ne1243).other W1248 ne1243).other W1251 ne1243)
  have F1260 := ((((B1235_1.ext E1240).other W1246 ne1242).other W1248 ne1242).other W1251 ne1242)
  have F1261 := ((((B1235_2.ext E1240).other W1246 ne1241).other W1248 ne1241).other W1251 ne1241)
  obtain ⟨T1252, _, Lc1252, X1252, hQ1252, G⟩ := o_vb (q := 193) (W := 0) (argsL := []) (rest := []) (y := (⟨o_n0, "takeFirst", "()I"⟩ : MethodName)) G X1251 hx hZ hown (by rw [hml]; rfl) ⟨(o_w hw 47 rfl), (o_w hw 48 rfl), (o_w hw 50 rfl), (o_w hw 49 rfl), (o_w hw 51 rfl), (o_w hw 3 rfl)⟩ (by decide) e1251 F1253 (rm8n3t l Z a0 hw [] b1035 va_1036 vh_1036 vx_1036 ka_1036 kh_1036 kx_1036 (1 : Int32) (0 : Int32) (2 : Int32) [(.double o_d1), (.double o_d2), (.double o_d0)] [(.int 1), (.int 0), (.int 2)] [(.int 0), (.int (-1)), (.int 1)] o_d2 o_d0 o_d1 h1251 n0 Z1251 F1253 F1254 F1255 F1256 F1257 F1258 F1259 F1260 F1261 ge_b1035 ge_vh_1036 ge_vx_1036 ne1037 ne1038 ne1039 B1036_8 B1036_9 B1036_10 ⟨by decide, by decide⟩ ⟨by decide, by decide⟩ ⟨by decide, by decide⟩ rfl rfl rfl (by decide +kernel) rfl) (lenOf pd_3 rfl) rfl (Nat.le_of_eq rfl) (hb hby at_190) rfl (by decide) (by decide) (by decide) (by decide)
  obtain ⟨rfl, N1252q, K1252q, B1252_0, B1252_1, B1252_2, B1252_3, B1252_4, B1252_5, B1252_6⟩ := hQ1252
  have Z1252 : n0 ≤ T1252.heap.size := Nat.le_trans Z1251 K1252q.1
  have N1252 := Fr.app N1251 N1252q
  replace G := o_re (st := [(.int 1)]) G rfl
  replace G := o_istore (q := 195) (l' := #[.val (.int i0), .val (.int i1), .val (.int 4), .val (.int 2), .val (.int 0), .val (.int 1), .val (.int 0), .val (.int 1), .val (.int 1), .val (.int 1), .val (.ref b1035), .val (.ref b1240), .val (.int 1), .unset, .unset, .unset]) G X1252.here hx (hb hby at_193) rfl rfl
  replace G := o_aload (q := 197) G X1252.here hx (hb hby at_195) rfl rfl rfl
  have F1263 := (F1253.keep K1252q)
  have F1264 := (F1259.keep K1252q (ninS (Ne.symm ne1037) (ninS B1036_8 (ninS B1036_9 nin0))))
  obtain ⟨T1262, _, Lc1262, X1262, hQ1262, G⟩ := o_vb (q := 200) (W := 0) (argsL := []) (rest := []) (y := (⟨o_n0, "takeFirst", "()I"⟩ : MethodName)) G X1252 hx hZ hown (by rw [hml]; rfl) ⟨(o_w hw 47 rfl), (o_w hw 48 rfl), (o_w hw 50 rfl), (o_w hw 49 rfl), (o_w hw 51 rfl), (o_w hw 3 rfl)⟩ (by decide) rfl F1263 (rm8n2 l Z a0 hw [] b1035 va_1036 vh_1036 vx_1036 ka_1036 kh_1036 kx_1036 (0 : Int32) (2 : Int32) (2 : Int32) [(.double o_d1), (.double o_d2), (.double o_d0)] [(.int 0), (.int (-1)), (.int 1)] [(.int (-1)), (.int (-1)), (.int 0)] o_d2 T1252.heap n0 Z1252 F1263 B1252_0 B1252_1 B1252_2 B1252_3 B1252_4 F1264 B1252_5 B1252_6 ge_b1035 ge_vh_1036 ge_vx_1036 ne1037 ne1038 ne1039 B1036_8 B1036_9 B1036_10 ⟨by decide, by decide⟩ ⟨by decide, by decide⟩ rfl rfl) (lenOf pd_3 rfl) rfl (Nat.le_of_eq rfl) (hb hby at_197) rfl (by decide) (by decide) (by decide) (by decide)
  obtain ⟨rfl, N1262q, K1262q, B1262_0, B1262_1, B1262_2, B1262_3, B1262_4, B1262_5, B1262_6⟩ := hQ1262
  have Z1262 : n0 ≤ T1262.heap.size := Nat.le_trans Z1252 K1262q.1
  have N1262 := Fr.app N1252 N1262q
  replace G := o_re (st := [(.int 0)]) G rfl
  replace G := o_istore (q := 202) (l' := #[.val (.int i0), .val (.int i1), .val (.int 4), .val (.int 2), .val (.int 0), .val (.int 1), .val (.int 0), .val (.int 1), .val (.int 1), .val (.int 1), .val (.ref b1035), .val (.ref b1240), .val (.int 1), .val (.int 0), .unset, .unset]) G X1262.here hx (hb hby at_200) rfl rfl
  replace G := o_aload (q := 204) G X1262.here hx (hb hby at_202) rfl rfl rfl
  have F1266 := (F1263.keep K1262q)
  have F1267 := (F1264.keep K1262q (ninS (Ne.symm ne1037) (ninS B1036_8 (ninS B1036_9 nin0))))
  obtain ⟨T1265, _, Lc1265, X1265, hQ1265, G⟩ := o_vb (q := 207) (W := 0) (argsL := []) (rest := []) (y := (⟨o_n0, "takeFirst", "()I"⟩ : MethodName)) G X1262 hx hZ hown (by rw [hml]; rfl) ⟨(o_w hw 47 rfl), (o_w hw 48 rfl), (o_w hw 50 rfl), (o_w hw 49 rfl), (o_w hw 51 rfl), (o_w hw 3 rfl)⟩ (by decide) rfl F1266 (rm8n1 l Z a0 hw [] b1035 va_1036 vh_1036 vx_1036 ka_1036 kh_1036 kx_1036 (2 : Int32) (2 : Int32) (2 : Int32) [(.double o_d1), (.double o_d2), (.double o_d0)] [(.int (-1)), (.int (-1)), (.int 0)] [(.int (-1)), (.int (-1)), (.int (-1))] o_d2 T1262.heap n0 Z1262 F1266 B1262_0 B1262_1 B1262_2 B1262_3 B1262_4 F1267 B1262_5 B1262_6 ge_b1035 ge_vh_1036 ge_vx_1036 ne1037 ne1038 ne1039 B1036_8 B1036_9 B1036_10 ⟨by decide, by decide⟩ rfl rfl) (lenOf pd_3 rfl) rfl (Nat.le_of_eq rfl) (hb hby at_204) rfl (by decide) (by decide) (by decide) (by decide)
  obtain ⟨rfl, N1265q, K1265q, B1265_0, B1265_1, B1265_2, B1265_3, B1265_4, B1265_5, B1265_6⟩ := hQ1265
  have Z1265 : n0 ≤ T1265.heap.size := Nat.le_trans Z1262 K1265q.1
  have N1265 := Fr.app N1262 N1265q
  replace G := o_re (st := [(.int 2)]) G rfl
  replace G := o_istore (q := 209) (l' := #[.val (.int i0), .val (.int i1), .val (.int 4), .val (.int 2), .val (.int 0), .val (.int 1), .val (.int 0), .val (.int 1), .val (.int 1), .val (.int 1), .val (.ref b1035), .val (.ref b1240), .val (.int 1), .val (.int 0), .val (.int 2), .unset]) G X1265.here hx (hb hby at_207) rfl rfl
  replace G := o_iload (q := 211) G X1265.here hx (hb hby at_209) rfl rfl
  replace G := o_ifNo (q := 214) G X1265.here hx (hb hby at_211) (by decide) rfl
  replace G := o_iload (q := 216) G X1265.here hx (hb hby at_214) rfl rfl
  replace G := o_iconst (q := 217) G X1265.here hx (hb hby at_216) (v := (3 : Int32)) (by decide) rfl
  replace G := o_icmpNo (q := 220) G X1265.here hx (hb hby at_217) (by decide) rfl
  replace G := o_iload (q := 222) G X1265.here hx (hb hby at_220) rfl rfl
  replace G := o_ifNo (q := 225) G X1265.here hx (hb hby at_222) (by decide) rfl
  replace G := o_iload (q := 227) G X1265.here hx (hb hby at_225) rfl rfl
  replace G := o_iconst (q := 228) G X1265.here hx (hb hby at_227) (v := (3 : Int32)) (by decide) rfl
  replace G := o_icmpNo (q := 231) G X1265.here hx (hb hby at_228) (by decide) rfl
  replace G := o_iload (q := 233) G X1265.here hx (hb hby at_231) rfl rfl
  replace G := o_ifNo (q := 236) G X1265.here hx (hb hby at_233) (by decide) rfl
  replace G := o_iload (q := 238) G X1265.here hx (hb hby at_236) rfl rfl
  replace G := o_iconst (q := 239) G X1265.here hx (hb hby at_238) (v := (3 : Int32)) (by decide) rfl
  replace G := o_icmpNo (q := 242) G X1265.here hx (hb hby at_239) (by decide) rfl
  replace G := o_iload (q := 244) G X1265.here hx (hb hby at_242) rfl rfl
  replace G := o_iload (q := 246) G X1265.here hx (hb hby at_244) rfl rfl
  replace G := o_icmpNo (q := 249) G X1265.here hx (hb hby at_246) (by decide) rfl
  replace G := o_iload (q := 251) G X1265.here hx (hb hby at_249) rfl rfl
  replace G := o_iload (q := 253) G X1265.here hx (hb hby at_251) rfl rfl
  replace G := o_icmpNo (q := 256) G X1265.here hx (hb hby at_253) (by decide) rfl
  replace G := o_iload (q := 258) G X1265.here hx (hb hby at_256) rfl rfl
  replace G := o_iload (q := 260) G X1265.here hx (hb hby at_258) rfl rfl
  replace G := o_icmpNo (q := 263) G X1265.here hx (hb hby at_260) (by decide) rfl
  replace G := o_iconst (q := 264) G X1265.here hx (hb hby at_263) (v := (1 : Int32)) (by decide) rfl
  replace G := o_goto (q := 268) G X1265.here hx (hb hby at_264) (by decide) (by decide)
  replace G := o_istore (q := 270) (l' := #[.val (.int i0), .val (.int i1), .val (.int 4), .val (.int 2), .val (.int 0), .val (.int 1), .val (.int 0), .val (.int 1), .val (.int 1), .val (.int 1), .val (.ref b1035), .val (.ref b1240), .val (.int 1), .val (.int 0), .val (.int 2), .val (.int 1)]) G X1265.here hx (hb hby at_268) rfl rfl
  replace G := o_iload (q := 272) G X1265.here hx (hb hby at_270) rfl rfl
  replace G := o_ifNo (q := 275) G X1265.here hx (hb hby at_272) (by decide) rfl
  replace G := o_aload (q := 277) G X1265.here hx (hb hby at_275) rfl rfl rfl
  replace G := o_iload (q := 279) G X1265.here hx (hb hby at_277) rfl rfl
  replace G := o_iload (q := 281) G X1265.here hx (hb hby at_279) rfl rfl
  have F1279 := (((V1251.keep K1252q (ninS (Ne.symm ne1245) (ninS (Ne.symm ne1242) (ninS (Ne.symm ne1241) nin0)))).keep K1262q (ninS (Ne.symm ne1245) (ninS (Ne.symm ne1242) (ninS (Ne.symm ne1241) nin0)))).keep K1265q (ninS (Ne.symm ne1245) (ninS (Ne.symm ne1242) (ninS (Ne.symm ne1241) nin0))))
  obtain ⟨_, _, ⟨T1278, L1278, kk1278, nn1278⟩, -, X1278, ⟨Lc1278, hQ1278, l1278, y1278, z1278⟩, st1278⟩ := Jvm.LawKit.callS X1265 hx (y := (⟨o_n1, "before", "([III)Z"⟩ : MethodName)) hown (mvT hZ (o_w hw 56 rfl)) (mvT hZ (o_w hw 57 rfl)) (mvT hZ (o_w hw 58 rfl)) (mvT hZ (o_w hw 59 rfl)) (by decide) (backOf (W := 0) (rm10 l Z a0 hw [] b1240 (1 : Int32) (0 : Int32) k1240 [(.int 1), (.int 2), (.int 0)] (2 : Int32) (1 : Int32) T1265.heap n0 Z1265 F1279 ⟨by decide, by decide⟩ ⟨by decide, by decide⟩ rfl rfl) hZ (o_w hw 59 rfl) (o_w hw 58 rfl) (by decide) (by decide)) (g := o_g G) rfl (by rw [hml]; rfl) (argsL := [(.ref b1240), (.int 1), (.int 0)]) (rest := []) (lenOf pd_4 rfl) rfl (by show 2 * 0 + _ ≤ _; exact Nat.le_of_eq rfl) (hb hby at_281) (fun _ _ => ⟨rfl, rfl, (by decide : 5 + 0 ≤ _), (by decide : 17 + 0 ≤ _)⟩)
  dsimp only [Pt.U, Pt.locs, Pt.cells, Pt.slots] at X1278 l1278 y1278 z1278 st1278 hQ1278
  subst l1278 y1278 z1278
  obtain ⟨rfl, N1278q, e1278⟩ := hQ1278
  have N1278 := Fr.app N1265 N1278q
  replace G := o_nxs (q := 284) (st := [(.int (o_lb (2 : Int32) (1 : Int32) (1 : Int32) (0 : Int32)))]) G st1278 rfl
  replace G := o_ifNo (q := 287) G X1278.here hx (hb hby at_284) (by decide) rfl
  replace G := o_aload (q := 289) G X1278.here hx (hb hby at_287) rfl rfl rfl
  replace G := o_iload (q := 291) G X1278.here hx (hb hby at_289) rfl rfl
  replace G := o_iload (q := 293) G X1278.here hx (hb hby at_291) rfl rfl
  obtain ⟨_, _, ⟨T1281, L1281, kk1281, nn1281⟩, -, X1281, ⟨Lc1281, hQ1281, l1281, y1281, z1281⟩, st1281⟩ := Jvm.LawKit.callS X1278 hx (y := (⟨o_n1, "before", "([III)Z"⟩ : MethodName)) hown (mvT hZ (o_w hw 56 rfl)) (mvT hZ (o_w hw 57 rfl)) (mvT hZ (o_w hw 58 rfl)) (mvT hZ (o_w hw 59 rfl)) (by decide) (backOf (W := 0) (rm10 l Z a0 hw [] b1240 (0 : Int32) (2 : Int32) k1240 [(.int 1), (.int 2), (.int 0)] (1 : Int32) (0 : Int32) T1265.heap n0 Z1265 F1279 ⟨by decide, by decide⟩ ⟨by decide, by decide⟩ rfl rfl) hZ (o_w hw 59 rfl) (o_w hw 58 rfl) (by decide) (by decide)) (g := o_g G) rfl (by rw [hml]; rfl) (argsL := [(.ref b1240), (.int 0), (.int 2)]) (rest := []) (lenOf pd_4 rfl) rfl (by show 2 * 0 + _ ≤ _; exact Nat.le_of_eq rfl) (hb hby at_293) (fun _ _ => ⟨rfl, e1278, (by decide : 5 + 0 ≤ _), (by decide : 17 + 0 ≤ _)⟩)
  dsimp only [Pt.U, Pt.locs, Pt.cells, Pt.slots] at X1281 l1281 y1281 z1281 st1281 hQ1281
  subst l1281 y1281 z1281
  obtain ⟨rfl, N1281q, e1281⟩ := hQ1281
  have N1281 := Fr.app N1278 N1281q
  replace G := o_nxs (q := 296) (st := [(.int (o_lb (1 : Int32) (0 : Int32) (0 : Int32) (2 : Int32)))]) G st1281 rfl
  replace G := o_ifNo (q := 299) G X1281.here hx (hb hby at_296) (by decide) rfl
  replace G := o_aload (q := 301) G X1281.here hx (hb hby at_299) rfl rfl rfl
  have F1284 := (F1266.keep K1265q)
  obtain ⟨T1283, _, Lc1283, X1283, hQ1283, G⟩ := o_vb (q := 304) (W := 0) (argsL := []) (rest := []) (y := (⟨o_n0, "isEmpty", "()Z"⟩ : MethodName)) G X1281 hx hZ hown (by rw [hml]; rfl) ⟨(o_w hw 60 rfl), (o_w hw 61 rfl), (o_w hw 63 rfl), (o_w hw 62 rfl), (o_w hw 64 rfl), (o_w hw 3 rfl)⟩ (by decide) e1281 F1284 (rm11 l Z a0 hw [] b1035 T1265.heap n0 Z1265 B1265_3) (lenOf pd_5 rfl) rfl (Nat.le_of_eq rfl) (hb hby at_301) rfl (by decide) (by decide) (by decide) (by decide)
  obtain ⟨rfl, N1283q, e1283⟩ := hQ1283
  have N1283 := Fr.app N1281 N1283q
  replace G := o_re (st := [(.int 1)]) G rfl
  replace G := o_ifNo (q := 307) G X1283.here hx (hb hby at_304) (by decide) rfl
  replace G := o_iconst (q := 308) G X1283.here hx (hb hby at_307) (v := (1 : Int32)) (by decide) rfl
  replace G := o_goto (q := 312) G X1283.here hx (hb hby at_308) (by decide) (by decide)
  obtain ⟨fs, hr, hrun, hended, hW, hsame⟩ := X1283.leave (v := some (.int 1)) (fun h => by rw [Bd.returns] at h; cases h)
  refine ⟨_, _, G _ (retOut X1283 hx Bd.returns rfl (Or.inl ⟨rfl, Or.inr (Or.inl rfl), _, rfl⟩) (hb hby at_312) hr), hrun, hended, _, _, rfl, ?_, ⟨_, rfl⟩, hW, hsame.mono (by decide) (by decide)⟩
  show Q0 Z i0 i1 h0 n0 _ T1283.heap _
  rw [e1283]
  exact ⟨rfl, N1283⟩
  replace G := o_istoreN (q := 8) (l' := #[.val (.int i0), .val (.int i1), .val (.int 5), .unset, .unset, .unset, .unset, .unset, .unset, .unset, .unset, .unset, .unset, .unset, .unset, .unset]) G X0.here hx (hb hby at_7) rfl rfl
  replace G := o_iloadN (q := 9) G X0.here hx (hb hby at_8) rfl rfl
  replace G := o_iconst (q := 10) G X0.here hx (hb hby at_9) (v := (2 : Int32)) (by decide) rfl
  replace G := o_idiv (q := 11) G X0.here hx (hb hby at_10) (by decide) (by decide : ((5 : Int32) / (2 : Int32)) = (2 : Int32)) rfl
  replace G := o_istoreN (q := 12) (l' := #[.val (.int i0), .val (.int i1), .val (.int 5), .val (.int 2), .unset, .unset, .unset, .unset, .unset, .unset, .unset, .unset, .unset, .unset, .unset, .unset]) G X0.here hx (hb hby at_11) rfl rfl
  replace G := o_iloadN (q := 13) G X0.here hx (hb hby at_12) rfl rfl
  replace G := o_ifYes (q := 20) G X0.here hx (hb hby at_13) (by decide) (by decide) (by decide)
  replace G := o_iconst (q := 21) G X0.here hx (hb hby at_20) (v := (0 : Int32)) (by decide) rfl
  replace G := o_istore (q := 23) (l' := #[.val (.int i0), .val (.int i1), .val (.int 5), .val (.int 2), .val (.int 0), .unset, .unset, .unset, .unset, .unset, .unset, .unset, .unset, .unset, .unset, .unset]) G X0.here hx (hb hby at_21) rfl rfl
  replace G := o_iloadN (q := 24) G X0.here hx (hb hby at_23) rfl rfl
  replace G := o_iconst (q := 25) G X0.here hx (hb hby at_24) (v := (2 : Int32)) (by decide) rfl
  replace G := o_icmpNo (q := 28) G X0.here hx (hb hby at_25) (by decide) rfl
  replace G := o_iconst (q := 29) G X0.here hx (hb hby at_28) (v := (1 : Int32)) (by decide) rfl
  replace G := o_goto (q := 33) G X0.here hx (hb hby at_29) (by decide) (by decide)
  replace G := o_istore (q := 35) (l' := #[.val (.int i0), .val (.int i1), .val (.int 5), .val (.int 2), .val (.int 0), .val (.int 1), .unset, .unset, .unset, .unset, .unset, .unset, .unset, .unset, .unset, .unset]) G X0.here hx (hb hby at_33) rfl rfl
  replace G := o_iloadN (q := 36) G X0.here hx (hb hby at_35) rfl rfl
  replace G := o_iconst (q := 37) G X0.here hx (hb hby at_36) (v := (1 : Int32)) (by decide) rfl
  replace G := o_iand (q := 38) G X0.here hx (hb hby at_37) (by decide : ((5 : Int32) &&& (1 : Int32)) = (1 : Int32)) rfl
  replace G := o_ifYes (q := 46) G X0.here hx (hb hby at_38) (by decide) (by decide) (by decide)
  replace G := o_iload (q := 48) G X0.here hx (hb hby at_46) rfl rfl
  replace G := o_istore (q := 50) (l' := #[.val (.int i0), .val (.int i1), .val (.int 5), .val (.int 2), .val (.int 0), .val (.int 1), .val (.int 1), .unset, .unset, .unset, .unset, .unset, .unset, .unset, .unset, .unset]) G X0.here hx (hb hby at_48) rfl rfl
  replace G := o_iloadN (q := 51) G X0.here hx (hb hby at_50) rfl rfl
  replace G := o_iconst (q := 52) G X0.here hx (hb hby at_51) (v := (1 : Int32)) (by decide) rfl
  replace G := o_iand (q := 53) G X0.here hx (hb hby at_52) (by decide : ((5 : Int32) &&& (1 : Int32)) = (1 : Int32)) rfl
  replace G := o_ifYes (q := 61) G X0.here hx (hb hby at_53) (by decide) (by decide) (by decide)
  replace G := o_iload (q := 63) G X0.here hx (hb hby at_61) rfl rfl
  replace G := o_istore (q := 65) (l' := #[.val (.int i0), .val (.int i1), .val (.int 5), .val (.int 2), .val (.int 0), .val (.int 1), .val (.int 1), .val (.int 0), .unset, .unset, .unset, .unset, .unset, .unset, .unset, .unset]) G X0.here hx (hb hby at_63) rfl rfl
  replace G := o_iloadN (q := 66) G X0.here hx (hb hby at_65) rfl rfl
  replace G := o_iconst (q := 67) G X0.here hx (hb hby at_66) (v := (1 : Int32)) (by decide) rfl
  obtain ⟨m1, hn_m1⟩ : ∃ z : Int32, (i1 &&& (1 : Int32)) = z := ⟨_, rfl⟩
  replace G := o_iand (q := 68) G X0.here hx (hb hby at_67) hn_m1 rfl
  replace G : Gets p e below (s₁.setTop (entryFrame m #[(.int i0), (.int i1)] maxLocals)) (s₁.setTop (mkF m 76 #[.val (.int i0), .val (.int i1), .val (.int 5), .val (.int 2), .val (.int 0), .val (.int 1), .val (.int 1), .val (.int 0), .unset, .unset, .unset, .unset, .unset, .unset, .unset, .unset] [(.int (if m1 = (0 : Int32) then (0 : Int32) else (1 : Int32)))])) := by
    by_cases hc68_1290 : m1 = (0 : Int32)
    · replace G := o_ifYes (q := 75) G X0.here hx (hb hby at_68) ((if0 _ _).trans (teq hc68_1290).1) (by decide) (by decide)
      replace G := o_iconst (q := 76) G X0.here hx (hb hby at_75) (v := (0 : Int32)) (by decide) rfl
      simp only [if_pos hc68_1290]
      exact G
    · replace G := o_ifNo (q := 71) G X0.here hx (hb hby at_68) ((if0 _ _).trans (feq hc68_1290).1) rfl
      replace G := o_iconst (q := 72) G X0.here hx (hb hby at_71) (v := (1 : Int32)) (by decide) rfl
      replace G := o_goto (q := 76) G X0.here hx (hb hby at_72) (by decide) (by decide)
      simp only [if_neg hc68_1290]
      exact G
  obtain ⟨w1, hn_w1⟩ : ∃ z : Int32, (if m1 = (0 : Int32) then (0 : Int32) else (1 : Int32)) = z := ⟨_, rfl⟩
  rw [hn_w1] at G
  replace G := o_istore (q := 78) (l' := #[.val (.int i0), .val (.int i1), .val (.int 5), .val (.int 2), .val (.int 0), .val (.int 1), .val (.int 1), .val (.int 0), .val (.int w1), .unset, .unset, .unset, .unset, .unset, .unset, .unset]) G X0.here hx (hb hby at_76) rfl rfl
  replace G := o_iloadN (q := 79) G X0.here hx (hb hby at_78) rfl rfl
  replace G := o_iconst (q := 80) G X0.here hx (hb hby at_79) (v := (2 : Int32)) (by decide) rfl
  obtain ⟨m2, hn_m2⟩ : ∃ z : Int32, (i1 &&& (2 : Int32)) = z := ⟨_, rfl⟩
  replace G := o_iand (q := 81) G X0.here hx (hb hby at_80) hn_m2 rfl
  replace G : Gets p e below (s₁.setTop (entryFrame m #[(.int i0), (.int i1)] maxLocals)) (s₁.setTop (mkF m 89 #[.val (.int i0), .val (.int i1), .val (.int 5), .val (.int 2), .val (.int 0), .val (.int 1), .val (.int 1), .val (.int 0), .val (.int w1), .unset, .unset, .unset, .unset, .unset, .unset, .unset] [(.int (if m2 = (0 : Int32) then (0 : Int32) else (1 : Int32)))])) := by
    by_cases hc81_1291 : m2 = (0 : Int32)
    · replace G := o_ifYes (q := 88) G X0.here hx (hb hby at_81) ((if0 _ _).trans (teq hc81_1291).1) (by decide) (by decide)
      replace G := o_iconst (q := 89) G X0.here hx (hb hby at_88) (v := (0 : Int32)) (by decide) rfl
      simp only [if_pos hc81_1291]
      exact G
    · replace G := o_ifNo (q := 84) G X0.here hx (hb hby at_81) ((if0 _ _).trans (feq hc81_1291).1) rfl
      replace G := o_iconst (q := 85) G X0.here hx (hb hby at_84) (v := (1 : Int32)) (by decide) rfl
      replace G := o_goto (q := 89) G X0.here hx (hb hby at_85) (by decide) (by decide)
      simp only [if_neg hc81_1291]
      exact G
  obtain ⟨w2, hn_w2⟩ : ∃ z : Int32, (if m2 = (0 : Int32) then (0 : Int32) else (1 : Int32)) = z := ⟨_, rfl⟩
  rw [hn_w2] at G
  replace G := o_istore (q := 91) (l' := #[.val (.int i0), .val (.int i1), .val (.int 5), .val (.int 2), .val (.int 0), .val (.int 1), .val (.int 1), .val (.int 0), .val (.int w1), .val (.int w2), .unset, .unset, .unset, .unset, .unset, .unset]) G X0.here hx (hb hby at_89) rfl rfl
  obtain ⟨T1292, h1292, X1292, e1292, E1292, A1292, D1292, -, st1292⟩ := newO X0 hx hZ hown (o_w hw 1 rfl) (o_w hw 2 rfl) (o_w hw 3 rfl) e0 (g := o_g G) rfl (hb hby at_91) (by decide) (by decide)
  obtain ⟨b1292, g1292⟩ : ∃ z, z = h0.size := ⟨_, rfl⟩
  rw [← g1292] at A1292 D1292 st1292
  have ge_b1292 : n0 ≤ b1292 := Nat.le_trans Z0 (Nat.le_of_eq g1292.symm)
  have Z1292 : n0 ≤ h1292.size := Nat.le_trans Z0 E1292.1
  have F1292_bump : Fld Z h1292 b1292 o_n0 "bump" "D" (.double 0) := D1292 (Or.inl (o_w hw 11 rfl)) (ty := .double) (by decide)
  have F1292_activity : Fld Z h1292 b1292 o_n0 "activity" "[D" .null := D1292 (Or.inr (o_w hw 14 rfl)) (ty := (.array .double)) (by decide)
  have F1292_heap : Fld Z h1292 b1292 o_n0 "heap" "[I" .null := D1292 (Or.inr (o_w hw 17 rfl)) (ty := (.array .int)) (by decide)
  have F1292_heapIndex : Fld Z h1292 b1292 o_n0 "heapIndex" "[I" .null := D1292 (Or.inr (o_w hw 19 rfl)) (ty := (.array .int)) (by decide)
  have F1292_heapSize : Fld Z h1292 b1292 o_n0 "heapSize" "I" (.int 0) := D1292 (Or.inl (o_w hw 26 rfl)) (ty := .int) (by decide)
  replace G := o_nxs (q := 94) (st := [(.ref b1292)]) G st1292 rfl
  replace G := o_dup (q := 95) G X1292.here hx (hb hby at_94) rfl rfl
  replace G := o_iconst (q := 96) G X1292.here hx (hb hby at_95) (v := (3 : Int32)) (by decide) rfl
  replace G := o_aconst_null (q := 97) G X1292.here hx (hb hby at_96) rfl
  obtain ⟨_, _, ⟨T1293, L1293, kk1293, nn1293⟩, -, X1293, ⟨Lc1293, hQ1293, l1293, y1293, z1293⟩, st1293⟩ := X1292.specialBack hx (y := (⟨o_n0, "<init>", "(ILcom/example/gridwright/gridwright/core/SplitMix64;)V"⟩ : MethodName)) rfl hown (mvT hZ (o_w hw 4 rfl)) (mvT hZ (o_w hw 5 rfl)) (mvT hZ (o_w hw 6 rfl)) (by decide) (backOf (W := 1) (rm1 l Z a0 hw [] b1292 h1292 n0 Z1292 A1292 F1292_activity F1292_heap F1292_heapIndex F1292_heapSize F1292_bump ge_b1292) hZ (o_w hw 6 rfl) (o_w hw 3 rfl) (by decide) (by decide)) (g := o_g G) rfl (by rw [hml]; rfl) (Steps.refl _) (a := b1292) (argsL := [(.int 3), .null]) (rest := [(.ref b1292)]) (lenOf pd_2 rfl) rfl (by show 2 * 0 + _ ≤ _; exact Nat.le_of_eq rfl) (hb hby at_97) (fun _ _ => ⟨rfl, e1292, (by decide : 1 + 3 ≤ _), (by decide : 5 + 9 ≤ _)⟩)
  dsimp only [Pt.U, Pt.locs, Pt.cells, Pt.slots] at X1293 l1293 y1293 z1293 st1293 hQ1293
  subst l1293 y1293 z1293
  obtain ⟨va_1293, vh_1293, vx_1293, ka_1293, kh_1293, kx_1293, rfl, N1293q, K1293q, B1293_0, B1293_1, B1293_2, B1293_3, B1293_4, B1293_5, B1293_6, B1293_7, B1293_8, B1293_9, B1293_10, B1293_11, B1293_12, B1293_13⟩ := hQ1293
  have ne1294 : b1292 ≠ va_1293 := Nat.ne_of_lt (Nat.lt_of_lt_of_le F1292_heapSize.lt B1293_5)
  have ge_va_1293 : n0 ≤ va_1293 := Nat.le_trans Z1292 B1293_5
  have ne1295 : b1292 ≠ vh_1293 := Nat.ne_of_lt (Nat.lt_of_lt_of_le F1292_heapSize.lt B1293_6)
  have ge_vh_1293 : n0 ≤ vh_1293 := Nat.le_trans Z1292 B1293_6
  have ne1296 : b1292 ≠ vx_1293 := Nat.ne_of_lt (Nat.lt_of_lt_of_le F1292_heapSize.lt B1293_7)
  have ge_vx_1293 : n0 ≤ vx_1293 := Nat.le_trans Z1292 B1293_7
  have Z1293 : n0 ≤ T1293.heap.size := Nat.le_trans Z1292 K1293q.1
  have N1293 := Fr.app N0 N1293q
  replace G := o_nxv (q := 100) (st := [(.ref b1292)]) G st1293 rfl
  replace G := o_astore (q := 102) (l' := #[.val (.int i0), .val (.int i1), .val (.int 5), .val (.int 2), .val (.int 0), .val (.int 1), .val (.int 1), .val (.int 0), .val (.int w1), .val (.int w2), .val (.ref b1292), .unset, .unset, .unset, .unset, .unset]) G X1293.here hx (hb hby at_100) rfl rfl rfl
  replace G := o_aload (q := 104) G X1293.here hx (hb hby at_102) rfl rfl rfl
  replace G := o_iloadN (q := 105) G X1293.here hx (hb hby at_104) rfl rfl
  have F1298 := (A1292.keep K1293q)
  obtain ⟨T1297, _, Lc1297, X1297, hQ1297, G⟩ := o_vb (q := 108) (W := 0) (argsL := [(.int 2)]) (rest := []) (y := (⟨o_n0, "bump", "(I)V"⟩ : MethodName)) G X1293 hx hZ hown (by rw [hml]; rfl) ⟨(o_w hw 35 rfl), (o_w hw 36 rfl), (o_w hw 38 rfl), (o_w hw 37 rfl), (o_w hw 39 rfl), (o_w hw 3 rfl)⟩ (by decide) rfl F1298 (rm6f2t l Z a0 hw [] b1292 (2 : Int32) va_1293 vh_1293 vx_1293 ka_1293 kh_1293 kx_1293 (0 : Int32) (1 : Int32) (2 : Int32) [(.double 0), (.double 0), (.double 0)] [(.int 0), (.int 1), (.int 2)] [(.int 2), (.int 1), (.int 0)] o_d0 [(.double 0), (.double 0), (.double o_d0)] (0 : UInt64) o_d0 (0 : UInt64) o_d0 T1293.heap n0 Z1293 F1298 B1293_0 B1293_1 B1293_2 B1293_4 B1293_11 B1293_12 B1293_13 ge_va_1293 ge_vh_1293 ge_vx_1293 ne1294 ne1295 ne1296 B1293_8 B1293_9 B1293_10 ⟨by decide, by decide⟩ ⟨by decide, by decide⟩ ⟨by decide, by decide⟩ rfl rfl rfl rfl (by decide +kernel) (o_nan (by decide +kernel)) (by decide +kernel) rfl rfl rfl rfl (by decide +kernel) rfl) (lenOf pd_1 rfl) rfl (Nat.le_of_eq rfl) (hb hby at_105) rfl (by decide) (by decide) (by decide) (by decide)
  obtain ⟨rfl, N1297q, K1297q, B1297_0, B1297_1, B1297_2⟩ := hQ1297
  have Z1297 : n0 ≤ T1297.heap.size := Nat.le_trans Z1293 K1297q.1
  have N1297 := Fr.app N1293 N1297q
  replace G := o_re (st := []) G rfl
  rcases o_01 hn_w1 with rfl | rfl
  replace G := o_iload (q := 110) G X1297.here hx (hb hby at_108) rfl rfl
  replace G := o_ifYes (q := 118) G X1297.here hx (hb hby at_110) (by decide) (by decide) (by decide)
  replace G := o_aload (q := 120) G X1297.here hx (hb hby at_118) rfl rfl rfl
  replace G := o_iload (q := 122) G X1297.here hx (hb hby at_120) rfl rfl
  have F1301 := (F1298.keep K1297q)
  have F1302 := (B1293_0.keep K1297q (ninS ne1294 (ninS ne1295 (ninS ne1296 nin0))))
  have F1303 := (B1293_1.keep K1297q (ninS ne1294 (ninS ne1295 (ninS ne1296 nin0))))
  have F1304 := (B1293_2.keep K1297q (ninS ne1294 (ninS ne1295 (ninS ne1296 nin0))))
  have F1305 := (B1293_4.keep K1297q (ninS ne1294 (ninS ne1295 (ninS ne1296 nin0))))
  obtain ⟨T1300, _, Lc1300, X1300, hQ1300, G⟩ := o_vb (q := 125) (W := 0) (argsL := [(.int 1)]) (rest := []) (y := (⟨o_n0, "bump", "(I)V"⟩ : MethodName)) G X1297 hx hZ hown (by rw [hml]; rfl) ⟨(o_w hw 35 rfl), (o_w hw 36 rfl), (o_w hw 38 rfl), (o_w hw 37 rfl), (o_w hw 39 rfl), (o_w hw 3 rfl)⟩ (by decide) rfl F1301 (rm6f1t l Z a0 hw [] b1292 (1 : Int32) va_1293 vh_1293 vx_1293 ka_1293 kh_1293 kx_1293 (2 : Int32) (1 : Int32) (0 : Int32) [(.double 0), (.double 0), (.double o_d0)] [(.int 2), (.int 1), (.int 0)] [(.int 2), (.int 0), (.int 1)] o_d0 [(.double 0), (.double o_d0), (.double o_d0)] (0 : UInt64) o_d0 o_d0 o_d0 T1297.heap n0 Z1297 F1301 F1302 F1303 F1304 F1305 B1297_0 B1297_1 B1297_2 ge_va_1293 ge_vh_1293 ge_vx_1293 ne1294 ne1295 ne1296 B1293_8 B1293_9 B1293_10 ⟨by decide, by decide⟩ ⟨by decide, by decide⟩ ⟨by decide, by decide⟩ rfl rfl rfl rfl (by decide +kernel) (o_nan (by decide +kernel)) (by decide +kernel) rfl rfl rfl rfl (by decide +kernel) rfl) (lenOf pd_1 rfl) rfl (Nat.le_of_eq rfl) (hb hby at_122) rfl (by decide) (by decide) (by decide) (by decide)
  obtain ⟨rfl, N1300q, K1300q, B1300_0, B1300_1, B1300_2⟩ := hQ1300
  have Z1300 : n0 ≤ T1300.heap.size := Nat.le_trans Z1297 K1300q.1
  have N1300 := Fr.app N1297 N1300q
  replace G := o_re (st := []) G rfl
  rcases o_01 hn_w2 with rfl | rfl
  replace G := o_iload (q := 127) G X1300.here hx (hb hby at_125) rfl rfl
  replace G := o_ifYes (q := 135) G X1300.here hx (hb hby at_127) (by decide) (by decide) (by decide)
  replace G := o_aload (q := 137) G X1300.here hx (hb hby at_135) rfl rfl rfl
  replace G := o_iload (q := 139) G X1300.here hx (hb hby at_137) rfl rfl
  have F1308 := (F1301.keep K1300q)
  have F1309 := (F1302.keep K1300q (ninS ne1294 (ninS ne1295 (ninS ne1296 nin0))))
  have F1310 := (F1303.keep K1300q (ninS ne1294 (ninS ne1295 (ninS ne1296 nin0))))
  have F1311 := (F1304.keep K1300q (ninS ne1294 (ninS ne1295 (ninS ne1296 nin0))))
  have F1312 := (F1305.keep K1300q (ninS ne1294 (ninS ne1295 (ninS ne1296 nin0))))
  obtain ⟨T1307, _, Lc1307, X1307, hQ1307, G⟩ := o_vb (q := 142) (W := 0) (argsL := [(.int 0)]) (rest := []) (y := (⟨o_n0, "bump", "(I)V"⟩ : MethodName)) G X1300 hx hZ hown (by rw [hml]; rfl) ⟨(o_w hw 35 rfl), (o_w hw 36 rfl), (o_w hw 38 rfl), (o_w hw 37 rfl), (o_w hw 39 rfl), (o_w hw 3 rfl)⟩ (by decide) rfl F1308 (rm6f2t l Z a0 hw [] b1292 (0 : Int32) va_1293 vh_1293 vx_1293 ka_1293 kh_1293 kx_1293 (1 : Int32) (2 : Int32) (0 : Int32) [(.double 0), (.double o_d0), (.double o_d0)] [(.int 2), (.int 0), (.int 1)] [(.int 0), (.int 2), (.int 1)] o_d0 [(.double o_d0), (.double o_d0), (.double o_d0)] (0 : UInt64) o_d0 o_d0 o_d0 T1300.heap n0 Z1300 F1308 F1309 F1310 F1311 F1312 B1300_0 B1300_1 B1300_2 ge_va_1293 ge_vh_1293 ge_vx_1293 ne1294 ne1295 ne1296 B1293_8 B1293_9 B1293_10 ⟨by decide, by decide⟩ ⟨by decide, by decide⟩ ⟨by decide, by decide⟩ rfl rfl rfl rfl (by decide +kernel) (o_nan (by decide +kernel)) (by decide +kernel) rfl rfl rfl rfl (by decide +kernel) rfl) (lenOf pd_1 rfl) rfl (Nat.le_of_eq rfl) (hb hby at_139) rfl (by decide) (by decide) (by decide) (by decide)
  obtain ⟨rfl, N1307q, K1307q, B1307_0, B1307_1, B1307_2⟩ := hQ1307
  have Z1307 : n0 ≤ T1307.heap.size := Nat.le_trans Z1300 K1307q.1
  have N1307 := Fr.app N1300 N1307q
  replace G := o_re (st := []) G rfl
  replace G := o_iconst (q := 143) G X1307.here hx (hb hby at_142) (v := (3 : Int32)) (by decide) rfl
  obtain ⟨T1313, h1313, k1313, X1313, e1313, E1313, A1313, st1313⟩ := newP X1307 hx hZ (o_w hw 15 rfl) rfl (g := o_g G) rfl (hb hby at_143) rfl (by decide) (cap := 3) (by decide) (by decide) (by decide) (by decide)
  obtain ⟨b1313, g1313⟩ : ∃ z, z = T1307.heap.size := ⟨_, rfl⟩
  rw [← g1313] at A1313 st1313
  have ne1314 : vx_1293 ≠ b1313 := Nat.ne_of_lt (Nat.lt_of_lt_of_le B1307_2.lt (Nat.le_of_eq g1313.symm))
  have ne1315 : vh_1293 ≠ b1313 := Nat.ne_of_lt (Nat.lt_of_lt_of_le B1307_1.lt (Nat.le_of_eq g1313.symm))
  have ne1316 : va_1293 ≠ b1313 := Nat.ne_of_lt (Nat.lt_of_lt_of_le B1307_0.lt (Nat.le_of_eq g1313.symm))
  have F1317 := (F1312.keep K1307q (ninS ne1294 (ninS ne1295 (ninS ne1296 nin0))))
  have ne1318 : b1292 ≠ b1313 := Nat.ne_of_lt (Nat.lt_of_lt_of_le F1317.lt (Nat.le_of_eq g1313.symm))
  have ge_b1313 : n0 ≤ b1313 := Nat.le_trans Z1307 (Nat.le_of_eq g1313.symm)
  have Z1313 : n0 ≤ h1313.size := Nat.le_trans Z1307 E1313.1
  have V1313 : Arv Z h1313 b1313 k1313 .int 3 [(.int 0), (.int 0), (.int 0)] (.int 0) := (Arv.new A1313 (by decide)).pad (pad_rep [] (.int 0) 3)
  replace G := o_nxs (q := 145) (st := [(.ref b1313)]) G st1313 rfl
  replace G := o_astore (q := 147) (l' := #[.val (.int i0), .val (.int i1), .val (.int 5), .val (.int 2), .val (.int 0), .val (.int 1), .val (.int 1), .val (.int 0), .val (.int 0), .val (.int 0), .val (.ref b1292), .val (.ref b1313), .unset, .unset, .unset, .unset]) G X1313.here hx (hb hby at_145) rfl rfl rfl
  replace G := o_aload (q := 149) G X1313.here hx (hb hby at_147) rfl rfl rfl
  replace G := o_iloadN (q := 150) G X1313.here hx (hb hby at_149) rfl rfl
  replace G := o_iconst (q := 151) G X1313.here hx (hb hby at_150) (v := (0 : Int32)) (by decide) rfl
  obtain ⟨c1319, Ar1319, q1319, S1319, N1319', H1319, G1319'⟩ := id V1313
  have hin1319 : ¬ ((2 : Int32) < 0 ∨ c1319.slots.size ≤ ((2 : Int32)).toNatClampNeg) := inb_of S1319 ⟨by decide, by decide⟩
  obtain ⟨T1319, h1319, X1319, e1319, W1319, st1319⟩ := stI X1313 hx hZ e1313 Ar1319 (j := (2 : Int32)) hin1319 (g := o_g G) rfl rfl (hb hby at_151)
  have N1319 := Fr.snoc X1319 N1307 ge_b1313
  have Z1319 : n0 ≤ h1319.size := Nat.le_trans Z1313 (Keep.of_wr W1319).1
  have V1319 : Arv Z h1319 b1313 k1313 .int 3 [(.int 0), (.int 0), (.int 0)] (.int 0) := Arv.set Ar1319 q1319 S1319 N1319' H1319 G1319' rfl W1319 2 rfl (Nat.le_of_ble_eq_true rfl)
  replace G := o_nxs (q := 152) (st := []) G st1319 rfl
  replace G := o_aload (q := 154) G X1319.here hx (hb hby at_152) rfl rfl rfl
  replace G := o_iload (q := 156) G X1319.here hx (hb hby at_154) rfl rfl
  replace G := o_iload (q := 158) G X1319.here hx (hb hby at_156) rfl rfl
  replace G := o_ifYes (q := 165) G X1319.here hx (hb hby at_158) (by decide) (by decide) (by decide)
  replace G := o_iconst (q := 166) G X1319.here hx (hb hby at_165) (v := (0 : Int32)) (by decide) rfl
  obtain ⟨c1321, Ar1321, q1321, S1321, N1321', H1321, G1321'⟩ := id V1319
  have hin1321 : ¬ ((1 : Int32) < 0 ∨ c1321.slots.size ≤ ((1 : Int32)).toNatClampNeg) := inb_of S1321 ⟨by decide, by decide⟩
  obtain ⟨T1321, h1321, X1321, e1321, W1321, st1321⟩ := stI X1319 hx hZ e1319 Ar1321 (j := (1 : Int32)) hin1321 (g := o_g G) rfl rfl (hb hby at_166)
  have N1321 := Fr.snoc X1321 N1319 ge_b1313
  have Z1321 : n0 ≤ h1321.size := Nat.le_trans Z1319 (Keep.of_wr W1321).1
  have V1321 : Arv Z h1321 b1313 k1313 .int 3 [(.int 0), (.int 0), (.int 0)] (.int 0) := Arv.set Ar1321 q1321 S1321 N1321' H1321 G1321' rfl W1321 1 rfl (Nat.le_of_ble_eq_true rfl)
  replace G := o_nxs (q := 167) (st := []) G st1321 rfl
  replace G := o_aload (q := 169) G X1321.here hx (hb hby at_167) rfl rfl rfl
  replace G := o_iload (q := 171) G X1321.here hx (hb hby at_169) rfl rfl
  replace G := o_aload (q := 173) G X1321.here hx (hb hby at_171) rfl rfl rfl
  replace G := o_iload (q := 175) G X1321.here hx (hb hby at_173) rfl rfl
  obtain ⟨c1322, Ar1322, -, S1322, -, H1322, -⟩ := id V1321
  have hin1322 : ¬ ((1 : Int32) < 0 ∨ c1322.slots.size ≤ ((1 : Int32)).toNatClampNeg) := inb_of S1322 ⟨by decide, by decide⟩
  replace G := o_nxs (q := 176) (st := [(.int 0), (.int 0), (.ref b1313)]) G (X1321.iaload hx (j := (1 : Int32)) (v := (.int 0)) (by rw [e1321]; exact Ar1322.1) (State.isArrayOf_alike hZ.alike Ar1322.2.1) Ar1322.2.2 hin1322 (Has.at H1322 hin1322 rfl) (g := o_g G) rfl rfl (hb hby at_175)) rfl
  replace G := o_iload (q := 178) G X1321.here hx (hb hby at_176) rfl rfl
  replace G := o_ifYes (q := 185) G X1321.here hx (hb hby at_178) (by decide) (by decide) (by decide)
  replace G := o_iconst (q := 186) G X1321.here hx (hb hby at_185) (v := (0 : Int32)) (by decide) rfl
  replace G := o_iadd (q := 187) G X1321.here hx (hb hby at_186) (by decide : ((0 : Int32) + (0 : Int32)) = (0 : Int32)) rfl
  obtain ⟨c1324, Ar1324, q1324, S1324, N1324', H1324, G1324'⟩ := id V1321
  have hin1324 : ¬ ((0 : Int32) < 0 ∨ c1324.slots.size ≤ ((0 : Int32)).toNatClampNeg) := inb_of S1324 ⟨by decide, by decide⟩
  obtain ⟨T1324, h1324, X1324, e1324, W1324, st1324⟩ := stI X1321 hx hZ e1321 Ar1324 (j := (0 : Int32)) hin1324 (g := o_g G) rfl rfl (hb hby at_187)
  have N1324 := Fr.snoc X1324 N1321 ge_b1313
  have Z1324 : n0 ≤ h1324.size := Nat.le_trans Z1321 (Keep.of_wr W1324).1
  have V1324 : Arv Z h1324 b1313 k1313 .int 3 [(.int 0), (.int 0), (.int 0)] (.int 0) := Arv.set Ar1324 q1324 S1324 N1324' H1324 G1324' rfl W1324 0 rfl (Nat.le_of_ble_eq_true rfl)
  replace G := o_nxs (q := 188) (st := []) G st1324 rfl
  replace G := o_aload (q := 190) G X1324.here hx (hb hby at_188) rfl rfl rfl
  have F1326 := (((((F1308.keep K1307q).ext E1313).wr W1319).wr W1321).wr W1324)
  have F1327 := (((((F1309.keep K1307q (ninS ne1294 (ninS ne1295 (ninS ne1296 nin0)))).ext E1313).other W1319 (Or.inl ne1318)).other W1321 (Or.inl ne1318)).other W1324 (Or.inl ne1318))
  have F1328 := (((((F1310.keep K1307q (ninS ne1294 (ninS ne1295 (ninS ne1296 nin0)))).ext E1313).other W1319 (Or.inl ne1318)).other W1321 (Or.inl ne1318)).other W1324 (Or.inl ne1318))
  have F1329 := (((((F1311.keep K1307q (ninS ne1294 (ninS ne1295 (ninS ne1296 nin0)))).ext E1313).other W1319 (Or.inl ne1318)).other W1321 (Or.inl ne1318)).other W1324 (Or.inl ne1318))
  have F1330 := (((((((B1293_3.keep K1297q (ninS ne1294 (ninS ne1295 (ninS ne1296 nin0)))).keep K1300q (ninS ne1294 (ninS ne1295 (ninS ne1296 nin0)))).keep K1307q (ninS ne1294 (ninS ne1295 (ninS ne1296 nin0)))).ext E1313).other W1319 (Or.inl ne1318)).other W1321 (Or.inl ne1318)).other W1324 (Or.inl ne1318))
  have F1331 := ((((F1317.ext E1313).other W1319 (Or.inl ne1318)).other W1321 (Or.inl ne1318)).other W1324 (Or.inl ne1318))
  have F1332 := ((((B1307_0.ext E1313).other W1319 ne1316).other W1321 ne1316).other W1324 ne1316)
  have F1333 := ((((B1307_1.ext E1313).other W1319 ne1315).other W1321 ne1315).other W1324 ne1315)
  have F1334 := ((((B1307_2.ext E1313).other W1319 ne1314).other W1321 ne1314).other W1324 ne1314)
  obtain ⟨T1325, _, Lc1325, X1325, hQ1325, G⟩ := o_vb (q := 193) (W := 0) (argsL := []) (rest := []) (y := (⟨o_n0, "takeFirst", "()I"⟩ : MethodName)) G X1324 hx hZ hown (by rw [hml]; rfl) ⟨(o_w hw 47 rfl), (o_w hw 48 rfl), (o_w hw 50 rfl), (o_w hw 49 rfl), (o_w hw 51 rfl), (o_w hw 3 rfl)⟩ (by decide) e1324 F1326 (rm8n3f l Z a0 hw [] b1292 va_1293 vh_1293 vx_1293 ka_1293 kh_1293 kx_1293 (0 : Int32) (2 : Int32) (1 : Int32) [(.double o_d0), (.double o_d0), (.double o_d0)] [(.int 0), (.int 2), (.int 1)] [(.int (-1)), (.int 0), (.int 1)] o_d0 o_d0 o_d0 h1324 n0 Z1324 F1326 F1327 F1328 F1329 F1330 F1331 F1332 F1333 F1334 ge_b1292 ge_vh_1293 ge_vx_1293 ne1294 ne1295 ne1296 B1293_8 B1293_9 B1293_10 ⟨by decide, by decide⟩ ⟨by decide, by decide⟩ ⟨by decide, by decide⟩ rfl rfl rfl (by decide +kernel) rfl) (lenOf pd_3 rfl) rfl (Nat.le_of_eq rfl) (hb hby at_190) rfl (by decide) (by decide) (by decide) (by decide)
  obtain ⟨rfl, N1325q, K1325q, B1325_0, B1325_1, B1325_2, B1325_3, B1325_4, B1325_5, B1325_6⟩ := hQ1325
  have Z1325 : n0 ≤ T1325.heap.size := Nat.le_trans Z1324 K1325q.1
  have N1325 := Fr.app N1324 N1325q
  replace G := o_re (st := [(.int 0)]) G rfl
  replace G := o_istore (q := 195) (l' := #[.val (.int i0), .val (.int i1), .val (.int 5), .val (.int 2), .val (.int 0), .val (.int 1), .val (.int 1), .val (.int 0), .val (.int 0), .val (.int 0), .val (.ref b1292), .val (.ref b1313), .val (.int 0), .unset, .unset, .unset]) G X1325.here hx (hb hby at_193) rfl rfl
  replace G := o_aload (q := 197) G X1325.here hx (hb hby at_195) rfl rfl rfl
  have F1336 := (F1326.keep K1325q)
  have F1337 := (F1332.keep K1325q (ninS (Ne.symm ne1294) (ninS B1293_8 (ninS B1293_9 nin0))))
  obtain ⟨T1335, _, Lc1335, X1335, hQ1335, G⟩ := o_vb (q := 200) (W := 0) (argsL := []) (rest := []) (y := (⟨o_n0, "takeFirst", "()I"⟩ : MethodName)) G X1325 hx hZ hown (by rw [hml]; rfl) ⟨(o_w hw 47 rfl), (o_w hw 48 rfl), (o_w hw 50 rfl), (o_w hw 49 rfl), (o_w hw 51 rfl), (o_w hw 3 rfl)⟩ (by decide) rfl F1336 (rm8n2 l Z a0 hw [] b1292 va_1293 vh_1293 vx_1293 ka_1293 kh_1293 kx_1293 (1 : Int32) (2 : Int32) (1 : Int32) [(.double o_d0), (.double o_d0), (.double o_d0)] [(.int (-1)), (.int 0), (.int 1)] [(.int (-1)), (.int (-1)), (.int 0)] o_d0 T1325.heap n0 Z1325 F1336 B1325_0 B1325_1 B1325_2 B1325_3 B1325_4 F1337 B1325_5 B1325_6 ge_b1292 ge_vh_1293 ge_vx_1293 ne1294 ne1295 ne1296 B1293_8 B1293_9 B1293_10 ⟨by decide, by decide⟩ ⟨by decide, by decide⟩ rfl rfl) (lenOf pd_3 rfl) rfl (Nat.le_of_eq rfl) (hb hby at_197) rfl (by decide) (by decide) (by decide) (by decide)
  obtain ⟨rfl, N1335q, K1335q, B1335_0, B1335_1, B1335_2, B1335_3, B1335_4, B1335_5, B1335_6⟩ := hQ1335
  have Z1335 : n0 ≤ T1335.heap.size := Nat.le_trans Z1325 K1335q.1
  have N1335 := Fr.app N1325 N1335q
  replace G := o_re (st := [(.int 1)]) G rfl
  replace G := o_istore (q := 202) (l' := #[.val (.int i0), .val (.int i1), .val (.int 5), .val (.int 2), .val (.int 0), .val (.int 1), .val (.int 1), .val (.int 0), .val (.int 0), .val (.int 0), .val (.ref b1292), .val (.ref b1313), .val (.int 0), .val (.int 1), .unset, .unset]) G X1335.here hx (hb hby at_200) rfl rfl
  replace G := o_aload (q := 204) G X1335.here hx (hb hby at_202) rfl rfl rfl
  have F1339 := (F1336.keep K1335q)
  have F1340 := (F1337.keep K1335q (ninS (Ne.symm ne1294) (ninS B1293_8 (ninS B1293_9 nin0))))
  obtain ⟨T1338, _, Lc1338, X1338, hQ1338, G⟩ := o_vb (q := 207) (W := 0) (argsL := []) (rest := []) (y := (⟨o_n0, "takeFirst", "()I"⟩ : MethodName)) G X1335 hx hZ hown (by rw [hml]; rfl) ⟨(o_w hw 47 rfl), (o_w hw 48 rfl), (o_w hw 50 rfl), (o_w hw 49 rfl), (o_w hw 51 rfl), (o_w hw 3 rfl)⟩ (by decide) rfl F1339 (rm8n1 l Z a0 hw [] b1292 va_1293 vh_1293 vx_1293 ka_1293 kh_1293 kx_1293 (2 : Int32) (2 : Int32) (1 : Int32) [(.double o_d0), (.double o_d0), (.double o_d0)] [(.int (-1)), (.int (-1)), (.int 0)] [(.int (-1)), (.int (-1)), (.int (-1))] o_d0 T1335.heap n0 Z1335 F1339 B1335_0 B1335_1 B1335_2 B1335_3 B1335_4 F1340 B1335_5 B1335_6 ge_b1292 ge_vh_1293 ge_vx_1293 ne1294 ne1295 ne1296 B1293_8 B1293_9 B1293_10 ⟨by decide, by decide⟩ rfl rfl) (lenOf pd_3 rfl) rfl (Nat.le_of_eq rfl) (hb hby at_204) rfl (by decide) (by decide) (by decide) (by decide)
  obtain ⟨rfl, N1338q, K1338q, B1338_0, B1338_1, B1338_2, B1338_3, B1338_4, B1338_5, B1338_6⟩ := hQ1338
  have Z1338 : n0 ≤ T1338.heap.size := Nat.le_trans Z1335 K1338q.1
  have N1338 := Fr.app N1335 N1338q
  replace G := o_re (st := [(.int 2)]) G rfl
  replace G := o_istore (q := 209) (l' := #[.val (.int i0), .val (.int i1), .val (.int 5), .val (.int 2), .val (.int 0), .val (.int 1), .val (.int 1), .val (.int 0), .val (.int 0), .val (.int 0), .val (.ref b1292), .val (.ref b1313), .val (.int 0), .val (.int 1), .val (.int 2), .unset]) G X1338.here hx (hb hby at_207) rfl rfl
  replace G := o_iload (q := 211) G X1338.here hx (hb hby at_209) rfl rfl
  replace G := o_ifNo (q := 214) G X1338.here hx (hb hby at_211) (by decide) rfl
  replace G := o_iload (q := 216) G X1338.here hx (hb hby at_214) rfl rfl
  replace G := o_iconst (q := 217) G X1338.here hx (hb hby at_216) (v := (3 : Int32)) (by decide) rfl
  replace G := o_icmpNo (q := 220) G X1338.here hx (hb hby at_217) (by decide) rfl
  replace G := o_iload (q := 222) G X1338.here hx (hb hby at_220) rfl rfl
  replace G := o_ifNo (q := 225) G X1338.here hx (hb hby at_222) (by decide) rfl
  replace G := o_iload (q := 227) G X1338.here hx (hb hby at_225) rfl rfl
  replace G := o_iconst (q := 228) G X1338.here hx (hb hby at_227) (v := (3 : Int32)) (by decide) rfl
  replace G := o_icmpNo (q := 231) G X1338.here hx (hb hby at_228) (by decide) rfl
  replace G := o_iload (q := 233) G X1338.here hx (hb hby at_231) rfl rfl
  replace G := o_ifNo (q := 236) G X1338.here hx (hb hby at_233) (by decide) rfl
  replace G := o_iload (q := 238) G X1338.here hx (hb hby at_236) rfl rfl
  replace G := o_iconst (q := 239) G X1338.here hx (hb hby at_238) (v := (3 : Int32)) (by decide) rfl
  replace G := o_icmpNo (q := 242) G X1338.here hx (hb hby at_239) (by decide) rfl
  replace G := o_iload (q := 244) G X1338.here hx (hb hby at_242) rfl rfl
  replace G := o_iload (q := 246) G X1338.here hx (hb hby at_244) rfl rfl
  replace G := o_icmpNo (q := 249) G X1338.here hx (hb hby at_246) (by decide) rfl
  replace G := o_iload (q := 251) G X1338.here hx (hb hby at_249) rfl rfl
  replace G := o_iload (q := 253) G X1338.here hx (hb hby at_251) rfl rfl
  replace G := o_icmpNo (q := 256) G X1338.here hx (hb hby at_253) (by decide) rfl
  replace G := o_iload (q := 258) G X1338.here hx (hb hby at_256) rfl rfl
  replace G := o_iload (q := 260) G X1338.here hx (hb hby at_258) rfl rfl
  replace G := o_icmpNo (q := 263) G X1338.here hx (hb hby at_260) (by decide) rfl
  replace G := o_iconst (q := 264) G X1338.here hx (hb hby at_263) (v := (1 : Int32)) (by decide) rfl
  replace G := o_goto (q := 268) G X1338.here hx (hb hby at_264) (by decide) (by decide)
  replace G := o_istore (q := 270) (l' := #[.val (.int i0), .val (.int i1), .val (.int 5), .val (.int 2), .val (.int 0), .val (.int 1), .val (.int 1), .val (.int 0), .val (.int 0), .val (.int 0), .val (.ref b1292), .val (.ref b1313), .val (.int 0), .val (.int 1), .val (.int 2), .val (.int 1)]) G X1338.here hx (hb hby at_268) rfl rfl
  replace G := o_iload (q := 272) G X1338.here hx (hb hby at_270) rfl rfl
  replace G := o_ifNo (q := 275) G X1338.here hx (hb hby at_272) (by decide) rfl
  replace G := o_aload (q := 277) G X1338.here hx (hb hby at_275) rfl rfl rfl
  replace G := o_iload (q := 279) G X1338.here hx (hb hby at_277) rfl rfl
  replace G := o_iload (q := 281) G X1338.here hx (hb hby at_279) rfl rfl
  have F1352 := (((V1324.keep K1325q (ninS (Ne.symm ne1318) (ninS (Ne.symm ne1315) (ninS (Ne.symm ne1314) nin0)))).keep K1335q (ninS (Ne.symm ne1318) (ninS (Ne.symm ne1315) (ninS (Ne.symm ne1314) nin0)))).keep K1338q (ninS (Ne.symm ne1318) (ninS (Ne.symm ne1315) (ninS (Ne.symm ne1314) nin0))))
  obtain ⟨_, _, ⟨T1351, L1351, kk1351, nn1351⟩, -, X1351, ⟨Lc1351, hQ1351, l1351, y1351, z1351⟩, st1351⟩ := Jvm.LawKit.callS X1338 hx (y := (⟨o_n1, "before", "([III)Z"⟩ : MethodName)) hown (mvT hZ (o_w hw 56 rfl)) (mvT hZ (o_w hw 57 rfl)) (mvT hZ (o_w hw 58 rfl)) (mvT hZ (o_w hw 59 rfl)) (by decide) (backOf (W := 0) (rm10 l Z a0 hw [] b1313 (0 : Int32) (1 : Int32) k1313 [(.int 0), (.int 0), (.int 0)] (0 : Int32) (0 : Int32) T1338.heap n0 Z1338 F1352 ⟨by decide, by decide⟩ ⟨by decide, by decide⟩ rfl rfl) hZ (o_w hw 59 rfl) (o_w hw 58 rfl) (by decide) (by decide)) (g := o_g G) rfl (by rw [hml]; rfl) (argsL := [(.ref b1313), (.int 0), (.int 1)]) (rest := []) (lenOf pd_4 rfl) rfl (by show 2 * 0 + _ ≤ _; exact Nat.le_of_eq rfl) (hb hby at_281) (fun _ _ => ⟨rfl, rfl, (by decide : 5 + 0 ≤ _), (by decide : 17 + 0 ≤ _)⟩)
  dsimp only [Pt.U, Pt.locs, Pt.cells, Pt.slots] at X1351 l1351 y1351 z1351 st1351 hQ1351
  subst l1351 y1351 z1351
  obtain ⟨rfl, N1351q, e1351⟩ := hQ1351
  have N1351 := Fr.app N1338 N1351q
  replace G := o_nxs (q := 284) (st := [(.int (o_lb (0 : Int32) (0 : Int32) (0 : Int32) (1 : Int32)))]) G st1351 rfl
  replace G := o_ifNo (q := 287) G X1351.here hx (hb hby at_284) (by decide) rfl
  replace G := o_aload (q := 289) G X1351.here hx (hb hby at_287) rfl rfl rfl
  replace G := o_iload (q := 291) G X1351.here hx (hb hby at_289) rfl rfl
  replace G := o_iload (q := 293) G X1351.here hx (hb hby at_291) rfl rfl
  obtain ⟨_, _, ⟨T1354, L1354, kk1354, nn1354⟩, -, X1354, ⟨Lc1354, hQ1354, l1354, y1354, z1354⟩, st1354⟩ := Jvm.LawKit.callS X1351 hx (y := (⟨o_n1, "before", "([III)Z"⟩ : MethodName)) hown (mvT hZ (o_w hw 56 rfl)) (mvT hZ (o_w hw 57 rfl)) (mvT hZ (o_w hw 58 rfl)) (mvT hZ (o_w hw 59 rfl)) (by decide) (backOf (W := 0) (rm10 l Z a0 hw [] b1313 (1 : Int32) (2 : Int32) k1313 [(.int 0), (.int 0), (.int 0)] (0 : Int32) (0 : Int32) T1338.heap n0 Z1338 F1352 ⟨by decide, by decide⟩ ⟨by decide, by decide⟩ rfl rfl) hZ (o_w hw 59 rfl) (o_w hw 58 rfl) (by decide) (by decide)) (g := o_g G) rfl (by rw [hml]; rfl) (argsL := [(.ref b1313), (.int 1), (.int 2)]) (rest := []) (lenOf pd_4 rfl) rfl (by show 2 * 0 + _ ≤ _; exact Nat.le_of_eq rfl) (hb hby at_293) (fun _ _ => ⟨rfl, e1351, (by decide : 5 + 0 ≤ _), (by decide : 17 + 0 ≤ _)⟩)
  dsimp only [Pt.U, Pt.locs, Pt.cells, Pt.slots] at X1354 l1354 y1354 z1354 st1354 hQ1354
  subst l1354 y1354 z1354
  obtain ⟨rfl, N1354q, e1354⟩ := hQ1354
  have N1354 := Fr.app N1351 N1354q
  replace G := o_nxs (q := 296) (st := [(.int (o_lb (0 : Int32) (0 : Int32) (1 : Int32) (2 : Int32)))]) G st1354 rfl
  replace G := o_ifNo (q := 299) G X1354.here hx (hb hby at_296) (by decide) rfl
  replace G := o_aload (q := 301) G X1354.here hx (hb hby at_299) rfl rfl rfl
  have F1357 := (F1339.keep K1338q)
  obtain ⟨T1356, _, Lc1356, X1356, hQ1356, G⟩ := o_vb (q := 304) (W := 0) (argsL := []) (rest := []) (y := (⟨o_n0, "isEmpty", "()Z"⟩ : MethodName)) G X1354 hx hZ hown (by rw [hml]; rfl) ⟨(o_w hw 60 rfl), (o_w hw 61 rfl), (o_w hw 63 rfl), (o_w hw 62 rfl), (o_w hw 64 rfl), (o_w hw 3 rfl)⟩ (by decide) e1354 F1357 (rm11 l Z a0 hw [] b1292 T1338.heap n0 Z1338 B1338_3) (lenOf pd_5 rfl) rfl (Nat.le_of_eq rfl) (hb hby at_301) rfl (by decide) (by decide) (by decide) (by decide)
  obtain ⟨rfl, N1356q, e1356⟩ := hQ1356
  have N1356 := Fr.app N1354 N1356q
  replace G := o_re (st := [(.int 1)]) G rfl
  replace G := o_ifNo (q := 307) G X1356.here hx (hb hby at_304) (by decide) rfl
  replace G := o_iconst (q := 308) G X1356.here hx (hb hby at_307) (v := (1 : Int32)) (by decide) rfl
  replace G := o_goto (q := 312) G X1356.here hx (hb hby at_308) (by decide) (by decide)
  obtain ⟨fs, hr, hrun, hended, hW, hsame⟩ := X1356.leave (v := some (.int 1)) (fun h => by rw [Bd.returns] at h; cases h)
  refine ⟨_, _, G _ (retOut X1356 hx Bd.returns rfl (Or.inl ⟨rfl, Or.inr (Or.inl rfl), _, rfl⟩) (hb hby at_312) hr), hrun, hended, _, _, rfl, ?_, ⟨_, rfl⟩, hW, hsame.mono (by decide) (by decide)⟩
  show Q0 Z i0 i1 h0 n0 _ T1356.heap _
  rw [e1356]
  exact ⟨rfl, N1356⟩
  replace G := o_iload (q := 127) G X1300.here hx (hb hby at_125) rfl rfl
  replace G := o_ifNo (q := 130) G X1300.here hx (hb hby at_127) (by decide) rfl
  replace G := o_aload (q := 132) G X1300.here hx (hb hby at_130) rfl rfl rfl
  have F1361 := (F1301.keep K1300q)
  have F1362 := (F1302.keep K1300q (ninS ne1294 (ninS ne1295 (ninS ne1296 nin0))))
  have F1363 := (F1303.keep K1300q (ninS ne1294 (ninS ne1295 (ninS ne1296 nin0))))
  have F1364 := (F1304.keep K1300q (ninS ne1294 (ninS ne1295 (ninS ne1296 nin0))))
  have F1365 := ((B1293_3.keep K1297q (ninS ne1294 (ninS ne1295 (ninS ne1296 nin0)))).keep K1300q (ninS ne1294 (ninS ne1295 (ninS ne1296 nin0))))
  have F1366 := (F1305.keep K1300q (ninS ne1294 (ninS ne1295 (ninS ne1296 nin0))))
  obtain ⟨T1360, _, Lc1360, X1360, hQ1360, G⟩ := o_vb (q := 135) (W := 0) (argsL := []) (rest := []) (y := (⟨o_n0, "decay", "()V"⟩ : MethodName)) G X1300 hx hZ hown (by rw [hml]; rfl) ⟨(o_w hw 41 rfl), (o_w hw 42 rfl), (o_w hw 44 rfl), (o_w hw 43 rfl), (o_w hw 45 rfl), (o_w hw 3 rfl)⟩ (by decide) rfl F1361 (rm7 l Z a0 hw [] b1292 va_1293 vh_1293 vx_1293 o_d0 o_d1 (3 : Int32) T1300.heap n0 Z1300 F1361 F1362 F1363 F1364 F1365 F1366 ge_b1292 (by decide +kernel) (o_nan (by decide +kernel))) (lenOf pd_6 rfl) rfl (Nat.le_of_eq rfl) (hb hby at_132) rfl (by decide) (by decide) (by decide) (by decide)
  obtain ⟨rfl, N1360q, K1360q, B1360_0, B1360_1, B1360_2, B1360_3, B1360_4⟩ := hQ1360
  have Z1360 : n0 ≤ T1360.heap.size := Nat.le_trans Z1300 K1360q.1
  have N1360 := Fr.app N1300 N1360q
  replace G := o_re (st := []) G rfl
  replace G := o_aload (q := 137) G X1360.here hx (hb hby at_135) rfl rfl rfl
  replace G := o_iload (q := 139) G X1360.here hx (hb hby at_137) rfl rfl
  have F1368 := (F1361.keep K1360q)
  have F1369 := (B1300_0.keep K1360q (ninS (Ne.symm ne1294) nin0))
  have F1370 := (B1300_1.keep K1360q (ninS (Ne.symm ne1295) nin0))
  have F1371 := (B1300_2.keep K1360q (ninS (Ne.symm ne1296) nin0))
  obtain ⟨T1367, _, Lc1367, X1367, hQ1367, G⟩ := o_vb (q := 142) (W := 0) (argsL := [(.int 0)]) (rest := []) (y := (⟨o_n0, "bump", "(I)V"⟩ : MethodName)) G X1360 hx hZ hown (by rw [hml]; rfl) ⟨(o_w hw 35 rfl), (o_w hw 36 rfl), (o_w hw 38 rfl), (o_w hw 37 rfl), (o_w hw 39 rfl), (o_w hw 3 rfl)⟩ (by decide) rfl F1368 (rm6f2t l Z a0 hw [] b1292 (0 : Int32) va_1293 vh_1293 vx_1293 ka_1293 kh_1293 kx_1293 (1 : Int32) (2 : Int32) (0 : Int32) [(.double 0), (.double o_d0), (.double o_d0)] [(.int 2), (.int 0), (.int 1)] [(.int 0), (.int 2), (.int 1)] o_d1 [(.double o_d1), (.double o_d0), (.double o_d0)] (0 : UInt64) o_d1 o_d0 o_d1 T1360.heap n0 Z1360 F1368 B1360_0 B1360_1 B1360_2 B1360_4 F1369 F1370 F1371 ge_va_1293 ge_vh_1293 ge_vx_1293 ne1294 ne1295 ne1296 B1293_8 B1293_9 B1293_10 ⟨by decide, by decide⟩ ⟨by decide, by decide⟩ ⟨by decide, by decide⟩ rfl rfl rfl rfl (by decide +kernel) (o_nan (by decide +kernel)) (by decide +kernel) rfl rfl rfl rfl (by decide +kernel) rfl) (lenOf pd_1 rfl) rfl (Nat.le_of_eq rfl) (hb hby at_139) rfl (by decide) (by decide) (by decide) (by decide)
  obtain ⟨rfl, N1367q, K1367q, B1367_0, B1367_1, B1367_2⟩ := hQ1367
  have Z1367 : n0 ≤ T1367.heap.size := Nat.le_trans Z1360 K1367q.1
  have N1367 := Fr.app N1360 N1367q
  replace G := o_re (st := []) G rfl
  replace G := o_iconst (q := 143) G X1367.here hx (hb hby at_142) (v := (3 : Int32)) (by decide) rfl
  obtain ⟨T1372, h1372, k1372, X1372, e1372, E1372, A1372, st1372⟩ := newP X1367 hx hZ (o_w hw 15 rfl) rfl (g := o_g G) rfl (hb hby at_143) rfl (by decide) (cap := 3) (by decide) (by decide) (by decide) (by decide)
  obtain ⟨b1372, g1372⟩ : ∃ z, z = T1367.heap.size := ⟨_, rfl⟩
  rw [← g1372] at A1372 st1372
  have ne1373 : vx_1293 ≠ b1372 := Nat.ne_of_lt (Nat.lt_of_lt_of_le B1367_2.lt (Nat.le_of_eq g1372.symm))
  have ne1374 : vh_1293 ≠ b1372 := Nat.ne_of_lt (Nat.lt_of_lt_of_le B1367_1.lt (Nat.le_of_eq g1372.symm))
  have ne1375 : va_1293 ≠ b1372 := Nat.ne_of_lt (Nat.lt_of_lt_of_le B1367_0.lt (Nat.le_of_eq g1372.symm))
  have F1376 := (B1360_4.keep K1367q (ninS ne1294 (ninS ne1295 (ninS ne1296 nin0))))
  have ne1377 : b1292 ≠ b1372 := Nat.ne_of_lt (Nat.lt_of_lt_of_le F1376.lt (Nat.le_of_eq g1372.symm))
  have ge_b1372 : n0 ≤ b1372 := Nat.le_trans Z1367 (Nat.le_of_eq g1372.symm)
  have Z1372 : n0 ≤ h1372.size := Nat.le_trans Z1367 E1372.1
  have V1372 : Arv Z h1372 b1372 k1372 .int 3 [(.int 0), (.int 0), (.int 0)] (.int 0) := (Arv.new A1372 (by decide)).pad (pad_rep [] (.int 0) 3)
  replace G := o_nxs (q := 145) (st := [(.ref b1372)]) G st1372 rfl
  replace G := o_astore (q := 147) (l' := #[.val (.int i0), .val (.int i1), .val (.int 5), .val (.int 2), .val (.int 0), .val (.int 1), .val (.int 1), .val (.int 0), .val (.int 0), .val (.int 1), .val (.ref b1292), .val (.ref b1372), .unset, .unset, .unset, .unset]) G X1372.here hx (hb hby at_145) rfl rfl rfl
  replace G := o_aload (q := 149) G X1372.here hx (hb hby at_147) rfl rfl rfl
  replace G := o_iloadN (q := 150) G X1372.here hx (hb hby at_149) rfl rfl
  replace G := o_iconst (q := 151) G X1372.here hx (hb hby at_150) (v := (0 : Int32)) (by decide) rfl
  obtain ⟨c1378, Ar1378, q1378, S1378, N1378', H1378, G1378'⟩ := id V1372
  have hin1378 : ¬ ((2 : Int32) < 0 ∨ c1378.slots.size ≤ ((2 : Int32)).toNatClampNeg) := inb_of S1378 ⟨by decide, by decide⟩
  obtain ⟨T1378, h1378, X1378, e1378, W1378, st1378⟩ := stI X1372 hx hZ e1372 Ar1378 (j := (2 : Int32)) hin1378 (g := o_g G) rfl rfl (hb hby at_151)
  have N1378 := Fr.snoc X1378 N1367 ge_b1372
  have Z1378 : n0 ≤ h1378.size := Nat.le_trans Z1372 (Keep.of_wr W1378).1
  have V1378 : Arv Z h1378 b1372 k1372 .int 3 [(.int 0), (.int 0), (.int 0)] (.int 0) := Arv.set Ar1378 q1378 S1378 N1378' H1378 G1378' rfl W1378 2 rfl (Nat.le_of_ble_eq_true rfl)
  replace G := o_nxs (q := 152) (st := []) G st1378 rfl
  replace G := o_aload (q := 154) G X1378.here hx (hb hby at_152) rfl rfl rfl
  replace G := o_iload (q := 156) G X1378.here hx (hb hby at_154) rfl rfl
  replace G := o_iload (q := 158) G X1378.here hx (hb hby at_156) rfl rfl
  replace G := o_ifYes (q := 165) G X1378.here hx (hb hby at_158) (by decide) (by decide) (by decide)
  replace G := o_iconst (q := 166) G X1378.here hx (hb hby at_165) (v := (0 : Int32)) (by decide) rfl
  obtain ⟨c1380, Ar1380, q1380, S1380, N1380', H1380, G1380'⟩ := id V1378
  have hin1380 : ¬ ((1 : Int32) < 0 ∨ c1380.slots.size ≤ ((1 : Int32)).toNatClampNeg) := inb_of S1380 ⟨by decide, by decide⟩
  obtain ⟨T1380, h1380, X1380, e1380, W1380, st1380⟩ := stI X1378 hx hZ e1378 Ar1380 (j := (1 : Int32)) hin1380 (g := o_g G) rfl rfl (hb hby at_166)
  have N1380 := Fr.snoc X1380 N1378 ge_b1372
  have Z1380 : n0 ≤ h1380.size := Nat.le_trans Z1378 (Keep.of_wr W1380).1
  have V1380 : Arv Z h1380 b1372 k1372 .int 3 [(.int 0), (.int 0), (.int 0)] (.int 0) := Arv.set Ar1380 q1380 S1380 N1380' H1380 G1380' rfl W1380 1 rfl (Nat.le_of_ble_eq_true rfl)
  replace G := o_nxs (q := 167) (st := []) G st1380 rfl
  replace G := o_aload (q := 169) G X1380.here hx (hb hby at_167) rfl rfl rfl
  replace G := o_iload (q := 171) G X1380.here hx (hb hby at_169) rfl rfl
  replace G := o_aload (q := 173) G X1380.here hx (hb hby at_171) rfl rfl rfl
  replace G := o_iload (q := 175) G X1380.here hx (hb hby at_173) rfl rfl
  obtain ⟨c1381, Ar1381, -, S1381, -, H1381, -⟩ := id V1380
  have hin1381 : ¬ ((1 : Int32) < 0 ∨ c1381.slots.size ≤ ((1 : Int32)).toNatClampNeg) := inb_of S1381 ⟨by decide, by decide⟩
  replace G := o_nxs (q := 176) (st := [(.int 0), (.int 0), (.ref b1372)]) G (X1380.iaload hx (j := (1 : Int32)) (v := (.int 0)) (by rw [e1380]; exact Ar1381.1) (State.isArrayOf_alike hZ.alike Ar1381.2.1) Ar1381.2.2 hin1381 (Has.at H1381 hin1381 rfl) (g := o_g G) rfl rfl (hb hby at_175)) rfl
  replace G := o_iload (q := 178) G X1380.here hx (hb hby at_176) rfl rfl
  replace G := o_ifNo (q := 181) G X1380.here hx (hb hby at_178) (by decide) rfl
  replace G := o_iconst (q := 182) G X1380.here hx (hb hby at_181) (v := (1 : Int32)) (by decide) rfl
  replace G := o_goto (q := 186) G X1380.here hx (hb hby at_182) (by decide) (by decide)
  replace G := o_iadd (q := 187) G X1380.here hx (hb hby at_186) (by decide : ((0 : Int32) + (1 : Int32)) = (1 : Int32)) rfl
  obtain ⟨c1383, Ar1383, q1383, S1383, N1383', H1383, G1383'⟩ := id V1380
  have hin1383 : ¬ ((0 : Int32) < 0 ∨ c1383.slots.size ≤ ((0 : Int32)).toNatClampNeg) := inb_of S1383 ⟨by decide, by decide⟩
  obtain ⟨T1383, h1383, X1383, e1383, W1383, st1383⟩ := stI X1380 hx hZ e1380 Ar1383 (j := (0 : Int32)) hin1383 (g := o_g G) rfl rfl (hb hby at_187)
  have N1383 := Fr.snoc X1383 N1380 ge_b1372
  have Z1383 : n0 ≤ h1383.size := Nat.le_trans Z1380 (Keep.of_wr W1383).1
  have V1383 : Arv Z h1383 b1372 k1372 .int 3 [(.int 1), (.int 0), (.int 0)] (.int 0) := Arv.set Ar1383 q1383 S1383 N1383' H1383 G1383' rfl W1383 0 rfl (Nat.le_of_ble_eq_true rfl)
  replace G := o_nxs (q := 188) (st := []) G st1383 rfl
  replace G := o_aload (q := 190) G X1383.here hx (hb hby at_188) rfl rfl rfl
  have F1385 := (((((F1368.keep K1367q).ext E1372).wr W1378).wr W1380).wr W1383)
  have F1386 := (((((B1360_0.keep K1367q (ninS ne1294 (ninS ne1295 (ninS ne1296 nin0)))).ext E1372).other W1378 (Or.inl ne1377)).other W1380 (Or.inl ne1377)).other W1383 (Or.inl ne1377))
  have F1387 := (((((B1360_1.keep K1367q (ninS ne1294 (ninS ne1295 (ninS ne1296 nin0)))).ext E1372).other W1378 (Or.inl ne1377)).other W1380 (Or.inl ne1377)).other W1383 (Or.inl ne1377))
  have F1388 := (((((B1360_2.keep K1367q (ninS ne1294 (ninS ne1295 (ninS ne1296 nin0)))).ext E1372).other W1378 (Or.inl ne1377)).other W1380 (Or.inl ne1377)).other W1383 (Or.inl ne1377))
  have F1389 := (((((B1360_3.keep K1367q (ninS ne1294 (ninS ne1295 (ninS ne1296 nin0)))).ext E1372).other W1378 (Or.inl ne1377)).other W1380 (Or.inl ne1377)).other W1383 (Or.inl ne1377))
  have F1390 := ((((F1376.ext E1372).other W1378 (Or.inl ne1377)).other W1380 (Or.inl ne1377)).other W1383 (Or.inl ne1377))
  have F1391 := ((((B1367_0.ext E1372).other W1378 ne1375).other W1380 ne1375).other W1383 ne1375)
  have F1392 := ((((B1367_1.ext E1372).other W1378 ne1374).other W1380 ne1374).other W1383 ne1374)
  have F1393 := ((((B1367_2.ext E1372).other W1378 ne1373).other W1380 ne1373).other W1383 ne1373)
  obtain ⟨T1384, _, Lc1384, X1384, hQ1384, G⟩ := o_vb (q := 193) (W := 0) (argsL := []) (rest := []) (y := (⟨o_n0, "takeFirst", "()I"⟩ : MethodName)) G X1383 hx hZ hown (by rw [hml]; rfl) ⟨(o_w hw 47 rfl), (o_w hw 48 rfl), (o_w hw 50 rfl), (o_w hw 49 rfl), (o_w hw 51 rfl), (o_w hw 3 rfl)⟩ (by decide) e1383 F1385 (rm8n3f l Z a0 hw [] b1292 va_1293 vh_1293 vx_1293 ka_1293 kh_1293 kx_1293 (0 : Int32) (2 : Int32) (1 : Int32) [(.double o_d1), (.double o_d0), (.double o_d0)] [(.int 0), (.int 2), (.int 1)] [(.int (-1)), (.int 0), (.int 1)] o_d1 o_d0 o_d0 h1383 n0 Z1383 F1385 F1386 F1387 F1388 F1389 F1390 F1391 F1392 F1393 ge_b1292 ge_vh_1293 ge_vx_1293 ne1294 ne1295 ne1296 B1293_8 B1293_9 B1293_10 ⟨by decide, by decide⟩ ⟨by decide, by decide⟩ ⟨by decide, by decide⟩ rfl rfl rfl (by decide +kernel) rfl) (lenOf pd_3 rfl) rfl (Nat.le_of_eq rfl) (hb hby at_190) rfl (by decide) (by decide) (by decide) (by decide)
  obtain ⟨rfl, N1384q, K1384q, B1384_0, B1384_1, B1384_2, B1384_3, B1384_4, B1384_5, B1384_6⟩ := hQ1384
  have Z1384 : n0 ≤ T1384.heap.size := Nat.le_trans Z1383 K1384q.1
  have N1384 := Fr.app N1383 N1384q
  replace G := o_re (st := [(.int 0)]) G rfl
  replace G := o_istore (q := 195) (l' := #[.val (.int i0), .val (.int i1), .val (.int 5), .val (.int 2), .val (.int 0), .val (.int 1), .val (.int 1), .val (.int 0), .val (.int 0), .val (.int 1), .val (.ref b1292), .val (.ref b1372), .val (.int 0), .unset, .unset, .unset]) G X1384.here hx (hb hby at_193) rfl rfl
  replace G := o_aload (q := 197) G X1384.here hx (hb hby at_195) rfl rfl rfl
  have F1395 := (F1385.keep K1384q)
  have F1396 := (F1391.keep K1384q (ninS (Ne.symm ne1294) (ninS B1293_8 (ninS B1293_9 nin0))))
  obtain ⟨T1394, _, Lc1394, X1394, hQ1394, G⟩ := o_vb (q := 200) (W := 0) (argsL := []) (rest := []) (y := (⟨o_n0, "takeFirst", "()I"⟩ : MethodName)) G X1384 hx hZ hown (by rw [hml]; rfl) ⟨(o_w hw 47 rfl), (o_w hw 48 rfl), (o_w hw 50 rfl), (o_w hw 49 rfl), (o_w hw 51 rfl), (o_w hw 3 rfl)⟩ (by decide) rfl F1395 (rm8n2 l Z a0 hw [] b1292 va_1293 vh_1293 vx_1293 ka_1293 kh_1293 kx_1293 (1 : Int32) (2 : Int32) (1 : Int32) [(.double o_d1), (.double o_d0), (.double o_d0)] [(.int (-1)), (.int 0), (.int 1)] [(.int (-1)), (.int (-1)), (.int 0)] o_d1 T1384.heap n0 Z1384 F1395 B1384_0 B1384_1 B1384_2 B1384_3 B1384_4 F1396 B1384_5 B1384_6 ge_b1292 ge_vh_1293 ge_vx_1293 ne1294 ne1295 ne1296 B1293_8 B1293_9 B1293_10 ⟨by decide, by decide⟩ ⟨by decide, by decide⟩ rfl rfl) (lenOf pd_3 rfl) rfl (Nat.le_of_eq rfl) (hb hby at_197) rfl (by decide) (by decide) (by decide) (by decide)
  obtain ⟨rfl, N1394q, K1394q, B1394_0, B1394_1, B1394_2, B1394_3, B1394_4, B1394_5, B1394_6⟩ := hQ1394
  have Z1394 : n0 ≤ T1394.heap.size := Nat.le_trans Z1384 K1394q.1
  have N1394 := Fr.app N1384 N1394q
  replace G := o_re (st := [(.int 1)]) G rfl
  replace G := o_istore (q := 202) (l' := #[.val (.int i0), .val (.int i1), .val (.int 5), .val (.int 2), .val (.int 0), .val (.int 1), .val (.int 1), .val (.int 0), .val (.int 0), .val (.int 1), .val (.ref b1292), .val (.ref b1372), .val (.int 0), .val (.int 1), .unset, .unset]) G X1394.here hx (hb hby at_200) rfl rfl
  replace G := o_aload (q := 204) G X1394.here hx (hb hby at_202) rfl rfl rfl
  have F1398 := (F1395.keep K1394q)
  have F1399 := (F1396.keep K1394q (ninS (Ne.symm ne1294) (ninS B1293_8 (ninS B1293_9 nin0))))
  obtain ⟨T1397, _, Lc1397, X1397, hQ1397, G⟩ := o_vb (q := 207) (W := 0) (argsL := []) (rest := []) (y := (⟨o_n0, "takeFirst", "()I"⟩ : MethodName)) G X1394 hx hZ hown (by rw [hml]; rfl) ⟨(o_w hw 47 rfl), (o_w hw 48 rfl), (o_w hw 50 rfl), (o_w hw 49 rfl), (o_w hw 51 rfl), (o_w hw 3 rfl)⟩ (by decide) rfl F1398 (rm8n1 l Z a0 hw [] b1292 va_1293 vh_1293 vx_1293 ka_1293 kh_1293 kx_1293 (2 : Int32) (2 : Int32) (1 : Int32) [(.double o_d1), (.double o_d0), (.double o_d0)] [(.int (-1)), (.int (-1)), (.int 0)] [(.int (-1)), (.int (-1)), (.int (-1))] o_d1 T1394.heap n0 Z1394 F1398 B1394_0 B1394_1 B1394_2 B1394_3 B1394_4 F1399 B1394_5 B1394_6 ge_b1292 ge_vh_1293 ge_vx_1293 ne1294 ne1295 ne1296 B1293_8 B1293_9 B1293_10 ⟨by decide, by decide⟩ rfl rfl) (lenOf pd_3 rfl) rfl (Nat.le_of_eq rfl) (hb hby at_204) rfl (by decide) (by decide) (by decide) (by decide)
  obtain ⟨rfl, N1397q, K1397q, B1397_0, B1397_1, B1397_2, B1397_3, B1397_4, B1397_5, B1397_6⟩ := hQ1397
  have Z1397 : n0 ≤ T1397.heap.size := Nat.le_trans Z1394 K1397q.1
  have N1397 := Fr.app N1394 N1397q
  replace G := o_re (st := [(.int 2)]) G rfl
  replace G := o_istore (q := 209) (l' := #[.val (.int i0), .val (.int i1), .val (.int 5), .val (.int 2), .val (.int 0), .val (.int 1), .val (.int 1), .val (.int 0), .val (.int 0), .val (.int 1), .val (.ref b1292), .val (.ref b1372), .val (.int 0), .val (.int 1), .val (.int 2), .unset]) G X1397.here hx (hb hby at_207) rfl rfl
  replace G := o_iload (q := 211) G X1397.here hx (hb hby at_209) rfl rfl
  replace G := o_ifNo (q := 214) G X1397.here hx (hb hby at_211) (by decide) rfl
  replace G := o_iload (q := 216) G X1397.here hx (hb hby at_214) rfl rfl
  replace G := o_iconst (q := 217) G X1397.here hx (hb hby at_216) (v := (3 : Int32)) (by decide) rfl
  replace G := o_icmpNo (q := 220) G X1397.here hx (hb hby at_217) (by decide) rfl
  replace G := o_iload (q := 222) G X1397.here hx (hb hby at_220) rfl rfl
  replace G := o_ifNo (q := 225) G X1397.here hx (hb hby at_222) (by decide) rfl
  replace G := o_iload (q := 227) G X1397.here hx (hb hby at_225) rfl rfl
  replace G := o_iconst (q := 228) G X1397.here hx (hb hby at_227) (v := (3 : Int32)) (by decide) rfl
  replace G := o_icmpNo (q := 231) G X1397.here hx (hb hby at_228) (by decide) rfl
  replace G := o_iload (q := 233) G X1397.here hx (hb hby at_231) rfl rfl
  replace G := o_ifNo (q := 236) G X1397.here hx (hb hby at_233) (by decide) rfl
  replace G := o_iload (q := 238) G X1397.here hx (hb hby at_236) rfl rfl
  replace G := o_iconst (q := 239) G X1397.here hx (hb hby at_238) (v := (3 : Int32)) (by decide) rfl
  replace G := o_icmpNo (q := 242) G X1397.here hx (hb hby at_239) (by decide) rfl
  replace G := o_iload (q := 244) G X1397.here hx (hb hby at_242) rfl rfl
  replace G := o_iload (q := 246) G X1397.here hx (hb hby at_244) rfl rfl
  replace G := o_icmpNo (q := 249) G X1397.here hx (hb hby at_246) (by decide) rfl
  replace G := o_iload (q := 251) G X1397.here hx (hb hby at_249) rfl rfl
  replace G := o_iload (q := 253) G X1397.here hx (hb hby at_251) rfl rfl
  replace G := o_icmpNo (q := 256) G X1397.here hx (hb hby at_253) (by decide) rfl
  replace G := o_iload (q := 258) G X1397.here hx (hb hby at_256) rfl rfl
  replace G := o_iload (q := 260) G X1397.here hx (hb hby at_258) rfl rfl
  replace G := o_icmpNo (q := 263) G X1397.here hx (hb hby at_260) (by decide) rfl
  replace G := o_iconst (q := 264) G X1397.here hx (hb hby at_263) (v := (1 : Int32)) (by decide) rfl
  replace G := o_goto (q := 268) G X1397.here hx (hb hby at_264) (by decide) (by decide)
  replace G := o_istore (q := 270) (l' := #[.val (.int i0), .val (.int i1), .val (.int 5), .val (.int 2), .val (.int 0), .val (.int 1), .val (.int 1), .val (.int 0), .val (.int 0), .val (.int 1), .val (.ref b1292), .val (.ref b1372), .val (.int 0), .val (.int 1), .val (.int 2), .val (.int 1)]) G X1397.here hx (hb hby at_268) rfl rfl
  replace G := o_iload (q := 272) G X1397.here hx (hb hby at_270) rfl rfl
  replace G := o_ifNo (q := 275) G X1397.here hx (hb hby at_272) (by decide) rfl
  replace G := o_aload (q := 277) G X1397.here hx (hb hby at_275) rfl rfl rfl
  replace G := o_iload (q := 279) G X1397.here hx (hb hby at_277) rfl rfl
  replace G := o_iload (q := 281) G X1397.here hx (hb hby at_279) rfl rfl
  have F1411 := (((V1383.keep K1384q (ninS (Ne.symm ne1377) (ninS (Ne.symm ne1374) (ninS (Ne.symm ne1373) nin0)))).keep K1394q (ninS (Ne.symm ne1377) (ninS (Ne.symm ne1374) (ninS (Ne.symm ne1373) nin0)))).keep K1397q (ninS (Ne.symm ne1377) (ninS (Ne.symm ne1374) (ninS (Ne.symm ne1373) nin0))))
  obtain ⟨_, _, ⟨T1410, L1410, kk1410, nn1410⟩, -, X1410, ⟨Lc1410, hQ1410, l1410, y1410, z1410⟩, st1410⟩ := Jvm.LawKit.callS X1397 hx (y := (⟨o_n1, "before", "([III)Z"⟩ : MethodName)) hown (mvT hZ (o_w hw 56 rfl)) (mvT hZ (o_w hw 57 rfl)) (mvT hZ (o_w hw 58 rfl)) (mvT hZ (o_w hw 59 rfl)) (by decide) (backOf (W := 0) (rm10 l Z a0 hw [] b1372 (0 : Int32) (1 : Int32) k1372 [(.int 1), (.int 0), (.int 0)] (1 : Int32) (0 : Int32) T1397.heap n0 Z1397 F1411 ⟨by decide, by decide⟩ ⟨by decide, by decide⟩ rfl rfl) hZ (o_w hw 59 rfl) (o_w hw 58 rfl) (by decide) (by decide)) (g := o_g G) rfl (by rw [hml]; rfl) (argsL := [(.ref b1372), (.int 0), (.int 1)]) (rest := []) (lenOf pd_4 rfl) rfl (by show 2 * 0 + _ ≤ _; exact Nat.le_of_eq rfl) (hb hby at_281) (fun _ _ => ⟨rfl, rfl, (by decide : 5 + 0 ≤ _), (by decide : 17 + 0 ≤ _)⟩)
  dsimp only [Pt.U, Pt.locs, Pt.cells, Pt.slots] at X1410 l1410 y1410 z1410 st1410 hQ1410
  subst l1410 y1410 z1410
  obtain ⟨rfl, N1410q, e1410⟩ := hQ1410
  have N1410 := Fr.app N1397 N1410q
  replace G := o_nxs (q := 284) (st := [(.int (o_lb (1 : Int32) (0 : Int32) (0 : Int32) (1 : Int32)))]) G st1410 rfl
  replace G := o_ifNo (q := 287) G X1410.here hx (hb hby at_284) (by decide) rfl
  replace G := o_aload (q := 289) G X1410.here hx (hb hby at_287) rfl rfl rfl
  replace G := o_iload (q := 291) G X1410.here hx (hb hby at_289) rfl rfl
  replace G := o_iload (q := 293) G X1410.here hx (hb hby at_291) rfl rfl
  obtain ⟨_, _, ⟨T1413, L1413, kk1413, nn1413⟩, -, X1413, ⟨Lc1413, hQ1413, l1413, y1413, z1413⟩, st1413⟩ := Jvm.LawKit.callS X1410 hx (y := (⟨o_n1, "before", "([III)Z"⟩ : MethodName)) hown (mvT hZ (o_w hw 56 rfl)) (mvT hZ (o_w hw 57 rfl)) (mvT hZ (o_w hw 58 rfl)) (mvT hZ (o_w hw 59 rfl)) (by decide) (backOf (W := 0) (rm10 l Z a0 hw [] b1372 (1 : Int32) (2 : Int32) k1372 [(.int 1), (.int 0), (.int 0)] (0 : Int32) (0 : Int32) T1397.heap n0 Z1397 F1411 ⟨by decide, by decide⟩ ⟨by decide, by decide⟩ rfl rfl) hZ (o_w hw 59 rfl) (o_w hw 58 rfl) (by decide) (by decide)) (g := o_g G) rfl (by rw [hml]; rfl) (argsL := [(.ref b1372), (.int 1), (.int 2)]) (rest := []) (lenOf pd_4 rfl) rfl (by show 2 * 0 + _ ≤ _; exact Nat.le_of_eq rfl) (hb hby at_293) (fun _ _ => ⟨rfl, e1410, (by decide : 5 + 0 ≤ _), (by decide : 17 + 0 ≤ _)⟩)
  dsimp only [Pt.U, Pt.locs, Pt.cells, Pt.slots] at X1413 l1413 y1413 z1413 st1413 hQ1413
  subst l1413 y1413 z1413
  obtain ⟨rfl, N1413q, e1413⟩ := hQ1413
  have N1413 := Fr.app N1410 N1413q
  replace G := o_nxs (q := 296) (st := [(.int (o_lb (0 : Int32) (0 : Int32) (1 : Int32) (2 : Int32)))]) G st1413 rfl
  replace G := o_ifNo (q := 299) G X1413.here hx (hb hby at_296) (by decide) rfl
  replace G := o_aload (q := 301) G X1413.here hx (hb hby at_299) rfl rfl rfl
  have F1416 := (F1398.keep K1397q)
  obtain ⟨T1415, _, Lc1415, X1415, hQ1415, G⟩ := o_vb (q := 304) (W := 0) (argsL := []) (rest := []) (y := (⟨o_n0, "isEmpty", "()Z"⟩ : MethodName)) G X1413 hx hZ hown (by rw [hml]; rfl) ⟨(o_w hw 60 rfl), (o_w hw 61 rfl), (o_w hw 63 rfl), (o_w hw 62 rfl), (o_w hw 64 rfl), (o_w hw 3 rfl)⟩ (by decide) e1413 F1416 (rm11 l Z a0 hw [] b1292 T1397.heap n0 Z1397 B1397_3) (lenOf pd_5 rfl) rfl (Nat.le_of_eq rfl) (hb hby at_301) rfl (by decide) (by decide) (by decide) (by decide)
  obtain ⟨rfl, N1415q, e1415⟩ := hQ1415
  have N1415 := Fr.app N1413 N1415q
  replace G := o_re (st := [(.int 1)]) G rfl
  replace G := o_ifNo (q := 307) G X1415.here hx (hb hby at_304) (by decide) rfl
  replace G := o_iconst (q := 308) G X1415.here hx (hb hby at_307) (v := (1 : Int32)) (by decide) rfl
  replace G := o_goto (q := 312) G X1415.here hx (hb hby at_308) (by decide) (by decide)
  obtain ⟨fs, hr, hrun, hended, hW, hsame⟩ := X1415.leave (v := some (.int 1)) (fun h => by rw [Bd.returns] at h; cases h)
  refine ⟨_, _, G _ (retOut X1415 hx Bd.returns rfl (Or.inl ⟨rfl, Or.inr (Or.inl rfl), _, rfl⟩) (hb hby at_312) hr), hrun, hended, _, _, rfl, ?_, ⟨_, rfl⟩, hW, hsame.mono (by decide) (by decide)⟩
  show Q0 Z i0 i1 h0 n0 _ T1415.heap _
  rw [e1415]
  exact ⟨rfl, N1415⟩
  replace G := o_iload (q := 110) G X1297.here hx (hb hby at_108) rfl rfl
  replace G := o_ifNo (q := 113) G X1297.here hx (hb hby at_110) (by decide) rfl
  replace G := o_aload (q := 115) G X1297.here hx (hb hby at_113) rfl rfl rfl
  have F1420 := (F1298.keep K1297q)
  have F1421 := (B1293_0.keep K1297q (ninS ne1294 (ninS ne1295 (ninS ne1296 nin0))))
  have F1422 := (B1293_1.keep K1297q (ninS ne1294 (ninS ne1295 (ninS ne1296 nin0))))
  have F1423 := (B1293_2.keep K1297q (ninS ne1294 (ninS ne1295 (ninS ne1296 nin0))))
  have F1424 := (B1293_3.keep K1297q (ninS ne1294 (ninS ne1295 (ninS ne1296 nin0))))
  have F1425 := (B1293_4.keep K1297q (ninS ne1294 (ninS ne1295 (ninS ne1296 nin0))))
  obtain ⟨T1419, _, Lc1419, X1419, hQ1419, G⟩ := o_vb (q := 118) (W := 0) (argsL := []) (rest := []) (y := (⟨o_n0, "decay", "()V"⟩ : MethodName)) G X1297 hx hZ hown (by rw [hml]; rfl) ⟨(o_w hw 41 rfl), (o_w hw 42 rfl), (o_w hw 44 rfl), (o_w hw 43 rfl), (o_w hw 45 rfl), (o_w hw 3 rfl)⟩ (by decide) rfl F1420 (rm7 l Z a0 hw [] b1292 va_1293 vh_1293 vx_1293 o_d0 o_d1 (3 : Int32) T1297.heap n0 Z1297 F1420 F1421 F1422 F1423 F1424 F1425 ge_b1292 (by decide +kernel) (o_nan (by decide +kernel))) (lenOf pd_6 rfl) rfl (Nat.le_of_eq rfl) (hb hby at_115) rfl (by decide) (by decide) (by decide) (by decide)
  obtain ⟨rfl, N1419q, K1419q, B1419_0, B1419_1, B1419_2, B1419_3, B1419_4⟩ := hQ1419
  have Z1419 : n0 ≤ T1419.heap.size := Nat.le_trans Z1297 K1419q.1
  have N1419 := Fr.app N1297 N1419q
  replace G := o_re (st := []) G rfl
  replace G := o_aload (q := 120) G X1419.here hx (hb hby at_118) rfl rfl rfl
  replace G := o_iload (q := 122) G X1419.here hx (hb hby at_120) rfl rfl
  have F1427 := (F1420.keep K1419q)
  have F1428 := (B1297_0.keep K1419q (ninS (Ne.symm ne1294) nin0))
  have F1429 := (B1297_1.keep K1419q (ninS (Ne.symm ne1295) nin0))
  have F1430 := (B1297_2.keep K1419q (ninS (Ne.symm ne1296) nin0))
  obtain ⟨T1426, _, Lc1426, X1426, hQ1426, G⟩ := o_vb (q := 125) (W := 0) (argsL := [(.int 1)]) (rest := []) (y := (⟨o_n0, "bump", "(I)V"⟩ : MethodName)) G X1419 hx hZ hown (by rw [hml]; rfl) ⟨(o_w hw 35 rfl), (o_w hw 36 rfl), (o_w hw 38 rfl), (o_w hw 37 rfl), (o_w hw 39 rfl), (o_w hw 3 rfl)⟩ (by decide) rfl F1427 (rm6f1t l Z a0 hw [] b1292 (1 : Int32) va_1293 vh_1293 vx_1293 ka_1293 kh_1293 kx_1293 (2 : Int32) (1 : Int32) (0 : Int32) [(.double 0), (.double 0), (.double o_d0)] [(.int 2), (.int 1), (.int 0)] [(.int 2), (.int 0), (.int 1)] o_d1 [(.double 0), (.double o_d1), (.double o_d0)] (0 : UInt64) o_d1 o_d0 o_d1 T1419.heap n0 Z1419 F1427 B1419_0 B1419_1 B1419_2 B1419_4 F1428 F1429 F1430 ge_va_1293 ge_vh_1293 ge_vx_1293 ne1294 ne1295 ne1296 B1293_8 B1293_9 B1293_10 ⟨by decide, by decide⟩ ⟨by decide, by decide⟩ ⟨by decide, by decide⟩ rfl rfl rfl rfl (by decide +kernel) (o_nan (by decide +kernel)) (by decide +kernel) rfl rfl rfl rfl (by decide +kernel) rfl) (lenOf pd_1 rfl) rfl (Nat.le_of_eq rfl) (hb hby at_122) rfl (by decide) (by decide) (by decide) (by decide)
  obtain ⟨rfl, N1426q, K1426q, B1426_0, B1426_1, B1426_2⟩ := hQ1426
  have Z1426 : n0 ≤ T1426.heap.size := Nat.le_trans Z1419 K1426q.1
  have N1426 := Fr.app N1419 N1426q
  replace G := o_re (st := []) G rfl
  rcases o_01 hn_w2 with rfl | rfl
  replace G := o_iload (q := 127) G X1426.here hx (hb hby at_125) rfl rfl
  replace G := o_ifYes (q := 135) G X1426.here hx (hb hby at_127) (by decide) (by decide) (by decide)
  replace G := o_aload (q := 137) G X1426.here hx (hb hby at_135) rfl rfl rfl
  replace G := o_iload (q := 139) G X1426.here hx (hb hby at_137) rfl rfl
  have F1433 := (F1427.keep K1426q)
  have F1434 := (B1419_0.keep K1426q (ninS ne1294 (ninS ne1295 (ninS ne1296 nin0))))
  have F1435 := (B1419_1.keep K1426q (ninS ne1294 (ninS ne1295 (ninS ne1296 nin0))))
  have F1436 := (B1419_2.keep K1426q (ninS ne1294 (ninS ne1295 (ninS ne1296 nin0))))
  have F1437 := (B1419_4.keep K1426q (ninS ne1294 (ninS ne1295 (ninS ne1296 nin0))))
  obtain ⟨T1432, _, Lc1432, X1432, hQ1432, G⟩ := o_vb (q := 142) (W := 0) (argsL := [(.int 0)]) (rest := []) (y := (⟨o_n0, "bump", "(I)V"⟩ : MethodName)) G X1426 hx hZ hown (by rw [hml]; rfl) ⟨(o_w hw 35 rfl), (o_w hw 36 rfl), (o_w hw 38 rfl), (o_w hw 37 rfl), (o_w hw 39 rfl), (o_w hw 3 rfl)⟩ (by decide) rfl F1433 (rm6f2t l Z a0 hw [] b1292 (0 : Int32) va_1293 vh_1293 vx_1293 ka_1293 kh_1293 kx_1293 (1 : Int32) (2 : Int32) (0 : Int32) [(.double 0), (.double o_d1), (.double o_d0)] [(.int 2), (.int 0), (.int 1)] [(.int 0), (.int 2), (.int 1)] o_d1 [(.double o_d1), (.double o_d1), (.double o_d0)] (0 : UInt64) o_d1 o_d1 o_d1 T1426.heap n0 Z1426 F1433 F1434 F1435 F1436 F1437 B1426_0 B1426_1 B1426_2 ge_va_1293 ge_vh_1293 ge_vx_1293 ne1294 ne1295 ne1296 B1293_8 B1293_9 B1293_10 ⟨by decide, by decide⟩ ⟨by decide, by decide⟩ ⟨by decide, by decide⟩ rfl rfl rfl rfl (by decide +kernel) (o_nan (by decide +kernel)) (by decide +kernel) rfl rfl rfl rfl (by decide +kernel) rfl) (lenOf pd_1 rfl) rfl (Nat.le_of_eq rfl) (hb hby at_139) rfl (by decide) (by decide) (by decide) (by decide)
  obtain ⟨rfl, N1432q, K1432q, B1432_0, B1432_1, B1432_2⟩ := hQ1432
  have Z1432 : n0 ≤ T1432.heap.size := Nat.le_trans Z1426 K1432q.1
  have N1432 := Fr.app N1426 N1432q
  replace G := o_re (st := []) G rfl
  replace G := o_iconst (q := 143) G X1432.here hx (hb hby at_142) (v := (3 : Int32)) (by decide) rfl
  obtain ⟨T1438, h1438, k1438, X1438, e1438, E1438, A1438, st1438⟩ := newP X1432 hx hZ (o_w hw 15 rfl) rfl (g := o_g G) rfl (hb hby at_143) rfl (by decide) (cap := 3) (by decide) (by decide) (by decide) (by decide)
  obtain ⟨b1438, g1438⟩ : ∃ z, z = T1432.heap.size := ⟨_, rfl⟩
  rw [← g1438] at A1438 st1438
  have ne1439 : vx_1293 ≠ b1438 := Nat.ne_of_lt (Nat.lt_of_lt_of_le B1432_2.lt (Nat.le_of_eq g1438.symm))
  have ne1440 : vh_1293 ≠ b1438 := Nat.ne_of_lt (Nat.lt_of_lt_of_le B1432_1.lt (Nat.le_of_eq g1438.symm))
  have ne1441 : va_1293 ≠ b1438 := Nat.ne_of_lt (Nat.lt_of_lt_of_le B1432_0.lt (Nat.le_of_eq g1438.symm))
  have F1442 := (F1437.keep K1432q (ninS ne1294 (ninS ne1295 (ninS ne1296 nin0))))
  have ne1443 : b1292 ≠ b1438 := Nat.ne_of_lt (Nat.lt_of_lt_of_le F1442.lt (Nat.le_of_eq g1438.symm))
  have ge_b1438 : n0 ≤ b1438 := Nat.le_trans Z1432 (Nat.le_of_eq g1438.symm)
  have Z1438 : n0 ≤ h1438.size := Nat.le_trans Z1432 E1438.1
  have V1438 : Arv Z h1438 b1438 k1438 .int 3 [(.int 0), (.int 0), (.int 0)] (.int 0) := (Arv.new A1438 (by decide)).pad (pad_rep [] (.int 0) 3)
  replace G := o_nxs (q := 145) (st := [(.ref b1438)]) G st1438 rfl
  replace G := o_astore (q := 147) (l' := #[.val (.int i0), .val (.int i1), .val (.int 5), .val (.int 2), .val (.int 0), .val (.int 1), .val (.int 1), .val (.int 0), .val (.int 1), .val (.int 0), .val (.ref b1292), .val (.ref b1438), .unset, .unset, .unset, .unset]) G X1438.here hx (hb hby at_145) rfl rfl rfl
  replace G := o_aload (q := 149) G X1438.here hx (hb hby at_147) rfl rfl rfl
  replace G := o_iloadN (q := 150) G X1438.here hx (hb hby at_149) rfl rfl
  replace G := o_iconst (q := 151) G X1438.here hx (hb hby at_150) (v := (0 : Int32)) (by decide) rfl
  obtain ⟨c1444, Ar1444, q1444, S1444, N1444', H1444, G1444'⟩ := id V1438
  have hin1444 : ¬ ((2 : Int32) < 0 ∨ c1444.slots.size ≤ ((2 : Int32)).toNatClampNeg) := inb_of S1444 ⟨by decide, by decide⟩
  obtain ⟨T1444, h1444, X1444, e1444, W1444, st1444⟩ := stI X1438 hx hZ e1438 Ar1444 (j := (2 : Int32)) hin1444 (g := o_g G) rfl rfl (hb hby at_151)
  have N1444 := Fr.snoc X1444 N1432 ge_b1438
  have Z1444 : n0 ≤ h1444.size := Nat.le_trans Z1438 (Keep.of_wr W1444).1
  have V1444 : Arv Z h1444 b1438 k1438 .int 3 [(.int 0), (.int 0), (.int 0)] (.int 0) := Arv.set Ar1444 q1444 S1444 N1444' H1444 G1444' rfl W1444 2 rfl (Nat.le_of_ble_eq_true rfl)
  replace G := o_nxs (q := 152) (st := []) G st1444 rfl
  replace G := o_aload (q := 154) G X1444.here hx (hb hby at_152) rfl rfl rfl
  replace G := o_iload (q := 156) G X1444.here hx (hb hby at_154) rfl rfl
  replace G := o_iload (q := 158) G X1444.here hx (hb hby at_156) rfl rfl
  replace G := o_ifNo (q := 161) G X1444.here hx (hb hby at_158) (by decide) rfl
  replace G := o_iconst (q := 162) G X1444.here hx (hb hby at_161) (v := (1 : Int32)) (by decide) rfl
  replace G := o_goto (q := 166) G X1444.here hx (hb hby at_162) (by decide) (by decide)
  obtain ⟨c1446, Ar1446, q1446, S1446, N1446', H1446, G1446'⟩ := id V1444
  have hin1446 : ¬ ((1 : Int32) < 0 ∨ c1446.slots.size ≤ ((1 : Int32)).toNatClampNeg) := inb_of S1446 ⟨by decide, by decide⟩
  obtain ⟨T1446, h1446, X1446, e1446, W1446, st1446⟩ := stI X1444 hx hZ e1444 Ar1446 (j := (1 : Int32)) hin1446 (g := o_g G) rfl rfl (hb hby at_166)
  have N1446 := Fr.snoc X1446 N1444 ge_b1438
  have Z1446 : n0 ≤ h1446.size := Nat.le_trans Z1444 (Keep.of_wr W1446).1
  have V1446 : Arv Z h1446 b1438 k1438 .int 3 [(.int 0), (.int 1), (.int 0)] (.int 0) := Arv.set Ar1446 q1446 S1446 N1446' H1446 G1446' rfl W1446 1 rfl (Nat.le_of_ble_eq_true rfl)
  replace G := o_nxs (q := 167) (st := []) G st1446 rfl
  replace G := o_aload (q := 169) G X1446.here hx (hb hby at_167) rfl rfl rfl
  replace G := o_iload (q := 171) G X1446.here hx (hb hby at_169) rfl rfl
  replace G := o_aload (q := 173) G X1446.here hx (hb hby at_171) rfl rfl rfl
  replace G := o_iload (q := 175) G X1446.here hx (hb hby at_173) rfl rfl
  obtain ⟨c1447, Ar1447, -, S1447, -, H1447, -⟩ := id V1446
  have hin1447 : ¬ ((1 : Int32) < 0 ∨ c1447.slots.size ≤ ((1 : Int32)).toNatClampNeg) := inb_of S1447 ⟨by decide, by decide⟩
  replace G := o_nxs (q := 176) (st := [(.int 1), (.int 0), (.ref b1438)]) G (X1446.iaload hx (j := (1 : Int32)) (v := (.int 1)) (by rw [e1446]; exact Ar1447.1) (State.isArrayOf_alike hZ.alike Ar1447.2.1) Ar1447.2.2 hin1447 (Has.at H1447 hin1447 rfl) (g := o_g G) rfl rfl (hb hby at_175)) rfl
  replace G := o_iload (q := 178) G X1446.here hx (hb hby at_176) rfl rfl
  replace G := o_ifYes (q := 185) G X1446.here hx (hb hby at_178) (by decide) (by decide) (by decide)
  replace G := o_iconst (q := 186) G X1446.here hx (hb hby at_185) (v := (0 : Int32)) (by decide) rfl
  replace G := o_iadd (q := 187) G X1446.here hx (hb hby at_186) (by decide : ((1 : Int32) + (0 : Int32)) = (1 : Int32)) rfl
  obtain ⟨c1449, Ar1449, q1449, S1449, N1449', H1449, G1449'⟩ := id V1446
  have hin1449 : ¬ ((0 : Int32) < 0 ∨ c1449.slots.size ≤ ((0 : Int32)).toNatClampNeg) := inb_of S1449 ⟨by decide, by decide⟩
  obtain ⟨T1449, h1449, X1449, e1449, W1449, st1449⟩ := stI X1446 hx hZ e1446 Ar1449 (j := (0 : Int32)) hin1449 (g := o_g G) rfl rfl (hb hby at_187)
  have N1449 := Fr.snoc X1449 N1446 ge_b1438
  have Z1449 : n0 ≤ h1449.size := Nat.le_trans Z1446 (Keep.of_wr W1449).1
  have V1449 : Arv Z h1449 b1438 k1438 .int 3 [(.int 1), (.int 1), (.int 0)] (.int 0) := Arv.set Ar1449 q1449 S1449 N1449' H1449 G1449' rfl W1449 0 rfl (Nat.le_of_ble_eq_true rfl)
  replace G := o_nxs (q := 188) (st := []) G st1449 rfl
  replace G := o_aload (q := 190) G X1449.here hx (hb hby at_188) rfl rfl rfl
  have F1451 := (((((F1433.keep K1432q).ext E1438).wr W1444).wr W1446).wr W1449)
  have F1452 := (((((F1434.keep K1432q (ninS ne1294 (ninS ne1295 (ninS ne1296 nin0)))).ext E1438).other W1444 (Or.inl ne1443)).other W1446 (Or.inl ne1443)).other W1449 (Or.inl ne1443))
  have F1453 := (((((F1435.keep K1432q (ninS ne1294 (ninS ne1295 (ninS ne1296 nin0)))).ext E1438).other W1444 (Or.inl ne1443)).other W1446 (Or.inl ne1443)).other W1449 (Or.inl ne1443))
  have F1454 := (((((F1436.keep K1432q (ninS ne1294 (ninS ne1295 (ninS ne1296 nin0)))).ext E1438).other W1444 (Or.inl ne1443)).other W1446 (Or.inl ne1443)).other W1449 (Or.inl ne1443))
  have F1455 := ((((((B1419_3.keep K1426q (ninS ne1294 (ninS ne1295 (ninS ne1296 nin0)))).keep K1432q (ninS ne1294 (ninS ne1295 (ninS ne1296 nin0)))).ext E1438).other W1444 (Or.inl ne1443)).other W1446 (Or.inl ne1443)).other W1449 (Or.inl ne1443))
  have F1456 := ((((F1442.ext E1438).other W1444 (Or.inl ne1443)).other W1446 (Or.inl ne1443)).other W1449 (Or.inl ne1443))
  have F1457 := ((((B1432_0.ext E1438).other W1444 ne1441).other W1446 ne1441).other W1449 ne1441)
  have F1458 := ((((B1432_1.ext E1438).other W1444 ne1440).other W1446 ne1440).other W1449 ne1440)
  have F1459 := ((((B1432_2.ext E1438).other W1444 ne1439).other W1446 ne1439).other W1449 ne1439)
  obtain ⟨T1450, _, Lc1450, X1450, hQ1450, G⟩ := o_vb (q := 193) (W := 0) (argsL := []) (rest := []) (y := (⟨o_n0, "takeFirst", "()I"⟩ : MethodName)) G X1449 hx hZ hown (by rw [hml]; rfl) ⟨(o_w hw 47 rfl), (o_w hw 48 rfl), (o_w hw 50 rfl), (o_w hw 49 rfl), (o_w hw 51 rfl), (o_w hw 3 rfl)⟩ (by decide) e1449 F1451 (rm8n3f l Z a0 hw [] b1292 va_1293 vh_1293 vx_1293 ka_1293 kh_1293 kx_1293 (0 : Int32) (2 : Int32) (1 : Int32) [(.double o_d1), (.double o_d1), (.double o_d0)] [(.int 0), (.int 2), (.int 1)] [(.int (-1)), (.int 0), (.int 1)] o_d1 o_d1 o_d0 h1449 n0 Z1449 F1451 F1452 F1453 F1454 F1455 F1456 F1457 F1458 F1459 ge_b1292 ge_vh_1293 ge_vx_1293 ne1294 ne1295 ne1296 B1293_8 B1293_9 B1293_10 ⟨by decide, by decide⟩ ⟨by decide, by decide⟩ ⟨by decide, by decide⟩ rfl rfl rfl (by decide +kernel) rfl) (lenOf pd_3 rfl) rfl (Nat.le_of_eq rfl) (hb hby at_190) rfl (by decide) (by decide) (by decide) (by decide)
  obtain ⟨rfl, N1450q, K1450q, B1450_0, B1450_1, B1450_2, B1450_3, B1450_4, B1450_5, B1450_6⟩ := hQ1450
  have Z1450 : n0 ≤ T1450.heap.size := Nat.le_trans Z1449 K1450q.1
  have N1450 := Fr.app N1449 N1450q
  replace G := o_re (st := [(.int 0)]) G rfl
  replace G := o_istore (q := 195) (l' := #[.val (.int i0), .val (.int i1), .val (.int 5), .val (.int 2), .val (.int 0), .val (.int 1), .val (.int 1), .val (.int 0), .val (.int 1), .val (.int 0), .val (.ref b1292), .val (.ref b1438), .val (.int 0), .unset, .unset, .unset]) G X1450.here hx (hb hby at_193) rfl rfl
  replace G := o_aload (q := 197) G X1450.here hx (hb hby at_195) rfl rfl rfl
  have F1461 := (F1451.keep K1450q)
  have F1462 := (F1457.keep K1450q (ninS (Ne.symm ne1294) (ninS B1293_8 (ninS B1293_9 nin0))))
  obtain ⟨T1460, _, Lc1460, X1460, hQ1460, G⟩ := o_vb (q := 200) (W := 0) (argsL := []) (rest := []) (y := (⟨o_n0, "takeFirst", "()I"⟩ : MethodName)) G X1450 hx hZ hown (by rw [hml]; rfl) ⟨(o_w hw 47 rfl), (o_w hw 48 rfl), (o_w hw 50 rfl), (o_w hw 49 rfl), (o_w hw 51 rfl), (o_w hw 3 rfl)⟩ (by decide) rfl F1461 (rm8n2 l Z a0 hw [] b1292 va_1293 vh_1293 vx_1293 ka_1293 kh_1293 kx_1293 (1 : Int32) (2 : Int32) (1 : Int32) [(.double o_d1), (.double o_d1), (.double o_d0)] [(.int (-1)), (.int 0), (.int 1)] [(.int (-1)), (.int (-1)), (.int 0)] o_d1 T1450.heap n0 Z1450 F1461 B1450_0 B1450_1 B1450_2 B1450_3 B1450_4 F1462 B1450_5 B1450_6 ge_b1292 ge_vh_1293 ge_vx_1293 ne1294 ne1295 ne1296 B1293_8 B1293_9 B1293_10 ⟨by decide, by decide⟩ ⟨by decide, by decide⟩ rfl rfl) (lenOf pd_3 rfl) rfl (Nat.le_of_eq rfl) (hb hby at_197) rfl (by decide) (by decide) (by decide) (by decide)
  obtain ⟨rfl, N1460q, K1460q, B1460_0, B1460_1, B1460_2, B1460_3, B1460_4, B1460_5, B1460_6⟩ := hQ1460
  have Z1460 : n0 ≤ T1460.heap.size := Nat.le_trans Z1450 K1460q.1
  have N1460 := Fr.app N1450 N1460q
  replace G := o_re (st := [(.int 1)]) G rfl
  replace G := o_istore (q := 202) (l' := #[.val (.int i0), .val (.int i1), .val (.int 5), .val (.int 2), .val (.int 0), .val (.int 1), .val (.int 1), .val (.int 0), .val (.int 1), .val (.int 0), .val (.ref b1292), .val (.ref b1438), .val (.int 0), .val (.int 1), .unset, .unset]) G X1460.here hx (hb hby at_200) rfl rfl
  replace G := o_aload (q := 204) G X1460.here hx (hb hby at_202) rfl rfl rfl
  have F1464 := (F1461.keep K1460q)
  have F1465 := (F1462.keep K1460q (ninS (Ne.symm ne1294) (ninS B1293_8 (ninS B1293_9 nin0))))
  obtain ⟨T1463, _, Lc1463, X1463, hQ1463, G⟩ := o_vb (q := 207) (W := 0) (argsL := []) (rest := []) (y := (⟨o_n0, "takeFirst", "()I"⟩ : MethodName)) G X1460 hx hZ hown (by rw [hml]; rfl) ⟨(o_w hw 47 rfl), (o_w hw 48 rfl), (o_w hw 50 rfl), (o_w hw 49 rfl), (o_w hw 51 rfl), (o_w hw 3 rfl)⟩ (by decide) rfl F1464 (rm8n1 l Z a0 hw [] b1292 va_1293 vh_1293 vx_1293 ka_1293 kh_1293 kx_1293 (2 : Int32) (2 : Int32) (1 : Int32) [(.double o_d1), (.double o_d1), (.double o_d0)] [(.int (-1)), (.int (-1)), (.int 0)] [(.int (-1)), (.int (-1)), (.int (-1))] o_d1 T1460.heap n0 Z1460 F1464 B1460_0 B1460_1 B1460_2 B1460_3 B1460_4 F1465 B1460_5 B1460_6 ge_b1292 ge_vh_1293 ge_vx_1293 ne1294 ne1295 ne1296 B1293_8 B1293_9 B1293_10 ⟨by decide, by decide⟩ rfl rfl) (lenOf pd_3 rfl) rfl (Nat.le_of_eq rfl) (hb hby at_204) rfl (by decide) (by decide) (by decide) (by decide)
  obtain ⟨rfl, N1463q, K1463q, B1463_0, B1463_1, B1463_2, B1463_3, B1463_4, B1463_5, B1463_6⟩ := hQ1463
  have Z1463 : n0 ≤ T1463.heap.size := Nat.le_trans Z1460 K1463q.1
  have N1463 := Fr.app N1460 N1463q
  replace G := o_re (st := [(.int 2)]) G rfl
  replace G := o_istore (q := 209) (l' := #[.val (.int i0), .val (.int i1), .val (.int 5), .val (.int 2), .val (.int 0), .val (.int 1), .val (.int 1), .val (.int 0), .val (.int 1), .val (.int 0), .val (.ref b1292), .val (.ref b1438), .val (.int 0), .val (.int 1), .val (.int 2), .unset]) G X1463.here hx (hb hby at_207) rfl rfl
  replace G := o_iload (q := 211) G X1463.here hx (hb hby at_209) rfl rfl
  replace G := o_ifNo (q := 214) G X1463.here hx (hb hby at_211) (by decide) rfl
  replace G := o_iload (q := 216) G X1463.here hx (hb hby at_214) rfl rfl
  replace G := o_iconst (q := 217) G X1463.here hx (hb hby at_216) (v := (3 : Int32)) (by decide) rfl
  replace G := o_icmpNo (q := 220) G X1463.here hx (hb hby at_217) (by decide) rfl
  replace G := o_iload (q := 222) G X1463.here hx (hb hby at_220) rfl rfl
  replace G := o_ifNo (q := 225) G X1463.here hx (hb hby at_222) (by decide) rfl
  replace G := o_iload (q := 227) G X1463.here hx (hb hby at_225) rfl rfl
  replace G := o_iconst (q := 228) G X1463.here hx (hb hby at_227) (v := (3 : Int32)) (by decide) rfl
  replace G := o_icmpNo (q := 231) G X1463.here hx (hb hby at_228) (by decide) rfl
  replace G := o_iload (q := 233) G X1463.here hx (hb hby at_231) rfl rfl
  replace G := o_ifNo (q := 236) G X1463.here hx (hb hby at_233) (by decide) rfl
  replace G := o_iload (q := 238) G X1463.here hx (hb hby at_236) rfl rfl
  replace G := o_iconst (q := 239) G X1463.here hx (hb hby at_238) (v := (3 : Int32)) (by decide) rfl
  replace G := o_icmpNo (q := 242) G X1463.here hx (hb hby at_239) (by decide) rfl
  replace G := o_iload (q := 244) G X1463.here hx (hb hby at_242) rfl rfl
  replace G := o_iload (q := 246) G X1463.here hx (hb hby at_244) rfl rfl
  replace G := o_icmpNo (q := 249) G X1463.here hx (hb hby at_246) (by decide) rfl
  replace G := o_iload (q := 251) G X1463.here hx (hb hby at_249) rfl rfl
  replace G := o_iload (q := 253) G X1463.here hx (hb hby at_251) rfl rfl
  replace G := o_icmpNo (q := 256) G X1463.here hx (hb hby at_253) (by decide) rfl
  replace G := o_iload (q := 258) G X1463.here hx (hb hby at_256) rfl rfl
  replace G := o_iload (q := 260) G X1463.here hx (hb hby at_258) rfl rfl
  replace G := o_icmpNo (q := 263) G X1463.here hx (hb hby at_260) (by decide) rfl
  replace G := o_iconst (q := 264) G X1463.here hx (hb hby at_263) (v := (1 : Int32)) (by decide) rfl
  replace G := o_goto (q := 268) G X1463.here hx (hb hby at_264) (by decide) (by decide)
  replace G := o_istore (q := 270) (l' := #[.val (.int i0), .val (.int i1), .val (.int 5), .val (.int 2), .val (.int 0), .val (.int 1), .val (.int 1), .val (.int 0), .val (.int 1), .val (.int 0), .val (.ref b1292), .val (.ref b1438), .val (.int 0), .val (.int 1), .val (.int 2), .val (.int 1)]) G X1463.here hx (hb hby at_268) rfl rfl
  replace G := o_iload (q := 272) G X1463.here hx (hb hby at_270) rfl rfl
  replace G := o_ifNo (q := 275) G X1463.here hx (hb hby at_272) (by decide) rfl
  replace G := o_aload (q := 277) G X1463.here hx (hb hby at_275) rfl rfl rfl
  replace G := o_iload (q := 279) G X1463.here hx (hb hby at_277) rfl rfl
  replace G := o_iload (q := 281) G X1463.here hx (hb hby at_279) rfl rfl
  have F1477 := (((V1449.keep K1450q (ninS (Ne.symm ne1443) (ninS (Ne.symm ne1440) (ninS (Ne.symm ne1439) nin0)))).keep K1460q (ninS (Ne.symm ne1443) (ninS (Ne.symm ne1440) (ninS (Ne.symm ne1439) nin0)))).keep K1463q (ninS (Ne.symm ne1443) (ninS (Ne.symm ne1440) (ninS (Ne.symm ne1439) nin0))))
  obtain ⟨_, _, ⟨T1476, L1476, kk1476, nn1476⟩, -, X1476, ⟨Lc1476, hQ1476, l1476, y1476, z1476⟩, st1476⟩ := Jvm.LawKit.callS X1463 hx (y := (⟨o_n1, "before", "([III)Z"⟩ : MethodName)) hown (mvT hZ (o_w hw 56 rfl)) (mvT hZ (o_w hw 57 rfl)) (mvT hZ (o_w hw 58 rfl)) (mvT hZ (o_w hw 59 rfl)) (by decide) (backOf (W := 0) (rm10 l Z a0 hw [] b1438 (0 : Int32) (1 : Int32) k1438 [(.int 1), (.int 1), (.int 0)] (1 : Int32) (1 : Int32) T1463.heap n0 Z1463 F1477 ⟨by decide, by decide⟩ ⟨by decide, by decide⟩ rfl rfl) hZ (o_w hw 59 rfl) (o_w hw 58 rfl) (by decide) (by decide)) (g := o_g G) rfl (by rw [hml]; rfl) (argsL := [(.ref b1438), (.int 0), (.int 1)]) (rest := []) (lenOf pd_4 rfl) rfl (by show 2 * 0 + _ ≤ _; exact Nat.le_of_eq rfl) (hb hby at_281) (fun _ _ => ⟨rfl, rfl, (by decide : 5 + 0 ≤ _), (by decide : 17 + 0 ≤ _)⟩)
  dsimp only [Pt.U, Pt.locs, Pt.cells, Pt.slots] at X1476 l1476 y1476 z1476 st1476 hQ1476
  subst l1476 y1476 z1476
  obtain ⟨rfl, N1476q, e1476⟩ := hQ1476
  have N1476 := Fr.app N1463 N1476q
  replace G := o_nxs (q := 284) (st := [(.int (o_lb (1 : Int32) (1 : Int32) (0 : Int32) (1 : Int32)))]) G st1476 rfl
  replace G := o_ifNo (q := 287) G X1476.here hx (hb hby at_284) (by decide) rfl
  replace G := o_aload (q := 289) G X1476.here hx (hb hby at_287) rfl rfl rfl
  replace G := o_iload (q := 291) G X1476.here hx (hb hby at_289) rfl rfl
  replace G := o_iload (q := 293) G X1476.here hx (hb hby at_291) rfl rfl
  obtain ⟨_, _, ⟨T1479, L1479, kk1479, nn1479⟩, -, X1479, ⟨Lc1479, hQ1479, l1479, y1479, z1479⟩, st1479⟩ := Jvm.LawKit.callS X1476 hx (y := (⟨o_n1, "before", "([III)Z"⟩ : MethodName)) hown (mvT hZ (o_w hw 56 rfl)) (mvT hZ (o_w hw 57 rfl)) (mvT hZ (o_w hw 58 rfl)) (mvT hZ (o_w hw 59 rfl)) (by decide) (backOf (W := 0) (rm10 l Z a0 hw [] b1438 (1 : Int32) (2 : Int32) k1438 [(.int 1), (.int 1), (.int 0)] (1 : Int32) (0 : Int32) T1463.heap n0 Z1463 F1477 ⟨by decide, by decide⟩ ⟨by decide, by decide⟩ rfl rfl) hZ (o_w hw 59 rfl) (o_w hw 58 rfl) (by decide) (by decide)) (g := o_g G) rfl (by rw [hml]; rfl) (argsL := [(.ref b1438), (.int 1), (.int 2)]) (rest := []) (lenOf pd_4 rfl) rfl (by show 2 * 0 + _ ≤ _; exact Nat.le_of_eq rfl) (hb hby at_293) (fun _ _ => ⟨rfl, e1476, (by decide : 5 + 0 ≤ _), (by decide : 17 + 0 ≤ _)⟩)
  dsimp only [Pt.U, Pt.locs, Pt.cells, Pt.slots] at X1479 l1479 y1479 z1479 st1479 hQ1479
  subst l1479 y1479 z1479
  obtain ⟨rfl, N1479q, e1479⟩ := hQ1479
  have N1479 := Fr.app N1476 N1479q
  replace G := o_nxs (q := 296) (st := [(.int (o_lb (1 : Int32) (0 : Int32) (1 : Int32) (2 : Int32)))]) G st1479 rfl
  replace G := o_ifNo (q := 299) G X1479.here hx (hb hby at_296) (by decide) rfl
  replace G := o_aload (q := 301) G X1479.here hx (hb hby at_299) rfl rfl rfl
  have F1482 := (F1464.keep K1463q)
  obtain ⟨T1481, _, Lc1481, X1481, hQ1481, G⟩ := o_vb (q := 304) (W := 0) (argsL := []) (rest := []) (y := (⟨o_n0, "isEmpty", "()Z"⟩ : MethodName)) G X1479 hx hZ hown (by rw [hml]; rfl) ⟨(o_w hw 60 rfl), (o_w hw 61 rfl), (o_w hw 63 rfl), (o_w hw 62 rfl), (o_w hw 64 rfl), (o_w hw 3 rfl)⟩ (by decide) e1479 F1482 (rm11 l Z a0 hw [] b1292 T1463.heap n0 Z1463 B1463_3) (lenOf pd_5 rfl) rfl (Nat.le_of_eq rfl) (hb hby at_301) rfl (by decide) (by decide) (by decide) (by decide)
  obtain ⟨rfl, N1481q, e1481⟩ := hQ1481
  have N1481 := Fr.app N1479 N1481q
  replace G := o_re (st := [(.int 1)]) G rfl
  replace G := o_ifNo (q := 307) G X1481.here hx (hb hby at_304) (by decide) rfl
  replace G := o_iconst (q := 308) G X1481.here hx (hb hby at_307) (v := (1 : Int32)) (by decide) rfl
  replace G := o_goto (q := 312) G X1481.here hx (hb hby at_308) (by decide) (by decide)
  obtain ⟨fs, hr, hrun, hended, hW, hsame⟩ := X1481.leave (v := some (.int 1)) (fun h => by rw [Bd.returns] at h; cases h)
  refine ⟨_, _, G _ (retOut X1481 hx Bd.returns rfl (Or.inl ⟨rfl, Or.inr (Or.inl rfl), _, rfl⟩) (hb hby at_312) hr), hrun, hended, _, _, rfl, ?_, ⟨_, rfl⟩, hW, hsame.mono (by decide) (by decide)⟩
  show Q0 Z i0 i1 h0 n0 _ T1481.heap _
  rw [e1481]
  exact ⟨rfl, N1481⟩
  replace G := o_iload (q := 127) G X1426.here hx (hb hby at_125) rfl rfl
  replace G := o_ifNo (q := 130) G X1426.here hx (hb hby at_127) (by decide) rfl
  replace G := o_aload (q := 132) G X1426.here hx (hb hby at_130) rfl rfl rfl
  have F1486 := (F1427.keep K1426q)
  have F1487 := (B1419_0.keep K1426q (ninS ne1294 (ninS ne1295 (ninS ne1296 nin0))))
  have F1488 := (B1419_1.keep K1426q (ninS ne1294 (ninS ne1295 (ninS ne1296 nin0))))
  have F1489 := (B1419_2.keep K1426q (ninS ne1294 (ninS ne1295 (ninS ne1296 nin0))))
  have F1490 := (B1419_3.keep K1426q (ninS ne1294 (ninS ne1295 (ninS ne1296 nin0))))
  have F1491 := (B1419_4.keep K1426q (ninS ne1294 (ninS ne1295 (ninS ne1296 nin0))))
  obtain ⟨T1485, _, Lc1485, X1485, hQ1485, G⟩ := o_vb (q := 135) (W := 0) (argsL := []) (rest := []) (y := (⟨o_n0, "decay", "()V"⟩ : MethodName)) G X1426 hx hZ hown (by rw [hml]; rfl) ⟨(o_w hw 41 rfl), (o_w hw 42 rfl), (o_w hw 44 rfl), (o_w hw 43 rfl), (o_w hw 45 rfl), (o_w hw 3 rfl)⟩ (by decide) rfl F1486 (rm7 l Z a0 hw [] b1292 va_1293 vh_1293 vx_1293 o_d1 o_d2 (3 : Int32) T1426.heap n0 Z1426 F1486 F1487 F1488 F1489 F1490 F1491 ge_b1292 (by decide +kernel) (o_nan (by decide +kernel))) (lenOf pd_6 rfl) rfl (Nat.le_of_eq rfl) (hb hby at_132) rfl (by decide) (by decide) (by decide) (by decide)
  obtain ⟨rfl, N1485q, K1485q, B1485_0, B1485_1, B1485_2, B1485_3, B1485_4⟩ := hQ1485
  have Z1485 : n0 ≤ T1485.heap.size := Nat.le_trans Z1426 K1485q.1
  have N1485 := Fr.app N1426 N1485q
  replace G := o_re (st := []) G rfl
  replace G := o_aload (q := 137) G X1485.here hx (hb hby at_135) rfl rfl rfl
  replace G := o_iload (q := 139) G X1485.here hx (hb hby at_137) rfl rfl
  have F1493 := (F1486.keep K1485q)
  have F1494 := (B1426_0.keep K1485q (ninS (Ne.symm ne1294) nin0))
  have F1495 := (B1426_1.keep K1485q (ninS (Ne.symm ne1295) nin0))
  have F1496 := (B1426_2.keep K1485q (ninS (Ne.symm ne1296) nin0))
  obtain ⟨T1492, _, Lc1492, X1492, hQ1492, G⟩ := o_vb (q := 142) (W := 0) (argsL := [(.int 0)]) (rest := []) (y := (⟨o_n0, "bump", "(I)V"⟩ : MethodName)) G X1485 hx hZ hown (by rw [hml]; rfl) ⟨(o_w hw 35 rfl), (o_w hw 36 rfl), (o_w hw 38 rfl), (o_w hw 37 rfl), (o_w hw 39 rfl), (o_w hw 3 rfl)⟩ (by decide) rfl F1493 (rm6f2t l Z a0 hw [] b1292 (0 : Int32) va_1293 vh_1293 vx_1293 ka_1293 kh_1293 kx_1293 (1 : Int32) (2 : Int32) (0 : Int32) [(.double 0), (.double o_d1), (.double o_d0)] [(.int 2), (.int 0), (.int 1)] [(.int 0), (.int 2), (.int 1)] o_d2 [(.double o_d2), (.double o_d1), (.double o_d0)] (0 : UInt64) o_d2 o_d1 o_d2 T1485.heap n0 Z1485 F1493 B1485_0 B1485_1 B1485_2 B1485_4 F1494 F1495 F1496 ge_va_1293 ge_vh_1293 ge_vx_1293 ne1294 ne1295 ne1296 B1293_8 B1293_9 B1293_10 ⟨by decide, by decide⟩ ⟨by decide, by decide⟩ ⟨by decide, by decide⟩ rfl rfl rfl rfl (by decide +kernel) (o_nan (by decide +kernel)) (by decide +kernel) rfl rfl rfl rfl (by decide +kernel) rfl) (lenOf pd_1 rfl) rfl (Nat.le_of_eq rfl) (hb hby at_139) rfl (by decide) (by decide) (by decide) (by decide)
  obtain ⟨rfl, N1492q, K1492q, B1492_0, B1492_1, B1492_2⟩ := hQ1492
  have Z1492 : n0 ≤ T1492.heap.size := Nat.le_trans Z1485 K1492q.1
  have N1492 := Fr.app N1485 N1492q
  replace G := o_re (st := []) G rfl
  replace G := o_iconst (q := 143) G X1492.here hx (hb hby at_142) (v := (3 : Int32)) (by decide) rfl
  obtain ⟨T1497, h1497, k1497, X1497, e1497, E1497, A1497, st1497⟩ := newP X1492 hx hZ (o_w hw 15 rfl) rfl (g := o_g G) rfl (hb hby at_143) rfl (by decide) (cap := 3) (by decide) (by decide) (by decide) (by decide)
  obtain ⟨b1497, g1497⟩ : ∃ z, z = T1492.heap.size := ⟨_, rfl⟩
  rw [← g1497] at A1497 st1497
  have ne1498 : vx_1293 ≠ b1497 := Nat.ne_of_lt (Nat.lt_of_lt_of_le B1492_2.lt (Nat.le_of_eq g1497.symm))
  have ne1499 : vh_1293 ≠ b1497 := Nat.ne_of_lt (Nat.lt_of_lt_of_le B1492_1.lt (Nat.le_of_eq g1497.symm))
  have ne1500 : va_1293 ≠ b1497 := Nat.ne_of_lt (Nat.lt_of_lt_of_le B1492_0.lt (Nat.le_of_eq g1497.symm))
  have F1501 := (B1485_4.keep K1492q (ninS ne1294 (ninS ne1295 (ninS ne1296 nin0))))
  have ne1502 : b1292 ≠ b1497 := Nat.ne_of_lt (Nat.lt_of_lt_of_le F1501.lt (Nat.le_of_eq g1497.symm))
  have ge_b1497 : n0 ≤ b1497 := Nat.le_trans Z1492 (Nat.le_of_eq g1497.symm)
  have Z1497 : n0 ≤ h1497.size := Nat.le_trans Z1492 E1497.1
  have V1497 : Arv Z h1497 b1497 k1497 .int 3 [(.int 0), (.int 0), (.int 0)] (.int 0) := (Arv.new A1497 (by decide)).pad (pad_rep [] (.int 0) 3)
  replace G := o_nxs (q := 145) (st := [(.ref b1497)]) G st1497 rfl
  replace G := o_astore (q := 147) (l' := #[.val (.int i0), .val (.int i1), .val (.int 5), .val (.int 2), .val (.int 0), .val (.int 1), .val (.int 1), .val (.int 0), .val (.int 1), .val (.int 1), .val (.ref b1292), .val (.ref b1497), .unset, .unset, .unset, .unset]) G X1497.here hx (hb hby at_145) rfl rfl rfl
  replace G := o_aload (q := 149) G X1497.here hx (hb hby at_147) rfl rfl rfl
  replace G := o_iloadN (q := 150) G X1497.here hx (hb hby at_149) rfl rfl
  replace G := o_iconst (q := 151) G X1497.here hx (hb hby at_150) (v := (0 : Int32)) (by decide) rfl
  obtain ⟨c1503, Ar1503, q1503, S1503, N1503', H1503, G1503'⟩ := id V1497
  have hin1503 : ¬ ((2 : Int32) < 0 ∨ c1503.slots.size ≤ ((2 : Int32)).toNatClampNeg) := inb_of S1503 ⟨by decide, by decide⟩
  obtain ⟨T1503, h1503, X1503, e1503, W1503, st1503⟩ := stI X1497 hx hZ e1497 Ar1503 (j := (2 : Int32)) hin1503 (g := o_g G) rfl rfl (hb hby at_151)
  have N1503 := Fr.snoc X1503 N1492 ge_b1497
  have Z1503 : n0 ≤ h1503.size := Nat.le_trans Z1497 (Keep.of_wr W1503).1
  have V1503 : Arv Z h1503 b1497 k1497 .int 3 [(.int 0), (.int 0), (.int 0)] (.int 0) := Arv.set Ar1503 q1503 S1503 N1503' H1503 G1503' rfl W1503 2 rfl (Nat.le_of_ble_eq_true rfl)
  replace G := o_nxs (q := 152) (st := []) G st1503 rfl
  replace G := o_aload (q := 154) G X1503.here hx (hb hby at_152) rfl rfl rfl
  replace G := o_iload (q := 156) G X1503.here hx (hb hby at_154) rfl rfl
  replace G := o_iload (q := 158) G X1503.here hx (hb hby at_156) rfl rfl
  replace G := o_ifNo (q := 161) G X1503.here hx (hb hby at_158) (by decide) rfl
  replace G := o_iconst (q := 162) G X1503.here hx (hb hby at_161) (v := (1 : Int32)) (by decide) rfl
  replace G := o_goto (q := 166) G X1503.here hx (hb hby at_162) (by decide) (by decide)
  obtain ⟨c1505, Ar1505, q1505, S1505, N1505', H1505, G1505'⟩ := id V1503
  have hin1505 : ¬ ((1 : Int32) < 0 ∨ c1505.slots.size ≤ ((1 : Int32)).toNatClampNeg) := inb_of S1505 ⟨by decide, by decide⟩
  obtain ⟨T1505, h1505, X1505, e1505, W1505, st1505⟩ := stI X1503 hx hZ e1503 Ar1505 (j := (1 : Int32)) hin1505 (g := o_g G) rfl rfl (hb hby at_166)
  have N1505 := Fr.snoc X1505 N1503 ge_b1497
  have Z1505 : n0 ≤ h1505.size := Nat.le_trans Z1503 (Keep.of_wr W1505).1
  have V1505 : Arv Z h1505 b1497 k1497 .int 3 [(.int 0), (.int 1), (.int 0)] (.int 0) := Arv.set Ar1505 q1505 S1505 N1505' H1505 G1505' rfl W1505 1 rfl (Nat.le_of_ble_eq_true rfl)
  replace G := o_nxs (q := 167) (st := []) G st1505 rfl
  replace G := o_aload (q := 169) G X1505.here hx (hb hby at_167) rfl rfl rfl
  replace G := o_iload (q := 171) G X1505.here hx (hb hby at_169) rfl rfl
  replace G := o_aload (q := 173) G X1505.here hx (hb hby at_171) rfl rfl rfl
  replace G := o_iload (q := 175) G X1505.here hx (hb hby at_173) rfl rfl
  obtain ⟨c1506, Ar1506, -, S1506, -, H1506, -⟩ := id V1505
  have hin1506 : ¬ ((1 : Int32) < 0 ∨ c1506.slots.size ≤ ((1 : Int32)).toNatClampNeg) := inb_of S1506 ⟨by decide, by decide⟩
  replace G := o_nxs (q := 176) (st := [(.int 1), (.int 0), (.ref b1497)]) G (X1505.iaload hx (j := (1 : Int32)) (v := (.int 1)) (by rw [e1505]; exact Ar1506.1) (State.isArrayOf_alike hZ.alike Ar1506.2.1) Ar1506.2.2 hin1506 (Has.at H1506 hin1506 rfl) (g := o_g G) rfl rfl (hb hby at_175)) rfl
  replace G := o_iload (q := 178) G X1505.here hx (hb hby at_176) rfl rfl
  replace G := o_ifNo (q := 181) G X1505.here hx (hb hby at_178) (by decide) rfl
  replace G := o_iconst (q := 182) G X1505.here hx (hb hby at_181) (v := (1 : Int32)) (by decide) rfl
  replace G := o_goto (q := 186) G X1505.here hx (hb hby at_182) (by decide) (by decide)
  replace G := o_iadd (q := 187) G X1505.here hx (hb hby at_186) (by decide : ((1 : Int32) + (1 : Int32)) = (2 : Int32)) rfl
  obtain ⟨c1508, Ar1508, q1508, S1508, N1508', H1508, G1508'⟩ := id V1505
  have hin1508 : ¬ ((0 : Int32) < 0 ∨ c1508.slots.size ≤ ((0 : Int32)).toNatClampNeg) := inb_of S1508 ⟨by decide, by decide⟩
  obtain ⟨T1508, h1508, X1508, e1508, W1508, st1508⟩ := stI X1505 hx hZ e1505 Ar1508 (j := (0 : Int32)) hin1508 (g := o_g G) rfl rfl (hb hby at_187)
  have N1508 := Fr.snoc X1508 N1505 ge_b1497
  have Z1508 : n0 ≤ h1508.size := Nat.le_trans Z1505 (Keep.of_wr W1508).1
  have V1508 : Arv Z h1508 b1497 k1497 .int 3 [(.int 2), (.int 1), (.int 0)] (.int 0) := Arv.set Ar1508 q1508 S1508 N1508' H1508 G1508' rfl W1508 0 rfl (Nat.le_of_ble_eq_true rfl)
  replace G := o_nxs (q := 188) (st := []) G st1508 rfl
  replace G := o_aload (q := 190) G X1508.here hx (hb hby at_188) rfl rfl rfl
  have F1510 := (((((F1493.keep K1492q).ext E1497).wr W1503).wr W1505).wr W1508)
  have F1511 := (((((B1485_0.keep K1492q (ninS ne1294 (ninS ne1295 (ninS ne1296 nin0)))).ext E1497).other W1503 (Or.inl ne1502)).other W1505 (Or.inl ne1502)).other W1508 (Or.inl ne1502))
  have F1512 := (((((B1485_1.keep K1492q (ninS ne1294 (ninS ne1295 (ninS ne1296 nin0)))).ext E1497).other W1503 (Or.inl ne1502)).other W1505 (Or.inl ne1502)).other W1508 (Or.inl ne1502))
  have F1513 := (((((B1485_2.keep K1492q (ninS ne1294 (ninS ne1295 (ninS ne1296 nin0)))).ext E1497).other W1503 (Or.inl ne1502)).other W1505 (Or.inl ne1502)).other W1508 (Or.inl ne1502))
  have F1514 := (((((B1485_3.keep K1492q (ninS ne1294 (ninS ne1295 (ninS ne1296 nin0)))).ext E1497).other W1503 (Or.inl ne1502)).other W1505 (Or.inl ne1502)).other W1508 (Or.inl ne1502))
  have F1515 := ((((F1501.ext E1497).other W1503 (Or.inl ne1502)).other W1505 (Or.inl ne1502)).other W1508 (Or.inl ne1502))
  have F1516 := ((((B1492_0.ext E1497).other W1503 ne1500).other W1505 ne1500).other W1508 ne1500)
  have F1517 := ((((B1492_1.ext E1497).other W1503 ne1499).other W1505 ne1499).other W1508 ne1499)
  have F1518 := ((((B1492_2.ext E1497).other W1503 ne1498).other W1505 ne1498).other W1508 ne1498)
  obtain ⟨T1509, _, Lc1509, X1509, hQ1509, G⟩ := o_vb (q := 193) (W := 0) (argsL := []) (rest := []) (y := (⟨o_n0, "takeFirst", "()I"⟩ : MethodName)) G X1508 hx hZ hown (by rw [hml]; rfl) ⟨(o_w hw 47 rfl), (o_w hw 48 rfl), (o_w hw 50 rfl), (o_w hw 49 rfl), (o_w hw 51 rfl), (o_w hw 3 rfl)⟩ (by decide) e1508 F1510 (rm8n3f l Z a0 hw [] b1292 va_1293 vh_1293 vx_1293 ka_1293 kh_1293 kx_1293 (0 : Int32) (2 : Int32) (1 : Int32) [(.double o_d2), (.double o_d1), (.double o_d0)] [(.int 0), (.int 2), (.int 1)] [(.int (-1)), (.int 0), (.int 1)] o_d2 o_d1 o_d0 h1508 n0 Z1508 F1510 F1511 F1512 F1513 F1514 F1515 F1516 F1517 F1518 ge_b1292 ge_vh_1293 ge_vx_1293 ne1294 ne1295 ne1296 B1293_8 B1293_9 B1293_10 ⟨by decide, by decide⟩ ⟨by decide, by decide⟩ ⟨by decide, by decide⟩ rfl rfl rfl (by decide +kernel) rfl) (lenOf pd_3 rfl) rfl (Nat.le_of_eq rfl) (hb hby at_190) rfl (by decide) (by decide) (by decide) (by decide)
  obtain ⟨rfl, N1509q, K1509q, B1509_0, B1509_1, B1509_2, B1509_3, B1509_4, B1509_5, B1509_6⟩ := hQ1509
  have Z1509 : n0 ≤ T1509.heap.size := Nat.le_trans Z1508 K1509q.1
  have N1509 := Fr.app N1508 N1509q
  replace G := o_re (st := [(.int 0)]) G rfl
  replace G := o_istore (q := 195) (l' := #[.val (.int i0), .val (.int i1), .val (.int 5), .val (.int 2), .val (.int 0), .val (.int 1), .val (.int 1), .val (.int 0), .val (.int 1), .val (.int 1), .val (.ref b1292), .val (.ref b1497), .val (.int 0), .unset, .unset, .unset]) G X1509.here hx (hb hby at_193) rfl rfl
  replace G := o_aload (q := 197) G X1509.here hx (hb hby at_195) rfl rfl rfl
  have F1520 := (F1510.keep K1509q)
  have F1521 := (F1516.keep K1509q (ninS (Ne.symm ne1294) (ninS B1293_8 (ninS B1293_9 nin0))))
  obtain ⟨T1519, _, Lc1519, X1519, hQ1519, G⟩ := o_vb (q := 200) (W := 0) (argsL := []) (rest := []) (y := (⟨o_n0, "takeFirst", "()I"⟩ : MethodName)) G X1509 hx hZ hown (by rw [hml]; rfl) ⟨(o_w hw 47 rfl), (o_w hw 48 rfl), (o_w hw 50 rfl), (o_w hw 49 rfl), (o_w hw 51 rfl), (o_w hw 3 rfl)⟩ (by decide) rfl F1520 (rm8n2 l Z a0 hw [] b1292 va_1293 vh_1293 vx_1293 ka_1293 kh_1293 kx_1293 (1 : Int32) (2 : Int32) (1 : Int32) [(.double o_d2), (.double o_d1), (.double o_d0)] [(.int (-1)), (.int 0), (.int 1)] [(.int (-1)), (.int (-1)), (.int 0)] o_d2 T1509.heap n0 Z1509 F1520 B1509_0 B1509_1 B1509_2 B1509_3 B1509_4 F1521 B1509_5 B1509_6 ge_b1292 ge_vh_1293 ge_vx_1293 ne1294 ne1295 ne1296 B1293_8 B1293_9 B1293_10 ⟨by decide, by decide⟩ ⟨by decide, by decide⟩ rfl rfl) (lenOf pd_3 rfl) rfl (Nat.le_of_eq rfl) (hb hby at_197) rfl (by decide) (by decide) (by decide) (by decide)
  obtain ⟨rfl, N1519q, K1519q, B1519_0, B1519_1, B1519_2, B1519_3, B1519_4, B1519_5, B1519_6⟩ := hQ1519
  have Z1519 : n0 ≤ T1519.heap.size := Nat.le_trans Z1509 K1519q.1
  have N1519 := Fr.app N1509 N1519q
  replace G := o_re (st := [(.int 1)]) G rfl
  replace G := o_istore (q := 202) (l' := #[.val (.int i0), .val (.int i1), .val (.int 5), .val (.int 2), .val (.int 0), .val (.int 1), .val (.int 1), .val (.int 0), .val (.int 1), .val (.int 1), .val (.ref b1292), .val (.ref b1497), .val (.int 0), .val (.int 1), .unset, .unset]) G X1519.here hx (hb hby at_200) rfl rfl
  replace G := o_aload (q := 204) G X1519.here hx (hb hby at_202) rfl rfl rfl
  have F1523 := (F1520.keep K1519q)
  have F1524 := (F1521.keep K1519q (ninS (Ne.symm ne1294) (ninS B1293_8 (ninS B1293_9 nin0))))
  obtain ⟨T1522, _, Lc1522, X1522, hQ1522, G⟩ := o_vb (q := 207) (W := 0) (argsL := []) (rest := []) (y := (⟨o_n0, "takeFirst", "()I"⟩ : MethodName)) G X1519 hx hZ hown (by rw [hml]; rfl) ⟨(o_w hw 47 rfl), (o_w hw 48 rfl), (o_w hw 50 rfl), (o_w hw 49 rfl), (o_w hw 51 rfl), (o_w hw 3 rfl)⟩ (by decide) rfl F1523 (rm8n1 l Z a0 hw [] b1292 va_1293 vh_1293 vx_1293 ka_1293 kh_1293 kx_1293 (2 : Int32) (2 : Int32) (1 : Int32) [(.double o_d2), (.double o_d1), (.double o_d0)] [(.int (-1)), (.int (-1)), (.int 0)] [(.int (-1)), (.int (-1)), (.int (-1))] o_d2 T1519.heap n0 Z1519 F1523 B1519_0 B1519_1 B1519_2 B1519_3 B1519_4 F1524 B1519_5 B1519_6 ge_b1292 ge_vh_1293 ge_vx_1293 ne1294 ne1295 ne1296 B1293_8 B1293_9 B1293_10 ⟨by decide, by decide⟩ rfl rfl) (lenOf pd_3 rfl) rfl (Nat.le_of_eq rfl) (hb hby at_204) rfl (by decide) (by decide) (by decide) (by decide)
  obtain ⟨rfl, N1522q, K1522q, B1522_0, B1522_1, B1522_2, B1522_3, B1522_4, B1522_5, B1522_6⟩ := hQ1522
  have Z1522 : n0 ≤ T1522.heap.size := Nat.le_trans Z1519 K1522q.1
  have N1522 := Fr.app N1519 N1522q
  replace G := o_re (st := [(.int 2)]) G rfl
  replace G := o_istore (q := 209) (l' := #[.val (.int i0), .val (.int i1), .val (.int 5), .val (.int 2), .val (.int 0), .val (.int 1), .val (.int 1), .val (.int 0), .val (.int 1), .val (.int 1), .val (.ref b1292), .val (.ref b1497), .val (.int 0), .val (.int 1), .val (.int 2), .unset]) G X1522.here hx (hb hby at_207) rfl rfl
  replace G := o_iload (q := 211) G X1522.here hx (hb hby at_209) rfl rfl
  replace G := o_ifNo (q := 214) G X1522.here hx (hb hby at_211) (by decide) rfl
  replace G := o_iload (q := 216) G X1522.here hx (hb hby at_214) rfl rfl
  replace G := o_iconst (q := 217) G X1522.here hx (hb hby at_216) (v := (3 : Int32)) (by decide) rfl
  replace G := o_icmpNo (q := 220) G X1522.here hx (hb hby at_217) (by decide) rfl
  replace G := o_iload (q := 222) G X1522.here hx (hb hby at_220) rfl rfl
  replace G := o_ifNo (q := 225) G X1522.here hx (hb hby at_222) (by decide) rfl
  replace G := o_iload (q := 227) G X1522.here hx (hb hby at_225) rfl rfl
  replace G := o_iconst (q := 228) G X1522.here hx (hb hby at_227) (v := (3 : Int32)) (by decide) rfl
  replace G := o_icmpNo (q := 231) G X1522.here hx (hb hby at_228) (by decide) rfl
  replace G := o_iload (q := 233) G X1522.here hx (hb hby at_231) rfl rfl
  replace G := o_ifNo (q := 236) G X1522.here hx (hb hby at_233) (by decide) rfl
  replace G := o_iload (q := 238) G X1522.here hx (hb hby at_236) rfl rfl
  replace G := o_iconst (q := 239) G X1522.here hx (hb hby at_238) (v := (3 : Int32)) (by decide) rfl
  replace G := o_icmpNo (q := 242) G X1522.here hx (hb hby at_239) (by decide) rfl
  replace G := o_iload (q := 244) G X1522.here hx (hb hby at_242) rfl rfl
  replace G := o_iload (q := 246) G X1522.here hx (hb hby at_244) rfl rfl
  replace G := o_icmpNo (q := 249) G X1522.here hx (hb hby at_246) (by decide) rfl
  replace G := o_iload (q := 251) G X1522.here hx (hb hby at_249) rfl rfl
  replace G := o_iload (q := 253) G X1522.here hx (hb hby at_251) rfl rfl
  replace G := o_icmpNo (q := 256) G X1522.here hx (hb hby at_253) (by decide) rfl
  replace G := o_iload (q := 258) G X1522.here hx (hb hby at_256) rfl rfl
  replace G := o_iload (q := 260) G X1522.here hx (hb hby at_258) rfl rfl
  replace G := o_icmpNo (q := 263) G X1522.here hx (hb hby at_260) (by decide) rfl
  replace G := o_iconst (q := 264) G X1522.here hx (hb hby at_263) (v := (1 : Int32)) (by decide) rfl
  replace G := o_goto (q := 268) G X1522.here hx (hb hby at_264) (by decide) (by decide)
  replace G := o_istore (q := 270) (l' := #[.val (.int i0), .val (.int i1), .val (.int 5), .val (.int 2), .val (.int 0), .val (.int 1), .val (.int 1), .val (.int 0), .val (.int 1), .val (.int 1), .val (.ref b1292), .val (.ref b1497), .val (.int 0), .val (.int 1), .val (.int 2), .val (.int 1)]) G X1522.here hx (hb hby at_268) rfl rfl
  replace G := o_iload (q := 272) G X1522.here hx (hb hby at_270) rfl rfl
  replace G := o_ifNo (q := 275) G X1522.here hx (hb hby at_272) (by decide) rfl
  replace G := o_aload (q := 277) G X1522.here hx (hb hby at_275) rfl rfl rfl
  replace G := o_iload (q := 279) G X1522.here hx (hb hby at_277) rfl rfl
  replace G := o_iload (q := 281) G X1522.here hx (hb hby at_279) rfl rfl
  have F1536 := (((V1508.keep K1509q (ninS (Ne.symm ne1502) (ninS (Ne.symm ne1499) (ninS (Ne.symm ne1498) nin0)))).keep K1519q (ninS (Ne.symm ne1502) (ninS (Ne.symm ne1499) (ninS (Ne.symm ne1498) nin0)))).keep K1522q (ninS (Ne.symm ne1502) (ninS (Ne.symm ne1499) (ninS (Ne.symm ne1498) nin0))))
  obtain ⟨_, _, ⟨T1535, L1535, kk1535, nn1535⟩, -, X1535, ⟨Lc1535, hQ1535, l1535, y1535, z1535⟩, st1535⟩ := Jvm.LawKit.callS X1522 hx (y := (⟨o_n1, "before", "([III)Z"⟩ : MethodName)) hown (mvT hZ (o_w hw 56 rfl)) (mvT hZ (o_w hw 57 rfl)) (mvT hZ (o_w hw 58 rfl)) (mvT hZ (o_w hw 59 rfl)) (by decide) (backOf (W := 0) (rm10 l Z a0 hw [] b1497 (0 : Int32) (1 : Int32) k1497 [(.int 2), (.int 1), (.int 0)] (2 : Int32) (1 : Int32) T1522.heap n0 Z1522 F1536 ⟨by decide, by decide⟩ ⟨by decide, by decide⟩ rfl rfl) hZ (o_w hw 59 rfl) (o_w hw 58 rfl) (by decide) (by decide)) (g := o_g G) rfl (by rw [hml]; rfl) (argsL := [(.ref b1497), (.int 0), (.int 1)]) (rest := []) (lenOf pd_4 rfl) rfl (by show 2 * 0 + _ ≤ _; exact Nat.le_of_eq rfl) (hb hby at_281) (fun _ _ => ⟨rfl, rfl, (by decide : 5 + 0 ≤ _), (by decide : 17 + 0 ≤ _)⟩)
  dsimp only [Pt.U, Pt.locs, Pt.cells, Pt.slots] at X1535 l1535 y1535 z1535 st1535 hQ1535
  subst l1535 y1535 z1535
  obtain ⟨rfl, N1535q, e1535⟩ := hQ1535
  have N1535 := Fr.app N1522 N1535q
  replace G := o_nxs (q := 284) (st := [(.int (o_lb (2 : Int32) (1 : Int32) (0 : Int32) (1 : Int32)))]) G st1535 rfl
  replace G := o_ifNo (q := 287) G X1535.here hx (hb hby at_284) (by decide) rfl
  replace G := o_aload (q := 289) G X1535.here hx (hb hby at_287) rfl rfl rfl
  replace G := o_iload (q := 291) G X1535.here hx (hb hby at_289) rfl rfl
  replace G := o_iload (q := 293) G X1535.here hx (hb hby at_291) rfl rfl
  obtain ⟨_, _, ⟨T1538, L1538, kk1538, nn1538⟩, -, X1538, ⟨Lc1538, hQ1538, l1538, y1538, z1538⟩, st1538⟩ := Jvm.LawKit.callS X1535 hx (y := (⟨o_n1, "before", "([III)Z"⟩ : MethodName)) hown (mvT hZ (o_w hw 56 rfl)) (mvT hZ (o_w hw 57 rfl)) (mvT hZ (o_w hw 58 rfl)) (mvT hZ (o_w hw 59 rfl)) (by decide) (backOf (W := 0) (rm10 l Z a0 hw [] b1497 (1 : Int32) (2 : Int32) k1497 [(.int 2), (.int 1), (.int 0)] (1 : Int32) (0 : Int32) T1522.heap n0 Z1522 F1536 ⟨by decide, by decide⟩ ⟨by decide, by decide⟩ rfl rfl) hZ (o_w hw 59 rfl) (o_w hw 58 rfl) (by decide) (by decide)) (g := o_g G) rfl (by rw [hml]; rfl) (argsL := [(.ref b1497), (.int 1), (.int 2)]) (rest := []) (lenOf pd_4 rfl) rfl (by show 2 * 0 + _ ≤ _; exact Nat.le_of_eq rfl) (hb hby at_293) (fun _ _ => ⟨rfl, e1535, (by decide : 5 + 0 ≤ _), (by decide : 17 + 0 ≤ _)⟩)
  dsimp only [Pt.U, Pt.locs, Pt.cells, Pt.slots] at X1538 l1538 y1538 z1538 st1538 hQ1538
  subst l1538 y1538 z1538
  obtain ⟨rfl, N1538q, e1538⟩ := hQ1538
  have N1538 := Fr.app N1535 N1538q
  replace G := o_nxs (q := 296) (st := [(.int (o_lb (1 : Int32) (0 : Int32) (1 : Int32) (2 : Int32)))]) G st1538 rfl
  replace G := o_ifNo (q := 299) G X1538.here hx (hb hby at_296) (by decide) rfl
  replace G := o_aload (q := 301) G X1538.here hx (hb hby at_299) rfl rfl rfl
  have F1541 := (F1523.keep K1522q)
  obtain ⟨T1540, _, Lc1540, X1540, hQ1540, G⟩ := o_vb (q := 304) (W := 0) (argsL := []) (rest := []) (y := (⟨o_n0, "isEmpty", "()Z"⟩ : MethodName)) G X1538 hx hZ hown (by rw [hml]; rfl) ⟨(o_w hw 60 rfl), (o_w hw 61 rfl), (o_w hw 63 rfl), (o_w hw 62 rfl), (o_w hw 64 rfl), (o_w hw 3 rfl)⟩ (by decide) e1538 F1541 (rm11 l Z a0 hw [] b1292 T1522.heap n0 Z1522 B1522_3) (lenOf pd_5 rfl) rfl (Nat.le_of_eq rfl) (hb hby at_301) rfl (by decide) (by decide) (by decide) (by decide)
  obtain ⟨rfl, N1540q, e1540⟩ := hQ1540
  have N1540 := Fr.app N1538 N1540q
  replace G := o_re (st := [(.int 1)]) G rfl
  replace G := o_ifNo (q := 307) G X1540.here hx (hb hby at_304) (by decide) rfl
  replace G := o_iconst (q := 308) G X1540.here hx (hb hby at_307) (v := (1 : Int32)) (by decide) rfl
  replace G := o_goto (q := 312) G X1540.here hx (hb hby at_308) (by decide) (by decide)
  obtain ⟨fs, hr, hrun, hended, hW, hsame⟩ := X1540.leave (v := some (.int 1)) (fun h => by rw [Bd.returns] at h; cases h)
  refine ⟨_, _, G _ (retOut X1540 hx Bd.returns rfl (Or.inl ⟨rfl, Or.inr (Or.inl rfl), _, rfl⟩) (hb hby at_312) hr), hrun, hended, _, _, rfl, ?_, ⟨_, rfl⟩, hW, hsame.mono (by decide) (by decide)⟩
  show Q0 Z i0 i1 h0 n0 _ T1540.heap _
  rw [e1540]
  exact ⟨rfl, N1540⟩
set_option maxRecDepth 65536 in
set_option maxHeartbeats 40000000 in
theorem comes_1 {Post : Tables → Env → Array Value → State → Outcome → State → Prop} (hpost : ∀ tb e args s v u, (limb_1_1.after args s (.returned v) u = true ∧ limb_1_2.after args s (.returned v) u = true ∧ True) → FrameEnd s (.returned v) u (Jvm.fieldLocs frame_1_writes args s ++ Jvm.arrayLocs frame_1_arrays args s ++ Jvm.staticLocs frame_1_statics s) 24 128 → Post tb e args s (.returned v) u) :
    ArmFor flags0 classFile x code maxLocals ret World_1 tables_1 room_1 Calls_1 rest_1 Pre_1 Post := by
  intro l hfl _ _ p e ha hc hk s m args below hf hA hF happ hP
  obtain ⟨hcalls, hrest, hpre⟩ := hP
  obtain ⟨-, -, -, hnamed, -, -, -, hat⟩ := (Spec.applies_iff hf).mp happ
  obtain ⟨hg, hn⟩ := and_e (Cond.before_iff.mp (show (Jvm.Cond.and given_1 narrow_1).before args s = true from hpre))
  obtain ⟨g1, g2⟩ := and_e hg
  obtain ⟨g3, g4⟩ := and_e g2
  obtain ⟨w0, w1, rfl⟩ : ∃ w0 w1 : Value, args = #[w0, w1] := by
    have hs : args.size = 2 := by simpa [Cond.value, given_1] using g1
    obtain ⟨L⟩ := args
    match L, hs with
    | [w0, w1], _ => exact ⟨w0, w1, rfl⟩
  have hw := fun d (hd : d ∈ tables_1) => atoms_spec (ws := Jvm.Cond.code x code maxLocals ret :: tables_1) hat d (List.mem_cons_of_mem _ hd)
  have hfit : Fit s := fun {y c} hc i hi => by
    obtain ⟨ha, rfl⟩ := Array.getElem?_eq_some_iff.mp hc
    have q := List.all_eq_true.mp ((Array.all_eq_true_iff_forall_mem.mp hF) _ (Array.getElem_mem ha)) i (List.mem_range.mpr hi)
    simpa [Array.getElem?_eq_getElem hi] using q
  obtain ⟨i0, ei0⟩ := is_v g3
  obtain rfl : w0 = (.int i0) := Option.some.inj ei0
  obtain ⟨i1, ei1⟩ := is_v g4
  obtain rfl : w1 = (.int i1) := Option.some.inj ei1
  obtain ⟨n, o, h1, h2, h3, _, L, rfl, ⟨rfl, N⟩, hq⟩ := rm0 l s _ hw tables_1 i0 i1 s.heap s.heap.size (Nat.le_refl _)  p e ha hc hk s m _ below hf ((Spec.applies_iff_loose hf).mp happ).1 ⟨rfl, State.Warmed39.refl s, rfl⟩ trivial
  refine ⟨n, _, h1, h2, h3, hpost _ _ _ _ _ _ ⟨Cond.after_iff.mpr rfl, Cond.after_iff.mpr (eq_i res_at (Term.int_eval (1)) rfl), trivial⟩ ⟨hq.1, hq.2.1, (hq.2.2.sift fun y hy => Or.inr (N y hy)).mono (by decide) (by decide)⟩⟩
theorem main_1_1 : Claimed_1_1 := comes_1 fun _ _ _ _ _ _ h hF => ⟨h.1, hF⟩
theorem main_1_2 : Claimed_1_2 := comes_1 fun _ _ _ _ _ _ h hF => ⟨h.2.1, hF⟩
end Jvm.Pilot.@@N@@
namespace Jvm.Pilot.@@N@@
open Jvm Jvm.ClassFile Sem Op Lib Jvm.Free Jvm.Stand Jvm.Pilot.@@N@@.Jvm.D
/-! MADE BY PROGRAM (witnessworld.py) out of the Statement's table words and the real class files: 11 classes; the members and pool entries that the words name. The judged class is class 1, her method 1. -/
namespace start1
open Jvm.ClassFile
def u (s : String) : CpInfo := .utf8 (stringToUtf16 s)
/-- a pool by its gaps: so many unusable entries, then the entry; so many at the end -/
def gap : Nat → List CpInfo → List CpInfo
  | 0, r => r
  | n + 1, r => .unusable :: gap n r
def poolList (es : List (Nat × CpInfo)) (last : Nat) : List CpInfo := es.foldr (fun e r => gap e.1 (e.2 :: r)) (gap last [])
def pool (es : List (Nat × CpInfo)) (last : Nat) : Array CpInfo := ⟨poolList es last⟩
def fileOf (pool : Array CpInfo) (this : Nat) (attrs : Array Attribute := #[]) (ms : Array MethodInfo := #[]) (fl : Nat := 33) (sup : Nat := 0) (ifs : Array Nat := #[]) (fds : Array FieldInfo := #[]) : ClassFile where
  minorVersion := 0
  majorVersion := 65
  constantPool := pool
  accessFlags := fl
  thisClass := this
  superClass := sup
  interfaces := ifs
  fields := fds
  methods := ms
  attributes := attrs
def plain (name : String) (sup : Option ClassId) : Class where
  name := name
  kind := .ordinary
  loader := none
  accessFlags := 33
  super := sup
  interfaces := #[]
  cf := none
  fields := #[]
  methods := #[]
  instanceTypes := #[]
  staticTypes := #[]
  resolved := #[]
  callSites := []
  init := .initialized
  statics := none
  mirror := none

def pool0 : Array CpInfo := pool [(5, u "<init>"), (0, u "()V"), (1, .class_ 10), (1, u "java/lang/Object")] 113

def k0c0 : Code := { maxStack := 0, maxLocals := 1, code := object_method_1_code, exceptionTable := #[], attributes := #[] }
def k0m0 : Method := { name := "<init>", desc := "()V", sig := { parameters := [], returnType := none }, accessFlags := 1, code := some k0c0 }
/-- java/lang/Object -/
def k0 : Class := { plain "java/lang/Object" none with
  accessFlags := 33
  interfaces := #[]
  cf := some (fileOf pool0 8 #[] #[{ accessFlags := 1, nameIndex := 5, descriptorIndex := 6, attributes := #[] }] 33 0 #[] #[])
  fields := #[]
  methods := #[k0m0]
  instanceTypes := #[]
  staticTypes := #[]
  resolved := Array.replicate 124 none
  statics := none }

def pool1 : Array CpInfo := pool [(2, .class_ 4), (1, u "java/lang/Object"), (0, u "<init>"), (0, u "()V"), (0, .integer 2147483647), (0, .class_ 9), (0, u "com/example/gridwright/gridwright/core/ActivityOrder"), (0, .methodref 8 11), (0, .nameAndType 5 12), (0, u "(ILcom/example/gridwright/gridwright/core/SplitMix64;)V"), (0, .methodref 8 14), (0, .nameAndType 15 16), (0, u "bump"), (0, u "(I)V"), (0, .methodref 8 18), (0, .nameAndType 19 6), (0, u "decay"), (0, .methodref 8 21), (0, .nameAndType 22 23), (0, u "takeFirst"), (0, u "()I"), (0, .methodref 25 26), (0, .class_ 27), (0, .nameAndType 28 29), (0, u "com/example/gridwright/gridwright/core/ActivityOrderDecayPinLaw"), (0, u "before"), (0, u "([III)Z"), (0, .methodref 8 31), (0, .nameAndType 32 33), (0, u "isEmpty"), (0, u "()Z"), (2, u "law"), (0, u "(II)Z")] 5

def k1m0 : Method := { name := "<init>", desc := "()V", sig := { parameters := [], returnType := none }, accessFlags := 1, code := none }
def k1c1 : Code := { maxStack := 4, maxLocals := 16, code := code, exceptionTable := #[], attributes := #[] }
def k1m1 : Method := { name := "law", desc := "(II)Z", sig := { parameters := [.int, .int], returnType := some .boolean }, accessFlags := 9, code := some k1c1 }
def k1c2 : Code := { maxStack := 3, maxLocals := 3, code := method_3_code, exceptionTable := #[], attributes := #[] }
def k1m2 : Method := { name := "before", desc := "([III)Z", sig := { parameters := [(.array .int), .int, .int], returnType := some .boolean }, accessFlags := 10, code := some k1c2 }
/-- com/example/gridwright/gridwright/core/ActivityOrderDecayPinLaw -/
def k1 : Class := { plain "com/example/gridwright/gridwright/core/ActivityOrderDecayPinLaw" (some 0) with
  accessFlags := 49
  interfaces := #[]
  cf := some (fileOf pool1 25 #[] #[{ accessFlags := 1, nameIndex := 5, descriptorIndex := 6, attributes := #[] }, { accessFlags := 9, nameIndex := 36, descriptorIndex := 37, attributes := #[] }, { accessFlags := 10, nameIndex := 28, descriptorIndex := 29, attributes := #[] }] 49 2 #[] #[])
  fields := #[]
  methods := #[k1m0, k1m1, k1m2]
  instanceTypes := #[]
  staticTypes := #[]
  resolved := Array.replicate 43 none
  statics := none }

def pool2 : Array CpInfo := pool [(1, .methodref 2 3), (0, .class_ 4), (0, .nameAndType 5 6), (0, u "java/lang/Object"), (0, u "<init>"), (0, u "()V"), (0, .fieldref 8 9), (0, .class_ 10), (0, .nameAndType 11 12), (0, u "com/example/gridwright/gridwright/core/ActivityOrder"), (0, u "bump"), (0, u "D"), (0, .fieldref 8 14), (0, .nameAndType 15 16), (0, u "activity"), (0, u "[D"), (0, .fieldref 8 18), (0, .nameAndType 19 20), (0, u "heap"), (0, u "[I"), (0, .fieldref 8 22), (0, .nameAndType 23 20), (0, u "heapIndex"), (6, .methodref 8 31), (0, .nameAndType 32 33), (0, u "add"), (0, u "(I)V"), (0, .fieldref 8 35), (0, .nameAndType 36 37), (0, u "heapSize"), (0, u "I"), (0, .methodref 8 39), (0, .nameAndType 40 33), (0, u "siftUp"), (0, .methodref 8 42), (0, .nameAndType 43 33), (0, u "siftDown"), (0, .double 6103021453049119613), (1, .double 4606732058837280358), (1, .methodref 8 49), (0, .nameAndType 50 51), (0, u "before"), (0, u "(II)Z"), (0, u "DECAY"), (1, u "RESCALE"), (0, u "(ILcom/example/gridwright/gridwright/core/SplitMix64;)V"), (4, u "isEmpty"), (0, u "()Z"), (0, u "takeFirst"), (0, u "()I"), (0, u "decay")] 2

def k2c0 : Code := { maxStack := 4, maxLocals := 4, code := prog_7_method_1_code, exceptionTable := #[], attributes := #[] }
def k2m0 : Method := { name := "<init>", desc := "(ILcom/example/gridwright/gridwright/core/SplitMix64;)V", sig := { parameters := [.int, (.object "com/example/gridwright/gridwright/core/SplitMix64")], returnType := none }, accessFlags := 0, code := some k2c0 }
def k2c1 : Code := { maxStack := 1, maxLocals := 1, code := prog_7_method_2_code, exceptionTable := #[], attributes := #[] }
def k2m1 : Method := { name := "isEmpty", desc := "()Z", sig := { parameters := [], returnType := some .boolean }, accessFlags := 0, code := some k2c1 }
def k2c2 : Code := { maxStack := 3, maxLocals := 2, code := prog_7_method_3_code, exceptionTable := #[], attributes := #[] }
def k2m2 : Method := { name := "add", desc := "(I)V", sig := { parameters := [.int], returnType := none }, accessFlags := 0, code := some k2c2 }
def k2c3 : Code := { maxStack := 4, maxLocals := 2, code := prog_7_method_4_code, exceptionTable := #[], attributes := #[] }
def k2m3 : Method := { name := "takeFirst", desc := "()I", sig := { parameters := [], returnType := some .int }, accessFlags := 0, code := some k2c3 }
def k2c4 : Code := { maxStack := 6, maxLocals := 3, code := prog_7_method_5_code, exceptionTable := #[], attributes := #[] }
def k2m4 : Method := { name := "bump", desc := "(I)V", sig := { parameters := [.int], returnType := none }, accessFlags := 0, code := some k2c4 }
def k2c5 : Code := { maxStack := 5, maxLocals := 1, code := prog_7_method_6_code, exceptionTable := #[], attributes := #[] }
def k2m5 : Method := { name := "decay", desc := "()V", sig := { parameters := [], returnType := none }, accessFlags := 0, code := some k2c5 }
def k2c6 : Code := { maxStack := 4, maxLocals := 3, code := prog_7_method_7_code, exceptionTable := #[], attributes := #[] }
def k2m6 : Method := { name := "before", desc := "(II)Z", sig := { parameters := [.int, .int], returnType := some .boolean }, accessFlags := 2, code := some k2c6 }
def k2c7 : Code := { maxStack := 5, maxLocals := 4, code := prog_7_method_8_code, exceptionTable := #[], attributes := #[] }
def k2m7 : Method := { name := "siftUp", desc := "(I)V", sig := { parameters := [.int], returnType := none }, accessFlags := 2, code := some k2c7 }
def k2c8 : Code := { maxStack := 4, maxLocals := 5, code := prog_7_method_9_code, exceptionTable := #[], attributes := #[] }
def k2m8 : Method := { name := "siftDown", desc := "(I)V", sig := { parameters := [.int], returnType := none }, accessFlags := 2, code := some k2c8 }
/-- com/example/gridwright/gridwright/core/ActivityOrder -/
def k2 : Class := { plain "com/example/gridwright/gridwright/core/ActivityOrder" (some 0) with
  accessFlags := 48
  interfaces := #[]
  cf := some (fileOf pool2 8 #[] #[{ accessFlags := 0, nameIndex := 5, descriptorIndex := 55, attributes := #[] }, { accessFlags := 0, nameIndex := 60, descriptorIndex := 61, attributes := #[] }, { accessFlags := 0, nameIndex := 32, descriptorIndex := 33, attributes := #[] }, { accessFlags := 0, nameIndex := 62, descriptorIndex := 63, attributes := #[] }, { accessFlags := 0, nameIndex := 11, descriptorIndex := 33, attributes := #[] }, { accessFlags := 0, nameIndex := 64, descriptorIndex := 6, attributes := #[] }, { accessFlags := 2, nameIndex := 50, descriptorIndex := 51, attributes := #[] }, { accessFlags := 2, nameIndex := 40, descriptorIndex := 33, attributes := #[] }, { accessFlags := 2, nameIndex := 43, descriptorIndex := 33, attributes := #[] }] 48 2 #[] #[{ accessFlags := 26, nameIndex := 52, descriptorIndex := 12, attributes := #[] }, { accessFlags := 26, nameIndex := 54, descriptorIndex := 12, attributes := #[] }, { accessFlags := 18, nameIndex := 15, descriptorIndex := 16, attributes := #[] }, { accessFlags := 2, nameIndex := 11, descriptorIndex := 12, attributes := #[] }, { accessFlags := 18, nameIndex := 19, descriptorIndex := 20, attributes := #[] }, { accessFlags := 18, nameIndex := 23, descriptorIndex := 20, attributes := #[] }, { accessFlags := 2, nameIndex := 36, descriptorIndex := 37, attributes := #[] }])
  fields := #[{ name := "DECAY", type := .double, accessFlags := 26, slot := 0, constantValue := 0 }, { name := "RESCALE", type := .double, accessFlags := 26, slot := 1, constantValue := 0 }, { name := "activity", type := (.array .double), accessFlags := 18, slot := 0, constantValue := 0 }, { name := "bump", type := .double, accessFlags := 2, slot := 1, constantValue := 0 }, { name := "heap", type := (.array .int), accessFlags := 18, slot := 2, constantValue := 0 }, { name := "heapIndex", type := (.array .int), accessFlags := 18, slot := 3, constantValue := 0 }, { name := "heapSize", type := .int, accessFlags := 2, slot := 4, constantValue := 0 }]
  methods := #[k2m0, k2m1, k2m2, k2m3, k2m4, k2m5, k2m6, k2m7, k2m8]
  instanceTypes := #[(.array .double), .double, (.array .int), (.array .int), .int]
  staticTypes := #[.double, .double]
  resolved := Array.replicate 67 none
  statics := none }

def pool3 : Array CpInfo := pool [(1, u "java/lang/Cloneable"), (0, .class_ 1), (0, u "java/lang/Object"), (0, .class_ 3)] 3

/-- java/lang/Cloneable -/
def k3 : Class := { plain "java/lang/Cloneable" (some 0) with
  accessFlags := 1537
  interfaces := #[]
  cf := some (fileOf pool3 2 #[] #[] 1537 4 #[] #[])
  fields := #[]
  methods := #[]
  instanceTypes := #[]
  staticTypes := #[]
  resolved := Array.replicate 8 none
  statics := none }

def pool4 : Array CpInfo := pool [(1, u "java/io/Serializable"), (0, .class_ 1), (0, u "java/lang/Object"), (0, .class_ 3)] 3

/-- java/io/Serializable -/
def k4 : Class := { plain "java/io/Serializable" (some 0) with
  accessFlags := 1537
  interfaces := #[]
  cf := some (fileOf pool4 2 #[] #[] 1537 4 #[] #[])
  fields := #[]
  methods := #[]
  instanceTypes := #[]
  staticTypes := #[]
  resolved := Array.replicate 8 none
  statics := none }

/-- the primitive byte -/
def k5 : Class := { plain "byte" none with kind := .primitive 'B', accessFlags := 0x411 }
/-- [B -/
def k6 : Class := { plain "[B" (some 0) with kind := .array 5 .byte, interfaces := #[3, 4], accessFlags := 1041 }

/-- the primitive double -/
def k7 : Class := { plain "double" none with kind := .primitive 'D', accessFlags := 0x411 }
/-- [D -/
def k8 : Class := { plain "[D" (some 0) with kind := .array 7 .double, interfaces := #[3, 4], accessFlags := 1041 }

/-- the primitive int -/
def k9 : Class := { plain "int" none with kind := .primitive 'I', accessFlags := 0x411 }
/-- [I -/
def k10 : Class := { plain "[I" (some 0) with kind := .array 9 .int, interfaces := #[3, 4], accessFlags := 1041 }

def heap : Heap := #[]
def classes : Array Class := #[k0, k1, k2, k3, k4, k5, k6, k7, k8, k9, k10]
def interned : List (Array UInt16 × Addr) := []
def slotsUsed : Nat := 0
def theMethod : MethodId := ⟨1, 1⟩
def args0 : Array Value := #[.int 5, .int 3]
def aboutOver (below : List Frame) : State where
  vm := { classes := classes, interned := interned.toArray }
  heap := heap
  slotsUsed := slotsUsed
  threads := #[{ frames := .invoking theMethod args0 :: below }]
def below0 : List Frame := [.native { method := ⟨0, 0⟩, args := #[] }]
def about1 : State := aboutOver below0
def p0 : Program := .bare "" "" ""
def e0 : Env := launch0.env 0 0 0
theorem w_frames : about1.frames = Frame.invoking theMethod args0 :: below0 := rfl
set_option maxRecDepth 65536 in
theorem w_args : argsFit about1.vm theMethod args0 = true := by decide +kernel
set_option maxRecDepth 65536 in
theorem w_heap : heapFits about1 = true := by decide +kernel
set_option maxRecDepth 65536 in
theorem w_runnable : about1.curStatus? = some .runnable := by decide +kernel
set_option maxRecDepth 65536 in
theorem w_alone : about1.alone = true := by decide +kernel
set_option maxRecDepth 65536 in
theorem w_named : about1.methodNamed? x = some theMethod := by decide +kernel
set_option maxRecDepth 65536 in
theorem w_hears : about1.hears theMethod below0 = true := by decide +kernel
set_option maxRecDepth 65536 in
theorem w_ripe : about1.ripe theMethod args0 below0 = true := by decide +kernel
theorem w_running : about1.status = .running := rfl
set_option maxRecDepth 65536 in
theorem w_room : about1.hasRoom e0.platform room_1 = true :=
  launch0.hasRoom_least _ room_1 (by decide +kernel) (by decide +kernel) (by decide +kernel) (by decide +kernel) (by decide +kernel) (by decide +kernel)
theorem allAtoms_all (ts : List Jvm.Cond) (a : Array Jvm.Value) (st : Jvm.State) : (allAtoms ts).before a st = ts.all (fun c => c.before a st) := by
  induction ts with
  | nil => rfl
  | cons c t ih =>
    show (Jvm.Cond.and c (allAtoms t)).before a st = _
    rw [Jvm.Cond.before_and, ih, List.all_cons]
def words1 : List Jvm.Cond := Jvm.Cond.code x code maxLocals ret :: tables_1
/-- a 'code' word, met by the world's own term for the bytes: nothing is compared byte by byte -/
theorem code_word {y : MethodName} {bytes : ByteArray} {mx : Nat} {rt : Option FieldType} {a : Array Value} {s : State} {m : MethodId} {meth : Method} {c : Code} (h1 : s.methodNamed? y = some m) (h2 : s.vm.method? m = some meth) (h3 : meth.code = some c) (h4 : c.code = bytes)
    (h5 : (c.maxLocals == mx && c.exceptionTable.isEmpty && decide (c.maxStack ≤ mostOperands) && decide (meth.sig.returnType = rt) && !meth.locks && decide (parseMethodDescriptor y.desc = some meth.sig)) = true) : (Jvm.Cond.code y bytes mx rt).before a s = true := by
  simp only [Bool.and_eq_true, beq_iff_eq, Bool.not_eq_true', decide_eq_true_eq] at h5
  obtain ⟨⟨⟨⟨⟨g1, g2⟩, g3⟩, g4⟩, g5⟩, g6⟩ := h5
  simp [Cond.before, Cond.holds, Cond.value, h1, h2, h3, h4, g1, g2, g3, g4, g5, g6]
def isCode : Jvm.Cond → Bool
  | .code _ _ _ _ => true
  | _ => false
theorem all_split {L : List Jvm.Cond} {P : Jvm.Cond → Bool} (h1 : L.all (fun c => isCode c || P c) = true) (h2 : ∀ c ∈ L.filter isCode, P c = true) : L.all P = true := by
  refine List.all_eq_true.mpr fun c hc => ?_
  have h := List.all_eq_true.mp h1 c hc
  rcases Bool.eq_false_or_eq_true (isCode c) with hi | hi
  · exact h2 c (List.mem_filter.mpr ⟨hc, hi⟩)
  · simpa [hi] using h
set_option maxRecDepth 65536 in
theorem w_c0 : (Jvm.Cond.code x code maxLocals ret).before args0 about1 = true := code_word (m := ⟨1, 1⟩) (meth := k1m1) (c := k1c1) (by decide +kernel) rfl rfl rfl (by decide +kernel)
set_option maxRecDepth 65536 in
theorem w_c1 : (Jvm.Cond.code ({ cls := "com/example/gridwright/gridwright/core/ActivityOrder", name := "<init>", desc := "(ILcom/example/gridwright/gridwright/core/SplitMix64;)V" } : Jvm.MethodName) prog_7_method_1_code (4 : Nat) (Option.none : Option Jvm.ClassFile.FieldType)).before args0 about1 = true := code_word (m := ⟨2, 0⟩) (meth := k2m0) (c := k2c0) (by decide +kernel) rfl rfl rfl (by decide +kernel)
set_option maxRecDepth 65536 in
theorem w_c2 : (Jvm.Cond.code ({ cls := "java/lang/Object", name := "<init>", desc := "()V" } : Jvm.MethodName) object_method_1_code (1 : Nat) (Option.none : Option Jvm.ClassFile.FieldType)).before args0 about1 = true := code_word (m := ⟨0, 0⟩) (meth := k0m0) (c := k0c0) (by decide +kernel) rfl rfl rfl (by decide +kernel)
set_option maxRecDepth 65536 in
theorem w_c3 : (Jvm.Cond.code ({ cls := "com/example/gridwright/gridwright/core/ActivityOrder", name := "add", desc := "(I)V" } : Jvm.MethodName) prog_7_method_3_code (2 : Nat) (Option.none : Option Jvm.ClassFile.FieldType)).before args0 about1 = true := code_word (m := ⟨2, 2⟩) (meth := k2m2) (c := k2c2) (by decide +kernel) rfl rfl rfl (by decide +kernel)
set_option maxRecDepth 65536 in
theorem w_c4 : (Jvm.Cond.code ({ cls := "com/example/gridwright/gridwright/core/ActivityOrder", name := "siftUp", desc := "(I)V" } : Jvm.MethodName) prog_7_method_8_code (4 : Nat) (Option.none : Option Jvm.ClassFile.FieldType)).before args0 about1 = true := code_word (m := ⟨2, 7⟩) (meth := k2m7) (c := k2c7) (by decide +kernel) rfl rfl rfl (by decide +kernel)
set_option maxRecDepth 65536 in
theorem w_c5 : (Jvm.Cond.code ({ cls := "com/example/gridwright/gridwright/core/ActivityOrder", name := "before", desc := "(II)Z" } : Jvm.MethodName) prog_7_method_7_code (3 : Nat) (Option.some Jvm.ClassFile.FieldType.boolean)).before args0 about1 = true := code_word (m := ⟨2, 6⟩) (meth := k2m6) (c := k2c6) (by decide +kernel) rfl rfl rfl (by decide +kernel)
set_option maxRecDepth 65536 in
theorem w_c6 : (Jvm.Cond.code ({ cls := "com/example/gridwright/gridwright/core/ActivityOrder", name := "bump", desc := "(I)V" } : Jvm.MethodName) prog_7_method_5_code (3 : Nat) (Option.none : Option Jvm.ClassFile.FieldType)).before args0 about1 = true := code_word (m := ⟨2, 4⟩) (meth := k2m4) (c := k2c4) (by decide +kernel) rfl rfl rfl (by decide +kernel)
set_option maxRecDepth 65536 in
theorem w_c7 : (Jvm.Cond.code ({ cls := "com/example/gridwright/gridwright/core/ActivityOrder", name := "decay", desc := "()V" } : Jvm.MethodName) prog_7_method_6_code (1 : Nat) (Option.none : Option Jvm.ClassFile.FieldType)).before args0 about1 = true := code_word (m := ⟨2, 5⟩) (meth := k2m5) (c := k2c5) (by decide +kernel) rfl rfl rfl (by decide +kernel)
set_option maxRecDepth 65536 in
theorem w_c8 : (Jvm.Cond.code ({ cls := "com/example/gridwright/gridwright/core/ActivityOrder", name := "takeFirst", desc := "()I" } : Jvm.MethodName) prog_7_method_4_code (2 : Nat) (Option.some Jvm.ClassFile.FieldType.int)).before args0 about1 = true := code_word (m := ⟨2, 3⟩) (meth := k2m3) (c := k2c3) (by decide +kernel) rfl rfl rfl (by decide +kernel)
set_option maxRecDepth 65536 in
theorem w_c9 : (Jvm.Cond.code ({ cls := "com/example/gridwright/gridwright/core/ActivityOrder", name := "siftDown", desc := "(I)V" } : Jvm.MethodName) prog_7_method_9_code (5 : Nat) (Option.none : Option Jvm.ClassFile.FieldType)).before args0 about1 = true := code_word (m := ⟨2, 8⟩) (meth := k2m8) (c := k2c8) (by decide +kernel) rfl rfl rfl (by decide +kernel)
set_option maxRecDepth 65536 in
theorem w_c10 : (Jvm.Cond.code ({ cls := "com/example/gridwright/gridwright/core/ActivityOrderDecayPinLaw", name := "before", desc := "([III)Z" } : Jvm.MethodName) method_3_code (3 : Nat) (Option.some Jvm.ClassFile.FieldType.boolean)).before args0 about1 = true := code_word (m := ⟨1, 2⟩) (meth := k1m2) (c := k1c2) (by decide +kernel) rfl rfl rfl (by decide +kernel)
set_option maxRecDepth 65536 in
theorem w_c11 : (Jvm.Cond.code ({ cls := "com/example/gridwright/gridwright/core/ActivityOrder", name := "isEmpty", desc := "()Z" } : Jvm.MethodName) prog_7_method_2_code (1 : Nat) (Option.some Jvm.ClassFile.FieldType.boolean)).before args0 about1 = true := code_word (m := ⟨2, 1⟩) (meth := k2m1) (c := k2c1) (by decide +kernel) rfl rfl rfl (by decide +kernel)
def codes1 : List Jvm.Cond := [Jvm.Cond.code x code maxLocals ret, Jvm.Cond.code ({ cls := "com/example/gridwright/gridwright/core/ActivityOrder", name := "<init>", desc := "(ILcom/example/gridwright/gridwright/core/SplitMix64;)V" } : Jvm.MethodName) prog_7_method_1_code (4 : Nat) (Option.none : Option Jvm.ClassFile.FieldType), Jvm.Cond.code ({ cls := "java/lang/Object", name := "<init>", desc := "()V" } : Jvm.MethodName) object_method_1_code (1 : Nat) (Option.none : Option Jvm.ClassFile.FieldType), Jvm.Cond.code ({ cls := "com/example/gridwright/gridwright/core/ActivityOrder", name := "add", desc := "(I)V" } : Jvm.MethodName) prog_7_method_3_code (2 : Nat) (Option.none : Option Jvm.ClassFile.FieldType), Jvm.Cond.code ({ cls := "com/example/gridwright/gridwright/core/ActivityOrder", name := "siftUp", desc := "(I)V" } : Jvm.MethodName) prog_7_method_8_code (4 : Nat) (Option.none : Option Jvm.ClassFile.FieldType), Jvm.Cond.code ({ cls := "com/example/gridwright/gridwright/core/ActivityOrder", name := "before", desc := "(II)Z" } : Jvm.MethodName) prog_7_method_7_code (3 : Nat) (Option.some Jvm.ClassFile.FieldType.boolean), Jvm.Cond.code ({ cls := "com/example/gridwright/gridwright/core/ActivityOrder", name := "bump", desc := "(I)V" } : Jvm.MethodName) prog_7_method_5_code (3 : Nat) (Option.none : Option Jvm.ClassFile.FieldType), Jvm.Cond.code ({ cls := "com/example/gridwright/gridwright/core/ActivityOrder", name := "decay", desc := "()V" } : Jvm.MethodName) prog_7_method_6_code (1 : Nat) (Option.none : Option Jvm.ClassFile.FieldType), Jvm.Cond.code ({ cls := "com/example/gridwright/gridwright/core/ActivityOrder", name := "takeFirst", desc := "()I" } : Jvm.MethodName) prog_7_method_4_code (2 : Nat) (Option.some Jvm.ClassFile.FieldType.int), Jvm.Cond.code ({ cls := "com/example/gridwright/gridwright/core/ActivityOrder", name := "siftDown", desc := "(I)V" } : Jvm.MethodName) prog_7_method_9_code (5 : Nat) (Option.none : Option Jvm.ClassFile.FieldType), Jvm.Cond.code ({ cls := "com/example/gridwright/gridwright/core/ActivityOrderDecayPinLaw", name := "before", desc := "([III)Z" } : Jvm.MethodName) method_3_code (3 : Nat) (Option.some Jvm.ClassFile.FieldType.boolean), Jvm.Cond.code ({ cls := "com/example/gridwright/gridwright/core/ActivityOrder", name := "isEmpty", desc := "()Z" } : Jvm.MethodName) prog_7_method_2_code (1 : Nat) (Option.some Jvm.ClassFile.FieldType.boolean)]
set_option maxRecDepth 65536 in
theorem codes_eq : words1.filter isCode = codes1 := rfl
theorem w_codes : ∀ c ∈ words1.filter isCode, c.before args0 about1 = true := by
  rw [codes_eq]
  intro c hc
  simp only [codes1, List.mem_cons, List.not_mem_nil, or_false] at hc
  rcases hc with rfl | rfl | rfl | rfl | rfl | rfl | rfl | rfl | rfl | rfl | rfl | rfl
  · exact w_c0
  · exact w_c1
  · exact w_c2
  · exact w_c3
  · exact w_c4
  · exact w_c5
  · exact w_c6
  · exact w_c7
  · exact w_c8
  · exact w_c9
  · exact w_c10
  · exact w_c11
set_option maxRecDepth 65536 in
theorem w_t1 : (words1.take 24).all (fun c => isCode c || c.before args0 about1) = true := by decide +kernel
set_option maxRecDepth 65536 in
theorem w_t2 : ((words1.drop 24).take 24).all (fun c => isCode c || c.before args0 about1) = true := by decide +kernel
set_option maxRecDepth 65536 in
theorem w_t3 : ((words1.drop 24).drop 24).all (fun c => isCode c || c.before args0 about1) = true := by decide +kernel
theorem w_tables : (allAtoms (Jvm.Cond.code x code maxLocals ret :: tables_1)).before args0 about1 = true := by
  rw [allAtoms_all]
  show words1.all (fun c => c.before args0 about1) = true
  refine all_split ?_ w_codes
  rw [← List.take_append_drop 24 words1, List.all_append, w_t1, ← List.take_append_drop 24 (words1.drop 24), List.all_append, w_t2, w_t3]
  rfl
set_option maxRecDepth 65536 in
theorem w_case : (Jvm.Cond.and given_1 narrow_1).before args0 about1 = true := by decide +kernel
theorem w_applies : (headSpec (Jvm.Cond.code x code maxLocals ret :: tables_1) room_1).applies x e0.platform about1 = true :=
  (Spec.applies_iff w_frames).mpr ⟨w_running, w_runnable, w_alone, w_named, w_hears, w_ripe, w_room, w_tables⟩
theorem atStart : AtStart classFile x code maxLocals ret World_1 tables_1 room_1 Calls_1 rest_1 Pre_1 launch0 p0 e0 about1 theMethod args0 below0 :=
  ⟨lists_1, trivial, launch0.admits_env _ _ _, launch0.least_env, fairChoices_fair.cas, fairChoices_fair.clock, w_frames, w_args, w_heap, w_applies, trivial, trivial, w_case⟩
end start1
theorem witness_1 : WitnessClaimed_1 := ⟨start1.p0, start1.e0, start1.about1, start1.theMethod, start1.args0, start1.below0, start1.atStart⟩
end Jvm.Pilot.@@N@@

import JvmDerived
import JvmDerived.Pilot.@@N@@Statement
import JvmDerived.Pilot.@@N@@Code
set_option linter.unusedVariables false
set_option linter.unusedSimpArgs false
namespace Jvm.Pilot.@@N@@
open Jvm Jvm.ClassFile Sem Op Lib Jvm.Free Jvm.Stand Jvm.LawKit Jvm.RoadKit Bundle Jvm.Pilot.@@N@@.Jvm.D
abbrev Gets (p : Program) (e : Env) (below : List Frame) (S0 S : State) : Prop := ∀ t, Steps p.tables e below S t → Steps p.tables e below S0 t
section Own
variable {p : Program} {e : Env} {below : List Frame} {S0 T : State} {m : MethodId} {c : Code} {pc q : Nat} {Ls : Array Slot} {st : List Value}
theorem own_lsub {x y v : Int64} (G : Gets p e below S0 (T.setTop (mkF m pc Ls (.long y :: .long x :: st)))) (h : At T m c below) (hx : p.tables.exec = Jvm.exec) (hd : decode c.code pc = .ok (.lsub, 1)) (hv : x - y = v) (hq : pc + 1 = q) : Gets p e below S0 (T.setTop (mkF m q Ls (.long v :: st))) := by
  subst hv hq; exact fun t k => G t (XS.lsub h hx rfl hd rfl k)
theorem own_lneg {x : Int64} {v : Int64} (G : Gets p e below S0 (T.setTop (mkF m pc Ls (.long x :: st)))) (h : At T m c below) (hx : p.tables.exec = Jvm.exec) (hd : decode c.code pc = .ok (.lneg, 1)) (hv : (-x) = v) (hq : pc + 1 = q) : Gets p e below S0 (T.setTop (mkF m q Ls (.long v :: st))) := by
  subst hv hq; exact fun t k => G t (XS.lneg h hx rfl hd rfl k)
theorem own_i2l {x : Int32} {v : Int64} (G : Gets p e below S0 (T.setTop (mkF m pc Ls (.int x :: st)))) (h : At T m c below) (hx : p.tables.exec = Jvm.exec) (hd : decode c.code pc = .ok (.i2l, 1)) (hv : (x.toInt64) = v) (hq : pc + 1 = q) : Gets p e below S0 (T.setTop (mkF m q Ls (.long v :: st))) := by
  subst hv hq; exact fun t k => G t (XS.i2l h hx rfl hd rfl k)
theorem own_dsub {x y v : UInt64} (G : Gets p e below S0 (T.setTop (mkF m pc Ls (.double y :: .double x :: st)))) (h : At T m c below) (hx : p.tables.exec = Jvm.exec) (hd : decode c.code pc = .ok (.dsub, 1)) (hn : Jvm.Free.Fl.NoNaN64 (FP.dsub x y)) (hv : FP.dsub x y = v) (hq : pc + 1 = q) : Gets p e below S0 (T.setTop (mkF m q Ls (.double v :: st))) := by
  subst hq; exact fun t k => G t (XS.dsubS h hx rfl hd rfl hn hv k)
theorem own_i2d {x : Int32} {v : UInt64} (G : Gets p e below S0 (T.setTop (mkF m pc Ls (.int x :: st)))) (h : At T m c below) (hx : p.tables.exec = Jvm.exec) (hd : decode c.code pc = .ok (.i2d, 1)) (hv : FP.i2d x = v) (hq : pc + 1 = q) : Gets p e below S0 (T.setTop (mkF m q Ls (.double v :: st))) := by
  subst hq; exact fun t k => G t (XS.i2dS h hx rfl hd rfl hv k)
theorem own_l2d {x : Int64} {v : UInt64} (G : Gets p e below S0 (T.setTop (mkF m pc Ls (.long x :: st)))) (h : At T m c below) (hx : p.tables.exec = Jvm.exec) (hd : decode c.code pc = .ok (.l2d, 1)) (hv : FP.l2d x = v) (hq : pc + 1 = q) : Gets p e below S0 (T.setTop (mkF m q Ls (.double v :: st))) := by
  subst hq; exact fun t k => G t (XS.l2dS h hx rfl hd rfl hv k)
theorem own_dcmp {o : CmpOp} {x y : UInt64} {v : Int32} (G : Gets p e below S0 (T.setTop (mkF m pc Ls (.double y :: .double x :: st)))) (h : At T m c below) (hx : p.tables.exec = Jvm.exec) (hd : decode c.code pc = .ok (.dcmp o, 1)) (hv : cmpValue (FP.dcmp x y) o = v) (hq : pc + 1 = q) : Gets p e below S0 (T.setTop (mkF m q Ls (.int v :: st))) := by
  subst hq; exact fun t k => G t (XS.dcmpS h hx rfl hd rfl hv k)
theorem own_lcmp {x y : Int64} (G : Gets p e below S0 (T.setTop (mkF m pc Ls (.long y :: .long x :: st)))) (h : At T m c below) (hx : p.tables.exec = Jvm.exec) (hd : decode c.code pc = .ok (.lcmp, 1))  (hq : pc + 1 = q) : Gets p e below S0 (T.setTop (mkF m q Ls (.int (lcmpW x y) :: st))) := by
  subst hq; exact fun t k => G t (XS.lcmp h hx rfl hd rfl k)
theorem own_iconst {i : Int} {v : Int32} (G : Gets p e below S0 (T.setTop (mkF m pc Ls st))) (h : At T m c below) (hx : p.tables.exec = Jvm.exec) (hd : decode c.code pc = .ok (.iconst i, 1)) (hv : Int32.ofInt i = v) (hq : pc + 1 = q) : Gets p e below S0 (T.setTop (mkF m q Ls (.int v :: st))) := by
  subst hv hq; exact fun t k => G t (XS.iconst h hx rfl hd k)
theorem own_lconst {i : Fin 2} {v : Int64} (G : Gets p e below S0 (T.setTop (mkF m pc Ls st))) (h : At T m c below) (hx : p.tables.exec = Jvm.exec) (hd : decode c.code pc = .ok (.lconst i, 1)) (hv : Int64.ofNat i = v) (hq : pc + 1 = q) : Gets p e below S0 (T.setTop (mkF m q Ls (.long v :: st))) := by
  subst hv hq; exact fun t k => G t (XS.lconst h hx rfl hd k)
theorem own_iloadN {i : Fin 4} {v : Int32} (G : Gets p e below S0 (T.setTop (mkF m pc Ls st))) (h : At T m c below) (hx : p.tables.exec = Jvm.exec) (hd : decode c.code pc = .ok (.iload_n i, 1)) (hl : Ls[i.val]? = some (.val (.int v))) (hq : pc + 1 = q) : Gets p e below S0 (T.setTop (mkF m q Ls (.int v :: st))) := by
  subst hq; exact fun t k => G t (XS.iloadN h hx rfl hd hl k)
theorem own_lload {i : Nat} {v : Int64} (G : Gets p e below S0 (T.setTop (mkF m pc Ls st))) (h : At T m c below) (hx : p.tables.exec = Jvm.exec) (hd : decode c.code pc = .ok (.lload i, 2)) (hl : Ls[i]? = some (.val (.long v))) (hq : pc + 2 = q) : Gets p e below S0 (T.setTop (mkF m q Ls (.long v :: st))) := by
  subst hq; exact fun t k => G t (XS.lload h hx rfl hd hl k)
theorem own_lloadN {i : Fin 4} {v : Int64} (G : Gets p e below S0 (T.setTop (mkF m pc Ls st))) (h : At T m c below) (hx : p.tables.exec = Jvm.exec) (hd : decode c.code pc = .ok (.lload_n i, 1)) (hl : Ls[i.val]? = some (.val (.long v))) (hq : pc + 1 = q) : Gets p e below S0 (T.setTop (mkF m q Ls (.long v :: st))) := by
  subst hq; exact fun t k => G t (XS.lloadN h hx rfl hd hl k)
theorem own_dload {i : Nat} {v : UInt64} (G : Gets p e below S0 (T.setTop (mkF m pc Ls st))) (h : At T m c below) (hx : p.tables.exec = Jvm.exec) (hd : decode c.code pc = .ok (.dload i, 2)) (hl : Ls[i]? = some (.val (.double v))) (hq : pc + 2 = q) : Gets p e below S0 (T.setTop (mkF m q Ls (.double v :: st))) := by
  subst hq; exact fun t k => G t (XS.dload h hx rfl hd hl k)
theorem own_dloadN {i : Fin 4} {v : UInt64} (G : Gets p e below S0 (T.setTop (mkF m pc Ls st))) (h : At T m c below) (hx : p.tables.exec = Jvm.exec) (hd : decode c.code pc = .ok (.dload_n i, 1)) (hl : Ls[i.val]? = some (.val (.double v))) (hq : pc + 1 = q) : Gets p e below S0 (T.setTop (mkF m q Ls (.double v :: st))) := by
  subst hq; exact fun t k => G t (XS.dloadN h hx rfl hd hl k)
theorem own_lstore {i : Nat} {v : Int64} {l' : Array Slot} (G : Gets p e below S0 (T.setTop (mkF m pc Ls (.long v :: st)))) (h : At T m c below) (hx : p.tables.exec = Jvm.exec) (hd : decode c.code pc = .ok (.lstore i, 2)) (hl : storeLocals Ls i (.long v) = some l') (hq : pc + 2 = q) : Gets p e below S0 (T.setTop (mkF m q l' st)) := by
  subst hq; exact fun t k => G t (XS.lstore h hx rfl hd rfl hl k)
theorem own_lstoreN {i : Fin 4} {v : Int64} {l' : Array Slot} (G : Gets p e below S0 (T.setTop (mkF m pc Ls (.long v :: st)))) (h : At T m c below) (hx : p.tables.exec = Jvm.exec) (hd : decode c.code pc = .ok (.lstore_n i, 1)) (hl : storeLocals Ls i.val (.long v) = some l') (hq : pc + 1 = q) : Gets p e below S0 (T.setTop (mkF m q l' st)) := by
  subst hq; exact fun t k => G t (XS.lstoreN h hx rfl hd rfl hl k)
theorem own_dstore {i : Nat} {v : UInt64} {l' : Array Slot} (G : Gets p e below S0 (T.setTop (mkF m pc Ls (.double v :: st)))) (h : At T m c below) (hx : p.tables.exec = Jvm.exec) (hd : decode c.code pc = .ok (.dstore i, 2)) (hl : storeLocals Ls i (.double v) = some l') (hq : pc + 2 = q) : Gets p e below S0 (T.setTop (mkF m q l' st)) := by
  subst hq; exact fun t k => G t (XS.dstore h hx rfl hd rfl hl k)
theorem own_goto {o : Int} (G : Gets p e below S0 (T.setTop (mkF m pc Ls st))) (h : At T m c below) (hx : p.tables.exec = Jvm.exec) (hd : decode c.code pc = .ok (.goto o, 3))  (ho : 0 ≤ (pc : Int) + o) (hp : ((pc : Int) + o).toNat = q) : Gets p e below S0 (T.setTop (mkF m q Ls st)) := by
  exact fun t k => G t (XS.goto h hx rfl rfl hd ho hp k)
theorem own_ifYes {cd : ClassFile.Cond} {o : Int} {x : Int32} (G : Gets p e below S0 (T.setTop (mkF m pc Ls (.int x :: st)))) (h : At T m c below) (hx : p.tables.exec = Jvm.exec) (hd : decode c.code pc = .ok (.ifCond cd o, 3)) (hc : ifCond.holds cd x = true) (ho : 0 ≤ (pc : Int) + o) (hp : ((pc : Int) + o).toNat = q) : Gets p e below S0 (T.setTop (mkF m q Ls st)) := by
  exact fun t k => G t (XS.ifYes h hx rfl rfl hd rfl hc ho hp k)
theorem own_ifNo {cd : ClassFile.Cond} {o : Int} {x : Int32} (G : Gets p e below S0 (T.setTop (mkF m pc Ls (.int x :: st)))) (h : At T m c below) (hx : p.tables.exec = Jvm.exec) (hd : decode c.code pc = .ok (.ifCond cd o, 3)) (hc : ifCond.holds cd x = false) (hq : pc + 3 = q) : Gets p e below S0 (T.setTop (mkF m q Ls st)) := by
  subst hq; exact fun t k => G t (XS.ifNo h hx rfl hd rfl hc k)
end Own

def own_ab (x : Int64) : Int64 := if x < 0 then -x else x
def own_mx (x y : Int64) : Int64 := if x < y then y else x
theorem own_ltL {x y : Int64} : x < y ↔ x.toInt < y.toInt := Int64.lt_iff_toInt_lt
/-- at most 2^33 by size -/
def own_sm (x : Int64) : Prop := -8589934592 ≤ x.toInt ∧ x.toInt ≤ 8589934592
theorem own_sm.b {x : Int64} (h : own_sm x) : B53 x := ⟨by have := h.1; omega, by have := h.2; omega⟩
theorem own_sub {x y : Int32} : own_sm (x.toInt64 - y.toInt64) := by
  have a := c_lsub x.toInt64 y.toInt64
  rw [c_i2l, c_i2l] at a
  have r := rng64 (x.toInt64 - y.toInt64); have := rng32 x; have := rng32 y
  exact ⟨by omega, by omega⟩
theorem own_b32 (x : Int32) : B53 x.toInt64 := by have a := rng32 x; have b := c_i2l x; exact ⟨by omega, by omega⟩
theorem own_absm {x : Int64} (h : own_sm x) : own_sm (own_ab x) := by
  unfold own_ab
  split
  · have a := c_lneg x; have r := rng64 (-x); have := h.1; have := h.2; exact ⟨by omega, by omega⟩
  · exact h
theorem own_abd {x : Int64} (h : own_sm x) : (FP.l2d x &&& 0x7fffffffffffffff) = FP.l2d (own_ab x) := by
  unfold own_ab
  split
  · rename_i q; exact abs_n h.b q
  · rename_i q; exact abs_w q
theorem own_mxd {x y : Int64} (hx : own_sm x) (hy : own_sm y) : Jvm.Native.java_lang_Math.nans.pick64 true (FP.l2d x) (FP.l2d y) = FP.l2d (own_mx x y) := by
  unfold own_mx
  split
  · rename_i q; exact max_l hx.b hy.b q
  · rename_i q; exact max_g hx.b hy.b q
theorem own_mxm {x y : Int64} (hx : own_sm x) (hy : own_sm y) : own_sm (own_mx x y) := by unfold own_mx; split <;> assumption
theorem pd_0 : parseMethodDescriptor "(D)D" = some ⟨[.double], some .double⟩ := by decide +kernel
theorem pd_1 : parseMethodDescriptor "(DD)D" = some ⟨[.double, .double], some .double⟩ := by decide +kernel
theorem d1_0 : decode prog_40_method_11_code 0 = .ok (.dload 4, 2) := by decide +kernel
theorem d1_2 : decode prog_40_method_11_code 2 = .ok (.dload_n 0, 1) := by decide +kernel
theorem d1_3 : decode prog_40_method_11_code 3 = .ok (.dsub, 1) := by decide +kernel
theorem d1_4 : decode prog_40_method_11_code 4 = .ok (.invokestatic 68, 3) := by decide +kernel
theorem d1_7 : decode prog_40_method_11_code 7 = .ok (.dload 6, 2) := by decide +kernel
theorem d1_9 : decode prog_40_method_11_code 9 = .ok (.dload_n 2, 1) := by decide +kernel
theorem d1_10 : decode prog_40_method_11_code 10 = .ok (.dsub, 1) := by decide +kernel
theorem d1_11 : decode prog_40_method_11_code 11 = .ok (.invokestatic 68, 3) := by decide +kernel
theorem d1_14 : decode prog_40_method_11_code 14 = .ok (.invokestatic 73, 3) := by decide +kernel
theorem d1_17 : decode prog_40_method_11_code 17 = .ok (.dreturn, 1) := by decide +kernel
theorem pn_com_example_swathwork_swathwork_planner_SlewTransition : plainName "com/example/swathwork/swathwork/planner/SlewTransition" = true := by first | (simp [plainName, overriddenIn]; done) | decide +kernel
theorem ef_1 (m : MethodId) (x0 : UInt64) (x1 : UInt64) (x2 : UInt64) (x3 : UInt64) : entryFrame m #[(.double x0), (.double x1), (.double x2), (.double x3)] 8 = mkF m 0 #[.val (.double x0), .second, .val (.double x1), .second, .val (.double x2), .second, .val (.double x3), .second] [] := by first | (simp [entryFrame, mkF, argsToLocals, Value.category]; done) | rfl
def Q1 (Z : State) (u0 : Int32) (u1 : Int32) (u2 : Int32) (u3 : Int32) (h0 : Heap) (n0 : Nat) (v : Option Value) (h : Heap) (L : List Loc) : Prop := v = some (.double (FP.l2d (own_mx (own_ab ((u2.toInt64) - (u0.toInt64))) (own_ab ((u3.toInt64) - (u1.toInt64)))))) ∧ Fr n0 L ∧ h = h0
set_option maxRecDepth 65536 in
set_option maxHeartbeats 40000000 in
theorem rm1 (l : Launch) (Z : State) (a0 : Array Value) (hw : ∀ d ∈ tables_1, d.before a0 Z = true) (ws : List Jvm.Cond) (u0 : Int32) (u1 : Int32) (u2 : Int32) (u3 : Int32) (h0 : Heap) (n0 : Nat) (Z0 : n0 ≤ h0.size)  :
    MetFree l (⟨"com/example/swathwork/swathwork/planner/SlewTransition", "changeDeg", "(DDDD)D"⟩ : MethodName) (head1 (Jvm.Cond.code (⟨"com/example/swathwork/swathwork/planner/SlewTransition", "changeDeg", "(DDDD)D"⟩ : MethodName) prog_40_method_11_code 8 (some .double) :: ws) ({ frames := 1, cells := 0, slots := 0, locals := 15 } : Room)) (fun zz U => zz = #[(.double (FP.l2d (u0.toInt64))), (.double (FP.l2d (u1.toInt64))), (.double (FP.l2d (u2.toInt64))), (.double (FP.l2d (u3.toInt64)))] ∧ Z.Warmed39 U.vm ∧ U.heap = h0) (fun _ _ _ _ _ => True) (fun _ U o U' => ∃ v L, o = .returned v ∧ Q1 Z u0 u1 u2 u3 h0 n0 v U'.heap L ∧ FrameEnd U o U' L ({ frames := 1, cells := 0, slots := 0, locals := 15 } : Room).cells ({ frames := 1, cells := 0, slots := 0, locals := 15 } : Room).slots) := by
  refine MetFree.of_bodySF (plainFor_of_name pn_com_example_swathwork_swathwork_planner_SlewTransition) hisR ?_
  intro p e s m args below meth c s₁ Bd hml0 hP hK
  obtain ⟨rfl, hZ, hh⟩ := hP
  have hx := Bd.exec
  have hby := Bd.bytes
  have hml : c.maxLocals = 8 := hml0
  have hown : s.vm.findClass "com/example/swathwork/swathwork/planner/SlewTransition" = some m.cls := findClass_of_methodNamed Bd.named
  have hnm := (name_of_methodNamed Bd.named Bd.method).1
  have X0 : Stand p l e ({ frames := 1, cells := 0, slots := 0, locals := 15 } : Room) s m #[(.double (FP.l2d (u0.toInt64))), (.double (FP.l2d (u1.toInt64))), (.double (FP.l2d (u2.toInt64))), (.double (FP.l2d (u3.toInt64)))] below meth c s₁ [] 0 0 := Stand.of_body Bd
  have e0 : s₁.heap = h0 := by rw [← hh, Bd.state]; rfl
  have N0 := Fr.nil n0
  have G : Gets p e below (s₁.setTop (entryFrame m #[(.double (FP.l2d (u0.toInt64))), (.double (FP.l2d (u1.toInt64))), (.double (FP.l2d (u2.toInt64))), (.double (FP.l2d (u3.toInt64)))] 8)) (s₁.setTop (mkF m 0 #[.val (.double (FP.l2d (u0.toInt64))), .second, .val (.double (FP.l2d (u1.toInt64))), .second, .val (.double (FP.l2d (u2.toInt64))), .second, .val (.double (FP.l2d (u3.toInt64))), .second] [])) := fun t k => castTop (ef_1 m (FP.l2d (u0.toInt64)) (FP.l2d (u1.toInt64)) (FP.l2d (u2.toInt64)) (FP.l2d (u3.toInt64))) k
  have s1 : own_sm ((u2.toInt64) - (u0.toInt64)) := own_sub
  have s2 : own_sm ((u3.toInt64) - (u1.toInt64)) := own_sub
  have s3 := own_absm s1
  have s4 := own_absm s2
  replace G := own_dload (q := 2) G X0.here hx (hb hby d1_0) rfl rfl
  replace G := own_dloadN (q := 3) G X0.here hx (hb hby d1_2) rfl rfl
  replace G := own_dsub (q := 4) G X0.here hx (hb hby d1_3) (nn_w (dsub_w (own_b32 _) (own_b32 _))) (dsub_w (own_b32 _) (own_b32 _)) rfl
  obtain ⟨T1, X1, e1, st1⟩ := natS X0 hx hZ (y := (⟨"java/lang/Math", "abs", "(D)D"⟩ : MethodName)) hown (hw _ (List.mem_of_getElem? (i := 4) rfl)) (hw _ (List.mem_of_getElem? (i := 5) rfl)) (hw _ (List.mem_of_getElem? (i := 6) rfl)) (hw _ (List.mem_of_getElem? (i := 7) rfl)) (by decide) e0 (W := 0) (fun c4 => Jvm.Free.Fl.Abs.absD_pays _ c4 (by decide) (by decide)) (g := (mkF m 4 #[.val (.double (FP.l2d (u0.toInt64))), .second, .val (.double (FP.l2d (u1.toInt64))), .second, .val (.double (FP.l2d (u2.toInt64))), .second, .val (.double (FP.l2d (u3.toInt64))), .second] [(.double (FP.l2d ((u2.toInt64) - (u0.toInt64))))])) rfl (by rw [hml]; rfl) (argsL := [(.double (FP.l2d ((u2.toInt64) - (u0.toInt64))))]) (rest := []) (lenOf pd_0 rfl) rfl (by show 2 * 0 + _ ≤ _; exact Nat.le_of_eq rfl) (hb hby d1_4) (by decide) (by decide) ⟨rfl, nn_w rfl⟩ (congrArg Value.double (own_abd (by assumption)))
  replace G : Gets p e below _ (T1.setTop (mkF m 7 #[.val (.double (FP.l2d (u0.toInt64))), .second, .val (.double (FP.l2d (u1.toInt64))), .second, .val (.double (FP.l2d (u2.toInt64))), .second, .val (.double (FP.l2d (u3.toInt64))), .second] [(.double (FP.l2d (own_ab ((u2.toInt64) - (u0.toInt64)))))])) := fun t k => G t (st1 t k)
  replace G := own_dload (q := 9) G X1.here hx (hb hby d1_7) rfl rfl
  replace G := own_dloadN (q := 10) G X1.here hx (hb hby d1_9) rfl rfl
  replace G := own_dsub (q := 11) G X1.here hx (hb hby d1_10) (nn_w (dsub_w (own_b32 _) (own_b32 _))) (dsub_w (own_b32 _) (own_b32 _)) rfl
  obtain ⟨T2, X2, e2, st2⟩ := natS X1 hx hZ (y := (⟨"java/lang/Math", "abs", "(D)D"⟩ : MethodName)) hown (hw _ (List.mem_of_getElem? (i := 4) rfl)) (hw _ (List.mem_of_getElem? (i := 5) rfl)) (hw _ (List.mem_of_getElem? (i := 6) rfl)) (hw _ (List.mem_of_getElem? (i := 7) rfl)) (by decide) e1 (W := 2) (fun c4 => Jvm.Free.Fl.Abs.absD_pays _ c4 (by decide) (by decide)) (g := (mkF m 11 #[.val (.double (FP.l2d (u0.toInt64))), .second, .val (.double (FP.l2d (u1.toInt64))), .second, .val (.double (FP.l2d (u2.toInt64))), .second, .val (.double (FP.l2d (u3.toInt64))), .second] [(.double (FP.l2d ((u3.toInt64) - (u1.toInt64)))), (.double (FP.l2d (own_ab ((u2.toInt64) - (u0.toInt64)))))])) rfl (by rw [hml]; rfl) (argsL := [(.double (FP.l2d ((u3.toInt64) - (u1.toInt64))))]) (rest := [(.double (FP.l2d (own_ab ((u2.toInt64) - (u0.toInt64)))))]) (lenOf pd_0 rfl) rfl (by show 2 * 0 + _ ≤ _; exact Nat.le_of_eq rfl) (hb hby d1_11) (by decide) (by decide) ⟨rfl, nn_w rfl⟩ (congrArg Value.double (own_abd (by assumption)))
  replace G : Gets p e below _ (T2.setTop (mkF m 14 #[.val (.double (FP.l2d (u0.toInt64))), .second, .val (.double (FP.l2d (u1.toInt64))), .second, .val (.double (FP.l2d (u2.toInt64))), .second, .val (.double (FP.l2d (u3.toInt64))), .second] [(.double (FP.l2d (own_ab ((u3.toInt64) - (u1.toInt64))))), (.double (FP.l2d (own_ab ((u2.toInt64) - (u0.toInt64)))))])) := fun t k => G t (st2 t k)
  obtain ⟨T3, X3, e3, st3⟩ := natS X2 hx hZ (y := (⟨"java/lang/Math", "max", "(DD)D"⟩ : MethodName)) hown (hw _ (List.mem_of_getElem? (i := 8) rfl)) (hw _ (List.mem_of_getElem? (i := 9) rfl)) (hw _ (List.mem_of_getElem? (i := 6) rfl)) (hw _ (List.mem_of_getElem? (i := 10) rfl)) (by decide) e2 (W := 0) (fun c4 => Jvm.Free.Fl.Abs.maxD_pays _ _ c4 (by decide) (by decide)) (g := (mkF m 14 #[.val (.double (FP.l2d (u0.toInt64))), .second, .val (.double (FP.l2d (u1.toInt64))), .second, .val (.double (FP.l2d (u2.toInt64))), .second, .val (.double (FP.l2d (u3.toInt64))), .second] [(.double (FP.l2d (own_ab ((u3.toInt64) - (u1.toInt64))))), (.double (FP.l2d (own_ab ((u2.toInt64) - (u0.toInt64)))))])) rfl (by rw [hml]; rfl) (argsL := [(.double (FP.l2d (own_ab ((u2.toInt64) - (u0.toInt64))))), (.double (FP.l2d (own_ab ((u3.toInt64) - (u1.toInt64)))))]) (rest := []) (lenOf pd_1 rfl) rfl (by show 2 * 0 + _ ≤ _; exact Nat.le_of_eq rfl) (hb hby d1_14) (by decide) (by decide) ⟨rfl, nn_w rfl, nn_w rfl⟩ (congrArg Value.double (own_mxd (by assumption) (by assumption)))
  replace G : Gets p e below _ (T3.setTop (mkF m 17 #[.val (.double (FP.l2d (u0.toInt64))), .second, .val (.double (FP.l2d (u1.toInt64))), .second, .val (.double (FP.l2d (u2.toInt64))), .second, .val (.double (FP.l2d (u3.toInt64))), .second] [(.double (FP.l2d (own_mx (own_ab ((u2.toInt64) - (u0.toInt64))) (own_ab ((u3.toInt64) - (u1.toInt64))))))])) := fun t k => G t (st3 t k)
  obtain ⟨fs, hr, hrun, hended, hW, hsame⟩ := X3.leave (v := some (.double (FP.l2d (own_mx (own_ab ((u2.toInt64) - (u0.toInt64))) (own_ab ((u3.toInt64) - (u1.toInt64))))))) (fun h => by rw [Bd.returns] at h; cases h)
  refine ⟨_, _, G _ (retOut X3 hx Bd.returns rfl (Or.inr (Or.inr (Or.inl ⟨rfl, rfl, _, rfl⟩))) (hb hby d1_17) hr), hrun, hended, _, _, rfl, ?_, ⟨_, rfl⟩, hW, hsame.mono (by decide) (by decide)⟩
  show Q1 Z u0 u1 u2 u3 h0 n0 _ T3.heap _
  rw [e3]
  exact ⟨rfl, N0, rfl⟩
theorem d4_0 : decode method_2_code 0 = .ok (.iload_n 0, 1) := by decide +kernel
theorem d4_1 : decode method_2_code 1 = .ok (.i2l, 1) := by decide +kernel
theorem d4_2 : decode method_2_code 2 = .ok (.iload_n 1, 1) := by decide +kernel
theorem d4_3 : decode method_2_code 3 = .ok (.i2l, 1) := by decide +kernel
theorem d4_4 : decode method_2_code 4 = .ok (.lsub, 1) := by decide +kernel
theorem d4_5 : decode method_2_code 5 = .ok (.lstore_n 2, 1) := by decide +kernel
theorem d4_6 : decode method_2_code 6 = .ok (.lload_n 2, 1) := by decide +kernel
theorem d4_7 : decode method_2_code 7 = .ok (.lconst 0, 1) := by decide +kernel
theorem d4_8 : decode method_2_code 8 = .ok (.lcmp, 1) := by decide +kernel
theorem d4_9 : decode method_2_code 9 = .ok (.ifCond .ge 6, 3) := by decide +kernel
theorem d4_12 : decode method_2_code 12 = .ok (.lload_n 2, 1) := by decide +kernel
theorem d4_13 : decode method_2_code 13 = .ok (.lneg, 1) := by decide +kernel
theorem d4_14 : decode method_2_code 14 = .ok (.lstore_n 2, 1) := by decide +kernel
theorem d4_15 : decode method_2_code 15 = .ok (.lload_n 2, 1) := by decide +kernel
theorem d4_16 : decode method_2_code 16 = .ok (.lreturn, 1) := by decide +kernel
theorem pn_com_example_swathwork_swathwork_planner_SlewTransitionChangeDegPinLaw : plainName "com/example/swathwork/swathwork/planner/SlewTransitionChangeDegPinLaw" = true := by first | (simp [plainName, overriddenIn]; done) | decide +kernel
theorem ef_4 (m : MethodId) (x0 : Int32) (x1 : Int32) : entryFrame m #[(.int x0), (.int x1)] 4 = mkF m 0 #[.val (.int x0), .val (.int x1), .unset, .unset] [] := by first | (simp [entryFrame, mkF, argsToLocals, Value.category]; done) | rfl
def Q4 (Z : State) (w0 : Int32) (w1 : Int32) (h0 : Heap) (n0 : Nat) (v : Option Value) (h : Heap) (L : List Loc) : Prop := v = some (.long (own_ab ((w0.toInt64) - (w1.toInt64)))) ∧ Fr n0 L ∧ h = h0
set_option maxRecDepth 65536 in
set_option maxHeartbeats 40000000 in
theorem rm4 (l : Launch) (Z : State) (a0 : Array Value) (hw : ∀ d ∈ tables_1, d.before a0 Z = true) (ws : List Jvm.Cond) (w0 : Int32) (w1 : Int32) (h0 : Heap) (n0 : Nat) (Z0 : n0 ≤ h0.size)  :
    MetFree l (⟨"com/example/swathwork/swathwork/planner/SlewTransitionChangeDegPinLaw", "absDiff", "(II)J"⟩ : MethodName) (head1 (Jvm.Cond.code (⟨"com/example/swathwork/swathwork/planner/SlewTransitionChangeDegPinLaw", "absDiff", "(II)J"⟩ : MethodName) method_2_code 4 (some .long) :: ws) ({ frames := 0, cells := 0, slots := 0, locals := 0 } : Room)) (fun zz U => zz = #[(.int w0), (.int w1)] ∧ Z.Warmed39 U.vm ∧ U.heap = h0) (fun _ _ _ _ _ => True) (fun _ U o U' => ∃ v L, o = .returned v ∧ Q4 Z w0 w1 h0 n0 v U'.heap L ∧ FrameEnd U o U' L ({ frames := 0, cells := 0, slots := 0, locals := 0 } : Room).cells ({ frames := 0, cells := 0, slots := 0, locals := 0 } : Room).slots) := by
  refine MetFree.of_bodySF (plainFor_of_name pn_com_example_swathwork_swathwork_planner_SlewTransitionChangeDegPinLaw) hisR ?_
  intro p e s m args below meth c s₁ Bd hml0 hP hK
  obtain ⟨rfl, hZ, hh⟩ := hP
  have hx := Bd.exec
  have hby := Bd.bytes
  have hml : c.maxLocals = 4 := hml0
  have hown : s.vm.findClass "com/example/swathwork/swathwork/planner/SlewTransitionChangeDegPinLaw" = some m.cls := findClass_of_methodNamed Bd.named
  have hnm := (name_of_methodNamed Bd.named Bd.method).1
  have X0 : Stand p l e ({ frames := 0, cells := 0, slots := 0, locals := 0 } : Room) s m #[(.int w0), (.int w1)] below meth c s₁ [] 0 0 := Stand.of_body Bd
  have e0 : s₁.heap = h0 := by rw [← hh, Bd.state]; rfl
  have N0 := Fr.nil n0
  have G : Gets p e below (s₁.setTop (entryFrame m #[(.int w0), (.int w1)] 4)) (s₁.setTop (mkF m 0 #[.val (.int w0), .val (.int w1), .unset, .unset] [])) := fun t k => castTop (ef_4 m w0 w1) k
  replace G := own_iloadN (q := 1) G X0.here hx (hb hby d4_0) rfl rfl
  replace G := own_i2l (q := 2) G X0.here hx (hb hby d4_1) rfl rfl
  replace G := own_iloadN (q := 3) G X0.here hx (hb hby d4_2) rfl rfl
  replace G := own_i2l (q := 4) G X0.here hx (hb hby d4_3) rfl rfl
  obtain ⟨dd, hn_dd⟩ : ∃ z : Int64, ((w0.toInt64) - (w1.toInt64)) = z := ⟨_, rfl⟩
  replace G := own_lsub (q := 5) G X0.here hx (hb hby d4_4) hn_dd rfl
  replace G := own_lstoreN (q := 6) (l' := #[.val (.int w0), .val (.int w1), .val (.long dd), .second]) G X0.here hx (hb hby d4_5) rfl rfl
  replace G := own_lloadN (q := 7) G X0.here hx (hb hby d4_6) rfl rfl
  replace G := own_lconst (q := 8) G X0.here hx (hb hby d4_7) (v := (0 : Int64)) (by decide) rfl
  replace G := own_lcmp (q := 9) G X0.here hx (hb hby d4_8) rfl
  by_cases hc9_1 : dd < (0 : Int64)
  · replace G := own_ifNo (q := 12) G X0.here hx (hb hby d4_9) ((if0 _ _).trans (tlt ((lw_lt _ _).mpr hc9_1)).2.1) rfl
    replace G := own_lloadN (q := 13) G X0.here hx (hb hby d4_12) rfl rfl
    replace G := own_lneg (q := 14) G X0.here hx (hb hby d4_13) rfl rfl
    replace G := own_lstoreN (q := 15) (l' := #[.val (.int w0), .val (.int w1), .val (.long (-dd)), .second]) G X0.here hx (hb hby d4_14) rfl rfl
    replace G := own_lloadN (q := 16) G X0.here hx (hb hby d4_15) rfl rfl
    obtain ⟨fs, hr, hrun, hended, hW, hsame⟩ := X0.leave (v := some (.long (-dd))) (fun h => by rw [Bd.returns] at h; cases h)
    refine ⟨_, _, G _ (retOut X0 hx Bd.returns rfl (Or.inr (Or.inl ⟨rfl, rfl, _, rfl⟩)) (hb hby d4_16) hr), hrun, hended, _, _, rfl, ?_, ⟨_, rfl⟩, hW, hsame.mono (by decide) (by decide)⟩
    show Q4 Z w0 w1 h0 n0 _ s₁.heap _
    rw [e0]
    exact ⟨(congrArg (fun z => some (Value.long z)) (by subst hn_dd; simp [own_ab, hc9_1])), N0, rfl⟩
  · replace G := own_ifYes (q := 15) G X0.here hx (hb hby d4_9) ((if0 _ _).trans (flt (fun z => hc9_1 ((lw_lt _ _).mp z))).2.1) (by decide) (by decide)
    replace G := own_lloadN (q := 16) G X0.here hx (hb hby d4_15) rfl rfl
    obtain ⟨fs, hr, hrun, hended, hW, hsame⟩ := X0.leave (v := some (.long dd)) (fun h => by rw [Bd.returns] at h; cases h)
    refine ⟨_, _, G _ (retOut X0 hx Bd.returns rfl (Or.inr (Or.inl ⟨rfl, rfl, _, rfl⟩)) (hb hby d4_16) hr), hrun, hended, _, _, rfl, ?_, ⟨_, rfl⟩, hW, hsame.mono (by decide) (by decide)⟩
    show Q4 Z w0 w1 h0 n0 _ s₁.heap _
    rw [e0]
    exact ⟨(congrArg (fun z => some (Value.long z)) (by subst hn_dd; simp [own_ab, hc9_1])), N0, rfl⟩
theorem pd_2 : parseMethodDescriptor "(DDDD)D" = some ⟨[.double, .double, .double, .double], some .double⟩ := by decide +kernel
theorem pd_3 : parseMethodDescriptor "(II)J" = some ⟨[.int, .int], some .long⟩ := by decide +kernel
theorem ef_0 (m : MethodId) (x0 : Int32) (x1 : Int32) (x2 : Int32) (x3 : Int32) : entryFrame m #[(.int x0), (.int x1), (.int x2), (.int x3)] maxLocals = mkF m 0 #[.val (.int x0), .val (.int x1), .val (.int x2), .val (.int x3), .unset, .unset, .unset, .unset, .unset, .unset, .unset, .unset] [] := by first | (simp [entryFrame, mkF, argsToLocals, Value.category, maxLocals]; done) | rfl
def Q0 (Z : State) (i0 : Int32) (i1 : Int32) (i2 : Int32) (i3 : Int32) (h0 : Heap) (n0 : Nat) (v : Option Value) (h : Heap) (L : List Loc) : Prop := v = some (.int (1 : Int32)) ∧ Fr n0 L
set_option maxRecDepth 65536 in
set_option maxHeartbeats 40000000 in
theorem rm0 (l : Launch) (Z : State) (a0 : Array Value) (hw : ∀ d ∈ tables_1, d.before a0 Z = true) (ws : List Jvm.Cond) (i0 : Int32) (i1 : Int32) (i2 : Int32) (i3 : Int32) (h0 : Heap) (n0 : Nat) (Z0 : n0 ≤ h0.size)  :
    MetFree l x (head1 (Jvm.Cond.code x code maxLocals ret :: ws) room_1) (fun zz U => zz = #[(.int i0), (.int i1), (.int i2), (.int i3)] ∧ Z.Warmed39 U.vm ∧ U.heap = h0) (fun _ _ _ _ _ => True) (fun _ U o U' => ∃ v L, o = .returned v ∧ Q0 Z i0 i1 i2 i3 h0 n0 v U'.heap L ∧ FrameEnd U o U' L room_1.cells room_1.slots) := by
  refine MetFree.of_bodySF (plainFor_of_name pn_com_example_swathwork_swathwork_planner_SlewTransitionChangeDegPinLaw) hisR ?_
  intro p e s m args below meth c s₁ Bd hml0 hP hK
  obtain ⟨rfl, hZ, hh⟩ := hP
  have hx := Bd.exec
  have hby := Bd.bytes
  have hml : c.maxLocals = 12 := hml0
  have hown : s.vm.findClass "com/example/swathwork/swathwork/planner/SlewTransitionChangeDegPinLaw" = some m.cls := findClass_of_methodNamed Bd.named
  have hnm := (name_of_methodNamed Bd.named Bd.method).1
  have X0 : Stand p l e room_1 s m #[(.int i0), (.int i1), (.int i2), (.int i3)] below meth c s₁ [] 0 0 := Stand.of_body Bd
  have e0 : s₁.heap = h0 := by rw [← hh, Bd.state]; rfl
  have N0 := Fr.nil n0
  have G : Gets p e below (s₁.setTop (entryFrame m #[(.int i0), (.int i1), (.int i2), (.int i3)] maxLocals)) (s₁.setTop (mkF m 0 #[.val (.int i0), .val (.int i1), .val (.int i2), .val (.int i3), .unset, .unset, .unset, .unset, .unset, .unset, .unset, .unset] [])) := fun t k => castTop (ef_0 m i0 i1 i2 i3) k
  replace G := own_iloadN (q := 1) G X0.here hx (hb hby at_0) rfl rfl
  replace G := own_i2d (q := 2) G X0.here hx (hb hby at_1) (i2d_w i0) rfl
  replace G := own_iloadN (q := 3) G X0.here hx (hb hby at_2) rfl rfl
  replace G := own_i2d (q := 4) G X0.here hx (hb hby at_3) (i2d_w i1) rfl
  replace G := own_iloadN (q := 5) G X0.here hx (hb hby at_4) rfl rfl
  replace G := own_i2d (q := 6) G X0.here hx (hb hby at_5) (i2d_w i2) rfl
  replace G := own_iloadN (q := 7) G X0.here hx (hb hby at_6) rfl rfl
  replace G := own_i2d (q := 8) G X0.here hx (hb hby at_7) (i2d_w i3) rfl
  obtain ⟨_, _, ⟨T1, L1, kk1, nn1⟩, -, X1, ⟨Lc1, hQ1, l1, y1, z1⟩, st1⟩ := Jvm.LawKit.callS X0 hx (y := (⟨"com/example/swathwork/swathwork/planner/SlewTransition", "changeDeg", "(DDDD)D"⟩ : MethodName)) hown (mvT hZ (hw _ (List.mem_of_getElem? (i := 0) rfl))) (mvT hZ (hw _ (List.mem_of_getElem? (i := 1) rfl))) (mvT hZ (hw _ (List.mem_of_getElem? (i := 2) rfl))) (mvT hZ (hw _ (List.mem_of_getElem? (i := 3) rfl))) (by decide) (backOf (W := 0) (rm1 l Z a0 hw [] i0 i1 i2 i3 h0 n0 Z0 ) hZ (hw _ (List.mem_of_getElem? (i := 3) rfl)) (hw _ (List.mem_of_getElem? (i := 2) rfl)) (by decide) (by decide)) (g := (mkF m 8 #[.val (.int i0), .val (.int i1), .val (.int i2), .val (.int i3), .unset, .unset, .unset, .unset, .unset, .unset, .unset, .unset] [(.double (FP.l2d (i3.toInt64))), (.double (FP.l2d (i2.toInt64))), (.double (FP.l2d (i1.toInt64))), (.double (FP.l2d (i0.toInt64)))])) rfl (by rw [hml]; rfl) (argsL := [(.double (FP.l2d (i0.toInt64))), (.double (FP.l2d (i1.toInt64))), (.double (FP.l2d (i2.toInt64))), (.double (FP.l2d (i3.toInt64)))]) (rest := []) (lenOf pd_2 rfl) rfl (by show 2 * 0 + _ ≤ _; exact Nat.le_of_eq rfl) (hb hby at_8) (fun _ _ => ⟨rfl, e0, (by decide : 0 + 0 ≤ _), (by decide : 0 + 0 ≤ _)⟩)
  dsimp only [Pt.U, Pt.locs, Pt.cells, Pt.slots] at X1 l1 y1 z1 st1 hQ1
  subst l1 y1 z1
  obtain ⟨rfl, N1q, e1⟩ := hQ1
  have N1 := Fr.app N0 N1q
  replace G : Gets p e below _ (T1.setTop (mkF m 11 #[.val (.int i0), .val (.int i1), .val (.int i2), .val (.int i3), .unset, .unset, .unset, .unset, .unset, .unset, .unset, .unset] [(.double (FP.l2d (own_mx (own_ab ((i2.toInt64) - (i0.toInt64))) (own_ab ((i3.toInt64) - (i1.toInt64))))))])) := fun t k => G t (st1 t k)
  replace G := own_dstore (q := 13) (l' := #[.val (.int i0), .val (.int i1), .val (.int i2), .val (.int i3), .val (.double (FP.l2d (own_mx (own_ab ((i2.toInt64) - (i0.toInt64))) (own_ab ((i3.toInt64) - (i1.toInt64)))))), .second, .unset, .unset, .unset, .unset, .unset, .unset]) G X1.here hx (hb hby at_11) rfl rfl
  replace G := own_iloadN (q := 14) G X1.here hx (hb hby at_13) rfl rfl
  replace G := own_iloadN (q := 15) G X1.here hx (hb hby at_14) rfl rfl
  obtain ⟨_, _, ⟨T2, L2, kk2, nn2⟩, -, X2, ⟨Lc2, hQ2, l2, y2, z2⟩, st2⟩ := Jvm.LawKit.callS X1 hx (y := (⟨"com/example/swathwork/swathwork/planner/SlewTransitionChangeDegPinLaw", "absDiff", "(II)J"⟩ : MethodName)) hown (mvT hZ (hw _ (List.mem_of_getElem? (i := 11) rfl))) (mvT hZ (hw _ (List.mem_of_getElem? (i := 12) rfl))) (mvT hZ (hw _ (List.mem_of_getElem? (i := 13) rfl))) (mvT hZ (hw _ (List.mem_of_getElem? (i := 14) rfl))) (by decide) (backOf (W := 0) (rm4 l Z a0 hw [] i2 i0 h0 n0 Z0 ) hZ (hw _ (List.mem_of_getElem? (i := 14) rfl)) (hw _ (List.mem_of_getElem? (i := 13) rfl)) (by decide) (by decide)) (g := (mkF m 15 #[.val (.int i0), .val (.int i1), .val (.int i2), .val (.int i3), .val (.double (FP.l2d (own_mx (own_ab ((i2.toInt64) - (i0.toInt64))) (own_ab ((i3.toInt64) - (i1.toInt64)))))), .second, .unset, .unset, .unset, .unset, .unset, .unset] [(.int i0), (.int i2)])) rfl (by rw [hml]; rfl) (argsL := [(.int i2), (.int i0)]) (rest := []) (lenOf pd_3 rfl) rfl (by show 2 * 0 + _ ≤ _; exact Nat.le_of_eq rfl) (hb hby at_15) (fun _ _ => ⟨rfl, e1, (by decide : 0 + 0 ≤ _), (by decide : 0 + 0 ≤ _)⟩)
  dsimp only [Pt.U, Pt.locs, Pt.cells, Pt.slots] at X2 l2 y2 z2 st2 hQ2
  subst l2 y2 z2
  obtain ⟨rfl, N2q, e2⟩ := hQ2
  have N2 := Fr.app N1 N2q
  replace G : Gets p e below _ (T2.setTop (mkF m 18 #[.val (.int i0), .val (.int i1), .val (.int i2), .val (.int i3), .val (.double (FP.l2d (own_mx (own_ab ((i2.toInt64) - (i0.toInt64))) (own_ab ((i3.toInt64) - (i1.toInt64)))))), .second, .unset, .unset, .unset, .unset, .unset, .unset] [(.long (own_ab ((i2.toInt64) - (i0.toInt64))))])) := fun t k => G t (st2 t k)
  replace G := own_lstore (q := 20) (l' := #[.val (.int i0), .val (.int i1), .val (.int i2), .val (.int i3), .val (.double (FP.l2d (own_mx (own_ab ((i2.toInt64) - (i0.toInt64))) (own_ab ((i3.toInt64) - (i1.toInt64)))))), .second, .val (.long (own_ab ((i2.toInt64) - (i0.toInt64)))), .second, .unset, .unset, .unset, .unset]) G X2.here hx (hb hby at_18) rfl rfl
  replace G := own_iloadN (q := 21) G X2.here hx (hb hby at_20) rfl rfl
  replace G := own_iloadN (q := 22) G X2.here hx (hb hby at_21) rfl rfl
  obtain ⟨_, _, ⟨T3, L3, kk3, nn3⟩, -, X3, ⟨Lc3, hQ3, l3, y3, z3⟩, st3⟩ := Jvm.LawKit.callS X2 hx (y := (⟨"com/example/swathwork/swathwork/planner/SlewTransitionChangeDegPinLaw", "absDiff", "(II)J"⟩ : MethodName)) hown (mvT hZ (hw _ (List.mem_of_getElem? (i := 11) rfl))) (mvT hZ (hw _ (List.mem_of_getElem? (i := 12) rfl))) (mvT hZ (hw _ (List.mem_of_getElem? (i := 13) rfl))) (mvT hZ (hw _ (List.mem_of_getElem? (i := 14) rfl))) (by decide) (backOf (W := 0) (rm4 l Z a0 hw [] i3 i1 h0 n0 Z0 ) hZ (hw _ (List.mem_of_getElem? (i := 14) rfl)) (hw _ (List.mem_of_getElem? (i := 13) rfl)) (by decide) (by decide)) (g := (mkF m 22 #[.val (.int i0), .val (.int i1), .val (.int i2), .val (.int i3), .val (.double (FP.l2d (own_mx (own_ab ((i2.toInt64) - (i0.toInt64))) (own_ab ((i3.toInt64) - (i1.toInt64)))))), .second, .val (.long (own_ab ((i2.toInt64) - (i0.toInt64)))), .second, .unset, .unset, .unset, .unset] [(.int i1), (.int i3)])) rfl (by rw [hml]; rfl) (argsL := [(.int i3), (.int i1)]) (rest := []) (lenOf pd_3 rfl) rfl (by show 2 * 0 + _ ≤ _; exact Nat.le_of_eq rfl) (hb hby at_22) (fun _ _ => ⟨rfl, e2, (by decide : 0 + 0 ≤ _), (by decide : 0 + 0 ≤ _)⟩)
  dsimp only [Pt.U, Pt.locs, Pt.cells, Pt.slots] at X3 l3 y3 z3 st3 hQ3
  subst l3 y3 z3
  obtain ⟨rfl, N3q, e3⟩ := hQ3
  have N3 := Fr.app N2 N3q
  replace G : Gets p e below _ (T3.setTop (mkF m 25 #[.val (.int i0), .val (.int i1), .val (.int i2), .val (.int i3), .val (.double (FP.l2d (own_mx (own_ab ((i2.toInt64) - (i0.toInt64))) (own_ab ((i3.toInt64) - (i1.toInt64)))))), .second, .val (.long (own_ab ((i2.toInt64) - (i0.toInt64)))), .second, .unset, .unset, .unset, .unset] [(.long (own_ab ((i3.toInt64) - (i1.toInt64))))])) := fun t k => G t (st3 t k)
  replace G := own_lstore (q := 27) (l' := #[.val (.int i0), .val (.int i1), .val (.int i2), .val (.int i3), .val (.double (FP.l2d (own_mx (own_ab ((i2.toInt64) - (i0.toInt64))) (own_ab ((i3.toInt64) - (i1.toInt64)))))), .second, .val (.long (own_ab ((i2.toInt64) - (i0.toInt64)))), .second, .val (.long (own_ab ((i3.toInt64) - (i1.toInt64)))), .second, .unset, .unset]) G X3.here hx (hb hby at_25) rfl rfl
  replace G := own_lload (q := 29) G X3.here hx (hb hby at_27) rfl rfl
  replace G := own_lstore (q := 31) (l' := #[.val (.int i0), .val (.int i1), .val (.int i2), .val (.int i3), .val (.double (FP.l2d (own_mx (own_ab ((i2.toInt64) - (i0.toInt64))) (own_ab ((i3.toInt64) - (i1.toInt64)))))), .second, .val (.long (own_ab ((i2.toInt64) - (i0.toInt64)))), .second, .val (.long (own_ab ((i3.toInt64) - (i1.toInt64)))), .second, .val (.long (own_ab ((i2.toInt64) - (i0.toInt64)))), .second]) G X3.here hx (hb hby at_29) rfl rfl
  replace G := own_lload (q := 33) G X3.here hx (hb hby at_31) rfl rfl
  replace G := own_lload (q := 35) G X3.here hx (hb hby at_33) rfl rfl
  replace G := own_lcmp (q := 36) G X3.here hx (hb hby at_35) rfl
  replace G : Gets p e below (s₁.setTop (entryFrame m #[(.int i0), (.int i1), (.int i2), (.int i3)] maxLocals)) (T3.setTop (mkF m 43 #[.val (.int i0), .val (.int i1), .val (.int i2), .val (.int i3), .val (.double (FP.l2d (own_mx (own_ab ((i2.toInt64) - (i0.toInt64))) (own_ab ((i3.toInt64) - (i1.toInt64)))))), .second, .val (.long (own_ab ((i2.toInt64) - (i0.toInt64)))), .second, .val (.long (own_ab ((i3.toInt64) - (i1.toInt64)))), .second, .val (.long (if (own_ab ((i2.toInt64) - (i0.toInt64))) < (own_ab ((i3.toInt64) - (i1.toInt64))) then (own_ab ((i3.toInt64) - (i1.toInt64))) else (own_ab ((i2.toInt64) - (i0.toInt64))))), .second] [])) := by
    by_cases hc36_4 : (own_ab ((i2.toInt64) - (i0.toInt64))) < (own_ab ((i3.toInt64) - (i1.toInt64)))
    · replace G := own_ifNo (q := 39) G X3.here hx (hb hby at_36) ((if0 _ _).trans (tlt ((lw_gt _ _).mpr hc36_4)).2.2.2) rfl
      replace G := own_lload (q := 41) G X3.here hx (hb hby at_39) rfl rfl
      replace G := own_lstore (q := 43) (l' := #[.val (.int i0), .val (.int i1), .val (.int i2), .val (.int i3), .val (.double (FP.l2d (own_mx (own_ab ((i2.toInt64) - (i0.toInt64))) (own_ab ((i3.toInt64) - (i1.toInt64)))))), .second, .val (.long (own_ab ((i2.toInt64) - (i0.toInt64)))), .second, .val (.long (own_ab ((i3.toInt64) - (i1.toInt64)))), .second, .val (.long (own_ab ((i3.toInt64) - (i1.toInt64)))), .second]) G X3.here hx (hb hby at_41) rfl rfl
      simp only [if_pos hc36_4]
      exact G
    · replace G := own_ifYes (q := 43) G X3.here hx (hb hby at_36) ((if0 _ _).trans (flt (fun z => hc36_4 ((lw_gt _ _).mp z))).2.2.2) (by decide) (by decide)
      simp only [if_neg hc36_4]
      exact G
  obtain ⟨mm, hn_mm⟩ : ∃ z : Int64, (if (own_ab ((i2.toInt64) - (i0.toInt64))) < (own_ab ((i3.toInt64) - (i1.toInt64))) then (own_ab ((i3.toInt64) - (i1.toInt64))) else (own_ab ((i2.toInt64) - (i0.toInt64)))) = z := ⟨_, rfl⟩
  rw [hn_mm] at G
  replace G := own_dload (q := 45) G X3.here hx (hb hby at_43) rfl rfl
  replace G := own_lload (q := 47) G X3.here hx (hb hby at_45) rfl rfl
  replace G := own_l2d (q := 48) G X3.here hx (hb hby at_47) rfl rfl
  have s1 : own_sm ((i2.toInt64) - (i0.toInt64)) := own_sub
  have s2 : own_sm ((i3.toInt64) - (i1.toInt64)) := own_sub
  have s3 := own_absm s1
  have s4 := own_absm s2
  have hm : mm = own_mx (own_ab ((i2.toInt64) - (i0.toInt64))) (own_ab ((i3.toInt64) - (i1.toInt64))) := by rw [← hn_mm]; rfl
  have hmm : own_sm mm := by rw [hm]; exact own_mxm s3 s4
  replace G := own_dcmp (q := 49) G X3.here hx (hb hby at_48) (dcmpV_w (own_mxm s3 s4).b hmm.b _) rfl
  have hc49_5 : (own_mx (own_ab ((i2.toInt64) - (i0.toInt64))) (own_ab ((i3.toInt64) - (i1.toInt64)))) = mm := hm.symm
  replace G := own_ifNo (q := 52) G X3.here hx (hb hby at_49) ((if0 _ _).trans (teq ((lw_eq _ _).mpr hc49_5)).2) rfl
  replace G := own_iconst (q := 53) G X3.here hx (hb hby at_52) (v := (1 : Int32)) (by decide) rfl
  replace G := own_goto (q := 57) G X3.here hx (hb hby at_53) (by decide) (by decide)
  obtain ⟨fs, hr, hrun, hended, hW, hsame⟩ := X3.leave (v := some (.int (1 : Int32))) (fun h => by rw [Bd.returns] at h; cases h)
  refine ⟨_, _, G _ (retOut X3 hx Bd.returns rfl (Or.inl ⟨rfl, Or.inr (Or.inl rfl), _, rfl⟩) (hb hby at_57) hr), hrun, hended, _, _, rfl, ?_, ⟨_, rfl⟩, hW, hsame.mono (by decide) (by decide)⟩
  show Q0 Z i0 i1 i2 i3 h0 n0 _ T3.heap _
  rw [e3]
  exact ⟨rfl, N3⟩
set_option maxRecDepth 65536 in
set_option maxHeartbeats 40000000 in
theorem comes_1 {Post : Tables → Env → Array Value → State → Outcome → State → Prop} (hpost : ∀ tb e args s v u, (limb_1_1.after args s (.returned v) u = true ∧ limb_1_2.after args s (.returned v) u = true ∧ True) → FrameEnd s (.returned v) u (Jvm.fieldLocs frame_1_writes args s ++ Jvm.arrayLocs frame_1_arrays args s ++ Jvm.staticLocs frame_1_statics s) 0 0 → Post tb e args s (.returned v) u) :
    ArmFor flags0 classFile x code maxLocals ret World_1 tables_1 room_1 Calls_1 rest_1 Pre_1 Post := by
  intro l hfl _ _ p e ha hc hk s m args below hf hA hF happ hP
  obtain ⟨hcalls, hrest, hpre⟩ := hP
  obtain ⟨-, -, -, hnamed, -, -, -, hat⟩ := (Spec.applies_iff hf).mp happ
  obtain ⟨hg, hn⟩ := and_e (Cond.before_iff.mp (show (Jvm.Cond.and given_1 narrow_1).before args s = true from hpre))
  obtain ⟨g1, g2⟩ := and_e hg
  obtain ⟨g3, g4⟩ := and_e g2
  obtain ⟨g5, g6⟩ := and_e g4
  obtain ⟨g7, g8⟩ := and_e g6
  obtain ⟨w0, w1, w2, w3, rfl⟩ : ∃ w0 w1 w2 w3 : Value, args = #[w0, w1, w2, w3] := by
    have hs : args.size = 4 := by simpa [Cond.value, given_1] using g1
    obtain ⟨L⟩ := args
    match L, hs with
    | [w0, w1, w2, w3], _ => exact ⟨w0, w1, w2, w3, rfl⟩
  have hw := fun d (hd : d ∈ tables_1) => atoms_spec (ws := Jvm.Cond.code x code maxLocals ret :: tables_1) hat d (List.mem_cons_of_mem _ hd)
  have hfit : Fit s := fun {y c} hc i hi => by
    obtain ⟨ha, rfl⟩ := Array.getElem?_eq_some_iff.mp hc
    have q := List.all_eq_true.mp ((Array.all_eq_true_iff_forall_mem.mp hF) _ (Array.getElem_mem ha)) i (List.mem_range.mpr hi)
    simpa [Array.getElem?_eq_getElem hi] using q
  obtain ⟨i0, ei0⟩ := is_v g3
  obtain rfl : w0 = (.int i0) := Option.some.inj ei0
  obtain ⟨i1, ei1⟩ := is_v g5
  obtain rfl : w1 = (.int i1) := Option.some.inj ei1
  obtain ⟨i2, ei2⟩ := is_v g7
  obtain rfl : w2 = (.int i2) := Option.some.inj ei2
  obtain ⟨i3, ei3⟩ := is_v g8
  obtain rfl : w3 = (.int i3) := Option.some.inj ei3
  obtain ⟨n, o, h1, h2, h3, _, L, rfl, ⟨rfl, N⟩, hq⟩ := rm0 l s _ hw tables_1 i0 i1 i2 i3 s.heap s.heap.size (Nat.le_refl _)  p e ha hc hk s m _ below hf ((Spec.applies_iff_loose hf).mp happ).1 ⟨rfl, State.Warmed39.refl s, rfl⟩ trivial
  refine ⟨n, _, h1, h2, h3, hpost _ _ _ _ _ _ ⟨Cond.after_iff.mpr rfl, Cond.after_iff.mpr (eq_i res_at (Term.int_eval (1)) rfl), trivial⟩ ⟨hq.1, hq.2.1, (hq.2.2.sift fun y hy => Or.inr (N y hy)).mono (by decide) (by decide)⟩⟩
theorem main_1_1 : Claimed_1_1 := comes_1 fun _ _ _ _ _ _ h hF => ⟨h.1, hF⟩
theorem main_1_2 : Claimed_1_2 := comes_1 fun _ _ _ _ _ _ h hF => ⟨h.2.1, hF⟩
end Jvm.Pilot.@@N@@
namespace Jvm.Pilot.@@N@@
open Jvm Jvm.ClassFile Sem Op Lib Jvm.Free Jvm.Stand Jvm.Pilot.@@N@@.Jvm.D
/-! MADE BY PROGRAM (witnessworld.py) out of the Statement's table words and the real class files: 11 classes; the members and pool entries that the words name. The judged class is class 1, her method 2. -/
namespace start1
open Jvm.ClassFile
def u (s : String) : CpInfo := .utf8 (stringToUtf16 s)
/-- a pool by its gaps: so many unusable entries, then the entry; so many at the end -/
def gap : Nat → List CpInfo → List CpInfo
  | 0, r => r
  | n + 1, r => .unusable :: gap n r
def poolList (es : List (Nat × CpInfo)) (last : Nat) : List CpInfo := es.foldr (fun e r => gap e.1 (e.2 :: r)) (gap last [])
def pool (es : List (Nat × CpInfo)) (last : Nat) : Array CpInfo := ⟨poolList es last⟩
def fileOf (pool : Array CpInfo) (this : Nat) (attrs : Array Attribute := #[]) (ms : Array MethodInfo := #[]) (fl : Nat := 33) (sup : Nat := 0) (ifs : Array Nat := #[]) (fds : Array FieldInfo := #[]) : ClassFile where
  minorVersion := 0
  majorVersion := 65
  constantPool := pool
  accessFlags := fl
  thisClass := this
  superClass := sup
  interfaces := ifs
  fields := fds
  methods := ms
  attributes := attrs
def plain (name : String) (sup : Option ClassId) : Class where
  name := name
  kind := .ordinary
  loader := none
  accessFlags := 33
  super := sup
  interfaces := #[]
  cf := none
  fields := #[]
  methods := #[]
  instanceTypes := #[]
  staticTypes := #[]
  resolved := #[]
  callSites := []
  init := .initialized
  statics := none
  mirror := none

def pool0 : Array CpInfo := pool [(5, u "<init>"), (0, u "()V"), (1, .class_ 10), (1, u "java/lang/Object")] 113

def k0m0 : Method := { name := "<init>", desc := "()V", sig := { parameters := [], returnType := none }, accessFlags := 1, code := none }
/-- java/lang/Object -/
def k0 : Class := { plain "java/lang/Object" none with
  accessFlags := 33
  interfaces := #[]
  cf := some (fileOf pool0 8 #[] #[{ accessFlags := 1, nameIndex := 5, descriptorIndex := 6, attributes := #[] }] 33 0 #[] #[])
  fields := #[]
  methods := #[k0m0]
  instanceTypes := #[]
  staticTypes := #[]
  resolved := Array.replicate 124 none
  statics := none }

def pool1 : Array CpInfo := pool [(2, .class_ 4), (1, u "java/lang/Object"), (0, u "<init>"), (0, u "()V"), (0, .methodref 8 9), (0, .class_ 10), (0, .nameAndType 11 12), (0, u "com/example/swathwork/swathwork/planner/SlewTransition"), (0, u "changeDeg"), (0, u "(DDDD)D"), (0, .methodref 14 15), (0, .class_ 16), (0, .nameAndType 17 18), (0, u "com/example/swathwork/swathwork/planner/SlewTransitionChangeDegPinLaw"), (0, u "absDiff"), (0, u "(II)J"), (3, u "law"), (0, u "(IIII)Z")] 2

def k1m0 : Method := { name := "<init>", desc := "()V", sig := { parameters := [], returnType := none }, accessFlags := 1, code := none }
def k1c1 : Code := { maxStack := 4, maxLocals := 4, code := method_2_code, exceptionTable := #[], attributes := #[] }
def k1m1 : Method := { name := "absDiff", desc := "(II)J", sig := { parameters := [.int, .int], returnType := some .long }, accessFlags := 10, code := some k1c1 }
def k1c2 : Code := { maxStack := 8, maxLocals := 12, code := code, exceptionTable := #[], attributes := #[] }
def k1m2 : Method := { name := "law", desc := "(IIII)Z", sig := { parameters := [.int, .int, .int, .int], returnType := some .boolean }, accessFlags := 9, code := some k1c2 }
/-- com/example/swathwork/swathwork/planner/SlewTransitionChangeDegPinLaw -/
def k1 : Class := { plain "com/example/swathwork/swathwork/planner/SlewTransitionChangeDegPinLaw" (some 0) with
  accessFlags := 49
  interfaces := #[]
  cf := some (fileOf pool1 14 #[] #[{ accessFlags := 1, nameIndex := 5, descriptorIndex := 6, attributes := #[] }, { accessFlags := 10, nameIndex := 17, descriptorIndex := 18, attributes := #[] }, { accessFlags := 9, nameIndex := 22, descriptorIndex := 23, attributes := #[] }] 49 2 #[] #[])
  fields := #[]
  methods := #[k1m0, k1m1, k1m2]
  instanceTypes := #[]
  staticTypes := #[]
  resolved := Array.replicate 26 none
  statics := none }

def pool2 : Array CpInfo := pool [(1, .class_ 2), (0, u "com/example/swathwork/swathwork/planner/Transition"), (0, .class_ 4), (0, u "java/lang/Object")] 13

/-- com/example/swathwork/swathwork/planner/Transition -/
def k2 : Class := { plain "com/example/swathwork/swathwork/planner/Transition" (some 0) with
  accessFlags := 1537
  interfaces := #[]
  cf := some (fileOf pool2 1 #[] #[] 1537 3 #[] #[])
  fields := #[]
  methods := #[]
  instanceTypes := #[]
  staticTypes := #[]
  resolved := Array.replicate 18 none
  statics := none }

def pool3 : Array CpInfo := pool [(2, .class_ 4), (1, u "java/lang/Object"), (18, .class_ 25), (1, u "com/example/swathwork/swathwork/planner/SlewTransition"), (0, u "slewRateDegPerS"), (0, u "D"), (17, u "(DDDD)D"), (17, u "changeDeg"), (3, u "(D)D"), (0, .methodref 69 70), (0, .class_ 71), (0, .nameAndType 72 67), (0, u "java/lang/Math"), (0, u "abs"), (0, .methodref 69 74), (0, .nameAndType 75 76), (0, u "max"), (0, u "(DD)D"), (2, u "SETTLING_S"), (0, u "[D"), (2, u "UPPER_DEG"), (15, .class_ 100), (0, u "com/example/swathwork/swathwork/planner/Transition"), (0, u "WIDEST_CHANGE_DEG"), (1, u "ROUNDING_DEG"), (0, u "TIE_MARGIN_S")] 31

def k3c0 : Code := { maxStack := 6, maxLocals := 8, code := prog_40_method_11_code, exceptionTable := #[], attributes := #[] }
def k3m0 : Method := { name := "changeDeg", desc := "(DDDD)D", sig := { parameters := [.double, .double, .double, .double], returnType := some .double }, accessFlags := 9, code := some k3c0 }
/-- com/example/swathwork/swathwork/planner/SlewTransition -/
def k3 : Class := { plain "com/example/swathwork/swathwork/planner/SlewTransition" (some 0) with
  accessFlags := 49
  interfaces := #[2]
  cf := some (fileOf pool3 23 #[] #[{ accessFlags := 9, nameIndex := 63, descriptorIndex := 45, attributes := #[] }] 49 2 #[99] #[{ accessFlags := 26, nameIndex := 101, descriptorIndex := 27, attributes := #[] }, { accessFlags := 26, nameIndex := 103, descriptorIndex := 27, attributes := #[] }, { accessFlags := 26, nameIndex := 104, descriptorIndex := 27, attributes := #[] }, { accessFlags := 26, nameIndex := 79, descriptorIndex := 80, attributes := #[] }, { accessFlags := 26, nameIndex := 83, descriptorIndex := 80, attributes := #[] }, { accessFlags := 18, nameIndex := 26, descriptorIndex := 27, attributes := #[] }])
  fields := #[{ name := "WIDEST_CHANGE_DEG", type := .double, accessFlags := 26, slot := 0, constantValue := 0 }, { name := "ROUNDING_DEG", type := .double, accessFlags := 26, slot := 1, constantValue := 0 }, { name := "TIE_MARGIN_S", type := .double, accessFlags := 26, slot := 2, constantValue := 0 }, { name := "SETTLING_S", type := (.array .double), accessFlags := 26, slot := 3, constantValue := 0 }, { name := "UPPER_DEG", type := (.array .double), accessFlags := 26, slot := 4, constantValue := 0 }, { name := "slewRateDegPerS", type := .double, accessFlags := 18, slot := 0, constantValue := 0 }]
  methods := #[k3m0]
  instanceTypes := #[.double]
  staticTypes := #[.double, .double, .double, (.array .double), (.array .double)]
  resolved := Array.replicate 136 none
  statics := none }

def pool4 : Array CpInfo := pool [(1, .class_ 2), (0, u "java/lang/Math"), (1, .class_ 6), (1, u "java/lang/Object"), (0, u "<init>"), (0, u "()V"), (5, u "(D)D"), (37, u "(DD)D"), (45, .class_ 100), (1, u "java/lang/Math$RandomNumberGeneratorHolder"), (23, u "abs"), (47, u "negativeZeroFloatBits"), (0, u "J"), (2, u "negativeZeroDoubleBits"), (21, u "max"), (46, u "$assertionsDisabled"), (0, u "Z"), (91, u "twoToTheDoubleScaleDown"), (0, u "D"), (4, u "twoToTheDoubleScaleUp"), (9, u "E"), (3, u "PI"), (2, u "TAU"), (2, u "DEGREES_TO_RADIANS"), (0, u "RADIANS_TO_DEGREES")] 94

def k4m0 : Method := { name := "<init>", desc := "()V", sig := { parameters := [], returnType := none }, accessFlags := 2, code := none }
def k4c1 : Code := { maxStack := 4, maxLocals := 2, code := jdk_29_method_64_code, exceptionTable := #[], attributes := #[] }
def k4m1 : Method := { name := "abs", desc := "(D)D", sig := { parameters := [.double], returnType := some .double }, accessFlags := 9, code := some k4c1 }
def k4c2 : Code := { maxStack := 4, maxLocals := 4, code := jdk_29_method_68_code, exceptionTable := #[], attributes := #[] }
def k4m2 : Method := { name := "max", desc := "(DD)D", sig := { parameters := [.double, .double], returnType := some .double }, accessFlags := 9, code := some k4c2 }
/-- java/lang/Math -/
def k4 : Class := { plain "java/lang/Math" (some 0) with
  accessFlags := 49
  interfaces := #[]
  cf := some (fileOf pool4 1 #[.nestMembers #[98]] #[{ accessFlags := 2, nameIndex := 7, descriptorIndex := 8, attributes := #[] }, { accessFlags := 9, nameIndex := 124, descriptorIndex := 14, attributes := #[] }, { accessFlags := 9, nameIndex := 198, descriptorIndex := 52, attributes := #[] }] 49 4 #[] #[{ accessFlags := 25, nameIndex := 354, descriptorIndex := 339, attributes := #[] }, { accessFlags := 25, nameIndex := 358, descriptorIndex := 339, attributes := #[] }, { accessFlags := 25, nameIndex := 361, descriptorIndex := 339, attributes := #[] }, { accessFlags := 26, nameIndex := 364, descriptorIndex := 339, attributes := #[] }, { accessFlags := 26, nameIndex := 365, descriptorIndex := 339, attributes := #[] }, { accessFlags := 26, nameIndex := 172, descriptorIndex := 173, attributes := #[] }, { accessFlags := 26, nameIndex := 176, descriptorIndex := 173, attributes := #[] }, { accessFlags := 8, nameIndex := 344, descriptorIndex := 339, attributes := #[] }, { accessFlags := 8, nameIndex := 338, descriptorIndex := 339, attributes := #[] }, { accessFlags := 4120, nameIndex := 245, descriptorIndex := 246, attributes := #[] }])
  fields := #[{ name := "E", type := .double, accessFlags := 25, slot := 0, constantValue := 0 }, { name := "PI", type := .double, accessFlags := 25, slot := 1, constantValue := 0 }, { name := "TAU", type := .double, accessFlags := 25, slot := 2, constantValue := 0 }, { name := "DEGREES_TO_RADIANS", type := .double, accessFlags := 26, slot := 3, constantValue := 0 }, { name := "RADIANS_TO_DEGREES", type := .double, accessFlags := 26, slot := 4, constantValue := 0 }, { name := "negativeZeroFloatBits", type := .long, accessFlags := 26, slot := 5, constantValue := 0 }, { name := "negativeZeroDoubleBits", type := .long, accessFlags := 26, slot := 6, constantValue := 0 }, { name := "twoToTheDoubleScaleUp", type := .double, accessFlags := 8, slot := 7, constantValue := 0 }, { name := "twoToTheDoubleScaleDown", type := .double, accessFlags := 8, slot := 8, constantValue := 0 }, { name := "$assertionsDisabled", type := .boolean, accessFlags := 4120, slot := 9, constantValue := 0 }]
  methods := #[k4m0, k4m1, k4m2]
  instanceTypes := #[]
  staticTypes := #[.double, .double, .double, .double, .double, .long, .long, .double, .double, .boolean]
  resolved := Array.replicate 460 none
  statics := none }

def pool5 : Array CpInfo := pool [(1, u "java/lang/Cloneable"), (0, .class_ 1), (0, u "java/lang/Object"), (0, .class_ 3)] 3

/-- java/lang/Cloneable -/
def k5 : Class := { plain "java/lang/Cloneable" (some 0) with
  accessFlags := 1537
  interfaces := #[]
  cf := some (fileOf pool5 2 #[] #[] 1537 4 #[] #[])
  fields := #[]
  methods := #[]
  instanceTypes := #[]
  staticTypes := #[]
  resolved := Array.replicate 8 none
  statics := none }

def pool6 : Array CpInfo := pool [(1, u "java/io/Serializable"), (0, .class_ 1), (0, u "java/lang/Object"), (0, .class_ 3)] 3

/-- java/io/Serializable -/
def k6 : Class := { plain "java/io/Serializable" (some 0) with
  accessFlags := 1537
  interfaces := #[]
  cf := some (fileOf pool6 2 #[] #[] 1537 4 #[] #[])
  fields := #[]
  methods := #[]
  instanceTypes := #[]
  staticTypes := #[]
  resolved := Array.replicate 8 none
  statics := none }

/-- the primitive byte -/
def k7 : Class := { plain "byte" none with kind := .primitive 'B', accessFlags := 0x411 }
/-- [B -/
def k8 : Class := { plain "[B" (some 0) with kind := .array 7 .byte, interfaces := #[5, 6], accessFlags := 1041 }

/-- the primitive int -/
def k9 : Class := { plain "int" none with kind := .primitive 'I', accessFlags := 0x411 }
/-- [I -/
def k10 : Class := { plain "[I" (some 0) with kind := .array 9 .int, interfaces := #[5, 6], accessFlags := 1041 }

def heap : Heap := #[]
def classes : Array Class := #[k0, k1, k2, k3, k4, k5, k6, k7, k8, k9, k10]
def interned : List (Array UInt16 × Addr) := []
def slotsUsed : Nat := 0
def theMethod : MethodId := ⟨1, 2⟩
def args0 : Array Value := #[.int 5, .int 6, .int 7, .int 8]
def aboutOver (below : List Frame) : State where
  vm := { classes := classes, interned := interned.toArray }
  heap := heap
  slotsUsed := slotsUsed
  threads := #[{ frames := .invoking theMethod args0 :: below }]
def below0 : List Frame := [.native { method := ⟨0, 0⟩, args := #[] }]
def about1 : State := aboutOver below0
def p0 : Program := .bare "" "" ""
def e0 : Env := launch0.env 0 0 0
theorem w_frames : about1.frames = Frame.invoking theMethod args0 :: below0 := rfl
set_option maxRecDepth 65536 in
theorem w_args : argsFit about1.vm theMethod args0 = true := by decide +kernel
set_option maxRecDepth 65536 in
theorem w_heap : heapFits about1 = true := by decide +kernel
set_option maxRecDepth 65536 in
theorem w_runnable : about1.curStatus? = some .runnable := by decide +kernel
set_option maxRecDepth 65536 in
theorem w_alone : about1.alone = true := by decide +kernel
set_option maxRecDepth 65536 in
theorem w_named : about1.methodNamed? x = some theMethod := by decide +kernel
set_option maxRecDepth 65536 in
theorem w_hears : about1.hears theMethod below0 = true := by decide +kernel
set_option maxRecDepth 65536 in
theorem w_ripe : about1.ripe theMethod args0 below0 = true := by decide +kernel
theorem w_running : about1.status = .running := rfl
set_option maxRecDepth 65536 in
theorem w_room : about1.hasRoom e0.platform room_1 = true :=
  launch0.hasRoom_least _ room_1 (by decide +kernel) (by decide +kernel) (by decide +kernel) (by decide +kernel) (by decide +kernel) (by decide +kernel)
theorem allAtoms_all (ts : List Jvm.Cond) (a : Array Jvm.Value) (st : Jvm.State) : (allAtoms ts).before a st = ts.all (fun c => c.before a st) := by
  induction ts with
  | nil => rfl
  | cons c t ih =>
    show (Jvm.Cond.and c (allAtoms t)).before a st = _
    rw [Jvm.Cond.before_and, ih, List.all_cons]
def words1 : List Jvm.Cond := Jvm.Cond.code x code maxLocals ret :: tables_1
/-- a 'code' word, met by the world's own term for the bytes: nothing is compared byte by byte -/
theorem code_word {y : MethodName} {bytes : ByteArray} {mx : Nat} {rt : Option FieldType} {a : Array Value} {s : State} {m : MethodId} {meth : Method} {c : Code} (h1 : s.methodNamed? y = some m) (h2 : s.vm.method? m = some meth) (h3 : meth.code = some c) (h4 : c.code = bytes)
    (h5 : (c.maxLocals == mx && c.exceptionTable.isEmpty && decide (c.maxStack ≤ mostOperands) && decide (meth.sig.returnType = rt) && !meth.locks && decide (parseMethodDescriptor y.desc = some meth.sig)) = true) : (Jvm.Cond.code y bytes mx rt).before a s = true := by
  simp only [Bool.and_eq_true, beq_iff_eq, Bool.not_eq_true', decide_eq_true_eq] at h5
  obtain ⟨⟨⟨⟨⟨g1, g2⟩, g3⟩, g4⟩, g5⟩, g6⟩ := h5
  simp [Cond.before, Cond.holds, Cond.value, h1, h2, h3, h4, g1, g2, g3, g4, g5, g6]
def isCode : Jvm.Cond → Bool
  | .code _ _ _ _ => true
  | _ => false
theorem all_split {L : List Jvm.Cond} {P : Jvm.Cond → Bool} (h1 : L.all (fun c => isCode c || P c) = true) (h2 : ∀ c ∈ L.filter isCode, P c = true) : L.all P = true := by
  refine List.all_eq_true.mpr fun c hc => ?_
  have h := List.all_eq_true.mp h1 c hc
  rcases Bool.eq_false_or_eq_true (isCode c) with hi | hi
  · exact h2 c (List.mem_filter.mpr ⟨hc, hi⟩)
  · simpa [hi] using h
set_option maxRecDepth 65536 in
theorem w_c0 : (Jvm.Cond.code x code maxLocals ret).before args0 about1 = true := code_word (m := ⟨1, 2⟩) (meth := k1m2) (c := k1c2) (by decide +kernel) rfl rfl rfl (by decide +kernel)
set_option maxRecDepth 65536 in
theorem w_c1 : (Jvm.Cond.code ({ cls := "com/example/swathwork/swathwork/planner/SlewTransition", name := "changeDeg", desc := "(DDDD)D" } : Jvm.MethodName) prog_40_method_11_code (8 : Nat) (Option.some Jvm.ClassFile.FieldType.double)).before args0 about1 = true := code_word (m := ⟨3, 0⟩) (meth := k3m0) (c := k3c0) (by decide +kernel) rfl rfl rfl (by decide +kernel)
set_option maxRecDepth 65536 in
theorem w_c2 : (Jvm.Cond.code ({ cls := "java/lang/Math", name := "abs", desc := "(D)D" } : Jvm.MethodName) jdk_29_method_64_code (2 : Nat) (Option.some Jvm.ClassFile.FieldType.double)).before args0 about1 = true := code_word (m := ⟨4, 1⟩) (meth := k4m1) (c := k4c1) (by decide +kernel) rfl rfl rfl (by decide +kernel)
set_option maxRecDepth 65536 in
theorem w_c3 : (Jvm.Cond.code ({ cls := "java/lang/Math", name := "max", desc := "(DD)D" } : Jvm.MethodName) jdk_29_method_68_code (4 : Nat) (Option.some Jvm.ClassFile.FieldType.double)).before args0 about1 = true := code_word (m := ⟨4, 2⟩) (meth := k4m2) (c := k4c2) (by decide +kernel) rfl rfl rfl (by decide +kernel)
set_option maxRecDepth 65536 in
theorem w_c4 : (Jvm.Cond.code ({ cls := "com/example/swathwork/swathwork/planner/SlewTransitionChangeDegPinLaw", name := "absDiff", desc := "(II)J" } : Jvm.MethodName) method_2_code (4 : Nat) (Option.some Jvm.ClassFile.FieldType.long)).before args0 about1 = true := code_word (m := ⟨1, 1⟩) (meth := k1m1) (c := k1c1) (by decide +kernel) rfl rfl rfl (by decide +kernel)
def codes1 : List Jvm.Cond := [Jvm.Cond.code x code maxLocals ret, Jvm.Cond.code ({ cls := "com/example/swathwork/swathwork/planner/SlewTransition", name := "changeDeg", desc := "(DDDD)D" } : Jvm.MethodName) prog_40_method_11_code (8 : Nat) (Option.some Jvm.ClassFile.FieldType.double), Jvm.Cond.code ({ cls := "java/lang/Math", name := "abs", desc := "(D)D" } : Jvm.MethodName) jdk_29_method_64_code (2 : Nat) (Option.some Jvm.ClassFile.FieldType.double), Jvm.Cond.code ({ cls := "java/lang/Math", name := "max", desc := "(DD)D" } : Jvm.MethodName) jdk_29_method_68_code (4 : Nat) (Option.some Jvm.ClassFile.FieldType.double), Jvm.Cond.code ({ cls := "com/example/swathwork/swathwork/planner/SlewTransitionChangeDegPinLaw", name := "absDiff", desc := "(II)J" } : Jvm.MethodName) method_2_code (4 : Nat) (Option.some Jvm.ClassFile.FieldType.long)]
set_option maxRecDepth 65536 in
theorem codes_eq : words1.filter isCode = codes1 := rfl
theorem w_codes : ∀ c ∈ words1.filter isCode, c.before args0 about1 = true := by
  rw [codes_eq]
  intro c hc
  simp only [codes1, List.mem_cons, List.not_mem_nil, or_false] at hc
  rcases hc with rfl | rfl | rfl | rfl | rfl
  · exact w_c0
  · exact w_c1
  · exact w_c2
  · exact w_c3
  · exact w_c4
set_option maxRecDepth 65536 in
theorem w_t1 : words1.all (fun c => isCode c || c.before args0 about1) = true := by decide +kernel
theorem w_tables : (allAtoms (Jvm.Cond.code x code maxLocals ret :: tables_1)).before args0 about1 = true := by
  rw [allAtoms_all]
  show words1.all (fun c => c.before args0 about1) = true
  refine all_split ?_ w_codes
  rw [w_t1]
set_option maxRecDepth 65536 in
theorem w_case : (Jvm.Cond.and given_1 narrow_1).before args0 about1 = true := by decide +kernel
theorem w_applies : (headSpec (Jvm.Cond.code x code maxLocals ret :: tables_1) room_1).applies x e0.platform about1 = true :=
  (Spec.applies_iff w_frames).mpr ⟨w_running, w_runnable, w_alone, w_named, w_hears, w_ripe, w_room, w_tables⟩
theorem atStart : AtStart classFile x code maxLocals ret World_1 tables_1 room_1 Calls_1 rest_1 Pre_1 launch0 p0 e0 about1 theMethod args0 below0 :=
  ⟨lists_1, trivial, launch0.admits_env _ _ _, launch0.least_env, fairChoices_fair.cas, fairChoices_fair.clock, w_frames, w_args, w_heap, w_applies, trivial, trivial, w_case⟩
end start1
theorem witness_1 : WitnessClaimed_1 := ⟨start1.p0, start1.e0, start1.about1, start1.theMethod, start1.args0, start1.below0, start1.atStart⟩
end Jvm.Pilot.@@N@@

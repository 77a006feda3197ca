import JvmDerived
import JvmDerived.Pilot.@@N@@Statement
import JvmDerived.Pilot.@@N@@Code
set_option linter.unusedVariables false
set_option linter.unusedSimpArgs false
namespace Jvm.Pilot.@@N@@
open Jvm Jvm.ClassFile Sem Op Lib Jvm.Free Jvm.Stand Jvm.LawKit Jvm.RoadKit Bundle Jvm.Pilot.@@N@@.Jvm.D
/-! the walk in continuation style: 'from U the run comes to an end of which P holds' -/
def OwnGoes (p : Program) (e : Env) (below : List Frame) (P : Outcome → State → Prop) (U : State) : Prop := ∃ s₂ o, Steps p.tables e below U s₂ ∧ s₂.status = .running ∧ Ended s₂ below o ∧ P o s₂
theorem own_pre {p : Program} {e : Env} {below : List Frame} {P : Outcome → State → Prop} {U U' : State} (h : ∀ t, Steps p.tables e below U' t → Steps p.tables e below U t) (k : OwnGoes p e below P U') : OwnGoes p e below P U := by
  obtain ⟨s₂, o, h1, h2⟩ := k
  exact ⟨s₂, o, h _ h1, h2⟩
theorem own_tr {p : Program} {e : Env} {below : List Frame} {P : Outcome → State → Prop} {U U' : State} (h : Steps p.tables e below U U') (k : OwnGoes p e below P U') : OwnGoes p e below P U := own_pre (fun _ q => h.trans q) k
theorem own_ret {p : Program} {l : Launch} {e : Env} {R : Room} {s : State} {m : MethodId} {args : Array Value} {below : List Frame} {meth : Method} {c : Code} {T : State} {locs : List Loc} {cells slots : Nat}
    (X : Stand p l e R s m args below meth c T locs cells slots) (hx : p.tables.exec = Jvm.exec) {pc : Nat} {Ls : Array Slot} {w : Value} {t : FieldType} {i : Instr} {rest : List Value} (hret : meth.sig.returnType = some t) (hn : narrow t w = w)
    (hi : (i = .ireturn ∧ (t = .int ∨ t = .boolean ∨ t = .byte ∨ t = .char ∨ t = .short) ∧ ∃ z, w = .int z) ∨ (i = .lreturn ∧ t = .long ∧ ∃ z, w = .long z) ∨ (i = .dreturn ∧ t = .double ∧ ∃ z, w = .double z) ∨ (i = .freturn ∧ t = .float ∧ ∃ z, w = .float z) ∨ (i = .areturn ∧ t.isReference = true ∧ w.isRef = true))
    (hlocks : meth.locks = false) (hd : decode c.code pc = .ok (i, 1)) {Qh : Option Value → Heap → List Loc → Prop} {rc rs : Nat} (hQ : Qh (some w) T.heap locs) (hc : cells ≤ rc) (hs : slots ≤ rs) :
    OwnGoes p e below (fun o U' => ∃ v L, o = .returned v ∧ Qh v U'.heap L ∧ FrameEnd s o U' L rc rs) (T.setTop (mkF m pc Ls (w :: rest))) := by
  obtain ⟨fs, hr, hrun, hended, hW, hsame⟩ := X.leave (v := some w) (fun h => by rw [hret] at h; cases h) hlocks
  exact ⟨_, _, retOut X hx hret hn hi hd hr, hrun, hended, _, _, rfl, hQ, ⟨_, rfl⟩, hW, hsame.mono hc hs⟩
theorem own_retV {p : Program} {l : Launch} {e : Env} {R : Room} {s : State} {m : MethodId} {args : Array Value} {below : List Frame} {meth : Method} {c : Code} {T : State} {locs : List Loc} {cells slots : Nat}
    (X : Stand p l e R s m args below meth c T locs cells slots) (hx : p.tables.exec = Jvm.exec) {pc : Nat} {Ls : Array Slot} (hret : meth.sig.returnType = none) (hlocks : meth.locks = false) (hd : decode c.code pc = .ok (.return_, 1)) {Qh : Option Value → Heap → List Loc → Prop} {rc rs : Nat} (hQ : Qh none T.heap locs) (hc : cells ≤ rc) (hs : slots ≤ rs) :
    OwnGoes p e below (fun o U' => ∃ v L, o = .returned v ∧ Qh v U'.heap L ∧ FrameEnd s o U' L rc rs) (T.setTop (mkF m pc Ls [])) := by
  obtain ⟨fs, hr, hrun, hended, hW, hsame⟩ := X.leave (v := none) (fun _ => rfl) hlocks
  exact ⟨_, _, X.returnOut hx hret hd hr, hrun, hended, _, _, rfl, hQ, ⟨_, rfl⟩, hW, hsame.mono hc hs⟩

def own_con (lower upper x : UInt64) : Int32 := if (0 : Int32) < cmpValue (Jvm.FP.dcmp lower x) .g then 0 else if (0 : Int32) < cmpValue (Jvm.FP.dcmp x upper) .g then 0 else 1
theorem own_b {a : Int64} (h1 : -9007199254740992 < a.toInt) (h2 : a.toInt < 9007199254740992) : Jvm.RoadKit.B53 a := ⟨h1, h2⟩
theorem own_mask (x : Int32) : (x.toInt64 &&& (2147483647 : Int64)).toInt = x.toInt % 2147483648 := by
  rw [c_maskL x.toInt64 2147483647 31 (by decide) (by decide), Int32.toInt_toInt64]; rfl
theorem own_lohi (a b : Int32) : 0 ≤ (a.toInt64 &&& (2147483647 : Int64)).toInt ∧ (a.toInt64 &&& (2147483647 : Int64)).toInt < 2147483648 ∧ (a.toInt64 &&& (2147483647 : Int64)).toInt ≤ ((a.toInt64 &&& (2147483647 : Int64)) + (b.toInt64 &&& (2147483647 : Int64))).toInt ∧ ((a.toInt64 &&& (2147483647 : Int64)) + (b.toInt64 &&& (2147483647 : Int64))).toInt < 4294967296 := by
  have h1 := own_mask a
  have h2 := own_mask b
  have h3 := c_ladd (a.toInt64 &&& (2147483647 : Int64)) (b.toInt64 &&& (2147483647 : Int64))
  have h4 := rng64 ((a.toInt64 &&& (2147483647 : Int64)) + (b.toInt64 &&& (2147483647 : Int64)))
  omega
theorem own_near (y : Int64) (c : Int32) (h0 : 0 ≤ y.toInt) (h1 : y.toInt < 4294967296) : -9 < (y + ((c &&& (3 : Int32)) - (1 : Int32)).toInt64).toInt ∧ (y + ((c &&& (3 : Int32)) - (1 : Int32)).toInt64).toInt < 4294967306 := by
  have e1 := c_mask c 3 2 (by decide) (by decide)
  have e2 := c_isub (c &&& (3 : Int32)) (1 : Int32)
  have e3 := rng32 ((c &&& (3 : Int32)) - (1 : Int32))
  have e4 := c_ladd y ((c &&& (3 : Int32)) - (1 : Int32)).toInt64
  rw [Int32.toInt_toInt64] at e4
  have e5 := rng64 (y + ((c &&& (3 : Int32)) - (1 : Int32)).toInt64)
  have e6 : (1 : Int32).toInt = 1 := rfl
  omega
theorem own_gt {a b : Int64} (ha : Jvm.RoadKit.B53 a) (hb : Jvm.RoadKit.B53 b) : ((0 : Int32) < cmpValue (Jvm.FP.dcmp (Jvm.FP.l2d a) (Jvm.FP.l2d b)) .g) ↔ b < a := by
  rw [Jvm.RoadKit.dcmpV_w ha hb]; exact lw_gt a b
theorem own_pinf (a : Int64) : ¬ ((0 : Int32) < cmpValue (Jvm.FP.dcmp (Jvm.FP.l2d a) 9218868437227405312) .g) := by
  rw [Jvm.RoadKit.dcmp_pinf (Jvm.Free.Fl.l2d_fin a)]; decide
theorem own_pinf' (a : Int64) : (0 : Int32) < cmpValue (Jvm.FP.dcmp 9218868437227405312 (Jvm.FP.l2d a)) .g := by
  rw [Jvm.RoadKit.dcmp_pinf' (Jvm.Free.Fl.l2d_fin a)]; decide
theorem own_ninf (a : Int64) : (0 : Int32) < cmpValue (Jvm.FP.dcmp (Jvm.FP.l2d a) (Jvm.FP.dneg 9218868437227405312)) .g := by
  rw [show Jvm.FP.dneg 9218868437227405312 = 18442240474082181120 from by decide +kernel, Jvm.RoadKit.dcmp_ninf (Jvm.Free.Fl.l2d_fin a)]; decide
theorem own_negz {a : Int64} (ha : Jvm.RoadKit.B53 a) (h0 : 0 ≤ a.toInt) : ((0 : Int32) < cmpValue (Jvm.FP.dcmp (Jvm.FP.l2d a) 9223372036854775808) .g) ↔ ¬ a = 0 := by
  have e : ∀ x : UInt64, Jvm.FP.Core.val64 x ≠ .nan → Jvm.FP.dcmp x 9223372036854775808 = Jvm.FP.dcmp x (Jvm.FP.l2d 0) := fun x hx => by
    rw [show Jvm.FP.dcmp x 9223372036854775808 = Jvm.FP.Core.dcmp x 9223372036854775808 from rfl, show Jvm.FP.dcmp x (Jvm.FP.l2d 0) = Jvm.FP.Core.dcmp x (Jvm.FP.l2d 0) from rfl,
      Jvm.FP.Core.dcmp_zval hx (by decide +kernel), Jvm.FP.Core.dcmp_zval hx (by decide +kernel)]
    rw [show Jvm.FP.Core.zval Jvm.FP.Core.b64 (Jvm.FP.Core.val64 9223372036854775808) = Jvm.FP.Core.zval Jvm.FP.Core.b64 (Jvm.FP.Core.val64 (Jvm.FP.l2d 0)) from by decide +kernel]
  rw [e _ (Jvm.Free.Fl.val64_no.mp (Jvm.Free.Fl.l2d_fin a).noNaN), own_gt ha ⟨by decide, by decide⟩, Int64.lt_iff_toInt_lt]
  have e0 : (0 : Int64).toInt = 0 := rfl
  rw [e0]
  constructor
  · intro h q; rw [q, e0] at h; omega
  · intro h
    have : a.toInt ≠ 0 := fun q => h (Int64.toInt_inj.mp (q.trans e0.symm))
    omega
theorem own_negzu (a : Int64) (ha : Jvm.RoadKit.B53 a) (h0 : 0 ≤ a.toInt) : ¬ ((0 : Int32) < cmpValue (Jvm.FP.dcmp 9223372036854775808 (Jvm.FP.l2d a)) .g) := by
  have hx : Jvm.FP.Core.val64 (Jvm.FP.l2d a) ≠ .nan := Jvm.Free.Fl.val64_no.mp (Jvm.Free.Fl.l2d_fin a).noNaN
  have e : Jvm.FP.dcmp 9223372036854775808 (Jvm.FP.l2d a) = Jvm.FP.dcmp (Jvm.FP.l2d 0) (Jvm.FP.l2d a) := by
    rw [show Jvm.FP.dcmp 9223372036854775808 (Jvm.FP.l2d a) = Jvm.FP.Core.dcmp 9223372036854775808 (Jvm.FP.l2d a) from rfl, show Jvm.FP.dcmp (Jvm.FP.l2d 0) (Jvm.FP.l2d a) = Jvm.FP.Core.dcmp (Jvm.FP.l2d 0) (Jvm.FP.l2d a) from rfl,
      Jvm.FP.Core.dcmp_zval (by decide +kernel) hx, Jvm.FP.Core.dcmp_zval (by decide +kernel) hx]
    rw [show Jvm.FP.Core.zval Jvm.FP.Core.b64 (Jvm.FP.Core.val64 9223372036854775808) = Jvm.FP.Core.zval Jvm.FP.Core.b64 (Jvm.FP.Core.val64 (Jvm.FP.l2d 0)) from by decide +kernel]
  rw [e, own_gt ⟨by decide, by decide⟩ ha, Int64.lt_iff_toInt_lt]
  have e0 : (0 : Int64).toInt = 0 := rfl
  rw [e0]; omega
theorem own_negzi : ¬ ((0 : Int32) < cmpValue (Jvm.FP.dcmp 9223372036854775808 9218868437227405312) .g) := by decide +kernel
theorem own_infinf : ¬ ((0 : Int32) < cmpValue (Jvm.FP.dcmp 9218868437227405312 9218868437227405312) .g) := by decide +kernel
theorem own_le (n : Int64) (h : 0 ≤ n.toInt) (hb : Jvm.RoadKit.B53 n) : ¬ cmpValue (Jvm.FP.dcmp (Jvm.FP.l2d n) 0) .l < (0 : Int32) := by
  rw [← Jvm.RoadKit.l2d_zero, Jvm.RoadKit.dcmpV_w hb ⟨by decide, by decide⟩, lw_lt, Int64.lt_iff_toInt_lt]
  have e0 : (0 : Int64).toInt = 0 := rfl
  rw [e0]; omega

theorem own_fld {args : Array Value} {s : State} {t : Term} {a : Addr} {C n d : String} {k : Int64} (ev : t.eval args s none [] s = some (.ref a)) (h : (Jvm.Cond.eq (Term.field t C n d) (Term.op1 Jvm.Unary.bitsD (Term.long k))).value args s none s [] = some true) : s.fieldOf? a C n d = some (.double k.toUInt64) := by
  have e2 : (Term.op1 Jvm.Unary.bitsD (Term.long k)).eval args s none [] s = some (.double k.toUInt64) := by simp [Term.eval, Jvm.Unary.apply]
  obtain ⟨x, y, e1, e2', -, k2⟩ := cmp_v (Or.inl h)
  cases e2.symm.trans e2'
  obtain ⟨z, rfl⟩ := k2
  have e3 := e1
  rw [fld_at ev] at e3
  simp only [Jvm.Cond.value, e1, e2, Option.some.injEq, decide_eq_true_eq] at h
  rw [e3, h]

def Q3  (h0 : Heap) (n0 : Nat) (v : Option Value) (h : Heap) (L : List Loc) : Prop := v = none ∧ Fr n0 L ∧ h = h0
theorem d3_0 : decode jdk_30_method_1_code 0 = .ok (.aload_n 0, 1) := by decide +kernel
theorem d3_1 : decode jdk_30_method_1_code 1 = .ok (.invokespecial 1, 3) := by decide +kernel
theorem d3_4 : decode jdk_30_method_1_code 4 = .ok (.return_, 1) := by decide +kernel
set_option maxRecDepth 65536 in
set_option maxHeartbeats 40000000 in
theorem rm3 (l : Launch) (Z : State) (a0 : Array Value) (hw : ∀ d ∈ tables_1, d.before a0 Z = true) (ws : List Jvm.Cond) (a1 : Addr) (h0 : Heap) (n0 : Nat) (Z0 : n0 ≤ h0.size) :
    MetFree l (⟨"java/lang/Record", "<init>", "()V"⟩ : MethodName) (head1 (Jvm.Cond.code (⟨"java/lang/Record", "<init>", "()V"⟩ : MethodName) jdk_30_method_1_code 1 none :: ws) ({ frames := 1, cells := 0, slots := 0, locals := 12 } : Room)) (fun a U => a = #[(.ref a1)] ∧ Z.Warmed39 U.vm ∧ U.heap = h0) (fun _ _ _ _ _ => True) (fun _ U o U' => ∃ v L, o = .returned v ∧ Q3 h0 n0 v U'.heap L ∧ FrameEnd U o U' L ({ frames := 1, cells := 0, slots := 0, locals := 12 } : Room).cells ({ frames := 1, cells := 0, slots := 0, locals := 12 } : Room).slots) := by
  refine MetFree.of_bodySF (plainFor_of_name (by first | (simp [plainName, overriddenIn]; done) | decide +kernel)) hisR ?_
  intro p e s m args below meth c s₁ Bd hml0 hP hK
  obtain ⟨rfl, hZ, hh⟩ := hP
  have hx := Bd.exec
  have hby := Bd.bytes
  have hml : c.maxLocals = 1 := hml0
  have hown : s.vm.findClass "java/lang/Record" = some m.cls := findClass_of_methodNamed Bd.named
  have hnm := (name_of_methodNamed Bd.named Bd.method).1
  have X0 : Stand p l e ({ frames := 1, cells := 0, slots := 0, locals := 12 } : Room) s m #[(.ref a1)] below meth c s₁ [] 0 0 := Stand.of_body Bd
  have e0 : s₁.heap = h0 := by rw [← hh, Bd.state]; rfl
  have N0 := Fr.nil n0
  have ef : entryFrame m #[(.ref a1)] 1 = (mkF m 0 #[.val (.ref a1)] []) := by first | (simp [entryFrame, mkF, argsToLocals, Value.category]; done) | rfl
  show OwnGoes p e below (fun o U' => ∃ v L, o = .returned v ∧ Q3 h0 n0 v U'.heap L ∧ FrameEnd s o U' L ({ frames := 1, cells := 0, slots := 0, locals := 12 } : Room).cells ({ frames := 1, cells := 0, slots := 0, locals := 12 } : Room).slots) (s₁.setTop (entryFrame m #[(.ref a1)] 1))
  refine own_pre (fun t k => castTop ef k) ?_
  show OwnGoes p e below _ (s₁.setTop (mkF m 0 #[.val (.ref a1)] []))
  refine own_pre (fun _ kz_ => XS.aloadN X0.here hx rfl (hb hby d3_0) rfl rfl kz_) ?_
  show OwnGoes p e below _ (s₁.setTop (mkF m 1 #[.val (.ref a1)] [(.ref a1)]))
  obtain ⟨T1, X1, e1, st1⟩ := initO X0 hx hZ hown (hw _ (List.mem_of_getElem? (i := 21) rfl)) (hw _ (List.mem_of_getElem? (i := 22) rfl)) (hw _ (List.mem_of_getElem? (i := 23) rfl)) e0 (g := (mkF m 1 #[.val (.ref a1)] [(.ref a1)])) rfl (by rw [hml]; rfl) rfl (hb hby d3_1) (by decide) (W := 0) (by show 2 * 0 + _ ≤ _; exact Nat.le_of_eq rfl) (by decide)
  refine own_pre st1 ?_
  show OwnGoes p e below _ (T1.setTop (mkF m 4 #[.val (.ref a1)] []))
  exact own_retV X1 hx Bd.returns Bd.notSynchronized (hb hby d3_4) ⟨rfl, N0, e1⟩ (by decide) (by decide)
theorem d1_0 : decode prog_2_method_7_code 0 = .ok (.aload_n 0, 1) := by decide +kernel
theorem d1_1 : decode prog_2_method_7_code 1 = .ok (.getfield 29, 3) := by decide +kernel
theorem d1_4 : decode prog_2_method_7_code 4 = .ok (.dreturn, 1) := by decide +kernel
theorem d2_0 : decode prog_2_method_1_code 0 = .ok (.aload_n 0, 1) := by decide +kernel
theorem d2_1 : decode prog_2_method_1_code 1 = .ok (.invokespecial 1, 3) := by decide +kernel
theorem d2_4 : decode prog_2_method_1_code 4 = .ok (.dload_n 1, 1) := by decide +kernel
theorem d2_5 : decode prog_2_method_1_code 5 = .ok (.dconst 0, 1) := by decide +kernel
theorem d2_6 : decode prog_2_method_1_code 6 = .ok (.dcmp .l, 1) := by decide +kernel
theorem d2_7 : decode prog_2_method_1_code 7 = .ok (.ifCond .lt 11, 3) := by decide +kernel
theorem d2_10 : decode prog_2_method_1_code 10 = .ok (.dload_n 1, 1) := by decide +kernel
theorem d2_11 : decode prog_2_method_1_code 11 = .ok (.ldc2_w 9, 3) := by decide +kernel
theorem d2_14 : decode prog_2_method_1_code 14 = .ok (.dcmp .g, 1) := by decide +kernel
theorem d2_15 : decode prog_2_method_1_code 15 = .ok (.ifCond .lt 17, 3) := by decide +kernel
theorem d2_18 : decode prog_2_method_1_code 18 = .ok (.new 11, 3) := by decide +kernel
theorem d2_21 : decode prog_2_method_1_code 21 = .ok (.dup, 1) := by decide +kernel
theorem d2_22 : decode prog_2_method_1_code 22 = .ok (.dload_n 1, 1) := by decide +kernel
theorem d2_28 : decode prog_2_method_1_code 28 = .ok (.invokespecial 17, 3) := by decide +kernel
theorem d2_31 : decode prog_2_method_1_code 31 = .ok (.athrow, 1) := by decide +kernel
theorem d2_32 : decode prog_2_method_1_code 32 = .ok (.dload_n 3, 1) := by decide +kernel
theorem d2_33 : decode prog_2_method_1_code 33 = .ok (.dload_n 1, 1) := by decide +kernel
theorem d2_34 : decode prog_2_method_1_code 34 = .ok (.dcmp .l, 1) := by decide +kernel
theorem d2_35 : decode prog_2_method_1_code 35 = .ok (.ifCond .ge 18, 3) := by decide +kernel
theorem d2_38 : decode prog_2_method_1_code 38 = .ok (.new 11, 3) := by decide +kernel
theorem d2_41 : decode prog_2_method_1_code 41 = .ok (.dup, 1) := by decide +kernel
theorem d2_42 : decode prog_2_method_1_code 42 = .ok (.dload_n 1, 1) := by decide +kernel
theorem d2_43 : decode prog_2_method_1_code 43 = .ok (.dload_n 3, 1) := by decide +kernel
theorem d2_49 : decode prog_2_method_1_code 49 = .ok (.invokespecial 17, 3) := by decide +kernel
theorem d2_52 : decode prog_2_method_1_code 52 = .ok (.athrow, 1) := by decide +kernel
theorem d2_53 : decode prog_2_method_1_code 53 = .ok (.aload_n 0, 1) := by decide +kernel
theorem d2_54 : decode prog_2_method_1_code 54 = .ok (.dload_n 1, 1) := by decide +kernel
theorem d2_55 : decode prog_2_method_1_code 55 = .ok (.putfield 23, 3) := by decide +kernel
theorem d2_58 : decode prog_2_method_1_code 58 = .ok (.aload_n 0, 1) := by decide +kernel
theorem d2_59 : decode prog_2_method_1_code 59 = .ok (.dload_n 3, 1) := by decide +kernel
theorem d2_60 : decode prog_2_method_1_code 60 = .ok (.putfield 29, 3) := by decide +kernel
theorem d2_63 : decode prog_2_method_1_code 63 = .ok (.return_, 1) := by decide +kernel
theorem d5_0 : decode prog_2_method_2_code 0 = .ok (.aload_n 0, 1) := by decide +kernel
theorem d5_1 : decode prog_2_method_2_code 1 = .ok (.getfield 23, 3) := by decide +kernel
theorem d5_4 : decode prog_2_method_2_code 4 = .ok (.dload_n 1, 1) := by decide +kernel
theorem d5_5 : decode prog_2_method_2_code 5 = .ok (.dcmp .g, 1) := by decide +kernel
theorem d5_6 : decode prog_2_method_2_code 6 = .ok (.ifCond .gt 16, 3) := by decide +kernel
theorem d5_9 : decode prog_2_method_2_code 9 = .ok (.dload_n 1, 1) := by decide +kernel
theorem d5_10 : decode prog_2_method_2_code 10 = .ok (.aload_n 0, 1) := by decide +kernel
theorem d5_11 : decode prog_2_method_2_code 11 = .ok (.getfield 29, 3) := by decide +kernel
theorem d5_14 : decode prog_2_method_2_code 14 = .ok (.dcmp .g, 1) := by decide +kernel
theorem d5_15 : decode prog_2_method_2_code 15 = .ok (.ifCond .gt 7, 3) := by decide +kernel
theorem d5_18 : decode prog_2_method_2_code 18 = .ok (.iconst 1, 1) := by decide +kernel
theorem d5_19 : decode prog_2_method_2_code 19 = .ok (.goto 4, 3) := by decide +kernel
theorem d5_22 : decode prog_2_method_2_code 22 = .ok (.iconst 0, 1) := by decide +kernel
theorem d5_23 : decode prog_2_method_2_code 23 = .ok (.ireturn, 1) := by decide +kernel
def QU (x : UInt64) (h0 : Heap) (n0 : Nat) (v : Option Value) (h : Heap) (L : List Loc) : Prop := v = some (.double x) ∧ Fr n0 L ∧ h = h0
def QI (Z : State) (a1 : Addr) (x1 x2 : UInt64) (h0 : Heap) (n0 : Nat) (v : Option Value) (h : Heap) (L : List Loc) : Prop := v = none ∧ Fr n0 L ∧ Keep h0 h [a1] ∧ Exa Z h a1 "com/example/dual_bounds/dualbounds/Interval" ∧ Fld Z h a1 "com/example/dual_bounds/dualbounds/Interval" "lower" "D" (.double x1) ∧ Fld Z h a1 "com/example/dual_bounds/dualbounds/Interval" "upper" "D" (.double x2)
def QC (r : Int32) (h0 : Heap) (n0 : Nat) (v : Option Value) (h : Heap) (L : List Loc) : Prop := v = some (.int r) ∧ Fr n0 L ∧ h = h0
def Q0  (h0 : Heap) (n0 : Nat) (v : Option Value) (h : Heap) (L : List Loc) : Prop := v = some (.int (1 : Int32)) ∧ Fr n0 L
set_option maxRecDepth 65536 in
set_option maxHeartbeats 40000000 in
theorem rmU (l : Launch) (Z : State) (a0 : Array Value) (hw : ∀ d ∈ tables_1, d.before a0 Z = true) (ws : List Jvm.Cond) (a1 : Addr) (x : UInt64) (h0 : Heap) (n0 : Nat) (Z0 : n0 ≤ h0.size) (F2 : Fld Z h0 a1 "com/example/dual_bounds/dualbounds/Interval" "upper" "D" (.double x)) :
    MetFree l (⟨"com/example/dual_bounds/dualbounds/Interval", "upper", "()D"⟩ : MethodName) (head1 (Jvm.Cond.code (⟨"com/example/dual_bounds/dualbounds/Interval", "upper", "()D"⟩ : MethodName) prog_2_method_7_code 1 (some .double) :: ws) ({ frames := 0, cells := 0, slots := 0, locals := 0 } : Room)) (fun a U => a = #[(.ref a1)] ∧ Z.Warmed39 U.vm ∧ U.heap = h0) (fun _ _ _ _ _ => True) (fun _ U o U' => ∃ v L, o = .returned v ∧ QU x h0 n0 v U'.heap L ∧ FrameEnd U o U' L ({ frames := 0, cells := 0, slots := 0, locals := 0 } : Room).cells ({ frames := 0, cells := 0, slots := 0, locals := 0 } : Room).slots) := by
  refine MetFree.of_bodySF (plainFor_of_name (by first | (simp [plainName, overriddenIn]; done) | decide +kernel)) hisR ?_
  intro p e s m args below meth c s₁ Bd hml0 hP hK
  obtain ⟨rfl, hZ, hh⟩ := hP
  have hx := Bd.exec
  have hby := Bd.bytes
  have hml : c.maxLocals = 1 := hml0
  have hown : s.vm.findClass "com/example/dual_bounds/dualbounds/Interval" = some m.cls := findClass_of_methodNamed Bd.named
  have hnm := (name_of_methodNamed Bd.named Bd.method).1
  have X0 : Stand p l e ({ frames := 0, cells := 0, slots := 0, locals := 0 } : Room) s m #[(.ref a1)] below meth c s₁ [] 0 0 := Stand.of_body Bd
  have e0 : s₁.heap = h0 := by rw [← hh, Bd.state]; rfl
  have N0 := Fr.nil n0
  have ef : entryFrame m #[(.ref a1)] 1 = (mkF m 0 #[.val (.ref a1)] []) := by first | (simp [entryFrame, mkF, argsToLocals, Value.category]; done) | rfl
  show OwnGoes p e below (fun o U' => ∃ v L, o = .returned v ∧ QU x h0 n0 v U'.heap L ∧ FrameEnd s o U' L ({ frames := 0, cells := 0, slots := 0, locals := 0 } : Room).cells ({ frames := 0, cells := 0, slots := 0, locals := 0 } : Room).slots) (s₁.setTop (entryFrame m #[(.ref a1)] 1))
  refine own_pre (fun t k => castTop ef k) ?_
  show OwnGoes p e below _ (s₁.setTop (mkF m 0 #[.val (.ref a1)] []))
  refine own_pre (fun _ kz_ => XS.aloadN X0.here hx rfl (hb hby d1_0) rfl rfl kz_) ?_
  show OwnGoes p e below _ (s₁.setTop (mkF m 1 #[.val (.ref a1)] [(.ref a1)]))
  obtain ⟨T1, X1, e1, st1⟩ := getF X0 hx hZ hown (host := "") (Or.inl (hw _ (List.mem_of_getElem? (i := 9) rfl))) Via.refl e0 F2 (g := (mkF m 1 #[.val (.ref a1)] [(.ref a1)])) rfl rfl (hb hby d1_1)
  refine own_pre st1 ?_
  show OwnGoes p e below _ (T1.setTop (mkF m 4 #[.val (.ref a1)] [(.double x)]))
  exact own_ret X1 hx Bd.returns (rfl) (Or.inr (Or.inr (Or.inl ⟨rfl, rfl, _, rfl⟩))) Bd.notSynchronized (hb hby d1_4) ⟨rfl, N0, e1⟩ (by decide) (by decide)
set_option maxRecDepth 65536 in
set_option maxHeartbeats 40000000 in
theorem rmI (l : Launch) (Z : State) (a0 : Array Value) (hw : ∀ d ∈ tables_1, d.before a0 Z = true) (ws : List Jvm.Cond) (a1 : Addr) (x1 x2 : UInt64) (h0 : Heap) (n0 : Nat) (Z0 : n0 ≤ h0.size) (E1 : Exa Z h0 a1 "com/example/dual_bounds/dualbounds/Interval") (F1 : Fld Z h0 a1 "com/example/dual_bounds/dualbounds/Interval" "lower" "D" (.double (0 : UInt64))) (F2 : Fld Z h0 a1 "com/example/dual_bounds/dualbounds/Interval" "upper" "D" (.double (0 : UInt64))) (g_a1 : n0 ≤ a1) (c1 : ¬ (cmpValue (Jvm.FP.dcmp x1 (0 : UInt64)) .l < (0 : Int32))) (c2 : cmpValue (Jvm.FP.dcmp x1 (9218868437227405312 : UInt64)) .g < (0 : Int32)) (c3 : ¬ (cmpValue (Jvm.FP.dcmp x2 x1) .l < (0 : Int32))) :
    MetFree l (⟨"com/example/dual_bounds/dualbounds/Interval", "<init>", "(DD)V"⟩ : MethodName) (head1 (Jvm.Cond.code (⟨"com/example/dual_bounds/dualbounds/Interval", "<init>", "(DD)V"⟩ : MethodName) prog_2_method_1_code 5 none :: ws) ({ frames := 2, cells := 0, slots := 0, locals := 24 } : Room)) (fun a U => a = #[(.ref a1), (.double x1), (.double x2)] ∧ Z.Warmed39 U.vm ∧ U.heap = h0) (fun _ _ _ _ _ => True) (fun _ U o U' => ∃ v L, o = .returned v ∧ QI Z a1 x1 x2 h0 n0 v U'.heap L ∧ FrameEnd U o U' L ({ frames := 2, cells := 0, slots := 0, locals := 24 } : Room).cells ({ frames := 2, cells := 0, slots := 0, locals := 24 } : Room).slots) := by
  refine MetFree.of_bodySF (plainFor_of_name (by first | (simp [plainName, overriddenIn]; done) | decide +kernel)) hisR ?_
  intro p e s m args below meth c s₁ Bd hml0 hP hK
  obtain ⟨rfl, hZ, hh⟩ := hP
  have hx := Bd.exec
  have hby := Bd.bytes
  have hml : c.maxLocals = 5 := hml0
  have hown : s.vm.findClass "com/example/dual_bounds/dualbounds/Interval" = some m.cls := findClass_of_methodNamed Bd.named
  have hnm := (name_of_methodNamed Bd.named Bd.method).1
  have X0 : Stand p l e ({ frames := 2, cells := 0, slots := 0, locals := 24 } : Room) s m #[(.ref a1), (.double x1), (.double x2)] below meth c s₁ [] 0 0 := Stand.of_body Bd
  have e0 : s₁.heap = h0 := by rw [← hh, Bd.state]; rfl
  have N0 := Fr.nil n0
  have ef : entryFrame m #[(.ref a1), (.double x1), (.double x2)] 5 = (mkF m 0 #[.val (.ref a1), .val (.double x1), .second, .val (.double x2), .second] []) := by first | (simp [entryFrame, mkF, argsToLocals, Value.category]; done) | rfl
  show OwnGoes p e below (fun o U' => ∃ v L, o = .returned v ∧ QI Z a1 x1 x2 h0 n0 v U'.heap L ∧ FrameEnd s o U' L ({ frames := 2, cells := 0, slots := 0, locals := 24 } : Room).cells ({ frames := 2, cells := 0, slots := 0, locals := 24 } : Room).slots) (s₁.setTop (entryFrame m #[(.ref a1), (.double x1), (.double x2)] 5))
  refine own_pre (fun t k => castTop ef k) ?_
  show OwnGoes p e below _ (s₁.setTop (mkF m 0 #[.val (.ref a1), .val (.double x1), .second, .val (.double x2), .second] []))
  refine own_pre (fun _ kz_ => XS.aloadN X0.here hx rfl (hb hby d2_0) rfl rfl kz_) ?_
  show OwnGoes p e below _ (s₁.setTop (mkF m 1 #[.val (.ref a1), .val (.double x1), .second, .val (.double x2), .second] [(.ref a1)]))
  obtain ⟨_, _, ⟨T1, L1, k1, n1⟩, -, X1, ⟨Lc1, hQ1, l1, y1, z1⟩, st1⟩ := X0.specialBack hx (y := (⟨"java/lang/Record", "<init>", "()V"⟩ : MethodName)) rfl hown (mvT hZ (hw _ (List.mem_of_getElem? (i := 16) rfl))) (mvT hZ (hw _ (List.mem_of_getElem? (i := 17) rfl))) (mvT hZ (hw _ (List.mem_of_getElem? (i := 20) rfl))) (by decide) (backOf (W := 0) (rm3 l Z a0 hw [] a1 h0 n0 Z0) hZ (hw _ (List.mem_of_getElem? (i := 20) rfl)) (hw _ (List.mem_of_getElem? (i := 19) rfl)) (by decide) (by decide)) (g := (mkF m 1 #[.val (.ref a1), .val (.double x1), .second, .val (.double x2), .second] [(.ref a1)])) rfl (by rw [hml]; rfl) (Steps.refl _) (a := a1) (argsL := []) (rest := []) (lenOf (d := "()V") (ps := []) (r := none) (by decide +kernel) rfl) rfl (by show 2 * 0 + _ ≤ _; exact Nat.le_of_eq rfl) (hb hby d2_1) (fun _ _ => ⟨rfl, e0, (by decide : 0 + 0 ≤ _), (by decide : 0 + 0 ≤ _)⟩)
  dsimp only [Pt.U, Pt.locs, Pt.cells, Pt.slots] at X1 l1 y1 z1 st1 hQ1
  subst l1 y1 z1
  obtain ⟨rfl, N1q, e1⟩ := hQ1
  have N1 := Fr.app N0 N1q
  refine own_tr st1 ?_
  show OwnGoes p e below _ (T1.setTop (mkF m 4 #[.val (.ref a1), .val (.double x1), .second, .val (.double x2), .second] []))
  refine own_pre (fun _ kz_ => XS.dloadN X1.here hx rfl (hb hby d2_4) rfl kz_) ?_
  show OwnGoes p e below _ (T1.setTop (mkF m 5 #[.val (.ref a1), .val (.double x1), .second, .val (.double x2), .second] [(.double x1)]))
  refine own_pre (fun _ kz_ => XS.dconst0 X1.here hx rfl (hb hby d2_5) (v := (0 : UInt64)) (by decide +kernel) kz_) ?_
  show OwnGoes p e below _ (T1.setTop (mkF m 6 #[.val (.ref a1), .val (.double x1), .second, .val (.double x2), .second] [(.double (0 : UInt64)), (.double x1)]))
  refine own_pre (fun _ kz_ => XS.dcmpS X1.here hx rfl (hb hby d2_6) rfl (v := (cmpValue (Jvm.FP.dcmp x1 (0 : UInt64)) .l)) (rfl) kz_) ?_
  show OwnGoes p e below _ (T1.setTop (mkF m 7 #[.val (.ref a1), .val (.double x1), .second, .val (.double x2), .second] [(.int (cmpValue (Jvm.FP.dcmp x1 (0 : UInt64)) .l))]))
  refine own_pre (fun _ kz_ => XS.ifNo X1.here hx rfl (hb hby d2_7) rfl ((if0 _ _).trans (flt (c1 : ¬ ((cmpValue (Jvm.FP.dcmp x1 (0 : UInt64)) .l) < (0 : Int32)))).1) kz_) ?_
  show OwnGoes p e below _ (T1.setTop (mkF m 10 #[.val (.ref a1), .val (.double x1), .second, .val (.double x2), .second] []))
  refine own_pre (fun _ kz_ => XS.dloadN X1.here hx rfl (hb hby d2_10) rfl kz_) ?_
  show OwnGoes p e below _ (T1.setTop (mkF m 11 #[.val (.ref a1), .val (.double x1), .second, .val (.double x2), .second] [(.double x1)]))
  refine own_pre (fun _ kz_ => X1.ldc2DoubleC hx hown (mvT hZ (hw _ (List.mem_of_getElem? (i := 24) rfl))) (g := (mkF m 11 #[.val (.ref a1), .val (.double x1), .second, .val (.double x2), .second] [(.double x1)])) rfl (hb hby d2_11) _ kz_) ?_
  show OwnGoes p e below _ (T1.setTop (mkF m 14 #[.val (.ref a1), .val (.double x1), .second, .val (.double x2), .second] [(.double (9218868437227405312 : UInt64)), (.double x1)]))
  refine own_pre (fun _ kz_ => XS.dcmpS X1.here hx rfl (hb hby d2_14) rfl (v := (cmpValue (Jvm.FP.dcmp x1 (9218868437227405312 : UInt64)) .g)) (rfl) kz_) ?_
  show OwnGoes p e below _ (T1.setTop (mkF m 15 #[.val (.ref a1), .val (.double x1), .second, .val (.double x2), .second] [(.int (cmpValue (Jvm.FP.dcmp x1 (9218868437227405312 : UInt64)) .g))]))
  refine own_pre (fun _ kz_ => XS.ifYes X1.here hx rfl (pc0 := 15) (pc' := 32) rfl (hb hby d2_15) rfl ((if0 _ _).trans (tlt (c2 : (cmpValue (Jvm.FP.dcmp x1 (9218868437227405312 : UInt64)) .g) < (0 : Int32))).1) (by decide) (by decide) kz_) ?_
  show OwnGoes p e below _ (T1.setTop (mkF m 32 #[.val (.ref a1), .val (.double x1), .second, .val (.double x2), .second] []))
  refine own_pre (fun _ kz_ => XS.dloadN X1.here hx rfl (hb hby d2_32) rfl kz_) ?_
  show OwnGoes p e below _ (T1.setTop (mkF m 33 #[.val (.ref a1), .val (.double x1), .second, .val (.double x2), .second] [(.double x2)]))
  refine own_pre (fun _ kz_ => XS.dloadN X1.here hx rfl (hb hby d2_33) rfl kz_) ?_
  show OwnGoes p e below _ (T1.setTop (mkF m 34 #[.val (.ref a1), .val (.double x1), .second, .val (.double x2), .second] [(.double x1), (.double x2)]))
  refine own_pre (fun _ kz_ => XS.dcmpS X1.here hx rfl (hb hby d2_34) rfl (v := (cmpValue (Jvm.FP.dcmp x2 x1) .l)) (rfl) kz_) ?_
  show OwnGoes p e below _ (T1.setTop (mkF m 35 #[.val (.ref a1), .val (.double x1), .second, .val (.double x2), .second] [(.int (cmpValue (Jvm.FP.dcmp x2 x1) .l))]))
  refine own_pre (fun _ kz_ => XS.ifYes X1.here hx rfl (pc0 := 35) (pc' := 53) rfl (hb hby d2_35) rfl ((if0 _ _).trans (flt (c3 : ¬ ((cmpValue (Jvm.FP.dcmp x2 x1) .l) < (0 : Int32)))).2.1) (by decide) (by decide) kz_) ?_
  show OwnGoes p e below _ (T1.setTop (mkF m 53 #[.val (.ref a1), .val (.double x1), .second, .val (.double x2), .second] []))
  refine own_pre (fun _ kz_ => XS.aloadN X1.here hx rfl (hb hby d2_53) rfl rfl kz_) ?_
  show OwnGoes p e below _ (T1.setTop (mkF m 54 #[.val (.ref a1), .val (.double x1), .second, .val (.double x2), .second] [(.ref a1)]))
  refine own_pre (fun _ kz_ => XS.dloadN X1.here hx rfl (hb hby d2_54) rfl kz_) ?_
  show OwnGoes p e below _ (T1.setTop (mkF m 55 #[.val (.ref a1), .val (.double x1), .second, .val (.double x2), .second] [(.double x1), (.ref a1)]))
  obtain ⟨T2, h2, X2, e2, W2, st2⟩ := putF X1 hx hZ hown (host := "") (Or.inl (hw _ (List.mem_of_getElem? (i := 25) rfl))) Via.refl e1 F1 E1 (Or.inr ⟨(hw _ (List.mem_of_getElem? (i := 26) rfl)), rfl, hnm⟩) (hw _ (List.mem_of_getElem? (i := 12) rfl)) (ty := .double) (by decide) rfl rfl (g := (mkF m 55 #[.val (.ref a1), .val (.double x1), .second, .val (.double x2), .second] [(.double x1), (.ref a1)])) rfl rfl (hb hby d2_55)
  have f2_3 := E1.wr W2
  have f2_1 := F2.other W2 (Or.inr (slot_ne (Or.inr (hw _ (List.mem_of_getElem? (i := 10) rfl))) (Or.inr (hw _ (List.mem_of_getElem? (i := 26) rfl))) (by decide) (t := .double) (t' := .double) (by decide) (by decide)))
  have K2 := ((Keep.refl h0 [a1])).wr W2 (Or.inl (List.mem_of_getElem? (i := 0) rfl))
  have Z2 := Nat.le_trans Z0 (Keep.of_wr W2).1
  have Fw2 := F1.same W2
  have N2 := Fr.snoc X2 N1 g_a1
  refine own_pre st2 ?_
  show OwnGoes p e below _ (T2.setTop (mkF m 58 #[.val (.ref a1), .val (.double x1), .second, .val (.double x2), .second] []))
  refine own_pre (fun _ kz_ => XS.aloadN X2.here hx rfl (hb hby d2_58) rfl rfl kz_) ?_
  show OwnGoes p e below _ (T2.setTop (mkF m 59 #[.val (.ref a1), .val (.double x1), .second, .val (.double x2), .second] [(.ref a1)]))
  refine own_pre (fun _ kz_ => XS.dloadN X2.here hx rfl (hb hby d2_59) rfl kz_) ?_
  show OwnGoes p e below _ (T2.setTop (mkF m 60 #[.val (.ref a1), .val (.double x1), .second, .val (.double x2), .second] [(.double x2), (.ref a1)]))
  obtain ⟨T3, h3, X3, e3, W3, st3⟩ := putF X2 hx hZ hown (host := "") (Or.inl (hw _ (List.mem_of_getElem? (i := 9) rfl))) Via.refl e2 f2_1 f2_3 (Or.inr ⟨(hw _ (List.mem_of_getElem? (i := 10) rfl)), rfl, hnm⟩) (hw _ (List.mem_of_getElem? (i := 12) rfl)) (ty := .double) (by decide) rfl rfl (g := (mkF m 60 #[.val (.ref a1), .val (.double x1), .second, .val (.double x2), .second] [(.double x2), (.ref a1)])) rfl rfl (hb hby d2_60)
  have f3_3 := f2_3.wr W3
  have f3_2 := Fw2.other W3 (Or.inr (slot_ne (Or.inr (hw _ (List.mem_of_getElem? (i := 26) rfl))) (Or.inr (hw _ (List.mem_of_getElem? (i := 10) rfl))) (by decide) (t := .double) (t' := .double) (by decide) (by decide)))
  have K3 := (K2).wr W3 (Or.inl (List.mem_of_getElem? (i := 0) rfl))
  have Z3 := Nat.le_trans Z2 (Keep.of_wr W3).1
  have Fw3 := f2_1.same W3
  have N3 := Fr.snoc X3 N2 g_a1
  refine own_pre st3 ?_
  show OwnGoes p e below _ (T3.setTop (mkF m 63 #[.val (.ref a1), .val (.double x1), .second, .val (.double x2), .second] []))
  exact own_retV X3 hx Bd.returns Bd.notSynchronized (hb hby d2_63) ⟨rfl, N3, by rw [e3]; exact K3, by rw [e3]; exact f3_3, by rw [e3]; exact f3_2, by rw [e3]; exact Fw3⟩ (by decide) (by decide)
set_option maxRecDepth 65536 in
set_option maxHeartbeats 40000000 in
theorem rmC (l : Launch) (Z : State) (a0 : Array Value) (hw : ∀ d ∈ tables_1, d.before a0 Z = true) (ws : List Jvm.Cond) (a1 : Addr) (x1 x2 x : UInt64) (r : Int32) (h0 : Heap) (n0 : Nat) (Z0 : n0 ≤ h0.size) (F1 : Fld Z h0 a1 "com/example/dual_bounds/dualbounds/Interval" "lower" "D" (.double x1)) (F2 : Fld Z h0 a1 "com/example/dual_bounds/dualbounds/Interval" "upper" "D" (.double x2)) (hr : r = own_con x1 x2 x) :
    MetFree l (⟨"com/example/dual_bounds/dualbounds/Interval", "contains", "(D)Z"⟩ : MethodName) (head1 (Jvm.Cond.code (⟨"com/example/dual_bounds/dualbounds/Interval", "contains", "(D)Z"⟩ : MethodName) prog_2_method_2_code 3 (some .boolean) :: ws) ({ frames := 0, cells := 0, slots := 0, locals := 0 } : Room)) (fun a U => a = #[(.ref a1), (.double x)] ∧ Z.Warmed39 U.vm ∧ U.heap = h0) (fun _ _ _ _ _ => True) (fun _ U o U' => ∃ v L, o = .returned v ∧ QC r h0 n0 v U'.heap L ∧ FrameEnd U o U' L ({ frames := 0, cells := 0, slots := 0, locals := 0 } : Room).cells ({ frames := 0, cells := 0, slots := 0, locals := 0 } : Room).slots) := by
  refine MetFree.of_bodySF (plainFor_of_name (by first | (simp [plainName, overriddenIn]; done) | decide +kernel)) hisR ?_
  intro p e s m args below meth c s₁ Bd hml0 hP hK
  obtain ⟨rfl, hZ, hh⟩ := hP
  have hx := Bd.exec
  have hby := Bd.bytes
  have hml : c.maxLocals = 3 := hml0
  have hown : s.vm.findClass "com/example/dual_bounds/dualbounds/Interval" = some m.cls := findClass_of_methodNamed Bd.named
  have hnm := (name_of_methodNamed Bd.named Bd.method).1
  have X0 : Stand p l e ({ frames := 0, cells := 0, slots := 0, locals := 0 } : Room) s m #[(.ref a1), (.double x)] below meth c s₁ [] 0 0 := Stand.of_body Bd
  have e0 : s₁.heap = h0 := by rw [← hh, Bd.state]; rfl
  have N0 := Fr.nil n0
  have ef : entryFrame m #[(.ref a1), (.double x)] 3 = (mkF m 0 #[.val (.ref a1), .val (.double x), .second] []) := by first | (simp [entryFrame, mkF, argsToLocals, Value.category]; done) | rfl
  show OwnGoes p e below (fun o U' => ∃ v L, o = .returned v ∧ QC r h0 n0 v U'.heap L ∧ FrameEnd s o U' L ({ frames := 0, cells := 0, slots := 0, locals := 0 } : Room).cells ({ frames := 0, cells := 0, slots := 0, locals := 0 } : Room).slots) (s₁.setTop (entryFrame m #[(.ref a1), (.double x)] 3))
  refine own_pre (fun t k => castTop ef k) ?_
  show OwnGoes p e below _ (s₁.setTop (mkF m 0 #[.val (.ref a1), .val (.double x), .second] []))
  refine own_pre (fun _ kz_ => XS.aloadN X0.here hx rfl (hb hby d5_0) rfl rfl kz_) ?_
  show OwnGoes p e below _ (s₁.setTop (mkF m 1 #[.val (.ref a1), .val (.double x), .second] [(.ref a1)]))
  obtain ⟨T1, X1, e1, st1⟩ := getF X0 hx hZ hown (host := "") (Or.inl (hw _ (List.mem_of_getElem? (i := 25) rfl))) Via.refl e0 F1 (g := (mkF m 1 #[.val (.ref a1), .val (.double x), .second] [(.ref a1)])) rfl rfl (hb hby d5_1)
  refine own_pre st1 ?_
  show OwnGoes p e below _ (T1.setTop (mkF m 4 #[.val (.ref a1), .val (.double x), .second] [(.double x1)]))
  refine own_pre (fun _ kz_ => XS.dloadN X1.here hx rfl (hb hby d5_4) rfl kz_) ?_
  show OwnGoes p e below _ (T1.setTop (mkF m 5 #[.val (.ref a1), .val (.double x), .second] [(.double x), (.double x1)]))
  refine own_pre (fun _ kz_ => XS.dcmpS X1.here hx rfl (hb hby d5_5) rfl (v := (cmpValue (Jvm.FP.dcmp x1 x) .g)) (rfl) kz_) ?_
  show OwnGoes p e below _ (T1.setTop (mkF m 6 #[.val (.ref a1), .val (.double x), .second] [(.int (cmpValue (Jvm.FP.dcmp x1 x) .g))]))
  by_cases h6 : (0 : Int32) < (cmpValue (Jvm.FP.dcmp x1 x) .g)
  · refine own_pre (fun _ kz_ => XS.ifYes X1.here hx rfl (pc0 := 6) (pc' := 22) rfl (hb hby d5_6) rfl ((if0 _ _).trans (tlt h6).2.2.1) (by decide) (by decide) kz_) ?_
    show OwnGoes p e below _ (T1.setTop (mkF m 22 #[.val (.ref a1), .val (.double x), .second] []))
    refine own_pre (fun _ kz_ => XS.iconst X1.here hx rfl (hb hby d5_22) kz_) ?_
    show OwnGoes p e below _ (T1.setTop (mkF m 23 #[.val (.ref a1), .val (.double x), .second] [(.int (0 : Int32))]))
    exact own_ret X1 hx Bd.returns (rfl) (Or.inl ⟨rfl, by simp, _, rfl⟩) Bd.notSynchronized (hb hby d5_23) ⟨by rw [hr]; unfold own_con; simp only [*, if_true, if_false], N0, e1⟩ (by decide) (by decide)
  · refine own_pre (fun _ kz_ => XS.ifNo X1.here hx rfl (hb hby d5_6) rfl ((if0 _ _).trans (flt h6).2.2.1) kz_) ?_
    show OwnGoes p e below _ (T1.setTop (mkF m 9 #[.val (.ref a1), .val (.double x), .second] []))
    refine own_pre (fun _ kz_ => XS.dloadN X1.here hx rfl (hb hby d5_9) rfl kz_) ?_
    show OwnGoes p e below _ (T1.setTop (mkF m 10 #[.val (.ref a1), .val (.double x), .second] [(.double x)]))
    refine own_pre (fun _ kz_ => XS.aloadN X1.here hx rfl (hb hby d5_10) rfl rfl kz_) ?_
    show OwnGoes p e below _ (T1.setTop (mkF m 11 #[.val (.ref a1), .val (.double x), .second] [(.ref a1), (.double x)]))
    obtain ⟨T2, X2, e2, st2⟩ := getF X1 hx hZ hown (host := "") (Or.inl (hw _ (List.mem_of_getElem? (i := 9) rfl))) Via.refl e1 F2 (g := (mkF m 11 #[.val (.ref a1), .val (.double x), .second] [(.ref a1), (.double x)])) rfl rfl (hb hby d5_11)
    refine own_pre st2 ?_
    show OwnGoes p e below _ (T2.setTop (mkF m 14 #[.val (.ref a1), .val (.double x), .second] [(.double x2), (.double x)]))
    refine own_pre (fun _ kz_ => XS.dcmpS X2.here hx rfl (hb hby d5_14) rfl (v := (cmpValue (Jvm.FP.dcmp x x2) .g)) (rfl) kz_) ?_
    show OwnGoes p e below _ (T2.setTop (mkF m 15 #[.val (.ref a1), .val (.double x), .second] [(.int (cmpValue (Jvm.FP.dcmp x x2) .g))]))
    by_cases h15 : (0 : Int32) < (cmpValue (Jvm.FP.dcmp x x2) .g)
    · refine own_pre (fun _ kz_ => XS.ifYes X2.here hx rfl (pc0 := 15) (pc' := 22) rfl (hb hby d5_15) rfl ((if0 _ _).trans (tlt h15).2.2.1) (by decide) (by decide) kz_) ?_
      show OwnGoes p e below _ (T2.setTop (mkF m 22 #[.val (.ref a1), .val (.double x), .second] []))
      refine own_pre (fun _ kz_ => XS.iconst X2.here hx rfl (hb hby d5_22) kz_) ?_
      show OwnGoes p e below _ (T2.setTop (mkF m 23 #[.val (.ref a1), .val (.double x), .second] [(.int (0 : Int32))]))
      exact own_ret X2 hx Bd.returns (rfl) (Or.inl ⟨rfl, by simp, _, rfl⟩) Bd.notSynchronized (hb hby d5_23) ⟨by rw [hr]; unfold own_con; simp only [*, if_true, if_false], N0, e2⟩ (by decide) (by decide)
    · refine own_pre (fun _ kz_ => XS.ifNo X2.here hx rfl (hb hby d5_15) rfl ((if0 _ _).trans (flt h15).2.2.1) kz_) ?_
      show OwnGoes p e below _ (T2.setTop (mkF m 18 #[.val (.ref a1), .val (.double x), .second] []))
      refine own_pre (fun _ kz_ => XS.iconst X2.here hx rfl (hb hby d5_18) kz_) ?_
      show OwnGoes p e below _ (T2.setTop (mkF m 19 #[.val (.ref a1), .val (.double x), .second] [(.int (1 : Int32))]))
      refine own_pre (fun _ kz_ => XS.goto X2.here hx rfl (pc0 := 19) (pc' := 23) rfl (hb hby d5_19) (by decide) (by decide) kz_) ?_
      show OwnGoes p e below _ (T2.setTop (mkF m 23 #[.val (.ref a1), .val (.double x), .second] [(.int (1 : Int32))]))
      exact own_ret X2 hx Bd.returns (rfl) (Or.inl ⟨rfl, by simp, _, rfl⟩) Bd.notSynchronized (hb hby d5_23) ⟨by rw [hr]; unfold own_con; simp only [*, if_true, if_false], N0, e2⟩ (by decide) (by decide)
set_option maxRecDepth 65536 in
set_option maxHeartbeats 40000000 in
theorem rm0 (l : Launch) (Z : State) (a0 : Array Value) (hw : ∀ d ∈ tables_1, d.before a0 Z = true) (ws : List Jvm.Cond) (p0 p1 p2 p3 : Int32) (u : Addr) (h0 : Heap) (n0 : Nat) (Z0 : n0 ≤ h0.size) (Su : Sta Z h0 "com/example/dual_bounds/dualbounds/Interval" "UNBOUNDED" "Lcom/example/dual_bounds/dualbounds/Interval;" (.ref u)) (Eu : Exa Z h0 u "com/example/dual_bounds/dualbounds/Interval") (FUu : Fld Z h0 u "com/example/dual_bounds/dualbounds/Interval" "upper" "D" (.double (9218868437227405312 : UInt64))) :
    MetFree l x (head1 (Jvm.Cond.code x code maxLocals ret :: ws) room_1) (fun a U => a = #[(.int p0), (.int p1), (.int p2), (.int p3)] ∧ Z.Warmed39 U.vm ∧ U.heap = h0) (fun _ _ _ _ _ => True) (fun _ U o U' => ∃ v L, o = .returned v ∧ Q0 h0 n0 v U'.heap L ∧ FrameEnd U o U' L room_1.cells room_1.slots) := by
  refine MetFree.of_bodySF (plainFor_of_name (by first | (simp [plainName, overriddenIn]; done) | decide +kernel)) hisR ?_
  intro p e s m args below meth c s₁ Bd hml0 hP hK
  obtain ⟨rfl, hZ, hh⟩ := hP
  have hx := Bd.exec
  have hby := Bd.bytes
  have hml : c.maxLocals = 20 := hml0
  have hown : s.vm.findClass "com/example/dual_bounds/dualbounds/IntervalContainsPinLaw" = some m.cls := findClass_of_methodNamed Bd.named
  have hnm := (name_of_methodNamed Bd.named Bd.method).1
  have X0 : Stand p l e room_1 s m #[(.int p0), (.int p1), (.int p2), (.int p3)] below meth c s₁ [] 0 0 := Stand.of_body Bd
  have e0 : s₁.heap = h0 := by rw [← hh, Bd.state]; rfl
  have N0 := Fr.nil n0
  have ef : entryFrame m #[(.int p0), (.int p1), (.int p2), (.int p3)] maxLocals = (mkF m 0 #[.val (.int p0), .val (.int p1), .val (.int p2), .val (.int p3), .unset, .unset, .unset, .unset, .unset, .unset, .unset, .unset, .unset, .unset, .unset, .unset, .unset, .unset, .unset, .unset] []) := by first | (simp [entryFrame, mkF, argsToLocals, Value.category, maxLocals]; done) | rfl
  show OwnGoes p e below (fun o U' => ∃ v L, o = .returned v ∧ Q0 h0 n0 v U'.heap L ∧ FrameEnd s o U' L room_1.cells room_1.slots) (s₁.setTop (entryFrame m #[(.int p0), (.int p1), (.int p2), (.int p3)] maxLocals))
  refine own_pre (fun t k => castTop ef k) ?_
  show OwnGoes p e below _ (s₁.setTop (mkF m 0 #[.val (.int p0), .val (.int p1), .val (.int p2), .val (.int p3), .unset, .unset, .unset, .unset, .unset, .unset, .unset, .unset, .unset, .unset, .unset, .unset, .unset, .unset, .unset, .unset] []))
  refine own_pre (fun _ kz_ => XS.iloadN X0.here hx rfl (hb hby at_0) rfl kz_) ?_
  show OwnGoes p e below _ (s₁.setTop (mkF m 1 #[.val (.int p0), .val (.int p1), .val (.int p2), .val (.int p3), .unset, .unset, .unset, .unset, .unset, .unset, .unset, .unset, .unset, .unset, .unset, .unset, .unset, .unset, .unset, .unset] [(.int p0)]))
  refine own_pre (fun _ kz_ => XS.i2l X0.here hx rfl (hb hby at_1) rfl kz_) ?_
  show OwnGoes p e below _ (s₁.setTop (mkF m 2 #[.val (.int p0), .val (.int p1), .val (.int p2), .val (.int p3), .unset, .unset, .unset, .unset, .unset, .unset, .unset, .unset, .unset, .unset, .unset, .unset, .unset, .unset, .unset, .unset] [(.long (p0.toInt64))]))
  refine own_pre (fun _ kz_ => X0.ldc2Long hx hown (mvT hZ (hw _ (List.mem_of_getElem? (i := 0) rfl))) (g := (mkF m 2 #[.val (.int p0), .val (.int p1), .val (.int p2), .val (.int p3), .unset, .unset, .unset, .unset, .unset, .unset, .unset, .unset, .unset, .unset, .unset, .unset, .unset, .unset, .unset, .unset] [(.long (p0.toInt64))])) rfl (hb hby at_2) _ kz_) ?_
  show OwnGoes p e below _ (s₁.setTop (mkF m 5 #[.val (.int p0), .val (.int p1), .val (.int p2), .val (.int p3), .unset, .unset, .unset, .unset, .unset, .unset, .unset, .unset, .unset, .unset, .unset, .unset, .unset, .unset, .unset, .unset] [(.long (2147483647 : Int64)), (.long (p0.toInt64))]))
  refine own_pre (fun _ kz_ => XS.land X0.here hx rfl (hb hby at_5) rfl kz_) ?_
  show OwnGoes p e below _ (s₁.setTop (mkF m 6 #[.val (.int p0), .val (.int p1), .val (.int p2), .val (.int p3), .unset, .unset, .unset, .unset, .unset, .unset, .unset, .unset, .unset, .unset, .unset, .unset, .unset, .unset, .unset, .unset] [(.long ((p0.toInt64) &&& (2147483647 : Int64)))]))
  obtain ⟨hl0, hl1, hl2, hl3⟩ := own_lohi p0 p1
  generalize hlo : (p0.toInt64 &&& (2147483647 : Int64)) = lo at *
  show OwnGoes p e below _ (s₁.setTop (mkF m 6 #[.val (.int p0), .val (.int p1), .val (.int p2), .val (.int p3), .unset, .unset, .unset, .unset, .unset, .unset, .unset, .unset, .unset, .unset, .unset, .unset, .unset, .unset, .unset, .unset] [(.long lo)]))
  refine own_pre (fun _ kz_ => XS.lstore X0.here hx rfl (hb hby at_6) rfl (l' := #[.val (.int p0), .val (.int p1), .val (.int p2), .val (.int p3), .val (.long lo), .second, .unset, .unset, .unset, .unset, .unset, .unset, .unset, .unset, .unset, .unset, .unset, .unset, .unset, .unset]) rfl kz_) ?_
  show OwnGoes p e below _ (s₁.setTop (mkF m 8 #[.val (.int p0), .val (.int p1), .val (.int p2), .val (.int p3), .val (.long lo), .second, .unset, .unset, .unset, .unset, .unset, .unset, .unset, .unset, .unset, .unset, .unset, .unset, .unset, .unset] []))
  refine own_pre (fun _ kz_ => XS.lload X0.here hx rfl (hb hby at_8) rfl kz_) ?_
  show OwnGoes p e below _ (s₁.setTop (mkF m 10 #[.val (.int p0), .val (.int p1), .val (.int p2), .val (.int p3), .val (.long lo), .second, .unset, .unset, .unset, .unset, .unset, .unset, .unset, .unset, .unset, .unset, .unset, .unset, .unset, .unset] [(.long lo)]))
  refine own_pre (fun _ kz_ => XS.iloadN X0.here hx rfl (hb hby at_10) rfl kz_) ?_
  show OwnGoes p e below _ (s₁.setTop (mkF m 11 #[.val (.int p0), .val (.int p1), .val (.int p2), .val (.int p3), .val (.long lo), .second, .unset, .unset, .unset, .unset, .unset, .unset, .unset, .unset, .unset, .unset, .unset, .unset, .unset, .unset] [(.int p1), (.long lo)]))
  refine own_pre (fun _ kz_ => XS.i2l X0.here hx rfl (hb hby at_11) rfl kz_) ?_
  show OwnGoes p e below _ (s₁.setTop (mkF m 12 #[.val (.int p0), .val (.int p1), .val (.int p2), .val (.int p3), .val (.long lo), .second, .unset, .unset, .unset, .unset, .unset, .unset, .unset, .unset, .unset, .unset, .unset, .unset, .unset, .unset] [(.long (p1.toInt64)), (.long lo)]))
  refine own_pre (fun _ kz_ => X0.ldc2Long hx hown (mvT hZ (hw _ (List.mem_of_getElem? (i := 0) rfl))) (g := (mkF m 12 #[.val (.int p0), .val (.int p1), .val (.int p2), .val (.int p3), .val (.long lo), .second, .unset, .unset, .unset, .unset, .unset, .unset, .unset, .unset, .unset, .unset, .unset, .unset, .unset, .unset] [(.long (p1.toInt64)), (.long lo)])) rfl (hb hby at_12) _ kz_) ?_
  show OwnGoes p e below _ (s₁.setTop (mkF m 15 #[.val (.int p0), .val (.int p1), .val (.int p2), .val (.int p3), .val (.long lo), .second, .unset, .unset, .unset, .unset, .unset, .unset, .unset, .unset, .unset, .unset, .unset, .unset, .unset, .unset] [(.long (2147483647 : Int64)), (.long (p1.toInt64)), (.long lo)]))
  refine own_pre (fun _ kz_ => XS.land X0.here hx rfl (hb hby at_15) rfl kz_) ?_
  show OwnGoes p e below _ (s₁.setTop (mkF m 16 #[.val (.int p0), .val (.int p1), .val (.int p2), .val (.int p3), .val (.long lo), .second, .unset, .unset, .unset, .unset, .unset, .unset, .unset, .unset, .unset, .unset, .unset, .unset, .unset, .unset] [(.long ((p1.toInt64) &&& (2147483647 : Int64))), (.long lo)]))
  refine own_pre (fun _ kz_ => XS.ladd X0.here hx rfl (hb hby at_16) rfl kz_) ?_
  show OwnGoes p e below _ (s₁.setTop (mkF m 17 #[.val (.int p0), .val (.int p1), .val (.int p2), .val (.int p3), .val (.long lo), .second, .unset, .unset, .unset, .unset, .unset, .unset, .unset, .unset, .unset, .unset, .unset, .unset, .unset, .unset] [(.long (lo + ((p1.toInt64) &&& (2147483647 : Int64))))]))
  generalize hhi : (lo + (p1.toInt64 &&& (2147483647 : Int64))) = hi at *
  show OwnGoes p e below _ (s₁.setTop (mkF m 17 #[.val (.int p0), .val (.int p1), .val (.int p2), .val (.int p3), .val (.long lo), .second, .unset, .unset, .unset, .unset, .unset, .unset, .unset, .unset, .unset, .unset, .unset, .unset, .unset, .unset] [(.long hi)]))
  refine own_pre (fun _ kz_ => XS.lstore X0.here hx rfl (hb hby at_17) rfl (l' := #[.val (.int p0), .val (.int p1), .val (.int p2), .val (.int p3), .val (.long lo), .second, .val (.long hi), .second, .unset, .unset, .unset, .unset, .unset, .unset, .unset, .unset, .unset, .unset, .unset, .unset]) rfl kz_) ?_
  show OwnGoes p e below _ (s₁.setTop (mkF m 19 #[.val (.int p0), .val (.int p1), .val (.int p2), .val (.int p3), .val (.long lo), .second, .val (.long hi), .second, .unset, .unset, .unset, .unset, .unset, .unset, .unset, .unset, .unset, .unset, .unset, .unset] []))
  refine own_pre (fun _ kz_ => XS.iloadN X0.here hx rfl (hb hby at_19) rfl kz_) ?_
  show OwnGoes p e below _ (s₁.setTop (mkF m 20 #[.val (.int p0), .val (.int p1), .val (.int p2), .val (.int p3), .val (.long lo), .second, .val (.long hi), .second, .unset, .unset, .unset, .unset, .unset, .unset, .unset, .unset, .unset, .unset, .unset, .unset] [(.int p3)]))
  refine own_pre (fun _ kz_ => XS.iconst X0.here hx rfl (hb hby at_20) kz_) ?_
  show OwnGoes p e below _ (s₁.setTop (mkF m 21 #[.val (.int p0), .val (.int p1), .val (.int p2), .val (.int p3), .val (.long lo), .second, .val (.long hi), .second, .unset, .unset, .unset, .unset, .unset, .unset, .unset, .unset, .unset, .unset, .unset, .unset] [(.int (3 : Int32)), (.int p3)]))
  refine own_pre (fun _ kz_ => XS.ishr X0.here hx rfl (hb hby at_21) rfl kz_) ?_
  show OwnGoes p e below _ (s₁.setTop (mkF m 22 #[.val (.int p0), .val (.int p1), .val (.int p2), .val (.int p3), .val (.long lo), .second, .val (.long hi), .second, .unset, .unset, .unset, .unset, .unset, .unset, .unset, .unset, .unset, .unset, .unset, .unset] [(.int (p3 >>> ((3 : Int32) &&& 31)))]))
  refine own_pre (fun _ kz_ => XS.iconst X0.here hx rfl (hb hby at_22) kz_) ?_
  show OwnGoes p e below _ (s₁.setTop (mkF m 23 #[.val (.int p0), .val (.int p1), .val (.int p2), .val (.int p3), .val (.long lo), .second, .val (.long hi), .second, .unset, .unset, .unset, .unset, .unset, .unset, .unset, .unset, .unset, .unset, .unset, .unset] [(.int (1 : Int32)), (.int (p3 >>> ((3 : Int32) &&& 31)))]))
  refine own_pre (fun _ kz_ => XS.iand X0.here hx rfl (hb hby at_23) rfl kz_) ?_
  show OwnGoes p e below _ (s₁.setTop (mkF m 24 #[.val (.int p0), .val (.int p1), .val (.int p2), .val (.int p3), .val (.long lo), .second, .val (.long hi), .second, .unset, .unset, .unset, .unset, .unset, .unset, .unset, .unset, .unset, .unset, .unset, .unset] [(.int ((p3 >>> ((3 : Int32) &&& 31)) &&& (1 : Int32)))]))
  by_cases h24 : ((p3 >>> ((3 : Int32) &&& 31)) &&& (1 : Int32)) = (0 : Int32)
  · refine own_pre (fun _ kz_ => XS.ifYes X0.here hx rfl (pc0 := 24) (pc' := 31) rfl (hb hby at_24) rfl ((if0 _ _).trans (teq h24).1) (by decide) (by decide) kz_) ?_
    show OwnGoes p e below _ (s₁.setTop (mkF m 31 #[.val (.int p0), .val (.int p1), .val (.int p2), .val (.int p3), .val (.long lo), .second, .val (.long hi), .second, .unset, .unset, .unset, .unset, .unset, .unset, .unset, .unset, .unset, .unset, .unset, .unset] []))
    refine own_pre (fun _ kz_ => XS.iconst X0.here hx rfl (hb hby at_31) kz_) ?_
    show OwnGoes p e below _ (s₁.setTop (mkF m 32 #[.val (.int p0), .val (.int p1), .val (.int p2), .val (.int p3), .val (.long lo), .second, .val (.long hi), .second, .unset, .unset, .unset, .unset, .unset, .unset, .unset, .unset, .unset, .unset, .unset, .unset] [(.int (0 : Int32))]))
    refine own_pre (fun _ kz_ => XS.istore X0.here hx rfl (hb hby at_32) rfl (l' := #[.val (.int p0), .val (.int p1), .val (.int p2), .val (.int p3), .val (.long lo), .second, .val (.long hi), .second, .val (.int (0 : Int32)), .unset, .unset, .unset, .unset, .unset, .unset, .unset, .unset, .unset, .unset, .unset]) rfl kz_) ?_
    show OwnGoes p e below _ (s₁.setTop (mkF m 34 #[.val (.int p0), .val (.int p1), .val (.int p2), .val (.int p3), .val (.long lo), .second, .val (.long hi), .second, .val (.int (0 : Int32)), .unset, .unset, .unset, .unset, .unset, .unset, .unset, .unset, .unset, .unset, .unset] []))
    refine own_pre (fun _ kz_ => XS.iloadN X0.here hx rfl (hb hby at_34) rfl kz_) ?_
    show OwnGoes p e below _ (s₁.setTop (mkF m 35 #[.val (.int p0), .val (.int p1), .val (.int p2), .val (.int p3), .val (.long lo), .second, .val (.long hi), .second, .val (.int (0 : Int32)), .unset, .unset, .unset, .unset, .unset, .unset, .unset, .unset, .unset, .unset, .unset] [(.int p3)]))
    refine own_pre (fun _ kz_ => XS.bipush X0.here hx rfl (hb hby at_35) kz_) ?_
    show OwnGoes p e below _ (s₁.setTop (mkF m 37 #[.val (.int p0), .val (.int p1), .val (.int p2), .val (.int p3), .val (.long lo), .second, .val (.long hi), .second, .val (.int (0 : Int32)), .unset, .unset, .unset, .unset, .unset, .unset, .unset, .unset, .unset, .unset, .unset] [(.int (7 : Int32)), (.int p3)]))
    refine own_pre (fun _ kz_ => XS.iand X0.here hx rfl (hb hby at_37) rfl kz_) ?_
    show OwnGoes p e below _ (s₁.setTop (mkF m 38 #[.val (.int p0), .val (.int p1), .val (.int p2), .val (.int p3), .val (.long lo), .second, .val (.long hi), .second, .val (.int (0 : Int32)), .unset, .unset, .unset, .unset, .unset, .unset, .unset, .unset, .unset, .unset, .unset] [(.int (p3 &&& (7 : Int32)))]))
    refine own_pre (fun _ kz_ => XS.istore X0.here hx rfl (hb hby at_38) rfl (l' := #[.val (.int p0), .val (.int p1), .val (.int p2), .val (.int p3), .val (.long lo), .second, .val (.long hi), .second, .val (.int (0 : Int32)), .val (.int (p3 &&& (7 : Int32))), .unset, .unset, .unset, .unset, .unset, .unset, .unset, .unset, .unset, .unset]) rfl kz_) ?_
    show OwnGoes p e below _ (s₁.setTop (mkF m 40 #[.val (.int p0), .val (.int p1), .val (.int p2), .val (.int p3), .val (.long lo), .second, .val (.long hi), .second, .val (.int (0 : Int32)), .val (.int (p3 &&& (7 : Int32))), .unset, .unset, .unset, .unset, .unset, .unset, .unset, .unset, .unset, .unset] []))
    obtain ⟨T1, X1, e1, st1⟩ := getS2 X0 hx hZ hown (host := "") (Or.inl (hw _ (List.mem_of_getElem? (i := 1) rfl))) Via.refl e0 Su (g := (mkF m 40 #[.val (.int p0), .val (.int p1), .val (.int p2), .val (.int p3), .val (.long lo), .second, .val (.long hi), .second, .val (.int (0 : Int32)), .val (.int (p3 &&& (7 : Int32))), .unset, .unset, .unset, .unset, .unset, .unset, .unset, .unset, .unset, .unset] [])) rfl (hb hby at_40)
    refine own_pre st1 ?_
    show OwnGoes p e below _ (T1.setTop (mkF m 43 #[.val (.int p0), .val (.int p1), .val (.int p2), .val (.int p3), .val (.long lo), .second, .val (.long hi), .second, .val (.int (0 : Int32)), .val (.int (p3 &&& (7 : Int32))), .unset, .unset, .unset, .unset, .unset, .unset, .unset, .unset, .unset, .unset] [(.ref u)]))
    obtain ⟨cq2, kq2, q2a, q2b, q2c⟩ := isOf hZ e1 Eu
    obtain ⟨_, _, ⟨T2, L2, k2, n2⟩, -, X2, ⟨Lc2, hQ2, l2, y2, z2⟩, st2⟩ := X1.virtualBack hx (y := (⟨"com/example/dual_bounds/dualbounds/Interval", "upper", "()D"⟩ : MethodName)) (z := (⟨"com/example/dual_bounds/dualbounds/Interval", "upper", "()D"⟩ : MethodName)) hown (mvT hZ (hw _ (List.mem_of_getElem? (i := 4) rfl))) (mvT hZ (hw _ (List.mem_of_getElem? (i := 5) rfl))) (notFace_of_selects (args := #[]) (mvT hZ (hw _ (List.mem_of_getElem? (i := 7) rfl)))) (mvT hZ (hw _ (List.mem_of_getElem? (i := 7) rfl))) (mvT hZ (hw _ (List.mem_of_getElem? (i := 6) rfl))) (by decide) (backOf (W := 0) (rmU l Z a0 hw [] u (9218868437227405312 : UInt64) h0 n0 Z0 FUu) hZ (hw _ (List.mem_of_getElem? (i := 8) rfl)) (hw _ (List.mem_of_getElem? (i := 2) rfl)) (by decide) (by decide)) q2a q2c (g := (mkF m 43 #[.val (.int p0), .val (.int p1), .val (.int p2), .val (.int p3), .val (.long lo), .second, .val (.long hi), .second, .val (.int (0 : Int32)), .val (.int (p3 &&& (7 : Int32))), .unset, .unset, .unset, .unset, .unset, .unset, .unset, .unset, .unset, .unset] [(.ref u)])) rfl (by rw [hml]; rfl) (Steps.refl _) (argsL := []) (rest := []) (lenOf (d := "()D") (ps := []) (r := some .double) (by decide +kernel) rfl) rfl (by show 2 * 0 + _ ≤ _; exact Nat.le_of_eq rfl) (hb hby at_43) (fun _ _ => ⟨rfl, e1, (by decide : 0 + 0 ≤ _), (by decide : 0 + 0 ≤ _)⟩)
    dsimp only [Pt.U, Pt.locs, Pt.cells, Pt.slots] at X2 l2 y2 z2 st2 hQ2
    subst l2 y2 z2
    obtain ⟨rfl, N2q, e2⟩ := hQ2
    have N2 := Fr.app N0 N2q
    refine own_tr st2 ?_
    show OwnGoes p e below _ (T2.setTop (mkF m 46 #[.val (.int p0), .val (.int p1), .val (.int p2), .val (.int p3), .val (.long lo), .second, .val (.long hi), .second, .val (.int (0 : Int32)), .val (.int (p3 &&& (7 : Int32))), .unset, .unset, .unset, .unset, .unset, .unset, .unset, .unset, .unset, .unset] [(.double (9218868437227405312 : UInt64))]))
    refine own_pre (fun _ kz_ => XS.dstore X2.here hx rfl (hb hby at_46) rfl (l' := #[.val (.int p0), .val (.int p1), .val (.int p2), .val (.int p3), .val (.long lo), .second, .val (.long hi), .second, .val (.int (0 : Int32)), .val (.int (p3 &&& (7 : Int32))), .val (.double (9218868437227405312 : UInt64)), .second, .unset, .unset, .unset, .unset, .unset, .unset, .unset, .unset]) rfl kz_) ?_
    show OwnGoes p e below _ (T2.setTop (mkF m 48 #[.val (.int p0), .val (.int p1), .val (.int p2), .val (.int p3), .val (.long lo), .second, .val (.long hi), .second, .val (.int (0 : Int32)), .val (.int (p3 &&& (7 : Int32))), .val (.double (9218868437227405312 : UInt64)), .second, .unset, .unset, .unset, .unset, .unset, .unset, .unset, .unset] []))
    refine own_pre (fun _ kz_ => XS.iload X2.here hx rfl (hb hby at_48) rfl kz_) ?_
    show OwnGoes p e below _ (T2.setTop (mkF m 50 #[.val (.int p0), .val (.int p1), .val (.int p2), .val (.int p3), .val (.long lo), .second, .val (.long hi), .second, .val (.int (0 : Int32)), .val (.int (p3 &&& (7 : Int32))), .val (.double (9218868437227405312 : UInt64)), .second, .unset, .unset, .unset, .unset, .unset, .unset, .unset, .unset] [(.int (0 : Int32))]))
    refine own_pre (fun _ kz_ => XS.ifYes X2.here hx rfl (pc0 := 50) (pc' := 58) rfl (hb hby at_50) rfl ((if0 _ _).trans (teq (by decide : (0 : Int32) = (0 : Int32))).1) (by decide) (by decide) kz_) ?_
    show OwnGoes p e below _ (T2.setTop (mkF m 58 #[.val (.int p0), .val (.int p1), .val (.int p2), .val (.int p3), .val (.long lo), .second, .val (.long hi), .second, .val (.int (0 : Int32)), .val (.int (p3 &&& (7 : Int32))), .val (.double (9218868437227405312 : UInt64)), .second, .unset, .unset, .unset, .unset, .unset, .unset, .unset, .unset] []))
    refine own_pre (fun _ kz_ => XS.lload X2.here hx rfl (hb hby at_58) rfl kz_) ?_
    show OwnGoes p e below _ (T2.setTop (mkF m 60 #[.val (.int p0), .val (.int p1), .val (.int p2), .val (.int p3), .val (.long lo), .second, .val (.long hi), .second, .val (.int (0 : Int32)), .val (.int (p3 &&& (7 : Int32))), .val (.double (9218868437227405312 : UInt64)), .second, .unset, .unset, .unset, .unset, .unset, .unset, .unset, .unset] [(.long hi)]))
    refine own_pre (fun _ kz_ => XS.l2dS X2.here hx rfl (hb hby at_60) rfl rfl kz_) ?_
    show OwnGoes p e below _ (T2.setTop (mkF m 61 #[.val (.int p0), .val (.int p1), .val (.int p2), .val (.int p3), .val (.long lo), .second, .val (.long hi), .second, .val (.int (0 : Int32)), .val (.int (p3 &&& (7 : Int32))), .val (.double (9218868437227405312 : UInt64)), .second, .unset, .unset, .unset, .unset, .unset, .unset, .unset, .unset] [(.double (Jvm.FP.l2d hi))]))
    refine own_pre (fun _ kz_ => XS.dstore X2.here hx rfl (hb hby at_61) rfl (l' := #[.val (.int p0), .val (.int p1), .val (.int p2), .val (.int p3), .val (.long lo), .second, .val (.long hi), .second, .val (.int (0 : Int32)), .val (.int (p3 &&& (7 : Int32))), .val (.double (9218868437227405312 : UInt64)), .second, .val (.double (Jvm.FP.l2d hi)), .second, .unset, .unset, .unset, .unset, .unset, .unset]) rfl kz_) ?_
    show OwnGoes p e below _ (T2.setTop (mkF m 63 #[.val (.int p0), .val (.int p1), .val (.int p2), .val (.int p3), .val (.long lo), .second, .val (.long hi), .second, .val (.int (0 : Int32)), .val (.int (p3 &&& (7 : Int32))), .val (.double (9218868437227405312 : UInt64)), .second, .val (.double (Jvm.FP.l2d hi)), .second, .unset, .unset, .unset, .unset, .unset, .unset] []))
    obtain ⟨T3, h3, X3, e3, E3, A3, D3, -, st3⟩ := newO X2 hx hZ hown (hw _ (List.mem_of_getElem? (i := 11) rfl)) (hw _ (List.mem_of_getElem? (i := 12) rfl)) (hw _ (List.mem_of_getElem? (i := 2) rfl)) e2 (g := (mkF m 63 #[.val (.int p0), .val (.int p1), .val (.int p2), .val (.int p3), .val (.long lo), .second, .val (.long hi), .second, .val (.int (0 : Int32)), .val (.int (p3 &&& (7 : Int32))), .val (.double (9218868437227405312 : UInt64)), .second, .val (.double (Jvm.FP.l2d hi)), .second, .unset, .unset, .unset, .unset, .unset, .unset] [])) rfl (hb hby at_63) (by decide) (by decide)
    obtain ⟨b, g3⟩ : ∃ z, z = h0.size := ⟨_, rfl⟩
    rw [← g3] at A3 D3 st3
    have g_b : n0 ≤ b := Nat.le_trans Z0 (Nat.le_of_eq g3.symm)
    have sz_b : h0.size ≤ b := Nat.le_trans ((Keep.refl h0 [])).1 (Nat.le_of_eq g3.symm)
    have f3_1 := Su.ext E3
    have K3 := ((Keep.refl h0 [])).ext E3
    have Z3 := Nat.le_trans Z0 E3.1
    have F3_upper : Fld Z h3 b "com/example/dual_bounds/dualbounds/Interval" "upper" "D" (.double (0 : UInt64)) := D3 (Or.inr (hw _ (List.mem_of_getElem? (i := 10) rfl))) (ty := .double) (by decide)
    have F3_lower : Fld Z h3 b "com/example/dual_bounds/dualbounds/Interval" "lower" "D" (.double (0 : UInt64)) := D3 (Or.inr (hw _ (List.mem_of_getElem? (i := 26) rfl))) (ty := .double) (by decide)
    refine own_pre st3 ?_
    show OwnGoes p e below _ (T3.setTop (mkF m 66 #[.val (.int p0), .val (.int p1), .val (.int p2), .val (.int p3), .val (.long lo), .second, .val (.long hi), .second, .val (.int (0 : Int32)), .val (.int (p3 &&& (7 : Int32))), .val (.double (9218868437227405312 : UInt64)), .second, .val (.double (Jvm.FP.l2d hi)), .second, .unset, .unset, .unset, .unset, .unset, .unset] [(.ref b)]))
    refine own_pre (fun _ kz_ => XS.dup X3.here hx rfl (hb hby at_66) rfl rfl kz_) ?_
    show OwnGoes p e below _ (T3.setTop (mkF m 67 #[.val (.int p0), .val (.int p1), .val (.int p2), .val (.int p3), .val (.long lo), .second, .val (.long hi), .second, .val (.int (0 : Int32)), .val (.int (p3 &&& (7 : Int32))), .val (.double (9218868437227405312 : UInt64)), .second, .val (.double (Jvm.FP.l2d hi)), .second, .unset, .unset, .unset, .unset, .unset, .unset] [(.ref b), (.ref b)]))
    refine own_pre (fun _ kz_ => XS.lload X3.here hx rfl (hb hby at_67) rfl kz_) ?_
    show OwnGoes p e below _ (T3.setTop (mkF m 69 #[.val (.int p0), .val (.int p1), .val (.int p2), .val (.int p3), .val (.long lo), .second, .val (.long hi), .second, .val (.int (0 : Int32)), .val (.int (p3 &&& (7 : Int32))), .val (.double (9218868437227405312 : UInt64)), .second, .val (.double (Jvm.FP.l2d hi)), .second, .unset, .unset, .unset, .unset, .unset, .unset] [(.long lo), (.ref b), (.ref b)]))
    refine own_pre (fun _ kz_ => XS.l2dS X3.here hx rfl (hb hby at_69) rfl rfl kz_) ?_
    show OwnGoes p e below _ (T3.setTop (mkF m 70 #[.val (.int p0), .val (.int p1), .val (.int p2), .val (.int p3), .val (.long lo), .second, .val (.long hi), .second, .val (.int (0 : Int32)), .val (.int (p3 &&& (7 : Int32))), .val (.double (9218868437227405312 : UInt64)), .second, .val (.double (Jvm.FP.l2d hi)), .second, .unset, .unset, .unset, .unset, .unset, .unset] [(.double (Jvm.FP.l2d lo)), (.ref b), (.ref b)]))
    refine own_pre (fun _ kz_ => XS.dload X3.here hx rfl (hb hby at_70) rfl kz_) ?_
    show OwnGoes p e below _ (T3.setTop (mkF m 72 #[.val (.int p0), .val (.int p1), .val (.int p2), .val (.int p3), .val (.long lo), .second, .val (.long hi), .second, .val (.int (0 : Int32)), .val (.int (p3 &&& (7 : Int32))), .val (.double (9218868437227405312 : UInt64)), .second, .val (.double (Jvm.FP.l2d hi)), .second, .unset, .unset, .unset, .unset, .unset, .unset] [(.double (Jvm.FP.l2d hi)), (.double (Jvm.FP.l2d lo)), (.ref b), (.ref b)]))
    obtain ⟨_, _, ⟨T4, L4, k4, n4⟩, -, X4, ⟨Lc4, hQ4, l4, y4, z4⟩, st4⟩ := X3.specialBack hx (y := (⟨"com/example/dual_bounds/dualbounds/Interval", "<init>", "(DD)V"⟩ : MethodName)) rfl hown (mvT hZ (hw _ (List.mem_of_getElem? (i := 13) rfl))) (mvT hZ (hw _ (List.mem_of_getElem? (i := 14) rfl))) (mvT hZ (hw _ (List.mem_of_getElem? (i := 15) rfl))) (by decide) (backOf (W := 1) (rmI l Z a0 hw [] b (Jvm.FP.l2d lo) (Jvm.FP.l2d hi) h3 n0 Z3 A3 F3_lower F3_upper g_b (own_le _ (by omega) (own_b (by omega) (by omega))) (by rw [Jvm.RoadKit.dcmp_pinf (Jvm.Free.Fl.l2d_fin _)]; decide) (by rw [Jvm.RoadKit.dcmpV_w (own_b (by omega) (by omega)) (own_b (by omega) (by omega)), lw_lt, Int64.lt_iff_toInt_lt]; omega)) hZ (hw _ (List.mem_of_getElem? (i := 15) rfl)) (hw _ (List.mem_of_getElem? (i := 2) rfl)) (by decide) (by decide)) (g := (mkF m 72 #[.val (.int p0), .val (.int p1), .val (.int p2), .val (.int p3), .val (.long lo), .second, .val (.long hi), .second, .val (.int (0 : Int32)), .val (.int (p3 &&& (7 : Int32))), .val (.double (9218868437227405312 : UInt64)), .second, .val (.double (Jvm.FP.l2d hi)), .second, .unset, .unset, .unset, .unset, .unset, .unset] [(.double (Jvm.FP.l2d hi)), (.double (Jvm.FP.l2d lo)), (.ref b), (.ref b)])) rfl (by rw [hml]; rfl) (Steps.refl _) (a := b) (argsL := [(.double (Jvm.FP.l2d lo)), (.double (Jvm.FP.l2d hi))]) (rest := [(.ref b)]) (lenOf (d := "(DD)V") (ps := [.double, .double]) (r := none) (by decide +kernel) rfl) rfl (by show 2 * 0 + _ ≤ _; exact Nat.le_of_eq rfl) (hb hby at_72) (fun _ _ => ⟨rfl, e3, (by decide : 1 + 0 ≤ _), (by decide : 2 + 0 ≤ _)⟩)
    dsimp only [Pt.U, Pt.locs, Pt.cells, Pt.slots] at X4 l4 y4 z4 st4 hQ4
    subst l4 y4 z4
    obtain ⟨rfl, N4q, K4q, E4q, F4q, G4q⟩ := hQ4
    have N4 := Fr.app N2 N4q
    refine own_tr st4 ?_
    have f4_3 := A3.keep K4q
    have Z4 := Nat.le_trans Z3 K4q.1
    have KK4 := (K3).trans K4q (fun x hx => by simp only [List.mem_cons, List.not_mem_nil, or_false] at hx; rcases hx with rfl <;> first | exact Or.inl (List.mem_of_getElem? (i := 0) rfl) | exact Or.inl (List.mem_of_getElem? (i := 1) rfl) | exact Or.inr sz_b )
    show OwnGoes p e below _ (T4.setTop (mkF m 75 #[.val (.int p0), .val (.int p1), .val (.int p2), .val (.int p3), .val (.long lo), .second, .val (.long hi), .second, .val (.int (0 : Int32)), .val (.int (p3 &&& (7 : Int32))), .val (.double (9218868437227405312 : UInt64)), .second, .val (.double (Jvm.FP.l2d hi)), .second, .unset, .unset, .unset, .unset, .unset, .unset] [(.ref b)]))
    refine own_pre (fun _ kz_ => XS.astore X4.here hx rfl (hb hby at_75) rfl rfl (l' := #[.val (.int p0), .val (.int p1), .val (.int p2), .val (.int p3), .val (.long lo), .second, .val (.long hi), .second, .val (.int (0 : Int32)), .val (.int (p3 &&& (7 : Int32))), .val (.double (9218868437227405312 : UInt64)), .second, .val (.double (Jvm.FP.l2d hi)), .second, .val (.ref b), .unset, .unset, .unset, .unset, .unset]) rfl kz_) ?_
    have J210 : ∀ (xv : Int64) (xd : UInt64) (ex : Int32) (hex : ex = own_con (Jvm.FP.l2d lo) (Jvm.FP.l2d hi) xd), OwnGoes p e below (fun o U' => ∃ v L, o = .returned v ∧ Q0 h0 n0 v U'.heap L ∧ FrameEnd s o U' L room_1.cells room_1.slots) (T4.setTop (mkF m 210 #[.val (.int p0), .val (.int p1), .val (.int p2), .val (.int p3), .val (.long lo), .second, .val (.long hi), .second, .val (.int (0 : Int32)), .val (.int (p3 &&& (7 : Int32))), .val (.double (9218868437227405312 : UInt64)), .second, .val (.double (Jvm.FP.l2d hi)), .second, .val (.ref b), .val (.long xv), .second, .val (.double xd), .second, .val (.int ex)] [])) := by
      intro xv xd ex hex
      show OwnGoes p e below _ (T4.setTop (mkF m 210 #[.val (.int p0), .val (.int p1), .val (.int p2), .val (.int p3), .val (.long lo), .second, .val (.long hi), .second, .val (.int (0 : Int32)), .val (.int (p3 &&& (7 : Int32))), .val (.double (9218868437227405312 : UInt64)), .second, .val (.double (Jvm.FP.l2d hi)), .second, .val (.ref b), .val (.long xv), .second, .val (.double xd), .second, .val (.int ex)] []))
      refine own_pre (fun _ kz_ => XS.aload X4.here hx rfl (hb hby at_210) rfl rfl kz_) ?_
      show OwnGoes p e below _ (T4.setTop (mkF m 212 #[.val (.int p0), .val (.int p1), .val (.int p2), .val (.int p3), .val (.long lo), .second, .val (.long hi), .second, .val (.int (0 : Int32)), .val (.int (p3 &&& (7 : Int32))), .val (.double (9218868437227405312 : UInt64)), .second, .val (.double (Jvm.FP.l2d hi)), .second, .val (.ref b), .val (.long xv), .second, .val (.double xd), .second, .val (.int ex)] [(.ref b)]))
      refine own_pre (fun _ kz_ => XS.dload X4.here hx rfl (hb hby at_212) rfl kz_) ?_
      show OwnGoes p e below _ (T4.setTop (mkF m 214 #[.val (.int p0), .val (.int p1), .val (.int p2), .val (.int p3), .val (.long lo), .second, .val (.long hi), .second, .val (.int (0 : Int32)), .val (.int (p3 &&& (7 : Int32))), .val (.double (9218868437227405312 : UInt64)), .second, .val (.double (Jvm.FP.l2d hi)), .second, .val (.ref b), .val (.long xv), .second, .val (.double xd), .second, .val (.int ex)] [(.double xd), (.ref b)]))
      obtain ⟨cq5, kq5, q5a, q5b, q5c⟩ := isOf hZ rfl E4q
      obtain ⟨_, _, ⟨T5, L5, k5, n5⟩, -, X5, ⟨Lc5, hQ5, l5, y5, z5⟩, st5⟩ := X4.virtualBack hx (y := (⟨"com/example/dual_bounds/dualbounds/Interval", "contains", "(D)Z"⟩ : MethodName)) (z := (⟨"com/example/dual_bounds/dualbounds/Interval", "contains", "(D)Z"⟩ : MethodName)) hown (mvT hZ (hw _ (List.mem_of_getElem? (i := 27) rfl))) (mvT hZ (hw _ (List.mem_of_getElem? (i := 28) rfl))) (notFace_of_selects (args := #[]) (mvT hZ (hw _ (List.mem_of_getElem? (i := 30) rfl)))) (mvT hZ (hw _ (List.mem_of_getElem? (i := 30) rfl))) (mvT hZ (hw _ (List.mem_of_getElem? (i := 29) rfl))) (by decide) (backOf (W := 0) (rmC l Z a0 hw [] b (Jvm.FP.l2d lo) (Jvm.FP.l2d hi) xd ex T4.heap n0 Z4 F4q G4q hex) hZ (hw _ (List.mem_of_getElem? (i := 31) rfl)) (hw _ (List.mem_of_getElem? (i := 2) rfl)) (by decide) (by decide)) q5a q5c (g := (mkF m 214 #[.val (.int p0), .val (.int p1), .val (.int p2), .val (.int p3), .val (.long lo), .second, .val (.long hi), .second, .val (.int (0 : Int32)), .val (.int (p3 &&& (7 : Int32))), .val (.double (9218868437227405312 : UInt64)), .second, .val (.double (Jvm.FP.l2d hi)), .second, .val (.ref b), .val (.long xv), .second, .val (.double xd), .second, .val (.int ex)] [(.double xd), (.ref b)])) rfl (by rw [hml]; rfl) (Steps.refl _) (argsL := [(.double xd)]) (rest := []) (lenOf (d := "(D)Z") (ps := [.double]) (r := some .boolean) (by decide +kernel) rfl) rfl (by show 2 * 0 + _ ≤ _; exact Nat.le_of_eq rfl) (hb hby at_214) (fun _ _ => ⟨rfl, rfl, (by decide : 1 + 0 ≤ _), (by decide : 2 + 0 ≤ _)⟩)
      dsimp only [Pt.U, Pt.locs, Pt.cells, Pt.slots] at X5 l5 y5 z5 st5 hQ5
      subst l5 y5 z5
      obtain ⟨rfl, N5q, e5⟩ := hQ5
      have N5 := Fr.app N4 N5q
      refine own_tr st5 ?_
      show OwnGoes p e below _ (T5.setTop (mkF m 217 #[.val (.int p0), .val (.int p1), .val (.int p2), .val (.int p3), .val (.long lo), .second, .val (.long hi), .second, .val (.int (0 : Int32)), .val (.int (p3 &&& (7 : Int32))), .val (.double (9218868437227405312 : UInt64)), .second, .val (.double (Jvm.FP.l2d hi)), .second, .val (.ref b), .val (.long xv), .second, .val (.double xd), .second, .val (.int ex)] [(.int ex)]))
      refine own_pre (fun _ kz_ => XS.iload X5.here hx rfl (hb hby at_217) rfl kz_) ?_
      show OwnGoes p e below _ (T5.setTop (mkF m 219 #[.val (.int p0), .val (.int p1), .val (.int p2), .val (.int p3), .val (.long lo), .second, .val (.long hi), .second, .val (.int (0 : Int32)), .val (.int (p3 &&& (7 : Int32))), .val (.double (9218868437227405312 : UInt64)), .second, .val (.double (Jvm.FP.l2d hi)), .second, .val (.ref b), .val (.long xv), .second, .val (.double xd), .second, .val (.int ex)] [(.int ex), (.int ex)]))
      refine own_pre (fun _ kz_ => XS.icmpNo X5.here hx rfl (hb hby at_219) rfl (teq (rfl : ex = ex)).2 kz_) ?_
      show OwnGoes p e below _ (T5.setTop (mkF m 222 #[.val (.int p0), .val (.int p1), .val (.int p2), .val (.int p3), .val (.long lo), .second, .val (.long hi), .second, .val (.int (0 : Int32)), .val (.int (p3 &&& (7 : Int32))), .val (.double (9218868437227405312 : UInt64)), .second, .val (.double (Jvm.FP.l2d hi)), .second, .val (.ref b), .val (.long xv), .second, .val (.double xd), .second, .val (.int ex)] []))
      refine own_pre (fun _ kz_ => XS.iconst X5.here hx rfl (hb hby at_222) kz_) ?_
      show OwnGoes p e below _ (T5.setTop (mkF m 223 #[.val (.int p0), .val (.int p1), .val (.int p2), .val (.int p3), .val (.long lo), .second, .val (.long hi), .second, .val (.int (0 : Int32)), .val (.int (p3 &&& (7 : Int32))), .val (.double (9218868437227405312 : UInt64)), .second, .val (.double (Jvm.FP.l2d hi)), .second, .val (.ref b), .val (.long xv), .second, .val (.double xd), .second, .val (.int ex)] [(.int (1 : Int32))]))
      refine own_pre (fun _ kz_ => XS.goto X5.here hx rfl (pc0 := 223) (pc' := 227) rfl (hb hby at_223) (by decide) (by decide) kz_) ?_
      show OwnGoes p e below _ (T5.setTop (mkF m 227 #[.val (.int p0), .val (.int p1), .val (.int p2), .val (.int p3), .val (.long lo), .second, .val (.long hi), .second, .val (.int (0 : Int32)), .val (.int (p3 &&& (7 : Int32))), .val (.double (9218868437227405312 : UInt64)), .second, .val (.double (Jvm.FP.l2d hi)), .second, .val (.ref b), .val (.long xv), .second, .val (.double xd), .second, .val (.int ex)] [(.int (1 : Int32))]))
      exact own_ret X5 hx Bd.returns (rfl) (Or.inl ⟨rfl, by simp, _, rfl⟩) Bd.notSynchronized (hb hby at_227) ⟨rfl, N5⟩ (by decide) (by decide)
    have J151 : ∀ (xv : Int64) (xd : UInt64) (ex : Int32) (hex : ex = own_con (Jvm.FP.l2d lo) (Jvm.FP.l2d hi) xd), OwnGoes p e below (fun o U' => ∃ v L, o = .returned v ∧ Q0 h0 n0 v U'.heap L ∧ FrameEnd s o U' L room_1.cells room_1.slots) (T4.setTop (mkF m 151 #[.val (.int p0), .val (.int p1), .val (.int p2), .val (.int p3), .val (.long lo), .second, .val (.long hi), .second, .val (.int (0 : Int32)), .val (.int (p3 &&& (7 : Int32))), .val (.double (9218868437227405312 : UInt64)), .second, .val (.double (Jvm.FP.l2d hi)), .second, .val (.ref b), .val (.long xv), .second, .val (.double xd), .second, .val (.int ex)] [])) := by
      intro xv xd ex hex
      show OwnGoes p e below _ (T4.setTop (mkF m 151 #[.val (.int p0), .val (.int p1), .val (.int p2), .val (.int p3), .val (.long lo), .second, .val (.long hi), .second, .val (.int (0 : Int32)), .val (.int (p3 &&& (7 : Int32))), .val (.double (9218868437227405312 : UInt64)), .second, .val (.double (Jvm.FP.l2d hi)), .second, .val (.ref b), .val (.long xv), .second, .val (.double xd), .second, .val (.int ex)] []))
      refine own_pre (fun _ kz_ => XS.iload X4.here hx rfl (hb hby at_151) rfl kz_) ?_
      show OwnGoes p e below _ (T4.setTop (mkF m 153 #[.val (.int p0), .val (.int p1), .val (.int p2), .val (.int p3), .val (.long lo), .second, .val (.long hi), .second, .val (.int (0 : Int32)), .val (.int (p3 &&& (7 : Int32))), .val (.double (9218868437227405312 : UInt64)), .second, .val (.double (Jvm.FP.l2d hi)), .second, .val (.ref b), .val (.long xv), .second, .val (.double xd), .second, .val (.int ex)] [(.int (p3 &&& (7 : Int32)))]))
      refine own_pre (fun _ kz_ => XS.iconst X4.here hx rfl (hb hby at_153) kz_) ?_
      show OwnGoes p e below _ (T4.setTop (mkF m 154 #[.val (.int p0), .val (.int p1), .val (.int p2), .val (.int p3), .val (.long lo), .second, .val (.long hi), .second, .val (.int (0 : Int32)), .val (.int (p3 &&& (7 : Int32))), .val (.double (9218868437227405312 : UInt64)), .second, .val (.double (Jvm.FP.l2d hi)), .second, .val (.ref b), .val (.long xv), .second, .val (.double xd), .second, .val (.int ex)] [(.int (3 : Int32)), (.int (p3 &&& (7 : Int32)))]))
      by_cases h154 : (p3 &&& (7 : Int32)) = (3 : Int32)
      · refine own_pre (fun _ kz_ => XS.icmpNo X4.here hx rfl (hb hby at_154) rfl (teq h154).2 kz_) ?_
        show OwnGoes p e below _ (T4.setTop (mkF m 157 #[.val (.int p0), .val (.int p1), .val (.int p2), .val (.int p3), .val (.long lo), .second, .val (.long hi), .second, .val (.int (0 : Int32)), .val (.int (p3 &&& (7 : Int32))), .val (.double (9218868437227405312 : UInt64)), .second, .val (.double (Jvm.FP.l2d hi)), .second, .val (.ref b), .val (.long xv), .second, .val (.double xd), .second, .val (.int ex)] []))
        refine own_pre (fun _ kz_ => XS.dload X4.here hx rfl (hb hby at_157) rfl kz_) ?_
        show OwnGoes p e below _ (T4.setTop (mkF m 159 #[.val (.int p0), .val (.int p1), .val (.int p2), .val (.int p3), .val (.long lo), .second, .val (.long hi), .second, .val (.int (0 : Int32)), .val (.int (p3 &&& (7 : Int32))), .val (.double (9218868437227405312 : UInt64)), .second, .val (.double (Jvm.FP.l2d hi)), .second, .val (.ref b), .val (.long xv), .second, .val (.double xd), .second, .val (.int ex)] [(.double (9218868437227405312 : UInt64))]))
        refine own_pre (fun _ kz_ => XS.dstore X4.here hx rfl (hb hby at_159) rfl (l' := #[.val (.int p0), .val (.int p1), .val (.int p2), .val (.int p3), .val (.long lo), .second, .val (.long hi), .second, .val (.int (0 : Int32)), .val (.int (p3 &&& (7 : Int32))), .val (.double (9218868437227405312 : UInt64)), .second, .val (.double (Jvm.FP.l2d hi)), .second, .val (.ref b), .val (.long xv), .second, .val (.double (9218868437227405312 : UInt64)), .second, .val (.int ex)]) rfl kz_) ?_
        show OwnGoes p e below _ (T4.setTop (mkF m 161 #[.val (.int p0), .val (.int p1), .val (.int p2), .val (.int p3), .val (.long lo), .second, .val (.long hi), .second, .val (.int (0 : Int32)), .val (.int (p3 &&& (7 : Int32))), .val (.double (9218868437227405312 : UInt64)), .second, .val (.double (Jvm.FP.l2d hi)), .second, .val (.ref b), .val (.long xv), .second, .val (.double (9218868437227405312 : UInt64)), .second, .val (.int ex)] []))
        refine own_pre (fun _ kz_ => XS.iload X4.here hx rfl (hb hby at_161) rfl kz_) ?_
        show OwnGoes p e below _ (T4.setTop (mkF m 163 #[.val (.int p0), .val (.int p1), .val (.int p2), .val (.int p3), .val (.long lo), .second, .val (.long hi), .second, .val (.int (0 : Int32)), .val (.int (p3 &&& (7 : Int32))), .val (.double (9218868437227405312 : UInt64)), .second, .val (.double (Jvm.FP.l2d hi)), .second, .val (.ref b), .val (.long xv), .second, .val (.double (9218868437227405312 : UInt64)), .second, .val (.int ex)] [(.int (0 : Int32))]))
        refine own_pre (fun _ kz_ => XS.istore X4.here hx rfl (hb hby at_163) rfl (l' := #[.val (.int p0), .val (.int p1), .val (.int p2), .val (.int p3), .val (.long lo), .second, .val (.long hi), .second, .val (.int (0 : Int32)), .val (.int (p3 &&& (7 : Int32))), .val (.double (9218868437227405312 : UInt64)), .second, .val (.double (Jvm.FP.l2d hi)), .second, .val (.ref b), .val (.long xv), .second, .val (.double (9218868437227405312 : UInt64)), .second, .val (.int (0 : Int32))]) rfl kz_) ?_
        show OwnGoes p e below _ (T4.setTop (mkF m 165 #[.val (.int p0), .val (.int p1), .val (.int p2), .val (.int p3), .val (.long lo), .second, .val (.long hi), .second, .val (.int (0 : Int32)), .val (.int (p3 &&& (7 : Int32))), .val (.double (9218868437227405312 : UInt64)), .second, .val (.double (Jvm.FP.l2d hi)), .second, .val (.ref b), .val (.long xv), .second, .val (.double (9218868437227405312 : UInt64)), .second, .val (.int (0 : Int32))] []))
        refine own_pre (fun _ kz_ => XS.goto X4.here hx rfl (pc0 := 165) (pc' := 210) rfl (hb hby at_165) (by decide) (by decide) kz_) ?_
        show OwnGoes p e below _ (T4.setTop (mkF m 210 #[.val (.int p0), .val (.int p1), .val (.int p2), .val (.int p3), .val (.long lo), .second, .val (.long hi), .second, .val (.int (0 : Int32)), .val (.int (p3 &&& (7 : Int32))), .val (.double (9218868437227405312 : UInt64)), .second, .val (.double (Jvm.FP.l2d hi)), .second, .val (.ref b), .val (.long xv), .second, .val (.double (9218868437227405312 : UInt64)), .second, .val (.int (0 : Int32))] []))
        exact J210 _ _ _ (by unfold own_con; rw [if_neg (own_pinf _)]; rw [if_pos (own_pinf' _)])
      · refine own_pre (fun _ kz_ => XS.icmpYes X4.here hx rfl (pc0 := 154) (pc' := 168) rfl (hb hby at_154) rfl (feq h154).2 (by decide) (by decide) kz_) ?_
        show OwnGoes p e below _ (T4.setTop (mkF m 168 #[.val (.int p0), .val (.int p1), .val (.int p2), .val (.int p3), .val (.long lo), .second, .val (.long hi), .second, .val (.int (0 : Int32)), .val (.int (p3 &&& (7 : Int32))), .val (.double (9218868437227405312 : UInt64)), .second, .val (.double (Jvm.FP.l2d hi)), .second, .val (.ref b), .val (.long xv), .second, .val (.double xd), .second, .val (.int ex)] []))
        refine own_pre (fun _ kz_ => XS.iload X4.here hx rfl (hb hby at_168) rfl kz_) ?_
        show OwnGoes p e below _ (T4.setTop (mkF m 170 #[.val (.int p0), .val (.int p1), .val (.int p2), .val (.int p3), .val (.long lo), .second, .val (.long hi), .second, .val (.int (0 : Int32)), .val (.int (p3 &&& (7 : Int32))), .val (.double (9218868437227405312 : UInt64)), .second, .val (.double (Jvm.FP.l2d hi)), .second, .val (.ref b), .val (.long xv), .second, .val (.double xd), .second, .val (.int ex)] [(.int (p3 &&& (7 : Int32)))]))
        refine own_pre (fun _ kz_ => XS.iconst X4.here hx rfl (hb hby at_170) kz_) ?_
        show OwnGoes p e below _ (T4.setTop (mkF m 171 #[.val (.int p0), .val (.int p1), .val (.int p2), .val (.int p3), .val (.long lo), .second, .val (.long hi), .second, .val (.int (0 : Int32)), .val (.int (p3 &&& (7 : Int32))), .val (.double (9218868437227405312 : UInt64)), .second, .val (.double (Jvm.FP.l2d hi)), .second, .val (.ref b), .val (.long xv), .second, .val (.double xd), .second, .val (.int ex)] [(.int (4 : Int32)), (.int (p3 &&& (7 : Int32)))]))
        by_cases h171 : (p3 &&& (7 : Int32)) = (4 : Int32)
        · refine own_pre (fun _ kz_ => XS.icmpNo X4.here hx rfl (hb hby at_171) rfl (teq h171).2 kz_) ?_
          show OwnGoes p e below _ (T4.setTop (mkF m 174 #[.val (.int p0), .val (.int p1), .val (.int p2), .val (.int p3), .val (.long lo), .second, .val (.long hi), .second, .val (.int (0 : Int32)), .val (.int (p3 &&& (7 : Int32))), .val (.double (9218868437227405312 : UInt64)), .second, .val (.double (Jvm.FP.l2d hi)), .second, .val (.ref b), .val (.long xv), .second, .val (.double xd), .second, .val (.int ex)] []))
          refine own_pre (fun _ kz_ => XS.dload X4.here hx rfl (hb hby at_174) rfl kz_) ?_
          show OwnGoes p e below _ (T4.setTop (mkF m 176 #[.val (.int p0), .val (.int p1), .val (.int p2), .val (.int p3), .val (.long lo), .second, .val (.long hi), .second, .val (.int (0 : Int32)), .val (.int (p3 &&& (7 : Int32))), .val (.double (9218868437227405312 : UInt64)), .second, .val (.double (Jvm.FP.l2d hi)), .second, .val (.ref b), .val (.long xv), .second, .val (.double xd), .second, .val (.int ex)] [(.double (9218868437227405312 : UInt64))]))
          refine own_pre (fun _ kz_ => XS.dnegS X4.here hx rfl (hb hby at_176) rfl rfl kz_) ?_
          show OwnGoes p e below _ (T4.setTop (mkF m 177 #[.val (.int p0), .val (.int p1), .val (.int p2), .val (.int p3), .val (.long lo), .second, .val (.long hi), .second, .val (.int (0 : Int32)), .val (.int (p3 &&& (7 : Int32))), .val (.double (9218868437227405312 : UInt64)), .second, .val (.double (Jvm.FP.l2d hi)), .second, .val (.ref b), .val (.long xv), .second, .val (.double xd), .second, .val (.int ex)] [(.double (Jvm.FP.dneg (9218868437227405312 : UInt64)))]))
          refine own_pre (fun _ kz_ => XS.dstore X4.here hx rfl (hb hby at_177) rfl (l' := #[.val (.int p0), .val (.int p1), .val (.int p2), .val (.int p3), .val (.long lo), .second, .val (.long hi), .second, .val (.int (0 : Int32)), .val (.int (p3 &&& (7 : Int32))), .val (.double (9218868437227405312 : UInt64)), .second, .val (.double (Jvm.FP.l2d hi)), .second, .val (.ref b), .val (.long xv), .second, .val (.double (Jvm.FP.dneg (9218868437227405312 : UInt64))), .second, .val (.int ex)]) rfl kz_) ?_
          show OwnGoes p e below _ (T4.setTop (mkF m 179 #[.val (.int p0), .val (.int p1), .val (.int p2), .val (.int p3), .val (.long lo), .second, .val (.long hi), .second, .val (.int (0 : Int32)), .val (.int (p3 &&& (7 : Int32))), .val (.double (9218868437227405312 : UInt64)), .second, .val (.double (Jvm.FP.l2d hi)), .second, .val (.ref b), .val (.long xv), .second, .val (.double (Jvm.FP.dneg (9218868437227405312 : UInt64))), .second, .val (.int ex)] []))
          refine own_pre (fun _ kz_ => XS.iconst X4.here hx rfl (hb hby at_179) kz_) ?_
          show OwnGoes p e below _ (T4.setTop (mkF m 180 #[.val (.int p0), .val (.int p1), .val (.int p2), .val (.int p3), .val (.long lo), .second, .val (.long hi), .second, .val (.int (0 : Int32)), .val (.int (p3 &&& (7 : Int32))), .val (.double (9218868437227405312 : UInt64)), .second, .val (.double (Jvm.FP.l2d hi)), .second, .val (.ref b), .val (.long xv), .second, .val (.double (Jvm.FP.dneg (9218868437227405312 : UInt64))), .second, .val (.int ex)] [(.int (0 : Int32))]))
          refine own_pre (fun _ kz_ => XS.istore X4.here hx rfl (hb hby at_180) rfl (l' := #[.val (.int p0), .val (.int p1), .val (.int p2), .val (.int p3), .val (.long lo), .second, .val (.long hi), .second, .val (.int (0 : Int32)), .val (.int (p3 &&& (7 : Int32))), .val (.double (9218868437227405312 : UInt64)), .second, .val (.double (Jvm.FP.l2d hi)), .second, .val (.ref b), .val (.long xv), .second, .val (.double (Jvm.FP.dneg (9218868437227405312 : UInt64))), .second, .val (.int (0 : Int32))]) rfl kz_) ?_
          show OwnGoes p e below _ (T4.setTop (mkF m 182 #[.val (.int p0), .val (.int p1), .val (.int p2), .val (.int p3), .val (.long lo), .second, .val (.long hi), .second, .val (.int (0 : Int32)), .val (.int (p3 &&& (7 : Int32))), .val (.double (9218868437227405312 : UInt64)), .second, .val (.double (Jvm.FP.l2d hi)), .second, .val (.ref b), .val (.long xv), .second, .val (.double (Jvm.FP.dneg (9218868437227405312 : UInt64))), .second, .val (.int (0 : Int32))] []))
          refine own_pre (fun _ kz_ => XS.goto X4.here hx rfl (pc0 := 182) (pc' := 210) rfl (hb hby at_182) (by decide) (by decide) kz_) ?_
          show OwnGoes p e below _ (T4.setTop (mkF m 210 #[.val (.int p0), .val (.int p1), .val (.int p2), .val (.int p3), .val (.long lo), .second, .val (.long hi), .second, .val (.int (0 : Int32)), .val (.int (p3 &&& (7 : Int32))), .val (.double (9218868437227405312 : UInt64)), .second, .val (.double (Jvm.FP.l2d hi)), .second, .val (.ref b), .val (.long xv), .second, .val (.double (Jvm.FP.dneg (9218868437227405312 : UInt64))), .second, .val (.int (0 : Int32))] []))
          exact J210 _ _ _ (by unfold own_con; rw [if_pos (own_ninf _)])
        · refine own_pre (fun _ kz_ => XS.icmpYes X4.here hx rfl (pc0 := 171) (pc' := 185) rfl (hb hby at_171) rfl (feq h171).2 (by decide) (by decide) kz_) ?_
          show OwnGoes p e below _ (T4.setTop (mkF m 185 #[.val (.int p0), .val (.int p1), .val (.int p2), .val (.int p3), .val (.long lo), .second, .val (.long hi), .second, .val (.int (0 : Int32)), .val (.int (p3 &&& (7 : Int32))), .val (.double (9218868437227405312 : UInt64)), .second, .val (.double (Jvm.FP.l2d hi)), .second, .val (.ref b), .val (.long xv), .second, .val (.double xd), .second, .val (.int ex)] []))
          refine own_pre (fun _ kz_ => XS.iload X4.here hx rfl (hb hby at_185) rfl kz_) ?_
          show OwnGoes p e below _ (T4.setTop (mkF m 187 #[.val (.int p0), .val (.int p1), .val (.int p2), .val (.int p3), .val (.long lo), .second, .val (.long hi), .second, .val (.int (0 : Int32)), .val (.int (p3 &&& (7 : Int32))), .val (.double (9218868437227405312 : UInt64)), .second, .val (.double (Jvm.FP.l2d hi)), .second, .val (.ref b), .val (.long xv), .second, .val (.double xd), .second, .val (.int ex)] [(.int (p3 &&& (7 : Int32)))]))
          refine own_pre (fun _ kz_ => XS.iconst X4.here hx rfl (hb hby at_187) kz_) ?_
          show OwnGoes p e below _ (T4.setTop (mkF m 188 #[.val (.int p0), .val (.int p1), .val (.int p2), .val (.int p3), .val (.long lo), .second, .val (.long hi), .second, .val (.int (0 : Int32)), .val (.int (p3 &&& (7 : Int32))), .val (.double (9218868437227405312 : UInt64)), .second, .val (.double (Jvm.FP.l2d hi)), .second, .val (.ref b), .val (.long xv), .second, .val (.double xd), .second, .val (.int ex)] [(.int (5 : Int32)), (.int (p3 &&& (7 : Int32)))]))
          by_cases h188 : (p3 &&& (7 : Int32)) = (5 : Int32)
          · refine own_pre (fun _ kz_ => XS.icmpNo X4.here hx rfl (hb hby at_188) rfl (teq h188).2 kz_) ?_
            show OwnGoes p e below _ (T4.setTop (mkF m 191 #[.val (.int p0), .val (.int p1), .val (.int p2), .val (.int p3), .val (.long lo), .second, .val (.long hi), .second, .val (.int (0 : Int32)), .val (.int (p3 &&& (7 : Int32))), .val (.double (9218868437227405312 : UInt64)), .second, .val (.double (Jvm.FP.l2d hi)), .second, .val (.ref b), .val (.long xv), .second, .val (.double xd), .second, .val (.int ex)] []))
            refine own_pre (fun _ kz_ => X4.ldc2DoubleC hx hown (mvT hZ (hw _ (List.mem_of_getElem? (i := 32) rfl))) (g := (mkF m 191 #[.val (.int p0), .val (.int p1), .val (.int p2), .val (.int p3), .val (.long lo), .second, .val (.long hi), .second, .val (.int (0 : Int32)), .val (.int (p3 &&& (7 : Int32))), .val (.double (9218868437227405312 : UInt64)), .second, .val (.double (Jvm.FP.l2d hi)), .second, .val (.ref b), .val (.long xv), .second, .val (.double xd), .second, .val (.int ex)] [])) rfl (hb hby at_191) _ kz_) ?_
            show OwnGoes p e below _ (T4.setTop (mkF m 194 #[.val (.int p0), .val (.int p1), .val (.int p2), .val (.int p3), .val (.long lo), .second, .val (.long hi), .second, .val (.int (0 : Int32)), .val (.int (p3 &&& (7 : Int32))), .val (.double (9218868437227405312 : UInt64)), .second, .val (.double (Jvm.FP.l2d hi)), .second, .val (.ref b), .val (.long xv), .second, .val (.double xd), .second, .val (.int ex)] [(.double (9223372036854775808 : UInt64))]))
            refine own_pre (fun _ kz_ => XS.dstore X4.here hx rfl (hb hby at_194) rfl (l' := #[.val (.int p0), .val (.int p1), .val (.int p2), .val (.int p3), .val (.long lo), .second, .val (.long hi), .second, .val (.int (0 : Int32)), .val (.int (p3 &&& (7 : Int32))), .val (.double (9218868437227405312 : UInt64)), .second, .val (.double (Jvm.FP.l2d hi)), .second, .val (.ref b), .val (.long xv), .second, .val (.double (9223372036854775808 : UInt64)), .second, .val (.int ex)]) rfl kz_) ?_
            show OwnGoes p e below _ (T4.setTop (mkF m 196 #[.val (.int p0), .val (.int p1), .val (.int p2), .val (.int p3), .val (.long lo), .second, .val (.long hi), .second, .val (.int (0 : Int32)), .val (.int (p3 &&& (7 : Int32))), .val (.double (9218868437227405312 : UInt64)), .second, .val (.double (Jvm.FP.l2d hi)), .second, .val (.ref b), .val (.long xv), .second, .val (.double (9223372036854775808 : UInt64)), .second, .val (.int ex)] []))
            refine own_pre (fun _ kz_ => XS.lload X4.here hx rfl (hb hby at_196) rfl kz_) ?_
            show OwnGoes p e below _ (T4.setTop (mkF m 198 #[.val (.int p0), .val (.int p1), .val (.int p2), .val (.int p3), .val (.long lo), .second, .val (.long hi), .second, .val (.int (0 : Int32)), .val (.int (p3 &&& (7 : Int32))), .val (.double (9218868437227405312 : UInt64)), .second, .val (.double (Jvm.FP.l2d hi)), .second, .val (.ref b), .val (.long xv), .second, .val (.double (9223372036854775808 : UInt64)), .second, .val (.int ex)] [(.long lo)]))
            refine own_pre (fun _ kz_ => XS.lconst X4.here hx rfl (hb hby at_198) kz_) ?_
            show OwnGoes p e below _ (T4.setTop (mkF m 199 #[.val (.int p0), .val (.int p1), .val (.int p2), .val (.int p3), .val (.long lo), .second, .val (.long hi), .second, .val (.int (0 : Int32)), .val (.int (p3 &&& (7 : Int32))), .val (.double (9218868437227405312 : UInt64)), .second, .val (.double (Jvm.FP.l2d hi)), .second, .val (.ref b), .val (.long xv), .second, .val (.double (9223372036854775808 : UInt64)), .second, .val (.int ex)] [(.long (0 : Int64)), (.long lo)]))
            refine own_pre (fun _ kz_ => XS.lcmp X4.here hx rfl (hb hby at_199) rfl kz_) ?_
            show OwnGoes p e below _ (T4.setTop (mkF m 200 #[.val (.int p0), .val (.int p1), .val (.int p2), .val (.int p3), .val (.long lo), .second, .val (.long hi), .second, .val (.int (0 : Int32)), .val (.int (p3 &&& (7 : Int32))), .val (.double (9218868437227405312 : UInt64)), .second, .val (.double (Jvm.FP.l2d hi)), .second, .val (.ref b), .val (.long xv), .second, .val (.double (9223372036854775808 : UInt64)), .second, .val (.int ex)] [(.int (lcmpW lo (0 : Int64)))]))
            by_cases h200 : lo = (0 : Int64)
            · refine own_pre (fun _ kz_ => XS.ifNo X4.here hx rfl (hb hby at_200) rfl ((if0 _ _).trans (teq ((lw_eq lo (0 : Int64)).mpr h200)).2) kz_) ?_
              show OwnGoes p e below _ (T4.setTop (mkF m 203 #[.val (.int p0), .val (.int p1), .val (.int p2), .val (.int p3), .val (.long lo), .second, .val (.long hi), .second, .val (.int (0 : Int32)), .val (.int (p3 &&& (7 : Int32))), .val (.double (9218868437227405312 : UInt64)), .second, .val (.double (Jvm.FP.l2d hi)), .second, .val (.ref b), .val (.long xv), .second, .val (.double (9223372036854775808 : UInt64)), .second, .val (.int ex)] []))
              refine own_pre (fun _ kz_ => XS.iconst X4.here hx rfl (hb hby at_203) kz_) ?_
              show OwnGoes p e below _ (T4.setTop (mkF m 204 #[.val (.int p0), .val (.int p1), .val (.int p2), .val (.int p3), .val (.long lo), .second, .val (.long hi), .second, .val (.int (0 : Int32)), .val (.int (p3 &&& (7 : Int32))), .val (.double (9218868437227405312 : UInt64)), .second, .val (.double (Jvm.FP.l2d hi)), .second, .val (.ref b), .val (.long xv), .second, .val (.double (9223372036854775808 : UInt64)), .second, .val (.int ex)] [(.int (1 : Int32))]))
              refine own_pre (fun _ kz_ => XS.goto X4.here hx rfl (pc0 := 204) (pc' := 208) rfl (hb hby at_204) (by decide) (by decide) kz_) ?_
              show OwnGoes p e below _ (T4.setTop (mkF m 208 #[.val (.int p0), .val (.int p1), .val (.int p2), .val (.int p3), .val (.long lo), .second, .val (.long hi), .second, .val (.int (0 : Int32)), .val (.int (p3 &&& (7 : Int32))), .val (.double (9218868437227405312 : UInt64)), .second, .val (.double (Jvm.FP.l2d hi)), .second, .val (.ref b), .val (.long xv), .second, .val (.double (9223372036854775808 : UInt64)), .second, .val (.int ex)] [(.int (1 : Int32))]))
              refine own_pre (fun _ kz_ => XS.istore X4.here hx rfl (hb hby at_208) rfl (l' := #[.val (.int p0), .val (.int p1), .val (.int p2), .val (.int p3), .val (.long lo), .second, .val (.long hi), .second, .val (.int (0 : Int32)), .val (.int (p3 &&& (7 : Int32))), .val (.double (9218868437227405312 : UInt64)), .second, .val (.double (Jvm.FP.l2d hi)), .second, .val (.ref b), .val (.long xv), .second, .val (.double (9223372036854775808 : UInt64)), .second, .val (.int (1 : Int32))]) rfl kz_) ?_
              show OwnGoes p e below _ (T4.setTop (mkF m 210 #[.val (.int p0), .val (.int p1), .val (.int p2), .val (.int p3), .val (.long lo), .second, .val (.long hi), .second, .val (.int (0 : Int32)), .val (.int (p3 &&& (7 : Int32))), .val (.double (9218868437227405312 : UInt64)), .second, .val (.double (Jvm.FP.l2d hi)), .second, .val (.ref b), .val (.long xv), .second, .val (.double (9223372036854775808 : UInt64)), .second, .val (.int (1 : Int32))] []))
              exact J210 _ _ _ (by unfold own_con; rw [if_neg (fun q => (own_negz (own_b (by omega) (by omega)) (by omega)).mp q h200)]; rw [if_neg (own_negzu _ (own_b (by omega) (by omega)) (by omega))])
            · refine own_pre (fun _ kz_ => XS.ifYes X4.here hx rfl (pc0 := 200) (pc' := 207) rfl (hb hby at_200) rfl ((if0 _ _).trans (feq (fun q => h200 ((lw_eq lo (0 : Int64)).mp q))).2) (by decide) (by decide) kz_) ?_
              show OwnGoes p e below _ (T4.setTop (mkF m 207 #[.val (.int p0), .val (.int p1), .val (.int p2), .val (.int p3), .val (.long lo), .second, .val (.long hi), .second, .val (.int (0 : Int32)), .val (.int (p3 &&& (7 : Int32))), .val (.double (9218868437227405312 : UInt64)), .second, .val (.double (Jvm.FP.l2d hi)), .second, .val (.ref b), .val (.long xv), .second, .val (.double (9223372036854775808 : UInt64)), .second, .val (.int ex)] []))
              refine own_pre (fun _ kz_ => XS.iconst X4.here hx rfl (hb hby at_207) kz_) ?_
              show OwnGoes p e below _ (T4.setTop (mkF m 208 #[.val (.int p0), .val (.int p1), .val (.int p2), .val (.int p3), .val (.long lo), .second, .val (.long hi), .second, .val (.int (0 : Int32)), .val (.int (p3 &&& (7 : Int32))), .val (.double (9218868437227405312 : UInt64)), .second, .val (.double (Jvm.FP.l2d hi)), .second, .val (.ref b), .val (.long xv), .second, .val (.double (9223372036854775808 : UInt64)), .second, .val (.int ex)] [(.int (0 : Int32))]))
              refine own_pre (fun _ kz_ => XS.istore X4.here hx rfl (hb hby at_208) rfl (l' := #[.val (.int p0), .val (.int p1), .val (.int p2), .val (.int p3), .val (.long lo), .second, .val (.long hi), .second, .val (.int (0 : Int32)), .val (.int (p3 &&& (7 : Int32))), .val (.double (9218868437227405312 : UInt64)), .second, .val (.double (Jvm.FP.l2d hi)), .second, .val (.ref b), .val (.long xv), .second, .val (.double (9223372036854775808 : UInt64)), .second, .val (.int (0 : Int32))]) rfl kz_) ?_
              show OwnGoes p e below _ (T4.setTop (mkF m 210 #[.val (.int p0), .val (.int p1), .val (.int p2), .val (.int p3), .val (.long lo), .second, .val (.long hi), .second, .val (.int (0 : Int32)), .val (.int (p3 &&& (7 : Int32))), .val (.double (9218868437227405312 : UInt64)), .second, .val (.double (Jvm.FP.l2d hi)), .second, .val (.ref b), .val (.long xv), .second, .val (.double (9223372036854775808 : UInt64)), .second, .val (.int (0 : Int32))] []))
              exact J210 _ _ _ (by unfold own_con; rw [if_pos ((own_negz (own_b (by omega) (by omega)) (by omega)).mpr h200)])
          · refine own_pre (fun _ kz_ => XS.icmpYes X4.here hx rfl (pc0 := 188) (pc' := 210) rfl (hb hby at_188) rfl (feq h188).2 (by decide) (by decide) kz_) ?_
            show OwnGoes p e below _ (T4.setTop (mkF m 210 #[.val (.int p0), .val (.int p1), .val (.int p2), .val (.int p3), .val (.long lo), .second, .val (.long hi), .second, .val (.int (0 : Int32)), .val (.int (p3 &&& (7 : Int32))), .val (.double (9218868437227405312 : UInt64)), .second, .val (.double (Jvm.FP.l2d hi)), .second, .val (.ref b), .val (.long xv), .second, .val (.double xd), .second, .val (.int ex)] []))
            exact J210 _ _ _ (hex)
    have J118 : ∀ (xv : Int64) (b1 : -9007199254740992 < xv.toInt) (b2 : xv.toInt < 9007199254740992), OwnGoes p e below (fun o U' => ∃ v L, o = .returned v ∧ Q0 h0 n0 v U'.heap L ∧ FrameEnd s o U' L room_1.cells room_1.slots) (T4.setTop (mkF m 118 #[.val (.int p0), .val (.int p1), .val (.int p2), .val (.int p3), .val (.long lo), .second, .val (.long hi), .second, .val (.int (0 : Int32)), .val (.int (p3 &&& (7 : Int32))), .val (.double (9218868437227405312 : UInt64)), .second, .val (.double (Jvm.FP.l2d hi)), .second, .val (.ref b), .val (.long xv), .second, .unset, .unset, .unset] [])) := by
      intro xv b1 b2
      show OwnGoes p e below _ (T4.setTop (mkF m 118 #[.val (.int p0), .val (.int p1), .val (.int p2), .val (.int p3), .val (.long lo), .second, .val (.long hi), .second, .val (.int (0 : Int32)), .val (.int (p3 &&& (7 : Int32))), .val (.double (9218868437227405312 : UInt64)), .second, .val (.double (Jvm.FP.l2d hi)), .second, .val (.ref b), .val (.long xv), .second, .unset, .unset, .unset] []))
      refine own_pre (fun _ kz_ => XS.lload X4.here hx rfl (hb hby at_118) rfl kz_) ?_
      show OwnGoes p e below _ (T4.setTop (mkF m 120 #[.val (.int p0), .val (.int p1), .val (.int p2), .val (.int p3), .val (.long lo), .second, .val (.long hi), .second, .val (.int (0 : Int32)), .val (.int (p3 &&& (7 : Int32))), .val (.double (9218868437227405312 : UInt64)), .second, .val (.double (Jvm.FP.l2d hi)), .second, .val (.ref b), .val (.long xv), .second, .unset, .unset, .unset] [(.long xv)]))
      refine own_pre (fun _ kz_ => XS.l2dS X4.here hx rfl (hb hby at_120) rfl rfl kz_) ?_
      show OwnGoes p e below _ (T4.setTop (mkF m 121 #[.val (.int p0), .val (.int p1), .val (.int p2), .val (.int p3), .val (.long lo), .second, .val (.long hi), .second, .val (.int (0 : Int32)), .val (.int (p3 &&& (7 : Int32))), .val (.double (9218868437227405312 : UInt64)), .second, .val (.double (Jvm.FP.l2d hi)), .second, .val (.ref b), .val (.long xv), .second, .unset, .unset, .unset] [(.double (Jvm.FP.l2d xv))]))
      refine own_pre (fun _ kz_ => XS.dstore X4.here hx rfl (hb hby at_121) rfl (l' := #[.val (.int p0), .val (.int p1), .val (.int p2), .val (.int p3), .val (.long lo), .second, .val (.long hi), .second, .val (.int (0 : Int32)), .val (.int (p3 &&& (7 : Int32))), .val (.double (9218868437227405312 : UInt64)), .second, .val (.double (Jvm.FP.l2d hi)), .second, .val (.ref b), .val (.long xv), .second, .val (.double (Jvm.FP.l2d xv)), .second, .unset]) rfl kz_) ?_
      show OwnGoes p e below _ (T4.setTop (mkF m 123 #[.val (.int p0), .val (.int p1), .val (.int p2), .val (.int p3), .val (.long lo), .second, .val (.long hi), .second, .val (.int (0 : Int32)), .val (.int (p3 &&& (7 : Int32))), .val (.double (9218868437227405312 : UInt64)), .second, .val (.double (Jvm.FP.l2d hi)), .second, .val (.ref b), .val (.long xv), .second, .val (.double (Jvm.FP.l2d xv)), .second, .unset] []))
      refine own_pre (fun _ kz_ => XS.lload X4.here hx rfl (hb hby at_123) rfl kz_) ?_
      show OwnGoes p e below _ (T4.setTop (mkF m 125 #[.val (.int p0), .val (.int p1), .val (.int p2), .val (.int p3), .val (.long lo), .second, .val (.long hi), .second, .val (.int (0 : Int32)), .val (.int (p3 &&& (7 : Int32))), .val (.double (9218868437227405312 : UInt64)), .second, .val (.double (Jvm.FP.l2d hi)), .second, .val (.ref b), .val (.long xv), .second, .val (.double (Jvm.FP.l2d xv)), .second, .unset] [(.long lo)]))
      refine own_pre (fun _ kz_ => XS.lload X4.here hx rfl (hb hby at_125) rfl kz_) ?_
      show OwnGoes p e below _ (T4.setTop (mkF m 127 #[.val (.int p0), .val (.int p1), .val (.int p2), .val (.int p3), .val (.long lo), .second, .val (.long hi), .second, .val (.int (0 : Int32)), .val (.int (p3 &&& (7 : Int32))), .val (.double (9218868437227405312 : UInt64)), .second, .val (.double (Jvm.FP.l2d hi)), .second, .val (.ref b), .val (.long xv), .second, .val (.double (Jvm.FP.l2d xv)), .second, .unset] [(.long xv), (.long lo)]))
      refine own_pre (fun _ kz_ => XS.lcmp X4.here hx rfl (hb hby at_127) rfl kz_) ?_
      show OwnGoes p e below _ (T4.setTop (mkF m 128 #[.val (.int p0), .val (.int p1), .val (.int p2), .val (.int p3), .val (.long lo), .second, .val (.long hi), .second, .val (.int (0 : Int32)), .val (.int (p3 &&& (7 : Int32))), .val (.double (9218868437227405312 : UInt64)), .second, .val (.double (Jvm.FP.l2d hi)), .second, .val (.ref b), .val (.long xv), .second, .val (.double (Jvm.FP.l2d xv)), .second, .unset] [(.int (lcmpW lo xv))]))
      by_cases h128 : xv < lo
      · refine own_pre (fun _ kz_ => XS.ifYes X4.here hx rfl (pc0 := 128) (pc' := 148) rfl (hb hby at_128) rfl ((if0 _ _).trans (tlt ((lw_gt lo xv).mpr h128)).2.2.1) (by decide) (by decide) kz_) ?_
        show OwnGoes p e below _ (T4.setTop (mkF m 148 #[.val (.int p0), .val (.int p1), .val (.int p2), .val (.int p3), .val (.long lo), .second, .val (.long hi), .second, .val (.int (0 : Int32)), .val (.int (p3 &&& (7 : Int32))), .val (.double (9218868437227405312 : UInt64)), .second, .val (.double (Jvm.FP.l2d hi)), .second, .val (.ref b), .val (.long xv), .second, .val (.double (Jvm.FP.l2d xv)), .second, .unset] []))
        refine own_pre (fun _ kz_ => XS.iconst X4.here hx rfl (hb hby at_148) kz_) ?_
        show OwnGoes p e below _ (T4.setTop (mkF m 149 #[.val (.int p0), .val (.int p1), .val (.int p2), .val (.int p3), .val (.long lo), .second, .val (.long hi), .second, .val (.int (0 : Int32)), .val (.int (p3 &&& (7 : Int32))), .val (.double (9218868437227405312 : UInt64)), .second, .val (.double (Jvm.FP.l2d hi)), .second, .val (.ref b), .val (.long xv), .second, .val (.double (Jvm.FP.l2d xv)), .second, .unset] [(.int (0 : Int32))]))
        refine own_pre (fun _ kz_ => XS.istore X4.here hx rfl (hb hby at_149) rfl (l' := #[.val (.int p0), .val (.int p1), .val (.int p2), .val (.int p3), .val (.long lo), .second, .val (.long hi), .second, .val (.int (0 : Int32)), .val (.int (p3 &&& (7 : Int32))), .val (.double (9218868437227405312 : UInt64)), .second, .val (.double (Jvm.FP.l2d hi)), .second, .val (.ref b), .val (.long xv), .second, .val (.double (Jvm.FP.l2d xv)), .second, .val (.int (0 : Int32))]) rfl kz_) ?_
        show OwnGoes p e below _ (T4.setTop (mkF m 151 #[.val (.int p0), .val (.int p1), .val (.int p2), .val (.int p3), .val (.long lo), .second, .val (.long hi), .second, .val (.int (0 : Int32)), .val (.int (p3 &&& (7 : Int32))), .val (.double (9218868437227405312 : UInt64)), .second, .val (.double (Jvm.FP.l2d hi)), .second, .val (.ref b), .val (.long xv), .second, .val (.double (Jvm.FP.l2d xv)), .second, .val (.int (0 : Int32))] []))
        exact J151 _ _ _ (by unfold own_con; rw [if_pos ((own_gt (own_b (by omega) (by omega)) (own_b (by omega) (by omega))).mpr h128)])
      · refine own_pre (fun _ kz_ => XS.ifNo X4.here hx rfl (hb hby at_128) rfl ((if0 _ _).trans (flt (fun q => h128 ((lw_gt lo xv).mp q))).2.2.1) kz_) ?_
        show OwnGoes p e below _ (T4.setTop (mkF m 131 #[.val (.int p0), .val (.int p1), .val (.int p2), .val (.int p3), .val (.long lo), .second, .val (.long hi), .second, .val (.int (0 : Int32)), .val (.int (p3 &&& (7 : Int32))), .val (.double (9218868437227405312 : UInt64)), .second, .val (.double (Jvm.FP.l2d hi)), .second, .val (.ref b), .val (.long xv), .second, .val (.double (Jvm.FP.l2d xv)), .second, .unset] []))
        refine own_pre (fun _ kz_ => XS.iload X4.here hx rfl (hb hby at_131) rfl kz_) ?_
        show OwnGoes p e below _ (T4.setTop (mkF m 133 #[.val (.int p0), .val (.int p1), .val (.int p2), .val (.int p3), .val (.long lo), .second, .val (.long hi), .second, .val (.int (0 : Int32)), .val (.int (p3 &&& (7 : Int32))), .val (.double (9218868437227405312 : UInt64)), .second, .val (.double (Jvm.FP.l2d hi)), .second, .val (.ref b), .val (.long xv), .second, .val (.double (Jvm.FP.l2d xv)), .second, .unset] [(.int (0 : Int32))]))
        refine own_pre (fun _ kz_ => XS.ifNo X4.here hx rfl (hb hby at_133) rfl ((if0 _ _).trans (teq (by decide : (0 : Int32) = (0 : Int32))).2) kz_) ?_
        show OwnGoes p e below _ (T4.setTop (mkF m 136 #[.val (.int p0), .val (.int p1), .val (.int p2), .val (.int p3), .val (.long lo), .second, .val (.long hi), .second, .val (.int (0 : Int32)), .val (.int (p3 &&& (7 : Int32))), .val (.double (9218868437227405312 : UInt64)), .second, .val (.double (Jvm.FP.l2d hi)), .second, .val (.ref b), .val (.long xv), .second, .val (.double (Jvm.FP.l2d xv)), .second, .unset] []))
        refine own_pre (fun _ kz_ => XS.lload X4.here hx rfl (hb hby at_136) rfl kz_) ?_
        show OwnGoes p e below _ (T4.setTop (mkF m 138 #[.val (.int p0), .val (.int p1), .val (.int p2), .val (.int p3), .val (.long lo), .second, .val (.long hi), .second, .val (.int (0 : Int32)), .val (.int (p3 &&& (7 : Int32))), .val (.double (9218868437227405312 : UInt64)), .second, .val (.double (Jvm.FP.l2d hi)), .second, .val (.ref b), .val (.long xv), .second, .val (.double (Jvm.FP.l2d xv)), .second, .unset] [(.long xv)]))
        refine own_pre (fun _ kz_ => XS.lload X4.here hx rfl (hb hby at_138) rfl kz_) ?_
        show OwnGoes p e below _ (T4.setTop (mkF m 140 #[.val (.int p0), .val (.int p1), .val (.int p2), .val (.int p3), .val (.long lo), .second, .val (.long hi), .second, .val (.int (0 : Int32)), .val (.int (p3 &&& (7 : Int32))), .val (.double (9218868437227405312 : UInt64)), .second, .val (.double (Jvm.FP.l2d hi)), .second, .val (.ref b), .val (.long xv), .second, .val (.double (Jvm.FP.l2d xv)), .second, .unset] [(.long hi), (.long xv)]))
        refine own_pre (fun _ kz_ => XS.lcmp X4.here hx rfl (hb hby at_140) rfl kz_) ?_
        show OwnGoes p e below _ (T4.setTop (mkF m 141 #[.val (.int p0), .val (.int p1), .val (.int p2), .val (.int p3), .val (.long lo), .second, .val (.long hi), .second, .val (.int (0 : Int32)), .val (.int (p3 &&& (7 : Int32))), .val (.double (9218868437227405312 : UInt64)), .second, .val (.double (Jvm.FP.l2d hi)), .second, .val (.ref b), .val (.long xv), .second, .val (.double (Jvm.FP.l2d xv)), .second, .unset] [(.int (lcmpW xv hi))]))
        by_cases h141 : hi < xv
        · refine own_pre (fun _ kz_ => XS.ifYes X4.here hx rfl (pc0 := 141) (pc' := 148) rfl (hb hby at_141) rfl ((if0 _ _).trans (tlt ((lw_gt xv hi).mpr h141)).2.2.1) (by decide) (by decide) kz_) ?_
          show OwnGoes p e below _ (T4.setTop (mkF m 148 #[.val (.int p0), .val (.int p1), .val (.int p2), .val (.int p3), .val (.long lo), .second, .val (.long hi), .second, .val (.int (0 : Int32)), .val (.int (p3 &&& (7 : Int32))), .val (.double (9218868437227405312 : UInt64)), .second, .val (.double (Jvm.FP.l2d hi)), .second, .val (.ref b), .val (.long xv), .second, .val (.double (Jvm.FP.l2d xv)), .second, .unset] []))
          refine own_pre (fun _ kz_ => XS.iconst X4.here hx rfl (hb hby at_148) kz_) ?_
          show OwnGoes p e below _ (T4.setTop (mkF m 149 #[.val (.int p0), .val (.int p1), .val (.int p2), .val (.int p3), .val (.long lo), .second, .val (.long hi), .second, .val (.int (0 : Int32)), .val (.int (p3 &&& (7 : Int32))), .val (.double (9218868437227405312 : UInt64)), .second, .val (.double (Jvm.FP.l2d hi)), .second, .val (.ref b), .val (.long xv), .second, .val (.double (Jvm.FP.l2d xv)), .second, .unset] [(.int (0 : Int32))]))
          refine own_pre (fun _ kz_ => XS.istore X4.here hx rfl (hb hby at_149) rfl (l' := #[.val (.int p0), .val (.int p1), .val (.int p2), .val (.int p3), .val (.long lo), .second, .val (.long hi), .second, .val (.int (0 : Int32)), .val (.int (p3 &&& (7 : Int32))), .val (.double (9218868437227405312 : UInt64)), .second, .val (.double (Jvm.FP.l2d hi)), .second, .val (.ref b), .val (.long xv), .second, .val (.double (Jvm.FP.l2d xv)), .second, .val (.int (0 : Int32))]) rfl kz_) ?_
          show OwnGoes p e below _ (T4.setTop (mkF m 151 #[.val (.int p0), .val (.int p1), .val (.int p2), .val (.int p3), .val (.long lo), .second, .val (.long hi), .second, .val (.int (0 : Int32)), .val (.int (p3 &&& (7 : Int32))), .val (.double (9218868437227405312 : UInt64)), .second, .val (.double (Jvm.FP.l2d hi)), .second, .val (.ref b), .val (.long xv), .second, .val (.double (Jvm.FP.l2d xv)), .second, .val (.int (0 : Int32))] []))
          exact J151 _ _ _ (by unfold own_con; rw [if_neg (fun q => h128 ((own_gt (own_b (by omega) (by omega)) (own_b (by omega) (by omega))).mp q)), if_pos ((own_gt (own_b (by omega) (by omega)) (own_b (by omega) (by omega))).mpr h141)])
        · refine own_pre (fun _ kz_ => XS.ifNo X4.here hx rfl (hb hby at_141) rfl ((if0 _ _).trans (flt (fun q => h141 ((lw_gt xv hi).mp q))).2.2.1) kz_) ?_
          show OwnGoes p e below _ (T4.setTop (mkF m 144 #[.val (.int p0), .val (.int p1), .val (.int p2), .val (.int p3), .val (.long lo), .second, .val (.long hi), .second, .val (.int (0 : Int32)), .val (.int (p3 &&& (7 : Int32))), .val (.double (9218868437227405312 : UInt64)), .second, .val (.double (Jvm.FP.l2d hi)), .second, .val (.ref b), .val (.long xv), .second, .val (.double (Jvm.FP.l2d xv)), .second, .unset] []))
          refine own_pre (fun _ kz_ => XS.iconst X4.here hx rfl (hb hby at_144) kz_) ?_
          show OwnGoes p e below _ (T4.setTop (mkF m 145 #[.val (.int p0), .val (.int p1), .val (.int p2), .val (.int p3), .val (.long lo), .second, .val (.long hi), .second, .val (.int (0 : Int32)), .val (.int (p3 &&& (7 : Int32))), .val (.double (9218868437227405312 : UInt64)), .second, .val (.double (Jvm.FP.l2d hi)), .second, .val (.ref b), .val (.long xv), .second, .val (.double (Jvm.FP.l2d xv)), .second, .unset] [(.int (1 : Int32))]))
          refine own_pre (fun _ kz_ => XS.goto X4.here hx rfl (pc0 := 145) (pc' := 149) rfl (hb hby at_145) (by decide) (by decide) kz_) ?_
          show OwnGoes p e below _ (T4.setTop (mkF m 149 #[.val (.int p0), .val (.int p1), .val (.int p2), .val (.int p3), .val (.long lo), .second, .val (.long hi), .second, .val (.int (0 : Int32)), .val (.int (p3 &&& (7 : Int32))), .val (.double (9218868437227405312 : UInt64)), .second, .val (.double (Jvm.FP.l2d hi)), .second, .val (.ref b), .val (.long xv), .second, .val (.double (Jvm.FP.l2d xv)), .second, .unset] [(.int (1 : Int32))]))
          refine own_pre (fun _ kz_ => XS.istore X4.here hx rfl (hb hby at_149) rfl (l' := #[.val (.int p0), .val (.int p1), .val (.int p2), .val (.int p3), .val (.long lo), .second, .val (.long hi), .second, .val (.int (0 : Int32)), .val (.int (p3 &&& (7 : Int32))), .val (.double (9218868437227405312 : UInt64)), .second, .val (.double (Jvm.FP.l2d hi)), .second, .val (.ref b), .val (.long xv), .second, .val (.double (Jvm.FP.l2d xv)), .second, .val (.int (1 : Int32))]) rfl kz_) ?_
          show OwnGoes p e below _ (T4.setTop (mkF m 151 #[.val (.int p0), .val (.int p1), .val (.int p2), .val (.int p3), .val (.long lo), .second, .val (.long hi), .second, .val (.int (0 : Int32)), .val (.int (p3 &&& (7 : Int32))), .val (.double (9218868437227405312 : UInt64)), .second, .val (.double (Jvm.FP.l2d hi)), .second, .val (.ref b), .val (.long xv), .second, .val (.double (Jvm.FP.l2d xv)), .second, .val (.int (1 : Int32))] []))
          exact J151 _ _ _ (by unfold own_con; rw [if_neg (fun q => h128 ((own_gt (own_b (by omega) (by omega)) (own_b (by omega) (by omega))).mp q)), if_neg (fun q => h141 ((own_gt (own_b (by omega) (by omega)) (own_b (by omega) (by omega))).mp q))])
    show OwnGoes p e below _ (T4.setTop (mkF m 77 #[.val (.int p0), .val (.int p1), .val (.int p2), .val (.int p3), .val (.long lo), .second, .val (.long hi), .second, .val (.int (0 : Int32)), .val (.int (p3 &&& (7 : Int32))), .val (.double (9218868437227405312 : UInt64)), .second, .val (.double (Jvm.FP.l2d hi)), .second, .val (.ref b), .unset, .unset, .unset, .unset, .unset] []))
    refine own_pre (fun _ kz_ => XS.iloadN X4.here hx rfl (hb hby at_77) rfl kz_) ?_
    show OwnGoes p e below _ (T4.setTop (mkF m 78 #[.val (.int p0), .val (.int p1), .val (.int p2), .val (.int p3), .val (.long lo), .second, .val (.long hi), .second, .val (.int (0 : Int32)), .val (.int (p3 &&& (7 : Int32))), .val (.double (9218868437227405312 : UInt64)), .second, .val (.double (Jvm.FP.l2d hi)), .second, .val (.ref b), .unset, .unset, .unset, .unset, .unset] [(.int p2)]))
    refine own_pre (fun _ kz_ => XS.i2l X4.here hx rfl (hb hby at_78) rfl kz_) ?_
    show OwnGoes p e below _ (T4.setTop (mkF m 79 #[.val (.int p0), .val (.int p1), .val (.int p2), .val (.int p3), .val (.long lo), .second, .val (.long hi), .second, .val (.int (0 : Int32)), .val (.int (p3 &&& (7 : Int32))), .val (.double (9218868437227405312 : UInt64)), .second, .val (.double (Jvm.FP.l2d hi)), .second, .val (.ref b), .unset, .unset, .unset, .unset, .unset] [(.long (p2.toInt64))]))
    refine own_pre (fun _ kz_ => XS.lstore X4.here hx rfl (hb hby at_79) rfl (l' := #[.val (.int p0), .val (.int p1), .val (.int p2), .val (.int p3), .val (.long lo), .second, .val (.long hi), .second, .val (.int (0 : Int32)), .val (.int (p3 &&& (7 : Int32))), .val (.double (9218868437227405312 : UInt64)), .second, .val (.double (Jvm.FP.l2d hi)), .second, .val (.ref b), .val (.long (p2.toInt64)), .second, .unset, .unset, .unset]) rfl kz_) ?_
    show OwnGoes p e below _ (T4.setTop (mkF m 81 #[.val (.int p0), .val (.int p1), .val (.int p2), .val (.int p3), .val (.long lo), .second, .val (.long hi), .second, .val (.int (0 : Int32)), .val (.int (p3 &&& (7 : Int32))), .val (.double (9218868437227405312 : UInt64)), .second, .val (.double (Jvm.FP.l2d hi)), .second, .val (.ref b), .val (.long (p2.toInt64)), .second, .unset, .unset, .unset] []))
    refine own_pre (fun _ kz_ => XS.iload X4.here hx rfl (hb hby at_81) rfl kz_) ?_
    show OwnGoes p e below _ (T4.setTop (mkF m 83 #[.val (.int p0), .val (.int p1), .val (.int p2), .val (.int p3), .val (.long lo), .second, .val (.long hi), .second, .val (.int (0 : Int32)), .val (.int (p3 &&& (7 : Int32))), .val (.double (9218868437227405312 : UInt64)), .second, .val (.double (Jvm.FP.l2d hi)), .second, .val (.ref b), .val (.long (p2.toInt64)), .second, .unset, .unset, .unset] [(.int (p3 &&& (7 : Int32)))]))
    refine own_pre (fun _ kz_ => XS.iconst X4.here hx rfl (hb hby at_83) kz_) ?_
    show OwnGoes p e below _ (T4.setTop (mkF m 84 #[.val (.int p0), .val (.int p1), .val (.int p2), .val (.int p3), .val (.long lo), .second, .val (.long hi), .second, .val (.int (0 : Int32)), .val (.int (p3 &&& (7 : Int32))), .val (.double (9218868437227405312 : UInt64)), .second, .val (.double (Jvm.FP.l2d hi)), .second, .val (.ref b), .val (.long (p2.toInt64)), .second, .unset, .unset, .unset] [(.int (1 : Int32)), (.int (p3 &&& (7 : Int32)))]))
    by_cases h84 : (p3 &&& (7 : Int32)) = (1 : Int32)
    · refine own_pre (fun _ kz_ => XS.icmpNo X4.here hx rfl (hb hby at_84) rfl (teq h84).2 kz_) ?_
      show OwnGoes p e below _ (T4.setTop (mkF m 87 #[.val (.int p0), .val (.int p1), .val (.int p2), .val (.int p3), .val (.long lo), .second, .val (.long hi), .second, .val (.int (0 : Int32)), .val (.int (p3 &&& (7 : Int32))), .val (.double (9218868437227405312 : UInt64)), .second, .val (.double (Jvm.FP.l2d hi)), .second, .val (.ref b), .val (.long (p2.toInt64)), .second, .unset, .unset, .unset] []))
      refine own_pre (fun _ kz_ => XS.lload X4.here hx rfl (hb hby at_87) rfl kz_) ?_
      show OwnGoes p e below _ (T4.setTop (mkF m 89 #[.val (.int p0), .val (.int p1), .val (.int p2), .val (.int p3), .val (.long lo), .second, .val (.long hi), .second, .val (.int (0 : Int32)), .val (.int (p3 &&& (7 : Int32))), .val (.double (9218868437227405312 : UInt64)), .second, .val (.double (Jvm.FP.l2d hi)), .second, .val (.ref b), .val (.long (p2.toInt64)), .second, .unset, .unset, .unset] [(.long lo)]))
      refine own_pre (fun _ kz_ => XS.iloadN X4.here hx rfl (hb hby at_89) rfl kz_) ?_
      show OwnGoes p e below _ (T4.setTop (mkF m 90 #[.val (.int p0), .val (.int p1), .val (.int p2), .val (.int p3), .val (.long lo), .second, .val (.long hi), .second, .val (.int (0 : Int32)), .val (.int (p3 &&& (7 : Int32))), .val (.double (9218868437227405312 : UInt64)), .second, .val (.double (Jvm.FP.l2d hi)), .second, .val (.ref b), .val (.long (p2.toInt64)), .second, .unset, .unset, .unset] [(.int p2), (.long lo)]))
      refine own_pre (fun _ kz_ => XS.iconst X4.here hx rfl (hb hby at_90) kz_) ?_
      show OwnGoes p e below _ (T4.setTop (mkF m 91 #[.val (.int p0), .val (.int p1), .val (.int p2), .val (.int p3), .val (.long lo), .second, .val (.long hi), .second, .val (.int (0 : Int32)), .val (.int (p3 &&& (7 : Int32))), .val (.double (9218868437227405312 : UInt64)), .second, .val (.double (Jvm.FP.l2d hi)), .second, .val (.ref b), .val (.long (p2.toInt64)), .second, .unset, .unset, .unset] [(.int (3 : Int32)), (.int p2), (.long lo)]))
      refine own_pre (fun _ kz_ => XS.iand X4.here hx rfl (hb hby at_91) rfl kz_) ?_
      show OwnGoes p e below _ (T4.setTop (mkF m 92 #[.val (.int p0), .val (.int p1), .val (.int p2), .val (.int p3), .val (.long lo), .second, .val (.long hi), .second, .val (.int (0 : Int32)), .val (.int (p3 &&& (7 : Int32))), .val (.double (9218868437227405312 : UInt64)), .second, .val (.double (Jvm.FP.l2d hi)), .second, .val (.ref b), .val (.long (p2.toInt64)), .second, .unset, .unset, .unset] [(.int (p2 &&& (3 : Int32))), (.long lo)]))
      refine own_pre (fun _ kz_ => XS.iconst X4.here hx rfl (hb hby at_92) kz_) ?_
      show OwnGoes p e below _ (T4.setTop (mkF m 93 #[.val (.int p0), .val (.int p1), .val (.int p2), .val (.int p3), .val (.long lo), .second, .val (.long hi), .second, .val (.int (0 : Int32)), .val (.int (p3 &&& (7 : Int32))), .val (.double (9218868437227405312 : UInt64)), .second, .val (.double (Jvm.FP.l2d hi)), .second, .val (.ref b), .val (.long (p2.toInt64)), .second, .unset, .unset, .unset] [(.int (1 : Int32)), (.int (p2 &&& (3 : Int32))), (.long lo)]))
      refine own_pre (fun _ kz_ => XS.isub X4.here hx rfl (hb hby at_93) rfl kz_) ?_
      show OwnGoes p e below _ (T4.setTop (mkF m 94 #[.val (.int p0), .val (.int p1), .val (.int p2), .val (.int p3), .val (.long lo), .second, .val (.long hi), .second, .val (.int (0 : Int32)), .val (.int (p3 &&& (7 : Int32))), .val (.double (9218868437227405312 : UInt64)), .second, .val (.double (Jvm.FP.l2d hi)), .second, .val (.ref b), .val (.long (p2.toInt64)), .second, .unset, .unset, .unset] [(.int ((p2 &&& (3 : Int32)) - (1 : Int32))), (.long lo)]))
      refine own_pre (fun _ kz_ => XS.i2l X4.here hx rfl (hb hby at_94) rfl kz_) ?_
      show OwnGoes p e below _ (T4.setTop (mkF m 95 #[.val (.int p0), .val (.int p1), .val (.int p2), .val (.int p3), .val (.long lo), .second, .val (.long hi), .second, .val (.int (0 : Int32)), .val (.int (p3 &&& (7 : Int32))), .val (.double (9218868437227405312 : UInt64)), .second, .val (.double (Jvm.FP.l2d hi)), .second, .val (.ref b), .val (.long (p2.toInt64)), .second, .unset, .unset, .unset] [(.long (((p2 &&& (3 : Int32)) - (1 : Int32)).toInt64)), (.long lo)]))
      refine own_pre (fun _ kz_ => XS.ladd X4.here hx rfl (hb hby at_95) rfl kz_) ?_
      show OwnGoes p e below _ (T4.setTop (mkF m 96 #[.val (.int p0), .val (.int p1), .val (.int p2), .val (.int p3), .val (.long lo), .second, .val (.long hi), .second, .val (.int (0 : Int32)), .val (.int (p3 &&& (7 : Int32))), .val (.double (9218868437227405312 : UInt64)), .second, .val (.double (Jvm.FP.l2d hi)), .second, .val (.ref b), .val (.long (p2.toInt64)), .second, .unset, .unset, .unset] [(.long (lo + (((p2 &&& (3 : Int32)) - (1 : Int32)).toInt64)))]))
      refine own_pre (fun _ kz_ => XS.lstore X4.here hx rfl (hb hby at_96) rfl (l' := #[.val (.int p0), .val (.int p1), .val (.int p2), .val (.int p3), .val (.long lo), .second, .val (.long hi), .second, .val (.int (0 : Int32)), .val (.int (p3 &&& (7 : Int32))), .val (.double (9218868437227405312 : UInt64)), .second, .val (.double (Jvm.FP.l2d hi)), .second, .val (.ref b), .val (.long (lo + (((p2 &&& (3 : Int32)) - (1 : Int32)).toInt64))), .second, .unset, .unset, .unset]) rfl kz_) ?_
      show OwnGoes p e below _ (T4.setTop (mkF m 98 #[.val (.int p0), .val (.int p1), .val (.int p2), .val (.int p3), .val (.long lo), .second, .val (.long hi), .second, .val (.int (0 : Int32)), .val (.int (p3 &&& (7 : Int32))), .val (.double (9218868437227405312 : UInt64)), .second, .val (.double (Jvm.FP.l2d hi)), .second, .val (.ref b), .val (.long (lo + (((p2 &&& (3 : Int32)) - (1 : Int32)).toInt64))), .second, .unset, .unset, .unset] []))
      refine own_pre (fun _ kz_ => XS.goto X4.here hx rfl (pc0 := 98) (pc' := 118) rfl (hb hby at_98) (by decide) (by decide) kz_) ?_
      show OwnGoes p e below _ (T4.setTop (mkF m 118 #[.val (.int p0), .val (.int p1), .val (.int p2), .val (.int p3), .val (.long lo), .second, .val (.long hi), .second, .val (.int (0 : Int32)), .val (.int (p3 &&& (7 : Int32))), .val (.double (9218868437227405312 : UInt64)), .second, .val (.double (Jvm.FP.l2d hi)), .second, .val (.ref b), .val (.long (lo + (((p2 &&& (3 : Int32)) - (1 : Int32)).toInt64))), .second, .unset, .unset, .unset] []))
      have q := own_near lo p2 (by omega) (by omega)
      exact J118 _ (by omega) (by omega)
    · refine own_pre (fun _ kz_ => XS.icmpYes X4.here hx rfl (pc0 := 84) (pc' := 101) rfl (hb hby at_84) rfl (feq h84).2 (by decide) (by decide) kz_) ?_
      show OwnGoes p e below _ (T4.setTop (mkF m 101 #[.val (.int p0), .val (.int p1), .val (.int p2), .val (.int p3), .val (.long lo), .second, .val (.long hi), .second, .val (.int (0 : Int32)), .val (.int (p3 &&& (7 : Int32))), .val (.double (9218868437227405312 : UInt64)), .second, .val (.double (Jvm.FP.l2d hi)), .second, .val (.ref b), .val (.long (p2.toInt64)), .second, .unset, .unset, .unset] []))
      refine own_pre (fun _ kz_ => XS.iload X4.here hx rfl (hb hby at_101) rfl kz_) ?_
      show OwnGoes p e below _ (T4.setTop (mkF m 103 #[.val (.int p0), .val (.int p1), .val (.int p2), .val (.int p3), .val (.long lo), .second, .val (.long hi), .second, .val (.int (0 : Int32)), .val (.int (p3 &&& (7 : Int32))), .val (.double (9218868437227405312 : UInt64)), .second, .val (.double (Jvm.FP.l2d hi)), .second, .val (.ref b), .val (.long (p2.toInt64)), .second, .unset, .unset, .unset] [(.int (p3 &&& (7 : Int32)))]))
      refine own_pre (fun _ kz_ => XS.iconst X4.here hx rfl (hb hby at_103) kz_) ?_
      show OwnGoes p e below _ (T4.setTop (mkF m 104 #[.val (.int p0), .val (.int p1), .val (.int p2), .val (.int p3), .val (.long lo), .second, .val (.long hi), .second, .val (.int (0 : Int32)), .val (.int (p3 &&& (7 : Int32))), .val (.double (9218868437227405312 : UInt64)), .second, .val (.double (Jvm.FP.l2d hi)), .second, .val (.ref b), .val (.long (p2.toInt64)), .second, .unset, .unset, .unset] [(.int (2 : Int32)), (.int (p3 &&& (7 : Int32)))]))
      by_cases h104 : (p3 &&& (7 : Int32)) = (2 : Int32)
      · refine own_pre (fun _ kz_ => XS.icmpNo X4.here hx rfl (hb hby at_104) rfl (teq h104).2 kz_) ?_
        show OwnGoes p e below _ (T4.setTop (mkF m 107 #[.val (.int p0), .val (.int p1), .val (.int p2), .val (.int p3), .val (.long lo), .second, .val (.long hi), .second, .val (.int (0 : Int32)), .val (.int (p3 &&& (7 : Int32))), .val (.double (9218868437227405312 : UInt64)), .second, .val (.double (Jvm.FP.l2d hi)), .second, .val (.ref b), .val (.long (p2.toInt64)), .second, .unset, .unset, .unset] []))
        refine own_pre (fun _ kz_ => XS.lload X4.here hx rfl (hb hby at_107) rfl kz_) ?_
        show OwnGoes p e below _ (T4.setTop (mkF m 109 #[.val (.int p0), .val (.int p1), .val (.int p2), .val (.int p3), .val (.long lo), .second, .val (.long hi), .second, .val (.int (0 : Int32)), .val (.int (p3 &&& (7 : Int32))), .val (.double (9218868437227405312 : UInt64)), .second, .val (.double (Jvm.FP.l2d hi)), .second, .val (.ref b), .val (.long (p2.toInt64)), .second, .unset, .unset, .unset] [(.long hi)]))
        refine own_pre (fun _ kz_ => XS.iloadN X4.here hx rfl (hb hby at_109) rfl kz_) ?_
        show OwnGoes p e below _ (T4.setTop (mkF m 110 #[.val (.int p0), .val (.int p1), .val (.int p2), .val (.int p3), .val (.long lo), .second, .val (.long hi), .second, .val (.int (0 : Int32)), .val (.int (p3 &&& (7 : Int32))), .val (.double (9218868437227405312 : UInt64)), .second, .val (.double (Jvm.FP.l2d hi)), .second, .val (.ref b), .val (.long (p2.toInt64)), .second, .unset, .unset, .unset] [(.int p2), (.long hi)]))
        refine own_pre (fun _ kz_ => XS.iconst X4.here hx rfl (hb hby at_110) kz_) ?_
        show OwnGoes p e below _ (T4.setTop (mkF m 111 #[.val (.int p0), .val (.int p1), .val (.int p2), .val (.int p3), .val (.long lo), .second, .val (.long hi), .second, .val (.int (0 : Int32)), .val (.int (p3 &&& (7 : Int32))), .val (.double (9218868437227405312 : UInt64)), .second, .val (.double (Jvm.FP.l2d hi)), .second, .val (.ref b), .val (.long (p2.toInt64)), .second, .unset, .unset, .unset] [(.int (3 : Int32)), (.int p2), (.long hi)]))
        refine own_pre (fun _ kz_ => XS.iand X4.here hx rfl (hb hby at_111) rfl kz_) ?_
        show OwnGoes p e below _ (T4.setTop (mkF m 112 #[.val (.int p0), .val (.int p1), .val (.int p2), .val (.int p3), .val (.long lo), .second, .val (.long hi), .second, .val (.int (0 : Int32)), .val (.int (p3 &&& (7 : Int32))), .val (.double (9218868437227405312 : UInt64)), .second, .val (.double (Jvm.FP.l2d hi)), .second, .val (.ref b), .val (.long (p2.toInt64)), .second, .unset, .unset, .unset] [(.int (p2 &&& (3 : Int32))), (.long hi)]))
        refine own_pre (fun _ kz_ => XS.iconst X4.here hx rfl (hb hby at_112) kz_) ?_
        show OwnGoes p e below _ (T4.setTop (mkF m 113 #[.val (.int p0), .val (.int p1), .val (.int p2), .val (.int p3), .val (.long lo), .second, .val (.long hi), .second, .val (.int (0 : Int32)), .val (.int (p3 &&& (7 : Int32))), .val (.double (9218868437227405312 : UInt64)), .second, .val (.double (Jvm.FP.l2d hi)), .second, .val (.ref b), .val (.long (p2.toInt64)), .second, .unset, .unset, .unset] [(.int (1 : Int32)), (.int (p2 &&& (3 : Int32))), (.long hi)]))
        refine own_pre (fun _ kz_ => XS.isub X4.here hx rfl (hb hby at_113) rfl kz_) ?_
        show OwnGoes p e below _ (T4.setTop (mkF m 114 #[.val (.int p0), .val (.int p1), .val (.int p2), .val (.int p3), .val (.long lo), .second, .val (.long hi), .second, .val (.int (0 : Int32)), .val (.int (p3 &&& (7 : Int32))), .val (.double (9218868437227405312 : UInt64)), .second, .val (.double (Jvm.FP.l2d hi)), .second, .val (.ref b), .val (.long (p2.toInt64)), .second, .unset, .unset, .unset] [(.int ((p2 &&& (3 : Int32)) - (1 : Int32))), (.long hi)]))
        refine own_pre (fun _ kz_ => XS.i2l X4.here hx rfl (hb hby at_114) rfl kz_) ?_
        show OwnGoes p e below _ (T4.setTop (mkF m 115 #[.val (.int p0), .val (.int p1), .val (.int p2), .val (.int p3), .val (.long lo), .second, .val (.long hi), .second, .val (.int (0 : Int32)), .val (.int (p3 &&& (7 : Int32))), .val (.double (9218868437227405312 : UInt64)), .second, .val (.double (Jvm.FP.l2d hi)), .second, .val (.ref b), .val (.long (p2.toInt64)), .second, .unset, .unset, .unset] [(.long (((p2 &&& (3 : Int32)) - (1 : Int32)).toInt64)), (.long hi)]))
        refine own_pre (fun _ kz_ => XS.ladd X4.here hx rfl (hb hby at_115) rfl kz_) ?_
        show OwnGoes p e below _ (T4.setTop (mkF m 116 #[.val (.int p0), .val (.int p1), .val (.int p2), .val (.int p3), .val (.long lo), .second, .val (.long hi), .second, .val (.int (0 : Int32)), .val (.int (p3 &&& (7 : Int32))), .val (.double (9218868437227405312 : UInt64)), .second, .val (.double (Jvm.FP.l2d hi)), .second, .val (.ref b), .val (.long (p2.toInt64)), .second, .unset, .unset, .unset] [(.long (hi + (((p2 &&& (3 : Int32)) - (1 : Int32)).toInt64)))]))
        refine own_pre (fun _ kz_ => XS.lstore X4.here hx rfl (hb hby at_116) rfl (l' := #[.val (.int p0), .val (.int p1), .val (.int p2), .val (.int p3), .val (.long lo), .second, .val (.long hi), .second, .val (.int (0 : Int32)), .val (.int (p3 &&& (7 : Int32))), .val (.double (9218868437227405312 : UInt64)), .second, .val (.double (Jvm.FP.l2d hi)), .second, .val (.ref b), .val (.long (hi + (((p2 &&& (3 : Int32)) - (1 : Int32)).toInt64))), .second, .unset, .unset, .unset]) rfl kz_) ?_
        show OwnGoes p e below _ (T4.setTop (mkF m 118 #[.val (.int p0), .val (.int p1), .val (.int p2), .val (.int p3), .val (.long lo), .second, .val (.long hi), .second, .val (.int (0 : Int32)), .val (.int (p3 &&& (7 : Int32))), .val (.double (9218868437227405312 : UInt64)), .second, .val (.double (Jvm.FP.l2d hi)), .second, .val (.ref b), .val (.long (hi + (((p2 &&& (3 : Int32)) - (1 : Int32)).toInt64))), .second, .unset, .unset, .unset] []))
        have q := own_near hi p2 (by omega) (by omega)
        exact J118 _ (by omega) (by omega)
      · refine own_pre (fun _ kz_ => XS.icmpYes X4.here hx rfl (pc0 := 104) (pc' := 118) rfl (hb hby at_104) rfl (feq h104).2 (by decide) (by decide) kz_) ?_
        show OwnGoes p e below _ (T4.setTop (mkF m 118 #[.val (.int p0), .val (.int p1), .val (.int p2), .val (.int p3), .val (.long lo), .second, .val (.long hi), .second, .val (.int (0 : Int32)), .val (.int (p3 &&& (7 : Int32))), .val (.double (9218868437227405312 : UInt64)), .second, .val (.double (Jvm.FP.l2d hi)), .second, .val (.ref b), .val (.long (p2.toInt64)), .second, .unset, .unset, .unset] []))
        have q := rng32 p2
        exact J118 _ (by rw [Int32.toInt_toInt64]; omega) (by rw [Int32.toInt_toInt64]; omega)
  · refine own_pre (fun _ kz_ => XS.ifNo X0.here hx rfl (hb hby at_24) rfl ((if0 _ _).trans (feq h24).1) kz_) ?_
    show OwnGoes p e below _ (s₁.setTop (mkF m 27 #[.val (.int p0), .val (.int p1), .val (.int p2), .val (.int p3), .val (.long lo), .second, .val (.long hi), .second, .unset, .unset, .unset, .unset, .unset, .unset, .unset, .unset, .unset, .unset, .unset, .unset] []))
    refine own_pre (fun _ kz_ => XS.iconst X0.here hx rfl (hb hby at_27) kz_) ?_
    show OwnGoes p e below _ (s₁.setTop (mkF m 28 #[.val (.int p0), .val (.int p1), .val (.int p2), .val (.int p3), .val (.long lo), .second, .val (.long hi), .second, .unset, .unset, .unset, .unset, .unset, .unset, .unset, .unset, .unset, .unset, .unset, .unset] [(.int (1 : Int32))]))
    refine own_pre (fun _ kz_ => XS.goto X0.here hx rfl (pc0 := 28) (pc' := 32) rfl (hb hby at_28) (by decide) (by decide) kz_) ?_
    show OwnGoes p e below _ (s₁.setTop (mkF m 32 #[.val (.int p0), .val (.int p1), .val (.int p2), .val (.int p3), .val (.long lo), .second, .val (.long hi), .second, .unset, .unset, .unset, .unset, .unset, .unset, .unset, .unset, .unset, .unset, .unset, .unset] [(.int (1 : Int32))]))
    refine own_pre (fun _ kz_ => XS.istore X0.here hx rfl (hb hby at_32) rfl (l' := #[.val (.int p0), .val (.int p1), .val (.int p2), .val (.int p3), .val (.long lo), .second, .val (.long hi), .second, .val (.int (1 : Int32)), .unset, .unset, .unset, .unset, .unset, .unset, .unset, .unset, .unset, .unset, .unset]) rfl kz_) ?_
    show OwnGoes p e below _ (s₁.setTop (mkF m 34 #[.val (.int p0), .val (.int p1), .val (.int p2), .val (.int p3), .val (.long lo), .second, .val (.long hi), .second, .val (.int (1 : Int32)), .unset, .unset, .unset, .unset, .unset, .unset, .unset, .unset, .unset, .unset, .unset] []))
    refine own_pre (fun _ kz_ => XS.iloadN X0.here hx rfl (hb hby at_34) rfl kz_) ?_
    show OwnGoes p e below _ (s₁.setTop (mkF m 35 #[.val (.int p0), .val (.int p1), .val (.int p2), .val (.int p3), .val (.long lo), .second, .val (.long hi), .second, .val (.int (1 : Int32)), .unset, .unset, .unset, .unset, .unset, .unset, .unset, .unset, .unset, .unset, .unset] [(.int p3)]))
    refine own_pre (fun _ kz_ => XS.bipush X0.here hx rfl (hb hby at_35) kz_) ?_
    show OwnGoes p e below _ (s₁.setTop (mkF m 37 #[.val (.int p0), .val (.int p1), .val (.int p2), .val (.int p3), .val (.long lo), .second, .val (.long hi), .second, .val (.int (1 : Int32)), .unset, .unset, .unset, .unset, .unset, .unset, .unset, .unset, .unset, .unset, .unset] [(.int (7 : Int32)), (.int p3)]))
    refine own_pre (fun _ kz_ => XS.iand X0.here hx rfl (hb hby at_37) rfl kz_) ?_
    show OwnGoes p e below _ (s₁.setTop (mkF m 38 #[.val (.int p0), .val (.int p1), .val (.int p2), .val (.int p3), .val (.long lo), .second, .val (.long hi), .second, .val (.int (1 : Int32)), .unset, .unset, .unset, .unset, .unset, .unset, .unset, .unset, .unset, .unset, .unset] [(.int (p3 &&& (7 : Int32)))]))
    refine own_pre (fun _ kz_ => XS.istore X0.here hx rfl (hb hby at_38) rfl (l' := #[.val (.int p0), .val (.int p1), .val (.int p2), .val (.int p3), .val (.long lo), .second, .val (.long hi), .second, .val (.int (1 : Int32)), .val (.int (p3 &&& (7 : Int32))), .unset, .unset, .unset, .unset, .unset, .unset, .unset, .unset, .unset, .unset]) rfl kz_) ?_
    show OwnGoes p e below _ (s₁.setTop (mkF m 40 #[.val (.int p0), .val (.int p1), .val (.int p2), .val (.int p3), .val (.long lo), .second, .val (.long hi), .second, .val (.int (1 : Int32)), .val (.int (p3 &&& (7 : Int32))), .unset, .unset, .unset, .unset, .unset, .unset, .unset, .unset, .unset, .unset] []))
    obtain ⟨T6, X6, e6, st6⟩ := getS2 X0 hx hZ hown (host := "") (Or.inl (hw _ (List.mem_of_getElem? (i := 1) rfl))) Via.refl e0 Su (g := (mkF m 40 #[.val (.int p0), .val (.int p1), .val (.int p2), .val (.int p3), .val (.long lo), .second, .val (.long hi), .second, .val (.int (1 : Int32)), .val (.int (p3 &&& (7 : Int32))), .unset, .unset, .unset, .unset, .unset, .unset, .unset, .unset, .unset, .unset] [])) rfl (hb hby at_40)
    refine own_pre st6 ?_
    show OwnGoes p e below _ (T6.setTop (mkF m 43 #[.val (.int p0), .val (.int p1), .val (.int p2), .val (.int p3), .val (.long lo), .second, .val (.long hi), .second, .val (.int (1 : Int32)), .val (.int (p3 &&& (7 : Int32))), .unset, .unset, .unset, .unset, .unset, .unset, .unset, .unset, .unset, .unset] [(.ref u)]))
    obtain ⟨cq7, kq7, q7a, q7b, q7c⟩ := isOf hZ e6 Eu
    obtain ⟨_, _, ⟨T7, L7, k7, n7⟩, -, X7, ⟨Lc7, hQ7, l7, y7, z7⟩, st7⟩ := X6.virtualBack hx (y := (⟨"com/example/dual_bounds/dualbounds/Interval", "upper", "()D"⟩ : MethodName)) (z := (⟨"com/example/dual_bounds/dualbounds/Interval", "upper", "()D"⟩ : MethodName)) hown (mvT hZ (hw _ (List.mem_of_getElem? (i := 4) rfl))) (mvT hZ (hw _ (List.mem_of_getElem? (i := 5) rfl))) (notFace_of_selects (args := #[]) (mvT hZ (hw _ (List.mem_of_getElem? (i := 7) rfl)))) (mvT hZ (hw _ (List.mem_of_getElem? (i := 7) rfl))) (mvT hZ (hw _ (List.mem_of_getElem? (i := 6) rfl))) (by decide) (backOf (W := 0) (rmU l Z a0 hw [] u (9218868437227405312 : UInt64) h0 n0 Z0 FUu) hZ (hw _ (List.mem_of_getElem? (i := 8) rfl)) (hw _ (List.mem_of_getElem? (i := 2) rfl)) (by decide) (by decide)) q7a q7c (g := (mkF m 43 #[.val (.int p0), .val (.int p1), .val (.int p2), .val (.int p3), .val (.long lo), .second, .val (.long hi), .second, .val (.int (1 : Int32)), .val (.int (p3 &&& (7 : Int32))), .unset, .unset, .unset, .unset, .unset, .unset, .unset, .unset, .unset, .unset] [(.ref u)])) rfl (by rw [hml]; rfl) (Steps.refl _) (argsL := []) (rest := []) (lenOf (d := "()D") (ps := []) (r := some .double) (by decide +kernel) rfl) rfl (by show 2 * 0 + _ ≤ _; exact Nat.le_of_eq rfl) (hb hby at_43) (fun _ _ => ⟨rfl, e6, (by decide : 0 + 0 ≤ _), (by decide : 0 + 0 ≤ _)⟩)
    dsimp only [Pt.U, Pt.locs, Pt.cells, Pt.slots] at X7 l7 y7 z7 st7 hQ7
    subst l7 y7 z7
    obtain ⟨rfl, N7q, e7⟩ := hQ7
    have N7 := Fr.app N0 N7q
    refine own_tr st7 ?_
    show OwnGoes p e below _ (T7.setTop (mkF m 46 #[.val (.int p0), .val (.int p1), .val (.int p2), .val (.int p3), .val (.long lo), .second, .val (.long hi), .second, .val (.int (1 : Int32)), .val (.int (p3 &&& (7 : Int32))), .unset, .unset, .unset, .unset, .unset, .unset, .unset, .unset, .unset, .unset] [(.double (9218868437227405312 : UInt64))]))
    refine own_pre (fun _ kz_ => XS.dstore X7.here hx rfl (hb hby at_46) rfl (l' := #[.val (.int p0), .val (.int p1), .val (.int p2), .val (.int p3), .val (.long lo), .second, .val (.long hi), .second, .val (.int (1 : Int32)), .val (.int (p3 &&& (7 : Int32))), .val (.double (9218868437227405312 : UInt64)), .second, .unset, .unset, .unset, .unset, .unset, .unset, .unset, .unset]) rfl kz_) ?_
    show OwnGoes p e below _ (T7.setTop (mkF m 48 #[.val (.int p0), .val (.int p1), .val (.int p2), .val (.int p3), .val (.long lo), .second, .val (.long hi), .second, .val (.int (1 : Int32)), .val (.int (p3 &&& (7 : Int32))), .val (.double (9218868437227405312 : UInt64)), .second, .unset, .unset, .unset, .unset, .unset, .unset, .unset, .unset] []))
    refine own_pre (fun _ kz_ => XS.iload X7.here hx rfl (hb hby at_48) rfl kz_) ?_
    show OwnGoes p e below _ (T7.setTop (mkF m 50 #[.val (.int p0), .val (.int p1), .val (.int p2), .val (.int p3), .val (.long lo), .second, .val (.long hi), .second, .val (.int (1 : Int32)), .val (.int (p3 &&& (7 : Int32))), .val (.double (9218868437227405312 : UInt64)), .second, .unset, .unset, .unset, .unset, .unset, .unset, .unset, .unset] [(.int (1 : Int32))]))
    refine own_pre (fun _ kz_ => XS.ifNo X7.here hx rfl (hb hby at_50) rfl ((if0 _ _).trans (feq (by decide : ¬ ((1 : Int32) = (0 : Int32)))).1) kz_) ?_
    show OwnGoes p e below _ (T7.setTop (mkF m 53 #[.val (.int p0), .val (.int p1), .val (.int p2), .val (.int p3), .val (.long lo), .second, .val (.long hi), .second, .val (.int (1 : Int32)), .val (.int (p3 &&& (7 : Int32))), .val (.double (9218868437227405312 : UInt64)), .second, .unset, .unset, .unset, .unset, .unset, .unset, .unset, .unset] []))
    refine own_pre (fun _ kz_ => XS.dload X7.here hx rfl (hb hby at_53) rfl kz_) ?_
    show OwnGoes p e below _ (T7.setTop (mkF m 55 #[.val (.int p0), .val (.int p1), .val (.int p2), .val (.int p3), .val (.long lo), .second, .val (.long hi), .second, .val (.int (1 : Int32)), .val (.int (p3 &&& (7 : Int32))), .val (.double (9218868437227405312 : UInt64)), .second, .unset, .unset, .unset, .unset, .unset, .unset, .unset, .unset] [(.double (9218868437227405312 : UInt64))]))
    refine own_pre (fun _ kz_ => XS.goto X7.here hx rfl (pc0 := 55) (pc' := 61) rfl (hb hby at_55) (by decide) (by decide) kz_) ?_
    show OwnGoes p e below _ (T7.setTop (mkF m 61 #[.val (.int p0), .val (.int p1), .val (.int p2), .val (.int p3), .val (.long lo), .second, .val (.long hi), .second, .val (.int (1 : Int32)), .val (.int (p3 &&& (7 : Int32))), .val (.double (9218868437227405312 : UInt64)), .second, .unset, .unset, .unset, .unset, .unset, .unset, .unset, .unset] [(.double (9218868437227405312 : UInt64))]))
    refine own_pre (fun _ kz_ => XS.dstore X7.here hx rfl (hb hby at_61) rfl (l' := #[.val (.int p0), .val (.int p1), .val (.int p2), .val (.int p3), .val (.long lo), .second, .val (.long hi), .second, .val (.int (1 : Int32)), .val (.int (p3 &&& (7 : Int32))), .val (.double (9218868437227405312 : UInt64)), .second, .val (.double (9218868437227405312 : UInt64)), .second, .unset, .unset, .unset, .unset, .unset, .unset]) rfl kz_) ?_
    show OwnGoes p e below _ (T7.setTop (mkF m 63 #[.val (.int p0), .val (.int p1), .val (.int p2), .val (.int p3), .val (.long lo), .second, .val (.long hi), .second, .val (.int (1 : Int32)), .val (.int (p3 &&& (7 : Int32))), .val (.double (9218868437227405312 : UInt64)), .second, .val (.double (9218868437227405312 : UInt64)), .second, .unset, .unset, .unset, .unset, .unset, .unset] []))
    obtain ⟨T8, h8, X8, e8, E8, A8, D8, -, st8⟩ := newO X7 hx hZ hown (hw _ (List.mem_of_getElem? (i := 11) rfl)) (hw _ (List.mem_of_getElem? (i := 12) rfl)) (hw _ (List.mem_of_getElem? (i := 2) rfl)) e7 (g := (mkF m 63 #[.val (.int p0), .val (.int p1), .val (.int p2), .val (.int p3), .val (.long lo), .second, .val (.long hi), .second, .val (.int (1 : Int32)), .val (.int (p3 &&& (7 : Int32))), .val (.double (9218868437227405312 : UInt64)), .second, .val (.double (9218868437227405312 : UInt64)), .second, .unset, .unset, .unset, .unset, .unset, .unset] [])) rfl (hb hby at_63) (by decide) (by decide)
    obtain ⟨b, g8⟩ : ∃ z, z = h0.size := ⟨_, rfl⟩
    rw [← g8] at A8 D8 st8
    have g_b : n0 ≤ b := Nat.le_trans Z0 (Nat.le_of_eq g8.symm)
    have sz_b : h0.size ≤ b := Nat.le_trans ((Keep.refl h0 [])).1 (Nat.le_of_eq g8.symm)
    have f8_1 := Su.ext E8
    have K8 := ((Keep.refl h0 [])).ext E8
    have Z8 := Nat.le_trans Z0 E8.1
    have F8_upper : Fld Z h8 b "com/example/dual_bounds/dualbounds/Interval" "upper" "D" (.double (0 : UInt64)) := D8 (Or.inr (hw _ (List.mem_of_getElem? (i := 10) rfl))) (ty := .double) (by decide)
    have F8_lower : Fld Z h8 b "com/example/dual_bounds/dualbounds/Interval" "lower" "D" (.double (0 : UInt64)) := D8 (Or.inr (hw _ (List.mem_of_getElem? (i := 26) rfl))) (ty := .double) (by decide)
    refine own_pre st8 ?_
    show OwnGoes p e below _ (T8.setTop (mkF m 66 #[.val (.int p0), .val (.int p1), .val (.int p2), .val (.int p3), .val (.long lo), .second, .val (.long hi), .second, .val (.int (1 : Int32)), .val (.int (p3 &&& (7 : Int32))), .val (.double (9218868437227405312 : UInt64)), .second, .val (.double (9218868437227405312 : UInt64)), .second, .unset, .unset, .unset, .unset, .unset, .unset] [(.ref b)]))
    refine own_pre (fun _ kz_ => XS.dup X8.here hx rfl (hb hby at_66) rfl rfl kz_) ?_
    show OwnGoes p e below _ (T8.setTop (mkF m 67 #[.val (.int p0), .val (.int p1), .val (.int p2), .val (.int p3), .val (.long lo), .second, .val (.long hi), .second, .val (.int (1 : Int32)), .val (.int (p3 &&& (7 : Int32))), .val (.double (9218868437227405312 : UInt64)), .second, .val (.double (9218868437227405312 : UInt64)), .second, .unset, .unset, .unset, .unset, .unset, .unset] [(.ref b), (.ref b)]))
    refine own_pre (fun _ kz_ => XS.lload X8.here hx rfl (hb hby at_67) rfl kz_) ?_
    show OwnGoes p e below _ (T8.setTop (mkF m 69 #[.val (.int p0), .val (.int p1), .val (.int p2), .val (.int p3), .val (.long lo), .second, .val (.long hi), .second, .val (.int (1 : Int32)), .val (.int (p3 &&& (7 : Int32))), .val (.double (9218868437227405312 : UInt64)), .second, .val (.double (9218868437227405312 : UInt64)), .second, .unset, .unset, .unset, .unset, .unset, .unset] [(.long lo), (.ref b), (.ref b)]))
    refine own_pre (fun _ kz_ => XS.l2dS X8.here hx rfl (hb hby at_69) rfl rfl kz_) ?_
    show OwnGoes p e below _ (T8.setTop (mkF m 70 #[.val (.int p0), .val (.int p1), .val (.int p2), .val (.int p3), .val (.long lo), .second, .val (.long hi), .second, .val (.int (1 : Int32)), .val (.int (p3 &&& (7 : Int32))), .val (.double (9218868437227405312 : UInt64)), .second, .val (.double (9218868437227405312 : UInt64)), .second, .unset, .unset, .unset, .unset, .unset, .unset] [(.double (Jvm.FP.l2d lo)), (.ref b), (.ref b)]))
    refine own_pre (fun _ kz_ => XS.dload X8.here hx rfl (hb hby at_70) rfl kz_) ?_
    show OwnGoes p e below _ (T8.setTop (mkF m 72 #[.val (.int p0), .val (.int p1), .val (.int p2), .val (.int p3), .val (.long lo), .second, .val (.long hi), .second, .val (.int (1 : Int32)), .val (.int (p3 &&& (7 : Int32))), .val (.double (9218868437227405312 : UInt64)), .second, .val (.double (9218868437227405312 : UInt64)), .second, .unset, .unset, .unset, .unset, .unset, .unset] [(.double (9218868437227405312 : UInt64)), (.double (Jvm.FP.l2d lo)), (.ref b), (.ref b)]))
    obtain ⟨_, _, ⟨T9, L9, k9, n9⟩, -, X9, ⟨Lc9, hQ9, l9, y9, z9⟩, st9⟩ := X8.specialBack hx (y := (⟨"com/example/dual_bounds/dualbounds/Interval", "<init>", "(DD)V"⟩ : MethodName)) rfl hown (mvT hZ (hw _ (List.mem_of_getElem? (i := 13) rfl))) (mvT hZ (hw _ (List.mem_of_getElem? (i := 14) rfl))) (mvT hZ (hw _ (List.mem_of_getElem? (i := 15) rfl))) (by decide) (backOf (W := 1) (rmI l Z a0 hw [] b (Jvm.FP.l2d lo) (9218868437227405312 : UInt64) h8 n0 Z8 A8 F8_lower F8_upper g_b (own_le _ (by omega) (own_b (by omega) (by omega))) (by rw [Jvm.RoadKit.dcmp_pinf (Jvm.Free.Fl.l2d_fin _)]; decide) (by rw [Jvm.RoadKit.dcmp_pinf' (Jvm.Free.Fl.l2d_fin _)]; decide)) hZ (hw _ (List.mem_of_getElem? (i := 15) rfl)) (hw _ (List.mem_of_getElem? (i := 2) rfl)) (by decide) (by decide)) (g := (mkF m 72 #[.val (.int p0), .val (.int p1), .val (.int p2), .val (.int p3), .val (.long lo), .second, .val (.long hi), .second, .val (.int (1 : Int32)), .val (.int (p3 &&& (7 : Int32))), .val (.double (9218868437227405312 : UInt64)), .second, .val (.double (9218868437227405312 : UInt64)), .second, .unset, .unset, .unset, .unset, .unset, .unset] [(.double (9218868437227405312 : UInt64)), (.double (Jvm.FP.l2d lo)), (.ref b), (.ref b)])) rfl (by rw [hml]; rfl) (Steps.refl _) (a := b) (argsL := [(.double (Jvm.FP.l2d lo)), (.double (9218868437227405312 : UInt64))]) (rest := [(.ref b)]) (lenOf (d := "(DD)V") (ps := [.double, .double]) (r := none) (by decide +kernel) rfl) rfl (by show 2 * 0 + _ ≤ _; exact Nat.le_of_eq rfl) (hb hby at_72) (fun _ _ => ⟨rfl, e8, (by decide : 1 + 0 ≤ _), (by decide : 2 + 0 ≤ _)⟩)
    dsimp only [Pt.U, Pt.locs, Pt.cells, Pt.slots] at X9 l9 y9 z9 st9 hQ9
    subst l9 y9 z9
    obtain ⟨rfl, N9q, K9q, E9q, F9q, G9q⟩ := hQ9
    have N9 := Fr.app N7 N9q
    refine own_tr st9 ?_
    have f9_3 := A8.keep K9q
    have Z9 := Nat.le_trans Z8 K9q.1
    have KK9 := (K8).trans K9q (fun x hx => by simp only [List.mem_cons, List.not_mem_nil, or_false] at hx; rcases hx with rfl <;> first | exact Or.inl (List.mem_of_getElem? (i := 0) rfl) | exact Or.inl (List.mem_of_getElem? (i := 1) rfl) | exact Or.inr sz_b )
    show OwnGoes p e below _ (T9.setTop (mkF m 75 #[.val (.int p0), .val (.int p1), .val (.int p2), .val (.int p3), .val (.long lo), .second, .val (.long hi), .second, .val (.int (1 : Int32)), .val (.int (p3 &&& (7 : Int32))), .val (.double (9218868437227405312 : UInt64)), .second, .val (.double (9218868437227405312 : UInt64)), .second, .unset, .unset, .unset, .unset, .unset, .unset] [(.ref b)]))
    refine own_pre (fun _ kz_ => XS.astore X9.here hx rfl (hb hby at_75) rfl rfl (l' := #[.val (.int p0), .val (.int p1), .val (.int p2), .val (.int p3), .val (.long lo), .second, .val (.long hi), .second, .val (.int (1 : Int32)), .val (.int (p3 &&& (7 : Int32))), .val (.double (9218868437227405312 : UInt64)), .second, .val (.double (9218868437227405312 : UInt64)), .second, .val (.ref b), .unset, .unset, .unset, .unset, .unset]) rfl kz_) ?_
    have J210 : ∀ (xv : Int64) (xd : UInt64) (ex : Int32) (hex : ex = own_con (Jvm.FP.l2d lo) (9218868437227405312 : UInt64) xd), OwnGoes p e below (fun o U' => ∃ v L, o = .returned v ∧ Q0 h0 n0 v U'.heap L ∧ FrameEnd s o U' L room_1.cells room_1.slots) (T9.setTop (mkF m 210 #[.val (.int p0), .val (.int p1), .val (.int p2), .val (.int p3), .val (.long lo), .second, .val (.long hi), .second, .val (.int (1 : Int32)), .val (.int (p3 &&& (7 : Int32))), .val (.double (9218868437227405312 : UInt64)), .second, .val (.double (9218868437227405312 : UInt64)), .second, .val (.ref b), .val (.long xv), .second, .val (.double xd), .second, .val (.int ex)] [])) := by
      intro xv xd ex hex
      show OwnGoes p e below _ (T9.setTop (mkF m 210 #[.val (.int p0), .val (.int p1), .val (.int p2), .val (.int p3), .val (.long lo), .second, .val (.long hi), .second, .val (.int (1 : Int32)), .val (.int (p3 &&& (7 : Int32))), .val (.double (9218868437227405312 : UInt64)), .second, .val (.double (9218868437227405312 : UInt64)), .second, .val (.ref b), .val (.long xv), .second, .val (.double xd), .second, .val (.int ex)] []))
      refine own_pre (fun _ kz_ => XS.aload X9.here hx rfl (hb hby at_210) rfl rfl kz_) ?_
      show OwnGoes p e below _ (T9.setTop (mkF m 212 #[.val (.int p0), .val (.int p1), .val (.int p2), .val (.int p3), .val (.long lo), .second, .val (.long hi), .second, .val (.int (1 : Int32)), .val (.int (p3 &&& (7 : Int32))), .val (.double (9218868437227405312 : UInt64)), .second, .val (.double (9218868437227405312 : UInt64)), .second, .val (.ref b), .val (.long xv), .second, .val (.double xd), .second, .val (.int ex)] [(.ref b)]))
      refine own_pre (fun _ kz_ => XS.dload X9.here hx rfl (hb hby at_212) rfl kz_) ?_
      show OwnGoes p e below _ (T9.setTop (mkF m 214 #[.val (.int p0), .val (.int p1), .val (.int p2), .val (.int p3), .val (.long lo), .second, .val (.long hi), .second, .val (.int (1 : Int32)), .val (.int (p3 &&& (7 : Int32))), .val (.double (9218868437227405312 : UInt64)), .second, .val (.double (9218868437227405312 : UInt64)), .second, .val (.ref b), .val (.long xv), .second, .val (.double xd), .second, .val (.int ex)] [(.double xd), (.ref b)]))
      obtain ⟨cq10, kq10, q10a, q10b, q10c⟩ := isOf hZ rfl E9q
      obtain ⟨_, _, ⟨T10, L10, k10, n10⟩, -, X10, ⟨Lc10, hQ10, l10, y10, z10⟩, st10⟩ := X9.virtualBack hx (y := (⟨"com/example/dual_bounds/dualbounds/Interval", "contains", "(D)Z"⟩ : MethodName)) (z := (⟨"com/example/dual_bounds/dualbounds/Interval", "contains", "(D)Z"⟩ : MethodName)) hown (mvT hZ (hw _ (List.mem_of_getElem? (i := 27) rfl))) (mvT hZ (hw _ (List.mem_of_getElem? (i := 28) rfl))) (notFace_of_selects (args := #[]) (mvT hZ (hw _ (List.mem_of_getElem? (i := 30) rfl)))) (mvT hZ (hw _ (List.mem_of_getElem? (i := 30) rfl))) (mvT hZ (hw _ (List.mem_of_getElem? (i := 29) rfl))) (by decide) (backOf (W := 0) (rmC l Z a0 hw [] b (Jvm.FP.l2d lo) (9218868437227405312 : UInt64) xd ex T9.heap n0 Z9 F9q G9q hex) hZ (hw _ (List.mem_of_getElem? (i := 31) rfl)) (hw _ (List.mem_of_getElem? (i := 2) rfl)) (by decide) (by decide)) q10a q10c (g := (mkF m 214 #[.val (.int p0), .val (.int p1), .val (.int p2), .val (.int p3), .val (.long lo), .second, .val (.long hi), .second, .val (.int (1 : Int32)), .val (.int (p3 &&& (7 : Int32))), .val (.double (9218868437227405312 : UInt64)), .second, .val (.double (9218868437227405312 : UInt64)), .second, .val (.ref b), .val (.long xv), .second, .val (.double xd), .second, .val (.int ex)] [(.double xd), (.ref b)])) rfl (by rw [hml]; rfl) (Steps.refl _) (argsL := [(.double xd)]) (rest := []) (lenOf (d := "(D)Z") (ps := [.double]) (r := some .boolean) (by decide +kernel) rfl) rfl (by show 2 * 0 + _ ≤ _; exact Nat.le_of_eq rfl) (hb hby at_214) (fun _ _ => ⟨rfl, rfl, (by decide : 1 + 0 ≤ _), (by decide : 2 + 0 ≤ _)⟩)
      dsimp only [Pt.U, Pt.locs, Pt.cells, Pt.slots] at X10 l10 y10 z10 st10 hQ10
      subst l10 y10 z10
      obtain ⟨rfl, N10q, e10⟩ := hQ10
      have N10 := Fr.app N9 N10q
      refine own_tr st10 ?_
      show OwnGoes p e below _ (T10.setTop (mkF m 217 #[.val (.int p0), .val (.int p1), .val (.int p2), .val (.int p3), .val (.long lo), .second, .val (.long hi), .second, .val (.int (1 : Int32)), .val (.int (p3 &&& (7 : Int32))), .val (.double (9218868437227405312 : UInt64)), .second, .val (.double (9218868437227405312 : UInt64)), .second, .val (.ref b), .val (.long xv), .second, .val (.double xd), .second, .val (.int ex)] [(.int ex)]))
      refine own_pre (fun _ kz_ => XS.iload X10.here hx rfl (hb hby at_217) rfl kz_) ?_
      show OwnGoes p e below _ (T10.setTop (mkF m 219 #[.val (.int p0), .val (.int p1), .val (.int p2), .val (.int p3), .val (.long lo), .second, .val (.long hi), .second, .val (.int (1 : Int32)), .val (.int (p3 &&& (7 : Int32))), .val (.double (9218868437227405312 : UInt64)), .second, .val (.double (9218868437227405312 : UInt64)), .second, .val (.ref b), .val (.long xv), .second, .val (.double xd), .second, .val (.int ex)] [(.int ex), (.int ex)]))
      refine own_pre (fun _ kz_ => XS.icmpNo X10.here hx rfl (hb hby at_219) rfl (teq (rfl : ex = ex)).2 kz_) ?_
      show OwnGoes p e below _ (T10.setTop (mkF m 222 #[.val (.int p0), .val (.int p1), .val (.int p2), .val (.int p3), .val (.long lo), .second, .val (.long hi), .second, .val (.int (1 : Int32)), .val (.int (p3 &&& (7 : Int32))), .val (.double (9218868437227405312 : UInt64)), .second, .val (.double (9218868437227405312 : UInt64)), .second, .val (.ref b), .val (.long xv), .second, .val (.double xd), .second, .val (.int ex)] []))
      refine own_pre (fun _ kz_ => XS.iconst X10.here hx rfl (hb hby at_222) kz_) ?_
      show OwnGoes p e below _ (T10.setTop (mkF m 223 #[.val (.int p0), .val (.int p1), .val (.int p2), .val (.int p3), .val (.long lo), .second, .val (.long hi), .second, .val (.int (1 : Int32)), .val (.int (p3 &&& (7 : Int32))), .val (.double (9218868437227405312 : UInt64)), .second, .val (.double (9218868437227405312 : UInt64)), .second, .val (.ref b), .val (.long xv), .second, .val (.double xd), .second, .val (.int ex)] [(.int (1 : Int32))]))
      refine own_pre (fun _ kz_ => XS.goto X10.here hx rfl (pc0 := 223) (pc' := 227) rfl (hb hby at_223) (by decide) (by decide) kz_) ?_
      show OwnGoes p e below _ (T10.setTop (mkF m 227 #[.val (.int p0), .val (.int p1), .val (.int p2), .val (.int p3), .val (.long lo), .second, .val (.long hi), .second, .val (.int (1 : Int32)), .val (.int (p3 &&& (7 : Int32))), .val (.double (9218868437227405312 : UInt64)), .second, .val (.double (9218868437227405312 : UInt64)), .second, .val (.ref b), .val (.long xv), .second, .val (.double xd), .second, .val (.int ex)] [(.int (1 : Int32))]))
      exact own_ret X10 hx Bd.returns (rfl) (Or.inl ⟨rfl, by simp, _, rfl⟩) Bd.notSynchronized (hb hby at_227) ⟨rfl, N10⟩ (by decide) (by decide)
    have J151 : ∀ (xv : Int64) (xd : UInt64) (ex : Int32) (hex : ex = own_con (Jvm.FP.l2d lo) (9218868437227405312 : UInt64) xd), OwnGoes p e below (fun o U' => ∃ v L, o = .returned v ∧ Q0 h0 n0 v U'.heap L ∧ FrameEnd s o U' L room_1.cells room_1.slots) (T9.setTop (mkF m 151 #[.val (.int p0), .val (.int p1), .val (.int p2), .val (.int p3), .val (.long lo), .second, .val (.long hi), .second, .val (.int (1 : Int32)), .val (.int (p3 &&& (7 : Int32))), .val (.double (9218868437227405312 : UInt64)), .second, .val (.double (9218868437227405312 : UInt64)), .second, .val (.ref b), .val (.long xv), .second, .val (.double xd), .second, .val (.int ex)] [])) := by
      intro xv xd ex hex
      show OwnGoes p e below _ (T9.setTop (mkF m 151 #[.val (.int p0), .val (.int p1), .val (.int p2), .val (.int p3), .val (.long lo), .second, .val (.long hi), .second, .val (.int (1 : Int32)), .val (.int (p3 &&& (7 : Int32))), .val (.double (9218868437227405312 : UInt64)), .second, .val (.double (9218868437227405312 : UInt64)), .second, .val (.ref b), .val (.long xv), .second, .val (.double xd), .second, .val (.int ex)] []))
      refine own_pre (fun _ kz_ => XS.iload X9.here hx rfl (hb hby at_151) rfl kz_) ?_
      show OwnGoes p e below _ (T9.setTop (mkF m 153 #[.val (.int p0), .val (.int p1), .val (.int p2), .val (.int p3), .val (.long lo), .second, .val (.long hi), .second, .val (.int (1 : Int32)), .val (.int (p3 &&& (7 : Int32))), .val (.double (9218868437227405312 : UInt64)), .second, .val (.double (9218868437227405312 : UInt64)), .second, .val (.ref b), .val (.long xv), .second, .val (.double xd), .second, .val (.int ex)] [(.int (p3 &&& (7 : Int32)))]))
      refine own_pre (fun _ kz_ => XS.iconst X9.here hx rfl (hb hby at_153) kz_) ?_
      show OwnGoes p e below _ (T9.setTop (mkF m 154 #[.val (.int p0), .val (.int p1), .val (.int p2), .val (.int p3), .val (.long lo), .second, .val (.long hi), .second, .val (.int (1 : Int32)), .val (.int (p3 &&& (7 : Int32))), .val (.double (9218868437227405312 : UInt64)), .second, .val (.double (9218868437227405312 : UInt64)), .second, .val (.ref b), .val (.long xv), .second, .val (.double xd), .second, .val (.int ex)] [(.int (3 : Int32)), (.int (p3 &&& (7 : Int32)))]))
      by_cases h154 : (p3 &&& (7 : Int32)) = (3 : Int32)
      · refine own_pre (fun _ kz_ => XS.icmpNo X9.here hx rfl (hb hby at_154) rfl (teq h154).2 kz_) ?_
        show OwnGoes p e below _ (T9.setTop (mkF m 157 #[.val (.int p0), .val (.int p1), .val (.int p2), .val (.int p3), .val (.long lo), .second, .val (.long hi), .second, .val (.int (1 : Int32)), .val (.int (p3 &&& (7 : Int32))), .val (.double (9218868437227405312 : UInt64)), .second, .val (.double (9218868437227405312 : UInt64)), .second, .val (.ref b), .val (.long xv), .second, .val (.double xd), .second, .val (.int ex)] []))
        refine own_pre (fun _ kz_ => XS.dload X9.here hx rfl (hb hby at_157) rfl kz_) ?_
        show OwnGoes p e below _ (T9.setTop (mkF m 159 #[.val (.int p0), .val (.int p1), .val (.int p2), .val (.int p3), .val (.long lo), .second, .val (.long hi), .second, .val (.int (1 : Int32)), .val (.int (p3 &&& (7 : Int32))), .val (.double (9218868437227405312 : UInt64)), .second, .val (.double (9218868437227405312 : UInt64)), .second, .val (.ref b), .val (.long xv), .second, .val (.double xd), .second, .val (.int ex)] [(.double (9218868437227405312 : UInt64))]))
        refine own_pre (fun _ kz_ => XS.dstore X9.here hx rfl (hb hby at_159) rfl (l' := #[.val (.int p0), .val (.int p1), .val (.int p2), .val (.int p3), .val (.long lo), .second, .val (.long hi), .second, .val (.int (1 : Int32)), .val (.int (p3 &&& (7 : Int32))), .val (.double (9218868437227405312 : UInt64)), .second, .val (.double (9218868437227405312 : UInt64)), .second, .val (.ref b), .val (.long xv), .second, .val (.double (9218868437227405312 : UInt64)), .second, .val (.int ex)]) rfl kz_) ?_
        show OwnGoes p e below _ (T9.setTop (mkF m 161 #[.val (.int p0), .val (.int p1), .val (.int p2), .val (.int p3), .val (.long lo), .second, .val (.long hi), .second, .val (.int (1 : Int32)), .val (.int (p3 &&& (7 : Int32))), .val (.double (9218868437227405312 : UInt64)), .second, .val (.double (9218868437227405312 : UInt64)), .second, .val (.ref b), .val (.long xv), .second, .val (.double (9218868437227405312 : UInt64)), .second, .val (.int ex)] []))
        refine own_pre (fun _ kz_ => XS.iload X9.here hx rfl (hb hby at_161) rfl kz_) ?_
        show OwnGoes p e below _ (T9.setTop (mkF m 163 #[.val (.int p0), .val (.int p1), .val (.int p2), .val (.int p3), .val (.long lo), .second, .val (.long hi), .second, .val (.int (1 : Int32)), .val (.int (p3 &&& (7 : Int32))), .val (.double (9218868437227405312 : UInt64)), .second, .val (.double (9218868437227405312 : UInt64)), .second, .val (.ref b), .val (.long xv), .second, .val (.double (9218868437227405312 : UInt64)), .second, .val (.int ex)] [(.int (1 : Int32))]))
        refine own_pre (fun _ kz_ => XS.istore X9.here hx rfl (hb hby at_163) rfl (l' := #[.val (.int p0), .val (.int p1), .val (.int p2), .val (.int p3), .val (.long lo), .second, .val (.long hi), .second, .val (.int (1 : Int32)), .val (.int (p3 &&& (7 : Int32))), .val (.double (9218868437227405312 : UInt64)), .second, .val (.double (9218868437227405312 : UInt64)), .second, .val (.ref b), .val (.long xv), .second, .val (.double (9218868437227405312 : UInt64)), .second, .val (.int (1 : Int32))]) rfl kz_) ?_
        show OwnGoes p e below _ (T9.setTop (mkF m 165 #[.val (.int p0), .val (.int p1), .val (.int p2), .val (.int p3), .val (.long lo), .second, .val (.long hi), .second, .val (.int (1 : Int32)), .val (.int (p3 &&& (7 : Int32))), .val (.double (9218868437227405312 : UInt64)), .second, .val (.double (9218868437227405312 : UInt64)), .second, .val (.ref b), .val (.long xv), .second, .val (.double (9218868437227405312 : UInt64)), .second, .val (.int (1 : Int32))] []))
        refine own_pre (fun _ kz_ => XS.goto X9.here hx rfl (pc0 := 165) (pc' := 210) rfl (hb hby at_165) (by decide) (by decide) kz_) ?_
        show OwnGoes p e below _ (T9.setTop (mkF m 210 #[.val (.int p0), .val (.int p1), .val (.int p2), .val (.int p3), .val (.long lo), .second, .val (.long hi), .second, .val (.int (1 : Int32)), .val (.int (p3 &&& (7 : Int32))), .val (.double (9218868437227405312 : UInt64)), .second, .val (.double (9218868437227405312 : UInt64)), .second, .val (.ref b), .val (.long xv), .second, .val (.double (9218868437227405312 : UInt64)), .second, .val (.int (1 : Int32))] []))
        exact J210 _ _ _ (by unfold own_con; rw [if_neg (own_pinf _)]; rw [if_neg own_infinf])
      · refine own_pre (fun _ kz_ => XS.icmpYes X9.here hx rfl (pc0 := 154) (pc' := 168) rfl (hb hby at_154) rfl (feq h154).2 (by decide) (by decide) kz_) ?_
        show OwnGoes p e below _ (T9.setTop (mkF m 168 #[.val (.int p0), .val (.int p1), .val (.int p2), .val (.int p3), .val (.long lo), .second, .val (.long hi), .second, .val (.int (1 : Int32)), .val (.int (p3 &&& (7 : Int32))), .val (.double (9218868437227405312 : UInt64)), .second, .val (.double (9218868437227405312 : UInt64)), .second, .val (.ref b), .val (.long xv), .second, .val (.double xd), .second, .val (.int ex)] []))
        refine own_pre (fun _ kz_ => XS.iload X9.here hx rfl (hb hby at_168) rfl kz_) ?_
        show OwnGoes p e below _ (T9.setTop (mkF m 170 #[.val (.int p0), .val (.int p1), .val (.int p2), .val (.int p3), .val (.long lo), .second, .val (.long hi), .second, .val (.int (1 : Int32)), .val (.int (p3 &&& (7 : Int32))), .val (.double (9218868437227405312 : UInt64)), .second, .val (.double (9218868437227405312 : UInt64)), .second, .val (.ref b), .val (.long xv), .second, .val (.double xd), .second, .val (.int ex)] [(.int (p3 &&& (7 : Int32)))]))
        refine own_pre (fun _ kz_ => XS.iconst X9.here hx rfl (hb hby at_170) kz_) ?_
        show OwnGoes p e below _ (T9.setTop (mkF m 171 #[.val (.int p0), .val (.int p1), .val (.int p2), .val (.int p3), .val (.long lo), .second, .val (.long hi), .second, .val (.int (1 : Int32)), .val (.int (p3 &&& (7 : Int32))), .val (.double (9218868437227405312 : UInt64)), .second, .val (.double (9218868437227405312 : UInt64)), .second, .val (.ref b), .val (.long xv), .second, .val (.double xd), .second, .val (.int ex)] [(.int (4 : Int32)), (.int (p3 &&& (7 : Int32)))]))
        by_cases h171 : (p3 &&& (7 : Int32)) = (4 : Int32)
        · refine own_pre (fun _ kz_ => XS.icmpNo X9.here hx rfl (hb hby at_171) rfl (teq h171).2 kz_) ?_
          show OwnGoes p e below _ (T9.setTop (mkF m 174 #[.val (.int p0), .val (.int p1), .val (.int p2), .val (.int p3), .val (.long lo), .second, .val (.long hi), .second, .val (.int (1 : Int32)), .val (.int (p3 &&& (7 : Int32))), .val (.double (9218868437227405312 : UInt64)), .second, .val (.double (9218868437227405312 : UInt64)), .second, .val (.ref b), .val (.long xv), .second, .val (.double xd), .second, .val (.int ex)] []))
          refine own_pre (fun _ kz_ => XS.dload X9.here hx rfl (hb hby at_174) rfl kz_) ?_
          show OwnGoes p e below _ (T9.setTop (mkF m 176 #[.val (.int p0), .val (.int p1), .val (.int p2), .val (.int p3), .val (.long lo), .second, .val (.long hi), .second, .val (.int (1 : Int32)), .val (.int (p3 &&& (7 : Int32))), .val (.double (9218868437227405312 : UInt64)), .second, .val (.double (9218868437227405312 : UInt64)), .second, .val (.ref b), .val (.long xv), .second, .val (.double xd), .second, .val (.int ex)] [(.double (9218868437227405312 : UInt64))]))
          refine own_pre (fun _ kz_ => XS.dnegS X9.here hx rfl (hb hby at_176) rfl rfl kz_) ?_
          show OwnGoes p e below _ (T9.setTop (mkF m 177 #[.val (.int p0), .val (.int p1), .val (.int p2), .val (.int p3), .val (.long lo), .second, .val (.long hi), .second, .val (.int (1 : Int32)), .val (.int (p3 &&& (7 : Int32))), .val (.double (9218868437227405312 : UInt64)), .second, .val (.double (9218868437227405312 : UInt64)), .second, .val (.ref b), .val (.long xv), .second, .val (.double xd), .second, .val (.int ex)] [(.double (Jvm.FP.dneg (9218868437227405312 : UInt64)))]))
          refine own_pre (fun _ kz_ => XS.dstore X9.here hx rfl (hb hby at_177) rfl (l' := #[.val (.int p0), .val (.int p1), .val (.int p2), .val (.int p3), .val (.long lo), .second, .val (.long hi), .second, .val (.int (1 : Int32)), .val (.int (p3 &&& (7 : Int32))), .val (.double (9218868437227405312 : UInt64)), .second, .val (.double (9218868437227405312 : UInt64)), .second, .val (.ref b), .val (.long xv), .second, .val (.double (Jvm.FP.dneg (9218868437227405312 : UInt64))), .second, .val (.int ex)]) rfl kz_) ?_
          show OwnGoes p e below _ (T9.setTop (mkF m 179 #[.val (.int p0), .val (.int p1), .val (.int p2), .val (.int p3), .val (.long lo), .second, .val (.long hi), .second, .val (.int (1 : Int32)), .val (.int (p3 &&& (7 : Int32))), .val (.double (9218868437227405312 : UInt64)), .second, .val (.double (9218868437227405312 : UInt64)), .second, .val (.ref b), .val (.long xv), .second, .val (.double (Jvm.FP.dneg (9218868437227405312 : UInt64))), .second, .val (.int ex)] []))
          refine own_pre (fun _ kz_ => XS.iconst X9.here hx rfl (hb hby at_179) kz_) ?_
          show OwnGoes p e below _ (T9.setTop (mkF m 180 #[.val (.int p0), .val (.int p1), .val (.int p2), .val (.int p3), .val (.long lo), .second, .val (.long hi), .second, .val (.int (1 : Int32)), .val (.int (p3 &&& (7 : Int32))), .val (.double (9218868437227405312 : UInt64)), .second, .val (.double (9218868437227405312 : UInt64)), .second, .val (.ref b), .val (.long xv), .second, .val (.double (Jvm.FP.dneg (9218868437227405312 : UInt64))), .second, .val (.int ex)] [(.int (0 : Int32))]))
          refine own_pre (fun _ kz_ => XS.istore X9.here hx rfl (hb hby at_180) rfl (l' := #[.val (.int p0), .val (.int p1), .val (.int p2), .val (.int p3), .val (.long lo), .second, .val (.long hi), .second, .val (.int (1 : Int32)), .val (.int (p3 &&& (7 : Int32))), .val (.double (9218868437227405312 : UInt64)), .second, .val (.double (9218868437227405312 : UInt64)), .second, .val (.ref b), .val (.long xv), .second, .val (.double (Jvm.FP.dneg (9218868437227405312 : UInt64))), .second, .val (.int (0 : Int32))]) rfl kz_) ?_
          show OwnGoes p e below _ (T9.setTop (mkF m 182 #[.val (.int p0), .val (.int p1), .val (.int p2), .val (.int p3), .val (.long lo), .second, .val (.long hi), .second, .val (.int (1 : Int32)), .val (.int (p3 &&& (7 : Int32))), .val (.double (9218868437227405312 : UInt64)), .second, .val (.double (9218868437227405312 : UInt64)), .second, .val (.ref b), .val (.long xv), .second, .val (.double (Jvm.FP.dneg (9218868437227405312 : UInt64))), .second, .val (.int (0 : Int32))] []))
          refine own_pre (fun _ kz_ => XS.goto X9.here hx rfl (pc0 := 182) (pc' := 210) rfl (hb hby at_182) (by decide) (by decide) kz_) ?_
          show OwnGoes p e below _ (T9.setTop (mkF m 210 #[.val (.int p0), .val (.int p1), .val (.int p2), .val (.int p3), .val (.long lo), .second, .val (.long hi), .second, .val (.int (1 : Int32)), .val (.int (p3 &&& (7 : Int32))), .val (.double (9218868437227405312 : UInt64)), .second, .val (.double (9218868437227405312 : UInt64)), .second, .val (.ref b), .val (.long xv), .second, .val (.double (Jvm.FP.dneg (9218868437227405312 : UInt64))), .second, .val (.int (0 : Int32))] []))
          exact J210 _ _ _ (by unfold own_con; rw [if_pos (own_ninf _)])
        · refine own_pre (fun _ kz_ => XS.icmpYes X9.here hx rfl (pc0 := 171) (pc' := 185) rfl (hb hby at_171) rfl (feq h171).2 (by decide) (by decide) kz_) ?_
          show OwnGoes p e below _ (T9.setTop (mkF m 185 #[.val (.int p0), .val (.int p1), .val (.int p2), .val (.int p3), .val (.long lo), .second, .val (.long hi), .second, .val (.int (1 : Int32)), .val (.int (p3 &&& (7 : Int32))), .val (.double (9218868437227405312 : UInt64)), .second, .val (.double (9218868437227405312 : UInt64)), .second, .val (.ref b), .val (.long xv), .second, .val (.double xd), .second, .val (.int ex)] []))
          refine own_pre (fun _ kz_ => XS.iload X9.here hx rfl (hb hby at_185) rfl kz_) ?_
          show OwnGoes p e below _ (T9.setTop (mkF m 187 #[.val (.int p0), .val (.int p1), .val (.int p2), .val (.int p3), .val (.long lo), .second, .val (.long hi), .second, .val (.int (1 : Int32)), .val (.int (p3 &&& (7 : Int32))), .val (.double (9218868437227405312 : UInt64)), .second, .val (.double (9218868437227405312 : UInt64)), .second, .val (.ref b), .val (.long xv), .second, .val (.double xd), .second, .val (.int ex)] [(.int (p3 &&& (7 : Int32)))]))
          refine own_pre (fun _ kz_ => XS.iconst X9.here hx rfl (hb hby at_187) kz_) ?_
          show OwnGoes p e below _ (T9.setTop (mkF m 188 #[.val (.int p0), .val (.int p1), .val (.int p2), .val (.int p3), .val (.long lo), .second, .val (.long hi), .second, .val (.int (1 : Int32)), .val (.int (p3 &&& (7 : Int32))), .val (.double (9218868437227405312 : UInt64)), .second, .val (.double (9218868437227405312 : UInt64)), .second, .val (.ref b), .val (.long xv), .second, .val (.double xd), .second, .val (.int ex)] [(.int (5 : Int32)), (.int (p3 &&& (7 : Int32)))]))
          by_cases h188 : (p3 &&& (7 : Int32)) = (5 : Int32)
          · refine own_pre (fun _ kz_ => XS.icmpNo X9.here hx rfl (hb hby at_188) rfl (teq h188).2 kz_) ?_
            show OwnGoes p e below _ (T9.setTop (mkF m 191 #[.val (.int p0), .val (.int p1), .val (.int p2), .val (.int p3), .val (.long lo), .second, .val (.long hi), .second, .val (.int (1 : Int32)), .val (.int (p3 &&& (7 : Int32))), .val (.double (9218868437227405312 : UInt64)), .second, .val (.double (9218868437227405312 : UInt64)), .second, .val (.ref b), .val (.long xv), .second, .val (.double xd), .second, .val (.int ex)] []))
            refine own_pre (fun _ kz_ => X9.ldc2DoubleC hx hown (mvT hZ (hw _ (List.mem_of_getElem? (i := 32) rfl))) (g := (mkF m 191 #[.val (.int p0), .val (.int p1), .val (.int p2), .val (.int p3), .val (.long lo), .second, .val (.long hi), .second, .val (.int (1 : Int32)), .val (.int (p3 &&& (7 : Int32))), .val (.double (9218868437227405312 : UInt64)), .second, .val (.double (9218868437227405312 : UInt64)), .second, .val (.ref b), .val (.long xv), .second, .val (.double xd), .second, .val (.int ex)] [])) rfl (hb hby at_191) _ kz_) ?_
            show OwnGoes p e below _ (T9.setTop (mkF m 194 #[.val (.int p0), .val (.int p1), .val (.int p2), .val (.int p3), .val (.long lo), .second, .val (.long hi), .second, .val (.int (1 : Int32)), .val (.int (p3 &&& (7 : Int32))), .val (.double (9218868437227405312 : UInt64)), .second, .val (.double (9218868437227405312 : UInt64)), .second, .val (.ref b), .val (.long xv), .second, .val (.double xd), .second, .val (.int ex)] [(.double (9223372036854775808 : UInt64))]))
            refine own_pre (fun _ kz_ => XS.dstore X9.here hx rfl (hb hby at_194) rfl (l' := #[.val (.int p0), .val (.int p1), .val (.int p2), .val (.int p3), .val (.long lo), .second, .val (.long hi), .second, .val (.int (1 : Int32)), .val (.int (p3 &&& (7 : Int32))), .val (.double (9218868437227405312 : UInt64)), .second, .val (.double (9218868437227405312 : UInt64)), .second, .val (.ref b), .val (.long xv), .second, .val (.double (9223372036854775808 : UInt64)), .second, .val (.int ex)]) rfl kz_) ?_
            show OwnGoes p e below _ (T9.setTop (mkF m 196 #[.val (.int p0), .val (.int p1), .val (.int p2), .val (.int p3), .val (.long lo), .second, .val (.long hi), .second, .val (.int (1 : Int32)), .val (.int (p3 &&& (7 : Int32))), .val (.double (9218868437227405312 : UInt64)), .second, .val (.double (9218868437227405312 : UInt64)), .second, .val (.ref b), .val (.long xv), .second, .val (.double (9223372036854775808 : UInt64)), .second, .val (.int ex)] []))
            refine own_pre (fun _ kz_ => XS.lload X9.here hx rfl (hb hby at_196) rfl kz_) ?_
            show OwnGoes p e below _ (T9.setTop (mkF m 198 #[.val (.int p0), .val (.int p1), .val (.int p2), .val (.int p3), .val (.long lo), .second, .val (.long hi), .second, .val (.int (1 : Int32)), .val (.int (p3 &&& (7 : Int32))), .val (.double (9218868437227405312 : UInt64)), .second, .val (.double (9218868437227405312 : UInt64)), .second, .val (.ref b), .val (.long xv), .second, .val (.double (9223372036854775808 : UInt64)), .second, .val (.int ex)] [(.long lo)]))
            refine own_pre (fun _ kz_ => XS.lconst X9.here hx rfl (hb hby at_198) kz_) ?_
            show OwnGoes p e below _ (T9.setTop (mkF m 199 #[.val (.int p0), .val (.int p1), .val (.int p2), .val (.int p3), .val (.long lo), .second, .val (.long hi), .second, .val (.int (1 : Int32)), .val (.int (p3 &&& (7 : Int32))), .val (.double (9218868437227405312 : UInt64)), .second, .val (.double (9218868437227405312 : UInt64)), .second, .val (.ref b), .val (.long xv), .second, .val (.double (9223372036854775808 : UInt64)), .second, .val (.int ex)] [(.long (0 : Int64)), (.long lo)]))
            refine own_pre (fun _ kz_ => XS.lcmp X9.here hx rfl (hb hby at_199) rfl kz_) ?_
            show OwnGoes p e below _ (T9.setTop (mkF m 200 #[.val (.int p0), .val (.int p1), .val (.int p2), .val (.int p3), .val (.long lo), .second, .val (.long hi), .second, .val (.int (1 : Int32)), .val (.int (p3 &&& (7 : Int32))), .val (.double (9218868437227405312 : UInt64)), .second, .val (.double (9218868437227405312 : UInt64)), .second, .val (.ref b), .val (.long xv), .second, .val (.double (9223372036854775808 : UInt64)), .second, .val (.int ex)] [(.int (lcmpW lo (0 : Int64)))]))
            by_cases h200 : lo = (0 : Int64)
            · refine own_pre (fun _ kz_ => XS.ifNo X9.here hx rfl (hb hby at_200) rfl ((if0 _ _).trans (teq ((lw_eq lo (0 : Int64)).mpr h200)).2) kz_) ?_
              show OwnGoes p e below _ (T9.setTop (mkF m 203 #[.val (.int p0), .val (.int p1), .val (.int p2), .val (.int p3), .val (.long lo), .second, .val (.long hi), .second, .val (.int (1 : Int32)), .val (.int (p3 &&& (7 : Int32))), .val (.double (9218868437227405312 : UInt64)), .second, .val (.double (9218868437227405312 : UInt64)), .second, .val (.ref b), .val (.long xv), .second, .val (.double (9223372036854775808 : UInt64)), .second, .val (.int ex)] []))
              refine own_pre (fun _ kz_ => XS.iconst X9.here hx rfl (hb hby at_203) kz_) ?_
              show OwnGoes p e below _ (T9.setTop (mkF m 204 #[.val (.int p0), .val (.int p1), .val (.int p2), .val (.int p3), .val (.long lo), .second, .val (.long hi), .second, .val (.int (1 : Int32)), .val (.int (p3 &&& (7 : Int32))), .val (.double (9218868437227405312 : UInt64)), .second, .val (.double (9218868437227405312 : UInt64)), .second, .val (.ref b), .val (.long xv), .second, .val (.double (9223372036854775808 : UInt64)), .second, .val (.int ex)] [(.int (1 : Int32))]))
              refine own_pre (fun _ kz_ => XS.goto X9.here hx rfl (pc0 := 204) (pc' := 208) rfl (hb hby at_204) (by decide) (by decide) kz_) ?_
              show OwnGoes p e below _ (T9.setTop (mkF m 208 #[.val (.int p0), .val (.int p1), .val (.int p2), .val (.int p3), .val (.long lo), .second, .val (.long hi), .second, .val (.int (1 : Int32)), .val (.int (p3 &&& (7 : Int32))), .val (.double (9218868437227405312 : UInt64)), .second, .val (.double (9218868437227405312 : UInt64)), .second, .val (.ref b), .val (.long xv), .second, .val (.double (9223372036854775808 : UInt64)), .second, .val (.int ex)] [(.int (1 : Int32))]))
              refine own_pre (fun _ kz_ => XS.istore X9.here hx rfl (hb hby at_208) rfl (l' := #[.val (.int p0), .val (.int p1), .val (.int p2), .val (.int p3), .val (.long lo), .second, .val (.long hi), .second, .val (.int (1 : Int32)), .val (.int (p3 &&& (7 : Int32))), .val (.double (9218868437227405312 : UInt64)), .second, .val (.double (9218868437227405312 : UInt64)), .second, .val (.ref b), .val (.long xv), .second, .val (.double (9223372036854775808 : UInt64)), .second, .val (.int (1 : Int32))]) rfl kz_) ?_
              show OwnGoes p e below _ (T9.setTop (mkF m 210 #[.val (.int p0), .val (.int p1), .val (.int p2), .val (.int p3), .val (.long lo), .second, .val (.long hi), .second, .val (.int (1 : Int32)), .val (.int (p3 &&& (7 : Int32))), .val (.double (9218868437227405312 : UInt64)), .second, .val (.double (9218868437227405312 : UInt64)), .second, .val (.ref b), .val (.long xv), .second, .val (.double (9223372036854775808 : UInt64)), .second, .val (.int (1 : Int32))] []))
              exact J210 _ _ _ (by unfold own_con; rw [if_neg (fun q => (own_negz (own_b (by omega) (by omega)) (by omega)).mp q h200)]; rw [if_neg own_negzi])
            · refine own_pre (fun _ kz_ => XS.ifYes X9.here hx rfl (pc0 := 200) (pc' := 207) rfl (hb hby at_200) rfl ((if0 _ _).trans (feq (fun q => h200 ((lw_eq lo (0 : Int64)).mp q))).2) (by decide) (by decide) kz_) ?_
              show OwnGoes p e below _ (T9.setTop (mkF m 207 #[.val (.int p0), .val (.int p1), .val (.int p2), .val (.int p3), .val (.long lo), .second, .val (.long hi), .second, .val (.int (1 : Int32)), .val (.int (p3 &&& (7 : Int32))), .val (.double (9218868437227405312 : UInt64)), .second, .val (.double (9218868437227405312 : UInt64)), .second, .val (.ref b), .val (.long xv), .second, .val (.double (9223372036854775808 : UInt64)), .second, .val (.int ex)] []))
              refine own_pre (fun _ kz_ => XS.iconst X9.here hx rfl (hb hby at_207) kz_) ?_
              show OwnGoes p e below _ (T9.setTop (mkF m 208 #[.val (.int p0), .val (.int p1), .val (.int p2), .val (.int p3), .val (.long lo), .second, .val (.long hi), .second, .val (.int (1 : Int32)), .val (.int (p3 &&& (7 : Int32))), .val (.double (9218868437227405312 : UInt64)), .second, .val (.double (9218868437227405312 : UInt64)), .second, .val (.ref b), .val (.long xv), .second, .val (.double (9223372036854775808 : UInt64)), .second, .val (.int ex)] [(.int (0 : Int32))]))
              refine own_pre (fun _ kz_ => XS.istore X9.here hx rfl (hb hby at_208) rfl (l' := #[.val (.int p0), .val (.int p1), .val (.int p2), .val (.int p3), .val (.long lo), .second, .val (.long hi), .second, .val (.int (1 : Int32)), .val (.int (p3 &&& (7 : Int32))), .val (.double (9218868437227405312 : UInt64)), .second, .val (.double (9218868437227405312 : UInt64)), .second, .val (.ref b), .val (.long xv), .second, .val (.double (9223372036854775808 : UInt64)), .second, .val (.int (0 : Int32))]) rfl kz_) ?_
              show OwnGoes p e below _ (T9.setTop (mkF m 210 #[.val (.int p0), .val (.int p1), .val (.int p2), .val (.int p3), .val (.long lo), .second, .val (.long hi), .second, .val (.int (1 : Int32)), .val (.int (p3 &&& (7 : Int32))), .val (.double (9218868437227405312 : UInt64)), .second, .val (.double (9218868437227405312 : UInt64)), .second, .val (.ref b), .val (.long xv), .second, .val (.double (9223372036854775808 : UInt64)), .second, .val (.int (0 : Int32))] []))
              exact J210 _ _ _ (by unfold own_con; rw [if_pos ((own_negz (own_b (by omega) (by omega)) (by omega)).mpr h200)])
          · refine own_pre (fun _ kz_ => XS.icmpYes X9.here hx rfl (pc0 := 188) (pc' := 210) rfl (hb hby at_188) rfl (feq h188).2 (by decide) (by decide) kz_) ?_
            show OwnGoes p e below _ (T9.setTop (mkF m 210 #[.val (.int p0), .val (.int p1), .val (.int p2), .val (.int p3), .val (.long lo), .second, .val (.long hi), .second, .val (.int (1 : Int32)), .val (.int (p3 &&& (7 : Int32))), .val (.double (9218868437227405312 : UInt64)), .second, .val (.double (9218868437227405312 : UInt64)), .second, .val (.ref b), .val (.long xv), .second, .val (.double xd), .second, .val (.int ex)] []))
            exact J210 _ _ _ (hex)
    have J118 : ∀ (xv : Int64) (b1 : -9007199254740992 < xv.toInt) (b2 : xv.toInt < 9007199254740992), OwnGoes p e below (fun o U' => ∃ v L, o = .returned v ∧ Q0 h0 n0 v U'.heap L ∧ FrameEnd s o U' L room_1.cells room_1.slots) (T9.setTop (mkF m 118 #[.val (.int p0), .val (.int p1), .val (.int p2), .val (.int p3), .val (.long lo), .second, .val (.long hi), .second, .val (.int (1 : Int32)), .val (.int (p3 &&& (7 : Int32))), .val (.double (9218868437227405312 : UInt64)), .second, .val (.double (9218868437227405312 : UInt64)), .second, .val (.ref b), .val (.long xv), .second, .unset, .unset, .unset] [])) := by
      intro xv b1 b2
      show OwnGoes p e below _ (T9.setTop (mkF m 118 #[.val (.int p0), .val (.int p1), .val (.int p2), .val (.int p3), .val (.long lo), .second, .val (.long hi), .second, .val (.int (1 : Int32)), .val (.int (p3 &&& (7 : Int32))), .val (.double (9218868437227405312 : UInt64)), .second, .val (.double (9218868437227405312 : UInt64)), .second, .val (.ref b), .val (.long xv), .second, .unset, .unset, .unset] []))
      refine own_pre (fun _ kz_ => XS.lload X9.here hx rfl (hb hby at_118) rfl kz_) ?_
      show OwnGoes p e below _ (T9.setTop (mkF m 120 #[.val (.int p0), .val (.int p1), .val (.int p2), .val (.int p3), .val (.long lo), .second, .val (.long hi), .second, .val (.int (1 : Int32)), .val (.int (p3 &&& (7 : Int32))), .val (.double (9218868437227405312 : UInt64)), .second, .val (.double (9218868437227405312 : UInt64)), .second, .val (.ref b), .val (.long xv), .second, .unset, .unset, .unset] [(.long xv)]))
      refine own_pre (fun _ kz_ => XS.l2dS X9.here hx rfl (hb hby at_120) rfl rfl kz_) ?_
      show OwnGoes p e below _ (T9.setTop (mkF m 121 #[.val (.int p0), .val (.int p1), .val (.int p2), .val (.int p3), .val (.long lo), .second, .val (.long hi), .second, .val (.int (1 : Int32)), .val (.int (p3 &&& (7 : Int32))), .val (.double (9218868437227405312 : UInt64)), .second, .val (.double (9218868437227405312 : UInt64)), .second, .val (.ref b), .val (.long xv), .second, .unset, .unset, .unset] [(.double (Jvm.FP.l2d xv))]))
      refine own_pre (fun _ kz_ => XS.dstore X9.here hx rfl (hb hby at_121) rfl (l' := #[.val (.int p0), .val (.int p1), .val (.int p2), .val (.int p3), .val (.long lo), .second, .val (.long hi), .second, .val (.int (1 : Int32)), .val (.int (p3 &&& (7 : Int32))), .val (.double (9218868437227405312 : UInt64)), .second, .val (.double (9218868437227405312 : UInt64)), .second, .val (.ref b), .val (.long xv), .second, .val (.double (Jvm.FP.l2d xv)), .second, .unset]) rfl kz_) ?_
      show OwnGoes p e below _ (T9.setTop (mkF m 123 #[.val (.int p0), .val (.int p1), .val (.int p2), .val (.int p3), .val (.long lo), .second, .val (.long hi), .second, .val (.int (1 : Int32)), .val (.int (p3 &&& (7 : Int32))), .val (.double (9218868437227405312 : UInt64)), .second, .val (.double (9218868437227405312 : UInt64)), .second, .val (.ref b), .val (.long xv), .second, .val (.double (Jvm.FP.l2d xv)), .second, .unset] []))
      refine own_pre (fun _ kz_ => XS.lload X9.here hx rfl (hb hby at_123) rfl kz_) ?_
      show OwnGoes p e below _ (T9.setTop (mkF m 125 #[.val (.int p0), .val (.int p1), .val (.int p2), .val (.int p3), .val (.long lo), .second, .val (.long hi), .second, .val (.int (1 : Int32)), .val (.int (p3 &&& (7 : Int32))), .val (.double (9218868437227405312 : UInt64)), .second, .val (.double (9218868437227405312 : UInt64)), .second, .val (.ref b), .val (.long xv), .second, .val (.double (Jvm.FP.l2d xv)), .second, .unset] [(.long lo)]))
      refine own_pre (fun _ kz_ => XS.lload X9.here hx rfl (hb hby at_125) rfl kz_) ?_
      show OwnGoes p e below _ (T9.setTop (mkF m 127 #[.val (.int p0), .val (.int p1), .val (.int p2), .val (.int p3), .val (.long lo), .second, .val (.long hi), .second, .val (.int (1 : Int32)), .val (.int (p3 &&& (7 : Int32))), .val (.double (9218868437227405312 : UInt64)), .second, .val (.double (9218868437227405312 : UInt64)), .second, .val (.ref b), .val (.long xv), .second, .val (.double (Jvm.FP.l2d xv)), .second, .unset] [(.long xv), (.long lo)]))
      refine own_pre (fun _ kz_ => XS.lcmp X9.here hx rfl (hb hby at_127) rfl kz_) ?_
      show OwnGoes p e below _ (T9.setTop (mkF m 128 #[.val (.int p0), .val (.int p1), .val (.int p2), .val (.int p3), .val (.long lo), .second, .val (.long hi), .second, .val (.int (1 : Int32)), .val (.int (p3 &&& (7 : Int32))), .val (.double (9218868437227405312 : UInt64)), .second, .val (.double (9218868437227405312 : UInt64)), .second, .val (.ref b), .val (.long xv), .second, .val (.double (Jvm.FP.l2d xv)), .second, .unset] [(.int (lcmpW lo xv))]))
      by_cases h128 : xv < lo
      · refine own_pre (fun _ kz_ => XS.ifYes X9.here hx rfl (pc0 := 128) (pc' := 148) rfl (hb hby at_128) rfl ((if0 _ _).trans (tlt ((lw_gt lo xv).mpr h128)).2.2.1) (by decide) (by decide) kz_) ?_
        show OwnGoes p e below _ (T9.setTop (mkF m 148 #[.val (.int p0), .val (.int p1), .val (.int p2), .val (.int p3), .val (.long lo), .second, .val (.long hi), .second, .val (.int (1 : Int32)), .val (.int (p3 &&& (7 : Int32))), .val (.double (9218868437227405312 : UInt64)), .second, .val (.double (9218868437227405312 : UInt64)), .second, .val (.ref b), .val (.long xv), .second, .val (.double (Jvm.FP.l2d xv)), .second, .unset] []))
        refine own_pre (fun _ kz_ => XS.iconst X9.here hx rfl (hb hby at_148) kz_) ?_
        show OwnGoes p e below _ (T9.setTop (mkF m 149 #[.val (.int p0), .val (.int p1), .val (.int p2), .val (.int p3), .val (.long lo), .second, .val (.long hi), .second, .val (.int (1 : Int32)), .val (.int (p3 &&& (7 : Int32))), .val (.double (9218868437227405312 : UInt64)), .second, .val (.double (9218868437227405312 : UInt64)), .second, .val (.ref b), .val (.long xv), .second, .val (.double (Jvm.FP.l2d xv)), .second, .unset] [(.int (0 : Int32))]))
        refine own_pre (fun _ kz_ => XS.istore X9.here hx rfl (hb hby at_149) rfl (l' := #[.val (.int p0), .val (.int p1), .val (.int p2), .val (.int p3), .val (.long lo), .second, .val (.long hi), .second, .val (.int (1 : Int32)), .val (.int (p3 &&& (7 : Int32))), .val (.double (9218868437227405312 : UInt64)), .second, .val (.double (9218868437227405312 : UInt64)), .second, .val (.ref b), .val (.long xv), .second, .val (.double (Jvm.FP.l2d xv)), .second, .val (.int (0 : Int32))]) rfl kz_) ?_
        show OwnGoes p e below _ (T9.setTop (mkF m 151 #[.val (.int p0), .val (.int p1), .val (.int p2), .val (.int p3), .val (.long lo), .second, .val (.long hi), .second, .val (.int (1 : Int32)), .val (.int (p3 &&& (7 : Int32))), .val (.double (9218868437227405312 : UInt64)), .second, .val (.double (9218868437227405312 : UInt64)), .second, .val (.ref b), .val (.long xv), .second, .val (.double (Jvm.FP.l2d xv)), .second, .val (.int (0 : Int32))] []))
        exact J151 _ _ _ (by unfold own_con; rw [if_pos ((own_gt (own_b (by omega) (by omega)) (own_b (by omega) (by omega))).mpr h128)])
      · refine own_pre (fun _ kz_ => XS.ifNo X9.here hx rfl (hb hby at_128) rfl ((if0 _ _).trans (flt (fun q => h128 ((lw_gt lo xv).mp q))).2.2.1) kz_) ?_
        show OwnGoes p e below _ (T9.setTop (mkF m 131 #[.val (.int p0), .val (.int p1), .val (.int p2), .val (.int p3), .val (.long lo), .second, .val (.long hi), .second, .val (.int (1 : Int32)), .val (.int (p3 &&& (7 : Int32))), .val (.double (9218868437227405312 : UInt64)), .second, .val (.double (9218868437227405312 : UInt64)), .second, .val (.ref b), .val (.long xv), .second, .val (.double (Jvm.FP.l2d xv)), .second, .unset] []))
        refine own_pre (fun _ kz_ => XS.iload X9.here hx rfl (hb hby at_131) rfl kz_) ?_
        show OwnGoes p e below _ (T9.setTop (mkF m 133 #[.val (.int p0), .val (.int p1), .val (.int p2), .val (.int p3), .val (.long lo), .second, .val (.long hi), .second, .val (.int (1 : Int32)), .val (.int (p3 &&& (7 : Int32))), .val (.double (9218868437227405312 : UInt64)), .second, .val (.double (9218868437227405312 : UInt64)), .second, .val (.ref b), .val (.long xv), .second, .val (.double (Jvm.FP.l2d xv)), .second, .unset] [(.int (1 : Int32))]))
        refine own_pre (fun _ kz_ => XS.ifYes X9.here hx rfl (pc0 := 133) (pc' := 144) rfl (hb hby at_133) rfl ((if0 _ _).trans (feq (by decide : ¬ ((1 : Int32) = (0 : Int32)))).2) (by decide) (by decide) kz_) ?_
        show OwnGoes p e below _ (T9.setTop (mkF m 144 #[.val (.int p0), .val (.int p1), .val (.int p2), .val (.int p3), .val (.long lo), .second, .val (.long hi), .second, .val (.int (1 : Int32)), .val (.int (p3 &&& (7 : Int32))), .val (.double (9218868437227405312 : UInt64)), .second, .val (.double (9218868437227405312 : UInt64)), .second, .val (.ref b), .val (.long xv), .second, .val (.double (Jvm.FP.l2d xv)), .second, .unset] []))
        refine own_pre (fun _ kz_ => XS.iconst X9.here hx rfl (hb hby at_144) kz_) ?_
        show OwnGoes p e below _ (T9.setTop (mkF m 145 #[.val (.int p0), .val (.int p1), .val (.int p2), .val (.int p3), .val (.long lo), .second, .val (.long hi), .second, .val (.int (1 : Int32)), .val (.int (p3 &&& (7 : Int32))), .val (.double (9218868437227405312 : UInt64)), .second, .val (.double (9218868437227405312 : UInt64)), .second, .val (.ref b), .val (.long xv), .second, .val (.double (Jvm.FP.l2d xv)), .second, .unset] [(.int (1 : Int32))]))
        refine own_pre (fun _ kz_ => XS.goto X9.here hx rfl (pc0 := 145) (pc' := 149) rfl (hb hby at_145) (by decide) (by decide) kz_) ?_
        show OwnGoes p e below _ (T9.setTop (mkF m 149 #[.val (.int p0), .val (.int p1), .val (.int p2), .val (.int p3), .val (.long lo), .second, .val (.long hi), .second, .val (.int (1 : Int32)), .val (.int (p3 &&& (7 : Int32))), .val (.double (9218868437227405312 : UInt64)), .second, .val (.double (9218868437227405312 : UInt64)), .second, .val (.ref b), .val (.long xv), .second, .val (.double (Jvm.FP.l2d xv)), .second, .unset] [(.int (1 : Int32))]))
        refine own_pre (fun _ kz_ => XS.istore X9.here hx rfl (hb hby at_149) rfl (l' := #[.val (.int p0), .val (.int p1), .val (.int p2), .val (.int p3), .val (.long lo), .second, .val (.long hi), .second, .val (.int (1 : Int32)), .val (.int (p3 &&& (7 : Int32))), .val (.double (9218868437227405312 : UInt64)), .second, .val (.double (9218868437227405312 : UInt64)), .second, .val (.ref b), .val (.long xv), .second, .val (.double (Jvm.FP.l2d xv)), .second, .val (.int (1 : Int32))]) rfl kz_) ?_
        show OwnGoes p e below _ (T9.setTop (mkF m 151 #[.val (.int p0), .val (.int p1), .val (.int p2), .val (.int p3), .val (.long lo), .second, .val (.long hi), .second, .val (.int (1 : Int32)), .val (.int (p3 &&& (7 : Int32))), .val (.double (9218868437227405312 : UInt64)), .second, .val (.double (9218868437227405312 : UInt64)), .second, .val (.ref b), .val (.long xv), .second, .val (.double (Jvm.FP.l2d xv)), .second, .val (.int (1 : Int32))] []))
        exact J151 _ _ _ (by unfold own_con; rw [if_neg (fun q => h128 ((own_gt (own_b (by omega) (by omega)) (own_b (by omega) (by omega))).mp q)), if_neg (own_pinf _)])
    show OwnGoes p e below _ (T9.setTop (mkF m 77 #[.val (.int p0), .val (.int p1), .val (.int p2), .val (.int p3), .val (.long lo), .second, .val (.long hi), .second, .val (.int (1 : Int32)), .val (.int (p3 &&& (7 : Int32))), .val (.double (9218868437227405312 : UInt64)), .second, .val (.double (9218868437227405312 : UInt64)), .second, .val (.ref b), .unset, .unset, .unset, .unset, .unset] []))
    refine own_pre (fun _ kz_ => XS.iloadN X9.here hx rfl (hb hby at_77) rfl kz_) ?_
    show OwnGoes p e below _ (T9.setTop (mkF m 78 #[.val (.int p0), .val (.int p1), .val (.int p2), .val (.int p3), .val (.long lo), .second, .val (.long hi), .second, .val (.int (1 : Int32)), .val (.int (p3 &&& (7 : Int32))), .val (.double (9218868437227405312 : UInt64)), .second, .val (.double (9218868437227405312 : UInt64)), .second, .val (.ref b), .unset, .unset, .unset, .unset, .unset] [(.int p2)]))
    refine own_pre (fun _ kz_ => XS.i2l X9.here hx rfl (hb hby at_78) rfl kz_) ?_
    show OwnGoes p e below _ (T9.setTop (mkF m 79 #[.val (.int p0), .val (.int p1), .val (.int p2), .val (.int p3), .val (.long lo), .second, .val (.long hi), .second, .val (.int (1 : Int32)), .val (.int (p3 &&& (7 : Int32))), .val (.double (9218868437227405312 : UInt64)), .second, .val (.double (9218868437227405312 : UInt64)), .second, .val (.ref b), .unset, .unset, .unset, .unset, .unset] [(.long (p2.toInt64))]))
    refine own_pre (fun _ kz_ => XS.lstore X9.here hx rfl (hb hby at_79) rfl (l' := #[.val (.int p0), .val (.int p1), .val (.int p2), .val (.int p3), .val (.long lo), .second, .val (.long hi), .second, .val (.int (1 : Int32)), .val (.int (p3 &&& (7 : Int32))), .val (.double (9218868437227405312 : UInt64)), .second, .val (.double (9218868437227405312 : UInt64)), .second, .val (.ref b), .val (.long (p2.toInt64)), .second, .unset, .unset, .unset]) rfl kz_) ?_
    show OwnGoes p e below _ (T9.setTop (mkF m 81 #[.val (.int p0), .val (.int p1), .val (.int p2), .val (.int p3), .val (.long lo), .second, .val (.long hi), .second, .val (.int (1 : Int32)), .val (.int (p3 &&& (7 : Int32))), .val (.double (9218868437227405312 : UInt64)), .second, .val (.double (9218868437227405312 : UInt64)), .second, .val (.ref b), .val (.long (p2.toInt64)), .second, .unset, .unset, .unset] []))
    refine own_pre (fun _ kz_ => XS.iload X9.here hx rfl (hb hby at_81) rfl kz_) ?_
    show OwnGoes p e below _ (T9.setTop (mkF m 83 #[.val (.int p0), .val (.int p1), .val (.int p2), .val (.int p3), .val (.long lo), .second, .val (.long hi), .second, .val (.int (1 : Int32)), .val (.int (p3 &&& (7 : Int32))), .val (.double (9218868437227405312 : UInt64)), .second, .val (.double (9218868437227405312 : UInt64)), .second, .val (.ref b), .val (.long (p2.toInt64)), .second, .unset, .unset, .unset] [(.int (p3 &&& (7 : Int32)))]))
    refine own_pre (fun _ kz_ => XS.iconst X9.here hx rfl (hb hby at_83) kz_) ?_
    show OwnGoes p e below _ (T9.setTop (mkF m 84 #[.val (.int p0), .val (.int p1), .val (.int p2), .val (.int p3), .val (.long lo), .second, .val (.long hi), .second, .val (.int (1 : Int32)), .val (.int (p3 &&& (7 : Int32))), .val (.double (9218868437227405312 : UInt64)), .second, .val (.double (9218868437227405312 : UInt64)), .second, .val (.ref b), .val (.long (p2.toInt64)), .second, .unset, .unset, .unset] [(.int (1 : Int32)), (.int (p3 &&& (7 : Int32)))]))
    by_cases h84 : (p3 &&& (7 : Int32)) = (1 : Int32)
    · refine own_pre (fun _ kz_ => XS.icmpNo X9.here hx rfl (hb hby at_84) rfl (teq h84).2 kz_) ?_
      show OwnGoes p e below _ (T9.setTop (mkF m 87 #[.val (.int p0), .val (.int p1), .val (.int p2), .val (.int p3), .val (.long lo), .second, .val (.long hi), .second, .val (.int (1 : Int32)), .val (.int (p3 &&& (7 : Int32))), .val (.double (9218868437227405312 : UInt64)), .second, .val (.double (9218868437227405312 : UInt64)), .second, .val (.ref b), .val (.long (p2.toInt64)), .second, .unset, .unset, .unset] []))
      refine own_pre (fun _ kz_ => XS.lload X9.here hx rfl (hb hby at_87) rfl kz_) ?_
      show OwnGoes p e below _ (T9.setTop (mkF m 89 #[.val (.int p0), .val (.int p1), .val (.int p2), .val (.int p3), .val (.long lo), .second, .val (.long hi), .second, .val (.int (1 : Int32)), .val (.int (p3 &&& (7 : Int32))), .val (.double (9218868437227405312 : UInt64)), .second, .val (.double (9218868437227405312 : UInt64)), .second, .val (.ref b), .val (.long (p2.toInt64)), .second, .unset, .unset, .unset] [(.long lo)]))
      refine own_pre (fun _ kz_ => XS.iloadN X9.here hx rfl (hb hby at_89) rfl kz_) ?_
      show OwnGoes p e below _ (T9.setTop (mkF m 90 #[.val (.int p0), .val (.int p1), .val (.int p2), .val (.int p3), .val (.long lo), .second, .val (.long hi), .second, .val (.int (1 : Int32)), .val (.int (p3 &&& (7 : Int32))), .val (.double (9218868437227405312 : UInt64)), .second, .val (.double (9218868437227405312 : UInt64)), .second, .val (.ref b), .val (.long (p2.toInt64)), .second, .unset, .unset, .unset] [(.int p2), (.long lo)]))
      refine own_pre (fun _ kz_ => XS.iconst X9.here hx rfl (hb hby at_90) kz_) ?_
      show OwnGoes p e below _ (T9.setTop (mkF m 91 #[.val (.int p0), .val (.int p1), .val (.int p2), .val (.int p3), .val (.long lo), .second, .val (.long hi), .second, .val (.int (1 : Int32)), .val (.int (p3 &&& (7 : Int32))), .val (.double (9218868437227405312 : UInt64)), .second, .val (.double (9218868437227405312 : UInt64)), .second, .val (.ref b), .val (.long (p2.toInt64)), .second, .unset, .unset, .unset] [(.int (3 : Int32)), (.int p2), (.long lo)]))
      refine own_pre (fun _ kz_ => XS.iand X9.here hx rfl (hb hby at_91) rfl kz_) ?_
      show OwnGoes p e below _ (T9.setTop (mkF m 92 #[.val (.int p0), .val (.int p1), .val (.int p2), .val (.int p3), .val (.long lo), .second, .val (.long hi), .second, .val (.int (1 : Int32)), .val (.int (p3 &&& (7 : Int32))), .val (.double (9218868437227405312 : UInt64)), .second, .val (.double (9218868437227405312 : UInt64)), .second, .val (.ref b), .val (.long (p2.toInt64)), .second, .unset, .unset, .unset] [(.int (p2 &&& (3 : Int32))), (.long lo)]))
      refine own_pre (fun _ kz_ => XS.iconst X9.here hx rfl (hb hby at_92) kz_) ?_
      show OwnGoes p e below _ (T9.setTop (mkF m 93 #[.val (.int p0), .val (.int p1), .val (.int p2), .val (.int p3), .val (.long lo), .second, .val (.long hi), .second, .val (.int (1 : Int32)), .val (.int (p3 &&& (7 : Int32))), .val (.double (9218868437227405312 : UInt64)), .second, .val (.double (9218868437227405312 : UInt64)), .second, .val (.ref b), .val (.long (p2.toInt64)), .second, .unset, .unset, .unset] [(.int (1 : Int32)), (.int (p2 &&& (3 : Int32))), (.long lo)]))
      refine own_pre (fun _ kz_ => XS.isub X9.here hx rfl (hb hby at_93) rfl kz_) ?_
      show OwnGoes p e below _ (T9.setTop (mkF m 94 #[.val (.int p0), .val (.int p1), .val (.int p2), .val (.int p3), .val (.long lo), .second, .val (.long hi), .second, .val (.int (1 : Int32)), .val (.int (p3 &&& (7 : Int32))), .val (.double (9218868437227405312 : UInt64)), .second, .val (.double (9218868437227405312 : UInt64)), .second, .val (.ref b), .val (.long (p2.toInt64)), .second, .unset, .unset, .unset] [(.int ((p2 &&& (3 : Int32)) - (1 : Int32))), (.long lo)]))
      refine own_pre (fun _ kz_ => XS.i2l X9.here hx rfl (hb hby at_94) rfl kz_) ?_
      show OwnGoes p e below _ (T9.setTop (mkF m 95 #[.val (.int p0), .val (.int p1), .val (.int p2), .val (.int p3), .val (.long lo), .second, .val (.long hi), .second, .val (.int (1 : Int32)), .val (.int (p3 &&& (7 : Int32))), .val (.double (9218868437227405312 : UInt64)), .second, .val (.double (9218868437227405312 : UInt64)), .second, .val (.ref b), .val (.long (p2.toInt64)), .second, .unset, .unset, .unset] [(.long (((p2 &&& (3 : Int32)) - (1 : Int32)).toInt64)), (.long lo)]))
      refine own_pre (fun _ kz_ => XS.ladd X9.here hx rfl (hb hby at_95) rfl kz_) ?_
      show OwnGoes p e below _ (T9.setTop (mkF m 96 #[.val (.int p0), .val (.int p1), .val (.int p2), .val (.int p3), .val (.long lo), .second, .val (.long hi), .second, .val (.int (1 : Int32)), .val (.int (p3 &&& (7 : Int32))), .val (.double (9218868437227405312 : UInt64)), .second, .val (.double (9218868437227405312 : UInt64)), .second, .val (.ref b), .val (.long (p2.toInt64)), .second, .unset, .unset, .unset] [(.long (lo + (((p2 &&& (3 : Int32)) - (1 : Int32)).toInt64)))]))
      refine own_pre (fun _ kz_ => XS.lstore X9.here hx rfl (hb hby at_96) rfl (l' := #[.val (.int p0), .val (.int p1), .val (.int p2), .val (.int p3), .val (.long lo), .second, .val (.long hi), .second, .val (.int (1 : Int32)), .val (.int (p3 &&& (7 : Int32))), .val (.double (9218868437227405312 : UInt64)), .second, .val (.double (9218868437227405312 : UInt64)), .second, .val (.ref b), .val (.long (lo + (((p2 &&& (3 : Int32)) - (1 : Int32)).toInt64))), .second, .unset, .unset, .unset]) rfl kz_) ?_
      show OwnGoes p e below _ (T9.setTop (mkF m 98 #[.val (.int p0), .val (.int p1), .val (.int p2), .val (.int p3), .val (.long lo), .second, .val (.long hi), .second, .val (.int (1 : Int32)), .val (.int (p3 &&& (7 : Int32))), .val (.double (9218868437227405312 : UInt64)), .second, .val (.double (9218868437227405312 : UInt64)), .second, .val (.ref b), .val (.long (lo + (((p2 &&& (3 : Int32)) - (1 : Int32)).toInt64))), .second, .unset, .unset, .unset] []))
      refine own_pre (fun _ kz_ => XS.goto X9.here hx rfl (pc0 := 98) (pc' := 118) rfl (hb hby at_98) (by decide) (by decide) kz_) ?_
      show OwnGoes p e below _ (T9.setTop (mkF m 118 #[.val (.int p0), .val (.int p1), .val (.int p2), .val (.int p3), .val (.long lo), .second, .val (.long hi), .second, .val (.int (1 : Int32)), .val (.int (p3 &&& (7 : Int32))), .val (.double (9218868437227405312 : UInt64)), .second, .val (.double (9218868437227405312 : UInt64)), .second, .val (.ref b), .val (.long (lo + (((p2 &&& (3 : Int32)) - (1 : Int32)).toInt64))), .second, .unset, .unset, .unset] []))
      have q := own_near lo p2 (by omega) (by omega)
      exact J118 _ (by omega) (by omega)
    · refine own_pre (fun _ kz_ => XS.icmpYes X9.here hx rfl (pc0 := 84) (pc' := 101) rfl (hb hby at_84) rfl (feq h84).2 (by decide) (by decide) kz_) ?_
      show OwnGoes p e below _ (T9.setTop (mkF m 101 #[.val (.int p0), .val (.int p1), .val (.int p2), .val (.int p3), .val (.long lo), .second, .val (.long hi), .second, .val (.int (1 : Int32)), .val (.int (p3 &&& (7 : Int32))), .val (.double (9218868437227405312 : UInt64)), .second, .val (.double (9218868437227405312 : UInt64)), .second, .val (.ref b), .val (.long (p2.toInt64)), .second, .unset, .unset, .unset] []))
      refine own_pre (fun _ kz_ => XS.iload X9.here hx rfl (hb hby at_101) rfl kz_) ?_
      show OwnGoes p e below _ (T9.setTop (mkF m 103 #[.val (.int p0), .val (.int p1), .val (.int p2), .val (.int p3), .val (.long lo), .second, .val (.long hi), .second, .val (.int (1 : Int32)), .val (.int (p3 &&& (7 : Int32))), .val (.double (9218868437227405312 : UInt64)), .second, .val (.double (9218868437227405312 : UInt64)), .second, .val (.ref b), .val (.long (p2.toInt64)), .second, .unset, .unset, .unset] [(.int (p3 &&& (7 : Int32)))]))
      refine own_pre (fun _ kz_ => XS.iconst X9.here hx rfl (hb hby at_103) kz_) ?_
      show OwnGoes p e below _ (T9.setTop (mkF m 104 #[.val (.int p0), .val (.int p1), .val (.int p2), .val (.int p3), .val (.long lo), .second, .val (.long hi), .second, .val (.int (1 : Int32)), .val (.int (p3 &&& (7 : Int32))), .val (.double (9218868437227405312 : UInt64)), .second, .val (.double (9218868437227405312 : UInt64)), .second, .val (.ref b), .val (.long (p2.toInt64)), .second, .unset, .unset, .unset] [(.int (2 : Int32)), (.int (p3 &&& (7 : Int32)))]))
      by_cases h104 : (p3 &&& (7 : Int32)) = (2 : Int32)
      · refine own_pre (fun _ kz_ => XS.icmpNo X9.here hx rfl (hb hby at_104) rfl (teq h104).2 kz_) ?_
        show OwnGoes p e below _ (T9.setTop (mkF m 107 #[.val (.int p0), .val (.int p1), .val (.int p2), .val (.int p3), .val (.long lo), .second, .val (.long hi), .second, .val (.int (1 : Int32)), .val (.int (p3 &&& (7 : Int32))), .val (.double (9218868437227405312 : UInt64)), .second, .val (.double (9218868437227405312 : UInt64)), .second, .val (.ref b), .val (.long (p2.toInt64)), .second, .unset, .unset, .unset] []))
        refine own_pre (fun _ kz_ => XS.lload X9.here hx rfl (hb hby at_107) rfl kz_) ?_
        show OwnGoes p e below _ (T9.setTop (mkF m 109 #[.val (.int p0), .val (.int p1), .val (.int p2), .val (.int p3), .val (.long lo), .second, .val (.long hi), .second, .val (.int (1 : Int32)), .val (.int (p3 &&& (7 : Int32))), .val (.double (9218868437227405312 : UInt64)), .second, .val (.double (9218868437227405312 : UInt64)), .second, .val (.ref b), .val (.long (p2.toInt64)), .second, .unset, .unset, .unset] [(.long hi)]))
        refine own_pre (fun _ kz_ => XS.iloadN X9.here hx rfl (hb hby at_109) rfl kz_) ?_
        show OwnGoes p e below _ (T9.setTop (mkF m 110 #[.val (.int p0), .val (.int p1), .val (.int p2), .val (.int p3), .val (.long lo), .second, .val (.long hi), .second, .val (.int (1 : Int32)), .val (.int (p3 &&& (7 : Int32))), .val (.double (9218868437227405312 : UInt64)), .second, .val (.double (9218868437227405312 : UInt64)), .second, .val (.ref b), .val (.long (p2.toInt64)), .second, .unset, .unset, .unset] [(.int p2), (.long hi)]))
        refine own_pre (fun _ kz_ => XS.iconst X9.here hx rfl (hb hby at_110) kz_) ?_
        show OwnGoes p e below _ (T9.setTop (mkF m 111 #[.val (.int p0), .val (.int p1), .val (.int p2), .val (.int p3), .val (.long lo), .second, .val (.long hi), .second, .val (.int (1 : Int32)), .val (.int (p3 &&& (7 : Int32))), .val (.double (9218868437227405312 : UInt64)), .second, .val (.double (9218868437227405312 : UInt64)), .second, .val (.ref b), .val (.long (p2.toInt64)), .second, .unset, .unset, .unset] [(.int (3 : Int32)), (.int p2), (.long hi)]))
        refine own_pre (fun _ kz_ => XS.iand X9.here hx rfl (hb hby at_111) rfl kz_) ?_
        show OwnGoes p e below _ (T9.setTop (mkF m 112 #[.val (.int p0), .val (.int p1), .val (.int p2), .val (.int p3), .val (.long lo), .second, .val (.long hi), .second, .val (.int (1 : Int32)), .val (.int (p3 &&& (7 : Int32))), .val (.double (9218868437227405312 : UInt64)), .second, .val (.double (9218868437227405312 : UInt64)), .second, .val (.ref b), .val (.long (p2.toInt64)), .second, .unset, .unset, .unset] [(.int (p2 &&& (3 : Int32))), (.long hi)]))
        refine own_pre (fun _ kz_ => XS.iconst X9.here hx rfl (hb hby at_112) kz_) ?_
        show OwnGoes p e below _ (T9.setTop (mkF m 113 #[.val (.int p0), .val (.int p1), .val (.int p2), .val (.int p3), .val (.long lo), .second, .val (.long hi), .second, .val (.int (1 : Int32)), .val (.int (p3 &&& (7 : Int32))), .val (.double (9218868437227405312 : UInt64)), .second, .val (.double (9218868437227405312 : UInt64)), .second, .val (.ref b), .val (.long (p2.toInt64)), .second, .unset, .unset, .unset] [(.int (1 : Int32)), (.int (p2 &&& (3 : Int32))), (.long hi)]))
        refine own_pre (fun _ kz_ => XS.isub X9.here hx rfl (hb hby at_113) rfl kz_) ?_
        show OwnGoes p e below _ (T9.setTop (mkF m 114 #[.val (.int p0), .val (.int p1), .val (.int p2), .val (.int p3), .val (.long lo), .second, .val (.long hi), .second, .val (.int (1 : Int32)), .val (.int (p3 &&& (7 : Int32))), .val (.double (9218868437227405312 : UInt64)), .second, .val (.double (9218868437227405312 : UInt64)), .second, .val (.ref b), .val (.long (p2.toInt64)), .second, .unset, .unset, .unset] [(.int ((p2 &&& (3 : Int32)) - (1 : Int32))), (.long hi)]))
        refine own_pre (fun _ kz_ => XS.i2l X9.here hx rfl (hb hby at_114) rfl kz_) ?_
        show OwnGoes p e below _ (T9.setTop (mkF m 115 #[.val (.int p0), .val (.int p1), .val (.int p2), .val (.int p3), .val (.long lo), .second, .val (.long hi), .second, .val (.int (1 : Int32)), .val (.int (p3 &&& (7 : Int32))), .val (.double (9218868437227405312 : UInt64)), .second, .val (.double (9218868437227405312 : UInt64)), .second, .val (.ref b), .val (.long (p2.toInt64)), .second, .unset, .unset, .unset] [(.long (((p2 &&& (3 : Int32)) - (1 : Int32)).toInt64)), (.long hi)]))
        refine own_pre (fun _ kz_ => XS.ladd X9.here hx rfl (hb hby at_115) rfl kz_) ?_
        show OwnGoes p e below _ (T9.setTop (mkF m 116 #[.val (.int p0), .val (.int p1), .val (.int p2), .val (.int p3), .val (.long lo), .second, .val (.long hi), .second, .val (.int (1 : Int32)), .val (.int (p3 &&& (7 : Int32))), .val (.double (9218868437227405312 : UInt64)), .second, .val (.double (9218868437227405312 : UInt64)), .second, .val (.ref b), .val (.long (p2.toInt64)), .second, .unset, .unset, .unset] [(.long (hi + (((p2 &&& (3 : Int32)) - (1 : Int32)).toInt64)))]))
        refine own_pre (fun _ kz_ => XS.lstore X9.here hx rfl (hb hby at_116) rfl (l' := #[.val (.int p0), .val (.int p1), .val (.int p2), .val (.int p3), .val (.long lo), .second, .val (.long hi), .second, .val (.int (1 : Int32)), .val (.int (p3 &&& (7 : Int32))), .val (.double (9218868437227405312 : UInt64)), .second, .val (.double (9218868437227405312 : UInt64)), .second, .val (.ref b), .val (.long (hi + (((p2 &&& (3 : Int32)) - (1 : Int32)).toInt64))), .second, .unset, .unset, .unset]) rfl kz_) ?_
        show OwnGoes p e below _ (T9.setTop (mkF m 118 #[.val (.int p0), .val (.int p1), .val (.int p2), .val (.int p3), .val (.long lo), .second, .val (.long hi), .second, .val (.int (1 : Int32)), .val (.int (p3 &&& (7 : Int32))), .val (.double (9218868437227405312 : UInt64)), .second, .val (.double (9218868437227405312 : UInt64)), .second, .val (.ref b), .val (.long (hi + (((p2 &&& (3 : Int32)) - (1 : Int32)).toInt64))), .second, .unset, .unset, .unset] []))
        have q := own_near hi p2 (by omega) (by omega)
        exact J118 _ (by omega) (by omega)
      · refine own_pre (fun _ kz_ => XS.icmpYes X9.here hx rfl (pc0 := 104) (pc' := 118) rfl (hb hby at_104) rfl (feq h104).2 (by decide) (by decide) kz_) ?_
        show OwnGoes p e below _ (T9.setTop (mkF m 118 #[.val (.int p0), .val (.int p1), .val (.int p2), .val (.int p3), .val (.long lo), .second, .val (.long hi), .second, .val (.int (1 : Int32)), .val (.int (p3 &&& (7 : Int32))), .val (.double (9218868437227405312 : UInt64)), .second, .val (.double (9218868437227405312 : UInt64)), .second, .val (.ref b), .val (.long (p2.toInt64)), .second, .unset, .unset, .unset] []))
        have q := rng32 p2
        exact J118 _ (by rw [Int32.toInt_toInt64]; omega) (by rw [Int32.toInt_toInt64]; omega)
set_option maxRecDepth 65536 in
set_option maxHeartbeats 40000000 in
theorem comes_1 {Post : Tables → Env → Array Value → State → Outcome → State → Prop} (hpost : ∀ tb e args s v u, (limb_1_1.after args s (.returned v) u = true ∧ limb_1_2.after args s (.returned v) u = true ∧ True) → FrameEnd s (.returned v) u (Jvm.fieldLocs frame_1_writes args s ++ Jvm.arrayLocs frame_1_arrays args s ++ Jvm.staticLocs frame_1_statics s) 16 128 → Post tb e args s (.returned v) u) :
    ArmFor flags0 classFile x code maxLocals ret World_1 tables_1 room_1 Calls_1 rest_1 Pre_1 Post := by
  intro l hfl _ _ p e ha hc hk s m args below hf hA hF happ hP
  obtain ⟨hcalls, hrest, hpre⟩ := hP
  obtain ⟨-, -, -, hnamed, -, -, -, hat⟩ := (Spec.applies_iff hf).mp happ
  obtain ⟨hg, hn⟩ := and_e (Cond.before_iff.mp (show (Jvm.Cond.and given_1 narrow_1).before args s = true from hpre))
  obtain ⟨hcount, hgs⟩ := and_e hg
  obtain ⟨ha0, hgs0⟩ := and_e hgs
  obtain ⟨ha1, hgs1⟩ := and_e hgs0
  obtain ⟨ha2, hgs2⟩ := and_e hgs1
  have ha3 := hgs2
  obtain ⟨w0, w1, w2, w3, rfl⟩ : ∃ w0 w1 w2 w3 : Value, args = #[w0, w1, w2, w3] := by
    have hs : args.size = 4 := by simpa [Cond.value, given_1] using hcount
    obtain ⟨L⟩ := args
    match L, hs with
    | [w0, w1, w2, w3], _ => exact ⟨w0, w1, w2, w3, rfl⟩
  have hw := fun d (hd : d ∈ tables_1) => atoms_spec (ws := Jvm.Cond.code x code maxLocals ret :: tables_1) hat d (List.mem_cons_of_mem _ hd)
  have hfit : Fit s := fun {y c} hc i hi => by
    obtain ⟨ha, rfl⟩ := Array.getElem?_eq_some_iff.mp hc
    have q := List.all_eq_true.mp ((Array.all_eq_true_iff_forall_mem.mp hF) _ (Array.getElem_mem ha)) i (List.mem_range.mpr hi)
    simpa [Array.getElem?_eq_getElem hi] using q
  obtain ⟨i0, ei0⟩ := is_v ha0
  obtain rfl : w0 = (.int i0) := Option.some.inj ei0
  obtain ⟨i1, ei1⟩ := is_v ha1
  obtain rfl : w1 = (.int i1) := Option.some.inj ei1
  obtain ⟨i2, ei2⟩ := is_v ha2
  obtain rfl : w2 = (.int i2) := Option.some.inj ei2
  obtain ⟨i3, ei3⟩ := is_v ha3
  obtain rfl : w3 = (.int i3) := Option.some.inj ei3
  obtain ⟨m0, hn0⟩ := and_e hn
  have m1 := hn0
  obtain ⟨u, ev⟩ := exa_v m0
  have Su := Sta.start ev (Or.inr ⟨(hw _ (List.mem_of_getElem? (i := 2) rfl)), (hw _ (List.mem_of_getElem? (i := 3) rfl))⟩)
  have Eu := Exa.start ev m0
  have hfo : s.fieldOf? u "com/example/dual_bounds/dualbounds/Interval" "upper" "D" = some (.double (9218868437227405312 : UInt64)) := own_fld ev m1
  obtain ⟨n, o, h1, h2, h3, _, L, rfl, ⟨rfl, N⟩, hq⟩ := rm0 l s _ hw tables_1 i0 i1 i2 i3 u s.heap s.heap.size (Nat.le_refl _) Su Eu (Fld.start hfo) p e ha hc hk s m _ below hf ((Spec.applies_iff_loose hf).mp happ).1 ⟨rfl, State.Warmed39.refl s, rfl⟩ trivial
  refine ⟨n, _, h1, h2, h3, hpost _ _ _ _ _ _ ⟨Cond.after_iff.mpr rfl, Cond.after_iff.mpr (eq_i res_at (Term.int_eval (1)) rfl), trivial⟩ ⟨hq.1, hq.2.1, (hq.2.2.sift fun y hy => Or.inr (N y hy)).mono (by decide) (by decide)⟩⟩
theorem main_1_1 : Claimed_1_1 := comes_1 fun _ _ _ _ _ _ h hF => ⟨h.1, hF⟩
theorem main_1_2 : Claimed_1_2 := comes_1 fun _ _ _ _ _ _ h hF => ⟨h.2.1, hF⟩
end Jvm.Pilot.@@N@@
namespace Jvm.Pilot.@@N@@
open Jvm Jvm.ClassFile Sem Op Lib Jvm.Free Jvm.Stand Jvm.Pilot.@@N@@.Jvm.D
/-! MADE BY PROGRAM (witnessworld.py) out of the Statement's table words and the real class files: 10 classes; the members and pool entries that the words name. The judged class is class 1, her method 1. -/
namespace start1
open Jvm.ClassFile
def u (s : String) : CpInfo := .utf8 (stringToUtf16 s)
/-- a pool by its gaps: so many unusable entries, then the entry; so many at the end -/
def gap : Nat → List CpInfo → List CpInfo
  | 0, r => r
  | n + 1, r => .unusable :: gap n r
def poolList (es : List (Nat × CpInfo)) (last : Nat) : List CpInfo := es.foldr (fun e r => gap e.1 (e.2 :: r)) (gap last [])
def pool (es : List (Nat × CpInfo)) (last : Nat) : Array CpInfo := ⟨poolList es last⟩
def fileOf (pool : Array CpInfo) (this : Nat) (attrs : Array Attribute := #[]) (ms : Array MethodInfo := #[]) (fl : Nat := 33) (sup : Nat := 0) (ifs : Array Nat := #[]) (fds : Array FieldInfo := #[]) : ClassFile where
  minorVersion := 0
  majorVersion := 65
  constantPool := pool
  accessFlags := fl
  thisClass := this
  superClass := sup
  interfaces := ifs
  fields := fds
  methods := ms
  attributes := attrs
def plain (name : String) (sup : Option ClassId) : Class where
  name := name
  kind := .ordinary
  loader := none
  accessFlags := 33
  super := sup
  interfaces := #[]
  cf := none
  fields := #[]
  methods := #[]
  instanceTypes := #[]
  staticTypes := #[]
  resolved := #[]
  callSites := []
  init := .initialized
  statics := none
  mirror := none

def pool0 : Array CpInfo := pool [(5, u "<init>"), (0, u "()V"), (1, .class_ 10), (1, u "java/lang/Object")] 113

def k0c0 : Code := { maxStack := 0, maxLocals := 1, code := object_method_1_code, exceptionTable := #[], attributes := #[] }
def k0m0 : Method := { name := "<init>", desc := "()V", sig := { parameters := [], returnType := none }, accessFlags := 1, code := some k0c0 }
/-- java/lang/Object -/
def k0 : Class := { plain "java/lang/Object" none with
  accessFlags := 33
  interfaces := #[]
  cf := some (fileOf pool0 8 #[] #[{ accessFlags := 1, nameIndex := 5, descriptorIndex := 6, attributes := #[] }] 33 0 #[] #[])
  fields := #[]
  methods := #[k0m0]
  instanceTypes := #[]
  staticTypes := #[]
  resolved := Array.replicate 124 none
  statics := none }

def pool1 : Array CpInfo := pool [(2, .class_ 4), (1, u "java/lang/Object"), (0, u "<init>"), (0, u "()V"), (0, .long 2147483647), (1, .fieldref 10 11), (0, .class_ 12), (0, .nameAndType 13 14), (0, u "com/example/dual_bounds/dualbounds/Interval"), (0, u "UNBOUNDED"), (0, u "Lcom/example/dual_bounds/dualbounds/Interval;"), (0, .methodref 10 16), (0, .nameAndType 17 18), (0, u "upper"), (0, u "()D"), (0, .methodref 10 20), (0, .nameAndType 5 21), (0, u "(DD)V"), (0, .double 9223372036854775808), (1, .methodref 10 25), (0, .nameAndType 26 27), (0, u "contains"), (0, u "(D)Z"), (0, .class_ 29), (0, u "com/example/dual_bounds/dualbounds/IntervalContainsPinLaw"), (2, u "law"), (0, u "(IIII)Z")] 3

def k1m0 : Method := { name := "<init>", desc := "()V", sig := { parameters := [], returnType := none }, accessFlags := 1, code := none }
def k1c1 : Code := { maxStack := 6, maxLocals := 20, code := code, exceptionTable := #[], attributes := #[] }
def k1m1 : Method := { name := "law", desc := "(IIII)Z", sig := { parameters := [.int, .int, .int, .int], returnType := some .boolean }, accessFlags := 9, code := some k1c1 }
/-- com/example/dual_bounds/dualbounds/IntervalContainsPinLaw -/
def k1 : Class := { plain "com/example/dual_bounds/dualbounds/IntervalContainsPinLaw" (some 0) with
  accessFlags := 49
  interfaces := #[]
  cf := some (fileOf pool1 28 #[] #[{ accessFlags := 1, nameIndex := 5, descriptorIndex := 6, attributes := #[] }, { accessFlags := 9, nameIndex := 32, descriptorIndex := 33, attributes := #[] }] 49 2 #[] #[])
  fields := #[]
  methods := #[k1m0, k1m1]
  instanceTypes := #[]
  staticTypes := #[]
  resolved := Array.replicate 37 none
  statics := none }

def pool2 : Array CpInfo := pool [(1, .methodref 2 3), (0, .class_ 4), (0, .nameAndType 5 6), (0, u "java/lang/Object"), (0, u "<init>"), (0, u "()V"), (0, .class_ 8), (0, u "java/lang/Record")] 13

def k2c0 : Code := { maxStack := 1, maxLocals := 1, code := jdk_30_method_1_code, exceptionTable := #[], attributes := #[] }
def k2m0 : Method := { name := "<init>", desc := "()V", sig := { parameters := [], returnType := none }, accessFlags := 4, code := some k2c0 }
/-- java/lang/Record -/
def k2 : Class := { plain "java/lang/Record" (some 0) with
  accessFlags := 1057
  interfaces := #[]
  cf := some (fileOf pool2 7 #[] #[{ accessFlags := 4, nameIndex := 5, descriptorIndex := 6, attributes := #[] }] 1057 2 #[] #[])
  fields := #[]
  methods := #[k2m0]
  instanceTypes := #[]
  staticTypes := #[]
  resolved := Array.replicate 22 none
  statics := none }

def pool3 : Array CpInfo := pool [(1, .methodref 2 3), (0, .class_ 4), (0, .nameAndType 5 6), (0, u "java/lang/Record"), (0, u "<init>"), (0, u "()V"), (2, .double 9218868437227405312), (13, .fieldref 24 25), (0, .class_ 26), (0, .nameAndType 27 28), (0, u "com/example/dual_bounds/dualbounds/Interval"), (0, u "lower"), (0, u "D"), (0, .fieldref 24 30), (0, .nameAndType 31 28), (0, u "upper"), (14, u "(DD)V"), (2, u "UNBOUNDED"), (0, u "Lcom/example/dual_bounds/dualbounds/Interval;"), (4, u "contains"), (0, u "(D)Z"), (3, u "()D")] 32

def k3c0 : Code := { maxStack := 6, maxLocals := 5, code := prog_2_method_1_code, exceptionTable := #[], attributes := #[] }
def k3m0 : Method := { name := "<init>", desc := "(DD)V", sig := { parameters := [.double, .double], returnType := none }, accessFlags := 1, code := some k3c0 }
def k3c1 : Code := { maxStack := 4, maxLocals := 3, code := prog_2_method_2_code, exceptionTable := #[], attributes := #[] }
def k3m1 : Method := { name := "contains", desc := "(D)Z", sig := { parameters := [.double], returnType := some .boolean }, accessFlags := 1, code := some k3c1 }
def k3c2 : Code := { maxStack := 2, maxLocals := 1, code := prog_2_method_7_code, exceptionTable := #[], attributes := #[] }
def k3m2 : Method := { name := "upper", desc := "()D", sig := { parameters := [], returnType := some .double }, accessFlags := 1, code := some k3c2 }
/-- com/example/dual_bounds/dualbounds/Interval -/
def k3 : Class := { plain "com/example/dual_bounds/dualbounds/Interval" (some 2) with
  accessFlags := 49
  interfaces := #[]
  cf := some (fileOf pool3 24 #[] #[{ accessFlags := 1, nameIndex := 5, descriptorIndex := 46, attributes := #[] }, { accessFlags := 1, nameIndex := 55, descriptorIndex := 56, attributes := #[] }, { accessFlags := 1, nameIndex := 31, descriptorIndex := 60, attributes := #[] }] 49 2 #[] #[{ accessFlags := 18, nameIndex := 27, descriptorIndex := 28, attributes := #[] }, { accessFlags := 18, nameIndex := 31, descriptorIndex := 28, attributes := #[] }, { accessFlags := 25, nameIndex := 49, descriptorIndex := 50, attributes := #[] }])
  fields := #[{ name := "lower", type := .double, accessFlags := 18, slot := 0, constantValue := 0 }, { name := "upper", type := .double, accessFlags := 18, slot := 1, constantValue := 0 }, { name := "UNBOUNDED", type := (.object "com/example/dual_bounds/dualbounds/Interval"), accessFlags := 25, slot := 0, constantValue := 0 }]
  methods := #[k3m0, k3m1, k3m2]
  instanceTypes := #[.double, .double]
  staticTypes := #[(.object "com/example/dual_bounds/dualbounds/Interval")]
  resolved := Array.replicate 93 none
  statics := some 0 }

def pool4 : Array CpInfo := pool [(1, u "java/lang/Cloneable"), (0, .class_ 1), (0, u "java/lang/Object"), (0, .class_ 3)] 3

/-- java/lang/Cloneable -/
def k4 : Class := { plain "java/lang/Cloneable" (some 0) with
  accessFlags := 1537
  interfaces := #[]
  cf := some (fileOf pool4 2 #[] #[] 1537 4 #[] #[])
  fields := #[]
  methods := #[]
  instanceTypes := #[]
  staticTypes := #[]
  resolved := Array.replicate 8 none
  statics := none }

def pool5 : Array CpInfo := pool [(1, u "java/io/Serializable"), (0, .class_ 1), (0, u "java/lang/Object"), (0, .class_ 3)] 3

/-- java/io/Serializable -/
def k5 : Class := { plain "java/io/Serializable" (some 0) with
  accessFlags := 1537
  interfaces := #[]
  cf := some (fileOf pool5 2 #[] #[] 1537 4 #[] #[])
  fields := #[]
  methods := #[]
  instanceTypes := #[]
  staticTypes := #[]
  resolved := Array.replicate 8 none
  statics := none }

/-- the primitive byte -/
def k6 : Class := { plain "byte" none with kind := .primitive 'B', accessFlags := 0x411 }
/-- [B -/
def k7 : Class := { plain "[B" (some 0) with kind := .array 6 .byte, interfaces := #[4, 5], accessFlags := 1041 }

/-- the primitive int -/
def k8 : Class := { plain "int" none with kind := .primitive 'I', accessFlags := 0x411 }
/-- [I -/
def k9 : Class := { plain "[I" (some 0) with kind := .array 8 .int, interfaces := #[4, 5], accessFlags := 1041 }

def heap : Heap := #[{ cls := 3, slots := #[.ref 1], vm := .statics 3 },
  { cls := 3, slots := #[.double 0, .double 9218868437227405312], vm := .none }]
def classes : Array Class := #[k0, k1, k2, k3, k4, k5, k6, k7, k8, k9]
def interned : List (Array UInt16 × Addr) := []
def slotsUsed : Nat := 3
def theMethod : MethodId := ⟨1, 1⟩
def args0 : Array Value := #[.int 5, .int 6, .int 7, .int 8]
def aboutOver (below : List Frame) : State where
  vm := { classes := classes, interned := interned.toArray }
  heap := heap
  slotsUsed := slotsUsed
  threads := #[{ frames := .invoking theMethod args0 :: below }]
def below0 : List Frame := [.native { method := ⟨0, 0⟩, args := #[] }]
def about1 : State := aboutOver below0
def p0 : Program := .bare "" "" ""
def e0 : Env := launch0.env 0 0 0
theorem w_frames : about1.frames = Frame.invoking theMethod args0 :: below0 := rfl
set_option maxRecDepth 65536 in
theorem w_args : argsFit about1.vm theMethod args0 = true := by decide +kernel
set_option maxRecDepth 65536 in
theorem w_heap : heapFits about1 = true := by decide +kernel
set_option maxRecDepth 65536 in
theorem w_runnable : about1.curStatus? = some .runnable := by decide +kernel
set_option maxRecDepth 65536 in
theorem w_alone : about1.alone = true := by decide +kernel
set_option maxRecDepth 65536 in
theorem w_named : about1.methodNamed? x = some theMethod := by decide +kernel
set_option maxRecDepth 65536 in
theorem w_hears : about1.hears theMethod below0 = true := by decide +kernel
set_option maxRecDepth 65536 in
theorem w_ripe : about1.ripe theMethod args0 below0 = true := by decide +kernel
theorem w_running : about1.status = .running := rfl
set_option maxRecDepth 65536 in
theorem w_room : about1.hasRoom e0.platform room_1 = true :=
  launch0.hasRoom_least _ room_1 (by decide +kernel) (by decide +kernel) (by decide +kernel) (by decide +kernel) (by decide +kernel) (by decide +kernel)
theorem allAtoms_all (ts : List Jvm.Cond) (a : Array Jvm.Value) (st : Jvm.State) : (allAtoms ts).before a st = ts.all (fun c => c.before a st) := by
  induction ts with
  | nil => rfl
  | cons c t ih =>
    show (Jvm.Cond.and c (allAtoms t)).before a st = _
    rw [Jvm.Cond.before_and, ih, List.all_cons]
def words1 : List Jvm.Cond := Jvm.Cond.code x code maxLocals ret :: tables_1
/-- a 'code' word, met by the world's own term for the bytes: nothing is compared byte by byte -/
theorem code_word {y : MethodName} {bytes : ByteArray} {mx : Nat} {rt : Option FieldType} {a : Array Value} {s : State} {m : MethodId} {meth : Method} {c : Code} (h1 : s.methodNamed? y = some m) (h2 : s.vm.method? m = some meth) (h3 : meth.code = some c) (h4 : c.code = bytes)
    (h5 : (c.maxLocals == mx && c.exceptionTable.isEmpty && decide (c.maxStack ≤ mostOperands) && decide (meth.sig.returnType = rt) && !meth.locks && decide (parseMethodDescriptor y.desc = some meth.sig)) = true) : (Jvm.Cond.code y bytes mx rt).before a s = true := by
  simp only [Bool.and_eq_true, beq_iff_eq, Bool.not_eq_true', decide_eq_true_eq] at h5
  obtain ⟨⟨⟨⟨⟨g1, g2⟩, g3⟩, g4⟩, g5⟩, g6⟩ := h5
  simp [Cond.before, Cond.holds, Cond.value, h1, h2, h3, h4, g1, g2, g3, g4, g5, g6]
def isCode : Jvm.Cond → Bool
  | .code _ _ _ _ => true
  | _ => false
theorem all_split {L : List Jvm.Cond} {P : Jvm.Cond → Bool} (h1 : L.all (fun c => isCode c || P c) = true) (h2 : ∀ c ∈ L.filter isCode, P c = true) : L.all P = true := by
  refine List.all_eq_true.mpr fun c hc => ?_
  have h := List.all_eq_true.mp h1 c hc
  rcases Bool.eq_false_or_eq_true (isCode c) with hi | hi
  · exact h2 c (List.mem_filter.mpr ⟨hc, hi⟩)
  · simpa [hi] using h
set_option maxRecDepth 65536 in
theorem w_c0 : (Jvm.Cond.code x code maxLocals ret).before args0 about1 = true := code_word (m := ⟨1, 1⟩) (meth := k1m1) (c := k1c1) (by decide +kernel) rfl rfl rfl (by decide +kernel)
set_option maxRecDepth 65536 in
theorem w_c1 : (Jvm.Cond.code ({ cls := "com/example/dual_bounds/dualbounds/Interval", name := "upper", desc := "()D" } : Jvm.MethodName) prog_2_method_7_code (1 : Nat) (Option.some Jvm.ClassFile.FieldType.double)).before args0 about1 = true := code_word (m := ⟨3, 2⟩) (meth := k3m2) (c := k3c2) (by decide +kernel) rfl rfl rfl (by decide +kernel)
set_option maxRecDepth 65536 in
theorem w_c2 : (Jvm.Cond.code ({ cls := "com/example/dual_bounds/dualbounds/Interval", name := "<init>", desc := "(DD)V" } : Jvm.MethodName) prog_2_method_1_code (5 : Nat) (Option.none : Option Jvm.ClassFile.FieldType)).before args0 about1 = true := code_word (m := ⟨3, 0⟩) (meth := k3m0) (c := k3c0) (by decide +kernel) rfl rfl rfl (by decide +kernel)
set_option maxRecDepth 65536 in
theorem w_c3 : (Jvm.Cond.code ({ cls := "java/lang/Record", name := "<init>", desc := "()V" } : Jvm.MethodName) jdk_30_method_1_code (1 : Nat) (Option.none : Option Jvm.ClassFile.FieldType)).before args0 about1 = true := code_word (m := ⟨2, 0⟩) (meth := k2m0) (c := k2c0) (by decide +kernel) rfl rfl rfl (by decide +kernel)
set_option maxRecDepth 65536 in
theorem w_c4 : (Jvm.Cond.code ({ cls := "java/lang/Object", name := "<init>", desc := "()V" } : Jvm.MethodName) object_method_1_code (1 : Nat) (Option.none : Option Jvm.ClassFile.FieldType)).before args0 about1 = true := code_word (m := ⟨0, 0⟩) (meth := k0m0) (c := k0c0) (by decide +kernel) rfl rfl rfl (by decide +kernel)
set_option maxRecDepth 65536 in
theorem w_c5 : (Jvm.Cond.code ({ cls := "com/example/dual_bounds/dualbounds/Interval", name := "contains", desc := "(D)Z" } : Jvm.MethodName) prog_2_method_2_code (3 : Nat) (Option.some Jvm.ClassFile.FieldType.boolean)).before args0 about1 = true := code_word (m := ⟨3, 1⟩) (meth := k3m1) (c := k3c1) (by decide +kernel) rfl rfl rfl (by decide +kernel)
def codes1 : List Jvm.Cond := [Jvm.Cond.code x code maxLocals ret, Jvm.Cond.code ({ cls := "com/example/dual_bounds/dualbounds/Interval", name := "upper", desc := "()D" } : Jvm.MethodName) prog_2_method_7_code (1 : Nat) (Option.some Jvm.ClassFile.FieldType.double), Jvm.Cond.code ({ cls := "com/example/dual_bounds/dualbounds/Interval", name := "<init>", desc := "(DD)V" } : Jvm.MethodName) prog_2_method_1_code (5 : Nat) (Option.none : Option Jvm.ClassFile.FieldType), Jvm.Cond.code ({ cls := "java/lang/Record", name := "<init>", desc := "()V" } : Jvm.MethodName) jdk_30_method_1_code (1 : Nat) (Option.none : Option Jvm.ClassFile.FieldType), Jvm.Cond.code ({ cls := "java/lang/Object", name := "<init>", desc := "()V" } : Jvm.MethodName) object_method_1_code (1 : Nat) (Option.none : Option Jvm.ClassFile.FieldType), Jvm.Cond.code ({ cls := "com/example/dual_bounds/dualbounds/Interval", name := "contains", desc := "(D)Z" } : Jvm.MethodName) prog_2_method_2_code (3 : Nat) (Option.some Jvm.ClassFile.FieldType.boolean)]
set_option maxRecDepth 65536 in
theorem codes_eq : words1.filter isCode = codes1 := rfl
theorem w_codes : ∀ c ∈ words1.filter isCode, c.before args0 about1 = true := by
  rw [codes_eq]
  intro c hc
  simp only [codes1, List.mem_cons, List.not_mem_nil, or_false] at hc
  rcases hc with rfl | rfl | rfl | rfl | rfl | rfl
  · exact w_c0
  · exact w_c1
  · exact w_c2
  · exact w_c3
  · exact w_c4
  · exact w_c5
set_option maxRecDepth 65536 in
theorem w_t1 : (words1.take 24).all (fun c => isCode c || c.before args0 about1) = true := by decide +kernel
set_option maxRecDepth 65536 in
theorem w_t2 : (words1.drop 24).all (fun c => isCode c || c.before args0 about1) = true := by decide +kernel
theorem w_tables : (allAtoms (Jvm.Cond.code x code maxLocals ret :: tables_1)).before args0 about1 = true := by
  rw [allAtoms_all]
  show words1.all (fun c => c.before args0 about1) = true
  refine all_split ?_ w_codes
  rw [← List.take_append_drop 24 words1, List.all_append, w_t1, w_t2]
  rfl
set_option maxRecDepth 65536 in
theorem w_case : (Jvm.Cond.and given_1 narrow_1).before args0 about1 = true := by decide +kernel
theorem w_applies : (headSpec (Jvm.Cond.code x code maxLocals ret :: tables_1) room_1).applies x e0.platform about1 = true :=
  (Spec.applies_iff w_frames).mpr ⟨w_running, w_runnable, w_alone, w_named, w_hears, w_ripe, w_room, w_tables⟩
theorem atStart : AtStart classFile x code maxLocals ret World_1 tables_1 room_1 Calls_1 rest_1 Pre_1 launch0 p0 e0 about1 theMethod args0 below0 :=
  ⟨lists_1, trivial, launch0.admits_env _ _ _, launch0.least_env, fairChoices_fair.cas, fairChoices_fair.clock, w_frames, w_args, w_heap, w_applies, trivial, trivial, w_case⟩
end start1
theorem witness_1 : WitnessClaimed_1 := ⟨start1.p0, start1.e0, start1.about1, start1.theMethod, start1.args0, start1.below0, start1.atStart⟩
end Jvm.Pilot.@@N@@

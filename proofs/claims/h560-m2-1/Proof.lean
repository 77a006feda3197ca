import JvmDerived
import JvmDerived.Pilot.@@N@@Statement
import JvmDerived.Pilot.@@N@@Code
set_option linter.unusedVariables false
set_option linter.unusedSimpArgs false
namespace Jvm.Pilot.@@N@@
open Jvm Jvm.ClassFile Sem Op Lib Jvm.Free Jvm.Stand Jvm.LawKit Jvm.RoadKit Bundle Jvm.Pilot.@@N@@.Jvm.D
/-! the walk in continuation style: 'from U the run comes to an end of which P holds' -/
def OwnGoes (p : Program) (e : Env) (below : List Frame) (P : Outcome → State → Prop) (U : State) : Prop := ∃ s₂ o, Steps p.tables e below U s₂ ∧ s₂.status = .running ∧ Ended s₂ below o ∧ P o s₂
theorem own_pre {p : Program} {e : Env} {below : List Frame} {P : Outcome → State → Prop} {U U' : State} (h : ∀ t, Steps p.tables e below U' t → Steps p.tables e below U t) (k : OwnGoes p e below P U') : OwnGoes p e below P U := by
  obtain ⟨s₂, o, h1, h2⟩ := k
  exact ⟨s₂, o, h _ h1, h2⟩
theorem own_tr {p : Program} {e : Env} {below : List Frame} {P : Outcome → State → Prop} {U U' : State} (h : Steps p.tables e below U U') (k : OwnGoes p e below P U') : OwnGoes p e below P U := own_pre (fun _ q => h.trans q) k
theorem own_ret {p : Program} {l : Launch} {e : Env} {R : Room} {s : State} {m : MethodId} {args : Array Value} {below : List Frame} {meth : Method} {c : Code} {T : State} {locs : List Loc} {cells slots : Nat}
    (X : Stand p l e R s m args below meth c T locs cells slots) (hx : p.tables.exec = Jvm.exec) {pc : Nat} {Ls : Array Slot} {w : Value} {t : FieldType} {i : Instr} {rest : List Value} (hret : meth.sig.returnType = some t) (hn : narrow t w = w)
    (hi : (i = .ireturn ∧ (t = .int ∨ t = .boolean ∨ t = .byte ∨ t = .char ∨ t = .short) ∧ ∃ z, w = .int z) ∨ (i = .lreturn ∧ t = .long ∧ ∃ z, w = .long z) ∨ (i = .dreturn ∧ t = .double ∧ ∃ z, w = .double z) ∨ (i = .freturn ∧ t = .float ∧ ∃ z, w = .float z) ∨ (i = .areturn ∧ t.isReference = true ∧ w.isRef = true))
    (hlocks : meth.locks = false) (hd : decode c.code pc = .ok (i, 1)) {Qh : Option Value → Heap → List Loc → Prop} {rc rs : Nat} (hQ : Qh (some w) T.heap locs) (hc : cells ≤ rc) (hs : slots ≤ rs) :
    OwnGoes p e below (fun o U' => ∃ v L, o = .returned v ∧ Qh v U'.heap L ∧ FrameEnd s o U' L rc rs) (T.setTop (mkF m pc Ls (w :: rest))) := by
  obtain ⟨fs, hr, hrun, hended, hW, hsame⟩ := X.leave (v := some w) (fun h => by rw [hret] at h; cases h) hlocks
  exact ⟨_, _, retOut X hx hret hn hi hd hr, hrun, hended, _, _, rfl, hQ, ⟨_, rfl⟩, hW, hsame.mono hc hs⟩
theorem own_retV {p : Program} {l : Launch} {e : Env} {R : Room} {s : State} {m : MethodId} {args : Array Value} {below : List Frame} {meth : Method} {c : Code} {T : State} {locs : List Loc} {cells slots : Nat}
    (X : Stand p l e R s m args below meth c T locs cells slots) (hx : p.tables.exec = Jvm.exec) {pc : Nat} {Ls : Array Slot} (hret : meth.sig.returnType = none) (hlocks : meth.locks = false) (hd : decode c.code pc = .ok (.return_, 1)) {Qh : Option Value → Heap → List Loc → Prop} {rc rs : Nat} (hQ : Qh none T.heap locs) (hc : cells ≤ rc) (hs : slots ≤ rs) :
    OwnGoes p e below (fun o U' => ∃ v L, o = .returned v ∧ Qh v U'.heap L ∧ FrameEnd s o U' L rc rs) (T.setTop (mkF m pc Ls [])) := by
  obtain ⟨fs, hr, hrun, hended, hW, hsame⟩ := X.leave (v := none) (fun _ => rfl) hlocks
  exact ⟨_, _, X.returnOut hx hret hd hr, hrun, hended, _, _, rfl, hQ, ⟨_, rfl⟩, hW, hsame.mono hc hs⟩

theorem own_nonan {a : UInt64} (h : Jvm.FP.Core.val64 a ≠ .nan) : Jvm.Free.Fl.NoNaN64 a := Jvm.Free.Fl.val64_no.mpr h


/-- x / 8.0 is exact -/
theorem own_div8 (x : Int32) : Jvm.FP.Core.val64 (Jvm.FP.ddiv (Jvm.FP.i2d x) 4620693217682128896) ≠ .nan ∧ 8 * Jvm.FP.Core.zval Jvm.FP.Core.b64 (Jvm.FP.Core.val64 (Jvm.FP.ddiv (Jvm.FP.i2d x) 4620693217682128896)) = x.toInt * ((2 ^ 1074 : Nat) : Int) := by
  have e8 : Jvm.FP.Core.val64 4620693217682128896 = .fin false (2 ^ 52) (-49) := by decide +kernel
  have hq0 : Jvm.FP.Core.b64.qmin = -1074 := by decide
  have hq1 : Jvm.FP.Core.b64.qmax = 971 := by decide
  have ht : Jvm.FP.Core.b64.tails = 2 ^ 52 := by decide
  have hp : Jvm.FP.Core.b64.p = 53 := by decide
  obtain ⟨s, c, q, hv⟩ := Jvm.FP.Core.i2d_fin x
  have hW : Jvm.FP.Core.Whole x.toInt (.fin s c q) := hv ▸ Jvm.FP.Core.i2d_int x
  have hfit : Jvm.FP.Core.fits Jvm.FP.Core.b64 (.fin s c q) := hv ▸ Jvm.FP.Core.val64_fits (Jvm.FP.i2d x)
  have hz := Jvm.FP.Core.whole_zval Jvm.FP.Core.good_b64 hfit hW
  have hn := Jvm.FP.Core.whole_natAbs hW
  have h0 := Jvm.FP.Core.whole_zero hW
  obtain ⟨hc, g1, g2, g3⟩ := hfit
  rw [hp] at hc
  rw [hq0] at g1 g3 hz
  rw [hq1] at g2
  rw [ht] at g3
  have hd : Jvm.FP.Core.val64 (Jvm.FP.ddiv (Jvm.FP.i2d x) 4620693217682128896) = Jvm.FP.Core.roundRatio Jvm.FP.Core.b64 s c (2 ^ 52) (q + 49) := by
    rw [show Jvm.FP.ddiv (Jvm.FP.i2d x) 4620693217682128896 = Jvm.FP.Core.ddiv (Jvm.FP.i2d x) 4620693217682128896 from rfl, Jvm.FP.Core.val64_ddiv, hv, e8]
    show (if (2 ^ 52 : Nat) = 0 then (if c = 0 then Jvm.FP.Core.Datum.nan else Jvm.FP.Core.Datum.inf (s != false)) else Jvm.FP.Core.roundRatio Jvm.FP.Core.b64 (s != false) c (2 ^ 52) (q - (-49))) = _
    rw [if_neg (by decide), Bool.bne_false, show q - (-49) = q + 49 by omega]
  rw [hd]
  by_cases hx : c = 0
  · have hr : Jvm.FP.Core.roundRatio Jvm.FP.Core.b64 s c (2 ^ 52) (q + 49) = .fin s 0 (-1074) := by
      unfold Jvm.FP.Core.roundRatio; rw [if_pos hx, hq0]
    rw [hr, h0.mp hx]
    refine ⟨by simp, ?_⟩
    show 8 * Jvm.FP.Core.signed s (0 * _) = _
    cases s <;> simp [Jvm.FP.Core.signed]
  · have hx0 : x.toInt.natAbs ≠ 0 := fun h => hx (h0.mpr (by omega))
    have hqq : -1071 ≤ q := by
      apply Int.not_lt.mp
      intro hlt
      rw [show q.toNat = 0 by omega, Nat.pow_zero, Nat.mul_one] at hn
      have h1 : 2 ^ 53 ≤ 2 ^ (-q).toNat := Nat.pow_le_pow_right (by decide) (by omega)
      have h2 : 1 * 2 ^ (-q).toNat ≤ x.toInt.natAbs * 2 ^ (-q).toNat := Nat.mul_le_mul_right _ (by omega)
      omega
    have hcan : 2 ^ 52 ≤ c := by rcases g3 with g | g <;> omega
    have hr : Jvm.FP.Core.roundRatio Jvm.FP.Core.b64 s c (2 ^ 52) (q + 49) = .fin s c (q - 3) := by
      refine Jvm.FP.Core.roundRatio_exact Jvm.FP.Core.good_b64 (by decide) ?_ ?_
      · refine ⟨by rw [hp]; exact hc, by rw [hq0]; omega, by rw [hq1]; omega, Or.inr (by rw [ht]; exact hcan)⟩
      · rw [show (q + 49 - (q - 3)).toNat = 52 by omega, show (q - 3 - (q + 49)).toNat = 0 by omega, Nat.pow_zero, Nat.mul_one]
    rw [hr]
    refine ⟨by simp, ?_⟩
    have e1 : Jvm.FP.Core.zval Jvm.FP.Core.b64 (.fin s c q) = 8 * Jvm.FP.Core.zval Jvm.FP.Core.b64 (.fin s c (q - 3)) := by
      show Jvm.FP.Core.signed s (c * 2 ^ (q - Jvm.FP.Core.b64.qmin).toNat) = 8 * Jvm.FP.Core.signed s (c * 2 ^ (q - 3 - Jvm.FP.Core.b64.qmin).toNat)
      rw [hq0, show (q - -1074).toNat = (q - 3 - -1074).toNat + 3 by omega, Nat.pow_add, ← Nat.mul_assoc, Jvm.FP.Core.signed_mul s (c * 2 ^ (q - 3 - -1074).toNat)]
      rw [show ((2 ^ 3 : Nat) : Int) = 8 by decide, Int.mul_comm]
    rw [← e1, hz]
    congr 1
theorem own_nn8 (x : Int32) : Jvm.Free.Fl.NoNaN64 (Jvm.FP.ddiv (Jvm.FP.i2d x) 4620693217682128896) := own_nonan (own_div8 x).1
theorem own_cmp8 (x y : Int32) : cmpValue (Jvm.FP.dcmp (Jvm.FP.ddiv (Jvm.FP.i2d x) 4620693217682128896) (Jvm.FP.ddiv (Jvm.FP.i2d y) 4620693217682128896)) .g = if x < y then (-1 : Int32) else if x = y then (0 : Int32) else (1 : Int32) := by
  obtain ⟨n1, z1⟩ := own_div8 x
  obtain ⟨n2, z2⟩ := own_div8 y
  rw [show Jvm.FP.dcmp _ _ = Jvm.FP.Core.dcmp _ _ from rfl, Jvm.FP.Core.dcmp_zval n1 n2]
  generalize Jvm.FP.Core.zval _ (Jvm.FP.Core.val64 (Jvm.FP.ddiv (Jvm.FP.i2d x) _)) = a at z1 ⊢
  generalize Jvm.FP.Core.zval _ (Jvm.FP.Core.val64 (Jvm.FP.ddiv (Jvm.FP.i2d y) _)) = b at z2 ⊢
  have hP : (0 : Int) < ((2 ^ 1074 : Nat) : Int) := Int.natCast_pos.mpr (Nat.two_pow_pos _)
  generalize ((2 ^ 1074 : Nat) : Int) = P at hP z1 z2
  rw [Jvm.FP.Core.compare_ite]
  by_cases h1 : x < y
  · rw [if_pos h1]
    rw [Int32.lt_iff_toInt_lt] at h1
    have : x.toInt * P < y.toInt * P := Int.mul_lt_mul_of_pos_right h1 hP
    rw [if_pos (by omega)]; rfl
  · rw [if_neg h1]
    by_cases h2 : x = y
    · rw [if_pos h2]
      subst h2
      rw [if_neg (by omega), if_pos (by omega)]; rfl
    · rw [if_neg h2]
      rw [Int32.lt_iff_toInt_lt] at h1
      have h3 : y.toInt < x.toInt := by
        have : x.toInt ≠ y.toInt := fun q => h2 (Int32.toInt_inj.mp q)
        omega
      have : y.toInt * P < x.toInt * P := Int.mul_lt_mul_of_pos_right h3 hP
      rw [if_neg (by omega), if_neg (by omega)]; rfl

def Q2  (h0 : Heap) (n0 : Nat) (v : Option Value) (h : Heap) (L : List Loc) : Prop := v = none ∧ Fr n0 L ∧ h = h0
theorem d2_0 : decode jdk_30_method_1_code 0 = .ok (.aload_n 0, 1) := by decide +kernel
theorem d2_1 : decode jdk_30_method_1_code 1 = .ok (.invokespecial 1, 3) := by decide +kernel
theorem d2_4 : decode jdk_30_method_1_code 4 = .ok (.return_, 1) := by decide +kernel
set_option maxRecDepth 65536 in
set_option maxHeartbeats 40000000 in
theorem rm2 (l : Launch) (Z : State) (a0 : Array Value) (hw : ∀ d ∈ tables_1, d.before a0 Z = true) (ws : List Jvm.Cond) (a1 : Addr) (h0 : Heap) (n0 : Nat) (Z0 : n0 ≤ h0.size) :
    MetFree l (⟨"java/lang/Record", "<init>", "()V"⟩ : MethodName) (head1 (Jvm.Cond.code (⟨"java/lang/Record", "<init>", "()V"⟩ : MethodName) jdk_30_method_1_code 1 none :: ws) ({ frames := 1, cells := 0, slots := 0, locals := 12 } : Room)) (fun a U => a = #[(.ref a1)] ∧ Z.Warmed39 U.vm ∧ U.heap = h0) (fun _ _ _ _ _ => True) (fun _ U o U' => ∃ v L, o = .returned v ∧ Q2 h0 n0 v U'.heap L ∧ FrameEnd U o U' L ({ frames := 1, cells := 0, slots := 0, locals := 12 } : Room).cells ({ frames := 1, cells := 0, slots := 0, locals := 12 } : Room).slots) := by
  refine MetFree.of_bodySF (plainFor_of_name (by first | (simp [plainName, overriddenIn]; done) | decide +kernel)) hisR ?_
  intro p e s m args below meth c s₁ Bd hml0 hP hK
  obtain ⟨rfl, hZ, hh⟩ := hP
  have hx := Bd.exec
  have hby := Bd.bytes
  have hml : c.maxLocals = 1 := hml0
  have hown : s.vm.findClass "java/lang/Record" = some m.cls := findClass_of_methodNamed Bd.named
  have hnm := (name_of_methodNamed Bd.named Bd.method).1
  have X0 : Stand p l e ({ frames := 1, cells := 0, slots := 0, locals := 12 } : Room) s m #[(.ref a1)] below meth c s₁ [] 0 0 := Stand.of_body Bd
  have e0 : s₁.heap = h0 := by rw [← hh, Bd.state]; rfl
  have N0 := Fr.nil n0
  have ef : entryFrame m #[(.ref a1)] 1 = (mkF m 0 #[.val (.ref a1)] []) := by first | (simp [entryFrame, mkF, argsToLocals, Value.category]; done) | rfl
  show OwnGoes p e below (fun o U' => ∃ v L, o = .returned v ∧ Q2 h0 n0 v U'.heap L ∧ FrameEnd s o U' L ({ frames := 1, cells := 0, slots := 0, locals := 12 } : Room).cells ({ frames := 1, cells := 0, slots := 0, locals := 12 } : Room).slots) (s₁.setTop (entryFrame m #[(.ref a1)] 1))
  refine own_pre (fun t k => castTop ef k) ?_
  show OwnGoes p e below _ (s₁.setTop (mkF m 0 #[.val (.ref a1)] []))
  refine own_pre (fun _ kz_ => XS.aloadN X0.here hx rfl (hb hby d2_0) rfl rfl kz_) ?_
  show OwnGoes p e below _ (s₁.setTop (mkF m 1 #[.val (.ref a1)] [(.ref a1)]))
  obtain ⟨T1, X1, e1, st1⟩ := initO X0 hx hZ hown (hw _ (List.mem_of_getElem? (i := 12) rfl)) (hw _ (List.mem_of_getElem? (i := 13) rfl)) (hw _ (List.mem_of_getElem? (i := 14) rfl)) e0 (g := (mkF m 1 #[.val (.ref a1)] [(.ref a1)])) rfl (by rw [hml]; rfl) rfl (hb hby d2_1) (by decide) (W := 0) (by show 2 * 0 + _ ≤ _; exact Nat.le_of_eq rfl) (by decide)
  refine own_pre st1 ?_
  show OwnGoes p e below _ (T1.setTop (mkF m 4 #[.val (.ref a1)] []))
  exact own_retV X1 hx Bd.returns Bd.notSynchronized (hb hby d2_4) ⟨rfl, N0, e1⟩ (by decide) (by decide)
theorem d1_0 : decode prog_8_method_1_code 0 = .ok (.aload_n 0, 1) := by decide +kernel
theorem d1_1 : decode prog_8_method_1_code 1 = .ok (.invokespecial 1, 3) := by decide +kernel
theorem d1_4 : decode prog_8_method_1_code 4 = .ok (.aload_n 0, 1) := by decide +kernel
theorem d1_5 : decode prog_8_method_1_code 5 = .ok (.dload_n 1, 1) := by decide +kernel
theorem d1_6 : decode prog_8_method_1_code 6 = .ok (.putfield 7, 3) := by decide +kernel
theorem d1_9 : decode prog_8_method_1_code 9 = .ok (.aload_n 0, 1) := by decide +kernel
theorem d1_10 : decode prog_8_method_1_code 10 = .ok (.dload_n 3, 1) := by decide +kernel
theorem d1_11 : decode prog_8_method_1_code 11 = .ok (.putfield 13, 3) := by decide +kernel
theorem d1_14 : decode prog_8_method_1_code 14 = .ok (.return_, 1) := by decide +kernel
theorem d4_0 : decode prog_8_method_2_code 0 = .ok (.aload_n 0, 1) := by decide +kernel
theorem d4_1 : decode prog_8_method_2_code 1 = .ok (.getfield 13, 3) := by decide +kernel
theorem d4_4 : decode prog_8_method_2_code 4 = .ok (.dload_n 1, 1) := by decide +kernel
theorem d4_5 : decode prog_8_method_2_code 5 = .ok (.dcmp .g, 1) := by decide +kernel
theorem d4_6 : decode prog_8_method_2_code 6 = .ok (.ifCond .gt 7, 3) := by decide +kernel
theorem d4_9 : decode prog_8_method_2_code 9 = .ok (.iconst 1, 1) := by decide +kernel
theorem d4_10 : decode prog_8_method_2_code 10 = .ok (.goto 4, 3) := by decide +kernel
theorem d4_13 : decode prog_8_method_2_code 13 = .ok (.iconst 0, 1) := by decide +kernel
theorem d4_14 : decode prog_8_method_2_code 14 = .ok (.ireturn, 1) := by decide +kernel
def Q1 (Z : State) (a1 : Addr) (x2 : UInt64) (h0 : Heap) (n0 : Nat) (v : Option Value) (h : Heap) (L : List Loc) : Prop := v = none ∧ Fr n0 L ∧ Keep h0 h [a1] ∧ Exa Z h a1 "com/example/chrono_bloom/chronobloom/ConfirmedModel$Figures" ∧ Fld Z h a1 "com/example/chrono_bloom/chronobloom/ConfirmedModel$Figures" "probes" "D" (.double x2)
set_option maxRecDepth 65536 in
set_option maxHeartbeats 40000000 in
theorem rm1 (l : Launch) (Z : State) (a0 : Array Value) (hw : ∀ d ∈ tables_1, d.before a0 Z = true) (ws : List Jvm.Cond) (a1 : Addr) (x1 x2 : UInt64) (h0 : Heap) (n0 : Nat) (Z0 : n0 ≤ h0.size) (E1 : Exa Z h0 a1 "com/example/chrono_bloom/chronobloom/ConfirmedModel$Figures") (F1 : Fld Z h0 a1 "com/example/chrono_bloom/chronobloom/ConfirmedModel$Figures" "cost" "D" (.double (0 : UInt64))) (F2 : Fld Z h0 a1 "com/example/chrono_bloom/chronobloom/ConfirmedModel$Figures" "probes" "D" (.double (0 : UInt64))) (g_a1 : n0 ≤ a1) :
    MetFree l (⟨"com/example/chrono_bloom/chronobloom/ConfirmedModel$Figures", "<init>", "(DD)V"⟩ : MethodName) (head1 (Jvm.Cond.code (⟨"com/example/chrono_bloom/chronobloom/ConfirmedModel$Figures", "<init>", "(DD)V"⟩ : MethodName) prog_8_method_1_code 5 none :: ws) ({ frames := 2, cells := 0, slots := 0, locals := 24 } : Room)) (fun a U => a = #[(.ref a1), (.double x1), (.double x2)] ∧ Z.Warmed39 U.vm ∧ U.heap = h0) (fun _ _ _ _ _ => True) (fun _ U o U' => ∃ v L, o = .returned v ∧ Q1 Z a1 x2 h0 n0 v U'.heap L ∧ FrameEnd U o U' L ({ frames := 2, cells := 0, slots := 0, locals := 24 } : Room).cells ({ frames := 2, cells := 0, slots := 0, locals := 24 } : Room).slots) := by
  refine MetFree.of_bodySF (plainFor_of_name (by first | (simp [plainName, overriddenIn]; done) | decide +kernel)) hisR ?_
  intro p e s m args below meth c s₁ Bd hml0 hP hK
  obtain ⟨rfl, hZ, hh⟩ := hP
  have hx := Bd.exec
  have hby := Bd.bytes
  have hml : c.maxLocals = 5 := hml0
  have hown : s.vm.findClass "com/example/chrono_bloom/chronobloom/ConfirmedModel$Figures" = some m.cls := findClass_of_methodNamed Bd.named
  have hnm := (name_of_methodNamed Bd.named Bd.method).1
  have X0 : Stand p l e ({ frames := 2, cells := 0, slots := 0, locals := 24 } : Room) s m #[(.ref a1), (.double x1), (.double x2)] below meth c s₁ [] 0 0 := Stand.of_body Bd
  have e0 : s₁.heap = h0 := by rw [← hh, Bd.state]; rfl
  have N0 := Fr.nil n0
  have ef : entryFrame m #[(.ref a1), (.double x1), (.double x2)] 5 = (mkF m 0 #[.val (.ref a1), .val (.double x1), .second, .val (.double x2), .second] []) := by first | (simp [entryFrame, mkF, argsToLocals, Value.category]; done) | rfl
  show OwnGoes p e below (fun o U' => ∃ v L, o = .returned v ∧ Q1 Z a1 x2 h0 n0 v U'.heap L ∧ FrameEnd s o U' L ({ frames := 2, cells := 0, slots := 0, locals := 24 } : Room).cells ({ frames := 2, cells := 0, slots := 0, locals := 24 } : Room).slots) (s₁.setTop (entryFrame m #[(.ref a1), (.double x1), (.double x2)] 5))
  refine own_pre (fun t k => castTop ef k) ?_
  show OwnGoes p e below _ (s₁.setTop (mkF m 0 #[.val (.ref a1), .val (.double x1), .second, .val (.double x2), .second] []))
  refine own_pre (fun _ kz_ => XS.aloadN X0.here hx rfl (hb hby d1_0) rfl rfl kz_) ?_
  show OwnGoes p e below _ (s₁.setTop (mkF m 1 #[.val (.ref a1), .val (.double x1), .second, .val (.double x2), .second] [(.ref a1)]))
  obtain ⟨_, _, ⟨T1, L1, k1, n1⟩, -, X1, ⟨Lc1, hQ1, l1, y1, z1⟩, st1⟩ := X0.specialBack hx (y := (⟨"java/lang/Record", "<init>", "()V"⟩ : MethodName)) rfl hown (mvT hZ (hw _ (List.mem_of_getElem? (i := 7) rfl))) (mvT hZ (hw _ (List.mem_of_getElem? (i := 8) rfl))) (mvT hZ (hw _ (List.mem_of_getElem? (i := 11) rfl))) (by decide) (backOf (W := 0) (rm2 l Z a0 hw [] a1 h0 n0 Z0) hZ (hw _ (List.mem_of_getElem? (i := 11) rfl)) (hw _ (List.mem_of_getElem? (i := 10) rfl)) (by decide) (by decide)) (g := (mkF m 1 #[.val (.ref a1), .val (.double x1), .second, .val (.double x2), .second] [(.ref a1)])) rfl (by rw [hml]; rfl) (Steps.refl _) (a := a1) (argsL := []) (rest := []) (lenOf (d := "()V") (ps := []) (r := none) (by decide +kernel) rfl) rfl (by show 2 * 0 + _ ≤ _; exact Nat.le_of_eq rfl) (hb hby d1_1) (fun _ _ => ⟨rfl, e0, (by decide : 0 + 0 ≤ _), (by decide : 0 + 0 ≤ _)⟩)
  dsimp only [Pt.U, Pt.locs, Pt.cells, Pt.slots] at X1 l1 y1 z1 st1 hQ1
  subst l1 y1 z1
  obtain ⟨rfl, N1q, e1⟩ := hQ1
  have N1 := Fr.app N0 N1q
  refine own_tr st1 ?_
  show OwnGoes p e below _ (T1.setTop (mkF m 4 #[.val (.ref a1), .val (.double x1), .second, .val (.double x2), .second] []))
  refine own_pre (fun _ kz_ => XS.aloadN X1.here hx rfl (hb hby d1_4) rfl rfl kz_) ?_
  show OwnGoes p e below _ (T1.setTop (mkF m 5 #[.val (.ref a1), .val (.double x1), .second, .val (.double x2), .second] [(.ref a1)]))
  refine own_pre (fun _ kz_ => XS.dloadN X1.here hx rfl (hb hby d1_5) rfl kz_) ?_
  show OwnGoes p e below _ (T1.setTop (mkF m 6 #[.val (.ref a1), .val (.double x1), .second, .val (.double x2), .second] [(.double x1), (.ref a1)]))
  obtain ⟨T2, h2, X2, e2, W2, st2⟩ := putF X1 hx hZ hown (host := "") (Or.inl (hw _ (List.mem_of_getElem? (i := 15) rfl))) Via.refl e1 F1 E1 (Or.inr ⟨(hw _ (List.mem_of_getElem? (i := 16) rfl)), rfl, hnm⟩) (hw _ (List.mem_of_getElem? (i := 2) rfl)) (ty := .double) (by decide) rfl rfl (g := (mkF m 6 #[.val (.ref a1), .val (.double x1), .second, .val (.double x2), .second] [(.double x1), (.ref a1)])) rfl rfl (hb hby d1_6)
  have f2_3 := E1.wr W2
  have f2_1 := F2.other W2 (Or.inr (slot_ne (Or.inr (hw _ (List.mem_of_getElem? (i := 18) rfl))) (Or.inr (hw _ (List.mem_of_getElem? (i := 16) rfl))) (by decide) (t := .double) (t' := .double) (by decide) (by decide)))
  have K2 := ((Keep.refl h0 [a1])).wr W2 (Or.inl (List.mem_of_getElem? (i := 0) rfl))
  have Z2 := Nat.le_trans Z0 (Keep.of_wr W2).1
  have Fw2 := F1.same W2
  have N2 := Fr.snoc X2 N1 g_a1
  refine own_pre st2 ?_
  show OwnGoes p e below _ (T2.setTop (mkF m 9 #[.val (.ref a1), .val (.double x1), .second, .val (.double x2), .second] []))
  refine own_pre (fun _ kz_ => XS.aloadN X2.here hx rfl (hb hby d1_9) rfl rfl kz_) ?_
  show OwnGoes p e below _ (T2.setTop (mkF m 10 #[.val (.ref a1), .val (.double x1), .second, .val (.double x2), .second] [(.ref a1)]))
  refine own_pre (fun _ kz_ => XS.dloadN X2.here hx rfl (hb hby d1_10) rfl kz_) ?_
  show OwnGoes p e below _ (T2.setTop (mkF m 11 #[.val (.ref a1), .val (.double x1), .second, .val (.double x2), .second] [(.double x2), (.ref a1)]))
  obtain ⟨T3, h3, X3, e3, W3, st3⟩ := putF X2 hx hZ hown (host := "") (Or.inl (hw _ (List.mem_of_getElem? (i := 17) rfl))) Via.refl e2 f2_1 f2_3 (Or.inr ⟨(hw _ (List.mem_of_getElem? (i := 18) rfl)), rfl, hnm⟩) (hw _ (List.mem_of_getElem? (i := 2) rfl)) (ty := .double) (by decide) rfl rfl (g := (mkF m 11 #[.val (.ref a1), .val (.double x1), .second, .val (.double x2), .second] [(.double x2), (.ref a1)])) rfl rfl (hb hby d1_11)
  have f3_3 := f2_3.wr W3
  have f3_2 := Fw2.other W3 (Or.inr (slot_ne (Or.inr (hw _ (List.mem_of_getElem? (i := 16) rfl))) (Or.inr (hw _ (List.mem_of_getElem? (i := 18) rfl))) (by decide) (t := .double) (t' := .double) (by decide) (by decide)))
  have K3 := (K2).wr W3 (Or.inl (List.mem_of_getElem? (i := 0) rfl))
  have Z3 := Nat.le_trans Z2 (Keep.of_wr W3).1
  have Fw3 := f2_1.same W3
  have N3 := Fr.snoc X3 N2 g_a1
  refine own_pre st3 ?_
  show OwnGoes p e below _ (T3.setTop (mkF m 14 #[.val (.ref a1), .val (.double x1), .second, .val (.double x2), .second] []))
  exact own_retV X3 hx Bd.returns Bd.notSynchronized (hb hby d1_14) ⟨rfl, N3, by rw [e3]; exact K3, by rw [e3]; exact f3_3, by rw [e3]; exact Fw3⟩ (by decide) (by decide)
def Q4 (r : Int32) (h0 : Heap) (n0 : Nat) (v : Option Value) (h : Heap) (L : List Loc) : Prop := v = some (.int r) ∧ Fr n0 L ∧ h = h0
def Q0  (h0 : Heap) (n0 : Nat) (v : Option Value) (h : Heap) (L : List Loc) : Prop := v = some (.int (1 : Int32)) ∧ Fr n0 L
set_option maxRecDepth 65536 in
set_option maxHeartbeats 40000000 in
theorem rm4 (l : Launch) (Z : State) (a0 : Array Value) (hw : ∀ d ∈ tables_1, d.before a0 Z = true) (ws : List Jvm.Cond) (a1 : Addr) (x y k r : Int32) (h0 : Heap) (n0 : Nat) (Z0 : n0 ≤ h0.size) (F2 : Fld Z h0 a1 "com/example/chrono_bloom/chronobloom/ConfirmedModel$Figures" "probes" "D" (.double (Jvm.FP.ddiv (Jvm.FP.i2d x) (4620693217682128896 : UInt64)))) (hk : cmpValue (Jvm.FP.dcmp (Jvm.FP.ddiv (Jvm.FP.i2d x) (4620693217682128896 : UInt64)) (Jvm.FP.ddiv (Jvm.FP.i2d y) (4620693217682128896 : UInt64))) .g = k) (hr : r = if (0 : Int32) < k then (0 : Int32) else (1 : Int32)) :
    MetFree l (⟨"com/example/chrono_bloom/chronobloom/ConfirmedModel$Figures", "keepsTo", "(D)Z"⟩ : MethodName) (head1 (Jvm.Cond.code (⟨"com/example/chrono_bloom/chronobloom/ConfirmedModel$Figures", "keepsTo", "(D)Z"⟩ : MethodName) prog_8_method_2_code 3 (some .boolean) :: ws) ({ frames := 0, cells := 0, slots := 0, locals := 0 } : Room)) (fun a U => a = #[(.ref a1), (.double (Jvm.FP.ddiv (Jvm.FP.i2d y) (4620693217682128896 : UInt64)))] ∧ Z.Warmed39 U.vm ∧ U.heap = h0) (fun _ _ _ _ _ => True) (fun _ U o U' => ∃ v L, o = .returned v ∧ Q4 r h0 n0 v U'.heap L ∧ FrameEnd U o U' L ({ frames := 0, cells := 0, slots := 0, locals := 0 } : Room).cells ({ frames := 0, cells := 0, slots := 0, locals := 0 } : Room).slots) := by
  refine MetFree.of_bodySF (plainFor_of_name (by first | (simp [plainName, overriddenIn]; done) | decide +kernel)) hisR ?_
  intro p e s m args below meth c s₁ Bd hml0 hP hK
  obtain ⟨rfl, hZ, hh⟩ := hP
  have hx := Bd.exec
  have hby := Bd.bytes
  have hml : c.maxLocals = 3 := hml0
  have hown : s.vm.findClass "com/example/chrono_bloom/chronobloom/ConfirmedModel$Figures" = some m.cls := findClass_of_methodNamed Bd.named
  have hnm := (name_of_methodNamed Bd.named Bd.method).1
  have X0 : Stand p l e ({ frames := 0, cells := 0, slots := 0, locals := 0 } : Room) s m #[(.ref a1), (.double (Jvm.FP.ddiv (Jvm.FP.i2d y) (4620693217682128896 : UInt64)))] below meth c s₁ [] 0 0 := Stand.of_body Bd
  have e0 : s₁.heap = h0 := by rw [← hh, Bd.state]; rfl
  have N0 := Fr.nil n0
  have ef : entryFrame m #[(.ref a1), (.double (Jvm.FP.ddiv (Jvm.FP.i2d y) (4620693217682128896 : UInt64)))] 3 = (mkF m 0 #[.val (.ref a1), .val (.double (Jvm.FP.ddiv (Jvm.FP.i2d y) (4620693217682128896 : UInt64))), .second] []) := by first | (simp [entryFrame, mkF, argsToLocals, Value.category]; done) | rfl
  show OwnGoes p e below (fun o U' => ∃ v L, o = .returned v ∧ Q4 r h0 n0 v U'.heap L ∧ FrameEnd s o U' L ({ frames := 0, cells := 0, slots := 0, locals := 0 } : Room).cells ({ frames := 0, cells := 0, slots := 0, locals := 0 } : Room).slots) (s₁.setTop (entryFrame m #[(.ref a1), (.double (Jvm.FP.ddiv (Jvm.FP.i2d y) (4620693217682128896 : UInt64)))] 3))
  refine own_pre (fun t k => castTop ef k) ?_
  show OwnGoes p e below _ (s₁.setTop (mkF m 0 #[.val (.ref a1), .val (.double (Jvm.FP.ddiv (Jvm.FP.i2d y) (4620693217682128896 : UInt64))), .second] []))
  refine own_pre (fun _ kz_ => XS.aloadN X0.here hx rfl (hb hby d4_0) rfl rfl kz_) ?_
  show OwnGoes p e below _ (s₁.setTop (mkF m 1 #[.val (.ref a1), .val (.double (Jvm.FP.ddiv (Jvm.FP.i2d y) (4620693217682128896 : UInt64))), .second] [(.ref a1)]))
  obtain ⟨T1, X1, e1, st1⟩ := getF X0 hx hZ hown (host := "") (Or.inl (hw _ (List.mem_of_getElem? (i := 17) rfl))) Via.refl e0 F2 (g := (mkF m 1 #[.val (.ref a1), .val (.double (Jvm.FP.ddiv (Jvm.FP.i2d y) (4620693217682128896 : UInt64))), .second] [(.ref a1)])) rfl rfl (hb hby d4_1)
  refine own_pre st1 ?_
  show OwnGoes p e below _ (T1.setTop (mkF m 4 #[.val (.ref a1), .val (.double (Jvm.FP.ddiv (Jvm.FP.i2d y) (4620693217682128896 : UInt64))), .second] [(.double (Jvm.FP.ddiv (Jvm.FP.i2d x) (4620693217682128896 : UInt64)))]))
  refine own_pre (fun _ kz_ => XS.dloadN X1.here hx rfl (hb hby d4_4) rfl kz_) ?_
  show OwnGoes p e below _ (T1.setTop (mkF m 5 #[.val (.ref a1), .val (.double (Jvm.FP.ddiv (Jvm.FP.i2d y) (4620693217682128896 : UInt64))), .second] [(.double (Jvm.FP.ddiv (Jvm.FP.i2d y) (4620693217682128896 : UInt64))), (.double (Jvm.FP.ddiv (Jvm.FP.i2d x) (4620693217682128896 : UInt64)))]))
  refine own_pre (fun _ kz_ => XS.dcmpS X1.here hx rfl (hb hby d4_5) rfl (v := k) (hk) kz_) ?_
  show OwnGoes p e below _ (T1.setTop (mkF m 6 #[.val (.ref a1), .val (.double (Jvm.FP.ddiv (Jvm.FP.i2d y) (4620693217682128896 : UInt64))), .second] [(.int k)]))
  by_cases h6 : (0 : Int32) < k
  · refine own_pre (fun _ kz_ => XS.ifYes X1.here hx rfl (pc0 := 6) (pc' := 13) rfl (hb hby d4_6) rfl ((if0 _ _).trans (tlt h6).2.2.1) (by decide) (by decide) kz_) ?_
    show OwnGoes p e below _ (T1.setTop (mkF m 13 #[.val (.ref a1), .val (.double (Jvm.FP.ddiv (Jvm.FP.i2d y) (4620693217682128896 : UInt64))), .second] []))
    refine own_pre (fun _ kz_ => XS.iconst X1.here hx rfl (hb hby d4_13) kz_) ?_
    show OwnGoes p e below _ (T1.setTop (mkF m 14 #[.val (.ref a1), .val (.double (Jvm.FP.ddiv (Jvm.FP.i2d y) (4620693217682128896 : UInt64))), .second] [(.int (0 : Int32))]))
    exact own_ret X1 hx Bd.returns (rfl) (Or.inl ⟨rfl, by simp, _, rfl⟩) Bd.notSynchronized (hb hby d4_14) ⟨by rw [hr, if_pos h6], N0, e1⟩ (by decide) (by decide)
  · refine own_pre (fun _ kz_ => XS.ifNo X1.here hx rfl (hb hby d4_6) rfl ((if0 _ _).trans (flt h6).2.2.1) kz_) ?_
    show OwnGoes p e below _ (T1.setTop (mkF m 9 #[.val (.ref a1), .val (.double (Jvm.FP.ddiv (Jvm.FP.i2d y) (4620693217682128896 : UInt64))), .second] []))
    refine own_pre (fun _ kz_ => XS.iconst X1.here hx rfl (hb hby d4_9) kz_) ?_
    show OwnGoes p e below _ (T1.setTop (mkF m 10 #[.val (.ref a1), .val (.double (Jvm.FP.ddiv (Jvm.FP.i2d y) (4620693217682128896 : UInt64))), .second] [(.int (1 : Int32))]))
    refine own_pre (fun _ kz_ => XS.goto X1.here hx rfl (pc0 := 10) (pc' := 14) rfl (hb hby d4_10) (by decide) (by decide) kz_) ?_
    show OwnGoes p e below _ (T1.setTop (mkF m 14 #[.val (.ref a1), .val (.double (Jvm.FP.ddiv (Jvm.FP.i2d y) (4620693217682128896 : UInt64))), .second] [(.int (1 : Int32))]))
    exact own_ret X1 hx Bd.returns (rfl) (Or.inl ⟨rfl, by simp, _, rfl⟩) Bd.notSynchronized (hb hby d4_14) ⟨by rw [hr, if_neg h6], N0, e1⟩ (by decide) (by decide)

theorem own_r1 {x y : Int32} (h : ¬ y < x) : (1 : Int32) = if (0 : Int32) < (if x < y then (-1 : Int32) else if x = y then (0 : Int32) else (1 : Int32)) then (0 : Int32) else (1 : Int32) := by
  by_cases h1 : x < y
  · rw [if_pos h1]; rfl
  · have : x = y := by
      rw [Int32.lt_iff_toInt_lt] at h h1
      exact Int32.toInt_inj.mp (by omega)
    rw [if_neg h1, if_pos this]; rfl
theorem own_r0 {x y : Int32} (h : y < x) : (0 : Int32) = if (0 : Int32) < (if x < y then (-1 : Int32) else if x = y then (0 : Int32) else (1 : Int32)) then (0 : Int32) else (1 : Int32) := by
  have h1 : ¬ x < y := by rw [Int32.lt_iff_toInt_lt] at h ⊢; omega
  have h2 : ¬ x = y := fun q => by subst q; exact h1 h
  rw [if_neg h1, if_neg h2]; rfl

set_option maxRecDepth 65536 in
set_option maxHeartbeats 40000000 in
theorem rm0 (l : Launch) (Z : State) (a0 : Array Value) (hw : ∀ d ∈ tables_1, d.before a0 Z = true) (ws : List Jvm.Cond) (p1 p2 p3 p4 : Int32) (h0 : Heap) (n0 : Nat) (Z0 : n0 ≤ h0.size) :
    MetFree l x (head1 (Jvm.Cond.code x code maxLocals ret :: ws) room_1) (fun a U => a = #[(.int p1), (.int p2), (.int p3), (.int p4)] ∧ Z.Warmed39 U.vm ∧ U.heap = h0) (fun _ _ _ _ _ => True) (fun _ U o U' => ∃ v L, o = .returned v ∧ Q0 h0 n0 v U'.heap L ∧ FrameEnd U o U' L room_1.cells room_1.slots) := by
  refine MetFree.of_bodySF (plainFor_of_name (by first | (simp [plainName, overriddenIn]; done) | decide +kernel)) hisR ?_
  intro p e s m args below meth c s₁ Bd hml0 hP hK
  obtain ⟨rfl, hZ, hh⟩ := hP
  have hx := Bd.exec
  have hby := Bd.bytes
  have hml : c.maxLocals = 13 := hml0
  have hown : s.vm.findClass "com/example/chrono_bloom/chronobloom/FiguresKeepsToPinLaw" = some m.cls := findClass_of_methodNamed Bd.named
  have hnm := (name_of_methodNamed Bd.named Bd.method).1
  have X0 : Stand p l e room_1 s m #[(.int p1), (.int p2), (.int p3), (.int p4)] below meth c s₁ [] 0 0 := Stand.of_body Bd
  have e0 : s₁.heap = h0 := by rw [← hh, Bd.state]; rfl
  have N0 := Fr.nil n0
  have ef : entryFrame m #[(.int p1), (.int p2), (.int p3), (.int p4)] maxLocals = (mkF m 0 #[.val (.int p1), .val (.int p2), .val (.int p3), .val (.int p4), .unset, .unset, .unset, .unset, .unset, .unset, .unset, .unset, .unset] []) := by first | (simp [entryFrame, mkF, argsToLocals, Value.category, maxLocals]; done) | rfl
  show OwnGoes p e below (fun o U' => ∃ v L, o = .returned v ∧ Q0 h0 n0 v U'.heap L ∧ FrameEnd s o U' L room_1.cells room_1.slots) (s₁.setTop (entryFrame m #[(.int p1), (.int p2), (.int p3), (.int p4)] maxLocals))
  refine own_pre (fun t k => castTop ef k) ?_
  have J11 : ∀ lim : Int32, OwnGoes p e below (fun o U' => ∃ v L, o = .returned v ∧ Q0 h0 n0 v U'.heap L ∧ FrameEnd s o U' L room_1.cells room_1.slots) (s₁.setTop (mkF m 11 #[.val (.int p1), .val (.int p2), .val (.int p3), .val (.int p4), .unset, .unset, .unset, .unset, .unset, .unset, .unset, .unset, .unset] [(.int lim)])) := by
    intro lim
    show OwnGoes p e below _ (s₁.setTop (mkF m 11 #[.val (.int p1), .val (.int p2), .val (.int p3), .val (.int p4), .unset, .unset, .unset, .unset, .unset, .unset, .unset, .unset, .unset] [(.int lim)]))
    refine own_pre (fun _ kz_ => XS.istore X0.here hx rfl (hb hby at_11) rfl (l' := #[.val (.int p1), .val (.int p2), .val (.int p3), .val (.int p4), .val (.int lim), .unset, .unset, .unset, .unset, .unset, .unset, .unset, .unset]) rfl kz_) ?_
    show OwnGoes p e below _ (s₁.setTop (mkF m 13 #[.val (.int p1), .val (.int p2), .val (.int p3), .val (.int p4), .val (.int lim), .unset, .unset, .unset, .unset, .unset, .unset, .unset, .unset] []))
    refine own_pre (fun _ kz_ => XS.iloadN X0.here hx rfl (hb hby at_13) rfl kz_) ?_
    show OwnGoes p e below _ (s₁.setTop (mkF m 14 #[.val (.int p1), .val (.int p2), .val (.int p3), .val (.int p4), .val (.int lim), .unset, .unset, .unset, .unset, .unset, .unset, .unset, .unset] [(.int p1)]))
    refine own_pre (fun _ kz_ => XS.i2dS X0.here hx rfl (hb hby at_14) rfl rfl kz_) ?_
    show OwnGoes p e below _ (s₁.setTop (mkF m 15 #[.val (.int p1), .val (.int p2), .val (.int p3), .val (.int p4), .val (.int lim), .unset, .unset, .unset, .unset, .unset, .unset, .unset, .unset] [(.double (Jvm.FP.i2d p1))]))
    refine own_pre (fun _ kz_ => X0.ldc2DoubleC hx hown (mvT hZ (hw _ (List.mem_of_getElem? (i := 0) rfl))) (g := (mkF m 15 #[.val (.int p1), .val (.int p2), .val (.int p3), .val (.int p4), .val (.int lim), .unset, .unset, .unset, .unset, .unset, .unset, .unset, .unset] [(.double (Jvm.FP.i2d p1))])) rfl (hb hby at_15) _ kz_) ?_
    show OwnGoes p e below _ (s₁.setTop (mkF m 18 #[.val (.int p1), .val (.int p2), .val (.int p3), .val (.int p4), .val (.int lim), .unset, .unset, .unset, .unset, .unset, .unset, .unset, .unset] [(.double (4620693217682128896 : UInt64)), (.double (Jvm.FP.i2d p1))]))
    refine own_pre (fun _ kz_ => XS.ddivS X0.here hx rfl (hb hby at_18) rfl (own_nn8 p1) rfl kz_) ?_
    show OwnGoes p e below _ (s₁.setTop (mkF m 19 #[.val (.int p1), .val (.int p2), .val (.int p3), .val (.int p4), .val (.int lim), .unset, .unset, .unset, .unset, .unset, .unset, .unset, .unset] [(.double (Jvm.FP.ddiv (Jvm.FP.i2d p1) (4620693217682128896 : UInt64)))]))
    refine own_pre (fun _ kz_ => XS.dstore X0.here hx rfl (hb hby at_19) rfl (l' := #[.val (.int p1), .val (.int p2), .val (.int p3), .val (.int p4), .val (.int lim), .val (.double (Jvm.FP.ddiv (Jvm.FP.i2d p1) (4620693217682128896 : UInt64))), .second, .unset, .unset, .unset, .unset, .unset, .unset]) rfl kz_) ?_
    show OwnGoes p e below _ (s₁.setTop (mkF m 21 #[.val (.int p1), .val (.int p2), .val (.int p3), .val (.int p4), .val (.int lim), .val (.double (Jvm.FP.ddiv (Jvm.FP.i2d p1) (4620693217682128896 : UInt64))), .second, .unset, .unset, .unset, .unset, .unset, .unset] []))
    refine own_pre (fun _ kz_ => XS.iload X0.here hx rfl (hb hby at_21) rfl kz_) ?_
    show OwnGoes p e below _ (s₁.setTop (mkF m 23 #[.val (.int p1), .val (.int p2), .val (.int p3), .val (.int p4), .val (.int lim), .val (.double (Jvm.FP.ddiv (Jvm.FP.i2d p1) (4620693217682128896 : UInt64))), .second, .unset, .unset, .unset, .unset, .unset, .unset] [(.int lim)]))
    refine own_pre (fun _ kz_ => XS.i2dS X0.here hx rfl (hb hby at_23) rfl rfl kz_) ?_
    show OwnGoes p e below _ (s₁.setTop (mkF m 24 #[.val (.int p1), .val (.int p2), .val (.int p3), .val (.int p4), .val (.int lim), .val (.double (Jvm.FP.ddiv (Jvm.FP.i2d p1) (4620693217682128896 : UInt64))), .second, .unset, .unset, .unset, .unset, .unset, .unset] [(.double (Jvm.FP.i2d lim))]))
    refine own_pre (fun _ kz_ => X0.ldc2DoubleC hx hown (mvT hZ (hw _ (List.mem_of_getElem? (i := 0) rfl))) (g := (mkF m 24 #[.val (.int p1), .val (.int p2), .val (.int p3), .val (.int p4), .val (.int lim), .val (.double (Jvm.FP.ddiv (Jvm.FP.i2d p1) (4620693217682128896 : UInt64))), .second, .unset, .unset, .unset, .unset, .unset, .unset] [(.double (Jvm.FP.i2d lim))])) rfl (hb hby at_24) _ kz_) ?_
    show OwnGoes p e below _ (s₁.setTop (mkF m 27 #[.val (.int p1), .val (.int p2), .val (.int p3), .val (.int p4), .val (.int lim), .val (.double (Jvm.FP.ddiv (Jvm.FP.i2d p1) (4620693217682128896 : UInt64))), .second, .unset, .unset, .unset, .unset, .unset, .unset] [(.double (4620693217682128896 : UInt64)), (.double (Jvm.FP.i2d lim))]))
    refine own_pre (fun _ kz_ => XS.ddivS X0.here hx rfl (hb hby at_27) rfl (own_nn8 lim) rfl kz_) ?_
    show OwnGoes p e below _ (s₁.setTop (mkF m 28 #[.val (.int p1), .val (.int p2), .val (.int p3), .val (.int p4), .val (.int lim), .val (.double (Jvm.FP.ddiv (Jvm.FP.i2d p1) (4620693217682128896 : UInt64))), .second, .unset, .unset, .unset, .unset, .unset, .unset] [(.double (Jvm.FP.ddiv (Jvm.FP.i2d lim) (4620693217682128896 : UInt64)))]))
    refine own_pre (fun _ kz_ => XS.dstore X0.here hx rfl (hb hby at_28) rfl (l' := #[.val (.int p1), .val (.int p2), .val (.int p3), .val (.int p4), .val (.int lim), .val (.double (Jvm.FP.ddiv (Jvm.FP.i2d p1) (4620693217682128896 : UInt64))), .second, .val (.double (Jvm.FP.ddiv (Jvm.FP.i2d lim) (4620693217682128896 : UInt64))), .second, .unset, .unset, .unset, .unset]) rfl kz_) ?_
    show OwnGoes p e below _ (s₁.setTop (mkF m 30 #[.val (.int p1), .val (.int p2), .val (.int p3), .val (.int p4), .val (.int lim), .val (.double (Jvm.FP.ddiv (Jvm.FP.i2d p1) (4620693217682128896 : UInt64))), .second, .val (.double (Jvm.FP.ddiv (Jvm.FP.i2d lim) (4620693217682128896 : UInt64))), .second, .unset, .unset, .unset, .unset] []))
    refine own_pre (fun _ kz_ => XS.iloadN X0.here hx rfl (hb hby at_30) rfl kz_) ?_
    show OwnGoes p e below _ (s₁.setTop (mkF m 31 #[.val (.int p1), .val (.int p2), .val (.int p3), .val (.int p4), .val (.int lim), .val (.double (Jvm.FP.ddiv (Jvm.FP.i2d p1) (4620693217682128896 : UInt64))), .second, .val (.double (Jvm.FP.ddiv (Jvm.FP.i2d lim) (4620693217682128896 : UInt64))), .second, .unset, .unset, .unset, .unset] [(.int p3)]))
    refine own_pre (fun _ kz_ => XS.i2dS X0.here hx rfl (hb hby at_31) rfl rfl kz_) ?_
    show OwnGoes p e below _ (s₁.setTop (mkF m 32 #[.val (.int p1), .val (.int p2), .val (.int p3), .val (.int p4), .val (.int lim), .val (.double (Jvm.FP.ddiv (Jvm.FP.i2d p1) (4620693217682128896 : UInt64))), .second, .val (.double (Jvm.FP.ddiv (Jvm.FP.i2d lim) (4620693217682128896 : UInt64))), .second, .unset, .unset, .unset, .unset] [(.double (Jvm.FP.i2d p3))]))
    refine own_pre (fun _ kz_ => X0.ldc2DoubleC hx hown (mvT hZ (hw _ (List.mem_of_getElem? (i := 0) rfl))) (g := (mkF m 32 #[.val (.int p1), .val (.int p2), .val (.int p3), .val (.int p4), .val (.int lim), .val (.double (Jvm.FP.ddiv (Jvm.FP.i2d p1) (4620693217682128896 : UInt64))), .second, .val (.double (Jvm.FP.ddiv (Jvm.FP.i2d lim) (4620693217682128896 : UInt64))), .second, .unset, .unset, .unset, .unset] [(.double (Jvm.FP.i2d p3))])) rfl (hb hby at_32) _ kz_) ?_
    show OwnGoes p e below _ (s₁.setTop (mkF m 35 #[.val (.int p1), .val (.int p2), .val (.int p3), .val (.int p4), .val (.int lim), .val (.double (Jvm.FP.ddiv (Jvm.FP.i2d p1) (4620693217682128896 : UInt64))), .second, .val (.double (Jvm.FP.ddiv (Jvm.FP.i2d lim) (4620693217682128896 : UInt64))), .second, .unset, .unset, .unset, .unset] [(.double (4620693217682128896 : UInt64)), (.double (Jvm.FP.i2d p3))]))
    refine own_pre (fun _ kz_ => XS.ddivS X0.here hx rfl (hb hby at_35) rfl (own_nn8 p3) rfl kz_) ?_
    show OwnGoes p e below _ (s₁.setTop (mkF m 36 #[.val (.int p1), .val (.int p2), .val (.int p3), .val (.int p4), .val (.int lim), .val (.double (Jvm.FP.ddiv (Jvm.FP.i2d p1) (4620693217682128896 : UInt64))), .second, .val (.double (Jvm.FP.ddiv (Jvm.FP.i2d lim) (4620693217682128896 : UInt64))), .second, .unset, .unset, .unset, .unset] [(.double (Jvm.FP.ddiv (Jvm.FP.i2d p3) (4620693217682128896 : UInt64)))]))
    refine own_pre (fun _ kz_ => XS.dstore X0.here hx rfl (hb hby at_36) rfl (l' := #[.val (.int p1), .val (.int p2), .val (.int p3), .val (.int p4), .val (.int lim), .val (.double (Jvm.FP.ddiv (Jvm.FP.i2d p1) (4620693217682128896 : UInt64))), .second, .val (.double (Jvm.FP.ddiv (Jvm.FP.i2d lim) (4620693217682128896 : UInt64))), .second, .val (.double (Jvm.FP.ddiv (Jvm.FP.i2d p3) (4620693217682128896 : UInt64))), .second, .unset, .unset]) rfl kz_) ?_
    show OwnGoes p e below _ (s₁.setTop (mkF m 38 #[.val (.int p1), .val (.int p2), .val (.int p3), .val (.int p4), .val (.int lim), .val (.double (Jvm.FP.ddiv (Jvm.FP.i2d p1) (4620693217682128896 : UInt64))), .second, .val (.double (Jvm.FP.ddiv (Jvm.FP.i2d lim) (4620693217682128896 : UInt64))), .second, .val (.double (Jvm.FP.ddiv (Jvm.FP.i2d p3) (4620693217682128896 : UInt64))), .second, .unset, .unset] []))
    obtain ⟨T1, h1, X1, e1, E1, A1, D1, -, st1⟩ := newO X0 hx hZ hown (hw _ (List.mem_of_getElem? (i := 1) rfl)) (hw _ (List.mem_of_getElem? (i := 2) rfl)) (hw _ (List.mem_of_getElem? (i := 3) rfl)) e0 (g := (mkF m 38 #[.val (.int p1), .val (.int p2), .val (.int p3), .val (.int p4), .val (.int lim), .val (.double (Jvm.FP.ddiv (Jvm.FP.i2d p1) (4620693217682128896 : UInt64))), .second, .val (.double (Jvm.FP.ddiv (Jvm.FP.i2d lim) (4620693217682128896 : UInt64))), .second, .val (.double (Jvm.FP.ddiv (Jvm.FP.i2d p3) (4620693217682128896 : UInt64))), .second, .unset, .unset] [])) rfl (hb hby at_38) (by decide) (by decide)
    obtain ⟨b, g1⟩ : ∃ z, z = h0.size := ⟨_, rfl⟩
    rw [← g1] at A1 D1 st1
    have g_b : n0 ≤ b := Nat.le_trans Z0 (Nat.le_of_eq g1.symm)
    have sz_b : h0.size ≤ b := Nat.le_trans ((Keep.refl h0 [])).1 (Nat.le_of_eq g1.symm)
    have K1 := ((Keep.refl h0 [])).ext E1
    have Z1 := Nat.le_trans Z0 E1.1
    have F1_cost : Fld Z h1 b "com/example/chrono_bloom/chronobloom/ConfirmedModel$Figures" "cost" "D" (.double (0 : UInt64)) := D1 (Or.inr (hw _ (List.mem_of_getElem? (i := 16) rfl))) (ty := .double) (by decide)
    have F1_probes : Fld Z h1 b "com/example/chrono_bloom/chronobloom/ConfirmedModel$Figures" "probes" "D" (.double (0 : UInt64)) := D1 (Or.inr (hw _ (List.mem_of_getElem? (i := 18) rfl))) (ty := .double) (by decide)
    refine own_pre st1 ?_
    show OwnGoes p e below _ (T1.setTop (mkF m 41 #[.val (.int p1), .val (.int p2), .val (.int p3), .val (.int p4), .val (.int lim), .val (.double (Jvm.FP.ddiv (Jvm.FP.i2d p1) (4620693217682128896 : UInt64))), .second, .val (.double (Jvm.FP.ddiv (Jvm.FP.i2d lim) (4620693217682128896 : UInt64))), .second, .val (.double (Jvm.FP.ddiv (Jvm.FP.i2d p3) (4620693217682128896 : UInt64))), .second, .unset, .unset] [(.ref b)]))
    refine own_pre (fun _ kz_ => XS.dup X1.here hx rfl (hb hby at_41) rfl rfl kz_) ?_
    show OwnGoes p e below _ (T1.setTop (mkF m 42 #[.val (.int p1), .val (.int p2), .val (.int p3), .val (.int p4), .val (.int lim), .val (.double (Jvm.FP.ddiv (Jvm.FP.i2d p1) (4620693217682128896 : UInt64))), .second, .val (.double (Jvm.FP.ddiv (Jvm.FP.i2d lim) (4620693217682128896 : UInt64))), .second, .val (.double (Jvm.FP.ddiv (Jvm.FP.i2d p3) (4620693217682128896 : UInt64))), .second, .unset, .unset] [(.ref b), (.ref b)]))
    refine own_pre (fun _ kz_ => XS.dload X1.here hx rfl (hb hby at_42) rfl kz_) ?_
    show OwnGoes p e below _ (T1.setTop (mkF m 44 #[.val (.int p1), .val (.int p2), .val (.int p3), .val (.int p4), .val (.int lim), .val (.double (Jvm.FP.ddiv (Jvm.FP.i2d p1) (4620693217682128896 : UInt64))), .second, .val (.double (Jvm.FP.ddiv (Jvm.FP.i2d lim) (4620693217682128896 : UInt64))), .second, .val (.double (Jvm.FP.ddiv (Jvm.FP.i2d p3) (4620693217682128896 : UInt64))), .second, .unset, .unset] [(.double (Jvm.FP.ddiv (Jvm.FP.i2d p3) (4620693217682128896 : UInt64))), (.ref b), (.ref b)]))
    refine own_pre (fun _ kz_ => XS.dload X1.here hx rfl (hb hby at_44) rfl kz_) ?_
    show OwnGoes p e below _ (T1.setTop (mkF m 46 #[.val (.int p1), .val (.int p2), .val (.int p3), .val (.int p4), .val (.int lim), .val (.double (Jvm.FP.ddiv (Jvm.FP.i2d p1) (4620693217682128896 : UInt64))), .second, .val (.double (Jvm.FP.ddiv (Jvm.FP.i2d lim) (4620693217682128896 : UInt64))), .second, .val (.double (Jvm.FP.ddiv (Jvm.FP.i2d p3) (4620693217682128896 : UInt64))), .second, .unset, .unset] [(.double (Jvm.FP.ddiv (Jvm.FP.i2d p1) (4620693217682128896 : UInt64))), (.double (Jvm.FP.ddiv (Jvm.FP.i2d p3) (4620693217682128896 : UInt64))), (.ref b), (.ref b)]))
    obtain ⟨_, _, ⟨T2, L2, k2, n2⟩, -, X2, ⟨Lc2, hQ2, l2, y2, z2⟩, st2⟩ := X1.specialBack hx (y := (⟨"com/example/chrono_bloom/chronobloom/ConfirmedModel$Figures", "<init>", "(DD)V"⟩ : MethodName)) rfl hown (mvT hZ (hw _ (List.mem_of_getElem? (i := 4) rfl))) (mvT hZ (hw _ (List.mem_of_getElem? (i := 5) rfl))) (mvT hZ (hw _ (List.mem_of_getElem? (i := 6) rfl))) (by decide) (backOf (W := 1) (rm1 l Z a0 hw [] b (Jvm.FP.ddiv (Jvm.FP.i2d p3) (4620693217682128896 : UInt64)) (Jvm.FP.ddiv (Jvm.FP.i2d p1) (4620693217682128896 : UInt64)) h1 n0 Z1 A1 F1_cost F1_probes g_b) hZ (hw _ (List.mem_of_getElem? (i := 6) rfl)) (hw _ (List.mem_of_getElem? (i := 3) rfl)) (by decide) (by decide)) (g := (mkF m 46 #[.val (.int p1), .val (.int p2), .val (.int p3), .val (.int p4), .val (.int lim), .val (.double (Jvm.FP.ddiv (Jvm.FP.i2d p1) (4620693217682128896 : UInt64))), .second, .val (.double (Jvm.FP.ddiv (Jvm.FP.i2d lim) (4620693217682128896 : UInt64))), .second, .val (.double (Jvm.FP.ddiv (Jvm.FP.i2d p3) (4620693217682128896 : UInt64))), .second, .unset, .unset] [(.double (Jvm.FP.ddiv (Jvm.FP.i2d p1) (4620693217682128896 : UInt64))), (.double (Jvm.FP.ddiv (Jvm.FP.i2d p3) (4620693217682128896 : UInt64))), (.ref b), (.ref b)])) rfl (by rw [hml]; rfl) (Steps.refl _) (a := b) (argsL := [(.double (Jvm.FP.ddiv (Jvm.FP.i2d p3) (4620693217682128896 : UInt64))), (.double (Jvm.FP.ddiv (Jvm.FP.i2d p1) (4620693217682128896 : UInt64)))]) (rest := [(.ref b)]) (lenOf (d := "(DD)V") (ps := [.double, .double]) (r := none) (by decide +kernel) rfl) rfl (by show 2 * 0 + _ ≤ _; exact Nat.le_of_eq rfl) (hb hby at_46) (fun _ _ => ⟨rfl, e1, (by decide : 1 + 0 ≤ _), (by decide : 2 + 0 ≤ _)⟩)
    dsimp only [Pt.U, Pt.locs, Pt.cells, Pt.slots] at X2 l2 y2 z2 st2 hQ2
    subst l2 y2 z2
    obtain ⟨rfl, N2q, K2q, E2q, F2q⟩ := hQ2
    have N2 := Fr.app N0 N2q
    refine own_tr st2 ?_
    have f2_3 := A1.keep K2q
    have Z2 := Nat.le_trans Z1 K2q.1
    have KK2 := (K1).trans K2q (fun x hx => by simp only [List.mem_cons, List.not_mem_nil, or_false] at hx; rcases hx with rfl <;> first | exact Or.inl (List.mem_of_getElem? (i := 0) rfl) | exact Or.inl (List.mem_of_getElem? (i := 1) rfl) | exact Or.inr sz_b )
    show OwnGoes p e below _ (T2.setTop (mkF m 49 #[.val (.int p1), .val (.int p2), .val (.int p3), .val (.int p4), .val (.int lim), .val (.double (Jvm.FP.ddiv (Jvm.FP.i2d p1) (4620693217682128896 : UInt64))), .second, .val (.double (Jvm.FP.ddiv (Jvm.FP.i2d lim) (4620693217682128896 : UInt64))), .second, .val (.double (Jvm.FP.ddiv (Jvm.FP.i2d p3) (4620693217682128896 : UInt64))), .second, .unset, .unset] [(.ref b)]))
    refine own_pre (fun _ kz_ => XS.astore X2.here hx rfl (hb hby at_49) rfl rfl (l' := #[.val (.int p1), .val (.int p2), .val (.int p3), .val (.int p4), .val (.int lim), .val (.double (Jvm.FP.ddiv (Jvm.FP.i2d p1) (4620693217682128896 : UInt64))), .second, .val (.double (Jvm.FP.ddiv (Jvm.FP.i2d lim) (4620693217682128896 : UInt64))), .second, .val (.double (Jvm.FP.ddiv (Jvm.FP.i2d p3) (4620693217682128896 : UInt64))), .second, .val (.ref b), .unset]) rfl kz_) ?_
    show OwnGoes p e below _ (T2.setTop (mkF m 51 #[.val (.int p1), .val (.int p2), .val (.int p3), .val (.int p4), .val (.int lim), .val (.double (Jvm.FP.ddiv (Jvm.FP.i2d p1) (4620693217682128896 : UInt64))), .second, .val (.double (Jvm.FP.ddiv (Jvm.FP.i2d lim) (4620693217682128896 : UInt64))), .second, .val (.double (Jvm.FP.ddiv (Jvm.FP.i2d p3) (4620693217682128896 : UInt64))), .second, .val (.ref b), .unset] []))
    refine own_pre (fun _ kz_ => XS.iloadN X2.here hx rfl (hb hby at_51) rfl kz_) ?_
    show OwnGoes p e below _ (T2.setTop (mkF m 52 #[.val (.int p1), .val (.int p2), .val (.int p3), .val (.int p4), .val (.int lim), .val (.double (Jvm.FP.ddiv (Jvm.FP.i2d p1) (4620693217682128896 : UInt64))), .second, .val (.double (Jvm.FP.ddiv (Jvm.FP.i2d lim) (4620693217682128896 : UInt64))), .second, .val (.double (Jvm.FP.ddiv (Jvm.FP.i2d p3) (4620693217682128896 : UInt64))), .second, .val (.ref b), .unset] [(.int p1)]))
    refine own_pre (fun _ kz_ => XS.iload X2.here hx rfl (hb hby at_52) rfl kz_) ?_
    show OwnGoes p e below _ (T2.setTop (mkF m 54 #[.val (.int p1), .val (.int p2), .val (.int p3), .val (.int p4), .val (.int lim), .val (.double (Jvm.FP.ddiv (Jvm.FP.i2d p1) (4620693217682128896 : UInt64))), .second, .val (.double (Jvm.FP.ddiv (Jvm.FP.i2d lim) (4620693217682128896 : UInt64))), .second, .val (.double (Jvm.FP.ddiv (Jvm.FP.i2d p3) (4620693217682128896 : UInt64))), .second, .val (.ref b), .unset] [(.int lim), (.int p1)]))
    by_cases h54 : lim < p1
    · refine own_pre (fun _ kz_ => XS.icmpYes X2.here hx rfl (pc0 := 54) (pc' := 61) rfl (hb hby at_54) rfl (tlt h54).2.2.1 (by decide) (by decide) kz_) ?_
      show OwnGoes p e below _ (T2.setTop (mkF m 61 #[.val (.int p1), .val (.int p2), .val (.int p3), .val (.int p4), .val (.int lim), .val (.double (Jvm.FP.ddiv (Jvm.FP.i2d p1) (4620693217682128896 : UInt64))), .second, .val (.double (Jvm.FP.ddiv (Jvm.FP.i2d lim) (4620693217682128896 : UInt64))), .second, .val (.double (Jvm.FP.ddiv (Jvm.FP.i2d p3) (4620693217682128896 : UInt64))), .second, .val (.ref b), .unset] []))
      refine own_pre (fun _ kz_ => XS.iconst X2.here hx rfl (hb hby at_61) kz_) ?_
      show OwnGoes p e below _ (T2.setTop (mkF m 62 #[.val (.int p1), .val (.int p2), .val (.int p3), .val (.int p4), .val (.int lim), .val (.double (Jvm.FP.ddiv (Jvm.FP.i2d p1) (4620693217682128896 : UInt64))), .second, .val (.double (Jvm.FP.ddiv (Jvm.FP.i2d lim) (4620693217682128896 : UInt64))), .second, .val (.double (Jvm.FP.ddiv (Jvm.FP.i2d p3) (4620693217682128896 : UInt64))), .second, .val (.ref b), .unset] [(.int (0 : Int32))]))
      refine own_pre (fun _ kz_ => XS.istore X2.here hx rfl (hb hby at_62) rfl (l' := #[.val (.int p1), .val (.int p2), .val (.int p3), .val (.int p4), .val (.int lim), .val (.double (Jvm.FP.ddiv (Jvm.FP.i2d p1) (4620693217682128896 : UInt64))), .second, .val (.double (Jvm.FP.ddiv (Jvm.FP.i2d lim) (4620693217682128896 : UInt64))), .second, .val (.double (Jvm.FP.ddiv (Jvm.FP.i2d p3) (4620693217682128896 : UInt64))), .second, .val (.ref b), .val (.int (0 : Int32))]) rfl kz_) ?_
      show OwnGoes p e below _ (T2.setTop (mkF m 64 #[.val (.int p1), .val (.int p2), .val (.int p3), .val (.int p4), .val (.int lim), .val (.double (Jvm.FP.ddiv (Jvm.FP.i2d p1) (4620693217682128896 : UInt64))), .second, .val (.double (Jvm.FP.ddiv (Jvm.FP.i2d lim) (4620693217682128896 : UInt64))), .second, .val (.double (Jvm.FP.ddiv (Jvm.FP.i2d p3) (4620693217682128896 : UInt64))), .second, .val (.ref b), .val (.int (0 : Int32))] []))
      refine own_pre (fun _ kz_ => XS.aload X2.here hx rfl (hb hby at_64) rfl rfl kz_) ?_
      show OwnGoes p e below _ (T2.setTop (mkF m 66 #[.val (.int p1), .val (.int p2), .val (.int p3), .val (.int p4), .val (.int lim), .val (.double (Jvm.FP.ddiv (Jvm.FP.i2d p1) (4620693217682128896 : UInt64))), .second, .val (.double (Jvm.FP.ddiv (Jvm.FP.i2d lim) (4620693217682128896 : UInt64))), .second, .val (.double (Jvm.FP.ddiv (Jvm.FP.i2d p3) (4620693217682128896 : UInt64))), .second, .val (.ref b), .val (.int (0 : Int32))] [(.ref b)]))
      refine own_pre (fun _ kz_ => XS.dload X2.here hx rfl (hb hby at_66) rfl kz_) ?_
      show OwnGoes p e below _ (T2.setTop (mkF m 68 #[.val (.int p1), .val (.int p2), .val (.int p3), .val (.int p4), .val (.int lim), .val (.double (Jvm.FP.ddiv (Jvm.FP.i2d p1) (4620693217682128896 : UInt64))), .second, .val (.double (Jvm.FP.ddiv (Jvm.FP.i2d lim) (4620693217682128896 : UInt64))), .second, .val (.double (Jvm.FP.ddiv (Jvm.FP.i2d p3) (4620693217682128896 : UInt64))), .second, .val (.ref b), .val (.int (0 : Int32))] [(.double (Jvm.FP.ddiv (Jvm.FP.i2d lim) (4620693217682128896 : UInt64))), (.ref b)]))
      obtain ⟨cq3, kq3, q3a, q3b, q3c⟩ := isOf hZ rfl E2q
      obtain ⟨_, _, ⟨T3, L3, k3, n3⟩, -, X3, ⟨Lc3, hQ3, l3, y3, z3⟩, st3⟩ := X2.virtualBack hx (y := (⟨"com/example/chrono_bloom/chronobloom/ConfirmedModel$Figures", "keepsTo", "(D)Z"⟩ : MethodName)) (z := (⟨"com/example/chrono_bloom/chronobloom/ConfirmedModel$Figures", "keepsTo", "(D)Z"⟩ : MethodName)) hown (mvT hZ (hw _ (List.mem_of_getElem? (i := 19) rfl))) (mvT hZ (hw _ (List.mem_of_getElem? (i := 20) rfl))) (notFace_of_selects (args := #[]) (mvT hZ (hw _ (List.mem_of_getElem? (i := 22) rfl)))) (mvT hZ (hw _ (List.mem_of_getElem? (i := 22) rfl))) (mvT hZ (hw _ (List.mem_of_getElem? (i := 21) rfl))) (by decide) (backOf (W := 0) (rm4 l Z a0 hw [] b p1 lim (if p1 < lim then (-1 : Int32) else if p1 = lim then (0 : Int32) else (1 : Int32)) (0 : Int32) T2.heap n0 Z2 F2q (own_cmp8 p1 lim) (own_r0 h54)) hZ (hw _ (List.mem_of_getElem? (i := 23) rfl)) (hw _ (List.mem_of_getElem? (i := 3) rfl)) (by decide) (by decide)) q3a q3c (g := (mkF m 68 #[.val (.int p1), .val (.int p2), .val (.int p3), .val (.int p4), .val (.int lim), .val (.double (Jvm.FP.ddiv (Jvm.FP.i2d p1) (4620693217682128896 : UInt64))), .second, .val (.double (Jvm.FP.ddiv (Jvm.FP.i2d lim) (4620693217682128896 : UInt64))), .second, .val (.double (Jvm.FP.ddiv (Jvm.FP.i2d p3) (4620693217682128896 : UInt64))), .second, .val (.ref b), .val (.int (0 : Int32))] [(.double (Jvm.FP.ddiv (Jvm.FP.i2d lim) (4620693217682128896 : UInt64))), (.ref b)])) rfl (by rw [hml]; rfl) (Steps.refl _) (argsL := [(.double (Jvm.FP.ddiv (Jvm.FP.i2d lim) (4620693217682128896 : UInt64)))]) (rest := []) (lenOf (d := "(D)Z") (ps := [.double]) (r := some .boolean) (by decide +kernel) rfl) rfl (by show 2 * 0 + _ ≤ _; exact Nat.le_of_eq rfl) (hb hby at_68) (fun _ _ => ⟨rfl, rfl, (by decide : 1 + 0 ≤ _), (by decide : 2 + 0 ≤ _)⟩)
      dsimp only [Pt.U, Pt.locs, Pt.cells, Pt.slots] at X3 l3 y3 z3 st3 hQ3
      subst l3 y3 z3
      obtain ⟨rfl, N3q, e3⟩ := hQ3
      have N3 := Fr.app N2 N3q
      refine own_tr st3 ?_
      show OwnGoes p e below _ (T3.setTop (mkF m 71 #[.val (.int p1), .val (.int p2), .val (.int p3), .val (.int p4), .val (.int lim), .val (.double (Jvm.FP.ddiv (Jvm.FP.i2d p1) (4620693217682128896 : UInt64))), .second, .val (.double (Jvm.FP.ddiv (Jvm.FP.i2d lim) (4620693217682128896 : UInt64))), .second, .val (.double (Jvm.FP.ddiv (Jvm.FP.i2d p3) (4620693217682128896 : UInt64))), .second, .val (.ref b), .val (.int (0 : Int32))] [(.int (0 : Int32))]))
      refine own_pre (fun _ kz_ => XS.iload X3.here hx rfl (hb hby at_71) rfl kz_) ?_
      show OwnGoes p e below _ (T3.setTop (mkF m 73 #[.val (.int p1), .val (.int p2), .val (.int p3), .val (.int p4), .val (.int lim), .val (.double (Jvm.FP.ddiv (Jvm.FP.i2d p1) (4620693217682128896 : UInt64))), .second, .val (.double (Jvm.FP.ddiv (Jvm.FP.i2d lim) (4620693217682128896 : UInt64))), .second, .val (.double (Jvm.FP.ddiv (Jvm.FP.i2d p3) (4620693217682128896 : UInt64))), .second, .val (.ref b), .val (.int (0 : Int32))] [(.int (0 : Int32)), (.int (0 : Int32))]))
      refine own_pre (fun _ kz_ => XS.icmpNo X3.here hx rfl (hb hby at_73) rfl (teq (by decide : (0 : Int32) = (0 : Int32))).2 kz_) ?_
      show OwnGoes p e below _ (T3.setTop (mkF m 76 #[.val (.int p1), .val (.int p2), .val (.int p3), .val (.int p4), .val (.int lim), .val (.double (Jvm.FP.ddiv (Jvm.FP.i2d p1) (4620693217682128896 : UInt64))), .second, .val (.double (Jvm.FP.ddiv (Jvm.FP.i2d lim) (4620693217682128896 : UInt64))), .second, .val (.double (Jvm.FP.ddiv (Jvm.FP.i2d p3) (4620693217682128896 : UInt64))), .second, .val (.ref b), .val (.int (0 : Int32))] []))
      refine own_pre (fun _ kz_ => XS.iconst X3.here hx rfl (hb hby at_76) kz_) ?_
      show OwnGoes p e below _ (T3.setTop (mkF m 77 #[.val (.int p1), .val (.int p2), .val (.int p3), .val (.int p4), .val (.int lim), .val (.double (Jvm.FP.ddiv (Jvm.FP.i2d p1) (4620693217682128896 : UInt64))), .second, .val (.double (Jvm.FP.ddiv (Jvm.FP.i2d lim) (4620693217682128896 : UInt64))), .second, .val (.double (Jvm.FP.ddiv (Jvm.FP.i2d p3) (4620693217682128896 : UInt64))), .second, .val (.ref b), .val (.int (0 : Int32))] [(.int (1 : Int32))]))
      refine own_pre (fun _ kz_ => XS.goto X3.here hx rfl (pc0 := 77) (pc' := 81) rfl (hb hby at_77) (by decide) (by decide) kz_) ?_
      show OwnGoes p e below _ (T3.setTop (mkF m 81 #[.val (.int p1), .val (.int p2), .val (.int p3), .val (.int p4), .val (.int lim), .val (.double (Jvm.FP.ddiv (Jvm.FP.i2d p1) (4620693217682128896 : UInt64))), .second, .val (.double (Jvm.FP.ddiv (Jvm.FP.i2d lim) (4620693217682128896 : UInt64))), .second, .val (.double (Jvm.FP.ddiv (Jvm.FP.i2d p3) (4620693217682128896 : UInt64))), .second, .val (.ref b), .val (.int (0 : Int32))] [(.int (1 : Int32))]))
      exact own_ret X3 hx Bd.returns (rfl) (Or.inl ⟨rfl, by simp, _, rfl⟩) Bd.notSynchronized (hb hby at_81) ⟨rfl, N3⟩ (by decide) (by decide)
    · refine own_pre (fun _ kz_ => XS.icmpNo X2.here hx rfl (hb hby at_54) rfl (flt h54).2.2.1 kz_) ?_
      show OwnGoes p e below _ (T2.setTop (mkF m 57 #[.val (.int p1), .val (.int p2), .val (.int p3), .val (.int p4), .val (.int lim), .val (.double (Jvm.FP.ddiv (Jvm.FP.i2d p1) (4620693217682128896 : UInt64))), .second, .val (.double (Jvm.FP.ddiv (Jvm.FP.i2d lim) (4620693217682128896 : UInt64))), .second, .val (.double (Jvm.FP.ddiv (Jvm.FP.i2d p3) (4620693217682128896 : UInt64))), .second, .val (.ref b), .unset] []))
      refine own_pre (fun _ kz_ => XS.iconst X2.here hx rfl (hb hby at_57) kz_) ?_
      show OwnGoes p e below _ (T2.setTop (mkF m 58 #[.val (.int p1), .val (.int p2), .val (.int p3), .val (.int p4), .val (.int lim), .val (.double (Jvm.FP.ddiv (Jvm.FP.i2d p1) (4620693217682128896 : UInt64))), .second, .val (.double (Jvm.FP.ddiv (Jvm.FP.i2d lim) (4620693217682128896 : UInt64))), .second, .val (.double (Jvm.FP.ddiv (Jvm.FP.i2d p3) (4620693217682128896 : UInt64))), .second, .val (.ref b), .unset] [(.int (1 : Int32))]))
      refine own_pre (fun _ kz_ => XS.goto X2.here hx rfl (pc0 := 58) (pc' := 62) rfl (hb hby at_58) (by decide) (by decide) kz_) ?_
      show OwnGoes p e below _ (T2.setTop (mkF m 62 #[.val (.int p1), .val (.int p2), .val (.int p3), .val (.int p4), .val (.int lim), .val (.double (Jvm.FP.ddiv (Jvm.FP.i2d p1) (4620693217682128896 : UInt64))), .second, .val (.double (Jvm.FP.ddiv (Jvm.FP.i2d lim) (4620693217682128896 : UInt64))), .second, .val (.double (Jvm.FP.ddiv (Jvm.FP.i2d p3) (4620693217682128896 : UInt64))), .second, .val (.ref b), .unset] [(.int (1 : Int32))]))
      refine own_pre (fun _ kz_ => XS.istore X2.here hx rfl (hb hby at_62) rfl (l' := #[.val (.int p1), .val (.int p2), .val (.int p3), .val (.int p4), .val (.int lim), .val (.double (Jvm.FP.ddiv (Jvm.FP.i2d p1) (4620693217682128896 : UInt64))), .second, .val (.double (Jvm.FP.ddiv (Jvm.FP.i2d lim) (4620693217682128896 : UInt64))), .second, .val (.double (Jvm.FP.ddiv (Jvm.FP.i2d p3) (4620693217682128896 : UInt64))), .second, .val (.ref b), .val (.int (1 : Int32))]) rfl kz_) ?_
      show OwnGoes p e below _ (T2.setTop (mkF m 64 #[.val (.int p1), .val (.int p2), .val (.int p3), .val (.int p4), .val (.int lim), .val (.double (Jvm.FP.ddiv (Jvm.FP.i2d p1) (4620693217682128896 : UInt64))), .second, .val (.double (Jvm.FP.ddiv (Jvm.FP.i2d lim) (4620693217682128896 : UInt64))), .second, .val (.double (Jvm.FP.ddiv (Jvm.FP.i2d p3) (4620693217682128896 : UInt64))), .second, .val (.ref b), .val (.int (1 : Int32))] []))
      refine own_pre (fun _ kz_ => XS.aload X2.here hx rfl (hb hby at_64) rfl rfl kz_) ?_
      show OwnGoes p e below _ (T2.setTop (mkF m 66 #[.val (.int p1), .val (.int p2), .val (.int p3), .val (.int p4), .val (.int lim), .val (.double (Jvm.FP.ddiv (Jvm.FP.i2d p1) (4620693217682128896 : UInt64))), .second, .val (.double (Jvm.FP.ddiv (Jvm.FP.i2d lim) (4620693217682128896 : UInt64))), .second, .val (.double (Jvm.FP.ddiv (Jvm.FP.i2d p3) (4620693217682128896 : UInt64))), .second, .val (.ref b), .val (.int (1 : Int32))] [(.ref b)]))
      refine own_pre (fun _ kz_ => XS.dload X2.here hx rfl (hb hby at_66) rfl kz_) ?_
      show OwnGoes p e below _ (T2.setTop (mkF m 68 #[.val (.int p1), .val (.int p2), .val (.int p3), .val (.int p4), .val (.int lim), .val (.double (Jvm.FP.ddiv (Jvm.FP.i2d p1) (4620693217682128896 : UInt64))), .second, .val (.double (Jvm.FP.ddiv (Jvm.FP.i2d lim) (4620693217682128896 : UInt64))), .second, .val (.double (Jvm.FP.ddiv (Jvm.FP.i2d p3) (4620693217682128896 : UInt64))), .second, .val (.ref b), .val (.int (1 : Int32))] [(.double (Jvm.FP.ddiv (Jvm.FP.i2d lim) (4620693217682128896 : UInt64))), (.ref b)]))
      obtain ⟨cq4, kq4, q4a, q4b, q4c⟩ := isOf hZ rfl E2q
      obtain ⟨_, _, ⟨T4, L4, k4, n4⟩, -, X4, ⟨Lc4, hQ4, l4, y4, z4⟩, st4⟩ := X2.virtualBack hx (y := (⟨"com/example/chrono_bloom/chronobloom/ConfirmedModel$Figures", "keepsTo", "(D)Z"⟩ : MethodName)) (z := (⟨"com/example/chrono_bloom/chronobloom/ConfirmedModel$Figures", "keepsTo", "(D)Z"⟩ : MethodName)) hown (mvT hZ (hw _ (List.mem_of_getElem? (i := 19) rfl))) (mvT hZ (hw _ (List.mem_of_getElem? (i := 20) rfl))) (notFace_of_selects (args := #[]) (mvT hZ (hw _ (List.mem_of_getElem? (i := 22) rfl)))) (mvT hZ (hw _ (List.mem_of_getElem? (i := 22) rfl))) (mvT hZ (hw _ (List.mem_of_getElem? (i := 21) rfl))) (by decide) (backOf (W := 0) (rm4 l Z a0 hw [] b p1 lim (if p1 < lim then (-1 : Int32) else if p1 = lim then (0 : Int32) else (1 : Int32)) (1 : Int32) T2.heap n0 Z2 F2q (own_cmp8 p1 lim) (own_r1 h54)) hZ (hw _ (List.mem_of_getElem? (i := 23) rfl)) (hw _ (List.mem_of_getElem? (i := 3) rfl)) (by decide) (by decide)) q4a q4c (g := (mkF m 68 #[.val (.int p1), .val (.int p2), .val (.int p3), .val (.int p4), .val (.int lim), .val (.double (Jvm.FP.ddiv (Jvm.FP.i2d p1) (4620693217682128896 : UInt64))), .second, .val (.double (Jvm.FP.ddiv (Jvm.FP.i2d lim) (4620693217682128896 : UInt64))), .second, .val (.double (Jvm.FP.ddiv (Jvm.FP.i2d p3) (4620693217682128896 : UInt64))), .second, .val (.ref b), .val (.int (1 : Int32))] [(.double (Jvm.FP.ddiv (Jvm.FP.i2d lim) (4620693217682128896 : UInt64))), (.ref b)])) rfl (by rw [hml]; rfl) (Steps.refl _) (argsL := [(.double (Jvm.FP.ddiv (Jvm.FP.i2d lim) (4620693217682128896 : UInt64)))]) (rest := []) (lenOf (d := "(D)Z") (ps := [.double]) (r := some .boolean) (by decide +kernel) rfl) rfl (by show 2 * 0 + _ ≤ _; exact Nat.le_of_eq rfl) (hb hby at_68) (fun _ _ => ⟨rfl, rfl, (by decide : 1 + 0 ≤ _), (by decide : 2 + 0 ≤ _)⟩)
      dsimp only [Pt.U, Pt.locs, Pt.cells, Pt.slots] at X4 l4 y4 z4 st4 hQ4
      subst l4 y4 z4
      obtain ⟨rfl, N4q, e4⟩ := hQ4
      have N4 := Fr.app N2 N4q
      refine own_tr st4 ?_
      show OwnGoes p e below _ (T4.setTop (mkF m 71 #[.val (.int p1), .val (.int p2), .val (.int p3), .val (.int p4), .val (.int lim), .val (.double (Jvm.FP.ddiv (Jvm.FP.i2d p1) (4620693217682128896 : UInt64))), .second, .val (.double (Jvm.FP.ddiv (Jvm.FP.i2d lim) (4620693217682128896 : UInt64))), .second, .val (.double (Jvm.FP.ddiv (Jvm.FP.i2d p3) (4620693217682128896 : UInt64))), .second, .val (.ref b), .val (.int (1 : Int32))] [(.int (1 : Int32))]))
      refine own_pre (fun _ kz_ => XS.iload X4.here hx rfl (hb hby at_71) rfl kz_) ?_
      show OwnGoes p e below _ (T4.setTop (mkF m 73 #[.val (.int p1), .val (.int p2), .val (.int p3), .val (.int p4), .val (.int lim), .val (.double (Jvm.FP.ddiv (Jvm.FP.i2d p1) (4620693217682128896 : UInt64))), .second, .val (.double (Jvm.FP.ddiv (Jvm.FP.i2d lim) (4620693217682128896 : UInt64))), .second, .val (.double (Jvm.FP.ddiv (Jvm.FP.i2d p3) (4620693217682128896 : UInt64))), .second, .val (.ref b), .val (.int (1 : Int32))] [(.int (1 : Int32)), (.int (1 : Int32))]))
      refine own_pre (fun _ kz_ => XS.icmpNo X4.here hx rfl (hb hby at_73) rfl (teq (by decide : (1 : Int32) = (1 : Int32))).2 kz_) ?_
      show OwnGoes p e below _ (T4.setTop (mkF m 76 #[.val (.int p1), .val (.int p2), .val (.int p3), .val (.int p4), .val (.int lim), .val (.double (Jvm.FP.ddiv (Jvm.FP.i2d p1) (4620693217682128896 : UInt64))), .second, .val (.double (Jvm.FP.ddiv (Jvm.FP.i2d lim) (4620693217682128896 : UInt64))), .second, .val (.double (Jvm.FP.ddiv (Jvm.FP.i2d p3) (4620693217682128896 : UInt64))), .second, .val (.ref b), .val (.int (1 : Int32))] []))
      refine own_pre (fun _ kz_ => XS.iconst X4.here hx rfl (hb hby at_76) kz_) ?_
      show OwnGoes p e below _ (T4.setTop (mkF m 77 #[.val (.int p1), .val (.int p2), .val (.int p3), .val (.int p4), .val (.int lim), .val (.double (Jvm.FP.ddiv (Jvm.FP.i2d p1) (4620693217682128896 : UInt64))), .second, .val (.double (Jvm.FP.ddiv (Jvm.FP.i2d lim) (4620693217682128896 : UInt64))), .second, .val (.double (Jvm.FP.ddiv (Jvm.FP.i2d p3) (4620693217682128896 : UInt64))), .second, .val (.ref b), .val (.int (1 : Int32))] [(.int (1 : Int32))]))
      refine own_pre (fun _ kz_ => XS.goto X4.here hx rfl (pc0 := 77) (pc' := 81) rfl (hb hby at_77) (by decide) (by decide) kz_) ?_
      show OwnGoes p e below _ (T4.setTop (mkF m 81 #[.val (.int p1), .val (.int p2), .val (.int p3), .val (.int p4), .val (.int lim), .val (.double (Jvm.FP.ddiv (Jvm.FP.i2d p1) (4620693217682128896 : UInt64))), .second, .val (.double (Jvm.FP.ddiv (Jvm.FP.i2d lim) (4620693217682128896 : UInt64))), .second, .val (.double (Jvm.FP.ddiv (Jvm.FP.i2d p3) (4620693217682128896 : UInt64))), .second, .val (.ref b), .val (.int (1 : Int32))] [(.int (1 : Int32))]))
      exact own_ret X4 hx Bd.returns (rfl) (Or.inl ⟨rfl, by simp, _, rfl⟩) Bd.notSynchronized (hb hby at_81) ⟨rfl, N4⟩ (by decide) (by decide)
  show OwnGoes p e below _ (s₁.setTop (mkF m 0 #[.val (.int p1), .val (.int p2), .val (.int p3), .val (.int p4), .unset, .unset, .unset, .unset, .unset, .unset, .unset, .unset, .unset] []))
  refine own_pre (fun _ kz_ => XS.iloadN X0.here hx rfl (hb hby at_0) rfl kz_) ?_
  show OwnGoes p e below _ (s₁.setTop (mkF m 1 #[.val (.int p1), .val (.int p2), .val (.int p3), .val (.int p4), .unset, .unset, .unset, .unset, .unset, .unset, .unset, .unset, .unset] [(.int p4)]))
  refine own_pre (fun _ kz_ => XS.iconst X0.here hx rfl (hb hby at_1) kz_) ?_
  show OwnGoes p e below _ (s₁.setTop (mkF m 2 #[.val (.int p1), .val (.int p2), .val (.int p3), .val (.int p4), .unset, .unset, .unset, .unset, .unset, .unset, .unset, .unset, .unset] [(.int (1 : Int32)), (.int p4)]))
  refine own_pre (fun _ kz_ => XS.iand X0.here hx rfl (hb hby at_2) rfl kz_) ?_
  show OwnGoes p e below _ (s₁.setTop (mkF m 3 #[.val (.int p1), .val (.int p2), .val (.int p3), .val (.int p4), .unset, .unset, .unset, .unset, .unset, .unset, .unset, .unset, .unset] [(.int (p4 &&& (1 : Int32)))]))
  by_cases h3 : (p4 &&& (1 : Int32)) = (0 : Int32)
  · refine own_pre (fun _ kz_ => XS.ifYes X0.here hx rfl (pc0 := 3) (pc' := 10) rfl (hb hby at_3) rfl ((if0 _ _).trans (teq h3).1) (by decide) (by decide) kz_) ?_
    show OwnGoes p e below _ (s₁.setTop (mkF m 10 #[.val (.int p1), .val (.int p2), .val (.int p3), .val (.int p4), .unset, .unset, .unset, .unset, .unset, .unset, .unset, .unset, .unset] []))
    refine own_pre (fun _ kz_ => XS.iloadN X0.here hx rfl (hb hby at_10) rfl kz_) ?_
    show OwnGoes p e below _ (s₁.setTop (mkF m 11 #[.val (.int p1), .val (.int p2), .val (.int p3), .val (.int p4), .unset, .unset, .unset, .unset, .unset, .unset, .unset, .unset, .unset] [(.int p2)]))
    exact J11 _
  · refine own_pre (fun _ kz_ => XS.ifNo X0.here hx rfl (hb hby at_3) rfl ((if0 _ _).trans (feq h3).1) kz_) ?_
    show OwnGoes p e below _ (s₁.setTop (mkF m 6 #[.val (.int p1), .val (.int p2), .val (.int p3), .val (.int p4), .unset, .unset, .unset, .unset, .unset, .unset, .unset, .unset, .unset] []))
    refine own_pre (fun _ kz_ => XS.iloadN X0.here hx rfl (hb hby at_6) rfl kz_) ?_
    show OwnGoes p e below _ (s₁.setTop (mkF m 7 #[.val (.int p1), .val (.int p2), .val (.int p3), .val (.int p4), .unset, .unset, .unset, .unset, .unset, .unset, .unset, .unset, .unset] [(.int p1)]))
    refine own_pre (fun _ kz_ => XS.goto X0.here hx rfl (pc0 := 7) (pc' := 11) rfl (hb hby at_7) (by decide) (by decide) kz_) ?_
    show OwnGoes p e below _ (s₁.setTop (mkF m 11 #[.val (.int p1), .val (.int p2), .val (.int p3), .val (.int p4), .unset, .unset, .unset, .unset, .unset, .unset, .unset, .unset, .unset] [(.int p1)]))
    exact J11 _
set_option maxRecDepth 65536 in
set_option maxHeartbeats 40000000 in
theorem comes_1 {Post : Tables → Env → Array Value → State → Outcome → State → Prop} (hpost : ∀ tb e args s v u, (limb_1_1.after args s (.returned v) u = true ∧ limb_1_2.after args s (.returned v) u = true ∧ True) → FrameEnd s (.returned v) u (Jvm.fieldLocs frame_1_writes args s ++ Jvm.arrayLocs frame_1_arrays args s ++ Jvm.staticLocs frame_1_statics s) 16 128 → Post tb e args s (.returned v) u) :
    ArmFor flags0 classFile x code maxLocals ret World_1 tables_1 room_1 Calls_1 rest_1 Pre_1 Post := by
  intro l hfl _ _ p e ha hc hk s m args below hf hA hF happ hP
  obtain ⟨hcalls, hrest, hpre⟩ := hP
  obtain ⟨-, -, -, hnamed, -, -, -, hat⟩ := (Spec.applies_iff hf).mp happ
  obtain ⟨hg, hn⟩ := and_e (Cond.before_iff.mp (show (Jvm.Cond.and given_1 narrow_1).before args s = true from hpre))
  obtain ⟨hcount, hgs⟩ := and_e hg
  obtain ⟨ha0, hgs0⟩ := and_e hgs
  obtain ⟨ha1, hgs1⟩ := and_e hgs0
  obtain ⟨ha2, hgs2⟩ := and_e hgs1
  have ha3 := hgs2
  obtain ⟨w0, w1, w2, w3, rfl⟩ : ∃ w0 w1 w2 w3 : Value, args = #[w0, w1, w2, w3] := by
    have hs : args.size = 4 := by simpa [Cond.value, given_1] using hcount
    obtain ⟨L⟩ := args
    match L, hs with
    | [w0, w1, w2, w3], _ => exact ⟨w0, w1, w2, w3, rfl⟩
  have hw := fun d (hd : d ∈ tables_1) => atoms_spec (ws := Jvm.Cond.code x code maxLocals ret :: tables_1) hat d (List.mem_cons_of_mem _ hd)
  have hfit : Fit s := fun {y c} hc i hi => by
    obtain ⟨ha, rfl⟩ := Array.getElem?_eq_some_iff.mp hc
    have q := List.all_eq_true.mp ((Array.all_eq_true_iff_forall_mem.mp hF) _ (Array.getElem_mem ha)) i (List.mem_range.mpr hi)
    simpa [Array.getElem?_eq_getElem hi] using q
  obtain ⟨i0, ei0⟩ := is_v ha0
  obtain rfl : w0 = (.int i0) := Option.some.inj ei0
  obtain ⟨i1, ei1⟩ := is_v ha1
  obtain rfl : w1 = (.int i1) := Option.some.inj ei1
  obtain ⟨i2, ei2⟩ := is_v ha2
  obtain rfl : w2 = (.int i2) := Option.some.inj ei2
  obtain ⟨i3, ei3⟩ := is_v ha3
  obtain rfl : w3 = (.int i3) := Option.some.inj ei3
  obtain ⟨n, o, h1, h2, h3, _, L, rfl, ⟨rfl, N⟩, hq⟩ := rm0 l s _ hw tables_1 i0 i1 i2 i3 s.heap s.heap.size (Nat.le_refl _) p e ha hc hk s m _ below hf ((Spec.applies_iff_loose hf).mp happ).1 ⟨rfl, State.Warmed39.refl s, rfl⟩ trivial
  refine ⟨n, _, h1, h2, h3, hpost _ _ _ _ _ _ ⟨Cond.after_iff.mpr rfl, Cond.after_iff.mpr (eq_i res_at (Term.int_eval (1)) rfl), trivial⟩ ⟨hq.1, hq.2.1, (hq.2.2.sift fun y hy => Or.inr (N y hy)).mono (by decide) (by decide)⟩⟩
theorem main_1_1 : Claimed_1_1 := comes_1 fun _ _ _ _ _ _ h hF => ⟨h.1, hF⟩
theorem main_1_2 : Claimed_1_2 := comes_1 fun _ _ _ _ _ _ h hF => ⟨h.2.1, hF⟩
end Jvm.Pilot.@@N@@
namespace Jvm.Pilot.@@N@@
open Jvm Jvm.ClassFile Sem Op Lib Jvm.Free Jvm.Stand Jvm.Pilot.@@N@@.Jvm.D
/-! MADE BY PROGRAM (witnessworld.py) out of the Statement's table words and the real class files: 10 classes; the members and pool entries that the words name. The judged class is class 1, her method 1. -/
namespace start1
open Jvm.ClassFile
def u (s : String) : CpInfo := .utf8 (stringToUtf16 s)
/-- a pool by its gaps: so many unusable entries, then the entry; so many at the end -/
def gap : Nat → List CpInfo → List CpInfo
  | 0, r => r
  | n + 1, r => .unusable :: gap n r
def poolList (es : List (Nat × CpInfo)) (last : Nat) : List CpInfo := es.foldr (fun e r => gap e.1 (e.2 :: r)) (gap last [])
def pool (es : List (Nat × CpInfo)) (last : Nat) : Array CpInfo := ⟨poolList es last⟩
def fileOf (pool : Array CpInfo) (this : Nat) (attrs : Array Attribute := #[]) (ms : Array MethodInfo := #[]) (fl : Nat := 33) (sup : Nat := 0) (ifs : Array Nat := #[]) (fds : Array FieldInfo := #[]) : ClassFile where
  minorVersion := 0
  majorVersion := 65
  constantPool := pool
  accessFlags := fl
  thisClass := this
  superClass := sup
  interfaces := ifs
  fields := fds
  methods := ms
  attributes := attrs
def plain (name : String) (sup : Option ClassId) : Class where
  name := name
  kind := .ordinary
  loader := none
  accessFlags := 33
  super := sup
  interfaces := #[]
  cf := none
  fields := #[]
  methods := #[]
  instanceTypes := #[]
  staticTypes := #[]
  resolved := #[]
  callSites := []
  init := .initialized
  statics := none
  mirror := none

def pool0 : Array CpInfo := pool [(5, u "<init>"), (0, u "()V"), (1, .class_ 10), (1, u "java/lang/Object")] 113

def k0c0 : Code := { maxStack := 0, maxLocals := 1, code := object_method_1_code, exceptionTable := #[], attributes := #[] }
def k0m0 : Method := { name := "<init>", desc := "()V", sig := { parameters := [], returnType := none }, accessFlags := 1, code := some k0c0 }
/-- java/lang/Object -/
def k0 : Class := { plain "java/lang/Object" none with
  accessFlags := 33
  interfaces := #[]
  cf := some (fileOf pool0 8 #[] #[{ accessFlags := 1, nameIndex := 5, descriptorIndex := 6, attributes := #[] }] 33 0 #[] #[])
  fields := #[]
  methods := #[k0m0]
  instanceTypes := #[]
  staticTypes := #[]
  resolved := Array.replicate 124 none
  statics := none }

def pool1 : Array CpInfo := pool [(2, .class_ 4), (1, u "java/lang/Object"), (0, u "<init>"), (0, u "()V"), (0, .double 4620693217682128896), (1, .class_ 10), (0, u "com/example/chrono_bloom/chronobloom/ConfirmedModel$Figures"), (0, .methodref 9 12), (0, .nameAndType 5 13), (0, u "(DD)V"), (0, .methodref 9 15), (0, .nameAndType 16 17), (0, u "keepsTo"), (0, u "(D)Z"), (0, .class_ 19), (0, u "com/example/chrono_bloom/chronobloom/FiguresKeepsToPinLaw"), (2, u "law"), (0, u "(IIII)Z")] 7

def k1m0 : Method := { name := "<init>", desc := "()V", sig := { parameters := [], returnType := none }, accessFlags := 2, code := none }
def k1c1 : Code := { maxStack := 6, maxLocals := 13, code := code, exceptionTable := #[], attributes := #[] }
def k1m1 : Method := { name := "law", desc := "(IIII)Z", sig := { parameters := [.int, .int, .int, .int], returnType := some .boolean }, accessFlags := 9, code := some k1c1 }
/-- com/example/chrono_bloom/chronobloom/FiguresKeepsToPinLaw -/
def k1 : Class := { plain "com/example/chrono_bloom/chronobloom/FiguresKeepsToPinLaw" (some 0) with
  accessFlags := 49
  interfaces := #[]
  cf := some (fileOf pool1 18 #[] #[{ accessFlags := 2, nameIndex := 5, descriptorIndex := 6, attributes := #[] }, { accessFlags := 9, nameIndex := 22, descriptorIndex := 23, attributes := #[] }] 49 2 #[] #[])
  fields := #[]
  methods := #[k1m0, k1m1]
  instanceTypes := #[]
  staticTypes := #[]
  resolved := Array.replicate 31 none
  statics := none }

def pool2 : Array CpInfo := pool [(1, .methodref 2 3), (0, .class_ 4), (0, .nameAndType 5 6), (0, u "java/lang/Object"), (0, u "<init>"), (0, u "()V"), (0, .class_ 8), (0, u "java/lang/Record")] 13

def k2c0 : Code := { maxStack := 1, maxLocals := 1, code := jdk_30_method_1_code, exceptionTable := #[], attributes := #[] }
def k2m0 : Method := { name := "<init>", desc := "()V", sig := { parameters := [], returnType := none }, accessFlags := 4, code := some k2c0 }
/-- java/lang/Record -/
def k2 : Class := { plain "java/lang/Record" (some 0) with
  accessFlags := 1057
  interfaces := #[]
  cf := some (fileOf pool2 7 #[] #[{ accessFlags := 4, nameIndex := 5, descriptorIndex := 6, attributes := #[] }] 1057 2 #[] #[])
  fields := #[]
  methods := #[k2m0]
  instanceTypes := #[]
  staticTypes := #[]
  resolved := Array.replicate 22 none
  statics := none }

def pool3 : Array CpInfo := pool [(1, .methodref 2 3), (0, .class_ 4), (0, .nameAndType 5 6), (0, u "java/lang/Record"), (0, u "<init>"), (0, u "()V"), (0, .fieldref 8 9), (0, .class_ 10), (0, .nameAndType 11 12), (0, u "com/example/chrono_bloom/chronobloom/ConfirmedModel$Figures"), (0, u "cost"), (0, u "D"), (0, .fieldref 8 14), (0, .nameAndType 15 12), (0, u "probes"), (12, u "(DD)V"), (3, u "keepsTo"), (0, u "(D)Z"), (8, .class_ 43), (0, u "com/example/chrono_bloom/chronobloom/ConfirmedModel")] 20

def k3c0 : Code := { maxStack := 3, maxLocals := 5, code := prog_8_method_1_code, exceptionTable := #[], attributes := #[] }
def k3m0 : Method := { name := "<init>", desc := "(DD)V", sig := { parameters := [.double, .double], returnType := none }, accessFlags := 0, code := some k3c0 }
def k3c1 : Code := { maxStack := 4, maxLocals := 3, code := prog_8_method_2_code, exceptionTable := #[], attributes := #[] }
def k3m1 : Method := { name := "keepsTo", desc := "(D)Z", sig := { parameters := [.double], returnType := some .boolean }, accessFlags := 0, code := some k3c1 }
/-- com/example/chrono_bloom/chronobloom/ConfirmedModel$Figures -/
def k3 : Class := { plain "com/example/chrono_bloom/chronobloom/ConfirmedModel$Figures" (some 2) with
  accessFlags := 48
  interfaces := #[]
  cf := some (fileOf pool3 8 #[.nestHost 42] #[{ accessFlags := 0, nameIndex := 5, descriptorIndex := 28, attributes := #[] }, { accessFlags := 0, nameIndex := 32, descriptorIndex := 33, attributes := #[] }] 48 2 #[] #[{ accessFlags := 18, nameIndex := 11, descriptorIndex := 12, attributes := #[] }, { accessFlags := 18, nameIndex := 15, descriptorIndex := 12, attributes := #[] }])
  fields := #[{ name := "cost", type := .double, accessFlags := 18, slot := 0, constantValue := 0 }, { name := "probes", type := .double, accessFlags := 18, slot := 1, constantValue := 0 }]
  methods := #[k3m0, k3m1]
  instanceTypes := #[.double, .double]
  staticTypes := #[]
  resolved := Array.replicate 64 none
  statics := none }

def pool4 : Array CpInfo := pool [(1, u "java/lang/Cloneable"), (0, .class_ 1), (0, u "java/lang/Object"), (0, .class_ 3)] 3

/-- java/lang/Cloneable -/
def k4 : Class := { plain "java/lang/Cloneable" (some 0) with
  accessFlags := 1537
  interfaces := #[]
  cf := some (fileOf pool4 2 #[] #[] 1537 4 #[] #[])
  fields := #[]
  methods := #[]
  instanceTypes := #[]
  staticTypes := #[]
  resolved := Array.replicate 8 none
  statics := none }

def pool5 : Array CpInfo := pool [(1, u "java/io/Serializable"), (0, .class_ 1), (0, u "java/lang/Object"), (0, .class_ 3)] 3

/-- java/io/Serializable -/
def k5 : Class := { plain "java/io/Serializable" (some 0) with
  accessFlags := 1537
  interfaces := #[]
  cf := some (fileOf pool5 2 #[] #[] 1537 4 #[] #[])
  fields := #[]
  methods := #[]
  instanceTypes := #[]
  staticTypes := #[]
  resolved := Array.replicate 8 none
  statics := none }

/-- the primitive byte -/
def k6 : Class := { plain "byte" none with kind := .primitive 'B', accessFlags := 0x411 }
/-- [B -/
def k7 : Class := { plain "[B" (some 0) with kind := .array 6 .byte, interfaces := #[4, 5], accessFlags := 1041 }

/-- the primitive int -/
def k8 : Class := { plain "int" none with kind := .primitive 'I', accessFlags := 0x411 }
/-- [I -/
def k9 : Class := { plain "[I" (some 0) with kind := .array 8 .int, interfaces := #[4, 5], accessFlags := 1041 }

def heap : Heap := #[]
def classes : Array Class := #[k0, k1, k2, k3, k4, k5, k6, k7, k8, k9]
def interned : List (Array UInt16 × Addr) := []
def slotsUsed : Nat := 0
def theMethod : MethodId := ⟨1, 1⟩
def args0 : Array Value := #[.int 5, .int 6, .int 7, .int 8]
def aboutOver (below : List Frame) : State where
  vm := { classes := classes, interned := interned.toArray }
  heap := heap
  slotsUsed := slotsUsed
  threads := #[{ frames := .invoking theMethod args0 :: below }]
def below0 : List Frame := [.native { method := ⟨0, 0⟩, args := #[] }]
def about1 : State := aboutOver below0
def p0 : Program := .bare "" "" ""
def e0 : Env := launch0.env 0 0 0
theorem w_frames : about1.frames = Frame.invoking theMethod args0 :: below0 := rfl
set_option maxRecDepth 65536 in
theorem w_args : argsFit about1.vm theMethod args0 = true := by decide +kernel
set_option maxRecDepth 65536 in
theorem w_heap : heapFits about1 = true := by decide +kernel
set_option maxRecDepth 65536 in
theorem w_runnable : about1.curStatus? = some .runnable := by decide +kernel
set_option maxRecDepth 65536 in
theorem w_alone : about1.alone = true := by decide +kernel
set_option maxRecDepth 65536 in
theorem w_named : about1.methodNamed? x = some theMethod := by decide +kernel
set_option maxRecDepth 65536 in
theorem w_hears : about1.hears theMethod below0 = true := by decide +kernel
set_option maxRecDepth 65536 in
theorem w_ripe : about1.ripe theMethod args0 below0 = true := by decide +kernel
theorem w_running : about1.status = .running := rfl
set_option maxRecDepth 65536 in
theorem w_room : about1.hasRoom e0.platform room_1 = true :=
  launch0.hasRoom_least _ room_1 (by decide +kernel) (by decide +kernel) (by decide +kernel) (by decide +kernel) (by decide +kernel) (by decide +kernel)
theorem allAtoms_all (ts : List Jvm.Cond) (a : Array Jvm.Value) (st : Jvm.State) : (allAtoms ts).before a st = ts.all (fun c => c.before a st) := by
  induction ts with
  | nil => rfl
  | cons c t ih =>
    show (Jvm.Cond.and c (allAtoms t)).before a st = _
    rw [Jvm.Cond.before_and, ih, List.all_cons]
def words1 : List Jvm.Cond := Jvm.Cond.code x code maxLocals ret :: tables_1
/-- a 'code' word, met by the world's own term for the bytes: nothing is compared byte by byte -/
theorem code_word {y : MethodName} {bytes : ByteArray} {mx : Nat} {rt : Option FieldType} {a : Array Value} {s : State} {m : MethodId} {meth : Method} {c : Code} (h1 : s.methodNamed? y = some m) (h2 : s.vm.method? m = some meth) (h3 : meth.code = some c) (h4 : c.code = bytes)
    (h5 : (c.maxLocals == mx && c.exceptionTable.isEmpty && decide (c.maxStack ≤ mostOperands) && decide (meth.sig.returnType = rt) && !meth.locks && decide (parseMethodDescriptor y.desc = some meth.sig)) = true) : (Jvm.Cond.code y bytes mx rt).before a s = true := by
  simp only [Bool.and_eq_true, beq_iff_eq, Bool.not_eq_true', decide_eq_true_eq] at h5
  obtain ⟨⟨⟨⟨⟨g1, g2⟩, g3⟩, g4⟩, g5⟩, g6⟩ := h5
  simp [Cond.before, Cond.holds, Cond.value, h1, h2, h3, h4, g1, g2, g3, g4, g5, g6]
def isCode : Jvm.Cond → Bool
  | .code _ _ _ _ => true
  | _ => false
theorem all_split {L : List Jvm.Cond} {P : Jvm.Cond → Bool} (h1 : L.all (fun c => isCode c || P c) = true) (h2 : ∀ c ∈ L.filter isCode, P c = true) : L.all P = true := by
  refine List.all_eq_true.mpr fun c hc => ?_
  have h := List.all_eq_true.mp h1 c hc
  rcases Bool.eq_false_or_eq_true (isCode c) with hi | hi
  · exact h2 c (List.mem_filter.mpr ⟨hc, hi⟩)
  · simpa [hi] using h
set_option maxRecDepth 65536 in
theorem w_c0 : (Jvm.Cond.code x code maxLocals ret).before args0 about1 = true := code_word (m := ⟨1, 1⟩) (meth := k1m1) (c := k1c1) (by decide +kernel) rfl rfl rfl (by decide +kernel)
set_option maxRecDepth 65536 in
theorem w_c1 : (Jvm.Cond.code ({ cls := "com/example/chrono_bloom/chronobloom/ConfirmedModel$Figures", name := "<init>", desc := "(DD)V" } : Jvm.MethodName) prog_8_method_1_code (5 : Nat) (Option.none : Option Jvm.ClassFile.FieldType)).before args0 about1 = true := code_word (m := ⟨3, 0⟩) (meth := k3m0) (c := k3c0) (by decide +kernel) rfl rfl rfl (by decide +kernel)
set_option maxRecDepth 65536 in
theorem w_c2 : (Jvm.Cond.code ({ cls := "java/lang/Record", name := "<init>", desc := "()V" } : Jvm.MethodName) jdk_30_method_1_code (1 : Nat) (Option.none : Option Jvm.ClassFile.FieldType)).before args0 about1 = true := code_word (m := ⟨2, 0⟩) (meth := k2m0) (c := k2c0) (by decide +kernel) rfl rfl rfl (by decide +kernel)
set_option maxRecDepth 65536 in
theorem w_c3 : (Jvm.Cond.code ({ cls := "java/lang/Object", name := "<init>", desc := "()V" } : Jvm.MethodName) object_method_1_code (1 : Nat) (Option.none : Option Jvm.ClassFile.FieldType)).before args0 about1 = true := code_word (m := ⟨0, 0⟩) (meth := k0m0) (c := k0c0) (by decide +kernel) rfl rfl rfl (by decide +kernel)
set_option maxRecDepth 65536 in
theorem w_c4 : (Jvm.Cond.code ({ cls := "com/example/chrono_bloom/chronobloom/ConfirmedModel$Figures", name := "keepsTo", desc := "(D)Z" } : Jvm.MethodName) prog_8_method_2_code (3 : Nat) (Option.some Jvm.ClassFile.FieldType.boolean)).before args0 about1 = true := code_word (m := ⟨3, 1⟩) (meth := k3m1) (c := k3c1) (by decide +kernel) rfl rfl rfl (by decide +kernel)
def codes1 : List Jvm.Cond := [Jvm.Cond.code x code maxLocals ret, Jvm.Cond.code ({ cls := "com/example/chrono_bloom/chronobloom/ConfirmedModel$Figures", name := "<init>", desc := "(DD)V" } : Jvm.MethodName) prog_8_method_1_code (5 : Nat) (Option.none : Option Jvm.ClassFile.FieldType), Jvm.Cond.code ({ cls := "java/lang/Record", name := "<init>", desc := "()V" } : Jvm.MethodName) jdk_30_method_1_code (1 : Nat) (Option.none : Option Jvm.ClassFile.FieldType), Jvm.Cond.code ({ cls := "java/lang/Object", name := "<init>", desc := "()V" } : Jvm.MethodName) object_method_1_code (1 : Nat) (Option.none : Option Jvm.ClassFile.FieldType), Jvm.Cond.code ({ cls := "com/example/chrono_bloom/chronobloom/ConfirmedModel$Figures", name := "keepsTo", desc := "(D)Z" } : Jvm.MethodName) prog_8_method_2_code (3 : Nat) (Option.some Jvm.ClassFile.FieldType.boolean)]
set_option maxRecDepth 65536 in
theorem codes_eq : words1.filter isCode = codes1 := rfl
theorem w_codes : ∀ c ∈ words1.filter isCode, c.before args0 about1 = true := by
  rw [codes_eq]
  intro c hc
  simp only [codes1, List.mem_cons, List.not_mem_nil, or_false] at hc
  rcases hc with rfl | rfl | rfl | rfl | rfl
  · exact w_c0
  · exact w_c1
  · exact w_c2
  · exact w_c3
  · exact w_c4
set_option maxRecDepth 65536 in
theorem w_t1 : (words1.take 24).all (fun c => isCode c || c.before args0 about1) = true := by decide +kernel
set_option maxRecDepth 65536 in
theorem w_t2 : (words1.drop 24).all (fun c => isCode c || c.before args0 about1) = true := by decide +kernel
theorem w_tables : (allAtoms (Jvm.Cond.code x code maxLocals ret :: tables_1)).before args0 about1 = true := by
  rw [allAtoms_all]
  show words1.all (fun c => c.before args0 about1) = true
  refine all_split ?_ w_codes
  rw [← List.take_append_drop 24 words1, List.all_append, w_t1, w_t2]
  rfl
set_option maxRecDepth 65536 in
theorem w_case : (Jvm.Cond.and given_1 narrow_1).before args0 about1 = true := by decide +kernel
theorem w_applies : (headSpec (Jvm.Cond.code x code maxLocals ret :: tables_1) room_1).applies x e0.platform about1 = true :=
  (Spec.applies_iff w_frames).mpr ⟨w_running, w_runnable, w_alone, w_named, w_hears, w_ripe, w_room, w_tables⟩
theorem atStart : AtStart classFile x code maxLocals ret World_1 tables_1 room_1 Calls_1 rest_1 Pre_1 launch0 p0 e0 about1 theMethod args0 below0 :=
  ⟨lists_1, trivial, launch0.admits_env _ _ _, launch0.least_env, fairChoices_fair.cas, fairChoices_fair.clock, w_frames, w_args, w_heap, w_applies, trivial, trivial, w_case⟩
end start1
theorem witness_1 : WitnessClaimed_1 := ⟨start1.p0, start1.e0, start1.about1, start1.theMethod, start1.args0, start1.below0, start1.atStart⟩
end Jvm.Pilot.@@N@@

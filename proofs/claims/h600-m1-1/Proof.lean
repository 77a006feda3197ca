import JvmDerived
import JvmDerived.Pilot.@@N@@Statement
import JvmDerived.Pilot.@@N@@Code
set_option linter.unusedVariables false
set_option linter.unusedSimpArgs false
namespace Jvm.Pilot.@@N@@
open Jvm Jvm.ClassFile Sem Op Lib Jvm.Free Jvm.Stand Jvm.LawKit Jvm.RoadKit Bundle Jvm.Pilot.@@N@@.Jvm.D
/-! the walk in continuation style: 'from U the run comes to an end of which P holds' -/
def OwnGoes (p : Program) (e : Env) (below : List Frame) (P : Outcome → State → Prop) (U : State) : Prop := ∃ s₂ o, Steps p.tables e below U s₂ ∧ s₂.status = .running ∧ Ended s₂ below o ∧ P o s₂
theorem own_pre {p : Program} {e : Env} {below : List Frame} {P : Outcome → State → Prop} {U U' : State} (h : ∀ t, Steps p.tables e below U' t → Steps p.tables e below U t) (k : OwnGoes p e below P U') : OwnGoes p e below P U := by
  obtain ⟨s₂, o, h1, h2⟩ := k
  exact ⟨s₂, o, h _ h1, h2⟩
theorem own_tr {p : Program} {e : Env} {below : List Frame} {P : Outcome → State → Prop} {U U' : State} (h : Steps p.tables e below U U') (k : OwnGoes p e below P U') : OwnGoes p e below P U := own_pre (fun _ q => h.trans q) k
theorem own_ret {p : Program} {l : Launch} {e : Env} {R : Room} {s : State} {m : MethodId} {args : Array Value} {below : List Frame} {meth : Method} {c : Code} {T : State} {locs : List Loc} {cells slots : Nat}
    (X : Stand p l e R s m args below meth c T locs cells slots) (hx : p.tables.exec = Jvm.exec) {pc : Nat} {Ls : Array Slot} {w : Value} {t : FieldType} {i : Instr} {rest : List Value} (hret : meth.sig.returnType = some t) (hn : narrow t w = w)
    (hi : (i = .ireturn ∧ (t = .int ∨ t = .boolean ∨ t = .byte ∨ t = .char ∨ t = .short) ∧ ∃ z, w = .int z) ∨ (i = .lreturn ∧ t = .long ∧ ∃ z, w = .long z) ∨ (i = .dreturn ∧ t = .double ∧ ∃ z, w = .double z) ∨ (i = .freturn ∧ t = .float ∧ ∃ z, w = .float z) ∨ (i = .areturn ∧ t.isReference = true ∧ w.isRef = true))
    (hlocks : meth.locks = false) (hd : decode c.code pc = .ok (i, 1)) {Qh : Option Value → Heap → List Loc → Prop} {rc rs : Nat} (hQ : Qh (some w) T.heap locs) (hc : cells ≤ rc) (hs : slots ≤ rs) :
    OwnGoes p e below (fun o U' => ∃ v L, o = .returned v ∧ Qh v U'.heap L ∧ FrameEnd s o U' L rc rs) (T.setTop (mkF m pc Ls (w :: rest))) := by
  obtain ⟨fs, hr, hrun, hended, hW, hsame⟩ := X.leave (v := some w) (fun h => by rw [hret] at h; cases h) hlocks
  exact ⟨_, _, retOut X hx hret hn hi hd hr, hrun, hended, _, _, rfl, hQ, ⟨_, rfl⟩, hW, hsame.mono hc hs⟩
theorem own_retV {p : Program} {l : Launch} {e : Env} {R : Room} {s : State} {m : MethodId} {args : Array Value} {below : List Frame} {meth : Method} {c : Code} {T : State} {locs : List Loc} {cells slots : Nat}
    (X : Stand p l e R s m args below meth c T locs cells slots) (hx : p.tables.exec = Jvm.exec) {pc : Nat} {Ls : Array Slot} (hret : meth.sig.returnType = none) (hlocks : meth.locks = false) (hd : decode c.code pc = .ok (.return_, 1)) {Qh : Option Value → Heap → List Loc → Prop} {rc rs : Nat} (hQ : Qh none T.heap locs) (hc : cells ≤ rc) (hs : slots ≤ rs) :
    OwnGoes p e below (fun o U' => ∃ v L, o = .returned v ∧ Qh v U'.heap L ∧ FrameEnd s o U' L rc rs) (T.setTop (mkF m pc Ls [])) := by
  obtain ⟨fs, hr, hrun, hended, hW, hsame⟩ := X.leave (v := none) (fun _ => rfl) hlocks
  exact ⟨_, _, X.returnOut hx hret hd hr, hrun, hended, _, _, rfl, hQ, ⟨_, rfl⟩, hW, hsame.mono hc hs⟩

theorem own_nn (q : Int64) : ¬ (q &&& (9223372036854775807 : Int64)) < (0 : Int64) := by
  rw [Int64.lt_iff_toInt_lt, c_maskL q 9223372036854775807 63 (by decide) (by decide)]
  show ¬ q.toInt % _ < 0
  omega
theorem own_max (n : Int64) (h : ¬ n < (9223372036854775807 : Int64)) : n = (9223372036854775807 : Int64) := by
  rw [Int64.lt_iff_toInt_lt] at h
  have h' : ¬ n.toInt < 9223372036854775807 := h
  have := rng64 n
  exact Int64.toInt_inj.mp (show n.toInt = 9223372036854775807 by omega)

def Q2  (h0 : Heap) (n0 : Nat) (v : Option Value) (h : Heap) (L : List Loc) : Prop := v = none ∧ Fr n0 L ∧ h = h0
theorem d2_0 : decode jdk_30_method_1_code 0 = .ok (.aload_n 0, 1) := by decide +kernel
theorem d2_1 : decode jdk_30_method_1_code 1 = .ok (.invokespecial 1, 3) := by decide +kernel
theorem d2_4 : decode jdk_30_method_1_code 4 = .ok (.return_, 1) := by decide +kernel
set_option maxRecDepth 65536 in
set_option maxHeartbeats 40000000 in
theorem rm2 (l : Launch) (Z : State) (a0 : Array Value) (hw : ∀ d ∈ tables_1, d.before a0 Z = true) (ws : List Jvm.Cond) (a1 : Addr) (h0 : Heap) (n0 : Nat) (Z0 : n0 ≤ h0.size) :
    MetFree l (⟨"java/lang/Record", "<init>", "()V"⟩ : MethodName) (head1 (Jvm.Cond.code (⟨"java/lang/Record", "<init>", "()V"⟩ : MethodName) jdk_30_method_1_code 1 none :: ws) ({ frames := 1, cells := 0, slots := 0, locals := 12 } : Room)) (fun a U => a = #[(.ref a1)] ∧ Z.Warmed39 U.vm ∧ U.heap = h0) (fun _ _ _ _ _ => True) (fun _ U o U' => ∃ v L, o = .returned v ∧ Q2 h0 n0 v U'.heap L ∧ FrameEnd U o U' L ({ frames := 1, cells := 0, slots := 0, locals := 12 } : Room).cells ({ frames := 1, cells := 0, slots := 0, locals := 12 } : Room).slots) := by
  refine MetFree.of_bodySF (plainFor_of_name (by first | (simp [plainName, overriddenIn]; done) | decide +kernel)) hisR ?_
  intro p e s m args below meth c s₁ Bd hml0 hP hK
  obtain ⟨rfl, hZ, hh⟩ := hP
  have hx := Bd.exec
  have hby := Bd.bytes
  have hml : c.maxLocals = 1 := hml0
  have hown : s.vm.findClass "java/lang/Record" = some m.cls := findClass_of_methodNamed Bd.named
  have hnm := (name_of_methodNamed Bd.named Bd.method).1
  have X0 : Stand p l e ({ frames := 1, cells := 0, slots := 0, locals := 12 } : Room) s m #[(.ref a1)] below meth c s₁ [] 0 0 := Stand.of_body Bd
  have e0 : s₁.heap = h0 := by rw [← hh, Bd.state]; rfl
  have N0 := Fr.nil n0
  have ef : entryFrame m #[(.ref a1)] 1 = (mkF m 0 #[.val (.ref a1)] []) := by first | (simp [entryFrame, mkF, argsToLocals, Value.category]; done) | rfl
  show OwnGoes p e below (fun o U' => ∃ v L, o = .returned v ∧ Q2 h0 n0 v U'.heap L ∧ FrameEnd s o U' L ({ frames := 1, cells := 0, slots := 0, locals := 12 } : Room).cells ({ frames := 1, cells := 0, slots := 0, locals := 12 } : Room).slots) (s₁.setTop (entryFrame m #[(.ref a1)] 1))
  refine own_pre (fun t k => castTop ef k) ?_
  show OwnGoes p e below _ (s₁.setTop (mkF m 0 #[.val (.ref a1)] []))
  refine own_pre (fun _ kz_ => XS.aloadN X0.here hx rfl (hb hby d2_0) rfl rfl kz_) ?_
  show OwnGoes p e below _ (s₁.setTop (mkF m 1 #[.val (.ref a1)] [(.ref a1)]))
  obtain ⟨T1, X1, e1, st1⟩ := initO X0 hx hZ hown (hw _ (List.mem_of_getElem? (i := 12) rfl)) (hw _ (List.mem_of_getElem? (i := 13) rfl)) (hw _ (List.mem_of_getElem? (i := 14) rfl)) e0 (g := (mkF m 1 #[.val (.ref a1)] [(.ref a1)])) rfl (by rw [hml]; rfl) rfl (hb hby d2_1) (by decide) (W := 0) (by show 2 * 0 + _ ≤ _; exact Nat.le_of_eq rfl) (by decide)
  refine own_pre st1 ?_
  show OwnGoes p e below _ (T1.setTop (mkF m 4 #[.val (.ref a1)] []))
  exact own_retV X1 hx Bd.returns Bd.notSynchronized (hb hby d2_4) ⟨rfl, N0, e1⟩ (by decide) (by decide)
theorem d1_0 : decode prog_67_method_1_code 0 = .ok (.aload_n 0, 1) := by decide +kernel
theorem d1_1 : decode prog_67_method_1_code 1 = .ok (.invokespecial 3, 3) := by decide +kernel
theorem d1_4 : decode prog_67_method_1_code 4 = .ok (.lload_n 1, 1) := by decide +kernel
theorem d1_5 : decode prog_67_method_1_code 5 = .ok (.lconst 0, 1) := by decide +kernel
theorem d1_6 : decode prog_67_method_1_code 6 = .ok (.lcmp, 1) := by decide +kernel
theorem d1_7 : decode prog_67_method_1_code 7 = .ok (.ifCond .ge 17, 3) := by decide +kernel
theorem d1_10 : decode prog_67_method_1_code 10 = .ok (.new 9, 3) := by decide +kernel
theorem d1_13 : decode prog_67_method_1_code 13 = .ok (.dup, 1) := by decide +kernel
theorem d1_14 : decode prog_67_method_1_code 14 = .ok (.lload_n 1, 1) := by decide +kernel
theorem d1_20 : decode prog_67_method_1_code 20 = .ok (.invokespecial 15, 3) := by decide +kernel
theorem d1_23 : decode prog_67_method_1_code 23 = .ok (.athrow, 1) := by decide +kernel
theorem d1_24 : decode prog_67_method_1_code 24 = .ok (.lload_n 3, 1) := by decide +kernel
theorem d1_25 : decode prog_67_method_1_code 25 = .ok (.lconst 0, 1) := by decide +kernel
theorem d1_26 : decode prog_67_method_1_code 26 = .ok (.lcmp, 1) := by decide +kernel
theorem d1_27 : decode prog_67_method_1_code 27 = .ok (.ifCond .ge 17, 3) := by decide +kernel
theorem d1_30 : decode prog_67_method_1_code 30 = .ok (.new 9, 3) := by decide +kernel
theorem d1_33 : decode prog_67_method_1_code 33 = .ok (.dup, 1) := by decide +kernel
theorem d1_34 : decode prog_67_method_1_code 34 = .ok (.lload_n 3, 1) := by decide +kernel
theorem d1_40 : decode prog_67_method_1_code 40 = .ok (.invokespecial 15, 3) := by decide +kernel
theorem d1_43 : decode prog_67_method_1_code 43 = .ok (.athrow, 1) := by decide +kernel
theorem d1_44 : decode prog_67_method_1_code 44 = .ok (.aload_n 0, 1) := by decide +kernel
theorem d1_45 : decode prog_67_method_1_code 45 = .ok (.lload_n 1, 1) := by decide +kernel
theorem d1_46 : decode prog_67_method_1_code 46 = .ok (.putfield 19, 3) := by decide +kernel
theorem d1_49 : decode prog_67_method_1_code 49 = .ok (.aload_n 0, 1) := by decide +kernel
theorem d1_50 : decode prog_67_method_1_code 50 = .ok (.lload_n 3, 1) := by decide +kernel
theorem d1_51 : decode prog_67_method_1_code 51 = .ok (.putfield 25, 3) := by decide +kernel
theorem d1_54 : decode prog_67_method_1_code 54 = .ok (.return_, 1) := by decide +kernel
theorem d4_0 : decode prog_67_method_2_code 0 = .ok (.new 20, 3) := by decide +kernel
theorem d4_3 : decode prog_67_method_2_code 3 = .ok (.dup, 1) := by decide +kernel
theorem d4_4 : decode prog_67_method_2_code 4 = .ok (.lload_n 0, 1) := by decide +kernel
theorem d4_5 : decode prog_67_method_2_code 5 = .ok (.ldc2_w 28, 3) := by decide +kernel
theorem d4_8 : decode prog_67_method_2_code 8 = .ok (.invokespecial 30, 3) := by decide +kernel
theorem d4_11 : decode prog_67_method_2_code 11 = .ok (.areturn, 1) := by decide +kernel
theorem d5_0 : decode prog_67_method_3_code 0 = .ok (.aload_n 0, 1) := by decide +kernel
theorem d5_1 : decode prog_67_method_3_code 1 = .ok (.getfield 25, 3) := by decide +kernel
theorem d5_4 : decode prog_67_method_3_code 4 = .ok (.ldc2_w 28, 3) := by decide +kernel
theorem d5_7 : decode prog_67_method_3_code 7 = .ok (.lcmp, 1) := by decide +kernel
theorem d5_8 : decode prog_67_method_3_code 8 = .ok (.ifCond .eq 7, 3) := by decide +kernel
theorem d5_11 : decode prog_67_method_3_code 11 = .ok (.iconst 1, 1) := by decide +kernel
theorem d5_12 : decode prog_67_method_3_code 12 = .ok (.goto 4, 3) := by decide +kernel
theorem d5_15 : decode prog_67_method_3_code 15 = .ok (.iconst 0, 1) := by decide +kernel
theorem d5_16 : decode prog_67_method_3_code 16 = .ok (.ireturn, 1) := by decide +kernel
def Q1 (Z : State) (a1 : Addr) (q2 : Int64) (h0 : Heap) (n0 : Nat) (v : Option Value) (h : Heap) (L : List Loc) : Prop := v = none ∧ Fr n0 L ∧ Keep h0 h [a1] ∧ Exa Z h a1 "com/example/hyperloom/hyperloom/search/Budget" ∧ Fld Z h a1 "com/example/hyperloom/hyperloom/search/Budget" "nanos" "J" (.long q2)
set_option maxRecDepth 65536 in
set_option maxHeartbeats 40000000 in
theorem rm1 (l : Launch) (Z : State) (a0 : Array Value) (hw : ∀ d ∈ tables_1, d.before a0 Z = true) (ws : List Jvm.Cond) (a1 : Addr) (q1 q2 : Int64) (h0 : Heap) (n0 : Nat) (Z0 : n0 ≤ h0.size) (E1 : Exa Z h0 a1 "com/example/hyperloom/hyperloom/search/Budget") (F1 : Fld Z h0 a1 "com/example/hyperloom/hyperloom/search/Budget" "calls" "J" (.long (0 : Int64))) (F2 : Fld Z h0 a1 "com/example/hyperloom/hyperloom/search/Budget" "nanos" "J" (.long (0 : Int64))) (g_a1 : n0 ≤ a1) (hq1 : ¬ q1 < (0 : Int64)) (hq2 : ¬ q2 < (0 : Int64)) :
    MetFree l (⟨"com/example/hyperloom/hyperloom/search/Budget", "<init>", "(JJ)V"⟩ : MethodName) (head1 (Jvm.Cond.code (⟨"com/example/hyperloom/hyperloom/search/Budget", "<init>", "(JJ)V"⟩ : MethodName) prog_67_method_1_code 5 none :: ws) ({ frames := 2, cells := 0, slots := 0, locals := 24 } : Room)) (fun a U => a = #[(.ref a1), (.long q1), (.long q2)] ∧ Z.Warmed39 U.vm ∧ U.heap = h0) (fun _ _ _ _ _ => True) (fun _ U o U' => ∃ v L, o = .returned v ∧ Q1 Z a1 q2 h0 n0 v U'.heap L ∧ FrameEnd U o U' L ({ frames := 2, cells := 0, slots := 0, locals := 24 } : Room).cells ({ frames := 2, cells := 0, slots := 0, locals := 24 } : Room).slots) := by
  refine MetFree.of_bodySF (plainFor_of_name (by first | (simp [plainName, overriddenIn]; done) | decide +kernel)) hisR ?_
  intro p e s m args below meth c s₁ Bd hml0 hP hK
  obtain ⟨rfl, hZ, hh⟩ := hP
  have hx := Bd.exec
  have hby := Bd.bytes
  have hml : c.maxLocals = 5 := hml0
  have hown : s.vm.findClass "com/example/hyperloom/hyperloom/search/Budget" = some m.cls := findClass_of_methodNamed Bd.named
  have hnm := (name_of_methodNamed Bd.named Bd.method).1
  have X0 : Stand p l e ({ frames := 2, cells := 0, slots := 0, locals := 24 } : Room) s m #[(.ref a1), (.long q1), (.long q2)] below meth c s₁ [] 0 0 := Stand.of_body Bd
  have e0 : s₁.heap = h0 := by rw [← hh, Bd.state]; rfl
  have N0 := Fr.nil n0
  have ef : entryFrame m #[(.ref a1), (.long q1), (.long q2)] 5 = (mkF m 0 #[.val (.ref a1), .val (.long q1), .second, .val (.long q2), .second] []) := by first | (simp [entryFrame, mkF, argsToLocals, Value.category]; done) | rfl
  show OwnGoes p e below (fun o U' => ∃ v L, o = .returned v ∧ Q1 Z a1 q2 h0 n0 v U'.heap L ∧ FrameEnd s o U' L ({ frames := 2, cells := 0, slots := 0, locals := 24 } : Room).cells ({ frames := 2, cells := 0, slots := 0, locals := 24 } : Room).slots) (s₁.setTop (entryFrame m #[(.ref a1), (.long q1), (.long q2)] 5))
  refine own_pre (fun t k => castTop ef k) ?_
  show OwnGoes p e below _ (s₁.setTop (mkF m 0 #[.val (.ref a1), .val (.long q1), .second, .val (.long q2), .second] []))
  refine own_pre (fun _ kz_ => XS.aloadN X0.here hx rfl (hb hby d1_0) rfl rfl kz_) ?_
  show OwnGoes p e below _ (s₁.setTop (mkF m 1 #[.val (.ref a1), .val (.long q1), .second, .val (.long q2), .second] [(.ref a1)]))
  obtain ⟨_, _, ⟨T1, L1, k1, n1⟩, -, X1, ⟨Lc1, hQ1, l1, y1, z1⟩, st1⟩ := X0.specialBack hx (y := (⟨"java/lang/Record", "<init>", "()V"⟩ : MethodName)) rfl hown (mvT hZ (hw _ (List.mem_of_getElem? (i := 7) rfl))) (mvT hZ (hw _ (List.mem_of_getElem? (i := 8) rfl))) (mvT hZ (hw _ (List.mem_of_getElem? (i := 11) rfl))) (by decide) (backOf (W := 0) (rm2 l Z a0 hw [] a1 h0 n0 Z0) hZ (hw _ (List.mem_of_getElem? (i := 11) rfl)) (hw _ (List.mem_of_getElem? (i := 10) rfl)) (by decide) (by decide)) (g := (mkF m 1 #[.val (.ref a1), .val (.long q1), .second, .val (.long q2), .second] [(.ref a1)])) rfl (by rw [hml]; rfl) (Steps.refl _) (a := a1) (argsL := []) (rest := []) (lenOf (d := "()V") (ps := []) (r := none) (by decide +kernel) rfl) rfl (by show 2 * 0 + _ ≤ _; exact Nat.le_of_eq rfl) (hb hby d1_1) (fun _ _ => ⟨rfl, e0, (by decide : 0 + 0 ≤ _), (by decide : 0 + 0 ≤ _)⟩)
  dsimp only [Pt.U, Pt.locs, Pt.cells, Pt.slots] at X1 l1 y1 z1 st1 hQ1
  subst l1 y1 z1
  obtain ⟨rfl, N1q, e1⟩ := hQ1
  have N1 := Fr.app N0 N1q
  refine own_tr st1 ?_
  show OwnGoes p e below _ (T1.setTop (mkF m 4 #[.val (.ref a1), .val (.long q1), .second, .val (.long q2), .second] []))
  refine own_pre (fun _ kz_ => XS.lloadN X1.here hx rfl (hb hby d1_4) rfl kz_) ?_
  show OwnGoes p e below _ (T1.setTop (mkF m 5 #[.val (.ref a1), .val (.long q1), .second, .val (.long q2), .second] [(.long q1)]))
  refine own_pre (fun _ kz_ => XS.lconst X1.here hx rfl (hb hby d1_5) kz_) ?_
  show OwnGoes p e below _ (T1.setTop (mkF m 6 #[.val (.ref a1), .val (.long q1), .second, .val (.long q2), .second] [(.long (0 : Int64)), (.long q1)]))
  refine own_pre (fun _ kz_ => XS.lcmp X1.here hx rfl (hb hby d1_6) rfl kz_) ?_
  show OwnGoes p e below _ (T1.setTop (mkF m 7 #[.val (.ref a1), .val (.long q1), .second, .val (.long q2), .second] [(.int (lcmpW q1 (0 : Int64)))]))
  refine own_pre (fun _ kz_ => XS.ifYes X1.here hx rfl (pc0 := 7) (pc' := 24) rfl (hb hby d1_7) rfl ((if0 _ _).trans (flt (fun q => (hq1 : ¬ (q1 < (0 : Int64))) ((lw_lt q1 (0 : Int64)).mp q))).2.1) (by decide) (by decide) kz_) ?_
  show OwnGoes p e below _ (T1.setTop (mkF m 24 #[.val (.ref a1), .val (.long q1), .second, .val (.long q2), .second] []))
  refine own_pre (fun _ kz_ => XS.lloadN X1.here hx rfl (hb hby d1_24) rfl kz_) ?_
  show OwnGoes p e below _ (T1.setTop (mkF m 25 #[.val (.ref a1), .val (.long q1), .second, .val (.long q2), .second] [(.long q2)]))
  refine own_pre (fun _ kz_ => XS.lconst X1.here hx rfl (hb hby d1_25) kz_) ?_
  show OwnGoes p e below _ (T1.setTop (mkF m 26 #[.val (.ref a1), .val (.long q1), .second, .val (.long q2), .second] [(.long (0 : Int64)), (.long q2)]))
  refine own_pre (fun _ kz_ => XS.lcmp X1.here hx rfl (hb hby d1_26) rfl kz_) ?_
  show OwnGoes p e below _ (T1.setTop (mkF m 27 #[.val (.ref a1), .val (.long q1), .second, .val (.long q2), .second] [(.int (lcmpW q2 (0 : Int64)))]))
  refine own_pre (fun _ kz_ => XS.ifYes X1.here hx rfl (pc0 := 27) (pc' := 44) rfl (hb hby d1_27) rfl ((if0 _ _).trans (flt (fun q => (hq2 : ¬ (q2 < (0 : Int64))) ((lw_lt q2 (0 : Int64)).mp q))).2.1) (by decide) (by decide) kz_) ?_
  show OwnGoes p e below _ (T1.setTop (mkF m 44 #[.val (.ref a1), .val (.long q1), .second, .val (.long q2), .second] []))
  refine own_pre (fun _ kz_ => XS.aloadN X1.here hx rfl (hb hby d1_44) rfl rfl kz_) ?_
  show OwnGoes p e below _ (T1.setTop (mkF m 45 #[.val (.ref a1), .val (.long q1), .second, .val (.long q2), .second] [(.ref a1)]))
  refine own_pre (fun _ kz_ => XS.lloadN X1.here hx rfl (hb hby d1_45) rfl kz_) ?_
  show OwnGoes p e below _ (T1.setTop (mkF m 46 #[.val (.ref a1), .val (.long q1), .second, .val (.long q2), .second] [(.long q1), (.ref a1)]))
  obtain ⟨T2, h2, X2, e2, W2, st2⟩ := putF X1 hx hZ hown (host := "") (Or.inl (hw _ (List.mem_of_getElem? (i := 15) rfl))) Via.refl e1 F1 E1 (Or.inr ⟨(hw _ (List.mem_of_getElem? (i := 16) rfl)), rfl, hnm⟩) (hw _ (List.mem_of_getElem? (i := 2) rfl)) (ty := .long) (by decide) rfl rfl (g := (mkF m 46 #[.val (.ref a1), .val (.long q1), .second, .val (.long q2), .second] [(.long q1), (.ref a1)])) rfl rfl (hb hby d1_46)
  have f2_3 := E1.wr W2
  have f2_1 := F2.other W2 (Or.inr (slot_ne (Or.inr (hw _ (List.mem_of_getElem? (i := 18) rfl))) (Or.inr (hw _ (List.mem_of_getElem? (i := 16) rfl))) (by decide) (t := .long) (t' := .long) (by decide) (by decide)))
  have K2 := ((Keep.refl h0 [a1])).wr W2 (Or.inl (List.mem_of_getElem? (i := 0) rfl))
  have Z2 := Nat.le_trans Z0 (Keep.of_wr W2).1
  have Fw2 := F1.same W2
  have N2 := Fr.snoc X2 N1 g_a1
  refine own_pre st2 ?_
  show OwnGoes p e below _ (T2.setTop (mkF m 49 #[.val (.ref a1), .val (.long q1), .second, .val (.long q2), .second] []))
  refine own_pre (fun _ kz_ => XS.aloadN X2.here hx rfl (hb hby d1_49) rfl rfl kz_) ?_
  show OwnGoes p e below _ (T2.setTop (mkF m 50 #[.val (.ref a1), .val (.long q1), .second, .val (.long q2), .second] [(.ref a1)]))
  refine own_pre (fun _ kz_ => XS.lloadN X2.here hx rfl (hb hby d1_50) rfl kz_) ?_
  show OwnGoes p e below _ (T2.setTop (mkF m 51 #[.val (.ref a1), .val (.long q1), .second, .val (.long q2), .second] [(.long q2), (.ref a1)]))
  obtain ⟨T3, h3, X3, e3, W3, st3⟩ := putF X2 hx hZ hown (host := "") (Or.inl (hw _ (List.mem_of_getElem? (i := 17) rfl))) Via.refl e2 f2_1 f2_3 (Or.inr ⟨(hw _ (List.mem_of_getElem? (i := 18) rfl)), rfl, hnm⟩) (hw _ (List.mem_of_getElem? (i := 2) rfl)) (ty := .long) (by decide) rfl rfl (g := (mkF m 51 #[.val (.ref a1), .val (.long q1), .second, .val (.long q2), .second] [(.long q2), (.ref a1)])) rfl rfl (hb hby d1_51)
  have f3_3 := f2_3.wr W3
  have f3_2 := Fw2.other W3 (Or.inr (slot_ne (Or.inr (hw _ (List.mem_of_getElem? (i := 16) rfl))) (Or.inr (hw _ (List.mem_of_getElem? (i := 18) rfl))) (by decide) (t := .long) (t' := .long) (by decide) (by decide)))
  have K3 := (K2).wr W3 (Or.inl (List.mem_of_getElem? (i := 0) rfl))
  have Z3 := Nat.le_trans Z2 (Keep.of_wr W3).1
  have Fw3 := f2_1.same W3
  have N3 := Fr.snoc X3 N2 g_a1
  refine own_pre st3 ?_
  show OwnGoes p e below _ (T3.setTop (mkF m 54 #[.val (.ref a1), .val (.long q1), .second, .val (.long q2), .second] []))
  exact own_retV X3 hx Bd.returns Bd.notSynchronized (hb hby d1_54) ⟨rfl, N3, by rw [e3]; exact K3, by rw [e3]; exact f3_3, by rw [e3]; exact Fw3⟩ (by decide) (by decide)
def Q4 (Z : State) (h0 : Heap) (n0 : Nat) (v : Option Value) (h : Heap) (L : List Loc) : Prop := ∃ b : Addr, v = some (.ref b) ∧ Fr n0 L ∧ Keep h0 h [] ∧ Exa Z h b "com/example/hyperloom/hyperloom/search/Budget" ∧ Fld Z h b "com/example/hyperloom/hyperloom/search/Budget" "nanos" "J" (.long (9223372036854775807 : Int64)) ∧ h0.size ≤ b
set_option maxRecDepth 65536 in
set_option maxHeartbeats 40000000 in
theorem rm4 (l : Launch) (Z : State) (a0 : Array Value) (hw : ∀ d ∈ tables_1, d.before a0 Z = true) (ws : List Jvm.Cond) (q1 : Int64) (h0 : Heap) (n0 : Nat) (Z0 : n0 ≤ h0.size) (hq1 : ¬ q1 < (0 : Int64)) :
    MetFree l (⟨"com/example/hyperloom/hyperloom/search/Budget", "ofCalls", "(J)Lcom/example/hyperloom/hyperloom/search/Budget;"⟩ : MethodName) (head1 (Jvm.Cond.code (⟨"com/example/hyperloom/hyperloom/search/Budget", "ofCalls", "(J)Lcom/example/hyperloom/hyperloom/search/Budget;"⟩ : MethodName) prog_67_method_2_code 2 (some (.object "com/example/hyperloom/hyperloom/search/Budget")) :: ws) ({ frames := 3, cells := 1, slots := 2, locals := 41 } : Room)) (fun a U => a = #[(.long q1)] ∧ Z.Warmed39 U.vm ∧ U.heap = h0) (fun _ _ _ _ _ => True) (fun _ U o U' => ∃ v L, o = .returned v ∧ Q4 Z h0 n0 v U'.heap L ∧ FrameEnd U o U' L ({ frames := 3, cells := 1, slots := 2, locals := 41 } : Room).cells ({ frames := 3, cells := 1, slots := 2, locals := 41 } : Room).slots) := by
  refine MetFree.of_bodySF (plainFor_of_name (by first | (simp [plainName, overriddenIn]; done) | decide +kernel)) hisR ?_
  intro p e s m args below meth c s₁ Bd hml0 hP hK
  obtain ⟨rfl, hZ, hh⟩ := hP
  have hx := Bd.exec
  have hby := Bd.bytes
  have hml : c.maxLocals = 2 := hml0
  have hown : s.vm.findClass "com/example/hyperloom/hyperloom/search/Budget" = some m.cls := findClass_of_methodNamed Bd.named
  have hnm := (name_of_methodNamed Bd.named Bd.method).1
  have X0 : Stand p l e ({ frames := 3, cells := 1, slots := 2, locals := 41 } : Room) s m #[(.long q1)] below meth c s₁ [] 0 0 := Stand.of_body Bd
  have e0 : s₁.heap = h0 := by rw [← hh, Bd.state]; rfl
  have N0 := Fr.nil n0
  have ef : entryFrame m #[(.long q1)] 2 = (mkF m 0 #[.val (.long q1), .second] []) := by first | (simp [entryFrame, mkF, argsToLocals, Value.category]; done) | rfl
  show OwnGoes p e below (fun o U' => ∃ v L, o = .returned v ∧ Q4 Z h0 n0 v U'.heap L ∧ FrameEnd s o U' L ({ frames := 3, cells := 1, slots := 2, locals := 41 } : Room).cells ({ frames := 3, cells := 1, slots := 2, locals := 41 } : Room).slots) (s₁.setTop (entryFrame m #[(.long q1)] 2))
  refine own_pre (fun t k => castTop ef k) ?_
  show OwnGoes p e below _ (s₁.setTop (mkF m 0 #[.val (.long q1), .second] []))
  obtain ⟨T1, h1, X1, e1, E1, A1, D1, -, st1⟩ := newO X0 hx hZ hown (hw _ (List.mem_of_getElem? (i := 22) rfl)) (hw _ (List.mem_of_getElem? (i := 2) rfl)) (hw _ (List.mem_of_getElem? (i := 3) rfl)) e0 (g := (mkF m 0 #[.val (.long q1), .second] [])) rfl (hb hby d4_0) (by decide) (by decide)
  obtain ⟨b, g1⟩ : ∃ z, z = h0.size := ⟨_, rfl⟩
  rw [← g1] at A1 D1 st1
  have g_b : n0 ≤ b := Nat.le_trans Z0 (Nat.le_of_eq g1.symm)
  have sz_b : h0.size ≤ b := Nat.le_trans ((Keep.refl h0 [])).1 (Nat.le_of_eq g1.symm)
  have K1 := ((Keep.refl h0 [])).ext E1
  have Z1 := Nat.le_trans Z0 E1.1
  have F1_calls : Fld Z h1 b "com/example/hyperloom/hyperloom/search/Budget" "calls" "J" (.long (0 : Int64)) := D1 (Or.inr (hw _ (List.mem_of_getElem? (i := 16) rfl))) (ty := .long) (by decide)
  have F1_nanos : Fld Z h1 b "com/example/hyperloom/hyperloom/search/Budget" "nanos" "J" (.long (0 : Int64)) := D1 (Or.inr (hw _ (List.mem_of_getElem? (i := 18) rfl))) (ty := .long) (by decide)
  refine own_pre st1 ?_
  show OwnGoes p e below _ (T1.setTop (mkF m 3 #[.val (.long q1), .second] [(.ref b)]))
  refine own_pre (fun _ kz_ => XS.dup X1.here hx rfl (hb hby d4_3) rfl rfl kz_) ?_
  show OwnGoes p e below _ (T1.setTop (mkF m 4 #[.val (.long q1), .second] [(.ref b), (.ref b)]))
  refine own_pre (fun _ kz_ => XS.lloadN X1.here hx rfl (hb hby d4_4) rfl kz_) ?_
  show OwnGoes p e below _ (T1.setTop (mkF m 5 #[.val (.long q1), .second] [(.long q1), (.ref b), (.ref b)]))
  refine own_pre (fun _ kz_ => X1.ldc2Long hx hown (mvT hZ (hw _ (List.mem_of_getElem? (i := 23) rfl))) (g := (mkF m 5 #[.val (.long q1), .second] [(.long q1), (.ref b), (.ref b)])) rfl (hb hby d4_5) _ kz_) ?_
  show OwnGoes p e below _ (T1.setTop (mkF m 8 #[.val (.long q1), .second] [(.long (9223372036854775807 : Int64)), (.long q1), (.ref b), (.ref b)]))
  obtain ⟨_, _, ⟨T2, L2, k2, n2⟩, -, X2, ⟨Lc2, hQ2, l2, y2, z2⟩, st2⟩ := X1.specialBack hx (y := (⟨"com/example/hyperloom/hyperloom/search/Budget", "<init>", "(JJ)V"⟩ : MethodName)) rfl hown (mvT hZ (hw _ (List.mem_of_getElem? (i := 24) rfl))) (mvT hZ (hw _ (List.mem_of_getElem? (i := 5) rfl))) (mvT hZ (hw _ (List.mem_of_getElem? (i := 6) rfl))) (by decide) (backOf (W := 1) (rm1 l Z a0 hw [] b q1 (9223372036854775807 : Int64) h1 n0 Z1 A1 F1_calls F1_nanos g_b (hq1) (by decide)) hZ (hw _ (List.mem_of_getElem? (i := 6) rfl)) (hw _ (List.mem_of_getElem? (i := 3) rfl)) (by decide) (by decide)) (g := (mkF m 8 #[.val (.long q1), .second] [(.long (9223372036854775807 : Int64)), (.long q1), (.ref b), (.ref b)])) rfl (by rw [hml]; rfl) (Steps.refl _) (a := b) (argsL := [(.long q1), (.long (9223372036854775807 : Int64))]) (rest := [(.ref b)]) (lenOf (d := "(JJ)V") (ps := [.long, .long]) (r := none) (by decide +kernel) rfl) rfl (by show 2 * 0 + _ ≤ _; exact Nat.le_of_eq rfl) (hb hby d4_8) (fun _ _ => ⟨rfl, e1, (by decide : 1 + 0 ≤ _), (by decide : 2 + 0 ≤ _)⟩)
  dsimp only [Pt.U, Pt.locs, Pt.cells, Pt.slots] at X2 l2 y2 z2 st2 hQ2
  subst l2 y2 z2
  obtain ⟨rfl, N2q, K2q, E2q, F2q⟩ := hQ2
  have N2 := Fr.app N0 N2q
  refine own_tr st2 ?_
  have f2_3 := A1.keep K2q
  have Z2 := Nat.le_trans Z1 K2q.1
  have KK2 := (K1).trans K2q (fun x hx => by simp only [List.mem_cons, List.not_mem_nil, or_false] at hx; rcases hx with rfl <;> first | exact Or.inl (List.mem_of_getElem? (i := 0) rfl) | exact Or.inl (List.mem_of_getElem? (i := 1) rfl) | exact Or.inr sz_b )
  show OwnGoes p e below _ (T2.setTop (mkF m 11 #[.val (.long q1), .second] [(.ref b)]))
  exact own_ret X2 hx Bd.returns (rfl) (Or.inr (Or.inr (Or.inr (Or.inr ⟨rfl, rfl, rfl⟩)))) Bd.notSynchronized (hb hby d4_11) ⟨b, rfl, N2, KK2, E2q, F2q, sz_b⟩ (by decide) (by decide)
def Q5 (r : Int32) (h0 : Heap) (n0 : Nat) (v : Option Value) (h : Heap) (L : List Loc) : Prop := v = some (.int r) ∧ Fr n0 L ∧ h = h0
def Q0  (h0 : Heap) (n0 : Nat) (v : Option Value) (h : Heap) (L : List Loc) : Prop := v = some (.int (1 : Int32)) ∧ Fr n0 L
set_option maxRecDepth 65536 in
set_option maxHeartbeats 40000000 in
theorem rm5 (l : Launch) (Z : State) (a0 : Array Value) (hw : ∀ d ∈ tables_1, d.before a0 Z = true) (ws : List Jvm.Cond) (a1 : Addr) (q1 : Int64) (r : Int32) (h0 : Heap) (n0 : Nat) (Z0 : n0 ≤ h0.size) (F2 : Fld Z h0 a1 "com/example/hyperloom/hyperloom/search/Budget" "nanos" "J" (.long q1)) (hr : r = if q1 = (9223372036854775807 : Int64) then (0 : Int32) else (1 : Int32)) :
    MetFree l (⟨"com/example/hyperloom/hyperloom/search/Budget", "hasTimeLimit", "()Z"⟩ : MethodName) (head1 (Jvm.Cond.code (⟨"com/example/hyperloom/hyperloom/search/Budget", "hasTimeLimit", "()Z"⟩ : MethodName) prog_67_method_3_code 1 (some .boolean) :: ws) ({ frames := 0, cells := 0, slots := 0, locals := 0 } : Room)) (fun a U => a = #[(.ref a1)] ∧ Z.Warmed39 U.vm ∧ U.heap = h0) (fun _ _ _ _ _ => True) (fun _ U o U' => ∃ v L, o = .returned v ∧ Q5 r h0 n0 v U'.heap L ∧ FrameEnd U o U' L ({ frames := 0, cells := 0, slots := 0, locals := 0 } : Room).cells ({ frames := 0, cells := 0, slots := 0, locals := 0 } : Room).slots) := by
  refine MetFree.of_bodySF (plainFor_of_name (by first | (simp [plainName, overriddenIn]; done) | decide +kernel)) hisR ?_
  intro p e s m args below meth c s₁ Bd hml0 hP hK
  obtain ⟨rfl, hZ, hh⟩ := hP
  have hx := Bd.exec
  have hby := Bd.bytes
  have hml : c.maxLocals = 1 := hml0
  have hown : s.vm.findClass "com/example/hyperloom/hyperloom/search/Budget" = some m.cls := findClass_of_methodNamed Bd.named
  have hnm := (name_of_methodNamed Bd.named Bd.method).1
  have X0 : Stand p l e ({ frames := 0, cells := 0, slots := 0, locals := 0 } : Room) s m #[(.ref a1)] below meth c s₁ [] 0 0 := Stand.of_body Bd
  have e0 : s₁.heap = h0 := by rw [← hh, Bd.state]; rfl
  have N0 := Fr.nil n0
  have ef : entryFrame m #[(.ref a1)] 1 = (mkF m 0 #[.val (.ref a1)] []) := by first | (simp [entryFrame, mkF, argsToLocals, Value.category]; done) | rfl
  show OwnGoes p e below (fun o U' => ∃ v L, o = .returned v ∧ Q5 r h0 n0 v U'.heap L ∧ FrameEnd s o U' L ({ frames := 0, cells := 0, slots := 0, locals := 0 } : Room).cells ({ frames := 0, cells := 0, slots := 0, locals := 0 } : Room).slots) (s₁.setTop (entryFrame m #[(.ref a1)] 1))
  refine own_pre (fun t k => castTop ef k) ?_
  show OwnGoes p e below _ (s₁.setTop (mkF m 0 #[.val (.ref a1)] []))
  refine own_pre (fun _ kz_ => XS.aloadN X0.here hx rfl (hb hby d5_0) rfl rfl kz_) ?_
  show OwnGoes p e below _ (s₁.setTop (mkF m 1 #[.val (.ref a1)] [(.ref a1)]))
  obtain ⟨T1, X1, e1, st1⟩ := getF X0 hx hZ hown (host := "") (Or.inl (hw _ (List.mem_of_getElem? (i := 17) rfl))) Via.refl e0 F2 (g := (mkF m 1 #[.val (.ref a1)] [(.ref a1)])) rfl rfl (hb hby d5_1)
  refine own_pre st1 ?_
  show OwnGoes p e below _ (T1.setTop (mkF m 4 #[.val (.ref a1)] [(.long q1)]))
  refine own_pre (fun _ kz_ => X1.ldc2Long hx hown (mvT hZ (hw _ (List.mem_of_getElem? (i := 23) rfl))) (g := (mkF m 4 #[.val (.ref a1)] [(.long q1)])) rfl (hb hby d5_4) _ kz_) ?_
  show OwnGoes p e below _ (T1.setTop (mkF m 7 #[.val (.ref a1)] [(.long (9223372036854775807 : Int64)), (.long q1)]))
  refine own_pre (fun _ kz_ => XS.lcmp X1.here hx rfl (hb hby d5_7) rfl kz_) ?_
  show OwnGoes p e below _ (T1.setTop (mkF m 8 #[.val (.ref a1)] [(.int (lcmpW q1 (9223372036854775807 : Int64)))]))
  by_cases h8 : q1 = (9223372036854775807 : Int64)
  · refine own_pre (fun _ kz_ => XS.ifYes X1.here hx rfl (pc0 := 8) (pc' := 15) rfl (hb hby d5_8) rfl ((if0 _ _).trans (teq ((lw_eq q1 (9223372036854775807 : Int64)).mpr h8)).1) (by decide) (by decide) kz_) ?_
    show OwnGoes p e below _ (T1.setTop (mkF m 15 #[.val (.ref a1)] []))
    refine own_pre (fun _ kz_ => XS.iconst X1.here hx rfl (hb hby d5_15) kz_) ?_
    show OwnGoes p e below _ (T1.setTop (mkF m 16 #[.val (.ref a1)] [(.int (0 : Int32))]))
    exact own_ret X1 hx Bd.returns (rfl) (Or.inl ⟨rfl, by simp, _, rfl⟩) Bd.notSynchronized (hb hby d5_16) ⟨by rw [hr, if_pos h8], N0, e1⟩ (by decide) (by decide)
  · refine own_pre (fun _ kz_ => XS.ifNo X1.here hx rfl (hb hby d5_8) rfl ((if0 _ _).trans (feq (fun q => h8 ((lw_eq q1 (9223372036854775807 : Int64)).mp q))).1) kz_) ?_
    show OwnGoes p e below _ (T1.setTop (mkF m 11 #[.val (.ref a1)] []))
    refine own_pre (fun _ kz_ => XS.iconst X1.here hx rfl (hb hby d5_11) kz_) ?_
    show OwnGoes p e below _ (T1.setTop (mkF m 12 #[.val (.ref a1)] [(.int (1 : Int32))]))
    refine own_pre (fun _ kz_ => XS.goto X1.here hx rfl (pc0 := 12) (pc' := 16) rfl (hb hby d5_12) (by decide) (by decide) kz_) ?_
    show OwnGoes p e below _ (T1.setTop (mkF m 16 #[.val (.ref a1)] [(.int (1 : Int32))]))
    exact own_ret X1 hx Bd.returns (rfl) (Or.inl ⟨rfl, by simp, _, rfl⟩) Bd.notSynchronized (hb hby d5_16) ⟨by rw [hr, if_neg h8], N0, e1⟩ (by decide) (by decide)
set_option maxRecDepth 65536 in
set_option maxHeartbeats 40000000 in
theorem rm0 (l : Launch) (Z : State) (a0 : Array Value) (hw : ∀ d ∈ tables_1, d.before a0 Z = true) (ws : List Jvm.Cond) (q1 q2 : Int64) (p3 : Int32) (h0 : Heap) (n0 : Nat) (Z0 : n0 ≤ h0.size) :
    MetFree l x (head1 (Jvm.Cond.code x code maxLocals ret :: ws) room_1) (fun a U => a = #[(.long q1), (.long q2), (.int p3)] ∧ Z.Warmed39 U.vm ∧ U.heap = h0) (fun _ _ _ _ _ => True) (fun _ U o U' => ∃ v L, o = .returned v ∧ Q0 h0 n0 v U'.heap L ∧ FrameEnd U o U' L room_1.cells room_1.slots) := by
  refine MetFree.of_bodySF (plainFor_of_name (by first | (simp [plainName, overriddenIn]; done) | decide +kernel)) hisR ?_
  intro p e s m args below meth c s₁ Bd hml0 hP hK
  obtain ⟨rfl, hZ, hh⟩ := hP
  have hx := Bd.exec
  have hby := Bd.bytes
  have hml : c.maxLocals = 13 := hml0
  have hown : s.vm.findClass "com/example/hyperloom/hyperloom/search/BudgetHasTimeLimitPinLaw" = some m.cls := findClass_of_methodNamed Bd.named
  have hnm := (name_of_methodNamed Bd.named Bd.method).1
  have X0 : Stand p l e room_1 s m #[(.long q1), (.long q2), (.int p3)] below meth c s₁ [] 0 0 := Stand.of_body Bd
  have e0 : s₁.heap = h0 := by rw [← hh, Bd.state]; rfl
  have N0 := Fr.nil n0
  have ef : entryFrame m #[(.long q1), (.long q2), (.int p3)] maxLocals = (mkF m 0 #[.val (.long q1), .second, .val (.long q2), .second, .val (.int p3), .unset, .unset, .unset, .unset, .unset, .unset, .unset, .unset] []) := by first | (simp [entryFrame, mkF, argsToLocals, Value.category, maxLocals]; done) | rfl
  show OwnGoes p e below (fun o U' => ∃ v L, o = .returned v ∧ Q0 h0 n0 v U'.heap L ∧ FrameEnd s o U' L room_1.cells room_1.slots) (s₁.setTop (entryFrame m #[(.long q1), (.long q2), (.int p3)] maxLocals))
  refine own_pre (fun t k => castTop ef k) ?_
  have J57 : ∀ n : Int64, ¬ n < (0 : Int64) → OwnGoes p e below (fun o U' => ∃ v L, o = .returned v ∧ Q0 h0 n0 v U'.heap L ∧ FrameEnd s o U' L room_1.cells room_1.slots) (s₁.setTop (mkF m 57 #[.val (.long q1), .second, .val (.long q2), .second, .val (.int p3), .val (.long (q1 &&& (9223372036854775807 : Int64))), .second, .val (.long n), .second, .val (.int (p3 &&& (3 : Int32))), .unset, .unset, .unset] [])) := by
    intro n hn
    show OwnGoes p e below _ (s₁.setTop (mkF m 57 #[.val (.long q1), .second, .val (.long q2), .second, .val (.int p3), .val (.long (q1 &&& (9223372036854775807 : Int64))), .second, .val (.long n), .second, .val (.int (p3 &&& (3 : Int32))), .unset, .unset, .unset] []))
    obtain ⟨T1, h1, X1, e1, E1, A1, D1, -, st1⟩ := newO X0 hx hZ hown (hw _ (List.mem_of_getElem? (i := 1) rfl)) (hw _ (List.mem_of_getElem? (i := 2) rfl)) (hw _ (List.mem_of_getElem? (i := 3) rfl)) e0 (g := (mkF m 57 #[.val (.long q1), .second, .val (.long q2), .second, .val (.int p3), .val (.long (q1 &&& (9223372036854775807 : Int64))), .second, .val (.long n), .second, .val (.int (p3 &&& (3 : Int32))), .unset, .unset, .unset] [])) rfl (hb hby at_57) (by decide) (by decide)
    obtain ⟨b, g1⟩ : ∃ z, z = h0.size := ⟨_, rfl⟩
    rw [← g1] at A1 D1 st1
    have g_b : n0 ≤ b := Nat.le_trans Z0 (Nat.le_of_eq g1.symm)
    have sz_b : h0.size ≤ b := Nat.le_trans ((Keep.refl h0 [])).1 (Nat.le_of_eq g1.symm)
    have K1 := ((Keep.refl h0 [])).ext E1
    have Z1 := Nat.le_trans Z0 E1.1
    have F1_calls : Fld Z h1 b "com/example/hyperloom/hyperloom/search/Budget" "calls" "J" (.long (0 : Int64)) := D1 (Or.inr (hw _ (List.mem_of_getElem? (i := 16) rfl))) (ty := .long) (by decide)
    have F1_nanos : Fld Z h1 b "com/example/hyperloom/hyperloom/search/Budget" "nanos" "J" (.long (0 : Int64)) := D1 (Or.inr (hw _ (List.mem_of_getElem? (i := 18) rfl))) (ty := .long) (by decide)
    refine own_pre st1 ?_
    show OwnGoes p e below _ (T1.setTop (mkF m 60 #[.val (.long q1), .second, .val (.long q2), .second, .val (.int p3), .val (.long (q1 &&& (9223372036854775807 : Int64))), .second, .val (.long n), .second, .val (.int (p3 &&& (3 : Int32))), .unset, .unset, .unset] [(.ref b)]))
    refine own_pre (fun _ kz_ => XS.dup X1.here hx rfl (hb hby at_60) rfl rfl kz_) ?_
    show OwnGoes p e below _ (T1.setTop (mkF m 61 #[.val (.long q1), .second, .val (.long q2), .second, .val (.int p3), .val (.long (q1 &&& (9223372036854775807 : Int64))), .second, .val (.long n), .second, .val (.int (p3 &&& (3 : Int32))), .unset, .unset, .unset] [(.ref b), (.ref b)]))
    refine own_pre (fun _ kz_ => XS.lload X1.here hx rfl (hb hby at_61) rfl kz_) ?_
    show OwnGoes p e below _ (T1.setTop (mkF m 63 #[.val (.long q1), .second, .val (.long q2), .second, .val (.int p3), .val (.long (q1 &&& (9223372036854775807 : Int64))), .second, .val (.long n), .second, .val (.int (p3 &&& (3 : Int32))), .unset, .unset, .unset] [(.long (q1 &&& (9223372036854775807 : Int64))), (.ref b), (.ref b)]))
    refine own_pre (fun _ kz_ => XS.lload X1.here hx rfl (hb hby at_63) rfl kz_) ?_
    show OwnGoes p e below _ (T1.setTop (mkF m 65 #[.val (.long q1), .second, .val (.long q2), .second, .val (.int p3), .val (.long (q1 &&& (9223372036854775807 : Int64))), .second, .val (.long n), .second, .val (.int (p3 &&& (3 : Int32))), .unset, .unset, .unset] [(.long n), (.long (q1 &&& (9223372036854775807 : Int64))), (.ref b), (.ref b)]))
    obtain ⟨_, _, ⟨T2, L2, k2, n2⟩, -, X2, ⟨Lc2, hQ2, l2, y2, z2⟩, st2⟩ := X1.specialBack hx (y := (⟨"com/example/hyperloom/hyperloom/search/Budget", "<init>", "(JJ)V"⟩ : MethodName)) rfl hown (mvT hZ (hw _ (List.mem_of_getElem? (i := 4) rfl))) (mvT hZ (hw _ (List.mem_of_getElem? (i := 5) rfl))) (mvT hZ (hw _ (List.mem_of_getElem? (i := 6) rfl))) (by decide) (backOf (W := 1) (rm1 l Z a0 hw [] b (q1 &&& (9223372036854775807 : Int64)) n h1 n0 Z1 A1 F1_calls F1_nanos g_b (own_nn q1) (hn)) hZ (hw _ (List.mem_of_getElem? (i := 6) rfl)) (hw _ (List.mem_of_getElem? (i := 3) rfl)) (by decide) (by decide)) (g := (mkF m 65 #[.val (.long q1), .second, .val (.long q2), .second, .val (.int p3), .val (.long (q1 &&& (9223372036854775807 : Int64))), .second, .val (.long n), .second, .val (.int (p3 &&& (3 : Int32))), .unset, .unset, .unset] [(.long n), (.long (q1 &&& (9223372036854775807 : Int64))), (.ref b), (.ref b)])) rfl (by rw [hml]; rfl) (Steps.refl _) (a := b) (argsL := [(.long (q1 &&& (9223372036854775807 : Int64))), (.long n)]) (rest := [(.ref b)]) (lenOf (d := "(JJ)V") (ps := [.long, .long]) (r := none) (by decide +kernel) rfl) rfl (by show 2 * 0 + _ ≤ _; exact Nat.le_of_eq rfl) (hb hby at_65) (fun _ _ => ⟨rfl, e1, (by decide : 1 + 0 ≤ _), (by decide : 2 + 0 ≤ _)⟩)
    dsimp only [Pt.U, Pt.locs, Pt.cells, Pt.slots] at X2 l2 y2 z2 st2 hQ2
    subst l2 y2 z2
    obtain ⟨rfl, N2q, K2q, E2q, F2q⟩ := hQ2
    have N2 := Fr.app N0 N2q
    refine own_tr st2 ?_
    have f2_3 := A1.keep K2q
    have Z2 := Nat.le_trans Z1 K2q.1
    have KK2 := (K1).trans K2q (fun x hx => by simp only [List.mem_cons, List.not_mem_nil, or_false] at hx; rcases hx with rfl <;> first | exact Or.inl (List.mem_of_getElem? (i := 0) rfl) | exact Or.inl (List.mem_of_getElem? (i := 1) rfl) | exact Or.inr sz_b )
    show OwnGoes p e below _ (T2.setTop (mkF m 68 #[.val (.long q1), .second, .val (.long q2), .second, .val (.int p3), .val (.long (q1 &&& (9223372036854775807 : Int64))), .second, .val (.long n), .second, .val (.int (p3 &&& (3 : Int32))), .unset, .unset, .unset] [(.ref b)]))
    refine own_pre (fun _ kz_ => XS.astore X2.here hx rfl (hb hby at_68) rfl rfl (l' := #[.val (.long q1), .second, .val (.long q2), .second, .val (.int p3), .val (.long (q1 &&& (9223372036854775807 : Int64))), .second, .val (.long n), .second, .val (.int (p3 &&& (3 : Int32))), .val (.ref b), .unset, .unset]) rfl kz_) ?_
    show OwnGoes p e below _ (T2.setTop (mkF m 70 #[.val (.long q1), .second, .val (.long q2), .second, .val (.int p3), .val (.long (q1 &&& (9223372036854775807 : Int64))), .second, .val (.long n), .second, .val (.int (p3 &&& (3 : Int32))), .val (.ref b), .unset, .unset] []))
    refine own_pre (fun _ kz_ => XS.lload X2.here hx rfl (hb hby at_70) rfl kz_) ?_
    show OwnGoes p e below _ (T2.setTop (mkF m 72 #[.val (.long q1), .second, .val (.long q2), .second, .val (.int p3), .val (.long (q1 &&& (9223372036854775807 : Int64))), .second, .val (.long n), .second, .val (.int (p3 &&& (3 : Int32))), .val (.ref b), .unset, .unset] [(.long n)]))
    refine own_pre (fun _ kz_ => X2.ldc2Long hx hown (mvT hZ (hw _ (List.mem_of_getElem? (i := 0) rfl))) (g := (mkF m 72 #[.val (.long q1), .second, .val (.long q2), .second, .val (.int p3), .val (.long (q1 &&& (9223372036854775807 : Int64))), .second, .val (.long n), .second, .val (.int (p3 &&& (3 : Int32))), .val (.ref b), .unset, .unset] [(.long n)])) rfl (hb hby at_72) _ kz_) ?_
    show OwnGoes p e below _ (T2.setTop (mkF m 75 #[.val (.long q1), .second, .val (.long q2), .second, .val (.int p3), .val (.long (q1 &&& (9223372036854775807 : Int64))), .second, .val (.long n), .second, .val (.int (p3 &&& (3 : Int32))), .val (.ref b), .unset, .unset] [(.long (9223372036854775807 : Int64)), (.long n)]))
    refine own_pre (fun _ kz_ => XS.lcmp X2.here hx rfl (hb hby at_75) rfl kz_) ?_
    show OwnGoes p e below _ (T2.setTop (mkF m 76 #[.val (.long q1), .second, .val (.long q2), .second, .val (.int p3), .val (.long (q1 &&& (9223372036854775807 : Int64))), .second, .val (.long n), .second, .val (.int (p3 &&& (3 : Int32))), .val (.ref b), .unset, .unset] [(.int (lcmpW n (9223372036854775807 : Int64)))]))
    by_cases h76 : n < (9223372036854775807 : Int64)
    · refine own_pre (fun _ kz_ => XS.ifNo X2.here hx rfl (hb hby at_76) rfl ((if0 _ _).trans (tlt ((lw_lt n (9223372036854775807 : Int64)).mpr h76)).2.1) kz_) ?_
      show OwnGoes p e below _ (T2.setTop (mkF m 79 #[.val (.long q1), .second, .val (.long q2), .second, .val (.int p3), .val (.long (q1 &&& (9223372036854775807 : Int64))), .second, .val (.long n), .second, .val (.int (p3 &&& (3 : Int32))), .val (.ref b), .unset, .unset] []))
      refine own_pre (fun _ kz_ => XS.iconst X2.here hx rfl (hb hby at_79) kz_) ?_
      show OwnGoes p e below _ (T2.setTop (mkF m 80 #[.val (.long q1), .second, .val (.long q2), .second, .val (.int p3), .val (.long (q1 &&& (9223372036854775807 : Int64))), .second, .val (.long n), .second, .val (.int (p3 &&& (3 : Int32))), .val (.ref b), .unset, .unset] [(.int (1 : Int32))]))
      refine own_pre (fun _ kz_ => XS.goto X2.here hx rfl (pc0 := 80) (pc' := 84) rfl (hb hby at_80) (by decide) (by decide) kz_) ?_
      show OwnGoes p e below _ (T2.setTop (mkF m 84 #[.val (.long q1), .second, .val (.long q2), .second, .val (.int p3), .val (.long (q1 &&& (9223372036854775807 : Int64))), .second, .val (.long n), .second, .val (.int (p3 &&& (3 : Int32))), .val (.ref b), .unset, .unset] [(.int (1 : Int32))]))
      refine own_pre (fun _ kz_ => XS.istore X2.here hx rfl (hb hby at_84) rfl (l' := #[.val (.long q1), .second, .val (.long q2), .second, .val (.int p3), .val (.long (q1 &&& (9223372036854775807 : Int64))), .second, .val (.long n), .second, .val (.int (p3 &&& (3 : Int32))), .val (.ref b), .val (.int (1 : Int32)), .unset]) rfl kz_) ?_
      show OwnGoes p e below _ (T2.setTop (mkF m 86 #[.val (.long q1), .second, .val (.long q2), .second, .val (.int p3), .val (.long (q1 &&& (9223372036854775807 : Int64))), .second, .val (.long n), .second, .val (.int (p3 &&& (3 : Int32))), .val (.ref b), .val (.int (1 : Int32)), .unset] []))
      refine own_pre (fun _ kz_ => XS.lload X2.here hx rfl (hb hby at_86) rfl kz_) ?_
      show OwnGoes p e below _ (T2.setTop (mkF m 88 #[.val (.long q1), .second, .val (.long q2), .second, .val (.int p3), .val (.long (q1 &&& (9223372036854775807 : Int64))), .second, .val (.long n), .second, .val (.int (p3 &&& (3 : Int32))), .val (.ref b), .val (.int (1 : Int32)), .unset] [(.long (q1 &&& (9223372036854775807 : Int64)))]))
      obtain ⟨_, _, ⟨T3, L3, k3, n3⟩, -, X3, ⟨Lc3, hQ3, l3, y3, z3⟩, st3⟩ := Jvm.LawKit.callS X2 hx (y := (⟨"com/example/hyperloom/hyperloom/search/Budget", "ofCalls", "(J)Lcom/example/hyperloom/hyperloom/search/Budget;"⟩ : MethodName)) hown (mvT hZ (hw _ (List.mem_of_getElem? (i := 19) rfl))) (mvT hZ (hw _ (List.mem_of_getElem? (i := 20) rfl))) (mvT hZ (hw _ (List.mem_of_getElem? (i := 3) rfl))) (mvT hZ (hw _ (List.mem_of_getElem? (i := 21) rfl))) (by decide) (backOf (W := 0) (rm4 l Z a0 hw [] (q1 &&& (9223372036854775807 : Int64)) T2.heap n0 Z2 (own_nn q1)) hZ (hw _ (List.mem_of_getElem? (i := 21) rfl)) (hw _ (List.mem_of_getElem? (i := 3) rfl)) (by decide) (by decide)) (g := (mkF m 88 #[.val (.long q1), .second, .val (.long q2), .second, .val (.int p3), .val (.long (q1 &&& (9223372036854775807 : Int64))), .second, .val (.long n), .second, .val (.int (p3 &&& (3 : Int32))), .val (.ref b), .val (.int (1 : Int32)), .unset] [(.long (q1 &&& (9223372036854775807 : Int64)))])) rfl (by rw [hml]; rfl) (argsL := [(.long (q1 &&& (9223372036854775807 : Int64)))]) (rest := []) (lenOf (d := "(J)Lcom/example/hyperloom/hyperloom/search/Budget;") (ps := [.long]) (r := some (.object "com/example/hyperloom/hyperloom/search/Budget")) (by decide +kernel) rfl) rfl (by show 2 * 0 + _ ≤ _; exact Nat.le_of_eq rfl) (hb hby at_88) (fun _ _ => ⟨rfl, rfl, (by decide : 1 + 1 ≤ _), (by decide : 2 + 2 ≤ _)⟩)
      dsimp only [Pt.U, Pt.locs, Pt.cells, Pt.slots] at X3 l3 y3 z3 st3 hQ3
      subst l3 y3 z3
      obtain ⟨u, rfl, N3q, K3q, E3q, F3q, -⟩ := hQ3
      have N3 := Fr.app N2 N3q
      refine own_pre st3 ?_
      have f3_2 := E2q.keep K3q
      have f3_1 := F2q.keep K3q (List.not_mem_nil)
      have Z3 := Nat.le_trans Z2 K3q.1
      have KK3 := (KK2).trans K3q (fun x hx => by cases hx)
      show OwnGoes p e below _ (T3.setTop (mkF m 91 #[.val (.long q1), .second, .val (.long q2), .second, .val (.int p3), .val (.long (q1 &&& (9223372036854775807 : Int64))), .second, .val (.long n), .second, .val (.int (p3 &&& (3 : Int32))), .val (.ref b), .val (.int (1 : Int32)), .unset] [(.ref u)]))
      refine own_pre (fun _ kz_ => XS.astore X3.here hx rfl (hb hby at_91) rfl rfl (l' := #[.val (.long q1), .second, .val (.long q2), .second, .val (.int p3), .val (.long (q1 &&& (9223372036854775807 : Int64))), .second, .val (.long n), .second, .val (.int (p3 &&& (3 : Int32))), .val (.ref b), .val (.int (1 : Int32)), .val (.ref u)]) rfl kz_) ?_
      show OwnGoes p e below _ (T3.setTop (mkF m 93 #[.val (.long q1), .second, .val (.long q2), .second, .val (.int p3), .val (.long (q1 &&& (9223372036854775807 : Int64))), .second, .val (.long n), .second, .val (.int (p3 &&& (3 : Int32))), .val (.ref b), .val (.int (1 : Int32)), .val (.ref u)] []))
      refine own_pre (fun _ kz_ => XS.aload X3.here hx rfl (hb hby at_93) rfl rfl kz_) ?_
      show OwnGoes p e below _ (T3.setTop (mkF m 95 #[.val (.long q1), .second, .val (.long q2), .second, .val (.int p3), .val (.long (q1 &&& (9223372036854775807 : Int64))), .second, .val (.long n), .second, .val (.int (p3 &&& (3 : Int32))), .val (.ref b), .val (.int (1 : Int32)), .val (.ref u)] [(.ref b)]))
      obtain ⟨cq4, kq4, q4a, q4b, q4c⟩ := isOf hZ rfl f3_2
      obtain ⟨_, _, ⟨T4, L4, k4, n4⟩, -, X4, ⟨Lc4, hQ4, l4, y4, z4⟩, st4⟩ := X3.virtualBack hx (y := (⟨"com/example/hyperloom/hyperloom/search/Budget", "hasTimeLimit", "()Z"⟩ : MethodName)) (z := (⟨"com/example/hyperloom/hyperloom/search/Budget", "hasTimeLimit", "()Z"⟩ : MethodName)) hown (mvT hZ (hw _ (List.mem_of_getElem? (i := 25) rfl))) (mvT hZ (hw _ (List.mem_of_getElem? (i := 26) rfl))) (notFace_of_selects (args := #[]) (mvT hZ (hw _ (List.mem_of_getElem? (i := 28) rfl)))) (mvT hZ (hw _ (List.mem_of_getElem? (i := 28) rfl))) (mvT hZ (hw _ (List.mem_of_getElem? (i := 27) rfl))) (by decide) (backOf (W := 0) (rm5 l Z a0 hw [] b n (1 : Int32) T3.heap n0 Z3 f3_1 (if_neg (fun q => absurd h76 (by rw [q]; decide))).symm) hZ (hw _ (List.mem_of_getElem? (i := 29) rfl)) (hw _ (List.mem_of_getElem? (i := 3) rfl)) (by decide) (by decide)) q4a q4c (g := (mkF m 95 #[.val (.long q1), .second, .val (.long q2), .second, .val (.int p3), .val (.long (q1 &&& (9223372036854775807 : Int64))), .second, .val (.long n), .second, .val (.int (p3 &&& (3 : Int32))), .val (.ref b), .val (.int (1 : Int32)), .val (.ref u)] [(.ref b)])) rfl (by rw [hml]; rfl) (Steps.refl _) (argsL := []) (rest := []) (lenOf (d := "()Z") (ps := []) (r := some .boolean) (by decide +kernel) rfl) rfl (by show 2 * 0 + _ ≤ _; exact Nat.le_of_eq rfl) (hb hby at_95) (fun _ _ => ⟨rfl, rfl, (by decide : 2 + 0 ≤ _), (by decide : 4 + 0 ≤ _)⟩)
      dsimp only [Pt.U, Pt.locs, Pt.cells, Pt.slots] at X4 l4 y4 z4 st4 hQ4
      subst l4 y4 z4
      obtain ⟨rfl, N4q, e4⟩ := hQ4
      have N4 := Fr.app N3 N4q
      refine own_tr st4 ?_
      show OwnGoes p e below _ (T4.setTop (mkF m 98 #[.val (.long q1), .second, .val (.long q2), .second, .val (.int p3), .val (.long (q1 &&& (9223372036854775807 : Int64))), .second, .val (.long n), .second, .val (.int (p3 &&& (3 : Int32))), .val (.ref b), .val (.int (1 : Int32)), .val (.ref u)] [(.int (1 : Int32))]))
      refine own_pre (fun _ kz_ => XS.iload X4.here hx rfl (hb hby at_98) rfl kz_) ?_
      show OwnGoes p e below _ (T4.setTop (mkF m 100 #[.val (.long q1), .second, .val (.long q2), .second, .val (.int p3), .val (.long (q1 &&& (9223372036854775807 : Int64))), .second, .val (.long n), .second, .val (.int (p3 &&& (3 : Int32))), .val (.ref b), .val (.int (1 : Int32)), .val (.ref u)] [(.int (1 : Int32)), (.int (1 : Int32))]))
      refine own_pre (fun _ kz_ => XS.icmpNo X4.here hx rfl (hb hby at_100) rfl (teq (by decide : (1 : Int32) = (1 : Int32))).2 kz_) ?_
      show OwnGoes p e below _ (T4.setTop (mkF m 103 #[.val (.long q1), .second, .val (.long q2), .second, .val (.int p3), .val (.long (q1 &&& (9223372036854775807 : Int64))), .second, .val (.long n), .second, .val (.int (p3 &&& (3 : Int32))), .val (.ref b), .val (.int (1 : Int32)), .val (.ref u)] []))
      refine own_pre (fun _ kz_ => XS.aload X4.here hx rfl (hb hby at_103) rfl rfl kz_) ?_
      show OwnGoes p e below _ (T4.setTop (mkF m 105 #[.val (.long q1), .second, .val (.long q2), .second, .val (.int p3), .val (.long (q1 &&& (9223372036854775807 : Int64))), .second, .val (.long n), .second, .val (.int (p3 &&& (3 : Int32))), .val (.ref b), .val (.int (1 : Int32)), .val (.ref u)] [(.ref u)]))
      obtain ⟨cq5, kq5, q5a, q5b, q5c⟩ := isOf hZ e4 E3q
      obtain ⟨_, _, ⟨T5, L5, k5, n5⟩, -, X5, ⟨Lc5, hQ5, l5, y5, z5⟩, st5⟩ := X4.virtualBack hx (y := (⟨"com/example/hyperloom/hyperloom/search/Budget", "hasTimeLimit", "()Z"⟩ : MethodName)) (z := (⟨"com/example/hyperloom/hyperloom/search/Budget", "hasTimeLimit", "()Z"⟩ : MethodName)) hown (mvT hZ (hw _ (List.mem_of_getElem? (i := 25) rfl))) (mvT hZ (hw _ (List.mem_of_getElem? (i := 26) rfl))) (notFace_of_selects (args := #[]) (mvT hZ (hw _ (List.mem_of_getElem? (i := 28) rfl)))) (mvT hZ (hw _ (List.mem_of_getElem? (i := 28) rfl))) (mvT hZ (hw _ (List.mem_of_getElem? (i := 27) rfl))) (by decide) (backOf (W := 0) (rm5 l Z a0 hw [] u (9223372036854775807 : Int64) (0 : Int32) T3.heap n0 Z3 F3q (if_pos rfl).symm) hZ (hw _ (List.mem_of_getElem? (i := 29) rfl)) (hw _ (List.mem_of_getElem? (i := 3) rfl)) (by decide) (by decide)) q5a q5c (g := (mkF m 105 #[.val (.long q1), .second, .val (.long q2), .second, .val (.int p3), .val (.long (q1 &&& (9223372036854775807 : Int64))), .second, .val (.long n), .second, .val (.int (p3 &&& (3 : Int32))), .val (.ref b), .val (.int (1 : Int32)), .val (.ref u)] [(.ref u)])) rfl (by rw [hml]; rfl) (Steps.refl _) (argsL := []) (rest := []) (lenOf (d := "()Z") (ps := []) (r := some .boolean) (by decide +kernel) rfl) rfl (by show 2 * 0 + _ ≤ _; exact Nat.le_of_eq rfl) (hb hby at_105) (fun _ _ => ⟨rfl, e4, (by decide : 2 + 0 ≤ _), (by decide : 4 + 0 ≤ _)⟩)
      dsimp only [Pt.U, Pt.locs, Pt.cells, Pt.slots] at X5 l5 y5 z5 st5 hQ5
      subst l5 y5 z5
      obtain ⟨rfl, N5q, e5⟩ := hQ5
      have N5 := Fr.app N4 N5q
      refine own_tr st5 ?_
      show OwnGoes p e below _ (T5.setTop (mkF m 108 #[.val (.long q1), .second, .val (.long q2), .second, .val (.int p3), .val (.long (q1 &&& (9223372036854775807 : Int64))), .second, .val (.long n), .second, .val (.int (p3 &&& (3 : Int32))), .val (.ref b), .val (.int (1 : Int32)), .val (.ref u)] [(.int (0 : Int32))]))
      refine own_pre (fun _ kz_ => XS.ifNo X5.here hx rfl (hb hby at_108) rfl ((if0 _ _).trans (teq (by decide : (0 : Int32) = (0 : Int32))).2) kz_) ?_
      show OwnGoes p e below _ (T5.setTop (mkF m 111 #[.val (.long q1), .second, .val (.long q2), .second, .val (.int p3), .val (.long (q1 &&& (9223372036854775807 : Int64))), .second, .val (.long n), .second, .val (.int (p3 &&& (3 : Int32))), .val (.ref b), .val (.int (1 : Int32)), .val (.ref u)] []))
      refine own_pre (fun _ kz_ => XS.iconst X5.here hx rfl (hb hby at_111) kz_) ?_
      show OwnGoes p e below _ (T5.setTop (mkF m 112 #[.val (.long q1), .second, .val (.long q2), .second, .val (.int p3), .val (.long (q1 &&& (9223372036854775807 : Int64))), .second, .val (.long n), .second, .val (.int (p3 &&& (3 : Int32))), .val (.ref b), .val (.int (1 : Int32)), .val (.ref u)] [(.int (1 : Int32))]))
      refine own_pre (fun _ kz_ => XS.goto X5.here hx rfl (pc0 := 112) (pc' := 116) rfl (hb hby at_112) (by decide) (by decide) kz_) ?_
      show OwnGoes p e below _ (T5.setTop (mkF m 116 #[.val (.long q1), .second, .val (.long q2), .second, .val (.int p3), .val (.long (q1 &&& (9223372036854775807 : Int64))), .second, .val (.long n), .second, .val (.int (p3 &&& (3 : Int32))), .val (.ref b), .val (.int (1 : Int32)), .val (.ref u)] [(.int (1 : Int32))]))
      exact own_ret X5 hx Bd.returns (rfl) (Or.inl ⟨rfl, by simp, _, rfl⟩) Bd.notSynchronized (hb hby at_116) ⟨rfl, N5⟩ (by decide) (by decide)
    · refine own_pre (fun _ kz_ => XS.ifYes X2.here hx rfl (pc0 := 76) (pc' := 83) rfl (hb hby at_76) rfl ((if0 _ _).trans (flt (fun q => h76 ((lw_lt n (9223372036854775807 : Int64)).mp q))).2.1) (by decide) (by decide) kz_) ?_
      show OwnGoes p e below _ (T2.setTop (mkF m 83 #[.val (.long q1), .second, .val (.long q2), .second, .val (.int p3), .val (.long (q1 &&& (9223372036854775807 : Int64))), .second, .val (.long n), .second, .val (.int (p3 &&& (3 : Int32))), .val (.ref b), .unset, .unset] []))
      refine own_pre (fun _ kz_ => XS.iconst X2.here hx rfl (hb hby at_83) kz_) ?_
      show OwnGoes p e below _ (T2.setTop (mkF m 84 #[.val (.long q1), .second, .val (.long q2), .second, .val (.int p3), .val (.long (q1 &&& (9223372036854775807 : Int64))), .second, .val (.long n), .second, .val (.int (p3 &&& (3 : Int32))), .val (.ref b), .unset, .unset] [(.int (0 : Int32))]))
      refine own_pre (fun _ kz_ => XS.istore X2.here hx rfl (hb hby at_84) rfl (l' := #[.val (.long q1), .second, .val (.long q2), .second, .val (.int p3), .val (.long (q1 &&& (9223372036854775807 : Int64))), .second, .val (.long n), .second, .val (.int (p3 &&& (3 : Int32))), .val (.ref b), .val (.int (0 : Int32)), .unset]) rfl kz_) ?_
      show OwnGoes p e below _ (T2.setTop (mkF m 86 #[.val (.long q1), .second, .val (.long q2), .second, .val (.int p3), .val (.long (q1 &&& (9223372036854775807 : Int64))), .second, .val (.long n), .second, .val (.int (p3 &&& (3 : Int32))), .val (.ref b), .val (.int (0 : Int32)), .unset] []))
      refine own_pre (fun _ kz_ => XS.lload X2.here hx rfl (hb hby at_86) rfl kz_) ?_
      show OwnGoes p e below _ (T2.setTop (mkF m 88 #[.val (.long q1), .second, .val (.long q2), .second, .val (.int p3), .val (.long (q1 &&& (9223372036854775807 : Int64))), .second, .val (.long n), .second, .val (.int (p3 &&& (3 : Int32))), .val (.ref b), .val (.int (0 : Int32)), .unset] [(.long (q1 &&& (9223372036854775807 : Int64)))]))
      obtain ⟨_, _, ⟨T6, L6, k6, n6⟩, -, X6, ⟨Lc6, hQ6, l6, y6, z6⟩, st6⟩ := Jvm.LawKit.callS X2 hx (y := (⟨"com/example/hyperloom/hyperloom/search/Budget", "ofCalls", "(J)Lcom/example/hyperloom/hyperloom/search/Budget;"⟩ : MethodName)) hown (mvT hZ (hw _ (List.mem_of_getElem? (i := 19) rfl))) (mvT hZ (hw _ (List.mem_of_getElem? (i := 20) rfl))) (mvT hZ (hw _ (List.mem_of_getElem? (i := 3) rfl))) (mvT hZ (hw _ (List.mem_of_getElem? (i := 21) rfl))) (by decide) (backOf (W := 0) (rm4 l Z a0 hw [] (q1 &&& (9223372036854775807 : Int64)) T2.heap n0 Z2 (own_nn q1)) hZ (hw _ (List.mem_of_getElem? (i := 21) rfl)) (hw _ (List.mem_of_getElem? (i := 3) rfl)) (by decide) (by decide)) (g := (mkF m 88 #[.val (.long q1), .second, .val (.long q2), .second, .val (.int p3), .val (.long (q1 &&& (9223372036854775807 : Int64))), .second, .val (.long n), .second, .val (.int (p3 &&& (3 : Int32))), .val (.ref b), .val (.int (0 : Int32)), .unset] [(.long (q1 &&& (9223372036854775807 : Int64)))])) rfl (by rw [hml]; rfl) (argsL := [(.long (q1 &&& (9223372036854775807 : Int64)))]) (rest := []) (lenOf (d := "(J)Lcom/example/hyperloom/hyperloom/search/Budget;") (ps := [.long]) (r := some (.object "com/example/hyperloom/hyperloom/search/Budget")) (by decide +kernel) rfl) rfl (by show 2 * 0 + _ ≤ _; exact Nat.le_of_eq rfl) (hb hby at_88) (fun _ _ => ⟨rfl, rfl, (by decide : 1 + 1 ≤ _), (by decide : 2 + 2 ≤ _)⟩)
      dsimp only [Pt.U, Pt.locs, Pt.cells, Pt.slots] at X6 l6 y6 z6 st6 hQ6
      subst l6 y6 z6
      obtain ⟨u, rfl, N6q, K6q, E6q, F6q, -⟩ := hQ6
      have N6 := Fr.app N2 N6q
      refine own_pre st6 ?_
      have f6_2 := E2q.keep K6q
      have f6_1 := F2q.keep K6q (List.not_mem_nil)
      have Z6 := Nat.le_trans Z2 K6q.1
      have KK6 := (KK2).trans K6q (fun x hx => by cases hx)
      show OwnGoes p e below _ (T6.setTop (mkF m 91 #[.val (.long q1), .second, .val (.long q2), .second, .val (.int p3), .val (.long (q1 &&& (9223372036854775807 : Int64))), .second, .val (.long n), .second, .val (.int (p3 &&& (3 : Int32))), .val (.ref b), .val (.int (0 : Int32)), .unset] [(.ref u)]))
      refine own_pre (fun _ kz_ => XS.astore X6.here hx rfl (hb hby at_91) rfl rfl (l' := #[.val (.long q1), .second, .val (.long q2), .second, .val (.int p3), .val (.long (q1 &&& (9223372036854775807 : Int64))), .second, .val (.long n), .second, .val (.int (p3 &&& (3 : Int32))), .val (.ref b), .val (.int (0 : Int32)), .val (.ref u)]) rfl kz_) ?_
      show OwnGoes p e below _ (T6.setTop (mkF m 93 #[.val (.long q1), .second, .val (.long q2), .second, .val (.int p3), .val (.long (q1 &&& (9223372036854775807 : Int64))), .second, .val (.long n), .second, .val (.int (p3 &&& (3 : Int32))), .val (.ref b), .val (.int (0 : Int32)), .val (.ref u)] []))
      refine own_pre (fun _ kz_ => XS.aload X6.here hx rfl (hb hby at_93) rfl rfl kz_) ?_
      show OwnGoes p e below _ (T6.setTop (mkF m 95 #[.val (.long q1), .second, .val (.long q2), .second, .val (.int p3), .val (.long (q1 &&& (9223372036854775807 : Int64))), .second, .val (.long n), .second, .val (.int (p3 &&& (3 : Int32))), .val (.ref b), .val (.int (0 : Int32)), .val (.ref u)] [(.ref b)]))
      obtain ⟨cq7, kq7, q7a, q7b, q7c⟩ := isOf hZ rfl f6_2
      obtain ⟨_, _, ⟨T7, L7, k7, n7⟩, -, X7, ⟨Lc7, hQ7, l7, y7, z7⟩, st7⟩ := X6.virtualBack hx (y := (⟨"com/example/hyperloom/hyperloom/search/Budget", "hasTimeLimit", "()Z"⟩ : MethodName)) (z := (⟨"com/example/hyperloom/hyperloom/search/Budget", "hasTimeLimit", "()Z"⟩ : MethodName)) hown (mvT hZ (hw _ (List.mem_of_getElem? (i := 25) rfl))) (mvT hZ (hw _ (List.mem_of_getElem? (i := 26) rfl))) (notFace_of_selects (args := #[]) (mvT hZ (hw _ (List.mem_of_getElem? (i := 28) rfl)))) (mvT hZ (hw _ (List.mem_of_getElem? (i := 28) rfl))) (mvT hZ (hw _ (List.mem_of_getElem? (i := 27) rfl))) (by decide) (backOf (W := 0) (rm5 l Z a0 hw [] b n (0 : Int32) T6.heap n0 Z6 f6_1 (if_pos (own_max _ h76)).symm) hZ (hw _ (List.mem_of_getElem? (i := 29) rfl)) (hw _ (List.mem_of_getElem? (i := 3) rfl)) (by decide) (by decide)) q7a q7c (g := (mkF m 95 #[.val (.long q1), .second, .val (.long q2), .second, .val (.int p3), .val (.long (q1 &&& (9223372036854775807 : Int64))), .second, .val (.long n), .second, .val (.int (p3 &&& (3 : Int32))), .val (.ref b), .val (.int (0 : Int32)), .val (.ref u)] [(.ref b)])) rfl (by rw [hml]; rfl) (Steps.refl _) (argsL := []) (rest := []) (lenOf (d := "()Z") (ps := []) (r := some .boolean) (by decide +kernel) rfl) rfl (by show 2 * 0 + _ ≤ _; exact Nat.le_of_eq rfl) (hb hby at_95) (fun _ _ => ⟨rfl, rfl, (by decide : 2 + 0 ≤ _), (by decide : 4 + 0 ≤ _)⟩)
      dsimp only [Pt.U, Pt.locs, Pt.cells, Pt.slots] at X7 l7 y7 z7 st7 hQ7
      subst l7 y7 z7
      obtain ⟨rfl, N7q, e7⟩ := hQ7
      have N7 := Fr.app N6 N7q
      refine own_tr st7 ?_
      show OwnGoes p e below _ (T7.setTop (mkF m 98 #[.val (.long q1), .second, .val (.long q2), .second, .val (.int p3), .val (.long (q1 &&& (9223372036854775807 : Int64))), .second, .val (.long n), .second, .val (.int (p3 &&& (3 : Int32))), .val (.ref b), .val (.int (0 : Int32)), .val (.ref u)] [(.int (0 : Int32))]))
      refine own_pre (fun _ kz_ => XS.iload X7.here hx rfl (hb hby at_98) rfl kz_) ?_
      show OwnGoes p e below _ (T7.setTop (mkF m 100 #[.val (.long q1), .second, .val (.long q2), .second, .val (.int p3), .val (.long (q1 &&& (9223372036854775807 : Int64))), .second, .val (.long n), .second, .val (.int (p3 &&& (3 : Int32))), .val (.ref b), .val (.int (0 : Int32)), .val (.ref u)] [(.int (0 : Int32)), (.int (0 : Int32))]))
      refine own_pre (fun _ kz_ => XS.icmpNo X7.here hx rfl (hb hby at_100) rfl (teq (by decide : (0 : Int32) = (0 : Int32))).2 kz_) ?_
      show OwnGoes p e below _ (T7.setTop (mkF m 103 #[.val (.long q1), .second, .val (.long q2), .second, .val (.int p3), .val (.long (q1 &&& (9223372036854775807 : Int64))), .second, .val (.long n), .second, .val (.int (p3 &&& (3 : Int32))), .val (.ref b), .val (.int (0 : Int32)), .val (.ref u)] []))
      refine own_pre (fun _ kz_ => XS.aload X7.here hx rfl (hb hby at_103) rfl rfl kz_) ?_
      show OwnGoes p e below _ (T7.setTop (mkF m 105 #[.val (.long q1), .second, .val (.long q2), .second, .val (.int p3), .val (.long (q1 &&& (9223372036854775807 : Int64))), .second, .val (.long n), .second, .val (.int (p3 &&& (3 : Int32))), .val (.ref b), .val (.int (0 : Int32)), .val (.ref u)] [(.ref u)]))
      obtain ⟨cq8, kq8, q8a, q8b, q8c⟩ := isOf hZ e7 E6q
      obtain ⟨_, _, ⟨T8, L8, k8, n8⟩, -, X8, ⟨Lc8, hQ8, l8, y8, z8⟩, st8⟩ := X7.virtualBack hx (y := (⟨"com/example/hyperloom/hyperloom/search/Budget", "hasTimeLimit", "()Z"⟩ : MethodName)) (z := (⟨"com/example/hyperloom/hyperloom/search/Budget", "hasTimeLimit", "()Z"⟩ : MethodName)) hown (mvT hZ (hw _ (List.mem_of_getElem? (i := 25) rfl))) (mvT hZ (hw _ (List.mem_of_getElem? (i := 26) rfl))) (notFace_of_selects (args := #[]) (mvT hZ (hw _ (List.mem_of_getElem? (i := 28) rfl)))) (mvT hZ (hw _ (List.mem_of_getElem? (i := 28) rfl))) (mvT hZ (hw _ (List.mem_of_getElem? (i := 27) rfl))) (by decide) (backOf (W := 0) (rm5 l Z a0 hw [] u (9223372036854775807 : Int64) (0 : Int32) T6.heap n0 Z6 F6q (if_pos rfl).symm) hZ (hw _ (List.mem_of_getElem? (i := 29) rfl)) (hw _ (List.mem_of_getElem? (i := 3) rfl)) (by decide) (by decide)) q8a q8c (g := (mkF m 105 #[.val (.long q1), .second, .val (.long q2), .second, .val (.int p3), .val (.long (q1 &&& (9223372036854775807 : Int64))), .second, .val (.long n), .second, .val (.int (p3 &&& (3 : Int32))), .val (.ref b), .val (.int (0 : Int32)), .val (.ref u)] [(.ref u)])) rfl (by rw [hml]; rfl) (Steps.refl _) (argsL := []) (rest := []) (lenOf (d := "()Z") (ps := []) (r := some .boolean) (by decide +kernel) rfl) rfl (by show 2 * 0 + _ ≤ _; exact Nat.le_of_eq rfl) (hb hby at_105) (fun _ _ => ⟨rfl, e7, (by decide : 2 + 0 ≤ _), (by decide : 4 + 0 ≤ _)⟩)
      dsimp only [Pt.U, Pt.locs, Pt.cells, Pt.slots] at X8 l8 y8 z8 st8 hQ8
      subst l8 y8 z8
      obtain ⟨rfl, N8q, e8⟩ := hQ8
      have N8 := Fr.app N7 N8q
      refine own_tr st8 ?_
      show OwnGoes p e below _ (T8.setTop (mkF m 108 #[.val (.long q1), .second, .val (.long q2), .second, .val (.int p3), .val (.long (q1 &&& (9223372036854775807 : Int64))), .second, .val (.long n), .second, .val (.int (p3 &&& (3 : Int32))), .val (.ref b), .val (.int (0 : Int32)), .val (.ref u)] [(.int (0 : Int32))]))
      refine own_pre (fun _ kz_ => XS.ifNo X8.here hx rfl (hb hby at_108) rfl ((if0 _ _).trans (teq (by decide : (0 : Int32) = (0 : Int32))).2) kz_) ?_
      show OwnGoes p e below _ (T8.setTop (mkF m 111 #[.val (.long q1), .second, .val (.long q2), .second, .val (.int p3), .val (.long (q1 &&& (9223372036854775807 : Int64))), .second, .val (.long n), .second, .val (.int (p3 &&& (3 : Int32))), .val (.ref b), .val (.int (0 : Int32)), .val (.ref u)] []))
      refine own_pre (fun _ kz_ => XS.iconst X8.here hx rfl (hb hby at_111) kz_) ?_
      show OwnGoes p e below _ (T8.setTop (mkF m 112 #[.val (.long q1), .second, .val (.long q2), .second, .val (.int p3), .val (.long (q1 &&& (9223372036854775807 : Int64))), .second, .val (.long n), .second, .val (.int (p3 &&& (3 : Int32))), .val (.ref b), .val (.int (0 : Int32)), .val (.ref u)] [(.int (1 : Int32))]))
      refine own_pre (fun _ kz_ => XS.goto X8.here hx rfl (pc0 := 112) (pc' := 116) rfl (hb hby at_112) (by decide) (by decide) kz_) ?_
      show OwnGoes p e below _ (T8.setTop (mkF m 116 #[.val (.long q1), .second, .val (.long q2), .second, .val (.int p3), .val (.long (q1 &&& (9223372036854775807 : Int64))), .second, .val (.long n), .second, .val (.int (p3 &&& (3 : Int32))), .val (.ref b), .val (.int (0 : Int32)), .val (.ref u)] [(.int (1 : Int32))]))
      exact own_ret X8 hx Bd.returns (rfl) (Or.inl ⟨rfl, by simp, _, rfl⟩) Bd.notSynchronized (hb hby at_116) ⟨rfl, N8⟩ (by decide) (by decide)
  show OwnGoes p e below _ (s₁.setTop (mkF m 0 #[.val (.long q1), .second, .val (.long q2), .second, .val (.int p3), .unset, .unset, .unset, .unset, .unset, .unset, .unset, .unset] []))
  refine own_pre (fun _ kz_ => XS.lloadN X0.here hx rfl (hb hby at_0) rfl kz_) ?_
  show OwnGoes p e below _ (s₁.setTop (mkF m 1 #[.val (.long q1), .second, .val (.long q2), .second, .val (.int p3), .unset, .unset, .unset, .unset, .unset, .unset, .unset, .unset] [(.long q1)]))
  refine own_pre (fun _ kz_ => X0.ldc2Long hx hown (mvT hZ (hw _ (List.mem_of_getElem? (i := 0) rfl))) (g := (mkF m 1 #[.val (.long q1), .second, .val (.long q2), .second, .val (.int p3), .unset, .unset, .unset, .unset, .unset, .unset, .unset, .unset] [(.long q1)])) rfl (hb hby at_1) _ kz_) ?_
  show OwnGoes p e below _ (s₁.setTop (mkF m 4 #[.val (.long q1), .second, .val (.long q2), .second, .val (.int p3), .unset, .unset, .unset, .unset, .unset, .unset, .unset, .unset] [(.long (9223372036854775807 : Int64)), (.long q1)]))
  refine own_pre (fun _ kz_ => XS.land X0.here hx rfl (hb hby at_4) rfl kz_) ?_
  show OwnGoes p e below _ (s₁.setTop (mkF m 5 #[.val (.long q1), .second, .val (.long q2), .second, .val (.int p3), .unset, .unset, .unset, .unset, .unset, .unset, .unset, .unset] [(.long (q1 &&& (9223372036854775807 : Int64)))]))
  refine own_pre (fun _ kz_ => XS.lstore X0.here hx rfl (hb hby at_5) rfl (l' := #[.val (.long q1), .second, .val (.long q2), .second, .val (.int p3), .val (.long (q1 &&& (9223372036854775807 : Int64))), .second, .unset, .unset, .unset, .unset, .unset, .unset]) rfl kz_) ?_
  show OwnGoes p e below _ (s₁.setTop (mkF m 7 #[.val (.long q1), .second, .val (.long q2), .second, .val (.int p3), .val (.long (q1 &&& (9223372036854775807 : Int64))), .second, .unset, .unset, .unset, .unset, .unset, .unset] []))
  refine own_pre (fun _ kz_ => XS.lloadN X0.here hx rfl (hb hby at_7) rfl kz_) ?_
  show OwnGoes p e below _ (s₁.setTop (mkF m 8 #[.val (.long q1), .second, .val (.long q2), .second, .val (.int p3), .val (.long (q1 &&& (9223372036854775807 : Int64))), .second, .unset, .unset, .unset, .unset, .unset, .unset] [(.long q2)]))
  refine own_pre (fun _ kz_ => X0.ldc2Long hx hown (mvT hZ (hw _ (List.mem_of_getElem? (i := 0) rfl))) (g := (mkF m 8 #[.val (.long q1), .second, .val (.long q2), .second, .val (.int p3), .val (.long (q1 &&& (9223372036854775807 : Int64))), .second, .unset, .unset, .unset, .unset, .unset, .unset] [(.long q2)])) rfl (hb hby at_8) _ kz_) ?_
  show OwnGoes p e below _ (s₁.setTop (mkF m 11 #[.val (.long q1), .second, .val (.long q2), .second, .val (.int p3), .val (.long (q1 &&& (9223372036854775807 : Int64))), .second, .unset, .unset, .unset, .unset, .unset, .unset] [(.long (9223372036854775807 : Int64)), (.long q2)]))
  refine own_pre (fun _ kz_ => XS.land X0.here hx rfl (hb hby at_11) rfl kz_) ?_
  show OwnGoes p e below _ (s₁.setTop (mkF m 12 #[.val (.long q1), .second, .val (.long q2), .second, .val (.int p3), .val (.long (q1 &&& (9223372036854775807 : Int64))), .second, .unset, .unset, .unset, .unset, .unset, .unset] [(.long (q2 &&& (9223372036854775807 : Int64)))]))
  refine own_pre (fun _ kz_ => XS.lstore X0.here hx rfl (hb hby at_12) rfl (l' := #[.val (.long q1), .second, .val (.long q2), .second, .val (.int p3), .val (.long (q1 &&& (9223372036854775807 : Int64))), .second, .val (.long (q2 &&& (9223372036854775807 : Int64))), .second, .unset, .unset, .unset, .unset]) rfl kz_) ?_
  show OwnGoes p e below _ (s₁.setTop (mkF m 14 #[.val (.long q1), .second, .val (.long q2), .second, .val (.int p3), .val (.long (q1 &&& (9223372036854775807 : Int64))), .second, .val (.long (q2 &&& (9223372036854775807 : Int64))), .second, .unset, .unset, .unset, .unset] []))
  refine own_pre (fun _ kz_ => XS.iload X0.here hx rfl (hb hby at_14) rfl kz_) ?_
  show OwnGoes p e below _ (s₁.setTop (mkF m 16 #[.val (.long q1), .second, .val (.long q2), .second, .val (.int p3), .val (.long (q1 &&& (9223372036854775807 : Int64))), .second, .val (.long (q2 &&& (9223372036854775807 : Int64))), .second, .unset, .unset, .unset, .unset] [(.int p3)]))
  refine own_pre (fun _ kz_ => XS.iconst X0.here hx rfl (hb hby at_16) kz_) ?_
  show OwnGoes p e below _ (s₁.setTop (mkF m 17 #[.val (.long q1), .second, .val (.long q2), .second, .val (.int p3), .val (.long (q1 &&& (9223372036854775807 : Int64))), .second, .val (.long (q2 &&& (9223372036854775807 : Int64))), .second, .unset, .unset, .unset, .unset] [(.int (3 : Int32)), (.int p3)]))
  refine own_pre (fun _ kz_ => XS.iand X0.here hx rfl (hb hby at_17) rfl kz_) ?_
  show OwnGoes p e below _ (s₁.setTop (mkF m 18 #[.val (.long q1), .second, .val (.long q2), .second, .val (.int p3), .val (.long (q1 &&& (9223372036854775807 : Int64))), .second, .val (.long (q2 &&& (9223372036854775807 : Int64))), .second, .unset, .unset, .unset, .unset] [(.int (p3 &&& (3 : Int32)))]))
  refine own_pre (fun _ kz_ => XS.istore X0.here hx rfl (hb hby at_18) rfl (l' := #[.val (.long q1), .second, .val (.long q2), .second, .val (.int p3), .val (.long (q1 &&& (9223372036854775807 : Int64))), .second, .val (.long (q2 &&& (9223372036854775807 : Int64))), .second, .val (.int (p3 &&& (3 : Int32))), .unset, .unset, .unset]) rfl kz_) ?_
  show OwnGoes p e below _ (s₁.setTop (mkF m 20 #[.val (.long q1), .second, .val (.long q2), .second, .val (.int p3), .val (.long (q1 &&& (9223372036854775807 : Int64))), .second, .val (.long (q2 &&& (9223372036854775807 : Int64))), .second, .val (.int (p3 &&& (3 : Int32))), .unset, .unset, .unset] []))
  refine own_pre (fun _ kz_ => XS.iload X0.here hx rfl (hb hby at_20) rfl kz_) ?_
  show OwnGoes p e below _ (s₁.setTop (mkF m 22 #[.val (.long q1), .second, .val (.long q2), .second, .val (.int p3), .val (.long (q1 &&& (9223372036854775807 : Int64))), .second, .val (.long (q2 &&& (9223372036854775807 : Int64))), .second, .val (.int (p3 &&& (3 : Int32))), .unset, .unset, .unset] [(.int (p3 &&& (3 : Int32)))]))
  refine own_pre (fun _ kz_ => XS.iconst X0.here hx rfl (hb hby at_22) kz_) ?_
  show OwnGoes p e below _ (s₁.setTop (mkF m 23 #[.val (.long q1), .second, .val (.long q2), .second, .val (.int p3), .val (.long (q1 &&& (9223372036854775807 : Int64))), .second, .val (.long (q2 &&& (9223372036854775807 : Int64))), .second, .val (.int (p3 &&& (3 : Int32))), .unset, .unset, .unset] [(.int (1 : Int32)), (.int (p3 &&& (3 : Int32)))]))
  by_cases h23 : (p3 &&& (3 : Int32)) = (1 : Int32)
  · refine own_pre (fun _ kz_ => XS.icmpNo X0.here hx rfl (hb hby at_23) rfl (teq h23).2 kz_) ?_
    show OwnGoes p e below _ (s₁.setTop (mkF m 26 #[.val (.long q1), .second, .val (.long q2), .second, .val (.int p3), .val (.long (q1 &&& (9223372036854775807 : Int64))), .second, .val (.long (q2 &&& (9223372036854775807 : Int64))), .second, .val (.int (p3 &&& (3 : Int32))), .unset, .unset, .unset] []))
    refine own_pre (fun _ kz_ => X0.ldc2Long hx hown (mvT hZ (hw _ (List.mem_of_getElem? (i := 0) rfl))) (g := (mkF m 26 #[.val (.long q1), .second, .val (.long q2), .second, .val (.int p3), .val (.long (q1 &&& (9223372036854775807 : Int64))), .second, .val (.long (q2 &&& (9223372036854775807 : Int64))), .second, .val (.int (p3 &&& (3 : Int32))), .unset, .unset, .unset] [])) rfl (hb hby at_26) _ kz_) ?_
    show OwnGoes p e below _ (s₁.setTop (mkF m 29 #[.val (.long q1), .second, .val (.long q2), .second, .val (.int p3), .val (.long (q1 &&& (9223372036854775807 : Int64))), .second, .val (.long (q2 &&& (9223372036854775807 : Int64))), .second, .val (.int (p3 &&& (3 : Int32))), .unset, .unset, .unset] [(.long (9223372036854775807 : Int64))]))
    refine own_pre (fun _ kz_ => XS.lstore X0.here hx rfl (hb hby at_29) rfl (l' := #[.val (.long q1), .second, .val (.long q2), .second, .val (.int p3), .val (.long (q1 &&& (9223372036854775807 : Int64))), .second, .val (.long (9223372036854775807 : Int64)), .second, .val (.int (p3 &&& (3 : Int32))), .unset, .unset, .unset]) rfl kz_) ?_
    show OwnGoes p e below _ (s₁.setTop (mkF m 31 #[.val (.long q1), .second, .val (.long q2), .second, .val (.int p3), .val (.long (q1 &&& (9223372036854775807 : Int64))), .second, .val (.long (9223372036854775807 : Int64)), .second, .val (.int (p3 &&& (3 : Int32))), .unset, .unset, .unset] []))
    refine own_pre (fun _ kz_ => XS.goto X0.here hx rfl (pc0 := 31) (pc' := 57) rfl (hb hby at_31) (by decide) (by decide) kz_) ?_
    show OwnGoes p e below _ (s₁.setTop (mkF m 57 #[.val (.long q1), .second, .val (.long q2), .second, .val (.int p3), .val (.long (q1 &&& (9223372036854775807 : Int64))), .second, .val (.long (9223372036854775807 : Int64)), .second, .val (.int (p3 &&& (3 : Int32))), .unset, .unset, .unset] []))
    exact J57 _ (by decide)
  · refine own_pre (fun _ kz_ => XS.icmpYes X0.here hx rfl (pc0 := 23) (pc' := 34) rfl (hb hby at_23) rfl (feq h23).2 (by decide) (by decide) kz_) ?_
    show OwnGoes p e below _ (s₁.setTop (mkF m 34 #[.val (.long q1), .second, .val (.long q2), .second, .val (.int p3), .val (.long (q1 &&& (9223372036854775807 : Int64))), .second, .val (.long (q2 &&& (9223372036854775807 : Int64))), .second, .val (.int (p3 &&& (3 : Int32))), .unset, .unset, .unset] []))
    refine own_pre (fun _ kz_ => XS.iload X0.here hx rfl (hb hby at_34) rfl kz_) ?_
    show OwnGoes p e below _ (s₁.setTop (mkF m 36 #[.val (.long q1), .second, .val (.long q2), .second, .val (.int p3), .val (.long (q1 &&& (9223372036854775807 : Int64))), .second, .val (.long (q2 &&& (9223372036854775807 : Int64))), .second, .val (.int (p3 &&& (3 : Int32))), .unset, .unset, .unset] [(.int (p3 &&& (3 : Int32)))]))
    refine own_pre (fun _ kz_ => XS.iconst X0.here hx rfl (hb hby at_36) kz_) ?_
    show OwnGoes p e below _ (s₁.setTop (mkF m 37 #[.val (.long q1), .second, .val (.long q2), .second, .val (.int p3), .val (.long (q1 &&& (9223372036854775807 : Int64))), .second, .val (.long (q2 &&& (9223372036854775807 : Int64))), .second, .val (.int (p3 &&& (3 : Int32))), .unset, .unset, .unset] [(.int (2 : Int32)), (.int (p3 &&& (3 : Int32)))]))
    by_cases h37 : (p3 &&& (3 : Int32)) = (2 : Int32)
    · refine own_pre (fun _ kz_ => XS.icmpNo X0.here hx rfl (hb hby at_37) rfl (teq h37).2 kz_) ?_
      show OwnGoes p e below _ (s₁.setTop (mkF m 40 #[.val (.long q1), .second, .val (.long q2), .second, .val (.int p3), .val (.long (q1 &&& (9223372036854775807 : Int64))), .second, .val (.long (q2 &&& (9223372036854775807 : Int64))), .second, .val (.int (p3 &&& (3 : Int32))), .unset, .unset, .unset] []))
      refine own_pre (fun _ kz_ => X0.ldc2Long hx hown (mvT hZ (hw _ (List.mem_of_getElem? (i := 30) rfl))) (g := (mkF m 40 #[.val (.long q1), .second, .val (.long q2), .second, .val (.int p3), .val (.long (q1 &&& (9223372036854775807 : Int64))), .second, .val (.long (q2 &&& (9223372036854775807 : Int64))), .second, .val (.int (p3 &&& (3 : Int32))), .unset, .unset, .unset] [])) rfl (hb hby at_40) _ kz_) ?_
      show OwnGoes p e below _ (s₁.setTop (mkF m 43 #[.val (.long q1), .second, .val (.long q2), .second, .val (.int p3), .val (.long (q1 &&& (9223372036854775807 : Int64))), .second, .val (.long (q2 &&& (9223372036854775807 : Int64))), .second, .val (.int (p3 &&& (3 : Int32))), .unset, .unset, .unset] [(.long (9223372036854775806 : Int64))]))
      refine own_pre (fun _ kz_ => XS.lstore X0.here hx rfl (hb hby at_43) rfl (l' := #[.val (.long q1), .second, .val (.long q2), .second, .val (.int p3), .val (.long (q1 &&& (9223372036854775807 : Int64))), .second, .val (.long (9223372036854775806 : Int64)), .second, .val (.int (p3 &&& (3 : Int32))), .unset, .unset, .unset]) rfl kz_) ?_
      show OwnGoes p e below _ (s₁.setTop (mkF m 45 #[.val (.long q1), .second, .val (.long q2), .second, .val (.int p3), .val (.long (q1 &&& (9223372036854775807 : Int64))), .second, .val (.long (9223372036854775806 : Int64)), .second, .val (.int (p3 &&& (3 : Int32))), .unset, .unset, .unset] []))
      refine own_pre (fun _ kz_ => XS.goto X0.here hx rfl (pc0 := 45) (pc' := 57) rfl (hb hby at_45) (by decide) (by decide) kz_) ?_
      show OwnGoes p e below _ (s₁.setTop (mkF m 57 #[.val (.long q1), .second, .val (.long q2), .second, .val (.int p3), .val (.long (q1 &&& (9223372036854775807 : Int64))), .second, .val (.long (9223372036854775806 : Int64)), .second, .val (.int (p3 &&& (3 : Int32))), .unset, .unset, .unset] []))
      exact J57 _ (by decide)
    · refine own_pre (fun _ kz_ => XS.icmpYes X0.here hx rfl (pc0 := 37) (pc' := 48) rfl (hb hby at_37) rfl (feq h37).2 (by decide) (by decide) kz_) ?_
      show OwnGoes p e below _ (s₁.setTop (mkF m 48 #[.val (.long q1), .second, .val (.long q2), .second, .val (.int p3), .val (.long (q1 &&& (9223372036854775807 : Int64))), .second, .val (.long (q2 &&& (9223372036854775807 : Int64))), .second, .val (.int (p3 &&& (3 : Int32))), .unset, .unset, .unset] []))
      refine own_pre (fun _ kz_ => XS.iload X0.here hx rfl (hb hby at_48) rfl kz_) ?_
      show OwnGoes p e below _ (s₁.setTop (mkF m 50 #[.val (.long q1), .second, .val (.long q2), .second, .val (.int p3), .val (.long (q1 &&& (9223372036854775807 : Int64))), .second, .val (.long (q2 &&& (9223372036854775807 : Int64))), .second, .val (.int (p3 &&& (3 : Int32))), .unset, .unset, .unset] [(.int (p3 &&& (3 : Int32)))]))
      refine own_pre (fun _ kz_ => XS.iconst X0.here hx rfl (hb hby at_50) kz_) ?_
      show OwnGoes p e below _ (s₁.setTop (mkF m 51 #[.val (.long q1), .second, .val (.long q2), .second, .val (.int p3), .val (.long (q1 &&& (9223372036854775807 : Int64))), .second, .val (.long (q2 &&& (9223372036854775807 : Int64))), .second, .val (.int (p3 &&& (3 : Int32))), .unset, .unset, .unset] [(.int (3 : Int32)), (.int (p3 &&& (3 : Int32)))]))
      by_cases h51 : (p3 &&& (3 : Int32)) = (3 : Int32)
      · refine own_pre (fun _ kz_ => XS.icmpNo X0.here hx rfl (hb hby at_51) rfl (teq h51).2 kz_) ?_
        show OwnGoes p e below _ (s₁.setTop (mkF m 54 #[.val (.long q1), .second, .val (.long q2), .second, .val (.int p3), .val (.long (q1 &&& (9223372036854775807 : Int64))), .second, .val (.long (q2 &&& (9223372036854775807 : Int64))), .second, .val (.int (p3 &&& (3 : Int32))), .unset, .unset, .unset] []))
        refine own_pre (fun _ kz_ => XS.lconst X0.here hx rfl (hb hby at_54) kz_) ?_
        show OwnGoes p e below _ (s₁.setTop (mkF m 55 #[.val (.long q1), .second, .val (.long q2), .second, .val (.int p3), .val (.long (q1 &&& (9223372036854775807 : Int64))), .second, .val (.long (q2 &&& (9223372036854775807 : Int64))), .second, .val (.int (p3 &&& (3 : Int32))), .unset, .unset, .unset] [(.long (0 : Int64))]))
        refine own_pre (fun _ kz_ => XS.lstore X0.here hx rfl (hb hby at_55) rfl (l' := #[.val (.long q1), .second, .val (.long q2), .second, .val (.int p3), .val (.long (q1 &&& (9223372036854775807 : Int64))), .second, .val (.long (0 : Int64)), .second, .val (.int (p3 &&& (3 : Int32))), .unset, .unset, .unset]) rfl kz_) ?_
        show OwnGoes p e below _ (s₁.setTop (mkF m 57 #[.val (.long q1), .second, .val (.long q2), .second, .val (.int p3), .val (.long (q1 &&& (9223372036854775807 : Int64))), .second, .val (.long (0 : Int64)), .second, .val (.int (p3 &&& (3 : Int32))), .unset, .unset, .unset] []))
        exact J57 _ (by decide)
      · refine own_pre (fun _ kz_ => XS.icmpYes X0.here hx rfl (pc0 := 51) (pc' := 57) rfl (hb hby at_51) rfl (feq h51).2 (by decide) (by decide) kz_) ?_
        show OwnGoes p e below _ (s₁.setTop (mkF m 57 #[.val (.long q1), .second, .val (.long q2), .second, .val (.int p3), .val (.long (q1 &&& (9223372036854775807 : Int64))), .second, .val (.long (q2 &&& (9223372036854775807 : Int64))), .second, .val (.int (p3 &&& (3 : Int32))), .unset, .unset, .unset] []))
        exact J57 _ (own_nn q2)
set_option maxRecDepth 65536 in
set_option maxHeartbeats 40000000 in
theorem comes_1 {Post : Tables → Env → Array Value → State → Outcome → State → Prop} (hpost : ∀ tb e args s v u, (limb_1_1.after args s (.returned v) u = true ∧ limb_1_2.after args s (.returned v) u = true ∧ True) → FrameEnd s (.returned v) u (Jvm.fieldLocs frame_1_writes args s ++ Jvm.arrayLocs frame_1_arrays args s ++ Jvm.staticLocs frame_1_statics s) 16 128 → Post tb e args s (.returned v) u) :
    ArmFor flags0 classFile x code maxLocals ret World_1 tables_1 room_1 Calls_1 rest_1 Pre_1 Post := by
  intro l hfl _ _ p e ha hc hk s m args below hf hA hF happ hP
  obtain ⟨hcalls, hrest, hpre⟩ := hP
  obtain ⟨-, -, -, hnamed, -, -, -, hat⟩ := (Spec.applies_iff hf).mp happ
  obtain ⟨hg, hn⟩ := and_e (Cond.before_iff.mp (show (Jvm.Cond.and given_1 narrow_1).before args s = true from hpre))
  obtain ⟨hcount, hgs⟩ := and_e hg
  obtain ⟨ha0, hgs0⟩ := and_e hgs
  obtain ⟨ha1, hgs1⟩ := and_e hgs0
  have ha2 := hgs1
  obtain ⟨w0, w1, w2, rfl⟩ : ∃ w0 w1 w2 : Value, args = #[w0, w1, w2] := by
    have hs : args.size = 3 := by simpa [Cond.value, given_1] using hcount
    obtain ⟨L⟩ := args
    match L, hs with
    | [w0, w1, w2], _ => exact ⟨w0, w1, w2, rfl⟩
  have hw := fun d (hd : d ∈ tables_1) => atoms_spec (ws := Jvm.Cond.code x code maxLocals ret :: tables_1) hat d (List.mem_cons_of_mem _ hd)
  have hfit : Fit s := fun {y c} hc i hi => by
    obtain ⟨ha, rfl⟩ := Array.getElem?_eq_some_iff.mp hc
    have q := List.all_eq_true.mp ((Array.all_eq_true_iff_forall_mem.mp hF) _ (Array.getElem_mem ha)) i (List.mem_range.mpr hi)
    simpa [Array.getElem?_eq_getElem hi] using q
  obtain ⟨i0, ei0⟩ := isL_v ha0
  obtain rfl : w0 = (.long i0) := Option.some.inj ei0
  obtain ⟨i1, ei1⟩ := isL_v ha1
  obtain rfl : w1 = (.long i1) := Option.some.inj ei1
  obtain ⟨i2, ei2⟩ := is_v ha2
  obtain rfl : w2 = (.int i2) := Option.some.inj ei2
  obtain ⟨n, o, h1, h2, h3, _, L, rfl, ⟨rfl, N⟩, hq⟩ := rm0 l s _ hw tables_1 i0 i1 i2 s.heap s.heap.size (Nat.le_refl _) p e ha hc hk s m _ below hf ((Spec.applies_iff_loose hf).mp happ).1 ⟨rfl, State.Warmed39.refl s, rfl⟩ trivial
  refine ⟨n, _, h1, h2, h3, hpost _ _ _ _ _ _ ⟨Cond.after_iff.mpr rfl, Cond.after_iff.mpr (eq_i res_at (Term.int_eval (1)) rfl), trivial⟩ ⟨hq.1, hq.2.1, (hq.2.2.sift fun y hy => Or.inr (N y hy)).mono (by decide) (by decide)⟩⟩
theorem main_1_1 : Claimed_1_1 := comes_1 fun _ _ _ _ _ _ h hF => ⟨h.1, hF⟩
theorem main_1_2 : Claimed_1_2 := comes_1 fun _ _ _ _ _ _ h hF => ⟨h.2.1, hF⟩
end Jvm.Pilot.@@N@@
namespace Jvm.Pilot.@@N@@
open Jvm Jvm.ClassFile Sem Op Lib Jvm.Free Jvm.Stand Jvm.Pilot.@@N@@.Jvm.D
/-! MADE BY PROGRAM (witnessworld.py) out of the Statement's table words and the real class files: 10 classes; the members and pool entries that the words name. The judged class is class 1, her method 1. -/
namespace start1
open Jvm.ClassFile
def u (s : String) : CpInfo := .utf8 (stringToUtf16 s)
/-- a pool by its gaps: so many unusable entries, then the entry; so many at the end -/
def gap : Nat → List CpInfo → List CpInfo
  | 0, r => r
  | n + 1, r => .unusable :: gap n r
def poolList (es : List (Nat × CpInfo)) (last : Nat) : List CpInfo := es.foldr (fun e r => gap e.1 (e.2 :: r)) (gap last [])
def pool (es : List (Nat × CpInfo)) (last : Nat) : Array CpInfo := ⟨poolList es last⟩
def fileOf (pool : Array CpInfo) (this : Nat) (attrs : Array Attribute := #[]) (ms : Array MethodInfo := #[]) (fl : Nat := 33) (sup : Nat := 0) (ifs : Array Nat := #[]) (fds : Array FieldInfo := #[]) : ClassFile where
  minorVersion := 0
  majorVersion := 65
  constantPool := pool
  accessFlags := fl
  thisClass := this
  superClass := sup
  interfaces := ifs
  fields := fds
  methods := ms
  attributes := attrs
def plain (name : String) (sup : Option ClassId) : Class where
  name := name
  kind := .ordinary
  loader := none
  accessFlags := 33
  super := sup
  interfaces := #[]
  cf := none
  fields := #[]
  methods := #[]
  instanceTypes := #[]
  staticTypes := #[]
  resolved := #[]
  callSites := []
  init := .initialized
  statics := none
  mirror := none

def pool0 : Array CpInfo := pool [(5, u "<init>"), (0, u "()V"), (1, .class_ 10), (1, u "java/lang/Object")] 113

def k0c0 : Code := { maxStack := 0, maxLocals := 1, code := object_method_1_code, exceptionTable := #[], attributes := #[] }
def k0m0 : Method := { name := "<init>", desc := "()V", sig := { parameters := [], returnType := none }, accessFlags := 1, code := some k0c0 }
/-- java/lang/Object -/
def k0 : Class := { plain "java/lang/Object" none with
  accessFlags := 33
  interfaces := #[]
  cf := some (fileOf pool0 8 #[] #[{ accessFlags := 1, nameIndex := 5, descriptorIndex := 6, attributes := #[] }] 33 0 #[] #[])
  fields := #[]
  methods := #[k0m0]
  instanceTypes := #[]
  staticTypes := #[]
  resolved := Array.replicate 124 none
  statics := none }

def pool1 : Array CpInfo := pool [(2, .class_ 4), (1, u "java/lang/Object"), (0, u "<init>"), (0, u "()V"), (2, .long 9223372036854775807), (1, .long 9223372036854775806), (1, .class_ 14), (0, u "com/example/hyperloom/hyperloom/search/Budget"), (0, .methodref 13 16), (0, .nameAndType 5 17), (0, u "(JJ)V"), (0, .methodref 13 19), (0, .nameAndType 20 21), (0, u "ofCalls"), (0, u "(J)Lcom/example/hyperloom/hyperloom/search/Budget;"), (0, .methodref 13 23), (0, .nameAndType 24 25), (0, u "hasTimeLimit"), (0, u "()Z"), (0, .class_ 27), (0, u "com/example/hyperloom/hyperloom/search/BudgetHasTimeLimitPinLaw"), (2, u "law"), (0, u "(JJI)Z")] 3

def k1m0 : Method := { name := "<init>", desc := "()V", sig := { parameters := [], returnType := none }, accessFlags := 1, code := none }
def k1c1 : Code := { maxStack := 6, maxLocals := 13, code := code, exceptionTable := #[], attributes := #[] }
def k1m1 : Method := { name := "law", desc := "(JJI)Z", sig := { parameters := [.long, .long, .int], returnType := some .boolean }, accessFlags := 9, code := some k1c1 }
/-- com/example/hyperloom/hyperloom/search/BudgetHasTimeLimitPinLaw -/
def k1 : Class := { plain "com/example/hyperloom/hyperloom/search/BudgetHasTimeLimitPinLaw" (some 0) with
  accessFlags := 49
  interfaces := #[]
  cf := some (fileOf pool1 26 #[] #[{ accessFlags := 1, nameIndex := 5, descriptorIndex := 6, attributes := #[] }, { accessFlags := 9, nameIndex := 30, descriptorIndex := 31, attributes := #[] }] 49 2 #[] #[])
  fields := #[]
  methods := #[k1m0, k1m1]
  instanceTypes := #[]
  staticTypes := #[]
  resolved := Array.replicate 35 none
  statics := none }

def pool2 : Array CpInfo := pool [(1, .methodref 2 3), (0, .class_ 4), (0, .nameAndType 5 6), (0, u "java/lang/Object"), (0, u "<init>"), (0, u "()V"), (0, .class_ 8), (0, u "java/lang/Record")] 13

def k2c0 : Code := { maxStack := 1, maxLocals := 1, code := jdk_30_method_1_code, exceptionTable := #[], attributes := #[] }
def k2m0 : Method := { name := "<init>", desc := "()V", sig := { parameters := [], returnType := none }, accessFlags := 4, code := some k2c0 }
/-- java/lang/Record -/
def k2 : Class := { plain "java/lang/Record" (some 0) with
  accessFlags := 1057
  interfaces := #[]
  cf := some (fileOf pool2 7 #[] #[{ accessFlags := 4, nameIndex := 5, descriptorIndex := 6, attributes := #[] }] 1057 2 #[] #[])
  fields := #[]
  methods := #[k2m0]
  instanceTypes := #[]
  staticTypes := #[]
  resolved := Array.replicate 22 none
  statics := none }

def pool3 : Array CpInfo := pool [(3, .methodref 4 5), (0, .class_ 6), (0, .nameAndType 7 8), (0, u "java/lang/Record"), (0, u "<init>"), (0, u "()V"), (10, .fieldref 20 21), (0, .class_ 22), (0, .nameAndType 23 24), (0, u "com/example/hyperloom/hyperloom/search/Budget"), (0, u "calls"), (0, u "J"), (0, .fieldref 20 26), (0, .nameAndType 27 24), (0, u "nanos"), (0, .long 9223372036854775807), (1, .methodref 20 31), (0, .nameAndType 7 32), (0, u "(JJ)V"), (12, u "UNLIMITED"), (5, u "ofCalls"), (0, u "(J)Lcom/example/hyperloom/hyperloom/search/Budget;"), (0, u "hasTimeLimit"), (0, u "()Z")] 35

def k3c0 : Code := { maxStack := 4, maxLocals := 5, code := prog_67_method_1_code, exceptionTable := #[], attributes := #[] }
def k3m0 : Method := { name := "<init>", desc := "(JJ)V", sig := { parameters := [.long, .long], returnType := none }, accessFlags := 1, code := some k3c0 }
def k3c1 : Code := { maxStack := 6, maxLocals := 2, code := prog_67_method_2_code, exceptionTable := #[], attributes := #[] }
def k3m1 : Method := { name := "ofCalls", desc := "(J)Lcom/example/hyperloom/hyperloom/search/Budget;", sig := { parameters := [.long], returnType := some (.object "com/example/hyperloom/hyperloom/search/Budget") }, accessFlags := 9, code := some k3c1 }
def k3c2 : Code := { maxStack := 4, maxLocals := 1, code := prog_67_method_3_code, exceptionTable := #[], attributes := #[] }
def k3m2 : Method := { name := "hasTimeLimit", desc := "()Z", sig := { parameters := [], returnType := some .boolean }, accessFlags := 1, code := some k3c2 }
/-- com/example/hyperloom/hyperloom/search/Budget -/
def k3 : Class := { plain "com/example/hyperloom/hyperloom/search/Budget" (some 2) with
  accessFlags := 49
  interfaces := #[]
  cf := some (fileOf pool3 20 #[] #[{ accessFlags := 1, nameIndex := 7, descriptorIndex := 32, attributes := #[] }, { accessFlags := 9, nameIndex := 51, descriptorIndex := 52, attributes := #[] }, { accessFlags := 1, nameIndex := 53, descriptorIndex := 54, attributes := #[] }] 49 4 #[] #[{ accessFlags := 18, nameIndex := 23, descriptorIndex := 24, attributes := #[] }, { accessFlags := 18, nameIndex := 27, descriptorIndex := 24, attributes := #[] }, { accessFlags := 25, nameIndex := 45, descriptorIndex := 24, attributes := #[] }])
  fields := #[{ name := "calls", type := .long, accessFlags := 18, slot := 0, constantValue := 0 }, { name := "nanos", type := .long, accessFlags := 18, slot := 1, constantValue := 0 }, { name := "UNLIMITED", type := .long, accessFlags := 25, slot := 0, constantValue := 0 }]
  methods := #[k3m0, k3m1, k3m2]
  instanceTypes := #[.long, .long]
  staticTypes := #[.long]
  resolved := Array.replicate 90 none
  statics := none }

def pool4 : Array CpInfo := pool [(1, u "java/lang/Cloneable"), (0, .class_ 1), (0, u "java/lang/Object"), (0, .class_ 3)] 3

/-- java/lang/Cloneable -/
def k4 : Class := { plain "java/lang/Cloneable" (some 0) with
  accessFlags := 1537
  interfaces := #[]
  cf := some (fileOf pool4 2 #[] #[] 1537 4 #[] #[])
  fields := #[]
  methods := #[]
  instanceTypes := #[]
  staticTypes := #[]
  resolved := Array.replicate 8 none
  statics := none }

def pool5 : Array CpInfo := pool [(1, u "java/io/Serializable"), (0, .class_ 1), (0, u "java/lang/Object"), (0, .class_ 3)] 3

/-- java/io/Serializable -/
def k5 : Class := { plain "java/io/Serializable" (some 0) with
  accessFlags := 1537
  interfaces := #[]
  cf := some (fileOf pool5 2 #[] #[] 1537 4 #[] #[])
  fields := #[]
  methods := #[]
  instanceTypes := #[]
  staticTypes := #[]
  resolved := Array.replicate 8 none
  statics := none }

/-- the primitive byte -/
def k6 : Class := { plain "byte" none with kind := .primitive 'B', accessFlags := 0x411 }
/-- [B -/
def k7 : Class := { plain "[B" (some 0) with kind := .array 6 .byte, interfaces := #[4, 5], accessFlags := 1041 }

/-- the primitive int -/
def k8 : Class := { plain "int" none with kind := .primitive 'I', accessFlags := 0x411 }
/-- [I -/
def k9 : Class := { plain "[I" (some 0) with kind := .array 8 .int, interfaces := #[4, 5], accessFlags := 1041 }

def heap : Heap := #[]
def classes : Array Class := #[k0, k1, k2, k3, k4, k5, k6, k7, k8, k9]
def interned : List (Array UInt16 × Addr) := []
def slotsUsed : Nat := 0
def theMethod : MethodId := ⟨1, 1⟩
def args0 : Array Value := #[.long 5, .long 6, .int 7]
def aboutOver (below : List Frame) : State where
  vm := { classes := classes, interned := interned.toArray }
  heap := heap
  slotsUsed := slotsUsed
  threads := #[{ frames := .invoking theMethod args0 :: below }]
def below0 : List Frame := [.native { method := ⟨0, 0⟩, args := #[] }]
def about1 : State := aboutOver below0
def p0 : Program := .bare "" "" ""
def e0 : Env := launch0.env 0 0 0
theorem w_frames : about1.frames = Frame.invoking theMethod args0 :: below0 := rfl
set_option maxRecDepth 65536 in
theorem w_args : argsFit about1.vm theMethod args0 = true := by decide +kernel
set_option maxRecDepth 65536 in
theorem w_heap : heapFits about1 = true := by decide +kernel
set_option maxRecDepth 65536 in
theorem w_runnable : about1.curStatus? = some .runnable := by decide +kernel
set_option maxRecDepth 65536 in
theorem w_alone : about1.alone = true := by decide +kernel
set_option maxRecDepth 65536 in
theorem w_named : about1.methodNamed? x = some theMethod := by decide +kernel
set_option maxRecDepth 65536 in
theorem w_hears : about1.hears theMethod below0 = true := by decide +kernel
set_option maxRecDepth 65536 in
theorem w_ripe : about1.ripe theMethod args0 below0 = true := by decide +kernel
theorem w_running : about1.status = .running := rfl
set_option maxRecDepth 65536 in
theorem w_room : about1.hasRoom e0.platform room_1 = true :=
  launch0.hasRoom_least _ room_1 (by decide +kernel) (by decide +kernel) (by decide +kernel) (by decide +kernel) (by decide +kernel) (by decide +kernel)
theorem allAtoms_all (ts : List Jvm.Cond) (a : Array Jvm.Value) (st : Jvm.State) : (allAtoms ts).before a st = ts.all (fun c => c.before a st) := by
  induction ts with
  | nil => rfl
  | cons c t ih =>
    show (Jvm.Cond.and c (allAtoms t)).before a st = _
    rw [Jvm.Cond.before_and, ih, List.all_cons]
def words1 : List Jvm.Cond := Jvm.Cond.code x code maxLocals ret :: tables_1
/-- a 'code' word, met by the world's own term for the bytes: nothing is compared byte by byte -/
theorem code_word {y : MethodName} {bytes : ByteArray} {mx : Nat} {rt : Option FieldType} {a : Array Value} {s : State} {m : MethodId} {meth : Method} {c : Code} (h1 : s.methodNamed? y = some m) (h2 : s.vm.method? m = some meth) (h3 : meth.code = some c) (h4 : c.code = bytes)
    (h5 : (c.maxLocals == mx && c.exceptionTable.isEmpty && decide (c.maxStack ≤ mostOperands) && decide (meth.sig.returnType = rt) && !meth.locks && decide (parseMethodDescriptor y.desc = some meth.sig)) = true) : (Jvm.Cond.code y bytes mx rt).before a s = true := by
  simp only [Bool.and_eq_true, beq_iff_eq, Bool.not_eq_true', decide_eq_true_eq] at h5
  obtain ⟨⟨⟨⟨⟨g1, g2⟩, g3⟩, g4⟩, g5⟩, g6⟩ := h5
  simp [Cond.before, Cond.holds, Cond.value, h1, h2, h3, h4, g1, g2, g3, g4, g5, g6]
def isCode : Jvm.Cond → Bool
  | .code _ _ _ _ => true
  | _ => false
theorem all_split {L : List Jvm.Cond} {P : Jvm.Cond → Bool} (h1 : L.all (fun c => isCode c || P c) = true) (h2 : ∀ c ∈ L.filter isCode, P c = true) : L.all P = true := by
  refine List.all_eq_true.mpr fun c hc => ?_
  have h := List.all_eq_true.mp h1 c hc
  rcases Bool.eq_false_or_eq_true (isCode c) with hi | hi
  · exact h2 c (List.mem_filter.mpr ⟨hc, hi⟩)
  · simpa [hi] using h
set_option maxRecDepth 65536 in
theorem w_c0 : (Jvm.Cond.code x code maxLocals ret).before args0 about1 = true := code_word (m := ⟨1, 1⟩) (meth := k1m1) (c := k1c1) (by decide +kernel) rfl rfl rfl (by decide +kernel)
set_option maxRecDepth 65536 in
theorem w_c1 : (Jvm.Cond.code ({ cls := "com/example/hyperloom/hyperloom/search/Budget", name := "<init>", desc := "(JJ)V" } : Jvm.MethodName) prog_67_method_1_code (5 : Nat) (Option.none : Option Jvm.ClassFile.FieldType)).before args0 about1 = true := code_word (m := ⟨3, 0⟩) (meth := k3m0) (c := k3c0) (by decide +kernel) rfl rfl rfl (by decide +kernel)
set_option maxRecDepth 65536 in
theorem w_c2 : (Jvm.Cond.code ({ cls := "java/lang/Record", name := "<init>", desc := "()V" } : Jvm.MethodName) jdk_30_method_1_code (1 : Nat) (Option.none : Option Jvm.ClassFile.FieldType)).before args0 about1 = true := code_word (m := ⟨2, 0⟩) (meth := k2m0) (c := k2c0) (by decide +kernel) rfl rfl rfl (by decide +kernel)
set_option maxRecDepth 65536 in
theorem w_c3 : (Jvm.Cond.code ({ cls := "java/lang/Object", name := "<init>", desc := "()V" } : Jvm.MethodName) object_method_1_code (1 : Nat) (Option.none : Option Jvm.ClassFile.FieldType)).before args0 about1 = true := code_word (m := ⟨0, 0⟩) (meth := k0m0) (c := k0c0) (by decide +kernel) rfl rfl rfl (by decide +kernel)
set_option maxRecDepth 65536 in
theorem w_c4 : (Jvm.Cond.code ({ cls := "com/example/hyperloom/hyperloom/search/Budget", name := "ofCalls", desc := "(J)Lcom/example/hyperloom/hyperloom/search/Budget;" } : Jvm.MethodName) prog_67_method_2_code (2 : Nat) (Option.some (Jvm.ClassFile.FieldType.object "com/example/hyperloom/hyperloom/search/Budget"))).before args0 about1 = true := code_word (m := ⟨3, 1⟩) (meth := k3m1) (c := k3c1) (by decide +kernel) rfl rfl rfl (by decide +kernel)
set_option maxRecDepth 65536 in
theorem w_c5 : (Jvm.Cond.code ({ cls := "com/example/hyperloom/hyperloom/search/Budget", name := "hasTimeLimit", desc := "()Z" } : Jvm.MethodName) prog_67_method_3_code (1 : Nat) (Option.some Jvm.ClassFile.FieldType.boolean)).before args0 about1 = true := code_word (m := ⟨3, 2⟩) (meth := k3m2) (c := k3c2) (by decide +kernel) rfl rfl rfl (by decide +kernel)
def codes1 : List Jvm.Cond := [Jvm.Cond.code x code maxLocals ret, Jvm.Cond.code ({ cls := "com/example/hyperloom/hyperloom/search/Budget", name := "<init>", desc := "(JJ)V" } : Jvm.MethodName) prog_67_method_1_code (5 : Nat) (Option.none : Option Jvm.ClassFile.FieldType), Jvm.Cond.code ({ cls := "java/lang/Record", name := "<init>", desc := "()V" } : Jvm.MethodName) jdk_30_method_1_code (1 : Nat) (Option.none : Option Jvm.ClassFile.FieldType), Jvm.Cond.code ({ cls := "java/lang/Object", name := "<init>", desc := "()V" } : Jvm.MethodName) object_method_1_code (1 : Nat) (Option.none : Option Jvm.ClassFile.FieldType), Jvm.Cond.code ({ cls := "com/example/hyperloom/hyperloom/search/Budget", name := "ofCalls", desc := "(J)Lcom/example/hyperloom/hyperloom/search/Budget;" } : Jvm.MethodName) prog_67_method_2_code (2 : Nat) (Option.some (Jvm.ClassFile.FieldType.object "com/example/hyperloom/hyperloom/search/Budget")), Jvm.Cond.code ({ cls := "com/example/hyperloom/hyperloom/search/Budget", name := "hasTimeLimit", desc := "()Z" } : Jvm.MethodName) prog_67_method_3_code (1 : Nat) (Option.some Jvm.ClassFile.FieldType.boolean)]
set_option maxRecDepth 65536 in
theorem codes_eq : words1.filter isCode = codes1 := rfl
theorem w_codes : ∀ c ∈ words1.filter isCode, c.before args0 about1 = true := by
  rw [codes_eq]
  intro c hc
  simp only [codes1, List.mem_cons, List.not_mem_nil, or_false] at hc
  rcases hc with rfl | rfl | rfl | rfl | rfl | rfl
  · exact w_c0
  · exact w_c1
  · exact w_c2
  · exact w_c3
  · exact w_c4
  · exact w_c5
set_option maxRecDepth 65536 in
theorem w_t1 : (words1.take 24).all (fun c => isCode c || c.before args0 about1) = true := by decide +kernel
set_option maxRecDepth 65536 in
theorem w_t2 : (words1.drop 24).all (fun c => isCode c || c.before args0 about1) = true := by decide +kernel
theorem w_tables : (allAtoms (Jvm.Cond.code x code maxLocals ret :: tables_1)).before args0 about1 = true := by
  rw [allAtoms_all]
  show words1.all (fun c => c.before args0 about1) = true
  refine all_split ?_ w_codes
  rw [← List.take_append_drop 24 words1, List.all_append, w_t1, w_t2]
  rfl
set_option maxRecDepth 65536 in
theorem w_case : (Jvm.Cond.and given_1 narrow_1).before args0 about1 = true := by decide +kernel
theorem w_applies : (headSpec (Jvm.Cond.code x code maxLocals ret :: tables_1) room_1).applies x e0.platform about1 = true :=
  (Spec.applies_iff w_frames).mpr ⟨w_running, w_runnable, w_alone, w_named, w_hears, w_ripe, w_room, w_tables⟩
theorem atStart : AtStart classFile x code maxLocals ret World_1 tables_1 room_1 Calls_1 rest_1 Pre_1 launch0 p0 e0 about1 theMethod args0 below0 :=
  ⟨lists_1, trivial, launch0.admits_env _ _ _, launch0.least_env, fairChoices_fair.cas, fairChoices_fair.clock, w_frames, w_args, w_heap, w_applies, trivial, trivial, w_case⟩
end start1
theorem witness_1 : WitnessClaimed_1 := ⟨start1.p0, start1.e0, start1.about1, start1.theMethod, start1.args0, start1.below0, start1.atStart⟩
end Jvm.Pilot.@@N@@
